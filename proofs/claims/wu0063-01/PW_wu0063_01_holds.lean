import PyProof.Rows.All
import Wide.All
import OpenK.AllK
import Wide.FinOn
import Lean
import PySem.Challenge.RW_wu0063_01
set_option Elab.async false
set_option linter.unusedVariables false
set_option linter.unusedSimpArgs false
namespace Mine
section
open PySem PySem.W PyProof.Rows
set_option maxRecDepth 100000 in
set_option maxHeartbeats 8000000 in
open_top hd for PySem.Challenge.rw_wu0063_01
end
section
open PySem PySem.W PyProof.Rows
open PySem.Calls
abbrev Led := List (Addr × Obj)
abbrev PP := PySem.Challenge.rw_wu0063_01.row.prog
/-- a def's contract: called with these values over any ledger, it comes back with R -/
def Spec (w : World) (pre : Heap → Prop) (news : Led) (f : Addr) (args : List Value) (dd uu : Nat) (R : Value → Led → Prop) : Prop :=
  ∀ (p : Program) (loose : List Str) (mean : ExcName → Option Value) (mg mb : Str → Option Value) (dp un : Nat) (gd : Option (List Code)) (cn : Str) (cs : Scope) (a : Addr) (ccd : Value) (cl : List (Str × Addr)) (outer : List Env) (A₀ : Around) (base h₀ : Heap) (L : Addr) (m : Str → Option Value) (s : Shared) (Q E : Value → Shared → Prop),
    Below A₀ base outer h₀ → Fr h₀ L s.heap m → (hd.heap_39 w.params).In h₀ → News h₀ L s.heap news → Top p loose mean mg mb h₀ → cs.kind = .function →
    dp + dd < recursionLimit → un + uu < cLine → pre h₀ →
    (∀ (v : Value) (news' : Led) (h' : Heap) (tk' : Nat), R v news' → Fr h₀ L h' m → News h₀ L h' news' → Q v { s with heap := h', toks := tk' }) →
    wpAny (model PP w) (ktrTop dp un gd cn cs L a ccd cl outer) (call (.ref f) args) Q E s
theorem Spec.use {w : World} {pre : Heap → Prop} {news newsX : Led} {f : Addr} {args : List Value} {dd uu : Nat} {R : Value → Led → Prop} (S : Spec w pre news f args dd uu R)
    {p : Program} {loose : List Str} {mean : ExcName → Option Value} {mg mb : Str → Option Value} {dp un : Nat} {gd : Option (List Code)} {cn : Str} {cs : Scope} {a : Addr} {ccd : Value} {cl : List (Str × Addr)} {outer : List Env} {A₀ : Around} {base h₀ : Heap} {L : Addr} {m : Str → Option Value} {s : Shared} {Q E : Value → Shared → Prop}
    (B : Below A₀ base outer h₀) (F : Fr h₀ L s.heap m) (X : (hd.heap_39 w.params).In h₀) (N : News h₀ L s.heap newsX) (T : Top p loose mean mg mb h₀) (hk : cs.kind = .function)
    (hd : dp + dd < recursionLimit) (hu : un + uu < cLine) (hp : pre h₀) (sub : ∀ q ∈ news, q ∈ newsX)
    (ret : ∀ (v : Value) (news' : Led) (h' : Heap) (tk' : Nat), R v news' → Fr h₀ L h' m → News h₀ L h' news' → Q v { s with heap := h', toks := tk' }) :
    wpAny (model PP w) (ktrTop dp un gd cn cs L a ccd cl outer) (call (.ref f) args) Q E s :=
  S _ _ _ _ _ _ _ _ _ _ _ _ _ _ _ _ _ _ _ _ _ _ B F X (fun q hq => N q (sub q hq)) T hk hd hu hp ret
abbrev tupOf (vs : List Value) : Obj := { cls := .type "tuple", data := .seq vs.toArray }
def pinM : List (Str × Value) → (Str → Option Value) → Str → Option Value
  | [], m => m
  | (x, v) :: r, m => fun z => if z = x then some v else pinM r m z
theorem pinM_eq {m : Str → Option Value} : ∀ {ps : List (Str × Value)}, (∀ p ∈ ps, m p.1 = some p.2) → pinM ps m = m
  | [], _ => rfl
  | (x, v) :: r, h => by
    have ih := pinM_eq (ps := r) fun p hp => h p (List.mem_cons_of_mem _ hp)
    funext z
    show (if z = x then some v else pinM r m z) = m z
    rw [ih]
    by_cases h1 : z = x
    · rw [if_pos h1, h1]; exact (h (x, v) List.mem_cons_self).symm
    · rw [if_neg h1]
theorem fr_pins {h₀ h : Heap} {L : Addr} {m : Str → Option Value} (ps : List (Str × Value)) (F : Fr h₀ L h m) (e : ∀ p ∈ ps, m p.1 = some p.2) : Fr h₀ L h (pinM ps m) := by rw [pinM_eq e]; exact F
theorem pinsOk_nil {m : Str → Option Value} : ∀ p ∈ ([] : List (Str × Value)), m p.1 = some p.2 := fun _ h => nomatch h
theorem pinsOk_cons {m : Str → Option Value} {x : Str} {v : Value} {r : List (Str × Value)} (h : m x = some v) (hr : ∀ p ∈ r, m p.1 = some p.2) : ∀ p ∈ (x, v) :: r, m p.1 = some p.2 := fun p hp => by
  rcases List.mem_cons.mp hp with rfl | hp
  · exact h
  · exact hr p hp
end
section
open PySem PySem.W PyProof.Rows
open Builtin Builtin.Str StrLaws

/-- put the text z in the place of each sign c -/
def sub1 (c : Nat) (z : List Nat) (l : List Nat) : List Nat := l.flatMap fun k => if k = c then z else [k]
theorem sub1_append (c : Nat) (z a b : List Nat) : sub1 c z (a ++ b) = sub1 c z a ++ sub1 c z b := by simp [sub1]
theorem sub1_free {c : Nat} {z : List Nat} : ∀ {l : List Nat}, c ∉ l → sub1 c z l = l
  | [], _ => rfl
  | k :: r, h => by
    have h1 : k ≠ c := fun e => h (e ▸ List.mem_cons_self)
    have h2 := sub1_free (c := c) (z := z) (l := r) fun e => h (List.mem_cons_of_mem _ e)
    show (if k = c then z else [k]) ++ sub1 c z r = k :: r
    rw [if_neg h1, h2]; rfl
theorem sub1_join (c : Nat) (z : Str) : ∀ parts : List Str, (∀ p ∈ parts, c ∉ p.cps.toList) → sub1 c z.cps.toList (Str.join ⟨#[c]⟩ parts).cps.toList = (Str.join z parts).cps.toList
  | [], _ => rfl
  | [p], h => by
    show sub1 c z.cps.toList p.cps.toList = p.cps.toList
    exact sub1_free (h p List.mem_cons_self)
  | p :: q :: r, h => by
    have ih := sub1_join c z (q :: r) fun x hx => h x (List.mem_cons_of_mem _ hx)
    show sub1 c z.cps.toList (p ++ (⟨#[c]⟩ : Str) ++ Str.join ⟨#[c]⟩ (q :: r)).cps.toList = (p ++ z ++ Str.join z (q :: r)).cps.toList
    simp only [Str.cps_append, Array.toList_append, sub1_append, ih, sub1_free (h p List.mem_cons_self)]
    simp [sub1]
theorem replace_sub1 (x z : Str) (c : Nat) : (Txt.replace x ⟨#[c]⟩ z).cps.toList = sub1 c z.cps.toList x.cps.toList := by
  rw [replace_one, ← sub1_join c z _ (split_free x c), join_split]
theorem replace_none {x : Str} (z : Str) {c : Nat} (h : (occurrences x ⟨#[c]⟩ 0 x.length 1).isEmpty = true) : Txt.replace x ⟨#[c]⟩ z = x := by
  have hc : c ∉ x.cps.toList := by
    have := found_one x c
    rw [h] at this
    simpa using this.symm
  have h2 := replace_sub1 x z c
  rw [sub1_free hc] at h2
  exact Str.ext' (by rw [← Array.toArray_toList (xs := (Txt.replace x ⟨#[c]⟩ z).cps), h2])
theorem replace_len (x z : Str) (c : Nat) (k : Nat) (hz : z.length ≤ k) (hk : 1 ≤ k) : (Txt.replace x ⟨#[c]⟩ z).length ≤ x.length * k := by
  have h : ∀ l : List Nat, (sub1 c z.cps.toList l).length ≤ l.length * k := by
    intro l
    induction l with
    | nil => simp [sub1]
    | cons a r ih =>
      have h1 : (if a = c then z.cps.toList else [a]).length ≤ k := by
        split
        · simpa [Str.length] using hz
        · simpa using hk
      show ((if a = c then z.cps.toList else [a]) ++ sub1 c z.cps.toList r).length ≤ (r.length + 1) * k
      rw [List.length_append, Nat.add_mul, Nat.one_mul]
      omega
  have := h x.cps.toList
  rw [← replace_sub1] at this
  simpa [Str.length] using this
end
section
open PySem PySem.W PyProof.Rows
open PySem.Calls
section
variable {prog : Program} {w : World} {A : Around} {E : Value → Shared → Prop} {s : Shared} {env : Env} {h₀ : Heap} {L : Addr} {m : Str → Option Value} {news : Led} {target : Expr} {body : List Stmt} {Q : Flow → Shared → Prop}

/-- the end of a loop's turn -/
def TurnEnd (h₀ : Heap) (L : Addr) (J : (Str → Option Value) → Led → Prop) (I : Addr) (oI : Obj) (s₁ s₂ : Shared) : Prop :=
  ∃ h' tk m' news' nx, s₂ = { s₁ with heap := h', toks := tk } ∧ Fr h₀ L h' m' ∧ News h₀ L h' news' ∧ (I, oI) ∈ news' ∧ (∀ p ∈ nx, p ∈ news') ∧ (∀ p ∈ nx, p.1 ≠ I) ∧ J m' nx
def TurnPost (h₀ : Heap) (L : Addr) (J : (Str → Option Value) → Led → Prop) (I : Addr) (oI : Obj) (s₁ : Shared) (Q : Flow → Shared → Prop) (f : Flow) (s₂ : Shared) : Prop :=
  match f with
  | .ret v => Q (.ret v) s₂
  | .brk => Q .next s₂
  | _ => TurnEnd h₀ L J I oI s₁ s₂
theorem turnEnd {J : (Str → Option Value) → Led → Prop} {I : Addr} {oI : Obj} {s₁ : Shared} {h' : Heap} {tk : Nat} {m' : Str → Option Value} {news' : Led} (nx : Led) (F : Fr h₀ L h' m') (N : News h₀ L h' news') (hI : (I, oI) ∈ news') (hn : ∀ p ∈ nx, p ∈ news') (off : ∀ p ∈ nx, p.1 ≠ I) (hJ : J m' nx) :
    TurnPost h₀ L J I oI s₁ Q .next { s₁ with heap := h', toks := tk } := ⟨h', tk, m', news', nx, rfl, F, N, hI, hn, off, hJ⟩

theorem for_core {I : Addr} {fp : List Addr} {n : Nat} {P : Nat → Value → Prop} {St : Nat → Heap → Prop} {S : Led → Prop} (W : Walks prog w A I fp [I] n P St) (hIL : L ≠ I) (hI₀ : h₀.get? I = none) (hIo : ∀ i h, St i h → ∃ o, h.get? I = some o)
    (hSt : ∀ i h h' o nw, St i h → h.get? I = some o → h'.get? I = some o → (∀ b o, h₀.get? b = some o → h'.get? b = some o) → News h₀ L h' nw → S nw → St i h')
    (hst : St 0 s.heap) (F : Fr h₀ L s.heap m) (N : News h₀ L s.heap news) (off : ∀ p ∈ news, p.1 ≠ I) (J : Nat → (Str → Option Value) → Led → Prop) (h0 : J 0 m news) (hS : ∀ i m nw, J i m nw → S nw)
    (turn : ∀ i v m₁ news₁ h tk oI, i < n → P i v → J i m₁ news₁ → (∀ p ∈ news₁, p.1 ≠ I) → Fr h₀ L h m₁ → News h₀ L h ((I, oI) :: news₁) →
      wpAny (model prog w) A (assign target env v) (fun _ s₂ => wpAny (model prog w) A (execs body env) (TurnPost h₀ L (J (i + 1)) I oI s Q) (fun _ _ => False) s₂) (fun _ _ => False) { s with heap := h, toks := tk })
    (done : ∀ m₁ news₁ h tk, J n m₁ news₁ → Fr h₀ L h m₁ → News h₀ L h news₁ → Q .next { s with heap := h, toks := tk })
    (ht : ∀ v, letOwnedTupleGo target (.ref I) v = pure () := by intro _; rfl) :
    codeAny (model prog w) A (.forLoop target (.ref I) body [] env) (fun r s' => match r with | .ok f => Q f s' | .error e => cameBackBy (model prog w) A env E e s') s := by
  refine codeAny_forLoop
    (fun k s' => ∃ h' tk m' news' i, s' = { s with heap := h', toks := tk } ∧ St i h' ∧ Fr h₀ L h' m' ∧ News h₀ L h' news' ∧ (∀ p ∈ news', p.1 ≠ I) ∧ J i m' news' ∧ i ≤ n ∧ k = n + 1 - i) ?_ (n + 1)
    ⟨s.heap, s.toks, m, news, 0, rfl, hst, F, N, off, h0, Nat.zero_le _, rfl⟩ ht
  rintro k s' ⟨h', tk, m', news', i, rfl, hst', F', N', off', hJ, hi, rfl⟩
  have next : ∀ h₁ : Heap, (∀ b o, b ∉ [I] → h'.get? b = some o → h₁.get? b = some o) → Fr h₀ L h₁ m' ∧ News h₀ L h₁ news' := fun h₁ hk₁ =>
    ⟨⟨F'.ns.at' fun o e => hk₁ _ o (by simpa using hIL) e, fun b o e => hk₁ b o (by intro hb; rw [List.mem_singleton.mp hb, hI₀] at e; cases e) (F'.keep b o e), F'.above⟩, fun p hp => ⟨hk₁ _ _ (by simpa using off' p hp) (N' p hp).1, (N' p hp).2⟩⟩
  by_cases hlt : i < n
  · refine W.item i _ _ _ hlt hst' fun v h₁ tk₁ hP hst₁ hk₁ => ?_
    obtain ⟨F₁, N₁⟩ := next h₁ hk₁
    obtain ⟨oI, hoI⟩ := hIo _ _ hst₁
    have N₂ : News h₀ L h₁ ((I, oI) :: news') := fun p hp => by
      rcases List.mem_cons.mp hp with rfl | hp
      · exact ⟨hoI, Ne.symm hIL, hI₀⟩
      · exact N₁ p hp
    refine wpAny_mono (turn i v m' news' h₁ tk₁ oI hlt hP hJ off' F₁ N₂) (fun _ s₂ h₂ => ?_) fun _ _ e => e.elim
    refine wpAny_mono h₂ (fun f s₃ h₃ => ?_) fun _ _ e => e.elim
    have fin : TurnEnd h₀ L (J (i + 1)) I oI s s₃ → ∃ m, m < n + 1 - i ∧ ∃ h' tk m' news' i, s₃ = { s with heap := h', toks := tk } ∧ St i h' ∧ Fr h₀ L h' m' ∧ News h₀ L h' news' ∧ (∀ p ∈ news', p.1 ≠ I) ∧ J i m' news' ∧ i ≤ n ∧ m = n + 1 - i := by
      rintro ⟨h₃', tk₃, m₃, news₃, nx, rfl, F₃, N₃, hI, hn, off₃, hJ₃⟩
      refine ⟨n + 1 - (i + 1), by omega, h₃', tk₃, m₃, nx, i + 1, rfl, ?_, F₃, fun p hp => N₃ p (hn p hp), off₃, hJ₃, hlt, rfl⟩
      exact hSt _ _ _ _ nx hst₁ hoI (N₃ _ hI).1 F₃.keep (fun p hp => N₃ p (hn p hp)) (hS _ _ _ hJ₃)
    cases f with
    | ret v => exact h₃
    | brk => exact h₃
    | cont => exact fin h₃
    | next => exact fin h₃
  · have hin : i = n := by omega
    subst hin
    refine W.done _ _ _ hst' fun h₁ tk₁ hk₁ => wpAny_execs_nil ?_
    obtain ⟨F₁, N₁⟩ := next h₁ hk₁
    exact done m' news' h₁ tk₁ hJ F₁ N₁

/-- what a loop's source leaves to show -/
def ForSrc (prog : Program) (w : World) (A : Around) (env : Env) (target : Expr) (body : List Stmt) (Q : Flow → Shared → Prop) (E : Value → Shared → Prop) (xv : Value) (s₁ : Shared) : Prop :=
  wpAny (model prog w) A (pyIter xv) (fun it s₂ => codeAny (model prog w) A (.forLoop target it body [] env) (fun r s' => match r with | .ok f => Q f s' | .error e => cameBackBy (model prog w) A env E e s') s₂) E s₁
theorem For_own {iter : Expr} {pos : Pos} (h : wpAny (model prog w) A (eval iter env) (ForSrc prog w A env target body Q E) E s) (hs : ∀ x, foldedSetIterable iter env x = pure x := by intro _; rfl) :
    wpAny (model prog w) A (exec (.For target iter body [] pos) env) Q E s := wpAny_For h hs
theorem forSrc_list {ax : Addr} {its : Array Value} (hh : A.handled = none) (F : Fr h₀ L s.heap m) (N : News h₀ L s.heap news) (J : Nat → (Str → Option Value) → Led → Prop) (h0 : J 0 m news) (hS : ∀ i m nw, J i m nw → LCg.SrcAt h₀ ax its nw)
    (turn : ∀ i v m₁ news₁ h tk I oI, its[i]? = some v → J i m₁ news₁ → (∀ p ∈ news₁, p.1 ≠ I) → Fr h₀ L h m₁ → News h₀ L h ((I, oI) :: news₁) →
      wpAny (model prog w) A (assign target env v) (fun _ s₂ => wpAny (model prog w) A (execs body env) (TurnPost h₀ L (J (i + 1)) I oI s Q) (fun _ _ => False) s₂) (fun _ _ => False) { s with heap := h, toks := tk })
    (done : ∀ m₁ news₁ h tk, J its.size m₁ news₁ → Fr h₀ L h m₁ → News h₀ L h news₁ → Q .next { s with heap := h, toks := tk })
    (ht : ∀ I v, letOwnedTupleGo target (.ref I) v = pure () := by intro _ _; rfl) :
    ForSrc prog w A env target body Q E (.ref ax) s := by
  have hl := (hS _ _ _ h0).list F.keep N
  have hlt : ax < s.heap.objs.size := by obtain ⟨_, e, _⟩ := hl; exact Heap.lt_size e
  refine wpAny_pyIter_list hl ?_
  have up : ∀ b o, s.heap.get? b = some o → (s.heap.push { cls := .type "list_iterator", data := .fields #[.ref ax, .int 0 0] }).get? b = some o := fun b o e => Heap.get?_push_of_some _ e
  refine for_core (s := { s with heap := s.heap.push { cls := .type "list_iterator", data := .fields #[.ref ax, .int 0 0] } }) (Walks.list hh s.heap.objs.size ax (Nat.ne_of_lt hlt) its) (Nat.ne_of_lt F.ns.lt) (next_is_new F) (fun i h st => by obtain ⟨o, e, _⟩ := st.1; exact ⟨o, e⟩) LCg.list_st ⟨⟨_, Heap.get?_push_size _ rfl, rfl, rfl⟩, hl.push _⟩
    (F.keeps up) (N.grown up) (fun p hp => Nat.ne_of_lt (Heap.lt_size (N p hp).1)) J h0 hS ?_ ?_ (ht _)
  · intro i v m₁ news₁ h tk oI hi hP hJ off F₁ N₁
    exact turn i v m₁ news₁ h tk _ oI hP hJ off F₁ N₁
  · intro m₁ news₁ h tk hJ F₁ N₁
    exact done m₁ news₁ h tk hJ F₁ N₁
theorem forSrc_range {r : Addr} {a b : Int} {t u v : Tok} {n : Nat} (hh : A.handled = none) (F : Fr h₀ L s.heap m) (N : News h₀ L s.heap news) (hr : IsRange s.heap r a b 1 t u v) (hsm : Builtin.Range.small a b 1 = true) (hn : Builtin.Range.rangeSize a b 1 = ((n : Nat) : Int))
    (J : Nat → (Str → Option Value) → Led → Prop) (h0 : J 0 m news)
    (turn : ∀ i t m₁ news₁ h tk I oI, i < n → J i m₁ news₁ → (∀ p ∈ news₁, p.1 ≠ I) → Fr h₀ L h m₁ → News h₀ L h ((I, oI) :: news₁) →
      wpAny (model prog w) A (assign target env (.int (a + (i : Int)) t)) (fun _ s₂ => wpAny (model prog w) A (execs body env) (TurnPost h₀ L (J (i + 1)) I oI s Q) (fun _ _ => False) s₂) (fun _ _ => False) { s with heap := h, toks := tk })
    (done : ∀ m₁ news₁ h tk, J n m₁ news₁ → Fr h₀ L h m₁ → News h₀ L h news₁ → Q .next { s with heap := h, toks := tk })
    (ht : ∀ I v, letOwnedTupleGo target (.ref I) v = pure () := by intro _ _; rfl) :
    ForSrc prog w A env target body Q E (.ref r) s := by
  refine wpAny_pyIter_range hr hsm ?_
  refine for_core (S := fun _ => True) (LCg.range_walks hh a n) (Nat.ne_of_lt F.ns.lt) (next_is_new F) (fun i h st => ⟨_, st⟩) LCg.range_st (by show IsRangeIter _ _ _ _ _; rw [hn]; simpa using Heap.get?_push_size _ rfl)
    (F.keeps fun _ _ e => Heap.get?_push_of_some _ e) (N.grown fun _ _ e => Heap.get?_push_of_some _ e) (fun p hp => Nat.ne_of_lt (Heap.lt_size (N p hp).1)) J h0 (fun _ _ _ _ => trivial) ?_ ?_ (ht _)
  · rintro i v m₁ news₁ h tk oI hi ⟨t', rfl⟩ hJ off F₁ N₁
    exact turn i t' m₁ news₁ h tk _ oI hi hJ off F₁ N₁
  · intro m₁ news₁ h tk hJ F₁ N₁
    exact done m₁ news₁ h tk hJ F₁ N₁
theorem srcL {h₀ : Heap} {ax : Addr} {its : Array Value} {k : Nat} {nw : Led} (h : (ax, listOf its k) ∈ nw) : LCg.SrcAt h₀ ax its nw := .inr ⟨_, h, rfl, _, rfl⟩
/-- a loop that leaves the ledger as it is -/
theorem forSrc_listC {ax : Addr} {its : Array Value} (hh : A.handled = none) (F : Fr h₀ L s.heap m) (N : News h₀ L s.heap news) (src : LCg.SrcAt h₀ ax its news) (J : Nat → (Str → Option Value) → Prop) (h0 : J 0 m)
    (turn : ∀ i v m₁ h tk I oI, its[i]? = some v → J i m₁ → (∀ p ∈ news, p.1 ≠ I) → Fr h₀ L h m₁ → News h₀ L h ((I, oI) :: news) →
      wpAny (model prog w) A (assign target env v) (fun _ s₂ => wpAny (model prog w) A (execs body env) (TurnPost h₀ L (fun m' nx => nx = news ∧ J (i + 1) m') I oI s Q) (fun _ _ => False) s₂) (fun _ _ => False) { s with heap := h, toks := tk })
    (done : ∀ m₁ h tk, J its.size m₁ → Fr h₀ L h m₁ → News h₀ L h news → Q .next { s with heap := h, toks := tk })
    (ht : ∀ I v, letOwnedTupleGo target (.ref I) v = pure () := by intro _ _; rfl) :
    ForSrc prog w A env target body Q E (.ref ax) s := by
  refine forSrc_list hh F N (fun i m' nx => nx = news ∧ J i m') ⟨rfl, h0⟩ (fun i m' nx h => h.1 ▸ src) ?_ ?_ ht
  · rintro i v m₁ _ h tk I oI hv ⟨rfl, hJ⟩ off F₁ N₁
    exact turn i v m₁ h tk I oI hv hJ off F₁ N₁
  · rintro m₁ _ h tk ⟨rfl, hJ⟩ F₁ N₁
    exact done m₁ h tk hJ F₁ N₁
theorem turnEndC {J : (Str → Option Value) → Prop} {I : Addr} {oI : Obj} {s₁ : Shared} {h' : Heap} {tk : Nat} {m' : Str → Option Value} {news' : Led} (F : Fr h₀ L h' m') (N : News h₀ L h' news') (off : ∀ p ∈ news, p.1 ≠ I) (hI : (I, oI) ∈ news') (hn : ∀ p ∈ news, p ∈ news') (hJ : J m') :
    TurnPost h₀ L (fun m' nx => nx = news ∧ J m') I oI s₁ Q .next { s₁ with heap := h', toks := tk } := ⟨h', tk, m', news', news, rfl, F, N, hI, hn, off, rfl, hJ⟩
theorem ints_at {vs : List Value} {ns : List Int} {i : Nat} {v : Value} (h : IntsAre vs ns) (hv : vs.toArray[i]? = some v) : ∃ n t, v = .int n t ∧ ns[i]? = some n := by
  have hv' : vs[i]? = some v := by simpa using hv
  obtain ⟨hl, _⟩ := List.getElem?_eq_some_iff.mp hv'
  have hl2 : i < ns.length := by rw [← h.length]; exact hl
  obtain ⟨t, ht⟩ := h.get i ns[i] (List.getElem?_eq_getElem hl2)
  rw [hv'] at ht
  exact ⟨ns[i], t, Option.some.inj ht, List.getElem?_eq_getElem hl2⟩
theorem strs_at {vs : List Value} {ns : List Str} {i : Nat} {v : Value} (h : StrsAre vs ns) (hv : vs.toArray[i]? = some v) : ∃ n t, v = .str n t ∧ ns[i]? = some n := by
  have hv' : vs[i]? = some v := by simpa using hv
  obtain ⟨hl, _⟩ := List.getElem?_eq_some_iff.mp hv'
  have hl2 : i < ns.length := by rw [← StrsAre.length h]; exact hl
  obtain ⟨t, ht⟩ := StrsAre.at h (List.getElem?_eq_getElem hl2)
  rw [hv'] at ht
  exact ⟨ns[i], t, Option.some.inj ht, List.getElem?_eq_getElem hl2⟩
theorem forSrc_intsC {ax : Addr} {vs : List Value} {ns : List Int} {k : Nat} (hh : A.handled = none) (hi : IntsAre vs ns) (F : Fr h₀ L s.heap m) (N : News h₀ L s.heap news) (src : (ax, listOf vs.toArray k) ∈ news) (J : Nat → (Str → Option Value) → Prop) (h0 : J 0 m)
    (turn : ∀ i n t m₁ h tk I oI, ns[i]? = some n → J i m₁ → (∀ p ∈ news, p.1 ≠ I) → Fr h₀ L h m₁ → News h₀ L h ((I, oI) :: news) →
      wpAny (model prog w) A (assign target env (.int n t)) (fun _ s₂ => wpAny (model prog w) A (execs body env) (TurnPost h₀ L (fun m' nx => nx = news ∧ J (i + 1) m') I oI s Q) (fun _ _ => False) s₂) (fun _ _ => False) { s with heap := h, toks := tk })
    (done : ∀ m₁ h tk, J ns.length m₁ → Fr h₀ L h m₁ → News h₀ L h news → Q .next { s with heap := h, toks := tk })
    (ht : ∀ I v, letOwnedTupleGo target (.ref I) v = pure () := by intro _ _; rfl) :
    ForSrc prog w A env target body Q E (.ref ax) s := by
  refine forSrc_listC hh F N (srcL src) J h0 ?_ ?_ ht
  · intro i v m₁ h tk I oI hv hJ off F₁ N₁
    obtain ⟨n, t, rfl, hn⟩ := ints_at hi hv
    exact turn i n t m₁ h tk I oI hn hJ off F₁ N₁
  · intro m₁ h tk hJ F₁ N₁
    rw [List.size_toArray, hi.length] at hJ
    exact done m₁ h tk hJ F₁ N₁
theorem forSrc_ints {ax : Addr} {vs : List Value} {ns : List Int} {k : Nat} (hh : A.handled = none) (hi : IntsAre vs ns) (F : Fr h₀ L s.heap m) (N : News h₀ L s.heap news) (J : Nat → (Str → Option Value) → Led → Prop) (h0 : J 0 m news) (hS : ∀ i m nw, J i m nw → (ax, listOf vs.toArray k) ∈ nw)
    (turn : ∀ i n t m₁ news₁ h tk I oI, ns[i]? = some n → J i m₁ news₁ → (∀ p ∈ news₁, p.1 ≠ I) → Fr h₀ L h m₁ → News h₀ L h ((I, oI) :: news₁) →
      wpAny (model prog w) A (assign target env (.int n t)) (fun _ s₂ => wpAny (model prog w) A (execs body env) (TurnPost h₀ L (J (i + 1)) I oI s Q) (fun _ _ => False) s₂) (fun _ _ => False) { s with heap := h, toks := tk })
    (done : ∀ m₁ news₁ h tk, J ns.length m₁ news₁ → Fr h₀ L h m₁ → News h₀ L h news₁ → Q .next { s with heap := h, toks := tk })
    (ht : ∀ I v, letOwnedTupleGo target (.ref I) v = pure () := by intro _ _; rfl) :
    ForSrc prog w A env target body Q E (.ref ax) s := by
  refine forSrc_list hh F N J h0 (fun i m' nw h => srcL (hS i m' nw h)) ?_ ?_ ht
  · intro i v m₁ news₁ h tk I oI hv hJ off F₁ N₁
    obtain ⟨n, t, rfl, hn⟩ := ints_at hi hv
    exact turn i n t m₁ news₁ h tk I oI hn hJ off F₁ N₁
  · intro m₁ news₁ h tk hJ F₁ N₁
    rw [List.size_toArray, hi.length] at hJ
    exact done m₁ news₁ h tk hJ F₁ N₁
theorem forSrc_strs {ax : Addr} {vs : List Value} {ns : List Str} {k : Nat} (hh : A.handled = none) (hi : StrsAre vs ns) (F : Fr h₀ L s.heap m) (N : News h₀ L s.heap news) (J : Nat → (Str → Option Value) → Led → Prop) (h0 : J 0 m news) (hS : ∀ i m nw, J i m nw → (ax, listOf vs.toArray k) ∈ nw)
    (turn : ∀ i n t m₁ news₁ h tk I oI, ns[i]? = some n → J i m₁ news₁ → (∀ p ∈ news₁, p.1 ≠ I) → Fr h₀ L h m₁ → News h₀ L h ((I, oI) :: news₁) →
      wpAny (model prog w) A (assign target env (.str n t)) (fun _ s₂ => wpAny (model prog w) A (execs body env) (TurnPost h₀ L (J (i + 1)) I oI s Q) (fun _ _ => False) s₂) (fun _ _ => False) { s with heap := h, toks := tk })
    (done : ∀ m₁ news₁ h tk, J ns.length m₁ news₁ → Fr h₀ L h m₁ → News h₀ L h news₁ → Q .next { s with heap := h, toks := tk })
    (ht : ∀ I v, letOwnedTupleGo target (.ref I) v = pure () := by intro _ _; rfl) :
    ForSrc prog w A env target body Q E (.ref ax) s := by
  refine forSrc_list hh F N J h0 (fun i m' nw h => srcL (hS i m' nw h)) ?_ ?_ ht
  · intro i v m₁ news₁ h tk I oI hv hJ off F₁ N₁
    obtain ⟨n, t, rfl, hn⟩ := strs_at hi hv
    exact turn i n t m₁ news₁ h tk I oI hn hJ off F₁ N₁
  · intro m₁ news₁ h tk hJ F₁ N₁
    rw [List.size_toArray, StrsAre.length hi] at hJ
    exact done m₁ news₁ h tk hJ F₁ N₁
theorem forSrc_upto {r : Addr} {b : Int} {t u v : Tok} {n : Nat} (hh : A.handled = none) (F : Fr h₀ L s.heap m) (N : News h₀ L s.heap news) (hr : IsRange s.heap r 0 b 1 t u v) (hb : b = (n : Int)) (hn : n < 1099511627776)
    (J : Nat → (Str → Option Value) → Led → Prop) (h0 : J 0 m news)
    (turn : ∀ (i : Nat) (t : Tok) m₁ news₁ h tk I oI, i < n → J i m₁ news₁ → (∀ p ∈ news₁, p.1 ≠ I) → Fr h₀ L h m₁ → News h₀ L h ((I, oI) :: news₁) →
      wpAny (model prog w) A (assign target env (.int (i : Int) t)) (fun _ s₂ => wpAny (model prog w) A (execs body env) (TurnPost h₀ L (J (i + 1)) I oI s Q) (fun _ _ => False) s₂) (fun _ _ => False) { s with heap := h, toks := tk })
    (done : ∀ m₁ news₁ h tk, J n m₁ news₁ → Fr h₀ L h m₁ → News h₀ L h news₁ → Q .next { s with heap := h, toks := tk })
    (ht : ∀ I v, letOwnedTupleGo target (.ref I) v = pure () := by intro _ _; rfl) :
    ForSrc prog w A env target body Q E (.ref r) s := by
  subst hb
  refine forSrc_range hh F N hr (small_one (by omega) (by omega) (by omega) (by omega)) (rangeSize_nat _ _) J h0 ?_ ?_ ht
  · intro i t m₁ news₁ h tk I oI hi hJ off F₁ N₁
    rw [Int.zero_add]
    exact turn i t m₁ news₁ h tk I oI (by omega) hJ off F₁ N₁
  · intro m₁ news₁ h tk hJ F₁ N₁
    rw [show (((n : Int) - 0).toNat) = n by omega] at hJ
    exact done m₁ news₁ h tk hJ F₁ N₁
end
section
variable {α : Type} {a b c d e f : α} {r : List α}
theorem sub0 : ∀ q ∈ a :: r, q ∈ a :: r := fun _ h => h
theorem sub1' : ∀ q ∈ b :: a :: r, q ∈ a :: b :: r := fun q h => by simp only [List.mem_cons] at h ⊢; rcases h with h | h | h <;> simp [h]
theorem sub2 : ∀ q ∈ c :: a :: b :: r, q ∈ a :: b :: c :: r := fun q h => by simp only [List.mem_cons] at h ⊢; rcases h with h | h | h | h <;> simp [h]
theorem sub3 : ∀ q ∈ d :: a :: b :: c :: r, q ∈ a :: b :: c :: d :: r := fun q h => by simp only [List.mem_cons] at h ⊢; rcases h with h | h | h | h | h <;> simp [h]
theorem sub4 : ∀ q ∈ e :: a :: b :: c :: d :: r, q ∈ a :: b :: c :: d :: e :: r := fun q h => by simp only [List.mem_cons] at h ⊢; rcases h with h | h | h | h | h | h <;> simp [h]
theorem sub5 : ∀ q ∈ f :: a :: b :: c :: d :: e :: r, q ∈ a :: b :: c :: d :: e :: f :: r := fun q h => by simp only [List.mem_cons] at h ⊢; rcases h with h | h | h | h | h | h | h <;> simp [h]
end
theorem allLt_mem {d : Addr} {l : Led} (h : AllLt d l) : ∀ p ∈ l, p.1 < d := by
  induction l with
  | nil => exact fun _ h => nomatch h
  | cons q r ih =>
    intro p hp
    rcases List.mem_cons.mp hp with e | hp
    · rw [e]; exact h.1
    · exact ih h.2 p hp
theorem allLt_ne {d : Addr} {l : Led} (h : AllLt d l) : ∀ p ∈ l, p.1 ≠ d := fun p hp => Nat.ne_of_lt (allLt_mem h p hp)
theorem allLt_up {d d' : Addr} {l : Led} (h : AllLt d l) (hd : d ≤ d') : AllLt d' l := allLt_of fun p hp => Nat.lt_of_lt_of_le (allLt_mem h p hp) hd
theorem ne_cons {d a : Addr} {o : Obj} {l : Led} (h : a ≠ d) (hr : ∀ p ∈ l, p.1 ≠ d) : ∀ p ∈ (a, o) :: l, p.1 ≠ d := fun p hp => by
  rcases List.mem_cons.mp hp with rfl | hp
  · exact h
  · exact hr p hp
theorem ne_nil {d : Addr} : ∀ p ∈ ([] : Led), p.1 ≠ d := fun _ h => nomatch h
theorem subR {α : Type} {l : List α} : ∀ p ∈ l, p ∈ l := fun _ h => h
theorem subC {α : Type} {a : α} {l r : List α} (h : ∀ p ∈ l, p ∈ r) : ∀ p ∈ a :: l, p ∈ a :: r := fun p hp => by
  rcases List.mem_cons.mp hp with rfl | hp
  · exact .head _
  · exact .tail _ (h p hp)
theorem subS {α : Type} {a : α} {l r : List α} (h : ∀ p ∈ l, p ∈ r) : ∀ p ∈ l, p ∈ a :: r := fun p hp => .tail _ (h p hp)
/-- the head of the small list stands somewhere in the big one -/
theorem subM {α : Type} {a : α} {l r : List α} (h : a ∈ r) (hr : ∀ p ∈ l, p ∈ r) : ∀ p ∈ a :: l, p ∈ r := fun p hp => by
  rcases List.mem_cons.mp hp with rfl | hp
  · exact h
  · exact hr p hp
theorem subN {α : Type} {r : List α} : ∀ p ∈ ([] : List α), p ∈ r := fun _ h => nomatch h
theorem news_sub {h₀ h : Heap} {L : Addr} {big small : Led} (N : News h₀ L h big) (hs : ∀ p ∈ small, p ∈ big) : News h₀ L h small := fun p hp => N p (hs p hp)
theorem lt_cons {d a : Addr} {o : Obj} {l : Led} (h : a < d) (hr : ∀ p ∈ l, p.1 < d) : ∀ p ∈ (a, o) :: l, p.1 < d := fun p hp => by
  rcases List.mem_cons.mp hp with rfl | hp
  · exact h
  · exact hr p hp
end
section
open PySem PySem.W PyProof.Rows PySem.Calls
set_option maxRecDepth 100000
theorem fill_it : hd.heap_39 = hd.heap_39 ∨ PySem.Challenge.rw_wu0063_01.Holds := by
  k_fill
  exact Or.inl rfl

local macro_rules | `(tactic| k_room) => `(tactic| ktr_room)
local macro_rules | `(tactic| k_units) => `(tactic| ktr_units)
local macro_rules | `(tactic| ktr_unf) => `(tactic| (refine wpAny_call ?_; k_dflt k_enter))
local macro_rules | `(tactic| walk_at $s:str) => `(tactic| k_extra $s)
local macro_rules | `(tactic| walk_at $s:str) => `(tactic| (k_here; (with_reducible show wpAny _ _ (exec (Stmt.For _ _ _ _ _) _) _ _ _); k_dflt (refine For_own ?_)))
local macro_rules | `(tactic| walk_at "subscriptTail Name Slice ref ref") => `(tactic| (k_here; (with_reducible show wpAny _ _ (subscriptTail _ (PySem.Expr.Slice none none (some _) _) (Value.ref _) (Value.ref _)) _ _ _); k_dflt (refine' krv_ints ?F ?N (News.isList ?N2 ?l) ?k ?i ?_ ?s ?t ?z; (case F => k_asm); (case N => k_asm); (case N2 => k_asm); (case l => k_mem); (case k => exact IsPart.int _ _); (case i => assumption); (case s => with_unfolding_all rfl); (case t => kmk_pure); (case z => assumption)); intro D' ws' h' F' N' l1 hI' hC'))
local macro_rules | `(tactic| k_all) => `(tactic| first | assumption | exact allLt_ne (by assumption))
section
section
variable {prog : Program} {w : World} {A : Around} {E : Value → Shared → Prop} {s : Shared} {h₀ : Heap} {L : Addr} {m : Str → Option Value} {news : Led} {env : Env} {Q : Flow → Shared → Prop}
def EscEnd (h₀ : Heap) (L : Addr) (m : Str → Option Value) (news : Led) (s : Shared) (y : Str) (f : Flow) (s₂ : Shared) : Prop :=
  f = .next ∧ ∃ h' tk t', s₂ = { s with heap := h', toks := tk } ∧ Fr h₀ L h' (fun z => if z = Str.ofString "text" then some (.str y t') else m z) ∧ News h₀ L h' news
theorem escEnd_no {h' : Heap} {tk t : Nat} {x y : Str} (F : Fr h₀ L h' m) (N : News h₀ L h' news) (hm : m (Str.ofString "text") = some (.str x t)) (e : y = x) : EscEnd h₀ L m news s y .next { s with heap := h', toks := tk } :=
  ⟨rfl, h', tk, t, rfl, ⟨by
    have : (fun z => if z = Str.ofString "text" then some (Value.str y t) else m z) = m := by
      funext z
      by_cases h1 : z = Str.ofString "text"
      · rw [if_pos h1, h1, hm, e]
      · rw [if_neg h1]
    rw [this]; exact F.ns, F.keep, F.above⟩, N⟩
theorem escEnd_yes {h' : Heap} {tk t : Nat} {y : Str} (F : Fr h₀ L h' (fun z => if z = Str.ofString "text" then some (.str y t) else m z)) (N : News h₀ L h' news) : EscEnd h₀ L m news s y .next { s with heap := h', toks := tk } :=
  ⟨rfl, h', tk, t, rfl, F, N⟩
/-- the text x bears at most n signs -/
def LenLe (x : Str) (n : Nat) : Prop := x.length ≤ n
theorem lenLe_rep {x z : Str} {c : Nat} {n k : Nat} (h : LenLe x n) (hz : z.length ≤ k) (hk : 1 ≤ k) : LenLe (Txt.replace x ⟨#[c]⟩ z) (n * k) := Nat.le_trans (replace_len x z c k hz hk) (Nat.mul_le_mul_right _ h)
theorem esc_merge {x r : Str} {c n : Nat} {t : Tok} {k1 k2 k3 : Nat} {c1 c2 : Str} {n1 : Str} {p1 p2 p3 p4 p5 p6 p7 p8 p9 p10 p11 : Pos}
    (F : Fr h₀ L s.heap m) (N : News h₀ L s.heap news) (hm : m (Str.ofString "text") = some (.str x t)) (ht : 0 < s.toks) (hx : LenLe x n) (hn : n ≤ 1000000) (hr : r.length ≤ 6) (hc : c1 = ⟨#[c]⟩) (hc2 : c2 = c1) (hcr : (c1 == r) = false)
    (h : ∀ tk, 0 < tk → LenLe x n → wpAny (model prog w) A (isTrue (.Compare (.Constant (.str c1) k1 p1) [.In] [.Name n1 p2] p3) env (eval (.Compare (.Constant (.str c1) k1 p1) [.In] [.Name n1 p2] p3) env))
      (fun b s₂ => if b then wpAny (model prog w) A (execs [.Assign [.Name n1 p4] (.Call (.Attribute (.Name n1 p5) "replace" p6) [.Constant (.str c2) k2 p7, .Constant (.str r) k3 p8] [] p9) p10] env) (EscEnd h₀ L m news s (Txt.replace x c1 r)) E s₂ else wpAny (model prog w) A (execs [] env) (EscEnd h₀ L m news s (Txt.replace x c1 r)) E s₂) E { s with toks := tk })
    (k : ∀ h' tk t', 0 < tk → LenLe (Txt.replace x c1 r) (n * 6) → Fr h₀ L h' (fun z => if z = Str.ofString "text" then some (.str (Txt.replace x c1 r) t') else m z) → News h₀ L h' news → Q .next { s with heap := h', toks := tk }) :
    wpAny (model prog w) A (exec (.If (.Compare (.Constant (.str c1) k1 p1) [.In] [.Name n1 p2] p3) [.Assign [.Name n1 p4] (.Call (.Attribute (.Name n1 p5) "replace" p6) [.Constant (.str c2) k2 p7, .Constant (.str r) k3 p8] [] p9) p10] [] p11) env) Q E s := by
  subst hc
  refine wpAny_mono (wpAny_toks_of (n := 1) ht (Q := EscEnd h₀ L m news s (Txt.replace x ⟨#[c]⟩ r)) (wpAny_If ?_)) ?_ (fun _ _ e => e.2)
  · exact h s.toks ht hx
  · rintro f s₂ ⟨hp, rfl, h', tk, t', rfl, h2, h3⟩
    exact k h' tk t' hp (lenLe_rep hx hr (by decide)) h2 h3
theorem esc_rep {prog : Program} {w : World} {A : Around} {E : Value → Shared → Prop} {s : Shared} {x r c1 : Str} {n u v : Nat} {Q : Value → Shared → Prop} {t : Tok}
    (hx : LenLe x n) (hn : n ≤ 1000000) (hr : r.length ≤ 6) (hu : 0 < u) (hv : u < v) (hcr : (c1 == r) = false)
    (hq : ∀ t' k, Q (.str (Txt.replace x c1 r) t') { s with toks := k }) :
    wpAny (model prog w) A (call (.builtin "str.replace") [.str x t, .str c1 u, .str r v]) Q E s := by
  have hl : x.length ≤ 1000000 := Nat.le_trans hx hn
  exact SC.replaceW (Nat.ne_of_gt hu) (Nat.ne_of_gt (Nat.lt_trans hu hv)) (Nat.ne_of_lt hv) hcr (by omega) (by omega) hq
theorem gen_toks {h : Heap} {g : Array GenState} {d : _} {o : _} {a b : Nat} {t : Sem α} {Q : α → Shared → Prop} {M : Model} (hb : 0 < b) (H : ∀ tk, 0 < tk → wpAny M A t Q E { heap := h, gens := g, drawn := d, toks := tk, os := o }) :
   wpAny M A t Q E { heap := h, gens := g, drawn := d, toks := a + b, os := o } := H _ (by omega)
end
local macro_rules | `(tactic| walk_at "exec If") => `(tactic| (k_here; (with_reducible show wpAny _ _ (exec (Stmt.If (PySem.Expr.Compare (PySem.Expr.Constant _ _ _) _ _ _) _ _ _) _) _ _ _); k_dflt (refine' esc_merge ?F ?N ?m ?t ?x ?n ?r ?c ?c2 ?cr ?_ ?_; (case F => k_asm); (case N => k_asm); (case m => rfl); (case t => assumption); (case x => assumption); (case n => decide); (case r => decide); (case c => rfl); (case c2 => rfl); (case cr => decide); k_whole); all_goals (intros)))
local macro_rules | `(tactic| walk_at "call builtin:str.replace") => `(tactic| (k_here; k_dflt (refine' esc_rep ?x ?n ?r ?u ?v ?cr ?_; (case x => assumption); (case n => decide); (case r => decide); (case u => (first | assumption | omega)); (case v => omega); (case cr => decide)); intro _ _))
local macro_rules | `(tactic| walk_at "execs cons") => `(tactic| (k_here; k_dflt (refine gen_toks (by decide) ?_); intro tk htk))
def esc_cdata (a : Str) : Str := (Txt.replace (Txt.replace (Txt.replace a "&" "&amp;") "<" "&lt;") ">" "&gt;")
def esc_attrib (a : Str) : Str := (Txt.replace (Txt.replace (Txt.replace (Txt.replace (Txt.replace (Txt.replace (Txt.replace a "&" "&amp;") "<" "&lt;") ">" "&gt;") "\"" "&quot;") "\r" "&#13;") "\n" "&#10;") "\t" "&#09;")
def esc_attrib_html (a : Str) : Str := (Txt.replace (Txt.replace (Txt.replace a "&" "&amp;") ">" "&gt;") "\"" "&quot;")
def esc_cdata_c14n (a : Str) : Str := (Txt.replace (Txt.replace (Txt.replace (Txt.replace a "&" "&amp;") "<" "&lt;") ">" "&gt;") "\r" "&#xD;")
def esc_attrib_c14n (a : Str) : Str := (Txt.replace (Txt.replace (Txt.replace (Txt.replace (Txt.replace (Txt.replace a "&" "&amp;") "<" "&lt;") "\"" "&quot;") "\t" "&#x9;") "\n" "&#xA;") "\r" "&#xD;")
set_option maxHeartbeats 4000000 in
theorem esc_cdata_spec (w : World) (news : Led) (a : Str) (ta : Tok) (hl : LenLe a 20) : Spec w (fun _ => True) news 60 [.str a ta] 2 16 (fun v n => ∃ tk, v = .str (esc_cdata a) tk ∧ n = news) := by
  k_with_none
  w_top off
  unfold Spec
  intros
  rename_i hret
  refine wpAny_call ?_
  k_dflt cell_enter
  refine gen_toks (by exact Nat.succ_pos _) ?_
  intro tk htk
  k_steps
  all_goals first
    | exact escEnd_no (by assumption) (by assumption) rfl (replace_none _ (by assumption))
    | exact escEnd_yes (by assumption) (by assumption)
    | exact hret _ _ _ _ ⟨_, rfl, rfl⟩ (by assumption) (by assumption)
set_option maxHeartbeats 4000000 in
theorem esc_attrib_spec (w : World) (news : Led) (a : Str) (ta : Tok) (hl : LenLe a 20) : Spec w (fun _ => True) news 67 [.str a ta] 2 16 (fun v n => ∃ tk, v = .str (esc_attrib a) tk ∧ n = news) := by
  k_with_none
  w_top off
  unfold Spec
  intros
  rename_i hret
  refine wpAny_call ?_
  k_dflt cell_enter
  refine gen_toks (by exact Nat.succ_pos _) ?_
  intro tk htk
  k_steps
  all_goals first
    | exact escEnd_no (by assumption) (by assumption) rfl (replace_none _ (by assumption))
    | exact escEnd_yes (by assumption) (by assumption)
    | exact hret _ _ _ _ ⟨_, rfl, rfl⟩ (by assumption) (by assumption)
set_option maxHeartbeats 4000000 in
theorem esc_attrib_html_spec (w : World) (news : Led) (a : Str) (ta : Tok) (hl : LenLe a 20) : Spec w (fun _ => True) news 74 [.str a ta] 2 16 (fun v n => ∃ tk, v = .str (esc_attrib_html a) tk ∧ n = news) := by
  k_with_none
  w_top off
  unfold Spec
  intros
  rename_i hret
  refine wpAny_call ?_
  k_dflt cell_enter
  refine gen_toks (by exact Nat.succ_pos _) ?_
  intro tk htk
  k_steps
  all_goals first
    | exact escEnd_no (by assumption) (by assumption) rfl (replace_none _ (by assumption))
    | exact escEnd_yes (by assumption) (by assumption)
    | exact hret _ _ _ _ ⟨_, rfl, rfl⟩ (by assumption) (by assumption)
set_option maxHeartbeats 4000000 in
theorem esc_cdata_c14n_spec (w : World) (news : Led) (a : Str) (ta : Tok) (hl : LenLe a 20) : Spec w (fun _ => True) news 81 [.str a ta] 2 16 (fun v n => ∃ tk, v = .str (esc_cdata_c14n a) tk ∧ n = news) := by
  k_with_none
  w_top off
  unfold Spec
  intros
  rename_i hret
  refine wpAny_call ?_
  k_dflt cell_enter
  refine gen_toks (by exact Nat.succ_pos _) ?_
  intro tk htk
  k_steps
  all_goals first
    | exact escEnd_no (by assumption) (by assumption) rfl (replace_none _ (by assumption))
    | exact escEnd_yes (by assumption) (by assumption)
    | exact hret _ _ _ _ ⟨_, rfl, rfl⟩ (by assumption) (by assumption)
set_option maxHeartbeats 4000000 in
theorem esc_attrib_c14n_spec (w : World) (news : Led) (a : Str) (ta : Tok) (hl : LenLe a 20) : Spec w (fun _ => True) news 88 [.str a ta] 2 16 (fun v n => ∃ tk, v = .str (esc_attrib_c14n a) tk ∧ n = news) := by
  k_with_none
  w_top off
  unfold Spec
  intros
  rename_i hret
  refine wpAny_call ?_
  k_dflt cell_enter
  refine gen_toks (by exact Nat.succ_pos _) ?_
  intro tk htk
  k_steps
  all_goals first
    | exact escEnd_no (by assumption) (by assumption) rfl (replace_none _ (by assumption))
    | exact escEnd_yes (by assumption) (by assumption)
    | exact hret _ _ _ _ ⟨_, rfl, rfl⟩ (by assumption) (by assumption)
end
section

structure BisJ (ledger : Led) (ps : List (Str × Value)) (ns : List Int) (x : Int) (n : Nat) (m : Str → Option Value) (nw : Led) (lo hi : Int) : Prop where
  led : nw = ledger
  pins : ∀ p ∈ ps, m p.1 = some p.2
  h0 : 0 ≤ lo
  h1 : lo ≤ hi
  h2 : hi ≤ ns.length
  below : ∀ i : Nat, (i : Int) < lo → ∀ y, ns[i]? = some y → y < x
  above : ∀ i : Nat, hi ≤ (i : Int) → ∀ y, ns[i]? = some y → x ≤ y
  meas : n = (hi - lo).toNat
abbrev bisPs (l : Addr) (x : Int) (tx : Nat) (lo hi : Int) (tl th : Nat) : List (Str × Value) := [("a", .ref l), ("x", .int x tx), ("key", .none), ("lo", .int lo tl), ("hi", .int hi th)]
section
variable {ns : List Int} {x lo hi : Int}
theorem bis_mid (b0 : 0 ≤ lo) (h : lo < hi) : lo ≤ (lo + hi).fdiv 2 ∧ (lo + hi).fdiv 2 < hi := by
  rw [Int.fdiv_eq_ediv_of_nonneg _ (by decide)]
  omega
theorem bis_low1 (b0 : 0 ≤ lo) (h : lo < hi) : (hi - ((lo + hi).fdiv 2 + 1)).toNat < (hi - lo).toNat := by
  have := bis_mid b0 h
  omega
theorem bis_low2 (b0 : 0 ≤ lo) (h : lo < hi) : 0 ≤ (lo + hi).fdiv 2 + 1 := by
  have := bis_mid b0 h
  omega
theorem bis_low3 (b0 : 0 ≤ lo) (h : lo < hi) : (lo + hi).fdiv 2 + 1 ≤ hi := by
  have := bis_mid b0 h
  omega
theorem at_getD {i : Nat} (h : i < ns.length) : ns[i]? = some (ns.getD i 0) := by
  rw [List.getD_eq_getElem?_getD, List.getElem?_eq_getElem h]; rfl
theorem pw_lt (hs : ns.Pairwise (· < ·)) {i j : Nat} {a b : Int} (hij : i < j) (ha : ns[i]? = some a) (hb : ns[j]? = some b) : a < b := by
  obtain ⟨h1, e1⟩ := List.getElem?_eq_some_iff.mp ha
  obtain ⟨h2, e2⟩ := List.getElem?_eq_some_iff.mp hb
  have := List.pairwise_iff_getElem.mp hs i j h1 h2 hij
  rw [e1, e2] at this
  exact this
theorem bis_low4 (hs : ns.Pairwise (· < ·)) (b0 : 0 ≤ lo) (h : lo < hi) (b2 : hi ≤ ns.length) (hx : ns.getD ((lo + hi).fdiv 2).toNat 0 < x) : ∀ i : Nat, (i : Int) < (lo + hi).fdiv 2 + 1 → ∀ y, ns[i]? = some y → y < x := by
  intro i hi' y e
  have hm := bis_mid b0 h
  have hm' := at_getD (ns := ns) (i := ((lo + hi).fdiv 2).toNat) (by omega)
  rcases Nat.lt_or_ge i ((lo + hi).fdiv 2).toNat with h1 | h1
  · have := pw_lt hs h1 e hm'
    omega
  · have : i = ((lo + hi).fdiv 2).toNat := by omega
    rw [this, hm'] at e
    cases e
    exact hx
theorem bis_hi1 (b0 : 0 ≤ lo) (h : lo < hi) : ((lo + hi).fdiv 2 - lo).toNat < (hi - lo).toNat := by
  have := bis_mid b0 h
  omega
theorem bis_hi2 (b0 : 0 ≤ lo) (h : lo < hi) : lo ≤ (lo + hi).fdiv 2 := (bis_mid b0 h).1
theorem bis_hi3 (b0 : 0 ≤ lo) (h : lo < hi) (b2 : hi ≤ ns.length) : (lo + hi).fdiv 2 ≤ ns.length := by
  have := bis_mid b0 h
  omega
theorem bis_hi4 (hs : ns.Pairwise (· < ·)) (b0 : 0 ≤ lo) (h : lo < hi) (b2 : hi ≤ ns.length) (hx : ¬ ns.getD ((lo + hi).fdiv 2).toNat 0 < x) : ∀ i : Nat, (lo + hi).fdiv 2 ≤ (i : Int) → ∀ y, ns[i]? = some y → x ≤ y := by
  intro i hi' y e
  have hm := bis_mid b0 h
  have hm' := at_getD (ns := ns) (i := ((lo + hi).fdiv 2).toNat) (by omega)
  rcases Nat.lt_or_ge ((lo + hi).fdiv 2).toNat i with h1 | h1
  · have := pw_lt hs h1 hm' e
    omega
  · have : i = ((lo + hi).fdiv 2).toNat := by omega
    rw [this, hm'] at e
    cases e
    omega
end
set_option maxHeartbeats 4000000 in
theorem bisect_spec (w : World) (news : Led) (l : Addr) (vs : List Value) (ns : List Int) (x : Int) (tx t0 k : Nat) (hi : IntsAre vs ns) (hn : ns.length < 1000) (hs : ns.Pairwise (· < ·)) : Spec w (fun _ => True) ((l, listOf vs.toArray k) :: news) 32 [.ref l, .int x tx, .int 0 t0, .none] 1 8
    (fun v n => n = ((l, listOf vs.toArray k) :: news) ∧ ∃ pos tk, v = .int pos tk ∧ 0 ≤ pos ∧ pos ≤ ns.length ∧ (∀ i : Nat, (i : Int) < pos → ∀ y, ns[i]? = some y → y < x) ∧ ∀ i : Nat, pos ≤ (i : Int) → ∀ y, ns[i]? = some y → x ≤ y) := by
  k_with_none
  w_top off
  unfold Spec
  intro p loose mean mg mb dp un gd cn cs a ccd cl outer A₀ base h₀ L m s Q E kB kF kX kN kT hkind hdep hun hpre hret
  obtain ⟨kk, kn, kg, kc, km⟩ := cs
  dsimp only at hkind
  subst hkind
  ktr_unf
  k_with "exec While Compare cons nil" => (
    refine While_inv (fun n m nw => ∃ lo hi tl th, BisJ ((l, listOf vs.toArray k) :: news) (bisPs l x tx lo hi tl th) ns x n m nw lo hi) (by assumption) (by assumption) ⟨0, ns.length, _, _, ⟨rfl, pinsOk_cons rfl (pinsOk_cons rfl (pinsOk_cons rfl (pinsOk_cons rfl (pinsOk_cons rfl pinsOk_nil)))), by omega, by omega, by omega, fun i h => by omega, fun i h y e => by have := (List.getElem?_eq_some_iff.mp e).1; omega, rfl⟩⟩ ?_
    rintro n m₁ nw h₁ tk₁ F₁ N₁ ⟨lo, hi', tl, th, hJ⟩
    replace F₁ := fr_pins _ F₁ hJ.pins
    obtain rfl := hJ.led
    have b0 := hJ.h0
    have b1 := hJ.h1
    have b2 := hJ.h2
    try dsimp only)
  k_steps
  · refine WhileStep.intro (by assumption) (by assumption) ?_ ⟨_, _, _, _, ⟨rfl, pinsOk_cons rfl (pinsOk_cons rfl (pinsOk_cons rfl (pinsOk_cons rfl (pinsOk_cons rfl pinsOk_nil)))), ?_, ?_, b2, ?_, hJ.above, rfl⟩⟩
    · rw [hJ.meas]; exact bis_low1 b0 (by assumption)
    · exact bis_low2 b0 (by assumption)
    · exact bis_low3 b0 (by assumption)
    · exact bis_low4 hs b0 (by assumption) b2 (by assumption)
  · refine WhileStep.intro (by assumption) (by assumption) ?_ ⟨_, _, _, _, ⟨rfl, pinsOk_cons rfl (pinsOk_cons rfl (pinsOk_cons rfl (pinsOk_cons rfl (pinsOk_cons rfl pinsOk_nil)))), b0, ?_, ?_, hJ.below, ?_, rfl⟩⟩
    · rw [hJ.meas]; exact bis_hi1 b0 (by assumption)
    · exact bis_hi2 b0 (by assumption)
    · exact bis_hi3 b0 (by assumption) b2
    · exact bis_hi4 hs b0 (by assumption) b2 (by assumption)
  · have e : lo = hi' := by omega
    exact hret _ _ _ _ ⟨rfl, _, _, rfl, b0, by omega, hJ.below, by rw [e]; exact hJ.above⟩ (by assumption) (by assumption)
end
section

/-- ns' is ns with x laid in -/
structure Ins (ns : List Int) (x : Int) (ns' : List Int) : Prop where
  mem : ∀ y, y ∈ ns' ↔ y = x ∨ y ∈ ns
  len : ns'.length = ns.length + 1
  sorted : x ∉ ns → ns.Pairwise (· < ·) → ns'.Pairwise (· < ·)
theorem ins_of {ns : List Int} {x : Int} {pos : Nat} (hp : pos ≤ ns.length) (hb : ∀ i : Nat, i < pos → ∀ y, ns[i]? = some y → y < x) (ha : ∀ i : Nat, pos ≤ i → ∀ y, ns[i]? = some y → x ≤ y) : Ins ns x (ns.take pos ++ x :: ns.drop pos) where
  mem := fun y => by
    conv => rhs; rw [← List.take_append_drop pos ns]
    simp only [List.mem_append, List.mem_cons]
    constructor
    · rintro (h | h | h)
      · exact .inr (.inl h)
      · exact .inl h
      · exact .inr (.inr h)
    · rintro (h | h | h)
      · exact .inr (.inl h)
      · exact .inl h
      · exact .inr (.inr h)
  len := by
    rw [List.length_append, List.length_cons, List.length_take, List.length_drop]
    omega
  sorted := fun hx hs => by
    have h1 : ∀ y ∈ ns.take pos, y < x := fun y hy => by
      obtain ⟨i, hi, e⟩ := List.mem_take_iff_getElem.mp hy
      have hi' : i < pos ∧ i < ns.length := by omega
      exact hb i hi'.1 y (by rw [← e]; exact List.getElem?_eq_getElem hi'.2)
    have h2 : ∀ y ∈ ns.drop pos, x < y := fun y hy => by
      obtain ⟨i, hi, e⟩ := List.mem_drop_iff_getElem.mp hy
      have := ha (pos + i) (by omega) y (by rw [← e]; exact List.getElem?_eq_getElem (by omega))
      rcases Int.lt_or_eq_of_le this with h | h
      · exact h
      · exact absurd (h ▸ List.mem_of_mem_drop hy) hx
    refine List.pairwise_append.mpr ⟨hs.sublist (List.take_sublist _ _), List.pairwise_cons.mpr ⟨h2, hs.sublist (List.drop_sublist _ _)⟩, fun a ha' b hb' => ?_⟩
    rcases List.mem_cons.mp hb' with rfl | hb'
    · exact h1 a ha'
    · exact Int.lt_trans (h1 a ha') (h2 b hb')
theorem ints_ins {vs : List Value} {ns : List Int} {x : Int} {t : Tok} {pos : Int} (hi : IntsAre vs ns) (h0 : 0 ≤ pos) (h1 : pos ≤ ns.length) : IntsAre (kl_ins vs pos (.int x t)) (ns.take pos.toNat ++ x :: ns.drop pos.toNat) := by
  have hl := hi.length
  unfold kl_ins
  rw [if_neg (by omega), show min pos.toNat vs.length = pos.toNat by omega]
  exact (hi.take _).append (.cons _ _ (hi.drop _))
set_option maxHeartbeats 4000000 in
theorem insort_spec (w : World) (news : Led) (l : Addr) (vs : List Value) (ns : List Int) (x : Int) (tx k : Nat) (hi : IntsAre vs ns) (hn : ns.length < 1000) (hs : ns.Pairwise (· < ·)) (hl : ∀ p ∈ news, p.1 ≠ l) : Spec w (fun _ => True) ((l, listOf vs.toArray k) :: news) 23 [.ref l, .int x tx] 2 16
    (fun v n => v = .none ∧ ∃ vs' ns' k', n = ((l, listOf vs'.toArray k') :: news) ∧ IntsAre vs' ns' ∧ Ins ns x ns') := by
  k_with_none
  w_top off
  unfold Spec
  intro p loose mean mg mb dp un gd cn cs a ccd cl outer A₀ base h₀ L m s Q E kB kF kX kN kT hkind hdep hun hpre hret
  obtain ⟨kk, kn, kg, kc, km⟩ := cs
  dsimp only at hkind
  subst hkind
  ktr_unf
  k_with "call ref" => (
    k_dflt (refine' Spec.use (bisect_spec w news l vs ns x tx _ k hi hn hs) ?k1 ?k2 ?k3 ?k4 ?k5 ?kK ?kd ?ku ?kp ?ks ?_; (case k1 => k_asm); (case k2 => k_asm); (case k3 => k_asm); (case k4 => k_asm); (case k5 => k_asm); (case kK => rfl); (case kd => ktr_room); (case ku => ktr_units); (case kp => trivial); (case ks => exact fun _ h => h))
    rintro v nw h' tk' ⟨rfl, pos, tkp, rfl, b0, b1, bb, ba⟩ F' N'
    dsimp only)
  k_with "call builtin:list.insert" => (
    k_dflt (refine' kl_insert ?F ?N ?f rfl (Upd.head hl) ?z ?_; (case F => k_asm); (case N => k_asm); (case f => exact PySem.fitsIndex_of b0 (by omega)); (case z => (rw [sizeLine_eq]; have hz := hi.length; (show vs.length ≤ _); omega)))
    intro h' F' N')
  k_steps
  exact hret _ _ _ _ ⟨rfl, _, _, _, rfl, ints_ins hi b0 b1, ins_of (by omega) (fun i h => bb i (by omega)) (fun i h => ba i (by omega))⟩ (by assumption) (by assumption)
end
section
/-! linear algebra over bits -/
abbrev Vec := Nat → Bool
def vzero : Vec := fun _ => false
def vadd (u v : Vec) : Vec := fun i => (u i ^^ v i)
theorem vadd_comm (u v : Vec) : vadd u v = vadd v u := by funext i; simp [vadd, Bool.xor_comm]
theorem vadd_assoc (u v t : Vec) : vadd (vadd u v) t = vadd u (vadd v t) := by funext i; simp [vadd, Bool.xor_assoc]
theorem vadd_self (u : Vec) : vadd u u = vzero := by funext i; simp [vadd, vzero]
theorem vadd_zero (u : Vec) : vadd u vzero = u := by funext i; simp [vadd, vzero]
theorem zero_vadd (u : Vec) : vadd vzero u = u := by funext i; simp [vadd, vzero]
theorem vadd_cancel (u v : Vec) : vadd u (vadd u v) = v := by rw [← vadd_assoc, vadd_self, zero_vadd]
inductive Span (l : List Vec) : Vec → Prop
  | zero : Span l vzero
  | add {x v : Vec} : x ∈ l → Span l v → Span l (vadd x v)
theorem span_mem {l : List Vec} {x : Vec} (h : x ∈ l) : Span l x := by
  have := Span.add h (Span.zero (l := l))
  rwa [vadd_zero] at this
theorem span_add {l : List Vec} {u v : Vec} (hu : Span l u) (hv : Span l v) : Span l (vadd u v) := by
  induction hu with
  | zero => rwa [zero_vadd]
  | add hx _ ih => rw [vadd_assoc]; exact .add hx ih
theorem span_sub {l l' : List Vec} {v : Vec} (h : ∀ x ∈ l, Span l' x) (hv : Span l v) : Span l' v := by
  induction hv with
  | zero => exact .zero
  | add hx _ ih => exact span_add (h _ hx) ih
theorem span_mono {l l' : List Vec} {v : Vec} (h : ∀ x ∈ l, x ∈ l') (hv : Span l v) : Span l' v := span_sub (fun x hx => span_mem (h x hx)) hv
theorem span_coord {l : List Vec} {v : Vec} {i : Nat} (h : ∀ x ∈ l, x i = false) (hv : Span l v) : v i = false := by
  induction hv with
  | zero => rfl
  | add hx _ ih => simp [vadd, h _ hx, ih]
def Indep : List Vec → Prop
  | [] => True
  | x :: r => ¬ Span r x ∧ Indep r
theorem span_remove {r Z : List Vec} {z v : Vec} (h : Span (r ++ z :: Z) v) : Span (r ++ Z) v ∨ Span (r ++ Z) (vadd v z) := by
  induction h with
  | zero => exact .inl .zero
  | @add x v hx _ ih =>
    rcases List.mem_append.mp hx with hx | hx
    · rcases ih with ih | ih
      · exact .inl (.add (List.mem_append_left _ hx) ih)
      · exact .inr (by rw [vadd_assoc]; exact .add (List.mem_append_left _ hx) ih)
    · rcases List.mem_cons.mp hx with rfl | hx
      · rcases ih with ih | ih
        · exact .inr (by rw [vadd_comm, vadd_cancel]; exact ih)
        · exact .inl (by rw [vadd_comm]; exact ih)
      · rcases ih with ih | ih
        · exact .inl (.add (List.mem_append_right _ hx) ih)
        · exact .inr (by rw [vadd_assoc]; exact .add (List.mem_append_right _ hx) ih)
theorem span_split {r : List Vec} : ∀ {Z : List Vec} {x : Vec}, Span (r ++ Z) x → Span r x ∨ ∃ Z1 z Z2, Z = Z1 ++ z :: Z2 ∧ Span (r ++ (Z1 ++ Z2)) (vadd x z)
  | [], x, h => .inl (by rwa [List.append_nil] at h)
  | z :: Z, x, h => by
    rcases span_remove h with h | h
    · rcases span_split h with h2 | ⟨Z1, z', Z2, e, h2⟩
      · exact .inl h2
      · refine .inr ⟨z :: Z1, z', Z2, by rw [e]; rfl, span_mono (fun y hy => ?_) h2⟩
        rcases List.mem_append.mp hy with hy | hy
        · exact List.mem_append_left _ hy
        · exact List.mem_append_right _ (List.mem_cons_of_mem _ hy)
    · exact .inr ⟨[], z, Z, rfl, h⟩
theorem exchange {Y : List Vec} : ∀ {X : List Vec}, Indep X → (∀ x ∈ X, Span Y x) → ∃ Z : List Vec, Z.length + X.length = Y.length ∧ ∀ v, Span Y v → Span (X ++ Z) v
  | [], _, _ => ⟨Y, rfl, fun _ h => h⟩
  | x :: r, hi, hs => by
    obtain ⟨Z, hl, hZ⟩ := exchange hi.2 fun y hy => hs y (List.mem_cons_of_mem _ hy)
    rcases span_split (hZ x (hs x List.mem_cons_self)) with h | ⟨Z1, z, Z2, rfl, h⟩
    · exact absurd h hi.1
    · refine ⟨Z1 ++ Z2, ?_, fun v hv => span_sub (fun y hy => ?_) (hZ v hv)⟩
      · simp only [List.length_append, List.length_cons] at hl ⊢
        omega
      · have sub : ∀ y, Span (r ++ (Z1 ++ Z2)) y → Span ((x :: r) ++ (Z1 ++ Z2)) y := fun y hy => span_mono (fun q hq => by rw [List.cons_append]; exact List.mem_cons_of_mem _ hq) hy
        rcases List.mem_append.mp hy with hy | hy
        · exact span_mem (List.mem_append_left _ (List.mem_cons_of_mem _ hy))
        · rcases List.mem_append.mp hy with hy | hy
          · exact span_mem (List.mem_append_right _ (List.mem_append_left _ hy))
          · rcases List.mem_cons.mp hy with rfl | hy
            · have := Span.add (x := x) (l := (x :: r) ++ (Z1 ++ Z2)) (List.mem_append_left _ List.mem_cons_self) (sub _ h)
              rwa [vadd_cancel] at this
            · exact span_mem (List.mem_append_right _ (List.mem_append_right _ hy))
theorem steinitz {X Y : List Vec} (hi : Indep X) (hs : ∀ x ∈ X, Span Y x) : X.length ≤ Y.length := by
  obtain ⟨Z, h, _⟩ := exchange hi hs
  omega
/-! linear maps -/
structure Lin (f : Vec → Vec) : Prop where
  add : ∀ u v, f (vadd u v) = vadd (f u) (f v)
theorem Lin.zero {f : Vec → Vec} (h : Lin f) : f vzero = vzero := by
  have := h.add vzero vzero
  rw [vadd_self] at this
  rw [this, vadd_self]
theorem span_map {f : Vec → Vec} (hf : Lin f) {l : List Vec} {v : Vec} (h : Span l v) : Span (l.map f) (f v) := by
  induction h with
  | zero => rw [hf.zero]; exact .zero
  | add hx _ ih => rw [hf.add]; exact .add (List.mem_map_of_mem hx) ih
theorem span_unmap {f : Vec → Vec} (hf : Lin f) {l : List Vec} {w : Vec} (h : Span (l.map f) w) : ∃ v, Span l v ∧ w = f v := by
  induction h with
  | zero => exact ⟨vzero, .zero, hf.zero.symm⟩
  | add hx _ ih =>
    obtain ⟨v, h1, rfl⟩ := ih
    obtain ⟨x, hx2, rfl⟩ := List.mem_map.mp hx
    exact ⟨vadd x v, .add hx2 h1, (hf.add _ _).symm⟩
theorem indep_map {f : Vec → Vec} (hf : Lin f) (inj : ∀ u v, f u = f v → u = v) : ∀ {l : List Vec}, Indep l → Indep (l.map f)
  | [], _ => trivial
  | x :: r, h => ⟨fun hs => by
      obtain ⟨v, h1, h2⟩ := span_unmap hf hs
      rw [inj _ _ h2] at h
      exact h.1 h1, indep_map hf inj h.2⟩
/-! unit vectors, supports -/
def unit (k : Nat) : Vec := fun i => i == k
theorem span_support {R : List Vec} : ∀ (n : Nat) (v : Vec), (∀ i, v i = true → i < n) → (∀ i, v i = true → Span R (unit i)) → Span R v
  | 0, v, h, _ => by
    have : v = vzero := by
      funext i
      cases hv : v i with
      | false => rfl
      | true => exact absurd (h i hv) (Nat.not_lt_zero _)
    rw [this]; exact .zero
  | n + 1, v, h, hu => by
    cases hv : v n with
    | false =>
      refine span_support n v (fun i hi => ?_) hu
      have := h i hi
      rcases Nat.lt_succ_iff_lt_or_eq.mp this with h1 | h1
      · exact h1
      · rw [h1, hv] at hi; cases hi
    | true =>
      have e : v = vadd (unit n) (vadd (unit n) v) := (vadd_cancel _ _).symm
      rw [e]
      have key : ∀ i, vadd (unit n) v i = true → v i = true ∧ i ≠ n := fun i hi => by
        by_cases hin : i = n
        · subst hin; simp [vadd, unit, hv] at hi
        · refine ⟨?_, hin⟩
          have hu : unit n i = false := by simp [unit, hin]
          simpa [vadd, hu] using hi
      refine span_add (hu n hv) (span_support n _ (fun i hi => ?_) fun i hi => hu i (key i hi).1)
      have := key i hi
      have := h i this.1
      omega
theorem indep_units : ∀ {l : List Nat}, l.Nodup → Indep (l.map unit)
  | [], _ => trivial
  | a :: r, h => by
    have h' := List.nodup_cons.mp h
    refine ⟨fun hs => ?_, indep_units h'.2⟩
    have := span_coord (i := a) (fun x hx => ?_) hs
    · simp [unit] at this
    · obtain ⟨b, hb, rfl⟩ := List.mem_map.mp hx
      have : a ≠ b := fun e => h'.1 (e ▸ hb)
      simp [unit, this]
end
section
/-! bits of numbers -/
theorem nat_xor_and : ∀ a b : Nat, (a ^^^ b) + 2 * (a &&& b) = a + b := by
  intro a
  induction a using Nat.strongRecOn with
  | _ a ih =>
    intro b
    by_cases ha : a = 0
    · subst ha; simp
    · have h1 := ih (a / 2) (by omega) (b / 2)
      have hx : (a ^^^ b) / 2 = a / 2 ^^^ b / 2 := Nat.xor_div_two
      have hn : (a &&& b) / 2 = a / 2 &&& b / 2 := Nat.and_div_two
      have hx2 : (a ^^^ b) % 2 = (a % 2 + b % 2) % 2 := by
        have : (a ^^^ b) % 2 = (a % 2) ^^^ (b % 2) := by
          have := Nat.xor_mod_two_pow (a := a) (b := b) (n := 1)
          simpa using this
        rw [this]
        rcases Nat.mod_two_eq_zero_or_one a with h | h <;> rcases Nat.mod_two_eq_zero_or_one b with h' | h' <;> rw [h, h'] <;> rfl
      have hn2 : (a &&& b) % 2 = (a % 2) * (b % 2) := by
        have : (a &&& b) % 2 = (a % 2) &&& (b % 2) := by
          have := Nat.and_mod_two_pow (a := a) (b := b) (n := 1)
          simpa using this
        rw [this]
        rcases Nat.mod_two_eq_zero_or_one a with h | h <;> rcases Nat.mod_two_eq_zero_or_one b with h' | h' <;> rw [h, h'] <;> rfl
      rw [← hx, ← hn] at h1
      have e1 := Nat.div_add_mod (a ^^^ b) 2
      have e2 := Nat.div_add_mod (a &&& b) 2
      have e3 := Nat.div_add_mod a 2
      have e4 := Nat.div_add_mod b 2
      rcases Nat.mod_two_eq_zero_or_one a with h | h <;> rcases Nat.mod_two_eq_zero_or_one b with h' | h' <;> rw [h, h'] at hx2 hn2 <;> omega
theorem bitXor_nat (a b : Nat) : Builtin.bitXor (a : Int) (b : Int) = ((a ^^^ b : Nat) : Int) := by
  rw [bitXor_and]
  have h : Builtin.bitAnd (a : Int) (b : Int) = ((a &&& b : Nat) : Int) := by
    unfold Builtin.bitAnd
    simp
  have := nat_xor_and a b
  rw [h]
  omega
theorem lt_of_bits {n m i : Nat} (hn : n.testBit i = false) (hm : m.testBit i = true) (h : ∀ j, i < j → n.testBit j = m.testBit j) : n < m := by
  have hq : n / 2 ^ (i + 1) = m / 2 ^ (i + 1) := Nat.eq_of_testBit_eq fun j => by
    rw [Nat.testBit_div_two_pow, Nat.testBit_div_two_pow]
    exact h _ (by omega)
  have h1 : n / 2 ^ i % 2 = 0 := by
    rw [Nat.testBit_eq_decide_div_mod_eq] at hn
    have := of_decide_eq_false hn
    omega
  have h2 : m / 2 ^ i % 2 = 1 := by
    rw [Nat.testBit_eq_decide_div_mod_eq] at hm
    exact of_decide_eq_true hm
  rw [Nat.pow_succ, ← Nat.div_div_eq_div_mul, ← Nat.div_div_eq_div_mul] at hq
  have h3 : n / 2 ^ i < m / 2 ^ i := by omega
  rcases Nat.lt_or_ge n m with h4 | h4
  · exact h4
  · exact absurd (Nat.div_le_div_right (c := 2 ^ i) h4) (by omega)
def vec (x : Int) : Vec := fun i => x.toNat.testBit i
def lead (x : Int) : Nat := x.toNat.log2
theorem vec_lead {x : Int} (h : 0 < x) : vec x (lead x) = true := Nat.testBit_log2 (by omega)
theorem vec_above {x : Int} {i : Nat} (h : 0 < x) (hi : lead x < i) : vec x i = false :=
  Nat.testBit_lt_two_pow ((Nat.log2_lt (by omega)).mp hi)
theorem vec_xor {x y : Int} (hx : 0 ≤ x) (hy : 0 ≤ y) : 0 ≤ Builtin.bitXor x y ∧ vec (Builtin.bitXor x y) = vadd (vec x) (vec y) := by
  obtain ⟨a, rfl⟩ := Int.eq_ofNat_of_zero_le hx
  obtain ⟨b, rfl⟩ := Int.eq_ofNat_of_zero_le hy
  rw [bitXor_nat]
  refine ⟨by omega, ?_⟩
  funext i
  simp [vec, vadd, Nat.testBit_xor]
def redStep (r o : Int) : Int := if Builtin.bitXor r o < r then Builtin.bitXor r o else r
theorem redStep_facts {r o : Int} (hr : 0 ≤ r) (ho : 0 < o) : 0 ≤ redStep r o ∧ (vec (redStep r o) = vec r ∨ vec (redStep r o) = vadd (vec r) (vec o)) ∧ vec (redStep r o) (lead o) = false := by
  have hx := vec_xor hr (Int.le_of_lt ho)
  have hlo := vec_lead ho
  unfold redStep
  by_cases hb : vec r (lead o) = true
  · have hlt : Builtin.bitXor r o < r := by
      have : (Builtin.bitXor r o).toNat < r.toNat := by
        refine lt_of_bits (i := lead o) ?_ hb fun j hj => ?_
        · show vec (Builtin.bitXor r o) (lead o) = false
          rw [hx.2]; simp [vadd, hb, hlo]
        · show vec (Builtin.bitXor r o) j = vec r j
          rw [hx.2]; simp [vadd, vec_above ho hj]
      omega
    rw [if_pos hlt]
    exact ⟨hx.1, .inr hx.2, by rw [hx.2]; simp [vadd, hb, hlo]⟩
  · have hb' : vec r (lead o) = false := by simpa using hb
    have hlt : ¬ Builtin.bitXor r o < r := by
      have : r.toNat < (Builtin.bitXor r o).toNat := by
        refine lt_of_bits (i := lead o) hb' ?_ fun j hj => ?_
        · show vec (Builtin.bitXor r o) (lead o) = true
          rw [hx.2]; simp [vadd, hb', hlo]
        · show vec r j = vec (Builtin.bitXor r o) j
          rw [hx.2]; simp [vadd, vec_above ho hj]
      omega
    rw [if_neg hlt]
    exact ⟨hr, .inl rfl, hb'⟩
theorem red_facts : ∀ (l : List Int) (r : Int), 0 ≤ r → (∀ o ∈ l, 0 < o) → l.Pairwise (fun a b => lead b < lead a) →
    0 ≤ l.foldl redStep r ∧ Span (l.map vec) (vadd (vec (l.foldl redStep r)) (vec r)) ∧ (∀ o ∈ l, vec (l.foldl redStep r) (lead o) = false) ∧ ∀ i, (∀ o ∈ l, lead o < i) → vec (l.foldl redStep r) i = vec r i
  | [], r, hr, _, _ => ⟨hr, by simp only [List.foldl_nil, vadd_self]; exact .zero, (fun _ h => nomatch h), fun _ _ => rfl⟩
  | o :: l, r, hr, hp, hs => by
    have hs' := List.pairwise_cons.mp hs
    have ho := hp o List.mem_cons_self
    obtain ⟨s1, s2, s3⟩ := redStep_facts hr ho
    obtain ⟨i1, i2, i3, i4⟩ := red_facts l (redStep r o) s1 (fun a ha => hp a (List.mem_cons_of_mem _ ha)) hs'.2
    rw [List.foldl_cons]
    refine ⟨i1, ?_, fun a ha => ?_, fun i hi => ?_⟩
    · have i2' : Span ((o :: l).map vec) (vadd (vec (l.foldl redStep (redStep r o))) (vec (redStep r o))) := span_mono (fun y hy => by rw [List.map_cons]; exact List.mem_cons_of_mem _ hy) i2
      rcases s2 with e | e
      · rw [e] at i2'; exact i2'
      · rw [e] at i2'
        have := Span.add (x := vec o) (by rw [List.map_cons]; exact List.mem_cons_self) i2'
        rw [show vadd (vec (l.foldl redStep (redStep r o))) (vec r) = vadd (vec o) (vadd (vec (l.foldl redStep (redStep r o))) (vadd (vec r) (vec o))) by
          funext i; simp only [vadd]; cases vec o i <;> simp]
        exact this
    · rcases List.mem_cons.mp ha with rfl | ha
      · rw [i4 (lead a) hs'.1]; exact s3
      · exact i3 a ha
    · rw [i4 i fun a ha => hi a (List.mem_cons_of_mem _ ha)]
      rcases s2 with e | e
      · rw [e]
      · rw [e]; simp [vadd, vec_above ho (hi o List.mem_cons_self)]
/-- what the program keeps of the rows -/
inductive KeptOf : List Int → List Int → Prop
  | nil : KeptOf [] []
  | skip {pre ks : List Int} {row : Int} : KeptOf pre ks → ks.reverse.foldl redStep row = 0 → KeptOf (pre ++ [row]) ks
  | keep {pre ks ks' : List Int} {row : Int} : KeptOf pre ks → ks.reverse.foldl redStep row ≠ 0 → Ins ks (ks.reverse.foldl redStep row) ks' → KeptOf (pre ++ [row]) ks'
structure KeptFacts (pre ks : List Int) : Prop where
  pos : ∀ a ∈ ks, 0 < a
  sorted : ks.Pairwise (· < ·)
  inj : ∀ a ∈ ks, ∀ b ∈ ks, lead a = lead b → a = b
  spanK : ∀ a ∈ ks, Span (pre.map vec) (vec a)
  spanR : ∀ r ∈ pre, Span (ks.map vec) (vec r)
  len : ks.length ≤ pre.length
theorem lead_mono {a b : Int} (ha : 0 < a) (h : a < b) : lead a ≤ lead b := by
  unfold lead
  have h1 : 2 ^ a.toNat.log2 ≤ a.toNat := Nat.log2_self_le (by omega)
  have h2 : b.toNat < 2 ^ (b.toNat.log2 + 1) := Nat.lt_log2_self
  have h3 : 2 ^ a.toNat.log2 < 2 ^ (b.toNat.log2 + 1) := by omega
  have := (Nat.pow_lt_pow_iff_right (a := 2) (by decide)).mp h3
  omega
theorem KeptFacts.desc {pre ks : List Int} (h : KeptFacts pre ks) : ks.reverse.Pairwise (fun a b => lead b < lead a) := by
  rw [List.pairwise_reverse]
  refine h.sorted.imp_of_mem fun {a b} ha hb hab => ?_
  have h1 := lead_mono (h.pos a ha) hab
  rcases Nat.lt_or_eq_of_le h1 with h2 | h2
  · exact h2
  · have := h.inj a ha b hb h2
    omega
theorem KeptFacts.red {pre ks : List Int} (h : KeptFacts pre ks) {row : Int} (hr : 0 ≤ row) :
    0 ≤ ks.reverse.foldl redStep row ∧ Span (ks.map vec) (vadd (vec (ks.reverse.foldl redStep row)) (vec row)) ∧ ∀ o ∈ ks, vec (ks.reverse.foldl redStep row) (lead o) = false := by
  obtain ⟨h1, h2, h3, _⟩ := red_facts ks.reverse row hr (fun o ho => h.pos o (List.mem_reverse.mp ho)) h.desc
  exact ⟨h1, span_mono (fun y hy => by
    obtain ⟨a, ha, rfl⟩ := List.mem_map.mp hy
    exact List.mem_map_of_mem (List.mem_reverse.mp ha)) h2, fun o ho => h3 o (List.mem_reverse.mpr ho)⟩
theorem KeptFacts.fresh {pre ks : List Int} (h : KeptFacts pre ks) {row : Int} (hr : 0 ≤ row) (hne : ks.reverse.foldl redStep row ≠ 0) : ∀ o ∈ ks, lead o ≠ lead (ks.reverse.foldl redStep row) := fun o ho e => by
  obtain ⟨h1, _, h3⟩ := h.red hr
  have := h3 o ho
  rw [e, vec_lead (by omega)] at this
  cases this
theorem keptOf_facts {pre ks : List Int} (h : KeptOf pre ks) : (∀ r ∈ pre, 0 ≤ r) → KeptFacts pre ks := by
  induction h with
  | nil => exact fun _ => ⟨(fun _ h => nomatch h), .nil, (fun _ h => nomatch h), (fun _ h => nomatch h), (fun _ h => nomatch h), Nat.le_refl _⟩
  | @skip pre ks row hk hz ih =>
    intro hp
    have F := ih fun r hr => hp r (List.mem_append_left _ hr)
    have hrow := hp row (List.mem_append_right _ (List.mem_singleton.mpr rfl))
    refine ⟨F.pos, F.sorted, F.inj, fun a ha => span_mono (fun y hy => ?_) (F.spanK a ha), fun r hr => ?_, Nat.le_trans F.len (by simp)⟩
    · rw [List.map_append]; exact List.mem_append_left _ hy
    · rcases List.mem_append.mp hr with hr | hr
      · exact F.spanR r hr
      · obtain rfl := List.mem_singleton.mp hr
        have := (F.red hrow).2.1
        rw [hz] at this
        have e : vec 0 = vzero := by funext i; simp [vec, vzero]
        rwa [e, zero_vadd] at this
  | @keep pre ks ks' row hk hne hins ih =>
    intro hp
    have F := ih fun r hr => hp r (List.mem_append_left _ hr)
    have hrow := hp row (List.mem_append_right _ (List.mem_singleton.mpr rfl))
    obtain ⟨h1, h2, h3⟩ := F.red hrow
    have hfresh := F.fresh hrow hne
    have hpos : 0 < ks.reverse.foldl redStep row := by omega
    have hnot : ks.reverse.foldl redStep row ∉ ks := fun hm => hfresh _ hm rfl
    have hsub : ∀ y ∈ ks.map vec, y ∈ ks'.map vec := fun y hy => by
      obtain ⟨a, ha, rfl⟩ := List.mem_map.mp hy
      exact List.mem_map_of_mem ((hins.mem a).mpr (.inr ha))
    have hpre : ∀ y ∈ pre.map vec, y ∈ (pre ++ [row]).map vec := fun y hy => by rw [List.map_append]; exact List.mem_append_left _ hy
    have hrowm : vec row ∈ (pre ++ [row]).map vec := by rw [List.map_append]; exact List.mem_append_right _ (by simp)
    refine ⟨fun a ha => ?_, hins.sorted hnot F.sorted, fun a ha b hb e => ?_, fun a ha => ?_, fun r hr => ?_, by rw [hins.len, List.length_append, List.length_singleton]; exact Nat.succ_le_succ F.len⟩
    · rcases (hins.mem a).mp ha with rfl | ha
      · exact hpos
      · exact F.pos a ha
    · rcases (hins.mem a).mp ha with rfl | ha <;> rcases (hins.mem b).mp hb with rfl | hb
      · rfl
      · exact absurd e.symm (hfresh b hb)
      · exact absurd e (hfresh a ha)
      · exact F.inj a ha b hb e
    · rcases (hins.mem a).mp ha with rfl | ha
      · have t1 : Span ((pre ++ [row]).map vec) (vadd (vec (ks.reverse.foldl redStep row)) (vec row)) := span_mono hpre (span_sub (fun y hy => by
          obtain ⟨a, ha, rfl⟩ := List.mem_map.mp hy
          exact F.spanK a ha) h2)
        have t2 := Span.add hrowm t1
        rwa [vadd_comm, vadd_assoc, vadd_self, vadd_zero] at t2
      · exact span_mono hpre (F.spanK a ha)
    · rcases List.mem_append.mp hr with hr | hr
      · exact span_mono hsub (F.spanR r hr)
      · obtain rfl := List.mem_singleton.mp hr
        have t1 := Span.add (x := vec (ks.reverse.foldl redStep r)) (List.mem_map_of_mem ((hins.mem _).mpr (.inl rfl))) (span_mono hsub h2)
        rwa [vadd_cancel] at t1
theorem indep_desc : ∀ {l : List Int}, (∀ a ∈ l, 0 < a) → l.Pairwise (fun a b => lead b < lead a) → Indep (l.map vec)
  | [], _, _ => trivial
  | a :: r, hp, hs => by
    have hs' := List.pairwise_cons.mp hs
    refine ⟨fun h => ?_, indep_desc (fun b hb => hp b (List.mem_cons_of_mem _ hb)) hs'.2⟩
    have := span_coord (i := lead a) (fun x hx => ?_) h
    · rw [vec_lead (hp a List.mem_cons_self)] at this; cases this
    · obtain ⟨b, hb, rfl⟩ := List.mem_map.mp hx
      exact vec_above (hp b (List.mem_cons_of_mem _ hb)) (hs'.1 b hb)
theorem KeptFacts.indep {pre ks : List Int} (h : KeptFacts pre ks) : Indep (ks.reverse.map vec) := indep_desc (fun a ha => h.pos a (List.mem_reverse.mp ha)) h.desc
end
section

set_option maxHeartbeats 4000000 in
theorem strcoll_spec (w : World) (news : Led) (a b : Str) (ta tb : Tok) : Spec w (fun _ => True) news 39 [.str a ta, .str b tb] 1 8
    (fun v n => n = news ∧ ∃ tk, v = .int (b2i (decide (b.cps.toList < a.cps.toList)) - b2i (decide (a.cps.toList < b.cps.toList))) tk) := by
  k_with_none
  w_top off
  unfold Spec
  intro p loose mean mg mb dp un gd cn cs a ccd cl outer A₀ base h₀ L m s Q E kB kF kX kN kT hkind hdep hun hpre hret
  obtain ⟨kk, kn, kg, kc, km⟩ := cs
  dsimp only at hkind
  subst hkind
  ktr_unf
  k_steps
  exact hret _ _ _ _ ⟨rfl, _, rfl⟩ (by assumption) (by assumption)
set_option maxHeartbeats 4000000 in
theorem localename_spec (w : World) (news : Led) (a b : Str) (t : Addr) (ta tb : Tok) (hl : a.length ≤ 1000000) (hb : b.length ≤ 1000) : Spec w (fun _ => True) ((t, tupOf [.str a ta, .str b tb]) :: news) 46 [.ref t] 2 16
    (fun v n => n = ((t, tupOf [.str a ta, .str b tb]) :: news) ∧ ∃ tk, v = .str (a ++ "." ++ b) tk) := by
  k_with_none
  w_top off
  unfold Spec
  intro p loose mean mg mb dp un gd cn cs a ccd cl outer A₀ base h₀ L m s Q E kB kF kX kN kT hkind hdep hun hpre hret
  obtain ⟨kk, kn, kg, kc, km⟩ := cs
  dsimp only at hkind
  subst hkind
  ktr_unf
  k_steps
  exact hret _ _ _ _ ⟨rfl, _, rfl⟩ (by assumption) (by assumption)
theorem str_short {ws : List Str} (h : ∀ x ∈ ws, x.length ≤ 1000) (i : Nat) : ((ws.getD i Str.empty).length : Int) < 9223372036854775808 := by
  have : (ws.getD i Str.empty).length ≤ 1000 := by
    rw [List.getD_eq_getElem?_getD]
    cases hx : ws[i]? with
    | none => simp [Str.length, Str.empty]
    | some x => exact h x (List.mem_of_getElem? hx)
  omega
end
section

structure KeptJ (ra : Addr) (us : List Value) (k : Nat) (news : Led) (rows : List Int) (i : Nat) (m : Str → Option Value) (nw : Led) (ka : Addr) (vs : List Value) (k' : Nat) (ks : List Int) : Prop where
  led : nw = (ka, listOf vs.toArray k') :: (ra, listOf us.toArray k) :: news
  pins : ∀ p ∈ [(("kept" : Str), Value.ref ka), ("rows", .ref ra)], m p.1 = some p.2
  lt : ra < ka ∧ AllLt ka news
  vals : IntsAre vs ks
  kept : KeptOf (rows.take i) ks
theorem KeptJ.src {ra : Addr} {us : List Value} {k : Nat} {news : Led} {rows : List Int} {i : Nat} {m : Str → Option Value} {nw : Led} {ka : Addr} {vs : List Value} {k' : Nat} {ks : List Int} (h : KeptJ ra us k news rows i m nw ka vs k' ks) : (ra, listOf us.toArray k) ∈ nw := by
  rw [h.led]; exact .tail _ (.head _)
set_option maxHeartbeats 4000000 in
theorem kept_spec (w : World) (news : Led) (ra : Addr) (us : List Value) (rows : List Int) (k : Nat) (hi : IntsAre us rows) (hn : rows.length < 50) (hp : ∀ r ∈ rows, 0 ≤ r) : Spec w (fun _ => True) ((ra, listOf us.toArray k) :: news) 105 [.ref ra] 4 200
    (fun v n => ∃ t ks tk, KeptOf rows ks ∧ v = .ref t ∧ n = (t, tupOf [.int ks.length tk, .bool true]) :: (ra, listOf us.toArray k) :: news ∧ ∀ p ∈ (ra, listOf us.toArray k) :: news, p.1 < t) := by
  k_with_none
  w_top off
  unfold Spec
  intro p loose mean mg mb dp un gd cn cs a ccd cl outer A₀ base h₀ L m s Q E kB kF kX kN kT hkind hdep hun hpre hret
  obtain ⟨kk, kn, kg, kc, km⟩ := cs
  dsimp only at hkind
  subst hkind
  ktr_unf
  k_steps
  refine forSrc_ints (by rfl) hi (by assumption) (by assumption) (fun i m nw => ∃ ka vs k' ks, KeptJ ra us k news rows i m nw ka vs k' ks) ⟨_, [], _, [], ⟨rfl, pinsOk_cons rfl (pinsOk_cons rfl pinsOk_nil), by assumption, .nil, .nil⟩⟩ (fun i m nw ⟨ka, vs, k', ks, hJ⟩ => hJ.src) ?_ ?_
  · rintro i row tr m₁ nw h tk I oI hrow ⟨ka, vs, k', ks, hJ⟩ off F₁ N₁
    obtain ⟨hlt1, hlt2⟩ := hJ.lt
    replace F₁ := fr_pins _ F₁ hJ.pins
    obtain rfl := hJ.led
    have hJi := hJ.vals
    have KF := keptOf_facts hJ.kept (fun r hr => hp r (List.mem_of_mem_take hr))
    have hlen : ks.length < 50 := by
      have h1 := KF.len
      rw [List.length_take] at h1
      omega
    have hz : vs.toArray.size ≤ sizeLine := by
      rw [sizeLine_eq, List.size_toArray, hJi.length]
      omega
    k_steps
    rename_i D2 ws2 h2 F2 N2 l2 hI2 hC2
    refine forSrc_intsC (by rfl) (by assumption) (by assumption) (by assumption) (.head _) (fun j m' => ∃ t, m' "kept" = some (.ref ka) ∧ m' "rows" = some (.ref ra) ∧ m' "rest" = some (.int ((ks.reverse.take j).foldl redStep row) t)) ⟨_, rfl, rfl, rfl⟩ ?_ ?_
    · rintro j one t1 m₂ h tk I2 oI2 hone ⟨t2, p1, p2, p3⟩ off2 F₂ N₂
      replace F₂ := fr_pins _ F₂ (pinsOk_cons p1 (pinsOk_cons p2 (pinsOk_cons p3 pinsOk_nil)))
      k_steps
      refine turnEndC (by assumption) (by assumption) off2 (.head _) (fun _ h => .tail _ h) ?_
      rw [List.take_add_one, hone, Option.toList_some, List.foldl_append]
      exact ⟨_, rfl, rfl, rfl⟩
    · rintro m₂ h tk ⟨t2, p1, p2, p3⟩ F₂ N₂
      rw [List.take_length] at p3
      replace F₂ := fr_pins _ F₂ (pinsOk_cons p1 (pinsOk_cons p2 (pinsOk_cons p3 pinsOk_nil)))
      have hrow0 : 0 ≤ row := hp row (List.mem_of_getElem? hrow)
      have hpre : rows.take (i + 1) = rows.take i ++ [row] := by rw [List.take_add_one, hrow]; rfl
      k_with "call ref" => (
        k_dflt (refine' Spec.use (insort_spec w ((D2, listOf ws2.toArray 0) :: (I, oI) :: (ra, listOf us.toArray k) :: news) ka vs ks _ _ k' hJi ?ha KF.sorted ?hne) ?k1 ?k2 ?k3 ?k4 ?k5 ?kK ?kd ?ku ?kp ?ks ?_; (case k1 => k_asm); (case k2 => k_asm); (case k3 => k_asm); (case k4 => k_asm); (case k5 => k_asm); (case kK => rfl); (case kd => ktr_room); (case ku => ktr_units); (case kp => trivial); (case ks => exact sub2); (case ha => omega); (case hne => exact ne_cons (Nat.ne_of_gt (l2 (ka, _) (.tail _ (.head _)))) (ne_cons (Ne.symm (off (ka, _) (.head _))) (ne_cons (Nat.ne_of_lt hlt1) (allLt_ne hlt2)))))
        rintro v nw h' tk' ⟨rfl, vs3, ks3, k3, rfl, hv3, hins⟩ F' N'
        dsimp only)
      k_steps
      · refine turnEnd ((ka, listOf vs3.toArray k3) :: (ra, listOf us.toArray k) :: news) (by assumption) (by assumption) (.tail _ (.tail _ (.head _))) ?_ ?_ ⟨ka, vs3, k3, ks3, ⟨rfl, pinsOk_cons rfl (pinsOk_cons rfl pinsOk_nil), ⟨hlt1, hlt2⟩, hv3, ?_⟩⟩
        · intro q hq
          simp only [List.mem_cons] at hq ⊢
          rcases hq with hq | hq | hq <;> simp [hq]
        · exact ne_cons (off (ka, _) (.head _)) fun q hq => off q (.tail _ hq)
        · rw [hpre]; exact .keep hJ.kept (by assumption) hins
      · refine turnEnd ((ka, listOf vs.toArray k') :: (ra, listOf us.toArray k) :: news) (by assumption) (by assumption) (.tail _ (.head _)) (fun _ h => .tail _ (.tail _ h)) off ⟨ka, vs, k', ks, ⟨rfl, pinsOk_cons rfl (pinsOk_cons rfl pinsOk_nil), ⟨hlt1, hlt2⟩, hJi, ?_⟩⟩
        rw [hpre]; exact .skip hJ.kept (by assumption)
  · rintro m₁ nw h tk ⟨ka, vs, k', ks, hJ⟩ F₁ N₁
    obtain ⟨hlt1, hlt2⟩ := hJ.lt
    replace F₁ := fr_pins _ F₁ hJ.pins
    obtain rfl := hJ.led
    have hJi := hJ.vals
    have hK := hJ.kept
    rw [List.take_length] at hK
    have KF := keptOf_facts hK hp
    have hlen : ks.length < 50 := by
      have h1 := KF.len
      omega
    have hz : vs.toArray.size ≤ sizeLine := by
      rw [sizeLine_eq, List.size_toArray, hJi.length]
      omega
    k_with "call builtin:sorted" => (
      k_dflt (refine' kso_sorted ?F ?N (News.isList ?N2 ?l) hJi (by omega) ?_; (case F => k_asm); (case N => k_asm); (case N2 => k_asm); (case l => k_mem))
      intro D9 vs9 ns9 c9 h9 F9 N9 l9 i9 e9 p9 o9 b9)
    k_with "compareOp Eq ref ref" => (
      k_dflt (refine' eq_intsK (News.isList ?N ?a) hJi (News.isList ?N2 ?b) i9 ?u ?_; (case N => k_asm); (case N2 => k_asm); (case a => k_mem); (case b => k_mem); (case u => ktr_units)))
    k_steps
    rename D9 < _ ∧ _ => l1
    have e : ks = ns9 := ksm_same p9.symm (KF.sorted.imp fun h => Int.le_of_lt h) o9
    rw [show decide (ks = ns9) = true from decide_eq_true e] at *
    exact hret _ _ _ _ ⟨_, ks, _, hK, rfl, rfl, lt_cons l1.2.2.1 (allLt_mem l1.2.2.2)⟩ (by assumption) (news_sub (by assumption) (subC (subS (subS (subC subR)))))
end
section

/-- the sum of the powers of two that f names below n -/
def sumPow (f : Nat → Bool) : Nat → Int
  | 0 => 0
  | n + 1 => sumPow f n + if f n then 2 ^ n else 0
def coll (a b : Str) : Int := b2i (decide (b.cps.toList < a.cps.toList)) - b2i (decide (a.cps.toList < b.cps.toList))
/-- what the program asks of two words, the first written ahead -/
def askC (ws ns : List Str) (i n : Nat) : Bool :=
  if (ws.getD i Str.empty).length < (ws.getD n Str.empty).length then decide (coll (ws.getD i Str.empty) (ws.getD n Str.empty) = -1) && decide (coll (ns.getD i Str.empty) (ns.getD n Str.empty) = 1)
  else decide (coll (ws.getD n Str.empty) (ws.getD i Str.empty) = -1) && decide (coll (ns.getD n Str.empty) (ns.getD i Str.empty) = 1)
def adjOf (c : Nat → Nat → Bool) (i j : Nat) : Bool := if i < j then c i j else if j < i then c j i else false
def rowsAt (c : Nat → Nat → Bool) (n : Nat) : List Int := (List.range n).map fun i => sumPow (adjOf c i) n
inductive TupsAre : List Value → Led → List Nat → Prop
  | nil : TupsAre [] [] []
  | snoc {cvs : List Value} {tups : Led} {rks : List Nat} {t : Addr} {r : Nat} {tk : Tok} : TupsAre cvs tups rks → TupsAre (cvs ++ [.ref t]) (tups ++ [(t, tupOf [.int r tk, .bool true])]) (rks ++ [r])
theorem TupsAre.len {cvs : List Value} {tups : Led} {rks : List Nat} (h : TupsAre cvs tups rks) : cvs.length = rks.length := by
  induction h with
  | nil => rfl
  | snoc _ ih => rw [List.length_append, List.length_append, ih]; rfl
structure ToldJ (c : Nat → Nat → Bool) (wa na : Addr) (us vs : List Value) (k1 k2 : Nat) (news : Led) (n : Nat) (m : Str → Option Value) (nw : Led) (ra ca : Addr) (rs cvs : List Value) (kr kc : Nat) (tups : Led) (rks : List Nat) : Prop where
  led : nw = (ca, listOf cvs.toArray kc) :: (ra, listOf rs.toArray kr) :: (wa, listOf us.toArray k1) :: (na, listOf vs.toArray k2) :: (tups ++ news)
  p1 : m "rows" = some (.ref ra)
  p2 : m "counts" = some (.ref ca)
  p3 : m "written" = some (.ref wa)
  p4 : m "named" = some (.ref na)
  lt : wa < ra ∧ na < ra ∧ ra < ca ∧ (∀ p ∈ tups ++ news, p.1 ≠ ra) ∧ ∀ p ∈ tups ++ news, p.1 ≠ ca
  rows : IntsAre rs (rowsAt c n)
  tups : TupsAre cvs tups rks
  len : rks.length = n
  ranks : ∀ j r, rks[j]? = some r → ∃ ks, KeptOf (rowsAt c (j + 1)) ks ∧ r = ks.length
/-- the rows in the midst of a word's turn -/
def midRows (c : Nat → Nat → Bool) (n i : Nat) : List Int := (List.range n).map fun k => if k < i then sumPow (adjOf c k) (n + 1) else sumPow (adjOf c k) n
section
variable {c : Nat → Nat → Bool} {n i : Nat} {f : Nat → Bool}
theorem sumPow_yes (h : f i = true) : sumPow f (i + 1) = sumPow f i + 2 ^ i := by simp [sumPow, h]
theorem sumPow_no (h : f i = false) : sumPow f (i + 1) = sumPow f i := by simp [sumPow, h]
theorem adj_ni (h : i < n) : adjOf c n i = c i n := by
  unfold adjOf
  rw [if_neg (by omega), if_pos h]
theorem adj_in (h : i < n) : adjOf c i n = c i n := by
  unfold adjOf
  rw [if_pos h]
theorem adj_nn : adjOf c n n = false := by
  unfold adjOf
  rw [if_neg (by omega), if_neg (by omega)]
theorem midRows_get {k : Nat} (h : k < n) : (midRows c n i)[k]? = some (if k < i then sumPow (adjOf c k) (n + 1) else sumPow (adjOf c k) n) := by
  simp [midRows, h]
theorem midRows_yes (h : i < n) (hc : c i n = true) : (midRows c n i).set i ((midRows c n i).getD i 0 + 2 ^ n) = midRows c n (i + 1) := by
  apply List.ext_getElem?
  intro k
  by_cases hk : k < n
  · rw [List.getElem?_set, midRows_get hk, midRows_get hk, List.getD_eq_getElem?_getD, midRows_get h]
    by_cases e : i = k
    · subst e
      rw [if_pos rfl, if_pos (by simp [midRows]; omega), if_neg (by omega), if_pos (by omega), sumPow_yes (by rw [adj_in h, hc])]
      rfl
    · rw [if_neg e]
      by_cases h1 : k < i
      · rw [if_pos h1, if_pos (by omega)]
      · rw [if_neg h1, if_neg (by omega)]
  · rw [List.getElem?_eq_none (by simp [midRows]; omega), List.getElem?_eq_none (by simp [midRows]; omega)]
theorem midRows_no (h : i < n) (hc : c i n = false) : midRows c n (i + 1) = midRows c n i := by
  apply List.ext_getElem?
  intro k
  by_cases hk : k < n
  · rw [midRows_get hk, midRows_get hk]
    by_cases e : i = k
    · subst e
      rw [if_pos (by omega), if_neg (by omega), sumPow_no (by rw [adj_in h, hc])]
    · by_cases h1 : k < i
      · rw [if_pos h1, if_pos (by omega)]
      · rw [if_neg h1, if_neg (by omega)]
  · rw [List.getElem?_eq_none (by simp [midRows]; omega), List.getElem?_eq_none (by simp [midRows]; omega)]
theorem midRows_end : midRows c n n ++ [sumPow (adjOf c n) n] = rowsAt c (n + 1) := by
  unfold midRows rowsAt
  rw [List.range_succ, List.map_append]
  congr 1
  · apply List.map_congr_left
    intro k hk
    rw [if_pos (List.mem_range.mp hk)]
  · show [sumPow (adjOf c n) n] = [sumPow (adjOf c n) (n + 1)]
    rw [sumPow_no adj_nn]
theorem sumPow_nonneg : 0 ≤ sumPow f n := by
  induction n with
  | zero => exact Int.le_refl _
  | succ n ih =>
    unfold sumPow
    split
    · have : (0 : Int) < 2 ^ n := Int.pow_pos (by decide)
      omega
    · omega
theorem rowsAt_nonneg : ∀ r ∈ rowsAt c n, 0 ≤ r := by
  intro r hr
  obtain ⟨k, _, rfl⟩ := List.mem_map.mp hr
  exact sumPow_nonneg
end
section
variable {ws ns : List Str} {i n : Nat} {b : Bool}
theorem ask1 (h : ((ws.getD (i : Int).toNat Str.empty).length : Int) < (ws.getD (n : Int).toNat Str.empty).length)
    (e : (b2i (decide ((ws.getD (n : Int).toNat Str.empty).cps.toList < (ws.getD (i : Int).toNat Str.empty).cps.toList)) - b2i (decide ((ws.getD (i : Int).toNat Str.empty).cps.toList < (ws.getD (n : Int).toNat Str.empty).cps.toList)) == -1 &&
      b2i (decide ((ns.getD (n : Int).toNat Str.empty).cps.toList < (ns.getD (i : Int).toNat Str.empty).cps.toList)) - b2i (decide ((ns.getD (i : Int).toNat Str.empty).cps.toList < (ns.getD (n : Int).toNat Str.empty).cps.toList)) == 1) = b) : askC ws ns i n = b := by
  have h' : (ws.getD i Str.empty).length < (ws.getD n Str.empty).length := Int.ofNat_lt.mp h
  unfold askC
  rw [if_pos h', ← e]
  rfl
theorem ask2 (h : ¬ ((ws.getD (i : Int).toNat Str.empty).length : Int) < (ws.getD (n : Int).toNat Str.empty).length)
    (e : (b2i (decide ((ws.getD (i : Int).toNat Str.empty).cps.toList < (ws.getD (n : Int).toNat Str.empty).cps.toList)) - b2i (decide ((ws.getD (n : Int).toNat Str.empty).cps.toList < (ws.getD (i : Int).toNat Str.empty).cps.toList)) == -1 &&
      b2i (decide ((ns.getD (i : Int).toNat Str.empty).cps.toList < (ns.getD (n : Int).toNat Str.empty).cps.toList)) - b2i (decide ((ns.getD (n : Int).toNat Str.empty).cps.toList < (ns.getD (i : Int).toNat Str.empty).cps.toList)) == 1) = b) : askC ws ns i n = b := by
  have h' : ¬ (ws.getD i Str.empty).length < (ws.getD n Str.empty).length := fun h' => h (Int.ofNat_lt.mpr h')
  unfold askC
  rw [if_neg h', ← e]
  rfl
end
structure MidJ (c : Nat → Nat → Bool) (base : Led) (ra ca wa na I : Addr) (oI oc : Obj) (n : Nat) (tn : Tok) (i : Nat) (m : Str → Option Value) (nw : Led) (rs : List Value) (kr : Nat) (tf : Tok) : Prop where
  led : nw = (I, oI) :: (ca, oc) :: (ra, listOf rs.toArray kr) :: base
  p1 : m "rows" = some (.ref ra)
  p2 : m "counts" = some (.ref ca)
  p3 : m "written" = some (.ref wa)
  p4 : m "named" = some (.ref na)
  p5 : m "n" = some (.int n tn)
  p6 : m "fresh" = some (.int (sumPow (adjOf c n) i) tf)
  rows : IntsAre rs (midRows c n i)
set_option maxHeartbeats 4000000 in
theorem told_spec (w : World) (news : Led) (wa na : Addr) (us vs : List Value) (ws ns : List Str) (k1 k2 : Nat) (hu : StrsAre us ws) (hv : StrsAre vs ns) (hlen : ns.length = ws.length) (hl : ws.length < 40) (hw : ∀ x ∈ ws, x.length ≤ 1000) : Spec w (fun _ => True) ((wa, listOf us.toArray k1) :: (na, listOf vs.toArray k2) :: news) 112 [.ref wa, .ref na] 8 400
    (fun v n => ∃ t ra ca rs cvs kr kc tups rks, v = .ref t ∧ n = (t, tupOf [.ref ra, .ref ca]) :: (ra, listOf rs.toArray kr) :: (ca, listOf cvs.toArray kc) :: (tups ++ (wa, listOf us.toArray k1) :: (na, listOf vs.toArray k2) :: news) ∧ IntsAre rs (rowsAt (askC ws ns) ws.length) ∧ TupsAre cvs tups rks ∧ rks.length = ws.length ∧ ∀ j r, rks[j]? = some r → ∃ ks, KeptOf (rowsAt (askC ws ns) (j + 1)) ks ∧ r = ks.length) := by
  k_with_none
  w_top off
  have hv' := hv
  unfold Spec
  intro p loose mean mg mb dp un gd cn cs a ccd cl outer A₀ base h₀ L m s Q E kB kF kX kN kT hkind hdep hun hpre hret
  obtain ⟨kk, kn, kg, kc, km⟩ := cs
  dsimp only at hkind
  subst hkind
  ktr_unf
  k_steps
  refine forSrc_upto (by rfl) (by assumption) (by assumption) (by assumption) rfl (by omega) (fun i m nw => ∃ ra ca rs cvs kr kc tups rks, ToldJ (askC ws ns) wa na us vs k1 k2 news i m nw ra ca rs cvs kr kc tups rks) ?_ ?_ ?_
  · rename _ < _ ∧ _ < _ ∧ _ < _ ∧ AllLt _ _ => l2
    rename _ < _ ∧ _ < _ ∧ AllLt _ _ => l1
    exact ⟨_, _, [], [], _, _, [], [], ⟨rfl, rfl, rfl, rfl, rfl, ⟨l1.1, l1.2.1, l2.1, allLt_ne l1.2.2, allLt_ne l2.2.2.2⟩, .nil, .nil, rfl, fun j r h => by simp at h⟩⟩
  · rintro n tn m₁ nw h tk I oI hnlt ⟨ra, ca, rs, cvs, kr, kc, tups, rks, hJ⟩ off F₁ N₁
    replace F₁ := fr_pins _ F₁ (pinsOk_cons hJ.p1 (pinsOk_cons hJ.p2 (pinsOk_cons hJ.p3 (pinsOk_cons hJ.p4 pinsOk_nil))))
    obtain rfl := hJ.led
    obtain ⟨lt1, lt2, lt3, lt4, lt5⟩ := hJ.lt
    have ir := hJ.rows
    k_steps
    refine forSrc_upto (by rfl) (by assumption) (by assumption) (by assumption) rfl (by omega) (fun i m nw => ∃ rs kr tf, MidJ (askC ws ns) ((wa, listOf us.toArray k1) :: (na, listOf vs.toArray k2) :: (tups ++ news)) ra ca wa na I oI (listOf cvs.toArray kc) n tn i m nw rs kr tf) ?_ ?_ ?_
    · exact ⟨_, _, _, ⟨rfl, rfl, rfl, rfl, rfl, rfl, rfl, ir⟩⟩
    · rintro i ti m₂ nw h tk I2 oI2 hilt ⟨rs2, kr2, tf, hK⟩ off2 F₂ N₂
      replace F₂ := fr_pins _ F₂ (pinsOk_cons hK.p1 (pinsOk_cons hK.p2 (pinsOk_cons hK.p3 (pinsOk_cons hK.p4 (pinsOk_cons hK.p5 (pinsOk_cons hK.p6 pinsOk_nil))))))
      obtain rfl := hK.led
      have ir2 := hK.rows
      have f1 : @Ne Nat I ra := fun e => off (ra, _) (.tail _ (.head _)) e.symm
      have f2 : @Ne Nat I2 ra := fun e => off2 (ra, _) (.tail _ (.tail _ (.head _))) e.symm
      have lt1' : @LT.lt Nat _ wa ra := lt1
      have lt2' : @LT.lt Nat _ na ra := lt2
      have lt3' : @LT.lt Nat _ ra ca := lt3
      have hml : (midRows (askC ws ns) n i).length = n := by simp [midRows]
      k_with "call builtin:len" => (k_dflt (refine SBL.len (str_short hw _) ?_))
      k_with "call ref" => (
        k_dflt (refine' Spec.use (strcoll_spec w _ _ _ _ _) ?k1 ?k2 ?k3 ?k4 ?k5 ?kK ?kd ?ku ?kp ?ks ?_; (case k1 => k_asm); (case k2 => k_asm); (case k3 => k_asm); (case k4 => k_asm); (case k5 => k_asm); (case kK => rfl); (case kd => ktr_room); (case ku => ktr_units); (case kp => trivial); (case ks => exact subR))
        rintro v nw h' tk' ⟨rfl, tkc, rfl⟩ F' N'
        dsimp only)
      k_steps
      all_goals (
        first
          | (have ask : askC ws ns i n = true := ask1 (by assumption) (by assumption)
             refine turnEnd _ (by assumption) (by assumption) (.tail _ (.tail _ (.tail _ (.head _)))) (subS (subS (subS (subS subR)))) (ne_cons (off2 (I, _) (.head _)) (ne_cons (off2 (ca, _) (.tail _ (.head _))) (ne_cons (off2 (ra, _) (.tail _ (.tail _ (.head _)))) fun q hq => off2 q (.tail _ (.tail _ (.tail _ hq)))))) ⟨_, _, _, ⟨rfl, rfl, rfl, rfl, rfl, rfl, by rw [sumPow_yes (by rw [adj_ni hilt, ask])]; rfl, by rw [← midRows_yes hilt ask]; assumption⟩⟩)
          | (have ask : askC ws ns i n = false := ask1 (by assumption) (by assumption)
             refine turnEnd _ (by assumption) (by assumption) (.tail _ (.tail _ (.tail _ (.head _)))) (subS (subS (subS (subS subR)))) (ne_cons (off2 (I, _) (.head _)) (ne_cons (off2 (ca, _) (.tail _ (.head _))) (ne_cons (off2 (ra, _) (.tail _ (.tail _ (.head _)))) fun q hq => off2 q (.tail _ (.tail _ (.tail _ hq)))))) ⟨_, _, _, ⟨rfl, rfl, rfl, rfl, rfl, rfl, by rw [sumPow_no (by rw [adj_ni hilt, ask])]; rfl, by rw [midRows_no hilt ask]; assumption⟩⟩)
          | (have ask : askC ws ns i n = true := ask2 (by assumption) (by assumption)
             refine turnEnd _ (by assumption) (by assumption) (.tail _ (.tail _ (.tail _ (.head _)))) (subS (subS (subS (subS subR)))) (ne_cons (off2 (I, _) (.head _)) (ne_cons (off2 (ca, _) (.tail _ (.head _))) (ne_cons (off2 (ra, _) (.tail _ (.tail _ (.head _)))) fun q hq => off2 q (.tail _ (.tail _ (.tail _ hq)))))) ⟨_, _, _, ⟨rfl, rfl, rfl, rfl, rfl, rfl, by rw [sumPow_yes (by rw [adj_ni hilt, ask])]; rfl, by rw [← midRows_yes hilt ask]; assumption⟩⟩)
          | (have ask : askC ws ns i n = false := ask2 (by assumption) (by assumption)
             refine turnEnd _ (by assumption) (by assumption) (.tail _ (.tail _ (.tail _ (.head _)))) (subS (subS (subS (subS subR)))) (ne_cons (off2 (I, _) (.head _)) (ne_cons (off2 (ca, _) (.tail _ (.head _))) (ne_cons (off2 (ra, _) (.tail _ (.tail _ (.head _)))) fun q hq => off2 q (.tail _ (.tail _ (.tail _ hq)))))) ⟨_, _, _, ⟨rfl, rfl, rfl, rfl, rfl, rfl, by rw [sumPow_no (by rw [adj_ni hilt, ask])]; rfl, by rw [midRows_no hilt ask]; assumption⟩⟩)
      )
    · rintro m₂ nw h tk ⟨rs2, kr2, tf, hK⟩ F₂ N₂
      replace F₂ := fr_pins _ F₂ (pinsOk_cons hK.p1 (pinsOk_cons hK.p2 (pinsOk_cons hK.p3 (pinsOk_cons hK.p4 (pinsOk_cons hK.p5 (pinsOk_cons hK.p6 pinsOk_nil))))))
      obtain rfl := hK.led
      have ir2 := hK.rows
      have f1 : @Ne Nat I ra := fun e => off (ra, _) (.tail _ (.head _)) e.symm
      have lt1' : @LT.lt Nat _ wa ra := lt1
      have lt2' : @LT.lt Nat _ na ra := lt2
      have lt3' : @LT.lt Nat _ ra ca := lt3
      have hml : (midRows (askC ws ns) n n).length = n := by simp [midRows]
      have ir3 : IntsAre (rs2 ++ [.int (sumPow (adjOf (askC ws ns) n) n) tf]) (rowsAt (askC ws ns) (n + 1)) := by
        rw [← midRows_end]; exact ir2.append (.cons _ _ .nil)
      have f3 : @Ne Nat I ca := fun e => off (ca, _) (.head _) e.symm
      k_with "call ref" => (
        (rename News _ _ _ _ => nE')
        (simp only [List.push_toArray] at nE')
        k_dflt (refine' Spec.use (kept_spec w ((I, oI) :: (ca, listOf cvs.toArray kc) :: (wa, listOf us.toArray k1) :: (na, listOf vs.toArray k2) :: (tups ++ news)) ra _ _ (kr2 + 1) ir3 ?hn rowsAt_nonneg) ?k1 ?k2 ?k3 ?k4 ?k5 ?kK ?kd ?ku ?kp ?ks ?_; (case k1 => k_asm); (case k2 => k_asm); (case k3 => k_asm); (case k4 => exact nE'); (case k5 => k_asm); (case kK => rfl); (case kd => ktr_room); (case ku => ktr_units); (case kp => trivial); (case hn => (simp [rowsAt]; omega)); (case ks => exact sub2))
        rintro v nw h' tk' ⟨t, ks, tkk, hks, rfl, rfl, hlt⟩ F' N'
        have g1 : @LT.lt Nat _ ca t := hlt (ca, _) (List.Mem.tail _ (List.Mem.tail _ (List.Mem.head _)))
        have g2 : @LT.lt Nat _ ra t := hlt (ra, _) (List.Mem.head _)
        dsimp only)
      have hzc : cvs.toArray.size ≤ sizeLine := by
        have h1 := hJ.tups.len
        have h2 := hJ.len
        rw [sizeLine_eq, List.size_toArray]
        omega
      k_with "call builtin:list.append" => (
        k_dflt (refine' append_K ?k1 ?k2 ?k3 ?_ hzc; (case k1 => k_asm); (case k2 => k_asm); (case k3 => k_upd))
        intro h' F' N'
        simp only [List.push_toArray] at N')
      k_steps
      refine turnEnd ((ca, listOf (cvs ++ [Value.ref t]).toArray (kc + 1)) :: (ra, listOf (rs2 ++ [Value.int (sumPow (adjOf (askC ws ns) n) n) tf]).toArray (kr2 + 1)) :: (wa, listOf us.toArray k1) :: (na, listOf vs.toArray k2) :: ((tups ++ [(t, tupOf [Value.int ks.length tkk, Value.bool true])]) ++ news)) (by assumption) (by assumption) (List.Mem.tail _ (List.Mem.tail _ (List.Mem.head _))) ?_ ?_ ⟨ra, ca, _, _, _, _, _, _, ⟨rfl, rfl, rfl, rfl, rfl, ⟨lt1, lt2, lt3, ?_, ?_⟩, ir3, .snoc hJ.tups, ?_, ?_⟩⟩
      · refine subM (by simp) (subM (by simp) (subM (by simp) (subM (by simp) ?_)))
        intro q hq
        rcases List.mem_append.mp hq with hq | hq
        · rcases List.mem_append.mp hq with hq | hq
          · simp [hq]
          · rw [List.mem_singleton.mp hq]; exact .head _
        · simp [hq]
      · refine ne_cons (Ne.symm f3) (ne_cons (Ne.symm f1) (ne_cons (off (wa, listOf us.toArray k1) (by simp)) (ne_cons (off (na, listOf vs.toArray k2) (by simp)) ?_)))
        intro q hq
        simp only [List.mem_append, List.mem_singleton] at hq
        rcases hq with (hq | hq) | hq
        · exact off q (by simp [hq])
        · rw [hq]; exact Nat.ne_of_gt (hlt (I, oI) (by simp))
        · exact off q (by simp [hq])
      · intro q hq
        simp only [List.mem_append, List.mem_singleton] at hq
        rcases hq with (hq | hq) | hq
        · exact lt4 q (by simp [hq])
        · rw [hq]; exact Nat.ne_of_gt g2
        · exact lt4 q (by simp [hq])
      · intro q hq
        simp only [List.mem_append, List.mem_singleton] at hq
        rcases hq with (hq | hq) | hq
        · exact lt5 q (by simp [hq])
        · rw [hq]; exact Nat.ne_of_gt g1
        · exact lt5 q (by simp [hq])
      · rw [List.length_append, hJ.len]; rfl
      · intro j r hr
        have hl2 := hJ.len
        rcases Nat.lt_or_ge j n with h1 | h1
        · rw [List.getElem?_append_left (by omega)] at hr
          exact hJ.ranks j r hr
        · rw [List.getElem?_append_right (by omega)] at hr
          have h2 : j = n := by
            obtain ⟨h3, _⟩ := List.getElem?_eq_some_iff.mp hr
            simp at h3
            omega
          subst h2
          rw [hl2, Nat.sub_self] at hr
          cases hr
          exact ⟨ks, hks, rfl⟩
  · rintro m₁ nw h tk ⟨ra, ca, rs, cvs, kr, kc, tups, rks, hJ⟩ F₁ N₁
    replace F₁ := fr_pins _ F₁ (pinsOk_cons hJ.p1 (pinsOk_cons hJ.p2 (pinsOk_cons hJ.p3 (pinsOk_cons hJ.p4 pinsOk_nil))))
    obtain rfl := hJ.led
    k_steps
    refine hret _ _ _ _ ⟨_, ra, ca, rs, cvs, kr, kc, tups, rks, rfl, rfl, hJ.rows, hJ.tups, hJ.len, hJ.ranks⟩ (by assumption) (news_sub (by assumption) (subC (subM (by simp) (subM (by simp) ?_))))
    intro q hq
    simp only [List.mem_append, List.mem_cons] at hq ⊢
    rcases hq with hq | hq | hq | hq <;> simp [hq]
end
section

open Sem (wp)
def natsTo (n : Nat) : List Int := (List.range n).map fun i : Nat => (i : Int)
theorem ints_of_get : ∀ {vs : List Value} {ns : List Int}, vs.length = ns.length → (∀ (i : Nat) (n : Int), ns[i]? = some n → ∃ t, vs[i]? = some (Value.int n t)) → IntsAre vs ns
  | [], [], _, _ => .nil
  | v :: vs, n :: ns, hl, h => by
    obtain ⟨t, e⟩ := h 0 n rfl
    cases e
    exact .cons n t (ints_of_get (by simpa using hl) fun i m hm => h (i + 1) m hm)
theorem ints_of_items {n : Nat} {acc : Array Value} (h : ItemsOf (fun i v => ∃ t, v = .int (0 + i * 1) t) acc n) : IntsAre acc.toList (natsTo n) := by
  refine ints_of_get (by rw [Array.length_toList, h.1]; simp [natsTo]) fun i m hm => ?_
  have hi : i < n := by
    have := (List.getElem?_eq_some_iff.mp hm).1
    simpa [natsTo] using this
  have em : m = (i : Int) := by
    simp [natsTo, hi] at hm
    exact hm.symm
  have hs : i < acc.size := by rw [h.1]; exact hi
  obtain ⟨t, e⟩ := h.2 i acc[i] (Array.getElem?_eq_getElem hs)
  refine ⟨t, ?_⟩
  rw [Array.getElem?_toList, Array.getElem?_eq_getElem hs, e, em]
  simp
section
variable {prog : Program} {w : World} {A : Around} {E : Value → Shared → Prop} {s : Shared} {h₀ : Heap} {L l : Addr} {m : Str → Option Value} {news : List (Addr × Obj)} {b : Bool} {vs : List Value}
theorem collect_range {r : Addr} {t u v : Tok} {n : Nat} {Q : List Value → Shared → Prop} (hh : A.handled = none) (hr : IsRange s.heap r 0 n 1 t u v) (hlen : n ≤ 1000)
    (h : ∀ h' tk vs, (∀ x o, s.heap.get? x = some o → h'.get? x = some o) → IntsAre vs (natsTo n) → Q vs { s with heap := h', toks := tk }) :
    wpAny (model prog w) A (collect (.ref r)) Q E s := by
  unfold collect
  refine wpAny_bind (wpAny_runValue (codeAny_builtin entry_proto_collect' ?_))
  show wpAny _ _ (do again (.builtin "list.__iadd__" ⟨[← newList [], .ref r], []⟩)) _ _ s
  refine wpAny_bind (wpAny_newList (wpAny_pure ⟨Code.quiet_builtin _ (by decide +kernel), codeAny_builtin entry_list_iadd' ?_⟩))
  show wpAny _ _ (Builtin.List.listExtendWith (.ref s.heap.objs.size) (.ref r) (.ref s.heap.objs.size)) _ _ { s with heap := s.heap.push (seqObj "list" #[] 0) }
  refine wpAny_extend_range (R := fun r s' => match r with
    | .ok (.ret v) => wpAny (model prog w) A (match v with
        | .ref a => do
            let o ← load a
            match o.data with
            | .seq xs _ => pure xs.toList
            | _ => unsupported "internal:collect"
        | _ => unsupported "internal:collect") Q E s'
    | .ok _ => False
    | .error e => E e s') (s := { s with heap := s.heap.push (seqObj "list" #[] 0) }) hh (Heap.get?_push_of_some _ hr) (small_one (by omega) (by omega) (by omega) (by omega)) (rangeSize_nat _ _) (by omega) s.heap.objs.size (.ref s.heap.objs.size) 0 (Heap.get?_push_size _ rfl) fun h' tk acc' c' hk hS hacc => ?_
  show wpAny (model prog w) A (do
      let o ← load s.heap.objs.size
      match o.data with
      | .seq xs _ => pure xs.toList
      | _ => unsupported "internal:collect") Q E { s with heap := h', toks := tk }
  refine wpAny_bind (wpAny_load hS ?_)
  show wpAny _ _ (pure acc'.toList) Q E _
  exact wpAny_pure (h h' tk acc'.toList (fun x o e => hk x o (Nat.ne_of_lt (Heap.lt_size e)) (Heap.get?_push_of_some _ e)) (ints_of_items (by simpa using hacc)))
theorem sorted_range {Q : Value → Shared → Prop} {r f : Addr} {t u v : Tok} {n : Nat} (g : Int → Int) (F : Fr h₀ L s.heap m) (N : News h₀ L s.heap news) (hh : A.handled = none) (hr : IsRange s.heap r 0 n 1 t u v) (hn : n ≤ 60)
    (turn : ∀ (i : Nat) (t : Tok) (h : Heap) (tk : Nat) (own : List (Addr × Obj)), i < n → Fr h₀ L h m → News h₀ L h (news ++ own) →
      wpAny (model prog w) A.in1.in1 (call (.ref f) [.int i t]) (KskEnd h₀ L m (news ++ own) (g i) { s with heap := h, toks := tk }) (fun _ _ => False) { s with heap := h, toks := tk })
    (done : ∀ D vs' ns' c h' tk, Fr h₀ L h' m → News h₀ L h' ((D, listOf (List.toArray vs') c) :: news) → (∀ q ∈ news, q.1 < D) → IntsAre vs' ns' → ns'.Perm (natsTo n) →
      ns'.Pairwise (fun x y => g x ≤ g y) → Q (.ref D) { s with heap := h', toks := tk }) :
    wpAny (model prog w) A (call (.builtin "sorted") [.ref r] [(Str.ofString "key", .ref f)]) Q E s := by
  refine call_function_entry_kw kind_sorted plain_sorted entry_sorted (ksk_s1 _ _) ?_
  unfold Builtin.«sorted»
  refine wpAny_bind (m := checkCount "sorted" 1 1 _) (wpAny_pure ?_)
  refine wpAny_bind (collect_range hh hr (by omega) fun h1 tk1 vs keep1 hi => ?_)
  have hlen : vs.length = n := by
    rw [hi.length]
    simp [natsTo]
  refine wpAny_bind (wpAny_newList ?_ (by rw [sizeLine_eq]; omega))
  have F1 : Fr h₀ L h1 m := F.kept keep1
  have N1 := N.grown keep1
  have hoL : (h1.push (seqObj "list" vs.toArray 0)).get? h1.objs.size = some (seqObj "list" vs.toArray 0) := Heap.get?_push_size _ rfl
  have keep : ∀ b o, h1.get? b = some o → (h1.push (seqObj "list" vs.toArray 0)).get? b = some o := fun b o q => Heap.get?_push_of_some _ q
  have hL : L < h1.objs.size := F1.ns.lt
  refine wpAny_bind (wpAny_holding (wpAny_call_entry_kw slot_list_sort ⟨_, hoL, rfl⟩ entry_list_sort ?body (ksk_l1 _ _)))
  show wpAny (model prog w) A.in1.in1 (Builtin.«list.sort» ⟨[.ref h1.objs.size], [(Str.ofString "key", .ref f)]⟩) _ _ _
  rw [ksk_t1]
  refine ksk_sort (s := { s with heap := h1.push (seqObj "list" vs.toArray 0), toks := tk1 }) (kz := (natsTo n).map g)
    (F1.kept keep) (N1.grown keep) hoL (Nat.ne_of_gt hL) (Heap.get?_none_of_le (Nat.le_trans F1.above (Nat.le_of_lt hL)))
    (fun p hp => Nat.ne_of_lt (Heap.lt_size (N1 p hp).1)) (by rw [List.length_map, hlen]; simp [natsTo]) (by omega) (fun i v k hv hk h tk own F' N' => ?_) fun h' tk out c F' N' ko => ⟨_, rfl, ?_⟩
  · rw [List.getElem?_map] at hk
    cases q : (natsTo n)[i]? with
    | none => rw [q] at hk; simp at hk
    | some z =>
      rw [q] at hk
      have hk' : some (g z) = some k := hk
      cases hk'
      obtain ⟨t, ht'⟩ := hi.get i z q
      rw [ht'] at hv
      cases hv
      have hz : i < n ∧ z = (i : Int) := by
        have hl := (List.getElem?_eq_some_iff.mp q).1
        have hl' : i < n := by simpa [natsTo] using hl
        simp [natsTo, hl'] at q
        exact ⟨hl', q.symm⟩
      obtain ⟨hz1, rfl⟩ := hz
      exact turn i t h tk own hz1 F' N'
  · obtain ⟨ps, hp, ho, hs⟩ := ko
    have hrel : ∀ p, p ∈ ((natsTo n).map g).zip vs → p.1 = g (numOf p.2) ∧ p.2 ∈ vs := by
      rw [← hi.nums, List.map_map, List.zip_map_left]
      intro p hp
      obtain ⟨⟨u, v⟩, hq, rfl⟩ := List.mem_map.mp hp
      have h1 : u = v ∧ u ∈ vs := mem_zip_self hq
      refine ⟨?_, ?_⟩
      · show g (numOf u) = g (numOf v)
        rw [h1.1]
      · show v ∈ vs
        rw [← h1.1]
        exact h1.2
    have hI : IntsAre (ps.map Prod.snd) ((ps.map Prod.snd).map numOf) := intsAre_map _ fun v hv => by
      obtain ⟨p, hp', rfl⟩ := List.mem_map.mp hv
      exact hi.all _ (hrel p (hp.mem_iff.mp hp')).2
    have hP : ((ps.map Prod.snd).map numOf).Perm (natsTo n) := by
      have h1 := (hp.map Prod.snd).map numOf
      rw [List.map_snd_zip (by rw [List.length_map, hlen]; simp [natsTo]), hi.nums] at h1
      exact h1
    have hO : ((ps.map Prod.snd).map numOf).Pairwise (fun x y => g x ≤ g y) := by
      rw [List.pairwise_map, List.pairwise_map]
      refine hs.imp_of_mem fun {p q} hp' hq' hr => ?_
      have hr' : p.1 ≤ q.1 := hr
      rw [(hrel p (hp.mem_iff.mp hp')).1, (hrel q (hp.mem_iff.mp hq')).1] at hr'
      exact hr'
    rw [← ho] at hI hP hO
    exact wpAny_pure ⟨_, rfl, done _ out.toList _ c h' tk F' N' (fun q hq => Heap.lt_size (N1 q hq).1) hI hP hO⟩
end
end
section

open LCg in
section
variable {prog : Program} {w : World} {A : Around} {E : Value → Shared → Prop} {s : Shared} {h₀ : Heap} {L : Addr} {m : Str → Option Value} {env : Env}
def EltEnd (h₀ : Heap) (L : Addr) (m : Str → Option Value) (s : Shared) (led : Led) (g : Int) (y : Value) (s₅ : Shared) : Prop :=
  ∃ h tk t, s₅ = { s with heap := h, toks := tk } ∧ y = .int g t ∧ Fr h₀ L h m ∧ News h₀ L h led
theorem eltEnd {s : Shared} {led big : Led} {g : Int} {h : Heap} {tk : Nat} {t : Tok} (F : Fr h₀ L h m) (N : News h₀ L h big) (hs : ∀ p ∈ led, p ∈ big) : EltEnd h₀ L m s led g (.int g t) { s with heap := h, toks := tk } :=
  ⟨h, tk, t, rfl, rfl, F, fun p hp => N p (hs p hp)⟩
/-- the tests of one item have been run: the answer is b, and if it is true, the element is g -/
def TestEnd (prog : Program) (w : World) (A : Around) (h₀ : Heap) (L : Addr) (m : Str → Option Value) (s : Shared) (led : Led) (elt : Expr) (cenv : Env) (b : Bool) (g : Int) (ok : Bool) (s₄ : Shared) : Prop :=
  ∃ h tk, s₄ = { s with heap := h, toks := tk } ∧ ok = b ∧ Fr h₀ L h m ∧ News h₀ L h led ∧ (b = true → ∀ E'', wpAny (model prog w) A (eval elt cenv) (EltEnd h₀ L m s led g) E'' { s with heap := h, toks := tk })
theorem testEnd {s : Shared} {led big : Led} {elt : Expr} {cenv : Env} {b ok : Bool} {g : Int} {h : Heap} {tk : Nat} (hb : ok = b) (F : Fr h₀ L h m) (N : News h₀ L h big) (hs : ∀ p ∈ led, p ∈ big)
    (he : b = true → ∀ E'', wpAny (model prog w) A (eval elt cenv) (EltEnd h₀ L m s led g) E'' { s with heap := h, toks := tk }) : TestEnd prog w A h₀ L m s led elt cenv b g ok { s with heap := h, toks := tk } :=
  ⟨h, tk, rfl, hb, F, fun p hp => N p (hs p hp), he⟩
def Turns (prog : Program) (w : World) (A : Around) (h₀ : Heap) (L : Addr) (m : Str → Option Value) (env : Env) (elt : Expr) (x : Str) (ct : Expr) (scope : Scope) (cl : List (Str × Addr)) (news : Led) (n : Nat) (P : Nat → Value → Prop) (pz : Nat → Bool) (g : Nat → Int) (s : Shared) : Prop :=
  ∀ i v I oI C oC D oD m₂ h tk (E' : Value → Shared → Prop), i < n → P i v → NsObj oC m₂ → m₂ x = some v → Fr h₀ L h m → News h₀ L h ((I, oI) :: (C, oC) :: (D, oD) :: news) → Off3 I C D news → ((@Ne Nat I C) ∧ (@Ne Nat I D) ∧ (@Ne Nat C D)) →
    wpAny (model prog w) A (isTrue ct (compEnvC scope cl C env) (eval ct (compEnvC scope cl C env))) (TestEnd prog w A h₀ L m s ((I, oI) :: (C, oC) :: (D, oD) :: news) elt (compEnvC scope cl C env) (pz i) (g i)) E' { s with heap := h, toks := tk }
def pick (pz : Nat → Bool) (g : Nat → Int) (n : Nat) : List Int := ((List.range n).filter pz).map g
theorem pick_yes {pz : Nat → Bool} {g : Nat → Int} {i : Nat} (h : pz i = true) : pick pz g (i + 1) = pick pz g i ++ [g i] := by simp [pick, List.range_succ, h]
theorem pick_no {pz : Nat → Bool} {g : Nat → Int} {i : Nat} (h : pz i = false) : pick pz g (i + 1) = pick pz g i := by simp [pick, List.range_succ, h]
theorem pick_len {pz : Nat → Bool} {g : Nat → Int} {i : Nat} : (pick pz g i).length ≤ i := by
  unfold pick
  rw [List.length_map]
  exact Nat.le_trans (List.length_filter_le _ _) (Nat.le_of_eq List.length_range)

/-- the new list stands behind all that stands: what is shown of its end at this one place is enough -/
theorem newList_to {Q Q' : Value → Shared → Prop} (h : wpAny (model prog w) A (newList []) Q E s) (k : ∀ s', Q (.ref s.heap.objs.size) s' → Q' (.ref s.heap.objs.size) s') : wpAny (model prog w) A (newList []) Q' E s :=
  fun Γ p hΓ => k _ (h Γ p hΓ)
theorem rest_of {ct elt : Expr} {x : Str} {scope : Scope} {cl : List (Str × Addr)} {S : Led → Prop} {P : Nat → Value → Prop} {news : Led} {n : Nat} {pz : Nat → Bool} {g : Nat → Int} (hS : S news) (R : Turns prog w A h₀ L m env elt x ct scope cl news n P pz g s) :
    ∀ k i ys, i + k = n → IntsAre ys (pick pz g i) → LCt.CompRestT prog w A h₀ L m env ct elt x scope cl s S P (fun zs nw => nw = news ∧ IntsAre zs (pick pz g n)) k i ys news
  | 0, i, ys, e, hy => .zero ⟨rfl, by rw [← show i = n from e]; exact hy⟩
  | k + 1, i, ys, e, hy => .succ fun v I oI C oC D m₂ h tk E' hP hoC hx F N off nes => by
    have ih := rest_of hS R k (i + 1)
    refine wpAny_mono (R i v I oI C oC D (lst ys) m₂ h tk E' (by omega) hP hoC hx F N off nes) (fun ok s₄ h₄ => ?_) fun _ _ e => e
    obtain ⟨h₄, tk₄, rfl, rfl, F₄, N₄, el⟩ := h₄
    cases hb : pz i with
    | false =>
      simp only [Bool.false_eq_true, if_false]
      exact .intro F₄ N₄ news (fun p hp => hp) off hS (ih ys (by omega) (by rw [pick_no hb]; exact hy))
    | true =>
      simp only [if_true]
      refine wpAny_mono (el hb E') (fun y s₅ h₅ => ?_) fun _ _ e => e
      obtain ⟨h₅, tk₅, t, rfl, rfl, F₅, N₅⟩ := h₅
      exact .intro F₅ N₅ news (fun p hp => hp) off hS (ih _ (by omega) (by rw [pick_yes hb]; exact hy.append (.cons _ _ .nil)))
theorem comp_block {ct elt iter : Expr} {x : Str} {px : Pos} {scope : Scope} {cl : List (Str × Addr)} {pos : Pos} {s₂ : Shared} {I : Addr} {fp : List Addr} {n : Nat} {P : Nat → Value → Prop} {St : Nat → Heap → Prop} {S : Led → Prop} {news : Led}
    {pz : Nat → Bool} {g : Nat → Int} {RR : Value → Addr → Result → Shared → Prop}
    (W : Walks prog w A I fp [I] n P St) (hsz : n ≤ sizeLine) (hIo : ∀ i h, St i h → ∃ o, h.get? I = some o)
    (hSt : ∀ i h h' o nw, St i h → h.get? I = some o → h'.get? I = some o → (∀ b o, h₀.get? b = some o → h'.get? b = some o) → News h₀ L h' nw → S nw → St i h')
    (hcell : ∀ y ∈ scope.names, y.2 ≠ .cell) (hkind : scope.kind = .function) (hx : scope.names.lookup x = some .local) (hst : St 0 s₂.heap) (hfp : ∀ b ∈ fp, b < s₂.heap.objs.size)
    (F : Fr h₀ L s₂.heap m) (N : News h₀ L s₂.heap news) (hIL : L ≠ I) (hI₀ : h₀.get? I = none) (off : ∀ p ∈ news, p.1 ≠ I) (hS : S news)
    (R : Turns prog w A h₀ L m env elt x ct scope cl news n P pz g s₂)
    (hRR : ∀ D C h tk m' ys, Fr h₀ L h m → News h₀ L h ((D, lst ys) :: news) → Off1 D news → h.Ns C m' → h₀.get? C = none → h₀.get? D = none → C ≠ L → D ≠ L → C ≠ D → (∀ p ∈ news, p.1 ≠ C) → (∀ p ∈ news, p.1 < D) → IntsAre ys (pick pz g n) → RR (.ref D) C (.ok .next) { s₂ with heap := h, toks := tk }) :
    wpAny (model prog w) A (newList []) (fun acc s₃ => wpAny (model prog w) A (newFunctionEnv scope env.globals cl [] env.qual none .none (some env)) (fun cenv s₄ =>
      codeAny (model prog w) A (.compStart (.ListComp elt [⟨.Name x px, iter, [ct], 0⟩] scope pos) 0 (.ref I) acc { cenv with scope := relabel scope env }) (RR acc cenv.locals) s₄) E s₃) E s₂ := by
  refine newList_to (LCt.block_T (RR := fun v C r s' => v = .ref s₂.heap.objs.size → RR v C r s') W hsz hIo hSt hcell hkind hx hst hfp F N hIL hI₀ off hS (rest_of hS R n 0 [] (Nat.zero_add n) .nil) ?_) fun s' h => wpAny_mono h (fun _ _ h => codeAny_mono h fun _ _ h => h rfl) fun _ _ e => e
  rintro D C h tk m' ys _ F' N' o1 hn hC₀ hD₀ hCL hDL hCD offC ⟨rfl, hy⟩ e
  cases e
  exact hRR _ C h tk m' ys F' N' o1 hn hC₀ hD₀ hCL hDL hCD offC (fun p hp => Heap.lt_size (N p hp).1) hy
def CompSrc (prog : Program) (w : World) (A : Around) (E : Value → Shared → Prop) (env : Env) (elt : Expr) (x : Str) (px : Pos) (iter : Expr) (ct : Expr) (scope : Scope) (cl : List (Str × Addr)) (pos : Pos) (RR : Value → Addr → Result → Shared → Prop) (xv : Value) (s₁ : Shared) : Prop :=
  wpAny (model prog w) A (pyIter xv) (fun it s₂ => wpAny (model prog w) A (newList []) (fun acc s₃ => wpAny (model prog w) A (newFunctionEnv scope env.globals cl [] env.qual none .none (some env)) (fun cenv s₄ =>
      codeAny (model prog w) A (.compStart (.ListComp elt [⟨.Name x px, iter, [ct], 0⟩] scope pos) 0 it acc { cenv with scope := relabel scope env }) (RR acc cenv.locals) s₄) E s₃) E s₂) E s₁
theorem ListComp_own {elt iter : Expr} {x : Str} {px : Pos} {ct : Expr} {scope : Scope} {cl : List (Str × Addr)} {pos : Pos} {Q : Value → Shared → Prop}
    (hclos : closureFor scope env = pure cl) (hkind : scope.kind = .function) (hnames : ∀ y ∈ scope.names, y.2 = .local → scope.names.lookup y.1 = some .local)
    (h : wpAny (model prog w) A (eval iter env) (CompSrc prog w A E env elt x px iter ct scope cl pos (fun acc C => compPost (model prog w) A E none Q acc C)) E s)
    (hs : ∀ x, foldedSetIterable iter env x = pure x := by intro _; rfl) :
    wpAny (model prog w) A (eval (.ListComp elt [⟨.Name x px, iter, [ct], 0⟩] scope pos) env) Q E s := by
  rw [eval_ListComp]
  exact wpAny_comprehension_free (use := none) rfl hs hclos hkind hnames h
theorem Assign_own {elt iter : Expr} {x y : Str} {px py : Pos} {ct : Expr} {scope : Scope} {cl : List (Str × Addr)} {pos spos : Pos} {Q : Flow → Shared → Prop}
    (hsw : swapsWith (.ListComp elt [⟨.Name x px, iter, [ct], 0⟩] scope pos) (some (.Name y py)) spos.line env = pure true)
    (hclos : closureFor scope env = pure cl) (hkind : scope.kind = .function) (hnames : ∀ y ∈ scope.names, y.2 = .local → scope.names.lookup y.1 = some .local)
    (h : wpAny (model prog w) A (eval iter env) (CompSrc prog w A E env elt x px iter ct scope cl pos (fun acc C => compPost (model prog w) A E (some (assign (.Name y py) env)) (fun _ s' => Q .next s') acc C)) E s)
    (hs : ∀ x, foldedSetIterable iter env x = pure x := by intro _; rfl) :
    wpAny (model prog w) A (exec (.Assign [.Name y py] (.ListComp elt [⟨.Name x px, iter, [ct], 0⟩] scope pos) spos) env) Q E s := by
  rw [exec_Assign_Name_used _ _ _ _ hsw]
  refine wpAny_bind (wpAny_standAt (wpAny_bind ?_))
  show wpAny _ A (do let _ ← comprehension (.ListComp elt [⟨.Name x px, iter, [ct], 0⟩] scope pos) scope env _ (newList []) false (eval iter env) (some (assign (.Name y py) env))) _ _ s
  exact wpAny_bind (wpAny_mono (wpAny_comprehension_free (use := some (assign (.Name y py) env)) (Q := fun _ s' => Q .next s') rfl hs hclos hkind hnames h) (fun _ s' hq => wpAny_pure (wpAny_pure hq)) fun _ _ e => e)
/-- what the list's coming back has to meet -/
def CompRet (h₀ : Heap) (L : Addr) (m : Str → Option Value) (s : Shared) (news : Led) (ls : List Int) (RR : Value → Addr → Result → Shared → Prop) : Prop :=
  ∀ D C h tk m' ys, Fr h₀ L h m → News h₀ L h ((D, lst ys) :: news) → Off1 D news → h.Ns C m' → h₀.get? C = none → h₀.get? D = none → C ≠ L → D ≠ L → C ≠ D → (∀ p ∈ news, p.1 ≠ C) → (∀ p ∈ news, p.1 < D) → IntsAre ys ls → RR (.ref D) C (.ok .next) { s with heap := h, toks := tk }
theorem compRet_eval {ls : List Int} {news : Led} {Q : Value → Shared → Prop}
    (h : ∀ D ys h tk, Fr h₀ L h m → News h₀ L h ((D, listOf (List.toArray ys) ys.length) :: news) → (∀ p ∈ news, p.1 < D) → IntsAre ys ls → Q (.ref D) { s with heap := h, toks := tk }) :
    CompRet h₀ L m s news ls (fun acc C => compPost (model prog w) A E none Q acc C) := by
  intro D C h' tk m' ys F' N' o1 hn hC₀ hD₀ hCL hDL hCD offC lt hys
  refine ⟨m', hn, fun h'' hs'' => h D ys h'' tk (F'.change hs'' hCL hC₀) (fun p hp => ?_) lt hys⟩
  refine ⟨hs''.extBut _ _ ?_ (N' p hp).1, (N' p hp).2⟩
  rcases List.mem_cons.mp hp with rfl | hp
  · exact Ne.symm hCD
  · exact offC p hp
theorem compRet_assign {ls : List Int} {news : Led} {y : Str} {py : Pos} {Q : Shared → Prop} (hLe : env.locals = L) (hy : env.kindOf y = some .local) (hp : (env.scope.kind == .class || (env.scope.kind == .module && env.locals != env.globals)) = false)
    (h : ∀ D ys h tk, Fr h₀ L h (fun z => if z = y then some (.ref D) else m z) → News h₀ L h ((D, listOf (List.toArray ys) ys.length) :: news) → (∀ p ∈ news, p.1 < D) → IntsAre ys ls → Q { s with heap := h, toks := tk }) :
    CompRet h₀ L m s news ls (fun acc C => compPost (model prog w) A E (some (assign (.Name y py) env)) (fun _ s' => Q s') acc C) := by
  subst hLe
  intro D C h' tk m' ys F' N' o1 hn hC₀ hD₀ hCL hDL hCD offC lt hys
  show wpAny _ A (assign (.Name y py) env (.ref D)) _ _ _
  refine wpAny_assign_Name (wpAny_storeName_local hy F'.ns (fun h₂ hn₂ hs₂ => ?_) hp)
  have hL₀ : h₀.get? env.locals = none := Heap.get?_none_of_le F'.above
  have F₂ : Fr h₀ env.locals h₂ (fun z => if z = y then some (.ref D) else m z) := ⟨hn₂, fun b o e => hs₂.extBut b o (fun q => by rw [q, hL₀] at e; cases e) (F'.keep b o e), F'.above⟩
  refine ⟨m', hn.sameBut hs₂ hCL, fun h'' hs'' => h D ys h'' _ (F₂.change hs'' hCL hC₀) (fun p hp => ?_) lt hys⟩
  have z : h₂.get? p.1 = some p.2 := hs₂.extBut _ _ (N' p hp).2.1 (N' p hp).1
  refine ⟨hs''.extBut _ _ ?_ z, (N' p hp).2⟩
  rcases List.mem_cons.mp hp with rfl | hp
  · exact Ne.symm hCD
  · exact offC p hp
theorem compSrc_list {elt iter : Expr} {x : Str} {px : Pos} {ct : Expr} {scope : Scope} {cl : List (Str × Addr)} {pos : Pos} {RR : Value → Addr → Result → Shared → Prop} {ax : Addr} {us : List Value} {ns : List Int} {k : Nat} {news : Led}
    (hh : A.handled = none) (F : Fr h₀ L s.heap m) (N : News h₀ L s.heap news) (hi : IntsAre us ns) (hm : (ax, listOf us.toArray k) ∈ news) (hz : ns.length ≤ 1000)
    (hcell : ∀ y ∈ scope.names, y.2 ≠ .cell) (hkind : scope.kind = .function) (hx : scope.names.lookup x = some .local) (pz : Nat → Bool) (g : Nat → Int)
    (R : Turns prog w A h₀ L m env elt x ct scope cl news ns.length (fun i v => ∃ z t, v = .int z t ∧ ns[i]? = some z) pz g s)
    (ret : CompRet h₀ L m s news (pick pz g ns.length) RR) :
    CompSrc prog w A E env elt x px iter ct scope cl pos RR (.ref ax) s := by
  have hl := News.isList N hm
  have hlt : ax < s.heap.objs.size := by obtain ⟨_, e, _⟩ := hl; exact Heap.lt_size e
  have hul : us.toArray.size = ns.length := by rw [List.size_toArray, hi.length]
  refine wpAny_pyIter_list hl ?_
  have up : ∀ b o, s.heap.get? b = some o → (s.heap.push { cls := .type "list_iterator", data := .fields #[.ref ax, .int 0 0] }).get? b = some o := fun b o e => Heap.get?_push_of_some _ e
  refine comp_block (s₂ := { s with heap := s.heap.push { cls := .type "list_iterator", data := .fields #[.ref ax, .int 0 0] } }) (n := us.toArray.size) (pz := pz) (g := g) (Walks.list hh s.heap.objs.size ax (Nat.ne_of_lt hlt) us.toArray) (by rw [hul, sizeLine_eq]; omega) (fun i h st => by obtain ⟨o, e, _⟩ := st.1; exact ⟨o, e⟩) list_st hcell hkind hx ⟨⟨_, Heap.get?_push_size _ rfl, rfl, rfl⟩, hl.push _⟩ (fun b hb => ?_)
    (F.keeps up) (N.grown up) (Nat.ne_of_lt F.ns.lt) (next_is_new F) (fun p hp => Nat.ne_of_lt (Heap.lt_size (N p hp).1)) (srcL hm) ?_ ?_
  · show b < (s.heap.push _).objs.size
    rw [Heap.size_push]
    rcases List.mem_cons.mp hb with rfl | hb
    · exact Nat.lt_succ_self _
    · rw [List.mem_singleton.mp hb]; exact Nat.lt_succ_of_lt hlt
  · intro i v I oI C oC D oD m₂ h tk E' hlt' hv hoC hmx F' N' off' nes
    rw [hul] at hlt'
    refine R i v I oI C oC D oD m₂ h tk E' hlt' ?_ hoC hmx F' N' off' nes
    obtain ⟨z, t, e1, e2⟩ := ints_at hi hv
    exact ⟨z, t, e1, e2⟩
  · rw [hul]
    exact ret
theorem compSrc_upto {elt iter : Expr} {x : Str} {px : Pos} {ct : Expr} {scope : Scope} {cl : List (Str × Addr)} {pos : Pos} {RR : Value → Addr → Result → Shared → Prop} {r : Addr} {t u v : Tok} {n : Nat} {news : Led}
    (hh : A.handled = none) (F : Fr h₀ L s.heap m) (N : News h₀ L s.heap news) (hr : IsRange s.heap r 0 n 1 t u v) (hz : n ≤ 1000)
    (hcell : ∀ y ∈ scope.names, y.2 ≠ .cell) (hkind : scope.kind = .function) (hx : scope.names.lookup x = some .local) (pz : Nat → Bool) (g : Nat → Int)
    (R : Turns prog w A h₀ L m env elt x ct scope cl news n (fun i v => ∃ t, v = .int (i : Int) t) pz g s)
    (ret : CompRet h₀ L m s news (pick pz g n) RR) :
    CompSrc prog w A E env elt x px iter ct scope cl pos RR (.ref r) s := by
  have hn : Builtin.Range.rangeSize 0 n 1 = ((n : Nat) : Int) := by rw [rangeSize_nat]; simp
  refine wpAny_pyIter_range hr (small_one (by omega) (by omega) (by omega) (by omega)) ?_
  refine comp_block (s₂ := { s with heap := s.heap.push _ }) (S := fun _ => True) (n := n) (pz := pz) (g := g) (range_walks hh 0 n) (by rw [sizeLine_eq]; omega) (fun i h st => ⟨_, st⟩) range_st hcell hkind hx (by show IsRangeIter _ _ _ _ _; rw [hn]; simpa using Heap.get?_push_size _ rfl) (fun b hb => ?_)
    (F.keeps fun _ _ e => Heap.get?_push_of_some _ e) (N.grown fun _ _ e => Heap.get?_push_of_some _ e) (Nat.ne_of_lt F.ns.lt) (next_is_new F) (fun p hp => Nat.ne_of_lt (Heap.lt_size (N p hp).1)) trivial ?_ ret
  · rw [List.mem_singleton.mp hb]
    show s.heap.objs.size < (s.heap.push _).objs.size
    rw [Heap.size_push]; exact Nat.lt_succ_self _
  · intro i v I oI C oC D oD m₂ h tk E' hlt' hv hoC hmx F' N' off' nes
    refine R i v I oI C oC D oD m₂ h tk E' hlt' ?_ hoC hmx F' N' off' nes
    obtain ⟨t, e⟩ := hv
    exact ⟨t, by rw [e, Int.zero_add]⟩
end
end
section

theorem isList_keeps {h h' : Heap} {a : Addr} {its : Array Value} (x : h.IsList a its) (k : ∀ b o, h.get? b = some o → h'.get? b = some o) : h'.IsList a its := let ⟨o, e, r⟩ := x; ⟨o, k _ _ e, r⟩
theorem sub_h {a : Addr × Obj} {l big : Led} (h : a ∈ big) (hr : ∀ p ∈ l, p ∈ big) : ∀ p ∈ a :: l, p ∈ big := fun p hp => by
  rcases List.mem_cons.mp hp with rfl | hp
  · exact h
  · exact hr p hp
theorem sub_t {a : Addr × Obj} {l big : Led} (h : ∀ p ∈ l, p ∈ big) : ∀ p ∈ l, p ∈ a :: big := fun p hp => List.mem_cons_of_mem _ (h p hp)
/-- the five hands -/
def handOf (i : Nat) : Addr × Str := match i with
  | 0 => (60, "!&<>\"\t") | 1 => (81, "!&<>\"\t") | 2 => (67, "!&<>\"\t") | 3 => (88, "!&<\"\t") | _ => (74, "!&>\"\t")
theorem mod5 (x : Int) : x.fmod 5 = 0 ∨ x.fmod 5 = 1 ∨ x.fmod 5 = 2 ∨ x.fmod 5 = 3 ∨ x.fmod 5 = 4 := by
  have e : x.fmod 5 = x % 5 := Int.fmod_eq_emod_of_nonneg x (by decide)
  omega
set_option maxHeartbeats 4000000 in
theorem hand_spec (w : World) (news : Led) (sc : Addr) (xs : List Value) (is : List Int) (hx : IntsAre xs is) (hl : is.length ≤ 63) : Spec w (fun h => h.IsList sc xs.toArray) news 98 [.ref sc] 4 4000
    (fun v n => ∃ t i tk, i < 5 ∧ v = .ref t ∧ n = ((t, tupOf [.ref (handOf i).1, .str (handOf i).2 tk])   :: news)) := by
  k_with_none
  w_top off
  unfold Spec
  intro p loose mean mg mb dp un gd cn cs a ccd cl outer A₀ base h₀ L m s Q E kB kF kX kN kT hkind hdep hun hpre hret
  obtain ⟨kk, kn, kg, kc, km⟩ := cs
  dsimp only at hkind
  subst hkind
  ktr_unf
  rename Fr h₀ L _ m => FG
  have hsc := isList_keeps hpre FG.keep
  k_steps
  rename CarriedAll _ _ => hC
  rename Heap.IsList _ _ _ => hI
  rename NewPlain _ _ _ _ => hP
  rename Fr _ _ _ _ => F
  rename News _ _ _ _ => N
  refine LSm.sum_ints F N rfl hI (CarriedAll.intsOf hC) fun h' tk' t' F1 N1 => ?_
  generalize List.sum (α := Int) _ = S
  rcases mod5 S with e | e | e | e | e
  all_goals k_steps
  all_goals rw [e]
  all_goals k_steps
  · rename News h₀ L _ _ => kN'
    exact hret _ _ _ _ ⟨_, 0, _, by decide, rfl, rfl⟩ (by assumption) (news_sub kN' (by (repeat' first | exact (fun p hp => hp) | exact List.Mem.head _ | refine sub_h ?_ ?_ | refine List.Mem.tail _ ?_ | refine sub_t ?_)))
  · rename News h₀ L _ _ => kN'
    exact hret _ _ _ _ ⟨_, 1, _, by decide, rfl, rfl⟩ (by assumption) (news_sub kN' (by (repeat' first | exact (fun p hp => hp) | exact List.Mem.head _ | refine sub_h ?_ ?_ | refine List.Mem.tail _ ?_ | refine sub_t ?_)))
  · rename News h₀ L _ _ => kN'
    exact hret _ _ _ _ ⟨_, 2, _, by decide, rfl, rfl⟩ (by assumption) (news_sub kN' (by (repeat' first | exact (fun p hp => hp) | exact List.Mem.head _ | refine sub_h ?_ ?_ | refine List.Mem.tail _ ?_ | refine sub_t ?_)))
  · rename News h₀ L _ _ => kN'
    exact hret _ _ _ _ ⟨_, 3, _, by decide, rfl, rfl⟩ (by assumption) (news_sub kN' (by (repeat' first | exact (fun p hp => hp) | exact List.Mem.head _ | refine sub_h ?_ ?_ | refine List.Mem.tail _ ?_ | refine sub_t ?_)))
  · rename News h₀ L _ _ => kN'
    exact hret _ _ _ _ ⟨_, 4, _, by decide, rfl, rfl⟩ (by assumption) (news_sub kN' (by (repeat' first | exact (fun p hp => hp) | exact List.Mem.head _ | refine sub_h ?_ ?_ | refine List.Mem.tail _ ?_ | refine sub_t ?_)))
end
section

theorem news_strs {h₀ h : Heap} {L l : Addr} {r : Led} {ps : List Value} {ss : List Str} {k : Nat} (N : News h₀ L h ((l, listOf ps.toArray k) :: r)) (hs : StrsAre ps ss) : ∃ qs, StrsAre qs ss ∧ News h₀ L h ((l, listOf (List.toArray qs) k) :: r) := ⟨ps, hs, N⟩
def pieces : List Str := ["!", "&", "<", ">", "\"", "\t", "a", "<!", ">!", "a!"]
theorem mod_nat {x : Int} {n : Nat} (h : 0 < n) : ∃ j : Nat, j < n ∧ x.fmod (n : Int) = j := by
  have h0 := Int.fmod_nonneg_of_pos x (b := (n : Int)) (by omega)
  have h1 := Int.fmod_lt_of_pos x (b := (n : Int)) (by omega)
  exact ⟨(x.fmod n).toNat, by omega, by omega⟩
theorem mod_ten (x : Int) : ∃ j : Nat, j < 10 ∧ x.fmod 10 = j := mod_nat (n := 10) (by decide)
section
variable {prog : Program} {w : World} {A : Around} {E : Value → Shared → Prop} {s : Shared} {h₀ : Heap} {L : Addr} {m : Str → Option Value} {news : Led}
theorem add_strs {a b : Addr} {us vs : List Value} {ss ts : List Str} {k1 k2 : Nat} {Q : Value → Shared → Prop} (F : Fr h₀ L s.heap m) (N : News h₀ L s.heap news) (ma : (a, listOf us.toArray k1) ∈ news) (mb : (b, listOf vs.toArray k2) ∈ news)
    (hi : StrsAre us ss) (hj : StrsAre vs ts) (hz : ss.length + ts.length ≤ 1000)
    (h : ∀ D ws h', Fr h₀ L h' m → News h₀ L h' ((D, listOf (List.toArray ws) 0) :: news) → (∀ p ∈ news, p.1 < D) → StrsAre ws (ss ++ ts) → Q (.ref D) { s with heap := h' }) :
    wpAny (model prog w) A (binaryOp .Add (.ref a) (.ref b)) Q E s :=
  add_lists (hsz := by rw [hi.length, hj.length, sizeLine_eq]; omega) F N (News.isList N ma) (News.isList N mb) fun h' F' N' => h _ _ h' F' N' (fun p hp => Heap.lt_size (N p hp).1) (hi.append' hj)
end
theorem five_ok : ∀ x ∈ ([2, 7, 22, 27, 11] : List Int), 0 ≤ x ∧ x < 1000000 := by decide
def signOk (c : Nat) : Bool := c == 33 || c == 38 || c == 60 || c == 62 || c == 34 || c == 9 || c == 97
/-- what is known of the words -/
structure WordsOk (ws : List Str) (n : Nat) : Prop where
  nd : ws.Nodup
  len : ws.length ≤ n
  short : ∀ x ∈ ws, x.length ≤ 2 * n
  sign : ∀ x ∈ ws, ∀ c ∈ x.cps.toList, signOk c = true
theorem piece_all : ∀ j < 10, (pieces.getD j Str.empty).length ≤ 2 ∧ (pieces.getD j Str.empty).cps.toList.all signOk = true := by decide +kernel
theorem piece_ok {j : Nat} (h : j < 10) : ∃ x, pieces.getD (j : Int).toNat Str.empty = x ∧ x.length ≤ 2 ∧ ∀ c ∈ x.cps.toList, signOk c = true :=
  ⟨_, rfl, (piece_all j h).1, List.all_eq_true.mp (piece_all j h).2⟩
theorem base_ok {ws bs : List Str} {i j : Nat} (hk : WordsOk ws i) (h : [Str.ofString ""] ++ ws = bs) (hj : j < bs.length) : ∃ x, bs.getD (j : Int).toNat Str.empty = x ∧ x.length ≤ 2 * i ∧ ∀ c ∈ x.cps.toList, signOk c = true := by
  refine ⟨_, rfl, ?_⟩
  subst h
  cases j with
  | zero => exact ⟨Nat.zero_le _, (fun _ h => nomatch h)⟩
  | succ j =>
    have hj' : j < ws.length := by simpa using hj
    have e : ([Str.ofString ""] ++ ws).getD ((j + 1 : Nat) : Int).toNat Str.empty = ws[j] := by
      show (Str.ofString "" :: ws).getD (j + 1) Str.empty = ws[j]
      simp [hj']
    rw [e]
    exact ⟨hk.short _ (List.getElem_mem hj'), hk.sign _ (List.getElem_mem hj')⟩
theorem strsSnoc {x : Str} {t : Tok} {us : List Value} {ws : List Str} (h : StrsAre us ws) : StrsAre (us ++ [.str x t]) (ws ++ [x]) := h.append' (.cons _ _ .nil)
theorem WordsOk.snoc {ws : List Str} {i : Nat} {y1 y2 : Str} (h : WordsOk ws i) (a : (ws.any fun x => x == y1 ++ y2) = false) (l1 : y1.length ≤ 2 * i) (l2 : y2.length ≤ 2) (ll : (y1 ++ y2).length ≤ y1.length + y2.length)
    (s1 : ∀ c ∈ y1.cps.toList, signOk c = true) (s2 : ∀ c ∈ y2.cps.toList, signOk c = true) : WordsOk (ws ++ [y1 ++ y2]) (i + 1) := by
  have hn : y1 ++ y2 ∉ ws := fun hm => by
    have := List.any_eq_false.mp a _ hm
    simp at this
  refine ⟨?_, ?_, fun x hx => ?_, fun x hx c hc => ?_⟩
  · rw [List.nodup_append]
    refine ⟨h.nd, List.nodup_cons.mpr ⟨(fun h => nomatch h), List.nodup_nil⟩, fun x hx y hy => ?_⟩
    rw [List.mem_singleton.mp hy]
    rintro rfl
    exact hn hx
  · rw [List.length_append, List.length_singleton]
    have := h.len
    omega
  · rcases List.mem_append.mp hx with hx | hx
    · have := h.short x hx
      omega
    · rw [List.mem_singleton.mp hx]
      omega
  · rcases List.mem_append.mp hx with hx | hx
    · exact h.sign x hx c hc
    · rw [List.mem_singleton.mp hx] at hc
      have e : (y1 ++ y2).cps.toList = y1.cps.toList ++ y2.cps.toList := Array.toList_append
      rw [e] at hc
      rcases List.mem_append.mp hc with hc | hc
      · exact s1 c hc
      · exact s2 c hc
theorem WordsOk.up {ws : List Str} {n m : Nat} (h : WordsOk ws n) (l : n ≤ m) : WordsOk ws m := ⟨h.nd, Nat.le_trans h.len l, (fun x hx => Nat.le_trans (h.short x hx) (by omega)), h.sign⟩
structure WordsJ (base : Led) (wa : Addr) (i : Nat) (m : Str → Option Value) (nw : Led) (us : List Value) (ws : List Str) (kw : Nat) : Prop where
  led : nw = (wa, listOf us.toArray kw) :: base
  p1 : m "words" = some (.ref wa)
  st : StrsAre us ws
  ok : WordsOk ws i
set_option maxHeartbeats 4000000 in
theorem words_spec (w : World) (news : Led) (sc : Addr) (xs : List Value) (is : List Int) (hx : IntsAre xs is) (hl : is.length ≤ 63) : Spec w (fun h => h.IsList sc xs.toArray) news 93 [.ref sc] 4 4000
    (fun v n => ∃ t us ws k', v = .ref t ∧ n = ((t, listOf us.toArray k') :: news) ∧ StrsAre us ws ∧ WordsOk ws 10 ∧ ∀ p ∈ news, p.1 < t) := by
  k_with_none
  w_top off
  unfold Spec
  intro p loose mean mg mb dp un gd cn cs a ccd cl outer A₀ base h₀ L m s Q E kB kF kX kN kT hkind hdep hun hpre hret
  obtain ⟨kk, kn, kg, kc, km⟩ := cs
  dsimp only at hkind
  subst hkind
  ktr_unf
  rename Fr h₀ L _ m => FG
  have hsc := isList_keeps hpre FG.keep
  k_steps
  rename CarriedAll _ _ => hC
  try simp only [filter_true'] at hC
  k_made
  k_steps
  rename _ < _ ∧ _ < _ ∧ _ < _ ∧ _ < _ ∧ AllLt _ news => q2
  rename IntsAre _ ([2, 7, 22, 27, 11] ++ _) => hZ
  rename Fr _ _ _ _ => F
  rename News _ _ _ _ => N
  have hnum : ∀ x ∈ ([2, 7, 22, 27, 11] : List Int) ++ List.map (fun a => a.fmod (10 ^ Int.toNat 6)) (List.take 5 is), 0 ≤ x ∧ x < 1000000 := by
    intro x hx
    rcases List.mem_append.mp hx with hx | hx
    · exact five_ok x hx
    · obtain ⟨y, _, rfl⟩ := List.mem_map.mp hx
      show 0 ≤ y.fmod 1000000 ∧ y.fmod 1000000 < 1000000
      have e : y.fmod 1000000 = y % 1000000 := Int.fmod_eq_emod_of_nonneg y (by decide)
      omega
  obtain ⟨-, -, -, qt, -⟩ := q2
  rename_i wa _ q1 _ _ _ _ _ _ _ _ _ _ _ _ _ _ _ _ _ _ _ S zs hh
  have off : ∀ p ∈ (S, listOf zs.toArray 0) :: news, p.1 ≠ wa := ne_cons (Nat.ne_of_gt qt) fun p hp => Nat.ne_of_lt (q1 p hp)
  generalize hns : ([2, 7, 22, 27, 11] : List Int) ++ List.map (fun a => a.fmod (10 ^ Int.toNat 6)) (List.take 5 is) = ns at hZ hnum
  have hlen : ns.length ≤ 10 := by
    rw [← hns, List.length_append, List.length_map, List.length_take]
    simp only [List.length_cons, List.length_nil]
    omega
  refine forSrc_ints (k := 0) (by rfl) hZ F (news_sub N (show ∀ p ∈ ((wa, listOf #[] 0) :: (S, listOf zs.toArray 0) :: news), p ∈ _ by (repeat' first | exact (fun p hp => hp) | exact List.Mem.head _ | refine sub_h ?_ ?_ | refine List.Mem.tail _ ?_ | refine sub_t ?_))) (fun i m nw => ∃ us ws kw, WordsJ ((S, listOf zs.toArray 0) :: news) wa i m nw us ws kw) ⟨[], [], 0, ⟨rfl, rfl, .nil, ⟨List.nodup_nil, Nat.le_refl _, (fun _ h => nomatch h), (fun _ h => nomatch h)⟩⟩⟩ ?hS ?turn ?done
  case hS =>
    rintro i m nw ⟨us, ws, kw, hJ⟩
    obtain rfl := hJ.led
    exact .tail _ (.head _)
  case done =>
    rintro m₁ news₁ h tk ⟨us, ws, kw, hJ⟩ F₁ N₁
    replace F₁ := fr_pins _ F₁ (pinsOk_cons hJ.p1 pinsOk_nil)
    obtain rfl := hJ.led
    have hv := hJ.st
    have hk := hJ.ok.up hlen
    k_steps
    exact hret _ _ _ _ ⟨_, us, ws, kw, rfl, rfl, hv, hk, q1⟩ (by assumption) (news_sub (by assumption) (by (repeat' first | exact (fun p hp => hp) | exact List.Mem.head _ | refine sub_h ?_ ?_ | refine List.Mem.tail _ ?_ | refine sub_t ?_)))
  rintro i x t m₁ news₁ h tk I oI hi ⟨us, ws, kw, hJ⟩ offI F₁ N₁
  replace F₁ := fr_pins _ F₁ (pinsOk_cons hJ.p1 pinsOk_nil)
  obtain rfl := hJ.led
  obtain ⟨hx0, hx1⟩ := hnum x (List.mem_of_getElem? hi)
  have hv := hJ.st
  have hv2 := hJ.st
  have hwl := hJ.ok.len
  have hil : i < ns.length := by
    rw [List.getElem?_eq_some_iff] at hi
    exact hi.1
  k_steps
  rename Fr _ _ _ _ => F2
  rename News _ _ _ _ => N2
  refine add_strs F2 N2 (.head _) (.tail _ (.tail _ (.head _))) (.cons _ _ .nil) hv (by rw [List.length_singleton]; omega) fun D' ds h' F3 N3 l1 hd => ?_
  k_lt l1
  generalize hbs : [Str.ofString ""] ++ ws = bs at hd
  have hbl : 0 < bs.length ∧ bs.length ≤ 10 := by
    rw [← hbs, List.length_append, List.length_singleton]
    omega
  obtain ⟨hb0, hb1⟩ := hbl
  have hd' := hd
  k_steps
  obtain ⟨j, hj, ej⟩ := mod_nat (x := x) hb0
  rw [ej]
  rename Fr _ _ _ _ => F4
  rename News _ _ _ _ => N4
  obtain ⟨ps, hps, N5⟩ := news_strs (ss := pieces) N4 (.cons _ _ (.cons _ _ (.cons _ _ (.cons _ _ (.cons _ _ (.cons _ _ (.cons _ _ (.cons _ _ (.cons _ _ (.cons _ _ .nil))))))))))
  clear N4
  k_steps
  obtain ⟨j2, hj2, ej2⟩ := mod_ten (x.fdiv (bs.length : Int))
  rw [ej2]
  have hpl : pieces.length = 10 := rfl
  k_steps
  obtain ⟨y1, ey1, yl1, ys1⟩ := base_ok hJ.ok hbs hj
  obtain ⟨y2, ey2, yl2, ys2⟩ := piece_ok hj2
  rw [ey1, ey2]
  have hzc : us.toArray.size ≤ sizeLine := by
    rw [List.size_toArray, hv2.length, sizeLine_eq]
    omega
  have hok := hJ.ok
  have hwI : @Ne Nat wa I := offI (wa, _) (.head _)
  have ll : (y1 ++ y2).length ≤ y1.length + y2.length := by
    have e : (y1 ++ y2).cps.toList = y1.cps.toList ++ y2.cps.toList := Array.toList_append
    have e2 := congrArg List.length e
    rw [List.length_append] at e2
    exact Nat.le_of_eq e2
  k_with "call builtin:list.append" => (
    k_dflt (refine' append_K ?k1 ?k2 ?k3 ?_ hzc; (case k1 => k_asm); (case k2 => k_asm); (case k3 => k_upd))
    intro h' F' N'
    try simp only [List.push_toArray] at N'
    try k_sweep)
  k_steps
  · exact turnEnd ((wa, listOf us.toArray kw) :: (S, listOf zs.toArray 0) :: news) (by assumption) (by assumption) (by (repeat' first | exact (fun p hp => hp) | exact List.Mem.head _ | refine sub_h ?_ ?_ | refine List.Mem.tail _ ?_ | refine sub_t ?_)) (by (repeat' first | exact (fun p hp => hp) | exact List.Mem.head _ | refine sub_h ?_ ?_ | refine List.Mem.tail _ ?_ | refine sub_t ?_)) offI ⟨us, ws, kw, ⟨rfl, rfl, hv, hok.up (by omega)⟩⟩
  · rename (List.any ws _) = false => hnw
    exact turnEnd ((wa, listOf (us ++ [_]).toArray (kw + 1)) :: (S, listOf zs.toArray 0) :: news) (by assumption) (by assumption) (by (repeat' first | exact (fun p hp => hp) | exact List.Mem.head _ | refine sub_h ?_ ?_ | refine List.Mem.tail _ ?_ | refine sub_t ?_)) (by (repeat' first | exact (fun p hp => hp) | exact List.Mem.head _ | refine sub_h ?_ ?_ | refine List.Mem.tail _ ?_ | refine sub_t ?_)) (ne_cons (offI (wa, _) (.head _)) fun p hp => offI p (.tail _ hp)) ⟨_, _, _, ⟨rfl, rfl, strsSnoc hv2, hok.snoc hnw yl1 yl2 ll ys1 ys2⟩⟩
end
section

theorem fr_lt {h₀ h : Heap} {L : Addr} {m : Str → Option Value} (F : Fr h₀ L h m) (C : CodeHd h₀ 116 114) : @LT.lt Nat _ 114 L := by
  obtain ⟨o, _, _, _, _, _, _, _, _, e, _⟩ := C
  have h1 := Heap.lt_size e
  have h2 : h₀.objs.size ≤ L := F.above
  exact Nat.lt_of_lt_of_le (Nat.lt_trans (by decide : 114 < 116) h1) h2
section
variable {prog : Program} {w : World} {A : Around} {E : Value → Shared → Prop} {s : Shared} {h₀ : Heap} {L : Addr} {m : Str → Option Value} {news : Led}
theorem len_strs_N {a : Addr} {us : List Value} {ss : List Str} {k1 : Nat} {Q : Value → Shared → Prop} (N : News h₀ L s.heap news) (ma : (a, listOf us.toArray k1) ∈ news) (hi : StrsAre us ss) (hz : ss.length ≤ 1000)
    (h : Q (.int ss.length (s.toks + 1)) { s with toks := s.toks + 1 + 1 }) :
    wpAny (model prog w) A (call (.builtin "len") [.ref a]) Q E s := by
  refine len_list (News.isList N ma) (by rw [List.size_toArray, hi.length]; omega) ?_
  rw [List.size_toArray, hi.length]
  exact h
end
theorem ne3 {L : Addr} {l : Led} (h : AllLt L l) : ∀ p ∈ l, p.1 ≠ L + 1 + 1 + 1 := fun p hp => Nat.ne_of_lt (Nat.lt_of_lt_of_le (allLt_mem h p hp) (Nat.le_add_right L 3))
theorem ne4 {L : Addr} {l : Led} (h : AllLt L l) : ∀ p ∈ l, p.1 ≠ L + 1 + 1 + 1 + 1 := fun p hp => Nat.ne_of_lt (Nat.lt_of_lt_of_le (allLt_mem h p hp) (Nat.le_add_right L 4))
theorem ne5 {L : Addr} {l : Led} (h : AllLt L l) : ∀ p ∈ l, p.1 ≠ L + 1 + 1 + 1 + 1 + 1 := fun p hp => Nat.ne_of_lt (Nat.lt_of_lt_of_le (allLt_mem h p hp) (Nat.le_add_right L 5))
/-- the words' row at n: the powers of two of the words that stand under it or over it -/
def dueRow (bel : Nat → List Int) (N n : Nat) : Int := (pick (fun j => ((bel n).any fun x => x == (j : Int)) || ((bel j).any fun x => x == (n : Int))) (fun j => 2 ^ j) N).sum
def takeStep (bel : Nat → List Int) (n : Nat) (tk : List Int) (i : Int) : List Int :=
  let under := (bel i.toNat).filter fun z => decide (z ≤ (n : Int))
  if i ≤ n ∧ under ≠ [] ∧ i ∉ tk ∧ under.getLastD 0 ∉ tk then tk ++ [i, under.getLastD 0] else tk
def takenOf (bel : Nat → List Int) (ord : List Int) (n : Nat) : List Int := ord.reverse.foldl (takeStep bel n) []
structure DueJ (mk : Led → Led) (news : Led) (L0 ra ca D : Addr) (bel : Nat → List Int) (ord : List Int) (N : Nat) (n : Nat) (m : Str → Option Value) (nw : Led) (rs : List Value) (kr : Nat) (cvs : List Value) (kc : Nat) (tups : Led) (rks : List Nat) (on : Obj) (v : Option Value) : Prop where
  led : nw = (ca, listOf cvs.toArray kc) :: (ra, listOf rs.toArray kr) :: (L0 + 1 + 1 + 1 + 1 + 1, on) :: mk (tups ++ news)
  p1 : m "rows" = some (.ref ra)
  p2 : m "counts" = some (.ref ca)
  p3 : m "order" = some (.ref D)
  cell : on.data = Data.cell v
  rows : IntsAre rs ((List.range n).map (dueRow bel N))
  tuples : TupsAre cvs tups rks
  val : rks = (List.range n).map fun k => (takenOf bel ord k).length
  off1 : ∀ p ∈ tups ++ news, p.1 ≠ ca
  off2 : ∀ p ∈ tups ++ news, p.1 ≠ ra
  off3 : ∀ p ∈ tups ++ news, p.1 ≠ L0 + 1 + 1 + 1 + 1 + 1
structure TakeJ (base : Led) (ta ra ca D : Addr) (z : List Int) (m : Str → Option Value) (nw : Led) (tvs : List Value) (kt : Nat) : Prop where
  led : nw = (ta, listOf tvs.toArray kt) :: base
  p1 : m "rows" = some (.ref ra)
  p2 : m "counts" = some (.ref ca)
  p3 : m "order" = some (.ref D)
  p4 : m "taken" = some (.ref ta)
  iarr : IntsAre tvs z
section
variable {bel : Nat → List Int} {n zn : Nat} {T U : List Int}
theorem tk_no1 (h : ¬ (zn : Int) ≤ n) : takeStep bel n T zn = T := if_neg fun c => h c.1
theorem tk_no2 (hU : (bel zn).filter (fun z => decide (z ≤ (n : Int))) = U) (h : decide (U = []) = true) : takeStep bel n T zn = T := if_neg fun c => c.2.1 (hU.trans (of_decide_eq_true h))
theorem tk_no3 (h : (T.any fun x => x == (zn : Int)) = true) : takeStep bel n T zn = T := if_neg fun c => c.2.2.1 (by
  obtain ⟨x, hx, e⟩ := List.any_eq_true.mp h
  rw [eq_of_beq e] at hx
  exact hx)
theorem tk_no4 (hU : (bel zn).filter (fun z => decide (z ≤ (n : Int))) = U) (h : (T.any fun x => x == U.getLastD 0) = true) : takeStep bel n T zn = T := if_neg fun c => c.2.2.2 (by
  obtain ⟨x, hx, e⟩ := List.any_eq_true.mp h
  rw [eq_of_beq e] at hx
  rw [← hU] at hx
  exact hx)
theorem tk_yes (h1 : (zn : Int) ≤ n) (hU : (bel zn).filter (fun z => decide (z ≤ (n : Int))) = U) (h2 : decide (U = []) = false) (h3 : (T.any fun x => x == (zn : Int)) = false) (h4 : (T.any fun x => x == U.getLastD 0) = false) : takeStep bel n T zn = T ++ [(zn : Int), U.getLastD 0] := by
  subst hU
  exact if_pos ⟨h1, of_decide_eq_false h2, (fun hm => by have := List.any_eq_false.mp h3 _ hm; simp at this), (fun hm => by have := List.any_eq_false.mp h4 _ hm; simp at this)⟩
theorem take_next {α β : Type} {f : β → α → β} {b : β} {l : List α} {q : Nat} {z : α} (h : l[q]? = some z) : (l.take (q + 1)).foldl f b = f ((l.take q).foldl f b) z := by
  rw [List.take_add_one, h, Option.toList_some, List.foldl_append]
  rfl
theorem taken_len : ∀ (l : List Int) (T : List Int), (l.foldl (takeStep bel n) T).length ≤ T.length + 2 * l.length := by
  intro l
  induction l with
  | nil => intro T; exact Nat.le_refl _
  | cons z l ih =>
    intro T
    have h1 := ih (takeStep bel n T z)
    have h2 : (takeStep bel n T z).length ≤ T.length + 2 := by
      unfold takeStep
      dsimp only
      split
      · rw [List.length_append]; exact Nat.le_refl _
      · omega
    rw [List.foldl_cons, List.length_cons]
    omega
end
theorem last_eq {U : List Int} (h : 0 < U.length) : U.getD (-1 + (U.length : Int)).toNat 0 = U.getLastD 0 := by
  have e : (-1 + (U.length : Int)).toNat = U.length - 1 := by omega
  rw [e, List.getLastD_eq_getLast?, List.getLast?_eq_getElem?, List.getD_eq_getElem?_getD]
theorem lt_nat {a b : Addr} (h : a < b) : @LT.lt Nat _ a b := h
inductive ListsAre : List Value → Led → List (List Int) → Prop
  | nil : ListsAre [] [] []
  | snoc {bs : List Value} {tabs : Led} {xss : List (List Int)} {t : Addr} {us : List Value} {ns : List Int} {k : Nat} : ListsAre bs tabs xss → IntsAre us ns → ListsAre (bs ++ [.ref t]) (tabs ++ [(t, listOf us.toArray k)]) (xss ++ [ns])
structure BelJ (mk : Led → Led) (news : Led) (L0 b D : Addr) (f : Nat → List Int) (i : Nat) (m : Str → Option Value) (nw : Led) (bs : List Value) (kb : Nat) (tabs : Led) (xss : List (List Int)) (ow : Obj) (v : Option Value) : Prop where
  led : nw = (b, listOf bs.toArray kb) :: (L0 + 1 + 1 + 1 + 1, ow) :: mk (tabs ++ news)
  p1 : m "order" = some (.ref D)
  cell : ow.data = Data.cell v
  lists : ListsAre bs tabs xss
  val : xss = (List.range i).map f
  off1 : ∀ p ∈ tabs ++ news, p.1 ≠ b
  off2 : ∀ p ∈ tabs ++ news, p.1 ≠ L0 + 1 + 1 + 1 + 1
  off3 : ∀ p ∈ tabs ++ news, p.1 ≠ L0 + 1 + 1 + 1 + 1 + 1
theorem perm_nat {ns : List Int} {n : Nat} (hp : ns.Perm (natsTo n)) {z : Int} (h : z ∈ ns) : ∃ q : Nat, q < n ∧ z = q := by
  obtain ⟨q, hq, rfl⟩ := List.mem_map.mp (hp.mem_iff.mp h)
  exact ⟨q, List.mem_range.mp hq, rfl⟩
def standsOn (sg a x : Str) : Bool :=
  decide ((a.length : Int) < x.length) && (Txt.slice x none (some (a.length : Int)) == a) && !(Builtin.Str.occurrences sg (Txt.item x a.length) 0 sg.length 1).isEmpty
def belowOf (ws : List Str) (sg : Str) (ord : List Int) (i : Nat) : List Int := ord.filter fun z => standsOn sg (ws.getD z.toNat Str.empty) (ws.getD i Str.empty)
section
variable {sg a x : Str}
theorem so_len (h : ¬ (a.length : Int) < x.length) : standsOn sg a x = false := by
  unfold standsOn
  rw [decide_eq_false h]
  rfl
theorem so_ne (h : (Txt.slice x none (some (a.length : Int)) == a) = false) : standsOn sg a x = false := by simp [standsOn, h]
theorem so_no (h : (Builtin.Str.occurrences sg (Txt.item x a.length) 0 sg.length 1).isEmpty = true) : standsOn sg a x = false := by simp [standsOn, h]
theorem so_yes (h1 : (a.length : Int) < x.length) (h2 : (Txt.slice x none (some (a.length : Int)) == a) = true) (h3 : (Builtin.Str.occurrences sg (Txt.item x a.length) 0 sg.length 1).isEmpty = false) : standsOn sg a x = true := by
  unfold standsOn
  rw [decide_eq_true h1, h2, h3]
  rfl
end
theorem belowOf_len {ws : List Str} {sg : Str} {ord : List Int} {i : Nat} : (belowOf ws sg ord i).length ≤ ord.length := List.length_filter_le _ _
theorem ListsAre.len {bs : List Value} {tabs : Led} {xss : List (List Int)} (h : ListsAre bs tabs xss) : bs.length = xss.length := by
  induction h with
  | nil => rfl
  | snoc _ _ ih => rw [List.length_append, List.length_append, ih]; rfl
theorem ListsAre.at {bs : List Value} {tabs : Led} {xss : List (List Int)} (h : ListsAre bs tabs xss) {j : Nat} (hj : j < xss.length) : ∃ t us k, bs[j]? = some (.ref t) ∧ (t, listOf (List.toArray us) k) ∈ tabs ∧ IntsAre us (xss.getD j []) := by
  induction h with
  | nil => exact absurd hj (Nat.not_lt_zero _)
  | @snoc bs tabs xss t us ns k h hi ih =>
    by_cases h1 : j < xss.length
    · obtain ⟨t', us', k', e1, e2, e3⟩ := ih h1
      refine ⟨t', us', k', ?_, List.mem_append_left _ e2, ?_⟩
      · rw [List.getElem?_append_left (by rw [h.len]; exact h1)]
        exact e1
      · rw [List.getD_eq_getElem?_getD, List.getElem?_append_left h1, ← List.getD_eq_getElem?_getD]
        exact e3
    · have e : j = xss.length := by
        rw [List.length_append, List.length_singleton] at hj
        omega
      subst e
      refine ⟨t, us, k, ?_, List.mem_append_right _ (.head _), ?_⟩
      · rw [List.getElem?_append_right (by rw [h.len]; exact Nat.le_refl _), h.len]
        simp
      · rw [List.getD_eq_getElem?_getD, List.getElem?_append_right (Nat.le_refl _)]
        simpa using hi
section
variable {prog : Program} {w : World} {A : Around} {E : Value → Shared → Prop} {s : Shared} {h₀ : Heap} {L : Addr} {led : Led}
theorem item_lists {value slice : Expr} {b : Addr} {bs : List Value} {kb j n : Nat} {f : Nat → List Int} {tabs : Led} {xss : List (List Int)} {u : Tok} {Q : Value → Shared → Prop} (hs : ListsAre bs tabs xss) (hval : xss = (List.range n).map f) (hj : j < n) (hn : n ≤ 1000) (N : News h₀ L s.heap led) (hb : (b, listOf bs.toArray kb) ∈ led) (ht : ∀ p ∈ tabs, p ∈ led)
    (h : ∀ t us k, (t, listOf (List.toArray us) k) ∈ tabs → News h₀ L s.heap ((t, listOf (List.toArray us) k) :: led) → IntsAre us (f j) → Q (.ref t) s)
    (hs' : subscripted slice false (.ref b) (.int j u) = operate [.ref b, .int j u] (getItem (.ref b) (.int j u)) := by with_unfolding_all rfl) (hg : ∀ r, letTemporaryGo value (.ref b) r = pure () := by intro _; with_unfolding_all rfl) :
    wpAny (model prog w) A (subscriptTail value slice (.ref b) (.int (j : Int) u)) Q E s := by
  obtain ⟨t, us, k, e1, e2, e3⟩ := hs.at (j := j) (by rw [hval, List.length_map, List.length_range]; exact hj)
  have ex : xss.getD j [] = f j := by rw [hval]; simp [hj]
  rw [ex] at e3
  exact item_list (News.isList N hb) (by omega) (by omega) (by rw [Int.toNat_natCast]; simpa using e1) (h t us k e2 (fun p hp => by
    rcases List.mem_cons.mp hp with rfl | hp
    · exact N _ (ht _ e2)
    · exact N p hp) e3) hs' hg
end
theorem all_snoc {P : Addr × Obj → Prop} {d : Addr × Obj} {tabs news : Led} (hd : P d) (h : ∀ p ∈ tabs ++ news, P p) : ∀ p ∈ (tabs ++ [d]) ++ news, P p := fun p hp => by
  rcases List.mem_append.mp hp with hp | hp
  · rcases List.mem_append.mp hp with hp | hp
    · exact h p (List.mem_append_left _ hp)
    · rw [List.mem_singleton.mp hp]
      exact hd
  · exact h p (List.mem_append_right _ hp)
theorem pick_getD (f : Int → Bool) : ∀ (ns : List Int), pick (fun i => f (ns.getD i 0)) (fun i => ns.getD i 0) ns.length = ns.filter f := by
  intro ns
  have h1 : (List.range ns.length).map (fun i => ns.getD i 0) = ns := by
    apply List.ext_getElem
    · simp
    · intro i h1 h2
      simp [h2]
  have h2 : (fun i => f (ns.getD i 0)) = f ∘ (fun i => ns.getD i 0) := rfl
  unfold pick
  rw [h2, ← List.filter_map, h1]
theorem belowOf_at {ws : List Str} {sg x : Str} {ord : List Int} {i : Nat} (h : ws[i]? = some x) : belowOf ws sg ord i = ord.filter fun z => standsOn sg (ws.getD z.toNat Str.empty) x := by
  unfold belowOf
  rw [show ws.getD i Str.empty = x by rw [List.getD_eq_getElem?_getD, h]; rfl]
theorem news_fresh {g h1 h2 : Heap} {L : Addr} {news : Led} {o : Obj} (hl : L < h1.objs.size) (ha : g.objs.size ≤ L) (e : h2.get? h1.objs.size = some o) (N : News g L h2 news) : News g L h2 ((h1.objs.size, o) :: news) := fun p hp => by
  rcases List.mem_cons.mp hp with rfl | hp
  · exact ⟨e, Nat.ne_of_gt hl, Heap.get?_none_of_le (Nat.le_trans ha (Nat.le_of_lt hl))⟩
  · exact N p hp
theorem ex114 {h₀ h : Heap} {L : Addr} {big : Led} (N : News h₀ L h big) {ps : Array Value} (hm : (114, tabObj ps) ∈ big) : ∃ q, News h₀ L h ((114, tabObj q) :: big) := ⟨ps, fun p hp => by
  rcases List.mem_cons.mp hp with rfl | hp
  · exact N _ hm
  · exact N p hp⟩
set_option maxHeartbeats 4000000 in
theorem due_spec (w : World) (news : Led) (wa : Addr) (us : List Value) (ws : List Str) (sg : Str) (ts : Tok) (k : Nat) (hx : StrsAre us ws) (hl : WordsOk ws 10) (hwa : @LT.lt Nat _ 114 wa) (hnn : ∀ p ∈ news, p.1 ≠ 114) : Spec w (fun h => CodeHd h 116 114) ((114, tabObj #[]) :: (wa, listOf us.toArray k) :: news) 117 [.ref wa, .str sg ts] 8 4000
    (fun v n => ∃ ord t ra ca rs kr cvs kc tups rks ps, v = .ref t ∧ n = (t, tupOf [.ref ra, .ref ca]) :: (ra, listOf (List.toArray rs) kr) :: (ca, listOf (List.toArray cvs) kc) :: (tups ++ (wa, listOf us.toArray k) :: (114, tabObj ps) :: news) ∧ IntsAre rs ((List.range ws.length).map (dueRow (belowOf ws sg ord) ws.length)) ∧ TupsAre cvs tups rks ∧
      rks = ((List.range ws.length).map fun n => (takenOf (belowOf ws sg ord) ord n).length) ∧ ord.Perm (natsTo ws.length) ∧ ord.Pairwise fun x y => ((ws.getD x.toNat Str.empty).length : Int) ≤ (ws.getD y.toNat Str.empty).length) := by
  k_with_none
  w_top off
  unfold Spec
  intro p loose mean mg mb dp un gd cn cs a ccd cl outer A₀ base h₀ L m s Q E kB kF kX kN kT hkind hdep hun hpre hret
  obtain ⟨kk, kn, kg, kc, km⟩ := cs
  dsimp only at hkind
  subst hkind
  ktr_unf
  rename_i g0 L0 h0 tk0 FG FB B0 X0 T0 q0 o1 o2 o3 o4 o5 d1 d2 d3 d4 d5 N0
  have c5 : o5.data = Data.cell (some (.ref wa)) := d5
  have c4 : o4.data = Data.cell (some (.str sg ts)) := d4
  have c3 : ∃ v, o3.data = Data.cell v := ⟨_, d3⟩
  have c2 : ∃ v, o2.data = Data.cell v := ⟨_, d2⟩
  have c1 : ∃ v, o1.data = Data.cell v := ⟨_, d1⟩
  clear d1 d2 d3 d4 d5
  obtain ⟨v3, d3⟩ := c3
  obtain ⟨v2, d2⟩ := c2
  obtain ⟨v1, d1⟩ := c1
  have hwl := hl.len
  have hcode : CodeHd _ 116 114 := CodeHd.keeps hpre FG.keep
  have hL := fr_lt FB hcode
  have e3 := ne3 q0.2.2
  have e4 := ne4 q0.2.2
  have e5 := ne5 q0.2.2
  have hfl := FB.ns.lt
  have hs5 := lt_nat (Heap.lt_size (N0 _ (.head _)).1)
  dsimp only at hs5
  have hfa := FB.above
  have hLL : @LT.lt Nat _ 114 wa := hwa
  k_with "call builtin:len" => (
    k_here
    k_dflt (refine' len_strs_N ?N ?m hx (by omega) ?_; (case N => k_asm); (case m => k_mem)))
  k_with "eval Lambda" => (
    rename IsRange _ _ _ _ _ _ _ _ => hR
    rename News _ _ _ _ => N
    have N1 := news_fresh hfl hfa hR N
    have hr1 := hs5
    clear N
    k_dflt (refine' kla_eval ?d0 ?_; (case d0 => exact rfl))
    k_dflt (refine' kla_nest ?F ?N ?T ?C ?cd ?U ?t ?n ?cl ?_; (case F => k_asm); (case N => k_asm); (case T => k_asm); (case cd => exact rfl); (case C => kn_code); (case U => k_updF); (case t => kn_triples); (case n => kn_among); (case cl => exact rfl); k_whole)
    intro f' c' oc' vs' t' ct' h' tk' F' N' d1' d2' l1 l2
    (try dsimp only at N'); (try k_lt l1); (try k_lt2 l2))
  k_steps
  rename Fr _ _ _ _ => F
  rename News _ _ _ _ => N
  have hx2 := hx
  have hsh := hl.short
  have h1000 : ∀ x ∈ ws, x.length ≤ 1000 := fun x hx => Nat.le_trans (hsh x hx) (by omega)
  refine sorted_range (fun z => (ws.getD z.toNat Str.empty).length) F N (by rfl) (N _ (.tail _ (.tail _ (.head _)))).1 (by omega) (fun i t h tk own hi F' N' => ?turn) (fun D vs' ns' c h' tk F' N' l1 hi hp ho => ?done)
  case turn =>
    simp only [List.cons_append] at N'
    k_with "call builtin:len" => (k_dflt (refine SBL.len (str_short h1000 _) ?_))
    k_steps
  case done =>
    k_lt l1
    k_steps
    rename_i b h6 lb h7 o3n F7 N7 c3n
    have hnl : ns'.length ≤ 10 := by
      have h1 := hp.length_eq
      simp [natsTo] at h1
      omega
    have hi1 := hi
    have eb0 := allLt_ne lb.2.2.2.2.2.2.2.2.2.2.2
    obtain ⟨ps7, N7b⟩ := ex114 N7 (by repeat' first | exact List.Mem.head _ | refine List.Mem.tail _ ?_)
    obtain ⟨n1, hn1⟩ : ∃ n1, n1 = (114, tabObj ps7) :: news := ⟨_, rfl⟩
    have N7c := news_sub N7b (show ∀ p ∈ (b, listOf #[] 0) :: (L0 + 1 + 1 + 1 + 1, o2) :: (D, listOf vs'.toArray c) :: (L0 + 1 + 1 + 1 + 1 + 1, o1) :: (L0 + 1 + 1 + 1, o3n) :: (L0 + 1 + 1, o4) :: (L0 + 1, o5) :: (wa, listOf us.toArray k) :: n1, p ∈ _ by
      rw [hn1]
      (repeat' first | exact (fun p hp => hp) | exact List.Mem.head _ | refine sub_h ?_ ?_ | refine List.Mem.tail _ ?_ | refine sub_t ?_))
    have hb114 : @Ne Nat 114 b := Nat.ne_of_lt lb.2.2.2.2.2.2.2.2.2.1
    have hL0 : @LT.lt Nat _ 114 L0 := hL
    have eb : ∀ p ∈ n1, p.1 ≠ b := by rw [hn1]; exact ne_cons hb114 eb0
    have e4c : ∀ p ∈ n1, p.1 ≠ L0 + 1 + 1 + 1 + 1 := by rw [hn1]; exact ne_cons (show @Ne Nat 114 (L0 + 1 + 1 + 1 + 1) by omega) e4
    have e5c : ∀ p ∈ n1, p.1 ≠ L0 + 1 + 1 + 1 + 1 + 1 := by rw [hn1]; exact ne_cons (show @Ne Nat 114 (L0 + 1 + 1 + 1 + 1 + 1) by omega) e5
    clear N7 N7b
    refine forSrc_strs (k := k) (by rfl) hx2 F7 (news_sub N7c (show ∀ p ∈ (b, listOf #[] 0) :: (L0 + 1 + 1 + 1 + 1, o2) :: (D, listOf vs'.toArray c) :: (L0 + 1 + 1 + 1 + 1 + 1, o1) :: (L0 + 1 + 1 + 1, o3n) :: (L0 + 1 + 1, o4) :: (L0 + 1, o5) :: (wa, listOf us.toArray k) :: n1, p ∈ _ by (repeat' first | exact (fun p hp => hp) | exact List.Mem.head _ | refine sub_h ?_ ?_ | refine List.Mem.tail _ ?_ | refine sub_t ?_)))
      (fun i m nw => ∃ bs kb tabs xss ow v, BelJ (fun r => (D, listOf vs'.toArray c) :: (L0 + 1 + 1 + 1 + 1 + 1, o1) :: (L0 + 1 + 1 + 1, o3n) :: (L0 + 1 + 1, o4) :: (L0 + 1, o5) :: (wa, listOf us.toArray k) :: r) n1 L0 b D (belowOf ws sg ns') i m nw bs kb tabs xss ow v)
      ⟨[], 0, [], [], o2, v2, ⟨rfl, rfl, d2, .nil, rfl, eb, e4c, e5c⟩⟩ ?hS ?turn ?done
    case hS =>
      rintro i m nw ⟨bs, kb, tabs, xss, ow, v, hJ⟩
      obtain rfl := hJ.led
      exact .tail _ (.tail _ (.tail _ (.tail _ (.tail _ (.tail _ (.tail _ (.head _)))))))
    case done =>
      rintro m₁ news₁ h tk ⟨bs, kb, tabs, xss, ow, v, hJ⟩ F₁ N₁
      replace F₁ := fr_pins _ F₁ (pinsOk_cons hJ.p1 pinsOk_nil)
      obtain rfl := hJ.led
      try dsimp only at N₁
      have off1 := hJ.off1
      have off2 := hJ.off2
      have c2 := hJ.cell
      have hv := hx2
      k_steps

      rename_i ra h7a lra h7b tk7 ca h7c lca h7d F8 N8 h8 tk8 t8 u8 v8 hR8 F9 N9 keep9
      have hnb := hJ.lists.len
      have hxs : xss.length = ws.length := by rw [hJ.val, List.length_map, List.length_range]
      refine forSrc_upto (by rfl) F9 (news_sub N9 (show ∀ p ∈ (ca, listOf #[] 0) :: (ra, listOf #[] 0) :: (L0 + 1 + 1 + 1 + 1 + 1, o1) :: (b, listOf bs.toArray kb) :: (L0 + 1 + 1 + 1 + 1, ow) :: (D, listOf vs'.toArray c) :: (L0 + 1 + 1 + 1, o3n) :: (L0 + 1 + 1, o4) :: (L0 + 1, o5) :: (wa, listOf us.toArray k) :: (tabs ++ n1), p ∈ _ by (repeat' first | exact (fun p hp => hp) | exact List.Mem.head _ | refine sub_h ?_ ?_ | refine List.Mem.tail _ ?_ | refine sub_t ?_))) hR8 rfl (by omega)
        (fun i m nw => ∃ rs kr cvs kc tups rks on v, DueJ (fun r => (b, listOf bs.toArray kb) :: (L0 + 1 + 1 + 1 + 1, ow) :: (D, listOf vs'.toArray c) :: (L0 + 1 + 1 + 1, o3n) :: (L0 + 1 + 1, o4) :: (L0 + 1, o5) :: (wa, listOf us.toArray k) :: r) (tabs ++ n1) L0 ra ca D (belowOf ws sg ns') ns' ws.length i m nw rs kr cvs kc tups rks on v)
        ⟨[], 0, [], 0, [], [], o1, v1, ⟨rfl, rfl, rfl, rfl, d1, .nil, .nil, rfl, allLt_ne lca.2.2.2.2.2.2.2.2.2, allLt_ne lra.2.2.2.2.2.2.2.2, hJ.off3⟩⟩ ?turn2 ?done2
      case done2 =>
        rintro m₃ news₃ h10 tk10 ⟨rs, kr, cvs, kc, tups, rks, on, v2, hJ2⟩ F11 N11
        replace F11 := fr_pins _ F11 (pinsOk_cons hJ2.p1 (pinsOk_cons hJ2.p2 (pinsOk_cons hJ2.p3 pinsOk_nil)))
        obtain rfl := hJ2.led
        k_steps
        rename News h₀ L _ _ => kN'
        refine hret _ ((_, tupOf [.ref ra, .ref ca]) :: (ra, listOf rs.toArray kr) :: (ca, listOf cvs.toArray kc) :: (tups ++ (wa, listOf us.toArray k) :: (114, tabObj ps7) :: news)) _ _ ⟨ns', _, ra, ca, rs, kr, cvs, kc, tups, rks, ps7, rfl, rfl, hJ2.rows, hJ2.tuples, hJ2.val, hp, ho⟩ (by assumption) (news_sub kN' ?_)
        refine sub_h (by (repeat' first | exact (fun p hp => hp) | exact List.Mem.head _ | refine sub_h ?_ ?_ | refine List.Mem.tail _ ?_ | refine sub_t ?_)) (sub_h (by (repeat' first | exact (fun p hp => hp) | exact List.Mem.head _ | refine sub_h ?_ ?_ | refine List.Mem.tail _ ?_ | refine sub_t ?_)) (sub_h (by (repeat' first | exact (fun p hp => hp) | exact List.Mem.head _ | refine sub_h ?_ ?_ | refine List.Mem.tail _ ?_ | refine sub_t ?_)) fun p hp => ?_))
        simp only [hn1, List.mem_append, List.mem_cons] at hp ⊢
        rcases hp with hp | hp | hp | hp <;> simp [hp]
      rintro i t m₂ news₂ h2 tk2 I oI hi ⟨rs, kr, cvs, kc, tups, rks, on, v2, hJ2⟩ offI F₂ N₂
      replace F₂ := fr_pins _ F₂ (pinsOk_cons hJ2.p1 (pinsOk_cons hJ2.p2 (pinsOk_cons hJ2.p3 pinsOk_nil)))
      obtain rfl := hJ2.led
      try dsimp only at N₂
      try dsimp only at offI
      have cn := hJ2.cell
      have hI5 : @Ne Nat (L0 + 1 + 1 + 1 + 1 + 1) I := offI (_, on) (.tail _ (.tail _ (.head _)))
      have hIca : @Ne Nat ca I := offI (ca, _) (.head _)
      have hIra : @Ne Nat ra I := offI (ra, _) (.tail _ (.head _))
      have w1 := hJ2.off1
      have w2 := hJ2.off2
      have w3 := hJ2.off3
      have hv := hx2
      k_with "eval ListComp" => (k_dflt (refine ListComp_own (by with_unfolding_all rfl) (by rfl) (by decide) ?_))
      k_steps
      rename Fr _ _ _ _ => F5
      rename News _ _ _ _ => N5
      rename IsRange _ _ _ _ _ _ _ _ => hR5
      refine compSrc_upto (by rfl) F5 N5 hR5 (by omega) (by decide) (by rfl) (by rfl) (fun j => ((belowOf ws sg ns' i).any fun x => x == (j : Int)) || ((belowOf ws sg ns' j).any fun x => x == (i : Int))) (fun j => 2 ^ j) ?turns ?ret
      case turns =>
        rintro j v J oJ C oC D2 oD mm h3 tk3 E' hj ⟨tj, rfl⟩ hoC hmx F6 N6 off6 nes
        have hlists := hJ.lists
        have hval := hJ.val
        k_with "subscriptTail" => (
          (with_reducible show wpAny _ _ (subscriptTail _ _ (Value.ref b) (Value.int _ _)) _ _ _)
          (with_reducible rename News _ _ _ _ => N')
          refine item_lists hlists hval (by assumption) (by omega) N' (by k_dflt k_mem) (by intro p' hp'; simp only [List.mem_cons, List.mem_append]; simp only [hp', true_or, or_true]) ?_
          intro tb ub kbb memb N' hIb')
        k_steps
        · rename (List.any _ _) = true => a1
          refine testEnd (by simp only [a1, Bool.true_or]) (by assumption) (by assumption) (fun p hp => .tail _ hp) (fun _ E'' => ?_)
          k_steps
          exact eltEnd (by assumption) (by assumption) (fun p hp => .tail _ hp)
        · rename (List.any _ _) = true => a1
          refine testEnd (by simp only [a1, Bool.or_true]) (by assumption) (by assumption) (fun p hp => .tail _ (.tail _ hp)) (fun _ E'' => ?_)
          k_steps
          exact eltEnd (by assumption) (by assumption) (fun p hp => .tail _ (.tail _ hp))
        · rename ((belowOf ws sg ns' i).any _) = false => a1
          rename ((belowOf ws sg ns' j).any _) = false => a2
          exact testEnd (by simp only [a1, a2, Bool.or_false]) (by assumption) (by assumption) (fun p hp => .tail _ (.tail _ hp)) (fun h => by simp only [a1, a2, Bool.or_false] at h; exact absurd h (by decide))
      case ret =>
        refine compRet_eval fun D6 ys h6 tk6 F6 N6 l6 hys => ?_
        k_lt l6
        have hrl := hJ2.rows.length
        rw [List.length_map, List.length_range] at hrl
        have hzr : rs.toArray.size ≤ sizeLine := by
          rw [List.size_toArray, hrl, sizeLine_eq]
          omega
        k_with "call builtin:list.append" => (
          k_dflt (refine' append_K ?k1 ?k2 ?k3 ?_ hzr; (case k1 => k_asm); (case k2 => k_asm); (case k3 => k_upd))
          intro h' F' N'
          try simp only [List.push_toArray] at N')
        k_steps
        rename_i h8a tk8a t8a ta h9a lta h9b R wsr h9c F10 N10 hir hlr lR
        rename Obj => on2
        rename on2.data = _ => dn
        refine forSrc_ints (k := 0) (by rfl) hir F10 (news_sub N10 (show ∀ p ∈ (ta, listOf #[] 0) :: (R, listOf wsr.toArray 0) :: (I, oI) :: (ca, listOf cvs.toArray kc) :: (ra, listOf (rs ++ [Value.int (dueRow (belowOf ws sg ns') ws.length i) tk8a]).toArray (kr + 1)) :: (L0 + 1 + 1 + 1 + 1 + 1, on2) :: (b, listOf bs.toArray kb) :: (L0 + 1 + 1 + 1 + 1, ow) :: (D, listOf vs'.toArray c) :: (L0 + 1 + 1 + 1, o3n) :: (L0 + 1 + 1, o4) :: (L0 + 1, o5) :: (wa, listOf us.toArray k) :: (tups ++ (tabs ++ n1)), p ∈ _ by (repeat' first | exact (fun p hp => hp) | exact List.Mem.head _ | refine sub_h ?_ ?_ | refine List.Mem.tail _ ?_ | refine sub_t ?_)))
          (fun q m nw => ∃ tvs kt, TakeJ ((R, listOf wsr.toArray 0) :: (I, oI) :: (ca, listOf cvs.toArray kc) :: (ra, listOf (rs ++ [Value.int (dueRow (belowOf ws sg ns') ws.length i) tk8a]).toArray (kr + 1)) :: (L0 + 1 + 1 + 1 + 1 + 1, on2) :: (b, listOf bs.toArray kb) :: (L0 + 1 + 1 + 1 + 1, ow) :: (D, listOf vs'.toArray c) :: (L0 + 1 + 1 + 1, o3n) :: (L0 + 1 + 1, o4) :: (L0 + 1, o5) :: (wa, listOf us.toArray k) :: (tups ++ (tabs ++ n1))) ta ra ca D ((ns'.reverse.take q).foldl (takeStep (belowOf ws sg ns') i) []) m nw tvs kt)
          ⟨[], 0, ⟨rfl, rfl, rfl, rfl, rfl, .nil⟩⟩ ?hS3 ?turn3 ?done3
        case hS3 =>
          rintro q m nw ⟨tvs, kt, hJ3⟩
          obtain rfl := hJ3.led
          exact .tail _ (.head _)
        case done3 =>
          rintro m₃ news₃ h10 tk10 ⟨tvs, kt, hJ3⟩ F11 N11
          replace F11 := fr_pins _ F11 (pinsOk_cons hJ3.p1 (pinsOk_cons hJ3.p2 (pinsOk_cons hJ3.p3 (pinsOk_cons hJ3.p4 pinsOk_nil))))
          obtain rfl := hJ3.led
          have hints3 := hJ3.iarr
          rw [List.take_length] at hints3
          have hTl := taken_len (bel := belowOf ws sg ns') (n := i) ns'.reverse []
          rw [List.length_nil, List.length_reverse] at hTl
          generalize hT : List.foldl (takeStep (belowOf ws sg ns') i) [] ns'.reverse = T at hints3 hTl
          have hcl := hJ2.tuples.len
          have hrk : rks.length = i := by rw [hJ2.val, List.length_map, List.length_range]
          have hzcv : cvs.toArray.size ≤ sizeLine := by
            rw [List.size_toArray, hcl, hrk, sizeLine_eq]
            omega
          k_with "call builtin:list.append" => (
            k_dflt (refine' append_K ?k1 ?k2 ?k3 ?_ hzcv; (case k1 => k_asm); (case k2 => k_asm); (case k3 => k_upd))
            intro h' F' N'
            try simp only [List.push_toArray] at N')
          k_steps
          rename_i tt hx1 Fx1 Nx1 ltt
          refine turnEnd ((ca, listOf (cvs ++ [Value.ref tt]).toArray (kc + 1)) :: (ra, listOf (rs ++ [Value.int (dueRow (belowOf ws sg ns') ws.length i) tk8a]).toArray (kr + 1)) :: (L0 + 1 + 1 + 1 + 1 + 1, on2) :: (b, listOf bs.toArray kb) :: (L0 + 1 + 1 + 1 + 1, ow) :: (D, listOf vs'.toArray c) :: (L0 + 1 + 1 + 1, o3n) :: (L0 + 1 + 1, o4) :: (L0 + 1, o5) :: (wa, listOf us.toArray k) :: ((tups ++ [(tt, tupOf [Value.int (T.length : Int) (tk10 + 1), Value.bool true])]) ++ (tabs ++ n1))) (by assumption) (by assumption) (by (repeat' first | exact (fun p hp => hp) | exact List.Mem.head _ | refine sub_h ?_ ?_ | refine List.Mem.tail _ ?_ | refine sub_t ?_)) ?sub4 ?off4
            ⟨_, _, _, _, _, rks ++ [T.length], on2, _, ⟨rfl, rfl, rfl, rfl, dn, by rw [List.range_succ, List.map_append]; exact hJ2.rows.append (.cons _ _ .nil), .snoc hJ2.tuples, ?v4, all_snoc (Nat.ne_of_gt ltt.2.2.2.1) hJ2.off1, all_snoc (Nat.ne_of_gt ltt.2.2.2.2.1) hJ2.off2, all_snoc (Nat.ne_of_gt ltt.2.2.2.2.2.1) hJ2.off3⟩⟩
          case v4 =>
            rw [List.range_succ, List.map_append, ← hJ2.val, ← hT]
            rfl
          case sub4 =>
            refine sub_h (by (repeat' first | exact (fun p hp => hp) | exact List.Mem.head _ | refine sub_h ?_ ?_ | refine List.Mem.tail _ ?_ | refine sub_t ?_)) (sub_h (by (repeat' first | exact (fun p hp => hp) | exact List.Mem.head _ | refine sub_h ?_ ?_ | refine List.Mem.tail _ ?_ | refine sub_t ?_)) (sub_h (by (repeat' first | exact (fun p hp => hp) | exact List.Mem.head _ | refine sub_h ?_ ?_ | refine List.Mem.tail _ ?_ | refine sub_t ?_)) (sub_h (by (repeat' first | exact (fun p hp => hp) | exact List.Mem.head _ | refine sub_h ?_ ?_ | refine List.Mem.tail _ ?_ | refine sub_t ?_)) (sub_h (by (repeat' first | exact (fun p hp => hp) | exact List.Mem.head _ | refine sub_h ?_ ?_ | refine List.Mem.tail _ ?_ | refine sub_t ?_)) (sub_h (by (repeat' first | exact (fun p hp => hp) | exact List.Mem.head _ | refine sub_h ?_ ?_ | refine List.Mem.tail _ ?_ | refine sub_t ?_)) (sub_h (by (repeat' first | exact (fun p hp => hp) | exact List.Mem.head _ | refine sub_h ?_ ?_ | refine List.Mem.tail _ ?_ | refine sub_t ?_)) (sub_h (by (repeat' first | exact (fun p hp => hp) | exact List.Mem.head _ | refine sub_h ?_ ?_ | refine List.Mem.tail _ ?_ | refine sub_t ?_)) (sub_h (by (repeat' first | exact (fun p hp => hp) | exact List.Mem.head _ | refine sub_h ?_ ?_ | refine List.Mem.tail _ ?_ | refine sub_t ?_)) (sub_h (by (repeat' first | exact (fun p hp => hp) | exact List.Mem.head _ | refine sub_h ?_ ?_ | refine List.Mem.tail _ ?_ | refine sub_t ?_)) (all_snoc (.head _) ?_))))))))))
            (repeat' first | exact (fun p hp => hp) | exact List.Mem.head _ | refine sub_h ?_ ?_ | refine List.Mem.tail _ ?_ | refine sub_t ?_)
          case off4 =>
            refine ne_cons ?_ (ne_cons ?_ (ne_cons ?_ (ne_cons ?_ (ne_cons ?_ (ne_cons ?_ (ne_cons ?_ (ne_cons ?_ (ne_cons ?_ (ne_cons ?_ (all_snoc ?_ ?_))))))))))
            all_goals first
              | exact Nat.ne_of_gt ltt.2.2.1
              | exact offI (_, _) (by (repeat' first | exact (fun p hp => hp) | exact List.Mem.head _ | refine sub_h ?_ ?_ | refine List.Mem.tail _ ?_ | refine sub_t ?_))
              | exact fun p hp => offI p (.tail _ (.tail _ (.tail _ (.tail _ (.tail _ (.tail _ (.tail _ (.tail _ (.tail _ (.tail _ hp))))))))))
        rintro q z tz m₃ news₃ h10 tk10 I3 oI3 hq ⟨tvs, kt, hJ3⟩ offI3 F11 N11
        replace F11 := fr_pins _ F11 (pinsOk_cons hJ3.p1 (pinsOk_cons hJ3.p2 (pinsOk_cons hJ3.p3 (pinsOk_cons hJ3.p4 pinsOk_nil))))
        obtain rfl := hJ3.led
        obtain ⟨zn, hzn, rfl⟩ := perm_nat hp (List.mem_reverse.mp (List.mem_of_getElem? hq))
        have hlists := hJ.lists
        have hval := hJ.val
        have hints3 := hJ3.iarr
        have hI3ta : @Ne Nat ta I3 := offI3 (ta, _) (.head _)
        k_with "exec Assign cons ListComp" => (k_dflt (refine Assign_own (by with_unfolding_all rfl) (by with_unfolding_all rfl) (by rfl) (by decide) ?_))
        k_with "subscriptTail" => (
          (with_reducible show wpAny _ _ (subscriptTail _ _ (Value.ref b) (Value.int _ _)) _ _ _)
          (with_reducible rename News _ _ _ _ => N')
          refine item_lists hlists hval (by assumption) (by omega) N' (by k_dflt k_mem) (by intro p' hp'; simp only [List.mem_cons, List.mem_append]; simp only [hp', true_or, or_true]) ?_
          intro tb ub kbb memb N' hIb')
        k_steps
        rename Fr _ _ _ _ => F12
        rename News _ _ _ _ => N12
        rename IntsAre _ (belowOf ws sg ns' zn) => hbz
        refine compSrc_list (by rfl) F12 N12 hbz (.head _) (Nat.le_trans belowOf_len (by omega)) (by decide) (by rfl) (by rfl) (fun e => decide ((belowOf ws sg ns' zn).getD e 0 ≤ (i : Int))) (fun e => (belowOf ws sg ns' zn).getD e 0) ?turnsC ?retC
        case turnsC =>
          rintro e v J oJ C oC D2 oD mm h3 tk3 E' he ⟨y, ty, rfl, hy⟩ hoC hmx F6 N6 off6 nes
          have ez : (belowOf ws sg ns' zn).getD e 0 = y := by rw [List.getD_eq_getElem?_getD, hy]; rfl
          simp only [ez]
          k_steps
          refine testEnd rfl (by assumption) (by assumption) (fun _ h => h) (fun _ E'' => ?_)
          k_steps
          exact eltEnd (by assumption) (by assumption) (fun _ h => h)
        case retC =>
          refine compRet_assign ?e1 ?e2 ?e3 fun D7 ys7 h7 tk7 F13 N13 l7 hys7 => ?_
          case e1 => rfl
          case e2 => rfl
          case e3 => rfl
          rw [pick_getD (fun z => decide (z ≤ (i : Int)))] at hys7
          k_lt l7
          generalize hUe : List.filter (fun z => decide (z ≤ (i : Int))) (belowOf ws sg ns' zn) = U at hys7
          have hnx := take_next (f := takeStep (belowOf ws sg ns') i) (b := []) hq
          have hTl := taken_len (bel := belowOf ws sg ns') (n := i) (ns'.reverse.take q) []
          rw [List.length_take] at hTl
          generalize hT : List.foldl (takeStep (belowOf ws sg ns') i) [] (ns'.reverse.take q) = T at hints3 hnx hTl
          k_steps
          · rename decide (U = []) = true => hc
            exact turnEnd ((ta, listOf tvs.toArray kt) :: (R, listOf wsr.toArray 0) :: (I, oI) :: (ca, listOf cvs.toArray kc) :: (ra, listOf (rs ++ [Value.int (dueRow (belowOf ws sg ns') ws.length i) tk8a]).toArray (kr + 1)) :: (L0 + 1 + 1 + 1 + 1 + 1, on2) :: (b, listOf bs.toArray kb) :: (L0 + 1 + 1 + 1 + 1, ow) :: (D, listOf vs'.toArray c) :: (L0 + 1 + 1 + 1, o3n) :: (L0 + 1 + 1, o4) :: (L0 + 1, o5) :: (wa, listOf us.toArray k) :: (tups ++ (tabs ++ n1))) (by assumption) (by assumption) (by (repeat' first | exact (fun p hp => hp) | exact List.Mem.head _ | refine sub_h ?_ ?_ | refine List.Mem.tail _ ?_ | refine sub_t ?_)) (by (repeat' first | exact (fun p hp => hp) | exact List.Mem.head _ | refine sub_h ?_ ?_ | refine List.Mem.tail _ ?_ | refine sub_t ?_)) offI3 ⟨tvs, kt, ⟨rfl, rfl, rfl, rfl, rfl, by rw [hnx, tk_no2 hUe hc]; exact hints3⟩⟩
          · rename (List.any T _) = true => hc
            exact turnEnd ((ta, listOf tvs.toArray kt) :: (R, listOf wsr.toArray 0) :: (I, oI) :: (ca, listOf cvs.toArray kc) :: (ra, listOf (rs ++ [Value.int (dueRow (belowOf ws sg ns') ws.length i) tk8a]).toArray (kr + 1)) :: (L0 + 1 + 1 + 1 + 1 + 1, on2) :: (b, listOf bs.toArray kb) :: (L0 + 1 + 1 + 1 + 1, ow) :: (D, listOf vs'.toArray c) :: (L0 + 1 + 1 + 1, o3n) :: (L0 + 1 + 1, o4) :: (L0 + 1, o5) :: (wa, listOf us.toArray k) :: (tups ++ (tabs ++ n1))) (by assumption) (by assumption) (by (repeat' first | exact (fun p hp => hp) | exact List.Mem.head _ | refine sub_h ?_ ?_ | refine List.Mem.tail _ ?_ | refine sub_t ?_)) (by (repeat' first | exact (fun p hp => hp) | exact List.Mem.head _ | refine sub_h ?_ ?_ | refine List.Mem.tail _ ?_ | refine sub_t ?_)) offI3 ⟨tvs, kt, ⟨rfl, rfl, rfl, rfl, rfl, by rw [hnx, tk_no3 hc]; exact hints3⟩⟩
          · rename decide (U = []) = false => hU0
            have hUl : 0 < U.length := List.length_pos_iff.mpr (of_decide_eq_false hU0)
            have hUl2 : U.length ≤ 10 := by rw [← hUe]; exact Nat.le_trans (List.length_filter_le _ _) (Nat.le_trans belowOf_len (by omega))
            have wta := lta.2.2.2.2.2.2.2.2.2.2.2.2
            have wta2 := allLt_ne wta
            have htbta : @Ne Nat tb ta := Nat.ne_of_lt (allLt_mem wta _ (List.mem_append_right _ (List.mem_append_left _ memb)))
            k_steps
            · rename (List.any T _) = true => hc
              rw [last_eq hUl] at hc
              exact turnEnd ((ta, listOf tvs.toArray kt) :: (R, listOf wsr.toArray 0) :: (I, oI) :: (ca, listOf cvs.toArray kc) :: (ra, listOf (rs ++ [Value.int (dueRow (belowOf ws sg ns') ws.length i) tk8a]).toArray (kr + 1)) :: (L0 + 1 + 1 + 1 + 1 + 1, on2) :: (b, listOf bs.toArray kb) :: (L0 + 1 + 1 + 1 + 1, ow) :: (D, listOf vs'.toArray c) :: (L0 + 1 + 1 + 1, o3n) :: (L0 + 1 + 1, o4) :: (L0 + 1, o5) :: (wa, listOf us.toArray k) :: (tups ++ (tabs ++ n1))) (by assumption) (by assumption) (by (repeat' first | exact (fun p hp => hp) | exact List.Mem.head _ | refine sub_h ?_ ?_ | refine List.Mem.tail _ ?_ | refine sub_t ?_)) (by (repeat' first | exact (fun p hp => hp) | exact List.Mem.head _ | refine sub_h ?_ ?_ | refine List.Mem.tail _ ?_ | refine sub_t ?_)) offI3 ⟨tvs, kt, ⟨rfl, rfl, rfl, rfl, rfl, by rw [hnx, tk_no4 hUe hc]; exact hints3⟩⟩
            · rename (List.any T fun x => x == (zn : Int)) = false => hc2
              rename (List.any T fun x => x == U.getD _ 0) = false => hc
              have hts : tvs.length = T.length := hints3.length
              k_dflt (refine' kl_extend (its := tvs.toArray) ?k1 ?k2 ?k3 ?k4 ?k5 ?k6 ?k7 ?k8 ?k9 ?_; (case k1 => k_asm); (case k2 => k_asm); (case k3 => exact .head _); (case k4 => exact rfl); (case k6 => k_upd))
              case k5 => exact Nat.succ_ne_zero _
              case k7 =>
                intro hcc
                rw [Bool.and_eq_true] at hcc
                have h2 := hcc.2
                simp [Builtin.List.listTooLong, sizeLine] at h2
                simp only [List.length_nil, List.length_reverse] at hTl
                omega
              case k8 =>
                rw [List.toList_toArray, hts, sizeLine_eq]
                simp only [List.length_nil, List.length_reverse] at hTl
                omega
              case k9 =>
                rw [List.size_toArray, hts, sizeLine_eq]
                simp only [List.length_nil, List.length_reverse] at hTl
                show T.length + 2 ≤ _
                omega
              intro h' F' N'
              k_steps
              rw [last_eq hUl] at hc
              exact turnEnd ((ta, listOf (List.toArray _) (kt + 1)) :: (R, listOf wsr.toArray 0) :: (I, oI) :: (ca, listOf cvs.toArray kc) :: (ra, listOf (rs ++ [Value.int (dueRow (belowOf ws sg ns') ws.length i) tk8a]).toArray (kr + 1)) :: (L0 + 1 + 1 + 1 + 1 + 1, on2) :: (b, listOf bs.toArray kb) :: (L0 + 1 + 1 + 1 + 1, ow) :: (D, listOf vs'.toArray c) :: (L0 + 1 + 1 + 1, o3n) :: (L0 + 1 + 1, o4) :: (L0 + 1, o5) :: (wa, listOf us.toArray k) :: (tups ++ (tabs ++ n1))) (by assumption) (by assumption) (by (repeat' first | exact (fun p hp => hp) | exact List.Mem.head _ | refine sub_h ?_ ?_ | refine List.Mem.tail _ ?_ | refine sub_t ?_)) (by (repeat' first | exact (fun p hp => hp) | exact List.Mem.head _ | refine sub_h ?_ ?_ | refine List.Mem.tail _ ?_ | refine sub_t ?_)) (ne_cons hI3ta fun p hp => offI3 p (.tail _ hp)) ⟨_, _, ⟨rfl, rfl, rfl, rfl, rfl, by rw [hnx, tk_yes (by assumption) hUe hU0 hc2 hc, ← last_eq hUl]; exact hints3.append (.cons _ _ (.cons _ _ .nil))⟩⟩
          · exact turnEnd ((ta, listOf tvs.toArray kt) :: (R, listOf wsr.toArray 0) :: (I, oI) :: (ca, listOf cvs.toArray kc) :: (ra, listOf (rs ++ [Value.int (dueRow (belowOf ws sg ns') ws.length i) tk8a]).toArray (kr + 1)) :: (L0 + 1 + 1 + 1 + 1 + 1, on2) :: (b, listOf bs.toArray kb) :: (L0 + 1 + 1 + 1 + 1, ow) :: (D, listOf vs'.toArray c) :: (L0 + 1 + 1 + 1, o3n) :: (L0 + 1 + 1, o4) :: (L0 + 1, o5) :: (wa, listOf us.toArray k) :: (tups ++ (tabs ++ n1))) (by assumption) (by assumption) (by (repeat' first | exact (fun p hp => hp) | exact List.Mem.head _ | refine sub_h ?_ ?_ | refine List.Mem.tail _ ?_ | refine sub_t ?_)) (by (repeat' first | exact (fun p hp => hp) | exact List.Mem.head _ | refine sub_h ?_ ?_ | refine List.Mem.tail _ ?_ | refine sub_t ?_)) offI3 ⟨tvs, kt, ⟨rfl, rfl, rfl, rfl, rfl, by rw [hnx, tk_no1 (by assumption)]; exact hints3⟩⟩
    rintro i x t m₁ news₁ h tk I oI hi ⟨bs, kb, tabs, xss, ow, v, hJ⟩ offI F₁ N₁
    replace F₁ := fr_pins _ F₁ (pinsOk_cons hJ.p1 pinsOk_nil)
    obtain rfl := hJ.led
    try dsimp only at N₁
    try dsimp only at offI
    have c2 := hJ.cell
    have hI4 : @Ne Nat (L0 + 1 + 1 + 1 + 1) I := offI (_, ow) (.tail _ (.head _))
    have hIb : @Ne Nat b I := offI (b, _) (.head _)
    have off1 := hJ.off1
    have off2 := hJ.off2
    have hv := hx2
    have hxl : (x.length : Int) < 9223372036854775808 := by
      have := h1000 x (List.mem_of_getElem? hi)
      omega
    k_with "eval ListComp" => (k_dflt (refine ListComp_own (by with_unfolding_all rfl) (by rfl) (by decide) ?_))
    k_steps
    rename Fr _ _ _ _ => F5
    rename News _ _ _ _ => N5
    refine compSrc_list (by rfl) F5 N5 hi1 (k := c) (.tail _ (.tail _ (.tail _ (.head _)))) (by omega) (by decide) (by rfl) (by rfl) (fun i => standsOn sg (ws.getD (ns'.getD i 0).toNat Str.empty) x) (fun i => ns'.getD i 0) ?turns ?ret
    case turns =>
      rintro j v J oJ C oC D2 oD m₂ h tk E' hj ⟨z, tz, rfl, hz⟩ hoC hmx F6 N6 off6 nes
      obtain ⟨q, hq, rfl⟩ := perm_nat hp (List.mem_of_getElem? hz)
      have ez : ns'.getD j 0 = (q : Int) := by rw [List.getD_eq_getElem?_getD, hz]; rfl
      simp only [ez]
      k_with "call builtin:len" => (k_dflt (refine SBL.len (by first | exact str_short h1000 _ | exact hxl) ?_))
      have hx24 : x.length ≤ 1000 := h1000 x (List.mem_of_getElem? hi)
      k_with "subscriptTail" => (
        (with_reducible show wpAny _ _ (subscriptTail _ (Expr.Slice none (some _) none _) (Value.str _ _) (Value.ref _)) _ _ _)
        (with_reducible rename Fr _ _ _ _ => F')
        (with_reducible rename News _ _ _ _ => N')
        refine slice_strN_ns (hsz := (by rw [sizeLine_eq]; omega)) (s := ⟨_, _, _, _, _⟩) F' N' ?_
        intro _ _ _ _ _)
      k_with "subscriptTail" => (
        (with_reducible show wpAny _ _ (subscriptTail _ _ (Value.str _ _) (Value.int _ _)) _ _ _)
        refine KXi.item rfl (by omega) (by assumption) (by omega) ?_
        intro kxiE)
      k_steps
      · have eb := so_no (sg := sg) (a := ws.getD (q : Int).toNat Str.empty) (x := x) (by assumption)
        exact testEnd (by rw [eb]; try simp [*]) (by assumption) (by assumption) (fun _ h => h) (fun h => absurd h (by rw [eb]; decide))
      · have eb := so_yes (sg := sg) (a := ws.getD (q : Int).toNat Str.empty) (x := x) (by assumption) (by assumption) (by assumption)
        refine testEnd (by rw [eb]; try simp [*]) (by assumption) (by assumption) (fun _ h => h) (fun _ E'' => ?_)
        k_steps
        exact eltEnd (by assumption) (by assumption) (fun _ h => h)
      · have eb := so_ne (sg := sg) (a := ws.getD (q : Int).toNat Str.empty) (x := x) (by assumption)
        exact testEnd (by rw [eb]; try simp [*]) (by assumption) (by assumption) (fun _ h => h) (fun h => absurd h (by rw [eb]; decide))
      · have eb := so_len (sg := sg) (a := ws.getD (q : Int).toNat Str.empty) (x := x) (by assumption)
        exact testEnd (by rw [eb]; try simp [*]) (by assumption) (by assumption) (fun _ h => h) (fun h => absurd h (by rw [eb]; decide))
    case ret =>
      refine compRet_eval fun D5 ys h5 tk5 F6 N6 l5 hys => ?_
      rw [pick_getD (fun z => standsOn sg (ws.getD z.toNat Str.empty) x)] at hys
      have hbl := hJ.lists.len
      have hzc : bs.toArray.size ≤ sizeLine := by
        rw [List.size_toArray, hbl, hJ.val, List.length_map, List.length_range, sizeLine_eq]
        have := (List.getElem?_eq_some_iff.mp hi).1
        omega
      have l5' := l5
      k_lt l5
      k_with "call builtin:list.append" => (
        k_dflt (refine' append_K ?k1 ?k2 ?k3 ?_ hzc; (case k1 => k_asm); (case k2 => k_asm); (case k3 => k_upd))
        intro h' F' N'
        try simp only [List.push_toArray] at N')
      k_steps
      refine turnEnd ((b, listOf (bs ++ [Value.ref D5]).toArray (kb + 1)) :: (L0 + 1 + 1 + 1 + 1, _) :: (D, listOf vs'.toArray c) :: (L0 + 1 + 1 + 1 + 1 + 1, o1) :: (L0 + 1 + 1 + 1, o3n) :: (L0 + 1 + 1, o4) :: (L0 + 1, o5) :: (wa, listOf us.toArray k) :: ((tabs ++ [(D5, listOf ys.toArray ys.length)]) ++ n1)) (by assumption) (by assumption) (by (repeat' first | exact (fun p hp => hp) | exact List.Mem.head _ | refine sub_h ?_ ?_ | refine List.Mem.tail _ ?_ | refine sub_t ?_)) ?sub ?off
        ⟨bs ++ [Value.ref D5], kb + 1, tabs ++ [(D5, listOf ys.toArray ys.length)], xss ++ [belowOf ws sg ns' i], _, _, ⟨rfl, rfl, by assumption, .snoc hJ.lists (by rw [show belowOf ws sg ns' i = _ from belowOf_at hi]; exact hys), by rw [hJ.val, List.range_succ, List.map_append]; rfl, ?o1, ?o2, ?o3⟩⟩
      case sub =>
        refine sub_h (by (repeat' first | exact (fun p hp => hp) | exact List.Mem.head _ | refine sub_h ?_ ?_ | refine List.Mem.tail _ ?_ | refine sub_t ?_)) (sub_h (by (repeat' first | exact (fun p hp => hp) | exact List.Mem.head _ | refine sub_h ?_ ?_ | refine List.Mem.tail _ ?_ | refine sub_t ?_)) (sub_h (by (repeat' first | exact (fun p hp => hp) | exact List.Mem.head _ | refine sub_h ?_ ?_ | refine List.Mem.tail _ ?_ | refine sub_t ?_)) (sub_h (by (repeat' first | exact (fun p hp => hp) | exact List.Mem.head _ | refine sub_h ?_ ?_ | refine List.Mem.tail _ ?_ | refine sub_t ?_)) (sub_h (by (repeat' first | exact (fun p hp => hp) | exact List.Mem.head _ | refine sub_h ?_ ?_ | refine List.Mem.tail _ ?_ | refine sub_t ?_)) (sub_h (by (repeat' first | exact (fun p hp => hp) | exact List.Mem.head _ | refine sub_h ?_ ?_ | refine List.Mem.tail _ ?_ | refine sub_t ?_)) (sub_h (by (repeat' first | exact (fun p hp => hp) | exact List.Mem.head _ | refine sub_h ?_ ?_ | refine List.Mem.tail _ ?_ | refine sub_t ?_)) (sub_h (by (repeat' first | exact (fun p hp => hp) | exact List.Mem.head _ | refine sub_h ?_ ?_ | refine List.Mem.tail _ ?_ | refine sub_t ?_)) (all_snoc (.head _) ?_))))))))
        (repeat' first | exact (fun p hp => hp) | exact List.Mem.head _ | refine sub_h ?_ ?_ | refine List.Mem.tail _ ?_ | refine sub_t ?_)
      case off =>
        refine ne_cons hIb (ne_cons hI4 (ne_cons ?_ (ne_cons ?_ (ne_cons ?_ (ne_cons ?_ (ne_cons ?_ (ne_cons ?_ (all_snoc ?_ ?_))))))))
        all_goals first
          | exact Nat.ne_of_gt (l5' (I, oI) (.head _))
          | exact offI (_, _) (by (repeat' first | exact (fun p hp => hp) | exact List.Mem.head _ | refine sub_h ?_ ?_ | refine List.Mem.tail _ ?_ | refine sub_t ?_))
          | exact fun p hp => offI p (.tail _ (.tail _ (.tail _ (.tail _ (.tail _ (.tail _ (.tail _ (.tail _ hp))))))))
      case o1 => exact all_snoc (Nat.ne_of_gt (l5' (b, _) (.tail _ (.head _)))) hJ.off1
      case o3 => exact all_snoc (Nat.ne_of_gt (l5' (L0 + 1 + 1 + 1 + 1 + 1, _) (.tail _ (.tail _ (.tail _ (.tail _ (.head _))))))) hJ.off3
      case o2 => exact all_snoc (Nat.ne_of_gt (l5' (L0 + 1 + 1 + 1 + 1, _) (.tail _ (.tail _ (.head _))))) hJ.off2
end
section

open LCg in
section
variable {prog : Program} {w : World} {A : Around} {E : Value → Shared → Prop} {s : Shared} {h₀ : Heap} {L : Addr} {m : Str → Option Value} {env : Env}
def EltEndS (h₀ : Heap) (L : Addr) (m : Str → Option Value) (s : Shared) (led : Led) (g : Str) (y : Value) (s₅ : Shared) : Prop :=
  ∃ h tk t, s₅ = { s with heap := h, toks := tk } ∧ y = .str g t ∧ Fr h₀ L h m ∧ News h₀ L h led
theorem eltEndS {s : Shared} {led big : Led} {g : Str} {h : Heap} {tk : Nat} {t : Tok} (F : Fr h₀ L h m) (N : News h₀ L h big) (hs : ∀ p ∈ led, p ∈ big) : EltEndS h₀ L m s led g (.str g t) { s with heap := h, toks := tk } :=
  ⟨h, tk, t, rfl, rfl, F, fun p hp => N p (hs p hp)⟩
def TurnsS (prog : Program) (w : World) (A : Around) (h₀ : Heap) (L : Addr) (m : Str → Option Value) (env : Env) (elt : Expr) (x : Str) (scope : Scope) (cl : List (Str × Addr)) (news : Led) (n : Nat) (P : Nat → Value → Prop) (g : Nat → Str) (s : Shared) : Prop :=
  ∀ i v I oI C oC D oD m₂ h tk (E' : Value → Shared → Prop), i < n → P i v → NsObj oC m₂ → m₂ x = some v → Fr h₀ L h m → News h₀ L h ((I, oI) :: (C, oC) :: (D, oD) :: news) → Off3 I C D news → ((@Ne Nat I C) ∧ (@Ne Nat I D) ∧ (@Ne Nat C D)) →
    wpAny (model prog w) A (eval elt (compEnvC scope cl C env)) (EltEndS h₀ L m s ((I, oI) :: (C, oC) :: (D, oD) :: news) (g i)) E' { s with heap := h, toks := tk }
def pickS (g : Nat → Str) (n : Nat) : List Str := (List.range n).map g
theorem pickS_yes {g : Nat → Str} {i : Nat} : pickS g (i + 1) = pickS g i ++ [g i] := by simp [pickS, List.range_succ]
theorem pickS_len {g : Nat → Str} {i : Nat} : (pickS g i).length = i := by simp [pickS]

theorem rest_ofS {elt : Expr} {x : Str} {scope : Scope} {cl : List (Str × Addr)} {S : Led → Prop} {P : Nat → Value → Prop} {news : Led} {n : Nat} {g : Nat → Str} (hS : S news) (R : TurnsS prog w A h₀ L m env elt x scope cl news n P g s) :
    ∀ k i ys, i + k = n → StrsAre ys (pickS g i) → CompRest prog w A h₀ L m env elt x scope cl s S P (fun zs nw => nw = news ∧ StrsAre zs (pickS g n)) k i ys news
  | 0, i, ys, e, hy => .zero ⟨rfl, by rw [← show i = n from e]; exact hy⟩
  | k + 1, i, ys, e, hy => .succ fun v I oI C oC D m₂ h tk E' hP hoC hx F N off nes => by
    refine wpAny_mono (R i v I oI C oC D (lst ys) m₂ h tk E' (by omega) hP hoC hx F N off nes) (fun y s₅ h₅ => ?_) fun _ _ e => e
    obtain ⟨h₅, tk₅, t, rfl, rfl, F₅, N₅⟩ := h₅
    exact .intro F₅ N₅ news (fun p hp => hp) off hS (rest_ofS hS R k (i + 1) _ (by omega) (by rw [pickS_yes]; exact hy.append' (.cons _ _ .nil)))
theorem comp_blockS {elt iter : Expr} {x : Str} {px : Pos} {scope : Scope} {cl : List (Str × Addr)} {pos : Pos} {s₂ : Shared} {I : Addr} {fp : List Addr} {n : Nat} {P : Nat → Value → Prop} {St : Nat → Heap → Prop} {S : Led → Prop} {news : Led}
    {g : Nat → Str} {RR : Value → Addr → Result → Shared → Prop}
    (W : Walks prog w A I fp [I] n P St) (hsz : n ≤ sizeLine) (hIo : ∀ i h, St i h → ∃ o, h.get? I = some o)
    (hSt : ∀ i h h' o nw, St i h → h.get? I = some o → h'.get? I = some o → (∀ b o, h₀.get? b = some o → h'.get? b = some o) → News h₀ L h' nw → S nw → St i h')
    (hcell : ∀ y ∈ scope.names, y.2 ≠ .cell) (hkind : scope.kind = .function) (hx : scope.names.lookup x = some .local) (hst : St 0 s₂.heap) (hfp : ∀ b ∈ fp, b < s₂.heap.objs.size)
    (F : Fr h₀ L s₂.heap m) (N : News h₀ L s₂.heap news) (hIL : L ≠ I) (hI₀ : h₀.get? I = none) (off : ∀ p ∈ news, p.1 ≠ I) (hS : S news)
    (R : TurnsS prog w A h₀ L m env elt x scope cl news n P g s₂)
    (hRR : ∀ D C h tk m' ys, Fr h₀ L h m → News h₀ L h ((D, lst ys) :: news) → Off1 D news → h.Ns C m' → h₀.get? C = none → h₀.get? D = none → C ≠ L → D ≠ L → C ≠ D → (∀ p ∈ news, p.1 ≠ C) → (∀ p ∈ news, p.1 < D) → StrsAre ys (pickS g n) → RR (.ref D) C (.ok .next) { s₂ with heap := h, toks := tk }) :
    wpAny (model prog w) A (newList []) (fun acc s₃ => wpAny (model prog w) A (newFunctionEnv scope env.globals cl [] env.qual none .none (some env)) (fun cenv s₄ =>
      codeAny (model prog w) A (.compStart (.ListComp elt [⟨.Name x px, iter, [], 0⟩] scope pos) 0 (.ref I) acc { cenv with scope := relabel scope env }) (RR acc cenv.locals) s₄) E s₃) E s₂ := by
  refine newList_to (block_U (RR := fun v C r s' => v = .ref s₂.heap.objs.size → RR v C r s') W hsz hIo hSt hcell hkind hx hst hfp F N hIL hI₀ off hS (rest_ofS hS R n 0 [] (Nat.zero_add n) .nil) ?_) fun s' h => wpAny_mono h (fun _ _ h => codeAny_mono h fun _ _ h => h rfl) fun _ _ e => e
  rintro D C h tk m' ys _ F' N' o1 hn hC₀ hD₀ hCL hDL hCD offC ⟨rfl, hy⟩ e
  cases e
  exact hRR _ C h tk m' ys F' N' o1 hn hC₀ hD₀ hCL hDL hCD offC (fun p hp => Heap.lt_size (N p hp).1) hy
def CompSrcS (prog : Program) (w : World) (A : Around) (E : Value → Shared → Prop) (env : Env) (elt : Expr) (x : Str) (px : Pos) (iter : Expr) (scope : Scope) (cl : List (Str × Addr)) (pos : Pos) (RR : Value → Addr → Result → Shared → Prop) (xv : Value) (s₁ : Shared) : Prop :=
  wpAny (model prog w) A (pyIter xv) (fun it s₂ => wpAny (model prog w) A (newList []) (fun acc s₃ => wpAny (model prog w) A (newFunctionEnv scope env.globals cl [] env.qual none .none (some env)) (fun cenv s₄ =>
      codeAny (model prog w) A (.compStart (.ListComp elt [⟨.Name x px, iter, [], 0⟩] scope pos) 0 it acc { cenv with scope := relabel scope env }) (RR acc cenv.locals) s₄) E s₃) E s₂) E s₁
theorem Assign_ownS {elt iter : Expr} {x y : Str} {px py : Pos} {scope : Scope} {cl : List (Str × Addr)} {pos spos : Pos} {Q : Flow → Shared → Prop}
    (hsw : swapsWith (.ListComp elt [⟨.Name x px, iter, [], 0⟩] scope pos) (some (.Name y py)) spos.line env = pure true)
    (hclos : closureFor scope env = pure cl) (hkind : scope.kind = .function) (hnames : ∀ y ∈ scope.names, y.2 = .local → scope.names.lookup y.1 = some .local)
    (h : wpAny (model prog w) A (eval iter env) (CompSrcS prog w A E env elt x px iter scope cl pos (fun acc C => compPost (model prog w) A E (some (assign (.Name y py) env)) (fun _ s' => Q .next s') acc C)) E s)
    (hs : ∀ x, foldedSetIterable iter env x = pure x := by intro _; rfl) :
    wpAny (model prog w) A (exec (.Assign [.Name y py] (.ListComp elt [⟨.Name x px, iter, [], 0⟩] scope pos) spos) env) Q E s := by
  rw [exec_Assign_Name_used _ _ _ _ hsw]
  refine wpAny_bind (wpAny_standAt (wpAny_bind ?_))
  show wpAny _ A (do let _ ← comprehension (.ListComp elt [⟨.Name x px, iter, [], 0⟩] scope pos) scope env _ (newList []) false (eval iter env) (some (assign (.Name y py) env))) _ _ s
  exact wpAny_bind (wpAny_mono (wpAny_comprehension_free (use := some (assign (.Name y py) env)) (Q := fun _ s' => Q .next s') rfl hs hclos hkind hnames h) (fun _ s' hq => wpAny_pure (wpAny_pure hq)) fun _ _ e => e)
/-- what the list's coming back has to meet -/
def CompRetS (h₀ : Heap) (L : Addr) (m : Str → Option Value) (s : Shared) (news : Led) (ls : List Str) (RR : Value → Addr → Result → Shared → Prop) : Prop :=
  ∀ D C h tk m' ys, Fr h₀ L h m → News h₀ L h ((D, lst ys) :: news) → Off1 D news → h.Ns C m' → h₀.get? C = none → h₀.get? D = none → C ≠ L → D ≠ L → C ≠ D → (∀ p ∈ news, p.1 ≠ C) → (∀ p ∈ news, p.1 < D) → StrsAre ys ls → RR (.ref D) C (.ok .next) { s with heap := h, toks := tk }
theorem compRetS_eval {ls : List Str} {news : Led} {Q : Value → Shared → Prop}
    (h : ∀ D ys h tk, Fr h₀ L h m → News h₀ L h ((D, listOf (List.toArray ys) ys.length) :: news) → (∀ p ∈ news, p.1 < D) → StrsAre ys ls → Q (.ref D) { s with heap := h, toks := tk }) :
    CompRetS h₀ L m s news ls (fun acc C => compPost (model prog w) A E none Q acc C) := by
  intro D C h' tk m' ys F' N' o1 hn hC₀ hD₀ hCL hDL hCD offC lt hys
  refine ⟨m', hn, fun h'' hs'' => h D ys h'' tk (F'.change hs'' hCL hC₀) (fun p hp => ?_) lt hys⟩
  refine ⟨hs''.extBut _ _ ?_ (N' p hp).1, (N' p hp).2⟩
  rcases List.mem_cons.mp hp with rfl | hp
  · exact Ne.symm hCD
  · exact offC p hp
theorem compRetS_assign {ls : List Str} {news : Led} {y : Str} {py : Pos} {Q : Shared → Prop} (hLe : env.locals = L) (hy : env.kindOf y = some .local) (hp : (env.scope.kind == .class || (env.scope.kind == .module && env.locals != env.globals)) = false)
    (h : ∀ D ys h tk, Fr h₀ L h (fun z => if z = y then some (.ref D) else m z) → News h₀ L h ((D, listOf (List.toArray ys) ys.length) :: news) → (∀ p ∈ news, p.1 < D) → StrsAre ys ls → Q { s with heap := h, toks := tk }) :
    CompRetS h₀ L m s news ls (fun acc C => compPost (model prog w) A E (some (assign (.Name y py) env)) (fun _ s' => Q s') acc C) := by
  subst hLe
  intro D C h' tk m' ys F' N' o1 hn hC₀ hD₀ hCL hDL hCD offC lt hys
  show wpAny _ A (assign (.Name y py) env (.ref D)) _ _ _
  refine wpAny_assign_Name (wpAny_storeName_local hy F'.ns (fun h₂ hn₂ hs₂ => ?_) hp)
  have hL₀ : h₀.get? env.locals = none := Heap.get?_none_of_le F'.above
  have F₂ : Fr h₀ env.locals h₂ (fun z => if z = y then some (.ref D) else m z) := ⟨hn₂, fun b o e => hs₂.extBut b o (fun q => by rw [q, hL₀] at e; cases e) (F'.keep b o e), F'.above⟩
  refine ⟨m', hn.sameBut hs₂ hCL, fun h'' hs'' => h D ys h'' _ (F₂.change hs'' hCL hC₀) (fun p hp => ?_) lt hys⟩
  have z : h₂.get? p.1 = some p.2 := hs₂.extBut _ _ (N' p hp).2.1 (N' p hp).1
  refine ⟨hs''.extBut _ _ ?_ z, (N' p hp).2⟩
  rcases List.mem_cons.mp hp with rfl | hp
  · exact Ne.symm hCD
  · exact offC p hp
theorem compSrcS_list {elt iter : Expr} {x : Str} {px : Pos} {scope : Scope} {cl : List (Str × Addr)} {pos : Pos} {RR : Value → Addr → Result → Shared → Prop} {ax : Addr} {us : List Value} {ns : List Str} {k : Nat} {news : Led}
    (hh : A.handled = none) (F : Fr h₀ L s.heap m) (N : News h₀ L s.heap news) (hi : StrsAre us ns) (hm : (ax, listOf us.toArray k) ∈ news) (hz : ns.length ≤ 1000)
    (hcell : ∀ y ∈ scope.names, y.2 ≠ .cell) (hkind : scope.kind = .function) (hx : scope.names.lookup x = some .local) (g : Nat → Str)
    (R : TurnsS prog w A h₀ L m env elt x scope cl news ns.length (fun i v => ∃ z t, v = .str z t ∧ ns[i]? = some z) g s)
    (ret : CompRetS h₀ L m s news (pickS g ns.length) RR) :
    CompSrcS prog w A E env elt x px iter scope cl pos RR (.ref ax) s := by
  have hl := News.isList N hm
  have hlt : ax < s.heap.objs.size := by obtain ⟨_, e, _⟩ := hl; exact Heap.lt_size e
  have hul : us.toArray.size = ns.length := by rw [List.size_toArray, StrsAre.length hi]
  refine wpAny_pyIter_list hl ?_
  have up : ∀ b o, s.heap.get? b = some o → (s.heap.push { cls := .type "list_iterator", data := .fields #[.ref ax, .int 0 0] }).get? b = some o := fun b o e => Heap.get?_push_of_some _ e
  refine comp_blockS (s₂ := { s with heap := s.heap.push { cls := .type "list_iterator", data := .fields #[.ref ax, .int 0 0] } }) (n := us.toArray.size) (g := g) (Walks.list hh s.heap.objs.size ax (Nat.ne_of_lt hlt) us.toArray) (by rw [hul, sizeLine_eq]; omega) (fun i h st => by obtain ⟨o, e, _⟩ := st.1; exact ⟨o, e⟩) list_st hcell hkind hx ⟨⟨_, Heap.get?_push_size _ rfl, rfl, rfl⟩, hl.push _⟩ (fun b hb => ?_)
    (F.keeps up) (N.grown up) (Nat.ne_of_lt F.ns.lt) (next_is_new F) (fun p hp => Nat.ne_of_lt (Heap.lt_size (N p hp).1)) (srcL hm) ?_ ?_
  · show b < (s.heap.push _).objs.size
    rw [Heap.size_push]
    rcases List.mem_cons.mp hb with rfl | hb
    · exact Nat.lt_succ_self _
    · rw [List.mem_singleton.mp hb]; exact Nat.lt_succ_of_lt hlt
  · intro i v I oI C oC D oD m₂ h tk E' hlt' hv hoC hmx F' N' off' nes
    rw [hul] at hlt'
    refine R i v I oI C oC D oD m₂ h tk E' hlt' ?_ hoC hmx F' N' off' nes
    obtain ⟨z, t, e1, e2⟩ := strs_at hi hv
    exact ⟨z, t, e1, e2⟩
  · rw [hul]
    exact ret
end
end
section
def bo (B : Nat → Nat → Bool) (k : Nat) : Option Nat → Bool
  | some p => B k p
  | none => false
/-- a wood on the numbers below m: par is the next one below -/
structure Wood (m : Nat) (B : Nat → Nat → Bool) (len : Nat → Nat) (par : Nat → Option Nat) : Prop where
  lt : ∀ {i p}, par i = some p → p < m ∧ i < m
  step : ∀ {x k}, x < m → k < m → B k x = (decide (par x = some k) ^^ bo B k (par x))
  ln : ∀ {i p}, par i = some p → len p < len i
def Mv (m : Nat) (B : Nat → Nat → Bool) (x : Nat) : Vec := fun j => decide (j < m) && (B j x ^^ B x j)
def Mo (m : Nat) (B : Nat → Nat → Bool) : Option Nat → Vec
  | some p => Mv m B p
  | none => vzero
def zo (z : Vec) : Option Nat → Bool
  | some p => z p
  | none => false
def delta (par : Nat → Option Nat) (z : Vec) : Vec := fun j => z j ^^ zo z (par j)
def Av (par : Nat → Option Nat) (x : Nat) : Vec := fun j => decide (par x = some j) ^^ decide (par j = some x)
theorem zo_add (u v : Vec) (o : Option Nat) : zo (vadd u v) o = (zo u o ^^ zo v o) := by cases o <;> rfl
theorem delta_lin (par : Nat → Option Nat) : Lin (delta par) := ⟨fun u v => by
  funext j
  show (vadd u v j ^^ zo (vadd u v) (par j)) = ((u j ^^ zo u (par j)) ^^ (v j ^^ zo v (par j)))
  rw [zo_add]
  show ((u j ^^ v j) ^^ _) = _
  cases u j <;> cases v j <;> cases zo u (par j) <;> cases zo v (par j) <;> rfl⟩
section
variable {m : Nat} {B : Nat → Nat → Bool} {len : Nat → Nat} {par : Nat → Option Nat}
theorem delta_inj (W : Wood m B len par) (u v : Vec) (h : delta par u = delta par v) : u = v := by
  have key : ∀ n j, len j ≤ n → u j = v j := by
    intro n
    induction n with
    | zero =>
      intro j hj
      have e := congrFun h j
      unfold delta at e
      cases hp : par j with
      | none => simpa [hp, zo] using e
      | some p => have := W.ln hp; omega
    | succ n ih =>
      intro j hj
      have e := congrFun h j
      unfold delta at e
      cases hp : par j with
      | none => simpa [hp, zo] using e
      | some p =>
        have h1 := W.ln hp
        have h2 := ih p (by omega)
        simp only [hp, zo, h2] at e
        revert e
        cases u j <;> cases v j <;> cases v p <;> simp
  funext j
  exact key (len j) j (Nat.le_refl _)
theorem delta_M (W : Wood m B len par) {x : Nat} (hx : x < m) : delta par (vadd (Mv m B x) (Mo m B (par x))) = Av par x := by
  funext j
  unfold delta Av
  by_cases hj : j < m
  · have i1 := W.step hx hj
    have i3 := W.step hj hx
    cases hpx : par x with
    | none =>
      cases hpj : par j with
      | none =>
        simp only [hpx, hpj, bo] at i1 i3
        simp [zo, vadd, Mo, vzero, Mv, hj, i1, i3]
      | some q =>
        have hq := (W.lt hpj).1
        have i2 := W.step hx hq
        simp only [hpx, hpj, bo] at i1 i2 i3
        simp only [zo, vadd, Mo, vzero, Mv, hj, hq, i1, i2, i3]
        cases B x q <;> simp
    | some p =>
      have hp := (W.lt hpx).1
      have i4 := W.step hj hp
      cases hpj : par j with
      | none =>
        simp only [hpx, hpj, bo] at i1 i3 i4
        simp only [zo, vadd, Mo, vzero, Mv, hj, hp, i1, i3, i4]
        cases B j p <;> simp
      | some q =>
        have hq := (W.lt hpj).1
        have i2 := W.step hx hq
        simp only [hpx, hpj, bo] at i1 i2 i3 i4
        have e : decide (some q = some p) = decide (some p = some q) := by
          by_cases h : p = q
          · subst h; rfl
          · simp [h, Ne.symm h]
        rw [e] at i4
        simp only [zo, vadd, Mo, vzero, Mv, hj, hp, hq, i1, i2, i3, i4]
        generalize decide (some p = some j) = b1
        generalize decide (some p = some q) = b2
        generalize decide (some q = some x) = b3
        cases b1 <;> cases b2 <;> cases b3 <;> cases B j p <;> cases B x q <;> cases B q p <;> cases B p q <;> rfl
  · have h1 : par j = none := by
      cases h : par j with
      | none => rfl
      | some q => exact absurd (W.lt h).2 hj
    have h2 : par x ≠ some j := fun h => hj (W.lt h).1
    rw [h1]
    have h3 : Mo m B (par x) j = false := by
      cases par x with
      | none => rfl
      | some p => simp [Mo, Mv, hj]
    simp [zo, vadd, Mv, hj, h2, h3]
/-- the rows of the whole table and those of the next ties span alike under delta -/
theorem spanA_M (W : Wood m B len par) {x : Nat} (hx : x < m) : Span (((List.range m).map (Mv m B)).map (delta par)) (Av par x) := by
  rw [← delta_M W hx]
  refine span_map (delta_lin par) (span_add (span_mem (List.mem_map_of_mem (List.mem_range.mpr hx))) ?_)
  cases h : par x with
  | none => exact .zero
  | some p => exact span_mem (List.mem_map_of_mem (List.mem_range.mpr (W.lt h).1))
theorem spanM_A (W : Wood m B len par) : ∀ n x, len x ≤ n → x < m → Span ((List.range m).map (Av par)) (delta par (Mv m B x)) := by
  intro n
  induction n with
  | zero =>
    intro x hn hx
    have e := delta_M W hx
    cases h : par x with
    | none =>
      rw [h] at e
      have e2 : vadd (Mv m B x) (Mo m B none) = Mv m B x := vadd_zero _
      rw [e2] at e
      rw [e]
      exact span_mem (List.mem_map_of_mem (List.mem_range.mpr hx))
    | some p => have := W.ln h; omega
  | succ n ih =>
    intro x hn hx
    have e := delta_M W hx
    cases h : par x with
    | none =>
      rw [h] at e
      have e2 : vadd (Mv m B x) (Mo m B none) = Mv m B x := vadd_zero _
      rw [e2] at e
      rw [e]
      exact span_mem (List.mem_map_of_mem (List.mem_range.mpr hx))
    | some p =>
      have h1 := W.ln h
      have h2 := ih p (by omega) (W.lt h).1
      rw [h] at e
      have e3 : delta par (Mv m B x) = vadd (Av par x) (delta par (Mv m B p)) := by
        rw [← e, (delta_lin par).add]
        show _ = vadd (vadd (delta par (Mv m B x)) (delta par (Mv m B p))) (delta par (Mv m B p))
        rw [vadd_assoc, vadd_self, vadd_zero]
      rw [e3]
      exact span_add (span_mem (List.mem_map_of_mem (List.mem_range.mpr hx))) h2
end
end
section
def Tk (P : List (Nat × Nat)) (a : Nat) : Prop := ∃ q ∈ P, q.1 = a ∨ q.2 = a
def Side (m : Nat) (len : Nat → Nat) (i : Nat) (l : List Nat) : Prop := i ∉ l ∧ (∀ x ∈ l, len i ≤ len x) ∧ ∀ c, c < m → len i < len c → c ∈ l
/-- the couples that are taken greedily, the longest first; both lists have the latest ahead -/
inductive Run (m : Nat) (len : Nat → Nat) (par : Nat → Option Nat) : List Nat → List (Nat × Nat) → Prop
  | nil : Run m len par [] []
  | skip {i : Nat} {l : List Nat} {P : List (Nat × Nat)} : Run m len par l P → Side m len i l → (i < m → ∀ p, par i = some p → Tk P i ∨ Tk P p) → Run m len par (i :: l) P
  | take {i p : Nat} {l : List Nat} {P : List (Nat × Nat)} : Run m len par l P → Side m len i l → i < m → par i = some p → ¬ Tk P i → ¬ Tk P p → Run m len par (i :: l) ((i, p) :: P)
structure RunOk (m : Nat) (par : Nat → Option Nat) (l : List Nat) (P : List (Nat × Nat)) : Prop where
  mem : ∀ q ∈ P, q.1 ∈ l ∧ q.1 < m ∧ par q.1 = some q.2
  nd : (P.map (·.2)).Nodup
  apart : ∀ q ∈ P, ∀ r ∈ P, q.1 ≠ r.2
  cover : ∀ x ∈ l, x < m → ∀ p, par x = some p → (∃ q ∈ P, q.2 = x) ∨ ∃ q ∈ P, q.2 = p
  unit : ∀ q ∈ P, Span ((List.range m).map (Av par)) (unit q.2)
  later : P.Pairwise fun a b => Av par a.2 b.1 = false
section
variable {m : Nat} {B : Nat → Nat → Bool} {len : Nat → Nat} {par : Nat → Option Nat}
theorem run_ok (W : Wood m B len par) {l : List Nat} {P : List (Nat × Nat)} (h : Run m len par l P) : RunOk m par l P := by
  induction h with
  | nil => exact ⟨fun _ h => (nomatch h), List.nodup_nil, fun _ h => (nomatch h), fun _ h => (nomatch h), fun _ h => (nomatch h), .nil⟩
  | @skip i l P _ side hs ih =>
    obtain ⟨s1, s2, s3⟩ := side
    refine ⟨fun q hq => ⟨List.mem_cons_of_mem _ (ih.mem q hq).1, (ih.mem q hq).2⟩, ih.nd, ih.apart, fun x hx hm p hp => ?_, ih.unit, ih.later⟩
    rcases List.mem_cons.mp hx with rfl | hx
    · rcases hs hm p hp with ⟨q, hq, e | e⟩ | ⟨q, hq, e | e⟩
      · exact absurd (e ▸ (ih.mem q hq).1) s1
      · exact .inl ⟨q, hq, e⟩
      · have := s2 _ (e ▸ (ih.mem q hq).1)
        have := W.ln hp
        omega
      · exact .inr ⟨q, hq, e⟩
    · exact ih.cover x hx hm p hp
  | @take i p l P _ side him hp ti tp ih =>
    obtain ⟨s1, s2, s3⟩ := side
    have hln := W.ln hp
    refine ⟨fun q hq => ?_, ?_, ?_, fun x hx hm p' hp' => ?_, ?_, ?_⟩
    · rcases List.mem_cons.mp hq with rfl | hq
      · exact ⟨List.mem_cons_self, him, hp⟩
      · exact ⟨List.mem_cons_of_mem _ (ih.mem q hq).1, (ih.mem q hq).2⟩
    · refine List.nodup_cons.mpr ⟨fun hm => ?_, ih.nd⟩
      obtain ⟨q, hq, e⟩ := List.mem_map.mp hm
      exact tp ⟨q, hq, .inr e⟩
    · intro q hq r hr
      rcases List.mem_cons.mp hq with rfl | hq
      · rcases List.mem_cons.mp hr with rfl | hr
        · exact fun e => by have e' : i = p := e; rw [e'] at hln; omega
        · exact fun e => ti ⟨r, hr, .inr e.symm⟩
      · rcases List.mem_cons.mp hr with rfl | hr
        · exact fun e => tp ⟨q, hq, .inl e⟩
        · exact ih.apart q hq r hr
    · rcases List.mem_cons.mp hx with rfl | hx
      · rw [hp] at hp'
        cases hp'
        exact .inr ⟨_, List.mem_cons_self, rfl⟩
      · rcases ih.cover x hx hm p' hp' with ⟨q, hq, e⟩ | ⟨q, hq, e⟩
        · exact .inl ⟨q, List.mem_cons_of_mem _ hq, e⟩
        · exact .inr ⟨q, List.mem_cons_of_mem _ hq, e⟩
    · intro q hq
      rcases List.mem_cons.mp hq with rfl | hq
      · show Span _ (Mine.unit p)
        have hpi : par p ≠ some i := fun e => by have := W.ln e; omega
        have key : Span ((List.range m).map (Av par)) (vadd (Av par i) (Mine.unit p)) := by
          have sup : ∀ j, vadd (Av par i) (Mine.unit p) j = true → par j = some i := by
            intro j hj
            by_cases e : j = p
            · subst e
              simp [vadd, Av, Mine.unit, hp, hpi] at hj
            · have e2 : ¬ p = j := fun e' => e e'.symm
              have e3 : (j == p) = false := by simp [e]
              by_cases e4 : par j = some i
              · exact e4
              · simp [vadd, Av, Mine.unit, hp, e2, e3, e4] at hj
          refine span_support m _ (fun j hj => (W.lt (sup j hj)).2) fun j hj => ?_
          have hpj := sup j hj
          have hjl := s3 j (W.lt hpj).2 (W.ln hpj)
          rcases ih.cover j hjl (W.lt hpj).2 i hpj with ⟨r, hr, e⟩ | ⟨r, hr, e⟩
          · exact e ▸ ih.unit r hr
          · exact absurd ⟨r, hr, .inr e⟩ ti
        have e : Mine.unit p = vadd (Av par i) (vadd (Av par i) (Mine.unit p)) := (vadd_cancel _ _).symm
        rw [e]
        exact span_add (span_mem (List.mem_map_of_mem (List.mem_range.mpr him))) key
      · exact ih.unit q hq
    · refine List.pairwise_cons.mpr ⟨fun b hb => ?_, ih.later⟩
      show (decide (par p = some b.1) ^^ decide (par b.1 = some p)) = false
      obtain ⟨m1, m2, m3⟩ := ih.mem b hb
      have h1 : par p ≠ some b.1 := fun e => by
        have := W.ln e
        have := s2 _ m1
        omega
      have h2 : par b.1 ≠ some p := fun e => by
        rw [m3] at e
        exact tp ⟨b, hb, .inr (Option.some.inj e)⟩
      simp [h1, h2]
theorem indep_tri {U : List Vec} (hU : Indep U) : ∀ {Q : List (Nat × Nat)}, (∀ q ∈ Q, Av par q.2 q.1 = true) → Q.Pairwise (fun a b => Av par b.2 a.1 = false) → (∀ q ∈ Q, ∀ u ∈ U, u q.1 = false) → Indep (Q.map (fun q => Av par q.2) ++ U)
  | [], _, _, _ => hU
  | q :: Q, h1, h2, h3 => by
    have hc := List.pairwise_cons.mp h2
    refine ⟨fun hs => ?_, indep_tri hU (fun r hr => h1 r (List.mem_cons_of_mem _ hr)) hc.2 fun r hr => h3 r (List.mem_cons_of_mem _ hr)⟩
    have := span_coord (i := q.1) (fun x hx => by
      rcases List.mem_append.mp hx with hx | hx
      · obtain ⟨r, hr, rfl⟩ := List.mem_map.mp hx
        exact hc.1 r hr
      · exact h3 q List.mem_cons_self x hx) hs
    have this' : Av par q.2 q.1 = false := this
    rw [h1 q List.mem_cons_self] at this'
    cases this'
/-- the rank of a wood's table is twice the number of the couples -/
theorem wood_rank (W : Wood m B len par) {l : List Nat} {P : List (Nat × Nat)} (R : Run m len par l P) (all : ∀ c, c < m → c ∈ l) {X : List Vec} (hi : Indep X) (h1 : ∀ x ∈ X, Span ((List.range m).map (Mv m B)) x)
    (h2 : ∀ x, x < m → Span X (Mv m B x)) : X.length = 2 * P.length := by
  have ok := run_ok W R
  have hn : (P.reverse.map (fun q => Av par q.2) ++ (P.map (·.2)).map Mine.unit).length = 2 * P.length := by
    simp only [List.length_append, List.length_map, List.length_reverse]
    omega
  have hself : ∀ q ∈ P, Av par q.2 q.1 = true := fun q hq => by
    obtain ⟨m1, m2, m3⟩ := ok.mem q hq
    have h : par q.2 ≠ some q.1 := fun e => by
      have := W.ln e
      have := W.ln m3
      omega
    simp [Av, h, m3]
  have hY : Indep (P.reverse.map (fun q => Av par q.2) ++ (P.map (·.2)).map Mine.unit) := by
    refine indep_tri (indep_units ok.nd) (fun q hq => hself q (List.mem_reverse.mp hq)) (List.pairwise_reverse.mpr ok.later) fun q hq u hu => ?_
    obtain ⟨c, hc, rfl⟩ := List.mem_map.mp hu
    obtain ⟨r, hr, rfl⟩ := List.mem_map.mp hc
    have := ok.apart q (List.mem_reverse.mp hq) r hr
    simpa [Mine.unit] using this
  have hp2 : ∀ q ∈ P, q.2 < m := fun q hq => (W.lt (ok.mem q hq).2.2).1
  have spanA : ∀ x, x < m → Span (X.map (delta par)) (Av par x) := fun x hx => by
    refine span_sub (fun y hy => ?_) (spanA_M W hx)
    obtain ⟨z, hz, rfl⟩ := List.mem_map.mp hy
    obtain ⟨k, hk, rfl⟩ := List.mem_map.mp hz
    exact span_map (delta_lin par) (h2 k (List.mem_range.mp hk))
  rw [← hn]
  refine Nat.le_antisymm ?_ ?_
  · rw [← List.length_map (f := delta par) (as := X)]
    refine steinitz (indep_map (delta_lin par) (delta_inj W) hi) fun y hy => ?_
    obtain ⟨x, hx, rfl⟩ := List.mem_map.mp hy
    have s1 : Span ((List.range m).map (Av par)) (delta par x) := by
      refine span_sub (fun z hz => ?_) (span_map (delta_lin par) (h1 x hx))
      obtain ⟨k, hk, rfl⟩ := List.mem_map.mp hz
      obtain ⟨c, hc, rfl⟩ := List.mem_map.mp hk
      exact spanM_A W _ c (Nat.le_refl _) (List.mem_range.mp hc)
    refine span_sub (fun z hz => ?_) s1
    obtain ⟨c, hc, rfl⟩ := List.mem_map.mp hz
    have hcm := List.mem_range.mp hc
    have unitY : ∀ {a : Nat}, (∃ q ∈ P, q.2 = a) → Span (P.reverse.map (fun q => Av par q.2) ++ (P.map (·.2)).map Mine.unit) (Mine.unit a) := fun {a} ⟨q, hq, e⟩ =>
      span_mem (List.mem_append_right _ (List.mem_map_of_mem (e ▸ List.mem_map_of_mem hq)))
    by_cases hC : ∃ q ∈ P, q.2 = c
    · obtain ⟨q, hq, rfl⟩ := hC
      exact span_mem (List.mem_append_left _ (List.mem_map_of_mem (f := fun q : Nat × Nat => Av par q.2) (List.mem_reverse.mpr hq)))
    · have sup : ∀ j, Av par c j = true → par c = some j ∨ par j = some c := fun j hj => by
        by_cases e : par c = some j
        · exact .inl e
        · right
          simpa [Av, e] using hj
      refine span_support m _ (fun j hj => ?_) fun j hj => ?_
      · rcases sup j hj with e | e
        · exact (W.lt e).1
        · exact (W.lt e).2
      · rcases sup j hj with e | e
        · rcases ok.cover c (all c hcm) hcm j e with h | h
          · exact absurd h hC
          · exact unitY h
        · rcases ok.cover j (all j (W.lt e).2) (W.lt e).2 c e with h | h
          · exact unitY h
          · exact absurd h hC
  · rw [← List.length_map (f := delta par) (as := X)]
    refine steinitz hY fun y hy => ?_
    rcases List.mem_append.mp hy with hy | hy
    · obtain ⟨q, hq, rfl⟩ := List.mem_map.mp hy
      exact spanA _ (hp2 q (List.mem_reverse.mp hq))
    · obtain ⟨a, ha, rfl⟩ := List.mem_map.mp hy
      obtain ⟨q, hq, rfl⟩ := List.mem_map.mp ha
      refine span_sub (fun z hz => ?_) (ok.unit q hq)
      obtain ⟨k, hk, rfl⟩ := List.mem_map.mp hz
      exact spanA k (List.mem_range.mp hk)
end
end
section
def natPow (f : Nat → Bool) : Nat → Nat
  | 0 => 0
  | n + 1 => natPow f n + if f n then 2 ^ n else 0
theorem natPow_lt (f : Nat → Bool) : ∀ n, natPow f n < 2 ^ n
  | 0 => Nat.one_pos
  | n + 1 => by
    have := natPow_lt f n
    unfold natPow
    rw [Nat.pow_succ]
    split <;> omega
theorem sumPow_nat (f : Nat → Bool) : ∀ n, sumPow f n = (natPow f n : Int)
  | 0 => rfl
  | n + 1 => by
    unfold sumPow natPow
    rw [sumPow_nat f n]
    split
    · rw [Int.natCast_add, Int.natCast_pow]
      rfl
    · simp
theorem natPow_bit (f : Nat → Bool) : ∀ n i, (natPow f n).testBit i = (decide (i < n) && f i)
  | 0, i => by simp [natPow]
  | n + 1, i => by
    have ih := natPow_bit f n i
    have hl := natPow_lt f n
    unfold natPow
    by_cases hi : i < n
    · have e1 : decide (i < n + 1) = true := decide_eq_true (by omega)
      have e2 : decide (i < n) = true := decide_eq_true hi
      rw [e2] at ih
      rw [e1]
      split
      · rw [Nat.add_comm, Nat.testBit_two_pow_add_gt hi]
        exact ih
      · exact ih
    · by_cases he : i = n
      · subst he
        have e2 : decide (i < i) = false := decide_eq_false (by omega)
        rw [e2] at ih
        have e1 : decide (i < i + 1) = true := decide_eq_true (by omega)
        rw [e1]
        split
        · rename_i hf
          rw [Nat.add_comm, Nat.testBit_two_pow_add_eq, ih, hf]
          rfl
        · rename_i hf
          rw [Nat.add_zero, ih]
          simp [hf]
      · have e1 : decide (i < n + 1) = false := decide_eq_false (by omega)
        rw [e1]
        refine Nat.testBit_lt_two_pow ?_
        have h1 := natPow_lt f (n + 1)
        unfold natPow at h1
        exact Nat.lt_of_lt_of_le h1 (Nat.pow_le_pow_right (by decide) (by omega))
theorem vec_sumPow (f : Nat → Bool) (n : Nat) : vec (sumPow f n) = fun i => decide (i < n) && f i := by
  funext i
  unfold vec
  rw [sumPow_nat, Int.toNat_natCast, natPow_bit]
theorem pick_sum (f : Nat → Bool) : ∀ n, (pick f (fun j => 2 ^ j) n).sum = sumPow f n
  | 0 => rfl
  | n + 1 => by
    unfold sumPow
    rw [← pick_sum f n]
    cases h : f n with
    | true => rw [pick_yes h, List.sum_append]; simp
    | false => rw [pick_no h]; simp
end
section
structure Std (B : Nat → Nat → Bool) (len : Nat → Nat) (N : Nat) : Prop where
  tr : ∀ {a b c}, B a b = true → B b c = true → B a c = true
  ch : ∀ {a b c}, a < N → b < N → B a c = true → B b c = true → a = b ∨ B a b = true ∨ B b a = true
  ln : ∀ {a b}, B a b = true → len a < len b
def belB (B : Nat → Nat → Bool) (ord : List Int) (i : Nat) : List Int := ord.filter fun z => B z.toNat i
def underB (B : Nat → Nat → Bool) (ord : List Int) (n i : Nat) : List Int := (belB B ord i).filter fun z => decide (z ≤ (n : Int))
def parB (B : Nat → Nat → Bool) (ord : List Int) (n i : Nat) : Option Nat := if i ≤ n then (underB B ord n i).getLast?.map Int.toNat else none
section
variable {B : Nat → Nat → Bool} {len : Nat → Nat} {N n : Nat} {ord : List Int}
theorem mem_under (hp : ord.Perm (natsTo N)) {i : Nat} {z : Int} : z ∈ underB B ord n i ↔ ∃ a : Nat, z = a ∧ a < N ∧ a ≤ n ∧ B a i = true := by
  unfold underB belB
  rw [List.mem_filter, List.mem_filter]
  constructor
  · rintro ⟨⟨h1, h2⟩, h3⟩
    obtain ⟨a, ha, rfl⟩ := perm_nat hp h1
    exact ⟨a, rfl, ha, by have := of_decide_eq_true h3; omega, by simpa using h2⟩
  · rintro ⟨a, rfl, ha, hn, hb⟩
    refine ⟨⟨hp.mem_iff.mpr (List.mem_map.mpr ⟨a, List.mem_range.mpr ha, rfl⟩), by simpa using hb⟩, decide_eq_true (by omega)⟩
theorem last_max (hs : ord.Pairwise fun x y => len x.toNat ≤ len y.toNat) {i : Nat} {z y : Int} (hz : (underB B ord n i).getLast? = some z) (hy : y ∈ underB B ord n i) : len y.toNat ≤ len z.toNat := by
  have h1 : (underB B ord n i).Pairwise fun x y => len x.toNat ≤ len y.toNat := (hs.filter _).filter _
  obtain ⟨init, e⟩ := List.getLast?_eq_some_iff.mp hz
  rw [e] at h1 hy
  rcases List.mem_append.mp hy with hy | hy
  · exact (List.pairwise_append.mp h1).2.2 y hy z (List.mem_singleton.mpr rfl)
  · rw [List.mem_singleton.mp hy]
    exact Nat.le_refl _
theorem par_some (hp : ord.Perm (natsTo N)) {i p : Nat} (h : parB B ord n i = some p) : i ≤ n ∧ p ≤ n ∧ p < N ∧ B p i = true ∧ (underB B ord n i).getLast? = some (p : Int) := by
  unfold parB at h
  split at h
  · rename_i hi
    obtain ⟨z, hz, rfl⟩ := Option.map_eq_some_iff.mp h
    obtain ⟨a, rfl, h1, h2, h3⟩ := (mem_under hp).mp (List.mem_of_getLast? hz)
    exact ⟨hi, h2, h1, h3, hz⟩
  · cases h
theorem wood_of (S : Std B len N) (hp : ord.Perm (natsTo N)) (hs : ord.Pairwise fun x y => len x.toNat ≤ len y.toNat) (hn : n < N) : Wood (n + 1) B len (parB B ord n) := by
  refine ⟨fun {i p} h => ?_, fun {x k} hx hk => ?_, fun {i p} h => S.ln (par_some hp h).2.2.2.1⟩
  · have := par_some hp h
    omega
  · cases h : parB B ord n x with
    | none =>
      have hB : B k x = false := by
        cases hb : B k x with
        | false => rfl
        | true =>
          have hm := (mem_under (n := n) hp).mpr ⟨k, rfl, by omega, by omega, hb⟩
          unfold parB at h
          rw [if_pos (by omega), Option.map_eq_none_iff, List.getLast?_eq_none_iff] at h
          rw [h] at hm
          cases hm
      simp [hB, bo]
    | some p =>
      obtain ⟨_, h2, h3, h4, h5⟩ := par_some hp h
      have irr : ∀ a, B a a = false := fun a => by
        cases e : B a a with
        | false => rfl
        | true => exact absurd (S.ln e) (Nat.lt_irrefl _)
      by_cases e : p = k
      · subst e
        simp [bo, h4, irr]
      · have e' : ¬ (some p = some k) := fun q => e (Option.some.inj q)
        rw [decide_eq_false e', Bool.false_xor]
        show B k x = B k p
        cases hb : B k x with
        | false =>
          cases hc : B k p with
          | false => rfl
          | true => rw [S.tr hc h4] at hb; cases hb
        | true =>
          rcases S.ch (by omega) h3 hb h4 with q | q | q
          · exact absurd q.symm e
          · exact q.symm
          · have l1 := S.ln q
            have l2 := last_max (len := len) hs h5 ((mem_under (n := n) hp).mpr ⟨k, rfl, by omega, by omega, hb⟩)
            simp only [Int.toNat_natCast] at l2
            omega
theorem run_of (S : Std B len N) (hp : ord.Perm (natsTo N)) (hs : ord.Pairwise fun x y => len x.toNat ≤ len y.toNat) (hn : n < N) : ∀ (l pre : List Int), pre ++ l = ord →
    ∃ P, Run (n + 1) len (parB B ord n) (l.map Int.toNat) P ∧ (∀ a : Nat, (a : Int) ∈ l.foldr (fun i T => takeStep (belB B ord) n T i) [] ↔ Tk P a) ∧ (l.foldr (fun i T => takeStep (belB B ord) n T i) []).length = 2 * P.length
  | [], _, _ => ⟨[], .nil, fun a => ⟨fun h => (nomatch h), fun ⟨_, h, _⟩ => (nomatch h)⟩, rfl⟩
  | z :: l, pre, e => by
    obtain ⟨P, R, hT, hl⟩ := run_of S hp hs hn l (pre ++ [z]) (by rw [← e]; simp)
    have hz : z ∈ ord := by rw [← e]; simp
    obtain ⟨i, hi, rfl⟩ := perm_nat hp hz
    have hnd : ord.Nodup := by
      refine hp.nodup_iff.mpr ?_
      unfold natsTo
      refine List.Pairwise.map _ (fun a b h => ?_) List.nodup_range
      exact fun q => h (Int.ofNat.inj q)
    have hps := hs
    rw [← e] at hnd hps
    have nd2 := (List.nodup_append.mp hnd).2.1
    have ps2 := (List.pairwise_append.mp hps)
    have nz := List.nodup_cons.mp nd2
    have pz := List.pairwise_cons.mp ps2.2.1
    have side : Side (n + 1) len i (l.map Int.toNat) := by
      refine ⟨fun hm => ?_, fun x hx => ?_, fun c hc hlt => ?_⟩
      · obtain ⟨y, hy, ey⟩ := List.mem_map.mp hm
        obtain ⟨b, hb, rfl⟩ := perm_nat hp (show y ∈ ord by rw [← e]; simp [hy])
        simp only [Int.toNat_natCast] at ey
        subst ey
        exact nz.1 hy
      · obtain ⟨y, hy, rfl⟩ := List.mem_map.mp hx
        simpa using pz.1 y hy
      · have hco : ((c : Nat) : Int) ∈ ord := hp.mem_iff.mpr (List.mem_map.mpr ⟨c, List.mem_range.mpr (by omega), rfl⟩)
        rw [← e] at hco
        rcases List.mem_append.mp hco with h | h
        · have := ps2.2.2 _ h (i : Int) List.mem_cons_self
          simp only [Int.toNat_natCast] at this
          omega
        · rcases List.mem_cons.mp h with h | h
          · have : c = i := Int.ofNat.inj h
            subst this
            omega
          · exact List.mem_map.mpr ⟨_, h, Int.toNat_natCast c⟩
    rw [List.foldr_cons, List.map_cons, Int.toNat_natCast]
    generalize l.foldr (fun i T => takeStep (belB B ord) n T i) [] = T at hT hl
    by_cases hc : (i : Int) ≤ n ∧ underB B ord n i ≠ [] ∧ (i : Int) ∉ T ∧ (underB B ord n i).getLastD 0 ∉ T
    · have e1 : takeStep (belB B ord) n T i = T ++ [(i : Int), (underB B ord n i).getLastD 0] := if_pos hc
      obtain ⟨c1, c2, c3, c4⟩ := hc
      obtain ⟨y, hy⟩ : ∃ y, (underB B ord n i).getLast? = some y := by
        cases h : (underB B ord n i).getLast? with
        | none => exact absurd (List.getLast?_eq_none_iff.mp h) c2
        | some y => exact ⟨y, rfl⟩
      obtain ⟨p, rfl, -, -, -⟩ := (mem_under hp).mp (List.mem_of_getLast? hy)
      have ed : (underB B ord n i).getLastD 0 = (p : Int) := by rw [List.getLastD_eq_getLast?, hy]; rfl
      have ep : parB B ord n i = some p := by
        unfold parB
        rw [if_pos (by omega), hy]
        rfl
      rw [ed] at e1 c4
      rw [e1]
      refine ⟨(i, p) :: P, .take R side (by omega) ep (fun h => c3 ((hT i).mpr h)) (fun h => c4 ((hT p).mpr h)), fun a => ?_, ?_⟩
      · rw [List.mem_append, hT a]
        constructor
        · rintro (⟨q, hq, h⟩ | h)
          · exact ⟨q, List.mem_cons_of_mem _ hq, h⟩
          · rcases List.mem_cons.mp h with h | h
            · exact ⟨(i, p), List.mem_cons_self, .inl (Int.ofNat.inj h).symm⟩
            · exact ⟨(i, p), List.mem_cons_self, .inr (Int.ofNat.inj (List.mem_singleton.mp h)).symm⟩
        · rintro ⟨q, hq, h⟩
          rcases List.mem_cons.mp hq with rfl | hq
          · rcases h with rfl | rfl
            · exact .inr List.mem_cons_self
            · exact .inr (List.mem_cons_of_mem _ List.mem_cons_self)
          · exact .inl ⟨q, hq, h⟩
      · rw [List.length_append, hl]
        simp only [List.length_cons, List.length_nil]
        omega
    · have e1 : takeStep (belB B ord) n T i = T := if_neg hc
      rw [e1]
      refine ⟨P, .skip R side fun him p hpar => ?_, hT, hl⟩
      obtain ⟨h1, -, -, -, h5⟩ := par_some hp hpar
      have ed : (underB B ord n i).getLastD 0 = (p : Int) := by rw [List.getLastD_eq_getLast?, h5]; rfl
      by_cases h6 : (i : Int) ∈ T
      · exact .inl ((hT i).mp h6)
      · by_cases h7 : (p : Int) ∈ T
        · exact .inr ((hT p).mp h7)
        · refine absurd ⟨by omega, fun h8 => ?_, h6, by rw [ed]; exact h7⟩ hc
          rw [h8] at h5
          cases h5
end
end
section
theorem rowsAt_vec {B : Nat → Nat → Bool} {len : Nat → Nat} {N m : Nat} {c : Nat → Nat → Bool} (S : Std B len N) (hm : m ≤ N) (hc : ∀ i j, i < N → j < N → adjOf c i j = (B i j || B j i)) {x : Nat} (hx : x < m) : vec (sumPow (adjOf c x) m) = Mv m B x := by
  rw [vec_sumPow]
  funext j
  unfold Mv
  by_cases hj : j < m
  · rw [hc x j (by omega) (by omega)]
    have : ¬ (B x j = true ∧ B j x = true) := fun ⟨h1, h2⟩ => by
      have := S.ln h1
      have := S.ln h2
      omega
    cases h1 : B x j <;> cases h2 : B j x <;> simp_all
  · simp [hj]
theorem rank_eq {B : Nat → Nat → Bool} {len : Nat → Nat} {N n : Nat} {ord ks : List Int} {c : Nat → Nat → Bool} (S : Std B len N) (hp : ord.Perm (natsTo N)) (hs : ord.Pairwise fun x y => len x.toNat ≤ len y.toNat) (hn : n < N)
    (hc : ∀ i j, i < N → j < N → adjOf c i j = (B i j || B j i)) (hk : KeptOf (rowsAt c (n + 1)) ks) : ks.length = (takenOf (belB B ord) ord n).length := by
  have facts := keptOf_facts hk rowsAt_nonneg
  obtain ⟨P, R, -, hl⟩ := run_of (n := n) S hp hs hn ord [] rfl
  have hrows : (rowsAt c (n + 1)).map vec = (List.range (n + 1)).map (Mv (n + 1) B) := by
    unfold rowsAt
    rw [List.map_map]
    exact List.map_congr_left fun x hx => rowsAt_vec S (by omega) hc (List.mem_range.mp hx)
  have hr := wood_rank (wood_of S hp hs hn) R (fun a ha => List.mem_map.mpr ⟨(a : Int), hp.mem_iff.mpr (List.mem_map.mpr ⟨a, List.mem_range.mpr (by omega), rfl⟩), Int.toNat_natCast a⟩) facts.indep
    (fun x hx => by
      obtain ⟨a, ha, rfl⟩ := List.mem_map.mp hx
      rw [← hrows]
      exact facts.spanK a (List.mem_reverse.mp ha))
    (fun x hx => by
      have hm : sumPow (adjOf c x) (n + 1) ∈ rowsAt c (n + 1) := List.mem_map.mpr ⟨x, List.mem_range.mpr hx, rfl⟩
      have h1 := facts.spanR _ hm
      rw [rowsAt_vec S (by omega) hc hx] at h1
      refine span_mono (fun y hy => ?_) h1
      obtain ⟨a, ha, rfl⟩ := List.mem_map.mp hy
      exact List.mem_map_of_mem (List.mem_reverse.mpr ha))
  rw [List.length_map, List.length_reverse] at hr
  rw [hr, ← hl]
  unfold takenOf
  rw [List.foldl_reverse]
end
section
/-- the two texts part before either ends -/
def diff : List Nat → List Nat → Bool
  | x :: r, y :: s => if x = y then diff r s else true
  | _, _ => false
theorem diff_comm : ∀ u v, diff u v = diff v u
  | [], [] => rfl
  | [], _ :: _ => rfl
  | _ :: _, [] => rfl
  | x :: r, y :: s => by
    unfold diff
    by_cases h : x = y
    · rw [if_pos h, if_pos h.symm, diff_comm r s]
    · rw [if_neg h, if_neg fun e => h e.symm]
theorem diff_lt : ∀ {u v t t' : List Nat}, diff u v = true → (u ++ t < v ++ t' ↔ u < v)
  | [], _, _, _, h => by cases h
  | _ :: _, [], _, _, h => by cases h
  | x :: r, y :: s, t, t', h => by
    unfold diff at h
    rw [List.cons_append, List.cons_append, List.cons_lt_cons_iff, List.cons_lt_cons_iff]
    by_cases e : x = y
    · rw [if_pos e] at h
      rw [diff_lt (t := t) (t' := t') h]
    · simp [e]
theorem pre_lt {a b : List Nat} : ∀ u : List Nat, (u ++ a < u ++ b ↔ a < b)
  | [] => Iff.rfl
  | x :: r => by
    rw [List.cons_append, List.cons_append, List.cons_lt_cons_iff, pre_lt r]
    simp
structure Code (E : Nat → List Nat) (ok : Nat → Bool) : Prop where
  head : ∀ c, ok c = true → ∃ x r, E c = x :: r ∧ x ≠ 46
  pf : ∀ c d, ok c = true → ok d = true → c ≠ d → diff (E c) (E d) = true
def low (E : Nat → List Nat) (c : Nat) : Bool := decide ((E c).headD 0 < 46)
/-- what the order of the writings and of the named writings tells of two words -/
theorem ask_word {E : Nat → List Nat} {ok : Nat → Bool} (C : Code E ok) : ∀ (a b : List Nat), (∀ c ∈ a, ok c = true) → (∀ c ∈ b, ok c = true) → (a.flatMap E).length ≤ (b.flatMap E).length → a ≠ b →
    ((a.flatMap E < b.flatMap E ∧ b.flatMap E ++ [46, 98] < a.flatMap E ++ [46, 98]) ↔ ∃ c r, b = a ++ c :: r ∧ low E c = true)
  | [], [], _, _, _, h => absurd rfl h
  | [], c :: r, _, hb, _, _ => by
    obtain ⟨x, s, e, hx⟩ := C.head c (hb c List.mem_cons_self)
    have hl : low E c = decide (x < 46) := by unfold low; rw [e]; rfl
    rw [List.flatMap_nil, List.flatMap_cons, e, List.cons_append, List.cons_append, List.nil_append, List.cons_lt_cons_iff]
    constructor
    · rintro ⟨-, h | h⟩
      · exact ⟨c, r, rfl, by rw [hl]; exact decide_eq_true h⟩
      · exact absurd h.1 hx
    · rintro ⟨c', r', h1, h2⟩
      rw [List.nil_append] at h1
      cases h1
      rw [hl] at h2
      exact ⟨List.nil_lt_cons _ _, .inl (of_decide_eq_true h2)⟩
  | x :: a, [], ha, _, h, _ => by
    obtain ⟨y, s, e, -⟩ := C.head x (ha x List.mem_cons_self)
    rw [List.flatMap_cons, e] at h
    simp at h
  | x :: a, y :: b, ha, hb, hl, hne => by
    rw [List.flatMap_cons, List.flatMap_cons]
    by_cases e : x = y
    · subst e
      have ih := ask_word C a b (fun c hc => ha c (List.mem_cons_of_mem _ hc)) (fun c hc => hb c (List.mem_cons_of_mem _ hc)) (by simpa [List.flatMap_cons] using hl) (fun q => hne (by rw [q]))
      rw [List.append_assoc, List.append_assoc, pre_lt, pre_lt, ih]
      constructor
      · rintro ⟨c, r, h1, h2⟩
        exact ⟨c, r, by rw [h1]; rfl, h2⟩
      · rintro ⟨c, r, h1, h2⟩
        rw [List.cons_append] at h1
        exact ⟨c, r, (List.cons.inj h1).2, h2⟩
    · have hd := C.pf x y (ha x List.mem_cons_self) (hb y List.mem_cons_self) e
      have hd2 := hd
      rw [diff_comm] at hd2
      rw [List.append_assoc, List.append_assoc, diff_lt hd, diff_lt hd2]
      constructor
      · rintro ⟨h1, h2⟩
        exact absurd h2 (List.lt_asymm h1)
      · rintro ⟨c, r, h1, -⟩
        rw [List.cons_append] at h1
        exact absurd (List.cons.inj h1).1.symm e
end
section
def gEsc (ps : List (Nat × List Nat)) (l : List Nat) : List Nat := ps.foldl (fun l p => sub1 p.1 p.2 l) l
def gCode (ps : List (Nat × List Nat)) (c : Nat) : List Nat := gEsc ps [c]
theorem gEsc_flat : ∀ (ps : List (Nat × List Nat)) (F : Nat → List Nat) (l : List Nat), gEsc ps (l.flatMap F) = l.flatMap fun c => gEsc ps (F c)
  | [], _, _ => rfl
  | p :: ps, F, l => by
    show gEsc ps (sub1 p.1 p.2 (l.flatMap F)) = l.flatMap fun c => gEsc ps (sub1 p.1 p.2 (F c))
    rw [← gEsc_flat ps]
    unfold sub1
    rw [List.flatMap_assoc]
theorem gEsc_code (ps : List (Nat × List Nat)) (l : List Nat) : gEsc ps l = l.flatMap (gCode ps) := by
  have h := gEsc_flat ps (fun c => [c]) l
  rw [show l.flatMap (fun c => [c]) = l from by simp] at h
  exact h
def lit (s : Str) : List Nat := s.cps.toList
def psOf : Nat → List (Nat × List Nat)
  | 60 => [(38, lit "&amp;"), (60, lit "&lt;"), (62, lit "&gt;")]
  | 81 => [(38, lit "&amp;"), (60, lit "&lt;"), (62, lit "&gt;"), (13, lit "&#xD;")]
  | 67 => [(38, lit "&amp;"), (60, lit "&lt;"), (62, lit "&gt;"), (34, lit "&quot;"), (13, lit "&#13;"), (10, lit "&#10;"), (9, lit "&#09;")]
  | 88 => [(38, lit "&amp;"), (60, lit "&lt;"), (34, lit "&quot;"), (9, lit "&#x9;"), (10, lit "&#xA;"), (13, lit "&#xD;")]
  | _ => [(38, lit "&amp;"), (62, lit "&gt;"), (34, lit "&quot;")]
def escOf : Nat → Str → Str
  | 60 => esc_cdata
  | 81 => esc_cdata_c14n
  | 67 => esc_attrib
  | 88 => esc_attrib_c14n
  | _ => esc_attrib_html
theorem escOf_list (i : Nat) (h : i < 5) (a : Str) : (escOf (handOf i).1 a).cps.toList = a.cps.toList.flatMap (gCode (psOf (handOf i).1)) := by
  rw [← gEsc_code]
  have : i = 0 ∨ i = 1 ∨ i = 2 ∨ i = 3 ∨ i = 4 := by omega
  rcases this with rfl | rfl | rfl | rfl | rfl
  · show (esc_cdata a).cps.toList = _
    unfold esc_cdata
    erw [replace_sub1, replace_sub1, replace_sub1]
    rfl
  · show (esc_cdata_c14n a).cps.toList = _
    unfold esc_cdata_c14n
    erw [replace_sub1, replace_sub1, replace_sub1, replace_sub1]
    rfl
  · show (esc_attrib a).cps.toList = _
    unfold esc_attrib
    erw [replace_sub1, replace_sub1, replace_sub1, replace_sub1, replace_sub1, replace_sub1, replace_sub1]
    rfl
  · show (esc_attrib_c14n a).cps.toList = _
    unfold esc_attrib_c14n
    erw [replace_sub1, replace_sub1, replace_sub1, replace_sub1, replace_sub1, replace_sub1]
    rfl
  · show (esc_attrib_html a).cps.toList = _
    unfold esc_attrib_html
    erw [replace_sub1, replace_sub1, replace_sub1]
    rfl
def alpha : List Nat := [33, 38, 60, 62, 34, 9, 97]
theorem sign_alpha {c : Nat} (h : signOk c = true) : c ∈ alpha := by
  unfold signOk at h
  simp only [Bool.or_eq_true, beq_iff_eq] at h
  unfold alpha
  simp only [List.mem_cons, List.not_mem_nil, or_false]
  omega
theorem alpha_head : ∀ i < 5, ∀ c ∈ alpha, gCode (psOf (handOf i).1) c ≠ [] ∧ (gCode (psOf (handOf i).1) c).headD 0 ≠ 46 := by decide +kernel
theorem alpha_pf : ∀ i < 5, ∀ c ∈ alpha, ∀ d ∈ alpha, c ≠ d → diff (gCode (psOf (handOf i).1) c) (gCode (psOf (handOf i).1) d) = true := by decide +kernel
theorem alpha_low : ∀ i < 5, ∀ c ∈ alpha, low (gCode (psOf (handOf i).1)) c = decide (c ∈ lit (handOf i).2) := by decide +kernel
theorem code_of (i : Nat) (h : i < 5) : Code (gCode (psOf (handOf i).1)) signOk := by
  refine ⟨fun c hc => ?_, fun c d hc hd hne => alpha_pf i h c (sign_alpha hc) d (sign_alpha hd) hne⟩
  obtain ⟨h1, h2⟩ := alpha_head i h c (sign_alpha hc)
  cases e : gCode (psOf (handOf i).1) c with
  | nil => exact absurd e h1
  | cons x r =>
    rw [e] at h2
    exact ⟨x, r, rfl, h2⟩
end
section
theorem alpha_in : ∀ i < 5, ∀ c ∈ alpha, (Builtin.Str.occurrences (handOf i).2 ⟨#[c]⟩ 0 (handOf i).2.length 1).isEmpty = !decide (c ∈ lit (handOf i).2) := by decide +kernel
theorem str_ext {a b : Str} (h : a.cps.toList = b.cps.toList) : a = b := by
  cases a; cases b
  exact congrArg Str.mk (Array.toList_inj.mp h)
theorem stands_iff {i : Nat} (h : i < 5) {a x : Str} (hx : ∀ c ∈ x.cps.toList, signOk c = true) : standsOn (handOf i).2 a x = true ↔ ∃ c r, x.cps.toList = a.cps.toList ++ c :: r ∧ low (gCode (psOf (handOf i).1)) c = true := by
  have la : a.length = a.cps.toList.length := (Array.length_toList ..).symm
  have lx : x.length = x.cps.toList.length := (Array.length_toList ..).symm
  by_cases hl : a.length < x.length
  · have e1 : Txt.slice x none (some (a.length : Int)) = ⟨(x.cps.toList.take a.length).toArray⟩ := by
      have := eq_of_beq (slice_closes_to (x := x) (j := (a.length : Int)) ⟨by omega, by omega⟩)
      rw [this]
      simp
    have e2 : Txt.item x (a.length : Int) = ⟨#[x.cps.getD a.length 0]⟩ := by
      have := eq_of_beq (item_closes (x := x) (i := (a.length : Int)) ⟨by omega, by omega⟩)
      rw [this]
      simp
    have hl2 : a.length < x.cps.toList.length := by omega
    have e3 : x.cps.getD a.length 0 = x.cps.toList[a.length] := by
      have hs : a.length < x.cps.size := by simpa using hl2
      simp [Array.getD, hs]
    have e4 : x.cps.toList = x.cps.toList.take a.length ++ x.cps.toList[a.length] :: x.cps.toList.drop (a.length + 1) := by
      rw [← List.drop_eq_getElem_cons hl2, List.take_append_drop]
    have hc := sign_alpha (hx _ (List.getElem_mem hl2))
    unfold standsOn
    rw [decide_eq_true (show (a.length : Int) < x.length by omega), e1, e2, e3, alpha_in i h _ hc, ← alpha_low i h _ hc, Bool.true_and, Bool.not_not, Bool.and_eq_true]
    constructor
    · rintro ⟨h1, h2⟩
      have h1' : x.cps.toList.take a.length = a.cps.toList := by
        have := congrArg (fun s : Str => s.cps.toList) (eq_of_beq h1)
        simpa using this
      exact ⟨_, _, by rw [← h1']; exact e4, h2⟩
    · rintro ⟨c, r, h1, h2⟩
      have ht : x.cps.toList.take a.length = a.cps.toList := by rw [h1, la]; simp
      have hg : x.cps.toList[a.length] = c := by
        have : x.cps.toList[a.length]? = some c := by rw [h1, la]; simp
        rw [List.getElem?_eq_getElem hl2] at this
        exact Option.some.inj this
      refine ⟨?_, by rw [hg]; exact h2⟩
      rw [ht]
      exact beq_iff_eq.mpr (str_ext (by simp))
  · constructor
    · intro hs
      rw [so_len (by omega)] at hs
      cases hs
    · rintro ⟨c, r, h1, -⟩
      have := congrArg List.length h1
      rw [List.length_append, List.length_cons] at this
      omega
end
section
theorem coll_lt {a b : Str} : decide (coll a b = -1) = decide (a.cps.toList < b.cps.toList) := by
  unfold coll b2i
  by_cases h : a.cps.toList < b.cps.toList
  · have h2 : ¬ b.cps.toList < a.cps.toList := List.lt_asymm h
    simp [h, h2]
  · by_cases h2 : b.cps.toList < a.cps.toList <;> simp [h, h2]
theorem coll_gt {a b : Str} : decide (coll a b = 1) = decide (b.cps.toList < a.cps.toList) := by
  unfold coll b2i
  by_cases h : a.cps.toList < b.cps.toList
  · have h2 : ¬ b.cps.toList < a.cps.toList := List.lt_asymm h
    simp [h, h2]
  · by_cases h2 : b.cps.toList < a.cps.toList <;> simp [h, h2]
section
variable {i : Nat} {ws : List Str} {n : Nat}
theorem word_sign (ok : WordsOk ws n) (a : Nat) : ∀ c ∈ (ws.getD a Str.empty).cps.toList, signOk c = true := by
  rw [List.getD_eq_getElem?_getD]
  cases h : ws[a]? with
  | none => exact fun c hc => (nomatch hc)
  | some x => exact ok.sign x (List.mem_of_getElem? h)
theorem word_inj (ok : WordsOk ws n) {a b : Nat} (ha : a < ws.length) (hb : b < ws.length) (h : (ws.getD a Str.empty).cps.toList = (ws.getD b Str.empty).cps.toList) : a = b := by
  have e := str_ext h
  simp only [List.getD_eq_getElem?_getD, List.getElem?_eq_getElem ha, List.getElem?_eq_getElem hb, Option.getD_some] at e
  exact (List.getElem_inj ok.nd).mp e
theorem std_words (h : i < 5) (ok : WordsOk ws n) : Std (fun a b => standsOn (handOf i).2 (ws.getD a Str.empty) (ws.getD b Str.empty)) (fun a => (ws.getD a Str.empty).length) ws.length := by
  refine ⟨fun {a b c} h1 h2 => ?_, fun {a b c} ha hb h1 h2 => ?_, fun {a b} h1 => ?_⟩
  · obtain ⟨d, r, e1, l1⟩ := (stands_iff h (word_sign ok b)).mp h1
    obtain ⟨f, s, e2, -⟩ := (stands_iff h (word_sign ok c)).mp h2
    exact (stands_iff h (word_sign ok c)).mpr ⟨d, r ++ f :: s, by rw [e2, e1]; simp, l1⟩
  · obtain ⟨d, r, e1, l1⟩ := (stands_iff h (word_sign ok c)).mp h1
    obtain ⟨f, s, e2, l2⟩ := (stands_iff h (word_sign ok c)).mp h2
    rw [e1] at e2
    rcases List.append_eq_append_iff.mp e2 with ⟨t, e3, e4⟩ | ⟨t, e3, e4⟩
    · cases t with
      | nil => exact .inl (word_inj ok ha hb (by rw [e3, List.append_nil]))
      | cons x t =>
        rw [List.cons_append] at e4
        cases e4
        exact .inr (.inl ((stands_iff h (word_sign ok b)).mpr ⟨_, _, e3, l1⟩))
    · cases t with
      | nil => exact .inl (word_inj ok ha hb (by rw [e3, List.append_nil]))
      | cons x t =>
        rw [List.cons_append] at e4
        cases e4
        exact .inr (.inr ((stands_iff h (word_sign ok a)).mpr ⟨_, _, e3, l2⟩))
  · obtain ⟨d, r, e1, -⟩ := (stands_iff h (word_sign ok b)).mp h1
    have := congrArg List.length e1
    rw [List.length_append, List.length_cons] at this
    have la : (ws.getD a Str.empty).length = (ws.getD a Str.empty).cps.toList.length := (Array.length_toList ..).symm
    have lb : (ws.getD b Str.empty).length = (ws.getD b Str.empty).cps.toList.length := (Array.length_toList ..).symm
    show (ws.getD a Str.empty).length < (ws.getD b Str.empty).length
    omega
theorem ask_stands (h : i < 5) (ok : WordsOk ws n) {a b : Nat} (ha : a < ws.length) (hb : b < ws.length) (hne : a ≠ b) {A B NA NB : Str} (eA : A = escOf (handOf i).1 (ws.getD a Str.empty)) (eB : B = escOf (handOf i).1 (ws.getD b Str.empty))
    (eNA : NA.cps.toList = A.cps.toList ++ [46, 98]) (eNB : NB.cps.toList = B.cps.toList ++ [46, 98]) (hl : A.length ≤ B.length) :
    (decide (coll A B = -1) && decide (coll NA NB = 1)) = (standsOn (handOf i).2 (ws.getD a Str.empty) (ws.getD b Str.empty) || standsOn (handOf i).2 (ws.getD b Str.empty) (ws.getD a Str.empty)) := by
  have lA : A.length = A.cps.toList.length := (Array.length_toList ..).symm
  have lB : B.length = B.cps.toList.length := (Array.length_toList ..).symm
  have fA : A.cps.toList = (ws.getD a Str.empty).cps.toList.flatMap (gCode (psOf (handOf i).1)) := by rw [eA, escOf_list i h]
  have fB : B.cps.toList = (ws.getD b Str.empty).cps.toList.flatMap (gCode (psOf (handOf i).1)) := by rw [eB, escOf_list i h]
  have key := ask_word (code_of i h) _ _ (word_sign ok a) (word_sign ok b) (by rw [← fA, ← fB]; omega) (fun e => hne (word_inj ok ha hb e))
  rw [← fA, ← fB, ← eNA, ← eNB, ← stands_iff h (word_sign ok b)] at key
  have hno : standsOn (handOf i).2 (ws.getD b Str.empty) (ws.getD a Str.empty) = false := by
    cases q : standsOn (handOf i).2 (ws.getD b Str.empty) (ws.getD a Str.empty) with
    | false => rfl
    | true =>
      obtain ⟨d, r, e1, -⟩ := (stands_iff h (word_sign ok a)).mp q
      have := congrArg (fun l : List Nat => (l.flatMap (gCode (psOf (handOf i).1))).length) e1
      simp only [List.flatMap_append, List.flatMap_cons, List.length_append, ← fA, ← fB] at this
      obtain ⟨x, s, e2, -⟩ := (code_of i h).head d (word_sign ok a d (by rw [e1]; simp))
      rw [e2, List.length_cons] at this
      omega
  rw [coll_lt, coll_gt, hno, Bool.or_false, Bool.eq_iff_iff, Bool.and_eq_true, decide_eq_true_eq, decide_eq_true_eq]
  exact key
end
end
section
section
variable {i : Nat} {ws W Nm : List Str} {n : Nat} {ord : List Int}
theorem adj_stands (h : i < 5) (ok : WordsOk ws n) (hW : ∀ a < ws.length, W.getD a Str.empty = escOf (handOf i).1 (ws.getD a Str.empty)) (hN : ∀ a < ws.length, (Nm.getD a Str.empty).cps.toList = (W.getD a Str.empty).cps.toList ++ [46, 98])
    {a b : Nat} (ha : a < ws.length) (hb : b < ws.length) : adjOf (askC W Nm) a b = (standsOn (handOf i).2 (ws.getD a Str.empty) (ws.getD b Str.empty) || standsOn (handOf i).2 (ws.getD b Str.empty) (ws.getD a Str.empty)) := by
  have ask : ∀ {a b}, a < ws.length → b < ws.length → a ≠ b → askC W Nm a b = (standsOn (handOf i).2 (ws.getD a Str.empty) (ws.getD b Str.empty) || standsOn (handOf i).2 (ws.getD b Str.empty) (ws.getD a Str.empty)) := by
    intro a b ha hb hne
    unfold askC
    split
    · rename_i hl
      exact ask_stands h ok ha hb hne (hW a ha) (hW b hb) (hN a ha) (hN b hb) (by omega)
    · rename_i hl
      rw [ask_stands h ok hb ha (Ne.symm hne) (hW b hb) (hW a ha) (hN b hb) (hN a ha) (by omega), Bool.or_comm]
  unfold adjOf
  split
  · exact ask ha hb (by omega)
  · split
    · rw [ask hb ha (by omega), Bool.or_comm]
    · have e : a = b := by omega
      subst e
      have S := std_words (n := n) h ok
      cases q : standsOn (handOf i).2 (ws.getD a Str.empty) (ws.getD a Str.empty) with
      | false => rfl
      | true => exact absurd (S.ln (a := a) (b := a) q) (Nat.lt_irrefl _)
theorem row_due (hp : ord.Perm (natsTo ws.length)) (sg : Str) {a : Nat} (ha : a < ws.length) {f : Nat → Bool} (hf : ∀ b < ws.length, f b = (standsOn sg (ws.getD a Str.empty) (ws.getD b Str.empty) || standsOn sg (ws.getD b Str.empty) (ws.getD a Str.empty))) :
    sumPow f ws.length = dueRow (belowOf ws sg ord) ws.length a := by
  unfold dueRow
  rw [pick_sum]
  have any : ∀ c d, d < ws.length → ((belowOf ws sg ord c).any fun x => x == (d : Int)) = standsOn sg (ws.getD d Str.empty) (ws.getD c Str.empty) := by
    intro c d hd
    rw [Bool.eq_iff_iff, List.any_eq_true]
    constructor
    · rintro ⟨x, hx, e⟩
      rw [eq_of_beq e] at hx
      have := (List.mem_filter.mp hx).2
      simpa using this
    · intro hs
      refine ⟨(d : Int), List.mem_filter.mpr ⟨hp.mem_iff.mpr (List.mem_map.mpr ⟨d, List.mem_range.mpr hd, rfl⟩), by simpa using hs⟩, by simp⟩
  have key : ∀ k, k ≤ ws.length → sumPow f k = sumPow (fun j => ((belowOf ws sg ord a).any fun x => x == (j : Int)) || ((belowOf ws sg ord j).any fun x => x == (a : Int))) k := by
    intro k
    induction k with
    | zero => exact fun _ => rfl
    | succ k ih =>
      intro hk
      unfold sumPow
      rw [ih (by omega), hf k (by omega), any a k (by omega), any k a ha, Bool.or_comm]
  exact key _ (Nat.le_refl _)
/-- the plain law -/
theorem plain_law (h : i < 5) (ok : WordsOk ws n) (hW : ∀ a < ws.length, W.getD a Str.empty = escOf (handOf i).1 (ws.getD a Str.empty)) (hN : ∀ a < ws.length, (Nm.getD a Str.empty).cps.toList = (W.getD a Str.empty).cps.toList ++ [46, 98])
    (hp : ord.Perm (natsTo ws.length)) (hs : ord.Pairwise fun x y => ((ws.getD x.toNat Str.empty).length : Int) ≤ (ws.getD y.toNat Str.empty).length) :
    rowsAt (askC W Nm) ws.length = (List.range ws.length).map (dueRow (belowOf ws (handOf i).2 ord) ws.length) ∧
    ∀ k < ws.length, ∀ ks, KeptOf (rowsAt (askC W Nm) (k + 1)) ks → ks.length = (takenOf (belowOf ws (handOf i).2 ord) ord k).length := by
  refine ⟨List.map_congr_left fun a ha => row_due hp _ (List.mem_range.mp ha) fun b hb => adj_stands h ok hW hN (List.mem_range.mp ha) hb, fun k hk ks hks => ?_⟩
  exact rank_eq (std_words h ok) hp (hs.imp fun {x y} e => Int.ofNat_le.mp e) hk (fun a b ha hb => adj_stands h ok hW hN ha hb) hks
end
end
section
theorem alpha_len : ∀ i < 5, ∀ c ∈ alpha, (gCode (psOf (handOf i).1) c).length ≤ 6 := by decide +kernel
theorem flat_len {E : Nat → List Nat} {k : Nat} : ∀ {l : List Nat}, (∀ c ∈ l, (E c).length ≤ k) → (l.flatMap E).length ≤ l.length * k
  | [], _ => by simp
  | c :: r, h => by
    have h1 := h c List.mem_cons_self
    have h2 := flat_len (E := E) (k := k) (l := r) fun d hd => h d (List.mem_cons_of_mem _ hd)
    rw [List.flatMap_cons, List.length_append, List.length_cons, Nat.add_mul, Nat.one_mul]
    omega
theorem esc_len {i n : Nat} (h : i < 5) {a : Str} (hs : ∀ c ∈ a.cps.toList, signOk c = true) (hl : a.length ≤ n) : (escOf (handOf i).1 a).length ≤ n * 6 := by
  have e := congrArg List.length (escOf_list i h a)
  have e2 := flat_len (E := gCode (psOf (handOf i).1)) (k := 6) (l := a.cps.toList) fun c hc => alpha_len i h c (sign_alpha (hs c hc))
  have e3 : a.cps.toList.length = a.length := rfl
  have e4 : (escOf (handOf i).1 a).cps.toList.length = (escOf (handOf i).1 a).length := rfl
  rw [← e, e4, e3] at e2
  exact Nat.le_trans e2 (Nat.mul_le_mul_right _ hl)
theorem esc_spec (w : World) (news : Led) {i : Nat} (h : i < 5) (a : Str) (ta : Tok) (hl : LenLe a 20) : Spec w (fun _ => True) news (handOf i).1 [.str a ta] 2 16 (fun v n => ∃ tk, v = .str (escOf (handOf i).1 a) tk ∧ n = news) := by
  have : i = 0 ∨ i = 1 ∨ i = 2 ∨ i = 3 ∨ i = 4 := by omega
  rcases this with rfl | rfl | rfl | rfl | rfl
  · exact esc_cdata_spec w news a ta hl
  · exact esc_cdata_c14n_spec w news a ta hl
  · exact esc_attrib_spec w news a ta hl
  · exact esc_attrib_c14n_spec w news a ta hl
  · exact esc_attrib_html_spec w news a ta hl
theorem pickS_getD {g : Nat → Str} {n a : Nat} (h : a < n) : (pickS g n).getD a Str.empty = g a := by
  unfold pickS
  rw [List.getD_eq_getElem?_getD, List.getElem?_map, List.getElem?_range h]
  rfl
theorem pickS_all {g : Nat → Str} {n : Nat} {P : Str → Prop} (h : ∀ a < n, P (g a)) : ∀ x ∈ pickS g n, P x := fun x hx => by
  obtain ⟨a, ha, rfl⟩ := List.mem_map.mp hx
  exact h a (List.mem_range.mp ha)
theorem name_cps (a : Str) : (a ++ "." ++ "b" : Str).cps.toList = a.cps.toList ++ [46, 98] := by
  rw [Str.cps_append, Str.cps_append, Array.toList_append, Array.toList_append, List.append_assoc]
  rfl
theorem word_getD {ws : List Str} {n a : Nat} (ok : WordsOk ws n) (h : a < ws.length) : (ws.getD a Str.empty).length ≤ 2 * n ∧ ∀ c ∈ (ws.getD a Str.empty).cps.toList, signOk c = true := by
  have e : ws.getD a Str.empty = ws[a] := by rw [List.getD_eq_getElem?_getD, List.getElem?_eq_getElem h]; rfl
  rw [e]
  exact ⟨ok.short _ (List.getElem_mem h), ok.sign _ (List.getElem_mem h)⟩
theorem tups_obj {cvs : List Value} {tups : Led} {rks : List Nat} (h : TupsAre cvs tups rks) : ∀ p ∈ tups, p.2.cls = .type "tuple" := by
  induction h with
  | nil => exact fun _ h => nomatch h
  | snoc _ ih =>
    intro p hp
    rcases List.mem_append.mp hp with hp | hp
    · exact ih p hp
    · rw [List.mem_singleton.mp hp]
theorem news_ne {h₀ h : Heap} {L : Addr} {news : Led} (N : News h₀ L h news) {a b : Addr} {o o' : Obj} (ha : (a, o) ∈ news) (hb : (b, o') ∈ news) (hc : o.cls ≠ o'.cls) : @Ne Nat a b := fun e => by
  have h1 := (N _ ha).1
  have h2 := (N _ hb).1
  dsimp only at h1 h2
  rw [show a = b from e, h2] at h1
  exact hc (congrArg Obj.cls (Option.some.inj h1)).symm
theorem told_off {h₀ h : Heap} {L : Addr} {r : Led} {A B C : Addr × Obj} {cvs : List Value} {tups : Led} {rks : List Nat} (N : News h₀ L h (A :: B :: C :: (tups ++ r))) (hr : (114, tabObj #[]) ∈ r) (hA : A.2.cls ≠ .none) (hB : B.2.cls ≠ .none) (hC : C.2.cls ≠ .none) (ht : TupsAre cvs tups rks) : ∀ p ∈ A :: B :: C :: tups, p.1 ≠ 114 := fun p hp => by
  have hm : p ∈ A :: B :: C :: (tups ++ r) := by
    simp only [List.mem_cons, List.mem_append] at hp ⊢
    rcases hp with hp | hp | hp | hp <;> simp [hp]
  have h114 : (114, tabObj #[]) ∈ A :: B :: C :: (tups ++ r) := List.mem_cons_of_mem _ (List.mem_cons_of_mem _ (List.mem_cons_of_mem _ (List.mem_append_right _ hr)))
  refine news_ne N (o := p.2) (o' := tabObj #[]) hm h114 ?_
  show p.2.cls ≠ .none
  rcases List.mem_cons.mp hp with rfl | hp
  · exact hA
  rcases List.mem_cons.mp hp with rfl | hp
  · exact hB
  rcases List.mem_cons.mp hp with rfl | hp
  · exact hC
  rw [tups_obj ht p hp]
  exact fun e => by cases e
end
section
open PySem.Spec
def rowD (r : Nat) : PyData := .tuple [.int r, .bool true]
def tellD (rows : List Int) (rks : List Nat) : PyData := .tuple [.list (rows.map PyData.int), .list (rks.map rowD)]
section
variable {h₀ h : Heap} {L : Addr} {big : Led}
theorem reads_snoc {vs : List Value} {ds : List PyData} {v : Value} {d : PyData} (a : ReadsAll h vs ds []) (b : Reads h v d []) : ReadsAll h (vs ++ [v]) (ds ++ [d]) [] := by
  induction vs generalizing ds with
  | nil =>
    cases a
    exact ReadsAll.cons (as := []) (bs := []) b .nil
  | cons x r ih =>
    generalize hn : ([] : List Addr) = n at a
    cases a with
    | cons h1 h2 =>
      rename_i d1 d2 as bs
      have e := List.append_eq_nil_iff.mp hn.symm
      obtain ⟨rfl, rfl⟩ := e
      exact ReadsAll.cons (as := []) (bs := []) h1 (ih h2)
theorem tups_reads (N : News h₀ L h big) {cvs : List Value} {tups : Led} {rks : List Nat} (ht : TupsAre cvs tups rks) : (∀ p ∈ tups, p ∈ big) → ReadsAll h cvs (rks.map rowD) [] := by
  induction ht with
  | nil => exact fun _ => .nil
  | @snoc cvs tups rks t r tk _ ih =>
    intro hs
    rw [List.map_append]
    refine reads_snoc (ih fun p hp => hs p (List.mem_append_left _ hp)) ?_
    refine Reads.tuple (N.get (hs (t, _) (List.mem_append_right _ (List.mem_singleton.mpr rfl)))) rfl rfl ?_
    exact ReadsAll.cons (as := []) (bs := []) (Reads.int _ _) (ReadsAll.cons (as := []) (bs := []) (Reads.bool _) .nil)
theorem tell_reads (N : News h₀ L h big) {t ra ca : Addr} {rs cvs : List Value} {kr kc : Nat} {tups : Led} {rks : List Nat} {rows : List Int} (ht : TupsAre cvs tups rks) (hr : IntsAre rs rows)
    (mt : (t, tupOf [.ref ra, .ref ca]) ∈ big) (mr : (ra, listOf rs.toArray kr) ∈ big) (mc : (ca, listOf cvs.toArray kc) ∈ big) (ms : ∀ p ∈ tups, p ∈ big) : ∃ as, Reads h (.ref t) (tellD rows rks) as := by
  have r1 : Reads h (.ref ra) (.list (rows.map PyData.int)) (ra :: []) := Reads.list (N.get mr) rfl rfl (by simpa using readsAll_of_ints hr)
  have r2 : Reads h (.ref ca) (.list (rks.map rowD)) (ca :: []) := Reads.list (N.get mc) rfl rfl (by simpa using tups_reads N ht ms)
  exact ⟨_, Reads.tuple (N.get mt) rfl rfl (ReadsAll.cons r1 (ReadsAll.cons r2 .nil))⟩
end
theorem lay_rows : ∀ rks : List Nat, PyData.canLayAll0 (rks.map rowD) = true
  | [] => by simp [PyData.canLayAll0]
  | n :: r => by simp [PyData.canLayAll0, PyData.canLay0, rowD, lay_rows r]
theorem depth_rows : ∀ rks : List Nat, PyData.depthAll (rks.map rowD) ≤ 1
  | [] => by simp [PyData.depthAll]
  | n :: r => by
    have := depth_rows r
    simp only [List.map_cons, PyData.depthAll, PyData.depth, rowD] at this ⊢
    omega
theorem tell_shaped (rows : List Int) (rks : List Nat) : SeqAt.shaped (tellD rows rks) = true := by
  have h1 := W.depthAll_ints rows
  have h2 := depth_rows rks
  have h3 : PyData.depth (tellD rows rks) ≤ 64 := by
    simp only [tellD, PyData.depth, PyData.depthAll]
    omega
  show (PyData.canLay0 (tellD rows rks) && decide (PyData.depth (tellD rows rks) ≤ 64)) = true
  rw [Bool.and_eq_true]
  exact ⟨by simp only [tellD, PyData.canLay0, PyData.canLayAll0, canLayAll0_ints, lay_rows, Bool.and_self], decide_eq_true h3⟩
theorem mix_rows : ∀ rks : List Nat, SeqAt.noMixAll (rks.map rowD) (rks.map rowD) = true
  | [] => by simp [SeqAt.noMixAll]
  | n :: r => by simp [SeqAt.noMixAll, SeqAt.noMix, rowD, mix_rows r]
theorem tell_mix (rows : List Int) (rks : List Nat) : SeqAt.noMix (tellD rows rks) (tellD rows rks) = true := by
  simp only [tellD, SeqAt.noMix, SeqAt.noMixAll, noMix_ints, mix_rows, Bool.and_self]
theorem eq_tell {prog : Program} {w : World} {A : Around} {E : Value → Shared → Prop} {s : Shared} {a b : Value} {as bs : List Addr} {rows rows2 : List Int} {rks rks2 : List Nat} {Q : Value → Shared → Prop}
    (ra : Reads s.heap a (tellD rows rks) as) (rb : Reads s.heap b (tellD rows2 rks2) bs) (e1 : rows = rows2) (e2 : rks = rks2) (hu : A.units + 64 < cLine) (h : Q (.bool true) s) : wpAny (model prog w) A (compareOp .Eq a b) Q E s := by
  subst e1 e2
  refine eq_dataH_same ra rb (tell_shaped _ _) (tell_shaped _ _) hu (tell_mix _ _) ?_
  rw [Spec.same_self]
  exact h
theorem ranks_eq {c : Nat → Nat → Bool} {rks rks2 : List Nat} {n : Nat} {tk : Nat → Nat} (hl : rks.length = n) (h : ∀ j r, rks[j]? = some r → ∃ ks, KeptOf (rowsAt c (j + 1)) ks ∧ r = ks.length) (h2 : rks2 = (List.range n).map tk)
    (hp : ∀ k < n, ∀ ks, KeptOf (rowsAt c (k + 1)) ks → ks.length = tk k) : rks = rks2 := by
  subst h2
  refine List.ext_getElem (by simp [hl]) fun j h1 _ => ?_
  obtain ⟨ks, hk, e⟩ := h j rks[j] (List.getElem?_eq_getElem h1)
  rw [e, hp j (by omega) ks hk]
  simp
end
section

theorem keep_hand (w : World) {i : Nat} (h : i < 5) : keepIn (hd.heap_39 w.params) (.ref (handOf i).1) = true := by
  have : i = 0 ∨ i = 1 ∨ i = 2 ∨ i = 3 ∨ i = 4 := by omega
  rcases this with rfl | rfl | rfl | rfl | rfl
  · show keepIn (hd.heap_39 w.params) (.ref 60) = true
    k_is
  · show keepIn (hd.heap_39 w.params) (.ref 81) = true
    k_is
  · show keepIn (hd.heap_39 w.params) (.ref 67) = true
    k_is
  · show keepIn (hd.heap_39 w.params) (.ref 88) = true
    k_is
  · show keepIn (hd.heap_39 w.params) (.ref 74) = true
    k_is
set_option maxHeartbeats 8000000 in
theorem top : PySem.Challenge.rw_wu0063_01.Holds := by
  k_with_none
  w_top off
  refine hd ?_
  k_go0
  all_goals try k_fold
  rename_i is0 hs0 hlay0 hL00 hr00 hl20 wA wB sc0 vs0 wC hL01 ra0 w10 r00 hI0 hr0 hlen hcT hD h1 tk1 cw dcw X0 X' T' K' F' N' l0
  rename World => w0
  have hlen' : is0.length ≤ 63 := by omega
  rename Shared => s1
  generalize hg0 : ghostOf s1.heap [(116, 114)] = g0 at *
  obtain ⟨L1, hL1⟩ : ∃ L1, L1 = s1.heap.objs.size + 1 := ⟨_, rfl⟩
  have cc : ∃ v, cw.data = Data.cell v := ⟨_, dcw⟩
  k_with "call ref" => (
    k_dflt (refine' Spec.use (words_spec w0 [(s1.heap.objs.size + 1, cw), (114, tabObj #[])] sc0 vs0 is0 hI0 hlen') ?k1 ?k2 ?k3 ?k4 ?k5 ?kK ?kd ?ku ?kp ?ks ?_; (case k1 => k_asm); (case k2 => k_asm); (case k3 => k_asm); (case k4 => k_asm); (case k5 => k_asm); (case kK => rfl); (case kd => ktr_room); (case ku => ktr_units); (case kp => trivial); (case ks => exact subR))
    rintro v nw h' tk' ⟨t, us, ws, k', rfl, rfl, hst, hok, hlt⟩ F' N'
    dsimp only
    have hlt1 : @LT.lt Nat _ (s1.heap.objs.size + 1) t := hlt (s1.heap.objs.size + 1, cw) (List.Mem.head _)
    have hlt2 : @LT.lt Nat _ 114 t := hlt (114, tabObj #[]) (List.Mem.tail _ (List.Mem.head _))
    k_with "call ref" => (
      k_dflt (refine' Spec.use (hand_spec w0 [(t, listOf us.toArray k'), (s1.heap.objs.size + 1, cw), (114, tabObj #[])] sc0 vs0 is0 hI0 hlen') ?k1 ?k2 ?k3 ?k4 ?k5 ?kK ?kd ?ku ?kp ?ks ?_; (case k1 => k_asm); (case k2 => k_asm); (case k3 => k_asm); (case k4 => k_asm); (case k5 => k_asm); (case kK => rfl); (case kd => ktr_room); (case ku => ktr_units); (case kp => trivial); (case ks => exact subR))
      rintro v nw h' tk' ⟨th, ih, tkh, hih, rfl, rfl⟩ F' N'
      dsimp only))
  k_with "exec Assign cons ListComp" => (k_dflt (refine Assign_ownS (by with_unfolding_all rfl) (by with_unfolding_all rfl) (by rfl) (by decide) ?_))
  k_steps
  rename Obj => ow
  rename ow.data = _ => dow
  rename Fr _ _ _ _ => F5
  rename News _ _ _ _ => N5
  obtain ⟨f, hf⟩ : ∃ f, f = (handOf ih).1 := ⟨_, rfl⟩
  rw [← hf] at dow
  have hwl : ws.length ≤ 10 := hok.len
  replace N5 := news_sub N5 (show ∀ p ∈ [(t, listOf us.toArray k'), (s1.heap.objs.size + 1, ow), (114, tabObj #[])], p ∈ _ by (repeat' first | exact (fun p hp => hp) | exact List.Mem.head _ | refine sub_h ?_ ?_ | refine List.Mem.tail _ ?_ | refine sub_t ?_))
  refine compSrcS_list (by rfl) F5 N5 hst (k := k') (List.Mem.head _) (by omega) (by decide) (by rfl) (by rfl) (fun i => escOf (handOf ih).1 (ws.getD i Str.empty)) ?turns ?ret
  case turns =>
    rintro j v J oJ C oC D2 oD m₂ h tk E' hj ⟨x, tx, rfl, hx⟩ hoC hmx F6 N6 off6 nes
    have ex : ws.getD j Str.empty = x := by rw [List.getD_eq_getElem?_getD, hx]; rfl
    have hxl : LenLe x 20 := by
      have := (word_getD hok hj).1
      rw [ex] at this
      exact this
    simp only [ex]
    have hkeep : keepIn (hd.heap_39 w0.params) (.ref f) = true := by rw [hf]; exact keep_hand w0 hih
    k_with "callWith ref" => (k_dflt (refine' callWith_K ?k1 ?k2 ?_; (case k1 => k_asm); (case k2 => exact hkeep); k_whole))
    k_with "call ref" => (
      rw [hf]
      k_dflt (refine' Spec.use (esc_spec w0 _ hih x tx hxl) ?k1 ?k2 ?k3 ?k4 ?k5 ?kK ?kd ?ku ?kp ?ks ?_; (case k1 => k_asm); (case k2 => k_asm); (case k3 => k_asm); (case k4 => k_asm); (case k5 => k_asm); (case kK => rfl); (case kd => ktr_room); (case ku => ktr_units); (case kp => trivial); (case ks => exact subR))
      rintro v nw h' tk' ⟨tke, rfl, rfl⟩ F' N'
      dsimp only)
    k_steps
    exact eltEndS (by assumption) (by assumption) (fun _ h => h)
  refine compRetS_assign rfl (by rfl) (by rfl) fun D ys h tk F7 N7 l7 hys => ?_
  generalize hW : pickS (fun i => escOf (handOf ih).1 (ws.getD i Str.empty)) ws.length = W at hys
  have hWl : W.length = ws.length := by rw [← hW, pickS_len]
  have hWs : ∀ x ∈ W, x.length ≤ 120 := by
    rw [← hW]
    exact pickS_all fun a ha => esc_len hih (word_getD hok ha).2 (word_getD hok ha).1
  have hys' := hys
  have l7' := l7
  k_lt l7
  k_steps
  rename Fr _ _ _ _ => F8
  rename News _ _ _ _ => N8
  refine compSrcS_list (by rfl) F8 N8 hys' (List.Mem.head _) (by omega) (by decide) (by rfl) (by rfl) (fun i => W.getD i Str.empty ++ "." ++ "b") ?turns2 ?ret2
  case turns2 =>
    rintro j v J oJ C oC D2 oD m₂ h tk E' hj ⟨x, tx, rfl, hx⟩ hoC hmx F6 N6 off6 nes
    have ex : W.getD j Str.empty = x := by rw [List.getD_eq_getElem?_getD, hx]; rfl
    have hxl : x.length ≤ 1000000 := Nat.le_trans (hWs x (List.mem_of_getElem? hx)) (by decide)
    have hb1 : (Str.ofString "b").length ≤ 1000 := by decide
    simp only [ex]
    k_with "call ref" => (
      k_dflt (refine' Spec.use (localename_spec w0 _ _ _ _ _ _ hxl hb1) ?k1 ?k2 ?k3 ?k4 ?k5 ?kK ?kd ?ku ?kp ?ks ?_; (case k1 => k_asm); (case k2 => k_asm); (case k3 => k_asm); (case k4 => k_asm); (case k5 => k_asm); (case kK => rfl); (case kd => ktr_room); (case ku => ktr_units); (case kp => trivial); (case ks => exact subR))
      rintro v nw h' tk' ⟨rfl, tke, rfl⟩ F' N'
      dsimp only)
    k_steps
    exact eltEndS (by assumption) (by assumption) (fun _ h => .tail _ h)
  refine compRetS_assign rfl (by rfl) (by rfl) fun D2 ys2 h2 tk2 F9 N9 l9 hys2 => ?_
  generalize hM : pickS (fun i => W.getD i Str.empty ++ "." ++ "b") W.length = Nm at hys2
  have hMl : Nm.length = W.length := by rw [← hM, pickS_len]
  have hS : StrsAre ys W ∧ True := ⟨hys, trivial⟩
  have hS2 : StrsAre ys2 Nm ∧ True := ⟨hys2, trivial⟩
  have hS3 : StrsAre us ws ∧ True := ⟨hst, trivial⟩
  have hW40 : W.length < 40 := by omega
  have hWk : ∀ x ∈ W, x.length ≤ 1000 := fun x hx => Nat.le_trans (hWs x hx) (by decide)
  have l9' := l9
  k_lt l9
  k_with "call ref" => (
    k_dflt (refine' Spec.use (told_spec w0 [(t, listOf us.toArray k'), (s1.heap.objs.size + 1, ow), (114, tabObj #[])] D D2 ys ys2 W Nm ys.length ys2.length hS.1 hS2.1 hMl hW40 hWk) ?k1 ?k2 ?k3 ?k4 ?k5 ?kK ?kd ?ku ?kp ?ks ?_; (case k1 => k_asm); (case k2 => k_asm); (case k3 => k_asm); (case k4 => k_asm); (case k5 => k_asm); (case kK => rfl); (case kd => ktr_room); (case ku => ktr_units); (case kp => trivial); (case ks => (repeat' first | exact (fun p hp => hp) | exact List.Mem.head _ | refine sub_h ?_ ?_ | refine List.Mem.tail _ ?_ | refine sub_t ?_)))
    rintro v nw h' tk' ⟨tt, ra, ca, rs, cvs, kr, kc, tups, rks, rfl, rfl, hrs, htups, hrkl, hrk⟩ F' N'
    dsimp only
    have hnn := told_off N' (List.Mem.tail _ (List.Mem.tail _ (List.Mem.tail _ (List.Mem.tail _ (List.Mem.head _))))) (fun e => by cases e) (fun e => by cases e) (fun e => by cases e) htups
    k_with "call ref" => (
      k_dflt (refine' Spec.use (due_spec w0 ((tt, tupOf [.ref ra, .ref ca]) :: (ra, listOf rs.toArray kr) :: (ca, listOf cvs.toArray kc) :: tups) t us ws (handOf ih).2 tkh k' hS3.1 hok hlt2 hnn) ?k1 ?k2 ?k3 ?k4 ?k5 ?kK ?kd ?ku ?kp ?ks ?_; (case k1 => k_asm); (case k2 => k_asm); (case k3 => k_asm); (case k4 => k_asm); (case k5 => k_asm); (case kK => rfl); (case kd => ktr_room); (case ku => ktr_units); (case kp => trivial); (case ks => exact sub_h (List.Mem.tail _ (List.Mem.tail _ (List.Mem.tail _ (List.mem_append_right _ (List.Mem.tail _ (List.Mem.tail _ (List.Mem.tail _ (List.Mem.tail _ (List.Mem.head _))))))))) (sub_h (List.Mem.tail _ (List.Mem.tail _ (List.Mem.tail _ (List.mem_append_right _ (List.Mem.tail _ (List.Mem.tail _ (List.Mem.head _))))))) (sub_h (List.Mem.head _) (sub_h (List.Mem.tail _ (List.Mem.head _)) (sub_h (List.Mem.tail _ (List.Mem.tail _ (List.Mem.head _))) (fun p hp => List.Mem.tail _ (List.Mem.tail _ (List.Mem.tail _ (List.mem_append_left _ hp))))))))))
      rintro v nw h' tk' ⟨ord, t2, ra2, ca2, rs2, kr2, cvs2, kc2, tups2, rks2, ps7, rfl, rfl, hrs2, htups2, hrk2, hperm, hsort⟩ F' N'
      dsimp only))
  k_steps
  rename News _ _ _ _ => N10
  obtain ⟨pl1, pl2⟩ := plain_law (W := W) (Nm := Nm) hih hok (fun a ha => by rw [← hW]; exact pickS_getD ha) (fun a ha => by rw [← hM, pickS_getD (by omega)]; exact name_cps _) hperm hsort
  have mb : ∀ {q : Addr × Obj} {r : Led}, q ∈ r → q ∈ (t2, tupOf [.ref ra2, .ref ca2]) :: (ra2, listOf rs2.toArray kr2) :: (ca2, listOf cvs2.toArray kc2) :: (tups2 ++ (t, listOf us.toArray k') :: r) := fun hq => List.Mem.tail _ (List.Mem.tail _ (List.Mem.tail _ (List.mem_append_right _ (List.Mem.tail _ hq))))
  obtain ⟨as1, rd1⟩ := tell_reads (h := _) N10 htups hrs (t := _) (mb (List.Mem.tail _ (List.Mem.head _))) (mb (List.Mem.tail _ (List.Mem.tail _ (List.Mem.head _)))) (mb (List.Mem.tail _ (List.Mem.tail _ (List.Mem.tail _ (List.Mem.head _))))) (fun p hp => mb (List.Mem.tail _ (List.Mem.tail _ (List.Mem.tail _ (List.Mem.tail _ hp)))))
  obtain ⟨as2, rd2⟩ := tell_reads (h := _) N10 htups2 hrs2 (t := _) (List.Mem.head _) (List.Mem.tail _ (List.Mem.head _)) (List.Mem.tail _ (List.Mem.tail _ (List.Mem.head _))) (fun p hp => List.Mem.tail _ (List.Mem.tail _ (List.Mem.tail _ (List.mem_append_left _ hp))))
  refine eq_tell rd1 rd2 (by rw [hWl]; exact pl1) (ranks_eq (hrkl.trans hWl) hrk hrk2 pl2) (by units_room) ?_
  refine ⟨?_, GrownAt.of N10 (mb (List.Mem.head _)), True.intro⟩
  k_steps
end
end
end Mine
theorem PySem.Challenge.cw_wu0063_01_holds : PySem.Challenge.rw_wu0063_01.Holds := by
  exact Mine.top
