import PyProof.Rows.All
import Wide.All
import OpenK.AllK
import Wide.FinOn
import PySem.Challenge.RW_pk0091_01
open PySem PySem.W PyProof.Rows
set_option Elab.async false
set_option linter.unusedVariables false
set_option linter.unusedSectionVars false
namespace Mine
set_option maxRecDepth 100000 in
set_option maxHeartbeats 8000000 in
open_top hd for PySem.Challenge.rw_pk0091_01
end Mine
-- Tok
section
open PySem
namespace Mine
theorem none_Tok : True := by
  k_with_none
  w_top off
  trivial
theorem runs_toks {M : Model} {Γ : Ctx} {p : Pos} {t : Sem PySem.Fin} {fs : List Frame} {s : Shared} {e : End} {s' : Shared} (h : Runs M Γ p t fs s e s') : s.toks ≤ s'.toks := by
  induction h with
  | fresh _ ih => exact Nat.le_trans (Nat.le_succ _) ih
  | done => exact Nat.le_refl _
  | raise => exact Nat.le_refl _
  | yield => exact Nat.le_refl _
  | _ => first
    | (rename_i ih1 ih2; exact Nat.le_trans ih1 ih2)
    | (rename_i ih; exact ih)
theorem wakes_toks {M : Model} {Γ : Ctx} {p : Pos} {g : Nat} {r : Resume} {s : Shared} {res : GenResult} {s' : Shared} (h : Wakes M Γ p g r s res s') : s.toks ≤ s'.toks := by
  unfold Wakes at h
  split at h
  · exact h.elim
  · split at h
    · obtain ⟨e₁, s₁, hr, _, _, rfl⟩ := h
      have := runs_toks hr; exact this
    · obtain ⟨_, rfl⟩ := h; exact Nat.le_refl _
    · obtain ⟨_, rfl⟩ := h; exact Nat.le_refl _
  · obtain ⟨e₁, s₁, hr, _, _, rfl⟩ := h
    have := runs_toks hr; exact this
  · obtain ⟨_, rfl⟩ := h; exact Nat.le_refl _
  · obtain ⟨_, rfl⟩ := h; exact Nat.le_refl _
theorem wp_toks {α : Type} {M : Model} {Γ : Ctx} (t : Sem α) : ∀ {Q : α → Pos → Shared → Prop} {E : Value → Pos → Shared → Prop} {p : Pos} {s : Shared} (lo : Nat), lo ≤ s.toks →
    Sem.wp M Γ t (fun a p' s' => lo ≤ s'.toks → Q a p' s') (fun e p' s' => lo ≤ s'.toks → E e p' s') p s → Sem.wp M Γ t Q E p s := by
  induction t with
  | pure a => intro Q E p s lo h0 h; exact h h0
  | raise e => intro Q E p s lo h0 h; exact h h0
  | unsupported w => intro Q E p s lo h0 h; exact h
  | finish e => intro Q E p s lo h0 h; exact h
  | rule tag k ih => intro Q E p s lo h0 h; exact ih () lo h0 h
  | «at» p' k ih => intro Q E p s lo h0 h; exact ih () lo h0 h
  | load a part k ih => intro Q E p s lo h0 h; obtain ⟨o, ho, h⟩ := h; exact ⟨o, ho, ih o lo h0 h⟩
  | update a part f k ih => intro Q E p s lo h0 h; exact ⟨h.1, ih () lo h0 h.2⟩
  | alloc o k ih => intro Q E p s lo h0 h; exact ih _ lo h0 h
  | loadIfAlive a k ih => intro Q E p s lo h0 h; exact ih _ lo h0 h
  | point l k ih => intro Q E p s lo h0 h; exact ih () lo h0 h
  | register a k ih => intro Q E p s lo h0 h; exact h
  | fresh k ih => intro Q E p s lo h0 h; exact ih _ lo (Nat.le_succ_of_le h0) h
  | ask k ih => intro Q E p s lo h0 h; exact ih _ lo h0 h
  | choose src n k ih => intro Q E p s lo h0 h; exact ⟨h.1, ih _ lo h0 h.2⟩
  | os q l k ih => intro Q E p s lo h0 h; exact ih _ lo h0 h
  | call c hd g l k ih =>
    intro Q E p s lo h0 h
    obtain ⟨r, s', hr, h⟩ := h
    exact ⟨r, s', hr, ih r lo (Nat.le_trans h0 (runs_toks hr)) h⟩
  | handled own k ih => intro Q E p s lo h0 h; exact ih _ lo h0 h
  | newGen c k ih => intro Q E p s lo h0 h; exact ih _ lo h0 h
  | genState g k ih => intro Q E p s lo h0 h; obtain ⟨st, hs, h⟩ := h; exact ⟨st, hs, ih _ lo h0 h⟩
  | resume g r l k ih =>
    intro Q E p s lo h0 h
    obtain ⟨res, s', hw, h⟩ := h
    exact ⟨res, s', hw, ih _ lo (Nat.le_trans h0 (wakes_toks hw)) h⟩
  | yield v g l k ih => intro Q E p s lo h0 h; exact h
  | stack k ih => intro Q E p s lo h0 h; exact ih _ lo h0 h
  | fork c k ih => intro Q E p s lo h0 h; exact h
  | thread k ih => intro Q E p s lo h0 h; exact ih _ lo h0 h
  | await a t d l k ih => intro Q E p s lo h0 h; exact h
/-- behind any step the tokens have only grown -/
theorem wpAny_toks {α : Type} {M : Model} {A : Around} {t : Sem α} {Q : α → Shared → Prop} {E : Value → Shared → Prop} {s : Shared} (h : wpAny M A t (fun a s' => s.toks ≤ s'.toks → Q a s') (fun e s' => s.toks ≤ s'.toks → E e s') s) : wpAny M A t Q E s :=
  fun Γ p hΓ => wp_toks t s.toks (Nat.le_refl _) (h Γ p hΓ)
/-- a state's token may be forgotten, its bound kept -/
theorem keep_toks {α : Type} {M : Model} {A : Around} {t : Sem α} {Q : α → Shared → Prop} {E : Value → Shared → Prop} {h : Heap} {g : Array GenState} {d : Drawn} {X : Nat} {os : OsState} (f : ∀ tk, X ≤ tk → wpAny M A t Q E ⟨h, g, d, tk, os⟩) : wpAny M A t Q E ⟨h, g, d, X, os⟩ := f X (Nat.le_refl _)
end Mine
end
-- Base
section
open PySem PySem.W PyProof.Rows
namespace Mine
theorem none_Base : True := by
  k_with_none
  w_top off
  trivial
noncomputable abbrev P := PySem.Challenge.rw_pk0091_01.row.prog
noncomputable abbrev Lo := looseW hd.view_39 [Str.ofString "Whitespace"]
theorem fill : PySem.Challenge.rw_pk0091_01.row.prog = PySem.Challenge.rw_pk0091_01.row.prog ∧ hd.heap_39 = hd.heap_39 := by
  k_fill
  exact ⟨rfl, rfl⟩
noncomputable def Halt (p : Prop) : Prop := p
theorem halt {p : Prop} (h : Halt p) : p := h
noncomputable abbrev Led := List (Addr × Obj)
/-- a def's contract: what is made is told of the new part of the ledger alone -/
structure Told2 (D : Type) where
  Rel : Led → List Value → D → Prop
  Ok : D → Prop
  size : D → Nat
  Out : Led → Value → D → Prop
noncomputable def Tells2 {D : Type} (prog : Program) (w : World) (K : Frag) (p : Program) (loose : List Str) (mean : ExcName → Option Value) (mg mb : Str → Option Value) (f : Addr) (c : Told2 D) (d : D) : Prop :=
  ∀ (dp un : Nat) (gd : Option (List Code)) (cn : Str) (cs : Scope) (a : Addr) (ccd : Value) (cl : List (Str × Addr)) (outer : List Env) (A₀ : Around) (base h₀ : Heap) (L : Addr) (m : Str → Option Value) (news : Led) (s : Shared) (vs : List Value)
    (Q E : Value → Shared → Prop),
    Below A₀ base outer h₀ → Fr h₀ L s.heap m → K.In h₀ → News h₀ L s.heap news → Top p loose mean mg mb h₀ → cs.kind = .function → c.Rel news vs d → c.Ok d → dp + c.size d < recursionLimit → un + 8 * c.size d < cLine →
    (∀ r tl h' tk', Fr h₀ L h' m → News h₀ L h' (news ++ tl) → (∀ q ∈ news, ∀ p ∈ tl, q.1 < p.1) → c.Out tl r d → Q r { s with heap := h', toks := tk' }) →
    wpAny (model prog w) (ktrTop dp un gd cn cs L a ccd cl outer) (call (.ref f) vs) Q E s
theorem tells2_use {D : Type} {prog : Program} {w : World} {K : Frag} {p : Program} {loose : List Str} {mean : ExcName → Option Value} {mg mb : Str → Option Value} {f : Addr} {c : Told2 D} {d : D} {dp un : Nat} {gd : Option (List Code)} {cn : Str} {cs : Scope} {a : Addr} {ccd : Value} {cl : List (Str × Addr)} {outer : List Env} {A₀ : Around} {base h₀ : Heap} {L : Addr} {m : Str → Option Value} {news : Led} {s : Shared} {vs : List Value}
    {Q E : Value → Shared → Prop} (C : Tells2 prog w K p loose mean mg mb f c d) (B : Below A₀ base outer h₀) (F : Fr h₀ L s.heap m) (X : K.In h₀) (N : News h₀ L s.heap news) (T : Top p loose mean mg mb h₀) (hk : cs.kind = .function) (R : c.Rel news vs d) (ok : c.Ok d)
    (hd : dp + c.size d < recursionLimit) (hu : un + 8 * c.size d < cLine)
    (ret : ∀ r tl h' tk', Fr h₀ L h' m → News h₀ L h' (news ++ tl) → (∀ q ∈ news, ∀ p ∈ tl, q.1 < p.1) → c.Out tl r d → Q r { s with heap := h', toks := tk' }) :
    wpAny (model prog w) (ktrTop dp un gd cn cs L a ccd cl outer) (call (.ref f) vs) Q E s := C _ _ _ _ _ _ _ _ _ _ _ _ _ _ _ _ _ _ _ B F X N T hk R ok hd hu ret
/-- the same, with the tokens' bounds -/
structure Told3 (D : Type) where
  Rel : Led → List Value → D → Prop
  Ok : D → Prop
  size : D → Nat
  Out : Nat → Nat → Led → Value → D → Prop
noncomputable def Tells3 {D : Type} (prog : Program) (w : World) (K : Frag) (p : Program) (loose : List Str) (mean : ExcName → Option Value) (mg mb : Str → Option Value) (f : Addr) (c : Told3 D) (d : D) : Prop :=
  ∀ (dp un : Nat) (gd : Option (List Code)) (cn : Str) (cs : Scope) (a : Addr) (ccd : Value) (cl : List (Str × Addr)) (outer : List Env) (A₀ : Around) (base h₀ : Heap) (L : Addr) (m : Str → Option Value) (news : Led) (s : Shared) (vs : List Value)
    (Q E : Value → Shared → Prop),
    Below A₀ base outer h₀ → Fr h₀ L s.heap m → K.In h₀ → News h₀ L s.heap news → Top p loose mean mg mb h₀ → cs.kind = .function → c.Rel news vs d → c.Ok d → dp + c.size d < recursionLimit → un + 8 * c.size d < cLine →
    (∀ r tl h' tk', Fr h₀ L h' m → News h₀ L h' (news ++ tl) → (∀ q ∈ news, ∀ p ∈ tl, q.1 < p.1) → s.toks ≤ tk' → c.Out s.toks tk' tl r d → Q r { s with heap := h', toks := tk' }) →
    wpAny (model prog w) (ktrTop dp un gd cn cs L a ccd cl outer) (call (.ref f) vs) Q E s
theorem tells3_use {D : Type} {prog : Program} {w : World} {K : Frag} {p : Program} {loose : List Str} {mean : ExcName → Option Value} {mg mb : Str → Option Value} {f : Addr} {c : Told3 D} {d : D} {dp un : Nat} {gd : Option (List Code)} {cn : Str} {cs : Scope} {a : Addr} {ccd : Value} {cl : List (Str × Addr)} {outer : List Env} {A₀ : Around} {base h₀ : Heap} {L : Addr} {m : Str → Option Value} {news : Led} {s : Shared} {vs : List Value}
    {Q E : Value → Shared → Prop} (C : Tells3 prog w K p loose mean mg mb f c d) (B : Below A₀ base outer h₀) (F : Fr h₀ L s.heap m) (X : K.In h₀) (N : News h₀ L s.heap news) (T : Top p loose mean mg mb h₀) (hk : cs.kind = .function) (R : c.Rel news vs d) (ok : c.Ok d)
    (hd : dp + c.size d < recursionLimit) (hu : un + 8 * c.size d < cLine)
    (ret : ∀ r tl h' tk', Fr h₀ L h' m → News h₀ L h' (news ++ tl) → (∀ q ∈ news, ∀ p ∈ tl, q.1 < p.1) → s.toks ≤ tk' → c.Out s.toks tk' tl r d → Q r { s with heap := h', toks := tk' }) :
    wpAny (model prog w) (ktrTop dp un gd cn cs L a ccd cl outer) (call (.ref f) vs) Q E s := C _ _ _ _ _ _ _ _ _ _ _ _ _ _ _ _ _ _ _ B F X N T hk R ok hd hu ret
/-- a frame's map, one name of it shown -/
theorem fr_see {h₀ h : Heap} {L : Addr} {m : Str → Option Value} {x : Str} {v : Value} (F : Fr h₀ L h m) (e : m x = some v) : Fr h₀ L h (fun y => if y = x then some v else m y) := by
  have : (fun y => if y = x then some v else m y) = m := by
    funext y
    by_cases q : y = x
    · rw [if_pos q, q, e]
    · rw [if_neg q]
  rw [this]; exact F
theorem see_at {m : Str → Option Value} {x y : Str} {v w : Value} {r : Option Value} (e : m x = some v) (f : m y = some w) (k : r = some v) : (if x = y then some w else r) = some v := by
  by_cases q : x = y
  · rw [if_pos q, ← f, ← q, e]
  · rw [if_neg q]; exact k
theorem fr_see2 {h₀ h : Heap} {L : Addr} {m : Str → Option Value} {x1 x2 : Str} {v1 v2 : Value} (F : Fr h₀ L h m) (e1 : m x1 = some v1) (e2 : m x2 = some v2) : Fr h₀ L h (fun y => if y = x1 then some v1 else if y = x2 then some v2 else m y) := fr_see (fr_see F e2) (see_at e1 e2 e1)
theorem fr_see3 {h₀ h : Heap} {L : Addr} {m : Str → Option Value} {x1 x2 x3 : Str} {v1 v2 v3 : Value} (F : Fr h₀ L h m) (e1 : m x1 = some v1) (e2 : m x2 = some v2) (e3 : m x3 = some v3) : Fr h₀ L h (fun y => if y = x1 then some v1 else if y = x2 then some v2 else if y = x3 then some v3 else m y) := fr_see (fr_see2 F e2 e3) (see_at e1 e2 (see_at e1 e3 e1))
theorem fr_see4 {h₀ h : Heap} {L : Addr} {m : Str → Option Value} {x1 x2 x3 x4 : Str} {v1 v2 v3 v4 : Value} (F : Fr h₀ L h m) (e1 : m x1 = some v1) (e2 : m x2 = some v2) (e3 : m x3 = some v3) (e4 : m x4 = some v4) : Fr h₀ L h (fun y => if y = x1 then some v1 else if y = x2 then some v2 else if y = x3 then some v3 else if y = x4 then some v4 else m y) := fr_see (fr_see3 F e2 e3 e4) (see_at e1 e2 (see_at e1 e3 (see_at e1 e4 e1)))
theorem fr_see5 {h₀ h : Heap} {L : Addr} {m : Str → Option Value} {x1 x2 x3 x4 x5 : Str} {v1 v2 v3 v4 v5 : Value} (F : Fr h₀ L h m) (e1 : m x1 = some v1) (e2 : m x2 = some v2) (e3 : m x3 = some v3) (e4 : m x4 = some v4) (e5 : m x5 = some v5) : Fr h₀ L h (fun y => if y = x1 then some v1 else if y = x2 then some v2 else if y = x3 then some v3 else if y = x4 then some v4 else if y = x5 then some v5 else m y) := fr_see (fr_see4 F e2 e3 e4 e5) (see_at e1 e2 (see_at e1 e3 (see_at e1 e4 (see_at e1 e5 e1))))
theorem fr_see6 {h₀ h : Heap} {L : Addr} {m : Str → Option Value} {x1 x2 x3 x4 x5 x6 : Str} {v1 v2 v3 v4 v5 v6 : Value} (F : Fr h₀ L h m) (e1 : m x1 = some v1) (e2 : m x2 = some v2) (e3 : m x3 = some v3) (e4 : m x4 = some v4) (e5 : m x5 = some v5) (e6 : m x6 = some v6) : Fr h₀ L h (fun y => if y = x1 then some v1 else if y = x2 then some v2 else if y = x3 then some v3 else if y = x4 then some v4 else if y = x5 then some v5 else if y = x6 then some v6 else m y) := fr_see (fr_see5 F e2 e3 e4 e5 e6) (see_at e1 e2 (see_at e1 e3 (see_at e1 e4 (see_at e1 e5 (see_at e1 e6 e1)))))
theorem fr_see7 {h₀ h : Heap} {L : Addr} {m : Str → Option Value} {x1 x2 x3 x4 x5 x6 x7 : Str} {v1 v2 v3 v4 v5 v6 v7 : Value} (F : Fr h₀ L h m) (e1 : m x1 = some v1) (e2 : m x2 = some v2) (e3 : m x3 = some v3) (e4 : m x4 = some v4) (e5 : m x5 = some v5) (e6 : m x6 = some v6) (e7 : m x7 = some v7) : Fr h₀ L h (fun y => if y = x1 then some v1 else if y = x2 then some v2 else if y = x3 then some v3 else if y = x4 then some v4 else if y = x5 then some v5 else if y = x6 then some v6 else if y = x7 then some v7 else m y) := fr_see (fr_see6 F e2 e3 e4 e5 e6 e7) (see_at e1 e2 (see_at e1 e3 (see_at e1 e4 (see_at e1 e5 (see_at e1 e6 (see_at e1 e7 e1))))))
section
variable {prog : Program} {w : World} {A : Around} {E : Value → Shared → Prop} {s : Shared} {h₀ : Heap} {L l : Addr} {news : Led} {us : List Value} {n : Nat} {Q : Value → Shared → Prop}
theorem isList_led (N : News h₀ L s.heap news) (hm : (l, listOf us.toArray n) ∈ news) : s.heap.IsList l us.toArray := ⟨_, (N _ hm).1, rfl, n, rfl⟩
theorem len_led (N : News h₀ L s.heap news) (hm : (l, listOf us.toArray n) ∈ news) (hfit : us.length < 1000)
    (h : Q (.int (us.length : Int) (s.toks + 1)) { s with toks := s.toks + 1 + 1 }) : wpAny (model prog w) A (call (.builtin "len") [.ref l]) Q E s := by
  have e : us.toArray.size = us.length := List.size_toArray ..
  exact len_list (isList_led N hm) (by rw [e]; omega) (by rw [e]; exact h)
theorem item_led {value slice : PySem.Expr} {k : Int} {u : Tok} (N : News h₀ L s.heap news) (hm : (l, listOf us.toArray n) ∈ news) (h0 : 0 ≤ k) (h1 : k < us.length) (hf : us.length < 1000)
    (h : ∀ v, us[k.toNat]? = some v → Q v s)
    (hs : subscripted slice false (.ref l) (.int k u) = operate [.ref l, .int k u] (getItem (.ref l) (.int k u)) := by with_unfolding_all rfl) :
    wpAny (model prog w) A (subscriptTail value slice (.ref l) (.int k u)) Q E s := by
  have hk : k.toNat < us.length := by omega
  have hl := isList_led N hm
  have e : us.toArray[k.toNat]? = some (us[k.toNat]) := by simp [hk]
  exact tail_any hl.typeIs slot_list_getitem.lookup (wpAny_getItem_list hl h0 (by omega) e (h _ (List.getElem?_eq_getElem hk))) hs
theorem item_led_last {value slice : PySem.Expr} {u : Tok} {v : Value} (N : News h₀ L s.heap news) (hm : (l, listOf us.toArray n) ∈ news) (e : us.getLast? = some v) (hf : us.length < 1000) (h : Q v s)
    (hs : subscripted slice false (.ref l) (.int (-1) u) = operate [.ref l, .int (-1) u] (getItem (.ref l) (.int (-1) u)) := by with_unfolding_all rfl) :
    wpAny (model prog w) A (subscriptTail value slice (.ref l) (.int (-1) u)) Q E s := by
  have hl := isList_led N hm
  have hsz : us.toArray.size = us.length := by simp
  have hpos : 0 < us.length := by
    cases us with
    | nil => cases e
    | cons => simp
  refine tail_any hl.typeIs slot_list_getitem.lookup (wpAny_getItem_list_neg hl (by omega) (by omega) (by omega) ?_ h) hs
  have e2 : (-1 + (us.toArray.size : Int)).toNat = us.length - 1 := by omega
  rw [e2]
  rw [List.getLast?_eq_getElem?] at e
  simpa using e
end
section
variable {prog : Program} {w : World} {A : Around} {E : Value → Shared → Prop} {s : Shared} {h₀ : Heap} {L D : Addr} {m : Str → Option Value} {news tl own : Led} {us : List Value} {n : Nat} {Q : Value → Shared → Prop}
/-- a list of the ledger grows; what else is kept lies elsewhere -/
theorem append_led {x : Value} (keep : Led) (F : Fr h₀ L s.heap m) (N : News h₀ L s.heap news) (hm : (D, listOf us.toArray n) ∈ news) (hk : ∀ p ∈ keep, p ∈ news ∧ p.1 ≠ D) (hf : us.length < 1000)
    (h : ∀ h', Fr h₀ L h' m → News h₀ L h' ((D, listOf (us ++ [x]).toArray (n + 1)) :: keep) → Q .none { s with heap := h' }) :
    wpAny (model prog w) A (call (.builtin "list.append") [.ref D, x]) Q E s := by
  have N' : News h₀ L s.heap ((D, listOf us.toArray n) :: keep) := fun p hp => by
    rcases List.mem_cons.mp hp with rfl | hp
    · exact N _ hm
    · exact N _ (hk p hp).1
  refine append_K F N' (.head fun p hp => (hk p hp).2) (fun h' F' N9 => h h' F' ?_) (by rw [List.size_toArray, sizeLine_eq]; omega)
  simpa using N9
end
/-- the shape of a loop that builds one list -/
structure Grow (D : Addr) (news tl own : Led) : Prop where
  hn : ∀ p ∈ news, p.1 < D
  htl : ∀ p ∈ tl, D < p.1
  ho : ∀ p ∈ own, p.1 ≠ D ∧ (∀ q ∈ news, p.1 ≠ q.1) ∧ ∀ q ∈ tl, p.1 ≠ q.1
theorem Grow.of {D : Addr} {o : Obj} {news tl own : Led} (hn : ∀ p ∈ news, p.1 < D) (htl : ∀ p ∈ tl, D < p.1) (ho : OwnOff own (((D, o) :: (news ++ tl)).map (·.1))) : Grow D news tl own :=
  ⟨hn, htl, fun p hp => ⟨ho p hp _ (by simp), fun q hq => ho p hp _ (by simp; exact .inr (.inl ⟨_, hq⟩)), fun q hq => ho p hp _ (by simp; exact .inr (.inr ⟨_, hq⟩))⟩⟩
theorem Grow.off {D : Addr} {o : Obj} {news tl own : Led} (G : Grow D news tl own) : OwnOff own (((D, o) :: (news ++ tl)).map (·.1)) := by
  intro p hp b hb
  have q := G.ho p hp
  simp only [List.map_cons, List.map_append, List.mem_cons, List.mem_append, List.mem_map] at hb
  rcases hb with rfl | ⟨z, hz, rfl⟩ | ⟨z, hz, rfl⟩
  · exact q.1
  · exact q.2.1 _ hz
  · exact q.2.2 _ hz
theorem Grow.more {D : Addr} {news tl own add : Led} (G : Grow D news tl own) (ha : ∀ q ∈ add, D < q.1 ∧ ∀ p ∈ own, p.1 < q.1) : Grow D news (add ++ tl) own :=
  ⟨G.hn, fun p hp => (List.mem_append.mp hp).elim (fun h => (ha p h).1) (G.htl p), fun p hp => ⟨(G.ho p hp).1, (G.ho p hp).2.1, fun q hq => (List.mem_append.mp hq).elim (fun h => Nat.ne_of_lt ((ha q h).2 p hp)) ((G.ho p hp).2.2 q)⟩⟩
section
variable {prog : Program} {w : World} {A : Around} {E : Value → Shared → Prop} {s : Shared} {h₀ : Heap} {L D : Addr} {m : Str → Option Value} {news tl own : Led} {us : List Value} {n : Nat} {Q : Value → Shared → Prop}
theorem append_grow {x : Value} {add : Led} (G : Grow D news tl own) (F : Fr h₀ L s.heap m) (N : News h₀ L s.heap (add ++ ((D, listOf us.toArray n) :: (news ++ tl) ++ own))) (hadd : ∀ q ∈ add, ∀ p ∈ (D, listOf us.toArray n) :: (news ++ tl) ++ own, p.1 < q.1) (hf : us.length < 1000)
    (h : ∀ h', Fr h₀ L h' m → News h₀ L h' ((D, listOf (us ++ [x]).toArray (n + 1)) :: (news ++ (add ++ tl)) ++ own) → Grow D news (add ++ tl) own → Q .none { s with heap := h' }) :
    wpAny (model prog w) A (call (.builtin "list.append") [.ref D, x]) Q E s := by
  have G' : Grow D news (add ++ tl) own := G.more fun q hq => ⟨hadd q hq _ (.head _), fun p hp => hadd q hq p (List.mem_append.mpr (.inr hp))⟩
  refine append_led (news ++ (add ++ tl) ++ own) F N (List.mem_append.mpr (.inr (.head _))) (fun p hp => ?_) hf fun h' F' N' => h h' F' N' G'
  rcases List.mem_append.mp hp with hp | hp
  · rcases List.mem_append.mp hp with hp | hp
    · exact ⟨List.mem_append.mpr (.inr (List.mem_append.mpr (.inl (.tail _ (List.mem_append.mpr (.inl hp)))))), Nat.ne_of_lt (G.hn p hp)⟩
    · refine ⟨?_, Nat.ne_of_gt (G'.htl p hp)⟩
      rcases List.mem_append.mp hp with hp | hp
      · exact List.mem_append.mpr (.inl hp)
      · exact List.mem_append.mpr (.inr (List.mem_append.mpr (.inl (.tail _ (List.mem_append.mpr (.inr hp))))))
  · exact ⟨List.mem_append.mpr (.inr (List.mem_append.mpr (.inr hp))), (G.ho p hp).1⟩
end
inductive All2 {α : Type} (R : Value → α → Prop) : List Value → List α → Prop
  | nil : All2 R [] []
  | cons {v : Value} {a : α} {vs : List Value} {as : List α} : R v a → All2 R vs as → All2 R (v :: vs) (a :: as)
section
variable {α : Type} {R R' : Value → α → Prop} {vs ws : List Value} {as bs : List α} {v : Value} {a : α}
theorem All2.mono (h : All2 R vs as) (hr : ∀ v a, R v a → R' v a) : All2 R' vs as := by
  induction h with
  | nil => exact .nil
  | cons h _ ih => exact .cons (hr _ _ h) ih
theorem All2.length (h : All2 R vs as) : vs.length = as.length := by
  induction h with
  | nil => rfl
  | cons _ _ ih => simp [ih]
theorem All2.append (h : All2 R vs as) (k : All2 R ws bs) : All2 R (vs ++ ws) (as ++ bs) := by
  induction h with
  | nil => exact k
  | cons h _ ih => exact .cons h ih
theorem All2.snoc (h : All2 R vs as) (k : R v a) : All2 R (vs ++ [v]) (as ++ [a]) := h.append (.cons k .nil)
theorem All2.get (h : All2 R vs as) {k : Nat} (hv : vs[k]? = some v) : ∃ a, as[k]? = some a ∧ R v a := by
  induction h generalizing k with
  | nil => cases hv
  | cons h _ ih =>
    cases k with
    | zero => cases hv; exact ⟨_, rfl, h⟩
    | succ k => exact ih hv
theorem All2.last (h : All2 R vs (as ++ [a])) : ∃ us v, vs = us ++ [v] ∧ All2 R us as ∧ R v a := by
  induction as generalizing vs with
  | nil =>
    cases h with
    | cons h k => cases k; exact ⟨[], _, rfl, .nil, h⟩
  | cons b as ih =>
    cases h with
    | cons h k =>
      obtain ⟨us, v, rfl, h1, h2⟩ := ih k
      exact ⟨_ :: us, v, rfl, .cons h h1, h2⟩
end
/-- a for over the signs of a text -/
theorem iter_str {prog : Program} {w : World} {A : Around} {E : Value → Shared → Prop} {s : Shared} {env : Env} {h₀ : Heap} {x : Str} {body : List Stmt} {Q : Flow → Shared → Prop} {d : Str} {t : Tok} {m₀ : Str → Option Value} {news : Led} (J : Nat → (Str → Option Value) → Led → Prop)
    (hh : A.handled = none) (ha : d.cps.all (· < 128) = true) (F : Fr h₀ env.locals s.heap m₀) (N : News h₀ env.locals s.heap news) (hj : J 0 m₀ news)
    (turn : ∀ i c u m₁ nx h tk own, d.cps[i]? = some c → OwnOff own (nx.map (·.1)) → J i m₁ nx → Fr h₀ env.locals h (fun y => if y = x then some (.str ⟨#[c]⟩ u) else m₁ y) → News h₀ env.locals h (nx ++ own) →
      wpAny (model prog w) A (execs body env) (InvPostG h₀ env.locals (J (i + 1)) own { s with heap := h, toks := tk } Q) E { s with heap := h, toks := tk })
    (done : ∀ m₁ nx h tk, J d.cps.size m₁ nx → Fr h₀ env.locals h m₁ → News h₀ env.locals h nx → Q .next { s with heap := h, toks := tk }) :
    wpAny (model prog w) A (pyIter (.str d t)) (fun it s₂ => LoopAtV prog w A h₀ env x body Q E it s₂) E s := by
  refine wpAny_pyIter_ascii ha ?_
  have W := Walks.strAscii (prog := prog) (w := w) hh s.heap.objs.size d t
  refine kdr_loop (news := news) J W (fun _ h => h) (fun _ h => h) ?_ ?_ ?_ ?_ ⟨_, Heap.get?_push_size _ rfl, rfl, rfl⟩ (F.push _) (fun p hp => ⟨Heap.get?_push_of_some _ (N p hp).1, (N p hp).2⟩) hj ?_ ?_
  · intro i h hi b hb
    rw [List.mem_singleton.mp hb]
    obtain ⟨o, ho, _⟩ := hi
    exact ⟨o, ho⟩
  · intro hm
    exact absurd F.ns.lt ((List.mem_singleton.mp hm) ▸ Nat.lt_irrefl _)
  · intro b hb
    rw [List.mem_singleton.mp hb]
    exact next_is_new F
  · intro p hp hI
    exact absurd (Heap.lt_size (N p hp).1) ((List.mem_singleton.mp hI) ▸ Nat.lt_irrefl _)
  · rintro i v m₁ nx h tk own hi ⟨c, u, hc, rfl⟩ hoff hJ F₁ N₁
    exact turn i c u m₁ nx h tk own hc hoff hJ F₁ N₁
  · rintro m₁ nx h tk hJ F₁ N₁
    exact done m₁ nx h tk hJ F₁ N₁
theorem range_size (n : Nat) : Builtin.Range.rangeSize 0 (n : Int) 1 = (n : Int) := by
  simp [Builtin.Range.rangeSize]
  omega
theorem range_fits {k : Int} (h0 : 0 ≤ k) (h1 : k < 10000) : Builtin.Range.rangeFitsLong k = true := by
  simp only [Builtin.Range.rangeFitsLong, Bool.and_eq_true, decide_eq_true_eq]
  omega
theorem range_small {n : Nat} (h : n < 1000) : Builtin.Range.small 0 (n : Int) 1 = true := by
  simp only [Builtin.Range.small, Bool.and_eq_true, range_size]
  refine ⟨⟨⟨⟨range_fits (by omega) (by omega), range_fits (by omega) (by omega)⟩, range_fits (by omega) (by omega)⟩, range_fits (by omega) (by omega)⟩, ?_⟩
  rw [if_pos (by decide), range_fits (by omega) (by omega), Bool.or_true]
/-- a for over a range -/
theorem iter_range {prog : Program} {w : World} {A : Around} {E : Value → Shared → Prop} {s : Shared} {env : Env} {h₀ : Heap} {x : Str} {body : List Stmt} {Q : Flow → Shared → Prop} {r : Addr} {n : Nat} {t₀ u₀ v₀ : Tok} {m₀ : Str → Option Value} {news : Led} (J : Nat → (Str → Option Value) → Led → Prop)
    (hh : A.handled = none) (hr : IsRange s.heap r 0 (n : Int) 1 t₀ u₀ v₀) (hn : n < 1000) (F : Fr h₀ env.locals s.heap m₀) (N : News h₀ env.locals s.heap news) (hj : J 0 m₀ news)
    (turn : ∀ (i : Nat) t m₁ nx h tk own, i < n → OwnOff own (nx.map (·.1)) → J i m₁ nx → Fr h₀ env.locals h (fun y => if y = x then some (.int (i : Int) t) else m₁ y) → News h₀ env.locals h (nx ++ own) →
      wpAny (model prog w) A (execs body env) (InvPostG h₀ env.locals (J (i + 1)) own { s with heap := h, toks := tk } Q) E { s with heap := h, toks := tk })
    (done : ∀ m₁ nx h tk, J n m₁ nx → Fr h₀ env.locals h m₁ → News h₀ env.locals h nx → Q .next { s with heap := h, toks := tk }) :
    wpAny (model prog w) A (pyIter (.ref r)) (fun it s₂ => LoopAtV prog w A h₀ env x body Q E it s₂) E s := by
  refine wpAny_pyIter_range hr (range_small hn) ?_
  have W : Walks prog w A s.heap.objs.size [s.heap.objs.size] [s.heap.objs.size] n (fun i v => i < n ∧ ∃ t, v = .int (0 + i * 1) t)
      (fun i h => IsRangeIter h s.heap.objs.size (0 + (i : Nat) * 1) ((n : Int) - (i : Nat)) 1) := (Walks.range hh _ 0 1 n).bound
  refine kdr_loop (news := news) J W (fun _ h => h) (fun _ h => h) ?_ ?_ ?_ ?_ (by show IsRangeIter _ _ _ _ _; rw [range_size]; simpa using Heap.get?_push_size _ rfl) (F.push _) (fun p hp => ⟨Heap.get?_push_of_some _ (N p hp).1, (N p hp).2⟩) hj ?_ ?_
  · intro i h hi b hb
    rw [List.mem_singleton.mp hb]
    exact ⟨_, hi⟩
  · intro hm
    exact absurd F.ns.lt ((List.mem_singleton.mp hm) ▸ Nat.lt_irrefl _)
  · intro b hb
    rw [List.mem_singleton.mp hb]
    exact next_is_new F
  · intro p hp hI
    exact absurd (Heap.lt_size (N p hp).1) ((List.mem_singleton.mp hI) ▸ Nat.lt_irrefl _)
  · rintro i v m₁ nx h tk own hi ⟨_, t, rfl⟩ hoff hJ F₁ N₁
    have e1 : 0 + (i : Int) * 1 = (i : Int) := by omega
    rw [e1] at F₁
    exact turn i t m₁ nx h tk own hi hoff hJ F₁ N₁
  · rintro m₁ nx h tk hJ F₁ N₁
    exact done m₁ nx h tk hJ F₁ N₁
section
open LCg LCt
variable {prog : Program} {w : World} {A : Around} {h₀ : Heap} {L : Addr} {m : Str → Option Value} {env : Env} {elt ct : PySem.Expr} {x : Str} {scope : Scope} {cl : List (Str × Addr)} {s : Shared} {S : Led → Prop} {Pv : Nat → Value → Prop} {Fin : List Value → Led → Prop} {news : Led}
theorem end_mono {s₁ s₂ : Shared} {I C D : Addr} {oI oC oD : Obj} {R R' : Value → Led → Prop} {y : Value} (h : CompEnd h₀ L m s₁ I oI C oC D oD S R y s₂) (f : ∀ nw, R y nw → R' y nw) : CompEnd h₀ L m s₁ I oI C oC D oD S R' y s₂ :=
  h.imp fun _ h => h.imp fun _ h => h.imp fun _ h => ⟨h.1, h.2.1, h.2.2.1, h.2.2.2.1, h.2.2.2.2.1, f _ h.2.2.2.2.2⟩
/-- a comprehension by an invariant -/
theorem comp_rest {n : Nat} (J : Nat → List Value → Led → Prop) (h0 : J 0 [] news)
    (turn : ∀ i v I oI C oC D m₂ ys nw h tk (E' : Value → Shared → Prop), i < n → Pv i v → J i ys nw → NsObj oC m₂ → m₂ x = some v → Fr h₀ L h m → News h₀ L h ((I, oI) :: (C, oC) :: (D, lst ys) :: nw) → Off3 I C D nw → ((@Ne Nat I C) ∧ (@Ne Nat I D) ∧ (@Ne Nat C D)) →
      wpAny (model prog w) A (eval elt (compEnvC scope cl C env)) (CompEnd h₀ L m { s with heap := h, toks := tk } I oI C oC D (lst ys) S (fun y nw' => J (i + 1) (ys ++ [y]) nw')) E' { s with heap := h, toks := tk })
    (fin : ∀ ys nw, J n ys nw → Fin ys nw) : CompRest prog w A h₀ L m env elt x scope cl s S Pv Fin n 0 [] news := by
  have key : ∀ (j i : Nat) (ys : List Value) (nw : Led), i + j = n → J i ys nw → CompRest prog w A h₀ L m env elt x scope cl s S Pv Fin j i ys nw := by
    intro j
    induction j with
    | zero =>
      intro i ys nw hi hy
      have e : i = n := by omega
      subst e
      exact CompRest.zero (fin ys nw hy)
    | succ j ih =>
      intro i ys nw hi hy
      have hi1 : i + 1 + j = n := (Nat.succ_add i j).trans hi
      refine CompRest.succ ?_
      intro v I oI C oC D m₂ h tk E' hv hC hx F N off ne
      refine wpAny_mono (turn i v I oI C oC D m₂ ys nw h tk E' (by omega) hv hy hC hx F N off ne) (fun y s₂ hq => ?_) fun _ _ e => e
      exact end_mono hq fun nw' hn => ih (i + 1) _ _ hi1 hn
  exact key n 0 [] news (by omega) h0
theorem comp_restT {n : Nat} (J : Nat → List Value → Led → Prop) (h0 : J 0 [] news)
    (turn : ∀ i v I oI C oC D m₂ ys nw h tk (E' : Value → Shared → Prop), i < n → Pv i v → J i ys nw → NsObj oC m₂ → m₂ x = some v → Fr h₀ L h m → News h₀ L h ((I, oI) :: (C, oC) :: (D, lst ys) :: nw) → Off3 I C D nw → ((@Ne Nat I C) ∧ (@Ne Nat I D) ∧ (@Ne Nat C D)) →
      wpAny (model prog w) A (isTrue ct (compEnvC scope cl C env) (eval ct (compEnvC scope cl C env))) (fun ok s' => if ok = true then
        wpAny (model prog w) A (eval elt (compEnvC scope cl C env)) (CompEnd h₀ L m { s with heap := h, toks := tk } I oI C oC D (lst ys) S (fun y nw' => J (i + 1) (ys ++ [y]) nw')) E' s'
        else CompEnd h₀ L m { s with heap := h, toks := tk } I oI C oC D (lst ys) S (fun _ nw' => J (i + 1) ys nw') Value.none s') E' { s with heap := h, toks := tk })
    (fin : ∀ ys nw, J n ys nw → Fin ys nw) : CompRestT prog w A h₀ L m env ct elt x scope cl s S Pv Fin n 0 [] news := by
  have key : ∀ (j i : Nat) (ys : List Value) (nw : Led), i + j = n → J i ys nw → CompRestT prog w A h₀ L m env ct elt x scope cl s S Pv Fin j i ys nw := by
    intro j
    induction j with
    | zero =>
      intro i ys nw hi hy
      have e : i = n := by omega
      subst e
      exact CompRestT.zero (fin ys nw hy)
    | succ j ih =>
      intro i ys nw hi hy
      have hi1 : i + 1 + j = n := (Nat.succ_add i j).trans hi
      refine CompRestT.succ ?_
      intro v I oI C oC D m₂ h tk E' hv hC hx F N off ne
      refine wpAny_mono (turn i v I oI C oC D m₂ ys nw h tk E' (by omega) hv hy hC hx F N off ne) (fun ok s₁ hk => ?_) fun _ _ e => e
      cases ok with
      | true =>
        simp only [if_true] at hk ⊢
        refine wpAny_mono hk (fun y s₂ hq => ?_) fun _ _ e => e
        exact end_mono hq fun nw' hn => ih (i + 1) _ _ hi1 hn
      | false =>
        simp only [Bool.false_eq_true, if_false] at hk ⊢
        exact end_mono hk fun nw' hn => ih (i + 1) _ _ hi1 hn
  exact key n 0 [] news (by omega) h0
end
/-- forget how the state came about -/
theorem forget {α : Type} {prog : Program} {w : World} {A : Around} {t : Sem α} {Q : α → Shared → Prop} {E : Value → Shared → Prop} {s : Shared} {g : Heap} {L : Addr} {m : Str → Option Value} {news : Led} (F : Fr g L s.heap m) (N : News g L s.heap news)
    (R : (Str → Option Value) → Prop) (hR : R m) (h : ∀ h tk m', R m' → Fr g L h m' → News g L h news → wpAny (model prog w) A t Q E { s with heap := h, toks := tk }) : wpAny (model prog w) A t Q E s := h s.heap s.toks m hR F N
theorem forget2 {α : Type} {prog : Program} {w : World} {A : Around} {t : Sem α} {Q : α → Shared → Prop} {E : Value → Shared → Prop} {s : Shared} {g : Heap} {L : Addr} {m : Str → Option Value} {news : Led} (F : Fr g L s.heap m) (N : News g L s.heap news)
    (R : (Str → Option Value) → Led → Prop) (hR : R m news) (h : ∀ h tk m' news', R m' news' → Fr g L h m' → News g L h news' → wpAny (model prog w) A t Q E { s with heap := h, toks := tk }) : wpAny (model prog w) A t Q E s := h s.heap s.toks m news hR F N
theorem news_sub {h₀ h : Heap} {L : Addr} {l l' : Led} (N : News h₀ L h l) (hs : ∀ p ∈ l', p ∈ l) : News h₀ L h l' := fun p hp => N p (hs p hp)
theorem news_swap {h₀ h : Heap} {L : Addr} (tl : Led) {news : Led} (N : News h₀ L h (tl ++ news)) : News h₀ L h (news ++ tl) := fun p hp =>
  N p (List.mem_append.mpr ((List.mem_append.mp hp).elim .inr .inl))
theorem tl_one {h₀ h : Heap} {L D : Addr} {o : Obj} (mid : Led) {news : Led} (N : News h₀ L h ((D, o) :: (mid ++ news))) : News h₀ L h (news ++ [(D, o)]) := fun p hp =>
  (List.mem_append.mp hp).elim (fun h => N p (.tail _ (List.mem_append.mpr (.inr h)))) fun h => by rw [List.mem_singleton.mp h]; exact N _ (.head _)
theorem ord_one {D : Addr} {o : Obj} (mid : Led) {news : Led} (h : ∀ p ∈ mid ++ news, p.1 < D) : ∀ q ∈ news, ∀ p ∈ [(D, o)], q.1 < p.1 := fun q hq p hp => by
  rw [List.mem_singleton.mp hp]; exact h q (List.mem_append.mpr (.inr hq))
theorem lt_one {news : Led} {T : Addr} {o : Obj} (h : ∀ p ∈ news, p.1 < T) : ∀ q ∈ [(T, o)], ∀ p ∈ news, p.1 < q.1 := fun q hq p hp => by rw [List.mem_singleton.mp hq]; exact h p hp
/-- a state's token is forgotten by a lemma: the tactic 'generalize' leaves no trace in the term, so that tokens would pile up there -/
theorem gen_toks {α : Type} {M : Model} {A : Around} {t : Sem α} {Q : α → Shared → Prop} {E : Value → Shared → Prop} {h : Heap} {g : Array GenState} {d : Drawn} {X : Nat} {os : OsState} (f : ∀ tk, wpAny M A t Q E ⟨h, g, d, tk, os⟩) : wpAny M A t Q E ⟨h, g, d, X, os⟩ := f X
end Mine
end
-- Sm
section
open PySem PySem.W PyProof.Rows
namespace Mine
theorem none_Sm : True := by
  k_with_none
  w_top off
  trivial
/-! small lemmas that keep a walk's term small -/
section
variable {α : Type} {R : α → Prop} {a : α} {l r : List α}
theorem all_nil : ∀ p ∈ ([] : List α), R p := fun _ h => nomatch h
theorem all_cons (h : R a) (t : ∀ p ∈ l, R p) : ∀ p ∈ a :: l, R p := fun p hp => (List.mem_cons.mp hp).elim (fun e => e ▸ h) (t p)
theorem all_app (h : ∀ p ∈ l, R p) (t : ∀ p ∈ r, R p) : ∀ p ∈ l ++ r, R p := fun p hp => (List.mem_append.mp hp).elim (h p) (t p)
theorem all_one (h : R a) : ∀ p ∈ [a], R p := all_cons h all_nil
end
/-- what follows is told by K; the part ahead of it is walked with its end out of sight -/
theorem cut {α : Type} {M : Model} {A : Around} {t : Sem α} {Q : α → Shared → Prop} {E : Value → Shared → Prop} {s : Shared} (K : (α → Shared → Prop) → Prop) (h : ∀ z : α → Shared → Prop, K z → wpAny M A t z E s) (k : K Q) : wpAny M A t Q E s := h Q k
/-- how a state came about is forgotten: K tells of the heap and the tokens -/
theorem fgt {α : Type} {M : Model} {A : Around} {t : Sem α} {Q : α → Shared → Prop} {E : Value → Shared → Prop} {s : Shared} (K : (Heap → Nat → Prop) → Prop) (use : ∀ z : Heap → Nat → Prop, K z → z s.heap s.toks) (k : K fun h tk => wpAny M A t Q E { s with heap := h, toks := tk }) : wpAny M A t Q E s := use _ k
theorem news_left {h₀ h : Heap} {L : Addr} {a b : Led} (N : News h₀ L h (a ++ b)) : News h₀ L h a := fun p hp => N p (List.mem_append.mpr (.inl hp))
theorem str_use {x : Str} {v : Value} (h : ∃ t, v = .str x t) {z : Value → Prop} (k : ∀ t, z (.str x t)) : z v := by
  obtain ⟨t, rfl⟩ := h
  exact k t
/-- an item of a list of the ledger -/
theorem item_at {prog : Program} {w : World} {A : Around} {E : Value → Shared → Prop} {s : Shared} {h₀ : Heap} {L l : Addr} {news : Led} {us : List Value} {n : Nat} {Q : Value → Shared → Prop} {value slice : PySem.Expr} {k : Nat} {u : Tok} {v : Value} (N : News h₀ L s.heap news) (hm : (l, listOf us.toArray n) ∈ news) (e : us[k]? = some v) (hf : us.length < 1000) (h : Q v s)
    (hs : subscripted slice false (.ref l) (.int (k : Int) u) = operate [.ref l, .int (k : Int) u] (getItem (.ref l) (.int (k : Int) u)) := by with_unfolding_all rfl) :
    wpAny (model prog w) A (subscriptTail value slice (.ref l) (.int (k : Int) u)) Q E s := by
  have hk : k < us.length := (List.getElem?_eq_some_iff.mp e).1
  refine item_led N hm (by omega) (by omega) hf (fun v' hv' => ?_) hs
  rw [Int.toNat_natCast, e] at hv'
  cases hv'
  exact h
theorem hide {p : Prop} (h : ∀ g : Prop, (p → g) → g) : p := h p id
section
variable {α : Type} {G : Prop} {p1 p2 p3 p4 : α → Prop}
theorem gen1 (a : α) (p : p1 a) (k : ∀ x, p1 x → G) : G := k a p
theorem gen2 (a : α) (p : p1 a) (q : p2 a) (k : ∀ x, p1 x → p2 x → G) : G := k a p q
theorem gen3 (a : α) (p : p1 a) (q : p2 a) (r : p3 a) (k : ∀ x, p1 x → p2 x → p3 x → G) : G := k a p q r
theorem gen4 (a : α) (p : p1 a) (q : p2 a) (r : p3 a) (s : p4 a) (k : ∀ x, p1 x → p2 x → p3 x → p4 x → G) : G := k a p q r s
end
/-! what lies apart -/
theorem off_nil {own : Led} : OwnOff own [] := fun _ _ _ h => nomatch h
theorem off_cons {own : Led} {b : Addr} {l : List Addr} (h : ∀ p ∈ own, @Ne Nat p.1 b) (t : OwnOff own l) : OwnOff own (b :: l) := fun p hp b' hb => by
  rcases List.mem_cons.mp hb with rfl | hb
  · exact h p hp
  · exact t p hp b' hb
theorem off_app {a b : Led} {l : List Addr} (h : OwnOff a l) (t : OwnOff b l) : OwnOff (a ++ b) l := fun p hp => (List.mem_append.mp hp).elim (h p) (t p)
theorem off_pre {own : Led} {l r : List Addr} (h : OwnOff own (l ++ r)) : OwnOff own l := fun p hp b hb => h p hp b (List.mem_append.mpr (.inl hb))
theorem off_map {own l : Led} (h : ∀ p ∈ own, ∀ q ∈ l, @Ne Nat p.1 q.1) : OwnOff own (l.map (·.1)) := fun p hp b hb => by
  obtain ⟨q, hq, rfl⟩ := List.mem_map.mp hb
  exact h p hp q hq
theorem off_ne {own : Led} {b : Addr} {l : List Addr} (h : OwnOff own l) (hb : b ∈ l) : ∀ p ∈ own, @Ne Nat p.1 b := fun p hp => h p hp b hb
theorem off4_lt {own : Led} {S D C : Addr} (h : ∀ p ∈ own, @LT.lt Nat _ p.1 C) (hS : @LT.lt Nat _ (C + 1) S) (hD : @LT.lt Nat _ (C + 1) D) : OwnOff own [S, D, C + 1, C] :=
  off_cons (fun p hp => Nat.ne_of_lt (Nat.lt_trans (Nat.lt_succ_of_lt (h p hp)) hS)) (off_cons (fun p hp => Nat.ne_of_lt (Nat.lt_trans (Nat.lt_succ_of_lt (h p hp)) hD)) (off_cons (fun p hp => Nat.ne_of_lt (Nat.lt_succ_of_lt (h p hp))) (off_cons (fun p hp => Nat.ne_of_lt (h p hp)) off_nil)))
theorem off4_gt {own : Led} {S D C : Addr} (h : ∀ p ∈ own, (@LT.lt Nat _ S p.1) ∧ (@LT.lt Nat _ D p.1) ∧ (@LT.lt Nat _ (C + 1) p.1)) : OwnOff own [S, D, C + 1, C] :=
  off_cons (fun p hp => Nat.ne_of_gt (h p hp).1) (off_cons (fun p hp => Nat.ne_of_gt (h p hp).2.1) (off_cons (fun p hp => Nat.ne_of_gt (h p hp).2.2) (off_cons (fun p hp => Nat.ne_of_gt (Nat.lt_of_succ_lt (h p hp).2.2)) off_nil)))
theorem off4_tl {own : Led} {S D C : Addr} (h : ∀ p ∈ own, (@LT.lt Nat _ (C + 1) p.1) ∧ (@Ne Nat p.1 D) ∧ (@Ne Nat p.1 S)) : OwnOff own [S, D, C + 1, C] :=
  off_cons (fun p hp => (h p hp).2.2) (off_cons (fun p hp => (h p hp).2.1) (off_cons (fun p hp => Nat.ne_of_gt (h p hp).1) (off_cons (fun p hp => Nat.ne_of_gt (Nat.lt_of_succ_lt (h p hp).1)) off_nil)))
theorem int_var {v : Value} {n : Nat} (h : ∃ t, v = .int ((0 : Int) + (n : Int)) t) {z : Value → Prop} (k : ∀ t, z (.int (n : Int) t)) : z v := by
  obtain ⟨t, rfl⟩ := h
  rw [Int.zero_add]
  exact k t
theorem end_mk {h₀ : Heap} {L I C D : Addr} {m : Str → Option Value} {s₁ : Shared} {oI oC oD : Obj} {S : Led → Prop} {rest : Value → Led → Prop} {y : Value} {h' : Heap} {tk : Nat} {news' : Led} (F : Fr h₀ L h' m) (N : News h₀ L h' ((I, oI) :: (C, oC) :: (D, oD) :: news')) (off : LCg.Off3 I C D news') (hS : S news') (r : rest y news') : LCg.CompEnd h₀ L m s₁ I oI C oC D oD S rest y { s₁ with heap := h', toks := tk } := ⟨h', tk, news', rfl, F, N, off, hS, r⟩
theorem All2.use {β : Type} {R : Value → β → Prop} {vs : List Value} {as : List β} {k : Nat} {v : Value} (h : All2 R vs as) (e : vs[k]? = some v) {G : Prop} (f : ∀ a, as[k]? = some a → R v a → G) : G := by
  obtain ⟨a, e1, e2⟩ := h.get e
  exact f a e1 e2
theorem mid3 {P1 P2 P3 G : Prop} (h : P1 ∧ P2 ∧ P3) (k : P1 → P2 → P3 → G) : G := k h.1 h.2.1 h.2.2
theorem mem_tail8 {l : Led} {q1 q2 q3 q4 q5 q6 q7 q8 p : Addr × Obj} (h : p ∈ l) : p ∈ q1 :: q2 :: q3 :: q4 :: q5 :: q6 :: q7 :: q8 :: l := .tail _ (.tail _ (.tail _ (.tail _ (.tail _ (.tail _ (.tail _ (.tail _ h)))))))
theorem sub8 {a l : Led} {q1 q2 q3 q4 q5 q6 q7 q8 : Addr × Obj} (h : ∀ p ∈ a, p ∈ l) : ∀ p ∈ a, p ∈ q1 :: q2 :: q3 :: q4 :: q5 :: q6 :: q7 :: q8 :: l := fun p hp => mem_tail8 (h p hp)
theorem news_rot {h₀ h : Heap} {L : Addr} (as : Led) {bg tl : Led} (N : News h₀ L h ((as ++ bg) ++ tl)) : News h₀ L h (as ++ (tl ++ bg)) := fun p hp => N p (by
  rcases List.mem_append.mp hp with hp | hp
  · exact List.mem_append.mpr (.inl (List.mem_append.mpr (.inl hp)))
  · rcases List.mem_append.mp hp with hp | hp
    · exact List.mem_append.mpr (.inr hp)
    · exact List.mem_append.mpr (.inl (List.mem_append.mpr (.inr hp))))
theorem news_asc {h₀ h : Heap} {L : Addr} (as : Led) {b t e : Led} (N : News h₀ L h ((as ++ (b ++ t)) ++ e)) : News h₀ L h (as ++ (b ++ (t ++ e))) := by
  rw [show as ++ (b ++ (t ++ e)) = (as ++ (b ++ t)) ++ e by simp only [List.append_assoc]]; exact N
theorem mem_spl (as : Led) {b t e : Led} {p : Addr × Obj} (h : p ∈ as ++ (b ++ (t ++ e))) : p ∈ as ++ (b ++ t) ∨ p ∈ e := by
  rw [show as ++ (b ++ (t ++ e)) = (as ++ (b ++ t)) ++ e by simp only [List.append_assoc]] at h
  exact List.mem_append.mp h
theorem mem_ins (as : Led) {b t : Led} {q p : Addr × Obj} (h : p ∈ as ++ (b ++ (q :: t))) : p = q ∨ p ∈ as ++ (b ++ t) := by
  rcases List.mem_append.mp h with h | h
  · exact .inr (List.mem_append.mpr (.inl h))
  · rcases List.mem_append.mp h with h | h
    · exact .inr (List.mem_append.mpr (.inr (List.mem_append.mpr (.inl h))))
    · rcases List.mem_cons.mp h with h | h
      · exact .inl h
      · exact .inr (List.mem_append.mpr (.inr (List.mem_append.mpr (.inr h))))
theorem mem_ext (as : Led) {b t : Led} {p : Addr × Obj} (h : p ∈ as ++ b) : p ∈ as ++ (b ++ t) := by
  rw [← List.append_assoc]; exact List.mem_append.mpr (.inl h)
theorem sub_nil {l' : Led} : ∀ p ∈ ([] : Led), p ∈ l' := fun _ h => nomatch h
theorem sub_cons {q : Addr × Obj} {l l' : Led} (h1 : q ∈ l') (h2 : ∀ p ∈ l, p ∈ l') : ∀ p ∈ q :: l, p ∈ l' := fun p hp => (List.mem_cons.mp hp).elim (fun e => e ▸ h1) (h2 p)
theorem sub_app {a b l' : Led} (h1 : ∀ p ∈ a, p ∈ l') (h2 : ∀ p ∈ b, p ∈ l') : ∀ p ∈ a ++ b, p ∈ l' := fun p hp => (List.mem_append.mp hp).elim (h1 p) (h2 p)
theorem sub_tail {q : Addr × Obj} {a l : Led} (h : ∀ p ∈ a, p ∈ l) : ∀ p ∈ a, p ∈ q :: l := fun p hp => .tail _ (h p hp)
theorem sub_left {a l r : Led} (h : ∀ p ∈ a, p ∈ l) : ∀ p ∈ a, p ∈ l ++ r := fun p hp => List.mem_append.mpr (.inl (h p hp))
theorem sub_right {a l r : Led} (h : ∀ p ∈ a, p ∈ r) : ∀ p ∈ a, p ∈ l ++ r := fun p hp => List.mem_append.mpr (.inr (h p hp))
theorem sub_refl {a : Led} : ∀ p ∈ a, p ∈ a := fun _ h => h
theorem unhalt {p : Prop} (h : p) : Halt p := h
/-- the same as cut, with the frame's map and the ledger named -/
theorem cutFN {α : Type} {M : Model} {A : Around} {t : Sem α} {Q : α → Shared → Prop} {E : Value → Shared → Prop} {s : Shared} {g : Heap} {L : Addr} {m : Str → Option Value} {news : Led} (F : Fr g L s.heap m) (N : News g L s.heap news) (K : (Str → Option Value) → Led → (α → Shared → Prop) → Prop) (h : ∀ z : α → Shared → Prop, K m news z → wpAny M A t z E s) (k : K m news Q) : wpAny M A t Q E s := h Q k
theorem ints_at {vs : List Value} {ns : List Int} (h : IntsAre vs ns) {i : Nat} {v : Value} (hi : i < ns.length) (hv : vs.toArray[i]? = some v) {z : Value → Prop} (k : ∀ t, z (.int ns[i] t)) : z v := by
  obtain ⟨t, e⟩ := h.get i _ (List.getElem?_eq_getElem hi)
  rw [List.getElem?_toArray, e] at hv
  cases hv
  exact k t
theorem ints_turn {vs : List Value} {ns : List Int} (h : IntsAre vs ns) {i : Nat} {v : Value} (hi : i < vs.toArray.size) (hv : vs.toArray[i]? = some v) {R : Int → Prop} (hb : ∀ x ∈ ns, R x) {z : Value → Prop} (k : ∀ t x, R x → ns.take (i + 1) = ns.take i ++ [x] → z (.int x t)) : z v := by
  rw [List.size_toArray, h.length] at hi
  exact ints_at h hi hv fun t => k t _ (hb _ (List.getElem_mem hi)) (by rw [List.take_add_one, List.getElem?_eq_getElem hi]; rfl)
theorem cutG {α : Type} {M : Model} {A : Around} {t : Sem α} {Q : α → Shared → Prop} {E : Value → Shared → Prop} {s : Shared} {g : Heap} {L : Addr} {m : Str → Option Value} {news : Led} (F : Fr g L s.heap m) (N : News g L s.heap news) (K : Heap → Addr → (Str → Option Value) → Led → (α → Shared → Prop) → Prop) (h : ∀ z : α → Shared → Prop, K g L m news z → wpAny M A t z E s) (k : K g L m news Q) : wpAny M A t Q E s := h Q k
end Mine
end
-- C_hsv
section
open PySem PySem.W PyProof.Rows
namespace Mine
theorem none_Chsv : True := by
  k_with_none
  w_top off
  trivial
noncomputable abbrev F3 := UInt64 × UInt64 × UInt64
/-- three floats as arguments -/
inductive Arg3 (news : List (Addr × Obj)) : List Value → F3 → Prop
  | mk {a b c : UInt64} {t1 t2 t3 : Tok} : Arg3 news [.float a t1, .float b t2, .float c t3] (a, b, c)
/-- a made tuple of three floats -/
inductive Tup3 (news : List (Addr × Obj)) : Value → F3 → Prop
  | mk {D : Addr} {a b c : UInt64} {t1 t2 t3 : Tok} : (D, ({ cls := .type "tuple", data := .seq #[.float a t1, .float b t2, .float c t3] } : Obj)) ∈ news → Tup3 news (.ref D) (a, b, c)
noncomputable def hsvI (h : UInt64) : Int := Flt.toInt Float64.truncOf (Float64.mul h 4618441417868443648)
noncomputable def hsvFr (h : UInt64) : UInt64 := Float64.sub (Float64.mul h 4618441417868443648) (Float64.ofInt (hsvI h))
noncomputable def hsvP (s v : UInt64) : UInt64 := Float64.mul v (Float64.sub 4607182418800017408 s)
noncomputable def hsvQ (h s v : UInt64) : UInt64 := Float64.mul v (Float64.sub 4607182418800017408 (Float64.mul s (hsvFr h)))
noncomputable def hsvTt (h s v : UInt64) : UInt64 := Float64.mul v (Float64.sub 4607182418800017408 (Float64.mul s (Float64.sub 4607182418800017408 (hsvFr h))))
noncomputable def hsvF (d : F3) : F3 :=
  if (Float64.cmp d.2.1 0 == some Ordering.eq) = true then (d.2.2, d.2.2, d.2.2)
  else if (hsvI d.1).fmod 6 = 0 then (d.2.2, hsvTt d.1 d.2.1 d.2.2, hsvP d.2.1 d.2.2)
  else if (hsvI d.1).fmod 6 = 1 then (hsvQ d.1 d.2.1 d.2.2, d.2.2, hsvP d.2.1 d.2.2)
  else if (hsvI d.1).fmod 6 = 2 then (hsvP d.2.1 d.2.2, d.2.2, hsvTt d.1 d.2.1 d.2.2)
  else if (hsvI d.1).fmod 6 = 3 then (hsvP d.2.1 d.2.2, hsvQ d.1 d.2.1 d.2.2, d.2.2)
  else if (hsvI d.1).fmod 6 = 4 then (hsvTt d.1 d.2.1 d.2.2, hsvP d.2.1 d.2.2, d.2.2)
  else (d.2.2, hsvP d.2.1 d.2.2, hsvQ d.1 d.2.1 d.2.2)
structure hsvOk (d : F3) : Prop where
  nan : Float64.isNaN (Float64.mul d.1 4618441417868443648) = false
  inf : Float64.isInf (Float64.mul d.1 4618441417868443648) = false
  fit : (hsvI d.1).natAbs < 2 ^ 1024 - 2 ^ 970
noncomputable abbrev hsvT : Told2 F3 where
  Rel := Arg3
  Ok := hsvOk
  size := fun _ => 1
  Out := fun news v d => Tup3 news v (hsvF d)
local macro_rules | `(tactic| walk_at "execs cons") => `(tactic| (k_here; (fail_if_success (fail_if_success k_gentoks)); refine gen_toks ?_; intro tk; try dsimp only))
local macro_rules | `(tactic| walk_at "execs nil") => `(tactic| (k_here; (fail_if_success (fail_if_success k_gentoks)); refine gen_toks ?_; intro tk; try dsimp only))
set_option maxRecDepth 100000 in
set_option maxHeartbeats 2000000 in
theorem hsv_tells (w : World) (mean : ExcName → Option Value) (mg mb : Str → Option Value) (d : F3) : Tells2 P w (hd.heap_39 w.params) hd.view_39 Lo mean mg mb (42) hsvT d := by
  unfold Tells2
  intro dp un gd cn cs a ccd cl outer A₀ base h₀ L m news s vs Q E B F X N T hk hR hok hd hu hret
  cases hR
  obtain ⟨o1, o2, o3⟩ := hok
  dsimp only [hsvT, hsvI] at o1 o2 o3 hd hu hret
  refine wpAny_call ?_
  k_dflt ktr_enter
  k_steps
  all_goals first
    | (refine hret _ _ _ _ (by k_asm) (ktn_tl1 (by k_asm)) (ktn_ord1 (allLt_of (by assumption))) ?_
       unfold hsvF hsvTt hsvQ hsvP hsvFr hsvI
       dsimp only
       repeat (first | rw [if_pos (by assumption)] | rw [if_neg (by assumption)] | rw [if_neg (ne_true_of_eq_false (by assumption))])
       exact Tup3.mk (.head _))
    | (exfalso
       simp only [Int.fmod_eq_emod_of_nonneg _ (show (0 : Int) ≤ 6 by decide)] at *
       clear o3
       omega)
end Mine
end
-- C_rgb
section
open PySem PySem.W PyProof.Rows
namespace Mine
local macro_rules | `(tactic| walk_at "no such key 0") => `(tactic| fail)
theorem none_Crgb : True := by
  k_with_none
  w_top off
  trivial
noncomputable def fltLt (a b : UInt64) : Bool := Float64.cmp a b == some Ordering.lt
noncomputable def max3 (a b c : UInt64) : UInt64 := bif fltLt a b then (bif fltLt b c then c else b) else (bif fltLt a c then c else a)
noncomputable def min3 (a b c : UInt64) : UInt64 := bif fltLt b a then (bif fltLt c b then c else b) else (bif fltLt c a then c else a)
section
variable {prog : Program} {w : World} {A : Around} {E : Value → Shared → Prop} {s : Shared} {Q : Value → Shared → Prop} {x y z : UInt64} {t u v : Tok} {h₀ : Heap} {L : Addr} {m : Str → Option Value} {news : List (Addr × Obj)}
theorem max_fff (hh : A.handled = none) (F : Fr h₀ L s.heap m) (N : News h₀ L s.heap news)
    (h : ∀ h' tk k, Fr h₀ L h' m → News h₀ L h' news → Q (.float (max3 x y z) k) { s with heap := h', toks := tk }) :
    wpAny (model prog w) A (call (.builtin "max") [.float x t, .float y u, .float z v]) Q E s := by
  have hT : (s.heap.push { cls := .type "tuple", data := .seq #[.float x t, .float y u, .float z v] }).IsTuple s.heap.objs.size #[.float x t, .float y u, .float z v] := ⟨_, Heap.get?_push_size _ rfl, rfl, 0, rfl⟩
  refine call_max_three (wpAny_pyIter_tuple hT ?_)
  have hsz : (s.heap.push { cls := .type "tuple", data := .seq #[.float x t, .float y u, .float z v] }).objs.size = s.heap.objs.size + 1 := Heap.size_push ..
  refine ⟨_, [_, s.heap.objs.size], [_], _, _, _, _, rfl, Walks.tuple (A := A.in1) hh _ s.heap.objs.size (by rw [hsz]; exact Nat.ne_of_lt (Nat.lt_succ_self _)) #[.float x t, .float y u, .float z v],
    ⟨⟨_, Heap.get?_push_size _ rfl, rfl, rfl⟩, hT.push _⟩, fun c hc => ?_, by simp, Flt.cmpOf_gt #[.float x t, .float y u, .float z v] (by simp [Flt.NumV.float]), fun r h' tk hP hk => ?_⟩
  · show c < ((s.heap.push _).push _).objs.size
    rw [Heap.size_push, hsz]
    rcases List.mem_cons.mp hc with rfl | hc
    · rw [hsz]; exact Nat.lt_succ_self _
    · rcases List.mem_cons.mp hc with rfl | hc
      · exact Nat.lt_succ_of_lt (Nat.lt_succ_self _)
      · cases hc
  · have hold : ∀ c o, s.heap.get? c = some o → h'.get? c = some o := fun c o e => by
      refine hk c o (fun hm => ?_) (Heap.get?_push_of_some _ (Heap.get?_push_of_some _ e))
      rcases List.mem_cons.mp hm with e1 | hm
      · have := Heap.lt_size e; rw [e1, hsz] at this; exact Nat.lt_irrefl _ (Nat.lt_of_succ_lt this)
      · cases hm
    have hv : ∃ k, r = .float (max3 x y z) k := by
      unfold max3 fltLt
      cases h1 : (Float64.cmp x y == some Ordering.lt) <;> cases h2 : (Float64.cmp y z == some Ordering.lt) <;> cases h3 : (Float64.cmp x z == some Ordering.lt) <;>
        simp [argBest, Flt.ltV, h1, h2, h3] at hP <;> simp [← hP]
    obtain ⟨k, rfl⟩ := hv
    exact h h' tk k (F.grownK hold) (N.grown hold)
theorem min_fff (hh : A.handled = none) (F : Fr h₀ L s.heap m) (N : News h₀ L s.heap news)
    (h : ∀ h' tk k, Fr h₀ L h' m → News h₀ L h' news → Q (.float (min3 x y z) k) { s with heap := h', toks := tk }) :
    wpAny (model prog w) A (call (.builtin "min") [.float x t, .float y u, .float z v]) Q E s := by
  have hT : (s.heap.push { cls := .type "tuple", data := .seq #[.float x t, .float y u, .float z v] }).IsTuple s.heap.objs.size #[.float x t, .float y u, .float z v] := ⟨_, Heap.get?_push_size _ rfl, rfl, 0, rfl⟩
  refine call_min_three (wpAny_pyIter_tuple hT ?_)
  have hsz : (s.heap.push { cls := .type "tuple", data := .seq #[.float x t, .float y u, .float z v] }).objs.size = s.heap.objs.size + 1 := Heap.size_push ..
  refine ⟨_, [_, s.heap.objs.size], [_], _, _, _, _, rfl, Walks.tuple (A := A.in1) hh _ s.heap.objs.size (by rw [hsz]; exact Nat.ne_of_lt (Nat.lt_succ_self _)) #[.float x t, .float y u, .float z v],
    ⟨⟨_, Heap.get?_push_size _ rfl, rfl, rfl⟩, hT.push _⟩, fun c hc => ?_, by simp, Flt.cmpOf_lt #[.float x t, .float y u, .float z v] (by simp [Flt.NumV.float]), fun r h' tk hP hk => ?_⟩
  · show c < ((s.heap.push _).push _).objs.size
    rw [Heap.size_push, hsz]
    rcases List.mem_cons.mp hc with rfl | hc
    · rw [hsz]; exact Nat.lt_succ_self _
    · rcases List.mem_cons.mp hc with rfl | hc
      · exact Nat.lt_succ_of_lt (Nat.lt_succ_self _)
      · cases hc
  · have hold : ∀ c o, s.heap.get? c = some o → h'.get? c = some o := fun c o e => by
      refine hk c o (fun hm => ?_) (Heap.get?_push_of_some _ (Heap.get?_push_of_some _ e))
      rcases List.mem_cons.mp hm with e1 | hm
      · have := Heap.lt_size e; rw [e1, hsz] at this; exact Nat.lt_irrefl _ (Nat.lt_of_succ_lt this)
      · cases hm
    have hv : ∃ k, r = .float (min3 x y z) k := by
      unfold min3 fltLt
      cases h1 : (Float64.cmp y x == some Ordering.lt) <;> cases h2 : (Float64.cmp z y == some Ordering.lt) <;> cases h3 : (Float64.cmp z x == some Ordering.lt) <;>
        simp [argBest, Flt.ltV, h1, h2, h3] at hP <;> simp [← hP]
    obtain ⟨k, rfl⟩ := hv
    exact h h' tk k (F.grownK hold) (N.grown hold)
end
section
variable (a b c : UInt64)
noncomputable def rgbL : UInt64 := Float64.div (Float64.add (max3 a b c) (min3 a b c)) 4611686018427387904
noncomputable def rgbLow : Bool := Float64.cmp (rgbL a b c) 4602678819172646912 == some Ordering.lt || Float64.cmp (rgbL a b c) 4602678819172646912 == some Ordering.eq
noncomputable def rgbS : UInt64 := if rgbLow a b c = true then Float64.div (Float64.sub (max3 a b c) (min3 a b c)) (Float64.add (max3 a b c) (min3 a b c))
  else Float64.div (Float64.sub (max3 a b c) (min3 a b c)) (Float64.sub (Float64.sub 4611686018427387904 (max3 a b c)) (min3 a b c))
noncomputable def rgbX (v : UInt64) : UInt64 := Float64.div (Float64.sub (max3 a b c) v) (Float64.sub (max3 a b c) (min3 a b c))
noncomputable def rgbH : UInt64 := if (Float64.cmp a (max3 a b c) == some Ordering.eq) = true then Float64.sub (rgbX a b c c) (rgbX a b c b)
  else if (Float64.cmp b (max3 a b c) == some Ordering.eq) = true then Float64.sub (Float64.add 4611686018427387904 (rgbX a b c a)) (rgbX a b c c)
  else Float64.sub (Float64.add 4616189618054758400 (rgbX a b c b)) (rgbX a b c a)
end
noncomputable def rgbF (d : F3) : F3 :=
  if (Float64.cmp (min3 d.1 d.2.1 d.2.2) (max3 d.1 d.2.1 d.2.2) == some Ordering.eq) = true then (0, rgbL d.1 d.2.1 d.2.2, 0)
  else ((Float64.divmod (Float64.div (rgbH d.1 d.2.1 d.2.2) 4618441417868443648) 4607182418800017408).2, rgbL d.1 d.2.1 d.2.2, rgbS d.1 d.2.1 d.2.2)
structure rgbOk (d : F3) : Prop where
  z1 : (Float64.cmp (min3 d.1 d.2.1 d.2.2) (max3 d.1 d.2.1 d.2.2) == some Ordering.eq) = false → rgbLow d.1 d.2.1 d.2.2 = true → Float64.isZero (Float64.add (max3 d.1 d.2.1 d.2.2) (min3 d.1 d.2.1 d.2.2)) = false
  z2 : (Float64.cmp (min3 d.1 d.2.1 d.2.2) (max3 d.1 d.2.1 d.2.2) == some Ordering.eq) = false → rgbLow d.1 d.2.1 d.2.2 = false → Float64.isZero (Float64.sub (Float64.sub 4611686018427387904 (max3 d.1 d.2.1 d.2.2)) (min3 d.1 d.2.1 d.2.2)) = false
  z3 : (Float64.cmp (min3 d.1 d.2.1 d.2.2) (max3 d.1 d.2.1 d.2.2) == some Ordering.eq) = false → Float64.isZero (Float64.sub (max3 d.1 d.2.1 d.2.2) (min3 d.1 d.2.1 d.2.2)) = false
/-- a made tuple of three floats, its tokens between lo and hi -/
inductive Tup3K (lo hi : Nat) (news : Led) : Value → F3 → Prop
  | mk {D : Addr} {a b c : UInt64} {t1 t2 t3 : Tok} : (D, ({ cls := .type "tuple", data := .seq #[.float a t1, .float b t2, .float c t3] } : Obj)) ∈ news → @LT.lt Nat _ lo t1 → @LT.lt Nat _ t1 hi → @LT.lt Nat _ lo t2 → @LT.lt Nat _ t2 hi → @LT.lt Nat _ lo t3 → @LT.lt Nat _ t3 hi → Tup3K lo hi news (.ref D) (a, b, c)
noncomputable abbrev rgbT : Told3 F3 where
  Rel := Arg3
  Ok := rgbOk
  size := fun _ => 1
  Out := fun lo hi tl v d => Tup3K lo hi tl v (rgbF d)
local macro_rules | `(tactic| walk_at "execs cons") => `(tactic| (k_here; (fail_if_success (fail_if_success k_gentoks)); refine keep_toks ?_; intro tk htk; try dsimp only at htk))
local macro_rules | `(tactic| walk_at "execs nil") => `(tactic| (k_here; (fail_if_success (fail_if_success k_gentoks)); refine keep_toks ?_; intro tk htk; try dsimp only at htk))
set_option maxRecDepth 100000 in
set_option maxHeartbeats 2000000 in
theorem rgb_tells (w : World) (mean : ExcName → Option Value) (mg mb : Str → Option Value) (d : F3) : Tells3 P w (hd.heap_39 w.params) hd.view_39 Lo mean mg mb (35) rgbT d := by
  unfold Tells3
  intro dp un gd cn cs a ccd cl outer A₀ base h₀ L m news s vs Q E B F X N T hk hR hok hd hu hret
  cases hR
  obtain ⟨z1, z2, z3⟩ := hok
  dsimp only [rgbT, rgbLow, rgbL] at z1 z2 z3 hd hu hret
  refine wpAny_call ?_
  k_dflt ktr_enter
  k_with "call builtin:max" => (refine wpAny_toks (max_fff rfl (by k_asm) (by k_asm) ?_); intro h' tk' k' F' N' htk'; try dsimp only at htk')
  k_with "call builtin:min" => (refine wpAny_toks (min_fff rfl (by k_asm) (by k_asm) ?_); intro h' tk' k' F' N' htk'; try dsimp only at htk')
  k_steps
  all_goals first
    | exact absurd (by assumption) (Bool.eq_false_iff.mp (z1 (by assumption) (by assumption)))
    | exact absurd (by assumption) (Bool.eq_false_iff.mp (z2 (by assumption) (by assumption)))
    | exact absurd (by assumption) (Bool.eq_false_iff.mp (z3 (by assumption)))
    | (refine hret _ _ _ _ (by k_asm) (ktn_tl1 (by k_asm)) (ktn_ord1 (allLt_of (by assumption))) ?_ ?_
       · first
           | ((repeat (first | exact Nat.le_refl _ | exact Nat.le_add_right _ _ | refine Nat.le_succ_of_le ?_ | refine Nat.le_trans ?_ (by assumption))); done)
           | omega
       · show Tup3K _ _ _ _ (rgbF _)
         unfold rgbF
         dsimp only
         first
           | (rw [if_pos (by assumption)])
           | (rw [if_neg (ne_true_of_eq_false (by assumption))]
              unfold rgbS
              first
                | rw [if_pos (show rgbLow _ _ _ = true from by assumption)]
                | rw [if_neg (ne_true_of_eq_false (show rgbLow _ _ _ = false from by assumption))]
              unfold rgbH rgbX
              first
                | rw [if_pos (by assumption)]
                | (rw [if_neg (ne_true_of_eq_false (by assumption))]
                   first
                     | rw [if_pos (by assumption)]
                     | rw [if_neg (ne_true_of_eq_false (by assumption))]))
         exact Tup3K.mk (.head _)
           (by first | ((first | refine Nat.lt_succ_of_le ?_ | refine Nat.lt_of_lt_of_le (Nat.lt_succ_of_le ?_) (by assumption)); (repeat (first | exact Nat.le_refl _ | exact Nat.le_add_right _ _ | refine Nat.le_succ_of_le ?_ | refine Nat.le_trans ?_ (by assumption))); done) | omega)
           (by first | ((repeat (first | exact Nat.lt_succ_self _ | refine Nat.lt_succ_of_lt ?_ | refine Nat.lt_of_lt_of_le ?_ (by assumption))); done) | omega)
           (by first | ((first | refine Nat.lt_succ_of_le ?_ | refine Nat.lt_of_lt_of_le (Nat.lt_succ_of_le ?_) (by assumption)); (repeat (first | exact Nat.le_refl _ | exact Nat.le_add_right _ _ | refine Nat.le_succ_of_le ?_ | refine Nat.le_trans ?_ (by assumption))); done) | omega)
           (by first | ((repeat (first | exact Nat.lt_succ_self _ | refine Nat.lt_succ_of_lt ?_ | refine Nat.lt_of_lt_of_le ?_ (by assumption))); done) | omega)
           (by first | ((first | refine Nat.lt_succ_of_le ?_ | refine Nat.lt_of_lt_of_le (Nat.lt_succ_of_le ?_) (by assumption)); (repeat (first | exact Nat.le_refl _ | exact Nat.le_add_right _ _ | refine Nat.le_succ_of_le ?_ | refine Nat.le_trans ?_ (by assumption))); done) | omega)
           (by first | ((repeat (first | exact Nat.lt_succ_self _ | refine Nat.lt_succ_of_lt ?_ | refine Nat.lt_of_lt_of_le ?_ (by assumption))); done) | omega))
end Mine
end
-- FlD
section
open PySem PySem.W PyProof.Rows
namespace Mine
theorem none_FlD : True := by
  k_with_none
  w_top off
  trivial
/-- one int by another, as a float -/
noncomputable def idiv (n m : Int) : UInt64 := Float64.ofFrac (decide (n < 0) != decide (m < 0)) n.natAbs m.natAbs
noncomputable def hueA (n t : Int) : UInt64 := Float64.add (idiv n 32) (Float64.ofInt t)
/-- the arguments that hsv_to_rgb is handed -/
noncomputable def colArg (n l t : Int) : F3 := if l ≤ 8 then (hueA n t, 4607182418800017408, idiv l 8) else (hueA n t, Float64.sub (Float64.ofInt 2) (idiv l 8), 4607182418800017408)
structure FlOk (n l t : Int) : Prop where
  i1 : Float64.isInf (idiv n 32) = false
  i2 : Float64.isInf (idiv l 8) = false
  i3 : Float64.isInf (idiv l 16) = false
  ok1 : hsvOk (colArg n l t)
  ok2 : rgbOk (hsvF (colArg n l t))
  val : rgbF (hsvF (colArg n l t)) = (idiv n 32, idiv l 16, 4607182418800017408)
end Mine
end
-- Srt
section
open PySem PySem.W PyProof.Rows
namespace Mine
theorem none_Srt : True := by
  k_with_none
  w_top off
  trivial
theorem booked {w : World} {h₀ h : Heap} {L : Addr} {m : Str → Option Value} (X : (hd.heap_39 w.params).In h₀) (F : Fr h₀ L h m) : NoneBooked h := by
  have e := F.keep _ _ (X cStatics _ rfl)
  exact ⟨fun _ => none, ⟨_, _, _, e, rfl, (by intro x hx; simp at hx), fun _ => rfl⟩, rfl⟩
section
variable {prog : Program} {w : World} {A : Around} {E : Value → Shared → Prop} {s : Shared} {a b : UInt64} {t u : Tok} {Q : Bool → Shared → Prop}
theorem oneLt_float (h : Q (fltLt a b) s) : wpAny (model prog w) A (oneLt' true (.float a t) (.float b u)) Q E s := by
  rw [oneLt'_eq]
  simp only [if_true]
  refine wpAny_bind (wpAny_cRoomFor_byValue rfl ?_)
  refine wpAny_bind (wpAny_callSpecialIfBound?_slot (typeIs_float s a t) F.slot_float_lt (call_gives F.slot_float_lt (typeIs_float s a t) F.entry_float_lt (F.args_float_lt_2 _ _) (AutoFloatG5.float___lt___float_float_0 a t b u) ?_))
  exact wpAny_truthy_bool h
theorem isSame_float (ht : t ≠ 0) (hu : u ≠ 0) (htu : t ≠ u) (hne : a ≠ b) (h : Q false s) : wpAny (model prog w) A (isSame (.float a t) (.float b u)) Q E s := by
  show wpAny _ _ (isSame.created (a == b && !Float64.isNaN a) t u) Q E s
  unfold isSame.created
  have e1 : (t == 0 || u == 0) = false := by simp [ht, hu]
  have e2 : (t == u) = false := by simp [htu]
  have e3 : (a == b && !Float64.isNaN a) = false := by simp [hne]
  simp only [e1, e2, e3, Bool.false_eq_true, if_false, Bool.not_false, if_true]
  exact wpAny_pure h
theorem isSame_floatE (ht : t ≠ 0) (hu : u ≠ 0) (hb : NoneBooked s.heap) (h : ∀ b, Q b s) : wpAny (model prog w) A (isSame (.float a t) (.float b u)) Q E s := by
  show wpAny _ _ (isSame.created (a == b && !Float64.isNaN a) t u) Q E s
  unfold isSame.created
  have e1 : (t == 0 || u == 0) = false := by simp [ht, hu]
  simp only [e1, Bool.false_eq_true, if_false]
  refine wpAny_ite ?_
  split
  · exact wpAny_pure (h _)
  refine wpAny_ite ?_
  split
  · exact wpAny_pure (h _)
  refine wpAny_bind (wpAny_sharingNotTold_none hb ?_)
  first | rw [if_neg Bool.false_ne_true] | simp only [Bool.false_eq_true, if_false]
  refine wpAny_bind (wpAny_sharingNotTold_none hb ?_)
  first | rw [if_neg Bool.false_ne_true] | simp only [Bool.false_eq_true, if_false]
  exact wpAny_bind (wpAny_rule (wpAny_bind (wpAny_askSetting (wpAny_pure (h _)))))
theorem eqBool_float (ht : t ≠ 0) (hu : u ≠ 0) (htu : t ≠ u) (hne : a ≠ b) (h : Q (Float64.cmp a b == some Ordering.eq) s) : wpAny (model prog w) A (eqBool (.float a t) (.float b u)) Q E s := by
  unfold eqBool
  refine wpAny_holding ?_
  show wpAny _ _ (if (Value.float a t == Value.float b u) = true then _ else _) Q E s
  rw [if_neg (by intro hab; have := eq_of_beq hab; injection this with h1 h2; exact hne h1)]
  refine wpAny_bind (isSame_float ht hu htu hne ?_)
  simp only [Bool.false_eq_true, if_false]
  refine wpAny_bind (AutoFloatOps.eq_0 ?_)
  exact wpAny_truthy_bool h
end
noncomputable def runC {α : Type} (n : Nat) : KasT α → Option α
  | .ret a => some a
  | .ask i j k => if i < n ∧ j < n ∧ i ≠ j then runC n (k (decide (j < i))) else none
theorem runC_wp {α : Type} {n : Nat} {cmp : Nat → Nat → (Bool → Shared → Prop) → Shared → Prop} {Q : α → Shared → Prop} {s : Shared}
    (hc : ∀ i j (C : Bool → Shared → Prop), i < n → j < n → i ≠ j → C (decide (j < i)) s → cmp i j C s) {a : α} (hq : Q a s) : ∀ t : KasT α, runC n t = some a → t.kasWp cmp Q s
  | .ret b, h => by
    have : b = a := by simpa [runC] using h
    subst this
    exact hq
  | .ask i j k, h => by
    unfold runC at h
    split at h
    · rename_i g
      exact hc i j _ g.1 g.2.1 g.2.2 (runC_wp hc hq (k (decide (j < i))) h)
    · cases h
theorem sort_run {n : Nat} (h2 : 2 ≤ n) (h8 : n ≤ 8) : runC n (kas_sort n) = some (List.range n).reverse.toArray := by
  have : n = 2 ∨ n = 3 ∨ n = 4 ∨ n = 5 ∨ n = 6 ∨ n = 7 ∨ n = 8 := by omega
  rcases this with rfl | rfl | rfl | rfl | rfl | rfl | rfl <;> decide +kernel
noncomputable abbrev tup3 (a b c : UInt64) (t1 t2 t3 : Tok) : Obj := { cls := .type "tuple", data := .seq #[.float a t1, .float b t2, .float c t3] }
/-- the first of the triples: their texts go down, their tokens differ -/
structure Hues (news : Led) (vs : List Value) (hue : Nat → UInt64) (k : Nat → Tok) : Prop where
  mem : ∀ i, i < vs.length → ∃ D b c t2 t3, vs[i]? = some (.ref D) ∧ (D, tup3 (hue i) b c (k i) t2 t3) ∈ news
  k0 : ∀ i, i < vs.length → k i ≠ 0
  kk : ∀ i j, i < vs.length → j < vs.length → i ≠ j → k i ≠ k j
  ne : ∀ i j, i < vs.length → j < vs.length → i ≠ j → hue i ≠ hue j
  cmp : ∀ i j, i < vs.length → j < vs.length → i ≠ j → (Float64.cmp (hue i) (hue j) == some Ordering.eq) = false
  lt : ∀ i j, i < vs.length → j < vs.length → i ≠ j → fltLt (hue i) (hue j) = decide (j < i)
theorem Hues.tups {news : Led} {h₀ : Heap} {L : Addr} {h : Heap} (N : News h₀ L h news) : ∀ {vs : List Value} {hue : Nat → UInt64} {k : Nat → Tok}, (∀ i, i < vs.length → ∃ D b c t2 t3, vs[i]? = some (.ref D) ∧ (D, tup3 (hue i) b c (k i) t2 t3) ∈ news) →
    KatTups h vs ((List.range vs.length).map fun i => .float (hue i) (k i))
  | [], _, _, _ => .nil
  | v :: vs, hue, k, g => by
    obtain ⟨D, b, c, t2, t3, e, hm⟩ := g 0 (by simp)
    have e' : v = .ref D := by simpa using e
    subst e'
    rw [List.length_cons, List.range_succ_eq_map, List.map_cons, List.map_map]
    refine .cons (N _ hm).1 rfl rfl rfl ?_
    exact Hues.tups (hue := fun i => hue (i + 1)) (k := fun i => k (i + 1)) N fun i hi => by
      obtain ⟨D, b, c, t2, t3, e, hm⟩ := g (i + 1) (by simpa using hi)
      exact ⟨D, b, c, t2, t3, by simpa using e, hm⟩
section
variable {prog : Program} {w : World} {A : Around} {E : Value → Shared → Prop} {s : Shared} {h₀ : Heap} {L l : Addr} {m : Str → Option Value} {news : Led} {vs : List Value} {hue : Nat → UInt64} {k : Nat → Tok} {Q : Value → Shared → Prop}
theorem sorted_rev (F : Fr h₀ L s.heap m) (N : News h₀ L s.heap news) (hl : s.heap.IsList l vs.toArray) (h2 : 2 ≤ vs.length) (h8 : vs.length ≤ 8) (H : Hues news vs hue k)
    (h : ∀ D c h', Fr h₀ L h' m → News h₀ L h' ((D, listOf vs.reverse.toArray c) :: news) → (∀ q ∈ news, q.1 < D) → Q (.ref D) { s with heap := h' }) :
    wpAny (model prog w) A (call (.builtin "sorted") [.ref l]) Q E s := by
  refine kat_sorted F N hl h2 (by omega) fun D e1 h' F' N' hlt => ?_
  refine kat_kind (T := .type "float") (Hues.tups (fun p hp => N' p (.tail _ hp)) H.mem) (by rw [List.length_map, List.length_range]; omega) (fun v hv => ?_) rfl ?_
  · obtain ⟨i, _, rfl⟩ := List.mem_map.mp hv
    exact Looks.of_pure rfl
  · refine runC_wp (n := vs.length) (fun i j C hi hj hij hC => ?_) ?_ _ (sort_run h2 h8)
    · obtain ⟨Di, bi, ci, t2, t3, ei, hmi⟩ := H.mem i hi
      obtain ⟨Dj, bj, cj, u2, u3, ej, hmj⟩ := H.mem j hj
      unfold kas_ask
      rw [List.getD_eq_getElem?_getD, List.getD_eq_getElem?_getD, ei, ej]
      refine kat_lt (N' _ (.tail _ hmi)).1 rfl (N' _ (.tail _ hmj)).1 rfl ?_
      refine kat_cons (eqBool_float (H.k0 i hi) (H.k0 j hj) (H.kk i j hi hj hij) (H.ne i j hi hj hij) ?_)
      rw [H.cmp i j hi hj hij]
      refine kat_no ?_
      refine oneLt_float ?_
      rw [H.lt i j hi hj hij]
      exact hC
    · refine KasFin.intro F' N' (.head fun p hp => Nat.ne_of_lt (hlt p hp)) fun h'' c F'' N'' => ?_
      have e : ((List.range vs.length).reverse.toArray.toList.map fun i => vs.getD i Value.none) = vs.reverse := by
        rw [List.map_reverse]
        congr 1
        apply List.ext_getElem?
        intro i
        by_cases hi : i < vs.length
        · simp [hi]
        · simp [hi]
      rw [e] at N''
      exact h D c h'' F'' N'' hlt
end
end Mine
end
-- Srt1
section
open PySem PySem.W PyProof.Rows
namespace Mine
theorem none_Srt1 : True := by
  k_with_none
  w_top off
  trivial
section
variable {prog : Program} {w : World} {A : Around} {E : Value → Shared → Prop} {s : Shared} {h₀ : Heap} {L l : Addr} {m : Str → Option Value} {news : Led} {v : Value}
theorem sort_single {a : Addr} {P : Fin → Shared → Prop} (ho : s.heap.get? a = some (seqObj "list" [v].toArray 0))
    (h : P (.done (.ret .none)) { s with heap := sortedHeap s.heap a [v] #[v] }) :
    wpAny (model prog w) A (Builtin.«list.sort» ⟨[.ref a], []⟩) P E s := by
  rw [list_sort_plain]
  have ha : a < s.heap.objs.size := Heap.lt_size ho
  refine wpAny_bind (listItems_at ho rfl ?_)
  refine wpAny_bind (listUpdate_at ho rfl ?_)
  obtain ⟨e1, ho1⟩ : ∃ e1, (s.heap.update a (Obj.mapSeq fun _ => #[])).get? a = some (seqObj "list" #[] e1) := ⟨_, get?_update_seq ho (fun _ => #[])⟩
  refine wpAny_bind (seqEpoch_at ho1 rfl ?_)
  refine wpAny_bind (wpAny_newTuple ?_)
  refine wpAny_bind (wpAny_newList ?_)
  refine wpAny_holding ?_
  have ho6 : (((s.heap.update a (Obj.mapSeq fun _ => #[])).push (seqObj "tuple" [v].toArray 0)).push (seqObj "list" #[] 0)).get? a = some (seqObj "list" #[] e1) := by
    rw [Heap.get?_push_ne _ _ _ (by rw [size_push', Heap.size_update]; exact Nat.ne_of_lt (Nat.lt_succ_of_lt ha)), Heap.get?_push_ne _ _ _ (by rw [Heap.size_update]; exact Nat.ne_of_lt ha)]
    exact ho1
  show wpAny (model prog w) A _ P E { s with heap := ((s.heap.update a (Obj.mapSeq fun _ => #[])).push (seqObj "tuple" [v].toArray 0)).push (seqObj "list" #[] 0) }
  dsimp only
  rw [if_pos (show [v].toArray.size < 2 by simp), if_pos (show [v].toArray.size < 2 by simp)]
  refine wpAny_bind (wpAny_pure ?_)
  rw [StateT.run_pure]
  refine wpAny_bind (wpAny_pure ?_)
  dsimp only
  refine wpAny_bind (seqEpoch_at ho6 rfl ?_)
  have hz : #[v].zip #[v] = #[(v, v)] := by rw [← Array.toList_inj]; simp
  have hout : Array.map (fun x => x.snd) (arrOf (SortSt.mk' general' ([v].toArray.zip [v].toArray) #[] 7 none)) = #[v] := by
    show Array.map (fun x => x.snd) (#[v].zip #[v]) = #[v]
    rw [hz, ← Array.toList_inj]; simp
  refine wpAny_bind (listUpdate_at ho6 rfl ?_ (hsz2 := by rw [hout, sizeLine_eq]; simp))
  simp only [bne_self_eq_false, Bool.false_eq_true, if_false]
  rw [hout]
  exact wpAny_pure h
theorem sorted_one {Q : Value → Shared → Prop} (F : Fr h₀ L s.heap m) (N : News h₀ L s.heap news) (hl : s.heap.IsList l [v].toArray)
    (h : ∀ D c h', Fr h₀ L h' m → News h₀ L h' ((D, listOf [v].toArray c) :: news) → (∀ q ∈ news, q.1 < D) → Q (.ref D) { s with heap := h' }) :
    wpAny (model prog w) A (call (.builtin "sorted") [.ref l]) Q E s := by
  refine Calls.call_function_entry kind_sorted plain_sorted entry_sorted (args_sorted1 _) ?_
  unfold Builtin.«sorted»
  refine wpAny_bind (m := checkCount "sorted" 1 1 _) (wpAny_pure ?_)
  refine wpAny_bind (collect_list hl ?_)
  refine wpAny_bind (wpAny_newList ?_)
  have hsz : ((s.heap.push (seqObj "list" #[] 0)).update s.heap.objs.size (Obj.mapSeq (· ++ [v].toArray))).objs.size = s.heap.objs.size + 1 := by
    rw [Heap.size_update, size_push']
  have hoL : (((s.heap.push (seqObj "list" #[] 0)).update s.heap.objs.size (Obj.mapSeq (· ++ [v].toArray))).push (seqObj "list" [v].toArray 0)).get? (s.heap.objs.size + 1) = some (seqObj "list" [v].toArray 0) := by
    rw [← hsz]; exact Heap.get?_push_size _ rfl
  show wpAny _ _ _ _ _ { s with heap := ((s.heap.push (seqObj "list" #[] 0)).update s.heap.objs.size (Obj.mapSeq (· ++ [v].toArray))).push (seqObj "list" [v].toArray 0) }
  rw [hsz]
  obtain ⟨e, he⟩ := sortedAll_at s.heap [v] #[v]
  refine wpAny_bind (wpAny_holding (wpAny_call_entry slot_list_sort ⟨_, hoL, rfl⟩ entry_list_sort (sort_single hoL ⟨_, rfl, ?_⟩) (args_list_sort _)))
  exact wpAny_pure ⟨_, rfl, h _ e _ (F.kept fun _ _ => sortedAll_old) (N.kept_cons F (fun _ _ => sortedAll_old) (Nat.le_succ _) he) fun q hq => Nat.lt_succ_of_lt (Heap.lt_size (N q hq).1)⟩
end
end Mine
end
-- L3
section
open PySem PySem.W PyProof.Rows
namespace Mine
theorem none_L3 : True := by
  k_with_none
  w_top off
  trivial
open LCg LCp PySem.Spec PySem.Calls
section
variable {prog : Program} {w : World} {A : Around} {E : Value → Shared → Prop} {s : Shared} {h₀ : Heap} {L : Addr} {m : Str → Option Value} {env : Env}
/-- how a turn ends, its tokens told -/
noncomputable def CompEndK (h₀ : Heap) (L : Addr) (m : Str → Option Value) (s₁ : Shared) (I : Addr) (oI : Obj) (C : Addr) (oC : Obj) (D : Addr) (oD : Obj) (S : Led → Prop) (rest : Nat → Value → Led → Prop) (y : Value) (s₂ : Shared) : Prop :=
  ∀ z : Shared → Prop, (∀ h' tk news', Fr h₀ L h' m → News h₀ L h' ((I, oI) :: (C, oC) :: (D, oD) :: news') → Off3 I C D news' → S news' → rest tk y news' → z { s₁ with heap := h', toks := tk }) → z s₂
noncomputable def FinK (h₀ : Heap) (L : Addr) (m : Str → Option Value) (s : Shared) (Q : Value → Shared → Prop) (lo : Nat) (ys : List Value) (news : Led) : Prop :=
  ∀ D h tk, lo ≤ tk → Fr h₀ L h m → News h₀ L h ((D, lst ys) :: news) → Off1 D news → Q (.ref D) { s with heap := h, toks := tk }
/-- one turn of a comprehension that takes three apart -/
noncomputable def Turn3 (prog : Program) (w : World) (A : Around) (h₀ : Heap) (L : Addr) (m : Str → Option Value) (env : Env) (elt : PySem.Expr) (x₁ x₂ x₃ : Str) (scope : Scope) (cl : List (Str × Addr)) (s : Shared) (S : Led → Prop) (its : Array Value) (J : Nat → Nat → List Value → Led → Prop) : Prop :=
  ∀ (lo i : Nat) (v : Value) (ys : List Value) (nw : Led), its[i]? = some v → J lo i ys nw → ∀ z : Value → Prop, (∀ (t : Addr) (ot : Obj) (v₁ v₂ v₃ : Value) (nt : Nat), (t, ot) ∈ nw → ot.cls = .type "tuple" → ot.data = .seq #[v₁, v₂, v₃] nt →
    (∀ I oI C oC D m₂ h tk (E' : Value → Shared → Prop), NsObj oC m₂ → m₂ x₁ = some v₁ → m₂ x₂ = some v₂ → m₂ x₃ = some v₃ → lo ≤ tk → Fr h₀ L h m → News h₀ L h ((I, oI) :: (C, oC) :: (D, lst ys) :: nw) → Off3 I C D nw → ((@Ne Nat I C) ∧ (@Ne Nat I D) ∧ (@Ne Nat C D)) →
      wpAny (model prog w) A (eval elt (compEnvC scope cl C env)) (CompEndK h₀ L m { s with heap := h, toks := tk } I oI C oC D (lst ys) S (fun lo' y nw' => J lo' (i + 1) (ys ++ [y]) nw')) E' { s with heap := h, toks := tk }) → z (.ref t)) → z v
set_option maxHeartbeats 2000000 in
theorem block3 {elt iter : PySem.Expr} {x₁ x₂ x₃ : Str} {p₁ p₂ p₃ tp : Pos} {tk} {scope : Scope} {cl : List (Str × Addr)} {pos : Pos} {s₂ : Shared} {I ax : Addr} {its : Array Value} {J : Nat → Nat → List Value → Led → Prop} {news : Led} {RR : Value → Addr → Result → Shared → Prop}
    (hne : ax ≠ I) (hh : A.handled = none) (hsz : its.size ≤ sizeLine) (hcell : ∀ y ∈ scope.names, y.2 ≠ .cell) (hkind : scope.kind = .function) (hx₁ : scope.names.lookup x₁ = some .local) (hx₂ : scope.names.lookup x₂ = some .local) (hx₃ : scope.names.lookup x₃ = some .local) (h12 : x₁ ≠ x₂) (h13 : x₁ ≠ x₃) (h23 : x₂ ≠ x₃)
    (hst : s₂.heap.IsListIter I ax 0 ∧ s₂.heap.IsList ax its) (hIs : I < s₂.heap.objs.size) (hAs : ax < s₂.heap.objs.size)
    (F : Fr h₀ L s₂.heap m) (N : News h₀ L s₂.heap news) (hIL : L ≠ I) (hI₀ : h₀.get? I = none) (off : ∀ p ∈ news, p.1 ≠ I) (hS : SrcAt h₀ ax its news) {lo₀ : Nat} (hlo : lo₀ ≤ s₂.toks) (hJ : J lo₀ 0 [] news)
    (turn : Turn3 prog w A h₀ L m env elt x₁ x₂ x₃ scope cl s₂ (SrcAt h₀ ax its) its J)
    (hRR : ∀ D C h tk m' lo ys news', lo ≤ tk → Fr h₀ L h m → News h₀ L h ((D, lst ys) :: news') → Off1 D news' → h.Ns C m' → h₀.get? C = none → h₀.get? D = none → C ≠ L → D ≠ L → C ≠ D → (∀ p ∈ news', p.1 ≠ C) → J lo its.size ys news' → RR (.ref D) C (.ok .next) { s₂ with heap := h, toks := tk }) :
    wpAny (model prog w) A (newList []) (fun acc s₃ => wpAny (model prog w) A (newFunctionEnv scope env.globals cl [] env.qual none .none (some env)) (fun cenv s₄ =>
      codeAny (model prog w) A (.compStart (.ListComp elt [⟨.Tuple [.Name x₁ p₁, .Name x₂ p₂, .Name x₃ p₃] tk tp, iter, [], 0⟩] scope pos) 0 (.ref I) acc { cenv with scope := relabel scope env }) (RR acc cenv.locals) s₄) E s₃) E s₂ := by
  have W := Walks.list (prog := prog) (w := w) (A := A) hh I ax hne its
  refine wpAny_newObj_type (wpAny_newFunctionEnv hcell (by intro y hy; simp at hy) (fun h₁ hns₁ hsb₁ => ?_) hkind)
  dsimp only at hns₁ hsb₁ ⊢
  generalize hH2 : s₂.heap.push { cls := .type "list", dict := none, data := .seq ([] : List Value).toArray } = H2 at hns₁ hsb₁ ⊢
  have hC : H2.objs.size = s₂.heap.objs.size + 1 := by rw [← hH2, Heap.size_push]
  have hDC : s₂.heap.objs.size ≠ H2.objs.size := by rw [hC]; exact Nat.ne_of_lt (Nat.lt_succ_self _)
  have below : ∀ b, b < s₂.heap.objs.size → b ≠ H2.objs.size ∧ b ≠ s₂.heap.objs.size := fun b hb => ⟨by rw [hC]; exact Nat.ne_of_lt (Nat.lt_succ_of_lt hb), Nat.ne_of_lt hb⟩
  have old : ∀ b o, s₂.heap.get? b = some o → h₁.get? b = some o := fun b o e => hsb₁.extBut b o (below b (Heap.lt_size e)).1 (Heap.get?_push_of_some _ (hH2 ▸ Heap.get?_push_of_some _ e))
  have hacc : h₁.get? s₂.heap.objs.size = some (lst []) := hsb₁.extBut _ _ hDC (Heap.get?_push_of_some _ (hH2 ▸ Heap.get?_push_size _ rfl))
  have inFp : ∀ b, b ∈ [I, ax] → b < s₂.heap.objs.size := fun b hb => by
    rcases List.mem_cons.mp hb with rfl | hb
    · exact hIs
    · rw [List.mem_singleton.mp hb]; exact hAs
  have hst₁ : h₁.IsListIter I ax 0 ∧ h₁.IsList ax its := W.frame _ _ _ hst fun b _ o e => old b o e
  have fresh₀ : ∀ a, s₂.heap.objs.size ≤ a → h₀.get? a = none := fun a ha => by
    cases e : h₀.get? a with
    | none => rfl
    | some o' => exact absurd (Heap.lt_size (F.keep a o' e)) (Nat.not_lt.mpr ha)
  have hD₀ : h₀.get? s₂.heap.objs.size = none := fresh₀ _ (Nat.le_refl _)
  have hC₀ : h₀.get? H2.objs.size = none := fresh₀ _ (by rw [hC]; exact Nat.le_succ _)
  have hDL : s₂.heap.objs.size ≠ L := Ne.symm (below L F.ns.lt).2
  have hCL : H2.objs.size ≠ L := Ne.symm (below L F.ns.lt).1
  have hCI : I ≠ H2.objs.size := (below I hIs).1
  have hDI : I ≠ s₂.heap.objs.size := (below I hIs).2
  have off₀ : Off3 I H2.objs.size s₂.heap.objs.size news := Off3.of fun p hp => ⟨off p hp, (below _ (Heap.lt_size (N p hp).1)).1, (below _ (Heap.lt_size (N p hp).1)).2⟩
  have loop : ∀ s₃ : Shared, s₃ = { s₂ with heap := h₁, toks := s₂.toks + ([] : List (Str × Value)).length } →
      codeAny (model prog w) A (.compLoop (.ListComp elt [⟨.Tuple [.Name x₁ p₁, .Name x₂ p₂, .Name x₃ p₃] tk tp, iter, [], 0⟩] scope pos) 0 (.ref I) (.ref s₂.heap.objs.size) (compEnvC scope cl H2.objs.size env))
        (RR (.ref s₂.heap.objs.size) H2.objs.size) s₃ := by
    rintro s₃ rfl
    refine codeAny_compLoop_pair
      (fun k s' => ∀ z : Nat → Shared → Prop, (∀ h' tk lo i ys m' news', lo ≤ tk → i ≤ its.size → ys.length = i → (h'.IsListIter I ax i ∧ h'.IsList ax its) → Fr h₀ L h' m → h'.Ns H2.objs.size m' → News h₀ L h' ((s₂.heap.objs.size, lst ys) :: news') →
        Off3 I H2.objs.size s₂.heap.objs.size news' → SrcAt h₀ ax its news' → J lo i ys news' → z (its.size + 1 - i) { s₂ with heap := h', toks := tk }) → z k s') ?_ (its.size + 1)
      (fun z k => k h₁ _ lo₀ 0 [] _ news (Nat.le_trans hlo (Nat.le_add_right _ _)) (Nat.zero_le _) rfl hst₁ (F.keeps old) hns₁ (all_cons ⟨hacc, hDL, hD₀⟩ fun p hp => ⟨old _ _ (N p hp).1, (N p hp).2⟩) off₀ hS hJ)
    · intro k s' hJ0
      apply hJ0
      clear hJ0
      intro h' tk lo i ys m' news' hlt0 hi hyl hst' F' hn' N' off' hS' J'
      have off3 := off'.mem
      by_cases hlt : i < its.size
      · refine wpAny_toks (W.item i _ _ _ hlt hst' fun v h₂ tk₂ hPv hst₂ hk₂ htk₂ => ?_)
        apply turn lo i v ys news' hPv J'
        intro t ot v₁ v₂ v₃ nt hmt hct hdt R''
        have N₂ : News h₀ L h₂ ((s₂.heap.objs.size, lst ys) :: news') := news_but N' hk₂ (all_cons (Ne.symm hDI) fun p hp => (off3 p hp).1)
        have ht : IsTup h₂ t #[v₁, v₂, v₃] := ⟨ot, (N₂ _ (List.mem_cons_of_mem _ hmt)).1, hct, nt, hdt⟩
        refine wpAny_letOwnedTupleGo_listiter hst₂.1 ?_
        refine assign_Tuple_tuple hh ht rfl rfl fun h₅ he => ?_
        have he' : ∀ b o, h₂.get? b = some o → h₅.get? b = some o := fun b o e => he b o (Nat.ne_of_lt (Heap.lt_size e)) e
        refine assignInOrder_cons (wpAny_assign_Name (wpAny_storeName_local (lookup_relabel_local hx₁) ((hn'.at' fun o e => hk₂ _ o (by simpa using Ne.symm hCI) e).at' fun o e => he' _ o e) (fun h₆ hn₆ hs₆ => ?_) (by simp [compEnvC, relabel, hkind])))
        refine assignInOrder_cons (wpAny_assign_Name (wpAny_storeName_local (lookup_relabel_local hx₂) hn₆ (fun h₇ hn₇ hs₇ => ?_) (by simp [compEnvC, relabel, hkind])))
        refine assignInOrder_cons (wpAny_assign_Name (wpAny_storeName_local (lookup_relabel_local hx₃) hn₇ (fun h₃ hn₃ hs₃ => ?_) (by simp [compEnvC, relabel, hkind])))
        refine assignInOrder_nil ?_
        have old3 : ∀ b o, b ≠ H2.objs.size → h₂.get? b = some o → h₃.get? b = some o := fun b o hb e => hs₃.extBut b o hb (hs₇.extBut b o hb (hs₆.extBut b o hb (he' b o e)))
        have hst₃ : h₃.IsListIter I ax (i + 1) ∧ h₃.IsList ax its := W.frame _ _ _ hst₂ fun b hb o e => old3 b o (below b (inFp b hb)).1 e
        obtain ⟨oI, heI, _⟩ := id hst₃.1
        obtain ⟨oC, heC, hoC⟩ := ns_obj hn₃
        have F₃ : Fr h₀ L h₃ m := ((((fr_but F' hk₂ hIL hI₀).keeps he').change hs₆ hCL hC₀).change hs₇ hCL hC₀).change hs₃ hCL hC₀
        have N₃ : News h₀ L h₃ ((I, oI) :: (H2.objs.size, oC) :: (s₂.heap.objs.size, lst ys) :: news') := all_cons ⟨heI, Ne.symm hIL, hI₀⟩ (all_cons ⟨heC, hCL, hC₀⟩ fun p hp =>
          ⟨old3 _ _ (all_cons (R := fun p => p.1 ≠ H2.objs.size) hDC (fun p hp => (off3 p hp).2.1) p hp) (N₂ p hp).1, (N₂ p hp).2⟩)
        refine wpAny_mono (R'' I oI H2.objs.size oC s₂.heap.objs.size _ h₃ _ _ hoC (by simp [h12, h13]) (by simp [h23]) (by simp) (by first | exact Nat.le_trans hlt0 htk₂ | (dsimp only at *; omega)) F₃ N₃ off' ⟨hCI, hDI, Ne.symm hDC⟩) (fun y s₄ h₄ => ?_) fun _ _ e => e
        apply h₄
        clear h₄
        intro h₄ tk₄ news₄ F₄ N₄ off₄ hS₄ R₄
        have zI := (N₄ (I, oI) List.mem_cons_self).1
        have zC := (N₄ (H2.objs.size, oC) (List.mem_cons_of_mem _ List.mem_cons_self)).1
        have zD := (N₄ (s₂.heap.objs.size, lst ys) (List.mem_cons_of_mem _ (List.mem_cons_of_mem _ List.mem_cons_self))).1
        have N₄' : News h₀ L h₄ news₄ := fun p hp => N₄ p (List.mem_cons_of_mem _ (List.mem_cons_of_mem _ (List.mem_cons_of_mem _ hp)))
        have hst₄ : h₄.IsListIter I ax (i + 1) ∧ h₄.IsList ax its := list_st _ _ _ _ _ hst₃ heI zI F₄.keep N₄' hS₄
        refine append_at (hsz := by show ys.toArray.size ≤ sizeLine; rw [List.size_toArray, hyl]; exact Nat.le_trans hi hsz) zD fun h₅ hs₅ hD₅ => ?_
        have off4 := off₄.mem
        exact ⟨its.size + 1 - (i + 1), by omega, fun z k => k h₅ tk₄ tk₄ (i + 1) (ys ++ [y]) _ news₄ (Nat.le_refl _) hlt (by rw [List.length_append, List.length_singleton, hyl]) (W.frame _ _ _ hst₄ fun b hb o e => hs₅.extBut b o (below b (inFp b hb)).2 e) (F₄.change hs₅ hDL hD₀)
          ((hoC.ns zC).sameBut hs₅ (Ne.symm hDC)) (all_cons ⟨hD₅.trans (congrArg some (lst_snoc ys y)), hDL, hD₀⟩ fun p hp => ⟨hs₅.extBut _ _ (off4 p hp).2.2 (N₄' p hp).1, (N₄' p hp).2⟩) off₄ hS₄ R₄⟩
      · obtain rfl : i = its.size := Nat.le_antisymm hi (Nat.not_lt.mp hlt)
        refine wpAny_toks (W.done _ _ _ hst' fun h₂ tk₂ hk₂ htk₂ => ?_)
        exact hRR _ _ h₂ tk₂ _ lo ys news' (Nat.le_trans hlt0 htk₂) (fr_but F' hk₂ hIL hI₀) (news_but N' hk₂ (all_cons (Ne.symm hDI) fun p hp => (off3 p hp).1)) off'.one (hn'.at' fun o e => hk₂ _ o (by simpa using Ne.symm hCI) e) hC₀ hD₀ hCL hDL (Ne.symm hDC) (fun p hp => (off3 p hp).2.1) J'
  exact codeAny_compStart_list (loop _ rfl) (W.self 0 _ _ _ hst₁ (loop _ rfl))
/-- what a source must bring -/
noncomputable def Src3 (prog : Program) (w : World) (A : Around) (h₀ : Heap) (L : Addr) (m : Str → Option Value) (env : Env) (elt : PySem.Expr) (x₁ x₂ x₃ : Str) (scope : Scope) (cl : List (Str × Addr)) (Q : Value → Shared → Prop) (xv : Value) (s₁ : Shared) : Prop :=
  ∀ z : Value → Prop, (∀ ax its news J, A.handled = none → Fr h₀ L s₁.heap m → News h₀ L s₁.heap news → SrcAt h₀ ax its news → its.size ≤ sizeLine → J s₁.toks 0 [] news →
    (∀ g, Turn3 prog w A h₀ L m env elt x₁ x₂ x₃ scope cl { s₁ with heap := g } (SrcAt h₀ ax its) its J) → (∀ g lo ys nw, J lo its.size ys nw → FinK h₀ L m { s₁ with heap := g } Q lo ys nw) → z (.ref ax)) → z xv
theorem ListComp3 {elt iter : PySem.Expr} {x₁ x₂ x₃ : Str} {p₁ p₂ p₃ tp : Pos} {tk} {scope : Scope} {cl : List (Str × Addr)} {pos : Pos} {Q : Value → Shared → Prop} (F₀ : Fr h₀ L s.heap m)
    (hclos : closureFor scope env = pure cl) (hcell : ∀ y ∈ scope.names, y.2 ≠ .cell) (hkind : scope.kind = .function)
    (hnames : ∀ y ∈ scope.names, y.2 = .local → scope.names.lookup y.1 = some .local) (hx₁ : scope.names.lookup x₁ = some .local) (hx₂ : scope.names.lookup x₂ = some .local) (hx₃ : scope.names.lookup x₃ = some .local) (h12 : x₁ ≠ x₂) (h13 : x₁ ≠ x₃) (h23 : x₂ ≠ x₃)
    (h : wpAny (model prog w) A (eval iter env) (Src3 prog w A h₀ L m env elt x₁ x₂ x₃ scope cl Q) E s)
    (hs : ∀ x, foldedSetIterable iter env x = pure x := by intro _; rfl) :
    wpAny (model prog w) A (eval (.ListComp elt [⟨.Tuple [.Name x₁ p₁, .Name x₂ p₂, .Name x₃ p₃] tk tp, iter, [], 0⟩] scope pos) env) Q E s := by
  rw [eval_ListComp]
  refine wpAny_comprehension_free (use := none) rfl hs hclos hkind hnames (wpAny_mono h (fun xv s₁ h₁ => ?_) fun _ _ e => e)
  apply h₁
  clear h₁
  intro ax its news J hh F N S hsz hJ turn fin
  have hl := S.list F.keep N
  have hlt : ax < s₁.heap.objs.size := by obtain ⟨_, e, _⟩ := hl; exact Heap.lt_size e
  refine wpAny_pyIter_list hl ?_
  have up : ∀ b o, s₁.heap.get? b = some o → (s₁.heap.push { cls := .type "list_iterator", data := .fields #[.ref ax, .int 0 0] }).get? b = some o := fun b o e => Heap.get?_push_of_some _ e
  have hsize : (s₁.heap.push { cls := .type "list_iterator", data := .fields #[.ref ax, .int 0 0] }).objs.size = s₁.heap.objs.size + 1 := Heap.size_push ..
  refine block3 (J := J) (Nat.ne_of_lt hlt) hh hsz hcell hkind hx₁ hx₂ hx₃ h12 h13 h23 ⟨⟨_, Heap.get?_push_size _ rfl, rfl, rfl⟩, hl.push _⟩ (by show _ < (s₁.heap.push _).objs.size; rw [hsize]; exact Nat.lt_succ_self _) (by show _ < (s₁.heap.push _).objs.size; rw [hsize]; exact Nat.lt_succ_of_lt hlt)
    (F.keeps up) (N.grown up) (Nat.ne_of_lt F.ns.lt) (next_is_new F) (fun p hp => Nat.ne_of_lt (Heap.lt_size (N p hp).1)) S (Nat.le_refl _) hJ (turn _) ?_
  intro D C h tk m' lo ys news' hlo F' N' o1 hn hC₀ hD₀ hCL hDL hCD offC hfin
  exact ⟨m', hn, fun h'' hs'' => fin s₁.heap lo ys news' hfin D h'' tk hlo (F'.change hs'' hCL hC₀) (fun p hp => ⟨hs''.extBut _ _ (all_cons (R := fun p => p.1 ≠ C) (Ne.symm hCD) offC p hp) (N' p hp).1, (N' p hp).2⟩) o1⟩
end
end Mine
end
-- C_rows
section
open PySem PySem.W PyProof.Rows
namespace Mine
theorem none_Crows : True := by
  k_with_none
  w_top off
  trivial
noncomputable abbrev Row := Int × Int × Int × Int
inductive RowIn (news : Led) : Value → Row → Prop
  | mk {D : Addr} {a b c d : Int} {t1 t2 t3 t4 : Tok} : (D, ({ cls := .type "tuple", data := .seq #[.int a t1, .int b t2, .int c t3, .int d t4] } : Obj)) ∈ news → RowIn news (.ref D) (a, b, c, d)
theorem RowIn.mono {news news' : Led} {v : Value} {r : Row} (h : RowIn news v r) (hs : ∀ p ∈ news, p ∈ news') : RowIn news' v r := by
  cases h with | mk h => exact .mk (hs _ h)
/-- one row more -/
noncomputable def rowNext (rs : List Row) (x : Int) : List Row :=
  rs ++ [(match rs.getLast? with | none => 0 | some r => if r.1 + 1 < x.fmod 4 then r.1 + 1 else x.fmod 4, 1 + (x.fdiv 4).fmod 15, (x.fdiv 60).fmod 2, (x.fdiv 120).fmod 3)]
noncomputable def rowsF (ns : List Int) : List Row := ns.foldl rowNext []
theorem rowsF_snoc (ns : List Int) (x : Int) : rowsF (ns ++ [x]) = rowNext (rowsF ns) x := by simp [rowsF, List.foldl_append]
theorem rowsF_length (ns : List Int) : (rowsF ns).length = ns.length := by
  have : ∀ (ns : List Int) (rs : List Row), (ns.foldl rowNext rs).length = rs.length + ns.length := by
    intro ns
    induction ns with
    | nil => intro rs; simp
    | cons x ns ih => intro rs; rw [List.foldl_cons, ih]; simp [rowNext]; omega
  rw [rowsF, this]; simp
inductive IntsArg (news : Led) : List Value → List Int → Prop
  | mk {a : Addr} {vs : List Value} {ns : List Int} {n : Nat} : (a, listOf vs.toArray n) ∈ news → IntsAre vs ns → IntsArg news [.ref a] ns
/-- a made list -/
inductive ListIn {α : Type} (R : Led → Value → α → Prop) (news : Led) : Value → List α → Prop
  | mk {D : Addr} {us : List Value} {n : Nat} {as : List α} : (D, listOf us.toArray n) ∈ news → All2 (R news) us as → ListIn R news (.ref D) as
structure rowsOk (d : List Int) : Prop where
  len : d.length ≤ 8
  lo : ∀ x ∈ d, 0 ≤ x
  hi : ∀ x ∈ d, x < 1000000
noncomputable abbrev rowsT : Told2 (List Int) where
  Rel := IntsArg
  Ok := rowsOk
  size := fun _ => 1
  Out := fun news v d => ListIn RowIn news v (rowsF d)
noncomputable def rowsJ (D : Addr) (news : Led) (d : List Int) (i : Nat) (m : Str → Option Value) (nx : Led) : Prop :=
  ∀ z : Led → Prop, (∀ us n tl, (∀ p ∈ tl, D < p.1) → All2 (RowIn tl) us (rowsF (d.take i)) → m (Str.ofString "rows") = some (.ref D) → z ((D, listOf us.toArray n) :: (news ++ tl))) → z nx
theorem rows_turn {d : List Int} (ok : rowsOk d) {vs : List Value} (h : IntsAre vs d) {i : Nat} {v : Value} (hv : vs[i]? = some v) {z : Value → Prop} (k : ∀ x t, 0 ≤ x → x < 1000000 → rowsF (d.take (i + 1)) = rowNext (rowsF (d.take i)) x → z (.int x t)) : z v := by
  have hi : i < vs.length := (List.getElem?_eq_some_iff.mp hv).1
  rw [h.length] at hi
  obtain ⟨t, hx⟩ := h.get i (d[i]'hi) (List.getElem?_eq_getElem hi)
  rw [hx] at hv
  cases hv
  refine k _ t (ok.lo _ (List.getElem_mem hi)) (ok.hi _ (List.getElem_mem hi)) ?_
  rw [← rowsF_snoc, List.take_add_one, List.getElem?_eq_getElem hi]
  rfl
theorem rows_small {d : List Int} (ok : rowsOk d) {tl : Led} {us : List Value} {i : Nat} (h : All2 (RowIn tl) us (rowsF (d.take i))) : us.length < 1000 := by
  have h8 := ok.len
  rw [h.length, rowsF_length, List.length_take]
  exact Nat.lt_of_le_of_lt (Nat.le_trans (Nat.min_le_right _ _) h8) (by decide)
theorem rows_last {tl : Led} {us : List Value} {rs : List Row} (h : All2 (RowIn tl) us rs) {G : List Value → Prop} (h1 : rs = [] → G []) (h2 : ∀ (b : Addr) (r1 r2 r3 r4 : Int) (t1 t2 t3 t4 : Tok), us.getLast? = some (.ref b) → 0 < us.length → (b, ({ cls := .type "tuple", data := .seq #[.int r1 t1, .int r2 t2, .int r3 t3, .int r4 t4] } : Obj)) ∈ tl → rs.getLast? = some (r1, r2, r3, r4) → G us) : G us := by
  rcases List.eq_nil_or_concat rs with hr | ⟨qs, r, hr⟩
  · rw [hr] at h
    cases h
    exact h1 hr
  · rw [List.concat_eq_append] at hr
    rw [hr] at h
    obtain ⟨us0, v0, rfl, hall0, hr0⟩ := h.last
    cases hr0
    rename_i b0 r1 r2 r3 r4 e1 e2 e3 e4 hb0
    exact h2 _ _ _ _ _ _ _ _ _ (by simp) (by simp) hb0 (by rw [hr]; simp)
set_option maxRecDepth 100000 in
set_option maxHeartbeats 1000000 in
theorem rows_tells (w : World) (mean : ExcName → Option Value) (mg mb : Str → Option Value) (d : List Int) : Tells2 P w (hd.heap_39 w.params) hd.view_39 Lo mean mg mb (115) rowsT d := by
  unfold Tells2
  intro dp un gd cn cs a ccd cl outer A₀ base h₀ L m news s vs Q E B F X N T hk hR hok hd hu hret
  cases hR
  rename_i la lvs ln hla hli
  have o1 := hok.len
  dsimp only [rowsT] at hd hu hret
  refine wpAny_call ?_
  k_dflt ktr_enter
  k_with "pyIter ref" => refine halt ?_
  k_steps
  k_with_none
  rename_i g' L' h1 FG B' X' T' D' h2 hD h3 F' N'
  show wpAny _ _ _ _ _ _
  have hlen : lvs.length = d.length := hli.length
  refine kdl_iter (news := (D', listOf [].toArray 0) :: news) (rowsJ D' news d) rfl (List.Mem.tail _ hla) F' N' (fun z k => (List.append_nil news) ▸ k [] 0 [] all_nil All2.nil rfl) ?_ ?_
  · intro i v m1 nx h tk' own hv hown hl hJ Ft Nt
    revert hown hl Nt
    apply hJ
    clear hJ nx
    revert Ft
    apply rows_turn hok hli hv
    clear hv v
    intro x t q1 q2 hstep Ft us n tl htl hall hm1 hown hl Nt
    have hus := rows_small hok hall
    have F9 := fr_see Ft (x := Str.ofString "rows") (v := .ref D') (by rw [if_neg (by decide)]; exact hm1)
    have km := kdMark
    have G := Grow.of hD htl hown
    clear Ft F' hown hm1 hlen
    k_with "call builtin:len" => (refine len_led (by k_asm) (by k_mem) (by assumption) ?_)
    k_with "call builtin:list.append" => (refine halt ?_)
    revert hus Nt hl
    apply rows_last hall
    · intro hr hus hl Nt
      k_steps
      rename_i T9 h9 F8 N8 l8
      refine append_grow (add := [(T9, _)]) (us := []) (tl := tl) G F8 N8 (lt_one l8) (by decide) ?_
      intro h7 F7 N7 G7
      k_steps
      refine InvEndG.intro F7 N7 ⟨.tail _ (List.mem_append.mpr (.inl hla)), fun z k => k [.ref T9] _ _ G7.htl ?_ rfl⟩ G7.off (sub_left sub_refl) (sub_right sub_refl)
      rw [hstep, hr]
      exact All2.nil.snoc (.mk (.head _))
    · intro b0 r1 r2 r3 r4 e1 e2 e3 e4 hlast hpos hb0 hrl hus hl Nt
      k_with "subscriptTail" => (refine item_led_last (by k_asm) (by k_mem) (by assumption) (by assumption) ?_)
      k_steps
      rename_i T9 h9 F8 N8 l8
      refine append_grow (add := [(T9, _)]) (tl := tl) G F8 N8 (lt_one l8) (by assumption) ?_
      intro h7 F7 N7 G7
      k_steps
      refine InvEndG.intro F7 N7 ⟨.tail _ (List.mem_append.mpr (.inl hla)), fun z k => k (us ++ [.ref T9]) _ _ G7.htl ?_ rfl⟩ G7.off (sub_left sub_refl) (sub_right sub_refl)
      rw [hstep, rowNext, hrl]
      exact (hall.mono fun v a q => q.mono (sub_tail sub_refl)).snoc (.mk (.head _))
  · intro m1 nx h tk' hJ Ft Nt
    revert Nt
    apply hJ
    clear hJ nx
    intro us n tl htl hall hm1 Nt
    have F9 := fr_see Ft hm1
    clear Ft F'
    k_with_none
    k_steps
    have hl9 : d.take lvs.length = d := by rw [hlen]; exact List.take_length
    rw [hl9] at hall
    exact hret _ ((D', _) :: tl) _ _ (by k_asm) (ktn_tl2 (by k_asm)) (fun q hq => all_cons (hD q hq) fun p hp => Nat.lt_trans (hD q hq) (htl p hp)) (.mk (.head _) (hall.mono fun v a q => q.mono (sub_tail sub_refl)))
end Mine
end
-- ToldD
section
open PySem PySem.W PyProof.Rows
namespace Mine
theorem none_ToldD : True := by
  k_with_none
  w_top off
  trivial
inductive RowsArg (news : Led) : List Value → List Row → Prop
  | mk {v : Value} {rs : List Row} : ListIn RowIn news v rs → RowsArg news [v] rs
/-- a made tuple of three floats, its tokens not 0 -/
inductive Tup3N (news : Led) : Value → F3 → Prop
  | mk {D : Addr} {a b c : UInt64} {t1 t2 t3 : Tok} : (D, tup3 a b c t1 t2 t3) ∈ news → t1 ≠ 0 → t2 ≠ 0 → t3 ≠ 0 → Tup3N news (.ref D) (a, b, c)
theorem Tup3N.mono {news news' : Led} {v : Value} {r : F3} (h : Tup3N news v r) (hs : ∀ p ∈ news, p ∈ news') : Tup3N news' v r := by
  cases h with | mk h a b c => exact .mk (hs _ h) a b c
noncomputable def tellAt (d : List Row) (k : Nat) : F3 := match d[k]? with | some r => (idiv (4 * k + r.1) 32, idiv r.2.1 16, 4607182418800017408) | none => (0, 0, 0)
noncomputable def toldF (d : List Row) : List F3 := (List.range d.length).map (tellAt d)
/-- triples, their tokens growing, below lo -/
noncomputable def ToldK (lo : Nat) (tl : Led) (ys : List Value) (fs : Nat → F3) : Prop :=
  ∃ kf : Nat → Tok, (∀ i, i < ys.length → ∃ D t2 t3, ys[i]? = some (.ref D) ∧ (D, tup3 (fs i).1 (fs i).2.1 (fs i).2.2 (kf i) t2 t3) ∈ tl ∧ @LE.le Nat _ 1 (kf i) ∧ @LT.lt Nat _ (kf i) lo ∧ @LE.le Nat _ 1 t2 ∧ @LE.le Nat _ 1 t3) ∧ ∀ i j, i < j → j < ys.length → @LT.lt Nat _ (kf i) (kf j)
theorem ToldK.nil {lo : Nat} {tl : Led} {fs : Nat → F3} : ToldK lo tl [] fs := ⟨fun _ => (0 : Nat), fun i h => absurd h (by simp), fun i j _ h => absurd h (by simp)⟩
theorem ToldK.snoc {lo lo1 hi : Nat} {tl tl' : Led} {ys : List Value} {fs : Nat → F3} {v : Value} (h : ToldK lo tl ys fs) (h1 : lo ≤ lo1) (h0 : 1 ≤ lo1) (hk : Tup3K lo1 hi tl' v (fs ys.length)) (hs : ∀ p ∈ tl, p ∈ tl'') (hs' : ∀ p ∈ tl', p ∈ tl'') : ToldK hi tl'' (ys ++ [v]) fs := by
  obtain ⟨kf, k1, k2⟩ := h
  generalize hf : fs ys.length = f at hk
  cases hk
  rename_i D a b c t1 t2 t3 hm a1 a2 a3 a4 a5 a6
  have a1 := Nat.le_of_lt a1
  have a3 := Nat.le_of_lt a3
  have a5 := Nat.le_of_lt a5
  refine ⟨fun i => if i = ys.length then t1 else kf i, fun i hi => ?_, fun i j hij hj => ?_⟩
  · by_cases e : i = ys.length
    · subst e
      refine ⟨D, t2, t3, by simp, ?_, ?_, ?_, ?_, ?_⟩
      · dsimp only; rw [hf, if_pos rfl]; exact hs' _ hm
      · dsimp only; rw [if_pos rfl]; exact Nat.le_trans h0 a1
      · dsimp only; rw [if_pos rfl]; exact a2
      · exact Nat.le_trans h0 a3
      · exact Nat.le_trans h0 a5
    · rw [List.length_append, List.length_singleton] at hi
      have hi' : i < ys.length := by omega
      obtain ⟨D, u2, u3, e1, e2, e3, e4, e5, e6⟩ := k1 i hi'
      refine ⟨D, u2, u3, by rw [List.getElem?_append_left hi']; exact e1, ?_, ?_, ?_, e5, e6⟩
      · dsimp only; rw [if_neg e]; exact hs _ e2
      · dsimp only; rw [if_neg e]; exact e3
      · dsimp only; rw [if_neg e]; exact Nat.lt_of_lt_of_le e4 (Nat.le_trans h1 (Nat.le_trans a1 (Nat.le_of_lt a2)))
  · rw [List.length_append, List.length_singleton] at hj
    by_cases e : j = ys.length
    · subst e
      dsimp only; rw [if_pos rfl, if_neg (by omega)]
      obtain ⟨_, _, _, _, _, _, e4, _, _⟩ := k1 i hij
      exact Nat.lt_of_lt_of_le e4 (Nat.le_trans h1 a1)
    · dsimp only; rw [if_neg e, if_neg (by omega)]
      exact k2 i j hij (by omega)
/-- the hues part -/
structure HueOk : Prop where
  ne : ∀ a b : Fin 32, a ≠ b → idiv a.val 32 ≠ idiv b.val 32
  cmp : ∀ a b : Fin 32, a ≠ b → (Float64.cmp (idiv a.val 32) (idiv b.val 32) == some Ordering.eq) = false
  lt : ∀ a b : Fin 32, a ≠ b → fltLt (idiv a.val 32) (idiv b.val 32) = decide (a.val < b.val)
structure toldOk (d : List Row) : Prop where
  len : d.length ≤ 8
  pos : 1 ≤ d.length
  hue : HueOk
  ok : ∀ r ∈ d, 0 ≤ r.1 ∧ r.1 ≤ 3 ∧ 1 ≤ r.2.1 ∧ r.2.1 ≤ 15 ∧ 0 ≤ r.2.2.2 ∧ r.2.2.2 ≤ 2
  fl : ∀ (i : Nat) r, d[i]? = some r → FlOk (4 * i + r.1) r.2.1 r.2.2.2
noncomputable abbrev toldT : Told2 (List Row) where
  Rel := RowsArg
  Ok := toldOk
  size := fun _ => 3
  Out := fun news v d => ListIn Tup3N news v (toldF d)
/-- the k-th colour -/
noncomputable def colAt (d : List Row) (k : Nat) : F3 := match d[k]? with | some r => hsvF (colArg (4 * k + r.1) r.2.1 r.2.2.2) | none => (0, 0, 0)
theorem Tup3.ref {news : Led} {v : Value} {r : F3} (h : Tup3 news v r) : ∃ D, v = .ref D := by
  cases h with | mk h => exact ⟨_, rfl⟩
theorem Tup3.mono {news news' : Led} {v : Value} {r : F3} (h : Tup3 news v r) (hs : ∀ p ∈ news, p ∈ news') : Tup3 news' v r := by
  cases h with | mk h => exact .mk (hs _ h)
noncomputable def toldJ (D : Addr) (R : Value) (news : Led) (d : List Row) (i : Nat) (m : Str → Option Value) (nx : Led) : Prop :=
  ∀ z : Led → Prop, (∀ (us : List Value) (n : Nat) (tl : Led), (∀ p ∈ tl, D < p.1) → All2 (Tup3 tl) us ((List.range i).map (colAt d)) → m (Str.ofString "colours") = some (.ref D) → m (Str.ofString "rows") = some R → z ((D, listOf us.toArray n) :: (news ++ tl))) → z nx
/-- what is told of the colours, from the last to the first -/
noncomputable def tellJ (bs : Led) (d : List Row) (lo i : Nat) (ys : List Value) (nw : Led) : Prop :=
  ∀ z : Led → Prop, (∀ tl : Led, (∀ q ∈ bs, ∀ p ∈ tl, q.1 < p.1) → ys.length = i → 1 ≤ lo → ToldK lo tl ys (fun j => tellAt d (d.length - 1 - j)) → z (bs ++ tl)) → z nw
theorem RowIn.use {news : Led} {v : Value} {r1 r2 r3 r4 : Int} (h : RowIn news v (r1, r2, r3, r4)) {z : Value → Prop} (k : ∀ (D : Addr) (t1 t2 t3 t4 : Tok), (D, ({ cls := .type "tuple", data := .seq #[.int r1 t1, .int r2 t2, .int r3 t3, .int r4 t4] } : Obj)) ∈ news → z (.ref D)) : z v := by
  cases h with | mk h => exact k _ _ _ _ _ h
theorem RowIn.at_ {news : Led} {vs : List Value} {rs : List Row} (h : All2 (RowIn news) vs rs) {k : Nat} (hk : k < vs.length) {G : Prop} (f : ∀ (D : Addr) (r1 r2 r3 r4 : Int) (t1 t2 t3 t4 : Tok), vs[k]? = some (.ref D) → rs[k]? = some (r1, r2, r3, r4) →
    (D, ({ cls := .type "tuple", data := .seq #[.int r1 t1, .int r2 t2, .int r3 t3, .int r4 t4] } : Obj)) ∈ news → G) : G := by
  obtain ⟨v, hv⟩ : ∃ v, vs[k]? = some v := ⟨_, List.getElem?_eq_getElem hk⟩
  obtain ⟨⟨r1, r2, r3, r4⟩, hrow, hin⟩ := h.get hv
  cases hin
  rename_i D t1 t2 t3 t4 hm
  exact f _ _ _ _ _ _ _ _ _ hv hrow hm
theorem Tup3.useRef {news : Led} {v : Value} {r : F3} (h : Tup3 news v r) {z : Value → Prop} (k : ∀ D, Tup3 news (.ref D) r → z (.ref D)) : z v := by
  cases h with | mk h => exact k _ (.mk h)
theorem Tup3.useMem {news : Led} {v : Value} {r : F3} (h : Tup3 news v r) {z : Value → Prop} (k : ∀ (D : Addr) (a b c : UInt64) (t1 t2 t3 : Tok), r = (a, b, c) → (D, ({ cls := .type "tuple", data := .seq #[.float a t1, .float b t2, .float c t3] } : Obj)) ∈ news → z (.ref D)) : z v := by
  cases h with | mk h => exact k _ _ _ _ _ _ _ rfl h
theorem told_len {news : Led} {us : List Value} {d : List Row} {i : Nat} (h : All2 (Tup3 news) us ((List.range i).map (colAt d))) : us.length = i := by rw [h.length]; simp
theorem tellAt_fl {d : List Row} (o3 : ∀ (i : Nat) r, d[i]? = some r → FlOk (4 * i + r.1) r.2.1 r.2.2.2) {k : Nat} (hk : k < d.length) : rgbF (colAt d k) = tellAt d k := by
  obtain ⟨r, hr⟩ : ∃ r, d[k]? = some r := ⟨_, List.getElem?_eq_getElem hk⟩
  unfold colAt tellAt
  rw [hr]
  exact (o3 k r hr).val
theorem blk_ne {x y a : Nat} (h : x ≠ y) (a1 : 4 * x ≤ a) (a2 : a < 4 * x + 4) (b1 : 4 * y ≤ a) (b2 : a < 4 * y + 4) : False := by omega
theorem blk_lt {x y a b : Nat} (h : x ≠ y) (a1 : 4 * x ≤ a) (a2 : a < 4 * x + 4) (b1 : 4 * y ≤ b) (b2 : b < 4 * y + 4) : a < b ↔ x < y := by omega
theorem rev_lt {n i j : Nat} (hi : i < n) (hj : j < n) : n - 1 - i < n - 1 - j ↔ j < i := by omega
theorem rev_rev {n i : Nat} (hi : i < n) : n - 1 - (n - 1 - i) = i := by omega
theorem hues_of {bs tl : Led} {d : List Row} {lo : Nat} {ys : List Value} (hd : ys.length = d.length) (h8 : d.length ≤ 8) (H : HueOk) (hb : ∀ r ∈ d, 0 ≤ r.1 ∧ r.1 ≤ 3) (h : ToldK lo tl ys (fun j => tellAt d (d.length - 1 - j))) :
    ∃ hue k, Hues (bs ++ tl) ys hue k := by
  obtain ⟨kf, k1, k2⟩ := h
  have hA : ∀ i, i < ys.length → ∃ a : Fin 32, (tellAt d (d.length - 1 - i)).1 = idiv a.val 32 ∧ 4 * (d.length - 1 - i) ≤ a.val ∧ a.val < 4 * (d.length - 1 - i) + 4 := by
    intro i hi
    obtain ⟨r, hr⟩ : ∃ r, d[d.length - 1 - i]? = some r := ⟨_, List.getElem?_eq_getElem (by omega)⟩
    obtain ⟨b1, b2⟩ := hb r (List.mem_of_getElem? hr)
    refine ⟨⟨4 * (d.length - 1 - i) + r.1.toNat, by omega⟩, ?_, by simp, by simp; omega⟩
    unfold tellAt
    rw [hr]
    dsimp only
    congr 1
    omega
  have kk : ∀ i j, i < ys.length → j < ys.length → i ≠ j → kf i ≠ kf j := by
    intro i j hi hj hij
    rcases Nat.lt_or_gt_of_ne hij with h | h
    · exact Nat.ne_of_lt (k2 i j h hj)
    · exact Nat.ne_of_gt (k2 j i h hi)
  refine ⟨fun i => (tellAt d (d.length - 1 - i)).1, kf, ?_, ?_, kk, ?_, ?_, ?_⟩
  · intro i hi
    obtain ⟨D, t2, t3, e1, e2, _⟩ := k1 i hi
    exact ⟨D, _, _, t2, t3, e1, List.mem_append.mpr (.inr e2)⟩
  · intro i hi
    obtain ⟨D, t2, t3, e1, e2, e3, _⟩ := k1 i hi
    exact Nat.ne_of_gt e3
  all_goals
    intro i j hi hj hij
    obtain ⟨a, ea, a1, a2⟩ := hA i hi
    obtain ⟨b, eb, b1, b2⟩ := hA j hj
    have hxy : d.length - 1 - i ≠ d.length - 1 - j := fun e => hij (by rw [← rev_rev (n := d.length) (i := i) (hd ▸ hi), e, rev_rev (n := d.length) (i := j) (hd ▸ hj)])
    have hab : a ≠ b := fun e => blk_ne hxy a1 a2 (e ▸ b1) (e ▸ b2)
    rw [ea, eb]
  · exact H.ne a b hab
  · exact H.cmp a b hab
  · rw [H.lt a b hab]
    exact decide_eq_decide.mpr ((blk_lt hxy a1 a2 b1 b2).trans (rev_lt (hd ▸ hi) (hd ▸ hj)))
theorem told_all {bs tl : Led} {d : List Row} {lo : Nat} {ys : List Value} (hd : ys.length = d.length) (h : ToldK lo tl ys (fun j => tellAt d (d.length - 1 - j))) : All2 (Tup3N tl) ys.reverse (toldF d) := by
  obtain ⟨kf, k1, k2⟩ := h
  have key : ∀ (n : Nat) (zs : List Value) (gs : Nat → F3), zs.length = n → (∀ i, i < n → ∃ v, zs[i]? = some v ∧ Tup3N tl v (gs i)) → All2 (Tup3N tl) zs ((List.range n).map gs) := by
    intro n
    induction n with
    | zero => intro zs gs hz _; rw [List.length_eq_zero_iff.mp hz]; exact .nil
    | succ n ih =>
      intro zs gs hz hg
      obtain ⟨z, zs', rfl⟩ : ∃ z zs', zs = z :: zs' := by
        cases zs with
        | nil => simp at hz
        | cons z zs' => exact ⟨_, _, rfl⟩
      rw [List.range_succ_eq_map, List.map_cons, List.map_map]
      obtain ⟨v, e, hv⟩ := hg 0 (by omega)
      have e' : z = v := by simpa using e
      subst e'
      refine .cons hv (ih zs' (gs ∘ Nat.succ) (by simpa using hz) fun i hi => ?_)
      obtain ⟨v, e, hv⟩ := hg (i + 1) (by omega)
      exact ⟨v, by simpa using e, hv⟩
  refine key d.length ys.reverse (tellAt d) (by rw [List.length_reverse, hd]) fun i hi => ?_
  obtain ⟨D, t2, t3, e1, e2, e3, e4, e5, e6⟩ := k1 (d.length - 1 - i) (by omega)
  refine ⟨.ref D, by rw [List.getElem?_reverse (by omega), hd]; exact e1, ?_⟩
  have : d.length - 1 - (d.length - 1 - i) = i := rev_rev hi
  simp only [this] at e2
  exact .mk e2 (Nat.ne_of_gt e3) (Nat.ne_of_gt e5) (Nat.ne_of_gt e6)
theorem tell_turn {d : List Row} (o3 : ∀ (i : Nat) r, d[i]? = some r → FlOk (4 * i + r.1) r.2.1 r.2.2.2) {tl : Led} {us : List Value} (hul : us.length = d.length) (hall : All2 (Tup3 tl) us ((List.range d.length).map (colAt d))) {i : Nat} {v : Value} (hv : us.reverse.toArray[i]? = some v) {z : Value → Prop}
    (f : ∀ (D : Addr) (a b c : UInt64) (t1 t2 t3 : Tok), (D, ({ cls := .type "tuple", data := .seq #[.float a t1, .float b t2, .float c t3] } : Obj)) ∈ tl → rgbOk (a, b, c) → rgbF (a, b, c) = tellAt d (d.length - 1 - i) → z (.ref D)) : z v := by
  have hi : i < us.length := by
    have := (Array.getElem?_eq_some_iff.mp hv).1
    simpa using this
  have hv2 : us[us.length - 1 - i]? = some v := by
    have : us.reverse[i]? = some v := by simpa using hv
    rwa [List.getElem?_reverse hi] at this
  obtain ⟨c, hc, hin⟩ := hall.get hv2
  rw [hul] at hc hi
  have hcc : c = colAt d (d.length - 1 - i) := by
    rw [List.getElem?_map, List.getElem?_range (by omega)] at hc
    exact (Option.some.inj hc).symm
  have hcv : rgbF c = tellAt d (d.length - 1 - i) := by rw [hcc]; exact tellAt_fl o3 (by omega)
  obtain ⟨row, hrow⟩ : ∃ r, d[d.length - 1 - i]? = some r := ⟨_, List.getElem?_eq_getElem (by omega)⟩
  have hf := o3 _ _ hrow
  have hok : rgbOk c := by
    rw [hcc]
    unfold colAt
    rw [hrow]
    exact hf.ok2
  cases hin
  rename_i t9 ca cb cc q1 q2 q3 hmem
  exact f _ _ _ _ _ _ _ hmem hok hcv
theorem sorted_told {prog : Program} {w : World} {A : Around} {E : Value → Shared → Prop} {s : Shared} {g : Heap} {L D : Addr} {m : Str → Option Value} {bs tl2 : Led} {ys : List Value} {d : List Row} {lo : Nat} {Q : Value → Shared → Prop} (F8 : Fr g L s.heap m) (N8 : News g L s.heap ((D, LCg.lst ys) :: (bs ++ tl2))) (hyl : ys.length = d.length) (h8 : d.length ≤ 8) (h1 : 1 ≤ d.length) (H : HueOk)
    (hb : ∀ r ∈ d, 0 ≤ r.1 ∧ r.1 ≤ 3 ∧ 1 ≤ r.2.1 ∧ r.2.1 ≤ 15 ∧ 0 ≤ r.2.2.2 ∧ r.2.2.2 ≤ 2) (hys : ToldK lo tl2 ys (fun j => tellAt d (d.length - 1 - j)))
    (hQ : ∀ D9 c9 h9, Fr g L h9 m → News g L h9 ((D9, listOf ys.reverse.toArray c9) :: (D, LCg.lst ys) :: (bs ++ tl2)) → (∀ q ∈ (D, LCg.lst ys) :: (bs ++ tl2), q.1 < D9) → Q (.ref D9) { s with heap := h9 }) :
    wpAny (model prog w) A (call (.builtin "sorted") [.ref D]) Q E s := by
  obtain ⟨hue, kf, HH⟩ := hues_of (bs := bs) hyl h8 H (fun r hr => ⟨(hb r hr).1, (hb r hr).2.1⟩) hys
  have hmD : s.heap.IsList D ys.toArray := ⟨_, (N8 _ (.head _)).1, rfl, _, rfl⟩
  by_cases h2 : 2 ≤ ys.length
  · exact sorted_rev F8 N8 hmD h2 (by rw [hyl]; exact h8) ⟨fun i hi => (HH.mem i hi).imp fun D h => h.imp fun b h => h.imp fun c h => h.imp fun t2 h => h.imp fun t3 h => ⟨h.1, .tail _ h.2⟩, HH.k0, HH.kk, HH.ne, HH.cmp, HH.lt⟩ hQ
  · obtain ⟨v1, hv1⟩ : ∃ v1, ys = [v1] := by
      match ys, h2, hyl with
      | [v1], _, _ => exact ⟨_, rfl⟩
      | [], _, hyl => simp at hyl; omega
      | _ :: _ :: _, h2, _ => simp at h2
    subst hv1
    exact sorted_one F8 N8 hmD hQ
end Mine
end
-- C_told
section
open PySem PySem.W PyProof.Rows
namespace Mine
theorem none_Ctold : True := by
  k_with_none
  w_top off
  trivial
local macro_rules | `(tactic| k_room) => `(tactic| ktr_room)
local macro_rules | `(tactic| walk_at "subscriptTail Name Slice ref ref") => `(tactic| (k_dflt (refine' krv_lit (its := List.toArray _) ?F ?N ?l ?k rfl ?_ ?s ?t ?z; (case F => k_asm); (case N => k_asm); (case l => exact isList_led (by k_asm) (by exact List.Mem.head _)); (case k => exact IsPart.int _ _); (case s => with_unfolding_all rfl); (case t => kmk_pure); (case z => (rw [List.size_toArray, sizeLine_eq]; omega))); intro D5 h5 F5 N5 l5))
set_option maxRecDepth 100000 in
set_option maxHeartbeats 4000000 in
theorem told_tells (w : World) (mean : ExcName → Option Value) (mg mb : Str → Option Value) (d : List Row) : Tells2 P w (hd.heap_39 w.params) hd.view_39 Lo mean mg mb (120) toldT d := by
  unfold Tells2
  intro dp un gd cn cs a ccd cl outer A₀ base h₀ L m news s vs Q E B F X N T hk hR hok hd hu hret
  obtain ⟨hR⟩ := hR
  cases hR
  rename_i ra rvs rn hra hrall
  obtain ⟨o1, o0, o4, o2, o3⟩ := hok
  dsimp only [toldT] at hd hu hret
  refine wpAny_call ?_
  k_dflt ktr_enter
  have hrl : rvs.length = d.length := hrall.length
  have hrl2 : rvs.length < 1000 := by omega
  have o1' := Flt.Hid.mk o1
  clear o1
  k_with "pyIter ref" => refine halt ?_
  k_with "call builtin:len" => (refine len_led (by k_asm) (List.Mem.tail _ hra) (by assumption) ?_)
  k_steps
  k_with_none
  rename_i g' L' h1 FG B' X' T' D' h2 hD h3 F0 N0 h4 tk1 t1 t2 t3 hrange F' N' hkeep
  show wpAny _ _ _ _ _ _
  clear F0 N0 hkeep
  refine iter_range (toldJ D' (.ref ra) news d) rfl hrange (by omega) F' N' (fun z k => (List.append_nil news) ▸ k [] 0 [] all_nil All2.nil rfl rfl) ?_ ?_
  · intro i t m1 nx h tk' own hi hown hJ Ft Nt
    revert hown Nt
    apply hJ
    clear hJ nx
    intro us n tl htl hall e1 e2 hown Nt
    k_fold
    have F9 := fr_see2 Ft (x1 := Str.ofString "colours") (x2 := Str.ofString "rows") (by rw [if_neg (by decide)]; exact e1) (by rw [if_neg (by decide)]; exact e2)
    have km := kdMark
    have G := Grow.of hD htl hown
    have hra9 : (ra, listOf rvs.toArray rn) ∈ (D', listOf us.toArray n) :: (news ++ tl) ++ own := List.mem_append.mpr (.inl (.tail _ (List.mem_append.mpr (.inl hra))))
    clear Ft F' N' hown e1 e2
    apply RowIn.at_ hrall (k := i) (by omega)
    intro Dr ra1 ra2 ra3 ra4 q1 q2 q3 q4 hvr hrow hmr
    have hf := o3 i _ hrow
    have hb := o2 _ (List.mem_of_getElem? hrow)
    dsimp only at hb
    have hb1 := hb.1
    have hb2 := hb.2.1
    have hb3 := hb.2.2.1
    have hb4 := hb.2.2.2.1
    have hb5 := hb.2.2.2.2.1
    have hb6 := hb.2.2.2.2.2
    clear hb
    have f1 := hf.i1
    have f2 := hf.i2
    have fok := hf.ok1
    dsimp only at f1 f2 fok
    unfold idiv at f1 f2
    have f3 : ra4.natAbs < 2 ^ 1024 - 2 ^ 970 := Nat.lt_trans (show ra4.natAbs < 1000 by omega) (by decide +kernel)
    have hul9 : us.length < 1000 := by rw [told_len hall]; omega
    k_with "subscriptTail" => (refine item_at (by k_asm) hra9 hvr (by omega) ?_)
    k_with "eval IfExp" => (refine halt ?_)
    k_steps
    k_with_none
    show wpAny _ _ _ _ _ _
    rename Fr _ _ _ _ => FX
    rename News _ _ _ _ => NX
    refine cutFN FX NX (fun m led z => ∀ (D9 : Addr) (tl9 : Led) (h9 : Heap) (tk9 : Nat), Fr g' L' h9 m → News g' L' h9 (led ++ tl9) → (∀ q ∈ led, ∀ p ∈ tl9, q.1 < p.1) → Tup3 tl9 (.ref D9) (colAt d i) → z (.ref D9) { s with heap := h9, toks := tk9 }) ?_ ?_
    · intro zz hzz
      k_with "call ref" => (refine halt ?_)
      have hca : colAt d i = hsvF (colArg (4 * ↑i + ra1) ra2 ra4) := by unfold colAt; rw [hrow]
      k_steps
      all_goals show wpAny _ _ _ _ _ _
      · rename ra2 ≤ 8 => hle
        have hcol : colArg (4 * ↑i + ra1) ra2 ra4 = (_, _, _) := if_pos hle
        k_dflt (refine tells2_use (hsv_tells w mean mg mb (colArg (4 * ↑i + ra1) ra2 ra4)) (by k_asm) (by k_asm) (by k_asm) (by k_asm) (by k_asm) rfl (by rw [hcol]; exact Arg3.mk) fok (by ktr_room) (by ktr_units) ?_)
        intro r9 tl9 h9 tk9 F8 N8 hl9 ho9
        have ho8 : Tup3 tl9 r9 (colAt d i) := hca ▸ ho9
        apply Tup3.useRef ho8
        intro D9 ho7
        exact hzz D9 tl9 h9 tk9 F8 N8 hl9 ho7
      · rename ¬ ra2 ≤ 8 => hle
        have hcol : colArg (4 * ↑i + ra1) ra2 ra4 = (_, _, _) := if_neg hle
        k_dflt (refine tells2_use (hsv_tells w mean mg mb (colArg (4 * ↑i + ra1) ra2 ra4)) (by k_asm) (by k_asm) (by k_asm) (by k_asm) (by k_asm) rfl (by rw [hcol]; exact Arg3.mk) fok (by ktr_room) (by ktr_units) ?_)
        intro r9 tl9 h9 tk9 F8 N8 hl9 ho9
        have ho8 : Tup3 tl9 r9 (colAt d i) := hca ▸ ho9
        apply Tup3.useRef ho8
        intro D9 ho7
        exact hzz D9 tl9 h9 tk9 F8 N8 hl9 ho7
    · intro D9 tl9 h9 tk9 F8 N8 hl9 ho9
      k_with_none
      k_with "call builtin:list.append" => (refine append_grow (add := tl9) G (by k_asm) (news_swap _ N8) (fun q hq p hp => hl9 p hp q hq) hul9 ?_; intro h7 F7 N7 G7)
      k_steps
      refine InvEndG.intro F7 N7 (fun z k => k (us ++ [.ref D9]) (n + 1) (tl9 ++ tl) G7.htl ?_ rfl rfl) G7.off (sub_left sub_refl) (sub_right sub_refl)
      rw [List.range_succ, List.map_append]
      exact (hall.mono fun v a q => q.mono (sub_right sub_refl)).snoc (ho9.mono (sub_left sub_refl))
  · intro m1 nx h tk' hJ Ft Nt
    revert Nt
    apply hJ
    clear hJ nx
    intro us n tl htl hall e1 e2 Nt
    have F9 := fr_see2 Ft e1 e2
    have km := kdMark
    clear Ft F' N'
    k_with_none
    k_with "eval ListComp Call cons" => (refine halt ?_)
    k_steps
    k_with_none
    show wpAny _ _ _ _ _ _
    k_dflt (refine ListComp3 (F₀ := by k_asm) (by with_unfolding_all rfl) (by decide) (by rfl) (by decide) (by rfl) (by rfl) (by rfl) (by decide) (by decide) (by decide) ?_)
    have hul : us.length = d.length := by rw [told_len hall]; omega
    have hul2 : us.length < 1000 := by omega
    rw [hrl] at hall
    k_steps
    rename_i D5 h5 F5 N5 l5
    refine gen4 (p1 := fun bs => News g' L' h5 bs) (p2 := fun bs => (D5, listOf us.reverse.toArray 0) ∈ bs) (p3 := fun bs => ∀ p ∈ tl, p ∈ bs) (p4 := fun bs => ∀ p ∈ news, p ∈ bs) ((D5, listOf us.reverse.toArray 0) :: (D', listOf us.toArray n) :: (news ++ tl)) N5 (.head _) (sub_tail (sub_tail (sub_right sub_refl))) (sub_tail (sub_tail (sub_left sub_refl))) ?_
    intro bs N6 hD5 htlb hnwb
    clear N5 Nt
    refine fun z k => k D5 us.reverse.toArray bs (tellJ bs d) rfl F5 N6 (.inr ⟨_, hD5, rfl, _, rfl⟩) (by rw [List.size_toArray, List.length_reverse, sizeLine_eq]; omega) (fun z k => (List.append_nil bs) ▸ k [] (fun _ _ => all_nil) rfl (by dsimp only; omega) ToldK.nil) ?_ ?_
    · clear k z
      intro g9 lo i v ys nw hv hJ
      apply hJ
      clear hJ nw
      intro tl2 hlt2 hyl hlo hys
      apply tell_turn o3 hul hall hv
      intro t9 ca cb cc q1 q2 q3 hmem hok hcv
      refine fun z k => k t9 _ _ _ _ _ (List.mem_append.mpr (.inl (htlb _ hmem))) rfl rfl ?_
      clear k z
      intro I oI C oC D m₂ h8 tk8 E' hC e1 e2 e3 hlt8 F8 N8 off ne
      k_with "call ref" => (refine halt ?_)
      k_steps
      k_with_none
      show wpAny _ _ _ _ _ _
      k_dflt (refine tells3_use (rgb_tells w mean mg mb (ca, cb, cc)) (by k_asm) (by k_asm) (by k_asm) (by k_asm) (by k_asm) rfl Arg3.mk hok (by ktr_room) (by ktr_units) ?_)
      intro r9 tl9 h9 tk9 F7 N7 hl9 htk9 ho9
      have ho8 : Tup3K _ tk9 tl9 r9 (rgbF (ca, cb, cc)) := ho9
      dsimp only at htk9 ho8
      rw [hcv, ← hyl] at ho8
      refine fun z k => k h9 tk9 (bs ++ (tl2 ++ tl9)) F7 (news_asc [_, _, _] N7) (LCg.Off3.of fun p hp => (mem_spl [] hp).elim (fun hp => off.mem p hp) fun hp => ⟨Nat.ne_of_gt (hl9 _ (.head _) p hp), Nat.ne_of_gt (hl9 _ (.tail _ (.head _)) p hp), Nat.ne_of_gt (hl9 _ (.tail _ (.tail _ (.head _))) p hp)⟩) (.inr ⟨_, List.mem_append.mpr (.inl hD5), rfl, _, rfl⟩)
        (fun z k => k (tl2 ++ tl9) (fun q hq => all_app (hlt2 q hq) (hl9 q (.tail _ (.tail _ (.tail _ (List.mem_append.mpr (.inl hq))))))) (by rw [List.length_append, hyl]; rfl) (Nat.le_trans hlo (Nat.le_trans hlt8 htk9)) (hys.snoc hlt8 (Nat.le_trans hlo hlt8) ho8 (sub_left sub_refl) (sub_right sub_refl)))
    · clear k z
      intro g9 lo ys nw hJ D h8 tk8 htk8 F8 N8 off
      revert N8 off
      apply hJ
      clear hJ nw
      intro tl2 hlt2 hyl hlo hys N8 off
      rw [List.size_toArray, List.length_reverse, hul] at hyl
      have hall9 := told_all (bs := bs) hyl hys
      k_with "call builtin:sorted" => (refine halt ?_)
      k_steps
      k_with_none
      show wpAny _ _ _ _ _ _
      refine sorted_told F8 N8 hyl o1'.out o0 o4 o2 hys ?_
      intro D9 c9 h9 F7 N7 l7
      k_steps
      refine hret _ ((D9, listOf ys.reverse.toArray c9) :: tl2) _ _ (by k_asm) ?_ ?_ (.mk (.head _) (hall9.mono fun v a q => q.mono (sub_tail sub_refl)))
      · have NS : News h₀ L h9 ((D9, listOf ys.reverse.toArray c9) :: (D, LCg.lst ys) :: (bs ++ tl2)) := by k_asm
        exact news_sub NS (sub_app (sub_tail (sub_tail (sub_left hnwb))) (sub_cons (.head _) (sub_tail (sub_tail (sub_right sub_refl)))))
      · exact fun q hq => all_cons (l7 q (.tail _ (List.mem_append.mpr (.inl (hnwb q hq))))) (hlt2 q (hnwb q hq))
end Mine
end
-- C_split
section
open PySem PySem.W PyProof.Rows
namespace Mine
local macro_rules | `(tactic| walk_at "no such key 0") => `(tactic| fail)
local macro_rules | `(tactic| walk_at "no such key 1") => `(tactic| fail)
theorem none_Csplit : True := by
  k_with_none
  w_top off
  trivial
inductive Arg1S (news : Led) : List Value → Str → Prop
  | mk {a : Str} {t1 : Tok} : Arg1S news [.str a t1] a
inductive Tup2S (news : Led) : Value → Str × Str → Prop
  | mk {D : Addr} {x y : Str} {t1 t2 : Tok} : (D, ({ cls := .type "tuple", data := .seq #[.str x t1, .str y t2] } : Obj)) ∈ news → Tup2S news (.ref D) (x, y)
noncomputable abbrev nl : Str := Str.ofString "\n"
noncomputable def splitF (d : Str) : Str × Str :=
  match Txt.split (Txt.strip d) nl with
  | [] => (Str.ofString "", Txt.join nl [])
  | [a] => (a, Str.ofString "")
  | a :: b :: r => if (Txt.rstrip b).length = 0 then (a, Txt.join nl r) else (Str.ofString "", Txt.join nl (a :: b :: r))
noncomputable abbrev splitT : Told2 Str where
  Rel := Arg1S
  Ok := fun d => d.length ≤ 1000
  size := fun _ => 1
  Out := fun news v d => Tup2S news v (splitF d)
theorem splitF_one {d y : Str} {l : List (Str × Tok)} (e : l.map (fun x => x.fst) = Txt.split (Txt.strip d) nl) (h : (l.length : Int) = 1) (h0 : (l.map (fun x => x.fst))[Int.toNat 0]? = some y) : splitF d = (y, Str.ofString "") := by
  have h1 : (Txt.split (Txt.strip d) nl).length = 1 := by rw [← e, List.length_map]; omega
  rw [e] at h0
  unfold splitF
  match hq : Txt.split (Txt.strip d) nl, h1, h0 with
  | [a], _, h0 => cases h0; rfl
theorem splitF_two {d y y1 : Str} {l : List (Str × Tok)} (e : l.map (fun x => x.fst) = Txt.split (Txt.strip d) nl) (h1 : (l.map (fun x => x.fst))[Int.toNat 1]? = some y1) (hz : ((Txt.rstrip y1).length : Int) = 0) (h0 : (l.map (fun x => x.fst))[Int.toNat 0]? = some y) :
    splitF d = (y, Txt.join nl ((l.map (fun x => x.fst)).drop 2)) := by
  rw [e] at h1 h0 ⊢
  unfold splitF
  match hq : Txt.split (Txt.strip d) nl, h1, h0 with
  | a :: b :: r, h1, h0 => cases h0; cases h1; simp only [List.drop_succ_cons, List.drop_zero]; rw [if_pos (by omega)]
theorem splitF_else {d y1 : Str} {l : List (Str × Tok)} (e : l.map (fun x => x.fst) = Txt.split (Txt.strip d) nl) (h1 : (l.map (fun x => x.fst))[Int.toNat 1]? = some y1) (hz : ((Txt.rstrip y1).length : Int) ≠ 0) :
    splitF d = (Str.ofString "", Txt.join nl (l.map (fun x => x.fst))) := by
  rw [e] at h1 ⊢
  unfold splitF
  match hq : Txt.split (Txt.strip d) nl, h1 with
  | a :: b :: r, h1 => cases h1; simp only; rw [if_neg (by omega)]
theorem splitF_nil {d : Str} {l : List (Str × Tok)} (e : l.map (fun x => x.fst) = Txt.split (Txt.strip d) nl) (h1 : (l.length : Int) ≠ 1) (h2 : ¬ 2 ≤ (l.length : Int)) :
    splitF d = (Str.ofString "", Txt.join nl (l.map (fun x => x.fst))) := by
  have hl : l = [] := List.length_eq_zero_iff.mp (by omega)
  rw [hl] at e ⊢
  unfold splitF
  rw [← e]; rfl
theorem split_w {d : Str} {l : List (Str × Tok)} (e : l.map (fun x => x.fst) = Txt.split (Txt.strip d) nl) (h : (Txt.strip d).length ≤ 1000) : ((l.map (fun x => x.fst)).map (·.length)).sum + (l.map (fun x => x.fst)).length ≤ 1048576 := by
  have := split_weight (Txt.strip d) nl (by decide)
  rw [e]; omega
theorem sum_drop_le (k : Nat) (l : List Str) : ((l.drop k).map (·.length)).sum + (l.drop k).length ≤ (l.map (·.length)).sum + l.length := by
  induction l generalizing k with
  | nil => simp
  | cons a l ih =>
    cases k with
    | zero => simp
    | succ k => have := ih k; simp only [List.drop_succ_cons, List.map_cons, List.sum_cons, List.length_cons]; omega
theorem split_w2 {d : Str} {l : List (Str × Tok)} (e : l.map (fun x => x.fst) = Txt.split (Txt.strip d) nl) (h : (Txt.strip d).length ≤ 1000) : ((((l.map (fun x => x.fst)).drop 2)).map (·.length)).sum + ((l.map (fun x => x.fst)).drop 2).length ≤ 1048576 :=
  Nat.le_trans (sum_drop_le 2 _) (split_w e h)
theorem strs_pick (l : List (Str × Tok)) : StrsAre (slicePick (strValues l).toArray (some 2) none none).toList ((l.map (fun x => x.fst)).drop 2) := by
  rw [kms_pick_eq]
  have e : kms_pick (strValues l).toArray.toList (some 2) none = strValues (l.drop 2) := by
    have h2 : (kms_lo (some 2) (strValues l).length) = min 2 (strValues l).length := rfl
    simp only [kms_pick]
    rw [h2, show kms_hi none (strValues l).length = (strValues l).length from rfl]
    rw [List.take_of_length_le (by rw [List.length_drop]; exact Nat.le_refl _)]
    by_cases h : 2 ≤ (strValues l).length
    · rw [Nat.min_eq_left h]; simp [strValues]
    · rw [Nat.min_eq_right (by omega), List.drop_length]
      have : l.drop 2 = [] := List.drop_eq_nil_of_le (by simp [strValues] at h; omega)
      rw [this]; rfl
  rw [e]
  have : ∀ l : List (Str × Tok), StrsAre (strValues l) (l.map (fun x => x.fst)) := by
    intro l
    induction l with
    | nil => exact .nil
    | cons a l ih => exact .cons _ _ ih
  simpa using this (l.drop 2)
theorem rstrip_fits {l : List Str} {x : Str} {k : Nat} {y : Str} (h1 : ∀ a ∈ l, a.length ≤ x.length) (h2 : x.length ≤ 1000) (h3 : l[k]? = some y) : y.length ≤ sizeLine := by
  have := h1 y (List.mem_of_getElem? h3)
  rw [sizeLine_eq]; omega
theorem rstrip_le {l : List Str} {x : Str} {k : Nat} {y : Str} (h1 : ∀ a ∈ l, a.length ≤ x.length) (h2 : x.length ≤ 1000) (h3 : l[k]? = some y) : (Txt.rstrip y).length ≤ 1000 :=
  Nat.le_trans (len_rstrip y) (Nat.le_trans (h1 y (List.mem_of_getElem? h3)) h2)
local macro_rules | `(tactic| walk_at "execs cons") => `(tactic| (k_here; (fail_if_success (fail_if_success k_gentoks)); refine gen_toks ?_; intro tk; try dsimp only))
local macro_rules | `(tactic| walk_at "execs nil") => `(tactic| (k_here; (fail_if_success (fail_if_success k_gentoks)); refine gen_toks ?_; intro tk; try dsimp only))
set_option maxRecDepth 100000 in
set_option maxHeartbeats 1000000 in
theorem split_tells (w : World) (mean : ExcName → Option Value) (mg mb : Str → Option Value) (d : Str) : Tells2 P w (hd.heap_39 w.params) hd.view_39 Lo mean mg mb (28) splitT d := by
  unfold Tells2
  intro dp un gd cn cs a ccd cl outer A₀ base h₀ L m news s vs Q E B F X N T hk hR hok hd hu hret
  cases hR
  dsimp only [splitT] at hok hd hu
  have hs : (Txt.strip d).length ≤ 1000 := Nat.le_trans (len_strip d) hok
  refine wpAny_call ?_
  k_dflt ktr_enter
  k_with "call builtin:str.rstrip" => (refine SC.rstrip ?_ (rstrip_fits (by assumption) (by assumption) (by assumption)); intro t9 k9; have hz9 := rstrip_le (by assumption) (by assumption) (by assumption))
  k_with "truthy str" => (refine SBL.truthy (by omega) ?_)
  k_with "call builtin:str.join" => (refine join_listW (ys := _) (News.isList (by k_asm) (List.Mem.head _)) (by first | (simpa using (by assumption)) | exact strs_pick _) (by decide) (by first | exact split_w (by assumption) (by assumption) | exact split_w2 (by assumption) (by assumption)) ?_; intro t8 k8)
  k_steps
  all_goals first
    | refine hret _ [_] _ _ (by k_asm) (tl_one [_] (by k_asm)) (ktn_ord1 (And.right (by assumption))) ?_
    | refine hret _ [_] _ _ (by k_asm) (tl_one [_, _] (by k_asm)) (ktn_ord1 (And.right (And.right (by assumption)))) ?_
  all_goals dsimp only [splitT]
  all_goals first
    | rw [splitF_one (by assumption) (by assumption) (by assumption)]
    | rw [splitF_two (by assumption) (by assumption) (by assumption) (by assumption)]
    | rw [splitF_else (by assumption) (by assumption) (by assumption)]
    | rw [splitF_nil (by assumption) (by assumption) (by assumption)]
  all_goals exact Tup2S.mk (.head _)
end Mine
end
-- C_ind
section
open PySem PySem.W PyProof.Rows
namespace Mine
theorem none_Cind : True := by
  k_with_none
  w_top off
  trivial
inductive Arg3I (news : Led) : List Value → Int × Int × Int → Prop
  | mk {a b c : Int} {t1 t2 t3 : Tok} : Arg3I news [.int a t1, .int b t2, .int c t3] (a, b, c)
structure indOk (d : Int × Int × Int) : Prop where
  a0 : 0 ≤ d.1
  a1 : d.1 < 10000000
  b0 : 0 ≤ d.2.1
  b1 : d.2.1 ≤ 3
  c0 : 0 ≤ d.2.2
  c1 : d.2.2 ≤ 1
noncomputable def kindsL : List (List Int) := [[], [0], [2], [0, 1], [0, 2], [1, 2], [0, 0, 1], [0, 1, 1], [1, 1], [0, 1, 2]]
noncomputable def placeF (d : Int × Int × Int) : Int := (d.1 + d.2.1 * ([1, 4, 10, 11, 13] : List Int).getD ((d.1.fdiv 40).fmod 5).toNat 0).fmod 40
/-- a made list of ints -/
inductive IntsIn (news : Led) : Value → List Int → Prop
  | mk {a : Addr} {vs : List Value} {ns : List Int} {n : Nat} : (a, listOf vs.toArray n) ∈ news → IntsAre vs ns → IntsIn news (.ref a) ns
theorem kinds_small : ∀ ks ∈ kindsL, ks.length ≤ 3 ∧ ∀ x ∈ ks, 0 ≤ x ∧ x ≤ 2 := by decide
noncomputable def runS (r : Int) : Str := Txt.mul (Str.ofString " ") r ++ Str.ofString "\t"
theorem kinds_texts : ∀ ks ∈ kindsL, ((ks.map runS).map (·.length)).sum + (ks.map runS).length ≤ 100 ∧ (Txt.join (Str.ofString "") (ks.map runS)).length ≤ 9 ∧
    ((ks.reverse.map runS).map (·.length)).sum + (ks.reverse.map runS).length ≤ 100 ∧ (Txt.join (Str.ofString "") (ks.reverse.map runS)).length ≤ 9 := by decide +kernel
theorem strs_snoc {ys : List Value} {xs : List Str} {x : Str} {t : Tok} (h : StrsAre ys xs) : StrsAre (ys ++ [.str x t]) (xs ++ [x]) := by
  induction h with
  | nil => exact .cons _ _ .nil
  | cons y t _ ih => exact .cons y t ih
noncomputable def indF (d : Int × Int × Int) : Str :=
  Txt.join (Str.ofString "") ((if d.2.2 = 1 then (kindsL.getD ((placeF d).fmod 10).toNat []).reverse else kindsL.getD ((placeF d).fmod 10).toNat []).map runS) ++ Txt.mul (Str.ofString " ") ((placeF d).fdiv 10)
noncomputable abbrev indT : Told2 (Int × Int × Int) where
  Rel := Arg3I
  Ok := indOk
  size := fun _ => 1
  Out := fun news v d => ∃ t, v = .str (indF d) t
theorem IntsIn.use {news : Led} {v : Value} {ns : List Int} (h : IntsIn news v ns) {z : Value → Prop} (k : ∀ (a : Addr) (vs : List Value) (n : Nat), (a, listOf vs.toArray n) ∈ news → IntsAre vs ns → z (.ref a)) : z v := by
  cases h with | mk a b => exact k _ _ _ a b
/-- what is known of a kind, turned or not -/
structure KkOk (d : Int × Int × Int) (pl : Int) (kk : List Int) : Prop where
  len : kk.length ≤ 3
  x : ∀ x ∈ kk, 0 ≤ x ∧ x ≤ 2
  sum : ((kk.map runS).map (·.length)).sum + (kk.map runS).length ≤ 100
  join : (Txt.join (Str.ofString "") (kk.map runS)).length ≤ 9
  ind : indF d = Txt.join (Str.ofString "") (kk.map runS) ++ Txt.mul (Str.ofString " ") (pl.fdiv 10)
theorem kk_turned {da db dc pl : Int} {ks : List Int} (hpl : pl = placeF (da, db, dc)) (hks : kindsL[(pl.fmod 10).toNat]? = some ks) (h : dc = 1) : KkOk (da, db, dc) pl ks.reverse := by
  have hm := List.mem_of_getElem? hks
  have kt := kinds_texts ks hm
  refine ⟨by rw [List.length_reverse]; exact (kinds_small ks hm).1, fun x hx => (kinds_small ks hm).2 x (List.mem_reverse.mp hx), kt.2.2.1, kt.2.2.2, ?_⟩
  unfold indF
  dsimp only
  rw [← hpl, List.getD_eq_getElem?_getD, hks, Option.getD_some, if_pos h]
theorem kk_plain {da db dc pl : Int} {ks : List Int} (hpl : pl = placeF (da, db, dc)) (hks : kindsL[(pl.fmod 10).toNat]? = some ks) (h : ¬ dc = 1) : KkOk (da, db, dc) pl ks := by
  have hm := List.mem_of_getElem? hks
  have kt := kinds_texts ks hm
  refine ⟨(kinds_small ks hm).1, (kinds_small ks hm).2, kt.1, kt.2.1, ?_⟩
  unfold indF
  dsimp only
  rw [← hpl, List.getD_eq_getElem?_getD, hks, Option.getD_some, if_neg h]
set_option maxRecDepth 100000 in
set_option maxHeartbeats 1000000 in
theorem ind_tells (w : World) (mean : ExcName → Option Value) (mg mb : Str → Option Value) (d : Int × Int × Int) : Tells2 P w (hd.heap_39 w.params) hd.view_39 Lo mean mg mb (125) indT d := by
  unfold Tells2
  intro dp un gd cn cs a ccd cl outer A₀ base h₀ L m news s vs Q E B F X N T hk hR hok hd hu hret
  cases hR
  rename_i da db dc ta tb tc
  obtain ⟨o1, o2, o3, o4, o5, o6⟩ := hok
  dsimp only [indT] at o1 o2 o3 o4 o5 o6 hd hu hret
  refine wpAny_call ?_
  k_dflt ktr_enter
  k_with "execs cons Assign cons" => ((with_reducible show wpAny _ _ (execs (Stmt.Assign [Expr.Name (Str.ofString "runs") _] _ _ :: Stmt.If _ _ _ _ :: _) _) _ _ _); refine halt ?_)
  k_steps
  k_with_none
  show wpAny _ _ _ _ _ _
  rename News _ _ _ _ => N8
  rename Fr _ _ _ _ => F8
  have hp0 : 0 ≤ placeF (da, db, dc) := Int.fmod_nonneg_of_pos _ (by decide)
  have hp1 : placeF (da, db, dc) < 40 := Int.fmod_lt_of_pos _ (by decide)
  refine forget2 F8 N8 (fun m led => ∀ z : Prop, (∀ (K : Addr) (us : List Value) (n : Nat) (t1 t2 : Tok) (pl : Int), pl = placeF (da, db, dc) → 0 ≤ pl → pl < 40 → m (Str.ofString "place") = some (.int pl t1) → m (Str.ofString "kinds") = some (.ref K) → m (Str.ofString "turned") = some (.int dc t2) → (K, listOf us.toArray n) ∈ led → All2 (IntsIn led) us kindsL → (∀ p ∈ news, p ∈ led) → z) → z) ?_ ?_
  · refine fun z k => k _ [_, _, _, _, _, _, _, _, _, _] _ _ _ _ rfl hp0 hp1 rfl rfl rfl (by k_mem) ?_ ?_
    · repeat' (first | exact All2.nil | exact IntsAre.nil | refine IntsAre.cons _ _ ?_ | (refine All2.cons (IntsIn.mk (vs := [_, _, _]) (by k_mem) ?_) ?_)  | (refine All2.cons (IntsIn.mk (vs := [_, _]) (by k_mem) ?_) ?_) | (refine All2.cons (IntsIn.mk (vs := [_]) (by k_mem) ?_) ?_) | (refine All2.cons (IntsIn.mk (vs := []) (by k_mem) ?_) ?_))
    · repeat (first | exact sub_refl | refine sub_tail ?_)
  clear F8 N8 hp0 hp1
  intro h9 tk9 m9 led hR9 F9 N9
  apply hR9
  clear hR9
  intro K us n9 t1 t2 pl hpl hp0 hp1 e1 e2 e3 hK hall hsub
  have F9 := fr_see3 F9 e1 e2 e3
  show wpAny _ _ _ _ _ { s with heap := h9, toks := tk9 }
  have hul : us.length = 10 := hall.length
  have hf0 : 0 ≤ pl.fmod 10 := Int.fmod_nonneg_of_pos _ (by decide)
  have hf1 : pl.fmod 10 < 10 := Int.fmod_lt_of_pos _ (by decide)
  k_with "subscriptTail" => (refine item_led (by k_asm) (by k_mem) (by omega) (by omega) (by omega) ?_; intro v8 hv8; refine halt ?_)
  k_steps
  k_with_none
  show wpAny _ _ _ _ _ _
  apply hall.use hv8
  intro ks hks hin
  clear hv8
  apply IntsIn.use hin
  clear hin v8
  intro ra rvs rn hra hrv
  have hsl := (kinds_small ks (List.mem_of_getElem? hks)).1
  have N7 := news_sub N9 (sub_cons hra hsub)
  clear N9 hall hsub hra hK hul
  k_with "exec If" => (refine halt ?_)
  k_steps
  k_with_none
  show wpAny _ _ _ _ _ _
  rename News _ _ _ _ => N8
  rename Fr _ _ _ _ => F8
  refine cutG F8 N8 (fun g L m led z => ∀ (kk : List Int) (R : Addr) (rv : List Value) (c : Nat) (h : Heap) (tk : Nat) (m : Str → Option Value), KkOk (da, db, dc) pl kk → Fr g L h m → News g L h ((R, listOf rv.toArray c) :: news) → IntsAre rv kk → m (Str.ofString "runs") = some (.ref R) → m (Str.ofString "place") = some (.int pl t1) → z .next { s with heap := h, toks := tk }) ?_ ?_
  · intro zz hzz
    k_steps
    all_goals rename News _ _ _ _ => N6
    all_goals rename Fr _ _ _ _ => F6
    · exact hzz _ _ _ _ _ _ _ (kk_turned hpl hks (by assumption)) F6 (news_sub N6 (sub_cons (.head _) (by repeat (first | exact sub_refl | refine sub_tail ?_)))) (by assumption) rfl rfl
    · exact hzz _ _ _ _ _ _ _ (kk_plain hpl hks (by assumption)) F6 (news_sub N6 (sub_cons (.head _) (by repeat (first | exact sub_refl | refine sub_tail ?_)))) (by assumption) rfl rfl
  clear F8 N8 hrv hsl hks e1 e2 e3 hf0 hf1
  intro kk R rv c7 h7 tk7 m7 hkk F7 N7 hrI f1 f2
  have F7 := fr_see2 F7 f1 f2
  have hk1 := hkk.len
  have hk3 := hkk.sum
  have hk4 := hkk.join
  have hrl : rv.length = kk.length := hrI.length
  clear f1 f2
  k_with "eval ListComp" => (refine halt ?_)
  k_steps
  k_with_none
  show wpAny _ _ _ _ _ _
  k_dflt (refine LCg.ListComp_U (F₀ := F7) (by with_unfolding_all rfl) (by decide) (by rfl) (by decide) (by rfl) ?_)
  k_steps
  refine LCg.CompSrc.ledger rfl F7 N7 (.head _) (by rw [List.size_toArray, sizeLine_eq]; omega) fun g9 => comp_rest (fun i ys nw => ∀ z : Led → Prop, (StrsAre ys ((kk.take i).map runS) → z _) → z nw) (fun z k => k .nil) ?_ ?_
  · intro i v I oI C oC D m₂ ys nw h tk E' hi hv hJ hC hx F N off ne
    revert N off
    apply hJ
    clear hJ nw
    revert hx
    apply ints_turn hrI hi hv hkk.x
    clear hv v
    intro t k9 hb htake hx hys N off
    have hb0 := hb.1
    have hb1 := hb.2
    k_steps
    refine end_mk F N off (.inr ⟨_, .head _, rfl, _, rfl⟩) fun z k => k ?_
    rw [htake, List.map_append]
    exact strs_snoc hys
  · intro ys nw hJ D h tk F N off
    revert N off
    apply hJ
    clear hJ nw
    intro hys N off
    rw [List.size_toArray, hrl, List.take_length] at hys
    k_with "call builtin:str.join" => (refine join_listW (ys := kk.map runS) ⟨_, (N _ (.head _)).1, rfl, _, rfl⟩ (by simpa using hys) (by decide) (by omega) ?_; intro t8 k8)
    k_steps
    k_with_none
    exact hret _ [] _ _ (by k_asm) (news_sub (l := (D, LCg.lst ys) :: (R, listOf rv.toArray c7) :: news) (by k_asm) (sub_app (sub_tail (sub_tail sub_refl)) sub_nil)) ktn_ord0 ⟨_, by rw [hkk.ind]⟩
end Mine
end
-- C_ws
section
open PySem PySem.W PyProof.Rows
namespace Mine
local macro_rules | `(tactic| walk_at "no such key 0") => `(tactic| fail)
local macro_rules | `(tactic| walk_at "no such key 1") => `(tactic| fail)
theorem none_Cws : True := by
  k_with_none
  w_top off
  trivial
noncomputable abbrev Wst := List Int × Int × Int × Int
noncomputable def grown (cnt : List Int) (b : Int) : List Int := if (cnt.length : Int) ≤ b then cnt ++ (List.replicate (b - cnt.length + 1).toNat [0]).flatten else cnt
noncomputable def bump (cnt : List Int) (b : Int) : List Int := (grown cnt b).set b.toNat ((grown cnt b).getD b.toNat 0 + 1)
noncomputable def wsStep (q : Wst) (c : Nat) : Wst := if c = 32 then (q.1, q.2.1 + 1, q.2.2.1 + 1, q.2.2.2) else (bump q.1 q.2.1, 0, q.2.2.1 + 1, q.2.2.2 + 1)
noncomputable def wsF (ws : List Nat) : Wst := ws.foldl wsStep ([], 0, 0, 0)
theorem flat_zeros (k : Nat) : (List.replicate k [(0 : Int)]).flatten.length = k := by
  induction k with
  | zero => rfl
  | succ k ih => rw [List.replicate_succ, List.flatten_cons, List.length_append, ih]; simp; omega
theorem bump_length (cnt : List Int) (b : Int) (hb : 0 ≤ b) : ((bump cnt b).length : Int) = max (cnt.length : Int) (b + 1) := by
  unfold bump grown
  split
  · rw [List.length_set, List.length_append, flat_zeros]; omega
  · rw [List.length_set]; omega
theorem bump_le {cnt : List Int} {b : Int} (h : (cnt.length : Int) ≤ b) : bump cnt b = (cnt ++ (List.replicate (b - cnt.length + 1).toNat [0]).flatten).set b.toNat ((cnt ++ (List.replicate (b - cnt.length + 1).toNat [0]).flatten).getD b.toNat 0 + 1) := by
  unfold bump grown; rw [if_pos h]
theorem bump_gt {cnt : List Int} {b : Int} (h : ¬ (cnt.length : Int) ≤ b) : bump cnt b = cnt.set b.toNat (cnt.getD b.toNat 0 + 1) := by
  unfold bump grown; rw [if_neg h]
theorem off_new {D cA : Addr} {o o' : Obj} {bs own : Led} (hown : OwnOff own (((cA, o') :: bs).map (·.1))) (hD : ∀ p ∈ own, p.1 < D) : OwnOff own (((D, o) :: bs).map (·.1)) := by
  intro p hp b hb
  rcases List.mem_cons.mp hb with rfl | hb
  · exact Nat.ne_of_lt (hD p hp)
  · exact hown p hp b (.tail _ hb)
theorem tuple_led {prog : Program} {w : World} {A : Around} {E : Value → Shared → Prop} {s : Shared} {h₀ : Heap} {L l : Addr} {m : Str → Option Value} {news : Led} {us : List Value} {n : Nat} {Q : Value → Shared → Prop} (F : Fr h₀ L s.heap m) (N : News h₀ L s.heap news) (hm : (l, listOf us.toArray n) ∈ news) (hf : us.length < 1000)
    (h : ∀ D h', Fr h₀ L h' m → News h₀ L h' ((D, ({ cls := .type "tuple", data := .seq us.toArray } : Obj)) :: news) → (∀ p ∈ news, p.1 < D) → Q (.ref D) { s with heap := h' }) : wpAny (model prog w) A (call (.type "tuple") [.ref l]) Q E s :=
  call_tuple_list (isList_led N hm) (fun h' hk => h _ _ ((F.grownK hk).push _) ((N.grown hk).push (F.grownK hk) _) fun p hp => Heap.lt_size (N.grown hk p hp).1) (by rw [List.size_toArray, sizeLine_eq]; omega)
theorem end_new {g h' : Heap} {L D cA : Addr} {J : (Str → Option Value) → Led → Prop} {own bs : Led} {s₁ : Shared} {tk : Nat} {m' : Str → Option Value} {o o' : Obj} {e1 e2 : Addr × Obj} (F : Fr g L h' m') (N : News g L h' ((D, o) :: e1 :: e2 :: ((cA, o') :: bs ++ own)))
    (hown : OwnOff own (((cA, o') :: bs).map (·.1))) (hlt : ∀ p ∈ (cA, o') :: bs ++ own, p.1 < D) (hj : J m' ((D, o) :: bs)) : InvEndG g L J own s₁ { s₁ with heap := h', toks := tk } := by
  refine ⟨h', tk, m', _, (D, o) :: bs, rfl, F, N, ?_, fun p hp => .tail _ (.tail _ (.tail _ (List.mem_append.mpr (.inr hp)))), off_new hown (fun p hp => hlt p (List.mem_append.mpr (.inr hp))), hj⟩
  intro p hp
  rcases List.mem_cons.mp hp with rfl | hp
  · exact .head _
  · exact .tail _ (.tail _ (.tail _ (List.mem_append.mpr (.inl (.tail _ hp)))))
theorem end_same {g h' : Heap} {L cA : Addr} {J : (Str → Option Value) → Led → Prop} {own bs : Led} {s₁ : Shared} {tk : Nat} {m' : Str → Option Value} {o o' : Obj} (F : Fr g L h' m') (N : News g L h' ((cA, o) :: (bs ++ own)))
    (hown : OwnOff own (((cA, o') :: bs).map (·.1))) (hj : J m' ((cA, o) :: bs)) : InvEndG g L J own s₁ { s₁ with heap := h', toks := tk } := by
  refine ⟨h', tk, m', _, (cA, o) :: bs, rfl, F, N, ?_, fun p hp => .tail _ (List.mem_append.mpr (.inr hp)), hown, hj⟩
  intro p hp
  rcases List.mem_cons.mp hp with rfl | hp
  · exact .head _
  · exact .tail _ (List.mem_append.mpr (.inl hp))
theorem wsF_snoc (l : List Nat) (c : Nat) : wsF (l ++ [c]) = wsStep (wsF l) c := by simp [wsF, List.foldl_append]
theorem wsF_inv (l : List Nat) : (wsF l).1.length ≤ l.length ∧ 0 ≤ (wsF l).2.1 ∧ (wsF l).2.1 ≤ l.length ∧ (wsF l).2.2.1 = l.length ∧ 0 ≤ (wsF l).2.2.2 ∧ (wsF l).2.2.2 ≤ l.length := by
  have key : ∀ (l : List Nat) (q : Wst) (k : Nat), (q.1.length ≤ k ∧ 0 ≤ q.2.1 ∧ q.2.1 ≤ k ∧ q.2.2.1 = k ∧ 0 ≤ q.2.2.2 ∧ q.2.2.2 ≤ k) →
      ((l.foldl wsStep q).1.length ≤ k + l.length ∧ 0 ≤ (l.foldl wsStep q).2.1 ∧ (l.foldl wsStep q).2.1 ≤ (k + l.length : Nat) ∧ (l.foldl wsStep q).2.2.1 = (k + l.length : Nat) ∧ 0 ≤ (l.foldl wsStep q).2.2.2 ∧ (l.foldl wsStep q).2.2.2 ≤ (k + l.length : Nat)) := by
    intro l
    induction l with
    | nil => intro q k h; simpa using h
    | cons c l ih =>
      intro q k h
      have := ih (wsStep q c) (k + 1) (by
        unfold wsStep
        split
        · simp only; omega
        · have := bump_length q.1 q.2.1 h.2.1
          simp only; omega)
      rw [List.foldl_cons, List.length_cons]
      rw [show k + (l.length + 1) = k + 1 + l.length by omega]
      exact this
  have := key l ([], 0, 0, 0) 0 (by simp)
  simpa [wsF] using this
/-- what stands ahead, the first sign that is no blank, the rest -/
structure Pg where
  ws : List Nat
  c : Nat
  rest : List Nat
noncomputable def Pg.text (p : Pg) : Str := ⟨(p.ws ++ p.c :: p.rest).toArray⟩
inductive ArgPg (news : Led) : List Value → Pg → Prop
  | mk {p : Pg} {t1 : Tok} : ArgPg news [.str p.text t1] p
structure wsOk (p : Pg) : Prop where
  len : p.ws.length ≤ 20
  blank : ∀ c ∈ p.ws, c = 32 ∨ c = 9
  c0 : p.c ≠ 32
  c1 : p.c ≠ 9
  ascii : ∀ c ∈ p.ws ++ p.c :: p.rest, c < 128
/-- a made Whitespace: its count, the blanks behind, its signs, its tabs -/
inductive WsIn (w : World) (news : Led) : Value → Wst → Prop
  | mk {x dx T C : Addr} {us : List Value} {cnt : List Int} {b n nt : Int} {text : Str} {k1 k2 k3 k4 k5 t0 t1 t2 t3 : Tok} {sb : Bool} : (x, instObj 104 dx) ∈ news →
    (dx, dictOf [⟨PyData.keyHash w.params (Str.ofString "raw"), .str (Str.ofString "raw") k1, .str text t0⟩, ⟨PyData.keyHash w.params (Str.ofString "n"), .str (Str.ofString "n") k2, .int n t1⟩, ⟨PyData.keyHash w.params (Str.ofString "nt"), .str (Str.ofString "nt") k3, .int nt t2⟩,
      ⟨PyData.keyHash w.params (Str.ofString "norm"), .str (Str.ofString "norm") k4, .ref T⟩, ⟨PyData.keyHash w.params (Str.ofString "is_simple"), .str (Str.ofString "is_simple") k5, .bool sb⟩] 5) ∈ news →
    (T, ({ cls := .type "tuple", data := .seq #[.ref C, .int b t3] } : Obj)) ∈ news → (C, ({ cls := .type "tuple", data := .seq us.toArray } : Obj)) ∈ news → IntsAre us cnt → WsIn w news (.ref x) (cnt, b, n, nt)
noncomputable abbrev wsT (w : World) : Told2 Pg where
  Rel := ArgPg
  Ok := wsOk
  size := fun _ => 3
  Out := fun news v d => WsIn w news v (wsF d.ws)
local macro_rules | `(tactic| k_room) => `(tactic| ktr_room)
local macro_rules | `(tactic| walk_at "call type:tuple") => `(tactic| (k_dflt (refine tuple_led (by k_asm) (by k_asm) (by k_mem) (by assumption) ?_); intro D5 h5 F5 N5 l5; k_lt l5))
noncomputable def wsJ (bs : Led) (x : Addr) (p : Pg) (i : Nat) (m : Str → Option Value) (nx : Led) : Prop :=
  ∀ z : Led → Prop, (∀ (cA : Addr) (us : List Value) (cn : Nat) (t1 t2 t3 t4 t5 : Tok) (cnt : List Int) (b n nt : Int), i ≤ p.ws.length → wsF (p.ws.take i) = (cnt, b, n, nt) → (∀ q ∈ bs, q.1 < cA) → IntsAre us cnt →
    m (Str.ofString "self") = some (.ref x) → m (Str.ofString "S") = some (.str (Str.ofString " ") t1) → m (Str.ofString "T") = some (.str (Str.ofString "\t") t2) → m (Str.ofString "count") = some (.ref cA) →
    m (Str.ofString "b") = some (.int b t3) → m (Str.ofString "n") = some (.int n t4) → m (Str.ofString "nt") = some (.int nt t5) → z ((cA, listOf us.toArray cn) :: bs)) → z nx
theorem wsF_facts {ws : List Nat} {i : Nat} {cnt : List Int} {b n nt : Int} (hi : i ≤ ws.length) (hq : wsF (ws.take i) = (cnt, b, n, nt)) : cnt.length ≤ i ∧ 0 ≤ b ∧ b ≤ i ∧ n = i ∧ 0 ≤ nt ∧ nt ≤ i := by
  have hin := wsF_inv (ws.take i)
  rw [List.length_take, Nat.min_eq_left hi, hq] at hin
  exact hin
theorem ws_bounds {d : Pg} {i : Nat} {cnt : List Int} {b n nt : Int} (ok : wsOk d) (hi : i ≤ d.ws.length) (hq : wsF (d.ws.take i) = (cnt, b, n, nt)) {G : Prop} (k : cnt.length ≤ 20 → 0 ≤ b → b ≤ 20 → 0 ≤ n → n ≤ 20 → 0 ≤ nt → nt ≤ 20 → G) : G := by
  have h := wsF_facts hi hq
  have := ok.len
  exact k (by omega) (by omega) (by omega) (by omega) (by omega) (by omega) (by omega)
theorem pg_cases {d : Pg} {i c : Nat} {cnt : List Int} {b n nt : Int} (ok : wsOk d) (hi : i ≤ d.ws.length) (hc : d.text.cps[i]? = some c) (hq : wsF (d.ws.take i) = (cnt, b, n, nt)) {z : Nat → Prop} (h1 : i < d.ws.length → wsF (d.ws.take (i + 1)) = (cnt, b + 1, n + 1, nt) → z 32)
    (h2 : i < d.ws.length → wsF (d.ws.take (i + 1)) = (bump cnt b, 0, n + 1, nt + 1) → z 9) (h3 : i = d.ws.length → wsF d.ws = (cnt, b, n, nt) → ((⟨#[c]⟩ : Str) == Str.ofString " ") = false → ((⟨#[c]⟩ : Str) == Str.ofString "\t") = false → z c) : z c := by
  by_cases hlt : i < d.ws.length
  · have hc' : d.ws[i]'hlt = c := by
      have : (d.ws ++ d.c :: d.rest)[i]? = some c := by simpa [Pg.text] using hc
      rw [List.getElem?_append_left hlt, List.getElem?_eq_getElem hlt] at this
      exact Option.some.inj this
    have htake : d.ws.take (i + 1) = d.ws.take i ++ [c] := by rw [List.take_add_one, List.getElem?_eq_getElem hlt, hc']; rfl
    have hbl := ok.blank _ (List.getElem_mem hlt)
    rw [hc'] at hbl
    rcases hbl with rfl | rfl
    · exact h1 hlt (by rw [htake, wsF_snoc, hq, wsStep, if_pos rfl])
    · exact h2 hlt (by rw [htake, wsF_snoc, hq, wsStep, if_neg (by decide)])
  · have hie : i = d.ws.length := by omega
    subst hie
    have hcc : c = d.c := by
      have : (d.ws ++ d.c :: d.rest)[d.ws.length]? = some c := by simpa [Pg.text] using hc
      simpa using this.symm
    subst hcc
    rw [List.take_length] at hq
    refine h3 rfl hq (beq_false_of_ne fun h => ?_) (beq_false_of_ne fun h => ?_)
    · have h2 : (⟨#[d.c]⟩ : Str) = ⟨#[32]⟩ := h
      injection h2 with h3
      exact ok.c0 (by simpa using h3)
    · have h2 : (⟨#[d.c]⟩ : Str) = ⟨#[9]⟩ := h
      injection h2 with h3
      exact ok.c1 (by simpa using h3)
theorem pg_ascii {d : Pg} (ok : wsOk d) : d.text.cps.all (· < 128) = true := by
  rw [Array.all_eq_true']
  intro c hc
  exact decide_eq_true (ok.ascii c (by simpa [Pg.text] using hc))
theorem pg_size {d : Pg} (h : d.text.cps.size ≤ d.ws.length) : False := by
  simp only [Pg.text] at h
  rw [List.size_toArray, List.length_append, List.length_cons] at h
  omega
local macro_rules | `(tactic| walk_at "execs cons") => `(tactic| (k_here; (fail_if_success (fail_if_success k_gentoks)); refine gen_toks ?_; intro tk; try dsimp only))
local macro_rules | `(tactic| walk_at "execs nil") => `(tactic| (k_here; (fail_if_success (fail_if_success k_gentoks)); refine gen_toks ?_; intro tk; try dsimp only))
set_option maxRecDepth 100000 in
set_option maxHeartbeats 1000000 in
theorem ws_tells (w : World) (mean : ExcName → Option Value) (mg mb : Str → Option Value) (d : Pg) : Tells2 P w (hd.heap_39 w.params) hd.view_39 Lo mean mg mb (104) (wsT w) d := by
  unfold Tells2
  intro dp un gd cn cs a ccd cl outer A₀ base h₀ L m news s vs Q E B F X N T hk hR hok hd hu hret
  cases hR
  rename_i t1
  dsimp only [wsT] at hd hu hret
  k_dflt (refine' call_cls ?k1 ?k2 ?k3 ?k4 ?k5 ?k6 ?_; (case k1 => k_asm); (case k2 => k_asm); (case k3 => k_asm); (case k4 => k_is); (case k5 => k_is); (case k6 => k_is); k_whole; intro x' d' h' F' N' l1 l2; (try k_lt l1); (try k_lt2 l2); (try k_sweep))
  k_dflt (refine' code_def ?k1 ?k2 ?k3 ?k4 ?k5 ?kA ?kF ?kK ?k6 ?k7 ?k8 ?k9 ?kB ?_ ?c2 ?c3 ?c4 ?c5; (case kA => exact rfl); (case kF => exact rfl); (case kK => assumption); (case k1 => k_asm); (case k2 => k_asm); (case k3 => k_asm); (case k4 => k_asm); (case k5 => k_asm); (case k6 => k_is); (case k7 => k_is); (case k8 => ktr_room); (case k9 => exact BindsTo.of_eq rfl); (case c5 => decide); (case kB => exact locs rfl); (case c2 => exact rfl); (case c3 => exact rfl); (case c4 => exact rfl); k_whole; intro g' L' h' FG' F' N' B' X' T'; (try dsimp only); (try k_fold))
  k_with "pyIter str" => refine halt ?_
  k_steps
  k_with_none
  show wpAny _ _ _ _ _ _
  rename News _ _ _ _ => N8
  rename Fr _ _ _ _ => F8
  refine iter_str (wsJ _ x' d) rfl (pg_ascii hok) F8 N8 (fun z k => k _ [] 0 _ _ _ _ _ _ _ _ _ (Nat.zero_le _) rfl ?_ .nil rfl rfl rfl rfl rfl rfl rfl) ?_ ?_
  · exact ktn_ltOf (show AllLt _ _ from by assumption)
  · intro i c u m1 nx h tk own hc hown hJ Ft Nt
    revert hown Nt
    apply hJ
    clear hJ nx
    intro cA us cn u1 u2 u3 u4 u5 cnt b n nt hi hq hbs hints e1 e2 e3 e4 e5 e6 e7 hown Nt
    k_fold
    apply ws_bounds hok hi hq
    intro hc1 hb1 hb2 hn1 hn2 ht1 ht2
    have hul : us.length = cnt.length := hints.length
    have F9 := fr_see7 Ft (x1 := Str.ofString "self") (x2 := Str.ofString "S") (x3 := Str.ofString "T") (x4 := Str.ofString "count") (x5 := Str.ofString "b") (x6 := Str.ofString "n") (x7 := Str.ofString "nt") (by rw [if_neg (by decide)]; exact e1) (by rw [if_neg (by decide)]; exact e2) (by rw [if_neg (by decide)]; exact e3) (by rw [if_neg (by decide)]; exact e4) (by rw [if_neg (by decide)]; exact e5) (by rw [if_neg (by decide)]; exact e6) (by rw [if_neg (by decide)]; exact e7)
    clear Ft F8 N8 e1 e2 e3 e4 e5 e6 e7
    have km := kdMark
    revert F9
    apply pg_cases hok hi hc hq
    · intro hlt hstep F9
      k_steps
      exact InvEndG.intro (by k_asm) (by k_asm) (fun z k => k cA us cn _ _ _ _ _ _ _ _ _ hlt hstep hbs hints rfl rfl rfl rfl rfl rfl rfl) hown (sub_left sub_refl) (sub_right sub_refl)
    · intro hlt hstep F9
      have hne : ∀ p ∈ _ ++ own, p.1 ≠ cA := all_app (fun p h => Nat.ne_of_lt (hbs p h)) (fun p h => hown p h cA (.head _))
      k_with "setItem ref int" => (refine ksa_set (by k_asm) (by k_asm) (Upd.head hne) hints (by omega) (by omega) (by omega) ?_; intro h' F' N' hi' hl' hs')
      k_steps
      · rename News _ _ _ _ => N7
        rename Fr _ _ _ _ => F7
        rename IntsAre (List.set _ _ _) _ => hi7
        rename _ ∧ _ ∧ AllLt _ _ => l7
        rename (cnt.length : Int) ≤ b => hle
        have hlt7 := ktn_ltOf l7.2.2
        exact end_new F7 N7 hown hlt7 (fun z k => k _ _ _ _ _ _ _ _ _ _ _ _ hlt hstep (fun q hq => hlt7 q (List.mem_append.mpr (.inl (.tail _ hq)))) (by rw [bump_le hle]; exact hi7) rfl rfl rfl rfl rfl rfl rfl)
      · rename News _ _ _ _ => N7
        rename Fr _ _ _ _ => F7
        rename ¬ ((cnt.length : Int) ≤ b) => hle
        exact end_same F7 N7 hown (fun z k => k _ _ _ _ _ _ _ _ _ _ _ _ hlt hstep hbs (by rw [bump_gt hle]; exact hi') rfl rfl rfl rfl rfl rfl rfl)
    · intro hie hq9 hS9 hT9 F9
      have hb9 := allLt_of hbs
      simp only [AllLt] at hb9
      have N9 := news_left Nt
      clear Nt
      have hus : us.length < 1000 := by rw [hul]; exact Nat.lt_of_le_of_lt hc1 (by decide)
      k_steps
      rename _ ∧ _ ∧ _ ∧ _ ∧ _ ∧ AllLt _ _ => lT
      rename _ ∧ _ ∧ _ ∧ _ ∧ AllLt _ _ => l5
      rename _ ∧ _ ∧ AllLt _ _ => l0
      refine hret _ [_, _, _, _, _, _] _ _ (by k_asm) (news_swap [_, _, _, _, _, _] (by k_asm)) ?_ ?_
      · intro q hq
        exact all_cons (ktn_ltOf lT.2.2.2.2.2 q hq) (all_cons (ktn_ltOf l5.2.2.2.2 q hq) (all_cons (hbs q (.tail _ (.tail _ (.tail _ hq)))) (all_cons (ktn_ltOf l0.2.2 q hq) (all_cons (Nat.lt_trans (l1 q hq) l2) (all_one (l1 q hq))))))
      · rw [hq9]
        exact WsIn.mk (.tail _ (.tail _ (.tail _ (.tail _ (.head _))))) (.tail _ (.tail _ (.tail _ (.tail _ (.tail _ (.head _)))))) (.head _) (.tail _ (.head _)) hints
  · intro m1 nx h tk hJ Ft Nt
    exact (pg_size (d := d) (by apply hJ; intros; assumption)).elim
end Mine
end
-- C_eq
section
open PySem PySem.W PyProof.Rows
namespace Mine
theorem none_Ceq : True := by
  k_with_none
  w_top off
  trivial
theorem news_cons {h₀ h : Heap} {L : Addr} {news l : Led} {q : Addr × Obj} (N : News h₀ L h news) (hq : q ∈ news) (N' : News h₀ L h l) : News h₀ L h (q :: l) := fun p hp => (List.mem_cons.mp hp).elim (fun e => e ▸ N q hq) (N' p)
theorem reads_ints {h : Heap} : ∀ {vs : List Value} {ns : List Int}, IntsAre vs ns → ∃ as, ReadsAll h vs (ns.map PyData.int) as
  | _, _, .nil => ⟨[], .nil⟩
  | _, _, .cons _ _ hi => (reads_ints hi).elim fun as r => ⟨_, .cons (.int _ _) r⟩
theorem norm_eqv (c1 c2 : List Int) (b1 b2 : Int) : PyData.eqv (.tuple [.tuple (c1.map .int), .int b1]) (.tuple [.tuple (c2.map .int), .int b2]) = decide (c1 = c2 ∧ b1 = b2) := by
  simp [PyData.eqv, PyData.eqvAll, ked_eqvAll]
  rfl
theorem norm_shaped (c1 : List Int) (b1 : Int) : SeqAt.shaped (.tuple [.tuple (c1.map .int), .int b1]) = true := by
  simp [SeqAt.shaped, PyData.canLay0, PyData.canLayAll0, PyData.depth, PyData.depthAll, ke_canLayAll0, ke_depthAll]
theorem eq_norms {prog : Program} {w : World} {A : Around} {E : Value → Shared → Prop} {s : Shared} {h₀ : Heap} {L T1 C1 T2 C2 : Addr} {news : Led} {us1 us2 : List Value} {c1 c2 : List Int} {b1 b2 : Int} {t1 t2 : Tok} {Q : Value → Shared → Prop} (N : News h₀ L s.heap news)
    (h1 : (T1, ({ cls := .type "tuple", data := .seq #[.ref C1, .int b1 t1] } : Obj)) ∈ news) (h2 : (C1, ({ cls := .type "tuple", data := .seq us1.toArray } : Obj)) ∈ news)
    (h3 : (T2, ({ cls := .type "tuple", data := .seq #[.ref C2, .int b2 t2] } : Obj)) ∈ news) (h4 : (C2, ({ cls := .type "tuple", data := .seq us2.toArray } : Obj)) ∈ news)
    (i1 : IntsAre us1 c1) (i2 : IntsAre us2 c2) (hu : A.units + 64 < cLine) (h : Q (.bool (decide (c1 = c2 ∧ b1 = b2))) s) : wpAny (model prog w) A (compareOp .Eq (.ref T1) (.ref T2)) Q E s := by
  obtain ⟨a1, r1⟩ := reads_ints (h := s.heap) i1
  obtain ⟨a2, r2⟩ := reads_ints (h := s.heap) i2
  refine eq_dataH (reads_tuple_at (N _ h1).1 rfl rfl (.cons (reads_tuple_at (N _ h2).1 rfl rfl r1) (.cons (.int _ _) .nil))) (reads_tuple_at (N _ h3).1 rfl rfl (.cons (reads_tuple_at (N _ h4).1 rfl rfl r2) (.cons (.int _ _) .nil))) (norm_shaped _ _) (norm_shaped _ _) hu ?_
  rw [norm_eqv]
  exact h
theorem back8 {h₀ h : Heap} {L : Addr} {news : Led} {q1 q2 q3 q4 q5 q6 q7 q8 : Addr × Obj} (N : News h₀ L h (q1 :: q2 :: q3 :: q4 :: q5 :: q6 :: q7 :: q8 :: news)) : News h₀ L h (news ++ []) := fun p hp =>
  N p (by rw [List.append_nil] at hp; exact .tail _ (.tail _ (.tail _ (.tail _ (.tail _ (.tail _ (.tail _ (.tail _ hp))))))))
inductive Arg2W (w : World) (news : Led) : List Value → Wst × Wst → Prop
  | mk {v u : Value} {a b : Wst} : WsIn w news v a → WsIn w news u b → Arg2W w news [v, u] (a, b)
noncomputable abbrev eqT (w : World) : Told2 (Wst × Wst) where
  Rel := Arg2W w
  Ok := fun _ => True
  size := fun _ => 12
  Out := fun news v d => v = .bool (decide (d.1.1 = d.2.1 ∧ d.1.2.1 = d.2.2.1))
set_option maxRecDepth 100000 in
set_option maxHeartbeats 1000000 in
theorem eq_tells (w : World) (mean : ExcName → Option Value) (mg mb : Str → Option Value) (d : Wst × Wst) : Tells2 P w (hd.heap_39 w.params) hd.view_39 Lo mean mg mb (80) (eqT w) d := by
  unfold Tells2
  intro dp un gd cn cs a ccd cl outer A₀ base h₀ L m news s vs Q E B F X N T hk hR hok hd hu hret
  cases hR
  rename_i v u wa wb hv hu9
  cases hv
  cases hu9
  rename_i x1 dx1 T1 C1 us1 cnt1 b1 n1 nt1 tx1 i1 j1 i2 j2 i3 j3 i4 j4 i5 sb1 q1 q2 q3 q4 q5 x2 dx2 T2 C2 us2 cnt2 b2 n2 nt2 tx2 r1 r2 r3 r4 r5 y1 y2 y3 y4 sb p1 p2 p3 p4 p5
  dsimp only [eqT] at hd hu hret
  have N9 : News h₀ L s.heap (_ :: _ :: _ :: _ :: _ :: _ :: _ :: _ :: news) := news_cons N q1 (news_cons N q2 (news_cons N q3 (news_cons N q4 (news_cons N p1 (news_cons N p2 (news_cons N p3 (news_cons N p4 N)))))))
  refine wpAny_call ?_
  clear N q1 q2 q3 q4 p1 p2 p3 p4
  k_dflt ktr_enter
  k_steps
  show wpAny _ _ _ _ _ _
  rename News _ _ _ _ => N8
  refine eq_norms N8 (.tail _ (.tail _ (.head _))) (.tail _ (.tail _ (.tail _ (.head _)))) (.tail _ (.tail _ (.tail _ (.tail _ (.tail _ (.tail _ (.head _))))))) (.tail _ (.tail _ (.tail _ (.tail _ (.tail _ (.tail _ (.tail _ (.head _)))))))) q5 p5 (by first | ktr_units | (trace_state; ke_room)) ?_
  k_steps
  exact hret _ [] _ _ (by k_asm) (back8 (by k_asm)) ktn_ord0 rfl
end Mine
end
-- ReadD
section
open PySem PySem.W PyProof.Rows
namespace Mine
theorem none_ReadD : True := by
  k_with_none
  w_top off
  trivial
/-- what _law_read is handed: its turns, the page ahead of each, its parts, its head -/
structure Rd where
  n : Nat
  T : Nat → Str
  q : Nat → Pg
  hd : Nat → Str
noncomputable def nmF (d : Rd) (i : Nat) : List Int × Int := ((wsF (d.q i).ws).1, (wsF (d.q i).ws).2.1)
noncomputable def sameF (d : Rd) (st : List Nat) (k : Nat) : List Nat := (List.range st.length).filter fun p => decide (nmF d (st.getD p 0) = nmF d k)
noncomputable def cutF (d : Rd) (st : List Nat) (k : Nat) : List Nat := match sameF d st k with
  | [] => st
  | p :: _ => st.take p
noncomputable def stkF (d : Rd) : Nat → List Nat
  | 0 => []
  | k + 1 => cutF d (stkF d k) k ++ [k]
noncomputable def abvF (d : Rd) (k : Nat) : Int := match (cutF d (stkF d k) k).getLast? with
  | some j => (j : Int)
  | none => -1
theorem cutF_length (d : Rd) (st : List Nat) (k : Nat) : (cutF d st k).length ≤ st.length := by
  unfold cutF
  split
  · exact Nat.le_refl _
  · rw [List.length_take]; exact Nat.min_le_right _ _
theorem stkF_length (d : Rd) (k : Nat) : (stkF d k).length ≤ k := by
  induction k with
  | zero => exact Nat.le_refl _
  | succ k ih =>
    have := cutF_length d (stkF d k) k
    rw [stkF, List.length_append, List.length_singleton]
    omega
inductive OutIn (news : Led) : Value → Int × Str → Prop
  | mk {D : Addr} {a : Int} {h : Str} {t1 t2 t3 : Tok} : (D, ({ cls := .type "tuple", data := .seq #[.int a t1, .str h t2, .str h t3, .bool true] } : Obj)) ∈ news → OutIn news (.ref D) (a, h)
theorem OutIn.mono {news news' : Led} {v : Value} {r : Int × Str} (h : OutIn news v r) (hs : ∀ p ∈ news, p ∈ news') : OutIn news' v r := by
  cases h with | mk h => exact .mk (hs _ h)
theorem WsIn.mono {w : World} {news news' : Led} {v : Value} {r : Wst} (h : WsIn w news v r) (hs : ∀ p ∈ news, p ∈ news') : WsIn w news' v r := by
  cases h with | mk a b c e f => exact .mk (hs _ a) (hs _ b) (hs _ c) (hs _ e) f
theorem WsIn.ref {w : World} {news : Led} {v : Value} {r : Wst} (h : WsIn w news v r) : ∃ x, v = .ref x := by
  cases h with | mk a b c e f => exact ⟨_, rfl⟩
inductive StIn (w : World) (d : Rd) (news : Led) : Value → Nat → Prop
  | mk {D x : Addr} {j : Nat} {t1 : Tok} : (D, ({ cls := .type "tuple", data := .seq #[.ref x, .int (j : Int) t1] } : Obj)) ∈ news → WsIn w news (.ref x) (wsF (d.q j).ws) → StIn w d news (.ref D) j
theorem StIn.mono {w : World} {d : Rd} {news news' : Led} {v : Value} {r : Nat} (h : StIn w d news v r) (hs : ∀ p ∈ news, p ∈ news') : StIn w d news' v r := by
  cases h with | mk h k => exact .mk (hs _ h) (k.mono hs)
inductive ArgRd (news : Led) : List Value → Rd → Prop
  | mk {d : Rd} {t1 t2 : Tok} : ArgRd news [.str (d.T 0) t1, .int (d.n : Int) t2] d
inductive OutRd (news : Led) : Value → Rd → Prop
  | mk {D L : Addr} {us : List Value} {c : Nat} {d : Rd} {t1 : Tok} : (D, ({ cls := .type "tuple", data := .seq #[.ref L, .str (d.T d.n) t1] } : Obj)) ∈ news → (L, listOf us.toArray c) ∈ news →
    All2 (OutIn news) us ((List.range d.n).map fun k => (abvF d k, d.hd k)) → OutRd news (.ref D) d
structure readOk (d : Rd) : Prop where
  n : d.n ≤ 8
  t : ∀ i, i < d.n → d.T i = (d.q i).text
  ws : ∀ i, i < d.n → wsOk (d.q i)
  len : ∀ i, i < d.n → (d.T i).length ≤ 1000
  sp : ∀ i, i < d.n → splitF (d.T i) = (d.hd i, d.T (i + 1))
  hl : ∀ i, i < d.n → (d.hd i).length ≤ 10
  cut : ∀ i, i < d.n → Txt.slice (d.T i) (some (wsF (d.q i).ws).2.2.1) (some ((wsF (d.q i).ws).2.2.1 + ((d.hd i).length : Int))) = d.hd i
  cnt : ∀ i, i < d.n → Txt.count (Txt.slice (d.T i) none (some (wsF (d.q i).ws).2.2.1)) (Str.ofString "\t") = (wsF (d.q i).ws).2.2.2
noncomputable abbrev readT : Told2 Rd where
  Rel := ArgRd
  Ok := readOk
  size := fun _ => 20
  Out := OutRd
noncomputable def readJ (w : World) (D C : Addr) (news : Led) (d : Rd) (i : Nat) (m : Str → Option Value) (nx : Led) : Prop :=
  ∀ z : Led → Prop, (∀ (us : List Value) (n : Nat) (S : Addr) (vs : List Value) (c : Nat) (tl : Led) (t1 : Tok) (o1 o2 : Obj) (v2 : Option Value), (@LT.lt Nat _ (C + 1 + 1) S) → (@Ne Nat S D) →
    (∀ p ∈ tl, (@LT.lt Nat _ (C + 1 + 1) p.1) ∧ (@Ne Nat p.1 D) ∧ (@Ne Nat p.1 S)) → All2 (OutIn tl) us ((List.range i).map fun k => (abvF d k, d.hd k)) → All2 (StIn w d tl) vs (stkF d i) → o1.data = .cell (some (.ref S)) → o2.data = .cell v2 →
    m (Str.ofString "outline") = some (.ref D) → m (Str.ofString "page") = some (.str (d.T i) t1) → z ((S, listOf vs.toArray c) :: (D, listOf us.toArray n) :: (C + 1 + 1, o2) :: (C + 1, o1) :: (news ++ tl))) → z nx
theorem ints_snoc {ys : List Value} {xs : List Int} {x : Int} {t : Tok} (h : IntsAre ys xs) : IntsAre (ys ++ [.int x t]) (xs ++ [x]) := by
  induction h with
  | nil => exact .cons _ _ .nil
  | cons y t _ ih => exact .cons y t ih
noncomputable def sameI (d : Rd) (st : List Nat) (k p : Nat) : List Nat := (List.range p).filter fun z => decide (nmF d (st.getD z 0) = nmF d k)
theorem sameI_full (d : Rd) (st : List Nat) (k : Nat) : sameI d st k st.length = sameF d st k := rfl
theorem sameF_lt {d : Rd} {st : List Nat} {k p : Nat} (h : p ∈ sameF d st k) : p < st.length := by
  unfold sameF at h
  exact List.mem_range.mp (List.mem_filter.mp h).1
theorem kms_upto (l : List Value) (p : Nat) : kms_pick l none (some (p : Int)) = l.take p := by
  unfold kms_pick kms_lo kms_hi
  dsimp only
  rw [if_neg (by omega), List.drop_zero, Nat.sub_zero, Int.toNat_natCast]
  by_cases h : p ≤ l.length
  · rw [Nat.min_eq_left h]
  · rw [Nat.min_eq_right (by omega), List.take_length, List.take_of_length_le (by omega)]
theorem All2.take {α : Type} {R : Value → α → Prop} {vs : List Value} {as : List α} (h : All2 R vs as) (p : Nat) : All2 R (vs.take p) (as.take p) := by
  induction h generalizing p with
  | nil => simp; exact .nil
  | cons h _ ih =>
    cases p with
    | zero => exact .nil
    | succ p => exact .cons h (ih p)
/-- a list of the ledger grows, wherever it stands -/
theorem append_pre {prog : Program} {w : World} {A : Around} {E : Value → Shared → Prop} {s : Shared} {h₀ : Heap} {L D : Addr} {m : Str → Option Value} {us : List Value} {n : Nat} {Q : Value → Shared → Prop} {x : Value} (pre : Led) {rest : Led} (F : Fr h₀ L s.heap m) (N : News h₀ L s.heap (pre ++ (D, listOf us.toArray n) :: rest)) (hp : ∀ p ∈ pre, @Ne Nat p.1 D) (hr : ∀ p ∈ rest, @Ne Nat p.1 D) (hf : us.length < 1000)
    (h : ∀ h', Fr h₀ L h' m → News h₀ L h' ((D, listOf (us ++ [x]).toArray (n + 1)) :: (pre ++ rest)) → Q .none { s with heap := h' }) :
    wpAny (model prog w) A (call (.builtin "list.append") [.ref D, x]) Q E s := by
  refine append_led (pre ++ rest) F N (List.mem_append.mpr (.inr (.head _))) (fun p hm => ?_) hf h
  rcases List.mem_append.mp hm with hm | hm
  · exact ⟨List.mem_append.mpr (.inl hm), hp p hm⟩
  · exact ⟨List.mem_append.mpr (.inr (.tail _ hm)), hr p hm⟩
theorem off1_mem {D : Addr} : ∀ {l : Led}, LCg.Off1 D l → ∀ p ∈ l, @Ne Nat p.1 D
  | [], _, _, h => nomatch h
  | _ :: _, x, p, h => by
    rcases List.mem_cons.mp h with rfl | h
    · exact x.1
    · exact off1_mem x.2 p h
theorem sameI_yes {d : Rd} {st : List Nat} {k p j : Nat} (hj : st[p]? = some j) (h : nmF d j = nmF d k) : sameI d st k (p + 1) = sameI d st k p ++ [p] := by
  have e : st.getD p 0 = j := by rw [List.getD_eq_getElem?_getD, hj, Option.getD_some]
  unfold sameI
  rw [List.range_succ, List.filter_append]
  congr 1
  rw [List.filter_cons_of_pos (by rw [e]; exact decide_eq_true h), List.filter_nil]
theorem sameI_no {d : Rd} {st : List Nat} {k p j : Nat} (hj : st[p]? = some j) (h : nmF d j ≠ nmF d k) : sameI d st k (p + 1) = sameI d st k p := by
  have e : st.getD p 0 = j := by rw [List.getD_eq_getElem?_getD, hj, Option.getD_some]
  unfold sameI
  rw [List.range_succ, List.filter_append, List.filter_cons_of_neg (by rw [e]; simpa using h), List.filter_nil, List.append_nil]
theorem Tup2S.use {news : Led} {v : Value} {a b : Str} (h : Tup2S news v (a, b)) {z : Value → Prop} (k : ∀ (D : Addr) (t1 t2 : Tok), (D, ({ cls := .type "tuple", data := .seq #[.str a t1, .str b t2] } : Obj)) ∈ news → z (.ref D)) : z v := by
  cases h with | mk h => exact k _ _ _ h
theorem StIn.use {w : World} {d : Rd} {news : Led} {v : Value} {j : Nat} (h : StIn w d news v j) {z : Value → Prop} (k : ∀ (D x : Addr) (t1 : Tok), (D, ({ cls := .type "tuple", data := .seq #[.ref x, .int (j : Int) t1] } : Obj)) ∈ news → WsIn w news (.ref x) (wsF (d.q j).ws) → z (.ref D)) : z v := by
  cases h with | mk h h2 => exact k _ _ _ h h2
theorem WsIn.useRef {w : World} {news : Led} {v : Value} {r : Wst} (h : WsIn w news v r) {z : Value → Prop} (k : ∀ x, WsIn w news (.ref x) r → z (.ref x)) : z v := by
  obtain ⟨x, rfl⟩ := h.ref
  exact k x h
theorem WsIn.use {w : World} {news : Led} {x : Addr} {r : Wst} (h : WsIn w news (.ref x) r) {G : Prop} (k : ∀ (dx T : Addr) (n nt : Int) (text : Str) (k1 k2 k3 k4 k5 t0 t1 t2 : Tok) (sb : Bool), r.2.2.1 = n → r.2.2.2 = nt → (x, instObj 104 dx) ∈ news →
    (dx, dictOf [⟨PyData.keyHash w.params (Str.ofString "raw"), .str (Str.ofString "raw") k1, .str text t0⟩, ⟨PyData.keyHash w.params (Str.ofString "n"), .str (Str.ofString "n") k2, .int n t1⟩, ⟨PyData.keyHash w.params (Str.ofString "nt"), .str (Str.ofString "nt") k3, .int nt t2⟩,
      ⟨PyData.keyHash w.params (Str.ofString "norm"), .str (Str.ofString "norm") k4, .ref T⟩, ⟨PyData.keyHash w.params (Str.ofString "is_simple"), .str (Str.ofString "is_simple") k5, .bool sb⟩] 5) ∈ news → G) : G := by
  cases h with | mk a b c d e => exact k _ _ _ _ _ _ _ _ _ _ _ _ _ _ rfl rfl a b
theorem nm_use {d : Rd} {i j : Nat} {r : Value} (h : r = .bool (decide ((wsF (d.q j).ws).1 = (wsF (d.q i).ws).1 ∧ (wsF (d.q j).ws).2.1 = (wsF (d.q i).ws).2.1))) {z : Value → Prop} (h1 : nmF d j = nmF d i → z (.bool true)) (h2 : nmF d j ≠ nmF d i → z (.bool false)) : z r := by
  have hdec : decide ((wsF (d.q j).ws).1 = (wsF (d.q i).ws).1 ∧ (wsF (d.q j).ws).2.1 = (wsF (d.q i).ws).2.1) = decide (nmF d j = nmF d i) := by
    apply decide_eq_decide.mpr
    unfold nmF
    rw [Prod.mk.injEq]
  rw [hdec] at h
  subst h
  by_cases hn : nmF d j = nmF d i
  · rw [decide_eq_true hn]; exact h1 hn
  · rw [decide_eq_false hn]; exact h2 hn
theorem heads_use {d : Rd} {st : List Nat} {i : Nat} {ys : List Value} (hys : IntsAre ys ((sameF d st i).map Int.ofNat)) {G : List Value → Prop} (h1 : sameF d st i = [] → G []) (h2 : ∀ z rest tz, sameF d st i = z :: rest → ys[0]? = some (.int (z : Int) tz) → 0 < (ys.length : Int) → z < st.length → G ys) : G ys := by
  have hylen := hys.length
  cases hcs : sameF d st i with
  | nil =>
    rw [hcs] at hylen
    rw [List.length_eq_zero_iff.mp hylen]
    exact h1 hcs
  | cons z rest =>
    rw [hcs] at hys hylen
    obtain ⟨tz, hz⟩ := hys.get 0 (z : Int) rfl
    exact h2 z rest tz hcs hz (by simp at hylen; omega) (sameF_lt (k := i) (by rw [hcs]; exact .head _))
theorem stk_use {w : World} {d : Rd} {tl : Led} {vs : List Value} {i : Nat} (h : All2 (StIn w d tl) vs (cutF d (stkF d i) i)) {G : List Value → Prop} (h1 : abvF d i = -1 → G [])
    (h2 : ∀ (D x : Addr) (j : Nat) (t1 : Tok), abvF d i = (j : Int) → vs.getLast? = some (.ref D) → 0 < (vs.length : Int) → (D, ({ cls := .type "tuple", data := .seq #[.ref x, .int (j : Int) t1] } : Obj)) ∈ tl → G vs) : G vs := by
  rcases List.eq_nil_or_concat (cutF d (stkF d i) i) with hr | ⟨cs, j, hr⟩
  · rw [hr] at h
    cases h
    exact h1 (by unfold abvF; rw [hr]; rfl)
  · rw [List.concat_eq_append] at hr
    rw [hr] at h
    obtain ⟨us0, v0, rfl, hall0, hr0⟩ := h.last
    cases hr0
    rename_i Dj xj tj hmj hwj
    exact h2 _ _ j _ (by unfold abvF; rw [hr]; simp) (by simp) (by simp) hmj
theorem same_len {d : Rd} {st : List Nat} {i : Nat} {ys : List Value} (hys : IntsAre ys ((sameF d st i).map Int.ofNat)) : ys.length ≤ st.length := by
  rw [hys.length, List.length_map]
  unfold sameF
  have := List.length_filter_le (fun p => decide (nmF d (st.getD p 0) = nmF d i)) (List.range st.length)
  rwa [List.length_range] at this
theorem cut_none {d : Rd} {st : List Nat} {i : Nat} (h : sameF d st i = []) : cutF d st i = st := by unfold cutF; rw [h]
theorem cut_some {d : Rd} {st rest : List Nat} {i z : Nat} (h : sameF d st i = z :: rest) : cutF d st i = st.take z := by unfold cutF; rw [h]
end Mine
end
-- C_read
section
open PySem PySem.W PyProof.Rows
namespace Mine
local macro_rules | `(tactic| walk_at "no such key 0") => `(tactic| fail)
local macro_rules | `(tactic| walk_at "no such key 1") => `(tactic| fail)
theorem none_Cread : True := by
  k_with_none
  w_top off
  trivial
local macro_rules | `(tactic| k_room) => `(tactic| ktr_room)
local macro_rules | `(tactic| walk_at "subscriptTail Name Slice ref ref") => `(tactic| (k_dflt (refine' kms_slice_lit (its := List.toArray _) ?slF ?slN ?slL ?slP ?slQ ?slE ?_ ?slS ?slT ?slZ; (case slF => k_asm); (case slN => k_asm); (case slL => exact isList_led (by k_asm) (by k_mem)); (case slP => exact IsPart.none); (case slQ => exact IsPart.int _ _); (case slE => exact kms_upto _ _); (case slS => with_unfolding_all rfl); (case slT => kmk_pure); (case slZ => (rw [List.size_toArray, sizeLine_eq]; omega))); intro D5 h5 F5 N5 l5; k_lt l5))
local macro_rules | `(tactic| walk_at "subscriptTail Name Constant ref int") => `(tactic| refine halt ?_)
local macro_rules | `(tactic| walk_at "subscriptTail Name Slice str ref") => `(tactic| ((k_dflt (first
  | (refine slice_strN_ss (hsz := ?slZ) (s := ⟨_, _, _, _, _⟩) ?slF ?slN ?_; (case slZ => (rw [sizeLine_eq]; omega)); (case slF => k_asm); (case slN => k_asm))
  | (refine slice_strN_ns (hsz := ?slZ) (s := ⟨_, _, _, _, _⟩) ?slF ?slN ?_; (case slZ => (rw [sizeLine_eq]; omega)); (case slF => k_asm); (case slN => k_asm)))); intro h5 t5 k5 F5 N5))
local macro_rules | `(tactic| walk_at "CompSrcT") => `(tactic| refine halt ?_)
set_option maxRecDepth 100000 in
set_option maxHeartbeats 4000000 in
theorem read_tells (w : World) (mean : ExcName → Option Value) (mg mb : Str → Option Value) (d : Rd) : Tells2 P w (hd.heap_39 w.params) hd.view_39 Lo mean mg mb (130) readT d := by
  unfold Tells2
  intro dp un gd cn cs a ccd cl outer A₀ base h₀ L m news s vs Q E B F X N T hk hR hok hd hu hret
  cases hR
  obtain ⟨o1, o2, o3, o4, o5, o6, o7, o8⟩ := hok
  dsimp only [readT] at hd hu hret
  refine wpAny_call ?_
  k_dflt (refine' code_defC ?k1 ?k2 ?k3 ?k4 ?k5 ?kA ?kF ?kK ?k6 ?k7 ?k8 ?k9 ?kB ?kD ?_ ?c2 ?c3 ?c4; (case kA => exact rfl); (case kF => exact rfl); (case kK => assumption); (case k1 => k_asm); (case k2 => k_asm); (case k3 => k_asm); (case k4 => k_asm); (case k5 => k_asm); (case k6 => k_is); (case k7 => k_is); (case k8 => ktr_room); (case k9 => exact BindsTo.of_eq rfl); (case kB => exact rfl); (case kD => decide +kernel); (case c2 => exact rfl); (case c3 => exact rfl); (case c4 => exact rfl); k_whole; intro g' L' h' tk' cells' FG' F' N' Y' B' X' T' l1; (try k_lt l1); (obtain ⟨oSn, oSt, hE', dSn, dSt⟩ := CellsAre.two Y'); subst hE'; clear Y'; (try simp only [List.cons_append, List.nil_append] at N'); (try dsimp only); (try k_fold))
  have km := kdMark
  have l2 : ∀ p ∈ news, p.1 < L' + 1 := fun p hp => Nat.lt_succ_of_lt (l1 p hp)
  have l3 : ∀ p ∈ news, p.1 < L' + 1 + 1 := fun p hp => Nat.lt_succ_of_lt (l2 p hp)
  have o1' := Flt.Hid.mk o1
  clear o1
  k_with "pyIter ref" => refine halt ?_
  k_steps
  k_with_none
  show wpAny _ _ _ _ _ _
  rename IsRange _ _ _ _ _ _ _ _ => hrange
  rename _ ∧ _ ∧ _ ∧ AllLt _ _ => lS
  rename _ ∧ _ ∧ AllLt _ _ => lD
  rename News _ _ _ _ => N7
  rename Fr _ _ _ _ => F7
  rename _ = Data.cell (some _) => dS
  rename_i D hA hB tkA S0 hC hE oS FX NX hF tkB tt uu vv hkeep
  clear FX NX hkeep dSt
  have lD1 : @LT.lt Nat _ (L' + 1 + 1) D := lD.1
  refine iter_range (readJ w _ L' news d) rfl hrange (by have := o1'.out; omega) F7 N7 (fun z k => (List.append_nil news) ▸ k [] 0 _ [] 0 [] _ _ _ _ lS.2.1 (Nat.ne_of_gt lS.1) all_nil .nil .nil dS dSn rfl rfl) ?_ ?_
  · intro i t m1 nx h tk9 own hi hown hJ Ft Nt
    revert hown Nt
    apply hJ
    clear hJ nx
    intro us n S vs c tl u1 q1 q2 v0 hS hSD htl hus hvs dq1 dq2 e1 e2 hown Nt
    k_fold
    have hvl0 : vs.length = (stkF d i).length := hvs.length
    have hvl : vs.length < 1000 := by have := stkF_length d i; have := o1'.out; omega
    have F9 := fr_see3 Ft (x1 := Str.ofString "outline") (x2 := Str.ofString "page") (x3 := Str.ofString "k") (by rw [if_neg (by decide)]; exact e1) (by rw [if_neg (by decide)]; exact e2) (by rw [if_pos rfl])
    refine gen3 (p1 := fun bg => News g' L' h ((S, listOf vs.toArray c) :: (D, listOf us.toArray n) :: (L' + 1 + 1, q2) :: (L' + 1, q1) :: bg)) (p2 := fun bg => OwnOff bg [S, D, L' + 1 + 1, L' + 1]) (p3 := fun bg => ∀ p ∈ news ++ tl ++ own, p ∈ bg) (news ++ tl ++ own) Nt (off_app (off_app (off4_lt l2 hS lD1) (off4_tl htl)) (off_pre (l := [S, D, L' + 1 + 1, L' + 1]) hown)) sub_refl ?_
    intro bg N9 hoff hnb
    have hownT : ∀ p ∈ own, ∀ q ∈ news ++ tl, @Ne Nat p.1 q.1 := fun p hp q hq => hown p hp q.1 (.tail _ (.tail _ (.tail _ (.tail _ (List.mem_map.mpr ⟨q, hq, rfl⟩)))))
    clear Nt Ft F7 N7 hown e1 e2 hrange
    k_with "call ref" => (refine halt ?_)
    k_steps
    k_with_none
    show wpAny _ _ _ _ _ _
    k_dflt (refine tells2_use (ws_tells w mean mg mb (d.q i)) (by k_asm) (by k_asm) (by k_asm) (by k_asm) (by k_asm) rfl (by rw [o2 i hi]; exact ArgPg.mk) (o3 i hi) (by ktr_room) (by ktr_units) ?_)
    intro rW tlW hW tkW FW NW hlW hoW
    apply WsIn.useRef hoW
    clear hoW rW
    intro xW hoW
    have hlW' : ∀ p ∈ tlW, (@LT.lt Nat _ S p.1) ∧ (@LT.lt Nat _ D p.1) ∧ (@LT.lt Nat _ (L' + 1 + 1) p.1) := fun p hp => ⟨hlW _ (.head _) p hp, hlW _ (.tail _ (.head _)) p hp, hlW _ (.tail _ (.tail _ (.head _))) p hp⟩
    refine gen4 (p1 := fun bg1 => News g' L' hW ((S, listOf vs.toArray c) :: (D, listOf us.toArray n) :: (L' + 1 + 1, q2) :: (L' + 1, q1) :: bg1)) (p2 := fun bg1 => OwnOff bg1 [S, D, L' + 1 + 1, L' + 1]) (p3 := fun bg1 => ∀ p ∈ bg, p ∈ bg1) (p4 := fun bg1 => ∀ p ∈ tlW, p ∈ bg1) (tlW ++ bg) (news_rot [_, _, _, _] NW) (off_app (off4_gt hlW') hoff) (sub_right sub_refl) (sub_left sub_refl) ?_
    intro bg1 NW1 hoff1 hnb1 hnw1
    clear NW N9 hoff
    k_with "call ref" => (refine halt ?_)
    k_steps
    k_with_none
    show wpAny _ _ _ _ _ _
    rename News _ _ _ _ => NX
    rename _ = Data.cell (some (Value.ref xW)) => dqW
    rename_i hX qW FX
    k_dflt (refine tells2_use (split_tells w mean mg mb (d.T i)) (by k_asm) (by k_asm) (by k_asm) (by k_asm) (by k_asm) rfl Arg1S.mk (o4 i hi) (by ktr_room) (by ktr_units) ?_)
    intro rT tlT hT tkT FT NT hlT hoT
    have hoT2 : Tup2S tlT rT (d.hd i, d.T (i + 1)) := (o5 i hi) ▸ hoT
    apply Tup2S.use hoT2
    clear hoT hoT2 rT
    intro DT y1 y2 hmT
    have hlT' : ∀ p ∈ tlT, (@LT.lt Nat _ S p.1) ∧ (@LT.lt Nat _ D p.1) ∧ (@LT.lt Nat _ (L' + 1 + 1) p.1) := fun p hp => ⟨hlT _ (.head _) p hp, hlT _ (.tail _ (.head _)) p hp, hlT _ (.tail _ (.tail _ (.head _))) p hp⟩
    refine gen3 (p1 := fun bg2 => News g' L' hT ((DT, ({ cls := .type "tuple", data := .seq #[.str (d.hd i) y1, .str (d.T (i + 1)) y2] } : Obj)) :: (S, listOf vs.toArray c) :: (D, listOf us.toArray n) :: (L' + 1 + 1, qW) :: (L' + 1, q1) :: bg2)) (p2 := fun bg2 => OwnOff bg2 [S, D, L' + 1 + 1, L' + 1]) (p3 := fun bg2 => ∀ p ∈ bg1, p ∈ bg2) (tlT ++ bg1) (news_cons NT (List.mem_append.mpr (.inr hmT)) (news_rot [_, _, _, _] NT)) (off_app (off4_gt hlT') hoff1) (sub_right sub_refl) ?_
    intro bg2 NT1 hoff2 hnb2
    have hDT : @LT.lt Nat _ S DT := (hlT' _ hmT).1
    have hDT2 : @LT.lt Nat _ D DT := (hlT' _ hmT).2.1
    have hDT3 : @LT.lt Nat _ (L' + 1 + 1) DT := (hlT' _ hmT).2.2
    clear NT NX FX hoff1
    k_with_none
    k_with "exec Assign cons ListComp" => (refine halt ?_)
    k_steps
    k_with_none
    show wpAny _ _ _ _ _ _
    k_dflt (refine LCt.Assign_ListComp_T (F₀ := by k_asm) (by rfl) (by with_unfolding_all rfl) (by with_unfolding_all rfl) (by decide) (by rfl) (by decide) (by rfl) (by rfl) (by rfl) ?_)
    k_with "call builtin:len" => (refine len_led (by k_asm) (List.Mem.tail _ (.head _)) (by assumption) ?_)
    k_steps
    k_with_none
    show LCt.CompSrcT _ _ _ _ _ _ _ _ _ _ _ _ _ _ _
    rename IsRange _ _ _ _ _ _ _ _ => hrS
    rename News _ _ _ _ => NS
    rename Fr _ _ _ _ => FS
    refine LCt.CompSrcT.range rfl FS NS hrS (range_small hvl) (range_size _) (by rw [sizeLine_eq]; omega) fun g9 => comp_restT (fun p ys nw => ∀ z : Led → Prop, (∀ tl2 : Led,
      (∀ r ∈ tl2, (@LT.lt Nat _ S r.1) ∧ (@LT.lt Nat _ D r.1) ∧ (@LT.lt Nat _ (L' + 1 + 1) r.1)) → IntsAre ys ((sameI d (stkF d i) i p).map Int.ofNat) →
      z ((DT, ({ cls := .type "tuple", data := .seq #[.str (d.hd i) y1, .str (d.T (i + 1)) y2] } : Obj)) :: (S, listOf vs.toArray c) :: (D, listOf us.toArray n) :: (L' + 1 + 1, qW) :: (L' + 1, q1) :: (bg2 ++ tl2))) → z nw) (fun z k => (List.append_nil bg2) ▸ k [] all_nil .nil) ?_ ?_
    · clear hrS NS FS
      intro p v I oI C oC Dy m₂ ys nw h8 tk8 E' hp hv hJ hC hx F8 N8 off ne
      revert N8 off
      apply hJ
      clear hJ nw
      revert hx
      apply int_var hv
      clear hv v
      intro t8 hx tl2 htl2 hys N8 off
      k_fold
      k_with "subscriptTail" => (refine item_led (by k_asm) (List.Mem.tail _ (List.Mem.tail _ (List.Mem.tail _ (List.Mem.tail _ (List.Mem.head _))))) (by omega) (by omega) (by omega) ?_; intro v8 hv8; refine halt ?_)
      k_steps
      k_with_none
      show wpAny _ _ _ _ _ _
      rw [Int.toNat_natCast] at hv8
      apply hvs.use hv8
      intro j hj hin
      clear hv8
      apply StIn.use hin
      clear hin v8
      intro Dj xj tj hmj hwj
      apply WsIn.use hwj
      intro dxj Tj nj ntj txj k1 k2 k3 k4 k5 k6 k7 k8 sbj _ _ m5j m1j
      have inb : ∀ p ∈ tl, p ∈ bg2 ++ tl2 := fun p hp => List.mem_append.mpr (.inl (hnb2 _ (hnb1 _ (hnb _ (List.mem_append.mpr (.inl (List.mem_append.mpr (.inr hp))))))))
      have inW : ∀ p ∈ tlW, p ∈ bg2 ++ tl2 := fun p hp => List.mem_append.mpr (.inl (hnb2 _ (hnw1 _ hp)))
      have N10 := news_cons N8 (mem_tail8 (inb _ hmj)) (news_cons N8 (mem_tail8 (inb _ m5j)) (news_cons N8 (mem_tail8 (inb _ m1j)) N8))
      k_with "call ref" => (refine halt ?_)
      k_steps
      k_with_none
      show wpAny _ _ _ _ _ _
      k_dflt (refine tells2_use (eq_tells w mean mg mb (wsF (d.q j).ws, wsF (d.q i).ws)) (by k_asm) F8 (by k_asm) N8 (by k_asm) rfl (Arg2W.mk (hwj.mono (sub8 inb)) (hoW.mono (sub8 inW))) trivial (by ktr_room) (by ktr_units) ?_)
      intro rE tlE hE tkE FE NE hlE hoE
      have htlE : ∀ r ∈ tl2 ++ tlE, (@LT.lt Nat _ S r.1) ∧ (@LT.lt Nat _ D r.1) ∧ (@LT.lt Nat _ (L' + 1 + 1) r.1) := all_app htl2 fun r hr => ⟨hlE _ (.tail _ (.tail _ (.tail _ (.tail _ (.head _))))) r hr, hlE _ (.tail _ (.tail _ (.tail _ (.tail _ (.tail _ (.head _)))))) r hr, hlE _ (.tail _ (.tail _ (.tail _ (.tail _ (.tail _ (.tail _ (.head _))))))) r hr⟩
      have NE1 := news_asc [_, _, _, _, _, _, _, _] NE
      have hoffE : LCg.Off3 I C Dy ((DT, ({ cls := .type "tuple", data := .seq #[.str (d.hd i) y1, .str (d.T (i + 1)) y2] } : Obj)) :: (S, listOf vs.toArray c) :: (D, listOf us.toArray n) :: (L' + 1 + 1, qW) :: (L' + 1, q1) :: (bg2 ++ (tl2 ++ tlE))) :=
        LCg.Off3.of fun p hp => (mem_spl [_, _, _, _, _] hp).elim (fun hp => off.mem p hp) fun hp => ⟨Nat.ne_of_gt (hlE _ (.head _) p hp), Nat.ne_of_gt (hlE _ (.tail _ (.head _)) p hp), Nat.ne_of_gt (hlE _ (.tail _ (.tail _ (.head _))) p hp)⟩
      clear NE N8 N10 F8
      apply nm_use hoE
      · intro hn
        k_steps
        refine end_mk FE NE1 hoffE trivial fun z k => k (tl2 ++ tlE) htlE ?_
        rw [sameI_yes hj hn, List.map_append]
        exact ints_snoc hys
      · intro hn
        k_steps
        refine end_mk FE NE1 hoffE trivial fun z k => k (tl2 ++ tlE) htlE ?_
        rw [sameI_no hj hn]
        exact hys
    · clear hrS NS FS
      intro ys nw hJ Dm h9 tk9 F8 N8 off
      revert N8 off
      apply hJ
      clear hJ nw
      intro tl2 htl2 hys N8 off
      rw [hvl0, sameI_full] at hys
      have hylen2 : ys.length < 1000 := Nat.lt_of_le_of_lt (same_len hys) (hvl0 ▸ hvl)
      have hoff9 := off1_mem off
      refine gen4 (p1 := fun bg3 => News g' L' h9 ((Dm, listOf ys.toArray ys.length) :: (DT, ({ cls := .type "tuple", data := .seq #[.str (d.hd i) y1, .str (d.T (i + 1)) y2] } : Obj)) :: (S, listOf vs.toArray c) :: (D, listOf us.toArray n) :: (L' + 1 + 1, qW) :: (L' + 1, q1) :: bg3)) (p2 := fun bg3 => ∀ p ∈ (DT, ({ cls := .type "tuple", data := .seq #[.str (d.hd i) y1, .str (d.T (i + 1)) y2] } : Obj)) :: (S, listOf vs.toArray c) :: (D, listOf us.toArray n) :: (L' + 1 + 1, qW) :: (L' + 1, q1) :: bg3, @Ne Nat p.1 Dm) (p3 := fun bg3 => OwnOff bg3 [S, D, L' + 1 + 1, L' + 1]) (p4 := fun bg3 => ∀ p ∈ bg2, p ∈ bg3) (bg2 ++ tl2) N8 hoff9 (off_app hoff2 (off4_gt htl2)) (sub_left sub_refl) ?_
      clear N8 hoff9 off
      intro bg3 N8' hoff9 hoff3 hnb3
      clear hoff2
      have hDmS : @Ne Nat S Dm := hoff9 (S, _) (.tail _ (.head _))
      have hDmD : @Ne Nat D Dm := hoff9 (D, _) (.tail _ (.tail _ (.head _)))
      have hDm1 : @Ne Nat (L' + 1 + 1) Dm := hoff9 (L' + 1 + 1, _) (.tail _ (.tail _ (.tail _ (.head _))))
      have hDm2 : @Ne Nat (L' + 1) Dm := hoff9 (L' + 1, _) (.tail _ (.tail _ (.tail _ (.tail _ (.head _)))))
      have hDmT : @Ne Nat DT Dm := hoff9 (DT, _) (.head _)
      k_with "exec If" => (refine halt ?_)
      k_steps
      k_with_none
      show wpAny _ _ _ _ _ _
      k_with "call builtin:len" => (refine len_led (by k_asm) (List.Mem.head _) (by assumption) ?_)
      refine cut (fun z => ∀ (S' : Addr) (vs' : List Value) (c' : Nat) (o1' : Obj) (hI : Heap) (tkI : Nat) (mI : Str → Option Value), Fr g' L' hI mI → News g' L' hI ((S', listOf vs'.toArray c') :: (D, listOf us.toArray n) :: (L' + 1 + 1, qW) :: (L' + 1, o1') :: bg3) →
        (@LT.lt Nat _ (L' + 1 + 1) S') → (@Ne Nat S' D) → OwnOff bg3 [S', D, L' + 1 + 1, L' + 1] → All2 (StIn w d tl) vs' (cutF d (stkF d i) i) → o1'.data = .cell (some (.ref S')) →
        mI (Str.ofString "outline") = some (.ref D) → mI (Str.ofString "page") = some (.str (d.T i) u1) → mI (Str.ofString "k") = some (.int (i : Int) t) → mI (Str.ofString "head") = some (.str (d.hd i) y1) → mI (Str.ofString "rest") = some (.str (d.T (i + 1)) y2) → z .next { s with heap := hI, toks := tkI }) ?_ ?_
      · intro zz hzz
        revert N8' hylen2
        apply heads_use hys
        · intro hcs hylen2 N8'
          k_steps
          exact hzz S vs c q1 h9 _ _ F8 (news_sub N8' fun p hp => .tail _ (.tail _ hp)) hS hSD hoff3 (by rw [cut_none hcs]; exact hvs) dq1 rfl rfl rfl rfl rfl
        · intro z rest tz hcs hz0 hypos hzl hylen2 N8'
          have hzl2 : z < vs.length := hvl0 ▸ hzl
          k_steps
          show wpAny _ _ _ _ _ _
          k_dflt (refine item_led (us := ys) (n := ys.length) (by k_asm) (List.Mem.head _) (by decide) (by omega) (by assumption) ?_)
          intro v8 hv8
          k_dflt (have hv9 := Option.some.inj (hz0.symm.trans (show ys[0]? = some v8 from hv8)))
          revert v8
          intro v8 hv8 hv9
          subst hv9
          k_steps
          rename News _ _ _ _ => NB
          rename Fr _ _ _ _ => FB
          rename _ = Data.cell (some _) => dB
          rename _ ∧ _ ∧ _ ∧ _ ∧ _ ∧ _ ∧ AllLt _ _ => lB
          exact hzz _ (vs.take z) 0 _ _ _ _ FB (news_sub NB (sub_cons (.head _) (sub_tail (sub_tail (sub_tail (sub_tail sub_refl)))))) lB.2.2.2.2.1 (Nat.ne_of_gt lB.2.2.2.1) (off_cons (fun p hp => Nat.ne_of_lt (ktn_ltOf lB.2.2.2.2.2.2 p hp)) fun p hp b hb => hoff3 p hp b (.tail _ hb)) (by rw [cut_some hcs]; exact hvs.take z) dB rfl rfl rfl rfl rfl
      · intro S2 vs2 c2 o2' hI tkI mI FI NI hS2 hS2D hoff4 hvs2 dq2' e1 e2 e3 e4 e5
        have FI2 := fr_see5 FI e1 e2 e3 e4 e5
        have hv2l : vs2.length < 1000 := by
          have h1 := hvs2.length
          have h2 := cutF_length d (stkF d i) i
          omega
        apply WsIn.use hoW
        intro dxW TW nW ntW txW k1 k2 k3 k4 k5 k6 k7 k8 sbW en ent m5W m1W
        have N11 := news_cons NI (.tail _ (.tail _ (.tail _ (.tail _ (hnb3 _ (hnb2 _ (hnw1 _ m5W))))))) (news_cons NI (.tail _ (.tail _ (.tail _ (.tail _ (hnb3 _ (hnb2 _ (hnw1 _ m1W))))))) NI)
        have hbj : ∀ p ∈ tl, p ∈ bg3 := fun p hp => hnb3 _ (hnb2 _ (hnb1 _ (hnb _ (List.mem_append.mpr (.inl (List.mem_append.mpr (.inr hp)))))))
        have hcut := o7 i hi
        have hcnt := o8 i hi
        have hhl := o6 i hi
        have hTl := o4 i hi
        rw [en] at hcut hcnt
        rw [ent] at hcnt
        clear FI NI F8 N8' F9 e1 e2 e3 e4 e5
        k_with_none
        k_with "eval IfExp" => (refine halt ?_)
        k_steps
        k_with_none
        show wpAny _ _ _ _ _ _
        refine cut (fun z => ∀ (tA : Tok) (tk : Nat), z (.int (abvF d i) tA) { s with heap := hI, toks := tk }) ?_ ?_
        · intro zz hzz
          k_with "call builtin:len" => (refine len_led (by k_asm) (List.Mem.tail _ (List.Mem.tail _ (List.Mem.head _))) (by assumption) ?_)
          revert N11 hv2l
          apply stk_use hvs2
          · intro hab hv2l N11
            k_steps
            exact hab ▸ hzz _ _
          · intro Dj xj j tj hab hlast hpos hmj hv2l N11
            have N12 := news_cons N11 (.tail _ (.tail _ (.tail _ (.tail _ (.tail _ (.tail _ (hbj _ hmj))))))) N11
            k_with "call builtin:len" => (refine len_led (by k_asm) (List.Mem.tail _ (List.Mem.tail _ (List.Mem.tail _ (List.Mem.head _)))) (by assumption) ?_)
            k_with "subscriptTail" => (refine item_led_last (by k_asm) (List.Mem.tail _ (List.Mem.tail _ (List.Mem.tail _ (List.Mem.head _)))) (by assumption) (by assumption) ?_)
            k_steps
            exact hab ▸ hzz _ _
        · intro tA tkA2
          k_with "call builtin:list.append" => (refine halt ?_)
          k_steps
          show wpAny _ _ _ _ _ _
          rename Addr => T1
          rename News _ _ _ _ => NA
          rename Fr _ _ _ _ => FA
          rename _ ∧ _ ∧ _ ∧ _ ∧ _ ∧ _ ∧ AllLt _ _ => lA
          refine append_pre [_, _, _] FA NA ?_ ?_ hv2l ?_
          · exact all_cons (Nat.ne_of_gt lA.2.2.1) (all_cons (hoff4 _ (hnb3 _ (hnb2 _ (hnw1 _ m5W))) S2 (.head _)) (all_one (hoff4 _ (hnb3 _ (hnb2 _ (hnw1 _ m1W))) S2 (.head _))))
          · exact all_cons (Ne.symm hS2D) (all_cons (Nat.ne_of_lt hS2) (all_cons (Nat.ne_of_lt (Nat.lt_of_succ_lt hS2)) (off_ne hoff4 (.head _))))
          intro hA FA2 NA2
          clear FA NA
          k_steps
          show wpAny _ _ _ _ _ _
          k_with_none
          rename News _ _ _ _ => NB
          rename Fr _ _ _ _ => FB
          rename _ ∧ AllLt _ _ => lB
          rename_i hA1 tS kA1 aA1 hA2 tS2 kA2 aA2 T2 hA3
          have lB2 := ktn_ltOf lB.2
          rw [hcut, hcnt, beq_self_eq_true] at NB
          have hul : us.length < 1000 := by
            have h1 := hus.length
            rw [List.length_map, List.length_range] at h1
            have := o1'.out
            omega
          refine append_pre [_, _, _, _, _] FB NB ?_ ?_ hul ?_
          · exact all_cons (Nat.ne_of_gt (lB2 (D, listOf us.toArray n) (.tail _ (.tail _ (.tail _ (.head _)))))) (all_cons hS2D (all_cons (Nat.ne_of_gt lA.2.2.2.1) (all_cons (hoff4 _ (hnb3 _ (hnb2 _ (hnw1 _ m5W))) D (.tail _ (.head _))) (all_one (hoff4 _ (hnb3 _ (hnb2 _ (hnw1 _ m1W))) D (.tail _ (.head _)))))))
          · exact all_cons (Nat.ne_of_lt lD1) (all_cons (Nat.ne_of_lt lD.2.1) (off_ne hoff4 (.tail _ (.head _))))
          intro hB FB2 NB2
          clear FB NB
          k_steps
          rename News _ _ _ _ => NC
          rename Fr _ _ _ _ => FC
          have hlT1 := ktn_ltOf lA.2.2.2.2.2.2
          have hnwb : ∀ p ∈ news, p ∈ bg3 := fun p hp => hnb3 _ (hnb2 _ (hnb1 _ (hnb _ (List.mem_append.mpr (.inl (List.mem_append.mpr (.inl hp)))))))
          have howb : ∀ p ∈ own, p ∈ bg := fun p hp => hnb _ (List.mem_append.mpr (.inr hp))
          have howb3 : ∀ p ∈ own, p ∈ bg3 := fun p hp => hnb3 _ (hnb2 _ (hnb1 _ (howb p hp)))
          have hWb3 : ∀ p ∈ tlW, p ∈ bg3 := fun p hp => hnb3 _ (hnb2 _ (hnw1 _ hp))
          refine InvEndG.intro (nx := (S2, listOf (vs2 ++ [Value.ref T1]).toArray (c2 + 1)) :: (D, listOf (us ++ [Value.ref T2]).toArray (n + 1)) :: (L' + 1 + 1, qW) :: (L' + 1, o2') :: (news ++ ((T2, ({ cls := .type "tuple", data := .seq #[.int (abvF d i) tA, .str (d.hd i) y1, .str (d.hd i) tS, .bool true] } : Obj)) :: (T1, ({ cls := .type "tuple", data := .seq #[.ref xW, .int (i : Int) t] } : Obj)) :: (tlW ++ tl)))) FC NC (fun z k => k (us ++ [Value.ref T2]) (n + 1) S2 (vs2 ++ [Value.ref T1]) (c2 + 1) ((T2, ({ cls := .type "tuple", data := .seq #[.int (abvF d i) tA, .str (d.hd i) y1, .str (d.hd i) tS, .bool true] } : Obj)) :: (T1, ({ cls := .type "tuple", data := .seq #[.ref xW, .int (i : Int) t] } : Obj)) :: (tlW ++ tl)) y2 o2' qW _ hS2 hS2D ?_ ?_ ?_ dq2' dqW rfl rfl) ?_ ?_ (fun p hp => mem_tail8 (howb3 p hp))
          · exact all_cons ⟨lB2 (L' + 1 + 1, qW) (.tail _ (.tail _ (.tail _ (.tail _ (.head _))))), Nat.ne_of_gt (lB2 (D, _) (.tail _ (.tail _ (.tail _ (.head _))))), Nat.ne_of_gt lB.1⟩ (all_cons ⟨lA.2.2.2.2.1, Nat.ne_of_gt lA.2.2.2.1, Nat.ne_of_gt lA.2.2.1⟩ (all_app (fun p hp => ⟨(hlW' p hp).2.2, Nat.ne_of_gt (hlW' p hp).2.1, hoff4 p (hWb3 p hp) S2 (.head _)⟩) fun p hp => ⟨(htl p hp).1, (htl p hp).2.1, hoff4 p (hbj _ hp) S2 (.head _)⟩))
          · rw [List.range_succ, List.map_append]
            exact (hus.mono fun v a q => q.mono (sub_tail (sub_tail (sub_right sub_refl)))).snoc (.mk (.head _))
          · rw [stkF]
            exact (hvs2.mono fun v a q => q.mono (sub_tail (sub_tail (sub_right sub_refl)))).snoc (.mk (.tail _ (.head _)) (hoW.mono (sub_tail (sub_tail (sub_left sub_refl)))))
          · exact off_cons (off_ne (fun p hp => hoff4 p (howb3 p hp)) (.head _)) (off_cons (off_ne (fun p hp => hoff4 p (howb3 p hp)) (.tail _ (.head _))) (off_cons (off_ne (fun p hp => hoff4 p (howb3 p hp)) (.tail _ (.tail _ (.head _)))) (off_cons (off_ne (fun p hp => hoff4 p (howb3 p hp)) (.tail _ (.tail _ (.tail _ (.head _))))) (off_map fun p hp => all_app (fun q hq => hownT p hp q (List.mem_append.mpr (.inl hq))) (all_cons (Nat.ne_of_lt (lB2 p (.tail _ (.tail _ (.tail _ (.tail _ (.tail _ (.tail _ (howb3 p hp)))))))) ) (all_cons (Nat.ne_of_lt (hlT1 p (howb3 p hp))) (all_app (fun q hq => Nat.ne_of_lt (hlW p (.tail _ (.tail _ (.tail _ (.tail _ (howb p hp))))) q hq)) fun q hq => hownT p hp q (List.mem_append.mpr (.inr hq)))))))))
          · exact sub_cons (.tail _ (.tail _ (.head _))) (sub_cons (.head _) (sub_cons (.tail _ (.tail _ (.tail _ (.tail _ (.tail _ (.tail _ (.head _))))))) (sub_cons (.tail _ (.tail _ (.tail _ (.tail _ (.tail _ (.tail _ (.tail _ (.head _)))))))) (sub_app (fun p hp => mem_tail8 (hnwb p hp)) (sub_cons (.tail _ (.head _)) (sub_cons (.tail _ (.tail _ (.tail _ (.head _)))) (sub_app (fun p hp => mem_tail8 (hWb3 p hp)) fun p hp => mem_tail8 (hbj _ hp))))))))
  · intro m1 nx h tk9 hJ Ft Nt
    revert Nt
    apply hJ
    clear hJ nx
    intro us n S vs c tl u1 q1 q2 v0 hS hSD htl hus hvs dq1 dq2 e1 e2 Nt
    have F9 := fr_see2 Ft e1 e2
    clear Ft F7 N7 e1 e2 hrange
    k_with_none
    k_steps
    rename Addr => T9
    rename _ ∧ _ ∧ _ ∧ _ ∧ AllLt _ _ => l9
    rename News _ _ _ _ => N9
    refine hret _ ((T9, ({ cls := .type "tuple", data := .seq #[.ref D, .str (d.T d.n) u1] } : Obj)) :: (D, listOf us.toArray n) :: tl) _ _ (by k_asm) ?_ ?_ (.mk (.head _) (.tail _ (.head _)) (hus.mono fun v a q => q.mono fun p hp => .tail _ (.tail _ hp)))
    · exact fun p hp => N9 p (sub_app (fun p hp => .tail _ (.tail _ (.tail _ (.tail _ (.tail _ (List.mem_append.mpr (.inl hp))))))) (sub_cons (.head _) (sub_cons (.tail _ (.tail _ (.head _))) fun p hp => .tail _ (.tail _ (.tail _ (.tail _ (.tail _ (List.mem_append.mpr (.inr hp)))))))) p hp)
    · exact fun q hq => all_cons (ktn_ltOf l9.2.2.2.2 q (List.mem_append.mpr (.inl hq))) (all_cons (Nat.lt_trans (l3 q hq) lD1) fun p hp => Nat.lt_trans (l3 q hq) (htl p hp).1)
end Mine
end
-- RowsP
section
open PySem PySem.W PyProof.Rows
namespace Mine
theorem none_RowsP : True := by
  k_with_none
  w_top off
  trivial
structure RowsFacts (rs : List Row) : Prop where
  b : ∀ r ∈ rs, 0 ≤ r.1 ∧ r.1 ≤ 3 ∧ 1 ≤ r.2.1 ∧ r.2.1 ≤ 15 ∧ 0 ≤ r.2.2.1 ∧ r.2.2.1 ≤ 1 ∧ 0 ≤ r.2.2.2 ∧ r.2.2.2 ≤ 2
  z : ∀ r, rs[0]? = some r → r.1 = 0
  s : ∀ i r r', rs[i]? = some r → rs[i + 1]? = some r' → r'.1 ≤ r.1 + 1
theorem rows_facts (ns : List Int) : RowsFacts (rowsF ns) := by
  have key : ∀ (l : List Int) (rs : List Row), RowsFacts rs → RowsFacts (l.foldl rowNext rs) := by
    intro l
    induction l with
    | nil => intro rs h; exact h
    | cons x l ih =>
      intro rs h
      rw [List.foldl_cons]
      apply ih
      have f4 : 0 ≤ x.fmod 4 ∧ x.fmod 4 < 4 := ⟨Int.fmod_nonneg_of_pos _ (by decide), Int.fmod_lt_of_pos _ (by decide)⟩
      have f15 : 0 ≤ (x.fdiv 4).fmod 15 ∧ (x.fdiv 4).fmod 15 < 15 := ⟨Int.fmod_nonneg_of_pos _ (by decide), Int.fmod_lt_of_pos _ (by decide)⟩
      have f2 : 0 ≤ (x.fdiv 60).fmod 2 ∧ (x.fdiv 60).fmod 2 < 2 := ⟨Int.fmod_nonneg_of_pos _ (by decide), Int.fmod_lt_of_pos _ (by decide)⟩
      have f3 : 0 ≤ (x.fdiv 120).fmod 3 ∧ (x.fdiv 120).fmod 3 < 3 := ⟨Int.fmod_nonneg_of_pos _ (by decide), Int.fmod_lt_of_pos _ (by decide)⟩
      obtain ⟨dd, hd⟩ : ∃ dd : Int, (match rs.getLast? with | none => (0 : Int) | some r => if r.1 + 1 < x.fmod 4 then r.1 + 1 else x.fmod 4) = dd := ⟨_, rfl⟩
      have hnx : rowNext rs x = rs ++ [(dd, 1 + (x.fdiv 4).fmod 15, (x.fdiv 60).fmod 2, (x.fdiv 120).fmod 3)] := by
        rw [← hd]; rfl
      rw [hnx]
      have hd0 : 0 ≤ dd ∧ dd ≤ 3 := by
        rw [← hd]
        cases hl : rs.getLast? with
        | none => exact ⟨Int.le_refl _, (by decide : (0 : Int) ≤ 3)⟩
        | some r =>
          have hb := h.b r (List.mem_of_getLast? hl)
          dsimp only
          split <;> omega
      refine ⟨?_, ?_, ?_⟩
      · intro r hr
        rcases List.mem_append.mp hr with hr | hr
        · exact h.b r hr
        · rw [List.mem_singleton.mp hr]
          dsimp only
          omega
      · intro r hr
        by_cases he : rs = []
        · subst he
          simp at hr
          rw [← hr]
          exact hd.symm
        · have : 0 < rs.length := List.length_pos_iff.mpr he
          rw [List.getElem?_append_left this] at hr
          exact h.z r hr
      · intro i r r' h1 h2
        by_cases hi : i + 1 < rs.length
        · rw [List.getElem?_append_left (by omega)] at h1
          rw [List.getElem?_append_left hi] at h2
          exact h.s i r r' h1 h2
        · have hi2 : i + 1 = rs.length := by
            have := (List.getElem?_eq_some_iff.mp h2).1
            simp at this
            omega
          rw [List.getElem?_append_left (by omega)] at h1
          rw [hi2] at h2
          simp at h2
          have hl : rs.getLast? = some r := by
            rw [List.getLast?_eq_getElem?, show rs.length - 1 = i by omega]
            exact h1
          rw [hl] at hd
          rw [← h2]
          dsimp only at hd ⊢
          rw [← hd]
          split <;> omega
  exact key ns [] ⟨by simp, by simp, by simp⟩
end Mine
end
-- Fl
section
open PySem PySem.W PyProof.Rows
namespace Mine
theorem none_Fl : True := by
  k_with_none
  w_top off
  trivial
noncomputable def hsvOkB (d : F3) : Bool := !Float64.isNaN (Float64.mul d.1 4618441417868443648) && !Float64.isInf (Float64.mul d.1 4618441417868443648) && decide ((hsvI d.1).natAbs < 1000)
theorem hsvOk_of {d : F3} (h : hsvOkB d = true) : hsvOk d := by
  simp only [hsvOkB, Bool.and_eq_true, Bool.not_eq_true', decide_eq_true_eq] at h
  exact ⟨h.1.1, h.1.2, Nat.lt_trans h.2 (by decide +kernel)⟩
noncomputable def rgbOkB (d : F3) : Bool := (Float64.cmp (min3 d.1 d.2.1 d.2.2) (max3 d.1 d.2.1 d.2.2) == some Ordering.eq) ||
  ((bif rgbLow d.1 d.2.1 d.2.2 then !Float64.isZero (Float64.add (max3 d.1 d.2.1 d.2.2) (min3 d.1 d.2.1 d.2.2)) else !Float64.isZero (Float64.sub (Float64.sub 4611686018427387904 (max3 d.1 d.2.1 d.2.2)) (min3 d.1 d.2.1 d.2.2))) && !Float64.isZero (Float64.sub (max3 d.1 d.2.1 d.2.2) (min3 d.1 d.2.1 d.2.2)))
theorem rgbOk_of {d : F3} (h : rgbOkB d = true) : rgbOk d := by
  unfold rgbOkB at h
  refine ⟨fun h1 h2 => ?_, fun h1 h2 => ?_, fun h1 => ?_⟩
  all_goals simp only [h1, Bool.false_or, Bool.and_eq_true, Bool.not_eq_true'] at h
  · rw [h2] at h; simpa using h.1
  · rw [h2] at h; simpa using h.1
  · exact h.2
theorem hsvF_hue {h g s v : UInt64} (hi : (hsvI h).fmod 6 = (hsvI g).fmod 6) (hf : hsvFr h = hsvFr g) : hsvF (h, s, v) = hsvF (g, s, v) := by
  unfold hsvF hsvTt hsvQ
  dsimp only
  rw [hi, hf]
/-- the hue's own part: the turns do not tell -/
noncomputable def hueOk (n t : Int) : Bool := !Float64.isNaN (Float64.mul (hueA n t) 4618441417868443648) && !Float64.isInf (Float64.mul (hueA n t) 4618441417868443648) && decide ((hsvI (hueA n t)).natAbs < 1000) &&
  decide ((hsvI (hueA n t)).fmod 6 = (hsvI (hueA n 0)).fmod 6) && (hsvFr (hueA n t) == hsvFr (hueA n 0)) && !Float64.isInf (idiv n 32)
noncomputable def litOk (l : Int) : Bool := !Float64.isInf (idiv l 8) && !Float64.isInf (idiv l 16)
noncomputable def flOk (n l : Int) : Bool := rgbOkB (hsvF (colArg n l 0)) && (rgbF (hsvF (colArg n l 0)) == (idiv n 32, idiv l 16, 4607182418800017408))
set_option maxRecDepth 100000 in
theorem hue_all : ∀ n : Fin 32, ∀ t : Fin 3, hueOk n.val t.val = true := by decide +kernel
theorem lit_all : ∀ l : Fin 15, litOk (1 + l.val) = true := by decide +kernel
set_option maxRecDepth 100000 in
theorem fl_0 : ∀ n : Fin 2, ∀ l : Fin 15, flOk (0 + n.val) (1 + l.val) = true := by decide +kernel
set_option maxRecDepth 100000 in
theorem fl_1 : ∀ n : Fin 2, ∀ l : Fin 15, flOk (2 + n.val) (1 + l.val) = true := by decide +kernel
set_option maxRecDepth 100000 in
theorem fl_2 : ∀ n : Fin 2, ∀ l : Fin 15, flOk (4 + n.val) (1 + l.val) = true := by decide +kernel
set_option maxRecDepth 100000 in
theorem fl_3 : ∀ n : Fin 2, ∀ l : Fin 15, flOk (6 + n.val) (1 + l.val) = true := by decide +kernel
set_option maxRecDepth 100000 in
theorem fl_4 : ∀ n : Fin 2, ∀ l : Fin 15, flOk (8 + n.val) (1 + l.val) = true := by decide +kernel
set_option maxRecDepth 100000 in
theorem fl_5 : ∀ n : Fin 2, ∀ l : Fin 15, flOk (10 + n.val) (1 + l.val) = true := by decide +kernel
set_option maxRecDepth 100000 in
theorem fl_6 : ∀ n : Fin 2, ∀ l : Fin 15, flOk (12 + n.val) (1 + l.val) = true := by decide +kernel
set_option maxRecDepth 100000 in
theorem fl_7 : ∀ n : Fin 2, ∀ l : Fin 15, flOk (14 + n.val) (1 + l.val) = true := by decide +kernel
set_option maxRecDepth 100000 in
theorem fl_8 : ∀ n : Fin 2, ∀ l : Fin 15, flOk (16 + n.val) (1 + l.val) = true := by decide +kernel
set_option maxRecDepth 100000 in
theorem fl_9 : ∀ n : Fin 2, ∀ l : Fin 15, flOk (18 + n.val) (1 + l.val) = true := by decide +kernel
set_option maxRecDepth 100000 in
theorem fl_10 : ∀ n : Fin 2, ∀ l : Fin 15, flOk (20 + n.val) (1 + l.val) = true := by decide +kernel
set_option maxRecDepth 100000 in
theorem fl_11 : ∀ n : Fin 2, ∀ l : Fin 15, flOk (22 + n.val) (1 + l.val) = true := by decide +kernel
set_option maxRecDepth 100000 in
theorem fl_12 : ∀ n : Fin 2, ∀ l : Fin 15, flOk (24 + n.val) (1 + l.val) = true := by decide +kernel
set_option maxRecDepth 100000 in
theorem fl_13 : ∀ n : Fin 2, ∀ l : Fin 15, flOk (26 + n.val) (1 + l.val) = true := by decide +kernel
set_option maxRecDepth 100000 in
theorem fl_14 : ∀ n : Fin 2, ∀ l : Fin 15, flOk (28 + n.val) (1 + l.val) = true := by decide +kernel
set_option maxRecDepth 100000 in
theorem fl_15 : ∀ n : Fin 2, ∀ l : Fin 15, flOk (30 + n.val) (1 + l.val) = true := by decide +kernel
theorem fl_q : ∀ q : Nat, q < 16 → ∀ n' : Fin 2, ∀ l' : Fin 15, flOk ((2 * q : Nat) + (n'.val : Int)) (1 + (l'.val : Int)) = true
  | 0, _ => fl_0
  | 1, _ => fl_1
  | 2, _ => fl_2
  | 3, _ => fl_3
  | 4, _ => fl_4
  | 5, _ => fl_5
  | 6, _ => fl_6
  | 7, _ => fl_7
  | 8, _ => fl_8
  | 9, _ => fl_9
  | 10, _ => fl_10
  | 11, _ => fl_11
  | 12, _ => fl_12
  | 13, _ => fl_13
  | 14, _ => fl_14
  | 15, _ => fl_15
  | n + 16, h => absurd h (Nat.not_lt.mpr (Nat.le_add_left 16 n))
theorem fl_all {n l : Int} (h0 : 0 ≤ n) (h1 : n < 32) (h2 : 1 ≤ l) (h3 : l ≤ 15) : flOk n l = true := by
  have := fl_q (n.toNat / 2) (by omega) ⟨n.toNat % 2, by omega⟩ ⟨(l - 1).toNat, by omega⟩
  dsimp only at this
  rw [show ((2 * (n.toNat / 2) : Nat) : Int) + ((n.toNat % 2 : Nat) : Int) = n by omega, show (1 : Int) + (((l - 1).toNat : Nat) : Int) = l by omega] at this
  exact this
theorem fl_fact {n l t : Int} (h0 : 0 ≤ n) (h1 : n < 32) (h2 : 1 ≤ l) (h3 : l ≤ 15) (h4 : 0 ≤ t) (h5 : t ≤ 2) : FlOk n l t := by
  have h := fl_all h0 h1 h2 h3
  obtain ⟨l', hl'⟩ : ∃ l' : Fin 15, l = 1 + (l'.val : Int) := ⟨⟨(l - 1).toNat, by omega⟩, by simp; omega⟩
  obtain ⟨t', ht'⟩ : ∃ t' : Fin 3, t = (t'.val : Int) := ⟨⟨t.toNat, by omega⟩, by simp; omega⟩
  obtain ⟨n', hn'⟩ : ∃ n' : Fin 32, n = (n'.val : Int) := ⟨⟨n.toNat, by omega⟩, by simp; omega⟩
  have hh := hue_all n' t'
  have hl := lit_all l'
  rw [← hn', ← ht'] at hh
  rw [← hl'] at hl
  simp only [hueOk, litOk, flOk, Bool.and_eq_true, Bool.not_eq_true', decide_eq_true_eq, beq_iff_eq] at h hh hl
  have e : hsvF (colArg n l t) = hsvF (colArg n l 0) := by
    unfold colArg
    split <;> exact hsvF_hue hh.1.1.2 hh.1.2
  refine ⟨hh.2, hl.1, hl.2, ?_, by rw [e]; exact rgbOk_of h.1, by rw [e]; exact h.2⟩
  have e1 : (colArg n l t).1 = hueA n t := by unfold colArg; split <;> rfl
  refine ⟨?_, ?_, ?_⟩
  · rw [e1]; exact hh.1.1.1.1.1
  · rw [e1]; exact hh.1.1.1.1.2
  · rw [e1]; exact Nat.lt_trans hh.1.1.1.2 (by decide +kernel)
/-- the grey -/
noncomputable def greyOkB (q v : Nat) : Bool := !Float64.isInf (idiv q 32) && !Float64.isInf (idiv v 8) && rgbOkB (idiv v 8, idiv v 8, idiv v 8) && (rgbF (idiv v 8, idiv v 8, idiv v 8) == (0, idiv v 8, 0))
theorem grey_all : ∀ v : Fin 9, greyOkB 5 v.val = true := by decide +kernel
noncomputable def hueNe (a b : Fin 32) : Bool := a == b || (idiv a.val 32 != idiv b.val 32 && !(Float64.cmp (idiv a.val 32) (idiv b.val 32) == some Ordering.eq) && (fltLt (idiv a.val 32) (idiv b.val 32) == decide (a.val < b.val)))
set_option maxRecDepth 100000 in
theorem hueNe_all : ∀ a b : Fin 32, hueNe a b = true := by decide +kernel
theorem hue_ok : HueOk := by
  refine ⟨fun a b h => ?_, fun a b h => ?_, fun a b h => ?_⟩
  all_goals
    have := hueNe_all a b
    unfold hueNe at this
    simp only [Bool.or_eq_true, beq_iff_eq, h, false_or, Bool.and_eq_true, bne_iff_ne, Bool.not_eq_true'] at this
  · exact this.1.1
  · exact this.1.2
  · exact this.2
end Mine
end
-- EqFl
section
open PySem PySem.W PyProof.Rows
namespace Mine
theorem none_EqFl : True := by
  k_with_none
  w_top off
  trivial
open PySem.SeqAt
noncomputable def fltSelf (a : UInt64) : Bool := Float64.cmp a a == some Ordering.eq
theorem eqBool_floatE {prog : Program} {w : World} {A : Around} {E : Value → Shared → Prop} {s : Shared} {a : UInt64} {t u : Tok} {Q : Bool → Shared → Prop} (ht : t ≠ 0) (hu : u ≠ 0) (hb : NoneBooked s.heap) (hs : fltSelf a = true) (h : Q true s) : wpAny (model prog w) A (eqBool (.float a t) (.float a u)) Q E s := by
  unfold eqBool
  refine wpAny_holding ?_
  show wpAny _ _ (if (Value.float a t == Value.float a u) = true then _ else _) Q E s
  refine wpAny_ite ?_
  split
  · exact wpAny_bind (wpAny_rule (wpAny_pure h))
  · refine wpAny_bind (isSame_floatE ht hu hb fun b => ?_)
    cases b with
    | true =>
      simp only [if_true]
      exact wpAny_pure h
    | false =>
      simp only [Bool.false_eq_true, if_false]
      refine wpAny_bind (AutoFloatOps.eq_0 ?_)
      refine wpAny_truthy_bool ?_
      unfold fltSelf at hs
      rw [hs]
      exact h
theorem eqAt_float {A : Around} {s : Shared} {a : UInt64} {t u : Tok} (ht : t ≠ 0) (hu : u ≠ 0) (hb : NoneBooked s.heap) (hs : fltSelf a = true) : EqAt A s (.float a t) (.float a u) true := fun prog w E Q hq => eqBool_floatE ht hu hb hs hq
theorem tup_of {A : Around} {s : Shared} {h₀ : Heap} {L : Addr} {news : Led} (N : News h₀ L s.heap news) {D : Addr} {a b c : UInt64} {t1 t2 t3 : Tok} (h : (D, tup3 a b c t1 t2 t3) ∈ news) : s.heap.IsTuple D #[.float a t1, .float b t2, .float c t3] := ⟨_, (N _ h).1, rfl, 0, rfl⟩
/-- two made triples with the same floats -/
theorem eqAt_tup {A : Around} {s : Shared} {h₀ : Heap} {L : Addr} {news : Led} (N : News h₀ L s.heap news) {v u : Value} {f : F3} (h1 : Tup3N news v f) (h2 : Tup3N news u f) (hb : NoneBooked s.heap) (hs : fltSelf f.1 = true ∧ fltSelf f.2.1 = true ∧ fltSelf f.2.2 = true) (hu : A.units < cLine) : EqAt A s v u true := by
  cases h1
  rename_i D a b c t1 t2 t3 m1 z1 z2 z3
  cases h2
  rename_i D' u1 u2 u3 y1 y2 y3 m2
  by_cases e : D = D'
  · subst e
    exact EqAt.same _
  · refine EqAt.of_refs e ?_
    have := RcAt.tuples (A := A) (e := fun _ => true) (tup_of (A := A) N m1) (tup_of (A := A) N m2) hu (fun j h1 h2 => ?_)
    · exact this
    · have hj : j = 0 ∨ j = 1 ∨ j = 2 := by
        have : j < 3 := h1
        omega
      rcases hj with rfl | rfl | rfl
      · exact eqAt_float z1 y1 hb hs.1
      · exact eqAt_float z2 y2 hb hs.2.1
      · exact eqAt_float z3 y3 hb hs.2.2
theorem ne_tups {prog : Program} {w : World} {A : Around} {E : Value → Shared → Prop} {s : Shared} {h₀ : Heap} {L l r : Addr} {news : Led} {us vs : List Value} {n k : Nat} {fs : List F3} {Q : Value → Shared → Prop} (N : News h₀ L s.heap news) (ml : (l, listOf us.toArray n) ∈ news) (mr : (r, listOf vs.toArray k) ∈ news)
    (hus : All2 (Tup3N news) us fs) (hvs : All2 (Tup3N news) vs fs) (hb : NoneBooked s.heap) (hs : ∀ f ∈ fs, fltSelf f.1 = true ∧ fltSelf f.2.1 = true ∧ fltSelf f.2.2 = true) (hu : A.units + 64 < cLine) (h : Q (.bool false) s) : wpAny (model prog w) A (compareOp .NotEq (.ref l) (.ref r)) Q E s := by
  have h1 : us.toArray.size = vs.toArray.size := by rw [List.size_toArray, List.size_toArray, hus.length, hvs.length]
  have := RcNeAt.lists (A := A) (e := fun _ => true) (isList_led N ml) (isList_led N mr) h1 (by omega) (fun j j1 j2 => ?_)
  · have e : (!(List.range us.toArray.size).all fun _ => true) = false := by simp
    rw [e] at this
    exact this prog w E Q h
  · obtain ⟨f, hf, hin⟩ := hus.get (k := j) (v := us.toArray[j]) (by simp)
    obtain ⟨f', hf', hin'⟩ := hvs.get (k := j) (v := vs.toArray[j]) (by simp)
    rw [hf] at hf'
    cases hf'
    exact eqAt_tup N hin hin' hb (hs _ (List.mem_of_getElem? hf)) (by rw [show A.in1.units = A.units + 1 from rfl]; omega)
theorem ne_tup {prog : Program} {w : World} {A : Around} {E : Value → Shared → Prop} {s : Shared} {h₀ : Heap} {L l r : Addr} {news : Led} {a b c : UInt64} {t1 t2 t3 u1 u2 u3 : Tok} {Q : Value → Shared → Prop} (N : News h₀ L s.heap news) (ml : (l, tup3 a b c t1 t2 t3) ∈ news) (mr : (r, tup3 a b c u1 u2 u3) ∈ news)
    (z1 : t1 ≠ 0) (z2 : t2 ≠ 0) (z3 : t3 ≠ 0) (y1 : u1 ≠ 0) (y2 : u2 ≠ 0) (y3 : u3 ≠ 0) (hb : NoneBooked s.heap) (hs : fltSelf a = true ∧ fltSelf b = true ∧ fltSelf c = true) (hu : A.units + 64 < cLine) (h : Q (.bool false) s) : wpAny (model prog w) A (compareOp .NotEq (.ref l) (.ref r)) Q E s := by
  have := RcNeAt.tuples (A := A) (e := fun _ => true) (tup_of (A := A) N ml) (tup_of (A := A) N mr) (by omega) (fun j h1 h2 => ?_)
  · exact this prog w E Q h
  · have hj : j = 0 ∨ j = 1 ∨ j = 2 := by
      have : j < 3 := h1
      omega
    rcases hj with rfl | rfl | rfl
    · exact eqAt_float z1 y1 hb hs.1
    · exact eqAt_float z2 y2 hb hs.2.1
    · exact eqAt_float z3 y3 hb hs.2.2
end Mine
end
-- Fl2
section
open PySem PySem.W PyProof.Rows
namespace Mine
theorem none_Fl2 : True := by
  k_with_none
  w_top off
  trivial
set_option maxRecDepth 100000 in
theorem self32 : ∀ n : Fin 32, fltSelf (idiv n.val 32) = true := by decide +kernel
theorem self16 : ∀ n : Fin 16, fltSelf (idiv n.val 16) = true := by decide +kernel
theorem self8 : ∀ n : Fin 9, fltSelf (idiv n.val 8) = true := by decide +kernel
theorem self1 : fltSelf 4607182418800017408 = true := by decide +kernel
theorem self0 : fltSelf 0 = true := by decide +kernel
theorem told_self {rs : List Row} (h : RowsFacts rs) (h8 : rs.length ≤ 8) : ∀ f ∈ toldF rs, fltSelf f.1 = true ∧ fltSelf f.2.1 = true ∧ fltSelf f.2.2 = true := by
  intro f hf
  unfold toldF at hf
  obtain ⟨k, hk, rfl⟩ := List.mem_map.mp hf
  have hk2 := List.mem_range.mp hk
  obtain ⟨r, hr⟩ : ∃ r, rs[k]? = some r := ⟨_, List.getElem?_eq_getElem hk2⟩
  have hb := h.b r (List.mem_of_getElem? hr)
  unfold tellAt
  rw [hr]
  dsimp only
  have e1 := self32 ⟨(4 * (k : Int) + r.1).toNat, by omega⟩
  have e2 := self16 ⟨r.2.1.toNat, by omega⟩
  dsimp only at e1 e2
  rw [Int.toNat_of_nonneg (by omega)] at e1 e2
  exact ⟨e1, e2, self1⟩
/-- what the law reckons of a told row -/
noncomputable def hueBack (n : Fin 32) : Bool := !Float64.isNaN (Float64.mul (idiv n.val 32) (Float64.ofInt 32)) && !Float64.isInf (Float64.mul (idiv n.val 32) (Float64.ofInt 32)) && decide (Flt.toInt Float64.truncOf (Float64.mul (idiv n.val 32) (Float64.ofInt 32)) = n.val)
set_option maxRecDepth 100000 in
theorem hueBack_all : ∀ n : Fin 32, hueBack n = true := by decide +kernel
noncomputable def litBack (n : Fin 16) : Bool := !Float64.isNaN (Float64.mul (idiv n.val 16) (Float64.ofInt 16)) && !Float64.isInf (Float64.mul (idiv n.val 16) (Float64.ofInt 16)) && decide (Flt.toInt Float64.truncOf (Float64.mul (idiv n.val 16) (Float64.ofInt 16)) = n.val)
theorem litBack_all : ∀ n : Fin 16, litBack n = true := by decide +kernel
structure BackOk (x : UInt64) (m n : Int) : Prop where
  nan : Float64.isNaN (Float64.mul x (Float64.ofInt m)) = false
  inf : Float64.isInf (Float64.mul x (Float64.ofInt m)) = false
  val : Flt.toInt Float64.truncOf (Float64.mul x (Float64.ofInt m)) = n
theorem hue_back {n : Int} (h0 : 0 ≤ n) (h1 : n < 32) : BackOk (idiv n 32) 32 n := by
  have e := hueBack_all ⟨n.toNat, by omega⟩
  unfold hueBack at e
  dsimp only at e
  rw [Int.toNat_of_nonneg h0] at e
  simp only [Bool.and_eq_true, Bool.not_eq_true', decide_eq_true_eq] at e
  exact ⟨e.1.1, e.1.2, e.2⟩
theorem lit_back {n : Int} (h0 : 0 ≤ n) (h1 : n < 16) : BackOk (idiv n 16) 16 n := by
  have e := litBack_all ⟨n.toNat, by omega⟩
  unfold litBack at e
  dsimp only at e
  rw [Int.toNat_of_nonneg h0] at e
  simp only [Bool.and_eq_true, Bool.not_eq_true', decide_eq_true_eq] at e
  exact ⟨e.1.1, e.1.2, e.2⟩
structure GreyOk (q v : Int) : Prop where
  i1 : Float64.isInf (idiv q 32) = false
  i2 : Float64.isInf (idiv v 8) = false
  ok1 : hsvOk (idiv q 32, 0, idiv v 8)
  hs : hsvF (idiv q 32, 0, idiv v 8) = (idiv v 8, idiv v 8, idiv v 8)
  ok2 : rgbOk (idiv v 8, idiv v 8, idiv v 8)
  val : rgbF (idiv v 8, idiv v 8, idiv v 8) = (0, idiv v 8, 0)
  sl : fltSelf (idiv v 8) = true
noncomputable def greyQ (q : Fin 32) : Bool := !Float64.isInf (idiv q.val 32) && hsvOkB (idiv q.val 32, 0, 0)
set_option maxRecDepth 100000 in
theorem greyQ_all : ∀ q : Fin 32, greyQ q = true := by decide +kernel
theorem cmp00 : (Float64.cmp 0 0 == some Ordering.eq) = true := by decide +kernel
theorem grey_ok {q v : Int} (h0 : 0 ≤ q) (h1 : q < 32) (h2 : 0 ≤ v) (h3 : v < 9) : GreyOk q v := by
  have eq := greyQ_all ⟨q.toNat, by omega⟩
  have ev := grey_all ⟨v.toNat, by omega⟩
  have es := self8 ⟨v.toNat, by omega⟩
  unfold greyQ at eq
  unfold greyOkB at ev
  dsimp only at eq ev es
  rw [Int.toNat_of_nonneg h0] at eq
  rw [Int.toNat_of_nonneg h2] at ev es
  simp only [Bool.and_eq_true, Bool.not_eq_true', beq_iff_eq] at eq ev
  have ho := hsvOk_of eq.2
  refine ⟨eq.1, ev.1.1.2, ⟨ho.nan, ho.inf, ho.fit⟩, ?_, rgbOk_of ev.1.2, ev.2, es⟩
  unfold hsvF
  dsimp only
  rw [if_pos cmp00]
end Mine
end
-- ForC
section
open PySem PySem.W PyProof.Rows
namespace Mine
theorem none_ForC : True := by
  k_with_none
  w_top off
  trivial
/-- how a turn ends whose name is a cell -/
noncomputable def CellPost (h₀ : Heap) (L c : Addr) (I : Addr) (oI : Obj) (J : (Str → Option Value) → Led → Prop) (s₁ : Shared) (f : Flow) (s₂ : Shared) : Prop :=
  ∀ z : Flow → Shared → Prop, (∀ h' tk' m' oc' v' nx', Fr h₀ L h' m' → News h₀ L h' ((I, oI) :: (c, oc') :: nx') → oc'.data = .cell v' → (∀ p ∈ nx', (@Ne Nat p.1 c) ∧ (@Ne Nat p.1 I)) → J m' nx' → z .next { s₁ with heap := h', toks := tk' }) → z f s₂
section
variable {prog : Program} {w : World} {A : Around} {s : Shared} {h₀ : Heap} {L a : Addr} {cn : Str} {cs : Scope} {ccd : Value} {cl : List (Str × Addr)}
noncomputable def RangeCell (prog : Program) (w : World) (A : Around) (h₀ : Heap) (env : Env) (c : Addr) (body : List Stmt) (Q : Flow → Shared → Prop) (E : Value → Shared → Prop) (xv : Value) (s₁ : Shared) : Prop :=
  ∀ z : Value → Prop, (∀ (r : Addr) (n : Nat) (t u v : Tok) (m : Str → Option Value) (oc : Obj) (v₀ : Option Value) (news : Led) (J : Nat → (Str → Option Value) → Led → Prop), A.handled = none → IsRange s₁.heap r 0 (n : Int) 1 t u v → n < 1000 → Fr h₀ env.locals s₁.heap m →
    News h₀ env.locals s₁.heap ((c, oc) :: news) → oc.data = .cell v₀ → (∀ p ∈ news, @Ne Nat p.1 c) → J 0 m news →
    (∀ i t m₁ nx h tk I oI oc, i < n → J i m₁ nx → (∀ p ∈ nx, (@Ne Nat p.1 c) ∧ (@Ne Nat p.1 I)) → (@Ne Nat I c) → oc.data = .cell (some (.int (i : Int) t)) → Fr h₀ env.locals h m₁ → News h₀ env.locals h ((I, oI) :: (c, oc) :: nx) →
      wpAny (model prog w) A (execs body env) (CellPost h₀ env.locals c I oI (J (i + 1)) { s₁ with heap := h, toks := tk }) E { s₁ with heap := h, toks := tk }) →
    (∀ m₁ nx h tk oc v, J n m₁ nx → oc.data = .cell v → (∀ p ∈ nx, @Ne Nat p.1 c) → Fr h₀ env.locals h m₁ → News h₀ env.locals h ((c, oc) :: nx) → Q .next { s₁ with heap := h, toks := tk }) → z (.ref r)) → z xv
theorem for_cell {x : Str} {px pos : Pos} {iter : PySem.Expr} {body : List Stmt} {Q : Flow → Shared → Prop} {E : Value → Shared → Prop} (c : Addr) (hk : cs.kind = .function) (hx : (envX cn cs L a ccd cl).kindOf x = some .cell) (hc : cl.lookup x = some c)
    (h : wpAny (model prog w) A (eval iter (envX cn cs L a ccd cl)) (RangeCell prog w A h₀ (envX cn cs L a ccd cl) c body Q E) E s)
    (hs : ∀ x, foldedSetIterable iter (envX cn cs L a ccd cl) x = pure x := by intro _; rfl)
    (hE : PassesOwn (model prog w) A (envX cn cs L a ccd cl) E := by passes_own) :
    wpAny (model prog w) A (exec (.For (.Name x px) iter body [] pos) (envX cn cs L a ccd cl)) Q E s := by
  refine wpAny_For (wpAny_mono h (fun xv s₁ h₁ => ?_) fun _ _ e => e) hs
  apply h₁
  intro r n t u v m oc v₀ news J hh hr hn F N hd hne hJ turn done
  refine wpAny_pyIter_range hr (range_small hn) ?_
  have hI : s₁.heap.objs.size = s₁.heap.objs.size := rfl
  obtain ⟨I, hIdef⟩ : ∃ I, I = s₁.heap.objs.size := ⟨_, rfl⟩
  have W : Walks prog w A I [I] [I] n (fun i v => i < n ∧ ∃ t, v = .int (0 + i * 1) t)
      (fun i h => IsRangeIter h I (0 + (i : Nat) * 1) ((n : Int) - (i : Nat)) 1) := (Walks.range hh _ 0 1 n).bound
  have F1 := F.push (o := { cls := .type "range_iterator", data := .fields #[.int 0 0, .int (n : Int) 0, .int 1 0] })
  have hLI : @Ne Nat L I := by rw [hIdef]; exact Nat.ne_of_lt F.ns.lt
  have hcI : @Ne Nat c I := by rw [hIdef]; exact Nat.ne_of_lt (Heap.lt_size (N (c, oc) (.head _)).1)
  have hnI : ∀ p ∈ news, @Ne Nat p.1 I := fun p hp => by rw [hIdef]; exact Nat.ne_of_lt (Heap.lt_size (N p (.tail _ hp)).1)
  have hI0 : h₀.get? I = none := by rw [hIdef]; exact next_is_new F
  rw [← hIdef]
  refine codeAny_forLoop
    (fun k s' => ∀ z : Nat → Shared → Prop, (∀ h' tk i m' oc v nx, IsRangeIter h' I (0 + (i : Nat) * 1) ((n : Int) - (i : Nat)) 1 → Fr h₀ L h' m' → News h₀ L h' ((c, oc) :: nx) → oc.data = .cell v → (∀ p ∈ nx, (@Ne Nat p.1 c) ∧ (@Ne Nat p.1 I)) → J i m' nx → i ≤ n → z (n + 1 - i) { s₁ with heap := h', toks := tk }) → z k s') ?_ (n + 1)
    (fun z k => k _ s₁.toks 0 m oc v₀ news (by rw [hIdef, range_size]; simpa using Heap.get?_push_size _ rfl) (F.push _) (fun p hp => ⟨Heap.get?_push_of_some _ (N p hp).1, (N p hp).2⟩) hd (fun p hp => ⟨hne p hp, hnI p hp⟩) hJ (Nat.zero_le _))
  intro k s' hJ0
  apply hJ0
  intro h' tk i m' oc v nx hst' F' N' hd' hnx hJ' hi
  have next : ∀ h₁ : Heap, (∀ b o, b ∉ [I] → h'.get? b = some o → h₁.get? b = some o) → Fr h₀ L h₁ m' ∧ News h₀ L h₁ ((c, oc) :: nx) := fun h₁ hk₁ =>
    ⟨⟨F'.ns.at' fun o e => hk₁ _ o (by simpa using hLI) e, fun b o e => hk₁ b o (fun hm => by rw [List.mem_singleton.mp hm, hI0] at e; cases e) (F'.keep b o e), F'.above⟩, fun p hp => ⟨hk₁ _ _ (by
      rcases List.mem_cons.mp hp with rfl | hp
      · simpa using hcI
      · simpa using (hnx p hp).2) (N' p hp).1, (N' p hp).2⟩⟩
  by_cases hlt : i < n
  · refine W.item i _ _ _ hlt hst' fun v h₁ tk₁ hP hst₁ hk₁ => ?_
    obtain ⟨F₁, N₁⟩ := next h₁ hk₁
    obtain ⟨_, tv, rfl⟩ := hP
    have N₂ : News h₀ L h₁ ((I, _) :: (c, oc) :: nx) := fun p hp => by
      rcases List.mem_cons.mp hp with rfl | hp
      · exact ⟨hst₁, Ne.symm hLI, hI0⟩
      · exact N₁ p hp
    refine wpAny_assign_Name (storeX_C F₁ N₂ hc (UpdF.tail (Ne.symm hcI) (UpdF.head fun p hp => (hnx p hp).1)) hd' (fun h₂ o' F₂ N₃ hd₂ => ?_) hk hx)
    have e1 : (0 : Int) + (i : Int) * 1 = (i : Int) := by omega
    rw [e1] at hd₂
    have hst₂ : h₂.get? I = _ := (N₃ (I, _) (.head _)).1
    refine wpAny_mono (wpAny_passesOwn hE (turn i tv m' nx h₂ _ I _ o' hlt hJ' hnx (Ne.symm hcI) hd₂ F₂ N₃)) (fun f s₃ h₃ => ?_) fun _ _ e => e
    apply h₃
    intro h₃' tk₃ m₃ oc₃ v₃ nx₃ F₃ N₄ hd₃ hnx₃ hJ₃
    refine ⟨n + 1 - (i + 1), by omega, fun z k => k h₃' tk₃ (i + 1) m₃ oc₃ v₃ nx₃ ?_ F₃ (fun p hp => N₄ p (.tail _ hp)) hd₃ hnx₃ hJ₃ hlt⟩
    exact W.frame _ _ _ hst₁ fun b hb o e => by
      rw [List.mem_singleton.mp hb] at e ⊢
      have e2 := (N₄ (I, _) (.head _)).1
      rw [hst₁] at e
      rw [← e]
      exact e2
  · have hin : i = n := by omega
    subst hin
    refine W.done _ _ _ hst' fun h₁ tk₁ hk₁ => wpAny_execs_nil ?_
    obtain ⟨F₁, N₁⟩ := next h₁ hk₁
    exact done m' nx h₁ tk₁ oc v hJ' hd' (fun p hp => (hnx p hp).1) F₁ N₁
end
end Mine
end
-- LawD
section
open PySem PySem.W PyProof.Rows
namespace Mine
theorem none_LawD : True := by
  k_with_none
  w_top off
  trivial
noncomputable def rowAt (rs : List Row) (k : Nat) : Row := rs.getD k (0, 1, 0, 0)
/-- a row's letter, a blank behind every second one -/
noncomputable def headF (rs : List Row) (k : Nat) : Str := (⟨#[(96 + (rowAt rs k).2.1).toNat]⟩ : Str) ++ Txt.mul (Str.ofString " ") ((k : Int).fmod 2)
noncomputable def fillF (k : Nat) : Str := ([Str.ofString "", Str.ofString " ", Str.ofString "\t"] : List Str).getD (k % 3) (Str.ofString "")
noncomputable def pageF (tot : Int) (rs : List Row) : Nat → Str
  | 0 => Str.ofString ""
  | k + 1 => ((((pageF tot rs k ++ indF (tot, (rowAt rs k).1, (rowAt rs k).2.2.1)) ++ headF rs k) ++ Str.ofString "\n") ++ fillF k) ++ Str.ofString "\n"
noncomputable def upF (rs : List Row) (k p : Nat) : List Int := ((List.range p).filter fun i => decide ((rowAt rs i).1 = (rowAt rs k).1 - 1)).map Int.ofNat
noncomputable def aboveF (rs : List Row) (k : Nat) : Int := ((-1 : Int) :: upF rs k k).getLast (by simp)
noncomputable def dueF (rs : List Row) (k : Nat) : Int × Str := (aboveF rs k, headF rs k)
noncomputable def lawJ (DD Cc Cr : Addr) (oR : Obj) (bs : Led) (tot : Int) (rs : List Row) (TA DG : Addr) (i : Nat) (m : Str → Option Value) (nx : Led) : Prop :=
  ∀ z : Led → Prop, (∀ (dus : List Value) (n : Nat) (tl : Led) (t1 t2 : Tok), (∀ p ∈ tl, (@LT.lt Nat _ Cc p.1) ∧ (@Ne Nat p.1 DD)) → All2 (OutIn tl) dus ((List.range i).map (dueF rs)) →
    m (Str.ofString "told") = some (.ref TA) → m (Str.ofString "total") = some (.int tot t1) → m (Str.ofString "grey") = some (.ref DG) → m (Str.ofString "due") = some (.ref DD) → m (Str.ofString "page") = some (.str (pageF tot rs i) t2) → z ((DD, listOf dus.toArray n) :: (Cr, oR) :: (bs ++ tl))) → z nx
theorem lt3 : ∀ x, x < 3 → x = 0 ∨ x = 1 ∨ x = 2 := by decide
theorem mod3 (k : Nat) : k % 3 = 0 ∨ k % 3 = 1 ∨ k % 3 = 2 := lt3 _ (Nat.mod_lt _ (by decide))
theorem fmod2 (k : Nat) : (k : Int).fmod 2 = 0 ∨ (k : Int).fmod 2 = 1 := by
  have h0 : 0 ≤ (k : Int).fmod 2 := Int.fmod_nonneg_of_pos _ (by decide)
  have h1 : (k : Int).fmod 2 < 2 := Int.fmod_lt_of_pos _ (by decide)
  omega
theorem indF_len {d : Int × Int × Int} (ok : indOk d) : (indF d).length ≤ 12 := by
  have h0 : 0 ≤ placeF d := Int.fmod_nonneg_of_pos _ (by decide)
  have h1 : placeF d < 40 := Int.fmod_lt_of_pos _ (by decide)
  have hk : ∀ j : Int, 0 ≤ j → j < 10 → ∀ b : Bool, (Txt.join (Str.ofString "") ((bif b then (kindsL.getD j.toNat []).reverse else kindsL.getD j.toNat []).map runS)).length ≤ 9 := by
    intro j j0 j1 b
    have := kinds_texts (kindsL.getD j.toNat []) (by
      rw [List.getD_eq_getElem?_getD, List.getElem?_eq_getElem (by show j.toNat < 10; omega)]
      exact List.getElem_mem _)
    cases b
    · exact this.2.1
    · exact this.2.2.2
  have hm : ∀ q : Int, 0 ≤ q → q < 4 → (Txt.mul (Str.ofString " ") q).length ≤ 3 := by
    intro q q0 q1
    have : q = 0 ∨ q = 1 ∨ q = 2 ∨ q = 3 := by omega
    rcases this with rfl | rfl | rfl | rfl <;> decide
  have hj := hk ((placeF d).fmod 10) (Int.fmod_nonneg_of_pos _ (by decide)) (Int.fmod_lt_of_pos _ (by decide)) (decide (d.2.2 = 1))
  have hq := hm ((placeF d).fdiv 10) (by rw [Int.fdiv_eq_ediv_of_nonneg _ (by decide)]; omega) (by rw [Int.fdiv_eq_ediv_of_nonneg _ (by decide)]; omega)
  unfold indF
  have hl : ∀ a b : Str, (a ++ b).length = a.length + b.length := strLen_append
  rw [hl]
  by_cases h : d.2.2 = 1
  · rw [if_pos h]
    rw [decide_eq_true h] at hj
    simp only [cond_true] at hj
    omega
  · rw [if_neg h]
    rw [decide_eq_false h] at hj
    simp only [cond_false] at hj
    omega
theorem upF_yes {rs : List Row} {k p : Nat} {r q : Row} (hp : rowAt rs p = q) (hk : rowAt rs k = r) (h : q.1 = r.1 - 1) : upF rs k (p + 1) = upF rs k p ++ [(p : Int)] := by
  unfold upF
  rw [List.range_succ, List.filter_append, List.map_append]
  congr 1
  rw [List.filter_cons_of_pos (by rw [hp, hk]; exact decide_eq_true h), List.filter_nil]
  rfl
theorem upF_no {rs : List Row} {k p : Nat} {r q : Row} (hp : rowAt rs p = q) (hk : rowAt rs k = r) (h : q.1 ≠ r.1 - 1) : upF rs k (p + 1) = upF rs k p := by
  unfold upF
  rw [List.range_succ, List.filter_append, List.map_append, List.filter_cons_of_neg (by rw [hp, hk]; simpa using h), List.filter_nil, List.map_nil, List.append_nil]
theorem upF_len (rs : List Row) (k p : Nat) : (upF rs k p).length ≤ p := by
  unfold upF
  rw [List.length_map]
  have := List.length_filter_le (fun i => decide ((rowAt rs i).1 = (rowAt rs k).1 - 1)) (List.range p)
  rwa [List.length_range] at this
theorem ints_last {ws : List Value} {ns : List Int} (h : IntsAre ws ns) (hn : ns ≠ []) : ∃ t, ws.getLast? = some (.int (ns.getLast hn) t) := by
  obtain ⟨t, ht⟩ := h.get (ns.length - 1) (ns.getLast hn) (by rw [List.getLast_eq_getElem]; exact List.getElem?_eq_getElem _)
  refine ⟨t, ?_⟩
  rw [List.getLast?_eq_getElem?, h.length]
  exact ht
theorem add_two {prog : Program} {w : World} {A : Around} {E : Value → Shared → Prop} {s : Shared} {h₀ : Heap} {L l r : Addr} {m : Str → Option Value} {news : Led} {us vs : List Value} {n k : Nat} {Q : Value → Shared → Prop} (F : Fr h₀ L s.heap m) (N : News h₀ L s.heap news) (ml : (l, listOf us.toArray n) ∈ news) (mr : (r, listOf vs.toArray k) ∈ news) (h1 : us.length < 1000) (h2 : vs.length < 1000)
    (h : ∀ D h', Fr h₀ L h' m → News h₀ L h' ((D, listOf (us ++ vs).toArray 0) :: news) → (∀ p ∈ news, p.1 < D) → Q (.ref D) { s with heap := h' }) : wpAny (model prog w) A (binaryOp .Add (.ref l) (.ref r)) Q E s :=
  add_arrays F N (isList_led N ml) (isList_led N mr) (fun h' F' N' => h _ h' F' N' fun p hp => Heap.lt_size (N p hp).1) (by rw [List.size_toArray, List.size_toArray, sizeLine_eq]; omega)
theorem item_fill {prog : Program} {w : World} {A : Around} {E : Value → Shared → Prop} {s : Shared} {h₀ : Heap} {L D : Addr} {rest : Led} {value slice : PySem.Expr} {a b c u : Tok} {Q : Value → Shared → Prop} (N : News h₀ L s.heap ((D, ({ cls := .type "tuple", data := .seq #[.str (Str.ofString "") a, .str (Str.ofString " ") b, .str (Str.ofString "\t") c] } : Obj)) :: rest)) (i : Nat) (h : ∀ tq, Q (.str (fillF i) tq) s)
    (hs : subscripted slice false (.ref D) (.int ((i : Int).fmod 3) u) = operate [.ref D, .int ((i : Int).fmod 3) u] (getItem (.ref D) (.int ((i : Int).fmod 3) u)) := by with_unfolding_all rfl) :
    wpAny (model prog w) A (subscriptTail value slice (.ref D) (.int ((i : Int).fmod 3) u)) Q E s := by
  have hT : IsTup s.heap D [Value.str (Str.ofString "") a, .str (Str.ofString " ") b, .str (Str.ofString "\t") c].toArray := ⟨_, (N _ (.head _)).1, rfl, _, rfl⟩
  have e : (i : Int).fmod 3 = ((i % 3 : Nat) : Int) := by rw [Int.fmod_eq_emod_of_nonneg _ (by decide)]; omega
  have hm := mod3 i
  rw [e] at hs ⊢
  unfold fillF at h
  rcases hm with hm | hm | hm <;> rw [hm] at hs h ⊢
  · exact item_tupleT hT (by decide) (by decide) (by rfl) (by rfl) (h a) hs
  · exact item_tupleT hT (by decide) (by decide) (by rfl) (by rfl) (h b) hs
  · exact item_tupleT hT (by decide) (by decide) (by rfl) (by rfl) (h c) hs
theorem rowAt_b {rs : List Row} (h : RowsFacts rs) (k : Nat) : 0 ≤ (rowAt rs k).1 ∧ (rowAt rs k).1 ≤ 3 ∧ 1 ≤ (rowAt rs k).2.1 ∧ (rowAt rs k).2.1 ≤ 15 ∧ 0 ≤ (rowAt rs k).2.2.1 ∧ (rowAt rs k).2.2.1 ≤ 1 := by
  unfold rowAt
  rw [List.getD_eq_getElem?_getD]
  cases hk : rs[k]? with
  | none => exact ⟨by decide, by decide, by decide, by decide, by decide, by decide⟩
  | some r =>
    have := h.b r (List.mem_of_getElem? hk)
    rw [Option.getD_some]
    exact ⟨this.1, this.2.1, this.2.2.1, this.2.2.2.1, this.2.2.2.2.1, this.2.2.2.2.2.1⟩
theorem rowAt_ok {rs : List Row} (h : RowsFacts rs) {tot : Int} (h0 : 0 ≤ tot) (h1 : tot < 10000000) (k : Nat) : indOk (tot, (rowAt rs k).1, (rowAt rs k).2.2.1) := by
  have := rowAt_b h k
  exact ⟨h0, h1, this.1, this.2.1, this.2.2.2.2.1, this.2.2.2.2.2⟩
theorem mul_len (k : Nat) : (Txt.mul (Str.ofString " ") ((k : Int).fmod 2)).length ≤ 1 := by
  rcases fmod2 k with h | h <;> rw [h] <;> decide
theorem head_len (rs : List Row) (k : Nat) : (headF rs k).length ≤ 2 := by
  have := mul_len k
  unfold headF
  rw [strLen_append]
  have e : (⟨#[(96 + (rowAt rs k).2.1).toNat]⟩ : Str).length = 1 := rfl
  omega
theorem fill_len (k : Nat) : (fillF k).length ≤ 1 := by
  unfold fillF
  rcases mod3 k with h | h | h <;> rw [h] <;> decide
theorem page_len {rs : List Row} (h : RowsFacts rs) {tot : Int} (h0 : 0 ≤ tot) (h1 : tot < 10000000) (k : Nat) : (pageF tot rs k).length ≤ 17 * k := by
  induction k with
  | zero => exact Nat.le_refl _
  | succ k ih =>
    have a := indF_len (rowAt_ok h h0 h1 k)
    have b := head_len rs k
    have c := fill_len k
    have e : (Str.ofString "\n").length = 1 := rfl
    unfold pageF
    simp only [strLen_append]
    omega
end Mine
end
-- PlainS
section
open PySem PySem.W PyProof.Rows PySem.StrLaws PySem.Builtin.Str
namespace Mine
theorem none_PlainS : True := by
  k_with_none
  w_top off
  trivial
noncomputable def jn (c : Nat) : List (List Nat) → List Nat
  | [] => []
  | [x] => x
  | x :: y :: r => x ++ c :: jn c (y :: r)
theorem cut_uniq {c : Nat} : ∀ {x y a b : List Nat}, c ∉ x → c ∉ y → x ++ c :: a = y ++ c :: b → x = y ∧ a = b
  | [], [], a, b, _, _, h => by simpa using h
  | [], y :: ys, a, b, _, hy, h => by
    simp only [List.nil_append, List.cons_append, List.cons.injEq] at h
    exact absurd (h.1 ▸ List.mem_cons_self) hy
  | x :: xs, [], a, b, hx, _, h => by
    simp only [List.nil_append, List.cons_append, List.cons.injEq] at h
    exact absurd (h.1 ▸ List.mem_cons_self) hx
  | x :: xs, y :: ys, a, b, hx, hy, h => by
    simp only [List.cons_append, List.cons.injEq] at h
    have := cut_uniq (fun m => hx (.tail _ m)) (fun m => hy (.tail _ m)) h.2
    exact ⟨by rw [h.1, this.1], this.2⟩
theorem jn_uniq {c : Nat} : ∀ {ps qs : List (List Nat)}, ps ≠ [] → qs ≠ [] → (∀ p ∈ ps, c ∉ p) → (∀ q ∈ qs, c ∉ q) → jn c ps = jn c qs → ps = qs
  | [], _, h, _, _, _, _ => absurd rfl h
  | _, [], _, h, _, _, _ => absurd rfl h
  | [x], [y], _, _, _, _, h => by simpa [jn] using h
  | [x], y :: z :: s, _, _, hp, _, h => by
    simp only [jn] at h
    exact absurd (h ▸ List.mem_append.mpr (.inr List.mem_cons_self)) (hp x List.mem_cons_self)
  | x :: z :: s, [y], _, _, _, hq, h => by
    simp only [jn] at h
    exact absurd (h ▸ List.mem_append.mpr (.inr List.mem_cons_self)) (hq y List.mem_cons_self)
  | x :: z :: r, y :: u :: s, _, _, hp, hq, h => by
    simp only [jn] at h
    obtain ⟨e1, e2⟩ := cut_uniq (hp x List.mem_cons_self) (hq y List.mem_cons_self) h
    have := jn_uniq (ps := z :: r) (qs := u :: s) (by simp) (by simp) (fun p m => hp p (.tail _ m)) (fun q m => hq q (.tail _ m)) e2
    rw [e1, this]
theorem str_list {a b : Str} (h : a.cps.toList = b.cps.toList) : a = b := Str.ext' (Array.toList_inj.mp h)
theorem join_list (c : Nat) : ∀ ps : List Str, (Str.join ⟨#[c]⟩ ps).cps.toList = jn c (ps.map (·.cps.toList))
  | [] => rfl
  | [x] => rfl
  | x :: y :: r => by
    have ih := join_list c (y :: r)
    show (x ++ ⟨#[c]⟩ ++ Str.join ⟨#[c]⟩ (y :: r)).cps.toList = _
    rw [Str.cps_append, Str.cps_append, Array.toList_append, Array.toList_append, ih]
    simp [jn]
theorem split_ne (x y : Str) : Txt.split x y ≠ [] := by
  unfold Txt.split
  split
  · simp
  · split
    · simp
    · rw [partsBetween_eq]
      obtain ⟨p, r, h⟩ := partsFrom_ne x y.length 0 (occurrences x y 0 x.length (x.length + 1))
      rw [h]; simp
theorem split_of {c : Nat} {ps : List Str} (h : ps ≠ []) (hf : ∀ p ∈ ps, c ∉ p.cps.toList) : Txt.split (Str.join ⟨#[c]⟩ ps) ⟨#[c]⟩ = ps := by
  have h1 := join_split (Str.join ⟨#[c]⟩ ps) ⟨#[c]⟩
  have h2 := split_free (Str.join ⟨#[c]⟩ ps) c
  have h3 := split_ne (Str.join ⟨#[c]⟩ ps) ⟨#[c]⟩
  generalize Txt.split (Str.join ⟨#[c]⟩ ps) ⟨#[c]⟩ = qs at h1 h2 h3
  have h4 : jn c (qs.map (·.cps.toList)) = jn c (ps.map (·.cps.toList)) := by rw [← join_list, ← join_list, h1]
  have h5 := jn_uniq (by simpa using h3) (by simpa using h) (by
    intro p hp
    obtain ⟨q, hq, rfl⟩ := List.mem_map.mp hp
    exact h2 q hq) (by
    intro p hp
    obtain ⟨q, hq, rfl⟩ := List.mem_map.mp hp
    exact hf q hq) h4
  have inj : ∀ a b : List Str, a.map (·.cps.toList) = b.map (·.cps.toList) → a = b := by
    intro a
    induction a with
    | nil => intro b hb; cases b with
      | nil => rfl
      | cons => simp at hb
    | cons x a ih =>
      intro b hb
      cases b with
      | nil => simp at hb
      | cons y b =>
        simp only [List.map_cons, List.cons.injEq] at hb
        rw [str_list hb.1, ih b hb.2]
  exact inj _ _ h5
end Mine
end
-- PlainT
section
open PySem PySem.W PyProof.Rows PySem.StrLaws PySem.Builtin.Str
namespace Mine
theorem none_PlainT : True := by
  k_with_none
  w_top off
  trivial
theorem takeWhile_cut {p : Nat → Bool} {c : Nat} (hc : p c = false) : ∀ (ws r : List Nat), (∀ x ∈ ws, p x = true) → (ws ++ c :: r).takeWhile p = ws
  | [], r, _ => by simp [hc]
  | w :: ws, r, h => by
    rw [List.cons_append, List.takeWhile_cons, h w List.mem_cons_self]
    simp only [if_true]
    rw [takeWhile_cut hc ws r fun x hx => h x (.tail _ hx)]
theorem strip_list {x : Str} {ws core tail : List Nat} (hx : x.cps.toList = ws ++ (core ++ tail)) (h1 : ∀ c ∈ ws, Unicode.isSpace c = true) {a : Nat} {m : List Nat} (ha : core = a :: m) (hs : Unicode.isSpace a = false)
    {b : Nat} {m' : List Nat} (hb : core = m' ++ [b]) (he : Unicode.isSpace b = false) (h4 : ∀ c ∈ tail, Unicode.isSpace c = true) : (Txt.strip x).cps.toList = core := by
  have hlen : x.length = ws.length + (core.length + tail.length) := by
    show x.cps.size = _
    rw [← Array.length_toList, hx]; simp
  have hlo : stripLo Unicode.isSpace true x = ws.length := by
    unfold stripLo
    rw [if_pos rfl, hx, ha, List.cons_append, takeWhile_cut hs ws _ h1]
  have hhi : stripHi Unicode.isSpace true x ws.length = ws.length + core.length := by
    unfold stripHi
    rw [if_pos rfl, hx, List.drop_left, hb]
    rw [List.reverse_append, List.reverse_append, List.reverse_singleton, List.singleton_append, takeWhile_cut he tail.reverse _ (fun c hc => h4 c (List.mem_reverse.mp hc)), hlen, List.length_reverse, hb]
    omega
  have hsub : (strSub x ws.length (ws.length + core.length)).cps.toList = core := by
    rw [strSub_toList, hx, List.drop_left, Nat.add_sub_cancel_left, List.take_left]
  unfold Txt.strip Txt.stripBy
  split
  · rename_i hsame
    unfold stripSame at hsame
    rw [hlo, hhi] at hsame
    simp only [Bool.and_eq_true, beq_iff_eq] at hsame
    have hw : ws = [] := List.length_eq_zero_iff.mp hsame.1
    have ht : tail = [] := List.length_eq_zero_iff.mp (by omega)
    rw [hx, hw, ht]; simp
  · unfold PySem.stripped
    rw [hlo, hhi]
    exact hsub
end Mine
end
-- PlainN
section
open PySem PySem.W PyProof.Rows
namespace Mine
theorem none_PlainN : True := by
  k_with_none
  w_top off
  trivial
/-- the indent of a place -/
noncomputable def indP (p : Int) (b : Bool) : Str := Txt.join (Str.ofString "") ((bif b then (kindsL.getD (p.fmod 10).toNat []).reverse else kindsL.getD (p.fmod 10).toNat []).map runS) ++ Txt.mul (Str.ofString " ") (p.fdiv 10)
theorem indF_P (d : Int × Int × Int) : indF d = indP (placeF d) (decide (d.2.2 = 1)) := by
  unfold indF indP
  by_cases h : d.2.2 = 1
  · rw [if_pos h, decide_eq_true h]; rfl
  · rw [if_neg h, decide_eq_false h]; rfl
noncomputable def normP (p : Int) (b : Bool) : List Int × Int := ((wsF (indP p b).cps.toList).1, (wsF (indP p b).cps.toList).2.1)
noncomputable def indOkB (p : Fin 40) (b : Bool) : Bool := (indP p.val b).cps.toList.all (fun c => c == 32 || c == 9) && decide ((indP p.val b).cps.toList.length ≤ 12)
set_option maxRecDepth 100000 in
theorem indOk_all : ∀ (p : Fin 40) (b : Bool), indOkB p b = true := by decide +kernel
set_option maxRecDepth 100000 in
theorem normP_turn : ∀ p : Fin 40, normP p.val true = normP p.val false := by decide +kernel
set_option maxRecDepth 100000 in
theorem normP_inj : ∀ p q : Fin 40, normP p.val false = normP q.val false → p = q := by decide +kernel
theorem norm_iff {p q : Int} (hp : 0 ≤ p ∧ p < 40) (hq : 0 ≤ q ∧ q < 40) (b c : Bool) : normP p b = normP q c ↔ p = q := by
  have e : ∀ {p : Int} (hp : 0 ≤ p ∧ p < 40) (b : Bool), normP p b = normP p false := by
    intro p hp b
    have := normP_turn ⟨p.toNat, by omega⟩
    dsimp only at this
    rw [Int.toNat_of_nonneg hp.1] at this
    cases b
    · rfl
    · exact this
  rw [e hp b, e hq c]
  refine ⟨fun h => ?_, fun h => by rw [h]⟩
  have := normP_inj ⟨p.toNat, by omega⟩ ⟨q.toNat, by omega⟩ (by dsimp only; rw [Int.toNat_of_nonneg hp.1, Int.toNat_of_nonneg hq.1]; exact h)
  have := Fin.mk.inj_iff.mp this
  omega
theorem place_tab : ∀ q ∈ ([1, 4, 10, 11, 13] : List Int), ∀ a b : Fin 4, ∀ t : Fin 40, ((t.val : Int) + a.val * q) % 40 = ((t.val : Int) + b.val * q) % 40 → a = b := by decide +kernel
/-- depths of one sum: their places are apart -/
theorem place_inj {tot a b t u : Int} (ha : 0 ≤ a ∧ a ≤ 3) (hb : 0 ≤ b ∧ b ≤ 3) : placeF (tot, a, t) = placeF (tot, b, u) ↔ a = b := by
  unfold placeF
  dsimp only
  have hk : ((tot.fdiv 40).fmod 5).toNat < 5 := by
    have h0 : 0 ≤ (tot.fdiv 40).fmod 5 := Int.fmod_nonneg_of_pos _ (by decide)
    have h1 : (tot.fdiv 40).fmod 5 < 5 := Int.fmod_lt_of_pos _ (by decide)
    omega
  have hq : ([1, 4, 10, 11, 13] : List Int).getD ((tot.fdiv 40).fmod 5).toNat 0 ∈ ([1, 4, 10, 11, 13] : List Int) := by
    rw [List.getD_eq_getElem?_getD, List.getElem?_eq_getElem (by exact hk), Option.getD_some]
    exact List.getElem_mem _
  generalize ([1, 4, 10, 11, 13] : List Int).getD ((tot.fdiv 40).fmod 5).toNat 0 = q at hq
  rw [Int.fmod_eq_emod_of_nonneg _ (by decide), Int.fmod_eq_emod_of_nonneg _ (by decide)]
  refine ⟨fun h => ?_, fun h => by rw [h]⟩
  rw [← Int.emod_add_emod tot, ← Int.emod_add_emod tot] at h
  have h0 := Int.emod_nonneg tot (show (40 : Int) ≠ 0 by decide)
  have h1 := Int.emod_lt_of_pos tot (show (0 : Int) < 40 by decide)
  have := place_tab q hq ⟨a.toNat, by omega⟩ ⟨b.toNat, by omega⟩ ⟨(tot % 40).toNat, by omega⟩ (by
    dsimp only
    rw [Int.toNat_of_nonneg h0, Int.toNat_of_nonneg ha.1, Int.toNat_of_nonneg hb.1]
    exact h)
  have := congrArg Fin.val this
  dsimp only at this
  omega
end Mine
end
-- LawR0
section
open PySem PySem.W PyProof.Rows
namespace Mine
theorem none_LawR0 : True := by
  k_with_none
  w_top off
  trivial
/-- what the plain law says of the page -/
structure RdOk (tot : Int) (rs : List Row) (b : Str) (d : Rd) : Prop where
  n : d.n = rs.length
  t0 : d.T 0 = (pageF tot rs rs.length ++ b) ++ Str.ofString " \n"
  tn : d.T d.n = b
  ok : readOk d
  hd : ∀ k, k < rs.length → d.hd k = headF rs k
  ab : ∀ k, k < rs.length → abvF d k = aboveF rs k
theorem RdOk.due {tot : Int} {rs : List Row} {b : Str} {d : Rd} (h : RdOk tot rs b d) : ((List.range d.n).map fun k => (abvF d k, d.hd k)) = (List.range rs.length).map (dueF rs) := by
  rw [h.n]
  apply List.map_congr_left
  intro k hk
  have := List.mem_range.mp hk
  rw [h.hd k this, h.ab k this]
  rfl
end Mine
end
-- PlainA
section
open PySem PySem.W PyProof.Rows
namespace Mine
theorem none_PlainA : True := by
  k_with_none
  w_top off
  trivial
theorem filter_one (e : Nat) : ∀ n : Nat, (List.range n).filter (fun p => decide (p = e)) = if e < n then [e] else []
  | 0 => by simp
  | n + 1 => by
    rw [List.range_succ, List.filter_append, filter_one e n]
    by_cases h1 : e < n
    · rw [if_pos h1, if_pos (by omega), List.filter_cons_of_neg (by simp; omega)]; rfl
    · rw [if_neg h1]
      by_cases h2 : n = e
      · subst h2; rw [if_pos (by omega), List.filter_cons_of_pos (by simp)]; rfl
      · rw [if_neg (by omega), List.filter_cons_of_neg (by simpa using h2)]; rfl
theorem filter_last (f : Nat → Bool) {j : Nat} (hj : f j = true) : ∀ k : Nat, j < k → (∀ i, j < i → i < k → f i = false) → ∃ us, (List.range k).filter f = us ++ [j]
  | 0, h, _ => absurd h (Nat.not_lt_zero _)
  | k + 1, h, hg => by
    rw [List.range_succ, List.filter_append]
    by_cases e : j = k
    · subst e
      exact ⟨_, by rw [List.filter_cons_of_pos hj, List.filter_nil]⟩
    · obtain ⟨us, hu⟩ := filter_last f hj k (by omega) (fun i h1 h2 => hg i h1 (by omega))
      rw [List.filter_cons_of_neg (by rw [hg k (by omega) (by omega)]; simp), List.filter_nil, List.append_nil]
      exact ⟨us, hu⟩
/-- the open rows, told by their depths -/
structure StkOk (dep : Nat → Int) (k : Nat) (st : List Nat) : Prop where
  len : (st.length : Int) = if k = 0 then 0 else dep (k - 1) + 1
  lt : ∀ (p j : Nat), st[p]? = some j → j < k
  dp : ∀ (p j : Nat), st[p]? = some j → dep j = p
  gap : ∀ (p j i : Nat), st[p]? = some j → j < i → i < k → dep i ≠ p
theorem cut_take {d : Rd} {dep : Nat → Int} {k : Nat} {st : List Nat} (hn : ∀ j, j < k → (nmF d j = nmF d k ↔ dep j = dep k)) (S : StkOk dep k st) (h0 : 0 ≤ dep k) (h1 : dep k ≤ st.length) : cutF d st k = st.take (dep k).toNat := by
  have e : sameF d st k = if (dep k).toNat < st.length then [(dep k).toNat] else [] := by
    unfold sameF
    rw [← filter_one]
    apply List.filter_congr
    intro p hp
    have hp' := List.mem_range.mp hp
    have hj : st[p]? = some st[p] := List.getElem?_eq_getElem hp'
    have eg : st.getD p 0 = st[p] := by rw [List.getD_eq_getElem?_getD, hj, Option.getD_some]
    rw [eg]
    have := hn _ (S.lt _ _ hj)
    have hd := S.dp _ _ hj
    rw [hd] at this
    apply decide_eq_decide.mpr
    rw [this]
    omega
  unfold cutF
  rw [e]
  by_cases h : (dep k).toNat < st.length
  · rw [if_pos h]
  · rw [if_neg h]
    rw [List.take_of_length_le (by omega)]
theorem stk_ok {d : Rd} {dep : Nat → Int} {n : Nat} (hn : ∀ j k, j < k → k < n → (nmF d j = nmF d k ↔ dep j = dep k)) (h0 : ∀ k, k < n → 0 ≤ dep k) (hz : 0 < n → dep 0 = 0) (hs : ∀ k, k + 1 < n → dep (k + 1) ≤ dep k + 1) : ∀ k, k ≤ n → StkOk dep k (stkF d k)
  | 0, _ => ⟨rfl, fun p j h => by simp [stkF] at h, fun p j h => by simp [stkF] at h, fun p j i h => by simp [stkF] at h⟩
  | k + 1, hk => by
    have S := stk_ok hn h0 hz hs k (by omega)
    have hd0 := h0 k (by omega)
    have hle : dep k ≤ (stkF d k).length := by
      rw [S.len]
      by_cases e : k = 0
      · subst e; rw [if_pos rfl, hz (by omega)]; exact Int.le_refl _
      · rw [if_neg e]
        have := hs (k - 1) (by omega)
        rw [show k - 1 + 1 = k from Nat.succ_pred_eq_of_ne_zero e] at this
        exact this
    have hc := cut_take (fun j hj => hn j k hj (by omega)) S hd0 hle
    have hlen : ((stkF d k).take (dep k).toNat).length = (dep k).toNat := List.length_take_of_le (Int.toNat_le.mpr hle)
    have key : ∀ (p : Nat) j, (stkF d (k + 1))[p]? = some j → (p < (dep k).toNat ∧ (stkF d k)[p]? = some j) ∨ (p = (dep k).toNat ∧ j = k) := by
      intro p j h
      rw [stkF, hc] at h
      by_cases hp : p < (dep k).toNat
      · rw [List.getElem?_append_left (by omega), List.getElem?_take, if_pos hp] at h
        exact .inl ⟨hp, h⟩
      · rw [List.getElem?_append_right (by omega), hlen] at h
        have hp2 : p - (dep k).toNat = 0 := by
          have := (List.getElem?_eq_some_iff.mp h).1
          simp at this
          omega
        rw [hp2] at h
        simp at h
        exact .inr ⟨Nat.le_antisymm (Nat.sub_eq_zero_iff_le.mp hp2) (Nat.not_lt.mp hp), h.symm⟩
    refine ⟨?_, ?_, ?_, ?_⟩
    · rw [stkF, hc, List.length_append, hlen, List.length_singleton, if_neg (Nat.succ_ne_zero k), Nat.add_sub_cancel]
      show (((dep k).toNat : Int) + 1) = _
      rw [Int.toNat_of_nonneg hd0]
    · intro p j h
      rcases key p j h with ⟨_, h⟩ | ⟨_, rfl⟩
      · have := S.lt _ _ h; omega
      · omega
    · intro p j h
      rcases key p j h with ⟨_, h⟩ | ⟨hp, rfl⟩
      · exact S.dp _ _ h
      · omega
    · intro p j i h h1 h2
      rcases key p j h with ⟨hp, h⟩ | ⟨hp, rfl⟩
      · by_cases e : i = k
        · subst e; omega
        · exact S.gap _ _ _ h h1 (by omega)
      · omega
theorem abv_eq {d : Rd} {rs : List Row} (hn : ∀ j k, j < k → k < rs.length → (nmF d j = nmF d k ↔ (rowAt rs j).1 = (rowAt rs k).1)) (H : RowsFacts rs) {k : Nat} (hk : k < rs.length) : abvF d k = aboveF rs k := by
  have at_some : ∀ i, i < rs.length → rs[i]? = some (rowAt rs i) := by
    intro i hi
    have := List.getElem?_eq_getElem hi
    unfold rowAt
    rw [List.getD_eq_getElem?_getD, this, Option.getD_some]
  have hz : 0 < rs.length → (rowAt rs 0).1 = 0 := fun h => H.z _ (at_some 0 h)
  have hs : ∀ i, i + 1 < rs.length → (rowAt rs (i + 1)).1 ≤ (rowAt rs i).1 + 1 := fun i hi => H.s i _ _ (at_some i (by omega)) (at_some (i + 1) hi)
  have S := stk_ok (dep := fun i => (rowAt rs i).1) hn (fun i _ => (rowAt_b H i).1) hz hs k (by omega)
  have hd0 := (rowAt_b H k).1
  have hle : (rowAt rs k).1 ≤ (stkF d k).length := by
    rw [S.len]
    by_cases e : k = 0
    · subst e; rw [if_pos rfl, hz (by omega)]; exact Int.le_refl _
    · rw [if_neg e]
      have := hs (k - 1) (by omega)
      rw [show k - 1 + 1 = k from Nat.succ_pred_eq_of_ne_zero e] at this
      exact this
  have hc := cut_take (dep := fun i => (rowAt rs i).1) (fun j hj => hn j k hj hk) S hd0 hle
  unfold abvF
  rw [hc]
  by_cases e0 : (rowAt rs k).1 = 0
  · rw [e0]
    have hu : upF rs k k = [] := by
      unfold upF
      rw [e0]
      have : (List.range k).filter (fun i => decide ((rowAt rs i).1 = 0 - 1)) = [] := by
        apply List.filter_eq_nil_iff.mpr
        intro i _
        have := (rowAt_b H i).1
        simp only [decide_eq_true_eq]
        omega
      rw [this]; rfl
    unfold aboveF
    simp only [hu]
    rfl
  · obtain ⟨p, hp⟩ : ∃ p : Nat, (rowAt rs k).1 = (p : Int) + 1 := ⟨((rowAt rs k).1 - 1).toNat, by omega⟩
    have ht : (rowAt rs k).1.toNat = p + 1 := by rw [hp]; rfl
    have hpl : p < (stkF d k).length := by rw [hp] at hle; exact Int.ofNat_le.mp (show ((p + 1 : Nat) : Int) ≤ _ from hle)
    have hj : (stkF d k)[p]? = some (stkF d k)[p] := List.getElem?_eq_getElem hpl
    generalize (stkF d k)[p] = j at hj
    have hjk := S.lt _ _ hj
    have hjd := S.dp _ _ hj
    have hjg := fun i => S.gap _ _ i hj
    obtain ⟨us, hu⟩ := filter_last (fun i => decide ((rowAt rs i).1 = (rowAt rs k).1 - 1)) (j := j) (by simp only [decide_eq_true_eq]; omega) k hjk (by
      intro i h1 h2
      have := hjg i h1 h2
      simp only [decide_eq_false_iff_not]
      omega)
    have hg : ((stkF d k).take (rowAt rs k).1.toNat).getLast? = some j := by
      rw [ht, List.getLast?_eq_getElem?, List.length_take_of_le hpl, Nat.succ_sub_one, List.getElem?_take, if_pos (Nat.lt_succ_self p)]
      exact hj
    rw [hg]
    have hu2 : upF rs k k = us.map Int.ofNat ++ [(j : Int)] := by
      unfold upF
      rw [hu, List.map_append]; rfl
    unfold aboveF
    simp only [hu2]
    rw [List.getLast_cons (by simp)]; simp
end Mine
end
-- PlainR
section
open PySem PySem.W PyProof.Rows PySem.StrLaws PySem.Builtin.Str
namespace Mine
theorem none_PlainR : True := by
  k_with_none
  w_top off
  trivial
noncomputable def iL (tot : Int) (rs : List Row) (k : Nat) : List Nat := (indF (tot, (rowAt rs k).1, (rowAt rs k).2.2.1)).cps.toList
noncomputable def cL (rs : List Row) (k : Nat) : Nat := (96 + (rowAt rs k).2.1).toNat
noncomputable def bL (k : Nat) : List Nat := (Txt.mul (Str.ofString " ") ((k : Int).fmod 2)).cps.toList
noncomputable def fL (k : Nat) : List Nat := (fillF k).cps.toList
noncomputable def rowL (tot : Int) (rs : List Row) (k : Nat) : List Nat := iL tot rs k ++ (cL rs k :: (bL k ++ 10 :: (fL k ++ [10])))
/-- j rows from row k on, and the body -/
noncomputable def tailL (tot : Int) (rs : List Row) (b : List Nat) : Nat → Nat → List Nat
  | 0, _ => b
  | j + 1, k => rowL tot rs k ++ tailL tot rs b j (k + 1)
noncomputable def endL (k : Nat) : List Nat := if k = 0 then [32, 10] else []
noncomputable def toS (l : List Nat) : Str := ⟨l.toArray⟩
theorem toS_list (l : List Nat) : (toS l).cps.toList = l := by simp [toS]
theorem nl_one : nl = (⟨#[10]⟩ : Str) := by decide +kernel
theorem ofs_one : Str.ofString "\n" = (⟨#[10]⟩ : Str) := by decide +kernel
theorem app_list (a b : Str) : (a ++ b).cps.toList = a.cps.toList ++ b.cps.toList := by rw [Str.cps_append, Array.toList_append]
theorem head_list (rs : List Row) (k : Nat) : (headF rs k).cps.toList = cL rs k :: bL k := by
  unfold headF; rw [app_list]; rfl
theorem page_tail (tot : Int) (rs : List Row) (b : List Nat) (n : Nat) : ∀ j k, k + j = n → (pageF tot rs k).cps.toList ++ tailL tot rs b j k = (pageF tot rs n).cps.toList ++ b
  | 0, k, h => by rw [show k = n from h]; rfl
  | j + 1, k, h => by
    rw [← page_tail tot rs b n j (k + 1) (by omega)]
    show _ = (((((pageF tot rs k ++ indF (tot, (rowAt rs k).1, (rowAt rs k).2.2.1)) ++ headF rs k) ++ Str.ofString "\n") ++ fillF k) ++ Str.ofString "\n").cps.toList ++ _
    simp only [app_list, ofs_one, head_list]
    show _ ++ (rowL tot rs k ++ _) = _
    simp only [rowL, iL, fL, List.append_assoc, List.cons_append, List.nil_append]
theorem bL_in (k : Nat) : bL k = [] ∨ bL k = [32] := by
  unfold bL
  rcases fmod2 k with h | h <;> rw [h]
  · exact .inl (by decide +kernel)
  · exact .inr (by decide +kernel)
theorem fill_in (k : Nat) : fillF k = Str.ofString "" ∨ fillF k = Str.ofString " " ∨ fillF k = Str.ofString "\t" := by
  unfold fillF
  rcases mod3 k with h | h | h <;> rw [h]
  · exact .inl rfl
  · exact .inr (.inl rfl)
  · exact .inr (.inr rfl)
theorem fill_facts (k : Nat) : (Txt.rstrip (fillF k)).length = 0 ∧ (∀ c ∈ fL k, c = 32 ∨ c = 9) ∧ (fL k).length ≤ 1 := by
  unfold fL
  rcases fill_in k with h | h | h <;> rw [h] <;> decide +kernel
theorem space_of : ∀ c, c = 32 ∨ c = 9 ∨ c = 10 → Unicode.isSpace c = true := by
  rintro c (rfl | rfl | rfl) <;> decide +kernel
theorem letter_plain : ∀ l : Fin 16, Unicode.isSpace (96 + l.val) = false := by decide +kernel
theorem z_plain : Unicode.isSpace 122 = false := by decide +kernel
section
variable {tot : Int} {rs : List Row} (H : RowsFacts rs) (h0 : 0 ≤ tot) (h1 : tot < 10000000)
include H
theorem cL_b (k : Nat) : 97 ≤ cL rs k ∧ cL rs k ≤ 111 := by
  have := rowAt_b H k
  unfold cL
  omega
theorem cL_plain (k : Nat) : Unicode.isSpace (cL rs k) = false := by
  have hc := cL_b H k
  have e : 96 + (cL rs k - 96) = cL rs k := Nat.add_sub_of_le (Nat.le_of_succ_le hc.1)
  have := letter_plain ⟨cL rs k - 96, by omega⟩
  dsimp only at this
  rwa [e] at this
include h0 h1
/-- the indent is that of a place -/
theorem iL_place (k : Nat) : ∃ p : Fin 40, ∃ b : Bool, indF (tot, (rowAt rs k).1, (rowAt rs k).2.2.1) = indP p.val b := by
  have hp0 : 0 ≤ placeF (tot, (rowAt rs k).1, (rowAt rs k).2.2.1) := Int.fmod_nonneg_of_pos _ (by decide)
  have hp1 : placeF (tot, (rowAt rs k).1, (rowAt rs k).2.2.1) < 40 := Int.fmod_lt_of_pos _ (by decide)
  refine ⟨⟨(placeF (tot, (rowAt rs k).1, (rowAt rs k).2.2.1)).toNat, by omega⟩, decide ((rowAt rs k).2.2.1 = 1), ?_⟩
  rw [indF_P]
  dsimp only
  rw [Int.toNat_of_nonneg hp0]
theorem iL_facts (k : Nat) : (∀ c ∈ iL tot rs k, c = 32 ∨ c = 9) ∧ (iL tot rs k).length ≤ 12 := by
  obtain ⟨p, b, e⟩ := iL_place H h0 h1 k
  have := indOk_all p b
  unfold indOkB at this
  rw [Bool.and_eq_true, decide_eq_true_eq, List.all_eq_true] at this
  unfold iL
  rw [e]
  refine ⟨fun c hc => ?_, this.2⟩
  have := this.1 c hc
  simpa using this
theorem rowL_facts (k : Nat) : (∀ c ∈ rowL tot rs k, c < 128) ∧ (rowL tot rs k).length ≤ 17 := by
  have a := iL_facts H h0 h1 k
  have b := bL_in k
  have c := cL_b H k
  have f := fill_facts k
  have hb : (bL k).length ≤ 1 := by rcases b with b | b <;> rw [b] <;> decide
  refine ⟨fun x hx => ?_, ?_⟩
  · unfold rowL at hx
    simp only [List.mem_append, List.mem_cons, List.not_mem_nil, or_false] at hx
    rcases hx with hx | hx | hx | hx | hx | hx
    · have := a.1 x hx; omega
    · omega
    · rcases b with b | b <;> rw [b] at hx
      · exact absurd hx (by simp)
      · have := List.mem_singleton.mp hx; omega
    · omega
    · have := f.2.1 x hx; omega
    · omega
  · unfold rowL
    simp only [List.length_append, List.length_cons, List.length_nil]
    omega
variable {b : List Nat} (hb : ∀ c ∈ b, c < 128) (hbl : b.length ≤ 10)
include hb hbl
theorem tailL_facts : ∀ j k, (∀ c ∈ tailL tot rs b j k, c < 128) ∧ (tailL tot rs b j k).length ≤ 17 * j + 10
  | 0, k => ⟨hb, by unfold tailL; omega⟩
  | j + 1, k => by
    have a := rowL_facts H h0 h1 k
    have c := tailL_facts j (k + 1)
    unfold tailL
    refine ⟨fun x hx => (List.mem_append.mp hx).elim (a.1 x) (c.1 x), ?_⟩
    rw [List.length_append]
    omega
end
theorem tailL_last (tot : Int) (rs : List Row) {b m : List Nat} (hm : b = m ++ [122]) : ∀ j k, ∃ m', tailL tot rs b j k = m' ++ [122]
  | 0, k => ⟨m, hm⟩
  | j + 1, k => by
    obtain ⟨m', h⟩ := tailL_last tot rs hm j (k + 1)
    exact ⟨rowL tot rs k ++ m', by unfold tailL; rw [h, List.append_assoc]⟩
/-- what splitdoc makes of a row's page -/
theorem split_row {x head fill : Str} {ws tail rest : List Nat} {c : Nat} {hl : List Nat} (hh : head.cps.toList = c :: hl) (hx : x.cps.toList = ws ++ (c :: (hl ++ 10 :: (fill.cps.toList ++ 10 :: rest)) ++ tail)) (h1 : ∀ c ∈ ws, Unicode.isSpace c = true) (hs : Unicode.isSpace c = false)
    {m : List Nat} (hb : rest = m ++ [122]) (h4 : ∀ c ∈ tail, Unicode.isSpace c = true) (hn : 10 ∉ head.cps.toList) (hf : 10 ∉ fill.cps.toList) (hr : (Txt.rstrip fill).length = 0) : splitF x = (head, toS rest) := by
  have e1 : (Txt.strip x).cps.toList = c :: (hl ++ 10 :: (fill.cps.toList ++ 10 :: rest)) :=
    strip_list hx h1 rfl hs (m' := c :: (hl ++ 10 :: (fill.cps.toList ++ 10 :: m))) (by rw [hb]; simp) z_plain h4
  have e2 : Txt.strip x = Str.join ⟨#[10]⟩ (head :: fill :: Txt.split (toS rest) ⟨#[10]⟩) := by
    apply str_list
    rw [e1, join_list]
    have hj := join_split (toS rest) ⟨#[10]⟩
    have hne := split_ne (toS rest) ⟨#[10]⟩
    have hl2 := congrArg (fun s : Str => s.cps.toList) hj
    rw [join_list, toS_list] at hl2
    generalize Txt.split (toS rest) ⟨#[10]⟩ = ps at hl2 hne
    match ps, hne, hl2 with
    | p :: r, _, hl2 =>
      simp only [List.map_cons] at hl2 ⊢
      show _ = head.cps.toList ++ 10 :: (fill.cps.toList ++ 10 :: jn 10 (p.cps.toList :: r.map (·.cps.toList)))
      rw [hl2, hh, List.cons_append]
  have e3 : Txt.split (Txt.strip x) nl = head :: fill :: Txt.split (toS rest) ⟨#[10]⟩ := by
    rw [e2, nl_one]
    refine split_of (by simp) ?_
    intro p hp
    rcases List.mem_cons.mp hp with rfl | hp
    · exact hn
    · rcases List.mem_cons.mp hp with rfl | hp
      · exact hf
      · exact split_free (toS rest) 10 p hp
  unfold splitF
  rw [e3]
  dsimp only
  rw [if_pos hr, nl_one]
  show (head, glued _ _) = _
  rw [glued_eq_join, join_split]
noncomputable def rdF (tot : Int) (rs : List Row) (b : List Nat) : Rd where
  n := rs.length
  T := fun i => toS (tailL tot rs b (rs.length - i) i ++ endL i)
  q := fun i => ⟨iL tot rs i, cL rs i, bL i ++ 10 :: (fL i ++ 10 :: tailL tot rs b (rs.length - (i + 1)) (i + 1)) ++ endL i⟩
  hd := headF rs
theorem rd_text (tot : Int) (rs : List Row) (b : List Nat) {i : Nat} (hi : i < rs.length) : (rdF tot rs b).T i = ((rdF tot rs b).q i).text := by
  show toS _ = toS _
  rw [show rs.length - i = (rs.length - (i + 1)) + 1 from (Nat.succ_pred_eq_of_pos (Nat.sub_pos_of_lt hi)).symm]
  show toS ((rowL tot rs i ++ _) ++ _) = toS (iL tot rs i ++ cL rs i :: ((bL i ++ 10 :: (fL i ++ 10 :: _)) ++ _))
  simp only [rowL, List.append_assoc, List.cons_append, List.nil_append]
theorem tabs_all : ∀ (p : Fin 40) (b : Bool), Txt.count (indP p.val b) (Str.ofString "\t") = (wsF (indP p.val b).cps.toList).2.2.2 := by decide +kernel
theorem endL_space (i : Nat) : ∀ c ∈ endL i, c = 32 ∨ c = 9 ∨ c = 10 := by
  intro c hc
  unfold endL at hc
  split at hc
  · simp at hc; exact hc.elim .inl fun h => .inr (.inr h)
  · exact nomatch hc
theorem rd_ok {tot : Int} {rs : List Row} (H : RowsFacts rs) (h0 : 0 ≤ tot) (h1 : tot < 10000000) (hn : 1 ≤ rs.length) (h8 : rs.length ≤ 8) {b : Str} {m : List Nat} (hb : ∀ c ∈ b.cps.toList, c < 128) (hbl : b.cps.toList.length ≤ 10) (hm : b.cps.toList = m ++ [122]) : RdOk tot rs b (rdF tot rs b.cps.toList) := by
  refine ⟨rfl, ?_, ?_, ⟨h8, fun i hi => rd_text tot rs _ hi, ?_, ?_, ?_, ?_, ?_, ?_⟩, fun k _ => rfl, fun k hk => abv_eq ?_ H hk⟩
  · apply str_list
    show (toS _).cps.toList = _
    rw [toS_list, app_list, app_list, ← page_tail tot rs b.cps.toList rs.length rs.length 0 (by omega)]
    rw [show (pageF tot rs 0).cps.toList = [] from rfl, show (Str.ofString " \n").cps.toList = [32, 10] from by decide +kernel]
    rfl
  · apply str_list
    show (toS (tailL tot rs _ (rs.length - rs.length) rs.length ++ endL rs.length)).cps.toList = _
    rw [toS_list, Nat.sub_self]
    unfold endL
    rw [if_neg (by omega), List.append_nil]
    rfl
  · intro i hi
    have a := iL_facts H h0 h1 i
    have c := cL_b H i
    refine ⟨by show (iL tot rs i).length ≤ 20; omega, a.1, by show cL rs i ≠ 32; omega, by show cL rs i ≠ 9; omega, ?_⟩
    intro x hx
    have : x ∈ ((rdF tot rs b.cps.toList).T i).cps.toList := by
      rw [rd_text tot rs _ hi]
      show x ∈ (toS _).cps.toList
      rw [toS_list]; exact hx
    have this : x ∈ (toS (tailL tot rs b.cps.toList (rs.length - i) i ++ endL i)).cps.toList := this
    rw [toS_list] at this
    rcases List.mem_append.mp this with hx | hx
    · exact (tailL_facts H h0 h1 hb hbl _ _).1 x hx
    · exact (endL_space i x hx).elim (fun h => h ▸ by decide) fun h => h.elim (fun h => h ▸ by decide) fun h => h ▸ by decide
  · intro i hi
    show (toS (tailL tot rs b.cps.toList (rs.length - i) i ++ endL i)).cps.size ≤ 1000
    rw [← Array.length_toList, toS_list, List.length_append]
    have := (tailL_facts H h0 h1 hb hbl (rs.length - i) i).2
    have he : (endL i).length ≤ 2 := by unfold endL; split <;> simp
    omega
  · intro i hi
    obtain ⟨m', hm'⟩ := tailL_last tot rs hm (rs.length - (i + 1)) (i + 1)
    have hmm : ∃ m', tailL tot rs b.cps.toList (rs.length - (i + 1)) (i + 1) ++ endL (i + 1) = m' ++ [122] := ⟨m', by rw [hm']; unfold endL; rw [if_neg (by omega), List.append_nil]⟩
    obtain ⟨m2, hm2⟩ := hmm
    have ff := fill_facts i
    have c := cL_b H i
    refine split_row (ws := iL tot rs i) (tail := endL i) (c := cL rs i) (hl := bL i) (fill := fillF i) (rest := tailL tot rs b.cps.toList (rs.length - (i + 1)) (i + 1) ++ endL (i + 1)) (head_list rs i) ?_ (fun x hx => space_of x ?_) (cL_plain H i) hm2 (fun x hx => space_of x (endL_space i x hx)) ?_ ?_ ff.1
    · rw [rd_text tot rs _ hi]
      show (toS _).cps.toList = _
      rw [toS_list]
      have : endL (i + 1) = [] := by unfold endL; rw [if_neg (by omega)]
      rw [this, List.append_nil]
      rfl
    · exact ((iL_facts H h0 h1 i).1 x hx).elim .inl fun h => .inr (.inl h)
    · show ¬ 10 ∈ (headF rs i).cps.toList
      rw [head_list]
      intro hx
      rcases List.mem_cons.mp hx with hx | hx
      · omega
      · rcases bL_in i with q | q <;> rw [q] at hx <;> simp at hx
    · intro hx
      have := ff.2.1 10 hx
      omega
  · intro i hi
    exact Nat.le_trans (head_len rs i) (by decide)
  · intro i hi
    have hw := (wsF_inv (iL tot rs i)).2.2.2.1
    have hT : ((rdF tot rs b.cps.toList).T i).cps.toList = iL tot rs i ++ ((headF rs i).cps.toList ++ (10 :: (fL i ++ 10 :: tailL tot rs b.cps.toList (rs.length - (i + 1)) (i + 1)) ++ endL i)) := by
      rw [rd_text tot rs _ hi]
      show (toS _).cps.toList = _
      rw [toS_list, head_list]
      show iL tot rs i ++ cL rs i :: ((bL i ++ 10 :: (fL i ++ 10 :: _)) ++ _) = _
      simp only [List.append_assoc, List.cons_append]
    show Txt.slice _ (some (wsF (iL tot rs i)).2.2.1) (some ((wsF (iL tot rs i)).2.2.1 + ((headF rs i).length : Int))) = headF rs i
    have hlen : (headF rs i).length = (headF rs i).cps.toList.length := (Array.length_toList ..).symm
    rw [hw, hlen]
    have := sliceText_plain (x := (rdF tot rs b.cps.toList).T i) (i := ((iL tot rs i).length : Int)) (j := ((iL tot rs i).length : Int) + ((headF rs i).cps.toList.length : Int)) ⟨by omega, by omega, by rw [hT]; simp only [List.length_append]; omega⟩
    refine Eq.trans this ?_
    apply str_list
    show ((List.drop _ _).take _) = _
    rw [hT, Int.toNat_natCast, List.drop_left, show ∀ a b : Int, a + b - a = b from fun a b => by rw [Int.add_comm, Int.add_sub_cancel], Int.toNat_natCast, List.take_left]
  · intro i hi
    have hw := (wsF_inv (iL tot rs i)).2.2.2.1
    have hT : ((rdF tot rs b.cps.toList).T i).cps.toList = iL tot rs i ++ ((headF rs i).cps.toList ++ (10 :: (fL i ++ 10 :: tailL tot rs b.cps.toList (rs.length - (i + 1)) (i + 1)) ++ endL i)) := by
      rw [rd_text tot rs _ hi]
      show (toS _).cps.toList = _
      rw [toS_list, head_list]
      show iL tot rs i ++ cL rs i :: ((bL i ++ 10 :: (fL i ++ 10 :: _)) ++ _) = _
      simp only [List.append_assoc, List.cons_append]
    show Txt.count (Txt.slice _ none (some (wsF (iL tot rs i)).2.2.1)) _ = (wsF (iL tot rs i)).2.2.2
    rw [hw]
    have hs : Txt.slice ((rdF tot rs b.cps.toList).T i) none (some ((iL tot rs i).length : Int)) = indF (tot, (rowAt rs i).1, (rowAt rs i).2.2.1) := by
      have := sliceText_to (x := (rdF tot rs b.cps.toList).T i) (j := ((iL tot rs i).length : Int)) ⟨by omega, by rw [hT]; simp only [List.length_append]; omega⟩
      refine Eq.trans this ?_
      apply str_list
      show ((List.drop _ _).take _) = _
      rw [hT, List.drop_zero, Int.sub_zero, Int.toNat_natCast, List.take_left]
      rfl
    rw [hs]
    obtain ⟨p, c, e⟩ := iL_place H h0 h1 i
    unfold iL
    rw [e]
    exact tabs_all p c
  · intro j k hj hk
    have hnm : ∀ i, nmF (rdF tot rs b.cps.toList) i = normP (placeF (tot, (rowAt rs i).1, (rowAt rs i).2.2.1)) (decide ((rowAt rs i).2.2.1 = 1)) := by
      intro i
      show ((wsF (iL tot rs i)).1, (wsF (iL tot rs i)).2.1) = _
      unfold iL
      rw [indF_P]
      rfl
    have hp : ∀ i, 0 ≤ placeF (tot, (rowAt rs i).1, (rowAt rs i).2.2.1) ∧ placeF (tot, (rowAt rs i).1, (rowAt rs i).2.2.1) < 40 := fun i => ⟨Int.fmod_nonneg_of_pos _ (by decide), Int.fmod_lt_of_pos _ (by decide)⟩
    have bj := rowAt_b H j
    have bk := rowAt_b H k
    rw [hnm, hnm, norm_iff (hp j) (hp k), place_inj ⟨bj.1, bj.2.1⟩ ⟨bk.1, bk.2.1⟩]
end Mine
end
-- EqOut
section
open PySem PySem.W PyProof.Rows
namespace Mine
theorem none_EqOut : True := by
  k_with_none
  w_top off
  trivial
open PySem.SeqAt
theorem out_tup {A : Around} {s : Shared} {h₀ : Heap} {L : Addr} {news : Led} (N : News h₀ L s.heap news) {D : Addr} {a : Int} {h : Str} {t1 t2 t3 : Tok} (m : (D, ({ cls := .type "tuple", data := .seq #[.int a t1, .str h t2, .str h t3, .bool true] } : Obj)) ∈ news) : s.heap.IsTuple D #[.int a t1, .str h t2, .str h t3, .bool true] := ⟨_, (N _ m).1, rfl, 0, rfl⟩
theorem eqAt_out {A : Around} {s : Shared} {h₀ : Heap} {L : Addr} {news : Led} (N : News h₀ L s.heap news) {v u : Value} {f : Int × Str} (h1 : OutIn news v f) (h2 : OutIn news u f) (hu : A.units < cLine) : EqAt A s v u true := by
  cases h1
  rename_i D a h t1 t2 t3 m1
  cases h2
  rename_i D' u1 u2 u3 m2
  by_cases e : D = D'
  · subst e
    exact EqAt.same _
  · refine EqAt.of_refs e ?_
    have := RcAt.tuples (A := A) (e := fun _ => true) (out_tup (A := A) N m1) (out_tup (A := A) N m2) hu (fun j h1 h2 => ?_)
    · exact this
    · have hj : j = 0 ∨ j = 1 ∨ j = 2 ∨ j = 3 := by
        have : j < 4 := h1
        omega
      rcases hj with rfl | rfl | rfl | rfl
      · have := EqAt.int_int (A := A.in1) (s := s) a t1 a u1
        rw [beq_self_eq_true] at this
        exact this
      · have := EqAt.str_str (A := A.in1) (s := s) h t2 h u2
        rw [beq_self_eq_true] at this
        exact this
      · have := EqAt.str_str (A := A.in1) (s := s) h t3 h u3
        rw [beq_self_eq_true] at this
        exact this
      · exact EqAt.bool_bool (A := A.in1) (s := s) true true
theorem ne_outs {prog : Program} {w : World} {A : Around} {E : Value → Shared → Prop} {s : Shared} {h₀ : Heap} {L l r : Addr} {news : Led} {us vs : List Value} {n k : Nat} {fs : List (Int × Str)} {Q : Value → Shared → Prop} (N : News h₀ L s.heap news) (ml : (l, listOf us.toArray n) ∈ news) (mr : (r, listOf vs.toArray k) ∈ news)
    (hus : All2 (OutIn news) us fs) (hvs : All2 (OutIn news) vs fs) (hu : A.units + 64 < cLine) (h : Q (.bool false) s) : wpAny (model prog w) A (compareOp .NotEq (.ref l) (.ref r)) Q E s := by
  have h1 : us.toArray.size = vs.toArray.size := by rw [List.size_toArray, List.size_toArray, hus.length, hvs.length]
  have := RcNeAt.lists (A := A) (e := fun _ => true) (isList_led N ml) (isList_led N mr) h1 (by omega) (fun j j1 j2 => ?_)
  · have e : (!(List.range us.toArray.size).all fun _ => true) = false := by simp
    rw [e] at this
    exact this prog w E Q h
  · obtain ⟨f, hf, hin⟩ := hus.get (k := j) (v := us.toArray[j]) (by simp)
    obtain ⟨f', hf', hin'⟩ := hvs.get (k := j) (v := vs.toArray[j]) (by simp)
    rw [hf] at hf'
    cases hf'
    exact eqAt_out N hin hin' (by rw [show A.in1.units = A.units + 1 from rfl]; omega)
end Mine
end
-- LawE
section
open PySem PySem.W PyProof.Rows
namespace Mine
theorem none_LawE : True := by
  k_with_none
  w_top off
  trivial
theorem news_drop {h₀ h : Heap} {L : Addr} {q1 q2 : Addr × Obj} {l : Led} (N : News h₀ L h (q1 :: q2 :: l)) : News h₀ L h (q1 :: l) := fun p hp => N p ((List.mem_cons.mp hp).elim (fun e => e ▸ .head _) fun h => .tail _ (.tail _ h))
theorem sum_bound {ns : List Int} (hb : ∀ x ∈ ns, 0 ≤ x ∧ x < 1000000) (h8 : ns.length ≤ 8) : 0 ≤ ns.sum ∧ ns.sum < 10000000 := by
  have key : ∀ l : List Int, (∀ x ∈ l, 0 ≤ x ∧ x < 1000000) → 0 ≤ l.sum ∧ l.sum ≤ 1000000 * (l.length : Int) := by
    intro l
    induction l with
    | nil => intro _; simp
    | cons a l ih =>
      intro h
      have h1 := h a (.head _)
      have h2 := ih fun x hx => h x (.tail _ hx)
      rw [List.sum_cons, List.length_cons]
      omega
  have := key ns hb
  omega
theorem int_back {prog : Program} {w : World} {A : Around} {E : Value → Shared → Prop} {s : Shared} {x : UInt64} {m n : Int} {u : Tok} {Q : Value → Shared → Prop} (hA : A.handled = none) (hb : BackOk x m n) (h : ∀ t k, Q (.int n t) { s with toks := k }) : wpAny (model prog w) A (call (.type "int") [.float (Float64.mul x (Float64.ofInt m)) u]) Q E s :=
  Flt.call_int_float3 hA (fun e => absurd e (by rw [hb.nan]; decide)) (fun e => absurd e (by rw [hb.inf]; decide)) fun _ => by rw [hb.val]; exact h _ _
theorem nz {a b : Nat} (h : @LT.lt Nat _ a b) : b ≠ 0 := Nat.ne_of_gt (Nat.lt_of_le_of_lt (Nat.zero_le _) h)
structure KeepMark : Prop where
/-- what the law keeps of its rows and of what is told -/
structure LawB (cK : Addr) (rs : List Row) (TA RA : Addr) (tv rv : List Value) (tn rn : Nat) (bs : Led) : Prop where
  ta : (TA, listOf tv.toArray tn) ∈ bs
  ra : (RA, listOf rv.toArray rn) ∈ bs
  lt : ∀ p ∈ bs, @LT.lt Nat _ cK p.1
  rows : All2 (RowIn bs) rv rs
  told : All2 (Tup3N bs) tv (toldF rs)
section
variable {cK : Addr} {rs : List Row} {TA RA : Addr} {tv rv : List Value} {tn rn : Nat} {bs : Led}
theorem LawB.add {q : Addr × Obj} (B : LawB cK rs TA RA tv rv tn rn bs) (h : @LT.lt Nat _ cK q.1) : LawB cK rs TA RA tv rv tn rn (q :: bs) :=
  ⟨.tail _ B.ta, .tail _ B.ra, all_cons h B.lt, B.rows.mono fun _ _ q => q.mono sub_tail_, B.told.mono fun _ _ q => q.mono sub_tail_⟩
where sub_tail_ {q : Addr × Obj} {l : Led} : ∀ p ∈ l, p ∈ q :: l := fun _ h => .tail _ h
theorem LawB.rlen (B : LawB cK rs TA RA tv rv tn rn bs) : rv.length = rs.length := B.rows.length
theorem LawB.tlen (B : LawB cK rs TA RA tv rv tn rn bs) : tv.length = rs.length := by rw [B.told.length]; unfold toldF; simp
theorem LawB.row (B : LawB cK rs TA RA tv rv tn rn bs) (H : RowsFacts rs) {k : Nat} (hk : k < rv.length) {G : Prop} (f : ∀ (D : Addr) (r1 r2 r3 r4 : Int) (t1 t2 t3 t4 : Tok), rv[k]? = some (.ref D) → rs[k]? = some (r1, r2, r3, r4) → rowAt rs k = (r1, r2, r3, r4) → tellAt rs k = (idiv (4 * k + r1) 32, idiv r2 16, 4607182418800017408) →
    0 ≤ r1 → r1 ≤ 3 → 1 ≤ r2 → r2 ≤ 15 → (D, ({ cls := .type "tuple", data := .seq #[.int r1 t1, .int r2 t2, .int r3 t3, .int r4 t4] } : Obj)) ∈ bs → G) : G := by
  obtain ⟨v, hv⟩ : ∃ v, rv[k]? = some v := ⟨_, List.getElem?_eq_getElem hk⟩
  obtain ⟨⟨r1, r2, r3, r4⟩, hrow, hin⟩ := B.rows.get hv
  cases hin
  rename_i D t1 t2 t3 t4 hm
  have hb := H.b _ (List.mem_of_getElem? hrow)
  exact f _ _ _ _ _ _ _ _ _ hv hrow (by unfold rowAt; rw [List.getD_eq_getElem?_getD, hrow]; rfl) (by unfold tellAt; rw [hrow]) hb.1 hb.2.1 hb.2.2.1 hb.2.2.2.1 hm
theorem LawB.tell (B : LawB cK rs TA RA tv rv tn rn bs) {k : Nat} {x : F3} (hk : k < rv.length) (e : tellAt rs k = x) {G : Prop} (f : ∀ (D : Addr) (t1 t2 t3 : Tok), tv[k]? = some (.ref D) → (D, tup3 x.1 x.2.1 x.2.2 t1 t2 t3) ∈ bs → G) : G := by
  have h1 := B.rlen
  have h2 := B.tlen
  obtain ⟨v, hv⟩ : ∃ v, tv[k]? = some v := ⟨_, List.getElem?_eq_getElem (by omega)⟩
  obtain ⟨a, ha, hin⟩ := B.told.get hv
  have : a = x := by
    rw [← e]
    unfold toldF at ha
    rw [List.getElem?_map, List.getElem?_range (by omega)] at ha
    exact (Option.some.inj ha).symm
  subst this
  cases hin
  rename_i D a b c t1 t2 t3 z1 z2 z3 hm
  exact f _ _ _ _ hv (by assumption)
end
theorem ListIn.use {α : Type} {R : Led → Value → α → Prop} {news : Led} {v : Value} {as : List α} (h : ListIn R news v as) {z : Value → Prop} (k : ∀ (D : Addr) (us : List Value) (n : Nat), (D, listOf us.toArray n) ∈ news → All2 (R news) us as → z (.ref D)) : z v := by
  cases h with | mk a b => exact k _ _ _ a b
theorem Tup3.use {news : Led} {v : Value} {a b c : UInt64} (h : Tup3 news v (a, b, c)) {z : Value → Prop} (k : ∀ (D : Addr) (t1 t2 t3 : Tok), (D, tup3 a b c t1 t2 t3) ∈ news → z (.ref D)) : z v := by
  cases h with | mk h => exact k _ _ _ _ h
theorem Tup3K.use {lo hi : Nat} {news : Led} {v : Value} {a b c : UInt64} (h : Tup3K lo hi news v (a, b, c)) {z : Value → Prop} (k : ∀ (D : Addr) (t1 t2 t3 : Tok), (D, tup3 a b c t1 t2 t3) ∈ news → t1 ≠ 0 → t2 ≠ 0 → t3 ≠ 0 → z (.ref D)) : z v := by
  cases h with | mk h y1 y2 y3 y4 y5 y6 => exact k _ _ _ _ h (nz y1) (nz y3) (nz y5)
theorem tok_gen {h₀ h : Heap} {L D : Addr} {a b c : UInt64} {t1 t2 t3 : Nat} {rest : Led} (N : News h₀ L h ((D, tup3 a b c (t1 + 1 : Nat) (t2 + 1 : Nat) (t3 + 1 : Nat)) :: rest)) {G : Prop} (k : ∀ t1 t2 t3 : Tok, t1 ≠ 0 → t2 ≠ 0 → t3 ≠ 0 → News h₀ L h ((D, tup3 a b c t1 t2 t3) :: rest) → G) : G := k _ _ _ (Nat.succ_ne_zero _) (Nat.succ_ne_zero _) (Nat.succ_ne_zero _) N
theorem ints_zero {vs : List Value} {ns : List Int} (h : IntsAre vs ns) {z : List Value → Prop} (h0 : z []) (h1 : 0 < (vs.length : Int) → 1 ≤ ns.length → z vs) : z vs := by
  cases h with
  | nil => exact h0
  | cons x t h => exact h1 (by simp) (by simp)
theorem rows_fl {rs : List Row} (H : RowsFacts rs) (h8 : rs.length ≤ 8) (i : Nat) (r : Row) (hr : rs[i]? = some r) : FlOk (4 * i + r.1) r.2.1 r.2.2.2 := by
  have hb := H.b r (List.mem_of_getElem? hr)
  have hi := (List.getElem?_eq_some_iff.mp hr).1
  exact fl_fact (by omega) (by omega) (by omega) (by omega) (by omega) (by omega)
theorem rows_told {rs : List Row} (H : RowsFacts rs) (h1 : 1 ≤ rs.length) (h8 : rs.length ≤ 8) : toldOk rs := ⟨h8, h1, hue_ok, fun r hr => have h := H.b r hr; ⟨h.1, h.2.1, h.2.2.1, h.2.2.2.1, h.2.2.2.2.2.2.1, h.2.2.2.2.2.2.2⟩, rows_fl H h8⟩
structure GreyF (tot : Int) (gg : UInt64) : Prop where
  ok : rgbOk (gg, gg, gg)
  val : rgbF (gg, gg, gg) = (0, gg, 0)
  self : fltSelf gg = true
  eq : gg = idiv (tot.fmod 9) 8
theorem grey_f (tot : Int) : GreyOk (tot.fmod 32) (tot.fmod 9) := grey_ok (Int.fmod_nonneg_of_pos _ (by decide)) (Int.fmod_lt_of_pos _ (by decide)) (Int.fmod_nonneg_of_pos _ (by decide)) (Int.fmod_lt_of_pos _ (by decide))
theorem grey_f2 (tot : Int) : GreyF tot (idiv (tot.fmod 9) 8) := ⟨(grey_f tot).ok2, (grey_f tot).val, (grey_f tot).sl, rfl⟩
theorem fmod4 {i : Nat} {r : Int} (h0 : 0 ≤ r) (h1 : r ≤ 3) : (4 * (i : Int) + r).fmod 4 = r := by
  rw [Int.fmod_eq_emod_of_nonneg _ (by decide)]; omega
theorem back1 {i : Nat} {r : Int} (hi : i < 8) (h0 : 0 ≤ r) (h1 : r ≤ 3) : BackOk (idiv (4 * (i : Int) + r) 32) 32 (4 * (i : Int) + r) := hue_back (by omega) (by omega)
theorem back2 {r : Int} (h0 : 1 ≤ r) (h1 : r ≤ 15) : BackOk (idiv r 16) 16 r := lit_back (by omega) (by omega)
/-- two texts put together, their lengths bounded -/
theorem str_add {prog : Program} {w : World} {A : Around} {E : Value → Shared → Prop} {s : Shared} {x y : Str} {t u : Tok} {Q : Value → Shared → Prop} {a b : Nat} (hx : x.length ≤ a) (hy : y.length ≤ b) (hs : a + b ≤ 1000) (h : ∀ t' k, (x ++ y).length ≤ a + b → Q (.str (x ++ y) t') { s with toks := k }) : wpAny (model prog w) A (binaryOp .Add (.str x t) (.str y u)) Q E s :=
  SBL.add (fun t' k g => h t' k (by omega)) (by rw [sizeLine_eq]; omega)
theorem page_len8 {rs : List Row} (h : RowsFacts rs) {tot : Int} (h0 : 0 ≤ tot) (h1 : tot < 10000000) {k : Nat} (hk : k ≤ 8) : (pageF tot rs k).length ≤ 136 := by
  have := page_len h h0 h1 k
  omega
theorem head_eq {rs : List Row} {i : Nat} {r1 r2 r3 r4 : Int} (h : rowAt rs i = (r1, r2, r3, r4)) : headF rs i = (⟨#[(96 + r2).toNat]⟩ : Str) ++ Txt.mul (Str.ofString " ") ((i : Int).fmod 2) := by unfold headF; rw [h]
theorem page_eq {tot : Int} {rs : List Row} {i : Nat} {r1 r2 r3 r4 : Int} (h : rowAt rs i = (r1, r2, r3, r4)) : pageF tot rs (i + 1) = ((((pageF tot rs i ++ indF (tot, r1, r3)) ++ ((⟨#[(96 + r2).toNat]⟩ : Str) ++ Txt.mul (Str.ofString " ") ((i : Int).fmod 2))) ++ Str.ofString "\n") ++ fillF i) ++ Str.ofString "\n" := by rw [pageF, head_eq h, h]
theorem body_rd {tot : Int} {rs : List Row} (H : RowsFacts rs) (h0 : 0 ≤ tot) (h1 : tot < 10000000) (hn : 1 ≤ rs.length) (h8 : rs.length ≤ 8) {bb : Str} (hb : bb = Str.ofString "z\n z" ∨ bb = Str.ofString "z") {G : Prop} (f : ∀ d, RdOk tot rs bb d → bb.length ≤ 4 → G) : G := by
  rcases hb with rfl | rfl
  · exact f _ (rd_ok H h0 h1 hn h8 (m := [122, 10, 32]) (by decide +kernel) (by decide +kernel) (by decide +kernel)) (by decide +kernel)
  · exact f _ (rd_ok H h0 h1 hn h8 (m := []) (by decide +kernel) (by decide +kernel) (by decide +kernel)) (by decide +kernel)
theorem body_two {bb : Str} (hb : bb = Str.ofString "z\n z" ∨ bb = Str.ofString "z") {z : Str → Prop} (h1 : z (Str.ofString "z\n z")) (h2 : z (Str.ofString "z")) : z bb := by
  rcases hb with rfl | rfl
  · exact h1
  · exact h2
theorem split_two1 : splitF ((Str.ofString "\t" ++ Str.ofString "z\n z") ++ Str.ofString " \n") = (Str.ofString "", Str.ofString "z\n z") := by decide +kernel
theorem split_two2 : splitF ((Str.ofString "\t" ++ Str.ofString "z") ++ Str.ofString " \n") = (Str.ofString "z", Str.ofString "") := by decide +kernel
theorem OutRd.use {news : Led} {v : Value} {d : Rd} (h : OutRd news v d) {z : Value → Prop} (k : ∀ (D L : Addr) (us : List Value) (c : Nat) (t1 : Tok), (D, ({ cls := .type "tuple", data := .seq #[.ref L, .str (d.T d.n) t1] } : Obj)) ∈ news → (L, listOf us.toArray c) ∈ news → All2 (OutIn news) us ((List.range d.n).map fun k => (abvF d k, d.hd k)) → z (.ref D)) : z v := by
  cases h with | mk a b c => exact k _ _ _ _ _ a b c
theorem due_len {news : Led} {us : List Value} {rs : List Row} {i : Nat} (h : All2 (OutIn news) us ((List.range i).map (dueF rs))) (hi : i < 8) : us.length < 1000 := by rw [h.length]; simp; omega
theorem rest_same {bb : Str} {P : Prop} (h : (bb != bb) = true) : P := by rw [bne_self_eq_false] at h; cases h
end Mine
end
-- LawF
section
open PySem PySem.W PyProof.Rows
namespace Mine
theorem none_LawF : True := by
  k_with_none
  w_top off
  trivial
local macro_rules | `(tactic| walk_at "subscriptTail ListComp Slice ref ref") => `(tactic| refine halt ?_)
local macro_rules | `(tactic| walk_at "subscriptTail") => `(tactic| ((with_reducible show wpAny _ _ (subscriptTail (PySem.Expr.ListComp _ _ _ _) _ _ _) _ _ _); refine halt ?_))
local macro_rules | `(tactic| walk_at "binaryOp Add str str") => `(tactic| (k_dflt (refine str_add (by assumption) (by assumption) (by decide) ?_); intro _ _ gz))
local macro_rules | `(tactic| walk_at "subscriptTail Tuple BinOp ref int") => `(tactic| refine halt ?_)
local macro_rules | `(tactic| walk_at "subscriptTail") => `(tactic| ((with_reducible show wpAny _ _ (subscriptTail (PySem.Expr.Tuple _ _ _) _ _ _) _ _ _); refine halt ?_))
local macro_rules | `(tactic| walk_at "execs cons") => `(tactic| (k_here; (rename KeepMark => hmk9); (fail_if_success (fail_if_success k_gentoks)); refine keep_toks ?_; intro tk htk; try dsimp only at htk))
local macro_rules | `(tactic| walk_at "compareOp NotEq ref ref") => `(tactic| refine halt ?_)
local macro_rules | `(tactic| walk_at "CompSrc") => `(tactic| refine halt ?_)
local macro_rules | `(tactic| walk_at "CompSrcT") => `(tactic| refine halt ?_)
local macro_rules | `(tactic| walk_at "eval ListComp") => `(tactic| refine halt ?_)
local macro_rules | `(tactic| k_room) => `(tactic| ktr_room)
set_option maxRecDepth 100000 in
set_option maxHeartbeats 8000000 in
theorem law_holds : PySem.Challenge.rw_pk0091_01.Holds := hd (by
  k_go0
  all_goals try k_fold
  rename_i w0 s0 s1 mg mb gG gY fa o pm doc ho hg KX gX gV gGL gT gB gTE gTW w11 w10 gM w9 w8 hcd w7 hs hlay0 hL1 hr1 hl2 w6 w5 w4 w3 w2 hL ra gw1 gr0 hI hr hcd1 hcd2 K0 hD9 h1 tk1 F0 oK oR dK dR N0 X0
  clear gV gB hr hD9 gX hr1 hl2 hlay0 gw1 gr0 ra hcd gM gTW gTE gGL
  rename World => w
  have km := kdMark
  obtain ⟨vK0, dK⟩ : ∃ v, oK.data = .cell v := ⟨_, dK⟩
  obtain ⟨vR0, dR⟩ : ∃ v, oR.data = .cell v := ⟨_, dR⟩
  clear X0
  k_steps
  k_with_none
  show wpAny _ _ _ _ _ _
  k_dflt (refine LCg.ListComp_U (F₀ := by k_asm) (by with_unfolding_all rfl) (by decide) (by rfl) (by decide) (by rfl) ?_)
  k_steps
  k_with_none
  show LCg.CompSrc _ _ _ _ _ _ _ _ _ _ _ _ _ _
  rename News _ _ _ _ => N1
  rename Fr _ _ _ _ => F1
  rename IntsAre _ _ => hI1
  have hl63 : ∀ l : List Int, (List.take 63 l).length ≤ 63 := fun l => List.length_take_le 63 l
  have hsl := hI1.length
  have hs63 := hl63 _ |> Nat.le_trans (Nat.le_of_eq hsl)
  clear hsl
  generalize List.take 63 _ = sc at hI1
  refine LCg.CompSrc.ledger rfl F1 N1 (.head _) (by rw [List.size_toArray, sizeLine_eq]; exact Nat.le_trans hs63 (by decide)) fun g9 => comp_rest (fun i ys nw => ∀ z : Led → Prop, (IntsAre ys ((sc.take i).map fun x : Int => x.fmod 1000000) → z _) → z nw) (fun z k => k .nil) ?_ ?_
  · intro i v I oI C oC D m₂ ys nw h tk E' hi hv hJ hC hx F N off ne
    revert N off
    apply hJ
    (try clear hJ); (try clear nw)
    intro hys N off
    rw [List.size_toArray, hI1.length] at hi
    revert hx
    apply ints_at hI1 hi hv
    intro t hx
    k_steps
    refine end_mk F N off (.inr ⟨_, .head _, rfl, _, rfl⟩) fun z k => k ?_
    rw [List.take_succ_eq_append_getElem hi, List.map_append]
    exact ints_snoc hys
  · intro ys nw hJ D h tk F N off
    revert N off
    apply hJ
    (try clear hJ); (try clear nw)
    intro hys N off
    rw [List.size_toArray, hI1.length, List.take_length] at hys
    have hyl := hys.length
    rw [List.length_map] at hyl
    have hul : ys.length < 1000 := by rw [hyl, ← hI1.length]; exact Nat.lt_of_le_of_lt hs63 (by decide)
    have N2 := N
    (try clear N); (try clear F1); (try clear N1)
    k_with "exec If" => refine halt ?_
    k_with "storeName" => refine halt ?_
    k_steps
    show wpAny _ _ _ _ _ _
    k_dflt (refine kba_turn (value' := PySem.Expr.Name (PySem.Str.ofString "_") ⟨0, 0, 0, 0⟩) (fun _ => rfl) ?_)
    k_dflt (refine' kms_slice_lit (its := List.toArray ys) (zs := ys.take 8) ?slF ?slN ?slL ?slP ?slQ ?slE ?_ ?slS ?slT ?slZ)
    case slF => k_asm
    case slN => k_asm
    case slL => exact isList_led (n := ys.length) (by k_asm) (List.Mem.head _)
    case slP => exact IsPart.none
    case slQ => exact IsPart.int _ _
    case slE => exact kms_upto ys 8
    case slS => with_unfolding_all rfl
    case slT => kmk_pure
    case slZ => rw [List.size_toArray, sizeLine_eq]; exact Nat.le_of_lt (Nat.lt_trans hul (by decide))
    intro D8 h8 F8 N8 l8
    refine fgt (fun z => ∀ h tk m (vs : List Value) (ns : List Int) (oK oR : Obj) (vK vR : Option Value), Fr s1.heap s1.heap.objs.size h m → News s1.heap s1.heap.objs.size h [(D8, listOf vs.toArray 0), (s1.heap.objs.size + 1 + 1, oK), (s1.heap.objs.size + 1, oR)] → IntsAre vs ns → ns.length ≤ 8 → (∀ x ∈ ns, 0 ≤ x ∧ x < 1000000) → oK.data = .cell vK → oR.data = .cell vR → z h tk)
      (fun z k => k _ _ _ (ys.take 8) _ oK oR _ _ F8 (news_sub N8 (sub_cons (.head _) (sub_tail (sub_tail (sub_tail sub_refl))))) (hys.take 8) (List.length_take_le 8 _) ?_ dK dR) ?_
    · intro x hx
      obtain ⟨y, _, rfl⟩ := List.mem_map.mp (List.mem_of_mem_take hx)
      exact ⟨Int.fmod_nonneg_of_pos _ (by decide), Int.fmod_lt_of_pos _ (by decide)⟩
    have hD8 : @LT.lt Nat _ (s1.heap.objs.size + 1 + 1) D8 := l8 (_, oK) (.tail _ (.tail _ (.head _)))
    (try clear F8); (try clear N8); (try clear hys); (try clear dK); (try clear dR); (try clear F); (try clear N2); (try clear off); (try clear l8)
    intro hA tkA mA vs ns oK oR vK vR FA NA hvs hnl hnb dK dR
    k_with_none
    k_with "exec If" => (refine halt ?_)
    k_steps
    k_with_none
    show wpAny _ _ _ _ _ _
    rename News _ _ _ _ => NA2
    rename Fr _ _ _ _ => FA2
    have hvl : vs.length = ns.length := hvs.length
    have hvl2 : vs.length < 1000 := hvl ▸ Nat.lt_of_le_of_lt hnl (by decide)
    refine cut (fun z => ∀ (D : Addr) (vs : List Value) (c : Nat) (ns : List Int) (oK oR : Obj) (vK vR : Option Value) (hI : Heap) (tkI : Nat) (mI : Str → Option Value), Fr s1.heap s1.heap.objs.size hI mI → News s1.heap s1.heap.objs.size hI [(D, listOf vs.toArray c), (s1.heap.objs.size + 1 + 1, oK), (s1.heap.objs.size + 1, oR)] →
      (@LT.lt Nat _ (s1.heap.objs.size + 1 + 1) D) → IntsAre vs ns → 1 ≤ ns.length → ns.length ≤ 8 → (∀ x ∈ ns, 0 ≤ x ∧ x < 1000000) → oK.data = .cell vK → oR.data = .cell vR → mI (Str.ofString "numbers") = some (.ref D) → z .next { s1 with heap := hI, toks := tkI }) ?_ ?_
    · intro zz hzz
      revert NA2
      apply ints_zero hvs
      · intro NA2
        k_steps
        rename News _ _ _ _ => NB
        rename Fr _ _ _ _ => FB
        rename _ ∧ _ ∧ _ => lB
        refine hzz _ [_, _, _, _, _, _] _ [63, 149, 390, 73, 125, 44] oK oR vK vR _ _ _ FB (news_drop NB) lB.2.1 ?_ (by decide) (by decide) (by decide) dK dR rfl
        repeat (first | exact IntsAre.nil | refine IntsAre.cons _ _ ?_)
      · intro hvz hn1 NA2
        k_with "call builtin:len" => (refine len_led (by k_asm) (List.Mem.head _) (by assumption) ?_)
        k_steps
        · exfalso
          omega
        · rename News _ _ _ _ => NB
          rename Fr _ _ _ _ => FB
          exact hzz D8 vs 0 ns oK oR vK vR _ _ _ FB NB hD8 hvs hn1 hnl hnb dK dR rfl
    · clear FA2 NA2 hvs hnl hnb dK dR hvl hvl2 hD8
      intro D us c ns oK oR vK vR hI tkI mI FI NI hD hus hn1 hn8 hnb dK dR e1
      have F2 := fr_see FI e1
      have hul : us.length = ns.length := hus.length
      have hn8' := Flt.Hid.mk hn8
      (try clear FI); (try clear e1)
      k_with "call ref" => (refine halt ?_)
      k_steps
      k_with_none
      show wpAny _ _ _ _ _ _
      k_dflt (refine tells2_use (rows_tells w (ExcName.means _) _ _ ns) (by k_asm) (by k_asm) (by k_asm) (by k_asm) (by k_asm) rfl (IntsArg.mk (.head _) hus) ⟨hn8, fun x hx => (hnb x hx).1, fun x hx => (hnb x hx).2⟩ (by ktr_room) (by ktr_units) ?_)
      intro rR tlR hR tkR FR NR hlR hoR
      refine gen3 (p1 := fun rs => ListIn RowIn tlR rR rs) (p2 := fun rs => RowsFacts rs) (p3 := fun rs => rs.length = ns.length) (rowsF ns) hoR (rows_facts ns) (rowsF_length ns) ?_
      clear hoR
      intro rs hoR hrf hrl
      apply ListIn.use hoR
      (try clear hoR); (try clear rR)
      intro RA rv rn hmR hallR
      have NR1 := news_cons NR (List.mem_append.mpr (.inr hmR)) (fun p hp => NR p (.tail _ hp))
      have hlR' : ∀ p ∈ tlR, (@LT.lt Nat _ (s1.heap.objs.size + 1 + 1) p.1) := hlR _ (.tail _ (.head _))
      have hoffR : OwnOff tlR [s1.heap.objs.size + 1 + 1, s1.heap.objs.size + 1] := off_cons (fun p hp => Nat.ne_of_gt (hlR' p hp)) (off_cons (fun p hp => Nat.ne_of_gt (Nat.lt_of_succ_lt (hlR' p hp))) off_nil)
      have hRA := hlR' _ hmR
      clear NR
      k_with "call ref" => (refine halt ?_)
      k_steps
      k_with_none
      show wpAny _ _ _ _ _ _
      rename News _ _ _ _ => NX
      rename Fr _ _ _ _ => FX
      rename _ = Data.cell (some _) => dR2
      rename_i hX oR2
      have hrlen : 1 ≤ rs.length ∧ rs.length ≤ 8 := by rw [hrl]; exact ⟨hn1, hn8⟩
      k_dflt (refine tells2_use (told_tells w (ExcName.means _) _ _ rs) (by k_asm) (by k_asm) (by k_asm) (by k_asm) (by k_asm) rfl (RowsArg.mk (ListIn.mk (.head _) (hallR.mono fun v a q => q.mono (sub_tail (sub_tail (sub_tail sub_refl)))))) (rows_told hrf hrlen.1 hrlen.2) (by ktr_room) (by ktr_units) ?_)
      intro rT tlT hT tkT FT NT hlT hoT
      apply ListIn.use hoT
      (try clear hoT); (try clear rT)
      intro TA tv tn hmT hallT
      refine gen2 (p1 := fun bs => News s1.heap s1.heap.objs.size hT ((s1.heap.objs.size + 1 + 1, oK) :: (s1.heap.objs.size + 1, oR2) :: bs)) (p2 := fun bs => LawB (s1.heap.objs.size + 1 + 1) rs TA RA tv rv tn rn bs) ((RA, listOf rv.toArray rn) :: (tlR ++ tlT)) (news_sub NT (sub_cons (.tail _ (.head _)) (sub_cons (.tail _ (.tail _ (.head _))) (sub_cons (.head _) (sub_app (sub_left (sub_tail (sub_tail (sub_tail sub_refl)))) (sub_right sub_refl))))))
        ⟨.tail _ (List.mem_append.mpr (.inr hmT)), .head _, all_cons hRA (all_app hlR' (hlT _ (.tail _ (.head _)))), hallR.mono fun v a q => q.mono (sub_tail (sub_left sub_refl)), hallT.mono fun v a q => q.mono (sub_tail (sub_right sub_refl))⟩ ?_
      intro bs NT1 B
      have hrvl : rv.length = rs.length := B.rlen
      have hrvl2 : rv.length < 1000 := hrvl ▸ Nat.lt_of_le_of_lt hrlen.2 (by decide)
      (try clear NT); (try clear NX); (try clear FX); (try clear NR1); (try clear hoffR); (try clear hlR'); (try clear hlR); (try clear hlT); (try clear hmR); (try clear hmT); (try clear hallR); (try clear hallT); (try clear FR)
      k_with "exec If" => (refine halt ?_)
      k_steps
      k_with_none
      show wpAny _ _ _ _ _ _
      rename Fr _ _ _ _ => FX
      rename News _ _ _ _ => NX
      rename_i hY tkY
      refine cut (fun z => ∀ (hI : Heap) (tkI : Nat) (mI : Str → Option Value) (tt : Tok), Fr s1.heap s1.heap.objs.size hI mI → News s1.heap s1.heap.objs.size hI ((s1.heap.objs.size + 1 + 1, oK) :: (s1.heap.objs.size + 1, oR2) :: bs) →
        mI (Str.ofString "told") = some (.ref TA) → mI (Str.ofString "total") = some (.int ns.sum tt) → z .next { s1 with heap := hI, toks := tkI }) ?_ ?_
      · intro zz hzz
        k_steps
        k_with_none
        show wpAny _ _ _ _ _ _
        k_dflt (refine LCg.ListComp_U (F₀ := by k_asm) (by with_unfolding_all rfl) (by decide) (by rfl) (by decide) (by rfl) ?_)
        k_with "call builtin:len" => (refine len_led (by k_asm) (List.Mem.tail _ (List.Mem.tail _ B.ra)) (by assumption) ?_)
        k_steps
        k_with_none
        show LCg.CompSrc _ _ _ _ _ _ _ _ _ _ _ _ _ _
        rename IsRange _ _ _ _ _ _ _ _ => hrS
        rename News _ _ _ _ => NS
        rename Fr _ _ _ _ => FS
        refine LCg.CompSrc.range rfl FS NS hrS (range_small hrvl2) (range_size _) (by rw [sizeLine_eq]; omega) fun g9 => comp_rest (fun i ys nw => ∀ z : Led → Prop, (∀ tl2 : Led, All2 (Tup3N tl2) ys ((List.range i).map (tellAt rs)) → z ((s1.heap.objs.size + 1 + 1, oK) :: (s1.heap.objs.size + 1, oR2) :: (bs ++ tl2))) → z nw)
          (fun z k => (List.append_nil bs) ▸ k [] .nil) ?_ ?_
        · clear hrS NS FS
          intro i v I oI C oC Dy m₂ ys nw h8 tk8 E' hi hv hJ hC hx F8 N8 off ne
          revert N8 off
          apply hJ
          (try clear hJ); (try clear nw)
          revert hx
          apply int_var hv
          (try clear hv); (try clear v)
          intro t8 hx tl2 hys N8 off
          k_fold
          apply B.row hrf hi
          intro Dr r1 r2 r3 r4 u1 u2 u3 u4 hvr hrow hrowat htell hb1 hb2 hb3 hb4 hmr
          have hfl9 := rows_fl hrf hrlen.2 i _ hrow
          have f1 := hfl9.i1
          have f3 := hfl9.i3
          dsimp only at f1 f3
          unfold idiv at f1 f3
          have N10 := news_cons N8 (.tail _ (.tail _ (.tail _ (.tail _ (.tail _ (List.mem_append.mpr (.inl hmr))))))) N8
          clear N8
          k_with "subscriptTail" => (k_dflt (refine item_at (us := rv) (n := rn) (by k_asm) (.tail _ (.tail _ (.tail _ (.tail _ (.tail _ (.tail _ (List.mem_append.mpr (.inl B.ra)))))))) hvr (by assumption) ?_))
          k_steps
          k_with_none
          rename Addr => Dn
          rename News _ _ _ _ => NB
          rename Fr _ _ _ _ => FB
          rename _ ∧ _ ∧ _ ∧ _ ∧ _ ∧ _ ∧ AllLt _ _ => lB
          rename_i hB9
          apply tok_gen (a := idiv (4 * i + r1) 32) (b := idiv r2 16) (c := 4607182418800017408) NB
          intro t1 t2 t3 z1 z2 z3 NB2
          refine end_mk (news' := (s1.heap.objs.size + 1 + 1, oK) :: (s1.heap.objs.size + 1, oR2) :: (bs ++ ((Dn, tup3 (idiv (4 * i + r1) 32) (idiv r2 16) 4607182418800017408 t1 t2 t3) :: tl2))) FB (news_sub NB2 ?_) (LCg.Off3.of ?_) trivial (fun z k => k _ ?_)
          · exact sub_cons (.tail _ (.tail _ (.head _))) (sub_cons (.tail _ (.tail _ (.tail _ (.head _)))) (sub_cons (.tail _ (.tail _ (.tail _ (.tail _ (.head _))))) (sub_cons (.tail _ (.tail _ (.tail _ (.tail _ (.tail _ (.head _)))))) (sub_cons (.tail _ (.tail _ (.tail _ (.tail _ (.tail _ (.tail _ (.head _))))))) (sub_app (sub_tail (sub_tail (sub_tail (sub_tail (sub_tail (sub_tail (sub_tail (sub_left sub_refl)))))))) (sub_cons (.head _) (sub_tail (sub_tail (sub_tail (sub_tail (sub_tail (sub_tail (sub_tail (sub_right sub_refl)))))))))))))) 
          · intro p hp
            exact (mem_ins [_, _] (b := bs) (t := tl2) (q := (Dn, tup3 (idiv (4 * i + r1) 32) (idiv r2 16) 4607182418800017408 t1 t2 t3)) hp).elim (fun e => e ▸ ⟨Nat.ne_of_gt lB.2.1, Nat.ne_of_gt lB.2.2.1, Nat.ne_of_gt lB.2.2.2.1⟩) (fun hp => off.mem p hp)
          · rw [List.range_succ, List.map_append]
            refine (hys.mono fun v a q => q.mono (sub_tail sub_refl)).snoc ?_
            rw [htell]
            exact .mk (.head _) z1 z2 z3
        · clear hrS NS FS
          intro ys nw hJ D9 h9 tk9 F9 N9 off9
          revert N9 off9
          apply hJ
          (try clear hJ); (try clear nw)
          intro tl2 hys N9 off9
          show wpAny _ _ _ _ _ _
          have hbk := booked (by assumption) F9
          rw [hrvl] at hys
          refine ne_tups N9 (n := tn) (k := ys.length) (.tail _ (.tail _ (.tail _ (List.mem_append.mpr (.inl B.ta))))) (.head _) (B.told.mono fun v a q => q.mono (sub_tail (sub_tail (sub_tail (sub_left sub_refl))))) (hys.mono fun v a q => q.mono (sub_tail (sub_tail (sub_tail (sub_right sub_refl))))) hbk (told_self hrf hrlen.2) (by ktr_units) ?_
          k_steps
          exact hzz _ _ _ _ F9 (news_sub N9 (sub_tail (sub_cons (.head _) (sub_tail (sub_cons (.head _) (sub_tail (sub_left sub_refl))))))) rfl rfl
      · intro hI tkI mI tt FI NI e1 e2
        have FI2 := fr_see2 FI e1 e2
        refine gen2 (p1 := fun tot => 0 ≤ tot ∧ tot < 10000000) (p2 := fun tot => Fr s1.heap s1.heap.objs.size hI (fun y => if y = Str.ofString "told" then some (.ref TA) else if y = Str.ofString "total" then some (.int tot tt) else mI y)) ns.sum (sum_bound hnb hn8) FI2 ?_
        (try clear FI2); (try clear FI); (try clear FX); (try clear NX); (try clear e1); (try clear e2)
        intro tot htot0 FI2
        have hg := grey_f tot
        have g1 := hg.i1
        have g2 := hg.i2
        unfold idiv at g1 g2
        k_with "call ref" => (refine halt ?_)
        k_steps
        k_with_none
        show wpAny _ _ _ _ _ _
        k_dflt (refine tells2_use (hsv_tells w (ExcName.means _) _ _ (idiv (tot.fmod 32) 32, 0, idiv (tot.fmod 9) 8)) (by k_asm) (by k_asm) (by k_asm) (by k_asm) (by k_asm) rfl Arg3.mk hg.ok1 (by ktr_room) (by ktr_units) ?_)
        intro rV tlV hV tkV FV NV hlV hoV
        have hoV2 : Tup3 tlV rV (idiv (tot.fmod 9) 8, idiv (tot.fmod 9) 8, idiv (tot.fmod 9) 8) := hg.hs ▸ hoV
        refine gen2 (p1 := fun gg => Tup3 tlV rV (gg, gg, gg)) (p2 := fun gg => GreyF tot gg) (idiv (tot.fmod 9) 8) hoV2 (grey_f2 tot) ?_
        (try clear hoV); (try clear hoV2)
        intro gg hoV G
        apply Tup3.use hoV
        (try clear hoV); (try clear rV)
        intro DV v1 v2 v3 hmV
        have NV1 := news_cons NV (List.mem_append.mpr (.inr hmV)) (news_left NV)
        clear NV
        k_with "call ref" => (refine halt ?_)
        k_steps
        k_with_none
        show wpAny _ _ _ _ _ _
        rename News _ _ _ _ => NG
        k_dflt (refine tells3_use (rgb_tells w (ExcName.means _) _ _ (gg, gg, gg)) (by k_asm) (by k_asm) (by k_asm) (by k_asm) (by k_asm) rfl Arg3.mk G.ok (by ktr_room) (by ktr_units) ?_)
        intro rG tlG hG tkG FG NG9 hlG htkG hoG
        have hoG2 : Tup3K _ _ tlG rG (rgbF (gg, gg, gg)) := hoG
        rw [G.val] at hoG2
        apply Tup3K.use hoG2
        (try clear hoG); (try clear hoG2); (try clear rG)
        intro DG w1 w2 w3 hmG y1 y2 y3
        refine gen3 (p1 := fun bs => News s1.heap s1.heap.objs.size hG ((s1.heap.objs.size + 1 + 1, oK) :: (s1.heap.objs.size + 1, oR2) :: bs)) (p2 := fun bs => LawB (s1.heap.objs.size + 1 + 1) rs TA RA tv rv tn rn bs) (p3 := fun bs => (DG, tup3 0 gg 0 w1 w2 w3) ∈ bs) ((DG, tup3 0 gg 0 w1 w2 w3) :: bs) (news_sub NG9 (sub_cons (.tail _ (.head _)) (sub_cons (.tail _ (.tail _ (.head _))) (sub_cons (List.mem_append.mpr (.inr hmG)) (sub_left (sub_tail (sub_tail (sub_tail sub_refl)))))))) (B.add (hlG _ (.tail _ (.head _)) _ hmG)) (.head _) ?_
        (try clear B); (try clear NG9); (try clear NG); (try clear NV1); (try clear NT1); (try clear NI); (try clear FV)
        intro bs NG1 B mDG
        have kmk := KeepMark.mk
        k_with "exec If" => (refine halt ?_)
        k_steps
        k_with_none
        rename KeepMark => kmk2
        clear kmk2
        show wpAny _ _ _ _ _ _
        rename News _ _ _ _ => NH
        rename _ ≤ _ => htkH
        rename Fr _ _ _ _ => FH
        rename_i hH tkH
        refine cut (fun z => ∀ (hI : Heap) (tkI : Nat) (mI : Str → Option Value) (tt : Tok), Fr s1.heap s1.heap.objs.size hI mI → News s1.heap s1.heap.objs.size hI ((s1.heap.objs.size + 1 + 1, oK) :: (s1.heap.objs.size + 1, oR2) :: bs) →
          mI (Str.ofString "told") = some (.ref TA) → mI (Str.ofString "total") = some (.int tot tt) → mI (Str.ofString "grey") = some (.ref DG) → z .next { s1 with heap := hI, toks := tkI }) ?_ ?_
        · intro zz hzz
          have mDG2 : (DG, tup3 0 (idiv (tot.fmod 9) 8) 0 w1 w2 w3) ∈ bs := G.eq ▸ mDG
          k_steps
          show wpAny _ _ _ _ _ _
          rename News _ _ _ _ => NJ
          rename Fr _ _ _ _ => FJ
          have hbk := booked (by assumption) FJ
          refine ne_tup NJ (.tail _ (.tail _ (.tail _ mDG2))) (.head _) y1 y2 y3 (Nat.ne_of_gt (Nat.lt_of_lt_of_le (Nat.succ_pos _) htkH)) (Nat.succ_ne_zero _) (Nat.succ_ne_zero _) hbk ⟨self0, hg.sl, self0⟩ (by ktr_units) ?_
          k_steps
          exact hzz _ _ _ _ FJ (fun p hp => NJ p (.tail _ hp)) rfl rfl rfl
        · clear NH FH htkH NG1
          intro hI tkI mI tt FI NI e1 e2 e3
          have FI2 := fr_see3 FI e1 e2 e3
          (try clear FI); (try clear e1); (try clear e2); (try clear e3)
          k_with "exec For Name Call cons nil" => (refine halt ?_)
          k_steps
          k_with_none
          show wpAny _ _ _ _ _ _
          rename Fr _ _ _ _ => FP
          rename News _ _ _ _ => NP
          rename _ ∧ _ ∧ AllLt _ _ => lP
          rename_i DD hP1 hP2
          k_dflt (refine for_cell (h₀ := s1.heap) (s1.heap.objs.size + 1 + 1) rfl rfl rfl ?_)
          k_with "call builtin:len" => (refine len_led (by k_asm) (List.Mem.tail _ (List.Mem.tail _ (List.Mem.tail _ B.ra))) (by assumption) ?_)
          k_steps
          k_with_none
          rename IsRange _ _ _ _ _ _ _ _ => hrS
          rename News _ _ _ _ => NS
          rename Fr _ _ _ _ => FS
          have hbD : ∀ p ∈ bs, @Ne Nat p.1 DD := fun p hp => Nat.ne_of_lt (ktn_ltOf lP.2.2 p hp)
          refine fun z k => k _ rv.length _ _ _ _ oK _ ((DD, listOf [].toArray 0) :: (s1.heap.objs.size + 1, oR2) :: bs)
            (lawJ DD (s1.heap.objs.size + 1 + 1) (s1.heap.objs.size + 1) oR2 bs tot rs TA DG) rfl hrS hrvl2 FS (news_sub NS ?_) dK ?_ (fun z k => (List.append_nil bs) ▸ k [] 0 [] _ _ all_nil .nil rfl rfl rfl rfl rfl) ?_ ?_
          · repeat (refine sub_cons (by k_mem) ?_)
            exact sub_tail (sub_tail (sub_tail sub_refl))
          · exact all_cons (Nat.ne_of_gt lP.1) (all_cons (Nat.ne_of_lt (Nat.lt_succ_self _)) fun p hp => Nat.ne_of_gt (B.lt p hp))
          · clear hrS NS FS hlV hlG hmV hmG y1 y2 y3 g1 g2 hg k z
            intro i tk0 m1 nx h8 tk8 I oI oc hi hJ hnx hIc hdc F8 N8
            revert hnx N8
            apply hJ
            (try clear hJ); (try clear nx)
            intro dus dn tl u1 u2 htl hdus e1 e2 e3 e4 e5 hnx N8
            k_fold
            have F9 := fr_see5 F8 e1 e2 e3 e4 e5
            (try clear F8); (try clear e1); (try clear e2); (try clear e3); (try clear e4); (try clear e5)
            apply B.row hrf hi
            intro Dr r1 r2 r3 r4 a1 a2 a3 a4 hvr hrow hrowat htell hb1 hb2 hb3 hb4 hmr
            apply B.tell hi htell
            intro DT x1 x2 x3 hvt hmt
            have hi8 : i < 8 := Nat.lt_of_lt_of_le hi (hrvl ▸ hrlen.2)
            have hbk1 := back1 hi8 hb1 hb2
            have hbk2 := back2 hb3 hb4
            have N10 := news_cons N8 (.tail _ (.tail _ (.tail _ (.tail _ (List.mem_append.mpr (.inl hmr)))))) (news_cons N8 (.tail _ (.tail _ (.tail _ (.tail _ (List.mem_append.mpr (.inl hmt)))))) N8)
            dsimp only at N10
            clear N8
            have htv2 : tv.length < 1000 := by rw [B.tlen, ← hrvl]; exact hrvl2
            have hi8' := Flt.Hid.mk hi8
            k_with "subscriptTail" => (first
              | (k_dflt (refine item_at (us := tv) (n := tn) (by k_asm) (.tail _ (.tail _ (.tail _ (.tail _ (.tail _ (.tail _ (List.mem_append.mpr (.inl B.ta)))))))) hvt (by assumption) ?_))
              | (k_dflt (refine item_at (us := rv) (n := rn) (by k_asm) (.tail _ (.tail _ (.tail _ (.tail _ (.tail _ (.tail _ (List.mem_append.mpr (.inl B.ra)))))))) hvr (by assumption) ?_)))
            have hz1 := mul_len i
            have hz2 : (⟨#[(96 + r2).toNat]⟩ : Str).length ≤ 1 := Nat.le_refl 1
            have hz3 := page_len8 hrf htot0.1 htot0.2 (Nat.le_of_lt hi8)
            have hz4 : (Str.ofString "\n").length ≤ 1 := Nat.le_refl 1
            have hz5 := rowAt_ok hrf htot0.1 htot0.2 i
            rw [hrowat] at hz5
            have hz6 := indF_len hz5
            k_with "call type:int" => (first | (k_dflt (refine int_back rfl hbk1 ?_); intro ti ki) | (k_dflt (refine int_back rfl hbk2 ?_); intro ti ki))
            k_with "call ref" => (refine halt ?_)
            k_steps
            k_with_none
            show wpAny _ _ _ _ _ _
            rename News _ _ _ _ => NI1
            k_dflt (refine tells2_use (ind_tells w (ExcName.means _) _ _ (tot, r1, r3)) (by k_asm) (by k_asm) (by k_asm) (by k_asm) (by k_asm) rfl (by rw [fmod4 hb1 hb2]; exact Arg3I.mk) hz5 (by ktr_room) (by ktr_units) ?_)
            intro rI tlI hI9 tkI9 FI9 NI9 hlI hoI
            apply str_use hoI
            (try clear hoI); (try clear rI)
            intro tS
            have NI2 := news_left NI9
            (try clear NI9); (try clear NI1)
            k_steps
            show wpAny _ _ _ _ _ _
            rename News _ _ _ _ => NM
            refine item_fill NM i ?_
            intro tq
            have hz7 := fill_len i
            have hhead := head_eq hrowat
            have hpage := page_eq (tot := tot) hrowat
            k_with "exec Assign cons BinOp" => (refine halt ?_)
            k_with "exec Assign" => (refine halt ?_)
            k_steps
            k_with_none
            show wpAny _ _ _ _ _ _
            rename News _ _ _ _ => NA1
            rename Fr _ _ _ _ => FA1
            refine fgt (fun z => ∀ h tk m th tp, Fr s1.heap s1.heap.objs.size h m → News s1.heap s1.heap.objs.size h ((Dr, ({ cls := .type "tuple", data := .seq #[.int r1 a1, .int r2 a2, .int r3 a3, .int r4 a4] } : Obj)) :: (I, oI) :: (s1.heap.objs.size + 1 + 1, oc) :: (DD, listOf dus.toArray dn) :: (s1.heap.objs.size + 1, oR2) :: (bs ++ tl)) → m (Str.ofString "told") = some (.ref TA) → m (Str.ofString "total") = some (.int tot u1) → m (Str.ofString "grey") = some (.ref DG) → m (Str.ofString "due") = some (.ref DD) → m (Str.ofString "page") = some (.str (pageF tot rs (i + 1)) tp) → m (Str.ofString "head") = some (.str (headF rs i) th) → z h tk)
              (fun z k => k _ _ _ _ _ FA1 (news_sub NA1 (sub_cons (.tail _ (.head _)) (sub_tail (sub_tail (sub_tail sub_refl))))) rfl rfl rfl rfl (by rw [hpage]; rfl) (by rw [hhead]; rfl)) ?_
            (try clear FA1); (try clear NA1); (try clear hhead); (try clear hpage); (try clear F9); (try clear hbk1); (try clear hbk2); (try clear hvt); (try clear hmt)
            intro hA2 tkA2 mA2 th tp FA2 NA2 e1 e2 e3 e4 e5 e6
            have FA3 := fr_see6 FA2 e1 e2 e3 e4 e5 e6
            (try clear FA2); (try clear e1); (try clear e2); (try clear e3); (try clear e4); (try clear e5); (try clear e6)
            k_steps
            show wpAny _ _ _ _ _ _
            k_dflt (refine LCt.ListComp_T (F₀ := by k_asm) (by with_unfolding_all rfl) (by decide) (by rfl) (by decide) (by rfl) ?_)
            k_steps
            show LCt.CompSrcT _ _ _ _ _ _ _ _ _ _ _ _ _ _ _
            rename IsRange _ _ _ _ _ _ _ _ => hrS2
            rename News _ _ _ _ => NS2
            rename Fr _ _ _ _ => FS2
            refine LCt.CompSrcT.range rfl FS2 NS2 hrS2 (range_small (Nat.lt_trans hi8 (by decide))) (range_size _) (by rw [sizeLine_eq]; omega) fun g9 => comp_restT (fun p ys nw => ∀ z : Led → Prop, (IntsAre ys (upF rs i p) → z _) → z nw) (fun z k => k .nil) ?_ ?_
            · clear hrS2 NS2 FS2
              intro p v I2 oI2 C2 oC2 Dy m₂ ys nw h9 tk9 E' hp hv hJ hC hx F9 N9 off ne
              revert N9 off
              apply hJ
              (try clear hJ); (try clear nw)
              revert hx
              apply int_var hv
              (try clear hv); (try clear v)
              intro t9 hx hys N9 off
              k_fold
              apply B.row hrf (k := p) (Nat.lt_trans hp hi)
              intro Dp p1 p2 p3 p4 b1 b2 b3 b4 hvp hprow hprowat _ _ _ _ _ hmp
              have N11 := news_cons N9 (.tail _ (.tail _ (.tail _ (.tail _ (.tail _ (.tail _ (.tail _ (.tail _ (.tail _ (List.mem_append.mpr (.inl hmp))))))))))) N9
              k_with "subscriptTail" => (k_dflt (first
                | refine item_at (us := rv) (n := rn) (by k_asm) (.tail _ (.tail _ (.tail _ (.tail _ (.tail _ (.tail _ (.tail _ (.tail _ (.tail _ (.tail _ (List.mem_append.mpr (.inl B.ra)))))))))))) hvp (by assumption) ?_
                | refine item_at (us := rv) (n := rn) (by k_asm) (.tail _ (.tail _ (.tail _ (.tail _ (.tail _ (.tail _ (.tail _ (.tail _ (.tail _ (.tail _ (List.mem_append.mpr (.inl B.ra)))))))))))) hvr (by assumption) ?_))
              k_steps
              all_goals first
                | (refine end_mk F9 N9 off trivial fun z k => k ?_
                   rw [upF_yes hprowat hrowat (by assumption)]
                   exact ints_snoc hys)
                | (refine end_mk F9 N9 off trivial fun z k => k ?_
                   rw [upF_no hprowat hrowat (by assumption)]
                   exact hys)
            · clear hrS2 NS2 FS2
              intro ys nw hJ D9 h9 tk9 F9 N9 off9
              revert N9 off9
              apply hJ
              (try clear hJ); (try clear nw)
              intro hys N9 off9
              show wpAny _ _ _ _ _ _
              have hul3 := upF_len rs i i
              have hyl : ys.length ≤ i := hys.length ▸ hul3
              refine add_two (us := [_]) (n := 0) (vs := ys) (k := ys.length) F9 N9 (.tail _ (.head _)) (.head _) (show (1 : Nat) < 1000 by decide) (Nat.lt_trans (Nat.lt_of_le_of_lt hyl hi8) (by decide)) ?_
              intro D10 h10 F10 N10 l10
              refine gen2 (p1 := fun ws : List Value => IntsAre ws ((-1) :: upF rs i i)) (p2 := fun ws : List Value => News s1.heap s1.heap.objs.size h10 ((D10, listOf ws.toArray 0) :: (I, oI) :: (s1.heap.objs.size + 1 + 1, oc) :: (DD, listOf dus.toArray dn) :: (s1.heap.objs.size + 1, oR2) :: (bs ++ tl))) _ (IntsAre.cons _ _ hys) (news_sub N10 (sub_cons (.head _) (sub_tail (sub_tail (sub_tail (sub_tail sub_refl)))))) ?_
              intro ws hws N12
              have hlast := ints_last hws (by simp)
              refine Exists.elim hlast ?_
              clear hlast
              intro tL hlast
              have hlast2 : ws.getLast? = some (.int (aboveF rs i) tL) := hlast
              have hwl : ws.length < 1000 := by rw [hws.length, List.length_cons]; exact Nat.lt_of_le_of_lt (Nat.succ_le_of_lt (Nat.lt_of_le_of_lt hul3 hi8)) (by decide)
              (try clear N9); (try clear N10); (try clear l10); (try clear F9); (try clear hws); (try clear hlast)
              k_with "subscriptTail" => (k_dflt (refine item_led_last (us := ws) (n := 0) (by k_asm) (by k_mem) (by assumption) (by assumption) ?_))
              k_with "call builtin:list.append" => (refine halt ?_)
              k_steps
              k_with_none
              show wpAny _ _ _ _ _ _
              rename News _ _ _ _ => NB
              rename Fr _ _ _ _ => FB
              rename _ ∧ _ ∧ _ ∧ _ ∧ _ ∧ AllLt _ _ => lB
              rename_i hA9 T4 hT4
              refine append_pre [_, _, _] FB (news_drop NB) (all_cons (Nat.ne_of_gt lB.2.2.2.1) (all_cons (Ne.symm (hnx (DD, _) (.head _)).2) (all_one (Nat.ne_of_lt lP.1)))) (all_cons (Nat.ne_of_lt lP.2.1) (all_app hbD fun p hp => (htl p hp).2)) (due_len hdus hi8) ?_
              intro hZ FZ NZ
              (try clear NB); (try clear FB)
              k_steps
              rename News _ _ _ _ => NC
              rename Fr _ _ _ _ => FC
              refine fun z k => k _ _ _ oc _ ((DD, listOf (dus ++ [Value.ref T4]).toArray (dn + 1)) :: (s1.heap.objs.size + 1, oR2) :: (bs ++ ((T4, ({ cls := .type "tuple", data := .seq #[.int (aboveF rs i) tL, .str (headF rs i) th, .str (headF rs i) th, .bool true] } : Obj)) :: tl))) FC (news_sub NC ?_) hdc ?_ (fun z k => k (dus ++ [Value.ref T4]) (dn + 1) ((T4, ({ cls := .type "tuple", data := .seq #[.int (aboveF rs i) tL, .str (headF rs i) th, .str (headF rs i) th, .bool true] } : Obj)) :: tl) _ _ ?_ ?_ rfl rfl rfl rfl rfl)
              · exact sub_cons (.tail _ (.tail _ (.head _))) (sub_cons (.tail _ (.tail _ (.tail _ (.head _)))) (sub_cons (.head _) (sub_cons (.tail _ (.tail _ (.tail _ (.tail _ (.head _))))) (sub_app (sub_tail (sub_tail (sub_tail (sub_tail (sub_tail (sub_left sub_refl)))))) (sub_cons (.tail _ (.head _)) (sub_tail (sub_tail (sub_tail (sub_tail (sub_tail (sub_right sub_refl)))))))))))
              · exact all_cons (hnx (DD, listOf dus.toArray dn) (.head _)) (all_cons (hnx _ (.tail _ (.head _))) (all_app (fun p hp => hnx p (.tail _ (.tail _ (List.mem_append.mpr (.inl hp))))) (all_cons ⟨Nat.ne_of_gt lB.2.2.1, Nat.ne_of_gt lB.2.1⟩ fun p hp => hnx p (.tail _ (.tail _ (List.mem_append.mpr (.inr hp)))))))
              · exact all_cons ⟨lB.2.2.1, Nat.ne_of_gt lB.2.2.2.1⟩ htl
              · rw [List.range_succ, List.map_append]
                exact (hdus.mono fun v a q => q.mono (sub_tail sub_refl)).snoc (.mk (.head _))
          · clear hrS NS FS k z
            intro m1 nx h8 tk8 oc vc hJ hdc hne F8 N8
            revert hne N8
            apply hJ
            (try clear hJ); (try clear nx)
            intro dus dn tl u1 u2 htl hdus e1 e2 e3 e4 e5 hne N8
            rw [hrvl] at hdus e5
            have F9 := fr_see5 F8 e1 e2 e3 e4 e5
            (try clear F8); (try clear e1); (try clear e2); (try clear e3); (try clear e4); (try clear e5)
            have N9 := news_cons N8 (.tail _ (.tail _ (.tail _ (List.mem_append.mpr (.inl mDG))))) N8
            clear N8
            k_with "exec Assign" => (refine halt ?_)
            k_steps
            k_with_none
            show wpAny _ _ _ _ _ _
            refine cut (fun z => ∀ (hI : Heap) (tkI : Nat) (mI : Str → Option Value) (bb : Str) (tb : Tok), Fr s1.heap s1.heap.objs.size hI mI → News s1.heap s1.heap.objs.size hI ((s1.heap.objs.size + 1 + 1, oc) :: (DD, listOf dus.toArray dn) :: (s1.heap.objs.size + 1, oR2) :: (bs ++ tl)) →
              (bb = Str.ofString "z\n z" ∨ bb = Str.ofString "z") → mI (Str.ofString "body") = some (.str bb tb) → mI (Str.ofString "due") = some (.ref DD) → mI (Str.ofString "page") = some (.str (pageF tot rs rs.length) u2) → z .next { s1 with heap := hI, toks := tkI }) ?_ ?_
            · intro zz hzz
              k_steps
              all_goals (rename News _ _ _ _ => NJ)
              all_goals (rename Fr _ _ _ _ => FJ)
              · exact hzz _ _ _ _ _ FJ (fun p hp => NJ p (.tail _ hp)) (.inl rfl) rfl rfl rfl
              · exact hzz _ _ _ _ _ FJ (fun p hp => NJ p (.tail _ hp)) (.inr rfl) rfl rfl rfl
            · clear F9 N9
              intro hI tkI mI bb tb FI NI hbb e1 e2 e3
              have FI2 := fr_see3 FI e1 e2 e3
              (try clear FI); (try clear e1); (try clear e2); (try clear e3)
              apply body_rd hrf htot0.1 htot0.2 hrlen.1 hrlen.2 hbb
              intro d hrd hb3
              have hz3 := page_len8 hrf htot0.1 htot0.2 hrlen.2
              have hz4 : (Str.ofString " \n").length ≤ 2 := Nat.le_refl 2
              have hz5 := hrlen.2
              k_with "call ref" => (refine halt ?_)
              k_with "call builtin:len" => (refine len_led (by k_asm) (.tail _ (.tail _ (.tail _ (List.mem_append.mpr (.inl B.ra))))) (by assumption) ?_)
              k_steps
              k_with_none
              show wpAny _ _ _ _ _ _
              rename News _ _ _ _ => NZ
              k_dflt (refine tells2_use (read_tells w (ExcName.means _) _ _ d) (by k_asm) (by k_asm) (by k_asm) (by k_asm) (by k_asm) rfl (by rw [← hrd.t0, hrvl, ← hrd.n]; exact ArgRd.mk) hrd.ok (by ktr_room) (by ktr_units) ?_)
              intro rD tlD hD tkD FD ND hlD hoD
              apply OutRd.use hoD
              (try clear hoD); (try clear rD)
              intro DO LO ous oc9 to mO mL hallO
              rw [hrd.tn] at mO
              rw [hrd.due] at hallO
              have NE := news_cons ND (List.mem_append.mpr (.inr mO)) (news_cons ND (List.mem_append.mpr (.inr mL)) (news_sub (l' := (DD, listOf dus.toArray dn) :: (tl ++ tlD)) ND (sub_cons (.tail _ (.head _)) (sub_app (sub_left (sub_tail (sub_tail (sub_tail (sub_right sub_refl))))) (sub_right sub_refl)))))
              (try clear ND); (try clear NZ)
              k_with "exec If" => (refine halt ?_)
              k_steps
              k_with_none
              show wpAny _ _ _ _ _ _
              rename News _ _ _ _ => NX
              rename Fr _ _ _ _ => FX
              refine fgt (fun z => ∀ h tk m tr tb2, Fr s1.heap s1.heap.objs.size h m → News s1.heap s1.heap.objs.size h ((LO, listOf ous.toArray oc9) :: (DD, listOf dus.toArray dn) :: (tl ++ tlD)) → m (Str.ofString "outline") = some (.ref LO) → m (Str.ofString "due") = some (.ref DD) → m (Str.ofString "rest") = some (.str bb tr) → m (Str.ofString "body") = some (.str bb tb2) → z h tk)
                (fun z k => k _ _ _ _ _ FX (fun p hp => NX p (.tail _ hp)) rfl rfl rfl rfl) ?_
              (try clear FX); (try clear NX); (try clear NE); (try clear FI2); (try clear NI); (try clear hlD); (try clear FD)
              intro hA2 tkA2 mA2 tr tb2 FA2 NA2 e1 e2 e3 e4
              have FA3 := fr_see4 FA2 e1 e2 e3 e4
              clear FA2
              refine cut (fun z => ∀ (hI : Heap) (tkI : Nat) (mI : Str → Option Value), Fr s1.heap s1.heap.objs.size hI mI → News s1.heap s1.heap.objs.size hI [] →
                mI (Str.ofString "rest") = some (.str bb tr) → mI (Str.ofString "body") = some (.str bb tb2) → z .next { s1 with heap := hI, toks := tkI }) ?_ ?_
              · intro zz hzz
                k_steps
                show wpAny _ _ _ _ _ _
                rename News _ _ _ _ => NX2
                refine ne_outs NX2 (.head _) (.tail _ (.head _)) (hallO.mono fun v a q => q.mono (sub_tail (sub_tail (sub_right sub_refl)))) (hdus.mono fun v a q => q.mono (sub_tail (sub_tail (sub_left sub_refl)))) (by ktr_units) ?_
                k_steps
                all_goals (rename (bb != bb) = _ => hq)
                all_goals first
                  | exact rest_same hq
                  | exact hzz _ _ _ FA3 (fun p hp => nomatch hp) rfl rfl
              · clear FA3 NA2 e1 e2 e3 e4
                intro hI tkI mI FI NI e1 e2
                have FI2 := fr_see2 FI e1 e2
                (try clear FI); (try clear e1); (try clear e2); (try clear hallO); (try clear hdus)
                have hz6 : (Str.ofString "\t").length ≤ 1 := Nat.le_refl 1
                k_with "call ref" => (refine halt ?_)
                k_steps
                k_with_none
                show wpAny _ _ _ _ _ _
                k_dflt (refine tells2_use (split_tells w (ExcName.means _) _ _ ((Str.ofString "\t" ++ bb) ++ Str.ofString " \n")) (by k_asm) (by k_asm) (by k_asm) (by k_asm) (by k_asm) rfl Arg1S.mk (Nat.le_trans (by assumption) (by decide)) (by ktr_room) (by ktr_units) ?_)
                intro rS tlS hS tkS FS NS hlS hoS
                dsimp only [splitT] at hoS
                rcases hbb with rfl | rfl
                · rw [split_two1] at hoS
                  apply Tup2S.use hoS
                  intro DS s1t s2t mS
                  have NS2 := news_cons NS (List.mem_append.mpr (.inr mS)) (fun p hp => nomatch hp : News _ _ _ [])
                  k_steps
                · rw [split_two2] at hoS
                  apply Tup2S.use hoS
                  intro DS s1t s2t mS
                  have NS2 := news_cons NS (List.mem_append.mpr (.inr mS)) (fun p hp => nomatch hp : News _ _ _ [])
                  k_steps)
end Mine
end
theorem PySem.Challenge.cw_pk0091_01_holds : PySem.Challenge.rw_pk0091_01.Holds :=
  Mine.law_holds
