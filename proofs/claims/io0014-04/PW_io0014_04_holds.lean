import PyProof.Rows.All
import Wide.All
import OpenK.AllK
import Wide.FinOn
import PySem.Challenge.RW_io0014_04
open PySem PySem.W PyProof.Rows
set_option Elab.async false
set_option linter.unusedVariables false
set_option maxRecDepth 100000
set_option maxHeartbeats 1000000
namespace Mine
open PySem PySem.W PySem.Calls PyProof.Rows
theorem lenS {α : Type} {n : Nat} {vs : List α} (h : vs.length = n + 1) : ∃ a t, vs = a :: t ∧ t.length = n := by
  cases vs with
  | nil => cases h
  | cons a t => exact ⟨a, t, rfl, Nat.succ.inj h⟩
theorem len1 {α : Type} {vs : List α} (h : vs.length = 1) : ∃ a, vs = [a] := by
  obtain ⟨a, t, rfl, k⟩ := lenS h
  obtain rfl := List.length_eq_zero_iff.mp k
  exact ⟨a, rfl⟩
theorem len2 {α : Type} {vs : List α} (h : vs.length = 2) : ∃ a b, vs = [a, b] := by
  obtain ⟨a, t, rfl, k⟩ := lenS h
  obtain ⟨b, rfl⟩ := len1 k
  exact ⟨a, b, rfl⟩
theorem len3 {α : Type} {vs : List α} (h : vs.length = 3) : ∃ a b c, vs = [a, b, c] := by
  obtain ⟨a, t, rfl, k⟩ := lenS h
  obtain ⟨b, c, rfl⟩ := len2 k
  exact ⟨a, b, c, rfl⟩
theorem len4 {α : Type} {vs : List α} (h : vs.length = 4) : ∃ a b c d, vs = [a, b, c, d] := by
  obtain ⟨a, t, rfl, k⟩ := lenS h
  obtain ⟨b, c, d, rfl⟩ := len3 k
  exact ⟨a, b, c, d, rfl⟩
theorem len5 {α : Type} {vs : List α} (h : vs.length = 5) : ∃ a b c d e, vs = [a, b, c, d, e] := by
  obtain ⟨a, t, rfl, k⟩ := lenS h
  obtain ⟨b, c, d, e, rfl⟩ := len4 k
  exact ⟨a, b, c, d, e, rfl⟩
/-- plain data; `ref`: an object of the call's own; `con`: a value that stands by itself -/
inductive D where
  | none
  | bool (b : Bool)
  | int (i : Int)
  | str (l : List Nat)
  | bytes (l : List Nat)
  | tup (ds : List D)
  | ref (a : Addr)
  | con (v : Value)
noncomputable abbrev Led := List (Addr × Obj)
noncomputable abbrev tupOf (vs : Array Value) (n : Nat) : Obj := { cls := .type "tuple", data := .seq vs n }
mutual
inductive RelD (N : Led) : Value → D → Prop
  | none : RelD N .none .none
  | bool (b : Bool) : RelD N (.bool b) (.bool b)
  | int (i : Int) (t : Tok) : RelD N (.int i t) (.int i)
  | str {x : Str} {t : Tok} {l : List Nat} : x.cps.toList = l → RelD N (.str x t) (.str l)
  | bytes {b : Array UInt8} {t : Tok} {l : List Nat} : b.toList.map UInt8.toNat = l → RelD N (.bytes b t) (.bytes l)
  | tup {a : Addr} {vs : List Value} {n : Nat} {ds : List D} : (a, tupOf vs.toArray n) ∈ N → RelAll N vs ds → RelD N (.ref a) (.tup ds)
  | ref (a : Addr) : RelD N (.ref a) (.ref a)
  | con (v : Value) : handedIn v = true → RelD N v (.con v)
inductive RelAll (N : Led) : List Value → List D → Prop
  | nil : RelAll N [] []
  | cons {v : Value} {vs : List Value} {d : D} {ds : List D} : RelD N v d → RelAll N vs ds → RelAll N (v :: vs) (d :: ds)
end
/-- every tuple of the one ledger stands in the other -/
noncomputable def Sub (N N' : Led) : Prop := ∀ a vs n, (a, tupOf vs n) ∈ N → (a, tupOf vs n) ∈ N'
theorem Sub.trans {N N' N'' : Led} (h : Sub N N') (h' : Sub N' N'') : Sub N N'' := fun a vs n k => h' a vs n (h a vs n k)
theorem Sub.cons (p : Addr × Obj) (N : Led) : Sub N (p :: N) := fun _ _ _ h => List.mem_cons_of_mem _ h
theorem RelD.mono {N N' : Led} (hs : Sub N N') {v : Value} {d : D} (h : RelD N v d) : RelD N' v d :=
  RelD.rec (motive_1 := fun v d _ => RelD N' v d) (motive_2 := fun vs ds _ => RelAll N' vs ds) .none .bool .int .str .bytes (fun h1 _ ih => .tup (hs _ _ _ h1) ih) .ref .con .nil (fun _ _ a b => .cons a b) h
theorem RelAll.mono {N N' : Led} (hs : Sub N N') {vs : List Value} {ds : List D} (h : RelAll N vs ds) : RelAll N' vs ds :=
  RelAll.rec (motive_1 := fun v d _ => RelD N' v d) (motive_2 := fun vs ds _ => RelAll N' vs ds) .none .bool .int .str .bytes (fun h1 _ ih => .tup (hs _ _ _ h1) ih) .ref .con .nil (fun _ _ a b => .cons a b) h
theorem RelD.handed {N : Led} {v : Value} {d : D} (h : RelD N v d) : handedIn v = true := by
  cases h <;> first | rfl | assumption
theorem RelAll.length {N : Led} {vs : List Value} {ds : List D} (h : RelAll N vs ds) : vs.length = ds.length := by
  induction ds generalizing vs with
  | nil => cases h; rfl
  | cons d ds ih => cases h with | cons _ r => simp [ih r]
theorem RelAll.append {N : Led} {vs ws : List Value} {ds es : List D} (h : RelAll N vs ds) (k : RelAll N ws es) : RelAll N (vs ++ ws) (ds ++ es) := by
  induction ds generalizing vs with
  | nil => cases h; exact k
  | cons d ds ih => cases h with | cons a r => exact .cons a (ih r)
theorem RelAll.get {N : Led} {vs : List Value} {ds : List D} (h : RelAll N vs ds) {k : Nat} {d : D} (hk : ds[k]? = some d) : ∃ v, vs[k]? = some v ∧ RelD N v d := by
  induction ds generalizing vs k with
  | nil => simp at hk
  | cons e ds ih =>
    cases h with
    | cons a r =>
      cases k with
      | zero => simp at hk; subst hk; exact ⟨_, rfl, a⟩
      | succ k => simpa using ih r (by simpa using hk)
theorem RelAll.take {N : Led} {vs : List Value} {ds : List D} (h : RelAll N vs ds) (k : Nat) : RelAll N (vs.take k) (ds.take k) := by
  induction ds generalizing vs k with
  | nil => cases h; simp; exact .nil
  | cons e ds ih =>
    cases h with
    | cons a r =>
      cases k with
      | zero => simp; exact .nil
      | succ k => simp; exact .cons a (ih r k)
theorem RelAll.drop {N : Led} {vs : List Value} {ds : List D} (h : RelAll N vs ds) (k : Nat) : RelAll N (vs.drop k) (ds.drop k) := by
  induction ds generalizing vs k with
  | nil => cases h; simp; exact .nil
  | cons e ds ih =>
    cases h with
    | cons a r =>
      cases k with
      | zero => simp; exact .cons a r
      | succ k => simp; exact ih r k
/-- .none: nothing is told of it -/
noncomputable def RelA (N : Led) (v : Value) (d : D) : Prop := d = .none ∨ RelD N v d
theorem RelA.mono {N N' : Led} (hs : Sub N N') {v : Value} {d : D} (h : RelA N v d) : RelA N' v d := h.imp id fun r => r.mono hs
/-- abstract objects -/
inductive O where
  | list (ds : List D)
  | inst (C dx : Addr)
  | flds (fs : List (Str × D))
  | exc (C dx : Addr) (a0 : D)
  | exn (C dx : Addr) (a0 : D)
  | cell (d : Option D)
  | obj (o : Obj)
noncomputable abbrev Sto := Addr → Option O
noncomputable abbrev Loc := Str → Option D
noncomputable def Sto.put (σ : Sto) (a : Addr) (o : O) : Sto := fun b => if b = a then some o else σ b
noncomputable def Loc.put (ρ : Loc) (x : Str) (d : D) : Loc := fun y => if y = x then some d else ρ y
@[simp] theorem Sto.put_same (σ : Sto) (a : Addr) (o : O) : σ.put a o a = some o := if_pos rfl
theorem Sto.put_ne (σ : Sto) {a b : Addr} (o : O) (h : b ≠ a) : σ.put a o b = σ b := if_neg h
theorem Sto.put_put (σ : Sto) (a : Addr) (o o' : O) : (σ.put a o).put a o' = σ.put a o' := by
  funext b; unfold Sto.put; split <;> rfl
inductive Entries (P : Params) (N : Led) : List DictEntry → List (Str × D) → Prop
  | nil : Entries P N [] []
  | cons {h : Int} {x : Str} {t : Tok} {v : Value} {d : D} {es : List DictEntry} {fs : List (Str × D)} : h = PyData.keyHash P x → RelD N v d → Entries P N es fs → Entries P N (⟨h, .str x t, v⟩ :: es) ((x, d) :: fs)
theorem Entries.mono {P : Params} {N N' : Led} (hs : Sub N N') {es : List DictEntry} {fs : List (Str × D)} (h : Entries P N es fs) : Entries P N' es fs := by
  induction h with
  | nil => exact .nil
  | cons a b _ ih => exact .cons a (b.mono hs) ih
inductive OptRel (N : Led) : Option Value → Option D → Prop
  | none (v : Option Value) : OptRel N v none
  | some {v : Value} {d : D} : RelD N v d → OptRel N (some v) (some d)
theorem OptRel.mono {N N' : Led} (hs : Sub N N') {v : Option Value} {d : Option D} (h : OptRel N v d) : OptRel N' v d := by
  cases h with
  | none => exact .none _
  | some r => exact .some (r.mono hs)
noncomputable def RealO (P : Params) (N : Led) (a : Addr) : O → Prop
  | .list ds => ∃ vs n, (a, listOf vs.toArray n) ∈ N ∧ RelAll N vs ds
  | .inst C dx => (a, instObj C dx) ∈ N
  | .flds fs => ∃ es n, (a, dictOf es n) ∈ N ∧ Entries P N es fs
  | .exc C dx a0 => ∃ vs sl v0, (a, (⟨.ref C, some dx, .fields vs, sl⟩ : Obj)) ∈ N ∧ 5 ≤ vs.size ∧ vs[0]? = some v0 ∧ RelA N v0 a0
  | .exn C dx a0 => ∃ vs sl v0, (a, (⟨.ref C, some dx, .fields vs, sl⟩ : Obj)) ∈ N ∧ 5 ≤ vs.size ∧ vs[0]? = some v0 ∧ vs[1]? = some .none ∧ RelA N v0 a0
  | .cell od => ∃ (o : Obj) (ov : Option Value), (a, o) ∈ N ∧ o.data = .cell ov ∧ OptRel N ov od
  | .obj o => (a, o) ∈ N
theorem RealO.mono {P : Params} {N N' : Led} {a : Addr} {o : O} (hs : Sub N N') (ha : ∀ x, (a, x) ∈ N → (a, x) ∈ N') (h : RealO P N a o) : RealO P N' a o := by
  cases o with
  | list ds => obtain ⟨vs, n, h1, h2⟩ := h; exact ⟨vs, n, ha _ h1, h2.mono hs⟩
  | inst C dx => exact ha _ h
  | flds fs => obtain ⟨es, n, h1, h2⟩ := h; exact ⟨es, n, ha _ h1, h2.mono hs⟩
  | exc C dx a0 => obtain ⟨vs, sl, v0, h1, h2, h3, h4⟩ := h; exact ⟨vs, sl, v0, ha _ h1, h2, h3, h4.mono hs⟩
  | exn C dx a0 => obtain ⟨vs, sl, v0, h1, h2, h3, h5, h4⟩ := h; exact ⟨vs, sl, v0, ha _ h1, h2, h3, h5, h4.mono hs⟩
  | cell od => obtain ⟨o, ov, h1, h3, h2⟩ := h; exact ⟨o, ov, ha _ h1, h3, h2.mono hs⟩
  | obj o => exact ha _ h
theorem RealO.in {P : Params} {N : Led} {a : Addr} {o : O} (h : RealO P N a o) : ∃ x, (a, x) ∈ N := by
  cases o with
  | list ds => obtain ⟨vs, n, h1, h2⟩ := h; exact ⟨_, h1⟩
  | inst C dx => exact ⟨_, h⟩
  | flds fs => obtain ⟨es, n, h1, h2⟩ := h; exact ⟨_, h1⟩
  | exc C dx a0 => obtain ⟨vs, sl, v0, h1, _⟩ := h; exact ⟨_, h1⟩
  | exn C dx a0 => obtain ⟨vs, sl, v0, h1, _⟩ := h; exact ⟨_, h1⟩
  | cell od => obtain ⟨o, ov, h1, h2⟩ := h; exact ⟨_, h1⟩
  | obj o => exact ⟨_, h⟩
structure Gl where
  prog : Program
  w : World
  K : Frag
  h₀ : Heap
  mg : Str → Option Value
  mb : Str → Option Value
  X : K.In h₀
  g : h₀.Ns mainGlobals mg
  b : h₀.Ns builtinsNs mb
  nolimit : h₀.NoLimit
  bi : ∀ x : Str, x ≠ "__name__" → mb x = bootBuiltins x
structure Cx where
  A : Around
  env : Env
  stk : List (Env × Loc)
/-- the frames below, each a dict of the ledger's -/
inductive Frames (lo : Nat) (N : Led) : Led → List (Env × Loc) → Prop
  | nil : Frames lo N [] []
  | cons {L : Addr} {o : Obj} {env : Env} {ρ : Loc} {FS : Led} {stk : List (Env × Loc)} : lo ≤ L → env.locals = L → env.frame = some L → env.scope.kind = .function →
      (∃ es ep, o.data = .dict es ep ∧ StrKeys es ∧ ∀ x d, ρ x = some d → ∃ v, nsFind es x = some v ∧ RelD N v d) → Frames lo N FS stk → Frames lo N ((L, o) :: FS) ((env, ρ) :: stk)
  /-- a pair that an iterator keeps for itself -/
  | hold {a : Addr} {x y : Value} {env : Env} {ρ : Loc} {FS : Led} {stk : List (Env × Loc)} : env.frame = none → env.locals = a → (∀ d, ρ "0" = some d → RelD N x d) → (∀ d, ρ "1" = some d → RelD N y d) →
      Frames lo N FS stk → Frames lo N ((a, tupOf #[x, y] 0) :: FS) ((env, ρ) :: stk)
theorem Frames.mono {lo : Nat} {N N' : Led} (hs : Sub N N') {FS : Led} {stk : List (Env × Loc)} (h : Frames lo N FS stk) : Frames lo N' FS stk := by
  induction h with
  | nil => exact .nil
  | cons z a b c d _ ih =>
    obtain ⟨es, ep, h1, h2, h3⟩ := d
    exact .cons z a b c ⟨es, ep, h1, h2, fun x d hd => let ⟨v, e, r⟩ := h3 x d hd; ⟨v, e, r.mono hs⟩⟩ ih
  | hold a b c d _ ih => exact .hold a b (fun x hx => (c x hx).mono hs) (fun x hx => (d x hx).mono hs) ih
noncomputable abbrev Pairs := List (Value × D)
structure StN (G : Gl) (c : Cx) (σ : Sto) (ρ : Loc) (Γ : Pairs) (h : Heap) (N FS : Led) (m : Str → Option Value) : Prop where
  fr : Fr G.h₀ c.env.locals h m
  nw : News G.h₀ c.env.locals h (N ++ FS)
  nd : ((N ++ FS).map (·.1)).Nodup
  lo : ∀ x d, ρ x = some d → ∃ v, m x = some v ∧ RelD N v d
  re : ∀ a o, σ a = some o → RealO G.w.params N a o
  sk : Frames G.h₀.objs.size N FS c.stk
  ga : ∀ p ∈ Γ, RelD N p.1 p.2
noncomputable def St (G : Gl) (c : Cx) (σ : Sto) (ρ : Loc) (Γ : Pairs) (h : Heap) : Prop := ∃ N FS m, StN G c σ ρ Γ h N FS m
section
variable {G : Gl} {c : Cx} {σ σ' : Sto} {ρ : Loc} {Γ Γ' : Pairs} {h h' : Heap} {N N' FS : Led} {m : Str → Option Value}
theorem StN.st (S : StN G c σ ρ Γ h N FS m) : St G c σ ρ Γ h := ⟨_, _, _, S⟩
theorem StN.weaken (S : StN G c σ ρ Γ h N FS m) (hs : ∀ p ∈ Γ', p ∈ Γ) : StN G c σ ρ Γ' h N FS m := { S with ga := fun p hp => S.ga p (hs p hp) }
theorem St.weaken (S : St G c σ ρ Γ h) (hs : ∀ p ∈ Γ', p ∈ Γ) : St G c σ ρ Γ' h := let ⟨N, FS, m, S⟩ := S; ⟨N, FS, m, S.weaken hs⟩
theorem St.tail {p : Value × D} (S : St G c σ ρ (p :: Γ) h) : St G c σ ρ Γ h := S.weaken fun _ hp => List.mem_cons_of_mem _ hp
theorem StN.lt (S : StN G c σ ρ Γ h N FS m) : ∀ p ∈ N ++ FS, p.1 < h.objs.size := fun p hp => Heap.lt_size (S.nw p hp).1
theorem StN.put (S : StN G c σ ρ Γ h N FS m) {v : Value} {d : D} (hr : RelD N v d) : StN G c σ ρ ((v, d) :: Γ) h N FS m :=
  { S with
    ga := by
      intro p hp
      rcases List.mem_cons.mp hp with rfl | hp
      · exact hr
      · exact S.ga p hp }
theorem St.put_plain (S : St G c σ ρ Γ h) {v : Value} {d : D} (hr : ∀ N, RelD N v d) : St G c σ ρ ((v, d) :: Γ) h := let ⟨N, FS, m, S⟩ := S; ⟨N, FS, m, S.put (hr N)⟩
/-- the store forgets -/
theorem StN.sub (S : StN G c σ ρ Γ h N FS m) (hs : ∀ a o, σ' a = some o → σ a = some o) : StN G c σ' ρ Γ h N FS m := { S with re := fun a o e => S.re a o (hs a o e) }
theorem St.sub (S : St G c σ ρ Γ h) (hs : ∀ a o, σ' a = some o → σ a = some o) : St G c σ' ρ Γ h := let ⟨N, FS, m, S⟩ := S; ⟨N, FS, m, S.sub hs⟩
/-- from one ledger to another -/
theorem StN.to (S : StN G c σ ρ Γ h N FS m) (F : Fr G.h₀ c.env.locals h' m) (W : News G.h₀ c.env.locals h' (N' ++ FS)) (nd : ((N' ++ FS).map (·.1)).Nodup) (hs : Sub N N')
    (re : ∀ a o, σ' a = some o → RealO G.w.params N' a o) : StN G c σ' ρ Γ h' N' FS m where
  fr := F
  nw := W
  nd := nd
  lo := fun x d e => let ⟨v, e', r⟩ := S.lo x d e; ⟨v, e', r.mono hs⟩
  re := re
  sk := S.sk.mono hs
  ga := fun p hp => (S.ga p hp).mono hs
/-- the heap moved, all that is told stands -/
theorem StN.move (S : StN G c σ ρ Γ h N FS m) (F : Fr G.h₀ c.env.locals h' m) (W : News G.h₀ c.env.locals h' (N ++ FS)) : StN G c σ ρ Γ h' N FS m :=
  { S with fr := F, nw := W }
theorem StN.alloc {a : Addr} {o : Obj} (S : StN G c σ ρ Γ h N FS m) (F : Fr G.h₀ c.env.locals h' m) (W : News G.h₀ c.env.locals h' ((a, o) :: (N ++ FS))) (hlt : ∀ p ∈ N ++ FS, p.1 < a) :
    StN G c σ ρ Γ h' ((a, o) :: N) FS m ∧ σ a = none := by
  refine ⟨S.to F W ?_ (Sub.cons _ _) fun b x e => (S.re b x e).mono (Sub.cons _ _) fun y hy => List.mem_cons_of_mem _ hy, ?_⟩
  · refine List.nodup_cons.mpr ⟨fun hm => ?_, S.nd⟩
    obtain ⟨p, hp, e⟩ := List.mem_map.mp hm
    have := hlt p hp
    rw [e] at this
    exact Nat.lt_irrefl _ this
  · cases e : σ a with
    | none => rfl
    | some x =>
      obtain ⟨y, hy⟩ := (S.re a x e).in
      exact absurd (hlt (a, y) (List.mem_append_left _ hy)) (Nat.lt_irrefl _)
theorem StN.putO {a : Addr} {o : O} (S : StN G c σ ρ Γ h N FS m) (hr : RealO G.w.params N a o) : StN G c (σ.put a o) ρ Γ h N FS m :=
  { S with
    re := by
      intro b x e
      unfold Sto.put at e
      split at e
      · rename_i q; subst q; cases e; exact hr
      · exact S.re b x e }
theorem upd_of {a : Addr} {o o' : Obj} (hm : (a, o) ∈ N) (nd : ((N ++ FS).map (·.1)).Nodup) :
    ∃ N', Upd a o o' (N ++ FS) (N' ++ FS) ∧ (a, o') ∈ N' ∧ (∀ b x, b ≠ a → (b, x) ∈ N → (b, x) ∈ N') ∧ N'.map (·.1) = N.map (·.1) := by
  induction N with
  | nil => cases hm
  | cons p N ih =>
    have nd' := List.nodup_cons.mp (by simpa using nd : (p.1 :: (N ++ FS).map (·.1)).Nodup)
    by_cases hp : p.1 = a
    · have hpo : p = (a, o) := by
        rcases List.mem_cons.mp hm with e | hm
        · exact e.symm
        · exact absurd (List.mem_map.mpr ⟨(a, o), List.mem_append_left _ hm, hp.symm⟩) nd'.1
      subst hpo
      refine ⟨(a, o') :: N, .head fun q hq e => nd'.1 ?_, .head _, fun b x hb hx => ?_, rfl⟩
      · exact List.mem_map.mpr ⟨q, hq, e⟩
      · rcases List.mem_cons.mp hx with e | hx
        · cases e; exact absurd rfl hb
        · exact .tail _ hx
    · have hm' : (a, o) ∈ N := by
        rcases List.mem_cons.mp hm with e | hm
        · exact absurd (by rw [← e]) hp
        · exact hm
      obtain ⟨N', u, h1, h2, h3⟩ := ih hm' (by simpa using nd'.2)
      refine ⟨p :: N', .tail hp u, .tail _ h1, fun b x hb hx => ?_, by simp [h3]⟩
      rcases List.mem_cons.mp hx with e | hx
      · rw [e]; exact .head _
      · exact .tail _ (h2 b x hb hx)
theorem mem_uniq {a : Addr} {o o' : Obj} (nd : (N.map (·.1)).Nodup) (h1 : (a, o) ∈ N) (h2 : (a, o') ∈ N) : o = o' := by
  induction N with
  | nil => cases h1
  | cons p N ih =>
    have nd' := List.nodup_cons.mp (by simpa using nd : (p.1 :: N.map (·.1)).Nodup)
    rcases List.mem_cons.mp h1 with e1 | k1 <;> rcases List.mem_cons.mp h2 with e2 | k2
    · rw [← e1] at e2; cases e2; rfl
    · exact absurd (List.mem_map.mpr ⟨_, k2, by rw [← e1]⟩) nd'.1
    · exact absurd (List.mem_map.mpr ⟨_, k1, by rw [← e2]⟩) nd'.1
    · exact ih nd'.2 k1 k2
theorem StN.nodup (S : StN G c σ ρ Γ h N FS m) : (N.map (·.1)).Nodup := by
  have := S.nd
  rw [List.map_append] at this
  exact (List.nodup_append.mp this).1
/-- an object that is no tuple changed -/
theorem StN.change {a : Addr} {o o' : Obj} (S : StN G c σ ρ Γ h N FS m) (hm : (a, o) ∈ N) (ho : ∀ vs n, o ≠ tupOf vs n) : ∃ N', Upd a o o' (N ++ FS) (N' ++ FS) ∧ (a, o') ∈ N' ∧ Sub N N' ∧
    (∀ b x, b ≠ a → (b, x) ∈ N → (b, x) ∈ N') ∧
    (∀ h', Fr G.h₀ c.env.locals h' m → News G.h₀ c.env.locals h' (N' ++ FS) → ∀ x : O, RealO G.w.params N' a x → StN G c (σ.put a x) ρ Γ h' N' FS m) := by
  obtain ⟨N', u, h1, h2, h3⟩ := upd_of (o' := o') hm S.nd
  have hs : Sub N N' := fun b vs n hb => by
    by_cases e : b = a
    · subst e; exact absurd (mem_uniq S.nodup hm hb) (ho _ _)
    · exact h2 b _ e hb
  refine ⟨N', u, h1, hs, h2, fun h' F W x hx => S.to F W (by rw [List.map_append, h3, ← List.map_append]; exact S.nd) hs fun b y e => ?_⟩
  unfold Sto.put at e
  split at e
  · rename_i q; subst q; cases e; exact hx
  · rename_i q; exact (S.re b y e).mono hs fun z hz => h2 b z q hz
end
end Mine
set_option maxHeartbeats 1000000
namespace Mine
open PySem PySem.W PySem.Calls PyProof.Rows
structure Ex where
  cls : Value
  dict : Option Addr
  a0 : D
  ctx : Value
inductive Tb where
  | new | fly | held
noncomputable def Off (G : Gl) (L : Addr) (NF : Led) (a : Addr) : Prop := G.h₀.get? a = none ∧ a ≠ L ∧ a ∉ NF.map (·.1)
theorem Off.eq {G : Gl} {L : Addr} {NF NF' : Led} {a : Addr} (h : Off G L NF a) (e : NF'.map (·.1) = NF.map (·.1)) : Off G L NF' a := ⟨h.1, h.2.1, by rw [e]; exact h.2.2⟩
noncomputable def TbAt (G : Gl) (L : Addr) (h : Heap) (NF : Led) (e : Addr) (vs : Array Value) : Tb → Prop
  | .new => vs[1]? = some .none
  | .fly => ∃ T oT ts, vs[1]? = some (.ref T) ∧ Off G L NF T ∧ T ≠ e ∧ h.get? T = some oT ∧ oT.data = .fields ts ∧ ts[3]? = some .none
  | .held => ∃ T oT ts, vs[1]? = some (.ref T) ∧ Off G L NF T ∧ T ≠ e ∧ h.get? T = some oT ∧ oT.data = .fields ts ∧ ts[3]? = some (rawInt L)
noncomputable def ExcAt (G : Gl) (L : Addr) (h : Heap) (N NF : Led) (e : Addr) (x : Ex) (tb : Tb) : Prop :=
  Off G L NF e ∧ ∃ oe vs v0, h.get? e = some oe ∧ oe.cls = x.cls ∧ oe.dict = x.dict ∧ oe.data = .fields vs ∧ 5 ≤ vs.size ∧ (vs[0]? = some v0 ∧ vs[2]? = some x.ctx) ∧ RelA N v0 x.a0 ∧ TbAt G L h NF e vs tb
noncomputable def StX (G : Gl) (c : Cx) (σ : Sto) (ρ : Loc) (Γ : Pairs) (e : Addr) (x : Ex) (tb : Tb) (h : Heap) : Prop :=
  ∃ N FS m, StN G c σ ρ Γ h N FS m ∧ ExcAt G c.env.locals h N (N ++ FS) e x tb
/-- the code of a def of the text -/
structure Cx.Fn (c : Cx) : Prop where
  frames : c.A.frames = some (c.env :: c.stk.map (·.1))
  frame : c.env.frame = some c.env.locals
  kind : c.env.scope.kind = .function
  real : ∀ p ∈ c.stk, p.1.frame ≠ none
structure Cx.Fk (c : Cx) : Prop where
  frame : c.env.frame = some c.env.locals
  kind : c.env.scope.kind = .function
theorem Cx.Fn.fk {c : Cx} (F : c.Fn) : c.Fk := ⟨F.frame, F.kind⟩
theorem Cx.Fn.realc {c : Cx} {ρ : Loc} (F : c.Fn) : ∀ p ∈ (c.env, ρ) :: c.stk, p.1.frame ≠ none := fun p hp => by
  rcases List.mem_cons.mp hp with rfl | hp
  · show c.env.frame ≠ none
    rw [F.frame]; simp
  · exact F.real p hp
section
variable {G : Gl} {c : Cx} {σ : Sto} {ρ : Loc} {Γ Γ' : Pairs} {h h' : Heap} {N FS : Led} {m : Str → Option Value}
theorem StX.weaken {e : Addr} {x : Ex} {tb : Tb} (S : StX G c σ ρ Γ e x tb h) (hs : ∀ p ∈ Γ', p ∈ Γ) : StX G c σ ρ Γ' e x tb h :=
  let ⟨N, FS, m, S, X⟩ := S; ⟨N, FS, m, S.weaken hs, X⟩
theorem StX.tail {p : Value × D} {e : Addr} {x : Ex} {tb : Tb} (S : StX G c σ ρ (p :: Γ) e x tb h) : StX G c σ ρ Γ e x tb h := S.weaken fun _ hp => List.mem_cons_of_mem _ hp
theorem StX.st {e : Addr} {x : Ex} {tb : Tb} (S : StX G c σ ρ Γ e x tb h) : St G c σ ρ Γ h := let ⟨_, _, _, S, _⟩ := S; S.st
theorem StN.off (S : StN G c σ ρ Γ h N FS m) (hk : ∀ b o, ¬ Off G c.env.locals (N ++ FS) b → h.get? b = some o → h'.get? b = some o) : StN G c σ ρ Γ h' N FS m := by
  refine S.move ⟨?_, fun b o e => hk b o (fun q => by rw [q.1] at e; cases e) (S.fr.keep b o e), S.fr.above⟩ fun p hp => ⟨hk _ _ (fun q => q.2.2 (List.mem_map.mpr ⟨p, hp, rfl⟩)) (S.nw p hp).1, (S.nw p hp).2⟩
  obtain ⟨o, es, ep, ho, r⟩ := S.fr.ns
  exact ⟨o, es, ep, hk _ _ (fun q => q.2.1 rfl) ho, r⟩
theorem StN.fresh (S : StN G c σ ρ Γ h N FS m) {a : Addr} (ha : h.get? a = none) : Off G c.env.locals (N ++ FS) a := by
  refine ⟨?_, fun e => ?_, fun hm => ?_⟩
  · cases q : G.h₀.get? a with
    | none => rfl
    | some o => have := S.fr.keep a o q; rw [ha] at this; cases this
  · obtain ⟨o, _, _, ho, _⟩ := S.fr.ns
    rw [← e, ha] at ho; cases ho
  · obtain ⟨p, hp, e⟩ := List.mem_map.mp hm
    have := (S.nw p hp).1
    rw [e, ha] at this; cases this
theorem StN.pushOff (S : StN G c σ ρ Γ h N FS m) (o : Obj) : StN G c σ ρ Γ (h.push o) N FS m := S.off fun _ _ _ e => Heap.get?_push_of_some _ e
theorem StN.updOff (S : StN G c σ ρ Γ h N FS m) {a : Addr} (ha : Off G c.env.locals (N ++ FS) a) (f : Obj → Obj) : StN G c σ ρ Γ (h.update a f) N FS m :=
  S.off fun b o hb e => (Heap.get?_update_other h f fun (q : a = b) => hb (by rw [← q]; exact ha)).trans e
theorem frames_fun {lo : Nat} {base : Heap} {L : Addr} {FS : Led} {stk : List (Env × Loc)} (F : Frames lo N FS stk) (hr : ∀ p ∈ stk, p.1.frame ≠ none) (hp : ∀ p ∈ FS, h.get? p.1 = some p.2 ∧ p.1 ≠ L ∧ base.get? p.1 = none) : h.FunFrames base (stk.map (·.1)) := by
  induction F with
  | nil => trivial
  | hold e0 _ _ _ _ ih => exact absurd e0 (hr _ (.head _))
  | cons e0 e1 e2 e3 d r ih =>
    obtain ⟨es, ep, h1, h2, h3⟩ := d
    obtain ⟨q1, q2, q3⟩ := hp _ (.head _)
    exact .cons (by rw [e3]; decide) e2 (⟨_, es, ep, q1, h1, h2, fun _ => rfl⟩ : h.Ns _ (fun x => nsFind es x)) q3 (ih (fun p hm => hr p (.tail _ hm)) fun p hm => hp p (.tail _ hm))
theorem StN.funFrames (S : StN G c σ ρ Γ h N FS m) (F : c.Fn) : h.FunFrames G.h₀ (c.env :: c.stk.map (·.1)) :=
  .cons (by rw [F.kind]; decide) F.frame S.fr.ns (Heap.get?_none_of_le S.fr.above) (frames_fun S.sk F.real fun p hp => S.nw p (List.mem_append_right _ hp))
theorem frames_addrs {lo : Nat} {FS : Led} {stk : List (Env × Loc)} (F : Frames lo N FS stk) (hr : ∀ p ∈ stk, p.1.frame ≠ none) : (stk.map (·.1)).filterMap (·.frame) = FS.map (·.1) := by
  induction F with
  | nil => rfl
  | hold e0 _ _ _ _ ih => exact absurd e0 (hr _ (.head _))
  | cons e0 e1 e2 e3 d r ih => simp only [List.map_cons, List.filterMap_cons, e2, ih fun p hm => hr p (.tail _ hm)]
theorem frames_slots {lo : Nat} {FS : Led} {stk : List (Env × Loc)} (F : Frames lo N FS stk) (hr : ∀ p ∈ stk, p.1.frame ≠ none) (hp : ∀ p ∈ FS, ∃ sl, h'.get? p.1 = some { p.2 with slots := sl }) :
    ∃ FS', Frames lo N FS' stk ∧ FS'.map (·.1) = FS.map (·.1) ∧ ∀ p ∈ FS', h'.get? p.1 = some p.2 := by
  induction F with
  | nil => exact ⟨[], .nil, rfl, fun _ q => nomatch q⟩
  | hold e0 _ _ _ _ ih => exact absurd e0 (hr _ (.head _))
  | @cons L o env ρ FS stk e0 e1 e2 e3 d r ih =>
    obtain ⟨FS', h1, h2, h3⟩ := ih (fun p hm => hr p (.tail _ hm)) fun p hm => hp p (.tail _ hm)
    obtain ⟨sl, hs⟩ := hp _ (.head _)
    refine ⟨(L, { o with slots := sl }) :: FS', .cons e0 e1 e2 e3 d h1, by simp [h2], fun p hm => ?_⟩
    rcases List.mem_cons.mp hm with rfl | hm
    · exact hs
    · exact h3 p hm
theorem StN.slots (S : StN G c σ ρ Γ h N FS m) (F : c.Fn) (hs : Heap.SlotsOnly ((c.env :: c.stk.map (·.1)).filterMap (·.frame)) h h') :
    ∃ FS', StN G c σ ρ Γ h' N FS' m ∧ FS'.map (·.1) = FS.map (·.1) := by
  obtain ⟨_, h1, h2⟩ := hs
  have hS : (c.env :: c.stk.map (·.1)).filterMap (·.frame) = c.env.locals :: FS.map (·.1) := by
    simp only [List.filterMap_cons, F.frame, frames_addrs S.sk F.real]
  rw [hS] at h1
  obtain ⟨FS', f1, f2, f3⟩ := frames_slots (h' := h') S.sk F.real fun p hp => h2 _ _ (S.nw p (List.mem_append_right _ hp)).1
  refine ⟨FS', ?_, f2⟩
  have nd := S.nd
  rw [List.map_append] at nd
  have nd3 := (List.nodup_append.mp nd).2.2
  refine { S with fr := ⟨?_, fun b o e => ?_, S.fr.above⟩, nw := ?_, nd := ?_, sk := f1 }
  · obtain ⟨o, es, ep, ho, r⟩ := S.fr.ns
    obtain ⟨sl, q⟩ := h2 _ _ ho
    exact ⟨_, es, ep, q, r⟩
  · rw [h1 b fun hm => ?_]
    · exact S.fr.keep b o e
    · rcases List.mem_cons.mp hm with q | hm
      · rw [q, Heap.get?_none_of_le S.fr.above] at e; cases e
      · obtain ⟨p, hp, q⟩ := List.mem_map.mp hm
        rw [← q, (S.nw p (List.mem_append_right _ hp)).2.2] at e; cases e
  · intro p hp
    rcases List.mem_append.mp hp with hp | hp
    · obtain ⟨q1, q2, q3⟩ := S.nw p (List.mem_append_left _ hp)
      refine ⟨(h1 _ fun hm => ?_).trans q1, q2, q3⟩
      rcases List.mem_cons.mp hm with q | hm
      · exact q2 q
      · exact nd3 _ (List.mem_map.mpr ⟨p, hp, rfl⟩) _ hm rfl
    · have hm : p.1 ∈ FS.map (·.1) := f2 ▸ List.mem_map.mpr ⟨p, hp, rfl⟩
      obtain ⟨p', hp', q⟩ := List.mem_map.mp hm
      have := S.nw p' (List.mem_append_right _ hp')
      exact ⟨f3 p hp, q ▸ this.2.1, q ▸ this.2.2⟩
  · rw [List.map_append, f2, ← List.map_append]; exact S.nd
section
variable {e : Addr} {x : Ex} {Q : Unit → Shared → Prop} {E : Value → Shared → Prop} {s : Shared}
/-- a new entry of the traceback -/
theorem entry_new {head : Value} {hadNext : Bool} (F : c.Fn) (S : StN G c σ ρ Γ s.heap N FS m) {oe : Obj} {vs : Array Value} {v0 : Value} (ho : Off G c.env.locals (N ++ FS) e) (he : s.heap.get? e = some oe)
    (e1 : oe.cls = x.cls) (e2 : oe.dict = x.dict) (hd : oe.data = .fields vs) (hsz : 5 ≤ vs.size) (h0 : vs[0]? = some v0 ∧ vs[2]? = some x.ctx) (hr : RelA N v0 x.a0)
    (k : ∀ h', StX G c σ ρ Γ e x .held h' → Q () { s with heap := h' }) :
    wpAny (model G.prog G.w) c.A (do let a ← frameOf c.env; let pl ← entryPlaceOf c.env.locals hadNext; let b ← EntryCells.newEntry head a .none (rawInt c.env.locals) .none pl; setField (.ref e) 1 b) Q E s := by
  refine wpAny_bind (wpAny_frameOf_fun F.frames (S.funFrames F) F.frame fun h₁ hs₁ => ?_)
  obtain ⟨FS', S1, q1⟩ := S.slots F hs₁
  have hNF : (N ++ FS').map (·.1) = (N ++ FS).map (·.1) := by rw [List.map_append, q1, ← List.map_append]
  have ho1 : Off G c.env.locals (N ++ FS') e := ho.eq hNF
  have he₁ : h₁.get? e = some oe := by
    refine (hs₁.2.1 e fun hm => ?_).trans he
    rw [List.filterMap_cons, F.frame, frames_addrs S.sk F.real] at hm
    rcases List.mem_cons.mp hm with q | hm
    · exact ho.2.1 q
    · exact ho.2.2 (by rw [List.map_append]; exact List.mem_append_right _ hm)
  refine wpAny_bind (wpAny_entryPlaceOf fun pl hpl => ?_)
  unfold EntryCells.newEntry newFields
  refine wpAny_bind (wpAny_newObj_type ?_ (hpl.sizeOk5 _ _ _ _ _))
  generalize hoT : ({ cls := .type "traceback", dict := none, data := .fields ([head, .ref c.env.locals, .none, rawInt c.env.locals, .none] ++ (if pl.isEmpty then List.replicate 6 Value.none else pl)).toArray } : Obj) = oT
  have hTn : h₁.get? h₁.objs.size = none := Heap.get?_none_of_le (Nat.le_refl _)
  have hT0 := S1.fresh hTn
  have S2 := S1.pushOff oT
  have he₂ := Heap.get?_push_of_some (h := h₁) oT he₁
  have hTe : h₁.objs.size ≠ e := Nat.ne_of_gt (Heap.lt_size he₁)
  have hT2 : (h₁.push oT).get? h₁.objs.size = some oT := Heap.get?_push_size h₁ (by rw [← hoT]; rfl)
  refine wpAny_setField he₂ hd (by omega) (k _ ⟨N, FS', m, S2.updOff ho1 _, ho1, ?_⟩)
  have hd₃ := Obj.data_mapFields hd (·.setIfInBounds 1 (Value.ref h₁.objs.size))
  refine ⟨_, _, v0, Heap.get?_update_self _ he₂ (Obj.isFreed_of_fields hd₃), (Obj.cls_mapFields ..).trans e1, ?_, hd₃, by simpa using hsz, ?_, hr, ?_⟩
  · rw [← e2]; obtain ⟨c1, c2, c3, c4⟩ := oe; cases hd; rfl
  · exact ⟨by rw [Array.getElem?_setIfInBounds_ne (by decide)]; exact h0.1, by rw [Array.getElem?_setIfInBounds_ne (by decide)]; exact h0.2⟩
  · refine ⟨h₁.objs.size, oT, ([head, .ref c.env.locals, .none, rawInt c.env.locals, .none] ++ (if pl.isEmpty then List.replicate 6 Value.none else pl)).toArray, ?_, hT0, hTe, ?_, by rw [← hoT], ?_⟩
    · rw [Array.getElem?_setIfInBounds_self_of_lt (by omega)]
    · rw [Heap.get?_update_other _ _ (Ne.symm hTe)]; exact hT2
    · simp
theorem note_step (F : c.Fn) {tb : Tb} (S : StX G c σ ρ Γ e x tb s.heap) (k : ∀ h', StX G c σ ρ Γ e x .held h' → Q () { s with heap := h' }) :
    wpAny (model G.prog G.w) c.A (noteFrame (.ref e) c.env) Q E s := by
  obtain ⟨N, FS, m, S, ho, oe, vs, v0, he, e1, e2, hd, hsz, h0, hr, ht⟩ := S
  unfold noteFrame
  simp only [F.frame]
  cases tb with
  | new =>
    refine wpAny_bind (wpAny_field he hd ht ?_)
    rw [if_neg (by decide)]
    exact entry_new F S ho he e1 e2 hd hsz h0 hr k
  | fly =>
    obtain ⟨T, oT, ts, h1, oT', hTe, hT, hdT, h3⟩ := ht
    refine wpAny_bind (wpAny_field he hd h1 ?_)
    rw [if_pos (show (Value.ref T != Value.none) = true from by simp)]
    refine wpAny_bind (wpAny_field hT hdT h3 ?_)
    rw [if_neg (show ¬ ((Value.none == rawInt c.env.locals) = true) from by simp [rawInt])]
    refine wpAny_bind (wpAny_setField hT hdT (Array.getElem?_eq_some_iff.mp h3).1 ?_)
    exact entry_new (s := { s with heap := _ }) F (S.updOff oT' _) ho ((Heap.get?_update_other _ _ hTe).trans he) e1 e2 hd hsz h0 hr k
  | held =>
    obtain ⟨T, oT, ts, h1, oT', hTe, hT, hdT, h3⟩ := ht
    refine wpAny_bind (wpAny_field he hd h1 ?_)
    rw [if_pos (show (Value.ref T != Value.none) = true from by simp)]
    refine wpAny_bind (wpAny_field hT hdT h3 ?_)
    rw [if_pos (show (rawInt c.env.locals == rawInt c.env.locals) = true from by simp)]
    exact wpAny_pure (k _ ⟨N, FS, m, S, ho, oe, vs, v0, he, e1, e2, hd, hsz, h0, hr, T, oT, ts, h1, oT', hTe, hT, hdT, h3⟩)
/-- the mark of the flight set: to none, or to the frame at hand -/
theorem flight_step {tb : Tb} (htb : tb ≠ .new) {A : Around} (f : Option Addr) (hf : f = none ∨ f = some c.env.locals) (S : StX G c σ ρ Γ e x tb s.heap)
    (k : ∀ h', StX G c σ ρ Γ e x (if f = none then .fly else .held) h' → Q () { s with heap := h' }) : wpAny (model G.prog G.w) A (setFlight (.ref e) f) Q E s := by
  obtain ⟨N, FS, m, S, ho, oe, vs, v0, he, e1, e2, hd, hsz, h0, hr, ht⟩ := S
  obtain ⟨T, oT, ts, fl, h1, oT', hTe, hT, hdT, h3⟩ : ∃ T oT ts fl, vs[1]? = some (.ref T) ∧ Off G c.env.locals (N ++ FS) T ∧ T ≠ e ∧ s.heap.get? T = some oT ∧ oT.data = .fields ts ∧ ts[3]? = some fl := by
    cases tb with
    | new => exact absurd rfl htb
    | fly => obtain ⟨T, oT, ts, h1, oT', hTe, hT, hdT, h3⟩ := ht; exact ⟨T, oT, ts, _, h1, oT', hTe, hT, hdT, h3⟩
    | held => obtain ⟨T, oT, ts, h1, oT', hTe, hT, hdT, h3⟩ := ht; exact ⟨T, oT, ts, _, h1, oT', hTe, hT, hdT, h3⟩
  have hsz3 : 3 < ts.size := (Array.getElem?_eq_some_iff.mp h3).1
  unfold setFlight
  refine wpAny_bind (wpAny_field he hd h1 ?_)
  rw [if_pos (show (Value.ref T != Value.none) = true from by simp)]
  refine wpAny_setField hT hdT hsz3 (k _ ⟨N, FS, m, S.updOff oT' _, ho, oe, vs, v0, (Heap.get?_update_other _ _ hTe).trans he, e1, e2, hd, hsz, h0, hr, ?_⟩)
  have hT3 := Heap.get?_update_self (Obj.mapFields (·.setIfInBounds 3 (f.elim Value.none fun f => rawInt f))) hT (Obj.isFreed_of_fields (Obj.data_mapFields hdT _))
  have hd3 := Obj.data_mapFields hdT (·.setIfInBounds 3 (f.elim Value.none fun f => rawInt f))
  rcases hf with rfl | rfl
  · rw [if_pos rfl]
    exact ⟨T, _, _, h1, oT', hTe, hT3, hd3, by rw [Array.getElem?_setIfInBounds_self_of_lt hsz3]; rfl⟩
  · rw [if_neg (by simp)]
    exact ⟨T, _, _, h1, oT', hTe, hT3, hd3, by rw [Array.getElem?_setIfInBounds_self_of_lt hsz3]; rfl⟩
theorem leaving_step (F : c.Fn) {tb : Tb} (S : StX G c σ ρ Γ e x tb s.heap) (k : ∀ h', StX G c σ ρ Γ e x .fly h' → Q () { s with heap := h' }) :
    wpAny (model G.prog G.w) c.A (leaving c.env (.ref e)) Q E s := by
  unfold leaving
  exact wpAny_bind (note_step F S fun h' S' => flight_step (s := { s with heap := h' }) (by simp) none (.inl rfl) S' fun h'' S'' => k h'' (by simpa using S''))
theorem cameBack_step (F : c.Fn) {tb : Tb} (htb : tb ≠ .new) (S : StX G c σ ρ Γ e x tb s.heap) (k : ∀ h', StX G c σ ρ Γ e x .held h' → E (.ref e) { s with heap := h' }) :
    cameBackBy (model G.prog G.w) c.A c.env E (.ref e) s := by
  unfold cameBackBy
  have S0 := S
  obtain ⟨N, FS, m, S1, ho, oe, vs, v0, he, e1, e2, hd, hsz, h0, hr, ht⟩ := S0
  obtain ⟨T, h1⟩ : ∃ T, vs[1]? = some (.ref T) := by
    cases tb with
    | new => exact absurd rfl htb
    | fly => obtain ⟨T, oT, ts, h1, _⟩ := ht; exact ⟨T, h1⟩
    | held => obtain ⟨T, oT, ts, h1, _⟩ := ht; exact ⟨T, h1⟩
  refine wpAny_bind (wpAny_field he hd h1 ?_)
  rw [if_neg (show ¬ ((Value.ref T == Value.none) = true) from by simp)]
  rw [F.frame]
  exact flight_step htb (some c.env.locals) (.inr rfl) S fun h' S' => k h' (by simpa using S')
end
end
end Mine
set_option maxHeartbeats 1000000
namespace Mine
open PySem PySem.W PySem.Calls PyProof.Rows
noncomputable abbrev Gl.M (G : Gl) : Model := model G.prog G.w
noncomputable abbrev XP := Ex → Sto → Prop
noncomputable abbrev XF := Ex → Loc → Sto → Prop
/-- an exception handed on -/
noncomputable def Fail (G : Gl) (c : Cx) (Γ : Pairs) (s : Shared) (X : XF) (E : Value → Shared → Prop) : Prop :=
  ∀ e x tb ρ σ h tk, X x ρ σ → StX G c σ ρ Γ e x tb h → E (.ref e) { s with heap := h, toks := tk }
theorem Fail.at {G : Gl} {c : Cx} {Γ Γ' : Pairs} {s : Shared} {X : XF} {E : Value → Shared → Prop} (h : Fail G c Γ s X E) (hp : Heap) (tk : Nat) (hs : ∀ p ∈ Γ, p ∈ Γ') : Fail G c Γ' { s with heap := hp, toks := tk } X E :=
  fun e x tb ρ σ h' tk' hx S => h e x tb ρ σ h' tk' hx (S.weaken hs)
/-- a value -/
noncomputable def WV (G : Gl) (c : Cx) (Γ : Pairs) (t : Sem Value) (ρ : Loc) (σ : Sto) (P : D → Sto → Prop) (X : XP) : Prop :=
  ∀ (s : Shared) (Q E : Value → Shared → Prop), St G c σ ρ Γ s.heap →
    (∀ v d σ' h tk, P d σ' → St G c σ' ρ ((v, d) :: Γ) h → Q v { s with heap := h, toks := tk }) →
    Fail G c Γ s (fun x ρ' σ' => ρ' = ρ ∧ X x σ') E → wpAny G.M c.A t Q E s
/-- a truth -/
noncomputable def WB (G : Gl) (c : Cx) (Γ : Pairs) (t : Sem Bool) (ρ : Loc) (σ : Sto) (P : Bool → Sto → Prop) (X : XP) : Prop :=
  ∀ (s : Shared) (Q : Bool → Shared → Prop) (E : Value → Shared → Prop), St G c σ ρ Γ s.heap →
    (∀ b σ' h tk, P b σ' → St G c σ' ρ Γ h → Q b { s with heap := h, toks := tk }) →
    Fail G c Γ s (fun x ρ' σ' => ρ' = ρ ∧ X x σ') E → wpAny G.M c.A t Q E s
/-- values in a row -/
noncomputable def WL (G : Gl) (c : Cx) (Γ : Pairs) (t : Sem (List Value)) (ρ : Loc) (σ : Sto) (P : List D → Sto → Prop) (X : XP) : Prop :=
  ∀ (s : Shared) (Q : List Value → Shared → Prop) (E : Value → Shared → Prop), St G c σ ρ Γ s.heap →
    (∀ vs ds σ' h tk, P ds σ' → vs.length = ds.length → St G c σ' ρ (vs.zip ds ++ Γ) h → Q vs { s with heap := h, toks := tk }) →
    Fail G c Γ s (fun x ρ' σ' => ρ' = ρ ∧ X x σ') E → wpAny G.M c.A t Q E s
/-- a deed: names and store turn -/
noncomputable def WU (G : Gl) (c : Cx) (Γ : Pairs) (t : Sem Unit) (ρ : Loc) (σ : Sto) (P : Loc → Sto → Prop) (X : XF) : Prop :=
  ∀ (s : Shared) (Q : Unit → Shared → Prop) (E : Value → Shared → Prop), St G c σ ρ Γ s.heap →
    (∀ ρ' σ' h tk, P ρ' σ' → St G c σ' ρ' Γ h → Q () { s with heap := h, toks := tk }) →
    Fail G c Γ s X E → wpAny G.M c.A t Q E s
inductive Fl where
  | next | brk | cont
  | ret (d : D)
inductive FlOk (Γ : Pairs) : Flow → Fl → Pairs → Prop
  | next : FlOk Γ .next .next Γ
  | brk : FlOk Γ .brk .brk Γ
  | cont : FlOk Γ .cont .cont Γ
  | ret (v : Value) (d : D) : FlOk Γ (.ret v) (.ret d) ((v, d) :: Γ)
noncomputable abbrev FP := Fl → Loc → Sto → Prop
noncomputable def Done (G : Gl) (c : Cx) (Γ : Pairs) (s : Shared) (P : FP) (Q : Flow → Shared → Prop) : Prop :=
  ∀ f fl Γ' ρ σ h tk, FlOk Γ f fl Γ' → P fl ρ σ → St G c σ ρ Γ' h → Q f { s with heap := h, toks := tk }
/-- a statement -/
noncomputable def WS (G : Gl) (c : Cx) (Γ : Pairs) (t : Sem Flow) (ρ : Loc) (σ : Sto) (P : FP) (X : XF) : Prop :=
  ∀ (s : Shared) (Q : Flow → Shared → Prop) (E : Value → Shared → Prop), St G c σ ρ Γ s.heap →
    Done G c Γ s P Q → Fail G c Γ s X E → wpAny G.M c.A t Q E s
noncomputable abbrev WE (G : Gl) (c : Cx) (Γ : Pairs) (e : Expr) := WV G c Γ (eval e c.env)
noncomputable abbrev WT (G : Gl) (c : Cx) (Γ : Pairs) (e : Expr) := WB G c Γ (isTrue e c.env (eval e c.env))
noncomputable abbrev Wx (G : Gl) (c : Cx) (Γ : Pairs) (st : Stmt) := WS G c Γ (exec st c.env)
noncomputable abbrev Wxs (G : Gl) (c : Cx) (Γ : Pairs) (sts : List Stmt) := WS G c Γ (execs sts c.env)
/-- an operation upon values: those at hand -/
noncomputable def W1 (G : Gl) (c : Cx) (f : Value → Sem Value) (d : D) (ρ : Loc) (σ : Sto) (P : D → Sto → Prop) (X : XP) : Prop :=
  ∀ Γ v, (v, d) ∈ Γ → WV G c Γ (f v) ρ σ P X
noncomputable def W2 (G : Gl) (c : Cx) (f : Value → Value → Sem Value) (d e : D) (ρ : Loc) (σ : Sto) (P : D → Sto → Prop) (X : XP) : Prop :=
  ∀ Γ v w, (v, d) ∈ Γ → (w, e) ∈ Γ → WV G c Γ (f v w) ρ σ P X
noncomputable def Wn (G : Gl) (c : Cx) (f : List Value → Sem Value) (ds : List D) (ρ : Loc) (σ : Sto) (P : D → Sto → Prop) (X : XP) : Prop :=
  ∀ Γ vs, vs.length = ds.length → (∀ p ∈ vs.zip ds, p ∈ Γ) → WV G c Γ (f vs) ρ σ P X
noncomputable def B1 (G : Gl) (c : Cx) (f : Value → Sem Bool) (d : D) (ρ : Loc) (σ : Sto) (P : Bool → Sto → Prop) (X : XP) : Prop :=
  ∀ Γ v, (v, d) ∈ Γ → WB G c Γ (f v) ρ σ P X
section
variable {G : Gl} {c : Cx} {Γ : Pairs} {ρ : Loc} {σ : Sto} {P P' : D → Sto → Prop} {X X' : XP} {R R' : FP} {Y Y' : XF}
theorem WV.mono {t : Sem Value} (h : WV G c Γ t ρ σ P X) (hP : ∀ d σ, P d σ → P' d σ) (hX : ∀ x σ, X x σ → X' x σ) : WV G c Γ t ρ σ P' X' :=
  fun s Q E S q f => h s Q E S (fun v d σ' h tk p => q v d σ' h tk (hP _ _ p)) fun e x tb ρ' σ' h tk p => f e x tb ρ' σ' h tk ⟨p.1, hX _ _ p.2⟩
theorem WS.mono {t : Sem Flow} (h : WS G c Γ t ρ σ R Y) (hR : ∀ f ρ σ, R f ρ σ → R' f ρ σ) (hY : ∀ x ρ σ, Y x ρ σ → Y' x ρ σ) : WS G c Γ t ρ σ R' Y' :=
  fun s Q E S q f => h s Q E S (fun a b Γ' ρ' σ' h tk p r => q a b Γ' ρ' σ' h tk p (hR _ _ _ r)) fun e x tb ρ' σ' h tk p => f e x tb ρ' σ' h tk (hY _ _ _ p)
theorem WV.forget {t : Sem Value} {σ' : Sto} (h : WV G c Γ t ρ σ' P X) (hs : ∀ a o, σ' a = some o → σ a = some o) : WV G c Γ t ρ σ P X :=
  fun s Q E S => h s Q E (S.sub hs)
theorem WS.forget {t : Sem Flow} {σ' : Sto} (h : WS G c Γ t ρ σ' R Y) (hs : ∀ a o, σ' a = some o → σ a = some o) : WS G c Γ t ρ σ R Y :=
  fun s Q E S => h s Q E (S.sub hs)
/-- one value, then more -/
theorem WV.seq {t : Sem Value} {s : Shared} {Q E : Value → Shared → Prop} (h : WV G c Γ t ρ σ P X) (S : St G c σ ρ Γ s.heap) (f : Fail G c Γ s (fun x ρ' σ' => ρ' = ρ ∧ X x σ') E)
    (k : ∀ v d σ' h tk, P d σ' → St G c σ' ρ ((v, d) :: Γ) h → Fail G c ((v, d) :: Γ) { s with heap := h, toks := tk } (fun x ρ' σ' => ρ' = ρ ∧ X x σ') E → Q v { s with heap := h, toks := tk }) : wpAny G.M c.A t Q E s :=
  h s Q E S (fun v d σ' h tk p S' => k v d σ' h tk p S' (f.at h tk fun _ hp => List.mem_cons_of_mem _ hp)) f
theorem Fail.up {s : Shared} {E : Value → Shared → Prop} (f : Fail G c Γ s Y E) (hY : ∀ x ρ σ, Y' x ρ σ → Y x ρ σ) : Fail G c Γ s Y' E := fun e x tb ρ σ h tk p => f e x tb ρ σ h tk (hY _ _ _ p)
theorem Fail.none {s : Shared} {E : Value → Shared → Prop} : Fail G c Γ s (fun _ _ _ => False) E := fun _ _ _ _ _ _ _ p => p.elim
-- constants
theorem WE_None {k : Nat} {pos : Pos} (h : P .none σ) : WE G c Γ (.Constant .none k pos) ρ σ P X :=
  fun s Q E S q _ => wpAny_Constant_none (q .none _ σ s.heap s.toks h (S.put_plain fun _ => .none))
theorem WE_Bool {b : Bool} {k : Nat} {pos : Pos} (h : P (.bool b) σ) : WE G c Γ (.Constant (.bool b) k pos) ρ σ P X :=
  fun s Q E S q _ => wpAny_Constant_bool (q (.bool b) _ σ s.heap s.toks h (S.put_plain fun _ => .bool b))
theorem WE_Int {i : Int} {k : Nat} {pos : Pos} (h : P (.int i) σ) : WE G c Γ (.Constant (.int i) k pos) ρ σ P X :=
  fun s Q E S q _ => wpAny_Constant_int (q (.int i s.toks) _ σ s.heap _ h (S.put_plain fun _ => .int i _))
theorem WE_Str {x : Str} {k : Nat} {pos : Pos} {l : List Nat} (e : x.cps.toList = l) (h : P (.str l) σ) : WE G c Γ (.Constant (.str x) k pos) ρ σ P X :=
  fun s Q E S q _ => wpAny_Constant_str (q (.str x s.toks) _ σ s.heap _ h (S.put_plain fun _ => .str e))
theorem WE_Bytes {b : List UInt8} {k : Nat} {pos : Pos} {l : List Nat} (e : b.map UInt8.toNat = l) (h : P (.bytes l) σ) : WE G c Γ (.Constant (.bytes b) k pos) ρ σ P X :=
  fun s Q E S q _ => wpAny_mkTextBytes (q (.bytes b.toArray s.toks) _ σ s.heap _ h (S.put_plain fun _ => .bytes (by simpa using e)))
-- names
theorem WE_local {x : Str} {pos : Pos} {d : D} (hk : c.env.scope.kind = .function) (hl : c.env.kindOf x = some .local) (hd : (x == ("__debug__" : Str)) = false) (e : ρ x = some d) (h : P d σ) : WE G c Γ (.Name x pos) ρ σ P X :=
  fun s Q E S q _ => by
    obtain ⟨N, FS, m, S⟩ := S
    obtain ⟨v, hv, r⟩ := S.lo x d e
    exact wpAny_Name (wpAny_loadName_local hk hl S.fr.ns hv (q v d σ s.heap s.toks h (S.put r).st)) hd
theorem cell_at {s : Shared} {a : Addr} {d : D} (S : St G c σ ρ Γ s.heap) (e : σ a = some (.cell (some d))) : ∃ v, s.heap.IsCell a (some v) ∧ St G c σ ρ ((v, d) :: Γ) s.heap := by
  obtain ⟨N, FS, m, S⟩ := S
  obtain ⟨o, ov, h1, h3, h2⟩ := S.re a _ e
  cases h2 with
  | some r => exact ⟨_, ⟨o, (S.nw _ (List.mem_append_left _ h1)).1, h3⟩, (S.put r).st⟩
theorem WE_cell {x : Str} {pos : Pos} {d : D} {a : Addr} (hk : c.env.scope.kind = .function) (hl : c.env.kindOf x = some .cell) (hd : (x == ("__debug__" : Str)) = false)
    (ha : c.env.cells.lookup x = some a) (e : σ a = some (.cell (some d))) (h : P d σ) : WE G c Γ (.Name x pos) ρ σ P X :=
  fun s Q E S q _ => by
    obtain ⟨v, hi, S'⟩ := cell_at S e
    exact wpAny_Name (wpAny_loadName_cell hk hl ha hi (q v d σ s.heap s.toks h S')) hd
theorem WE_glob {x : Str} {pos : Pos} {v : Value} (hk : c.env.scope.kind = .function) (hl : c.env.kindOf x = some .globalImplicit) (hg : c.env.globals = mainGlobals) (hd : (x == ("__debug__" : Str)) = false)
    (e : nsIn G.K mainGlobals x = some (some v)) (hv : handedIn v = true) (h : P (.con v) σ) : WE G c Γ (.Name x pos) ρ σ P X :=
  fun s Q E S q _ => by
    obtain ⟨N, FS, m, S⟩ := S
    exact Name_function_global hk hl (loadGlobal_global (env := c.env) (by rw [hg]; exact G.g.keeps S.fr.keep) (mg_of G.X G.g e) (q v _ σ s.heap s.toks h (S.put (.con v hv)).st)) hd
theorem WE_boot {x : Str} {pos : Pos} {v : Value} (hk : c.env.scope.kind = .function) (hl : c.env.kindOf x = some .globalImplicit) (hg : c.env.globals = mainGlobals) (hb : c.env.builtins = builtinsNs) (hd : (x == ("__debug__" : Str)) = false)
    (e : nsIn G.K mainGlobals x = some none) (hv : bootBuiltins x = some v) (hn : x ≠ "__name__") (hh : handedIn v = true) (h : P (.con v) σ) : WE G c Γ (.Name x pos) ρ σ P X :=
  fun s Q E S q _ => by
    obtain ⟨N, FS, m, S⟩ := S
    exact Name_function_global hk hl (loadGlobal_builtin (env := c.env) (by rw [hg]; exact G.g.keeps S.fr.keep) (mg_none_of G.X G.g e) (by rw [hb]; exact G.b.keeps S.fr.keep) ((G.bi x hn).trans hv) (q v _ σ s.heap s.toks h (S.put (.con v hh)).st)) hd
-- expressions
theorem WE_BinOp {l r : Expr} {op : Operator} {pos : Pos} (h : WE G c Γ l ρ σ (fun d σ' => ∀ v, WE G c ((v, d) :: Γ) r ρ σ' (fun e σ'' => W2 G c (binaryOp op) d e ρ σ'' P X) X) X) : WE G c Γ (.BinOp l op r pos) ρ σ P X :=
  fun s Q E S q f => wpAny_BinOp (h.seq S f fun v d σ1 h1 t1 p1 S1 f1 => (p1 v).seq (s := { s with heap := h1, toks := t1 }) S1 f1 fun w e σ2 h2 t2 p2 S2 f2 =>
    (p2 _ v w (.tail _ (.head _)) (.head _)).seq (s := { s with heap := h2, toks := t2 }) S2 f2 fun u k σ3 h3 t3 p3 S3 _ => q u k σ3 h3 t3 p3 (S3.weaken fun p hp => by
      rcases List.mem_cons.mp hp with rfl | hp
      · exact .head _
      · exact .tail _ (.tail _ (.tail _ hp))))
theorem keep_res {v : Value} {d : D} {L Γ : Pairs} : ∀ p ∈ (v, d) :: Γ, p ∈ (v, d) :: (L ++ Γ) := fun p hp => by
  rcases List.mem_cons.mp hp with rfl | hp
  · exact .head _
  · exact .tail _ (List.mem_append_right _ hp)
theorem WE_Unary {x : Expr} {op : UnaryOp} {pos : Pos} (h : WE G c Γ x ρ σ (fun d σ' => W1 G c (unaryOp op) d ρ σ' P X) X) : WE G c Γ (.UnaryOp op x pos) ρ σ P X :=
  fun s Q E S q f => wpAny_UnaryOp (h.seq S f fun v d σ1 h1 t1 p1 S1 f1 => (p1 _ v (.head _)).seq (s := { s with heap := h1, toks := t1 }) S1 f1 fun u k σ3 h3 t3 p3 S3 _ => q u k σ3 h3 t3 p3 (S3.weaken (keep_res (L := [(v, d)]))))
theorem WE_IfExp {t a b : Expr} {pos : Pos} (h : WT G c Γ t ρ σ (fun k σ' => if k then WE G c Γ a ρ σ' P X else WE G c Γ b ρ σ' P X) X) : WE G c Γ (.IfExp t a b pos) ρ σ P X :=
  fun s Q E S q f => wpAny_IfExp (h s _ E S (fun k σ1 h1 t1 p1 S1 => by
    cases k
    · exact p1 { s with heap := h1, toks := t1 } Q E S1 q (f.at h1 t1 fun _ hp => hp)
    · exact p1 { s with heap := h1, toks := t1 } Q E S1 q (f.at h1 t1 fun _ hp => hp)) f)
-- truths
theorem WT_value {e : Expr} (he : isTrue e c.env (eval e c.env) = (do let v ← eval e c.env; standAt e.pos; holding [v] (truthy v))) {P : Bool → Sto → Prop} (h : WE G c Γ e ρ σ (fun d σ' => B1 G c truthy d ρ σ' P X) X) : WT G c Γ e ρ σ P X :=
  fun s Q E S q f => wpAny_isTrue_value (h.seq S f fun v d σ1 h1 t1 p1 S1 f1 => p1 _ v (.head _) { s with heap := h1, toks := t1 } _ E S1 (fun k σ2 h2 t2 p2 S2 => q k σ2 h2 t2 p2 S2.tail) f1) he
theorem WT_Compare {l r : Expr} {op : CmpOp} {pos : Pos} {P : Bool → Sto → Prop} (hm : behindInMarks op r = false)
    (h : WE G c Γ l ρ σ (fun d σ' => ∀ v, WE G c ((v, d) :: Γ) r ρ σ' (fun e σ'' => W2 G c (compareOp op) d e ρ σ'' (fun k σ3 => B1 G c truthy k ρ σ3 P X) X) X) X) : WT G c Γ (.Compare l [op] [r] pos) ρ σ P X :=
  fun s Q E S q f => wpAny_isTrue_Compare1 (hm := hm) (h.seq S f fun v d σ1 h1 t1 p1 S1 f1 => (p1 v).seq (s := { s with heap := h1, toks := t1 }) S1 f1 fun w e σ2 h2 t2 p2 S2 f2 =>
    (p2 _ v w (.tail _ (.head _)) (.head _)).seq (s := { s with heap := h2, toks := t2 }) S2 f2 fun u k σ3 h3 t3 p3 S3 f3 => p3 _ u (.head _) { s with heap := h3, toks := t3 } _ E S3
      (fun k σ2 h2 t2 p2 S2 => q k σ2 h2 t2 p2 (S2.weaken fun p hp => .tail _ (.tail _ (.tail _ hp)))) f3)
theorem WT_Not {x : Expr} {pos : Pos} {P : Bool → Sto → Prop} (h : WT G c Γ x ρ σ (fun k σ' => P (!k) σ') X) : WT G c Γ (.UnaryOp .Not x pos) ρ σ P X :=
  fun s Q E S q f => wpAny_isTrue_Not (h s _ E S (fun k σ1 h1 t1 p1 S1 => q (!k) σ1 h1 t1 p1 S1) f)
theorem WT_And {x y : Expr} {pos : Pos} {P : Bool → Sto → Prop} (h : WT G c Γ x ρ σ (fun k σ' => if k then WT G c Γ y ρ σ' P X else P false σ') X) : WT G c Γ (.BoolOp .And [x, y] pos) ρ σ P X :=
  fun s Q E S q f => wpAny_isTrue_BoolOp (wpAny_allTrue_And_cons (h s _ E S (fun k σ1 h1 t1 p1 S1 => by
    cases k
    · exact q false σ1 h1 t1 p1 S1
    · refine wpAny_allTrue_And_cons (p1 { s with heap := h1, toks := t1 } _ E S1 (fun k σ2 h2 t2 p2 S2 => ?_) (f.at h1 t1 fun _ hp => hp))
      cases k
      · exact q false σ2 h2 t2 p2 S2
      · exact wpAny_allTrue_And_nil (q true σ2 h2 t2 p2 S2)) f))
theorem B1_bool {b : Bool} {P : Bool → Sto → Prop} (h : P b σ) : B1 G c truthy (.bool b) ρ σ P X :=
  fun Γ v hv s Q E S q _ => by
    obtain ⟨N, FS, m, S⟩ := S
    have r := S.ga _ hv
    cases r
    exact wpAny_truthy_bool (q b σ s.heap s.toks h S.st)
-- statements
theorem Wxs_nil (h : R .next ρ σ) : Wxs G c Γ [] ρ σ R Y := fun s Q E S q _ => wpAny_execs_nil (q _ _ _ ρ σ s.heap s.toks .next h S)
theorem Wxs_cons {st : Stmt} {rest : List Stmt} (h : Wx G c Γ st ρ σ (fun f ρ' σ' => match f with | .next => Wxs G c Γ rest ρ' σ' R Y | f => R f ρ' σ') Y) : Wxs G c Γ (st :: rest) ρ σ R Y :=
  fun s Q E S q f => wpAny_execs_cons (h s _ E S (fun a b Γ' ρ' σ' h1 t1 ok p S1 => by
    cases ok with
    | next => exact p { s with heap := h1, toks := t1 } Q E S1 q (f.at h1 t1 fun _ hp => hp)
    | brk => exact q _ _ _ _ _ _ _ .brk p S1
    | cont => exact q _ _ _ _ _ _ _ .cont p S1
    | ret v d => exact q _ _ _ _ _ _ _ (.ret v d) p S1) f)
theorem Wx_If {t : Expr} {a b : List Stmt} {pos : Pos} {X : XP} (h : WT G c Γ t ρ σ (fun k σ' => if k then Wxs G c Γ a ρ σ' R Y else Wxs G c Γ b ρ σ' R Y) X) (hX : ∀ x σ, X x σ → Y x ρ σ) : Wx G c Γ (.If t a b pos) ρ σ R Y :=
  fun s Q E S q f => wpAny_If (h s _ E S (fun k σ1 h1 t1 p1 S1 => by
    cases k
    · exact p1 { s with heap := h1, toks := t1 } Q E S1 q (f.at h1 t1 fun _ hp => hp)
    · exact p1 { s with heap := h1, toks := t1 } Q E S1 q (f.at h1 t1 fun _ hp => hp)) (f.up fun x ρ' σ' hx => hx.1 ▸ hX _ _ hx.2))
theorem Wx_Return {e : Expr} {pos : Pos} {X : XP} (h : WE G c Γ e ρ σ (fun d σ' => R (.ret d) ρ σ') X) (hX : ∀ x σ, X x σ → Y x ρ σ) : Wx G c Γ (.Return (some e) pos) ρ σ R Y :=
  fun s Q E S q f => wpAny_Return_some (h s _ E S (fun v d σ1 h1 t1 p1 S1 => q _ _ _ _ _ _ _ (.ret v d) p1 S1) (f.up fun x ρ' σ' hx => hx.1 ▸ hX _ _ hx.2))
theorem Wx_ReturnN {pos : Pos} (h : R (.ret .none) ρ σ) : Wx G c Γ (.Return none pos) ρ σ R Y :=
  fun s Q E S q _ => wpAny_Return_none (q _ _ _ ρ σ s.heap s.toks (.ret .none .none) h (S.put_plain fun _ => .none))
theorem Wx_Expr {e : Expr} {pos : Pos} {X : XP} (hi : interactive c.env = false) (hs : swapsWith e none pos.line c.env = pure false) (h : WE G c Γ e ρ σ (fun _ σ' => R .next ρ σ') X) (hX : ∀ x σ, X x σ → Y x ρ σ) : Wx G c Γ (.Expr e pos) ρ σ R Y :=
  fun s Q E S q f => wpAny_Expr_any (hi := hi) (hs := hs) (h s _ E S (fun v d σ1 h1 t1 p1 S1 => q _ _ _ _ _ _ _ .next p1 S1.tail) (f.up fun x ρ' σ' hx => hx.1 ▸ hX _ _ hx.2))
theorem WU_store {x : Str} {v : Value} {d : D} {P : Loc → Sto → Prop} (hv : (v, d) ∈ Γ) (hk : c.env.scope.kind = .function) (hl : c.env.kindOf x = some .local) (h : P (ρ.put x d) σ) : WU G c Γ (storeName c.env x v) ρ σ P Y :=
  fun s Q E S q _ => by
    obtain ⟨N, FS, m, S⟩ := S
    refine wpAny_storeName_local hl S.fr.ns (fun h' hn hs => q _ σ h' _ h ⟨N, FS, _, { S with fr := S.fr.set hn hs, nw := S.nw.set hs, lo := ?_ }⟩) ?_
    · intro y e hy
      unfold Loc.put at hy
      split at hy
      · rename_i q'; subst q'; rw [if_pos rfl]; cases hy; exact ⟨v, rfl, S.ga _ hv⟩
      · rename_i q'; rw [if_neg q']; exact S.lo y e hy
    · rw [hk]; rfl
theorem Wx_Assign {x : Str} {p' pos : Pos} {value : Expr} {X : XP} (hk : c.env.scope.kind = .function) (hl : c.env.kindOf x = some .local) (hs : swapsWith value (some (.Name x p')) pos.line c.env = pure false)
    (h : WE G c Γ value ρ σ (fun d σ' => R .next (ρ.put x d) σ') X) (hX : ∀ x σ, X x σ → Y x ρ σ) : Wx G c Γ (.Assign [.Name x p'] value pos) ρ σ R Y :=
  fun s Q E S q f => wpAny_Assign_Name (hs := hs) (h s _ E S (fun v d σ1 h1 t1 p1 S1 => WU_store (Y := fun _ _ _ => False) (.head _) hk hl p1 { s with heap := h1, toks := t1 } _ E S1 (fun ρ' σ' h2 t2 p2 S2 => q _ _ _ _ _ _ _ .next p2 S2.tail) .none)
    (f.up fun x ρ' σ' hx => hx.1 ▸ hX _ _ hx.2))
theorem Wx_Aug {x : Str} {p' pos : Pos} {op : Operator} {value : Expr} {d₀ : D} {X : XP} (hk : c.env.scope.kind = .function) (hl : c.env.kindOf x = some .local) (e : ρ x = some d₀)
    (h : ∀ v, WE G c ((v, d₀) :: Γ) value ρ σ (fun d σ' => W2 G c (inplaceOp op) d₀ d ρ σ' (fun r σ'' => R .next (ρ.put x r) σ'') X) X) (hX : ∀ x σ, X x σ → Y x ρ σ) : Wx G c Γ (.AugAssign (.Name x p') op value pos) ρ σ R Y :=
  fun s Q E S q f => by
    obtain ⟨N, FS, m, S⟩ := S
    obtain ⟨v, hv, r⟩ := S.lo x d₀ e
    have f' : Fail G c Γ s (fun x ρ' σ' => ρ' = ρ ∧ X x σ') E := f.up fun x ρ' σ' hx => hx.1 ▸ hX _ _ hx.2
    refine wpAny_AugAssign_Name (wpAny_loadName_local hk hl S.fr.ns hv ((h v).seq (s := s) (S.put r).st (f'.at s.heap s.toks fun _ hp => .tail _ hp) fun w d σ1 h1 t1 p1 S1 f1 => ?_))
    refine (p1 _ v w (.tail _ (.head _)) (.head _)).seq (s := { s with heap := h1, toks := t1 }) S1 f1 fun u k σ2 h2 t2 p2 S2 _ => ?_
    exact WU_store (Y := fun _ _ _ => False) (.head _) hk hl p2 { s with heap := h2, toks := t2 } _ E S2 (fun ρ' σ' h3 t3 p3 S3 => q _ _ _ _ _ _ _ .next p3 (S3.weaken fun p hp => .tail _ (.tail _ (.tail _ hp)))) .none
end
end Mine
set_option maxHeartbeats 1000000
namespace Mine
open PySem PySem.W PySem.Calls PyProof.Rows
noncomputable abbrev Cx.h0 (c : Cx) : Prop := c.A.handled = none
section
variable {G : Gl} {c : Cx} {Γ : Pairs} {ρ : Loc} {σ : Sto} {P : D → Sto → Prop} {X : XP} {h : Heap} {v w : Value}
theorem St.rel {d : D} (S : St G c σ ρ Γ h) (hv : (v, d) ∈ Γ) : ∃ N, RelD N v d := let ⟨N, _, _, S⟩ := S; ⟨N, S.ga _ hv⟩
theorem St.isInt {i : Int} (S : St G c σ ρ Γ h) (hv : (v, .int i) ∈ Γ) : ∃ t, v = .int i t := by
  obtain ⟨N, r⟩ := S.rel hv; cases r; exact ⟨_, rfl⟩
theorem St.isNone (S : St G c σ ρ Γ h) (hv : (v, .none) ∈ Γ) : v = .none := by
  obtain ⟨N, r⟩ := S.rel hv; cases r; rfl
theorem St.isCon {w : Value} (S : St G c σ ρ Γ h) (hv : (v, .con w) ∈ Γ) : v = w := by
  obtain ⟨N, r⟩ := S.rel hv; cases r; rfl
theorem St.isRef {a : Addr} (S : St G c σ ρ Γ h) (hv : (v, .ref a) ∈ Γ) : v = .ref a := by
  obtain ⟨N, r⟩ := S.rel hv; cases r; rfl
theorem St.isStr {l : List Nat} (S : St G c σ ρ Γ h) (hv : (v, .str l) ∈ Γ) : ∃ x t, v = .str x t ∧ x.cps.toList = l := by
  obtain ⟨N, r⟩ := S.rel hv; cases r with | str e => exact ⟨_, _, rfl, e⟩
theorem St.isBytes {l : List Nat} (S : St G c σ ρ Γ h) (hv : (v, .bytes l) ∈ Γ) : ∃ b t, v = .bytes b t ∧ b.toList.map UInt8.toNat = l := by
  obtain ⟨N, r⟩ := S.rel hv; cases r with | bytes e => exact ⟨_, _, rfl, e⟩
theorem str_len {x : Str} {l : List Nat} (e : x.cps.toList = l) : x.length = l.length := by rw [← e]; rfl
theorem str_eq {x : Str} {l : List Nat} (e : x.cps.toList = l) : x = ⟨l.toArray⟩ := by rw [← e]
theorem str_beq {x y : Str} {l k : List Nat} (e : x.cps.toList = l) (e' : y.cps.toList = k) : (x == y) = decide (l = k) := by
  subst e e'
  by_cases q : x = y
  · subst q; simp
  · have : ¬ x.cps.toList = y.cps.toList := fun z => q (by cases x; cases y; simp at z; rw [z])
    simp [q, this]
theorem cat_list {x y : Str} {l k : List Nat} (e : x.cps.toList = l) (e' : y.cps.toList = k) : (x ++ y).cps.toList = l ++ k := by
  subst e e'; rw [Str.cps_append]; simp
-- ints
theorem add_int' {a b : Int} (h : P (.int (a + b)) σ) : W2 G c (binaryOp .Add) (.int a) (.int b) ρ σ P X := fun Γ v w hv hw s Q E S q _ => by
  obtain ⟨t, rfl⟩ := S.isInt hv; obtain ⟨u, rfl⟩ := S.isInt hw
  exact add_int (q _ _ σ s.heap _ h (S.put_plain fun _ => .int _ _))
theorem iadd_int' {a b : Int} (h : P (.int (a + b)) σ) : W2 G c (inplaceOp .Add) (.int a) (.int b) ρ σ P X := fun Γ v w hv hw s Q E S q _ => by
  obtain ⟨t, rfl⟩ := S.isInt hv; obtain ⟨u, rfl⟩ := S.isInt hw
  exact iadd_int (q _ _ σ s.heap _ h (S.put_plain fun _ => .int _ _))
theorem sub_int' {a b : Int} (h : P (.int (a - b)) σ) : W2 G c (binaryOp .Sub) (.int a) (.int b) ρ σ P X := fun Γ v w hv hw s Q E S q _ => by
  obtain ⟨t, rfl⟩ := S.isInt hv; obtain ⟨u, rfl⟩ := S.isInt hw
  exact sub_int (q _ _ σ s.heap _ h (S.put_plain fun _ => .int _ _))
theorem mul_int' {a b : Int} (hm : IntMulOk a b) (h : P (.int (a * b)) σ) : W2 G c (binaryOp .Mult) (.int a) (.int b) ρ σ P X := fun Γ v w hv hw s Q E S q _ => by
  obtain ⟨t, rfl⟩ := S.isInt hv; obtain ⟨u, rfl⟩ := S.isInt hw
  exact mul_int (hm := hm) (q _ _ σ s.heap _ h (S.put_plain fun _ => .int _ _))
theorem mod_int'' {a b : Int} (hb : 0 < b) (h : P (.int (a % b)) σ) : W2 G c (binaryOp .Mod) (.int a) (.int b) ρ σ P X := fun Γ v w hv hw s Q E S q _ => by
  obtain ⟨t, rfl⟩ := S.isInt hv; obtain ⟨u, rfl⟩ := S.isInt hw
  have e : Int.fmod a b = a % b := Int.fmod_eq_emod_of_nonneg a (Int.le_of_lt hb)
  exact mod_int' (by omega) (q _ _ σ s.heap _ (e ▸ h) (S.put_plain fun _ => .int _ _))
theorem div_int' {a b : Int} (hb : 0 < b) (hs : Builtin.divisionGoesByPylong a b = false) (h : P (.int (a / b)) σ) : W2 G c (binaryOp .FloorDiv) (.int a) (.int b) ρ σ P X := fun Γ v w hv hw s Q E S q _ => by
  obtain ⟨t, rfl⟩ := S.isInt hv; obtain ⟨u, rfl⟩ := S.isInt hw
  have e : Int.fdiv a b = a / b := Int.fdiv_eq_ediv_of_nonneg a (Int.le_of_lt hb)
  exact floordiv_int (by omega) (q _ _ σ s.heap _ (e ▸ h) (S.put_plain fun _ => .int _ _)) (.inl hs)
theorem pow_int' {a : Int} {n : Nat} (hn : n ≤ 1000) (ha : a.natAbs < 2 ^ 64) (h : P (.int (a ^ n)) σ) : W2 G c (binaryOp .Pow) (.int a) (.int n) ρ σ P X := fun Γ v w hv hw s Q E S q _ => by
  obtain ⟨t, rfl⟩ := S.isInt hv; obtain ⟨u, rfl⟩ := S.isInt hw
  exact pow_int_small (by omega) (by omega) ha (q _ _ σ s.heap _ h (S.put_plain fun _ => .int _ _))
theorem neg_int' {a : Int} (h : P (.int (-a)) σ) : W1 G c (unaryOp .USub) (.int a) ρ σ P X := fun Γ v hv s Q E S q _ => by
  obtain ⟨t, rfl⟩ := S.isInt hv
  exact neg_int (q _ _ σ s.heap _ h (S.put_plain fun _ => .int _ _))
theorem div_small {a b : Int} (h : b.natAbs < 2 ^ 64) : Builtin.divisionGoesByPylong a b = false := by
  unfold Builtin.divisionGoesByPylong
  have h1 : b.natAbs.log2 < 64 ∨ b.natAbs = 0 := by
    by_cases q : b.natAbs = 0
    · exact .inr q
    · exact .inl ((Nat.log2_lt q).2 h)
  have h2 : (if b == 0 then 0 else b.natAbs.log2 / 30 + 1) ≤ 3 := by
    split
    · omega
    · rename_i q
      have : b.natAbs ≠ 0 := by simpa using q
      omega
  simp only [Bool.and_eq_false_iff, decide_eq_false_iff_not]
  left; omega
theorem mul_small {a b : Int} (h : a.natAbs < 2 ^ 64) : IntMulOk a b := by
  refine .of_left ?_
  unfold Builtin.Int.intBits
  split
  · omega
  · rename_i q
    have : a.natAbs ≠ 0 := by simpa using q
    have := (Nat.log2_lt this).2 h
    omega
theorem eq_int' {a b : Int} (h : P (.bool (decide (a = b))) σ) : W2 G c (compareOp .Eq) (.int a) (.int b) ρ σ P X := fun Γ v w hv hw s Q E S q _ => by
  obtain ⟨t, rfl⟩ := S.isInt hv; obtain ⟨u, rfl⟩ := S.isInt hw
  have e : (a == b) = decide (a = b) := by by_cases z : a = b <;> simp [z]
  exact eq_int (q _ _ σ s.heap s.toks (e ▸ h) (S.put_plain fun _ => .bool _))
theorem gt_int' {a b : Int} (h : P (.bool (decide (b < a))) σ) : W2 G c (compareOp .Gt) (.int a) (.int b) ρ σ P X := fun Γ v w hv hw s Q E S q _ => by
  obtain ⟨t, rfl⟩ := S.isInt hv; obtain ⟨u, rfl⟩ := S.isInt hw
  exact gt_int (q _ _ σ s.heap s.toks h (S.put_plain fun _ => .bool _))
-- truths
theorem B1_int {a : Int} {P : Bool → Sto → Prop} (h : P (decide (a ≠ 0)) σ) : B1 G c truthy (.int a) ρ σ P X := fun Γ v hv s Q E S q _ => by
  obtain ⟨t, rfl⟩ := S.isInt hv
  have e : (a != 0) = decide (a ≠ 0) := by by_cases z : a = 0 <;> simp [z]
  exact truthy_int (q _ σ s.heap s.toks (e ▸ h) S)
-- texts
theorem add_str' {l k : List Nat} (hl : l.length ≤ 1000000) (hk : k.length ≤ 1000000) (h : P (.str (l ++ k)) σ) : W2 G c (binaryOp .Add) (.str l) (.str k) ρ σ P X := fun Γ v w hv hw s Q E S q _ => by
  obtain ⟨x, t, rfl, e⟩ := S.isStr hv; obtain ⟨y, u, rfl, e'⟩ := S.isStr hw
  have h1 := str_len e; have h2 := str_len e'
  exact SBL.add (hsz := by rw [sizeLine_eq]; omega) fun t' k _ => q _ _ σ s.heap k h (S.put_plain fun _ => .str (cat_list e e'))
theorem iadd_str' {l k : List Nat} (hl : l.length ≤ 1000000) (hk : k.length ≤ 1000000) (h : P (.str (l ++ k)) σ) : W2 G c (inplaceOp .Add) (.str l) (.str k) ρ σ P X := fun Γ v w hv hw s Q E S q _ => by
  obtain ⟨x, t, rfl, e⟩ := S.isStr hv; obtain ⟨y, u, rfl, e'⟩ := S.isStr hw
  have h1 := str_len e; have h2 := str_len e'
  exact SBL.iadd (hsz := by rw [sizeLine_eq]; omega) fun t' k _ => q _ _ σ s.heap k h (S.put_plain fun _ => .str (cat_list e e'))
theorem eq_str' {l k : List Nat} (h : P (.bool (decide (l = k))) σ) : W2 G c (compareOp .Eq) (.str l) (.str k) ρ σ P X := fun Γ v w hv hw s Q E S q _ => by
  obtain ⟨x, t, rfl, e⟩ := S.isStr hv; obtain ⟨y, u, rfl, e'⟩ := S.isStr hw
  exact eq_str (q _ _ σ s.heap s.toks (str_beq e e' ▸ h) (S.put_plain fun _ => .bool _))
theorem ne_str' {l k : List Nat} (h : P (.bool (!decide (l = k))) σ) : W2 G c (compareOp .NotEq) (.str l) (.str k) ρ σ P X := fun Γ v w hv hw s Q E S q _ => by
  obtain ⟨x, t, rfl, e⟩ := S.isStr hv; obtain ⟨y, u, rfl, e'⟩ := S.isStr hw
  have z : (x != y) = !decide (l = k) := by rw [← str_beq e e']; rfl
  exact ne_str (q _ _ σ s.heap s.toks (z ▸ h) (S.put_plain fun _ => .bool _))
-- identities with None
theorem isNot_none_none (h : P (.bool false) σ) : W2 G c (compareOp .IsNot) .none .none ρ σ P X := fun Γ v w hv hw s Q E S q _ => by
  obtain rfl := S.isNone hv; obtain rfl := S.isNone hw
  exact wpAny_isNot_plain rfl (q _ _ σ s.heap s.toks h (S.put_plain fun _ => .bool _))
theorem isNot_str_none {l : List Nat} (h : P (.bool true) σ) : W2 G c (compareOp .IsNot) (.str l) .none ρ σ P X := fun Γ v w hv hw s Q E S q _ => by
  obtain ⟨x, t, rfl, e⟩ := S.isStr hv; obtain rfl := S.isNone hw
  exact wpAny_isNot_other rfl (by simp) (q _ _ σ s.heap s.toks h (S.put_plain fun _ => .bool _))
theorem isNot_bytes_none {l : List Nat} (h : P (.bool true) σ) : W2 G c (compareOp .IsNot) (.bytes l) .none ρ σ P X := fun Γ v w hv hw s Q E S q _ => by
  obtain ⟨x, t, rfl, e⟩ := S.isBytes hv; obtain rfl := S.isNone hw
  exact wpAny_isNot_other rfl (by simp) (q _ _ σ s.heap s.toks h (S.put_plain fun _ => .bool _))
theorem isNot_int_none {i : Int} (h : P (.bool true) σ) : W2 G c (compareOp .IsNot) (.int i) .none ρ σ P X := fun Γ v w hv hw s Q E S q _ => by
  obtain ⟨t, rfl⟩ := S.isInt hv; obtain rfl := S.isNone hw
  exact wpAny_isNot_other rfl (by simp) (q _ _ σ s.heap s.toks h (S.put_plain fun _ => .bool _))
end
end Mine
set_option maxHeartbeats 1000000
namespace Mine
open PySem PySem.W PySem.Calls PyProof.Rows
structure Cx.Room (c : Cx) (n : Nat) : Prop where
  depth : c.A.depth + 2 * n < 900
  units : c.A.units + 16 * n + 300 < 9900
theorem Cx.Room.le {c : Cx} {n k : Nat} (r : c.Room n) (h : k ≤ n) : c.Room k := ⟨by have := r.depth; omega, by have := r.units; omega⟩
theorem Cx.Room.ln {c : Cx} {n : Nat} (r : c.Room n) : c.A.depth < recursionLimit := by have := r.depth; unfold recursionLimit; omega
theorem Cx.Room.un {c : Cx} {n : Nat} (r : c.Room n) : c.A.units + 64 < cLine := by rw [cLine_is]; have := r.units; omega
/-- the code of a def at work, with room for n calls more -/
structure Cx.Ok (c : Cx) (n : Nat) : Prop extends Cx.Fn c where
  room : c.Room n
  hd : c.A.handled = none
  glob : c.env.globals = mainGlobals
  blt : c.env.builtins = builtinsNs
section
variable {G : Gl} {c : Cx} {Γ : Pairs} {ρ : Loc} {σ : Sto} {P : D → Sto → Prop} {X : XP} {h : Heap} {N FS : Led} {m : Str → Option Value}
/-- the call of a def of the text: what it hands back, what it raises -/
noncomputable abbrev HN : Option Value → Prop := fun h => h = none
/-- an exception is at hand, held exactly -/
noncomputable def HX (σ : Sto) (e0 : Addr) : Option Value → Prop := fun h => h = some (.ref e0) ∧ ∃ oe vs, σ e0 = some (.obj oe) ∧ oe.data = .fields vs ∧ vs[2]? = some .none
noncomputable def FnC (G : Gl) (hd : Option Value → Prop) (n : Nat) (f : Value) (ds : List D) (σ : Sto) (P : D → Sto → Prop) (X : XP) : Prop :=
  ∀ (c : Cx) (ρ : Loc) (Γ : Pairs) (vs : List Value) (s : Shared) (R : Result → Shared → Prop), c.Fn → c.Room n → hd c.A.handled → St G c σ ρ Γ s.heap → vs.length = ds.length → (∀ p ∈ vs.zip ds, p ∈ Γ) →
    (∀ v d σ' h tk, P d σ' → St G c σ' ρ ((v, d) :: Γ) h → R (.ok (.ret v)) { s with heap := h, toks := tk }) →
    (∀ e x σ' h tk, X x σ' → StX G c σ' ρ Γ e x .fly h → R (.error (.ref e)) { s with heap := h, toks := tk }) →
    codeAny G.M c.A (.call f ⟨vs, []⟩) R s
theorem FnC.mono {hd : Option Value → Prop} {n : Nat} {f : Value} {ds : List D} {P' : D → Sto → Prop} {X' : XP} (h : FnC G hd n f ds σ P X) (hP : ∀ d σ, P d σ → P' d σ) (hX : ∀ x σ, X x σ → X' x σ) : FnC G hd n f ds σ P' X' :=
  fun c ρ Γ vs s R a b e S l z k k' => h c ρ Γ vs s R a b e S l z (fun v d σ' h tk p => k v d σ' h tk (hP _ _ p)) fun e x σ' h tk p => k' e x σ' h tk (hX _ _ p)
noncomputable def locOf : List Str → List D → Loc
  | x :: xs, d :: ds => fun y => if y = x then some d else locOf xs ds y
  | _, _ => fun _ => none
theorem loc_rel {N : Led} : ∀ {xs : List Str} {vs : List Value} {ds : List D}, RelAll N vs ds → ∀ x d, locOf xs ds x = some d → ∃ v, (xs.zip vs).lookup x = some v ∧ RelD N v d
  | [], _, _, _, x, d, h => by simp [locOf] at h
  | y :: xs, _, _, .nil, x, d, h => by simp [locOf] at h
  | y :: xs, _, _, .cons a r, x, d, h => by
    unfold locOf at h
    by_cases q : x = y
    · rw [if_pos q] at h; cases h
      exact ⟨_, by simp [q], a⟩
    · rw [if_neg q] at h
      obtain ⟨v, e, z⟩ := loc_rel r x d h
      refine ⟨v, ?_, z⟩
      have : (x == y) = false := by simpa using q
      rw [List.zip_cons_cons, List.lookup_cons, this]; exact e
theorem lookup_rev {α β : Type} [BEq α] [LawfulBEq α] {x : α} {v : β} : ∀ {l : List (α × β)}, (l.map (·.1)).Nodup → l.lookup x = some v → l.reverse.lookup x = some v
  | [], _, h => by simp at h
  | (y, w) :: l, nd, h => by
    have nd' := List.nodup_cons.mp (by simpa using nd : (y :: l.map (·.1)).Nodup)
    rw [List.reverse_cons, List.lookup_append]
    by_cases q : x = y
    · subst q
      have hv : v = w := by simpa using h.symm
      have : l.reverse.lookup x = none := by
        rw [List.lookup_eq_none_iff]
        intro p hp
        have hm : p.1 ∈ l.map (·.1) := List.mem_map.mpr ⟨p, List.mem_reverse.mp hp, rfl⟩
        exact bne_iff_ne.mpr fun e => nd'.1 (by rw [e]; exact hm)
      rw [this]
      simp [hv]
    · have q' : (x == y) = false := by simpa using q
      rw [List.lookup_cons, q'] at h
      rw [lookup_rev nd'.2 h]; rfl
theorem relAll_of {Γ : Pairs} (hg : ∀ p ∈ Γ, RelD N p.1 p.2) : ∀ {vs : List Value} {ds : List D}, vs.length = ds.length → (∀ p ∈ vs.zip ds, p ∈ Γ) → RelAll N vs ds
  | [], [], _, _ => .nil
  | [], _ :: _, h, _ => by simp at h
  | _ :: _, [], h, _ => by simp at h
  | v :: vs, d :: ds, h, hp => .cons (hg (v, d) (hp _ (by simp))) (relAll_of hg (by simpa using h) fun p hm => hp p (by simp [hm]))
theorem zip_fst {α β : Type} : ∀ (xs : List α) (vs : List β), (xs.zip vs).map (·.1) = xs.take vs.length
  | [], _ => by simp
  | _ :: _, [] => by simp
  | a :: xs, b :: vs => by simp [zip_fst xs vs]
/-- down into a callee -/
theorem St.push {c' : Cx} (S : St G c σ ρ Γ h) (F : c.Fk) {h' : Heap} (hstk : c'.stk = (c.env, ρ) :: c.stk) (hL : c'.env.locals = h.objs.size) {m' : Str → Option Value} (hns : h'.Ns h.objs.size m') (hk : ∀ b o, h.get? b = some o → h'.get? b = some o)
    {ρ' : Loc} (hlo : ∀ N, (∀ p ∈ Γ, RelD N p.1 p.2) → ∀ x d, ρ' x = some d → ∃ v, m' x = some v ∧ RelD N v d) : St G c' σ ρ' Γ h' := by
  obtain ⟨N, FS, m, S⟩ := S
  obtain ⟨oL, es, ep, ho, hd, hsk, hf⟩ := S.fr.ns
  have hlt := Heap.lt_size ho
  have nw := S.nw
  refine ⟨N, (c.env.locals, oL) :: FS, m', ?_, ?_, ?_, hlo N S.ga, S.re, ?_, S.ga⟩
  · rw [hL]
    exact ⟨hns, fun b o e => hk b o (S.fr.keep b o e), Nat.le_trans S.fr.above (Nat.le_of_lt hlt)⟩
  · rw [hL]
    intro p hp
    have key : ∀ p, p ∈ N ++ FS → h'.get? p.1 = some p.2 ∧ p.1 ≠ h.objs.size ∧ G.h₀.get? p.1 = none := fun p hp => ⟨hk _ _ (nw p hp).1, Nat.ne_of_lt (Heap.lt_size (nw p hp).1), (nw p hp).2.2⟩
    rcases List.mem_append.mp hp with hp | hp
    · exact key p (List.mem_append_left _ hp)
    · rcases List.mem_cons.mp hp with rfl | hp
      · exact ⟨hk _ _ ho, Nat.ne_of_lt hlt, Heap.get?_none_of_le S.fr.above⟩
      · exact key p (List.mem_append_right _ hp)
  · have nd := S.nd
    rw [List.map_append] at nd ⊢
    rw [List.map_cons]
    rw [List.nodup_append] at nd ⊢
    obtain ⟨a, b, d⟩ := nd
    refine ⟨a, List.nodup_cons.mpr ⟨fun hm => ?_, b⟩, fun x hx y hy => ?_⟩
    · obtain ⟨p, hp, e⟩ := List.mem_map.mp hm
      exact (nw p (List.mem_append_right _ hp)).2.1 e
    · rcases List.mem_cons.mp hy with rfl | hy
      · obtain ⟨p, hp, e⟩ := List.mem_map.mp hx
        exact fun z => (nw p (List.mem_append_left _ hp)).2.1 (e.trans z)
      · exact d x hx y hy
  · rw [hstk]
    exact .cons S.fr.above rfl F.frame F.kind ⟨es, ep, hd, hsk, fun x d e => let ⟨v, hv, r⟩ := S.lo x d e; ⟨v, (hf x).trans hv, r⟩⟩ S.sk
/-- up again -/
theorem StN.pop {c' : Cx} {ρ' : Loc} {m' : Str → Option Value} (S : StN G c' σ ρ' Γ h N FS m') (F : c.Fk) (hstk : c'.stk = (c.env, ρ) :: c.stk) : ∃ oL FS' m, FS = (c.env.locals, oL) :: FS' ∧ StN G c σ ρ Γ h N FS' m := by
  have sk := S.sk
  rw [hstk] at sk
  cases sk with
  | hold e0 => rw [F.frame] at e0; cases e0
  | @cons L o env ρ1 FS' stk z a b e d r =>
    subst a
    obtain ⟨es, ep, h1, h2, h3⟩ := d
    have nw := S.nw
    have hN : ∀ p ∈ N ++ FS', p ∈ N ++ (c.env.locals, o) :: FS' := fun p hp => by
      rcases List.mem_append.mp hp with hp | hp
      · exact List.mem_append_left _ hp
      · exact List.mem_append_right _ (List.mem_cons_of_mem _ hp)
    have nd := S.nd
    rw [List.map_append, List.map_cons, List.nodup_append] at nd
    obtain ⟨n1, n2, n3⟩ := nd
    have n2' := List.nodup_cons.mp n2
    have hLo := nw (c.env.locals, o) (List.mem_append_right _ (.head _))
    refine ⟨o, FS', fun x => nsFind es x, rfl, ⟨⟨o, es, ep, hLo.1, h1, h2, fun _ => rfl⟩, S.fr.keep, z⟩, fun p hp => ⟨(nw p (hN p hp)).1, fun e => ?_, (nw p (hN p hp)).2.2⟩, ?_, h3, S.re, r, S.ga⟩
    · rcases List.mem_append.mp hp with hp | hp
      · exact n3 _ (List.mem_map.mpr ⟨p, hp, rfl⟩) _ (.head _) e
      · exact n2'.1 (List.mem_map.mpr ⟨p, hp, e⟩)
    · rw [List.map_append, List.nodup_append]
      exact ⟨n1, n2'.2, fun x hx y hy => n3 x hx y (.tail _ hy)⟩
theorem St.pop {c' : Cx} {ρ' : Loc} (S : St G c' σ ρ' Γ h) (F : c.Fk) (hstk : c'.stk = (c.env, ρ) :: c.stk) : St G c σ ρ Γ h := by
  obtain ⟨N, FS, m', S⟩ := S
  obtain ⟨_, _, _, _, S'⟩ := S.pop F hstk
  exact S'.st
theorem Off.pop {L L' : Addr} {o : Obj} {a : Addr} (x : Off G L' (N ++ (L, o) :: FS) a) : Off G L (N ++ FS) a := by
  refine ⟨x.1, fun e => x.2.2 ?_, fun hm => x.2.2 ?_⟩
  · rw [List.map_append, List.map_cons, e]; exact List.mem_append_right _ (.head _)
  · rw [List.map_append] at hm ⊢
    rw [List.map_cons]
    rcases List.mem_append.mp hm with hm | hm
    · exact List.mem_append_left _ hm
    · exact List.mem_append_right _ (.tail _ hm)
theorem StX.pop {c' : Cx} {ρ' : Loc} {e : Addr} {x : Ex} (S : StX G c' σ ρ' Γ e x .fly h) (F : c.Fk) (hstk : c'.stk = (c.env, ρ) :: c.stk) : StX G c σ ρ Γ e x .fly h := by
  obtain ⟨N, FS, m', S, ho, oe, vs, v0, he, e1, e2, hd, hsz, h0, hr, T, oT, ts, h1, oT', hTe, hT, hdT, h3⟩ := S
  obtain ⟨oL, FS', m, rfl, S'⟩ := S.pop F hstk
  exact ⟨N, FS', m, S', ho.pop, oe, vs, v0, he, e1, e2, hd, hsz, h0, hr, T, oT, ts, h1, oT'.pop, hTe, hT, hdT, h3⟩
/-- what the body of a def owes -/
noncomputable def RetP (P : D → Sto → Prop) : FP := fun fl _ σ => match fl with
  | .ret d => P d σ
  | .next => P .none σ
  | _ => False
theorem fn_intro {hd : Option Value → Prop} {n : Nat} {f : Addr} {ds : List D} {fd : FuncData} {oc : Value} {od : Option Addr} {osl : Array (Option Value)} {body : List Stmt} {xs : List Str}
    (ho : G.K.lookup f = some ⟨oc, od, .func fd, osl⟩) (hcd : codeIn G.K fd.code fd.qualname = true) (hb : fd.body = .stmts body)
    (hbind : ∀ (s : Shared) (vs : List Value), G.K.In s.heap → vs.length = ds.length → BindsTo s fd ⟨vs, []⟩ (xs.zip vs)) (hnd : xs.Nodup) (hcell : ∀ x ∈ fd.scope.names, x.2 ≠ .cell) (hloc : ∀ x ∈ xs, fd.scope.names.lookup x = some .local)
    (hco : fd.scope.isCoroutine = false) (hgen : fd.scope.isGenerator = false) (hk : fd.scope.kind = .function) (hgl : fd.globals = mainGlobals) (hbl : fd.builtins = builtinsNs)
    (k : ∀ (c' : Cx) (Γ : Pairs) (L : Addr), c'.Fn → c'.Room n → hd c'.A.handled → c'.env = callEnv fd L f → Wxs G c' Γ body (locOf xs ds) σ (RetP P) (fun x _ σ' => X x σ')) :
    FnC G hd (n + 1) (.ref f) ds σ P X := fun c ρ Γ vs s R F room hh S hl hz kr ke => by
  have X0 : G.K.In s.heap := let ⟨_, _, _, S⟩ := S; G.X.keeps S.fr.keep
  have hlim : s.heap.NoLimit := let ⟨_, _, _, S⟩ := S; G.nolimit.keeps S.fr.keep
  refine codeAny_call_def (fd := fd) room.ln (X0 _ _ ho) rfl hlim (codeRec_of X0 hcd) hb (hbind s vs X0 hl) hcell (fun x hx => ?_) (fun h₁ hns hkp => ?_) hco hgen hk
  · obtain ⟨i, hi, e⟩ := List.mem_iff_getElem.mp hx
    have : x.1 ∈ xs := by
      have : x.1 = xs[i]'(by rw [List.length_zip] at hi; omega) := by rw [← e]; simp
      rw [this]; exact List.getElem_mem _
    exact hloc _ this
  · have hlo : ∀ N, (∀ p ∈ Γ, RelD N p.1 p.2) → ∀ x d, locOf xs ds x = some d → ∃ v, (xs.zip vs).reverse.lookup x = some v ∧ RelD N v d := fun N hg x d e => by
      obtain ⟨v, e1, r⟩ := loc_rel (relAll_of hg hl hz) x d e
      refine ⟨v, lookup_rev ?_ e1, r⟩
      rw [zip_fst]
      exact List.Sublist.nodup (List.take_sublist _ _) hnd
    let c' : Cx := ⟨c.A.deeper (callEnv fd s.heap.objs.size f), callEnv fd s.heap.objs.size f, (c.env, ρ) :: c.stk⟩
    have S' : St G c' σ (locOf xs ds) Γ h₁ := S.push (c' := c') F.fk rfl rfl hns hkp hlo
    have F' : c'.Fn := ⟨by show (c.A.frames.map _) = _; rw [F.frames]; rfl, rfl, hk, F.realc⟩
    have rm : c'.Room n := ⟨by show c.A.depth + 1 + 2 * n < 900; have := room.depth; omega, by show c.A.units + 3 + 16 * n + 300 < 9900; have := room.units; omega⟩
    refine k c' Γ s.heap.objs.size F' rm hh rfl { s with heap := h₁, toks := s.toks + (xs.zip vs).length } _ _ S' (fun fw fl Γ' ρ' σ' h' tk ok p S1 => ?_) (fun e x tb ρ' σ' h' tk p S1 => ?_)
    · cases ok with
      | next => exact kr .none .none σ' h' tk p ((S1.pop (c := c) F.fk rfl).put_plain fun _ => .none)
      | brk => exact p.elim
      | cont => exact p.elim
      | ret v d => exact kr v d σ' h' tk p (S1.pop (c := c) F.fk rfl)
    · exact leaving_step (s := { s with heap := h', toks := tk }) F' S1 fun h'' S2 => ke e x σ' h'' tk p (S2.pop (c := c) F.fk rfl)
end
end Mine
set_option maxHeartbeats 1000000
namespace Mine
open PySem PySem.W PySem.Calls PyProof.Rows
section
variable {G : Gl} {c : Cx} {Γ : Pairs} {ρ : Loc} {σ : Sto} {P : D → Sto → Prop} {X : XP} {h : Heap} {N FS : Led} {m : Str → Option Value}
-- attributes of own objects
noncomputable def getOk (K : Frag) (C : Addr) (name : Str) : Bool := plainGet K C name && hasDictIn K C && (match findIn K (.ref C) name with | some a => noGet K a | none => false)
noncomputable def setOk (K : Frag) (C : Addr) (name : Str) : Bool := findIn K (.ref C) "__setattr__" == some (some (.builtin "object.__setattr__")) && plainOver K C && takerIn K C name == some none && hasDictIn K C
theorem ne_tup {o : Obj} (h : o.cls ≠ .type "tuple") : ∀ vs n, o ≠ tupOf vs n := fun vs n e => h (by rw [e])
noncomputable def isObj (σ : Sto) (a C dx : Addr) : Prop := σ a = some (.inst C dx) ∨ (∃ a0, σ a = some (.exc C dx a0)) ∨ ∃ a0, σ a = some (.exn C dx a0)
theorem inst_at {a C dx : Addr} {o : O} (S : StN G c σ ρ Γ h N FS m) (hi : isObj σ a C dx) {od : Obj} (hd : (dx, od) ∈ N) : ∃ ox, W.InstAt h a ox C (some od) ∧ ox.dict = some dx := by
  have hd' := (S.nw _ (List.mem_append_left _ hd)).1
  rcases hi with hi | ⟨a0, hi⟩ | ⟨a0, hi⟩
  · have r := S.re a _ hi
    exact ⟨_, ⟨(S.nw _ (List.mem_append_left _ r)).1, rfl, rfl, hd'⟩, rfl⟩
  · obtain ⟨vs, sl, v0, h1, h2, h3, h4⟩ := S.re a _ hi
    exact ⟨_, ⟨(S.nw _ (List.mem_append_left _ h1)).1, rfl, rfl, hd'⟩, rfl⟩
  · obtain ⟨vs, sl, v0, h1, h2, h3, h4⟩ := S.re a _ hi
    exact ⟨_, ⟨(S.nw _ (List.mem_append_left _ h1)).1, rfl, rfl, hd'⟩, rfl⟩
theorem entries_get {P : Params} {es : List DictEntry} {fs : List (Str × D)} (h : Entries P N es fs) {x : Str} {d : D} (e : fs.lookup x = some d) : ∃ v, getL x es = some (some v) ∧ RelD N v d := by
  induction h with
  | nil => simp at e
  | @cons hh y t v d' es fs a b _ ih =>
    by_cases q : x = y
    · subst q
      have : d' = d := by simpa using e
      subst this
      exact ⟨v, by simp [getL, Value.isStr], b⟩
    · have q' : (x == y) = false := by simpa using q
      have q2 : (y == x) = false := by simpa using Ne.symm q
      rw [List.lookup_cons, q'] at e
      obtain ⟨w, e1, r⟩ := ih e
      refine ⟨w, ?_, r⟩
      unfold getL at e1 ⊢
      rw [List.find?_cons_of_neg (p := fun x' : DictEntry => x'.key.isStr x) (a := ⟨hh, Value.str y t, v⟩) (by show ¬ (y == x) = true; rw [q2]; decide)]
      cases z : es.find? (fun x' => x'.key.isStr x) with
      | some k => rw [z] at e1; exact e1
      | none =>
        rw [z] at e1
        dsimp only at e1
        split at e1 <;> cases e1
theorem entries_none {P : Params} {es : List DictEntry} {fs : List (Str × D)} (h : Entries P N es fs) {x : Str} (e : fs.lookup x = none) : getL x es = some none := by
  induction h with
  | nil => rfl
  | @cons hh y t v d' es fs a b _ ih =>
    by_cases q : x = y
    · subst q; simp at e
    · have q' : (x == y) = false := by simpa using q
      have q2 : (y == x) = false := by simpa using Ne.symm q
      rw [List.lookup_cons, q'] at e
      have e1 := ih e
      unfold getL at e1 ⊢
      rw [List.find?_cons_of_neg (p := fun x' : DictEntry => x'.key.isStr x) (a := ⟨hh, Value.str y t, v⟩) (by show ¬ (y == x) = true; rw [q2]; decide)]
      cases z : es.find? (fun x' => x'.key.isStr x) with
      | some k => rw [z] at e1; cases e1
      | none =>
        rw [z] at e1
        dsimp only at e1 ⊢
        rw [List.any_cons]
        have : DictEntry.refKey ⟨hh, Value.str y t, v⟩ = false := rfl
        rw [this, Bool.false_or]; exact e1
noncomputable def fput (fs : List (Str × D)) (x : Str) (d : D) : List (Str × D) := match fs with
  | [] => [(x, d)]
  | (y, e) :: r => if y = x then (y, d) :: r else (y, e) :: fput r x d
theorem entries_put {P : Params} {es : List DictEntry} {fs : List (Str × D)} (h : Entries P N es fs) {x : Str} {t : Tok} {v : Value} {d : D} (hr : RelD N v d) : Entries P N (putL x (PyData.keyHash P x) (.str x t) v es) (fput fs x d) := by
  induction h with
  | nil => exact .cons rfl hr .nil
  | @cons hh y u w d' es fs a b r ih =>
    unfold putL fput
    by_cases q : y = x
    · subst q
      simp only [Value.isStr, beq_self_eq_true, if_true]
      exact .cons a hr r
    · have q2 : (y == x) = false := by simpa using q
      simp only [Value.isStr, q2, if_neg q]
      exact .cons a b ih
theorem Entries.length {P : Params} {es : List DictEntry} {fs : List (Str × D)} (h : Entries P N es fs) : es.length = fs.length := by
  induction h with
  | nil => rfl
  | cons _ _ _ ih => simp [ih]
theorem fput_length (fs : List (Str × D)) (x : Str) (d : D) : (fput fs x d).length ≤ fs.length + 1 := by
  induction fs with
  | nil => simp [fput]
  | cons p fs ih => obtain ⟨y, e⟩ := p; unfold fput; split <;> simp <;> omega
theorem getAttr_own {a C dx : Addr} {name : Str} {d : D} {fs : List (Str × D)} {expr : Bool} (hi : isObj σ a C dx) (hf : σ dx = some (.flds fs)) (hk : getOk G.K C name = true) (e : fs.lookup name = some d) (h : P d σ) :
    W1 G c (fun v => getAttr v name expr) (.ref a) ρ σ P X := fun Γ v hv s Q E S q _ => by
  obtain rfl := S.isRef hv
  obtain ⟨N, FS, m, S⟩ := S
  obtain ⟨es, n, hd, he⟩ := S.re dx _ hf
  obtain ⟨w, hg, hr⟩ := entries_get he e
  obtain ⟨ox, I, _⟩ := inst_at (o := .list []) S hi hd
  unfold getOk at hk
  cases hfi : findIn G.K (.ref C) name with
  | none => rw [hfi] at hk; simp at hk
  | some at' =>
    rw [hfi] at hk
    simp only [Bool.and_eq_true] at hk
    exact get_own S.fr G.X I hk.1.1 hk.1.2 hfi hk.2 hg hr.handed (q w d σ s.heap _ h (S.put hr).st)
theorem WE_attr {x : Str} {np pos : Pos} {name : Str} (h : WE G c Γ (.Name x np) ρ σ (fun d σ' => W1 G c (fun v => getAttr v name true) d ρ σ' P X) X) : WE G c Γ (.Attribute (.Name x np) name pos) ρ σ P X :=
  fun s Q E S q f => Attribute_name (h.seq S f fun v d σ1 h1 t1 p1 S1 f1 => (p1 _ v (.head _)).seq (s := { s with heap := h1, toks := t1 }) S1 f1 fun u k σ3 h3 t3 p3 S3 _ => q u k σ3 h3 t3 p3 (S3.weaken (keep_res (L := [(v, d)]))))
theorem setAttr_own {a C dx : Addr} {name : Str} {d : D} {fs : List (Str × D)} {v : Value} {P : Loc → Sto → Prop} {Y : XF} (hi : isObj σ a C dx) (hf : σ dx = some (.flds fs)) (hk : setOk G.K C name = true) (hz : fs.length ≤ 100)
    (hv : (v, d) ∈ Γ) (ha : (w, .ref a) ∈ Γ) (h : P ρ (σ.put dx (.flds (fput fs name d)))) :
    WU G c Γ (setAttr w name v) ρ σ P Y := fun s Q E S q _ => by
  obtain rfl := S.isRef ha
  obtain ⟨N, FS, m, S⟩ := S
  obtain ⟨es, n, hd, he⟩ := S.re dx _ hf
  obtain ⟨ox, I, hox⟩ := inst_at (o := .list []) S hi hd
  unfold setOk at hk
  simp only [Bool.and_eq_true, beq_iff_eq] at hk
  obtain ⟨N', u, h1, h2, h3, h4⟩ := S.change (o' := dictOf (putL name (PyData.keyHash G.w.params name) (.str name (s.toks + 1)) v es) (putN name es n)) hd (ne_tup (show Value.type "dict" ≠ Value.type "tuple" by decide))
  have hput := entries_put (t := s.toks + 1) (P := G.w.params) (he.mono h2) (x := name) (v := v) (d := d) ((S.ga (v, d) hv).mono h2)
  have hl : (getL name es).isSome = true := by
    cases z : fs.lookup name with
    | none => rw [entries_none he z]; rfl
    | some d' => obtain ⟨_, q, _⟩ := entries_get he z; rw [q]; rfl
  refine set_dict S.fr G.X S.nw I hox hk.1.1.1 hk.1.1.2 hk.1.2 hk.2 hl rfl u ?_ fun h' F W => q ρ _ h' _ h (h4 h' F W (.flds (fput fs name d)) ⟨_, _, h1, hput⟩).st
  rw [hput.length]
  have := fput_length fs name d
  omega
-- displays
theorem WL_nil {pos : Pos} {P : List D → Sto → Prop} (h : P [] σ) : WL G c Γ (spliced (backTo pos (starEach [] c.env))) ρ σ P X :=
  fun s Q E S q _ => spliced_none (q [] [] σ s.heap s.toks h rfl S)
theorem WL_cons {e : Expr} {rest : List Expr} {pos : Pos} {P : List D → Sto → Prop} (he : starEach (e :: rest) c.env = (false, eval e c.env) :: starEach rest c.env)
    (h : WE G c Γ e ρ σ (fun d σ' => ∀ v, WL G c ((v, d) :: Γ) (spliced (backTo pos (starEach rest c.env))) ρ σ' (fun ds σ'' => P (d :: ds) σ'') X) X) :
    WL G c Γ (spliced (backTo pos (starEach (e :: rest) c.env))) ρ σ P X :=
  fun s Q E S q f => spliced_more (he := he) (h.seq S f fun v d σ1 h1 t1 p1 S1 f1 => p1 v { s with heap := h1, toks := t1 } _ E S1 (fun vs ds σ2 h2 t2 p2 hl S2 =>
    q (v :: vs) (d :: ds) σ2 h2 t2 p2 (by simp [hl]) (S2.weaken fun p hp => by
      rw [List.zip_cons_cons, List.cons_append] at hp
      rcases List.mem_cons.mp hp with rfl | hp
      · exact List.mem_append_right _ (.head _)
      · rcases List.mem_append.mp hp with hp | hp
        · exact List.mem_append_left _ hp
        · exact List.mem_append_right _ (.tail _ hp))) f1)
theorem zip_all {Γ : Pairs} {vs : List Value} {ds : List D} : ∀ p ∈ vs.zip ds, p ∈ vs.zip ds ++ Γ := fun _ hp => List.mem_append_left _ hp
theorem WE_tuple {elts : List Expr} {k : Nat} {pos : Pos} (h : WL G c Γ (spliced (backTo pos (starEach elts c.env))) ρ σ (fun ds σ' => ds.length ≤ 1000 ∧ P (.tup ds) σ') X) : WE G c Γ (.Tuple elts k pos) ρ σ P X :=
  fun s Q E S q f => wpAny_Tuple_spliced (h s _ E S (fun vs ds σ1 h1 t1 p1 hl S1 => by
    refine ⟨by rw [sizeLine_eq, hl]; omega, ?_⟩
    obtain ⟨N, FS, m, S1⟩ := S1
    have W := News.push S1.fr S1.nw (tupOf vs.toArray 0)
    obtain ⟨S2, _⟩ := S1.alloc (S1.fr.push _) W S1.lt
    exact q _ (.tup ds) σ1 _ t1 p1.2 ((S2.put (.tup (.head _) ((relAll_of S1.ga hl zip_all).mono (Sub.cons _ _)))).st.weaken keep_res)) f)
theorem WE_list {elts : List Expr} {pos : Pos} (h : WL G c Γ (spliced (backTo pos (starEach elts c.env))) ρ σ (fun ds σ' => ds.length ≤ 1000 ∧ ∀ a, σ' a = none → P (.ref a) (σ'.put a (.list ds))) X) : WE G c Γ (.List elts pos) ρ σ P X :=
  fun s Q E S q f => wpAny_List_spliced (h s _ E S (fun vs ds σ1 h1 t1 p1 hl S1 => by
    refine ⟨by rw [sizeLine_eq, hl]; omega, ?_⟩
    obtain ⟨N, FS, m, S1⟩ := S1
    have W := News.push S1.fr S1.nw (listOf vs.toArray 0)
    obtain ⟨S2, hn⟩ := S1.alloc (S1.fr.push _) W S1.lt
    have S3 := S2.putO (o := .list ds) (a := h1.objs.size) ⟨vs, 0, .head _, (relAll_of S1.ga hl zip_all).mono (Sub.cons _ _)⟩
    exact q _ (.ref h1.objs.size) _ _ t1 (p1.2 _ hn) ((S3.put (.ref _)).st.weaken keep_res)) f)
-- calls
noncomputable def Callee (G : Gl) (f : Value) : Prop := ∀ h, G.K.In h → ∃ k, (k = Keeper.frame ∨ k = Keeper.machine ∨ k = Keeper.boundFrame) ∧ Looks G.M h (keeperOf f) k
theorem callee_builtin {id : String} : Callee G (.builtin id) := fun h _ => ⟨.machine, .inr (.inl rfl), .of_pure rfl⟩
theorem callee_type {T : String} : Callee G (.type T) := fun h _ => ⟨.machine, .inr (.inl rfl), .of_pure rfl⟩
theorem callee_K {f : Value} (hk : keepIn G.K f = true) : Callee G f := fun h X => keeps_K hk h X
theorem callWith_W0 {f : Value} {first : List Value} {fd : List D} {pos : Pos} {s : Shared} {Q E : Value → Shared → Prop} (hf : Callee G f) (hfirst : first.length = fd.length) (hfz : ∀ p ∈ first.zip fd, p ∈ Γ)
    (h : Wn G c (fun vs => call f vs) fd ρ σ P X) (S : St G c σ ρ Γ s.heap)
    (q : ∀ v d σ' h tk, P d σ' → St G c σ' ρ ((v, d) :: Γ) h → Q v { s with heap := h, toks := tk }) (fl : Fail G c Γ s (fun x ρ' σ' => ρ' = ρ ∧ X x σ') E) :
    wpAny G.M c.A (callWith pos f first (backTo pos (starEach [] c.env)) []) Q E s := by
  refine callWith_of (P := G.K.In) rfl hf (evalArgs_nil3 ⟨?_, ?_⟩)
  · obtain ⟨_, _, _, S1⟩ := S; exact G.X.keeps S1.fr.keep
  · rw [List.append_nil]
    exact h Γ first hfirst hfz s Q E S q fl
theorem callWith_W {f : Value} {first : List Value} {fd : List D} {e : Expr} {rest : List Expr} {pos : Pos} {s : Shared} {Q E : Value → Shared → Prop} (hf : Callee G f) (hfirst : first.length = fd.length) (hfz : ∀ p ∈ first.zip fd, p ∈ Γ)
    (he : starEach (e :: rest) c.env = (false, eval e c.env) :: starEach rest c.env) (hplain : (backTo pos (starEach rest c.env)).any (·.1) = false)
    (h : WL G c Γ (spliced (backTo pos (starEach (e :: rest) c.env))) ρ σ (fun ds σ' => Wn G c (fun vs => call f vs) (fd ++ ds) ρ σ' P X) X) (S : St G c σ ρ Γ s.heap)
    (q : ∀ v d σ' h tk, P d σ' → St G c σ' ρ ((v, d) :: Γ) h → Q v { s with heap := h, toks := tk }) (fl : Fail G c Γ s (fun x ρ' σ' => ρ' = ρ ∧ X x σ') E) :
    wpAny G.M c.A (callWith pos f first (backTo pos (starEach (e :: rest) c.env)) []) Q E s := by
  have go : wpAny G.M c.A (spliced (backTo pos (starEach (e :: rest) c.env))) (fun vs s' => G.K.In s'.heap ∧ wpAny G.M c.A (call f (first ++ vs)) Q E s') E s := by
    refine h s _ E S (fun vs ds σ1 h1 t1 p1 hl S1 => ⟨?_, ?_⟩) fl
    · obtain ⟨_, _, _, S1⟩ := S1; exact G.X.keeps S1.fr.keep
    · refine (p1 (vs.zip ds ++ Γ) (first ++ vs) (by simp [hl, hfirst]) fun p hp => ?_).seq (s := { s with heap := h1, toks := t1 }) S1 (fl.at h1 t1 fun _ hp => List.mem_append_right _ hp) fun u k σ3 h3 t3 p3 S3 _ => q u k σ3 h3 t3 p3 (S3.weaken keep_res)
      rw [List.zip_append hfirst] at hp
      rcases List.mem_append.mp hp with hp | hp
      · exact List.mem_append_right _ (hfz p hp)
      · exact List.mem_append_left _ hp
  rw [he] at go ⊢
  refine callWith_of (P := G.K.In) (by show ((false || (backTo pos (starEach rest c.env)).any (·.1)) || false) = false; rw [hplain]; rfl) hf (evalArgs_plain go)
/-- f(..), f a name or the like -/
theorem WE_call {func e : Expr} {rest : List Expr} {pos : Pos} (hc : eval (.Call func (e :: rest) [] pos) c.env = (do callWith pos (← eval func c.env) [] (backTo pos (starEach (e :: rest) c.env)) (backToKw pos (keywordEach [] c.env))))
    (he : starEach (e :: rest) c.env = (false, eval e c.env) :: starEach rest c.env) (hplain : (backTo pos (starEach rest c.env)).any (·.1) = false)
    (h : WE G c Γ func ρ σ (fun d σ' => ∃ f, d = .con f ∧ Callee G f ∧ ∀ v, WL G c ((v, d) :: Γ) (spliced (backTo pos (starEach (e :: rest) c.env))) ρ σ' (fun ds σ'' => Wn G c (fun vs => call f vs) ds ρ σ'' P X) X) X) :
    WE G c Γ (.Call func (e :: rest) [] pos) ρ σ P X := fun s Q E S q f => by
  refine Call_ (he := hc) (h.seq S f fun v d σ1 h1 t1 p1 S1 f1 => ?_)
  obtain ⟨g, rfl, hg, p1⟩ := p1
  obtain rfl := S1.isCon (.head _)
  exact callWith_W (first := []) (fd := []) (s := { s with heap := h1, toks := t1 }) hg rfl (fun _ hp => nomatch hp) he hplain (p1 _) S1 (fun u k σ3 h3 t3 p3 S3 => q u k σ3 h3 t3 p3 (S3.weaken (keep_res (L := [(v, .con v)])))) f1
/-- the method of a value by its name -/
noncomputable def GM (G : Gl) (c : Cx) (name : Str) (d : D) (σ : Sto) (f : Value) : Prop :=
  ∀ (ρ : Loc) (Γ : Pairs) (v : Value) (pl : Sem Bool) (s : Shared) (Q : Value × List Value → Shared → Prop) (E : Value → Shared → Prop), (v, d) ∈ Γ → St G c σ ρ Γ s.heap → Q (f, [v]) s → wpAny G.M c.A (getMethod v name pl) Q E s
theorem WE_meth {o e : Expr} {name : Str} {apos pos : Pos} {rest : List Expr} {pl : Sem Bool}
    (hc : eval (.Call (.Attribute o name apos) (e :: rest) [] pos) c.env = (do
      let ov ← eval o c.env
      standAt apos.atName
      let (f, first) ← holding [ov] (getMethod ov name pl)
      callWith pos f first (backTo pos (starEach (e :: rest) c.env)) []))
    (he : starEach (e :: rest) c.env = (false, eval e c.env) :: starEach rest c.env) (hplain : (backTo pos (starEach rest c.env)).any (·.1) = false)
    (h : WE G c Γ o ρ σ (fun d σ' => ∃ f, GM G c name d σ' f ∧ Callee G f ∧ ∀ v, WL G c ((v, d) :: Γ) (spliced (backTo pos (starEach (e :: rest) c.env))) ρ σ' (fun ds σ'' => Wn G c (fun vs => call f vs) (d :: ds) ρ σ'' P X) X) X) :
    WE G c Γ (.Call (.Attribute o name apos) (e :: rest) [] pos) ρ σ P X := fun s Q E S q f => by
  refine MethodCall_ (he := hc) (h.seq S f fun v d σ1 h1 t1 p1 S1 f1 => ?_)
  obtain ⟨g, hg, hk, p1⟩ := p1
  refine hg ρ _ v pl { s with heap := h1, toks := t1 } _ E (.head _) S1 ?_
  exact callWith_W (first := [v]) (fd := [d]) (s := { s with heap := h1, toks := t1 }) hk rfl (fun p hp => by simp at hp; rw [hp]; exact .head _) he hplain (p1 v) S1 (fun u k σ3 h3 t3 p3 S3 => q u k σ3 h3 t3 p3 (S3.weaken (keep_res (L := [(v, d)])))) f1
theorem WE_meth0 {o : Expr} {name : Str} {apos pos : Pos} {pl : Sem Bool}
    (hc : eval (.Call (.Attribute o name apos) [] [] pos) c.env = (do
      let ov ← eval o c.env
      standAt apos.atName
      let (f, first) ← holding [ov] (getMethod ov name pl)
      callWith pos f first (backTo pos (starEach [] c.env)) []))
    (h : WE G c Γ o ρ σ (fun d σ' => ∃ f, GM G c name d σ' f ∧ Callee G f ∧ Wn G c (fun vs => call f vs) [d] ρ σ' P X) X) :
    WE G c Γ (.Call (.Attribute o name apos) [] [] pos) ρ σ P X := fun s Q E S q f => by
  refine MethodCall_ (he := hc) (h.seq S f fun v d σ1 h1 t1 p1 S1 f1 => ?_)
  obtain ⟨g, hg, hk, p1⟩ := p1
  refine hg ρ _ v pl { s with heap := h1, toks := t1 } _ E (.head _) S1 ?_
  exact callWith_W0 (first := [v]) (fd := [d]) (s := { s with heap := h1, toks := t1 }) hk rfl (fun p hp => by simp at hp; rw [hp]; exact .head _) p1 S1 (fun u k σ3 h3 t3 p3 S3 => q u k σ3 h3 t3 p3 (S3.weaken (keep_res (L := [(v, d)])))) f1
/-- own methods -/
noncomputable def methOk (K : Frag) (C : Addr) (name : Str) (f : Addr) : Bool := plainGet K C name && findIn K (.ref C) name == some (some (.ref f)) && isFn K (.ref f)
theorem gm_own {a C dx f : Addr} {name : Str} {fs : List (Str × D)} (hi : isObj σ a C dx) (hf : σ dx = some (.flds fs)) (hk : methOk G.K C name f = true) (e : fs.lookup name = none) : GM G c name (.ref a) σ (.ref f) :=
  fun ρ Γ v pl s Q E hv S q => by
    obtain rfl := S.isRef hv
    obtain ⟨N, FS, m, S⟩ := S
    obtain ⟨es, n, hd, he⟩ := S.re dx _ hf
    obtain ⟨ox, I, _⟩ := inst_at (o := .list []) S hi hd
    unfold methOk at hk
    simp only [Bool.and_eq_true, beq_iff_eq] at hk
    exact method_inst S.fr G.X I hk.1.1 hk.1.2 hk.2 (entries_none he e) q
/-- a def of the text called -/
theorem Wn_fn {n k : Nat} {f : Value} {ds : List D} (F : c.Ok n) (hk : k ≤ n) (h : FnC G HN k f ds σ P X) : Wn G c (fun vs => call f vs) ds ρ σ P X :=
  fun Γ vs hl hz s Q E S q fl => wpAny_call (h c ρ Γ vs s _ F.toFn (F.room.le hk) F.hd S hl hz (fun v d σ' h tk p S' => q v d σ' h tk p S') fun e x σ' h tk p S' => fl e x .fly ρ σ' h tk ⟨rfl, p⟩ S')
end
end Mine
set_option maxHeartbeats 1000000
namespace Mine
open PySem PySem.W PySem.Calls PyProof.Rows
noncomputable def Cx.hand (c : Cx) (e : Addr) : Cx := { c with A := c.A.mark (some (.ref e)) }
theorem Cx.Fn.hand {c : Cx} (F : c.Fn) (e : Addr) : (c.hand e).Fn := ⟨F.frames, F.frame, F.kind, F.real⟩
noncomputable def Loc.del (ρ : Loc) (x : Str) : Loc := fun y => if y = x then none else ρ y
section
variable {G : Gl} {c : Cx} {Γ : Pairs} {ρ : Loc} {σ : Sto} {P : D → Sto → Prop} {X : XP} {R : FP} {Y : XF} {h : Heap} {N FS : Led} {m : Str → Option Value}
/-- a statement of a handler: the exception is at hand -/
noncomputable def WSX (G : Gl) (c : Cx) (Γ : Pairs) (t : Sem Flow) (ρ : Loc) (σ : Sto) (e : Addr) (x : Ex) (P : FP) (X : XF) : Prop :=
  ∀ (s : Shared) (Q : Flow → Shared → Prop) (E : Value → Shared → Prop), StX G c σ ρ Γ e x .fly s.heap →
    Done G c Γ s P Q → Fail G c Γ s X E → wpAny G.M c.A t Q E s
theorem WSX.of {t : Sem Flow} {e : Addr} {x : Ex} (h : WS G c Γ t ρ σ R Y) : WSX G c Γ t ρ σ e x R Y := fun s Q E S => h s Q E S.st
/-- an exception's class read: no step changes anything -/
noncomputable def EvC (G : Gl) (c : Cx) (t : Expr) (v : Value) : Prop := ∀ (A : Around) (σ : Sto) (ρ : Loc) (Γ : Pairs) (s : Shared) (Q E : Value → Shared → Prop), St G c σ ρ Γ s.heap → Q v s → wpAny G.M A (eval t c.env) Q E s
theorem evC_glob {x : Str} {pos : Pos} {v : Value} (hk : c.env.scope.kind = .function) (hl : c.env.kindOf x = some .globalImplicit) (hg : c.env.globals = mainGlobals) (hd : (x == ("__debug__" : Str)) = false)
    (e : nsIn G.K mainGlobals x = some (some v)) : EvC G c (.Name x pos) v := fun A σ ρ Γ s Q E S q => by
  obtain ⟨N, FS, m, S⟩ := S
  exact Name_function_global hk hl (loadGlobal_global (env := c.env) (by rw [hg]; exact G.g.keeps S.fr.keep) (mg_of G.X G.g e) q) hd
theorem evC_boot {x : Str} {pos : Pos} {v : Value} (hk : c.env.scope.kind = .function) (hl : c.env.kindOf x = some .globalImplicit) (hg : c.env.globals = mainGlobals) (hb : c.env.builtins = builtinsNs) (hd : (x == ("__debug__" : Str)) = false)
    (e : nsIn G.K mainGlobals x = some none) (hv : bootBuiltins x = some v) (hn : x ≠ "__name__") : EvC G c (.Name x pos) v := fun A σ ρ Γ s Q E S q => by
  obtain ⟨N, FS, m, S⟩ := S
  exact Name_function_global hk hl (loadGlobal_builtin (env := c.env) (by rw [hg]; exact G.g.keeps S.fr.keep) (mg_none_of G.X G.g e) (by rw [hb]; exact G.b.keeps S.fr.keep) ((G.bi x hn).trans hv) q) hd
theorem excMatch {e : Addr} {x : Ex} {tb : Tb} {cv : Value} {b : Bool} {A : Around} {s : Shared} {Q : Bool → Shared → Prop} {E : Value → Shared → Prop} (S : StX G c σ ρ Γ e x tb s.heap) (hm : exmOne G.K x.cls cv = some b) (q : Q b s) :
    wpAny G.M A (excMatches (.ref e) cv) Q E s := by
  obtain ⟨N, FS, m, S, ho, oe, vs, v0, he, e1, r⟩ := S
  have LT : Looks G.M s.heap (typeOf (.ref e)) x.cls := by
    intro A' Q' E' s' k q'
    refine wpAny_typeOf_ref (k _ _ he) ?_
    rw [e1]; exact q'
  exact (exm_one (G.X.keeps S.fr.keep) LT hm).here q
theorem St.cx {c' : Cx} (S : St G c σ ρ Γ h) (e1 : c'.env = c.env := by rfl) (e2 : c'.stk = c.stk := by rfl) : St G c' σ ρ Γ h := by
  obtain ⟨N, FS, m, S⟩ := S
  obtain ⟨A', env', stk'⟩ := c'
  dsimp only at e1 e2
  subst e1 e2
  exact ⟨N, FS, m, S.fr, S.nw, S.nd, S.lo, S.re, S.sk, S.ga⟩
theorem StX.cx {c' : Cx} {e : Addr} {x : Ex} {tb : Tb} (S : StX G c σ ρ Γ e x tb h) (e1 : c'.env = c.env := by rfl) (e2 : c'.stk = c.stk := by rfl) : StX G c' σ ρ Γ e x tb h := by
  obtain ⟨N, FS, m, S, z⟩ := S
  obtain ⟨A', env', stk'⟩ := c'
  dsimp only at e1 e2
  subst e1 e2
  exact ⟨N, FS, m, ⟨S.fr, S.nw, S.nd, S.lo, S.re, S.sk, S.ga⟩, z⟩
theorem Wx_Try {body : List Stmt} {b₀ : Stmt} {hb : List Stmt} {t : Expr} {hpos pos : Pos} {cv : Value} {Z : XF} (F : c.Fn)
    (hbody : Wxs G c Γ body ρ σ R Z) (ht : EvC G c t cv) (hm : ∀ x ρ' σ', Z x ρ' σ' → exmOne G.K x.cls cv = some true)
    (hh : ∀ e x ρ' σ', Z x ρ' σ' → WSX G (c.hand e) Γ (execs (b₀ :: hb) c.env) ρ' σ' e x R Y) :
    Wx G c Γ (.Try body [.ExceptHandler (some t) none (b₀ :: hb) hpos] [] [] pos) ρ σ R Y := fun s Q E S q f => by
  refine wpAny_Try_except (hbody s _ _ S (fun fw fl Γ' ρ' σ' h1 t1 ok p S1 => ?_) fun e x tb ρ' σ' h1 t1 p S1 => ?_)
  · cases ok with
    | next => exact wpAny_execs_nil (q _ _ _ _ _ _ _ .next p S1)
    | brk => exact q _ _ _ _ _ _ _ .brk p S1
    | cont => exact q _ _ _ _ _ _ _ .cont p S1
    | ret v d => exact q _ _ _ _ _ _ _ (.ret v d) p S1
  · refine note_step (s := { s with heap := h1, toks := t1 }) F S1 fun h2 S2 => flight_step (s := { s with heap := h2, toks := t1 }) (by simp) none (.inl rfl) S2 fun h3 S3 => ?_
    rw [if_pos rfl] at S3
    refine wpAny_handleBy_cons (codeAny_handlers_test ?_) (by intro q; cases q)
    refine ht _ _ _ _ { s with heap := h3, toks := t1 } _ _ S3.st (excMatch S3 (hm _ _ _ p) ?_)
    rw [if_pos rfl]
    refine codeAny_handlers_suite (flight_step (s := { s with heap := h3, toks := t1 }) (by simp) none (.inl rfl) S3 fun h4 S4 => ?_)
    rw [if_pos rfl] at S4
    refine hh e x ρ' σ' p { s with heap := h4, toks := t1 } _ _ S4.cx (fun fw fl Γ' ρ'' σ'' h5 t5 ok p5 S5 => q fw fl Γ' ρ'' σ'' h5 t5 ok p5 S5.cx) fun e5 x5 tb5 ρ5 σ5 h5 t5 p5 S5 => ?_
    refine note_step (c := c.hand e) (s := { s with heap := h5, toks := t5 }) (F.hand e) S5 fun h6 S6 => ?_
    exact cameBack_step (c := c) (tb := .held) (s := { s with heap := h6, toks := t5 }) F (by simp) S6.cx fun h7 S7 => f e5 x5 .held ρ5 σ5 h7 t5 p5 S7
/-- a caught exception becomes an object of the call's own -/
theorem StX.own {e : Addr} {x : Ex} {tb : Tb} {C dx : Addr} (S : StX G c σ ρ Γ e x tb h) (hc : x.cls = .ref C) (hd : x.dict = some dx) : St G c (σ.put e (.exc C dx x.a0)) ρ ((.ref e, .ref e) :: Γ) h ∧ σ e = none := by
  obtain ⟨N, FS, m, S, ho, oe, vs, v0, he, e1, e2, hdd, hsz, h0, hr, ht⟩ := S
  have hne : σ e = none := by
    cases z : σ e with
    | none => rfl
    | some o => obtain ⟨y, hy⟩ := (S.re e o z).in; exact absurd (List.mem_map.mpr ⟨_, List.mem_append_left _ hy, rfl⟩) ho.2.2
  have W : News G.h₀ c.env.locals h ((e, oe) :: (N ++ FS)) := fun p hp => by
    rcases List.mem_cons.mp hp with rfl | hp
    · exact ⟨he, ho.2.1, ho.1⟩
    · exact S.nw p hp
  have S1 : StN G c σ ρ Γ h ((e, oe) :: N) FS m := S.to S.fr W (List.nodup_cons.mpr ⟨ho.2.2, S.nd⟩) (Sub.cons _ _) fun b y hb => (S.re b y hb).mono (Sub.cons _ _) fun z hz => List.mem_cons_of_mem _ hz
  have hoe : oe = ⟨.ref C, some dx, .fields vs, oe.slots⟩ := by
    obtain ⟨a, b, d, sl⟩ := oe
    dsimp only at e1 e2 hdd
    rw [e1, hc, e2, hd, hdd]
  refine ⟨((S1.putO (o := .exc C dx x.a0) ⟨vs, oe.slots, v0, ?_, hsz, h0.1, hr.mono (Sub.cons _ _)⟩).put (.ref e)).st, hne⟩
  rw [← hoe]; exact .head _
theorem WU_del {n : Str} {d : D} {P : Loc → Sto → Prop} (e : ρ n = some d) (hk : c.env.scope.kind = .function) (hl : c.env.kindOf n = some .local) (h : P (ρ.del n) σ) : WU G c Γ (unbindName c.env n) ρ σ P Y :=
  fun s Q E S q _ => by
    obtain ⟨N, FS, m, S⟩ := S
    obtain ⟨v, hv, r⟩ := S.lo n d e
    refine wpAny_unbindName_local hl S.fr.ns hv (by rw [hk]; rfl) fun h' u hn hs => q _ σ h' s.toks h ⟨N, FS, _, { S with fr := S.fr.set hn hs, nw := S.nw.set hs, lo := ?_ }⟩
    intro y e' hy
    unfold Loc.del at hy
    split at hy
    · cases hy
    · rename_i q'; rw [if_neg q']; exact S.lo y e' hy
theorem Wx_TryAs {body : List Stmt} {b₀ : Stmt} {hb : List Stmt} {t : Expr} {n : Str} {hpos pos : Pos} {cv : Value} {Z : XF} (F : c.Fn) (hl : c.env.kindOf n = some .local)
    (hbody : Wxs G c Γ body ρ σ R Z) (ht : EvC G c t cv) (hm : ∀ x ρ' σ', Z x ρ' σ' → exmOne G.K x.cls cv = some true)
    (hh : ∀ e x ρ' σ', Z x ρ' σ' → σ' e = none → ∃ C dx, x.cls = .ref C ∧ x.dict = some dx ∧ Wxs G (c.hand e) Γ (b₀ :: hb) (ρ'.put n (.ref e)) (σ'.put e (.exc C dx x.a0)) (fun f ρ'' σ'' => ρ'' n ≠ none ∧ R f ((ρ''.put n .none).del n) σ'') (fun _ _ _ => False)) :
    Wx G c Γ (.Try body [.ExceptHandler (some t) (some n) (b₀ :: hb) hpos] [] [] pos) ρ σ R Y := fun s Q E S q f => by
  refine wpAny_Try_except (hbody s _ _ S (fun fw fl Γ' ρ' σ' h1 t1 ok p S1 => ?_) fun e x tb ρ' σ' h1 t1 p S1 => ?_)
  · cases ok with
    | next => exact wpAny_execs_nil (q _ _ _ _ _ _ _ .next p S1)
    | brk => exact q _ _ _ _ _ _ _ .brk p S1
    | cont => exact q _ _ _ _ _ _ _ .cont p S1
    | ret v d => exact q _ _ _ _ _ _ _ (.ret v d) p S1
  · refine note_step (s := { s with heap := h1, toks := t1 }) F S1 fun h2 S2 => flight_step (s := { s with heap := h2, toks := t1 }) (by simp) none (.inl rfl) S2 fun h3 S3 => ?_
    rw [if_pos rfl] at S3
    refine wpAny_handleBy_cons (codeAny_handlers_test ?_) (by intro q; cases q)
    refine ht _ _ _ _ { s with heap := h3, toks := t1 } _ _ S3.st (excMatch S3 (hm _ _ _ p) ?_)
    rw [if_pos rfl]
    refine codeAny_handlers_suite_as (flight_step (s := { s with heap := h3, toks := t1 }) (by simp) none (.inl rfl) S3 fun h4 S4 => ?_)
    rw [if_pos rfl] at S4
    have hnone : σ' e = none := by
      obtain ⟨N, FS, m, S, ho, _⟩ := S4
      cases z : σ' e with
      | none => rfl
      | some o => obtain ⟨y, hy⟩ := (S.re e o z).in; exact absurd (List.mem_map.mpr ⟨_, List.mem_append_left _ hy, rfl⟩) ho.2.2
    obtain ⟨C, dx, hc, hd, k⟩ := hh e x ρ' σ' p hnone
    have S5 := (S4.own hc hd).1
    refine WU_store (c := c.hand e) (Γ := (.ref e, .ref e) :: Γ) (Y := fun _ _ _ => False) (P := fun ρ5 σ5 => ρ5 = ρ'.put n (.ref e) ∧ σ5 = σ'.put e (.exc C dx x.a0)) (.head _) F.kind hl ⟨rfl, rfl⟩ { s with heap := h4, toks := t1 } _ _ S5.cx (fun ρ5 σ5 h5 t5 p5 S6 => ?_) .none
    obtain ⟨rfl, rfl⟩ := p5
    refine k { s with heap := h5, toks := t5 } _ _ S6.tail (fun fw fl Γ' ρ'' σ'' h6 t6 ok p6 S7 => ?_) .none
    obtain ⟨hn, p6⟩ := p6
    refine wpAny_bind (wpAny_bindName ?_)
    have go : WU G c Γ' (storeName c.env n .none) ρ'' σ'' (fun ρ7 σ7 => ρ7 = ρ''.put n .none ∧ σ7 = σ'') (fun _ _ _ => False) := by
      intro s Q E S q f
      exact WU_store (Γ := (.none, .none) :: Γ') (Y := fun _ _ _ => False) (P := fun ρ7 σ7 => ρ7 = ρ''.put n .none ∧ σ7 = σ'') (.head _) F.kind hl ⟨rfl, rfl⟩ s Q E (S.put_plain fun _ => .none) (fun ρ8 σ8 h8 t8 p8 S8 => q ρ8 σ8 h8 t8 p8 S8.tail) .none
    refine go { s with heap := h6, toks := t6 } _ _ S7.cx (fun ρ7 σ7 h7 t7 p7 S8 => ?_) .none
    obtain ⟨rfl, rfl⟩ := p7
    refine wpAny_onRaise (WU_del (Y := fun _ _ _ => False) (P := fun ρ8 σ8 => ρ8 = (ρ''.put n .none).del n ∧ σ8 = σ7) (d := .none) (by simp [Loc.put]) F.kind hl ⟨rfl, rfl⟩ { s with heap := h7, toks := t7 } _ _ S8 (fun ρ8 σ8 h8 t8 p8 S9 => ?_) .none)
    obtain ⟨rfl, rfl⟩ := p8
    exact q fw fl Γ' _ _ h8 t8 ok p6 S9
-- o.x = v
-- x[i]
theorem WE_sub {value slice : Expr} {pos : Pos} (h : WE G c Γ value ρ σ (fun d σ' => ∀ v, WE G c ((v, d) :: Γ) slice ρ σ' (fun e σ'' => W2 G c (subscriptTail value slice) d e ρ σ'' P X) X) X) : WE G c Γ (.Subscript value slice pos) ρ σ P X :=
  fun s Q E S q f => Subscript_ (h.seq S f fun v d σ1 h1 t1 p1 S1 f1 => (p1 v).seq (s := { s with heap := h1, toks := t1 }) S1 f1 fun w e σ2 h2 t2 p2 S2 f2 =>
    (p2 _ v w (.tail _ (.head _)) (.head _)).seq (s := { s with heap := h2, toks := t2 }) S2 f2 fun u k σ3 h3 t3 p3 S3 _ => q u k σ3 h3 t3 p3 (S3.weaken (keep_res (L := [(w, e), (v, d)]))))
/-- an exception of a built-in class, made new -/
theorem StN.newExc {cls : String} {e : Addr} {h' : Heap} (S : StN G c σ ρ Γ h N FS m) (x : Heap.NewExc h h' e cls) : ∃ z : Ex, z.cls = .type cls ∧ z.ctx = .none ∧ StX G c σ ρ Γ e z .new h' := by
  obtain ⟨ob, t, h1, h2, h3⟩ := x.there
  exact ⟨⟨.type cls, ob.dict, .none, .none⟩, rfl, rfl, N, FS, m, S.off fun b o _ hb => x.keeps b o hb, S.fresh x.new, ob, _, t, h1, h2, rfl, h3, by simp, ⟨rfl, rfl⟩, .inl rfl, rfl⟩
/-- the place that an index means -/
noncomputable def at? (n : Nat) (i : Int) : Option Nat := if 0 ≤ i ∧ i < n then some i.toNat else if i < 0 ∧ -(n : Int) ≤ i then some (i + n).toNat else none
theorem sub_str {value slice : Expr} {l : List Nat} {i : Int} (h0 : c.h0) (hr : -1000000 ≤ i ∧ i ≤ 1000000) (hl : l.length ≤ 1000000)
    (hs : ∀ x t u, subscripted slice false (.str x t) (.int i u) = operate [.str x t, .int i u] (getItem (.str x t) (.int i u))) (ht : ∀ x t r, letTemporaryGo value (.str x t) r = pure ())
    (hin : ∀ k a, at? l.length i = some k → l[k]? = some a → P (.str [a]) σ) (hout : at? l.length i = none → ∀ x : Ex, x.cls = .type "IndexError" → x.ctx = .none → X x σ) :
    W2 G c (subscriptTail value slice) (.str l) (.int i) ρ σ P X := fun Γ v w hv hw s Q E S q f => by
  obtain ⟨x, t, rfl, e⟩ := S.isStr hv; obtain ⟨u, rfl⟩ := S.isInt hw
  have hx := str_len e
  refine item_str_or h0 (by simp [fitsSsize]; omega) (fun ho h' tk ex hn => ?_) (fun h1 h2 => ?_) (hs x t u) (ht x t)
  · obtain ⟨N, FS, m, S⟩ := S
    obtain ⟨z, z1, z2, SX⟩ := S.newExc hn
    refine f ex z .new ρ σ h' tk ⟨rfl, hout ?_ z z1 z2⟩ SX
    unfold at?
    rw [if_neg (by omega), if_neg (by omega)]
  · have hk : ∃ k, at? l.length i = some k ∧ seqIndex? i x.length = some k ∧ k < l.length := by
      by_cases z : 0 ≤ i
      · exact ⟨i.toNat, by unfold at?; rw [if_pos (by omega)], seqIndex_of z (by omega), by omega⟩
      · refine ⟨(i + l.length).toNat, by unfold at?; rw [if_neg (by omega), if_pos (by omega)], ?_, by omega⟩
        rw [hx]; exact PySem.seqIndex_neg (by omega) (by omega)
    obtain ⟨k, k1, k2, k3⟩ := hk
    have e3 : l[k]? = some (l[k]) := List.getElem?_eq_getElem k3
    have e4 : (Txt.item x i).cps.toList = [l[k]] := by
      unfold Txt.item Txt.charAt
      rw [k2]
      have : x.cps[k]? = some l[k] := by rw [← e3, ← e]; simp
      simp [this]
    exact q _ _ σ s.heap _ (hin k _ k1 e3) (S.put_plain fun _ => .str e4)
end
end Mine
set_option maxHeartbeats 1000000
namespace Mine
open PySem PySem.W PySem.Calls PyProof.Rows
namespace Latin
open Builtin
theorem forIn_list_inv {α β : Type} (f : α → β → Sem (ForInStep β)) (I : Nat → β) : ∀ (l : List α) (k : Nat), (∀ i x, i < k + l.length → f x (I i) = pure (.yield (I (i + 1)))) → forIn l (I k) f = pure (I (k + l.length))
  | [], k, _ => by rw [List.forIn_nil]; rfl
  | a :: l, k, h => by
    rw [List.forIn_cons, h k a (by simp), pure_bind]
    dsimp only
    rw [forIn_list_inv f I l (k + 1) (fun i x hi => h i x (by simp only [List.length_cons]; omega))]
    simp only [List.length_cons]
    congr 2; omega
theorem forIn_range_inv {β : Type} (f : Nat → β → Sem (ForInStep β)) (I : Nat → β) (n : Nat) (h : ∀ i x, i < n → f x (I i) = pure (.yield (I (i + 1)))) : forIn [:n] (I 0) f = pure (I n) := by
  rw [Std.Legacy.Range.forIn_eq_forIn_range']
  have e : (List.range' [:n].start [:n].size [:n].step).length = n := by simp [Std.Legacy.Range.size]
  have := forIn_list_inv f I (List.range' [:n].start [:n].size [:n].step) 0 (fun i x hi => h i x (by omega))
  rw [e] at this
  simpa using this
theorem run_latin (id : String) (b : Array UInt8) (hz : b.size ≤ sizeLine) : _codecs.runDecoder id _codecs.latin1Decoder none true b 0 [] = pure ((b.toList.map UInt8.toNat).toArray, b.size) := by
  unfold _codecs.runDecoder
  have := forIn_range_inv (β := Nat × Array Nat × _codecs.Faults) (fun x __s => 
            if __s.snd.fst.size > sizeLine then do
              unsupported "str:memory"
              if __s.fst ≥ b.size then pure (ForInStep.done (__s.fst, __s.snd.fst, __s.snd.snd))
                else
                  match _codecs.latin1Decoder.find true b __s.fst with
                  | _codecs.Found.text cs nx => pure (ForInStep.yield (nx, __s.snd.fst ++ cs.toArray, __s.snd.snd))
                  | _codecs.Found.refuse tag => do
                    unsupported (toString id ++ toString ":" ++ toString tag)
                    pure (ForInStep.yield (__s.fst, __s.snd.fst, __s.snd.snd))
                  | _codecs.Found.bad stop reason mayGrow =>
                    if (mayGrow && !true) = true then do
                      PySem.rule (toString id ++ toString ".held-back")
                      pure (ForInStep.done (__s.fst, __s.snd.fst, __s.snd.snd))
                    else do
                      PySem.rule (toString id ++ toString ".fault")
                      let __x ←
                        _codecs.decodeFault id __s.snd.snd none _codecs.latin1Decoder.own _codecs.latin1Decoder.name b
                            __s.fst stop reason
                      pure (ForInStep.yield (__x.2.snd, __s.snd.fst ++ __x.2.fst, __x.fst))
            else
              if __s.fst ≥ b.size then pure (ForInStep.done (__s.fst, __s.snd.fst, __s.snd.snd))
              else
                match _codecs.latin1Decoder.find true b __s.fst with
                | _codecs.Found.text cs nx => pure (ForInStep.yield (nx, __s.snd.fst ++ cs.toArray, __s.snd.snd))
                | _codecs.Found.refuse tag => do
                  unsupported (toString id ++ toString ":" ++ toString tag)
                  pure (ForInStep.yield (__s.fst, __s.snd.fst, __s.snd.snd))
                | _codecs.Found.bad stop reason mayGrow =>
                  if (mayGrow && !true) = true then do
                    PySem.rule (toString id ++ toString ".held-back")
                    pure (ForInStep.done (__s.fst, __s.snd.fst, __s.snd.snd))
                  else do
                    PySem.rule (toString id ++ toString ".fault")
                    let __x ←
                      _codecs.decodeFault id __s.snd.snd none _codecs.latin1Decoder.own _codecs.latin1Decoder.name b
                          __s.fst stop reason
                    pure (ForInStep.yield (__x.2.snd, __s.snd.fst ++ __x.2.fst, __x.fst)))
      (fun i => (i, ((b.toList.take i).map UInt8.toNat).toArray, { held := [] })) b.size (fun i x hi => by
        have h1 : ¬ (((b.toList.take i).map UInt8.toNat).toArray.size > sizeLine) := by simp; omega
        have h2 : ¬ (i ≥ b.size) := by omega
        dsimp only
        rw [if_neg h1, if_neg h2]
        have e : ((b.toList.take i).map UInt8.toNat).toArray ++ [(b.getD i 0).toNat].toArray = ((b.toList.take (i + 1)).map UInt8.toNat).toArray := by
          rw [List.append_toArray, List.take_add_one, List.map_append]
          congr 2
          have hb : i < b.toList.length := by simp; omega
          rw [List.getElem?_eq_getElem hb]
          simp [Array.getD, show i < b.size by omega]
        rw [← e]
        rfl)
  have e0 : ((b.toList.take 0).map UInt8.toNat).toArray = #[] := rfl
  rw [e0] at this
  refine (congrArg (fun t => t >>= fun __s => pure (__s.snd.fst, __s.fst)) this).trans ?_
  rw [pure_bind]
  dsimp only
  rw [List.take_of_length_le (by simp)]
theorem tree1 (b : Array UInt8) (t u : Tok) : «str.__new__» ⟨[.type "str", .bytes b t, .str (PySem.Str.ofString "latin1") u], []⟩ =
  (mkStr (PySem.Str.ofString "latin1") >>= fun e => PySem.rule "str.__new__.decode-bytes" >>= fun _ => call (.builtin "bytes.decode") [.bytes b t] [(PySem.Str.ofString "encoding", e)] >>= fun v => ret v) := by kernel_rfl
theorem tree2 (c : UInt8) (cs : List UInt8) (t u : Tok) : «bytes.decode» ⟨[.bytes (c :: cs).toArray t], [(PySem.Str.ofString "encoding", .str (PySem.Str.ofString "latin1") u)]⟩ =
  (mkStr (PySem.Str.ofString "utf-8") >>= fun _ => mkStr (PySem.Str.ofString "latin1") >>= fun e => mkStr (PySem.Str.ofString "bytes.decode") >>= fun d =>
    call (.builtin "_codecs.decode.text") [.bytes (c :: cs).toArray t, e, .none, d] >>= fun v => ret v) := by kernel_rfl
theorem tree3 (t u : Tok) : «bytes.decode» ⟨[.bytes #[] t], [(PySem.Str.ofString "encoding", .str (PySem.Str.ofString "latin1") u)]⟩ =
  (PySem.rule "bytes.decode.empty" >>= fun _ => retStr PySem.Str.empty) := by kernel_rfl
theorem road (b : Array UInt8) (id : String) : _codecs.decodeRoad id b (PySem.Str.ofString "latin1") none [] = (_codecs.runDecoder id _codecs.latin1Decoder none true b 0 [] >>= fun r => mkStr ⟨r.1⟩) := by kernel_rfl
theorem tc (a c : Value) : checkTypeCall "str" ⟨[a, c], []⟩ = pure () := by kernel_rfl
theorem tn (a c : Value) : checkBuiltinCall "str.__new__" ⟨[.type "str", a, c], []⟩ = pure () := by kernel_rfl
theorem ti (obj a c : Value) : argsOk "object.__init__" ⟨obj :: [a, c], []⟩ := by unfold argsOk; kernel_rfl
theorem td (a c : Value) : argsOk "bytes.decode" ⟨[a], [(PySem.Str.ofString "encoding", c)]⟩ := by unfold argsOk; kernel_rfl
theorem meets_text (b : Array UInt8) (t t1 t2 : Tok) (d : Str) (hz : b.size ≤ sizeLine) :
    Meets («_codecs.decode.text» ⟨[.bytes b t, .str (PySem.Str.ofString "latin1") t1, .none, .str d t2], []⟩) (fun _ R s => R (.ok (.ret (.str ⟨(b.toList.map UInt8.toNat).toArray⟩ s.toks))) { s with toks := s.toks + 1 }) := by
  refine .of_wp fun prog w A R s h => ?_
  show wpAny _ _ (Bytes.bytesLike _ (.bytes b t) >>= fun r => _) _ _ s
  refine wpAny_bind (wpAny_of_eq KBd.like_eq ?_)
  refine wpAny_bind (wpAny_of_eq KBd.held_eq ?_)
  show wpAny _ _ (_codecs.decodeRoad _ b (PySem.Str.ofString "latin1") none [] >>= fun v => _) _ _ s
  rw [road, run_latin _ _ hz]
  refine wpAny_bind (wpAny_bind (wpAny_pure ?_))
  exact wpAny_mkStr (wpAny_pure ⟨_, rfl, h⟩) (by show (List.map UInt8.toNat b.toList).toArray.size ≤ sizeLine; simpa using hz)
section
variable {prog : Program} {w : World} {A : Around} {E : Value → Shared → Prop} {s : Shared}
theorem decode (b : Array UInt8) (t u : Tok) {Q : Value → Shared → Prop} (hz : b.size ≤ sizeLine) (h : ∀ t' k, Q (.str ⟨(b.toList.map UInt8.toNat).toArray⟩ t') { s with toks := k }) :
    wpAny (model prog w) A (call (.builtin "bytes.decode") [.bytes b t] [(PySem.Str.ofString "encoding", .str (PySem.Str.ofString "latin1") u)]) Q E s := by
  refine wpAny_call_entry_kw FB.slot_bytes_decode (typeIs_bytes _ _ _) FB.entry_bytes_decode ?_ (td _ _)
  obtain ⟨l⟩ := b
  cases l with
  | nil =>
    rw [tree3]
    exact wpAny_bind (wpAny_rule (wpAny_bind (wpAny_mkStr (wpAny_pure ⟨_, rfl, h _ _⟩) (by decide))))
  | cons c cs =>
    rw [tree2]
    refine wpAny_bind (wpAny_mkStr ?_ (by decide))
    refine wpAny_bind (wpAny_mkStr ?_ (by decide))
    refine wpAny_bind (wpAny_mkStr ?_ (by decide))
    exact wpAny_bind (call_function_meets KBd.kind_text KBd.plain_text KBd.entry_text (KBd.args_text _ _ _ _) (meets_text _ _ _ _ _ hz) (wpAny_pure ⟨_, rfl, h _ _⟩))
theorem str_latin (b : Array UInt8) (t u : Tok) {Q : Value → Shared → Prop} (hz : b.size ≤ sizeLine) (h : ∀ t' k, Q (.str ⟨(b.toList.map UInt8.toNat).toArray⟩ t') { s with toks := k }) :
    wpAny (model prog w) A (call (.type "str") [.bytes b t, .str (PySem.Str.ofString "latin1") u]) Q E s := by
  refine callType_new F.called_str (by decide) (tc _ _) (tn _ _) (fun obj => ti obj _ _) F.entry_str_new
    (Meets.of_wp (S := fun A R s => ∀ t' k, R (.ok (.ret (.str ⟨(b.toList.map UInt8.toNat).toArray⟩ t'))) { s with toks := k }) fun prog w A R s hS => ?_) fun t' k => ⟨typeIs_str _ _ _, h t' k⟩
  rw [tree1]
  refine wpAny_bind (wpAny_mkStr ?_ (by decide))
  refine wpAny_bind (wpAny_rule ?_)
  exact wpAny_bind (decode b t _ hz fun t' k => wpAny_pure ⟨_, rfl, hS t' k⟩)
end
end Latin
end Mine
set_option maxHeartbeats 1000000
namespace Mine
open PySem PySem.W PySem.Calls PyProof.Rows
section
variable {G : Gl} {c : Cx} {Γ : Pairs} {ρ : Loc} {σ : Sto} {P : D → Sto → Prop} {X : XP} {h : Heap} {N FS : Led} {m : Str → Option Value}
theorem wn1 {f : List Value → Sem Value} {d : D} (h : W1 G c (fun v => f [v]) d ρ σ P X) : Wn G c f [d] ρ σ P X := fun Γ vs hl hz => by
  obtain ⟨v, rfl⟩ := len1 hl
  exact h Γ v (hz _ (.head _))
theorem wn2 {f : List Value → Sem Value} {d e : D} (h : W2 G c (fun v w => f [v, w]) d e ρ σ P X) : Wn G c f [d, e] ρ σ P X := fun Γ vs hl hz => by
  obtain ⟨v, w, rfl⟩ := len2 hl
  exact h Γ v w (hz _ (.head _)) (hz _ (.tail _ (.head _)))
noncomputable def W3 (G : Gl) (c : Cx) (f : Value → Value → Value → Sem Value) (d e g : D) (ρ : Loc) (σ : Sto) (P : D → Sto → Prop) (X : XP) : Prop :=
  ∀ Γ v w u, (v, d) ∈ Γ → (w, e) ∈ Γ → (u, g) ∈ Γ → WV G c Γ (f v w u) ρ σ P X
theorem wn3 {f : List Value → Sem Value} {d e g : D} (h : W3 G c (fun v w u => f [v, w, u]) d e g ρ σ P X) : Wn G c f [d, e, g] ρ σ P X := fun Γ vs hl hz => by
  obtain ⟨v, w, u, rfl⟩ := len3 hl
  exact h Γ v w u (hz _ (.head _)) (hz _ (.tail _ (.head _))) (hz _ (.tail _ (.tail _ (.head _))))
noncomputable def W4 (G : Gl) (c : Cx) (f : Value → Value → Value → Value → Sem Value) (d e g k : D) (ρ : Loc) (σ : Sto) (P : D → Sto → Prop) (X : XP) : Prop :=
  ∀ Γ v w u z, (v, d) ∈ Γ → (w, e) ∈ Γ → (u, g) ∈ Γ → (z, k) ∈ Γ → WV G c Γ (f v w u z) ρ σ P X
theorem wn4 {f : List Value → Sem Value} {d e g k : D} (h : W4 G c (fun v w u z => f [v, w, u, z]) d e g k ρ σ P X) : Wn G c f [d, e, g, k] ρ σ P X := fun Γ vs hl hz => by
  obtain ⟨v, w, u, z, rfl⟩ := len4 hl
  exact h Γ v w u z (hz _ (.head _)) (hz _ (.tail _ (.head _))) (hz _ (.tail _ (.tail _ (.head _)))) (hz _ (.tail _ (.tail _ (.tail _ (.head _)))))
theorem len_str' {l : List Nat} (hl : l.length ≤ 1000000) (h : P (.int l.length) σ) : Wn G c (fun vs => call (.builtin "len") vs) [.str l] ρ σ P X := wn1 fun Γ v hv s Q E S q _ => by
  obtain ⟨x, t, rfl, e⟩ := S.isStr hv
  have hx := str_len e
  exact SBL.len (by omega) (by rw [hx]; exact q _ _ σ s.heap _ h (S.put_plain fun _ => .int _ _))
theorem bytes_size {b : Array UInt8} {l : List Nat} (e : b.toList.map UInt8.toNat = l) : b.size = l.length := by rw [← e]; simp
theorem len_bytes' {l : List Nat} (hl : l.length ≤ 1000000) (h : P (.int l.length) σ) : Wn G c (fun vs => call (.builtin "len") vs) [.bytes l] ρ σ P X := wn1 fun Γ v hv s Q E S q _ => by
  obtain ⟨b, t, rfl, e⟩ := S.isBytes hv
  have hx := bytes_size e
  refine KBw.len_K (ks := KBw.bInts b) rfl ?_ ?_
  · rw [KBw.ints_length]; omega
  · rw [KBw.ints_length, hx]
    exact q _ _ σ s.heap _ h (S.put_plain fun _ => .int _ _)
theorem len_list' {a : Addr} {ds : List D} (ha : σ a = some (.list ds)) (hl : ds.length ≤ 1000000) (h : P (.int ds.length) σ) : Wn G c (fun vs => call (.builtin "len") vs) [.ref a] ρ σ P X := wn1 fun Γ v hv s Q E S q _ => by
  obtain rfl := S.isRef hv
  have S0 := S
  obtain ⟨N, FS, m, S⟩ := S
  obtain ⟨vs, n, h1, h2⟩ := S.re a _ ha
  exact KM.len_K S.nw (List.mem_append_left _ h1) (n := ds.length) (by simp [h2.length]) (by omega) (q _ _ σ s.heap _ h (S0.put_plain fun _ => .int _ _))
theorem isi_str {l : List Nat} (h : P (.bool true) σ) : Wn G c (fun vs => call (.builtin "isinstance") vs) [.str l, .con (.type "str")] ρ σ P X := wn2 fun Γ v w hv hw s Q E S q _ => by
  obtain ⟨x, t, rfl, e⟩ := S.isStr hv
  obtain rfl := S.isCon hw
  exact call_isinstance_yes (typeIs_str s x t) meta_str sub_str_str (q _ _ σ s.heap _ h (S.put_plain fun _ => .bool _))
theorem sub_bytes_str : isSubtype (.type "bytes") (.type "str") = pure false := by rw [isSubtype_type]; kernel_rfl
theorem isi_bytes {l : List Nat} (h : P (.bool false) σ) : Wn G c (fun vs => call (.builtin "isinstance") vs) [.bytes l, .con (.type "str")] ρ σ P X := wn2 fun Γ v w hv hw s Q E S q _ => by
  obtain ⟨x, t, rfl, e⟩ := S.isBytes hv
  obtain rfl := S.isCon hw
  refine call_isinstance_of ?_
  have q' := q (.bool false) _ σ s.heap (s.toks + 1) h (S.put_plain fun _ => .bool _)
  obtain ⟨hh, g, d, tk, os⟩ := s
  exact isinstance_nested_false_bytes (by decide) meta_str sub_bytes_str q'
theorem latin' {l : List Nat} (hl : l.length ≤ 1000000) (h : P (.str l) σ) : Wn G c (fun vs => call (.type "str") vs) [.bytes l, .str [108, 97, 116, 105, 110, 49]] ρ σ P X := wn2 fun Γ v w hv hw s Q E S q _ => by
  obtain ⟨x, t, rfl, e⟩ := S.isBytes hv
  obtain ⟨y, u, rfl, e'⟩ := S.isStr hw
  have hy : y = PySem.Str.ofString "latin1" := (str_eq e').trans (by decide +kernel)
  subst hy
  exact Latin.str_latin x t u (by rw [sizeLine_eq, bytes_size e]; omega) fun t' k => q _ _ σ s.heap k h (S.put_plain fun _ => .str (by simpa using e))
end
end Mine
set_option maxHeartbeats 1000000
namespace Mine
open PySem PySem.W PySem.Calls PyProof.Rows
/-- an exception class of the text: its mro, its maker -/
noncomputable def excIn (K : Frag) (C : Addr) (bm : List Value) (newId : String) : Bool := match K.lookup C with
  | some o => o.cls == .type "type" && (match o.data with
    | .cls cd => cd.mro == .ref C :: bm && !cd.hasDel && cd.hasDict
    | _ => false) && o.slots.size == 6 && o.slots[4]? == some (some (.builtin newId))
  | none => false
theorem exc_cls {K : Frag} {h : Heap} {C : Addr} {bm : List Value} {newId : String} (X : K.In h) (q : excIn K C bm newId = true) : ∃ nm qn N bs sn sub ab col dd k0 k1 k2 k3 k5,
    h.get? C = some (excClassObj nm qn C N bs bm true sn sub ab col dd k0 k1 k2 k3 k5 newId) := by
  unfold excIn at q
  cases ho : K.lookup C with
  | none => rw [ho] at q; cases q
  | some o =>
    rw [ho] at q
    obtain ⟨cls, dd, dat, ⟨l⟩⟩ := o
    dsimp only at q
    obtain ⟨q1, h4⟩ := Bool.and_eq_true_iff.mp q
    obtain ⟨q2, hz⟩ := Bool.and_eq_true_iff.mp q1
    obtain ⟨hc, q3⟩ := Bool.and_eq_true_iff.mp q2
    clear q q1 q2
    obtain rfl := beq_iff_eq.mp hc
    cases dat with
    | cls cd =>
      obtain ⟨q4, hdi⟩ := Bool.and_eq_true_iff.mp q3
      obtain ⟨hm, hdel⟩ := Bool.and_eq_true_iff.mp q4
      clear q3 q4
      replace hm := beq_iff_eq.mp hm
      replace hdel : cd.hasDel = false := by cases z : cd.hasDel with
        | false => rfl
        | true => rw [z] at hdel; cases hdel
      obtain ⟨k0, t, rfl, hz2⟩ := lenS (beq_iff_eq.mp hz : l.length = 6)
      obtain ⟨k1, k2, k3, k4, k5, rfl⟩ := len5 hz2
      obtain rfl : k4 = some (.builtin newId) := Option.some.inj (beq_iff_eq.mp h4)
      obtain ⟨nm, bs, mro, ns, qn, hd, sn, sub, ab, col, del⟩ := cd
      dsimp only at hm hdel hdi
      subst hm hdel hdi
      exact ⟨nm, qn, ns, bs, sn, sub, ab, col, dd, k0, k1, k2, k3, k5, X _ _ ho⟩
    | _ => cases q3
section
variable {prog : Program} {w : World} {A : Around} {E : Value → Shared → Prop} {h : Heap} {g : Array GenState} {d : Drawn} {t : Nat} {os : OsState}
variable {nm q : Str} {C N fI : Addr} {bs bm : List Value} {hdct : Bool} {sn : List Str} {sub : List Value} {ab : Bool} {col : Option Bool} {dd : Option Addr} {k0 k1 k2 k3 k5 : Option Value} {B newId initId : String}
noncomputable abbrev excArgs (rest : List Value) : Obj := { cls := .type "tuple", data := .seq rest.toArray }
noncomputable abbrev excNew (C t : Addr) : Obj := { cls := .ref C, data := .fields #[.ref t, .none, .none, .none, .bool false, .none] }
theorem type_call_excI (F : ExcBaseFacts B newId initId bm) {rest : List Value} {Q : Fin → Shared → Prop}
    (hC : h.get? C = some (excClassObj nm q C N bs bm hdct sn sub ab col dd k0 k1 k2 k3 k5 newId)) (hi : Looks (model prog w) h (typeLookup (.ref C) "__init__") (some (.ref fI))) (hb : ∀ self, Looks (model prog w) h (bindSpecial (.ref fI) self) (.ref fI, [self]))
    (hq : codeAny (model prog w) A (.call (.ref fI) ⟨.ref (h.objs.size + 1) :: rest, []⟩) (InitBack (h.objs.size + 1) fun r s' => match r with | .ok f => Q (.done f) s' | .error e => E e s') ⟨(h.push (excArgs rest)).push (excNew C h.objs.size), g, d, t, os⟩) (hrest : rest.length ≤ sizeLine := by size_fits) :
    wpAny (model prog w) A (Builtin.«type.__call__» ⟨.ref C :: rest, []⟩) Q E ⟨h, g, d, t, os⟩ := by
  repeat (first | with_reducible refine wpAny_loadPart_at hC ?_ | with_reducible refine wpAny_madeBy_exc hC ?_ | wp_step)
  refine codeAny_call_builtin_code (Code.quiet_builtin _ F.quiet) (wpAny_check_new_sub F hC ?_)
  refine codeAny_exc_new_sub F hC ?_ hrest
  show wpAny _ _ _ _ _ _
  have k : ∀ b o, h.get? b = some o → ((h.push (excArgs rest)).push (excNew C h.objs.size)).get? b = some o := fun b o e => Heap.get?_push_of_some _ (Heap.get?_push_of_some _ e)
  have hC₁ := k _ _ hC
  have hget : ((h.push (excArgs rest)).push (excNew C h.objs.size)).get? (h.objs.size + 1) = some (excNew C h.objs.size) := by heap_get
  have hcC : (Value.ref C :: bm).contains (.ref C) = true := by simp
  unfold isInstance
  repeat (first | with_reducible refine wpAny_loadPart_at hget ?_ | (with_reducible refine wpAny_isSubtype_exc hC₁ ?_; rw [hcC]) | wp_step)
  show wpAny _ _ (typeLookup (.ref C) _) _ _ _
  have i1 := hi.keeps k
  have b1 := (hb (.ref (h.objs.size + 1))).keeps k
  refine i1.at ?_
  refine wpAny_holding (wpAny_bind (b1.at ?_))
  refine wpAny_bind (wpAny_call (codeAny_mono hq fun r s' z => ?_))
  rcases r with e | (v | _ | _ | _) <;> first | exact z | exact z.elim | skip
  obtain ⟨rfl, z⟩ := z
  exact wpAny_pure (wpAny_pure z)
theorem call_excI (F : ExcBaseFacts B newId initId bm) {rest : List Value} {R : Result → Shared → Prop}
    (hC : h.get? C = some (excClassObj nm q C N bs bm hdct sn sub ab col dd k0 k1 k2 k3 k5 newId)) (hi : Looks (model prog w) h (typeLookup (.ref C) "__init__") (some (.ref fI))) (hb : ∀ self, Looks (model prog w) h (bindSpecial (.ref fI) self) (.ref fI, [self]))
    (hq : codeAny (model prog w) (A.under (.builtin "type.__call__" ⟨.ref C :: rest, []⟩)) (.call (.ref fI) ⟨.ref (h.objs.size + 1) :: rest, []⟩) (InitBack (h.objs.size + 1) R) ⟨(h.push (excArgs rest)).push (excNew C h.objs.size), g, d, t, os⟩)
    (hrest : rest.length ≤ sizeLine := by size_fits) :
    codeAny (model prog w) A (.call (.ref C) ⟨rest, []⟩) R ⟨h, g, d, t, os⟩ := by
  have f1 := tc_lookup
  have f2 := tc_bind (.ref C)
  have hT : (⟨h, g, d, t, os⟩ : Shared).TypeIs (.ref C) "type" := ⟨_, hC, rfl⟩
  refine codeAny_of_tree ?_
  show wpAny _ _ (callAny (.ref C) _) _ _ _
  repeat (any_goals (first | assumption | with_reducible refine wpAny_loadPart_at hC ?_ | wp_step))
  refine ⟨rfl, ?_⟩
  refine codeAny_call_builtin_at (Code.quiet_builtin _ (by decide +kernel)) entry_typeCall (wpAny_check_type_call_sub hC (type_call_excI (hrest := hrest) F hC hi hb ?_))
  refine codeAny_mono hq fun r s' z => ?_
  rcases r with e | (v | _ | _ | _) <;> first | exact z | exact z.elim
end
end Mine
namespace Mine
open PySem PySem.W PySem.Calls PyProof.Rows
namespace SupI
theorem slot_wget : Slot "wrapper_descriptor" "__get__" "wrapper_descriptor.__get__" := .of (owner := "wrapper_descriptor") (n := "__get__") (by rw [typeLookup_type, builtinLookup_eq_fast]; kernel_rfl) (by decide +kernel) (by decide +kernel) (by decide +kernel)
  (by first | exact .inl (by decide +kernel) | exact .inr (by decide +kernel)) (by rw [isSubtype_type]; kernel_rfl)
theorem entry_wget : entryFor table "wrapper_descriptor.__get__" = some Builtin.«wrapper_descriptor.__get__» := entryFor_of_tree (by kernel_rfl)
theorem args_wget (a b c : Value) : argsOk "wrapper_descriptor.__get__" ⟨[a, b, c], []⟩ := by unfold argsOk; kernel_rfl
theorem type_init : typeOf (.builtin "Exception.__init__") = pure (.type "wrapper_descriptor") := by show builtinType _ = _; rw [builtinType_eq_fast]; kernel_rfl
theorem types_init (s : Shared) : s.TypeIs (.builtin "Exception.__init__") "wrapper_descriptor" := type_init
noncomputable abbrev wrapObj (x : Addr) : Obj := { cls := .type "method-wrapper", data := .fields #[.builtin "Exception.__init__", .ref x] }
section
variable {prog : Program} {w : World} {M : Model} {A : Around} {E : Value → Shared → Prop} {h : Heap} {g : Array GenState} {d : Drawn} {t : Nat} {os : OsState}
theorem eo : ".".intercalate (("Exception.__init__".cutAt '.').dropLast) = "Exception" := by first | decide +kernel | kernel_rfl
theorem run_wget {x C : Addr} {ox : Obj} {Q : Fin → Shared → Prop} (hx : h.get? x = some ox) (hc : ox.cls = .ref C) (L : Looks M h (isSubtype (.ref C) (.type "Exception")) true) (hq : Q (.done (.ret (.ref h.objs.size))) ⟨h.push (wrapObj x), g, d, t, os⟩) :
    wpAny M A (Builtin.«wrapper_descriptor.__get__» ⟨[.builtin "Exception.__init__", .ref x, .ref C], []⟩) Q E ⟨h, g, d, t, os⟩ := by
  unfold Builtin.«wrapper_descriptor.__get__»
  repeat (first | rw [hc] | rw [eo] | (with_reducible refine Looks.at L ?_) | lk)
  all_goals first | exact hq | trace_state
theorem entry_init : entryFor table "Exception.__init__" = some Builtin.«BaseException.__init__» := F.excBase_Exception.initEntry
theorem check_init {nm q : Str} {C N x : Addr} {bs bm : List Value} {hdct : Bool} {sn : List Str} {sub : List Value} {ab : Bool} {col : Option Bool} {dd : Option Addr} {k0 k1 k2 k3 k5 : Option Value} {newId : String} {ox : Obj} {rest : List Value} {Q : Unit → Shared → Prop}
    (hC : h.get? C = some (excClassObj nm q C N bs bm hdct sn sub ab col dd k0 k1 k2 k3 k5 newId)) (hx : h.get? x = some ox) (hc : ox.cls = .ref C) (hq : Q () ⟨h, g, d, t, os⟩) :
    wpAny M A (checkBoundCall "Exception.__init__" ⟨.ref x :: rest, []⟩) Q E ⟨h, g, d, t, os⟩ := by
  have F := F.excBase_Exception
  have hshort := F.noStar
  have hk : (Manifest.AttrKind.slot != Manifest.AttrKind.method && Manifest.AttrKind.slot != Manifest.AttrKind.classMethod) = true := by decide
  simp only [checkBoundCall, F.initKind, F.initRow, hk, if_true]
  repeat (first | (with_reducible refine wpAny_loadPart_at hx ?_; rw [hc]) | with_reducible refine wpAny_loadPart_at hC ?_ | wp_step)
  refine wpAny_onRaise ?_
  rw [show ∀ (a b : String) (n : Nat), Bind.check ⟨.positional, "*", "Exception", .self, [⟨"args", .varPos, false⟩]⟩ a b n (List.map (fun x => x.fst) ({ pos := Value.ref x :: rest } : Args).kw) = pure () from
    fun a b n => check_star_args _ _ _ _ _ _]
  exact wpAny_pure hq
theorem quiet_init {as : Args} : (Code.builtin "Exception.__init__" as).quiet = true := Code.quiet_builtin _ (by decide +kernel)
theorem super_ga {so D x C : Addr} {ox : Obj} {K : Frag} {l₀ l : List Value} {tk : Tok} {prog : Program} {w : World} {Q : Fin → Shared → Prop}
    (hso : h.get? so = some { cls := .type "super", dict := none, data := .fields #[.ref D, .ref x, .ref C], slots := #[] }) (hno : Looks (model prog w) h (opaqueClassAbove (.ref C)) none)
    (hC : Looks (model prog w) h (mroOf (.ref C)) l₀) (hl : (l₀.dropWhile (· != .ref D)).drop 1 = l) (X : K.In h)
    (hf : alongIn K "__init__" l = some (some (.builtin "Exception.__init__"))) (hx : h.get? x = some ox) (hc : ox.cls = .ref C) (L : Looks (model prog w) h (isSubtype (.ref C) (.type "Exception")) true) (hxC : x ≠ C)
    (hq : Q (.done (.ret (.ref h.objs.size))) ⟨h.push (wrapObj x), g, d, t, os⟩) :
    wpAny (model prog w) A (Builtin.«super.__getattribute__» ⟨[.ref so, .str "__init__" tk], []⟩) Q E ⟨h, g, d, t, os⟩ := by
  have hlk := slot_wget.lookup
  have hne : (Value.ref x == Value.ref C) = false := by simp [hxC]
  have hTf := types_init ⟨h, g, d, t, os⟩
  have hn : (("__init__" : Str) == ("__class__" : Str)) = false := by decide +kernel
  have hdt : ({ cls := .type "super", dict := none, data := .fields #[.ref D, .ref x, .ref C], slots := #[] } : Obj).data = .fields #[.ref D, .ref x, .ref C] := rfl
  have f0 : (#[.ref D, .ref x, .ref C] : Array Value)[0]? = some (.ref D) := rfl
  have f1 : (#[.ref D, .ref x, .ref C] : Array Value)[1]? = some (.ref x) := rfl
  have f2 : (#[.ref D, .ref x, .ref C] : Array Value)[2]? = some (.ref C) := rfl
  unfold Builtin.«super.__getattribute__»
  repeat (first
    | (with_reducible refine wpAny_field hso hdt f0 ?_) | (with_reducible refine wpAny_field hso hdt f1 ?_) | (with_reducible refine wpAny_field hso hdt f2 ?_)
    | (with_reducible refine ks_wpAny_notOpaque hno ?_)
    | (with_reducible refine Looks.at hC ?_; rw [hl])
    | (refine ks_forIn_along X (fun _ _ => rfl) rfl ?_ hf)
    | (with_reducible refine wpAny_typeOf hTf ?_)
    | (with_reducible refine wpAny_call_entry slot_wget hTf entry_wget ?_ (args_wget _ _ _))
    | (with_reducible refine run_wget hx hc L ?_)
    | (with_reducible refine ⟨_, rfl, ?_⟩)
    | (simp only [hn, hne, Bool.or_false, Bool.false_eq_true, if_false])
    | wp_step
    | dsimp only)
  all_goals first | exact hq | trace_state
end
end SupI
end Mine
namespace Mine
open PySem PySem.W PySem.Calls PyProof.Rows Builtin Builtin.ObjectAttr
theorem refuse_exc (self : Value) : refuseLoop self "__setattr__" [.type "Exception", .type "BaseException", .type "object"] = pure () := by kernel_rfl
noncomputable abbrev excBm : List Value := [.type "Exception", .type "BaseException", .type "object"]
/-- x.name = v upon an exception of the text -/
noncomputable def setOkE (K : Frag) (C : Addr) (name : Str) : Bool := findIn K (.ref C) "__setattr__" == some (some (.builtin "object.__setattr__")) && (clsIn K C).any (fun cd => cd.mro == .ref C :: excBm && cd.hasDict) && takerIn K C name == some none
section
variable {prog : Program} {w : World} {A : Around} {E : Value → Shared → Prop} {s : Shared} {K : Frag} {x C dx : Addr} {ox : Obj} {od : Option Obj} {name : Str} {v : Value} {R : Result → Shared → Prop}
theorem store_tail {tk : Tok} {es : List DictEntry} {n : Nat} {Q : Fin → Shared → Prop} (D : s.heap.get? dx = some (dictOf es n)) (hl : (getL name es).isSome = true) (hz : (putL name (PyData.keyHash w.params name) (.str name s.toks) v es).length ≤ 1000)
    (q : Q (.done (.ret .none)) { s with heap := s.heap.update dx (Obj.putName name (PyData.keyHash w.params name) (.str name s.toks) v), toks := s.toks + 1 }) :
    wpAny (model prog w) A (storeInDict dx (.str name tk) name v) Q E s := by
  have D' : (s.heap.update dx (Obj.putName name (PyData.keyHash w.params name) (.str name s.toks) v)).get? dx = some (dictOf (putL name (PyData.keyHash w.params name) (.str name s.toks) v es) (putN name es n)) := by
    rw [Heap.get?_update_self _ D (by rw [putName_dict]; rfl), putName_dict]
  refine wpAny_bind (wpAny_pure (wpAny_bind ?_))
  unfold nsSet
  refine wpAny_bind (wpAny_bind (wpAny_askSetting (wpAny_pure (wpAny_bind (wpAny_mkText (wpAny_bind (wpAny_loadPart D ?_)))))))
  dsimp only
  have c : (!es.any (·.key.isStr name) && es.any (·.refKey)) = false := by
    unfold getL at hl
    split at hl
    · rename_i en he
      rw [List.any_eq_true.mpr ⟨en, List.mem_of_find?_eq_some he, List.find?_some he⟩]; rfl
    · split at hl
      · cases hl
      · rename_i z; rw [Bool.not_eq_true] at z; rw [z, Bool.and_false]
  have c' : (!es.toArray.any (·.key.isStr name) && es.toArray.any (·.refKey)) = false := by
    rw [← Array.any_toList, ← Array.any_toList]; exact c
  rw [aRefKeyMayBeTheName_at, c']
  refine wpAny_updatePart D ?_
  refine wpAny_bind (wpAny_lookBehind D' (pastItsLine_dict (by rw [List.size_toArray, sizeLine_eq]; omega)) ?_)
  exact wpAny_pure q
theorem osa_openE {tk : Tok} (X : K.In s.heap) (I : InstAt s.heap x ox C od) (hk : setOkE K C name = true)
    (h : ∀ b, wpAny (model prog w) A.in1 (storeInOwnDict (.ref x) (.ref C) (.str name tk) name v b)
      (fun fin s' => match fin with | .done f => R (.ok f) s' | .again c' => c'.quiet = true ∧ codeAny (model prog w) A c' R s') (fun e s' => R (.error e) s') s) :
    codeAny (model prog w) A (.call (.builtin "object.__setattr__") ⟨[.ref x, .str name tk, v], []⟩) R s := by
  have SF := PySem.F.store_object
  unfold setOkE at hk
  simp only [Bool.and_eq_true, beq_iff_eq] at hk
  obtain ⟨⟨h1, h2⟩, h3⟩ := hk
  obtain ⟨cd, hc, ho⟩ := any_some h2
  simp only [Bool.and_eq_true, beq_iff_eq] at ho
  obtain ⟨hmro, hdict⟩ := ho
  have sub : Looks (model prog w) s.heap (isInstance (.ref x) (.type "object")) true := I.type.andThen (looks_mroIn X (by unfold mroIn; rw [hc, Option.bind_some, hmro]; simp))
  refine codeAny_call_builtin SF.slot.plain SF.entry (@check_slot (model prog w) _ _ s "object.__setattr__" "object" "__setattr__" (.ref x) [.str name tk, v] [] _ SF.kind SF.split sub (SF.args (.ref x) (.str name tk) v) ?_)
  obtain ⟨attr, ha, hr⟩ := Option.bind_eq_some_iff.mp h3
  have hm : Looks (model prog w) s.heap (mroOf (.ref C)) cd.mro := (looks_clsIn X hc).andThen .now
  have L3 : Looks (model prog w) s.heap (storeTaker? attr) none := by
    cases attr with
    | none => cases hr; exact .now
    | some a =>
      obtain ⟨b, hb, e⟩ := Option.map_eq_some_iff.mp hr
      refine (looks_takesIn X hb).andThen ?_
      cases b
      · exact .now
      · cases e
  rw [osa_eq, refuse_eq]
  refine wpAny_bind (wpAny_bind (I.type.here (wpAny_bind (hm.here ?_))))
  rw [hmro, refuseLoop_ref, refuse_exc]
  refine wpAny_pure (wpAny_bind (I.type.here (wpAny_bind ((looks_findIn X ha).here (wpAny_bind (L3.here ?_))))))
  exact h _
theorem setE {es : List DictEntry} {n : Nat} {Q : Unit → Shared → Prop} (X : K.In s.heap) (I : InstAt s.heap x ox C (some (dictOf es n))) (hd : ox.dict = some dx) (hk : setOkE K C name = true)
    (hl : (getL name es).isSome = true) (hz : (putL name (PyData.keyHash w.params name) (.str name (s.toks + 1)) v es).length ≤ 1000)
    (q : Q () { s with heap := s.heap.update dx (Obj.putName name (PyData.keyHash w.params name) (.str name (s.toks + 1)) v), toks := s.toks + 2 }) :
    wpAny (model prog w) A (setAttr (.ref x) name v) Q E s := by
  have hk0 := hk
  unfold setOkE at hk0
  simp only [Bool.and_eq_true, beq_iff_eq] at hk0
  obtain ⟨⟨h1, h2⟩, h3⟩ := hk0
  obtain ⟨cd, hc, ho⟩ := any_some h2
  simp only [Bool.and_eq_true, beq_iff_eq] at ho
  refine set_plain X I h1 (osa_openE (s := { s with toks := s.toks + 1 }) X I hk fun b => ?_)
  obtain ⟨hx, hcl, hn, D⟩ := I
  obtain ⟨oc, odi, oda, osl⟩ := ox
  dsimp only at hcl hd
  subst hcl hd
  refine wpAny_bind (wpAny_pure (wpAny_bind (wpAny_bind (wpAny_loadPart hx (wpAny_bind ((looks_clsIn X hc) _ _ _ _ (fun _ _ e => e) ?_))))))
  rw [ho.2]
  refine wpAny_pure (a := some dx) ?_
  exact store_tail (s := { s with toks := s.toks + 1 }) D hl hz q
/-- the first: the object has no dict yet -/
theorem setE0 {vs : Array Value} {sl : Array (Option Value)} {Q : Unit → Shared → Prop} (X : K.In s.heap) (hx : s.heap.get? x = some ⟨.ref C, none, .fields vs, sl⟩) (hk : setOkE K C name = true)
    (q : Q () { s with heap := ((s.heap.push emptyDict).update x fun o => { o with dict := some s.heap.objs.size }).update s.heap.objs.size (Obj.putName name (PyData.keyHash w.params name) (.str name (s.toks + 1)) v), toks := s.toks + 2 }) :
    wpAny (model prog w) A (setAttr (.ref x) name v) Q E s := by
  have hk0 := hk
  unfold setOkE at hk0
  simp only [Bool.and_eq_true, beq_iff_eq] at hk0
  obtain ⟨⟨h1, h2⟩, h3⟩ := hk0
  obtain ⟨cd, hc, ho⟩ := any_some h2
  simp only [Bool.and_eq_true, beq_iff_eq] at ho
  have I : InstAt s.heap x ⟨.ref C, none, .fields vs, sl⟩ C none := ⟨hx, rfl, rfl, trivial⟩
  refine set_plain X I h1 (osa_openE (s := { s with toks := s.toks + 1 }) X I hk fun b => ?_)
  refine wpAny_bind (wpAny_pure (wpAny_bind (wpAny_bind (wpAny_loadPart hx (wpAny_bind ((looks_clsIn X hc) _ _ _ _ (fun _ _ e => e) ?_))))))
  rw [ho.2]
  show wpAny _ _ (alloc emptyDict >>= fun d => update x (fun o => { o with dict := some d }) >>= fun _ => dictMade (.ref C) x d) _ _ _
  have hx₁ := Heap.get?_push_of_some emptyDict hx
  refine wpAny_bind (wpAny_alloc (wpAny_bind (wpAny_update hx₁ ?_)))
  refine wpAny_pure (a := some s.heap.objs.size) ?_
  refine store_tail (s := { s with heap := _, toks := s.toks + 1 }) (es := []) (n := 0) ?_ rfl (by simp [putL]) q
  exact (Heap.get?_update_ne _ _ _ _ (Nat.ne_of_gt (Heap.lt_size hx))).trans (Heap.get?_push_at rfl rfl)
end
end Mine
namespace Mine
open PySem PySem.W PySem.Calls PyProof.Rows Builtin Builtin.ObjectAttr
/-- x.name of an exception of the text -/
noncomputable def getOkE (K : Frag) (C : Addr) (name : Str) : Bool := findIn K (.ref C) "__getattribute__" == some (some (.builtin "BaseException.__getattribute__")) && findIn K (.ref C) "__getattr__" == some none && mroIn K C (.type "BaseException") == some true && hasDictIn K C && (match findIn K (.ref C) name with | some a => noGet K a | none => false)
section
variable {prog : Program} {w : World} {A : Around} {E : Value → Shared → Prop} {s : Shared} {K : Frag} {x C dx : Addr} {ox : Obj} {od : Option Obj} {name : Str} {v : Value} {R : Result → Shared → Prop}
theorem ga_eq (x : Value) (name : Str) (tk : Tok) : Builtin.«object.__getattribute__» ⟨[x, .str name tk], []⟩ = (typeOf x >>= fun tp => find x tp name >>= fun r => match r with
    | .value v => ret v
    | .bind g a => bindTo g a x tp
    | .missing => do
      if tp == .type "module" then
        if ← isOpaqueModuleObj x then
          let byTheModulesOwnEntry := match (← stack).drop 1 with
            | (.builtin "module.__getattribute__" ⟨m :: _, _⟩, _) :: _ => m == x
            | _ => false
          if !byTheModulesOwnEntry then unsupported "thirdparty:object.__getattribute__:a-miss-on-an-opaque-module"
      if tp == .type "type" then
        if let some key ← opaqueClassAbove x then unsupported s!"thirdparty:{key.toString}.{name.toString}:object.__getattribute__-misses-on-an-opaque-class"
      noSuchAttribute x name) := by kernel_rfl
theorem get_valueE {expr : Bool} {Q : Value → Shared → Prop} (X : K.In s.heap) (I : InstAt s.heap x ox C od) (hga : findIn K (.ref C) "__getattribute__" = some (some (.builtin "BaseException.__getattribute__"))) (hgh : findIn K (.ref C) "__getattr__" = some none) (hb : mroIn K C (.type "BaseException") = some true)
    (hf : findObj K C od name = some (.value v)) (hh : handedIn v = true) (h : Q v { s with toks := s.toks + 1 }) : wpAny (model prog w) A (getAttr (.ref x) name expr) Q E s := by
  obtain ⟨hp, g, d, t, os⟩ := s
  have L0 := I.type (M := model prog w)
  have L1 := looks_findIn (M := model prog w) X hga
  have L2 := looks_findIn (M := model prog w) X hgh
  have L3 := looks_find (M := model prog w) X I hf
  have L4 : Looks (model prog w) hp (isInstance (.ref x) (.type "BaseException")) true := L0.andThen (looks_mroIn X hb)
  have FB := F.attr_Exception
  have hx2 : (onTheHeap (Value.ref C) && Value.builtin "BaseException.__getattribute__" == Value.builtin "object.__getattribute__") = false := by rw [show (Value.builtin "BaseException.__getattribute__" == Value.builtin "object.__getattribute__") = false by decide +kernel]; rfl
  have hx0 : (expr && onTheHeap (Value.builtin "BaseException.__getattribute__")) = false := by cases expr <;> rfl
  unfold getAttr getAttrBy
  refine wpAny_bind (wpAny_mkText (wpAny_holding (wpAny_bind (L0.at (wpAny_bind (L1.at ?_))))))
  show wpAny _ _ (if (onTheHeap (Value.ref C) && Value.builtin "BaseException.__getattribute__" == Value.builtin "object.__getattribute__") = true then _ else getAttrByItsOwn _ _ _ _ _ _) _ _ _
  rw [hx2, if_neg (by decide)]
  unfold getAttrByItsOwn hookBefore callGetattribute
  rw [if_pos (show onTheHeap (Value.ref C) = true from rfl), hx0, if_neg (by decide)]
  refine wpAny_bind (L2.at (wpAny_bind (wpAny_attempt (wpAny_holding ?_))))
  unfold boundAndCalled
  rw [FB.ga.bind]
  refine wpAny_bind (wpAny_pure (wpAny_call (codeAny_call_builtin FB.ga.plain F.entry_bexc_ga (@check_slot (model prog w) _ _ _ "BaseException.__getattribute__" "BaseException" "__getattribute__" (.ref x) [.str name t] [] _ (by decide +kernel) (by decide +kernel) L4 (F.args_bexc_ga (.ref x) (.str name t)) ?_))))
  show wpAny _ _ («object.__getattribute__» ⟨[.ref x, .str name t], []⟩) _ _ _
  rw [ga_eq]
  refine wpAny_bind (L0.at (wpAny_bind (L3.at (wpAny_pure ?_))))
  show wpAny _ _ (handedOut v) _ _ _
  rw [handedOut_of hh]; exact wpAny_pure h
end
section
variable {G : Gl} {c : Cx} {Γ : Pairs} {ρ : Loc} {σ : Sto} {P : D → Sto → Prop} {X : XP} {h : Heap} {N FS : Led} {m : Str → Option Value}
theorem setAttr_exc {a C dx : Addr} {name : Str} {d a0 : D} {fs : List (Str × D)} {v w : Value} {P : Loc → Sto → Prop} {Y : XF} (hi : σ a = some (.exn C dx a0)) (hf : σ dx = some (.flds fs)) (hk : setOkE G.K C name = true) (hz : fs.length ≤ 100)
    (hv : (v, d) ∈ Γ) (ha : (w, .ref a) ∈ Γ) (h : P ρ (σ.put dx (.flds (fput fs name d)))) :
    WU G c Γ (setAttr w name v) ρ σ P Y := fun s Q E S q _ => by
  obtain rfl := S.isRef ha
  obtain ⟨N, FS, m, S⟩ := S
  obtain ⟨es, n, hd, he⟩ := S.re dx _ hf
  obtain ⟨ox, I, hox⟩ := inst_at (o := .list []) S (.inr (.inr ⟨a0, hi⟩)) hd
  obtain ⟨N', u, h1, h2, h3, h4⟩ := S.change (o' := dictOf (putL name (PyData.keyHash G.w.params name) (.str name (s.toks + 1)) v es) (putN name es n)) hd (ne_tup (show Value.type "dict" ≠ Value.type "tuple" by decide))
  have hput := entries_put (t := s.toks + 1) (P := G.w.params) (he.mono h2) (x := name) (v := v) (d := d) ((S.ga (v, d) hv).mono h2)
  have hl : (getL name es).isSome = true := by
    cases z : fs.lookup name with
    | none => rw [entries_none he z]; rfl
    | some d' => obtain ⟨_, q, _⟩ := entries_get he z; rw [q]; rfl
  refine setE (G.X.keeps S.fr.keep) I hox hk hl ?_ ?_
  · rw [hput.length]
    have := fput_length fs name d
    omega
  · obtain ⟨pre, post, e1, e2, a1, b1⟩ := u.split
    have U := news_upd (f := Obj.putName name (PyData.keyHash G.w.params name) (.str name (s.toks + 1)) v) (o' := dictOf (putL name (PyData.keyHash G.w.params name) (.str name (s.toks + 1)) v es) (putN name es n)) S.fr (by rw [← e1]; exact S.nw) a1 b1 (putName_dict ..) rfl
    exact q ρ _ _ _ h (h4 _ U.1 (by rw [e2]; exact U.2) (.flds (fput fs name d)) ⟨_, _, h1, hput⟩).st
end
end Mine
set_option maxHeartbeats 1000000
namespace Mine
open PySem PySem.W PySem.Calls PyProof.Rows
theorem tcu1 (C : Addr) (rest : List Value) (kw : List (Str × Value)) : (Code.builtin "type.__call__" ⟨.ref C :: rest, kw⟩).weight = 1 := by kernel_rfl
theorem tcu2 (C : Addr) (rest : List Value) (kw : List (Str × Value)) : (Code.builtin "type.__call__" ⟨.ref C :: rest, kw⟩).cUnits = 1 := by kernel_rfl
theorem tcu3 (C : Addr) (rest : List Value) (kw : List (Str × Value)) : (Code.builtin "type.__call__" ⟨.ref C :: rest, kw⟩).envs = [] := by kernel_rfl
/-- below type.__call__ -/
noncomputable def Cx.make (c : Cx) (C : Addr) (rest : List Value) : Cx := { c with A := c.A.under (.builtin "type.__call__" ⟨.ref C :: rest, []⟩) }
theorem Cx.Fn.make {c : Cx} (F : c.Fn) (C : Addr) (rest : List Value) : (c.make C rest).Fn := ⟨by show pushEnvs (Code.builtin "type.__call__" ⟨.ref C :: rest, []⟩).envs c.A.frames = _; rw [tcu3]; exact F.frames, F.frame, F.kind, F.real⟩
theorem Cx.Room.make {c : Cx} {n : Nat} (r : c.Room (n + 1)) (C : Addr) (rest : List Value) : (c.make C rest).Room n :=
  ⟨by show c.A.depth + (Code.builtin "type.__call__" ⟨.ref C :: rest, []⟩).weight + 2 * n < 900; rw [tcu1]; have := r.depth; omega,
   by show c.A.units + (Code.builtin "type.__call__" ⟨.ref C :: rest, []⟩).cUnits + 16 * n + 300 < 9900; rw [tcu2]; have := r.units; omega⟩
section
variable {G : Gl} {c : Cx} {Γ : Pairs} {ρ : Loc} {σ : Sto} {P : D → Sto → Prop} {X : XP} {R : FP} {Y : XF} {h : Heap} {N FS : Led} {m : Str → Option Value}
theorem zip_cons_mem {Γ : Pairs} {vs : List Value} {ds : List D} {v : Value} {d : D} (h : ∀ p ∈ vs.zip ds, p ∈ Γ) : ∀ p ∈ (v :: vs).zip (d :: ds), p ∈ (v, d) :: Γ := fun p hp => by
  rw [List.zip_cons_cons] at hp
  rcases List.mem_cons.mp hp with rfl | hp
  · exact .head _
  · exact .tail _ (h p hp)
/-- an exception of the text, made by its own __init__ -/
theorem Wn_exc {hd : Option Value → Prop} {C fI : Addr} {n k : Nat} {ds : List D} (F : c.Fn) (hn : c.Room n) (hhd : hd c.A.handled) (hk : k + 1 ≤ n) (hl : ds.length ≤ 1000) (hC : excIn G.K C excBm "Exception.__new__" = true) (hi : findIn G.K (.ref C) "__init__" = some (some (.ref fI))) (hf : typeIn G.K (.ref fI) = some (.type "function"))
    (h : ∀ e t, σ e = none → FnC G hd k (.ref fI) (.ref e :: ds) (σ.put e (.obj (excNew C t))) (fun d σ' => d = .none ∧ P (.ref e) σ') X) : Wn G c (fun vs => call (.ref C) vs) ds ρ σ P X := fun Γ vs hl' hz s Q E S q fl => by
  obtain ⟨N, FS, m, S⟩ := S
  obtain ⟨hp, g, d, tk, os⟩ := s
  have X0 : G.K.In hp := G.X.keeps S.fr.keep
  obtain ⟨nm, qn, Nn, bs, sn, sub, ab, col, dd, k0, k1, k2, k3, k5, hCo⟩ := exc_cls X0 hC
  have S1 := S.pushOff (excArgs vs)
  have W := News.push S1.fr S1.nw (excNew C hp.objs.size)
  obtain ⟨S2, hnone⟩ := S1.alloc (S1.fr.push _) W S1.lt
  rw [Heap.size_push] at S2 hnone
  have S3 := (S2.putO (o := .obj (excNew C hp.objs.size)) (.head _)).put (.ref (hp.objs.size + 1))
  refine wpAny_call (call_excI (hrest := by rw [hl', sizeLine_eq]; omega) PySem.F.excBase_Exception hCo (looks_findIn X0 hi) (fun self => bind_fn X0 self hf) ?_)
  refine h _ hp.objs.size hnone (c.make C vs) ρ _ (.ref (hp.objs.size + 1) :: vs) ⟨(hp.push (excArgs vs)).push (excNew C hp.objs.size), g, d, tk, os⟩ _ (F.make C vs) ((hn.le hk).make C vs) hhd S3.st.cx (by simp [hl']) (zip_cons_mem hz) (fun v dv σ' h' tk' p S' => ?_) (fun e x σ' h' tk' p S' => ?_)
  · obtain ⟨rfl, p⟩ := p
    obtain rfl := S'.isNone (.head _)
    exact ⟨rfl, q (.ref (hp.objs.size + 1)) _ σ' h' tk' p (S'.tail.cx)⟩
  · exact fl e x .fly ρ σ' h' tk' ⟨rfl, p⟩ (S'.tail.cx)
/-- an object of a class of the text -/
theorem Wn_make {C fI : Addr} {n k : Nat} {ds : List D} (F : c.Ok n) (hk : k + 1 ≤ n) (hC : makesIn G.K C = true) (hi : findIn G.K (.ref C) "__init__" = some (some (.ref fI))) (hf : isFn G.K (.ref fI) = true)
    (h : ∀ e dx, σ e = none → σ dx = none → e ≠ dx → FnC G HN k (.ref fI) (.ref e :: ds) ((σ.put dx (.flds [])).put e (.inst C dx)) (fun d σ' => d = .none ∧ P (.ref e) σ') X) : Wn G c (fun vs => call (.ref C) vs) ds ρ σ P X := fun Γ vs hl' hz s Q E S q fl => by
  obtain ⟨N, FS, m, S⟩ := S
  refine call_cls S.fr G.X S.nw hC hi hf fun x dx h' F' W hlt hdx => ?_
  have W1 : News G.h₀ c.env.locals h' ((dx, dictOf [] 0) :: (N ++ FS)) := fun p hp => W p (.tail _ hp)
  obtain ⟨S1, n1⟩ := S.alloc F' W1 hlt
  obtain ⟨S2, n2⟩ := S1.alloc (a := x) (o := instObj C dx) F' W fun p hp => by
    rcases List.mem_cons.mp hp with rfl | hp
    · exact hdx
    · exact Nat.lt_trans (hlt p hp) hdx
  have hne : x ≠ dx := Nat.ne_of_gt hdx
  have S3 := ((S2.putO (a := dx) (o := .flds []) ⟨[], 0, .tail _ (.head _), .nil⟩).putO (a := x) (o := .inst C dx) (.head _)).put (.ref x)
  refine h x dx n2 n1 hne (c.make C vs) ρ _ (.ref x :: vs) { s with heap := h' } _ (F.toFn.make C vs) ((F.room.le hk).make C vs) F.hd S3.st.cx (by simp [hl']) (zip_cons_mem hz) (fun v dv σ' h1 tk' p S' => ?_) (fun e ex σ' h1 tk' p S' => ?_)
  · obtain ⟨rfl, p⟩ := p
    obtain rfl := S'.isNone (.head _)
    exact ⟨rfl, q (.ref x) _ σ' h1 tk' p (S'.tail.cx)⟩
  · exact fl e ex .fly ρ σ' h1 tk' ⟨rfl, p⟩ (S'.tail.cx)
end
end Mine
namespace Mine
open PySem PySem.W PySem.Calls PyProof.Rows
namespace SupI
section
variable {prog : Program} {w : World} {A : Around} {E : Value → Shared → Prop} {h : Heap} {g : Array GenState} {d : Drawn} {t : Nat} {os : OsState} {K : Frag}
theorem getMethod_sup {so D x C : Addr} {ox : Obj} {l₀ l : List Value} {pl : Sem Bool} {Q : Value × List Value → Shared → Prop}
    (hso : h.get? so = some { cls := .type "super", dict := none, data := .fields #[.ref D, .ref x, .ref C], slots := #[] }) (hno : Looks (model prog w) h (opaqueClassAbove (.ref C)) none)
    (hC : Looks (model prog w) h (mroOf (.ref C)) l₀) (hl : (l₀.dropWhile (· != .ref D)).drop 1 = l) (X : K.In h)
    (hf : alongIn K "__init__" l = some (some (.builtin "Exception.__init__"))) (hx : h.get? x = some ox) (hc : ox.cls = .ref C) (L : Looks (model prog w) h (isSubtype (.ref C) (.type "Exception")) true) (hxC : x ≠ C)
    (hq : Q (.ref h.objs.size, []) ⟨h.push (wrapObj x), g, d, t + 1, os⟩) :
    wpAny (model prog w) A (getMethod (.ref so) "__init__" pl) Q E ⟨h, g, d, t, os⟩ := by
  have hlk := F.ks_slot_super_ga.lookup
  have hcan := F.ks_canon_super_ga
  have hT : ∀ t', (⟨h, g, d, t', os⟩ : Shared).TypeIs (.ref so) "super" := fun _ => ⟨_, hso, rfl⟩
  unfold getMethod
  refine wpAny_bind (wpAny_specialOf (hT _) hlk ?_)
  show wpAny _ _ (if (Manifest.canonical "super.__getattribute__" != "object.__getattribute__") = true then _ else _) _ _ _
  rw [if_pos hcan]
  unfold getAttr getAttrBy
  refine wpAny_bind (wpAny_bind (wpAny_mkText (wpAny_holding (wpAny_bind (wpAny_typeOf (hT _) (wpAny_bind (wpAny_of_eq hlk ?_)))))))
  show wpAny _ _ (getAttrByItsOwn (.ref so) (.str "__init__" t) (.type "super") (.builtin "super.__getattribute__") true false) _ _ _
  unfold getAttrByItsOwn hookBefore callGetattribute boundAndCalled
  refine wpAny_bind (wpAny_of_eq (show (if onTheHeap (.type "super") then typeLookup (.type "super") "__getattr__" else pure none) = pure none from rfl) ?_)
  refine wpAny_bind (wpAny_attempt (wpAny_holding ?_))
  show wpAny _ _ (bindSpecial (.builtin "super.__getattribute__") (.ref so) >>= _) _ _ _
  refine wpAny_bind (wpAny_of_eq (F.ks_slot_super_ga.bind _) ?_)
  refine wpAny_mono (Q := fun v s' => v = .ref h.objs.size ∧ s' = ⟨h.push (wrapObj x), g, d, t + 1, os⟩) (E := fun _ _ => False)
    (wpAny_call_entry F.ks_slot_super_ga (hT _) F.ks_entry_super_ga (super_ga hso hno hC hl X hf hx hc L hxC ⟨_, rfl, rfl, rfl⟩) (F.ks_gaArgs_super _ _)) (fun v s' hv => ?_) fun _ _ z => z.elim
  obtain ⟨rfl, rfl⟩ := hv
  exact wpAny_pure (wpAny_pure hq)
/-- the wrapper called: the arguments' tuple is laid anew -/
theorem call_wrap {nm q : Str} {C N x u : Addr} {bs bm : List Value} {hdct : Bool} {sn : List Str} {sub : List Value} {ab : Bool} {col : Option Bool} {dd : Option Addr} {k0 k1 k2 k3 k5 : Option Value} {newId : String} {ox : Obj} {vs : Array Value} {v v0 : Value} {Q : Value → Shared → Prop}
    (hu : h.get? u = some (wrapObj x)) (hC : h.get? C = some (excClassObj nm q C N bs bm hdct sn sub ab col dd k0 k1 k2 k3 k5 newId)) (hx : h.get? x = some ox) (hc : ox.cls = .ref C) (hd : ox.data = .fields vs) (h0 : vs[0]? = some v0)
    (hq : Q .none ⟨(h.push (excArgs [v])).update x (Obj.mapFields (·.setIfInBounds 0 (.ref h.objs.size))), g, d, t, os⟩) :
    wpAny (model prog w) A (call (.ref u) [v]) Q E ⟨h, g, d, t, os⟩ := by
  refine wpAny_call (codeAny_of_tree ?_)
  show wpAny _ A.in1 (callAny (.ref u) ⟨[v], []⟩) _ _ _
  simp only [callAny]
  refine wpAny_bind (wpAny_load hu ?_)
  simp only [show (Value.type "method-wrapper" == Value.type "method" || Value.type "method-wrapper" == Value.type "builtin_function_or_method" || Value.type "method-wrapper" == Value.type "method-wrapper") = true by decide, if_true]
  show wpAny _ _ (if (Value.type "method-wrapper" != Value.type "method") = true then (checkBoundCall "Exception.__init__" ⟨[.ref x, v], []⟩ >>= fun _ => again (.builtin "Exception.__init__" ⟨[.ref x, v], []⟩)) else _) _ _ _
  rw [if_pos (by decide)]
  refine wpAny_bind (check_init hC hx hc ?_)
  refine wpAny_bind (wpAny_pure (wpAny_pure ?_))
  refine ⟨quiet_init, codeAny_builtin entry_init ?_⟩
  have hx₁ := Heap.get?_push_of_some (excArgs [v]) hx
  have hsz : 0 < vs.size := (Array.getElem?_eq_some_iff.mp h0).1
  unfold Builtin.«BaseException.__init__» Builtin.BaseException.bexcPut newTuple
  dsimp only
  rw [if_neg (by simp)]
  refine wpAny_bind (wpAny_newObj_type ?_ (by size_fits))
  refine wpAny_bind (wpAny_bind (wpAny_field hx₁ hd h0 (wpAny_bind (wpAny_setField hx₁ hd hsz ?_))))
  have fin : ∀ A' , wpAny (model prog w) A' (ret Value.none) (fun fin s' => match fin with | .done f => (match (Except.ok f : Result) with | .ok (.ret v) => Q v s' | .ok _ => False | .error e => E e s') | .again c' => c'.quiet = true ∧ codeAny (model prog w) A c' (fun r s' => match r with | .ok (.ret v) => Q v s' | .ok _ => False | .error e => E e s') s') (fun e s' => match (Except.error e : Result) with | .ok (.ret v) => Q v s' | .ok _ => False | .error e => E e s') ⟨(h.push (excArgs [v])).update x (Obj.mapFields (·.setIfInBounds 0 (.ref h.objs.size))), g, d, t, os⟩ := fun A' => wpAny_pure hq
  cases v0 with
  | ref a => exact wpAny_bind (wpAny_holding (wpAny_point (wpAny_pure (fin _))))
  | _ => exact wpAny_pure (fin _)
end
end SupI
end Mine
set_option maxHeartbeats 1000000
namespace Mine
open PySem PySem.W PySem.Calls PyProof.Rows
section
variable {G : Gl} {c : Cx} {Γ : Pairs} {ρ : Loc} {σ : Sto} {P : D → Sto → Prop} {X : XP} {R : FP} {Y : XF} {h : Heap} {N FS : Led} {m : Str → Option Value}
/-- x.name = v -/
noncomputable def SetA (G : Gl) (c : Cx) (a : Addr) (name : Str) (d : D) (ρ : Loc) (σ : Sto) (P : Sto → Prop) : Prop :=
  ∀ Γ v w, (v, d) ∈ Γ → (w, .ref a) ∈ Γ → WU G c Γ (setAttr w name v) ρ σ (fun ρ' σ' => ρ' = ρ ∧ P σ') (fun _ _ _ => False)
theorem setA_own {a C dx : Addr} {name : Str} {d : D} {fs : List (Str × D)} {P : Sto → Prop} (hi : isObj σ a C dx) (hf : σ dx = some (.flds fs)) (hk : setOk G.K C name = true) (hz : fs.length ≤ 100) (h : P (σ.put dx (.flds (fput fs name d)))) :
    SetA G c a name d ρ σ P := fun Γ v w hv hw => setAttr_own (P := fun ρ' σ' => ρ' = ρ ∧ P σ') hi hf hk hz hv hw ⟨rfl, h⟩
theorem setA_exn {a C dx : Addr} {name : Str} {d a0 : D} {fs : List (Str × D)} {P : Sto → Prop} (hi : σ a = some (.exn C dx a0)) (hf : σ dx = some (.flds fs)) (hk : setOkE G.K C name = true) (hz : fs.length ≤ 100) (h : P (σ.put dx (.flds (fput fs name d)))) :
    SetA G c a name d ρ σ P := fun Γ v w hv hw => setAttr_exc (P := fun ρ' σ' => ρ' = ρ ∧ P σ') hi hf hk hz hv hw ⟨rfl, h⟩
theorem frame_ne {a : Addr} {o : Obj} (S : StN G c σ ρ Γ h N FS m) (hm : (a, o) ∈ N) : ∀ p ∈ FS, p.1 ≠ a := fun p hp e => by
  have nd := S.nd
  rw [List.map_append, List.nodup_append] at nd
  exact nd.2.2 a (List.mem_map.mpr ⟨_, hm, rfl⟩) p.1 (List.mem_map.mpr ⟨p, hp, rfl⟩) e.symm
/-- an object of the ledger set anew, the heap being the same elsewhere -/
theorem StN.setObj {a : Addr} {o o' : Obj} {h' : Heap} (S : StN G c σ ρ Γ h N FS m) (hm : (a, o) ∈ N) (ho : ∀ vs n, o ≠ tupOf vs n) (ha : h'.get? a = some o') (hk : ∀ b x, b ≠ a → h.get? b = some x → h'.get? b = some x) :
    ∃ N', (a, o') ∈ N' ∧ Sub N N' ∧ (∀ b x, b ≠ a → (b, x) ∈ N → (b, x) ∈ N') ∧ ∀ x : O, RealO G.w.params N' a x → StN G c (σ.put a x) ρ Γ h' N' FS m := by
  obtain ⟨N', u, h1, h2, h3, h4⟩ := S.change (o' := o') hm ho
  obtain ⟨pre, post, e1, e2, a1, b1⟩ := u.split
  have hma := S.nw _ (List.mem_append_left FS hm)
  refine ⟨N', h1, h2, h3, fun x hx => h4 h' ?_ ?_ x hx⟩
  · obtain ⟨oL, es, ep, hL, r⟩ := S.fr.ns
    refine ⟨⟨oL, es, ep, hk _ _ (fun e => hma.2.1 e.symm) hL, r⟩, fun b y e => hk b y (fun q => ?_) (S.fr.keep b y e), S.fr.above⟩
    have := hma.2.2
    dsimp only at this
    rw [← q, e] at this; cases this
  · intro p hp
    rw [e2] at hp
    rcases List.mem_append.mp hp with q | q
    · have P := S.nw p (by rw [e1]; exact List.mem_append_left _ q)
      exact ⟨hk _ _ (a1 p q) P.1, P.2⟩
    · rcases List.mem_cons.mp q with rfl | q
      · exact ⟨ha, hma.2.1, hma.2.2⟩
      · have P := S.nw p (by rw [e1]; exact List.mem_append_right _ (.tail _ q))
        exact ⟨hk _ _ (b1 p q) P.1, P.2⟩
/-- the first store into an exception made new -/
theorem setA_new {a C t : Addr} {name : Str} {d : D} {P : Sto → Prop} (hi : σ a = some (.obj (excNew C t))) (hk : setOkE G.K C name = true) (h : ∀ dx, σ dx = none → dx ≠ a → P ((σ.put dx (.flds [(name, d)])).put a (.exn C dx .none))) :
    SetA G c a name d ρ σ P := fun Γ v w hv hw s Q E S q _ => by
  obtain rfl := S.isRef hw
  obtain ⟨N, FS, m, S⟩ := S
  have hm := S.re a _ hi
  have hx := (S.nw _ (List.mem_append_left FS hm)).1
  refine setE0 (G.X.keeps S.fr.keep) hx hk ?_
  have W := News.push S.fr S.nw emptyDict
  obtain ⟨S1, hn⟩ := S.alloc (S.fr.push _) W S.lt
  have hlt := Heap.lt_size hx
  have hne : s.heap.objs.size ≠ a := Nat.ne_of_gt hlt
  have hx1 : (s.heap.push emptyDict).get? a = some (excNew C t) := Heap.get?_push_of_some _ hx
  obtain ⟨N1, k1, k2, k3, k4⟩ := S1.setObj (o' := { excNew C t with dict := some s.heap.objs.size }) (h' := (s.heap.push emptyDict).update a fun o => { o with dict := some s.heap.objs.size }) (.tail _ hm) (by intro vs n e; cases e)
    (Heap.get?_update_self _ hx1 rfl) (fun b x hb e => (Heap.get?_update_ne _ _ _ _ hb).trans e)
  have S2 := k4 (.exn C s.heap.objs.size .none) ⟨_, _, .ref t, k1, by simp, rfl, rfl, .inl rfl⟩
  have hd2 := k3 _ _ hne (.head _ : (s.heap.objs.size, emptyDict) ∈ (s.heap.objs.size, emptyDict) :: N)
  have hD := (S2.nw _ (List.mem_append_left FS hd2)).1
  have e0 : emptyDict = dictOf [] 0 := rfl
  obtain ⟨N2, j1, j2, j3, j4⟩ := S2.setObj (o' := dictOf [⟨PyData.keyHash G.w.params name, .str name (s.toks + 1), v⟩] 1) (h' := ((s.heap.push emptyDict).update a fun o => { o with dict := some s.heap.objs.size }).update s.heap.objs.size (Obj.putName name (PyData.keyHash G.w.params name) (.str name (s.toks + 1)) v)) hd2 (ne_tup (show Value.type "dict" ≠ Value.type "tuple" by decide))
    (by rw [Heap.get?_update_self _ hD (by rw [e0, putName_dict]; rfl), e0, putName_dict]; rfl) (fun b x hb e => (Heap.get?_update_ne _ _ _ _ hb).trans e)
  have S3 := j4 (.flds [(name, d)]) ⟨_, _, j1, .cons rfl (S2.ga (v, d) hv |>.mono j2) .nil⟩
  have e : (σ.put a (.exn C s.heap.objs.size .none)).put s.heap.objs.size (.flds [(name, d)]) = (σ.put s.heap.objs.size (.flds [(name, d)])).put a (.exn C s.heap.objs.size .none) := by
    funext b; unfold Sto.put
    by_cases q1 : b = s.heap.objs.size
    · subst q1; rw [if_pos rfl, if_neg hne, if_pos rfl]
    · rw [if_neg q1]
      by_cases q2 : b = a
      · subst q2; rw [if_pos rfl, if_pos rfl]
      · rw [if_neg q2, if_neg q2, if_neg q1]
  refine q ρ _ _ _ ⟨rfl, h _ hn hne⟩ ?_
  rw [← e]
  exact S3.st
theorem Wx_AssignA {o value : Expr} {attr : Str} {p' pos : Pos} (hs : swapsWith value (some (.Attribute o attr p')) pos.line c.env = pure false)
    (h : WE G c Γ value ρ σ (fun d σ1 => ∀ v, WE G c ((v, d) :: Γ) o ρ σ1 (fun od σ2 => ∃ a, od = .ref a ∧ SetA G c a attr d ρ σ2 (R .next ρ)) X) X) (hX : ∀ x σ, X x σ → Y x ρ σ) :
    Wx G c Γ (.Assign [.Attribute o attr p'] value pos) ρ σ R Y := fun s Q E S q f => by
  have f' : Fail G c Γ s (fun x ρ' σ' => ρ' = ρ ∧ X x σ') E := f.up fun x ρ' σ' hx => hx.1 ▸ hX _ _ hx.2
  refine plainObj_wpAny_Assign_Attribute (h.seq S f' fun v d σ1 h1 t1 p1 S1 f1 => (p1 v).seq (s := { s with heap := h1, toks := t1 }) S1 f1 fun w od σ2 h2 t2 p2 S2 f2 => ?_) hs
  obtain ⟨a, rfl, p⟩ := p2
  exact p _ v w (.tail _ (.head _)) (.head _) { s with heap := h2, toks := t2 } _ E S2
    (fun ρ' σ' h3 t3 p3 S3 => q _ _ _ _ _ _ _ .next (p3.1 ▸ p3.2) (S3.weaken fun p hp => .tail _ (.tail _ hp))) .none
end
end Mine
namespace Mine
open PySem PySem.W PySem.Calls PyProof.Rows
noncomputable def Sto.del (σ : Sto) (a : Addr) : Sto := fun b => if b = a then none else σ b
section
variable {G : Gl} {c : Cx} {Γ : Pairs} {ρ : Loc} {σ : Sto} {P : D → Sto → Prop} {X : XP} {R : FP} {Y : XF} {h : Heap} {N FS : Led} {m : Str → Option Value}
/-- an object leaves the ledger -/
theorem StN.disown {e : Addr} {o : Obj} (S : StN G c σ ρ Γ h N FS m) (hm : (e, o) ∈ N) (ho : ∀ vs n, o ≠ tupOf vs n) :
    ∃ N', StN G c (σ.del e) ρ Γ h N' FS m ∧ Off G c.env.locals (N' ++ FS) e ∧ Sub N N' := by
  have hmem : ∀ p ∈ N.filter (fun p => p.1 != e) ++ FS, p ∈ N ++ FS := fun p hp => by
    rcases List.mem_append.mp hp with hp | hp
    · exact List.mem_append_left _ ((List.mem_filter.mp hp).1)
    · exact List.mem_append_right _ hp
  have hk : ∀ b x, b ≠ e → (b, x) ∈ N → (b, x) ∈ N.filter (fun p => p.1 != e) := fun b x hb hx => List.mem_filter.mpr ⟨hx, by simpa using hb⟩
  have hs : Sub N (N.filter fun p => p.1 != e) := fun b vs n hb => by
    by_cases q : b = e
    · subst q; exact absurd (mem_uniq S.nodup hm hb) (ho _ _)
    · exact hk b _ q hb
  have hme := S.nw _ (List.mem_append_left FS hm)
  have hsub : (N.filter (fun p => p.1 != e) ++ FS).Sublist (N ++ FS) := List.Sublist.append (List.filter_sublist) (List.Sublist.refl _)
  refine ⟨_, S.to S.fr (fun p hp => S.nw p (hmem p hp)) (S.nd.sublist (hsub.map _)) hs fun b y hy => ?_, ⟨hme.2.2, hme.2.1, fun hq => ?_⟩, hs⟩
  · unfold Sto.del at hy
    split at hy
    · cases hy
    · rename_i q; exact (S.re b y hy).mono hs fun x hx => hk b x q hx
  · rw [List.map_append] at hq
    rcases List.mem_append.mp hq with hq | hq
    · obtain ⟨p, hp, e'⟩ := List.mem_map.mp hq
      have := (List.mem_filter.mp hp).2
      simp [e'] at this
    · obtain ⟨p, hp, e'⟩ := List.mem_map.mp hq
      exact frame_ne S hm p hp e'
/-- an exception at hand, held exactly -/
theorem StX.ownObj {e : Addr} {x : Ex} {tb : Tb} (S : StX G c σ ρ Γ e x tb h) (hx : x.cls ≠ .type "tuple") : ∃ oe vs, St G c (σ.put e (.obj oe)) ρ Γ h ∧ σ e = none ∧ oe.data = .fields vs ∧ vs[2]? = some x.ctx := by
  obtain ⟨N, FS, m, S, ho, oe, vs, v0, he, e1, e2, hdd, hsz, h0, hr, ht⟩ := S
  have hne : σ e = none := by
    cases z : σ e with
    | none => rfl
    | some o => obtain ⟨y, hy⟩ := (S.re e o z).in; exact absurd (List.mem_map.mpr ⟨_, List.mem_append_left _ hy, rfl⟩) ho.2.2
  have W : News G.h₀ c.env.locals h ((e, oe) :: (N ++ FS)) := fun p hp => by
    rcases List.mem_cons.mp hp with rfl | hp
    · exact ⟨he, ho.2.1, ho.1⟩
    · exact S.nw p hp
  have S1 : StN G c σ ρ Γ h ((e, oe) :: N) FS m := S.to S.fr W (List.nodup_cons.mpr ⟨ho.2.2, S.nd⟩) (Sub.cons _ _) fun b y hb => (S.re b y hb).mono (Sub.cons _ _) fun z hz => List.mem_cons_of_mem _ hz
  exact ⟨oe, vs, (S1.putO (o := .obj oe) (.head _)).st, hne, hdd, h0.2⟩
theorem entry_unchain : entryFor table "proto.unchain" = some Builtin.«proto.unchain» := entryFor_of_tree (by kernel_rfl)
theorem unchain_step {A : Around} {e e0 : Addr} {oe : Obj} {vs : Array Value} {s : Shared} {Q : Value → Shared → Prop} {E : Value → Shared → Prop} (h0 : s.heap.get? e0 = some oe) (hd : oe.data = .fields vs) (h2 : vs[2]? = some .none) (q : Q .none s) :
    wpAny G.M A (runValue (.builtin "proto.unchain" ⟨[.ref e, .ref e0, .ref e0, .bool false], []⟩)) Q E s := by
  refine wpAny_runValue (codeAny_builtin entry_unchain ?_)
  unfold Builtin.«proto.unchain»
  refine wpAny_bind (wpAny_field h0 hd h2 ?_)
  rw [if_pos (by decide)]
  exact wpAny_pure q
/-- raise x from None, an exception being at hand -/
theorem Wx_RaiseFrom {e0 : Addr} {x0 : Ex} {x : Expr} {k : Nat} {p' pos : Pos} (F : c.Fn) (hx0 : x0.cls ≠ .type "tuple") (hctx : x0.ctx = .none)
    (h : ∀ oe vs, σ e0 = none → oe.data = .fields vs → vs[2]? = some .none → WE G (c.hand e0) Γ x ρ (σ.put e0 (.obj oe)) (fun d σ' => ∃ e C dx a0 τ, d = .ref e ∧ σ' e0 = some (.obj oe) ∧ σ' e = some (.exn C dx a0) ∧ excIn G.K C excBm "Exception.__new__" = true ∧ (∀ a o, τ a = some o → a ≠ e ∧ σ' a = some o) ∧ Y ⟨.ref C, some dx, a0, .ref e0⟩ ρ τ) (fun _ _ => False)) :
    WSX G (c.hand e0) Γ (exec (.Raise (some x) (some (.Constant .none k p')) pos) c.env) ρ σ e0 x0 R Y := fun s Q E S q f => by
  obtain ⟨oe, vs, S1, hnone, hd, h2⟩ := S.ownObj hx0
  rw [hctx] at h2
  rw [arm_exec_Raise]
  refine wpAny_bind (wpAny_standAt ?_)
  unfold raiseStmt
  simp only [evalOpt, Option.map]
  refine wpAny_bind (wpAny_bind ?_)
  refine (h oe vs hnone hd h2) s _ _ S1 (fun v d σ1 h1 t1 p1 S2 => ?_) (fun _ _ _ _ _ _ _ p => p.2.elim)
  obtain ⟨e, C, dx, a0, τ, rfl, q1, q2, hC, q3, q4⟩ := p1
  obtain rfl := S2.isRef (.head _)
  obtain ⟨N, FS, m, S2⟩ := S2
  have m0 := S2.re e0 _ q1
  obtain ⟨ws, sl, v0, m1, z1, z2, z3, z4⟩ := S2.re e _ q2
  have g0 := (S2.nw _ (List.mem_append_left FS m0)).1
  have g1 := (S2.nw _ (List.mem_append_left FS m1)).1
  dsimp only at g0 g1
  have hne : e0 ≠ e := by rintro rfl; rw [q1] at q2; cases q2
  have X0 : G.K.In h1 := G.X.keeps S2.fr.keep
  obtain ⟨nm, qn, Nn, bs, sn, sub, ab, col, dd, k0, k1, k2, k3, k5, hCo⟩ := exc_cls X0 hC
  have hcB : (Value.ref C :: excBm).contains (.type "BaseException") = true := by rw [List.contains_cons]; simp
  refine wpAny_bind (wpAny_standAt (wpAny_pure ?_))
  obtain ⟨hp0, g, dr, tk, os⟩ := s
  refine wpAny_bind (wpAny_holding (wpAny_bind (wpAny_Constant_none (wpAny_bind (wpAny_standAt (wpAny_pure (wpAny_bind (wpAny_pure (wpAny_bind (wpAny_holding ?_)))))))))) 
  dsimp only
  unfold excFromValue isExcClass
  repeat (first | with_reducible refine wpAny_loadPart_at g1 ?_ | with_reducible refine wpAny_loadPart_at hCo ?_ | (with_reducible refine wpAny_isSubtype_exc hCo ?_; rw [hcB]) | wp_step)
  rw [if_pos (by omega)]
  refine wpAny_update g1 ?_
  have g1' := Heap.get?_update_self (Obj.mapFields fun x => x.setIfInBounds 3 Value.none) g1 rfl
  have hCne : C ≠ e := by
    rintro rfl
    rw [g1] at hCo
    cases hCo
  have hCo' := (Heap.get?_update_ne h1 _ _ (Obj.mapFields fun x => x.setIfInBounds 3 Value.none) hCne).trans hCo
  have g0' := (Heap.get?_update_ne h1 _ _ (Obj.mapFields fun x => x.setIfInBounds 3 Value.none) hne).trans g0
  have k1 : ∀ b y, b ≠ e → h1.get? b = some y → (h1.update e (Obj.mapFields fun x => x.setIfInBounds 3 Value.none)).get? b = some y := fun b y hb hy => (Heap.get?_update_ne h1 _ _ _ hb).trans hy
  generalize h1.update e (Obj.mapFields fun x => x.setIfInBounds 3 Value.none) = H1 at g1' hCo' g0' k1 ⊢
  refine wpAny_bind (wpAny_setField g1' rfl (by simp; omega) ?_)
  have g1'' := Heap.get?_update_self (Obj.mapFields fun x => x.setIfInBounds 4 (Value.bool true)) g1' rfl
  have hCo'' := (Heap.get?_update_ne H1 _ _ (Obj.mapFields fun x => x.setIfInBounds 4 (Value.bool true)) hCne).trans hCo'
  have g0'' := (Heap.get?_update_ne H1 _ _ (Obj.mapFields fun x => x.setIfInBounds 4 (Value.bool true)) hne).trans g0'
  have k2 : ∀ b y, b ≠ e → h1.get? b = some y → (H1.update e (Obj.mapFields fun x => x.setIfInBounds 4 (Value.bool true))).get? b = some y := fun b y hb hy => (Heap.get?_update_ne H1 _ _ _ hb).trans (k1 b y hb hy)
  dsimp only
  generalize H1.update e (Obj.mapFields fun x => x.setIfInBounds 4 (Value.bool true)) = H2 at g1'' hCo'' g0'' k2 ⊢
  have f1 : ((ws.setIfInBounds 3 Value.none).setIfInBounds 4 (Value.bool true))[1]? = some .none := by
    rw [Array.getElem?_setIfInBounds_ne (by decide), Array.getElem?_setIfInBounds_ne (by decide)]; exact z3
  have f0 : ((ws.setIfInBounds 3 Value.none).setIfInBounds 4 (Value.bool true))[0]? = some v0 := by
    rw [Array.getElem?_setIfInBounds_ne (by decide), Array.getElem?_setIfInBounds_ne (by decide)]; exact z2
  generalize hws : (ws.setIfInBounds 3 Value.none).setIfInBounds 4 (Value.bool true) = ws' at f1 f0
  have hsz : 5 ≤ ws'.size := by rw [← hws]; simpa using z1
  have g3 : H2.get? e = some ⟨.ref C, some dx, .fields ws', sl⟩ := by rw [g1'', ← hws]; rfl
  unfold raisedInstance
  repeat (first | with_reducible refine wpAny_loadPart_at g3 ?_ | with_reducible refine wpAny_loadPart_at hCo'' ?_ | wp_step)
  rw [f1]
  refine wpAny_pure ?_
  rw [if_neg (by decide)]
  refine wpAny_pure ?_
  unfold raiseNew
  refine wpAny_bind (wpAny_handled ?_)
  have hh : (c.hand e0).A.handled = some (.ref e0) := rfl
  rw [hh]
  have hee : ((Value.ref e0) != (Value.ref e)) = true := by simp [hne]
  dsimp only
  rw [hee, if_pos rfl]
  refine wpAny_bind (wpAny_holding (unchain_step (G := G) g0'' hd h2 ?_))
  refine wpAny_bind (show wpAny _ _ (setField (.ref e) 2 (.ref e0)) _ _ _ from wpAny_setField g3 rfl (by omega) ?_)
  refine wpAny_throw ?_
  have g4 := Heap.get?_update_self (Obj.mapFields fun x => x.setIfInBounds 2 (Value.ref e0)) g3 rfl
  have k3 : ∀ b y, b ≠ e → h1.get? b = some y → (H2.update e (Obj.mapFields fun x => x.setIfInBounds 2 (Value.ref e0))).get? b = some y := fun b y hb hy => (Heap.get?_update_ne H2 _ _ _ hb).trans (k2 b y hb hy)
  obtain ⟨N', S3, hoff, hsub⟩ := S2.disown m1 (by intro vs n q; cases q)
  have S4 := S3.off (h' := H2.update e (Obj.mapFields fun x => x.setIfInBounds 2 (Value.ref e0))) fun b o hb hy => k3 b o (fun q => hb (q ▸ hoff)) hy
  have S5 := (S4.sub (σ' := τ) fun a o ha => by unfold Sto.del; rw [if_neg (q3 a o ha).1]; exact (q3 a o ha).2).weaken (Γ' := Γ) fun p hp => .tail _ hp
  refine f e ⟨.ref C, some dx, a0, .ref e0⟩ .new ρ τ _ t1 q4 ⟨N', FS, m, S5, hoff, _, ws'.setIfInBounds 2 (.ref e0), v0, g4, rfl, rfl, rfl, by simpa using hsz, ⟨?_, ?_⟩, z4.mono hsub, ?_⟩
  · rw [Array.getElem?_setIfInBounds_ne (by decide)]; exact f0
  · rw [Array.getElem?_setIfInBounds_self_of_lt (by omega)]
  · show (ws'.setIfInBounds 2 (.ref e0))[1]? = some .none
    rw [Array.getElem?_setIfInBounds_ne (by decide)]; exact f1
end
end Mine
namespace Mine
open PySem PySem.W PySem.Calls PyProof.Rows
section
variable {G : Gl} {c : Cx} {Γ : Pairs} {ρ : Loc} {σ : Sto} {P : D → Sto → Prop} {X : XP} {R : FP} {Y : XF} {h : Heap} {N FS : Led} {m : Str → Option Value}
/-- a statement of a def's own code -/
noncomputable def WSA (G : Gl) (c : Cx) (Γ : Pairs) (body : List Stmt) (t : Sem Flow) (ρ : Loc) (σ : Sto) (P : FP) (X : XF) : Prop :=
  ∀ (s : Shared) (Q : Flow → Shared → Prop) (E : Value → Shared → Prop), St G c σ ρ Γ s.heap → Done G c Γ s P Q → Fail G c Γ s X E → _root_.PySem.wpAt G.M c.A (.func body c.env) t Q E s
theorem WSA_cons {body : List Stmt} {st : Stmt} {rest : List Stmt}
    (h : Wx G c Γ st ρ σ (fun f ρ' σ' => match f with | .next => WSA G c Γ body (execs rest c.env) ρ' σ' R Y | f => R f ρ' σ') Y) : WSA G c Γ body (execs (st :: rest) c.env) ρ σ R Y := fun s Q E S q f => by
  refine ks_wpAt_execs_cons (wpAt_of_wpAny (h s _ E S (fun fw fl Γ' ρ' σ' h1 t1 ok p S1 => ?_) f))
  cases ok with
  | next => exact p { s with heap := h1, toks := t1 } Q E S1 (fun a b Γ' ρ' σ' h tk x y z => q a b Γ' ρ' σ' h tk x y z) (f.at h1 t1 fun _ hp => hp)
  | brk => exact q _ _ _ _ _ _ _ .brk p S1
  | cont => exact q _ _ _ _ _ _ _ .cont p S1
  | ret v d => exact q _ _ _ _ _ _ _ (.ret v d) p S1
theorem WSA_last {body : List Stmt} {st : Stmt} (h : WSA G c Γ body (exec st c.env) ρ σ R Y) : WSA G c Γ body (execs [st] c.env) ρ σ R Y := fun s Q E S q f => by
  refine ks_wpAt_execs_cons (_root_.PySem.wpAt_mono (h s Q E S q f) (fun fl s' z => ?_) fun _ _ z => z)
  cases fl with
  | next => exact wpAt_of_wpAny (wpAny_execs_nil z)
  | _ => exact z
theorem super_init {body : List Stmt} {p0 p1 apos pos epos : Pos} {arg : Expr} {pl : Sem Bool} {e C dx cc cda f : Addr} {a0 : D} {fd : FuncData} {ar : Arg} {vs : Array Value} {file : Str} {tf : Tok} {oc ccl cl : Value} {od cdd cld : Option Addr} {osl ccs csl : Array (Option Value)}
    (F : c.Fn) (hi : interactive c.env = false) (hs : swapsWith (.Call (.Attribute (.Call (.Name "super" p0) [] [] p1) "__init__" apos) [arg] [] pos) none epos.line c.env = pure false)
    (he : eval (.Call (.Attribute (.Call (.Name "super" p0) [] [] p1) "__init__" apos) [arg] [] pos) c.env = (do
      let ov ← attributeBase (.Call (.Name "super" p0) [] [] p1) "__init__" c.env (eval (.Call (.Name "super" p0) [] [] p1) c.env)
      standAt apos.atName
      let (f, first) ← holding [ov] (getMethod ov "__init__" pl)
      callWith pos f first (backTo pos (starEach [arg] c.env)) []))
    (hst : starEach [arg] c.env = (false, eval arg c.env) :: starEach [] c.env)
    (hks : c.env.kindOf "super" = some .globalImplicit) (hkc : c.env.kindOf "__class__" = some .free) (hfu : c.env.func = some f) (hf : G.K.lookup f = some ⟨oc, od, .func fd, osl⟩)
    (hp : (fd.params.posonlyargs ++ fd.params.args).head? = some ar) (hco : c.env.code = .ref cda) (hcode : G.K.lookup cda = some ⟨ccl, cdd, .fields vs, ccs⟩) (hvs : vs[2]? = some (.str file tf)) (hfile : ((G.prog.main.file : Str) == file) = true)
    (htop : (G.prog.main.scope.names.lookup ("super" : Str)).isSome = false) (hcell : G.K.lookup cc = some ⟨cl, cld, .cell (some (.ref C)), csl⟩) (hcc : c.env.cells.lookup ("__class__" : Str) = some cc)
    (hself : ρ ar.arg = some (.ref e)) (hls : c.env.kindOf ar.arg = some .local) (hsup : nsIn G.K mainGlobals "super" = some none) (hg : c.env.globals = mainGlobals) (hb : c.env.builtins = builtinsNs)
    (hC : excIn G.K C excBm "Exception.__new__" = true) (hopq : nsIn G.K cStatics "thirdparty.any" = some none) (hal : alongIn G.K "__init__" excBm = some (some (.builtin "Exception.__init__")))
    (hx : σ e = some (.exn C dx a0))
    (h : ∀ u, σ u = none → WE G c Γ arg ρ (σ.put u (.obj (SupI.wrapObj e))) (fun d σ' => ∃ a1, σ' u = some (.obj (SupI.wrapObj e)) ∧ σ' e = some (.exn C dx a1) ∧ ∃ τ, (∀ a o, τ a = some o → σ'.put e (.exn C dx (.tup [d])) a = some o) ∧ R .next ρ τ) X) (hX : ∀ x σ, X x σ → Y x ρ σ) :
    WSA G c Γ body (exec (.Expr (.Call (.Attribute (.Call (.Name "super" p0) [] [] p1) "__init__" apos) [arg] [] pos) epos) c.env) ρ σ R Y := fun s Q E S q fl => by
  have f' : Fail G c Γ s (fun x ρ' σ' => ρ' = ρ ∧ X x σ') E := fl.up fun x ρ' σ' hx => hx.1 ▸ hX _ _ hx.2
  obtain ⟨N, FS, m, S⟩ := S
  have X0 : G.K.In s.heap := G.X.keeps S.fr.keep
  obtain ⟨hh, g, d, t, os⟩ := s
  obtain ⟨nm, qn, Nn, bs, sn, sub, ab, col, dd, k0, k1, k2, k3, k5, hCo⟩ := exc_cls X0 hC
  obtain ⟨ws, sl, v0, m1, z1, z2, z3, z4⟩ := S.re e _ hx
  have g1 := (S.nw _ (List.mem_append_left FS m1)).1
  dsimp only at g1
  have hCne : e ≠ C := by
    rintro rfl
    rw [g1] at hCo
    cases hCo
  have hsub : ∀ b, b ∈ Value.ref C :: excBm → ∀ h', h'.get? C = some (excClassObj nm qn C Nn bs excBm true sn sub ab col dd k0 k1 k2 k3 k5 "Exception.__new__") → Looks G.M h' (isSubtype (.ref C) b) true := fun b hb h' hC' A Q E s k q => by
    obtain ⟨h1, g1, d1, t1, o1⟩ := s
    exact wpAny_isSubtype_exc (k _ _ hC') (by rw [List.contains_iff_mem.mpr hb]; exact q)
  obtain ⟨v, hv, r⟩ := S.lo _ _ hself
  cases r
  refine ks_wpAt_Expr_any (hi := hi) (hs := hs) (ks_wpAt_MethodCall (pl := pl) (he := he) ?_)
  refine ks_wpAt_super_base (env := c.env) hks hkc (by decide +kernel) hfu (X0 _ _ hf) rfl hp hco (X0 _ _ hcode) rfl hvs hfile htop ?_
  refine ks_loadName_global F.kind hks (loadGlobal_builtin (env := c.env) (by rw [hg]; exact G.g.keeps S.fr.keep) (mg_none_of G.X G.g hsup) (by rw [hb]; exact G.b.keeps S.fr.keep) ((G.bi _ (by decide +kernel)).trans (by decide +kernel)) ⟨rfl, ?_⟩)
  refine wpAny_loadName_free F.kind hkc hcc ⟨_, X0 _ _ hcell, rfl⟩ ?_
  refine wpAny_loadName_local F.kind hls S.fr.ns hv ?_
  refine ks_wpAny_isType_cls hCo rfl ⟨rfl, ?_⟩
  refine ks_wpAny_call_super hCo rfl g1 rfl (fun c q => by cases q) (hsub _ (by simp) _ hCo) (fun h' es k => ?_)
  have S1 := S.off (h' := h') fun b o _ hb => k b o hb
  have hl0 : Looks G.M h' (mroOf (.ref C)) (.ref C :: excBm) := fun A Q E s k' q => by
    obtain ⟨h1, g1, d1, t1, o1⟩ := s
    exact wpAny_mroOf_exc (k' _ _ (k _ _ hCo)) q
  refine SupI.getMethod_sup es (looks_opaque (G.X.keeps S1.fr.keep) hopq) hl0 (by simp [List.dropWhile]) (G.X.keeps S1.fr.keep) hal (k _ _ g1) rfl (hsub _ (by simp) _ (k _ _ hCo)) hCne ?_
  have W := News.push S1.fr S1.nw (SupI.wrapObj e)
  obtain ⟨S2, hun⟩ := S1.alloc (S1.fr.push _) W S1.lt
  have S3 := S2.putO (o := .obj (SupI.wrapObj e)) (.head _)
  have hw := (S3.nw _ (List.mem_append_left FS (.head _ : (h'.objs.size, SupI.wrapObj e) ∈ (h'.objs.size, SupI.wrapObj e) :: N))).1
  dsimp only at hw
  have key := h h'.objs.size hun ⟨h'.push (SupI.wrapObj e), g, d, t + 1, os⟩
    (fun v s' => s'.heap.get? h'.objs.size = some (SupI.wrapObj e) ∧ wpAny G.M c.A (call (.ref h'.objs.size) [v]) (fun _ => Q .next) E s') E S3.st (fun v dv σ1 h1 t1 p1 S4 => ?_) (f'.at _ _ fun _ hp => hp)
  · refine callWith_of (P := fun H => H.get? h'.objs.size = some (SupI.wrapObj e)) (by rw [hst]; rfl) (fun H hH => ⟨.machine, .inr (.inl rfl), fun A Q E s k q => ?_⟩) ?_
    · unfold keeperOf
      refine wpAny_bind (wpAny_load (k _ _ hH) ?_)
      simp only [show (Value.type "method-wrapper" != Value.type "method") = true by decide, show (Value.type "method-wrapper" == Value.type "builtin_function_or_method" || Value.type "method-wrapper" == Value.type "method-wrapper") = true by decide, if_true]
      exact wpAny_pure q
    · have go : wpAny G.M c.A (spliced (backTo pos (starEach [arg] c.env))) (fun vs s' => s'.heap.get? h'.objs.size = some (SupI.wrapObj e) ∧ wpAny G.M c.A (call (.ref h'.objs.size) ([] ++ vs)) (fun _ => Q .next) E s') E ⟨h'.push (SupI.wrapObj e), g, d, t + 1, os⟩ := by
        refine spliced_more (he := hst) (wpAny_mono key (fun v s' z => ?_) fun _ _ z => z)
        exact spliced_none z
      rw [hst] at go ⊢
      exact evalArgs_plain go
  · obtain ⟨a1, q1, q2, τ, q3, q4⟩ := p1
    obtain ⟨N1, FS1, mm, S4⟩ := S4
    have mu := S4.re _ _ q1
    obtain ⟨ws1, sl1, v1, n1, y1, y2, y3, y4⟩ := S4.re e _ q2
    have gu := (S4.nw _ (List.mem_append_left FS1 mu)).1
    have ge := (S4.nw _ (List.mem_append_left FS1 n1)).1
    dsimp only at gu ge
    obtain ⟨nm, qn, Nn, bs, sn, sub, ab, col, dd, k0, k1, k2, k3, k5, hCo1⟩ := exc_cls (G.X.keeps S4.fr.keep) hC
    refine ⟨gu, SupI.call_wrap gu hCo1 ge rfl rfl y2 ?_⟩
    have W1 := News.push S4.fr S4.nw (excArgs [v])
    obtain ⟨S5, -⟩ := S4.alloc (S4.fr.push _) W1 S4.lt
    have ge1 : (h1.push (excArgs [v])).get? e = some ⟨.ref C, some dx, .fields ws1, sl1⟩ := Heap.get?_push_of_some _ ge
    obtain ⟨N2, j1, j2, j3, j4⟩ := S5.setObj (o' := ⟨.ref C, some dx, .fields (ws1.setIfInBounds 0 (.ref h1.objs.size)), sl1⟩) (h' := (h1.push (excArgs [v])).update e (Obj.mapFields (·.setIfInBounds 0 (.ref h1.objs.size)))) (.tail _ n1) (by intro vs n q; cases q)
      (Heap.get?_update_self _ ge1 rfl) (fun b x hb q => (Heap.get?_update_ne _ _ _ _ hb).trans q)
    have S6 := j4 (.exn C dx (.tup [dv])) ⟨_, sl1, .ref h1.objs.size, j1, by simpa using y1, by rw [Array.getElem?_setIfInBounds_self_of_lt (by omega)], by rw [Array.getElem?_setIfInBounds_ne (by decide)]; exact y3,
      .inr (.tup (vs := [v]) (n := 0) (j2 _ _ _ (.head _)) (.cons ((S4.ga (v, dv) (.head _)).mono ((Sub.cons _ _).trans j2)) .nil))⟩
    exact q _ _ _ _ _ _ _ .next q4 ((S6.st.sub q3).weaken fun p hp => .tail _ hp)
end
end Mine
set_option maxHeartbeats 1000000
namespace Mine
open PySem PySem.W PySem.Calls PyProof.Rows
section
variable {G : Gl} {c : Cx} {Γ : Pairs} {ρ : Loc} {σ : Sto} {P : D → Sto → Prop} {X : XP} {R : FP} {Y : XF} {h : Heap} {N FS : Led} {m : Str → Option Value}
theorem fn_introAt {hd : Option Value → Prop} {n : Nat} {f : Addr} {ds : List D} {fd : FuncData} {oc : Value} {od : Option Addr} {osl : Array (Option Value)} {body : List Stmt} {xs : List Str}
    (ho : G.K.lookup f = some ⟨oc, od, .func fd, osl⟩) (hcd : codeIn G.K fd.code fd.qualname = true) (hb : fd.body = .stmts body)
    (hbind : ∀ (s : Shared) (vs : List Value), G.K.In s.heap → vs.length = ds.length → BindsTo s fd ⟨vs, []⟩ (xs.zip vs)) (hnd : xs.Nodup) (hcell : ∀ x ∈ fd.scope.names, x.2 ≠ .cell) (hloc : ∀ x ∈ xs, fd.scope.names.lookup x = some .local)
    (hco : fd.scope.isCoroutine = false) (hgen : fd.scope.isGenerator = false) (hk : fd.scope.kind = .function) (hgl : fd.globals = mainGlobals) (hbl : fd.builtins = builtinsNs)
    (k : ∀ (c' : Cx) (Γ : Pairs) (L : Addr), c'.Fn → c'.Room n → hd c'.A.handled → c'.env = callEnv fd L f → WSA G c' Γ body (execs body c'.env) (locOf xs ds) σ (RetP P) (fun x _ σ' => X x σ')) :
    FnC G hd (n + 1) (.ref f) ds σ P X := fun c ρ Γ vs s R F room hh S hl hz kr ke => by
  have X0 : G.K.In s.heap := let ⟨_, _, _, S⟩ := S; G.X.keeps S.fr.keep
  have hlim : s.heap.NoLimit := let ⟨_, _, _, S⟩ := S; G.nolimit.keeps S.fr.keep
  refine ks_codeAny_call_defAt (fd := fd) room.ln (X0 _ _ ho) rfl hlim (codeRec_of X0 hcd) hb (hbind s vs X0 hl) hcell (fun x hx => ?_) (fun h₁ hns hkp => ?_) hco hgen hk
  · obtain ⟨i, hi, e⟩ := List.mem_iff_getElem.mp hx
    have : x.1 ∈ xs := by
      have : x.1 = xs[i]'(by rw [List.length_zip] at hi; omega) := by rw [← e]; simp
      rw [this]; exact List.getElem_mem _
    exact hloc _ this
  · have hlo : ∀ N, (∀ p ∈ Γ, RelD N p.1 p.2) → ∀ x d, locOf xs ds x = some d → ∃ v, (xs.zip vs).reverse.lookup x = some v ∧ RelD N v d := fun N hg x d e => by
      obtain ⟨v, e1, r⟩ := loc_rel (relAll_of hg hl hz) x d e
      refine ⟨v, lookup_rev ?_ e1, r⟩
      rw [zip_fst]
      exact List.Sublist.nodup (List.take_sublist _ _) hnd
    let c' : Cx := ⟨c.A.deeper (callEnv fd s.heap.objs.size f), callEnv fd s.heap.objs.size f, (c.env, ρ) :: c.stk⟩
    have S' : St G c' σ (locOf xs ds) Γ h₁ := S.push (c' := c') F.fk rfl rfl hns hkp hlo
    have F' : c'.Fn := ⟨by show (c.A.frames.map _) = _; rw [F.frames]; rfl, rfl, hk, F.realc⟩
    have rm : c'.Room n := ⟨by show c.A.depth + 1 + 2 * n < 900; have := room.depth; omega, by show c.A.units + 3 + 16 * n + 300 < 9900; have := room.units; omega⟩
    refine k c' Γ s.heap.objs.size F' rm hh rfl { s with heap := h₁, toks := s.toks + (xs.zip vs).length } _ _ S' (fun fw fl Γ' ρ' σ' h' tk ok p S1 => ?_) (fun e x tb ρ' σ' h' tk p S1 => ?_)
    · cases ok with
      | next => exact kr .none .none σ' h' tk p ((S1.pop (c := c) F.fk rfl).put_plain fun _ => .none)
      | brk => exact p.elim
      | cont => exact p.elim
      | ret v d => exact kr v d σ' h' tk p (S1.pop (c := c) F.fk rfl)
    · exact leaving_step (s := { s with heap := h', toks := tk }) F' S1 fun h'' S2 => ke e x σ' h'' tk p (S2.pop (c := c) F.fk rfl)
-- the words
noncomputable def lit (x : String) : List Nat := (Str.ofString x).cps.toList
noncomputable def dig (n : Int) : List Nat := (Str.ofString (toString n)).cps.toList
theorem pct1_str {prog : Program} {w : World} {A : Around} {E : Value → Shared → Prop} {s : Shared} {x W : Str} {t u : Tok} {b L : Addr} {p : Int} {n : Nat} {h₀ : Heap} {news : List (Addr × Obj)} {Q : Value → Shared → Prop} (hp0 : 0 ≤ p) (hp1 : p < 10000000) (hW : W.length ≤ 1000)
    (N : News h₀ L s.heap news) (hb : (b, ({ cls := .type "tuple", data := .seq #[.str W u, .int p v] n } : Obj)) ∈ news) (hx : x = Str.ofString "%s at position %d")
    (h : ∀ t' k, Q (.str (W ++ Str.ofString " at position " ++ Str.ofString (toString p)) t') { s with toks := k }) : wpAny (model prog w) A (binaryOp .Mod (.str x t) (.ref b)) Q E s := by
  refine KPt.mod_tuple (X' := ⟨#[37, 115, 32, 97, 116, 32, 112, 111, 115, 105, 116, 105, 111, 110, 32, 37, 100]⟩) N hb (hx.trans (by decide +kernel)) ?_ h
  kpt_run
theorem pct2_str {prog : Program} {w : World} {A : Around} {E : Value → Shared → Prop} {s : Shared} {x W : Str} {t u v v' : Tok} {b L : Addr} {p q : Int} {n : Nat} {h₀ : Heap} {news : List (Addr × Obj)} {Q : Value → Shared → Prop} (hp0 : 0 ≤ p) (hp1 : p < 10000000) (hq0 : 0 ≤ q) (hq1 : q < 10000000) (hW : W.length ≤ 1000)
    (N : News h₀ L s.heap news) (hb : (b, ({ cls := .type "tuple", data := .seq #[.str W u, .int p v, .int q v'] n } : Obj)) ∈ news) (hx : x = Str.ofString "%s (line %d, column %d)")
    (h : ∀ t' k, Q (.str (W ++ Str.ofString " (line " ++ Str.ofString (toString p) ++ Str.ofString ", column " ++ Str.ofString (toString q) ++ Str.ofString ")") t') { s with toks := k }) : wpAny (model prog w) A (binaryOp .Mod (.str x t) (.ref b)) Q E s := by
  refine KPt.mod_tuple (X' := ⟨#[37, 115, 32, 40, 108, 105, 110, 101, 32, 37, 100, 44, 32, 99, 111, 108, 117, 109, 110, 32, 37, 100, 41]⟩) N hb (hx.trans (by decide +kernel)) ?_ h
  kpt_run
theorem RelD.isStr {N : Led} {v : Value} {l : List Nat} (r : RelD N v (.str l)) : ∃ x t, v = .str x t ∧ x.cps.toList = l := by cases r with | str e => exact ⟨_, _, rfl, e⟩
theorem RelD.isInt {N : Led} {v : Value} {i : Int} (r : RelD N v (.int i)) : ∃ t, v = .int i t := by cases r; exact ⟨_, rfl⟩
theorem StN.tupRef {a : Addr} {ds : List D} {v : Value} (S : StN G c σ ρ Γ h N FS m) (hv : (v, .tup ds) ∈ Γ) : ∃ a vs n, v = .ref a ∧ (a, tupOf vs.toArray n) ∈ N ∧ RelAll N vs ds := by
  have := S.ga _ hv
  cases this with | tup h1 h2 => exact ⟨_, _, _, rfl, h1, h2⟩
theorem pct1 {l : List Nat} {p : Int} {F : List Nat} (hF : F = lit "%s at position %d") (hp0 : 0 ≤ p) (hp1 : p < 10000000) (hl : l.length ≤ 1000) (h : P (.str (l ++ lit " at position " ++ dig p)) σ) : W2 G c (binaryOp .Mod) (.str F) (.tup [.str l, .int p]) ρ σ P X := fun Γ v w hv hw s Q E S q _ => by
  obtain ⟨x, t, rfl, e⟩ := S.isStr hv
  have S0 := S
  obtain ⟨N, FS, m, S⟩ := S
  obtain ⟨a, vs, n, rfl, h1, h2⟩ := S.tupRef (a := 0) hw
  obtain - | ⟨r1, r2⟩ := h2
  obtain - | ⟨r3, r4⟩ := r2
  obtain - | ⟨-, -⟩ := r4
  obtain ⟨x1, t1, rfl, e1⟩ := r1.isStr
  obtain ⟨t2, rfl⟩ := r3.isInt
  exact pct1_str hp0 hp1 (by rw [str_len e1]; exact hl) S.nw (List.mem_append_left _ h1) ((str_eq e).trans (by rw [hF]; rfl)) fun t' k => q _ _ σ s.heap k h (S0.put_plain fun _ => .str (by rw [cat_list (cat_list e1 rfl) rfl]; rfl))
theorem pct2 {l : List Nat} {p r : Int} {F : List Nat} (hF : F = lit "%s (line %d, column %d)") (hp0 : 0 ≤ p) (hp1 : p < 10000000) (hr0 : 0 ≤ r) (hr1 : r < 10000000) (hl : l.length ≤ 1000)
    (h : P (.str (l ++ lit " (line " ++ dig p ++ lit ", column " ++ dig r ++ lit ")")) σ) : W2 G c (binaryOp .Mod) (.str F) (.tup [.str l, .int p, .int r]) ρ σ P X := fun Γ v w hv hw s Q E S q _ => by
  obtain ⟨x, t, rfl, e⟩ := S.isStr hv
  have S0 := S
  obtain ⟨N, FS, m, S⟩ := S
  obtain ⟨a, vs, n, rfl, h1, h2⟩ := S.tupRef (a := 0) hw
  obtain - | ⟨r1, r2⟩ := h2
  obtain - | ⟨r3, r4⟩ := r2
  obtain - | ⟨r5, r6⟩ := r4
  obtain - | ⟨-, -⟩ := r6
  obtain ⟨x1, t1, rfl, e1⟩ := r1.isStr
  obtain ⟨t2, rfl⟩ := r3.isInt
  obtain ⟨t3, rfl⟩ := r5.isInt
  exact pct2_str hp0 hp1 hr0 hr1 (by rw [str_len e1]; exact hl) S.nw (List.mem_append_left _ h1) ((str_eq e).trans (by rw [hF]; rfl)) fun t' k => q _ _ σ s.heap k h (S0.put_plain fun _ => .str (by rw [cat_list (cat_list (cat_list (cat_list (cat_list e1 rfl) rfl) rfl) rfl) rfl]; rfl))
end
end Mine
set_option maxHeartbeats 1000000
namespace Mine
open PySem PySem.W PySem.Calls PyProof.Rows
/-- line ends ahead of p -/
noncomputable def nlc (l : List Nat) : Nat → Nat
  | 0 => 0
  | p + 1 => nlc l p + if l[p]? = some 10 then 1 else 0
/-- the last of them -/
noncomputable def nll (l : List Nat) : Nat → Int
  | 0 => -1
  | p + 1 => if l[p]? = some 10 then (p : Int) else nll l p
theorem nlc_le (l : List Nat) : ∀ p, nlc l p ≤ p
  | 0 => Nat.le_refl _
  | p + 1 => by have := nlc_le l p; unfold nlc; split <;> omega
theorem nll_ge (l : List Nat) : ∀ p, -1 ≤ nll l p
  | 0 => by simp [nll]
  | p + 1 => by have := nll_ge l p; unfold nll; split <;> omega
theorem nll_lt (l : List Nat) : ∀ p : Nat, nll l p < p
  | 0 => by simp [nll]
  | p + 1 => by have := nll_lt l p; unfold nll; split <;> omega
theorem nlc_mem (l : List Nat) : ∀ p, p ≤ l.length → (nlc l p ≠ 0 ↔ 10 ∈ l.take p)
  | 0, _ => by simp [nlc]
  | p + 1, h => by
    have ih := nlc_mem l p (by omega)
    have e : l[p]? = some l[p] := List.getElem?_eq_getElem (by omega)
    unfold nlc
    rw [List.take_add_one, e, List.mem_append, ← ih]
    by_cases q : l[p] = 10
    · simp [q]
    · simp [q]; exact fun z => absurd z.symm q
theorem forIn_inv {m : Type → Type} [Monad m] [LawfulMonad m] {α β : Type} (f : α → β → m (ForInStep β)) (I : Nat → β) : ∀ (l : List α) (k : Nat), (∀ i x, l[i]? = some x → f x (I (k + i)) = pure (.yield (I (k + i + 1)))) → forIn l (I k) f = pure (I (k + l.length))
  | [], k, _ => by rw [List.forIn_nil]; rfl
  | a :: l, k, h => by
    rw [List.forIn_cons, show f a (I k) = _ from h 0 a rfl, pure_bind]
    dsimp only
    rw [show k + 0 + 1 = k + 1 from rfl, forIn_inv f I l (k + 1) (fun i x hi => by have := h (i + 1) x (by simpa using hi); rw [show k + 1 + i = k + (i + 1) from by omega]; exact this)]
    simp only [List.length_cons]
    congr 2; omega
theorem range_inv {m : Type → Type} [Monad m] [LawfulMonad m] {β : Type} (f : Nat → β → m (ForInStep β)) (I : Nat → β) (n : Nat) (h : ∀ i, i < n → f i (I i) = pure (.yield (I (i + 1)))) : forIn [0:n] (I 0) f = pure (I n) := by
  rw [Std.Legacy.Range.forIn_eq_forIn_range']
  have e : (List.range' [0:n].start [0:n].size [0:n].step).length = n := by simp [Std.Legacy.Range.size]
  have := forIn_inv f I (List.range' [0:n].start [0:n].size [0:n].step) 0 (fun i x hi => by
    have hlt : i < n := by rw [← e]; exact (List.getElem?_eq_some_iff.mp hi).1
    have hx : x = i := by
      rw [List.getElem?_range' (by simpa [Std.Legacy.Range.size] using hlt)] at hi
      simpa using hi.symm
    rw [hx, Nat.zero_add]; exact h i hlt)
  rw [e] at this
  simpa using this
namespace Nl
open Builtin.Str
theorem subAt_one {x : Str} {l : List Nat} (e : x.cps.toList = l) (i : Nat) : subAt x ⟨#[10]⟩ i = decide (l[i]? = some 10) := by
  unfold subAt
  have hx : x.cps = l.toArray := by rw [← e]
  rw [hx]
  show ((l.toArray.extract i (i + 1)) == #[10]) = _
  have e1 : l.toArray.extract i (i + 1) = ((l.drop i).take 1).toArray := by
    simp [List.extract_toArray]
  rw [e1]
  cases q : l[i]? with
  | none =>
    have : l.drop i = [] := List.drop_eq_nil_of_le (by simpa using q)
    simp [this]
  | some a =>
    obtain ⟨hi, ha⟩ := List.getElem?_eq_some_iff.mp q
    rw [List.drop_eq_getElem_cons hi]
    simp only [ha, List.take_succ_cons, List.take_zero, Option.some.injEq]
    by_cases z : a = 10 <;> simp [z]
/-- the search's state -/
noncomputable def stS (l : List Nat) (hi lim : Nat) : Nat → Array Nat × Nat
  | 0 => (#[], 0)
  | i + 1 => let s := stS l hi lim i; if s.1.size < lim ∧ s.2 ≤ i ∧ i + 1 ≤ hi ∧ l[i]? = some 10 then (s.1.push i, i + 1) else s
theorem stS_free (l : List Nat) (hi lim : Nat) : ∀ i, (stS l hi lim i).2 ≤ i
  | 0 => Nat.le_refl _
  | i + 1 => by have := stS_free l hi lim i; unfold stS; dsimp only; split <;> omega
theorem stS_size (l : List Nat) (hi lim : Nat) : ∀ i, (stS l hi lim i).1.size ≤ i
  | 0 => by simp [stS]
  | i + 1 => by have := stS_size l hi lim i; unfold stS; dsimp only; split <;> simp <;> omega
theorem stS_all (l : List Nat) (hi lim : Nat) (hl : hi < lim) : ∀ i, i ≤ hi → (stS l hi lim i).1.size = nlc l i
  | 0, _ => rfl
  | i + 1, h => by
    have h1 := stS_free l hi lim i
    have h2 := stS_size l hi lim i
    have ih := stS_all l hi lim hl i (by omega)
    unfold stS nlc
    dsimp only
    by_cases q : l[i]? = some 10
    · rw [if_pos ⟨by omega, h1, h, q⟩, if_pos q]; simp [ih]
    · rw [if_neg (fun z => q z.2.2.2), if_neg q, ih]; rfl
theorem stS_end (l : List Nat) (hi lim : Nat) : stS l hi lim (hi + 1) = stS l hi lim hi := by
  show (if _ then _ else _) = _
  rw [if_neg (fun z => by omega)]
theorem stS_one (l : List Nat) (hi : Nat) : ∀ i, i ≤ hi → ((stS l hi 1 i).1.size = 0 ↔ nlc l i = 0)
  | 0, _ => by simp [stS, nlc]
  | i + 1, h => by
    have h1 := stS_free l hi 1 i
    have ih := stS_one l hi i (by omega)
    unfold stS nlc
    dsimp only
    by_cases q : l[i]? = some 10
    · by_cases z : (stS l hi 1 i).1.size < 1
      · rw [if_pos ⟨z, h1, h, q⟩, if_pos q]; simp
      · rw [if_neg (fun y => z y.1), if_pos q]; omega
    · rw [if_neg (fun z => q z.2.2.2), if_neg q]; simpa using ih
theorem occ_eq {x : Str} {l : List Nat} (e : x.cps.toList = l) (hi lim : Nat) : occurrences x ⟨#[10]⟩ 0 hi lim = (stS l hi lim hi).1.toList := by
  unfold occurrences
  have := range_inv (m := Id) (β := Array Nat × Nat) (fun i r => if (decide (r.1.size < lim) && decide (r.2 ≤ i) && decide (i + 1 ≤ hi) && subAt x ⟨#[10]⟩ i) = true then pure (.yield (r.1.push i, i + 1)) else pure (.yield (r.1, r.2))) (stS l hi lim) (hi + 1) (fun i hlt => by
    rw [subAt_one e]
    rw [show stS l hi lim (i + 1) = (if (stS l hi lim i).1.size < lim ∧ (stS l hi lim i).2 ≤ i ∧ i + 1 ≤ hi ∧ l[i]? = some 10 then ((stS l hi lim i).1.push i, i + 1) else stS l hi lim i) from rfl]
    by_cases q : (stS l hi lim i).1.size < lim ∧ (stS l hi lim i).2 ≤ i ∧ i + 1 ≤ hi ∧ l[i]? = some 10
    · rw [if_pos q, if_pos (by simp [q.1, q.2.1, q.2.2.1, q.2.2.2])]
    · rw [if_neg q, if_neg (by simpa [and_assoc] using q)])
  rw [stS_end] at this
  exact congrArg (fun t => (t >>= fun r : Array Nat × Nat => pure r.1.toList : Id (List Nat))) this
/-- the last place -/
theorem last_eq {x : Str} {l : List Nat} (e : x.cps.toList = l) (hi : Nat) : lastOccurrence x ⟨#[10]⟩ 0 hi = if nll l hi = -1 then none else some (nll l hi).toNat := by
  have step : ∀ i, (if (decide (i + 1 ≤ hi) && subAt x ⟨#[10]⟩ i) = true then some i else (if nll l (min i hi) = -1 then none else some (nll l (min i hi)).toNat)) = if nll l (min (i + 1) hi) = -1 then none else some (nll l (min (i + 1) hi)).toNat := fun i => by
    rw [subAt_one e]
    by_cases h : i + 1 ≤ hi
    · rw [Nat.min_eq_left (by omega), Nat.min_eq_left h]
      by_cases q : l[i]? = some 10
      · simp [h, q, nll]
      · simp [h, q, nll]
    · rw [Nat.min_eq_right (by omega), Nat.min_eq_right (by omega)]
      simp [h]
  unfold lastOccurrence
  have := range_inv (m := Id) (β := Option Nat) (fun i r => if (decide (i + 1 ≤ hi) && subAt x ⟨#[10]⟩ i) = true then pure (.yield (some i)) else pure (.yield r)) (fun i => if nll l (min i hi) = -1 then none else some (nll l (min i hi)).toNat) (hi + 1) (fun i hlt => by
    rw [← step i]
    split <;> rfl)
  rw [Nat.min_eq_right (Nat.le_succ hi)] at this
  have e0 : (if nll l (min 0 hi) = -1 then none else some (nll l (min 0 hi)).toNat) = none := by simp [nll]
  rw [e0] at this
  exact this
section
open Builtin
theorem gives_count3 (x y : Str) (p : Nat) (t u v v' : Tok) : Gives («str.count» ⟨[.str x t, .str y u, .int 0 v, .int p v'], []⟩) (.int (occurrences x y 0 (min p x.length) (x.length + 1)).length) := by
  have e : «str.count» ⟨[.str x t, .str y u, .int 0 v, .int p v'], []⟩ = retInt (occurrences x y (max 0 (if (0 : Int) < 0 then 0 + (x.length : Int) else 0)).toNat (min (max 0 (if (p : Int) < 0 then (p : Int) + x.length else (p : Int))).toNat x.length) (x.length + 1)).length := by kernel_rfl
  rw [e]
  have h1 : (max 0 (if (0 : Int) < 0 then 0 + (x.length : Int) else 0)).toNat = 0 := by simp
  have h2 : (max 0 (if (p : Int) < 0 then (p : Int) + x.length else (p : Int))).toNat = p := by rw [if_neg (by omega)]; omega
  rw [h1, h2]
  exact .of_eq rfl
theorem gives_rfind3 (x y : Str) (p : Nat) (t u v v' : Tok) : Gives («str.rfind» ⟨[.str x t, .str y u, .int 0 v, .int p v'], []⟩) (.int (match lastOccurrence x y 0 (min p x.length) with | some i => (i : Int) | none => -1)) := by
  have e : «str.rfind» ⟨[.str x t, .str y u, .int 0 v, .int p v'], []⟩ = (match lastOccurrence x y (max 0 (if (0 : Int) < 0 then 0 + (x.length : Int) else 0)).toNat (min (max 0 (if (p : Int) < 0 then (p : Int) + x.length else (p : Int))).toNat x.length) with | some i => retInt i | none => (do rule "str.rfind.not-found"; retInt (-1))) := by kernel_rfl
  rw [e]
  have h1 : (max 0 (if (0 : Int) < 0 then 0 + (x.length : Int) else 0)).toNat = 0 := by simp
  have h2 : (max 0 (if (p : Int) < 0 then (p : Int) + x.length else (p : Int))).toNat = p := by rw [if_neg (by omega)]; omega
  rw [h1, h2]
  cases lastOccurrence x y 0 (min p x.length) with
  | none => exact .rule (.of_eq rfl)
  | some i => exact .of_eq rfl
end
end Nl
end Mine
set_option maxHeartbeats 1000000
namespace Mine
open PySem PySem.W PySem.Calls PyProof.Rows
namespace BF
open PySem.W.FB
theorem slot_count : Slot "bytes" "count" "bytes.count" :=
  .of (owner := "bytes") (n := "count") (by rw [typeLookup_type, builtinLookup_eq_fast]; kernel_rfl) (by decide +kernel) (by decide +kernel) (by decide +kernel)
    (by first | exact .inl (by decide +kernel) | exact .inr (by decide +kernel)) (by rw [isSubtype_type]; kernel_rfl)
theorem type_count : typeOf (.builtin "bytes.count") = pure (.type "method_descriptor") := by show builtinType _ = _; rw [builtinType_eq_fast]; kernel_rfl
theorem entry_count : entryFor table "bytes.count" = some Builtin.«bytes.count» := entryFor_of_tree (by kernel_rfl)
theorem args_count (a b c d : Value) : argsOk "bytes.count" ⟨[a, b, c, d], []⟩ := by
  unfold argsOk; rw [signature?_of (id := "bytes.count") (n := ['t', 'n', 'u', 'o', 'c']) (o := ['s', 'e', 't', 'y', 'b']) (by kernel_rfl) owner_bytes]; kernel_rfl
theorem slot_rfind : Slot "bytes" "rfind" "bytes.rfind" :=
  .of (owner := "bytes") (n := "rfind") (by rw [typeLookup_type, builtinLookup_eq_fast]; kernel_rfl) (by decide +kernel) (by decide +kernel) (by decide +kernel)
    (by first | exact .inl (by decide +kernel) | exact .inr (by decide +kernel)) (by rw [isSubtype_type]; kernel_rfl)
theorem type_rfind : typeOf (.builtin "bytes.rfind") = pure (.type "method_descriptor") := by show builtinType _ = _; rw [builtinType_eq_fast]; kernel_rfl
theorem entry_rfind : entryFor table "bytes.rfind" = some Builtin.«bytes.rfind» := entryFor_of_tree (by kernel_rfl)
theorem args_rfind (a b c d : Value) : argsOk "bytes.rfind" ⟨[a, b, c, d], []⟩ := by
  unfold argsOk; rw [signature?_of (id := "bytes.rfind") (n := ['d', 'n', 'i', 'f', 'r']) (o := ['s', 'e', 't', 'y', 'b']) (by kernel_rfl) owner_bytes]; kernel_rfl
theorem sargs_count (x y : Str) (a b : Value) (t u : Tok) : argsOk "str.count" ⟨[.str x t, .str y u, a, b], []⟩ := by unfold argsOk; kernel_rfl
theorem sargs_rfind (x y : Str) (a b : Value) (t u : Tok) : argsOk "str.rfind" ⟨[.str x t, .str y u, a, b], []⟩ := by unfold argsOk; kernel_rfl
theorem search_eq (name : String) (b : Array UInt8) (p : Nat) (t u v v' : Tok) : Builtin.Bytes.searchArgs .bytes name ⟨[.bytes b t, .bytes #[10] u, .int 0 v, .int p v'], []⟩ =
    (Builtin.Bytes.buffer? (Builtin.Bytes.Kind.bytes.name ++ "." ++ name) (.bytes #[10] u) >>= fun r => (match r with | some b => pure b | none => (do
      if (← specialOf (.bytes #[10] u) "__index__").isNone then
        rule s!"{Builtin.Bytes.Kind.bytes.name ++ "." ++ name}.sub-bad-type"; raiseError "TypeError" s!"argument should be integer or bytes-like object, not '{← typeNameOf (.bytes #[10] u)}'"
      let i ← Builtin.Bytes.indexHeld [.bytes b t] (.bytes #[10] u)
      if i < 0 || i ≥ 256 then rule s!"{Builtin.Bytes.Kind.bytes.name ++ "." ++ name}.byte-out-of-range"; raiseError "ValueError" "byte must be in range(0, 256)"
      pure #[i.toNat.toUInt8])) >>= fun sub => let (lo, hi) := Builtin.Bytes.window b.size (some 0) (some (p : Int)); pure (b, sub, if hi - lo < sub.size then none else some (lo.toNat, hi.toNat))) := by kernel_rfl
section
variable {b : Array UInt8} {l : List Nat}
theorem ext_one (e : b.toList.map UInt8.toNat = l) (i : Nat) : (b.extract i (i + 1) == #[10]) = decide (l[i]? = some 10) := by
  obtain ⟨k⟩ := b
  have e1 : (k.toArray.extract i (i + 1)) = ((k.drop i).take 1).toArray := by simp [List.extract_toArray]
  rw [e1]
  subst e
  rw [List.getElem?_map]
  cases q : k[i]? with
  | none =>
    have : k.drop i = [] := List.drop_eq_nil_of_le (by simpa using q)
    simp [this]
  | some a =>
    obtain ⟨hi, ha⟩ := List.getElem?_eq_some_iff.mp q
    rw [List.drop_eq_getElem_cons hi]
    simp only [ha, List.take_succ_cons, List.take_zero, Option.map_some, Option.some.injEq]
    by_cases z : a = 10
    · subst z; rfl
    · have z2 : ¬ a.toNat = 10 := fun y => z (UInt8.toNat_inj.mp y)
      simp [z, z2]
noncomputable def stB (b : Array UInt8) : List Nat × Nat → Nat → List Nat × Nat := fun acc i => if i ≥ acc.2 && b.extract i (i + 1) == #[10] then (i :: acc.1, i + 1) else acc
theorem stB_all (e : b.toList.map UInt8.toNat = l) : ∀ n, ((List.range n).foldl (stB b) ([], 0)).1.length = nlc l n ∧ ((List.range n).foldl (stB b) ([], 0)).2 ≤ n
  | 0 => ⟨rfl, Nat.le_refl _⟩
  | n + 1 => by
    obtain ⟨h1, h2⟩ := stB_all e n
    rw [List.range_succ, List.foldl_append]
    simp only [List.foldl_cons, List.foldl_nil]
    generalize (List.range n).foldl (stB b) ([], 0) = r at h1 h2
    unfold stB nlc
    rw [ext_one e]
    by_cases q : l[n]? = some 10
    · rw [if_pos (by simp [q, h2]), if_pos q]; simp [h1]
    · rw [if_neg (by simp [q]), if_neg q]; exact ⟨by simpa using h1, by omega⟩
theorem bocc (e : b.toList.map UInt8.toNat = l) (n : Nat) : (Builtin.Bytes.occurrences b #[10] 0 n).length = nlc l n := by
  rw [← (stB_all e n).1]
  unfold Builtin.Bytes.occurrences
  rw [List.length_reverse]
  have : (List.map (fun x => x + 0) (List.range (n + 1 - (0 + (#[10] : Array UInt8).size)))) = List.range n := by
    simp
  rw [this]
  rfl
theorem brf (e : b.toList.map UInt8.toNat = l) (n : Nat) : Builtin.Bytes.rfind? b #[10] 0 n = if nll l n = -1 then none else some (nll l n).toNat := by
  unfold Builtin.Bytes.rfind?
  have : (List.map (fun x => x + 0) (List.range (n + 1 - (0 + (#[10] : Array UInt8).size)))) = List.range n := by
    simp
  rw [this]
  show (List.range n).reverse.find? (fun i => b.extract i (i + 1) == #[10]) = _
  simp only [ext_one e]
  induction n with
  | zero => rfl
  | succ n ih =>
    rw [List.range_succ, List.reverse_append]
    simp only [List.reverse_cons, List.reverse_nil, List.nil_append, List.singleton_append]
    rw [List.find?_cons, ih (by simp)]
    rw [show nll l (n + 1) = if l[n]? = some 10 then (n : Int) else nll l n from rfl]
    by_cases q : l[n]? = some 10
    · simp [q]
    · simp [q]
theorem bfi (e : b.toList.map UInt8.toNat = l) : (Builtin.Bytes.find? b #[10] 0 b.size).isSome = decide (10 ∈ l) := by
  unfold Builtin.Bytes.find?
  have : (List.map (fun x => x + 0) (List.range (b.size + 1 - (0 + (#[10] : Array UInt8).size)))) = List.range b.size := by
    simp
  rw [this]
  show ((List.range b.size).find? (fun i => b.extract i (i + 1) == #[10])).isSome = _
  simp only [ext_one e]
  have hb : b.size = l.length := by rw [← e]; simp
  rw [Bool.eq_iff_iff, List.find?_isSome, decide_eq_true_iff]
  constructor
  · rintro ⟨i, _, h⟩
    exact List.mem_of_getElem? (by simpa using h)
  · intro h
    obtain ⟨i, hi, q⟩ := List.mem_iff_getElem.mp h
    exact ⟨i, List.mem_range.mpr (by omega), by simp [q, hi]⟩
theorem search_pure (name : String) (b : Array UInt8) (p : Nat) (t u v v' : Tok) : Builtin.Bytes.searchArgs .bytes name ⟨[.bytes b t, .bytes #[10] u, .int 0 v, .int p v'], []⟩ = pure (b, #[10], if min b.size p = 0 then none else some (0, min b.size p)) := by
  rw [search_eq, KBy.buffer_eq, pure_bind]
  dsimp only
  rw [pure_bind]
  unfold Builtin.Bytes.window
  have h1 : ¬ ((p : Int) < 0) := by omega
  simp only [Option.getD_some, Int.lt_irrefl, if_false, h1]
  congr 3
  have h2 : (min (b.size : Int) (p : Int)) = ((min b.size p : Nat) : Int) := by omega
  rw [h2]
  by_cases q : min b.size p = 0
  · rw [if_pos q, if_pos (by rw [q]; decide)]
  · rw [if_neg q, if_neg (by show ¬ ((min b.size p : Nat) : Int) - 0 < ((1 : Nat) : Int); omega)]
    simp
theorem gives_count (e : b.toList.map UInt8.toNat = l) (p : Nat) (hp : p ≤ l.length) (t u v v' : Tok) : Gives (Builtin.«bytes.count» ⟨[.bytes b t, .bytes #[10] u, .int 0 v, .int p v'], []⟩) (.int (nlc l p)) := by
  have hb : min b.size p = p := by rw [show b.size = l.length by rw [← e]; simp]; omega
  show Gives (Builtin.Bytes.countM .bytes _) _
  unfold Builtin.Bytes.countM
  rw [search_pure, hb, pure_bind]
  dsimp only
  by_cases q : p = 0
  · subst q; exact .of_eq rfl
  · rw [if_neg q]
    dsimp only
    rw [if_neg (by decide), bocc e]
    exact .of_eq rfl
theorem gives_rfind (e : b.toList.map UInt8.toNat = l) (p : Nat) (hp : p ≤ l.length) (t u v v' : Tok) : Gives (Builtin.«bytes.rfind» ⟨[.bytes b t, .bytes #[10] u, .int 0 v, .int p v'], []⟩) (.int (nll l p)) := by
  have hb : min b.size p = p := by rw [show b.size = l.length by rw [← e]; simp]; omega
  show Gives (Builtin.Bytes.searchM .bytes "rfind" true false _) _
  unfold Builtin.Bytes.searchM
  rw [search_pure, hb, pure_bind]
  dsimp only
  by_cases q : p = 0
  · subst q; exact .rule (.of_eq rfl)
  · rw [if_neg q]
    simp only [Option.bind_some, if_true]
    rw [brf e]
    have := nll_ge l p
    by_cases z : nll l p = -1
    · rw [if_pos z]; dsimp only; rw [z]; exact .rule (.of_eq rfl)
    · rw [if_neg z]
      have : nll l p = ((nll l p).toNat : Int) := by omega
      dsimp only
      rw [this]
      exact .of_eq rfl
end
end BF
end Mine
set_option maxHeartbeats 1000000
namespace Mine
open PySem PySem.W PySem.Calls PyProof.Rows
namespace BF
open PySem.W.FB
theorem asIndex_bytes (b : Array UInt8) (t : Tok) : asIndex (.bytes b t) = raiseErrorMade "TypeError" "'bytes' object cannot be interpreted as an integer" := by kernel_rfl
theorem contains_tree (b : Array UInt8) (t u : Tok) : Builtin.«bytes.__contains__» ⟨[.bytes b t, .bytes #[10] u], []⟩ = (Builtin.Bytes.containsIn "bytes.__contains__" (.bytes b t) (.bytes #[10] u) >>= fun r => ret (.bool r)) := by kernel_rfl
theorem containsIn_tree (b : Array UInt8) (t u : Tok) : Builtin.Bytes.containsIn "bytes.__contains__" (.bytes b t) (.bytes #[10] u) = ((asIndex (.bytes #[10] u)).attempt >>= fun i => Builtin.Bytes.buffer? "bytes.__contains__" (.bytes b t) >>= fun r => match r with
  | none => unsupported "internal:bytes-without-payload"
  | some b => match i with
    | .ok i => (do
      if i < 0 || i ≥ 256 then rule s!"{"bytes.__contains__"}.byte-out-of-range"; raiseError "ValueError" "byte must be in range(0, 256)"
      return b.contains i.toNat.toUInt8)
    | .error _ => (do
    match ← Builtin.Bytes.buffer? "bytes.__contains__" (.bytes #[10] u) with
    | some sub => rule s!"{"bytes.__contains__"}.run-of-bytes"; return (Builtin.Bytes.find? b sub 0 b.size).isSome
    | none => rule s!"{"bytes.__contains__"}.not-bytes-like"; raiseError "TypeError" s!"a bytes-like object is required, not '{← typeNameOf (.bytes #[10] u)}'")) := by kernel_rfl
section
variable {G : Gl} {A : Around} {E : Value → Shared → Prop} {s : Shared} {e0 : Addr} {oe : Obj} {vs : Array Value}
theorem raise_handled {α : Type} {msg : String} {Q : α → Shared → Prop} (hh : A.handled = some (.ref e0)) (h0 : s.heap.get? e0 = some oe) (hd : oe.data = .fields vs) (h2 : vs[2]? = some .none) (hm : (msg : Str).cps.size ≤ sizeLine)
    (hq : ∀ h' e tk, (∀ b o, s.heap.get? b = some o → h'.get? b = some o) → E (.ref e) { s with heap := h', toks := tk }) : wpAny G.M A (raiseErrorMade "TypeError" msg : Sem α) Q E s := by
  unfold raiseErrorMade
  refine wpAny_bind (wpAny_mkStr (wpAny_bind (wpAny_newExc_plain plainExc_TypeError fun h1 e he => ?_)) hm)
  unfold raiseNew
  refine wpAny_bind (wpAny_handled ?_)
  rw [hh]
  have h0' := he.keeps _ _ h0
  obtain ⟨t, ht, _, _⟩ := he.there
  have hne : e0 ≠ e := by rintro rfl; rw [he.new] at h0; cases h0
  have hee : ((Value.ref e0) != (Value.ref e)) = true := by simp [hne]
  dsimp only
  rw [hee, if_pos rfl]
  refine wpAny_bind (wpAny_holding (unchain_step (G := G) h0' hd h2 ?_))
  refine wpAny_bind (show wpAny _ _ (setField (.ref e) 2 (.ref e0)) _ _ _ from wpAny_setField ht rfl (by simp) ?_)
  refine wpAny_throw (hq _ e _ fun b o hb => ?_)
  refine (Heap.get?_update_ne _ _ _ _ ?_).trans (he.keeps _ _ hb)
  rintro rfl
  rw [he.new] at hb; cases hb
theorem bytes_in {b : Array UInt8} {l : List Nat} {t u : Tok} {Q : Value → Shared → Prop} (e : b.toList.map UInt8.toNat = l) (hh : A.handled = some (.ref e0)) (h0 : s.heap.get? e0 = some oe) (hd : oe.data = .fields vs) (h2 : vs[2]? = some .none)
    (hq : ∀ h' tk, (∀ b o, s.heap.get? b = some o → h'.get? b = some o) → Q (.bool (decide (10 ∈ l))) { s with heap := h', toks := tk }) : wpAny G.M A (compareOp .In (.bytes #[10] u) (.bytes b t)) Q E s := by
  show wpAny _ _ (do return .bool (← contains (.bytes b t) (.bytes #[10] u))) Q E s
  refine wpAny_bind (wpAny_contains_slot (typeIs_bytes _ _ _) slot_bytes_contains (wpAny_call_entry slot_bytes_contains (typeIs_bytes _ _ _) entry_bytes_contains ?_ (args_bytes_contains_2 _ _)))
  rw [contains_tree, containsIn_tree, asIndex_bytes]
  refine wpAny_bind (wpAny_bind (wpAny_attempt (raise_handled (G := G) (A := A.in1) hh h0 hd h2 (by decide +kernel) fun h' ex tk hk => ?_)))
  rw [KBy.buffer_eq, pure_bind]
  dsimp only
  rw [KBy.buffer_eq, pure_bind]
  dsimp only
  refine wpAny_bind (wpAny_rule (wpAny_pure (wpAny_pure ⟨_, rfl, ?_⟩)))
  rw [bfi e]
  exact wpAny_pure (wpAny_pure (hq h' tk hk))
end
end BF
end Mine
namespace Mine
open PySem PySem.W PySem.Calls PyProof.Rows
section
variable {G : Gl} {c : Cx} {Γ : Pairs} {ρ : Loc} {σ : Sto} {P : D → Sto → Prop} {X : XP} {R : FP} {Y : XF} {h : Heap} {N FS : Led} {m : Str → Option Value}
/-- the method of a text -/
theorem gm_str {name : Str} {id : String} {l : List Nat} (slot : Slot "str" name id) (ty : typeOf (.builtin id) = pure (.type "method_descriptor")) : GM G c name (.str l) σ (.builtin id) := fun ρ Γ v pl s Q E hv S q => by
  obtain ⟨x, t, rfl, e⟩ := S.isStr hv
  exact PySem.GM.of (.str x t) (typeIs_str _ _ _) slot ty PySem.GM.noRef q
theorem gm_bytes {name : Str} {id : String} {l : List Nat} (slot : Slot "bytes" name id) (ty : typeOf (.builtin id) = pure (.type "method_descriptor")) : GM G c name (.bytes l) σ (.builtin id) := fun ρ Γ v pl s Q E hv S q => by
  obtain ⟨x, t, rfl, e⟩ := S.isBytes hv
  exact getMethod_builtin (typeIs_bytes _ _ _) FB.plainAttrs_bytes slot ty (fun _ e => nomatch e) q
theorem nl_str {x : Str} (e : x.cps.toList = [10]) : x = ⟨#[10]⟩ := str_eq e
theorem nl_bytes {b : Array UInt8} (e : b.toList.map UInt8.toNat = [10]) : b = #[10] := by
  obtain ⟨k⟩ := b
  match k, e with
  | [a], e =>
    have : a = 10 := UInt8.toNat_inj.mp (by simpa using e)
    rw [this]
  | [], e => simp at e
  | _ :: _ :: _, e => simp at e
theorem count_str' {l : List Nat} {p : Nat} (hp : p ≤ l.length) (h : P (.int (nlc l p)) σ) : Wn G c (fun vs => call (.builtin "str.count") vs) [.str l, .str [10], .int 0, .int p] ρ σ P X := wn4 fun Γ v w u z hv hw hu hz s Q E S q _ => by
  obtain ⟨x, t, rfl, e⟩ := S.isStr hv; obtain ⟨y, t1, rfl, e1⟩ := S.isStr hw; obtain ⟨t2, rfl⟩ := S.isInt hu; obtain ⟨t3, rfl⟩ := S.isInt hz
  obtain rfl := nl_str e1
  refine call_gives F.slot_str_count (typeIs_str _ _ _) F.entry_str_count (BF.sargs_count _ _ _ _ _ _) (Nl.gives_count3 x ⟨#[10]⟩ p t t1 t2 t3) ?_
  rw [Nat.min_eq_left (by rw [str_len e]; exact hp), Nl.occ_eq e, Array.length_toList, Nl.stS_all l p _ (by rw [str_len e]; omega) p (Nat.le_refl _)]
  exact q _ _ σ s.heap _ h (S.put_plain fun _ => .int _ _)
theorem rfind_str' {l : List Nat} {p : Nat} (hp : p ≤ l.length) (h : P (.int (nll l p)) σ) : Wn G c (fun vs => call (.builtin "str.rfind") vs) [.str l, .str [10], .int 0, .int p] ρ σ P X := wn4 fun Γ v w u z hv hw hu hz s Q E S q _ => by
  obtain ⟨x, t, rfl, e⟩ := S.isStr hv; obtain ⟨y, t1, rfl, e1⟩ := S.isStr hw; obtain ⟨t2, rfl⟩ := S.isInt hu; obtain ⟨t3, rfl⟩ := S.isInt hz
  obtain rfl := nl_str e1
  refine call_gives F.slot_str_rfind (typeIs_str _ _ _) F.entry_str_rfind (BF.sargs_rfind _ _ _ _ _ _) (Nl.gives_rfind3 x ⟨#[10]⟩ p t t1 t2 t3) ?_
  rw [Nat.min_eq_left (by rw [str_len e]; exact hp), Nl.last_eq e]
  have hg := nll_ge l p
  have fin : ∀ i : Int, i = nll l p → (Made.int i).post Q s := fun i hi => hi ▸ q _ _ σ s.heap _ h (S.put_plain fun _ => .int _ _)
  by_cases z : nll l p = -1
  · rw [if_pos z]; exact fin _ z.symm
  · rw [if_neg z]; exact fin _ (by show ((nll l p).toNat : Int) = _; omega)
theorem count_bytes' {l : List Nat} {p : Nat} (hp : p ≤ l.length) (h : P (.int (nlc l p)) σ) : Wn G c (fun vs => call (.builtin "bytes.count") vs) [.bytes l, .bytes [10], .int 0, .int p] ρ σ P X := wn4 fun Γ v w u z hv hw hu hz s Q E S q _ => by
  obtain ⟨x, t, rfl, e⟩ := S.isBytes hv; obtain ⟨y, t1, rfl, e1⟩ := S.isBytes hw; obtain ⟨t2, rfl⟩ := S.isInt hu; obtain ⟨t3, rfl⟩ := S.isInt hz
  obtain rfl := nl_bytes e1
  exact call_gives BF.slot_count (typeIs_bytes _ _ _) BF.entry_count (BF.args_count _ _ _ _) (BF.gives_count e p hp t t1 t2 t3) (q _ _ σ s.heap _ h (S.put_plain fun _ => .int _ _))
theorem rfind_bytes' {l : List Nat} {p : Nat} (hp : p ≤ l.length) (h : P (.int (nll l p)) σ) : Wn G c (fun vs => call (.builtin "bytes.rfind") vs) [.bytes l, .bytes [10], .int 0, .int p] ρ σ P X := wn4 fun Γ v w u z hv hw hu hz s Q E S q _ => by
  obtain ⟨x, t, rfl, e⟩ := S.isBytes hv; obtain ⟨y, t1, rfl, e1⟩ := S.isBytes hw; obtain ⟨t2, rfl⟩ := S.isInt hu; obtain ⟨t3, rfl⟩ := S.isInt hz
  obtain rfl := nl_bytes e1
  exact call_gives BF.slot_rfind (typeIs_bytes _ _ _) BF.entry_rfind (BF.args_rfind _ _ _ _) (BF.gives_rfind e p hp t t1 t2 t3) (q _ _ σ s.heap _ h (S.put_plain fun _ => .int _ _))
theorem in_str' {l : List Nat} (h : P (.bool (decide (10 ∈ l))) σ) : W2 G c (compareOp .In) (.str [10]) (.str l) ρ σ P X := fun Γ v w hv hw s Q E S q _ => by
  obtain ⟨y, t1, rfl, e1⟩ := S.isStr hv; obtain ⟨x, t, rfl, e⟩ := S.isStr hw
  obtain rfl := nl_str e1
  refine PySem.P.in_str ?_
  have hx := str_len e
  have : (!(Builtin.Str.occurrences x ⟨#[10]⟩ 0 x.length 1).isEmpty) = decide (10 ∈ l) := by
    rw [Nl.occ_eq e, hx]
    have h1 := Nl.stS_one l l.length l.length (Nat.le_refl _)
    have h2 := nlc_mem l l.length (Nat.le_refl _)
    rw [List.take_length] at h2
    generalize (Nl.stS l l.length 1 l.length).1 = a at h1
    obtain ⟨k⟩ := a
    cases k with
    | nil =>
      have : ¬ 10 ∈ l := fun z => (h2.mpr z) (h1.mp rfl)
      simp [this]
    | cons a k =>
      have : 10 ∈ l := h2.mp fun z => by have := h1.mpr z; simp at this
      simp [this]
  rw [this]
  exact q _ _ σ s.heap s.toks h (S.put_plain fun _ => .bool _)
theorem in_bytes' {l : List Nat} {e0 : Addr} (hx : HX σ e0 c.A.handled) (h : P (.bool (decide (10 ∈ l))) σ) : W2 G c (compareOp .In) (.bytes [10]) (.bytes l) ρ σ P X := fun Γ v w hv hw s Q E S q _ => by
  obtain ⟨y, t1, rfl, e1⟩ := S.isBytes hv; obtain ⟨x, t, rfl, e⟩ := S.isBytes hw
  obtain rfl := nl_bytes e1
  obtain ⟨hh, oe, vs, q1, q2, q3⟩ := hx
  obtain ⟨N, FS, m, S⟩ := S
  have h0 := (S.nw _ (List.mem_append_left FS (S.re e0 _ q1))).1
  refine BF.bytes_in (G := G) e hh h0 q2 q3 fun h' tk hk => ?_
  exact q _ _ σ h' tk h ((S.off fun b o _ hb => hk b o hb).put (.bool _)).st
end
end Mine
set_option maxHeartbeats 1000000
namespace Mine
open PySem PySem.W PySem.Calls PyProof.Rows
theorem get_same {ρ : Loc} {x : Str} {d : D} : (ρ.put x d) x = some d := if_pos rfl
theorem get_miss {ρ : Loc} {x y : Str} {d : D} {e : Option D} (h : decide (y = x) = false) (k : ρ y = e) : (ρ.put x d) y = e := (if_neg (by simpa using h)).trans k
theorem locOf_same {x : Str} {xs : List Str} {d : D} {ds : List D} : locOf (x :: xs) (d :: ds) x = some d := if_pos rfl
theorem locOf_miss {x y : Str} {xs : List Str} {d : D} {ds : List D} {e : Option D} (h : decide (y = x) = false) (k : locOf xs ds y = e) : locOf (x :: xs) (d :: ds) y = e := (if_neg (by simpa using h)).trans k
theorem boot_len : bootBuiltins "len" = some (.builtin "len") := by kernel_rfl
theorem boot_isinstance : bootBuiltins "isinstance" = some (.builtin "isinstance") := by kernel_rfl
theorem boot_str : bootBuiltins "str" = some (.type "str") := by kernel_rfl
theorem boot_bytes : bootBuiltins "bytes" = some (.type "bytes") := by kernel_rfl
theorem boot_range : bootBuiltins "range" = some (.type "range") := by kernel_rfl
theorem boot_sum : bootBuiltins "sum" = some (.builtin "sum") := by kernel_rfl
theorem boot_ord : bootBuiltins "ord" = some (.builtin "ord") := by kernel_rfl
theorem boot_enumerate : bootBuiltins "enumerate" = some (.type "enumerate") := by kernel_rfl
theorem boot_IndexError : bootBuiltins "IndexError" = some (.type "IndexError") := by kernel_rfl
section
variable {G : Gl} {c : Cx} {Γ : Pairs} {ρ : Loc} {σ : Sto} {P : D → Sto → Prop} {X : XP} {R : FP} {Y : XF}
/-- a built-in function called by its name -/
theorem WE_bcall {e : Expr} {rest : List Expr} {x : Str} {np pos : Pos} {f : Value} (hf : Callee G f) (hk : c.env.scope.kind = .function) (hl : c.env.kindOf x = some .globalImplicit) (hg : c.env.globals = mainGlobals) (hb : c.env.builtins = builtinsNs) (hd : (x == ("__debug__" : Str)) = false)
    (en : nsIn G.K mainGlobals x = some none) (hv : bootBuiltins x = some f) (hn : x ≠ "__name__") (hh : handedIn f = true)
    (hc : eval (.Call (.Name x np) (e :: rest) [] pos) c.env = (do callWith pos (← eval (.Name x np) c.env) [] (backTo pos (starEach (e :: rest) c.env)) (backToKw pos (keywordEach [] c.env))))
    (he : starEach (e :: rest) c.env = (false, eval e c.env) :: starEach rest c.env) (hplain : (backTo pos (starEach rest c.env)).any (·.1) = false)
    (h : ∀ v, WL G c ((v, .con f) :: Γ) (spliced (backTo pos (starEach (e :: rest) c.env))) ρ σ (fun ds σ'' => Wn G c (fun vs => call f vs) ds ρ σ'' P X) X) : WE G c Γ (.Call (.Name x np) (e :: rest) [] pos) ρ σ P X :=
  WE_call hc he hplain (WE_boot hk hl hg hb hd en hv hn hh ⟨f, rfl, hf, h⟩)
/-- a def or class of the text called by its name -/
theorem WE_gcall {e : Expr} {rest : List Expr} {x : Str} {np pos : Pos} {f : Value} (hf : keepIn G.K f = true) (hk : c.env.scope.kind = .function) (hl : c.env.kindOf x = some .globalImplicit) (hg : c.env.globals = mainGlobals) (hd : (x == ("__debug__" : Str)) = false)
    (en : nsIn G.K mainGlobals x = some (some f)) (hh : handedIn f = true)
    (hc : eval (.Call (.Name x np) (e :: rest) [] pos) c.env = (do callWith pos (← eval (.Name x np) c.env) [] (backTo pos (starEach (e :: rest) c.env)) (backToKw pos (keywordEach [] c.env))))
    (he : starEach (e :: rest) c.env = (false, eval e c.env) :: starEach rest c.env) (hplain : (backTo pos (starEach rest c.env)).any (·.1) = false)
    (h : ∀ v, WL G c ((v, .con f) :: Γ) (spliced (backTo pos (starEach (e :: rest) c.env))) ρ σ (fun ds σ'' => Wn G c (fun vs => call f vs) ds ρ σ'' P X) X) : WE G c Γ (.Call (.Name x np) (e :: rest) [] pos) ρ σ P X :=
  WE_call hc he hplain (WE_glob hk hl hg hd en hh ⟨f, rfl, callee_K hf, h⟩)
theorem HX.at {σ σ' : Sto} {e0 : Addr} {v : Option Value} (h : HX σ e0 v) (e : σ' e0 = σ e0) : HX σ' e0 v := ⟨h.1, by rw [e]; exact h.2⟩
theorem getAttr_E {a C dx : Addr} {name : Str} {d : D} {fs : List (Str × D)} {expr : Bool} (hi : isObj σ a C dx) (hf : σ dx = some (.flds fs)) (hk : getOkE G.K C name = true) (e : fs.lookup name = some d) (h : P d σ) :
    W1 G c (fun v => getAttr v name expr) (.ref a) ρ σ P X := fun Γ v hv s Q E S q _ => by
  obtain rfl := S.isRef hv
  obtain ⟨N, FS, m, S⟩ := S
  obtain ⟨es, n, hd, he⟩ := S.re dx _ hf
  obtain ⟨w, hg, hr⟩ := entries_get he e
  obtain ⟨ox, I, _⟩ := inst_at (o := .list []) S hi hd
  unfold getOkE at hk
  simp only [Bool.and_eq_true, beq_iff_eq] at hk
  obtain ⟨⟨⟨⟨k1, k2⟩, k3⟩, k4⟩, k5⟩ := hk
  cases hfi : findIn G.K (.ref C) name with
  | none => rw [hfi] at k5; simp at k5
  | some at' =>
    rw [hfi] at k5
    exact get_valueE (G.X.keeps S.fr.keep) I k1 k2 k3 (findObj_own k4 hfi k5 hg) hr.handed (q w d σ s.heap _ h (S.put hr).st)
/-- the store with an exception in the making -/
noncomputable def exS (σ : Sto) (e C dx : Addr) (F : List (Str × D)) (a0 : D) : Sto := (σ.put dx (.flds F)).put e (.exn C dx a0)
theorem exS_e {σ : Sto} {e C dx : Addr} {F : List (Str × D)} {a0 : D} : exS σ e C dx F a0 e = some (.exn C dx a0) := if_pos rfl
theorem exS_d {σ : Sto} {e C dx : Addr} {F : List (Str × D)} {a0 : D} (h : dx ≠ e) : exS σ e C dx F a0 dx = some (.flds F) := (if_neg h).trans (if_pos rfl)
theorem exS_o {σ : Sto} {e C dx a : Addr} {F : List (Str × D)} {a0 : D} (h1 : a ≠ e) (h2 : a ≠ dx) : exS σ e C dx F a0 a = σ a := (if_neg h1).trans (if_neg h2)
theorem exS_put {σ : Sto} {e C dx : Addr} {F F' : List (Str × D)} {a0 : D} (h : dx ≠ e) : (exS σ e C dx F a0).put dx (.flds F') = exS σ e C dx F' a0 := by
  funext b; unfold exS Sto.put
  by_cases q1 : b = dx
  · subst q1; rw [if_pos rfl, if_neg h, if_pos rfl]
  · rw [if_neg q1, if_neg q1]
    by_cases q2 : b = e
    · subst q2; rw [if_pos rfl, if_pos rfl]
    · rw [if_neg q2, if_neg q2, if_neg q1]
theorem setA_S {e C dx : Addr} {name : Str} {d a0 : D} {F F' : List (Str × D)} {P : Sto → Prop} (hne : dx ≠ e) (hk : setOkE G.K C name = true) (hz : F.length ≤ 100) (hF : fput F name d = F') (h : P (exS σ e C dx F' a0)) : SetA G c e name d ρ (exS σ e C dx F a0) P :=
  setA_exn exS_e (exS_d hne) hk hz (by rw [hF, exS_put hne]; exact h)
theorem getA_S {e C dx : Addr} {name : Str} {d a0 : D} {F : List (Str × D)} {expr : Bool} (hne : dx ≠ e) (hk : getOkE G.K C name = true) (hF : F.lookup name = some d) (h : P d (exS σ e C dx F a0)) : W1 G c (fun v => getAttr v name expr) (.ref e) ρ (exS σ e C dx F a0) P X :=
  getAttr_E (.inr (.inr ⟨a0, exS_e⟩)) (exS_d hne) hk hF h
theorem exS_fin {σ : Sto} {e C dx u : Addr} {F F' : List (Str × D)} {a0 w w' : D} {x : O} (hu : exS σ e C dx F a0 u = none) (hne : u ≠ e) (hF : F = F') (hw : w = w') :
    ∀ a o, exS σ e C dx F' w' a = some o → (((exS σ e C dx F a0).put u x).put e (.exn C dx w)) a = some o := fun a o ha => by
  subst hF hw
  by_cases q : a = e
  · subst q; rw [exS_e] at ha; rw [Sto.put_same]; exact ha
  · rw [Sto.put_ne _ _ q]
    by_cases q2 : a = u
    · subst q2
      have : exS σ e C dx F a0 a = exS σ e C dx F w a := by unfold exS; rw [Sto.put_ne _ _ q, Sto.put_ne _ _ q]
      rw [← this, hu] at ha; cases ha
    · rw [Sto.put_ne _ _ q2]
      have : exS σ e C dx F a0 a = exS σ e C dx F w a := by unfold exS; rw [Sto.put_ne _ _ q, Sto.put_ne _ _ q]
      rw [this]; exact ha
theorem dig_len {n : Int} (h0 : 0 ≤ n) (h : n < 10000000) : (dig n).length ≤ 20 := by
  have := toString_length_le (v := n) (k := 10) h0 (by decide) (by omega)
  exact Nat.le_trans this (by decide)
theorem FnC.hmono {hd hd' : Option Value → Prop} {n : Nat} {f : Value} {ds : List D} (h : FnC G hd' n f ds σ P X) (hh : ∀ v, hd v → hd' v) : FnC G hd n f ds σ P X :=
  fun c ρ Γ vs s R a b e => h c ρ Γ vs s R a b (hh _ e)
/-- behind the making of an exception in a handler -/
theorem raise_fin {σ σ' : Sto} {e e' C dx t : Addr} {oe : Obj} {F : List (Str × D)} {w : D} (he : σ e = none) (hne : σ.put e (.obj oe) e' = none) (hd : ((σ.put e (.obj oe)).put e' (.obj (excNew C t))) dx = none) (hde : dx ≠ e')
    (hs : ∀ a o, exS ((σ.put e (.obj oe)).put e' (.obj (excNew C t))) e' C dx F w a = some o → σ' a = some o) :
    σ' e = some (.obj oe) ∧ σ' e' = some (.exn C dx w) ∧ σ dx = none ∧ ∀ a o, (σ.put dx (.flds F)) a = some o → a ≠ e' ∧ σ' a = some o := by
  have h1 : e' ≠ e := by rintro rfl; rw [Sto.put_same] at hne; cases hne
  have h2 : dx ≠ e := by rintro rfl; rw [Sto.put_ne _ _ hde, Sto.put_same] at hd; cases hd
  rw [Sto.put_ne _ _ hde, Sto.put_ne _ _ h2] at hd
  rw [Sto.put_ne _ _ h1] at hne
  refine ⟨hs _ _ ?_, hs _ _ exS_e, hd, fun a o ha => ?_⟩
  · rw [exS_o h1.symm h2.symm, Sto.put_ne _ _ h1.symm, Sto.put_same]
  · by_cases q : a = dx
    · subst q; rw [Sto.put_same] at ha; exact ⟨hde, hs _ _ ((exS_d hde).trans ha)⟩
    · rw [Sto.put_ne _ _ q] at ha
      have q1 : a ≠ e := by rintro rfl; rw [he] at ha; cases ha
      have q2 : a ≠ e' := by rintro rfl; rw [hne] at ha; cases ha
      exact ⟨q2, hs _ _ (by rw [exS_o q2 q, Sto.put_ne _ _ q2, Sto.put_ne _ _ q1]; exact ha)⟩
end
end Mine
set_option maxHeartbeats 1000000
namespace Mine
open PySem PySem.W PySem.Calls PyProof.Rows
section
variable {G : Gl} {c : Cx} {Γ : Pairs} {ρ : Loc} {σ : Sto} {P : D → Sto → Prop} {X : XP} {R : FP} {Y : XF} {h : Heap} {N FS : Led} {m : Str → Option Value}
noncomputable def plainIter (T : String) : Bool := T != "tuple" && !(["enumerate", "zip", "dict_itemiterator", "dict_reverseitemiterator", "odict_iterator", "itertools.zip_longest", "itertools.pairwise"].contains T)
/-- an iterator and what it walks over stand as they are -/
noncomputable def ItAt (I ax : Addr) (Sk : Nat → Heap → Prop) (i : Nat) (τ : Sto) : Prop :=
  ∃ oI oA, τ I = some (.obj oI) ∧ (∃ T, oI.cls = .type T ∧ plainIter T = true) ∧ τ ax = some (.obj oA) ∧ ∀ h, h.get? I = some oI → h.get? ax = some oA → Sk i h
/-- the kind of a walk -/
structure Wk (G : Gl) (A : Around) (Γ : Pairs) (I ax : Addr) (n : Nat) (dk : Nat → D) (Sk : Nat → Heap → Prop) : Prop where
  walks : ∃ Pk, Walks G.prog G.w A I [I, ax] [I] n Pk Sk ∧ ∀ i v N, i < n → (∀ p ∈ Γ, RelD N p.1 p.2) → Pk i v → RelD N v (dk i)
  obj : ∀ i h, Sk i h → ∃ o T, h.get? I = some o ∧ o.cls = .type T ∧ plainIter T = true
theorem plain_tup {o : Obj} (h : ∃ T, o.cls = .type T ∧ plainIter T = true) : ∀ vs n, o ≠ tupOf vs n := by
  obtain ⟨T, h1, h2⟩ := h
  refine ne_tup ?_
  rw [h1]; rintro e
  cases e
  revert h2; decide
theorem owned_go {I : Addr} {target : Expr} {v : Value} {A : Around} {s : Shared} {Q : Unit → Shared → Prop} {E : Value → Shared → Prop} {oI : Obj} {M : Model} (h : ∃ T, oI.cls = .type T ∧ plainIter T = true) (hg : s.heap.get? I = some oI) (q : Q () s) : wpAny M A (letOwnedTupleGo target (.ref I) v) Q E s := by
  obtain ⟨T, h1, h2⟩ := h
  have h3 : (["enumerate", "zip", "dict_itemiterator", "dict_reverseitemiterator", "odict_iterator", "itertools.zip_longest", "itertools.pairwise"].contains T) = false := by
    unfold plainIter at h2; simp only [Bool.and_eq_true, Bool.not_eq_true'] at h2; exact h2.2
  cases target with
  | Tuple _ _ _ =>
    cases v with
    | ref a =>
      refine wpAny_bind (wpAny_load hg ?_)
      rw [h1]
      cases oI.data with
      | fields vs => dsimp only; rw [h3]; exact wpAny_pure q
      | _ => exact wpAny_pure q
    | _ => exact wpAny_pure q
  | List _ _ =>
    cases v with
    | ref a =>
      refine wpAny_bind (wpAny_load hg ?_)
      rw [h1]
      cases oI.data with
      | fields vs => dsimp only; rw [h3]; exact wpAny_pure q
      | _ => exact wpAny_pure q
    | _ => exact wpAny_pure q
  | _ => exact wpAny_pure q
theorem forLoopG {prog : Program} {w : World} {A : Around} {s : Shared} {R : Result → Shared → Prop} {target : Expr} {it : Value} {body orelse : List Stmt} {env : Env} (I : Nat → Shared → Prop)
    (turn : ∀ n s, I n s → wpAny (model prog w) A (pyNext it) (fun r s₁ => match r with
      | none => wpAny (model prog w) A (execs orelse env) (fun f s₃ => R (.ok f) s₃) (notedBy (model prog w) A env fun e s' => R (.error e) s') s₁
      | some v => wpAny (model prog w) A (letOwnedTupleGo target it v) (fun _ s₁ => wpAny (model prog w) A (assign target env v) (fun _ s₂ => wpAny (model prog w) A (execs body env) (fun f s₃ => match f with
          | .next | .cont => ∃ m, m < n ∧ I m s₃
          | .brk => R (.ok .next) s₃
          | .ret v => R (.ok (.ret v)) s₃) (notedBy (model prog w) A env fun e s' => R (.error e) s') s₂) (notedBy (model prog w) A env fun e s' => R (.error e) s') s₁) (notedBy (model prog w) A env fun e s' => R (.error e) s') s₁) (notedBy (model prog w) A env fun e s' => R (.error e) s') s)
    (n : Nat) (h : I n s) : codeAny (model prog w) A (.forLoop target it body orelse env) R s := by
  refine codeAny_loop' rfl I (fun n s hI => ?_) n h
  show wpAny _ _ ((forTurn target it body orelse env).onRaise (fun x => do noteFrame x env; theTreesLotGoes x)) _ _ s
  refine wpAny_noted ?_
  simp only [forTurn]
  refine wpAny_bind (wpAny_standAt (wpAny_bind (wpAny_onRaise (wpAny_mono (turn n s hI) (fun r s₁ h₁ => ?_) fun _ _ h' => wpAny_standAt h'))))
  cases r with
  | none => exact wpAny_pure (.inr ⟨rfl, codeAny_block h₁⟩)
  | some v =>
    refine wpAny_bind (wpAny_mono h₁ (fun _ s₁ h₁ => ?_) fun _ _ h' => h')
    refine wpAny_bind (wpAny_mono h₁ (fun _ s₂ h₂ => wpAny_bind (wpAny_mono h₂ (fun f s₃ h₃ => ?_) fun _ _ h' => h')) fun _ _ h' => h')
    cases f with
    | next => exact wpAny_pure (.inl ⟨rfl, h₃⟩)
    | cont => exact wpAny_pure (.inl ⟨rfl, h₃⟩)
    | brk => exact wpAny_pure h₃
    | ret v => exact wpAny_pure h₃
theorem next_item {I ax : Addr} {n i : Nat} {dk : Nat → D} {Sk : Nat → Heap → Prop} {s : Shared} {Q : Option Value → Shared → Prop} {E : Value → Shared → Prop} (W : Wk G c.A Γ I ax n dk Sk) (hi : i < n) (hI : ItAt I ax Sk i σ) (S : St G c σ ρ Γ s.heap)
    (q : ∀ v o h tk, ItAt I ax Sk (i + 1) (σ.put I (.obj o)) → St G c (σ.put I (.obj o)) ρ ((v, dk i) :: Γ) h → Q (some v) { s with heap := h, toks := tk }) : wpAny G.M c.A (pyNext (.ref I)) Q E s := by
  obtain ⟨Pk, Wa, hP⟩ := W.walks
  obtain ⟨oI, oA, h1, h2, h3, h4⟩ := hI
  obtain ⟨N, FS, m, S⟩ := S
  have mI := S.re _ _ h1
  have mA := S.re _ _ h3
  refine Wa.item i s Q E hi (h4 _ (S.nw _ (List.mem_append_left FS mI)).1 (S.nw _ (List.mem_append_left FS mA)).1) fun v h' tk pv st hk => ?_
  obtain ⟨o, T, ho, hc, hT⟩ := W.obj _ _ st
  obtain ⟨N', j1, j2, j3, j4⟩ := S.setObj (o' := o) (h' := h') mI (plain_tup h2) ho fun b x hb e => hk b x (by simpa using hb) e
  have S2 := j4 (.obj o) j1
  refine q v o h' tk ?_ (S2.put (hP i v _ hi S2.ga pv)).st
  by_cases e : ax = I
  · subst e
    exact ⟨o, o, Sto.put_same _ _ _, ⟨T, hc, hT⟩, Sto.put_same _ _ _, fun g g1 g2 => Wa.frame _ _ _ st fun b hb x hx => by
      have hb' : b = ax := by simpa using hb
      subst hb'
      rw [ho] at hx; cases hx; exact g1⟩
  · have hA' : h'.get? ax = some oA := hk _ _ (by simpa using e) (S.nw _ (List.mem_append_left FS mA)).1
    exact ⟨o, oA, Sto.put_same _ _ _, ⟨T, hc, hT⟩, (Sto.put_ne _ _ e).trans h3, fun g g1 g2 => Wa.frame _ _ _ st fun b hb x hx => by
      rcases List.mem_cons.mp hb with rfl | hb
      · rw [ho] at hx; cases hx; exact g1
      · have hb' : b = ax := by simpa using hb
        subst hb'
        rw [hA'] at hx; cases hx; exact g2⟩
theorem next_end {I ax : Addr} {n : Nat} {dk : Nat → D} {Sk : Nat → Heap → Prop} {s : Shared} {Q : Option Value → Shared → Prop} {E : Value → Shared → Prop} (W : Wk G c.A Γ I ax n dk Sk) (hI : ItAt I ax Sk n σ) (S : St G c σ ρ Γ s.heap)
    (q : ∀ h tk, St G c (σ.del I) ρ Γ h → Q none { s with heap := h, toks := tk }) : wpAny G.M c.A (pyNext (.ref I)) Q E s := by
  obtain ⟨Pk, Wa, hP⟩ := W.walks
  obtain ⟨oI, oA, h1, h2, h3, h4⟩ := hI
  obtain ⟨N, FS, m, S⟩ := S
  have mI := S.re _ _ h1
  have mA := S.re _ _ h3
  refine Wa.done s Q E (h4 _ (S.nw _ (List.mem_append_left FS mI)).1 (S.nw _ (List.mem_append_left FS mA)).1) fun h' tk hk => ?_
  obtain ⟨N', S1, hoff, -⟩ := S.disown mI (plain_tup h2)
  exact q h' tk (S1.off fun b o hb e => hk b o (fun z => hb ((show b = I by simpa using z) ▸ hoff)) e).st
/-- for, over a walk -/
theorem for_core {I ax : Addr} {n : Nat} {dk : Nat → D} {Sk : Nat → Heap → Prop} {target : Expr} {body : List Stmt} (F : c.Fn) (W : Wk G c.A Γ I ax n dk Sk) (J : Nat → Loc → Sto → Prop) (hstab : ∀ i ρ τ τ', J i ρ τ → (∀ a, a ≠ I → τ' a = τ a) → J i ρ τ')
    (turn : ∀ i, i < n → ∀ ρ τ, J i ρ τ → ItAt I ax Sk (i + 1) τ → ∀ v, WU G c ((v, dk i) :: Γ) (assign target c.env v) ρ τ (fun ρ' τ' => Wxs G c Γ body ρ' τ' (fun fl ρ'' τ'' => match fl with
        | .next | .cont => J (i + 1) ρ'' τ'' ∧ τ'' I = τ I ∧ τ'' ax = τ ax
        | .brk => R .next ρ'' τ''
        | .ret d => R (.ret d) ρ'' τ'') Y) Y)
    (fin : ∀ ρ τ, J n ρ τ → R .next ρ τ) {s : Shared} {Q : Flow → Shared → Prop} {E : Value → Shared → Prop} (h0 : J 0 ρ σ) (hI : ItAt I ax Sk 0 σ) (S : St G c σ ρ Γ s.heap) (q : Done G c Γ s R Q) (f : Fail G c Γ s Y E) :
    codeAny G.M c.A (.forLoop target (.ref I) body [] c.env) (fun r s' => match r with | .ok f => Q f s' | .error e => cameBackBy G.M c.A c.env E e s') s := by
  have fe : ∀ (Γ' : Pairs) (hp : Heap) (tk : Nat), (∀ p ∈ Γ, p ∈ Γ') → Fail G c Γ' { s with heap := hp, toks := tk } Y (notedBy G.M c.A c.env fun e s' => cameBackBy G.M c.A c.env E e s') := fun Γ' hp tk hg e x tb ρ' σ' h1 t1 hy S1 => by
    refine note_step (s := { s with heap := h1, toks := t1 }) F (S1.weaken hg) fun h2 S2 => ?_
    exact cameBack_step (tb := .held) (s := { s with heap := h2, toks := t1 }) F (by simp) S2 fun h3 S3 => f e x .held ρ' σ' h3 t1 hy S3
  refine forLoopG (fun k s' => ∃ i ρ τ h tk, k = n - i ∧ i ≤ n ∧ s' = { s with heap := h, toks := tk } ∧ J i ρ τ ∧ ItAt I ax Sk i τ ∧ St G c τ ρ Γ h) ?_ n ⟨0, ρ, σ, s.heap, s.toks, rfl, Nat.zero_le _, rfl, h0, hI, S⟩
  · rintro k s' ⟨i, ρ, τ, h, tk, rfl, hin, rfl, hJ, hIt, St0⟩
    by_cases hi : i < n
    · refine next_item (s := { s with heap := h, toks := tk }) W hi hIt St0 fun v o h1 t1 hIt1 S1 => ?_
      have hJ1 : J i ρ (τ.put I (.obj o)) := hstab _ _ _ _ hJ fun a ha => Sto.put_ne _ _ ha
      have hg : h1.get? I = some o := by
        obtain ⟨N1, FS1, m1, S1⟩ := S1
        exact (S1.nw _ (List.mem_append_left FS1 (S1.re I (.obj o) (Sto.put_same _ _ _)))).1
      refine owned_go (oI := o) (by obtain ⟨oI, oA, a1, a2, a3, a4⟩ := hIt1; rw [Sto.put_same] at a1; cases a1; exact a2) hg ?_
      refine turn i hi ρ _ hJ1 hIt1 v { s with heap := h1, toks := t1 } _ _ S1 (fun ρ' τ' h2 t2 p2 S2 => ?_) (fe _ h1 t1 fun _ hp => .tail _ hp)
      refine p2 { s with heap := h2, toks := t2 } _ _ S2.tail (fun fw fl Γ' ρ'' τ'' h3 t3 ok p3 S3 => ?_) (fe _ h2 t2 fun _ hp => hp)
      cases ok with
      | next => exact ⟨n - (i + 1), by omega, i + 1, ρ'', τ'', h3, t3, rfl, hi, rfl, p3.1, by obtain ⟨oI, oA, a1, a2, a3, a4⟩ := hIt1; exact ⟨oI, oA, p3.2.1.trans a1, a2, p3.2.2.trans a3, a4⟩, S3⟩
      | cont => exact ⟨n - (i + 1), by omega, i + 1, ρ'', τ'', h3, t3, rfl, hi, rfl, p3.1, by obtain ⟨oI, oA, a1, a2, a3, a4⟩ := hIt1; exact ⟨oI, oA, p3.2.1.trans a1, a2, p3.2.2.trans a3, a4⟩, S3⟩
      | brk => exact q _ _ _ _ _ _ _ .next p3 S3
      | ret v d => exact q _ _ _ _ _ _ _ (.ret v d) p3 S3
    · obtain rfl : i = n := by omega
      refine next_end (s := { s with heap := h, toks := tk }) W hIt St0 fun h1 t1 S1 => ?_
      exact wpAny_execs_nil (q _ _ _ _ _ _ _ .next (fin ρ _ (hstab _ _ _ _ hJ fun a ha => by unfold Sto.del; rw [if_neg ha])) S1)
end
end Mine
set_option maxHeartbeats 1000000
namespace Mine
open PySem PySem.W PySem.Calls PyProof.Rows
section
variable {G : Gl} {c : Cx} {Γ : Pairs} {ρ : Loc} {σ : Sto} {P : D → Sto → Prop} {X : XP} {R : FP} {Y : XF} {h : Heap} {N FS : Led} {m : Str → Option Value}
-- while
theorem Wx_While {test : Expr} {body : List Stmt} {pos : Pos} (F : c.Fn) (J : Nat → Loc → Sto → Prop) (n : Nat) (h0 : J n ρ σ) {XT : Loc → XP}
    (turn : ∀ n ρ σ, J n ρ σ → WT G c Γ test ρ σ (fun b σ' => if b then Wxs G c Γ body ρ σ' (fun fl ρ'' σ'' => match fl with
        | .next | .cont => ∃ m, m < n ∧ J m ρ'' σ''
        | .brk => R .next ρ'' σ''
        | .ret d => R (.ret d) ρ'' σ'') Y else R .next ρ σ') (XT ρ)) (hX : ∀ ρ x σ, XT ρ x σ → Y x ρ σ) : Wx G c Γ (.While test body [] pos) ρ σ R Y := fun s Q E S q f => by
  refine wpAny_While ?_
  have fe : ∀ (Γ' : Pairs) (hp : Heap) (tk : Nat), (∀ p ∈ Γ, p ∈ Γ') → Fail G c Γ' { s with heap := hp, toks := tk } Y (notedBy G.M c.A c.env fun e s' => cameBackBy G.M c.A c.env E e s') := fun Γ' hp tk hg e x tb ρ' σ' h1 t1 hy S1 => by
    refine note_step (s := { s with heap := h1, toks := t1 }) F (S1.weaken hg) fun h2 S2 => ?_
    exact cameBack_step (tb := .held) (s := { s with heap := h2, toks := t1 }) F (by simp) S2 fun h3 S3 => f e x .held ρ' σ' h3 t1 hy S3
  refine codeAny_whileLoop (fun k s' => ∃ ρ τ h tk, s' = { s with heap := h, toks := tk } ∧ J k ρ τ ∧ St G c τ ρ Γ h) ?_ n ⟨ρ, σ, s.heap, s.toks, rfl, h0, S⟩
  rintro k s' ⟨ρ, τ, h, tk, rfl, hJ, St0⟩
  refine turn k ρ τ hJ { s with heap := h, toks := tk } _ _ St0 (fun b σ1 h1 t1 p1 S1 => ?_) ((fe _ h tk fun _ hp => hp).up fun x ρ' σ' hx => hx.1 ▸ hX _ _ _ hx.2)
  cases b with
  | false => exact wpAny_execs_nil (q _ _ _ _ _ _ _ .next p1 S1)
  | true =>
    refine p1 { s with heap := h1, toks := t1 } _ _ S1 (fun fw fl Γ' ρ'' τ'' h3 t3 ok p3 S3 => ?_) (fe _ h1 t1 fun _ hp => hp)
    cases ok with
    | next => obtain ⟨m, hm, hJ'⟩ := p3; exact ⟨m, hm, ρ'', τ'', h3, t3, rfl, hJ', S3⟩
    | cont => obtain ⟨m, hm, hJ'⟩ := p3; exact ⟨m, hm, ρ'', τ'', h3, t3, rfl, hJ', S3⟩
    | brk => exact q _ _ _ _ _ _ _ .next p3 S3
    | ret v d => exact q _ _ _ _ _ _ _ (.ret v d) p3 S3
-- ranges
noncomputable abbrev rgO (a b : Int) (t u v : Tok) : Obj := { cls := .type "range", data := .fields #[.int a t, .int b u, .int 1 v] }
theorem range1' {n : Int} (h : ∀ r t u v, σ r = none → P (.ref r) (σ.put r (.obj (rgO 0 n t u v)))) : Wn G c (fun vs => call (.type "range") vs) [.int n] ρ σ P X := wn1 fun Γ v hv s Q E S q _ => by
  obtain ⟨t, rfl⟩ := S.isInt hv
  obtain ⟨N, FS, m, S⟩ := S
  refine call_range_1 ?_
  have W := News.push S.fr S.nw (rgO 0 n s.toks t (s.toks + 1))
  obtain ⟨S1, hn⟩ := S.alloc (S.fr.push _) W S.lt
  exact q (.ref s.heap.objs.size) _ _ _ _ (h _ _ _ _ hn) ((S1.putO (o := .obj (rgO 0 n s.toks t (s.toks + 1))) (.head _)).put (.ref _)).st
theorem range_small {a b : Int} (ha : -1000000 ≤ a ∧ a ≤ 1000000) (hb : -1000000 ≤ b ∧ b ≤ 1000000) : Builtin.Range.small a b 1 = true ∧ Builtin.Range.rangeSize a b 1 = ((b - a).toNat : Nat) := by
  have e : Builtin.Range.rangeSize a b 1 = ((b - a).toNat : Nat) := by
    unfold Builtin.Range.rangeSize
    simp
    omega
  refine ⟨?_, e⟩
  unfold Builtin.Range.small
  rw [e]
  unfold Builtin.Range.rangeFitsLong
  simp
  omega
/-- which object beside the iterator is held -/
noncomputable def AxOk (d : D) (σ : Sto) (I ax : Addr) : Prop := (ax = I ∧ ∀ a l, d = .ref a → σ a ≠ some (.list l)) ∨ (d = .ref ax ∧ ∃ l, σ ax = some (.list l)) ∨ ((∃ ds, d = .tup ds) ∧ ∀ b o, σ b = some o → (∀ x, o = .obj x → x.cls ≠ .type "tuple") → b ≠ ax)
/-- d can be walked over -/
theorem plain_cls {o : Obj} (h : ∃ T, o.cls = .type T ∧ plainIter T = true) : o.cls ≠ .type "tuple" := fun e => by
  obtain ⟨T, h1, h2⟩ := h
  rw [e] at h1; cases h1; revert h2; decide +kernel
/-- d can be walked over -/
noncomputable def Iter (G : Gl) (c : Cx) (d : D) (σ : Sto) (ds : List D) (res : Sto → Sto) : Prop :=
  ∀ (Γ : Pairs) (v : Value) (ρ : Loc) (s : Shared) (Q : Value → Shared → Prop) (E : Value → Shared → Prop), (v, d) ∈ Γ → St G c σ ρ Γ s.heap →
    (∀ I ax Γ' Sk τ h tk, (∀ p ∈ Γ, p ∈ Γ') → σ I = none → AxOk d σ I ax → (∀ b, b ≠ I → b ≠ ax → τ b = σ b) → ItAt I ax Sk 0 τ → Wk G c.A Γ' I ax ds.length (fun i => ds.getD i .none) Sk → St G c τ ρ Γ' h →
      (∀ τ' ρ' Γ'' h', (ax = I ∨ τ' ax = τ ax) → (∀ p ∈ Γ', p ∈ Γ'') → St G c τ' ρ' Γ'' h' → St G c (res τ') ρ' Γ'' h') →
      ((∀ τ' b, b ≠ ax → res τ' b = τ' b) ∧ ∀ τ', (ax = I ∨ τ' ax = τ ax) → ∀ o, σ ax = some o → res τ' ax = some o) → Q (.ref I) { s with heap := h, toks := tk }) → wpAny G.M c.A (pyIter v) Q E s
theorem Wx_For {target iter : Expr} {body : List Stmt} {pos : Pos} (F : c.Fn) (hs : ∀ x, foldedSetIterable iter c.env x = pure x)
    (h : WE G c Γ iter ρ σ (fun d σ1 => ∃ ds res, Iter G c d σ1 ds res ∧ ∀ I ax, σ1 I = none → AxOk d σ1 I ax → ∃ J : Nat → Loc → Sto → Prop,
      (∀ i ρ τ τ', J i ρ τ → (∀ b, b ≠ I → b ≠ ax → τ' b = τ b) → J i ρ τ') ∧ J 0 ρ σ1 ∧
      (∀ i d', ds[i]? = some d' → ∀ ρ τ, J i ρ τ → (∃ o, τ I = some (.obj o) ∧ o.cls ≠ .type "tuple") → (∃ o, τ ax = some (.obj o)) → ∀ Γ' v, (∀ p ∈ Γ, p ∈ Γ') → WU G c ((v, d') :: Γ') (assign target c.env v) ρ τ (fun ρ' τ' => Wxs G c Γ' body ρ' τ' (fun fl ρ'' τ'' => match fl with
        | .next | .cont => J (i + 1) ρ'' τ'' ∧ τ'' I = τ I ∧ τ'' ax = τ ax
        | .brk => R .next ρ'' (res τ'') ∧ τ'' ax = τ ax
        | .ret d => R (.ret d) ρ'' (res τ'') ∧ τ'' ax = τ ax) Y) Y) ∧
      (∀ ρ τ, J ds.length ρ τ → R .next ρ (res τ))) X) (hX : ∀ x σ, X x σ → Y x ρ σ) : Wx G c Γ (.For target iter body [] pos) ρ σ R Y := fun s Q E S q f => by
  refine wpAny_For (hs := hs) ?_
  refine h.seq S (f.up fun x ρ' σ' hx => hx.1 ▸ hX _ _ hx.2) fun v d σ1 h1 t1 p1 S1 f1 => ?_
  obtain ⟨ds, res, hi, k⟩ := p1
  refine hi _ v ρ { s with heap := h1, toks := t1 } _ _ (.head _) S1 fun I ax Γ' Sk τ h2 t2 hg hI hax hτ hIt W S2 back _ => ?_
  obtain ⟨J, stab, J0, turn, fin⟩ := k I ax hI hax
  obtain ⟨oI, oA, a1, a2, a3, a4⟩ := id hIt
  have hg' : ∀ p ∈ Γ, p ∈ Γ' := fun p hp => hg p (.tail _ hp)
  refine for_core (R := fun fl ρ τ' => R fl ρ (res τ') ∧ (ax = I ∨ τ' ax = some (.obj oA))) (Y := Y) F W (fun i ρ τ' => J i ρ τ' ∧ (ax = I ∨ τ' ax = some (.obj oA))) (fun i ρ τ1 τ2 hJ e => ⟨stab _ _ _ _ hJ.1 fun b hb _ => e b hb, ?_⟩) (fun i hin ρ τ1 hJ hIt1 v' => ?_) (fun ρ τ1 hJ => ⟨fin _ _ hJ.1, hJ.2⟩)
    (s := { s with heap := h2, toks := t2 }) (ρ := ρ) (σ := τ) ⟨stab _ _ _ _ J0 hτ, .inr a3⟩ hIt S2 (fun fw fl Γ'' ρ' τ' h3 t3 ok p3 S3 => ?_) (fun e x tb ρ' σ' h3 t3 hy S3 => f e x tb ρ' σ' h3 t3 hy (S3.weaken hg'))
  · rcases hJ.2 with z | z
    · exact .inl z
    · by_cases q : ax = I
      · exact .inl q
      · exact .inr ((e ax q).trans z)
  · have hd : ds[i]? = some (ds.getD i .none) := by simp [hin]
    obtain ⟨oI', oA', b1, b2, b3, b4⟩ := hIt1
    refine fun s Q E S q f => turn i _ hd ρ τ1 hJ.1 ⟨_, b1, plain_cls b2⟩ ⟨_, b3⟩ Γ' v' hg' s Q E S (fun ρ' τ' h tk p S' => q ρ' τ' h tk ?_ S') f
    refine WS.mono p (fun fl ρ'' τ'' z => ?_) fun _ _ _ z => z
    have tr : τ'' ax = τ1 ax → (ax = I ∨ τ'' ax = some (.obj oA)) := fun z => hJ.2.imp id fun y => z.trans y
    cases fl with
    | next => exact ⟨⟨z.1, tr z.2.2⟩, z.2⟩
    | cont => exact ⟨⟨z.1, tr z.2.2⟩, z.2⟩
    | brk => exact ⟨z.1, tr z.2⟩
    | ret d => exact ⟨z.1, tr z.2⟩
  · obtain ⟨p3, p4⟩ := p3
    have b : ∀ Γ'', (∀ p ∈ Γ', p ∈ Γ'') → St G c τ' ρ' Γ'' h3 → St G c (res τ') ρ' Γ'' h3 := fun Γ'' hh S => back τ' ρ' Γ'' h3 (p4.imp id fun z => z.trans a3.symm) hh S
    cases ok with
    | next => exact q _ _ _ _ _ _ _ .next p3 ((b _ (fun _ hp => hp) S3).weaken hg')
    | brk => exact q _ _ _ _ _ _ _ .brk p3 ((b _ (fun _ hp => hp) S3).weaken hg')
    | cont => exact q _ _ _ _ _ _ _ .cont p3 ((b _ (fun _ hp => hp) S3).weaken hg')
    | ret v d => exact q _ _ _ _ _ _ _ (.ret v d) p3 ((b _ (fun _ hp => .tail _ hp) S3).weaken fun p hp => by
        rcases List.mem_cons.mp hp with rfl | hp
        · exact .head _
        · exact .tail _ (hg' p hp))
noncomputable def rgD (a b : Int) : List D := (List.range (b - a).toNat).map fun i : Nat => D.int (a + i)
theorem iter_range {r : Addr} {a b : Int} {t u v : Tok} (h0 : c.h0) (hr : σ r = some (.obj (rgO a b t u v))) (ha : -1000000 ≤ a ∧ a ≤ 1000000) (hb : -1000000 ≤ b ∧ b ≤ 1000000) : Iter G c (.ref r) σ (rgD a b) id := fun Γ v ρ s Q E hv S q => by
  obtain rfl := S.isRef hv
  obtain ⟨N, FS, m, S⟩ := S
  obtain ⟨k1, k2⟩ := range_small ha hb
  refine wpAny_pyIter_range (S.nw _ (List.mem_append_left FS (S.re _ _ hr))).1 k1 ?_
  rw [k2]
  have W := News.push S.fr S.nw ({ cls := .type "range_iterator", data := .fields #[rawInt a, rawInt (((b - a).toNat : Nat) : Int), rawInt 1] } : Obj)
  obtain ⟨S1, hn⟩ := S.alloc (S.fr.push _) W S.lt
  have S2 := S1.putO (o := .obj { cls := .type "range_iterator", data := .fields #[rawInt a, rawInt (((b - a).toNat : Nat) : Int), rawInt 1] }) (.head _)
  refine q s.heap.objs.size s.heap.objs.size Γ (fun i h => IsRangeIter h s.heap.objs.size (a + (i : Nat) * 1) (((rgD a b).length : Int) - (i : Nat)) 1) _ _ s.toks (fun _ hp => hp) hn (.inl ⟨rfl, fun a l e q => by cases e; rw [hr] at q; cases q⟩) (fun b hb _ => Sto.put_ne _ _ hb) ⟨_, _, Sto.put_same _ _ _, ⟨_, rfl, by decide +kernel⟩, Sto.put_same _ _ _, fun h h1 h2 => ?_⟩
    ⟨⟨_, (Walks.range h0 s.heap.objs.size a 1 (rgD a b).length).mono_fp (fun b hb => List.mem_cons_of_mem _ hb), fun i v N hi hg pv => ?_⟩, fun i h hs => ⟨_, _, hs, rfl, by decide +kernel⟩⟩ S2.st (fun τ' ρ' Γ'' h' _ _ S => S) ⟨fun _ _ _ => rfl, fun τ' _ o hb => by rw [hn] at hb; cases hb⟩
  · show h.get? _ = some _
    rw [h1]
    simp [rgD]
  · obtain ⟨t, rfl⟩ := pv
    have : (rgD a b).getD i .none = .int (a + (i : Nat) * 1) := by
      have hi' : i < (b - a).toNat := by simpa [rgD] using hi
      simp [rgD, hi']
    rw [this]; exact .int _ _
theorem zip_rel {N : Led} {vs : List Value} {ds : List D} (h : RelAll N vs ds) : ∀ p ∈ vs.zip ds, RelD N p.1 p.2 := by
  induction ds generalizing vs with
  | nil => simp
  | cons d ds ih =>
    cases h with
    | cons r1 r2 =>
      intro p hp
      rw [List.zip_cons_cons] at hp
      rcases List.mem_cons.mp hp with rfl | hp
      · exact r1
      · exact ih r2 p hp
theorem list_hold {a : Addr} {ds : List D} (ha : σ a = some (.list ds)) (S : StN G c σ ρ Γ h N FS m) : ∃ (vs : List Value) (n : Nat), vs.length = ds.length ∧ StN G c (σ.put a (.obj (listOf vs.toArray n))) ρ (vs.zip ds ++ Γ) h N FS m := by
  obtain ⟨vs, n, h1, h2⟩ := S.re _ _ ha
  refine ⟨vs, n, h2.length, { (S.putO (o := .obj (listOf vs.toArray n)) h1) with ga := fun p hp => ?_ }⟩
  rcases List.mem_append.mp hp with hp | hp
  · exact zip_rel h2 p hp
  · exact S.ga p hp
theorem zip_get {vs : List Value} {ds : List D} (hl : vs.length = ds.length) {i : Nat} {v : Value} (hv : vs[i]? = some v) : (v, ds.getD i .none) ∈ vs.zip ds := by
  have hi := (List.getElem?_eq_some_iff.mp hv).1
  have : (vs.zip ds)[i]? = some (v, ds.getD i .none) := by
    rw [List.getElem?_zip_eq_some]
    exact ⟨hv, by simp [hl ▸ hi]⟩
  exact List.mem_of_getElem? this
theorem iter_list {a : Addr} {ds : List D} (h0 : c.h0) (ha : σ a = some (.list ds)) : Iter G c (.ref a) σ ds (fun τ => τ.put a (.list ds)) := fun Γ v ρ s Q E hv S q => by
  obtain rfl := S.isRef hv
  obtain ⟨N, FS, m, S⟩ := S
  obtain ⟨vs, n, hl, S0⟩ := list_hold ha S
  have hm := S0.re a _ (Sto.put_same _ _ _)
  have hA := (S0.nw _ (List.mem_append_left FS hm)).1
  refine wpAny_pyIter_list ⟨_, hA, rfl, n, rfl⟩ ?_
  have W := News.push S0.fr S0.nw ({ cls := .type "list_iterator", data := .fields #[.ref a, .int 0 0] } : Obj)
  obtain ⟨S1, hn⟩ := S0.alloc (S0.fr.push _) W S0.lt
  have S2 := S1.putO (o := .obj { cls := .type "list_iterator", data := .fields #[.ref a, .int 0 0] }) (.head _)
  have hne : a ≠ s.heap.objs.size := fun e => by rw [← e, Sto.put_same] at hn; cases hn
  have hn' : σ s.heap.objs.size = none := by rw [Sto.put_ne _ _ hne.symm] at hn; exact hn
  have wk : Wk G c.A (vs.zip ds ++ Γ) s.heap.objs.size a ds.length (fun i => ds.getD i .none) (fun i h => h.IsListIter s.heap.objs.size a i ∧ h.IsList a vs.toArray) := by
    refine ⟨⟨_, ?_, fun i v N hi hg pv => hg _ (List.mem_append_left _ (zip_get hl (by simpa using pv)))⟩, fun i h hs => ?_⟩
    · have := Walks.list (prog := G.prog) (w := G.w) h0 s.heap.objs.size a hne vs.toArray
      rw [← hl]; simpa using this
    · obtain ⟨o, ho, hc, _⟩ := hs.1
      exact ⟨o, "list_iterator", ho, hc, by decide +kernel⟩
  refine q s.heap.objs.size a (vs.zip ds ++ Γ) _ _ _ s.toks (fun _ hp => List.mem_append_right _ hp) hn' (.inr (.inl ⟨rfl, ds, ha⟩)) (fun b hb hb2 => (Sto.put_ne _ _ hb).trans (Sto.put_ne _ _ hb2)) ⟨_, listOf vs.toArray n, Sto.put_same _ _ _, ⟨"list_iterator", rfl, by decide +kernel⟩, (Sto.put_ne _ _ hne).trans (Sto.put_same _ _ _), fun h h1 h2 => ⟨⟨_, h1, rfl, rfl⟩, _, h2, rfl, n, rfl⟩⟩ wk S2.st
    (fun τ' ρ' Γ'' h' e hg S => ?_) ⟨fun τ' b hb => Sto.put_ne _ _ hb, fun τ' _ o hb => by rw [ha] at hb; cases hb; exact Sto.put_same _ _ _⟩
  obtain ⟨N', FS', m', S⟩ := S
  have e' : τ' a = some (.obj (listOf vs.toArray n)) := (e.resolve_left hne).trans ((Sto.put_ne _ _ hne).trans (Sto.put_same _ _ _))
  exact (S.putO (o := .list ds) ⟨vs, n, S.re _ _ e', relAll_of S.ga hl fun p hp => hg p (List.mem_append_left _ hp)⟩).st
theorem tup_apart {a : Addr} {vs : List Value} {n : Nat} (S : StN G c σ ρ Γ h N FS m) (ha : (a, tupOf vs.toArray n) ∈ N) : ∀ b o, σ b = some o → (∀ x, o = .obj x → x.cls ≠ .type "tuple") → b ≠ a := fun b o hb ho e => by
  subst e
  have r := S.re _ _ hb
  cases o with
  | list ds => obtain ⟨vs, n, h1, h2⟩ := r; exact absurd (congrArg Obj.cls (mem_uniq S.nodup ha h1)) (by simp)
  | inst C dx => exact absurd (congrArg Obj.cls (mem_uniq S.nodup ha r)) (by simp)
  | flds fs => obtain ⟨es, n, h1, h2⟩ := r; exact absurd (congrArg Obj.cls (mem_uniq S.nodup ha h1)) (by simp)
  | exc C dx a0 => obtain ⟨vs, sl, v0, h1, _⟩ := r; exact absurd (congrArg Obj.cls (mem_uniq S.nodup ha h1)) (by simp)
  | exn C dx a0 => obtain ⟨vs, sl, v0, h1, _⟩ := r; exact absurd (congrArg Obj.cls (mem_uniq S.nodup ha h1)) (by simp)
  | cell od => obtain ⟨o, ov, h1, h3, h2⟩ := r; exact absurd ((congrArg Obj.data (mem_uniq S.nodup ha h1)).trans h3) (by simp)
  | obj x => exact ho x rfl (congrArg Obj.cls (mem_uniq S.nodup ha r)).symm
theorem iter_tup {ds : List D} (h0 : c.h0) : Iter G c (.tup ds) σ ds id := fun Γ v ρ s Q E hv S q => by
  obtain ⟨N, FS, m, S⟩ := S
  obtain ⟨a, vs, n, rfl, hm, hr⟩ := S.tupRef (a := 0) hv
  have hl := hr.length
  have S0 : StN G c (σ.put a (.obj (tupOf vs.toArray n))) ρ (vs.zip ds ++ Γ) s.heap N FS m := { (S.putO (o := .obj (tupOf vs.toArray n)) hm) with
    ga := fun p hp => by
      rcases List.mem_append.mp hp with hp | hp
      · exact zip_rel hr p hp
      · exact S.ga p hp }
  have hA := (S.nw _ (List.mem_append_left FS hm)).1
  refine wpAny_pyIter_tuple ⟨_, hA, rfl, n, rfl⟩ ?_
  have W := News.push S0.fr S0.nw ({ cls := .type "tuple_iterator", data := .fields #[.ref a, .int 0 0] } : Obj)
  have hlt := S0.lt _ (List.mem_append_left FS hm)
  have hne : a ≠ s.heap.objs.size := Nat.ne_of_lt hlt
  obtain ⟨S1, hn⟩ := S0.alloc (S0.fr.push _) W S0.lt
  have S2 := S1.putO (o := .obj { cls := .type "tuple_iterator", data := .fields #[.ref a, .int 0 0] }) (.head _)
  have hn' : σ s.heap.objs.size = none := by rw [Sto.put_ne _ _ hne.symm] at hn; exact hn
  have wk : Wk G c.A (vs.zip ds ++ Γ) s.heap.objs.size a ds.length (fun i => ds.getD i .none) (fun i h => h.IsTupleIter s.heap.objs.size a i ∧ h.IsTuple a vs.toArray) := by
    refine ⟨⟨_, ?_, fun i v N hi hg pv => hg _ (List.mem_append_left _ (zip_get hl (by simpa using pv)))⟩, fun i h hs => ?_⟩
    · have := Walks.tuple (prog := G.prog) (w := G.w) h0 s.heap.objs.size a hne vs.toArray
      rw [← hl]; simpa using this
    · obtain ⟨o, ho, hc, _⟩ := hs.1
      exact ⟨o, "tuple_iterator", ho, hc, by decide +kernel⟩
  refine q s.heap.objs.size a (vs.zip ds ++ Γ) _ _ _ s.toks (fun _ hp => List.mem_append_right _ hp) hn' (.inr (.inr ⟨⟨_, rfl⟩, tup_apart S hm⟩)) (fun b hb hb2 => (Sto.put_ne _ _ hb).trans (Sto.put_ne _ _ hb2)) ⟨_, tupOf vs.toArray n, Sto.put_same _ _ _, ⟨"tuple_iterator", rfl, by decide +kernel⟩, (Sto.put_ne _ _ hne).trans (Sto.put_same _ _ _), fun h h1 h2 => ⟨⟨_, h1, rfl, rfl⟩, _, h2, rfl, n, rfl⟩⟩ wk S2.st
    (fun τ' ρ' Γ'' h' e hg S => S) ⟨fun _ _ _ => rfl, fun τ' e2 o hb => ?_⟩
  have h1 := (e2.resolve_left hne).trans ((Sto.put_ne _ _ hne).trans (Sto.put_same _ _ _))
  have : o = .obj (tupOf vs.toArray n) := by
    by_cases z : ∃ x, o = .obj x
    · obtain ⟨x, rfl⟩ := z
      rw [mem_uniq S.nodup (S.re _ _ hb) hm]
    · exact absurd rfl (tup_apart S hm a o hb fun x hx => absurd ⟨x, hx⟩ z)
  rw [this]; exact h1
-- a, b = x
theorem WU_name {x : Str} {p' : Pos} {v : Value} {d : D} {P : Loc → Sto → Prop} (hv : (v, d) ∈ Γ) (hk : c.env.scope.kind = .function) (hl : c.env.kindOf x = some .local) (h : P (ρ.put x d) σ) : WU G c Γ (assign (.Name x p') c.env v) ρ σ P Y :=
  fun s Q E S q f => wpAny_assign_Name (WU_store hv hk hl h s Q E S q f)
theorem WU_pair {x y : Str} {p1 p2 pos : Pos} {k : Nat} {v : Value} {d e : D} {P : Loc → Sto → Prop} (h0 : c.h0) (hv : (v, .tup [d, e]) ∈ Γ) (hk : c.env.scope.kind = .function) (hx : c.env.kindOf x = some .local) (hy : c.env.kindOf y = some .local) (h : P ((ρ.put x d).put y e) σ) :
    WU G c Γ (assign (.Tuple [.Name x p1, .Name y p2] k pos) c.env v) ρ σ P Y := fun s Q E S q f => by
  obtain ⟨N, FS, m, S⟩ := S
  obtain ⟨a, vs, n, rfl, hm, hr⟩ := S.tupRef (a := 0) hv
  obtain - | ⟨r1, r2⟩ := hr
  obtain - | ⟨r3, r4⟩ := r2
  obtain - | ⟨-, -⟩ := r4
  rename_i v1 v2
  have hA := (S.nw _ (List.mem_append_left FS hm)).1
  refine wpAny_assign_Tuple h0 ⟨_, hA, rfl, n, rfl⟩ rfl rfl fun h' hk' => ?_
  have S1 : StN G c σ ρ ((v1, d) :: (v2, e) :: Γ) h' N FS m := ((S.off (h' := h') fun b o hb q => hk' b o (Nat.ne_of_lt (Heap.lt_size q)) q).put r3).put r1
  show wpAny _ _ (holding [v2] (assign (.Name x p1) c.env v1) >>= fun _ => (holding [] (assign (.Name y p2) c.env v2) >>= fun _ => pure ())) _ _ _
  refine wpAny_bind (wpAny_holding (WU_name (Y := fun _ _ _ => False) (P := fun ρ' σ' => ρ' = ρ.put x d ∧ σ' = σ) (.head _) hk hx ⟨rfl, rfl⟩ { s with heap := h' } _ _ S1.st (fun ρ1 σ1 h1 t1 p1 S2 => ?_) .none))
  obtain ⟨rfl, rfl⟩ := p1
  refine wpAny_bind (wpAny_holding (WU_name (Y := fun _ _ _ => False) (P := fun ρ' σ' => ρ' = (ρ.put x d).put y e ∧ σ' = σ1) (.tail _ (.head _)) hk hy ⟨rfl, rfl⟩ { s with heap := h1, toks := t1 } _ _ S2 (fun ρ2 σ2 h2 t2 p2 S3 => ?_) .none))
  obtain ⟨rfl, rfl⟩ := p2
  exact wpAny_pure (q _ _ _ _ h (S3.weaken fun p hp => .tail _ (.tail _ hp)))
theorem iter_strT {x : Str} {t : Tok} {l : List Nat} {T : String} {s : Shared} {Q : Value → Shared → Prop} {d : D} (hdr : ∀ a, d ≠ .ref a) (e : x.cps.toList = l) (hT : plainIter T = true) (S : St G c σ ρ Γ s.heap)
    (hW : ∀ I, Walks G.prog G.w c.A I [I] [I] x.cps.size (SignAt x) (fun i h => h.IsStrIter I T x t i))
    (hS : ∀ (h' : Heap), h'.get? s.heap.objs.size = some ({ cls := .type T, data := .fields #[.str x t, .int 0 0] } : Obj) → h'.IsStrIter s.heap.objs.size T x t 0)
    (q : (∀ I ax Γ' Sk (τ : Sto) h tk, (∀ p ∈ Γ, p ∈ Γ') → σ I = none → AxOk d σ I ax → (∀ b, b ≠ I → b ≠ ax → τ b = σ b) → ItAt I ax Sk 0 τ → Wk G c.A Γ' I ax (l.map fun a => D.str [a]).length (fun i => (l.map fun a => D.str [a]).getD i .none) Sk → St G c τ ρ Γ' h →
      (∀ τ' ρ' Γ'' h', (ax = I ∨ τ' ax = τ ax) → (∀ p ∈ Γ', p ∈ Γ'') → St G c τ' ρ' Γ'' h' → St G c (id τ') ρ' Γ'' h') →
      ((∀ (τ' : Sto) b, b ≠ ax → id τ' b = τ' b) ∧ ∀ τ' : Sto, (ax = I ∨ τ' ax = τ ax) → ∀ o, σ ax = some o → id τ' ax = some o) → Q (.ref I) { s with heap := h, toks := tk })) :
    Q (.ref s.heap.objs.size) { s with heap := s.heap.push { cls := .type T, data := .fields #[.str x t, .int 0 0] } } := by
  obtain ⟨N, FS, m, S⟩ := S
  have W := News.push S.fr S.nw ({ cls := .type T, data := .fields #[.str x t, .int 0 0] } : Obj)
  obtain ⟨S1, hn⟩ := S.alloc (S.fr.push _) W S.lt
  have S2 := S1.putO (o := .obj { cls := .type T, data := .fields #[.str x t, .int 0 0] }) (.head _)
  have hl : x.cps.size = (l.map fun a => D.str [a]).length := by rw [← e]; simp
  refine q s.heap.objs.size s.heap.objs.size Γ (fun i h => h.IsStrIter s.heap.objs.size T x t i) _ _ s.toks (fun _ hp => hp) hn (.inl ⟨rfl, fun a l e => absurd e (hdr a)⟩) (fun b hb _ => Sto.put_ne _ _ hb) ⟨_, _, Sto.put_same _ _ _, ⟨T, rfl, hT⟩, Sto.put_same _ _ _, fun h h1 h2 => hS h h1⟩
    ⟨⟨SignAt x, ?_, fun i v N hi hg pv => ?_⟩, fun i h hs => ?_⟩ S2.st (fun τ' ρ' Γ'' h' _ _ S => S) ⟨fun _ _ _ => rfl, fun τ' _ o hb => by rw [hn] at hb; cases hb⟩
  · rw [← hl]; exact (hW _).mono_fp fun b hb => List.mem_cons_of_mem _ hb
  · obtain ⟨a, u, ha, rfl⟩ := pv
    have ha' : l[i]? = some a := by rw [← e]; simpa using ha
    have : (l.map fun a => D.str [a]).getD i .none = .str [a] := by simp [ha']
    rw [this]; exact .str rfl
  · obtain ⟨o, ho, hc, _⟩ := hs
    exact ⟨o, T, ho, hc, hT⟩
theorem iter_str {l : List Nat} (h0 : c.h0) : Iter G c (.str l) σ (l.map fun a => .str [a]) id := fun Γ v ρ s Q E hv S q => by
  obtain ⟨x, t, rfl, e⟩ := S.isStr hv
  cases ha : x.cps.all (· < 128)
  · exact wpAny_pyIter_wide ha (iter_strT (fun _ => by simp) e (by decide +kernel) S (fun I => Walks.strWide h0 I x t) (fun h' hg => ⟨_, hg, rfl, rfl⟩) q)
  · exact wpAny_pyIter_ascii ha (iter_strT (fun _ => by simp) e (by decide +kernel) S (fun I => Walks.strAscii h0 I x t) (fun h' hg => ⟨_, hg, rfl, rfl⟩) q)
end
end Mine
set_option maxHeartbeats 1000000
namespace Mine
open PySem PySem.W PySem.Calls PyProof.Rows
section
variable {G : Gl} {c : Cx} {Γ : Pairs} {ρ : Loc} {σ : Sto} {P : D → Sto → Prop} {X : XP} {R : FP} {Y : XF} {h : Heap} {N FS : Led} {m : Str → Option Value}
theorem append' {a : Addr} {ds : List D} {d : D} {x : Value} (ha : σ a = some (.list ds)) (hz : ds.length ≤ 1000000) (hx : (x, d) ∈ Γ) (h : P .none (σ.put a (.list (ds ++ [d])))) : WV G c Γ (call (.builtin "list.append") [.ref a, x]) ρ σ P X := fun s Q E S q _ => by
  obtain ⟨N, FS, m, S⟩ := S
  obtain ⟨vs, n, h1, h2⟩ := S.re a _ ha
  obtain ⟨N', u, k1, k2, k3, k4⟩ := S.change (o' := listOf (vs.toArray.push x) (n + 1)) h1 (ne_tup (show Value.type "list" ≠ Value.type "tuple" by decide))
  refine append_K (hsz := by rw [List.size_toArray, h2.length, sizeLine_eq]; omega) S.fr S.nw u fun h' F W => ?_
  refine q .none .none _ h' _ h ((k4 h' F W (.list (ds ++ [d])) ⟨vs ++ [x], n + 1, ?_, ?_⟩).put .none).st
  · have : (vs ++ [x]).toArray = vs.toArray.push x := by simp
    rw [this]; exact k1
  · exact (h2.mono k2).append (.cons ((S.ga (x, d) hx).mono k2) .nil)
/-- the tests of a clause -/
noncomputable abbrev testsOf (ifs : List Expr) (env : Env) : Sem Bool := forIn ifs true fun c r => if r = true then do let ok ← isTrue c env (eval c env); pure (ForInStep.yield ok) else pure (ForInStep.yield r)
theorem tests_nil {P : Bool → Sto → Prop} {env : Env} (h : P true σ) : WB G c Γ (testsOf [] env) ρ σ P X := fun s Q E S q _ => by
  show wpAny _ _ (pure true) _ _ _
  exact wpAny_pure (q true σ s.heap s.toks h S)
theorem tests_one {P : Bool → Sto → Prop} {t : Expr} (h : WT G c Γ t ρ σ P X) : WB G c Γ (testsOf [t] c.env) ρ σ P X := fun s Q E S q f => by
  unfold testsOf
  rw [List.forIn_cons]
  refine wpAny_bind ?_
  rw [if_pos rfl]
  refine wpAny_bind (h s _ E S (fun b σ' h1 t1 p S1 => wpAny_pure ?_) f)
  dsimp only
  rw [List.forIn_nil]
  exact wpAny_pure (q b σ' h1 t1 p S1)
theorem take_fm {α β : Type} (out : α → Option β) {ds : List α} {i : Nat} {e : α} (hds : ds[i]? = some e) : (ds.take (i + 1)).filterMap out = (ds.take i).filterMap out ++ (out e).toList := by
  rw [List.take_add_one, hds, List.filterMap_append]
  cases q : out e <;> simp [q]
/-- the context of a comprehension -/
noncomputable def Cx.comp (c : Cx) (scope : Scope) (cl : List (Str × Addr)) (C : Addr) (ρ : Loc) : Cx := ⟨c.A, compEnvC scope cl C c.env, (c.env, ρ) :: c.stk⟩
theorem comp_core {cpos : Pos} {use : Option (Value → Sem Unit)} {PF : List D → Sto → Prop} {elt iter : Expr} {x : Str} {px pos : Pos} {ifs : List Expr} {scope : Scope} {cl : List (Str × Addr)} (F : c.Fn) (hclos : closureFor scope c.env = pure cl) (hcell : ∀ y ∈ scope.names, y.2 ≠ .cell) (hkind : scope.kind = .function)
    (hnames : ∀ y ∈ scope.names, y.2 = .local → scope.names.lookup y.1 = some .local) (hx : scope.names.lookup x = some .local) (hs : ∀ x, foldedSetIterable iter c.env x = pure x)
    (h : WE G c Γ iter ρ σ (fun d σ1 => ∃ ds res out, Iter G c d σ1 ds res ∧ ds.length ≤ 1000000 ∧
      (∀ C τ Γ' d', (∀ b o, σ1 b = some o → d ≠ .ref b → (∀ x, o ≠ .obj x) → τ b = some o) → d' ∈ ds → ∀ ρ', ρ' x = some d' →
        WB G (c.comp scope cl C ρ) Γ' (testsOf ifs (compEnvC scope cl C c.env)) ρ' τ (fun b τ' => τ' = τ ∧ match out d' with
          | none => b = false
          | some r => b = true ∧ ∀ Γ'', WV G (c.comp scope cl C ρ) Γ'' (eval elt (compEnvC scope cl C c.env)) ρ' τ (fun r' τ' => r' = r ∧ τ' = τ) (fun _ _ => False)) (fun _ _ => False)) ∧
      PF (ds.filterMap out) σ1) X) {s : Shared} {Q E : Value → Shared → Prop} (S : St G c σ ρ Γ s.heap) (f : Fail G c Γ s (fun x ρ' σ' => ρ' = ρ ∧ X x σ') E)
    (fin : ∀ outs σ1 a C oC h tk, PF outs σ1 → σ1 a = none → a ≠ C → σ1 C = none → (∃ es ep, oC.data = .dict es ep ∧ StrKeys es) → St G c ((σ1.put a (.list outs)).put C (.obj oC)) ρ ((.ref a, .ref a) :: Γ) h → compPost G.M c.A E use Q (.ref a) C (.ok .next) { s with heap := h, toks := tk }) :
    wpAny G.M c.A (comprehension (.ListComp elt [⟨.Name x px, iter, ifs, 0⟩] scope pos) scope c.env cpos (newList []) false (eval iter c.env) use) Q E s := by
  refine wpAny_comprehension_free (use := use) rfl hs hclos hkind hnames ?_
  refine h.seq S f fun v d σ1 h1 t1 p1 S1 f1 => ?_
  obtain ⟨ds, res, out, hi, hlen, body, hPF⟩ := p1
  refine hi _ v ρ { s with heap := h1, toks := t1 } _ _ (.head _) S1 fun I ax Γ' Sk τ h2 t2 hg hI hax hτ hIt W S2 back rok => ?_
  refine wpAny_newObj_type (wpAny_newFunctionEnv hcell (by intro y hy; simp at hy) (fun h₃ hns₃ hsb₃ => ?_) hkind)
  obtain ⟨N, FS, m, S2⟩ := S2
  have W0 := News.push S2.fr S2.nw (PySem.W.listOf ([] : List Value).toArray 0)
  obtain ⟨S3, hacc⟩ := S2.alloc (S2.fr.push _) W0 S2.lt
  have S4 := S3.putO (o := .list []) (a := h2.objs.size) ⟨[], 0, .head _, .nil⟩
  dsimp only at hns₃ hsb₃ ⊢
  have hD : h2.objs.size ≠ (h2.push (PySem.W.listOf ([] : List Value).toArray 0)).objs.size := by rw [Heap.size_push]; exact Nat.ne_of_lt (Nat.lt_succ_self _)
  have S5 : St G (c.comp scope cl (h2.push (PySem.W.listOf ([] : List Value).toArray 0)).objs.size ρ) (τ.put h2.objs.size (.list [])) (fun _ => none) Γ' h₃ :=
    St.push (c' := c.comp scope cl (h2.push (PySem.W.listOf ([] : List Value).toArray 0)).objs.size ρ) S4.st F.fk rfl rfl hns₃ (fun b o hb => hsb₃.extBut b o (Nat.ne_of_lt (Heap.lt_size hb)) (Heap.get?_push_of_some _ hb)) (fun N hN x d hd => by cases hd)
  obtain ⟨oI, oA, a1, a2, a3, a4⟩ := id hIt
  have hDI : h2.objs.size ≠ I := fun e => by rw [e, a1] at hacc; cases hacc
  have hDx : h2.objs.size ≠ ax := fun e => by rw [e, a3] at hacc; cases hacc
  have hσD : σ1 h2.objs.size = none := by rw [← hτ _ hDI hDx]; exact hacc
  have hbelow : ∀ b o, σ1 b = some o → d ≠ .ref b → (∀ x, o ≠ .obj x) → b ≠ I ∧ b ≠ ax ∧ b ≠ h2.objs.size := fun b o hb hl ho => by
    refine ⟨fun e => (by rw [e, hI] at hb; cases hb), fun e => ?_, fun e => (by rw [e, hσD] at hb; cases hb)⟩
    subst e
    rcases hax with e | ⟨e, -⟩ | ⟨-, e⟩
    · rw [e.1, hI] at hb; cases hb
    · exact hl e
    · exact e b o hb (fun x hx => absurd hx (ho x)) rfl
  have main : ∀ s₃ : Shared, s₃ = { s with heap := h₃, toks := t2 + ([] : List (Str × Value)).length } → codeAny G.M c.A (.compLoop (.ListComp elt [⟨.Name x px, iter, ifs, 0⟩] scope pos) 0 (.ref I) (.ref h2.objs.size) (compEnvC scope cl (h2.push (PySem.W.listOf ([] : List Value).toArray 0)).objs.size c.env))
      (compPost G.M c.A E use Q (.ref h2.objs.size) (h2.push (PySem.W.listOf ([] : List Value).toArray 0)).objs.size) s₃ := by
    rintro s₃ rfl
    generalize hC : (h2.push (PySem.W.listOf ([] : List Value).toArray 0)).objs.size = C at *
    refine codeAny_compLoop_tests (fun k s' => ∃ i τi ρ' h tk, k = ds.length - i ∧ i ≤ ds.length ∧ s' = { s with heap := h, toks := tk } ∧ ItAt I ax Sk i τi ∧ τi h2.objs.size = some (.list ((ds.take i).filterMap out)) ∧
        (∀ b, b ≠ I → b ≠ ax → b ≠ h2.objs.size → τi b = σ1 b) ∧ (ax = I ∨ τi ax = τ ax) ∧ St G (c.comp scope cl C ρ) τi ρ' Γ' h) ?_ ds.length
      ⟨0, _, _, h₃, _, rfl, Nat.zero_le _, rfl, ⟨oI, oA, (Sto.put_ne _ _ hDI.symm).trans a1, a2, (Sto.put_ne _ _ hDx.symm).trans a3, a4⟩, Sto.put_same _ _ _, fun b b1 b2 b3 => (Sto.put_ne _ _ b3).trans (hτ b b1 b2), .inr (Sto.put_ne _ _ hDx.symm), S5⟩
    rintro k s' ⟨i, τi, ρ', h, tk, rfl, hin, rfl, hIti, hacci, hsame, hax', Si⟩
    have W' : Wk G (c.comp scope cl C ρ).A Γ' I ax ds.length (fun i => ds.getD i .none) Sk := W
    by_cases hi : i < ds.length
    · refine next_item (c := c.comp scope cl C ρ) (s := { s with heap := h, toks := tk }) W' hi hIti Si fun v o h5 t5 hIt5 S6 => ?_
      have hds : ds[i]? = some (ds.getD i .none) := by simp [hi]
      have hmem : ds.getD i .none ∈ ds := List.mem_of_getElem? hds
      refine WU_name (c := c.comp scope cl C ρ) (Γ := (v, ds.getD i .none) :: Γ') (Y := fun _ _ _ => False) (P := fun ρ2 τ2 => ρ2 = ρ'.put x (ds.getD i .none) ∧ τ2 = τi.put I (.obj o)) (.head _) hkind (lookup_relabel_local hx) ⟨rfl, rfl⟩ { s with heap := h5, toks := t5 } _ _ S6 (fun ρ2 τ2 h6 t6 p6 S7 => ?_) .none
      obtain ⟨rfl, rfl⟩ := p6
      have hacc5 : (τi.put I (.obj o)) h2.objs.size = some (.list ((ds.take i).filterMap out)) := (Sto.put_ne _ _ hDI).trans hacci
      have htk : (ds.take (i + 1)).filterMap out = (ds.take i).filterMap out ++ (out (ds.getD i .none)).toList := take_fm out hds
      refine body C (τi.put I (.obj o)) _ _ (fun b o' hb hl ho => by
        obtain ⟨b1, b2, b3⟩ := hbelow b o' hb hl ho
        rw [Sto.put_ne _ _ b1, hsame b b1 b2 b3]; exact hb) hmem _ get_same { s with heap := h6, toks := t6 } _ _ S7 (fun b τ3 h7 t7 p7 S8 => ?_) (fun _ _ _ _ _ _ _ p => p.2.elim)
      obtain ⟨rfl, p7⟩ := p7
      cases q : out (ds.getD i .none) with
      | none =>
        rw [q] at p7
        obtain rfl := p7
        rw [if_neg (by decide)]
        refine ⟨ds.length - (i + 1), by omega, i + 1, _, _, h7, t7, rfl, hi, rfl, hIt5, ?_, fun b b1 b2 b3 => (Sto.put_ne _ _ b1).trans (hsame b b1 b2 b3), ?_, S8.tail⟩
        · rw [htk, q]; simpa using hacc5
        · rcases hax' with z | z
          · exact .inl z
          · by_cases y : ax = I
            · exact .inl y
            · exact .inr ((Sto.put_ne _ _ y).trans z)
      | some r =>
        rw [q] at p7
        obtain ⟨rfl, p7⟩ := p7
        rw [if_pos rfl]
        refine p7 _ { s with heap := h7, toks := t7 } _ _ S8 (fun y dy τ4 h8 t8 p8 S9 => ?_) (fun _ _ _ _ _ _ _ p => p.2.elim)
        obtain ⟨rfl, rfl⟩ := p8
        refine append' (c := c.comp scope cl C ρ) (X := fun _ _ => False) (P := fun _ τ5 => τ5 = (τi.put I (.obj o)).put h2.objs.size (.list ((ds.take i).filterMap out ++ [dy]))) hacc5 ?_ (.head _) rfl { s with heap := h8, toks := t8 } _ _ S9 (fun v5 d5 τ5 h9 t9 p9 S10 => ?_) (fun _ _ _ _ _ _ _ p => p.2.elim)
        · have := List.length_filterMap_le out (ds.take i)
          have := List.length_take_le i ds
          omega
        · obtain rfl := p9
          refine ⟨ds.length - (i + 1), by omega, i + 1, _, _, h9, t9, rfl, hi, rfl, ?_, ?_, fun b b1 b2 b3 => (Sto.put_ne _ _ b3).trans ((Sto.put_ne _ _ b1).trans (hsame b b1 b2 b3)), ?_, S10.tail.tail.tail⟩
          · obtain ⟨oI', oA', e1, e2, e3, e4⟩ := hIt5
            exact ⟨oI', oA', (Sto.put_ne _ _ hDI.symm).trans e1, e2, (Sto.put_ne _ _ hDx.symm).trans e3, e4⟩
          · rw [htk, q]; exact Sto.put_same _ _ _
          · rcases hax' with z | z
            · exact .inl z
            · by_cases y : ax = I
              · exact .inl y
              · exact .inr ((Sto.put_ne _ _ hDx.symm).trans ((Sto.put_ne _ _ y).trans z))
    · obtain rfl : i = ds.length := by omega
      have hIC : I ≠ C := by
        obtain ⟨oI', oA', e1, e2, e3, e4⟩ := hIti
        obtain ⟨N', FS', m', Sn⟩ := Si
        exact (Sn.nw _ (List.mem_append_left FS' (Sn.re _ _ e1))).2.1
      refine next_end (c := c.comp scope cl C ρ) (s := { s with heap := h, toks := tk }) W' hIti Si fun h5 t5 S6 => ?_
      obtain ⟨N6, FS6, m6, S6⟩ := S6
      obtain ⟨oC, es, ep, hoC, hdC, hsk, -⟩ := S6.fr.ns
      obtain ⟨oL, FS7, m7, rfl, S7⟩ := S6.pop (c := c) F.fk rfl
      have hoff : Off G c.env.locals (N6 ++ FS7) C := by
        refine ⟨Heap.get?_none_of_le S6.fr.above, fun e => ?_, fun hm => ?_⟩
        · exact (S6.nw (c.env.locals, oL) (List.mem_append_right _ (.head _))).2.1 e.symm
        · obtain ⟨p, hp, e⟩ := List.mem_map.mp hm
          refine (S6.nw p ?_).2.1 e
          rcases List.mem_append.mp hp with hp | hp
          · exact List.mem_append_left _ hp
          · exact List.mem_append_right _ (.tail _ hp)
      have S8 : StN G c ((τi.del I).put C (.obj oC)) ρ Γ' h5 ((C, oC) :: N6) FS7 m7 := by
        refine StN.putO (S7.to S7.fr (fun p hp => ?_) ?_ (Sub.cons _ _) fun b y hb => (S7.re b y hb).mono (Sub.cons _ _) fun z hz => List.mem_cons_of_mem _ hz) (.head _)
        · rcases List.mem_cons.mp hp with rfl | hp
          · exact ⟨hoC, hoff.2.1, hoff.1⟩
          · exact S7.nw p hp
        · exact List.nodup_cons.mpr ⟨hoff.2.2, S7.nd⟩
      have hin6 : ∀ b o, τi b = some o → b ≠ I → b ≠ C := fun b o hb hbI e => by
        have : (τi.del I) b = some o := by unfold Sto.del; rw [if_neg hbI]; exact hb
        obtain ⟨y, hy⟩ := (S7.re b o this).in
        exact hoff.2.2 (e ▸ List.mem_map.mpr ⟨_, List.mem_append_left _ hy, rfl⟩)
      have hDC : h2.objs.size ≠ C := hin6 _ _ hacci hDI
      have hxC : ax ≠ C ∨ ax = I := by
        by_cases y : ax = I
        · exact .inr y
        · exact .inl (hin6 _ _ ((hax'.resolve_left y).trans a3) y)
      have S9 := back ((τi.del I).put C (.obj oC)) ρ Γ' h5 (by
          by_cases y : ax = I
          · exact .inl y
          · refine .inr ?_
            rw [Sto.put_ne _ _ (hxC.resolve_right y)]
            unfold Sto.del; rw [if_neg y]; exact hax'.resolve_left y) (fun _ hp => hp) S8.st
      have hσC : σ1 C = none := by
        cases z : σ1 C with
        | none => rfl
        | some o =>
          exfalso
          have hCI : C ≠ I := fun y => by rw [y, hI] at z; cases z
          by_cases y : C = ax
          · subst y; exact (hxC.resolve_right hCI) rfl
          · exact hin6 C o ((hsame C hCI y hDC.symm).trans z) hCI rfl
      refine fin _ σ1 h2.objs.size C oC h5 t5 hPF hσD hDC hσC ⟨es, ep, hdC, hsk⟩ (((S9.sub fun b o hb => ?_).put_plain (v := .ref h2.objs.size) (d := .ref h2.objs.size) fun _ => .ref _).weaken ?_)
      · by_cases eC : b = C
        · subst eC
          rw [Sto.put_same] at hb
          rcases hxC with y | y
          · rw [rok.1 _ _ y.symm, Sto.put_same]; exact hb
          · by_cases z : b = ax
            · exact absurd (z.trans y).symm hIC
            · rw [rok.1 _ _ z, Sto.put_same]; exact hb
        · rw [Sto.put_ne _ _ eC] at hb
          by_cases e : b = h2.objs.size
          · subst e
            rw [Sto.put_same] at hb
            rw [rok.1 _ _ hDx, Sto.put_ne _ _ eC]
            unfold Sto.del
            rw [if_neg hDI, hacci, List.take_length]; exact hb
          · rw [Sto.put_ne _ _ e] at hb
            have hbI : b ≠ I := fun z => by rw [z, hI] at hb; cases hb
            by_cases e2 : b = ax
            · subst e2
              exact rok.2 _ (hax'.imp id fun z => by rw [Sto.put_ne _ _ eC]; unfold Sto.del; rw [if_neg hbI]; exact z) o hb
            · rw [rok.1 _ _ e2, Sto.put_ne _ _ eC]
              unfold Sto.del
              rw [if_neg hbI, hsame b hbI e2 e]; exact hb
      · intro p hp
        rcases List.mem_cons.mp hp with rfl | hp
        · exact .head _
        · exact .tail _ (hg p (.tail _ hp))
  exact codeAny_compStart_list (main _ rfl) (by
    obtain ⟨Pk, Wa, _⟩ := W.walks
    obtain ⟨N5, FS5, m5, S5⟩ := S5
    refine Wa.self 0 _ _ _ (a4 _ ?_ ?_) (main _ rfl)
    · exact (S5.nw _ (List.mem_append_left FS5 (S5.re I (.obj oI) ((Sto.put_ne _ _ hDI.symm).trans a1)))).1
    · exact (S5.nw _ (List.mem_append_left FS5 (S5.re ax (.obj oA) ((Sto.put_ne _ _ hDx.symm).trans a3)))).1)
theorem ns_of {h : Heap} {C : Addr} {oC : Obj} (hg : h.get? C = some oC) (hd : ∃ es ep, oC.data = .dict es ep ∧ StrKeys es) : ∃ m, h.Ns C m := by
  obtain ⟨es, ep, h1, h2⟩ := hd
  exact ⟨_, oC, es, ep, hg, h1, h2, fun _ => rfl⟩
theorem let_go {a C : Addr} {oC : Obj} {outs : List D} {ρ : Loc} {h h' : Heap} (hσ : σ C = none) (hd : ∃ es ep, oC.data = .dict es ep ∧ StrKeys es) (hne : a ≠ C) (S : St G c ((σ.put a (.list outs)).put C (.obj oC)) ρ Γ h) (hs : Heap.SameBut C h h') : St G c (σ.put a (.list outs)) ρ Γ h' := by
  obtain ⟨es, ep, h1, h2⟩ := hd
  obtain ⟨N, FS, m, S⟩ := S
  obtain ⟨N', S1, hoff, -⟩ := S.disown (S.re C (.obj oC) (Sto.put_same _ _ _)) (by intro vs n e; rw [e] at h1; cases h1)
  refine ((S1.off (h' := h') fun b o hb e => hs.extBut b o (fun q => hb (q ▸ hoff)) e).sub fun b o hb => ?_).st
  have hbC : b ≠ C := fun e => by
    rw [e, Sto.put_ne _ _ hne.symm, hσ] at hb; cases hb
  unfold Sto.del
  rw [if_neg hbC, Sto.put_ne _ _ hbC]; exact hb
theorem WE_ListComp {elt iter : Expr} {x : Str} {px pos : Pos} {ifs : List Expr} {scope : Scope} {cl : List (Str × Addr)} (F : c.Fn) (hclos : closureFor scope c.env = pure cl) (hcell : ∀ y ∈ scope.names, y.2 ≠ .cell) (hkind : scope.kind = .function)
    (hnames : ∀ y ∈ scope.names, y.2 = .local → scope.names.lookup y.1 = some .local) (hx : scope.names.lookup x = some .local) (hs : ∀ x, foldedSetIterable iter c.env x = pure x)
    (h : WE G c Γ iter ρ σ (fun d σ1 => ∃ ds res out, Iter G c d σ1 ds res ∧ ds.length ≤ 1000000 ∧
      (∀ C τ Γ' d', (∀ b o, σ1 b = some o → d ≠ .ref b → (∀ x, o ≠ .obj x) → τ b = some o) → d' ∈ ds → ∀ ρ', ρ' x = some d' →
        WB G (c.comp scope cl C ρ) Γ' (testsOf ifs (compEnvC scope cl C c.env)) ρ' τ (fun b τ' => τ' = τ ∧ match out d' with
          | none => b = false
          | some r => b = true ∧ ∀ Γ'', WV G (c.comp scope cl C ρ) Γ'' (eval elt (compEnvC scope cl C c.env)) ρ' τ (fun r' τ' => r' = r ∧ τ' = τ) (fun _ _ => False)) (fun _ _ => False)) ∧
      ∀ a, σ1 a = none → P (.ref a) (σ1.put a (.list (ds.filterMap out)))) X) : WE G c Γ (.ListComp elt [⟨.Name x px, iter, ifs, 0⟩] scope pos) ρ σ P X := fun s Q E S q f => by
  rw [eval_ListComp]
  refine comp_core (use := none) (PF := fun outs σ1 => ∀ a, σ1 a = none → P (.ref a) (σ1.put a (.list outs))) F hclos hcell hkind hnames hx hs h S f fun outs σ1 a C oC h tk hP ha hne hC hd S1 => ?_
  obtain ⟨N, FS, m, S1'⟩ := id S1
  obtain ⟨m1, hn⟩ := ns_of (S1'.nw _ (List.mem_append_left FS (S1'.re C (.obj oC) (Sto.put_same _ _ _)))).1 hd
  refine ⟨m1, hn, fun h' hs' => ?_⟩
  exact q (.ref a) (.ref a) (σ1.put a (.list outs)) h' tk (hP a ha) (let_go hC hd hne S1 hs')
end
end Mine
set_option maxHeartbeats 1000000
namespace Mine
open PySem PySem.W PySem.Calls PyProof.Rows
section
variable {G : Gl} {c : Cx} {Γ : Pairs} {ρ : Loc} {σ : Sto} {P : D → Sto → Prop} {X : XP} {R : FP} {Y : XF} {h h' : Heap} {N FS : Led} {m : Str → Option Value}
/-- many objects changed at once -/
theorem StN.many {wr : List Addr} {g : Addr → Obj} {FS' : Led} (S : StN G c σ ρ Γ h N FS m) (hN : ∀ b ∈ wr, ∀ o, (b, o) ∈ N → o.cls ≠ .type "tuple") (hi : ∀ b ∈ wr, ∃ o, (b, o) ∈ N) (hg : ∀ b ∈ wr, h'.get? b = some (g b))
    (hkN : ∀ p ∈ N, p.1 ∉ wr → h'.get? p.1 = some p.2) (hkL : ∀ o, h.get? c.env.locals = some o → h'.get? c.env.locals = some o) (hkB : ∀ b o, G.h₀.get? b = some o → h'.get? b = some o)
    (hF1 : FS'.map (·.1) = FS.map (·.1)) (hF2 : ∀ p ∈ FS', h'.get? p.1 = some p.2) (hF3 : ∀ N', Sub N N' → Frames G.h₀.objs.size N' FS' c.stk) :
    ∃ N', StN G c (fun b => if b ∈ wr then some (.obj (g b)) else σ b) ρ Γ h' N' FS' m ∧ N'.map (·.1) = N.map (·.1) ∧ Sub N N' ∧ (∀ b x, b ∉ wr → (b, x) ∈ N → (b, x) ∈ N') := by
  have k1 : ∀ b x, b ∉ wr → (b, x) ∈ N → (b, x) ∈ N.map fun p => if p.1 ∈ wr then (p.1, g p.1) else p := fun b x hb hx => by
    refine List.mem_map.mpr ⟨_, hx, ?_⟩
    rw [if_neg hb]
  have k2 : ∀ b ∈ wr, (b, g b) ∈ N.map fun p => if p.1 ∈ wr then (p.1, g p.1) else p := fun b hb => by
    obtain ⟨o, ho⟩ := hi b hb
    refine List.mem_map.mpr ⟨_, ho, ?_⟩
    rw [if_pos hb]
  have k3 : (N.map fun p => if p.1 ∈ wr then (p.1, g p.1) else p).map (·.1) = N.map (·.1) := by
    rw [List.map_map]
    refine List.map_congr_left fun p hp => ?_
    show (if p.1 ∈ wr then (p.1, g p.1) else p).1 = p.1
    split <;> rfl
  have hs : Sub N (N.map fun p => if p.1 ∈ wr then (p.1, g p.1) else p) := fun b vs n hb => by
    by_cases e : b ∈ wr
    · exact absurd rfl (hN b e _ hb)
    · exact k1 b _ e hb
  refine ⟨_, ⟨⟨?_, hkB, S.fr.above⟩, ?_, ?_, fun x d hx => ?_, fun b o hb => ?_, hF3 _ hs, fun p hp => (S.ga p hp).mono hs⟩, k3, hs, k1⟩
  · obtain ⟨o, es, ep, ho, r⟩ := S.fr.ns
    exact ⟨o, es, ep, hkL o ho, r⟩
  · intro p hp
    have key : ∃ q ∈ N ++ FS, q.1 = p.1 := by
      have : p.1 ∈ (N ++ FS).map (·.1) := by
        rw [List.map_append, ← k3, ← hF1, ← List.map_append]
        exact List.mem_map.mpr ⟨p, hp, rfl⟩
      obtain ⟨q, hq, e⟩ := List.mem_map.mp this
      exact ⟨q, hq, e⟩
    obtain ⟨q, hq, e⟩ := key
    refine ⟨?_, e ▸ (S.nw q hq).2⟩
    rcases List.mem_append.mp hp with hp | hp
    · obtain ⟨q, hq, rfl⟩ := List.mem_map.mp hp
      by_cases z : q.1 ∈ wr
      · rw [if_pos z]; exact hg _ z
      · rw [if_neg z]; exact hkN q hq z
    · exact hF2 p hp
  · rw [List.map_append, k3, hF1, ← List.map_append]; exact S.nd
  · obtain ⟨v, hv, r⟩ := S.lo x d hx
    exact ⟨v, hv, r.mono hs⟩
  · by_cases z : b ∈ wr
    · rw [if_pos z] at hb; cases hb; exact k2 b z
    · rw [if_neg z] at hb
      exact (S.re b o hb).mono hs fun x hx => k1 b x z hx
/-- an object of the heap comes onto the ledger -/
theorem StN.own {a : Addr} {o : Obj} (S : StN G c σ ρ Γ h N FS m) (ha : h.get? a = some o) (off : Off G c.env.locals (N ++ FS) a) : StN G c σ ρ Γ h ((a, o) :: N) FS m := by
  refine S.to S.fr (fun p hp => ?_) ?_ (Sub.cons _ _) fun b y hb => (S.re b y hb).mono (Sub.cons _ _) fun z hz => List.mem_cons_of_mem _ hz
  · rcases List.mem_cons.mp hp with rfl | hp
    · exact ⟨ha, off.2.1, off.1⟩
    · exact S.nw p hp
  · exact List.nodup_cons.mpr ⟨off.2.2, S.nd⟩
/-- some objects are let go -/
theorem StN.drop {c' : Cx} {wr : List Addr} {FS' : Led} (S : StN G c σ ρ Γ h N FS m) (he : c'.env = c.env) (hN : ∀ b ∈ wr, ∀ o, (b, o) ∈ N → o.cls ≠ .type "tuple")
    (hkN : ∀ p ∈ N, p.1 ∉ wr → h'.get? p.1 = some p.2) (hkL : ∀ o, h.get? c.env.locals = some o → h'.get? c.env.locals = some o) (hkB : ∀ b o, G.h₀.get? b = some o → h'.get? b = some o)
    (hF1 : FS'.Sublist FS) (hF2 : ∀ p ∈ FS', h'.get? p.1 = some p.2) (hF3 : ∀ N', Sub N N' → Frames G.h₀.objs.size N' FS' c'.stk) :
    ∃ N', StN G c' (fun b => if b ∈ wr then none else σ b) ρ Γ h' N' FS' m ∧ Sub N N' ∧ (∀ b x, b ∉ wr → (b, x) ∈ N → (b, x) ∈ N') := by
  have k1 : ∀ b x, b ∉ wr → (b, x) ∈ N → (b, x) ∈ N.filter fun p => p.1 ∉ wr := fun b x hb hx => List.mem_filter.mpr ⟨hx, by simpa using hb⟩
  have hs : Sub N (N.filter fun p => p.1 ∉ wr) := fun b vs n hb => by
    by_cases e : b ∈ wr
    · exact absurd rfl (hN b e _ hb)
    · exact k1 b _ e hb
  have hsub : ((N.filter fun p => p.1 ∉ wr) ++ FS').Sublist (N ++ FS) := List.Sublist.append List.filter_sublist hF1
  refine ⟨_, ⟨⟨?_, hkB, ?_⟩, fun p hp => ⟨?_, ?_⟩, S.nd.sublist (hsub.map _), fun x d hx => ?_, fun b o hb => ?_, hF3 _ hs, fun p hp => (S.ga p hp).mono hs⟩, hs, k1⟩
  · obtain ⟨o, es, ep, ho, r⟩ := S.fr.ns
    rw [he]
    exact ⟨o, es, ep, hkL o ho, r⟩
  · rw [he]; exact S.fr.above
  · rcases List.mem_append.mp hp with hp | hp
    · have := List.mem_filter.mp hp
      exact hkN p this.1 (by simpa using this.2)
    · exact hF2 p hp
  · rw [he]; exact (S.nw p (hsub.subset hp)).2
  · obtain ⟨v, hv, r⟩ := S.lo x d hx
    exact ⟨v, hv, r.mono hs⟩
  · by_cases z : b ∈ wr
    · rw [if_pos z] at hb; cases hb
    · rw [if_neg z] at hb
      exact (S.re b o hb).mono hs fun x hx => k1 b x z hx
end
end Mine
set_option maxHeartbeats 1000000
namespace Mine
open PySem PySem.W PySem.Calls PyProof.Rows
/-- the next pair, or the end -/
noncomputable def NextGo (prog : Program) (w : World) (A : Around) (tgt : Expr) (it : Value) (E : Value → Shared → Prop) (A0 : Shared → Prop) (B : Value → Shared → Prop) : Option Value → Shared → Prop
  | none, s => A0 s
  | some v, s => wpAny (model prog w) A (letOwnedTupleGo tgt it v) (fun _ s' => B v s') E s
theorem comp_loop_pt {prog : Program} {w : World} {A : Around} {s : Shared} {elt target iter : Expr} {ifs : List Expr} {scope : Scope} {pos : Pos} {it acc : Value} {env : Env} {R : Result → Shared → Prop} (I : Nat → Shared → Prop)
    (turn : ∀ n s, I n s → wpAny (model prog w) A (pyNext it) (NextGo prog w A target it (notedBy (model prog w) A env fun e s' => R (.error e) s') (fun s₁ => R (.ok .next) s₁) (fun v s₁' => wpAny (model prog w) A (assign target env v) (fun _ s₂ =>
          wpAny (model prog w) A (forIn ifs true fun c r => if r = true then do let ok ← isTrue c env (eval c env); pure (ForInStep.yield ok) else pure (ForInStep.yield r)) (fun ok s₃ =>
            if ok = true then wpAny (model prog w) A (eval elt env) (fun x s₄ =>
              wpAny (model prog w) A (call (.builtin "list.append") [acc, x]) (fun _ s₅ => ∃ m, m < n ∧ I m s₅) (notedBy (model prog w) A env fun e s' => R (.error e) s') s₄) (notedBy (model prog w) A env fun e s' => R (.error e) s') s₃
            else ∃ m, m < n ∧ I m s₃) (notedBy (model prog w) A env fun e s' => R (.error e) s') s₂) (notedBy (model prog w) A env fun e s' => R (.error e) s') s₁')) (notedBy (model prog w) A env fun e s' => R (.error e) s') s)
    (n : Nat) (h : I n s) : codeAny (model prog w) A (.compLoop (.ListComp elt [⟨target, iter, ifs, 0⟩] scope pos) 0 it acc env) R s := by
  refine codeAny_loop rfl I (fun n s hI => ?_) n h
  show wpAny _ A ((compTurn (.ListComp elt [⟨target, iter, ifs, 0⟩] scope pos) 0 it acc env).onRaise (fun x => do noteFrame x env; theTreesLotGoes x)) _ _ s
  refine wpAny_noted ?_
  rw [compTurn_list]
  refine wpAny_bind (wpAny_standAt (wpAny_bind (wpAny_mono (turn n s hI) (fun r s₁ h₁ => ?_) fun _ _ h' => h')))
  cases r with
  | none => exact wpAny_pure h₁
  | some v =>
    refine wpAny_bind (wpAny_mono h₁ (fun _ s₁' h₁' => ?_) fun _ _ h' => h')
    refine wpAny_bind (wpAny_mono h₁' (fun _ s₂ h₂ => wpAny_bind (wpAny_mono h₂ (fun ok s₃ h₃ => ?_) fun _ _ h' => h')) fun _ _ h' => h')
    cases ok with
    | false => exact wpAny_pure ⟨rfl, h₃⟩
    | true =>
      exact wpAny_bind (wpAny_bind (wpAny_mono h₃ (fun x s₄ h₄ => wpAny_bind (wpAny_mono h₄ (fun _ s₅ h₅ => wpAny_pure (wpAny_pure ⟨rfl, h₅⟩)) fun _ _ h' => h')) fun _ _ h' => h'))
/-- a walk whose items are pairs, handed out by an iterator with objects of its own -/
structure PW (G : Gl) (A : Around) (Γ0 : Pairs) (hs stk : List (Env × Loc)) (tgt : Expr) (I : Addr) (fs : List Addr) (n : Nat) (dk : Nat → D) (Jt : Nat → Sto → Prop) (σ1 : Sto) : Prop where
  frame : ∀ i τ τ', Jt i τ → (∀ b ∈ fs, τ' b = τ b) → Jt i τ'
  has : ∀ i τ, Jt i τ → ∀ b ∈ fs, τ b ≠ none
  self : ∀ (c' : Cx) (τ : Sto) (ρ : Loc) (Γ : Pairs) (s : Shared) (Q E : Value → Shared → Prop), c'.A = A → Jt 0 τ → St G c' τ ρ Γ s.heap → Q (.ref I) s → wpAny G.M A (pyIter (.ref I)) Q E s
  item : ∀ (c' : Cx) (q : Env × Loc) (i : Nat) (τ : Sto) (ρ : Loc) (Γ : Pairs) (s : Shared) (A0 : Shared → Prop) (B : Value → Shared → Prop) (E : Value → Shared → Prop), c'.A = A → c'.stk = q :: (hs ++ stk) → i < n → Jt i τ → (∀ p ∈ Γ0, p ∈ Γ) → St G c' τ ρ Γ s.heap →
    (∀ v τ2 h1 t1, Jt (i + 1) τ2 → (∀ b, b ∉ fs → τ2 b = τ b) → St G c' τ2 ρ ((v, dk i) :: Γ) h1 → B v { s with heap := h1, toks := t1 }) →
    wpAny G.M A (pyNext (.ref I)) (NextGo G.prog G.w A tgt (.ref I) E A0 B) E s
  stop : ∀ (c' : Cx) (q : Env × Loc) (τ : Sto) (ρ : Loc) (Γ : Pairs) (s : Shared) (Q : Option Value → Shared → Prop) (E : Value → Shared → Prop), c'.A = A → c'.stk = q :: (hs ++ stk) → Jt n τ → (∀ p ∈ Γ0, p ∈ Γ) → St G c' τ ρ Γ s.heap →
    (∀ τ2 h1 t1, (∀ b, b ∉ fs → τ2 b = τ b) → (∀ b ∈ fs, ∀ o, σ1 b = some o → τ2 b = some o) → St G ⟨c'.A, c'.env, q :: stk⟩ τ2 ρ Γ h1 → Q none { s with heap := h1, toks := t1 }) → wpAny G.M A (pyNext (.ref I)) Q E s
/-- what hands out pairs -/
noncomputable def PSrc (G : Gl) (c : Cx) (Γ : Pairs) (iter : Expr) (ρ : Loc) (σ : Sto) (tgt : Expr) (P : Nat → (Nat → D) → (Nat → D) → Sto → Prop) (X : XP) : Prop :=
  ∀ (s : Shared) (Q E : Value → Shared → Prop), St G c σ ρ Γ s.heap → Fail G c Γ s (fun x ρ' σ' => ρ' = ρ ∧ X x σ') E →
    (∀ I fs hs n f g Jt σ1 τ Γ0 h tk, P n f g σ1 → PW G c.A Γ0 hs c.stk tgt I fs n (fun i => .tup [f i, g i]) Jt σ1 → Jt 0 τ → (∀ b, b ∉ fs → τ b = σ1 b) → (∀ b ∈ fs, ∀ o, σ1 b = some o → ∃ l, o = .list l) → (∀ p ∈ Γ, p ∈ Γ0) →
      St G ⟨c.A, c.env, hs ++ c.stk⟩ τ ρ Γ0 h → Q (.ref I) { s with heap := h, toks := tk }) → wpAny G.M c.A (eval iter c.env) Q E s
section
variable {G : Gl} {c : Cx} {Γ : Pairs} {ρ : Loc} {σ : Sto} {P : D → Sto → Prop} {X : XP} {R : FP} {Y : XF} {h h' : Heap} {N FS : Led} {m : Str → Option Value}
theorem take_rg {β : Type} (out : Nat → Option β) (i : Nat) : (List.range (i + 1)).filterMap out = (List.range i).filterMap out ++ (out i).toList := by
  rw [List.range_succ, List.filterMap_append]
  cases q : out i <;> simp [q]
/-- the context of an element -/
noncomputable def Cx.comp2 (c : Cx) (scope : Scope) (cl : List (Str × Addr)) (C : Addr) (ρ : Loc) (hs : List (Env × Loc)) : Cx := ⟨c.A, compEnvC scope cl C c.env, (c.env, ρ) :: (hs ++ c.stk)⟩
theorem comp_core2 {cpos : Pos} {use : Option (Value → Sem Unit)} {PF : List D → Sto → Prop} {elt iter : Expr} {x y : Str} {px py pos tp : Pos} {tk : Nat} {ifs : List Expr} {scope : Scope} {cl : List (Str × Addr)} (F : c.Fn) (h0 : c.h0) (hclos : closureFor scope c.env = pure cl) (hcell : ∀ y ∈ scope.names, y.2 ≠ .cell) (hkind : scope.kind = .function)
    (hnames : ∀ y ∈ scope.names, y.2 = .local → scope.names.lookup y.1 = some .local) (hx : scope.names.lookup x = some .local) (hy : scope.names.lookup y = some .local) (hxy : decide (x = y) = false) (hs : ∀ x, foldedSetIterable iter c.env x = pure x)
    (h : PSrc G c Γ iter ρ σ (.Tuple [.Name x px, .Name y py] tk tp) (fun n f g σ1 => ∃ out, n ≤ 1000000 ∧
      (∀ C τ Γ' hs i, (∀ b o, σ1 b = some o → (∀ l, o ≠ .list l) → τ b = some o) → i < n → ∀ ρ', ρ' x = some (f i) → ρ' y = some (g i) →
        WB G (c.comp2 scope cl C ρ hs) Γ' (testsOf ifs (compEnvC scope cl C c.env)) ρ' τ (fun b τ' => τ' = τ ∧ match out i with
          | none => b = false
          | some r => b = true ∧ ∀ Γ'', WV G (c.comp2 scope cl C ρ hs) Γ'' (eval elt (compEnvC scope cl C c.env)) ρ' τ (fun r' τ' => r' = r ∧ τ' = τ) (fun _ _ => False)) (fun _ _ => False)) ∧
      PF ((List.range n).filterMap out) σ1) X) {s : Shared} {Q E : Value → Shared → Prop} (S : St G c σ ρ Γ s.heap) (f : Fail G c Γ s (fun x ρ' σ' => ρ' = ρ ∧ X x σ') E)
    (fin : ∀ outs σ1 a C oC h tk, PF outs σ1 → σ1 a = none → a ≠ C → σ1 C = none → (∃ es ep, oC.data = .dict es ep ∧ StrKeys es) → St G c ((σ1.put a (.list outs)).put C (.obj oC)) ρ ((.ref a, .ref a) :: Γ) h → compPost G.M c.A E use Q (.ref a) C (.ok .next) { s with heap := h, toks := tk }) :
    wpAny G.M c.A (comprehension (.ListComp elt [⟨.Tuple [.Name x px, .Name y py] tk tp, iter, ifs, 0⟩] scope pos) scope c.env cpos (newList []) false (eval iter c.env) use) Q E s := by
  refine wpAny_comprehension_free (use := use) rfl hs hclos hkind hnames ?_
  refine h s _ _ S f fun I fs hs' n f' g' Jt σ1 τ Γ' h2 t2 p1 W J0 hτ hfs hg S2 => ?_
  obtain ⟨out, hlen, body, hPF⟩ := p1
  refine W.self ⟨c.A, c.env, hs' ++ c.stk⟩ τ ρ Γ' { s with heap := h2, toks := t2 } _ _ rfl J0 S2 ?_
  refine wpAny_newObj_type (wpAny_newFunctionEnv hcell (by intro y hy; simp at hy) (fun h₃ hns₃ hsb₃ => ?_) hkind)
  obtain ⟨N, FS, m, S2⟩ := S2
  have W0 := News.push S2.fr S2.nw (PySem.W.listOf ([] : List Value).toArray 0)
  obtain ⟨S3, hacc⟩ := S2.alloc (S2.fr.push _) W0 S2.lt
  have S4 := S3.putO (o := .list []) (a := h2.objs.size) ⟨[], 0, .head _, .nil⟩
  dsimp only at hns₃ hsb₃ ⊢
  have S5 : St G (c.comp2 scope cl (h2.push (PySem.W.listOf ([] : List Value).toArray 0)).objs.size ρ hs') (τ.put h2.objs.size (.list [])) (fun _ => none) Γ' h₃ :=
    St.push (c' := c.comp2 scope cl (h2.push (PySem.W.listOf ([] : List Value).toArray 0)).objs.size ρ hs') S4.st ⟨F.frame, F.kind⟩ rfl rfl hns₃ (fun b o hb => hsb₃.extBut b o (Nat.ne_of_lt (Heap.lt_size hb)) (Heap.get?_push_of_some _ hb)) (fun N hN x d hd => by cases hd)
  have hDf : h2.objs.size ∉ fs := fun hm => W.has 0 τ J0 _ hm hacc
  have hσD : σ1 h2.objs.size = none := by rw [← hτ _ hDf]; exact hacc
  have J1 : Jt 0 (τ.put h2.objs.size (.list [])) := W.frame _ _ _ J0 fun b hb => Sto.put_ne _ _ fun e => hDf (e ▸ hb)
  have main : ∀ s₃ : Shared, s₃ = { s with heap := h₃, toks := t2 + ([] : List (Str × Value)).length } → codeAny G.M c.A (.compLoop (.ListComp elt [⟨.Tuple [.Name x px, .Name y py] tk tp, iter, ifs, 0⟩] scope pos) 0 (.ref I) (.ref h2.objs.size) (compEnvC scope cl (h2.push (PySem.W.listOf ([] : List Value).toArray 0)).objs.size c.env))
      (compPost G.M c.A E use Q (.ref h2.objs.size) (h2.push (PySem.W.listOf ([] : List Value).toArray 0)).objs.size) s₃ := by
    rintro s₃ rfl
    generalize hC : (h2.push (PySem.W.listOf ([] : List Value).toArray 0)).objs.size = C at *
    refine comp_loop_pt (fun k s' => ∃ i τi ρ' h tk, k = n - i ∧ i ≤ n ∧ s' = { s with heap := h, toks := tk } ∧ Jt i τi ∧ τi h2.objs.size = some (.list ((List.range i).filterMap out)) ∧
        (∀ b, b ∉ fs → b ≠ h2.objs.size → τi b = σ1 b) ∧ St G (c.comp2 scope cl C ρ hs') τi ρ' Γ' h) ?_ n
      ⟨0, _, _, h₃, _, rfl, Nat.zero_le _, rfl, J1, Sto.put_same _ _ _, fun b b1 b3 => (Sto.put_ne _ _ b3).trans (hτ b b1), S5⟩
    rintro k s' ⟨i, τi, ρ', h, tk', rfl, hin, rfl, hJ, hacci, hsame, Si⟩
    by_cases hi : i < n
    · refine W.item (c.comp2 scope cl C ρ hs') (c.env, ρ) i τi ρ' Γ' { s with heap := h, toks := tk' } _ _ _ rfl rfl hi hJ (fun _ hp => hp) Si ?_
      · intro v τ2 h5 t5 hJ2 hk2 S6
        refine WU_pair (c := c.comp2 scope cl C ρ hs') (Γ := (v, .tup [f' i, g' i]) :: Γ') (Y := fun _ _ _ => False) (P := fun ρ2 τ3 => ρ2 = (ρ'.put x (f' i)).put y (g' i) ∧ τ3 = τ2) h0 (.head _) hkind (lookup_relabel_local hx) (lookup_relabel_local hy) ⟨rfl, rfl⟩ { s with heap := h5, toks := t5 } _ _ S6 (fun ρ2 τ3 h6 t6 p6 S7 => ?_) .none
        obtain ⟨rfl, rfl⟩ := p6
        have hacc5 : τ3 h2.objs.size = some (.list ((List.range i).filterMap out)) := (hk2 _ hDf).trans hacci
        refine body C τ3 _ hs' i (fun b o' hb ho => ?_) hi _ ((if_neg (by simpa using hxy)).trans get_same) get_same { s with heap := h6, toks := t6 } _ _ S7 (fun b τ4 h7 t7 p7 S8 => ?_) (fun _ _ _ _ _ _ _ p => p.2.elim)
        · have hbf : b ∉ fs := fun hm => by
            obtain ⟨l, e⟩ := hfs b hm o' hb
            exact ho l e
          have hbD : b ≠ h2.objs.size := fun e => by rw [e, hσD] at hb; cases hb
          rw [hk2 b hbf, hsame b hbf hbD]; exact hb
        · obtain ⟨rfl, p7⟩ := p7
          cases q : out i with
          | none =>
            rw [q] at p7
            obtain rfl := p7
            rw [if_neg (by decide)]
            refine ⟨n - (i + 1), by omega, i + 1, _, _, h7, t7, rfl, hi, rfl, hJ2, ?_, fun b b1 b3 => (hk2 b b1).trans (hsame b b1 b3), S8.tail⟩
            rw [take_rg, q]; simpa using hacc5
          | some r =>
            rw [q] at p7
            obtain ⟨rfl, p7⟩ := p7
            rw [if_pos rfl]
            refine p7 _ { s with heap := h7, toks := t7 } _ _ S8 (fun y' dy τ5 h8 t8 p8 S9 => ?_) (fun _ _ _ _ _ _ _ p => p.2.elim)
            obtain ⟨rfl, rfl⟩ := p8
            refine append' (c := c.comp2 scope cl C ρ hs') (X := fun _ _ => False) (P := fun _ τ6 => τ6 = τ5.put h2.objs.size (.list ((List.range i).filterMap out ++ [dy]))) hacc5 ?_ (.head _) rfl { s with heap := h8, toks := t8 } _ _ S9 (fun v5 d5 τ6 h9 t9 p9 S10 => ?_) (fun _ _ _ _ _ _ _ p => p.2.elim)
            · have := List.length_filterMap_le out (List.range i)
              simp at this
              omega
            · obtain rfl := p9
              refine ⟨n - (i + 1), by omega, i + 1, _, _, h9, t9, rfl, hi, rfl, W.frame _ _ _ hJ2 fun b hb => Sto.put_ne _ _ (fun e : b = h2.objs.size => hDf (e ▸ hb)), ?_, fun b b1 b3 => (Sto.put_ne _ _ b3).trans ((hk2 b b1).trans (hsame b b1 b3)), S10.tail.tail.tail⟩
              rw [take_rg, q]; exact Sto.put_same _ _ _
    · obtain rfl : i = n := by omega
      refine W.stop (c.comp2 scope cl C ρ hs') (c.env, ρ) τi ρ' Γ' { s with heap := h, toks := tk' } _ _ rfl rfl hJ (fun _ hp => hp) Si fun τ2 h5 t5 hk2 hb2 S6 => ?_
      obtain ⟨N6, FS6, m6, S6⟩ := S6
      obtain ⟨oC, es, ep, hoC, hdC, hsk, -⟩ := S6.fr.ns
      obtain ⟨oL, FS7, m7, rfl, S7⟩ := S6.pop (c := c) F.fk rfl
      have hoff : Off G c.env.locals (N6 ++ FS7) C := by
        refine ⟨Heap.get?_none_of_le S6.fr.above, fun e => ?_, fun hm => ?_⟩
        · exact (S6.nw (c.env.locals, oL) (List.mem_append_right _ (.head _))).2.1 e.symm
        · obtain ⟨p, hp, e⟩ := List.mem_map.mp hm
          refine (S6.nw p ?_).2.1 e
          rcases List.mem_append.mp hp with hp | hp
          · exact List.mem_append_left _ hp
          · exact List.mem_append_right _ (.tail _ hp)
      have hin6 : ∀ b o, τ2 b = some o → b ≠ C := fun b o hb e => by
        obtain ⟨y, hy⟩ := (S7.re b o hb).in
        exact hoff.2.2 (e ▸ List.mem_map.mpr ⟨_, List.mem_append_left _ hy, rfl⟩)
      have hacc6 : τ2 h2.objs.size = some (.list ((List.range i).filterMap out)) := (hk2 _ hDf).trans hacci
      have hDC : h2.objs.size ≠ C := hin6 _ _ hacc6
      have hsub : ∀ b o, σ1 b = some o → τ2 b = some o := fun b o hb => by
        by_cases hm : b ∈ fs
        · exact hb2 b hm o hb
        · rw [hk2 b hm, hsame b hm fun e => by rw [e, hσD] at hb; cases hb]; exact hb
      have hσC : σ1 C = none := by
        cases z : σ1 C with
        | none => rfl
        | some o => exact absurd rfl (hin6 C o (hsub C o z))
      have S8 : StN G c (τ2.put C (.obj oC)) ρ Γ' h5 ((C, oC) :: N6) FS7 m7 := (S7.own hoC hoff).putO (.head _)
      refine fin _ σ1 h2.objs.size C oC h5 t5 hPF hσD hDC hσC ⟨es, ep, hdC, hsk⟩ (((S8.st.sub fun b o hb => ?_).put_plain (v := .ref h2.objs.size) (d := .ref h2.objs.size) fun _ => .ref _).weaken ?_)
      · by_cases eC : b = C
        · subst eC
          rw [Sto.put_same] at hb ⊢; exact hb
        · rw [Sto.put_ne _ _ eC] at hb ⊢
          by_cases e : b = h2.objs.size
          · subst e
            rw [Sto.put_same] at hb
            rw [hacc6]; exact hb
          · rw [Sto.put_ne _ _ e] at hb
            exact hsub b o hb
      · intro p hp
        rcases List.mem_cons.mp hp with rfl | hp
        · exact .head _
        · exact .tail _ (hg p hp)
  exact codeAny_compStart_list (main _ rfl) (W.self (c.comp2 scope cl _ ρ hs') _ _ _ _ _ _ rfl J1 S5 (main _ rfl))
end
end Mine
set_option maxHeartbeats 1000000
namespace Mine
open PySem PySem.W PySem.Calls PyProof.Rows
section
variable {G : Gl} {c : Cx} {Γ : Pairs} {ρ : Loc} {σ : Sto} {P : D → Sto → Prop} {X : XP} {R : FP} {Y : XF} {h h' : Heap} {N FS : Led} {m : Str → Option Value}
/-- a built-in called by its name: what follows the call is the reader's own -/
theorem bcall_raw {PL : List D → Sto → Prop} {e : Expr} {rest : List Expr} {x : Str} {np pos : Pos} {f : Value} (hf : Callee G f) (hk : c.env.scope.kind = .function) (hl : c.env.kindOf x = some .globalImplicit) (hg : c.env.globals = mainGlobals) (hb : c.env.builtins = builtinsNs) (hd : (x == ("__debug__" : Str)) = false)
    (en : nsIn G.K mainGlobals x = some none) (hv : bootBuiltins x = some f) (hn : x ≠ "__name__") (hh : handedIn f = true)
    (hc : eval (.Call (.Name x np) (e :: rest) [] pos) c.env = (do callWith pos (← eval (.Name x np) c.env) [] (backTo pos (starEach (e :: rest) c.env)) (backToKw pos (keywordEach [] c.env))))
    (he : starEach (e :: rest) c.env = (false, eval e c.env) :: starEach rest c.env) (hplain : (backTo pos (starEach rest c.env)).any (·.1) = false)
    (h : ∀ v, WL G c ((v, .con f) :: Γ) (spliced (backTo pos (starEach (e :: rest) c.env))) ρ σ PL X) {s : Shared} {Q E : Value → Shared → Prop} (S : St G c σ ρ Γ s.heap) (fl : Fail G c Γ s (fun x ρ' σ' => ρ' = ρ ∧ X x σ') E)
    (q : ∀ vs ds σ1 Γ' h1 t, PL ds σ1 → vs.length = ds.length → (∀ p ∈ vs.zip ds, p ∈ Γ') → (∀ p ∈ Γ, p ∈ Γ') → St G c σ1 ρ Γ' h1 → wpAny G.M c.A (call f vs) Q E { s with heap := h1, toks := t }) :
    wpAny G.M c.A (eval (.Call (.Name x np) (e :: rest) [] pos) c.env) Q E s := by
  refine Call_ (he := hc) ((WE_boot (P := fun d σ' => d = .con f ∧ σ' = σ) (X := X) hk hl hg hb hd en hv hn hh ⟨rfl, rfl⟩).seq S fl fun v d σ1 h1 t1 p1 S1 f1 => ?_)
  obtain ⟨rfl, rfl⟩ := p1
  obtain rfl := S1.isCon (.head _)
  have go : wpAny G.M c.A (spliced (backTo pos (starEach (e :: rest) c.env))) (fun vs s' => G.K.In s'.heap ∧ wpAny G.M c.A (call v ([] ++ vs)) Q E s') E { s with heap := h1, toks := t1 } := by
    refine h v _ _ E S1 (fun vs ds σ2 h2 t2 p2 hl2 S2 => ⟨?_, ?_⟩) f1
    · obtain ⟨_, _, _, S2⟩ := S2; exact G.X.keeps S2.fr.keep
    · exact q vs ds σ2 _ h2 t2 p2 hl2 (fun _ hp => List.mem_append_left _ hp) (fun _ hp => List.mem_append_right _ (.tail _ hp)) S2
  rw [he] at go ⊢
  exact callWith_of (P := G.K.In) (by show ((false || (backTo pos (starEach rest c.env)).any (·.1)) || false) = false; rw [hplain]; rfl) hf (evalArgs_plain go)
end
end Mine
set_option maxHeartbeats 1000000
namespace Mine
open PySem PySem.W PySem.Calls PyProof.Rows
theorem Off.onN {G : Gl} {L : Addr} {N FS : Led} {a b : Addr} {o : Obj} (h : Off G L (N ++ FS) a) (hne : a ≠ b) : Off G L ((b, o) :: N ++ FS) a := ⟨h.1, h.2.1, fun hm => by
  rcases List.mem_cons.mp hm with e | hm
  · exact hne e
  · exact h.2.2 hm⟩
section
variable {G : Gl} {c : Cx} {Γ : Pairs} {ρ : Loc} {σ : Sto} {P : D → Sto → Prop} {X : XP} {R : FP} {Y : XF} {h h' : Heap} {N FS : Led} {m : Str → Option Value}
theorem StN.off_none {L : Addr} {a : Addr} (S : StN G c σ ρ Γ h N FS m) (off : Off G L (N ++ FS) a) : σ a = none := by
  cases e : σ a with
  | none => rfl
  | some o =>
    obtain ⟨y, hy⟩ := (S.re a o e).in
    exact absurd (List.mem_map.mpr ⟨_, List.mem_append_left _ hy, rfl⟩) off.2.2
theorem WE_ListComp2 {elt iter : Expr} {x y : Str} {px py pos tp : Pos} {tk : Nat} {ifs : List Expr} {scope : Scope} {cl : List (Str × Addr)} (F : c.Fn) (h0 : c.h0) (hclos : closureFor scope c.env = pure cl) (hcell : ∀ y ∈ scope.names, y.2 ≠ .cell) (hkind : scope.kind = .function)
    (hnames : ∀ y ∈ scope.names, y.2 = .local → scope.names.lookup y.1 = some .local) (hx : scope.names.lookup x = some .local) (hy : scope.names.lookup y = some .local) (hxy : decide (x = y) = false) (hs : ∀ x, foldedSetIterable iter c.env x = pure x)
    (h : PSrc G c Γ iter ρ σ (.Tuple [.Name x px, .Name y py] tk tp) (fun n f g σ1 => ∃ out, n ≤ 1000000 ∧
      (∀ C τ Γ' hs i, (∀ b o, σ1 b = some o → (∀ l, o ≠ .list l) → τ b = some o) → i < n → ∀ ρ', ρ' x = some (f i) → ρ' y = some (g i) →
        WB G (c.comp2 scope cl C ρ hs) Γ' (testsOf ifs (compEnvC scope cl C c.env)) ρ' τ (fun b τ' => τ' = τ ∧ match out i with
          | none => b = false
          | some r => b = true ∧ ∀ Γ'', WV G (c.comp2 scope cl C ρ hs) Γ'' (eval elt (compEnvC scope cl C c.env)) ρ' τ (fun r' τ' => r' = r ∧ τ' = τ) (fun _ _ => False)) (fun _ _ => False)) ∧
      ∀ a, σ1 a = none → P (.ref a) (σ1.put a (.list ((List.range n).filterMap out)))) X) : WE G c Γ (.ListComp elt [⟨.Tuple [.Name x px, .Name y py] tk tp, iter, ifs, 0⟩] scope pos) ρ σ P X := fun s Q E S q f => by
  rw [eval_ListComp]
  refine comp_core2 (use := none) (PF := fun outs σ1 => ∀ a, σ1 a = none → P (.ref a) (σ1.put a (.list outs))) F h0 hclos hcell hkind hnames hx hy hxy hs h S f fun outs σ1 a C oC h tk hP ha hne hC hd S1 => ?_
  obtain ⟨N, FS, m, S1'⟩ := id S1
  obtain ⟨m1, hn⟩ := ns_of (S1'.nw _ (List.mem_append_left FS (S1'.re C (.obj oC) (Sto.put_same _ _ _)))).1 hd
  refine ⟨m1, hn, fun h' hs' => ?_⟩
  exact q (.ref a) (.ref a) (σ1.put a (.list outs)) h' tk (hP a ha) (let_go hC hd hne S1 hs')
end
end Mine
set_option maxHeartbeats 1000000
namespace Mine
open PySem PySem.W PySem.Calls PyProof.Rows
section
variable {G : Gl} {c : Cx} {Γ : Pairs} {ρ : Loc} {σ : Sto} {P : D → Sto → Prop} {X : XP} {R : FP} {Y : XF} {h h' : Heap} {N FS : Led} {m : Str → Option Value}
noncomputable def enumObj (it : Addr) (i : Int) (old : Value) : Obj := { cls := .type "enumerate", dict := none, data := .fields #[.none, .bool false, .ref it, rawInt i, .none, old], slots := #[] }
/-- the state of an enumerate of a text -/
structure EnSt (e it : Addr) (T : String) (x : Str) (t : Tok) (i : Nat) (τ : Sto) : Prop where
  e : ∃ old, τ e = some (.obj (enumObj it i old))
  it : ∃ o, τ it = some (.obj o) ∧ o.cls = .type T ∧ o.data = .fields #[.str x t, .int i 0]
theorem enum_draws {prog : Program} {w : World} {A : Around} (hh : A.handled = none) (it : Addr) (x : Str) (t : Tok) :
    Draws prog w A it [it] x.cps.size (fun i v => ∃ c u, x.cps[i]? = some c ∧ v = .str ⟨#[c]⟩ u) (fun i h => h.IsStrIter it (strIterType x) x t i) := by
  unfold strIterType
  cases x.cps.all (· < 128)
  · exact Draws.strWide hh it x t
  · exact Draws.strAscii hh it x t
theorem strIter_tup (x : Str) : strIterType x ≠ "tuple" := by unfold strIterType; split <;> decide
theorem enum_pw {e it : Addr} {x : Str} {t : Tok} {l : List Nat} {Γ0 : Pairs} {elts : List Expr} {tk : Nat} {tp : Pos} {σ1 : Sto} {stk : List (Env × Loc)} {A : Around} (hh : A.handled = none) (hx : x.cps.toList = l) (hne : e ≠ it) (ee : σ1 e = none) (ei : σ1 it = none) :
    PW G A Γ0 [] stk (.Tuple elts tk tp) e [e, it] l.length (fun i => .tup [.int i, (l.map fun a => D.str [a]).getD i .none]) (EnSt e it (strIterType x) x t) σ1 where
  frame := fun i τ τ' J k => ⟨J.e.imp fun o h => (k e (by simp)).trans h, J.it.imp fun o h => ⟨(k it (by simp)).trans h.1, h.2⟩⟩
  has := fun i τ J b hb => by
    obtain ⟨o1, h1⟩ := J.e
    obtain ⟨o2, h2, _⟩ := J.it
    simp only [List.mem_cons, List.not_mem_nil, or_false] at hb
    rcases hb with rfl | rfl
    · rw [h1]; simp
    · rw [h2]; simp
  self := fun c' τ ρ Γ s Q E hA J S q => by
    obtain ⟨N, FS, m, S⟩ := S
    obtain ⟨old, h1⟩ := J.e
    exact wpAny_pyIter_enum (S.nw _ (List.mem_append_left FS (S.re _ _ h1))).1 q
  item := fun c' q i τ ρ Γ s A0 B E hA hstk hi J hg' S k => by
    obtain ⟨N, FS, m, S⟩ := S
    obtain ⟨old, a1⟩ := J.e
    obtain ⟨u2, b1, b2, b3⟩ := J.it
    have at' : ∀ {b o}, (b, o) ∈ N → s.heap.get? b = some o := fun hm => (S.nw _ (List.mem_append_left FS hm)).1
    have me := S.re _ _ a1
    have mi := S.re _ _ b1
    have hsz : x.cps.size = l.length := by rw [← hx]; simp
    refine wpAny_mono (wpAny_pyNext_enum_itemD (Q := NextGo G.prog G.w A (.Tuple elts tk tp) (.ref e) E A0 B) (enum_draws (A := A.in1) hh it x t) (at' me) ⟨u2, at' mi, b2, b3⟩ (by omega) hne (by simpa using hne) fun v h' tk' hv j1 j2 j3 j4 j5 => ?_) (fun _ _ h => h) fun _ _ h => h
    refine wpAny_letOwnedTupleGo_enum j1 fun h'' je hs'' => ?_
    obtain ⟨w2, d1, d2, d3⟩ := j2
    obtain ⟨ch, tu, hch, rfl⟩ := hv
    have hlch : l[i]? = some ch := by rw [← hx]; simpa using hch
    have keep : ∀ b o, b ≠ e → b ≠ it → s.heap.get? b = some o → h''.get? b = some o := fun b o k1 k2 y => hs''.extBut b o k1 (j5 b o k1 k2 y)
    have nb : ∀ {b o}, (b, o) ∈ N ++ FS → ∀ a oa, G.h₀.get? a = some oa → a ≠ b := fun hm a oa ha e => by
      have := (S.nw _ hm).2.2
      dsimp only at this
      rw [← e, ha] at this; cases this
    have hg : ∀ b ∈ [e, it], h''.get? b = some (if b = e then enumObj it ((i + 1 : Nat) : Int) (.str ⟨#[ch]⟩ tu) else w2) := fun b hb => by
      simp only [List.mem_cons, List.not_mem_nil, or_false] at hb
      rcases hb with rfl | rfl
      · rw [if_pos rfl]; exact je
      · rw [if_neg hne.symm]; exact hs''.extBut _ _ hne.symm d1
    obtain ⟨N', S1, nk, hsub, -⟩ := S.many (h' := h'') (wr := [e, it]) (g := fun b => if b = e then enumObj it ((i + 1 : Nat) : Int) (.str ⟨#[ch]⟩ tu) else w2) (FS' := FS)
      (fun b hb o ho => by
        simp only [List.mem_cons, List.not_mem_nil, or_false] at hb
        rcases hb with rfl | rfl
        · rw [mem_uniq S.nodup ho me]; unfold enumObj; simp
        · rw [mem_uniq S.nodup ho mi, b2]
          have := strIter_tup x
          simpa using this)
      (fun b hb => by
        simp only [List.mem_cons, List.not_mem_nil, or_false] at hb
        rcases hb with rfl | rfl
        · exact ⟨_, me⟩
        · exact ⟨_, mi⟩)
      hg
      (fun p hp hn => by
        simp only [List.mem_cons, List.not_mem_nil, or_false, not_or] at hn
        exact keep _ _ hn.1 hn.2 (at' (b := p.1) (o := p.2) hp))
      (fun o ho => keep _ _ (S.nw _ (List.mem_append_left _ me)).2.1.symm (S.nw _ (List.mem_append_left _ mi)).2.1.symm ho)
      (fun b o hb => keep _ _ (nb (List.mem_append_left _ me) b o hb) (nb (List.mem_append_left _ mi) b o hb) (S.fr.keep b o hb))
      rfl
      (fun p hp => keep _ _ (frame_ne S me p hp) (frame_ne S mi p hp) (S.nw p (List.mem_append_right _ hp)).1)
      (fun N' hs => S.sk.mono hs)
    have hT : h''.get? s.heap.objs.size = some (tupOf [.int i tk', .str ⟨#[ch]⟩ tu].toArray 0) := hs''.extBut _ _ (Nat.ne_of_gt (Heap.lt_size (at' me))) j3
    have hkeys : (N' ++ FS).map (·.1) = (N ++ FS).map (·.1) := by
      rw [List.map_append, nk, List.map_append]
    have hoff : Off G c'.env.locals (N' ++ FS) s.heap.objs.size := by
      have := S.fresh (a := s.heap.objs.size) (Heap.get?_none_of_le (Nat.le_refl _))
      exact this.eq hkeys
    have S2 := S1.own hT hoff
    have t2 : RelD ((s.heap.objs.size, tupOf [.int i tk', .str ⟨#[ch]⟩ tu].toArray 0) :: N') (.str ⟨#[ch]⟩ tu) ((l.map fun a => D.str [a]).getD i .none) := by
      have : (l.map fun a => D.str [a]).getD i .none = .str [ch] := by simp [hlch]
      rw [this]; exact .str rfl
    refine k (.ref s.heap.objs.size) _ h'' (tk' + 1) ⟨⟨.str ⟨#[ch]⟩ tu, ?_⟩, ⟨w2, ?_, d2, d3⟩⟩ (fun b hb => ?_) (S2.put (.tup (vs := [.int i tk', .str ⟨#[ch]⟩ tu]) (.head _) (.cons (.int _ _) (.cons t2 .nil)))).st
    · simp
    · simp [hne.symm]
    · simp only [List.mem_cons, List.not_mem_nil, or_false, not_or] at hb
      rw [if_neg (by simp [hb.1, hb.2])]
  stop := fun c' q τ ρ Γ s Q E hA hstk J hg' S k => by
    obtain ⟨N, FS, m, S⟩ := S
    obtain ⟨old, a1⟩ := J.e
    obtain ⟨u2, b1, b2, b3⟩ := J.it
    have at' : ∀ {b o}, (b, o) ∈ N → s.heap.get? b = some o := fun hm => (S.nw _ (List.mem_append_left FS hm)).1
    have me := S.re _ _ a1
    have mi := S.re _ _ b1
    have hsz : x.cps.size = l.length := by rw [← hx]; simp
    refine wpAny_pyNext_enum_endD (i := (l.length : Int)) (enum_draws (A := A.in1) hh it x t) (at' me) (by rw [hsz]; exact ⟨u2, at' mi, b2, b3⟩) fun h' hx' => ?_
    have keep : ∀ b o, b ≠ e → b ≠ it → s.heap.get? b = some o → h'.get? b = some o := fun b o k1 k2 y => hx' b o k2 y
    have nb : ∀ {b o}, (b, o) ∈ N ++ FS → ∀ a oa, G.h₀.get? a = some oa → a ≠ b := fun hm a oa ha e => by
      have := (S.nw _ hm).2.2
      dsimp only at this
      rw [← e, ha] at this; cases this
    obtain ⟨N', S1, hsub, hin⟩ := S.drop (c' := ⟨c'.A, c'.env, q :: stk⟩) (h' := h') (wr := [e, it]) (FS' := FS) rfl
      (fun b hb o ho => by
        simp only [List.mem_cons, List.not_mem_nil, or_false] at hb
        rcases hb with rfl | rfl
        · rw [mem_uniq S.nodup ho me]; unfold enumObj; simp
        · rw [mem_uniq S.nodup ho mi, b2]
          have := strIter_tup x
          simpa using this)
      (fun p hp hn => by
        simp only [List.mem_cons, List.not_mem_nil, or_false, not_or] at hn
        exact keep _ _ hn.1 hn.2 (at' (b := p.1) (o := p.2) hp))
      (fun o ho => keep _ _ (S.nw _ (List.mem_append_left _ me)).2.1.symm (S.nw _ (List.mem_append_left _ mi)).2.1.symm ho)
      (fun b o hb => keep _ _ (nb (List.mem_append_left _ me) b o hb) (nb (List.mem_append_left _ mi) b o hb) (S.fr.keep b o hb))
      (List.Sublist.refl _)
      (fun p hp => keep _ _ (frame_ne S me p hp) (frame_ne S mi p hp) (S.nw p (List.mem_append_right _ hp)).1)
      (fun N' hs => by
        have sk := S.sk
        rw [hstk] at sk
        exact sk.mono hs)
    refine k _ h' s.toks (fun b hb => ?_) (fun b hb o ho => ?_) S1.st
    · simp only [List.mem_cons, List.not_mem_nil, or_false, not_or] at hb
      rw [if_neg (by simp [hb.1, hb.2])]
    · simp only [List.mem_cons, List.not_mem_nil, or_false] at hb
      rcases hb with rfl | rfl
      · rw [ee] at ho; cases ho
      · rw [ei] at ho; cases ho
theorem enum_src {PP : Nat → (Nat → D) → (Nat → D) → Sto → Prop} {a1 : Expr} {np pos tp : Pos} {elts : List Expr} {tk : Nat} (h0 : c.h0) (hk : c.env.scope.kind = .function) (hl : c.env.kindOf "enumerate" = some .globalImplicit) (hg : c.env.globals = mainGlobals) (hb : c.env.builtins = builtinsNs)
    (en : nsIn G.K mainGlobals "enumerate" = some none)
    (hc : eval (.Call (.Name "enumerate" np) [a1] [] pos) c.env = (do callWith pos (← eval (.Name "enumerate" np) c.env) [] (backTo pos (starEach [a1] c.env)) (backToKw pos (keywordEach [] c.env))))
    (he : starEach [a1] c.env = (false, eval a1 c.env) :: starEach [] c.env) (hplain : (backTo pos (starEach [] c.env)).any (·.1) = false)
    (h : ∀ v, WL G c ((v, .con (.type "enumerate")) :: Γ) (spliced (backTo pos (starEach [a1] c.env))) ρ σ (fun ds σ1 => ∃ l, ds = [.str l] ∧ PP l.length (fun i => .int i) (fun i => (l.map fun a => D.str [a]).getD i .none) σ1) X) : PSrc G c Γ (.Call (.Name "enumerate" np) [a1] [] pos) ρ σ (.Tuple elts tk tp) PP X := fun s Q E S f q => by
  refine bcall_raw callee_type hk hl hg hb (by decide) en boot_enumerate (by decide) (by decide) hc he hplain h S f fun vs ds σ1 Γ' h1 t p hlv hz hgg S1 => ?_
  obtain ⟨l, rfl, hP⟩ := p
  obtain ⟨v1, rfl⟩ := len1 hlv
  obtain ⟨x, tx, rfl, hx⟩ := S1.isStr (hz (v1, .str l) (.head _))
  obtain ⟨N, FS, m, S1⟩ := S1
  refine call_enumerate_str fun h' he' hi' hsz hkp => ?_
  have S4 : StN G c _ ρ _ h' N FS m := S1.off fun b o _ e => hkp b o e
  have O : ∀ j, Off G c.env.locals (N ++ FS) (h1.objs.size + j) := fun j => S1.fresh (Heap.get?_none_of_le (Nat.le_add_right _ _))
  have hne : h1.objs.size + 1 ≠ h1.objs.size := fun e => absurd (e : h1.objs.size + 1 = h1.objs.size) (by omega)
  obtain ⟨w1, c1, c2, c3⟩ := hi'
  have S5 := S4.own c1 (O 0)
  have S6 := S5.own he' ((O 1).onN hne)
  have S7 := (S6.putO (a := h1.objs.size + 1) (o := .obj (enumObj h1.objs.size 0 .none)) (.head _)).putO (a := h1.objs.size) (o := .obj w1) (.tail _ (.head _))
  have z0 : σ1 h1.objs.size = none := S1.off_none (O 0)
  have z1 : σ1 (h1.objs.size + 1) = none := S1.off_none (O 1)
  refine q (h1.objs.size + 1) _ [] _ _ _ _ σ1 _ _ h' t hP (enum_pw (e := h1.objs.size + 1) (it := h1.objs.size) (t := tx) h0 hx hne z1 z0)
    ⟨⟨.none, ?_⟩, ⟨w1, Sto.put_same _ _ _, c2, c3⟩⟩ (fun b hb => ?_) (fun b hb o ho => ?_) hgg S7.st
  · rw [Sto.put_ne _ _ hne]; exact Sto.put_same _ _ _
  · simp only [List.mem_cons, List.not_mem_nil, or_false, not_or] at hb
    rw [Sto.put_ne _ _ hb.2, Sto.put_ne _ _ hb.1]
  · simp only [List.mem_cons, List.not_mem_nil, or_false] at hb
    rcases hb with rfl | rfl
    · rw [z1] at ho; cases ho
    · rw [z0] at ho; cases ho
end
end Mine
set_option maxHeartbeats 1000000
namespace Mine
open PySem PySem.W PySem.Calls PyProof.Rows
section
variable {G : Gl} {c : Cx} {Γ : Pairs} {ρ : Loc} {σ : Sto} {P : D → Sto → Prop} {X : XP} {R : FP} {Y : XF} {h : Heap} {N FS : Led} {m : Str → Option Value}
theorem ord' {a : Nat} (h : P (.int a) σ) : Wn G c (fun vs => call (.builtin "ord") vs) [.str [a]] ρ σ P X := wn1 fun Γ v hv s Q E S q _ => by
  obtain ⟨x, t, rfl, e⟩ := S.isStr hv
  have hx : x = ⟨#[a]⟩ := str_eq e
  subst hx
  exact PySem.P.ord_of_char (q _ _ σ s.heap _ h (S.put_plain fun _ => .int _ _))
theorem intsAre_of {N : Led} : ∀ {vs : List Value} {ns : List Int}, RelAll N vs (ns.map D.int) → IntsAre vs ns
  | _, [], .nil => .nil
  | _, n :: ns, .cons a r => by cases a; exact .cons _ _ (intsAre_of r)
theorem bytes' {a : Addr} {l : List Nat} (h0 : c.h0) (ha : σ a = some (.list (l.map fun n : Nat => D.int n))) (hl : l.length ≤ 1000000) (hb : ∀ n ∈ l, n < 256) (h : P (.bytes l) σ) : Wn G c (fun vs => call (.type "bytes") vs) [.ref a] ρ σ P X := wn1 fun Γ v hv s Q E S q _ => by
  obtain rfl := S.isRef hv
  obtain ⟨N, FS, m, S⟩ := S
  obtain ⟨vs, n, h1, h2⟩ := S.re a _ ha
  have h2' : RelAll N vs ((l.map fun n : Nat => (n : Int)).map D.int) := by rw [List.map_map]; exact h2
  refine bytes_K S.fr S.nw ⟨_, (S.nw _ (List.mem_append_left FS h1)).1, rfl, n, rfl⟩ (intsAre_of h2') (fun n hn => ?_) (by rw [h2.length, List.length_map, sizeLine_eq]; omega) h0 fun h' t k F' N' _ => ?_
  · obtain ⟨k, hk, rfl⟩ := List.mem_map.mp hn
    have := hb k hk
    omega
  · refine q _ _ σ h' k h ((S.move F' N').put (.bytes ?_)).st
    simp only [List.map_map]
    refine (List.map_congr_left fun k hk => ?_).trans (List.map_id l)
    have := hb k hk
    show ((k : Int).toNat.toUInt8).toNat = k
    simp
    omega
theorem strsAre_of {N : Led} : ∀ {vs : List Value} {ls : List (List Nat)}, RelAll N vs (ls.map D.str) → StrsAre vs (ls.map fun l => (⟨l.toArray⟩ : Str))
  | _, [], .nil => .nil
  | _, l :: ls, .cons a r => by
    obtain ⟨x, t, rfl, e⟩ := a.isStr
    rw [str_eq e]
    exact .cons _ _ (strsAre_of r)
theorem join_flat (ls : List (List Nat)) : (Txt.join ⟨#[]⟩ (ls.map fun l => (⟨l.toArray⟩ : Str))).cps.toList = ls.flatten := by
  have key : ∀ (ls : List (List Nat)) (a : Array Nat), ((ls.map fun l => (⟨l.toArray⟩ : Str)).foldl (fun acc p => acc ++ (⟨#[]⟩ : Str).cps ++ p.cps) a).toList = a.toList ++ ls.flatten := by
    intro ls
    induction ls with
    | nil => intro a; simp
    | cons l ls ih => intro a; rw [List.map_cons, List.foldl_cons, ih]; simp
  cases ls with
  | nil => rfl
  | cons l ls =>
    show ((ls.map fun l => (⟨l.toArray⟩ : Str)).foldl (fun acc p => acc ++ (⟨#[]⟩ : Str).cps ++ p.cps) l.toArray).toList = _
    rw [key]; simp
theorem join' {a : Addr} {sep : List Nat} {ls : List (List Nat)} (ha : σ a = some (.list (ls.map D.str))) (hs : sep = []) (hl : (ls.map List.length).sum + ls.length * 64 ≤ 16777216) (h : P (.str ls.flatten) σ) : Wn G c (fun vs => call (.builtin "str.join") vs) [.str sep, .ref a] ρ σ P X := wn2 fun Γ v w hv hw s Q E S q _ => by
  obtain ⟨x, t, rfl, e⟩ := S.isStr hv
  obtain rfl := S.isRef hw
  have S0 := S
  obtain ⟨N, FS, m, S⟩ := S
  obtain ⟨vs, n, h1, h2⟩ := S.re a _ ha
  subst hs
  have hx : x = ⟨#[]⟩ := str_eq e
  subst hx
  refine join_listC (ys := ls.map fun l => (⟨l.toArray⟩ : Str)) ⟨_, (S.nw _ (List.mem_append_left FS h1)).1, rfl, n, rfl⟩ (strsAre_of h2) (by decide) ?_ fun t' k => ?_
  · have : (List.map (fun x => x.length) (List.map (fun l => (⟨l.toArray⟩ : Str)) ls)) = ls.map List.length := by
      rw [List.map_map]; exact List.map_congr_left fun l _ => by simp [Str.length]
    rw [this, List.length_map]; exact hl
  · refine q _ _ σ s.heap k h (S0.put_plain fun _ => .str (join_flat ls))
theorem addL' {a b : Addr} {ds es : List D} (ha : σ a = some (.list ds)) (hb : σ b = some (.list es)) (hz : ds.length + es.length ≤ 1000000) (h : ∀ r, σ r = none → P (.ref r) (σ.put r (.list (ds ++ es)))) : W2 G c (binaryOp .Add) (.ref a) (.ref b) ρ σ P X := fun Γ v w hv hw s Q E S q _ => by
  obtain rfl := S.isRef hv
  obtain rfl := S.isRef hw
  obtain ⟨N, FS, m, S⟩ := S
  obtain ⟨vs, n, h1, h2⟩ := S.re a _ ha
  obtain ⟨ws, n', k1, k2⟩ := S.re b _ hb
  refine add_arrays (hsz := by simp [h2.length, k2.length, sizeLine_eq]; omega) S.fr S.nw ⟨_, (S.nw _ (List.mem_append_left FS h1)).1, rfl, n, rfl⟩ ⟨_, (S.nw _ (List.mem_append_left FS k1)).1, rfl, n', rfl⟩ fun h' F' N' => ?_
  obtain ⟨S1, hn⟩ := S.alloc F' N' S.lt
  exact q (.ref s.heap.objs.size) _ _ h' _ (h _ hn) ((S1.putO (o := .list (ds ++ es)) ⟨vs ++ ws, 0, .head _, (h2.append k2).mono (Sub.cons _ _)⟩).put (.ref _)).st
theorem sub_list {x : Str} {l : List Nat} (e : x.cps.toList = l) (i j : Nat) : (Builtin.Str.strSub x i j).cps.toList = (l.take j).drop i := by
  subst e
  show (x.cps.extract i j).toList = _
  simp [List.extract_eq_take_drop, List.drop_take]
end
end Mine
set_option maxHeartbeats 1000000
namespace Mine
open PySem PySem.W PySem.Calls PyProof.Rows
noncomputable def cutLo (v : Option Int) (n : Nat) : Nat := match v with
  | none => 0
  | some x => if x < 0 then n - (-x).toNat else min x.toNat n
noncomputable def cutHi (v : Option Int) (n : Nat) : Nat := match v with
  | none => n
  | some y => if y < 0 then n - (-y).toNat else min y.toNat n
/-- x[lo:hi] -/
noncomputable def cut {α : Type} (lo hi : Option Int) (l : List α) : List α := (l.drop (cutLo lo l.length)).take (cutHi hi l.length - cutLo lo l.length)
section
variable {G : Gl} {c : Cx} {Γ : Pairs} {ρ : Loc} {σ : Sto} {P : D → Sto → Prop} {X : XP} {R : FP} {Y : XF} {h : Heap} {N FS : Led} {m : Str → Option Value}
/-- an end of a slice -/
noncomputable def WPt (G : Gl) (c : Cx) (Γ : Pairs) (e : Option Expr) (ρ : Loc) (σ : Sto) (P : Option Int → Sto → Prop) (X : XP) : Prop := match e with
  | none => P none σ
  | some e => WE G c Γ e ρ σ (fun d σ' => ∃ i, d = .int i ∧ P (some i) σ') X
theorem WPt.run {e : Option Expr} {P : Option Int → Sto → Prop} (w : WPt G c Γ e ρ σ P X) {s : Shared} {Q E : Value → Shared → Prop} (S : St G c σ ρ Γ s.heap)
    (q : ∀ v oi σ' h tk, IsPart v oi → P oi σ' → St G c σ' ρ Γ h → Q v { s with heap := h, toks := tk }) (f : Fail G c Γ s (fun x ρ' σ' => ρ' = ρ ∧ X x σ') E) : wpAny G.M c.A (evalPart e c.env) Q E s := by
  cases e with
  | none => rw [evalPart_none]; exact wpAny_pure (q _ _ σ s.heap s.toks .none w S)
  | some e =>
    rw [evalPart_some]
    refine w s Q E S (fun v d σ' h tk p S' => ?_) f
    obtain ⟨i, rfl, p⟩ := p
    obtain ⟨t, rfl⟩ := S'.isInt (.head _)
    exact q _ _ σ' h tk (.int i t) p S'.tail
theorem WE_cut {value : Expr} {lo hi : Option Expr} {sp pos : Pos} (h : WE G c Γ value ρ σ (fun d σ1 => ∀ v, WPt G c ((v, d) :: Γ) lo ρ σ1 (fun oi σ2 => WPt G c ((v, d) :: Γ) hi ρ σ2 (fun oj σ3 =>
      ∀ (Γ' : Pairs) (v vl vu : Value) (s : Shared) (Q E : Value → Shared → Prop), IsPart vl oi → IsPart vu oj → (v, d) ∈ Γ' → St G c σ3 ρ Γ' s.heap → (∀ u k σ' h tk, P k σ' → St G c σ' ρ ((u, k) :: Γ') h → Q u { s with heap := h, toks := tk }) →
        wpAny G.M c.A (subscriptTail value (.Slice lo hi none sp) v (.ref s.heap.objs.size)) Q E { s with heap := s.heap.push { cls := .type "slice", data := .fields #[vl, vu, .none] } }) X) X) X) : WE G c Γ (.Subscript value (.Slice lo hi none sp) pos) ρ σ P X := fun s Q E S q f => by
  refine Subscript_ (h.seq S f fun v d σ1 h1 t1 p1 S1 f1 => ?_)
  refine wpAny_Slice ((p1 v).run (s := { s with heap := h1, toks := t1 }) S1 (fun vl oi σ2 h2 t2 i2 p2 S2 => ?_) f1)
  refine p2.run (s := { s with heap := h2, toks := t2 }) S2 (fun vu oj σ3 h3 t3 i3 p3 S3 => ?_) (f1.at h2 t2 fun _ hp => hp)
  rw [evalPart_none]
  refine wpAny_pure ?_
  exact p3 _ v vl vu { s with heap := h3, toks := t3 } Q E i2 i3 (.head _) S3 fun u k σ4 h4 t4 p4 S4 => q u k σ4 h4 t4 p4 (S4.weaken (keep_res (L := [(v, d)])))
theorem pick_range {α : Type} (l : List α) (a : Nat) : ∀ k, (List.range k).filterMap (fun j => l[a + j]?) = (l.drop a).take k
  | 0 => by simp
  | k + 1 => by
    rw [List.range_succ, List.filterMap_append, pick_range l a k, List.take_add_one]
    congr 1
    rw [List.getElem?_drop]
    cases q : l[a + k]? <;> simp [q]
theorem cutHi_le (v : Option Int) (n : Nat) : cutHi v n ≤ n := by
  unfold cutHi
  cases v with
  | none => exact Nat.le_refl _
  | some y => dsimp only; split <;> omega
theorem clipN (x : Int) (n : Nat) (h : x < 0) : max 0 (min (x + (n : Int)) n) = ((n - (-x).toNat : Nat) : Int) := by omega
theorem clipP (x : Int) (n : Nat) (h : ¬ x < 0) : max 0 (min x (n : Int)) = ((min x.toNat n : Nat) : Int) := by omega
theorem idx_eq (lo hi : Option Int) (n : Nat) : Builtin.Str.strSliceIndices lo hi 1 n = (List.range (cutHi hi n - cutLo lo n)).map fun k => cutLo lo n + k := by
  have h1 : (1 : Int) > 0 := by decide
  have e1 : (match lo with | none => (0 : Int) | some i => max 0 (min (if i < 0 then i + (n : Int) else i) n)) = (cutLo lo n : Int) := by
    cases lo with
    | none => rfl
    | some x =>
      unfold cutLo
      by_cases q : x < 0
      · simp only [q, if_true]; exact clipN x n q
      · simp only [q, if_false]; exact clipP x n q
  have e2 : (match hi with | none => (n : Int) | some i => max 0 (min (if i < 0 then i + (n : Int) else i) n)) = (cutHi hi n : Int) := by
    cases hi with
    | none => rfl
    | some x =>
      unfold cutHi
      by_cases q : x < 0
      · simp only [q, if_true]; exact clipN x n q
      · simp only [q, if_false]; exact clipP x n q
  have key : ∀ a b : Nat, sliceRange (a : Int) (b : Int) 1 = (List.range (b - a)).map fun k => a + k := fun a b => by
    unfold sliceRange
    simp only [h1, if_true]
    have hc : (if (a : Int) < b then ((b : Int) - a + 1 - 1) / 1 else 0).toNat = b - a := by
      split <;> simp <;> omega
    rw [hc]
    exact List.map_congr_left fun k _ => by omega
  rw [← key, ← e1, ← e2]
  unfold Builtin.Str.strSliceIndices
  simp only [h1, if_true]
  cases lo <;> cases hi <;> rfl
theorem slice_list {x : Str} {l : List Nat} (e : x.cps.toList = l) (lo hi : Option Int) : (Txt.slice x lo hi).cps.toList = cut lo hi l := by
  have hx := str_len e
  have hp : (((Builtin.Str.strSliceIndices lo hi 1 x.length).filterMap (x.cps[·]?)).toArray).toList = cut lo hi l := by
    rw [hx, idx_eq, List.filterMap_map]
    unfold cut
    rw [← pick_range]
    show List.filterMap _ _ = _
    congr 1
    funext j
    rw [← e]; simp
  unfold Txt.slice
  split
  · rename_i q
    simp only [beq_self_eq_true, Bool.true_and, beq_iff_eq] at q
    rw [idx_eq, hx, List.length_map, List.length_range] at q
    have h1 := cutHi_le hi l.length
    unfold cut
    rw [q, e]
    by_cases z : l.length = 0
    · have : l = [] := List.eq_nil_of_length_eq_zero z
      simp [this]
    · have : cutLo lo l.length = 0 := by omega
      rw [this, List.drop_zero, List.take_length]
  · exact hp
/-- a text cut -/
theorem cut_str {value : Expr} {lo hi : Option Expr} {sp : Pos} {oi oj : Option Int} {l : List Nat} {σ3 : Sto} (hl : l.length ≤ 1000000) (hs : ∀ x t a, subscripted (.Slice lo hi none sp) false (.str x t) (.ref a) = operate [.ref a, .str x t] (getItem (.str x t) (.ref a)))
    (ht : ∀ x t r, letTemporaryGo value (.str x t) r = pure ()) (h : P (.str (cut oi oj l)) σ3) :
    ∀ (Γ' : Pairs) (v vl vu : Value) (s : Shared) (Q E : Value → Shared → Prop), IsPart vl oi → IsPart vu oj → (v, .str l) ∈ Γ' → St G c σ3 ρ Γ' s.heap → (∀ u k σ' h tk, P k σ' → St G c σ' ρ ((u, k) :: Γ') h → Q u { s with heap := h, toks := tk }) →
        wpAny G.M c.A (subscriptTail value (.Slice lo hi none sp) v (.ref s.heap.objs.size)) Q E { s with heap := s.heap.push { cls := .type "slice", data := .fields #[vl, vu, .none] } } := fun Γ' v vl vu s Q E i1 i2 hv S q => by
  obtain ⟨x, t, rfl, e⟩ := S.isStr hv
  obtain ⟨N, FS, m, S⟩ := S
  have hz : x.length ≤ sizeLine := by rw [str_len e, sizeLine_eq]; omega
  have k : ∀ lo' hi', oi = lo' → oj = hi' → ∀ h' t' tk, Fr G.h₀ c.env.locals h' m → News G.h₀ c.env.locals h' (N ++ FS) → Q (.str (Txt.slice x lo' hi') t') { s with heap := h', toks := tk } := fun lo' hi' e1 e2 h' t' tk F' N' => by
    subst e1 e2
    exact q _ _ σ3 h' tk h ((S.move F' N').put (.str (slice_list e oi oj))).st
  cases i1 with
  | none => cases i2 with
    | none => exact slice_strN_nn S.fr S.nw (fun h' t' tk F' N' => k _ _ rfl rfl h' t' tk F' N') (hs _ _ _) (ht _ _) hz
    | int j u => exact slice_strN_ns S.fr S.nw (fun h' t' tk F' N' => k _ _ rfl rfl h' t' tk F' N') (hs _ _ _) (ht _ _) hz
  | int i u => cases i2 with
    | none => exact slice_strN_sn S.fr S.nw (fun h' t' tk F' N' => k _ _ rfl rfl h' t' tk F' N') (hs _ _ _) (ht _ _) hz
    | int j u' => exact slice_strN_ss S.fr S.nw (fun h' t' tk F' N' => k _ _ rfl rfl h' t' tk F' N') (hs _ _ _) (ht _ _) hz
theorem cut_eq (lo hi : Option Int) (l : List Value) : kms_pick l lo hi = cut lo hi l := rfl
theorem RelAll.cut {N : Led} {vs : List Value} {ds : List D} (h : RelAll N vs ds) (lo hi : Option Int) : RelAll N (cut lo hi vs) (cut lo hi ds) := by
  unfold Mine.cut
  rw [h.length]
  exact (h.drop _).take _
/-- a list cut -/
theorem cut_lst {value : Expr} {lo hi : Option Expr} {sp : Pos} {oi oj : Option Int} {a : Addr} {ds : List D} {σ3 : Sto} (ha : σ3 a = some (.list ds)) (hl : ds.length ≤ 1000000) (hs : ∀ b a, subscripted (.Slice lo hi none sp) false (.ref b) (.ref a) = operate [.ref a, .ref b] (getItem (.ref b) (.ref a)))
    (ht : ∀ b r, letTemporaryGo value (.ref b) r = pure ()) (h : ∀ r, σ3 r = none → P (.ref r) (σ3.put r (.list (cut oi oj ds)))) :
    ∀ (Γ' : Pairs) (v vl vu : Value) (s : Shared) (Q E : Value → Shared → Prop), IsPart vl oi → IsPart vu oj → (v, .ref a) ∈ Γ' → St G c σ3 ρ Γ' s.heap → (∀ u k σ' h tk, P k σ' → St G c σ' ρ ((u, k) :: Γ') h → Q u { s with heap := h, toks := tk }) →
        wpAny G.M c.A (subscriptTail value (.Slice lo hi none sp) v (.ref s.heap.objs.size)) Q E { s with heap := s.heap.push { cls := .type "slice", data := .fields #[vl, vu, .none] } } := fun Γ' v vl vu s Q E i1 i2 hv S q => by
  obtain rfl := S.isRef hv
  obtain ⟨N, FS, m, S⟩ := S
  obtain ⟨vs, n, h1, h2⟩ := S.re a _ ha
  refine kms_slice_lit S.fr S.nw ⟨_, (S.nw _ (List.mem_append_left FS h1)).1, rfl, n, rfl⟩ i1 i2 (cut_eq oi oj vs) (fun D h' F' N' hlt => ?_) (hs _ _) (ht _) (by simp [h2.length, sizeLine_eq]; omega)
  obtain ⟨S1, hn⟩ := S.alloc F' N' hlt
  exact q (.ref D) _ _ h' _ (h _ hn) ((S1.putO (o := .list (cut oi oj ds)) ⟨_, 0, .head _, (h2.cut oi oj).mono (Sub.cons _ _)⟩).put (.ref _)).st
end
end Mine
set_option maxHeartbeats 1000000
namespace Mine
open PySem PySem.W PySem.Calls PyProof.Rows
section
variable {G : Gl} {c : Cx} {Γ : Pairs} {ρ : Loc} {σ : Sto} {P : D → Sto → Prop} {X : XP} {R : FP} {Y : XF} {h : Heap} {N FS : Led} {m : Str → Option Value}
theorem rel_ints {N : Led} : ∀ {vs : List Value} {ns : List Int}, IntsAre vs ns → RelAll N vs (ns.map D.int)
  | _, _, .nil => .nil
  | _, _, .cons n t r => .cons (.int _ _) (rel_ints r)
/-- the method of a list -/
theorem gm_list {a : Addr} {ds : List D} {name : Str} {id : String} (ha : σ a = some (.list ds)) (slot : Slot "list" name id) (ty : typeOf (.builtin id) = pure (.type "method_descriptor")) : GM G c name (.ref a) σ (.builtin id) := fun ρ Γ v pl s Q E hv S q => by
  obtain rfl := S.isRef hv
  obtain ⟨N, FS, m, S⟩ := S
  obtain ⟨vs, n, h1, h2⟩ := S.re a _ ha
  exact kf_method S.nw (List.mem_append_left _ h1) slot ty q
theorem appendW {a : Addr} {ds : List D} {d : D} (ha : σ a = some (.list ds)) (hz : ds.length ≤ 1000000) (h : P .none (σ.put a (.list (ds ++ [d])))) : Wn G c (fun vs => call (.builtin "list.append") vs) [.ref a, d] ρ σ P X := wn2 fun Γ v w hv hw s Q E S q f => by
  obtain rfl := S.isRef hv
  exact append' ha hz hw h s Q E S q f
/-- a name that is a cell -/
theorem WU_cell {x : Str} {p' : Pos} {v : Value} {d : D} {a : Addr} {od : Option D} {P : Loc → Sto → Prop} (hv : (v, d) ∈ Γ) (hk : c.env.scope.kind = .function) (hl : c.env.kindOf x = some .cell) (hc : c.env.cells.lookup x = some a) (ha : σ a = some (.cell od)) (h : P ρ (σ.put a (.cell (some d)))) :
    WU G c Γ (storeName c.env x v) ρ σ P Y := fun s Q E S q _ => by
  obtain ⟨N, FS, m, S⟩ := S
  obtain ⟨o, ov, h1, h3, h2⟩ := S.re a _ ha
  have hg := (S.nw _ (List.mem_append_left FS h1)).1
  dsimp only at hg
  unfold storeName
  simp only [hl, hk]
  refine wpAny_bind (wpAny_cellOf hc ?_)
  unfold cellSet
  refine wpAny_bind (wpAny_load hg ?_)
  rw [h3]
  refine wpAny_update hg ?_
  obtain ⟨N', k1, k2, k3, k4⟩ := S.setObj (o' := { o with data := .cell (some v) }) (h' := s.heap.update a fun o => { o with data := .cell (some v) }) h1 (fun vs n e => by rw [e] at h3; cases h3) (Heap.get?_update_self _ hg rfl) (fun b x hb e => (Heap.get?_update_ne _ _ _ _ hb).trans e)
  exact q ρ _ _ s.toks h (k4 (.cell (some d)) ⟨_, some v, k1, rfl, .some ((S.ga (v, d) hv).mono k2)⟩).st
theorem Wx_AssignCell {x : Str} {p' pos : Pos} {value : Expr} {X : XP} {a : Addr} (hk : c.env.scope.kind = .function) (hl : c.env.kindOf x = some .cell) (hc : c.env.cells.lookup x = some a) (hs : swapsWith value (some (.Name x p')) pos.line c.env = pure false)
    (h : WE G c Γ value ρ σ (fun d σ' => ∃ od, σ' a = some (.cell od) ∧ R .next ρ (σ'.put a (.cell (some d)))) X) (hX : ∀ x σ, X x σ → Y x ρ σ) : Wx G c Γ (.Assign [.Name x p'] value pos) ρ σ R Y :=
  fun s Q E S q f => wpAny_Assign_Name (hs := hs) (h s _ E S (fun v d σ1 h1 t1 p1 S1 => by
    obtain ⟨od, e, p1⟩ := p1
    exact WU_cell (p' := p') (P := fun ρ' σ' => R .next ρ' σ') (Y := fun _ _ _ => False) (.head _) hk hl hc e p1 { s with heap := h1, toks := t1 } _ E S1 (fun ρ' σ' h2 t2 p2 S2 => q _ _ _ _ _ _ _ .next p2 S2.tail) .none)
    (f.up fun x ρ' σ' hx => hx.1 ▸ hX _ _ hx.2))
end
end Mine
set_option maxHeartbeats 1000000
namespace Mine
open PySem PySem.W PySem.Calls PyProof.Rows
section
variable {G : Gl} {c : Cx} {Γ : Pairs} {ρ : Loc} {σ : Sto} {P : D → Sto → Prop} {X : XP} {R : FP} {Y : XF}
theorem Wx_AssignPair {x y : Str} {p1 p2 tpos pos : Pos} {k : Nat} {value : Expr} (h0 : c.h0) (hk : c.env.scope.kind = .function) (hx : c.env.kindOf x = some .local) (hy : c.env.kindOf y = some .local)
    (hs : swapsWithSole [.Tuple [.Name x p1, .Name y p2] k tpos] value pos.line c.env = pure false) (hw : swappedStores [.Tuple [.Name x p1, .Name y p2] k tpos] value c.env = pure none)
    (h : WE G c Γ value ρ σ (fun d σ' => ∃ a b, d = .tup [a, b] ∧ R .next ((ρ.put x a).put y b) σ') X) (hX : ∀ x σ, X x σ → Y x ρ σ) : Wx G c Γ (.Assign [.Tuple [.Name x p1, .Name y p2] k tpos] value pos) ρ σ R Y :=
  fun s Q E S q f => Assign_Tuple (hs := hs) (hw := hw) (h s _ E S (fun v d σ1 h1 t1 p1' S1 => by
    obtain ⟨a, b, rfl, p⟩ := p1'
    exact WU_pair (pos := tpos) (k := k) (p1 := p1) (p2 := p2) (P := fun ρ' σ' => R .next ρ' σ') (Y := fun _ _ _ => False) h0 (.head _) hk hx hy p { s with heap := h1, toks := t1 } _ E S1 (fun ρ' σ' h2 t2 p2 S2 => q _ _ _ _ _ _ _ .next p2 S2.tail) .none)
    (f.up fun x ρ' σ' hx => hx.1 ▸ hX _ _ hx.2))
end
end Mine
set_option maxHeartbeats 1000000
namespace Mine
open PySem PySem.W PySem.Calls PyProof.Rows
section
variable {G : Gl} {c : Cx} {Γ : Pairs} {ρ : Loc} {σ : Sto} {P : D → Sto → Prop} {X : XP} {R : FP} {Y : XF}
/-- the law's own list: it stood before the call -/
noncomputable def SL (G : Gl) (a : Addr) (ns : List Int) : Prop := ∃ vs, G.h₀.IsList a vs ∧ IntsAre vs.toList ns
theorem SL.now {a : Addr} {ns : List Int} {h : Heap} {N FS : Led} {m : Str → Option Value} (hL : SL G a ns) (S : StN G c σ ρ Γ h N FS m) : ∃ vs, h.IsList a vs ∧ IntsAre vs.toList ns := by
  obtain ⟨vs, ⟨o, h1, h2⟩, h3⟩ := hL
  exact ⟨vs, ⟨o, S.fr.keep _ _ h1, h2⟩, h3⟩
theorem sumB {a : Addr} {ns : List Int} (h0 : c.h0) (ha : SL G a ns) (h : P (.int ns.sum) σ) : Wn G c (fun vs => call (.builtin "sum") vs) [.ref a] ρ σ P X := wn1 fun Γ v hv s Q E S q _ => by
  obtain rfl := S.isRef hv
  obtain ⟨N, FS, m, S⟩ := S
  obtain ⟨vs, h1, h2⟩ := ha.now S
  refine sumK (vs := vs.toList) h0 S.fr S.nw (by simpa using h1) h2 fun h' tk t' F' N' => ?_
  exact q _ _ σ h' tk h ((S.move F' N').put (.int _ _)).st
theorem lenB {a : Addr} {ns : List Int} (ha : SL G a ns) (hl : ns.length ≤ 1000000) (h : P (.int ns.length) σ) : Wn G c (fun vs => call (.builtin "len") vs) [.ref a] ρ σ P X := wn1 fun Γ v hv s Q E S q _ => by
  obtain rfl := S.isRef hv
  have S0 := S
  obtain ⟨N, FS, m, S⟩ := S
  obtain ⟨vs, h1, h2⟩ := ha.now S
  have hn : vs.size = ns.length := by have := h2.length; simpa using this
  refine len_list h1 (by omega) ?_
  rw [hn]
  exact q _ _ σ s.heap _ h (S0.put_plain fun _ => .int _ _)
theorem cutB {value : Expr} {lo hi : Option Expr} {sp : Pos} {oi oj : Option Int} {a : Addr} {ns : List Int} {σ3 : Sto} (ha : SL G a ns) (hl : ns.length ≤ 1000000) (hs : ∀ b a, subscripted (.Slice lo hi none sp) false (.ref b) (.ref a) = operate [.ref a, .ref b] (getItem (.ref b) (.ref a)))
    (ht : ∀ b r, letTemporaryGo value (.ref b) r = pure ()) (h : ∀ r, σ3 r = none → P (.ref r) (σ3.put r (.list ((cut oi oj ns).map D.int)))) :
    ∀ (Γ' : Pairs) (v vl vu : Value) (s : Shared) (Q E : Value → Shared → Prop), IsPart vl oi → IsPart vu oj → (v, .ref a) ∈ Γ' → St G c σ3 ρ Γ' s.heap → (∀ u k σ' h tk, P k σ' → St G c σ' ρ ((u, k) :: Γ') h → Q u { s with heap := h, toks := tk }) →
        wpAny G.M c.A (subscriptTail value (.Slice lo hi none sp) v (.ref s.heap.objs.size)) Q E { s with heap := s.heap.push { cls := .type "slice", data := .fields #[vl, vu, .none] } } := fun Γ' v vl vu s Q E i1 i2 hv S q => by
  obtain rfl := S.isRef hv
  obtain ⟨N, FS, m, S⟩ := S
  obtain ⟨vs, h1, h2⟩ := ha.now S
  have r : RelAll N vs.toList (ns.map D.int) := rel_ints h2
  refine kms_slice_lit S.fr S.nw (by simpa using h1) i1 i2 (cut_eq oi oj vs.toList) (fun D h' F' N' hlt => ?_) (hs _ _) (ht _) (by have := h2.length; simp only [Array.length_toList] at this; rw [this, sizeLine_eq]; omega)
  obtain ⟨S1, hn⟩ := S.alloc F' N' hlt
  have e : (cut oi oj ns).map Mine.D.int = cut oi oj (ns.map Mine.D.int) := by unfold cut; simp [List.map_drop, List.map_take]
  exact q (.ref D) _ _ h' _ (h _ hn) ((S1.putO (o := .list ((cut oi oj ns).map Mine.D.int)) ⟨_, 0, .head _, (by rw [e]; exact (r.cut oi oj).mono (Sub.cons _ _))⟩).put (.ref _)).st
end
end Mine
set_option maxHeartbeats 1000000
namespace Mine
open PySem PySem.W PySem.Calls PyProof.Rows
theorem put_keep {τ : Sto} {a r : Addr} {x o : O} (hr : τ r = none) (ha : τ a = some o) : (τ.put r x) a = some o := (Sto.put_ne _ _ (fun q => by rw [q, hr] at ha; cases ha)).trans ha
theorem ne_none {τ : Sto} {a r : Addr} {o : O} (hr : τ r = none) (ha : τ a = some o) : a ≠ r := fun q => by rw [q, hr] at ha; cases ha
theorem AxOk.ne {d : D} {σ : Sto} {I ax a : Addr} {o : O} (h : AxOk d σ I ax) (hI : σ I = none) (ha : σ a = some o) (hd : d ≠ .ref a) (ho : (∀ x, o = .obj x → x.cls ≠ .type "tuple") ∨ ∀ ds, d ≠ .tup ds) : a ≠ I ∧ a ≠ ax := by
  have h1 := ne_none hI ha
  refine ⟨h1, fun q => ?_⟩
  subst q
  rcases h with h | ⟨h, -⟩ | ⟨⟨ds, h2⟩, h⟩
  · exact h1 h.1
  · exact hd h
  · rcases ho with ho | ho
    · exact h _ _ ha ho rfl
    · exact ho ds h2
section
variable {G : Gl} {c : Cx} {Γ : Pairs} {ρ : Loc} {σ : Sto} {X : XP}
/-- for over something that the walk leaves as it is -/
theorem Wx_ForIdP {target iter : Expr} {pos : Pos} {body : List Stmt} {R : FP} {Y : XF} (F : c.Fn) (hs : ∀ x, foldedSetIterable iter c.env x = pure x) (A : Addr → Prop) (J : Nat → Loc → Sto → Prop)
    (hJ : ∀ i ρ τ τ', J i ρ τ → (∀ a, A a → τ' a = τ a) → J i ρ τ')
    (h : WE G c Γ iter ρ σ (fun d σ1 => ∃ (ds : List D), Iter G c d σ1 ds id ∧ (∀ a, A a → ∃ o, σ1 a = some o ∧ (∀ y, o = .obj y → y.cls ≠ .type "tuple") ∧ d ≠ .ref a) ∧ J 0 ρ σ1 ∧
      (∀ (i : Nat) d', ds[i]? = some d' → ∀ ρ τ I ax, J i ρ τ → (∃ o, τ I = some (.obj o) ∧ o.cls ≠ .type "tuple") → (∃ o, τ ax = some (.obj o)) → (∀ a, A a → a ≠ I ∧ a ≠ ax) → ∀ Γ' v, (∀ p ∈ Γ, p ∈ Γ') → WU G c ((v, d') :: Γ') (assign target c.env v) ρ τ (fun ρ' τ' => Wxs G c Γ' body ρ' τ' (fun fl ρ'' τ'' => match fl with
          | .next | .cont => J (i + 1) ρ'' τ'' ∧ τ'' I = τ I ∧ τ'' ax = τ ax
          | .brk => R .next ρ'' τ'' ∧ τ'' ax = τ ax
          | .ret d => R (.ret d) ρ'' τ'' ∧ τ'' ax = τ ax) Y) Y) ∧
      ∀ ρ τ, J ds.length ρ τ → R .next ρ τ) X) (hX : ∀ x σ, X x σ → Y x ρ σ) : Wx G c Γ (.For target iter body [] pos) ρ σ R Y := by
  refine Wx_For F hs (h.mono ?_ fun _ _ h => h) hX
  rintro d σ1 ⟨ds, hit, hA, hJ0, turn, fin⟩
  refine ⟨_, _, hit, fun I ax hI hax => ?_⟩
  have hne : ∀ a, A a → a ≠ I ∧ a ≠ ax := fun a ha => by
    obtain ⟨o, h1, h2, h3⟩ := hA a ha
    exact hax.ne hI h1 h3 (.inl h2)
  exact ⟨J, fun i ρ τ τ' q k => hJ i ρ τ τ' q fun a ha => k a (hne a ha).1 (hne a ha).2, hJ0, fun i d' hd ρ τ q hoI hox Γ' w hg => turn i d' hd ρ τ I ax q hoI hox hne Γ' w hg, fin⟩
/-- the same for a list of addresses -/
theorem Wx_ForId {target iter : Expr} {pos : Pos} {body : List Stmt} {R : FP} {Y : XF} (F : c.Fn) (hs : ∀ x, foldedSetIterable iter c.env x = pure x) (A : List Addr) (J : Nat → Loc → Sto → Prop)
    (hJ : ∀ i ρ τ τ', J i ρ τ → (∀ a ∈ A, τ' a = τ a) → J i ρ τ')
    (h : WE G c Γ iter ρ σ (fun d σ1 => ∃ (ds : List D), Iter G c d σ1 ds id ∧ (∀ a ∈ A, ∃ o, σ1 a = some o ∧ (∀ y, o = .obj y → y.cls ≠ .type "tuple") ∧ d ≠ .ref a) ∧ J 0 ρ σ1 ∧
      (∀ (i : Nat) d', ds[i]? = some d' → ∀ ρ τ I ax, J i ρ τ → (∃ o, τ I = some (.obj o) ∧ o.cls ≠ .type "tuple") → (∃ o, τ ax = some (.obj o)) → (∀ a ∈ A, a ≠ I ∧ a ≠ ax) → ∀ Γ' v, (∀ p ∈ Γ, p ∈ Γ') → WU G c ((v, d') :: Γ') (assign target c.env v) ρ τ (fun ρ' τ' => Wxs G c Γ' body ρ' τ' (fun fl ρ'' τ'' => match fl with
          | .next | .cont => J (i + 1) ρ'' τ'' ∧ τ'' I = τ I ∧ τ'' ax = τ ax
          | .brk => R .next ρ'' τ'' ∧ τ'' ax = τ ax
          | .ret d => R (.ret d) ρ'' τ'' ∧ τ'' ax = τ ax) Y) Y) ∧
      ∀ ρ τ, J ds.length ρ τ → R .next ρ τ) X) (hX : ∀ x σ, X x σ → Y x ρ σ) : Wx G c Γ (.For target iter body [] pos) ρ σ R Y :=
  Wx_ForIdP F hs (fun a => a ∈ A) J hJ h hX
theorem WPt_some {e : Expr} {P : Option Int → Sto → Prop} (h : WE G c Γ e ρ σ (fun d σ' => ∃ i, d = .int i ∧ P (some i) σ') X) : WPt G c Γ (some e) ρ σ P X := h
theorem WPt_none {P : Option Int → Sto → Prop} (h : P none σ) : WPt G c Γ none ρ σ P X := h
/-- a list cut, whatever it was told by -/
theorem cut_lstT {value : Expr} {lo hi : Option Expr} {sp : Pos} {oi oj : Option Int} {a : Addr} {ds : List D} {σ3 : Sto} {P : D → Sto → Prop} (ha : σ3 a = some (.list ds)) (hl : ds.length ≤ 1000000) (hs : ∀ b a, subscripted (.Slice lo hi none sp) false (.ref b) (.ref a) = operate [.ref a, .ref b] (getItem (.ref b) (.ref a)))
    (h : ∀ r, σ3 r = none → P (.ref r) (σ3.put r (.list (cut oi oj ds)))) :
    ∀ (Γ' : Pairs) (v vl vu : Value) (s : Shared) (Q E : Value → Shared → Prop), IsPart vl oi → IsPart vu oj → (v, .ref a) ∈ Γ' → St G c σ3 ρ Γ' s.heap → (∀ u k σ' h tk, P k σ' → St G c σ' ρ ((u, k) :: Γ') h → Q u { s with heap := h, toks := tk }) →
        wpAny G.M c.A (subscriptTail value (.Slice lo hi none sp) v (.ref s.heap.objs.size)) Q E { s with heap := s.heap.push { cls := .type "slice", data := .fields #[vl, vu, .none] } } := fun Γ' v vl vu s Q E i1 i2 hv S q =>
  kba_turn (value' := PySem.Expr.Name (PySem.Str.ofString "_") ⟨0, 0, 0, 0⟩) (fun _ => rfl) (cut_lst (value := PySem.Expr.Name (PySem.Str.ofString "_") ⟨0, 0, 0, 0⟩) ha hl hs (fun _ _ => rfl) h Γ' v vl vu s Q E i1 i2 hv S q)
end
end Mine
set_option maxHeartbeats 1000000
namespace Mine
open PySem PySem.W PySem.Calls PyProof.Rows
section
variable {G : Gl} {c : Cx} {Γ : Pairs} {ρ : Loc} {σ : Sto} {P : D → Sto → Prop} {X : XP}
theorem WU_cellN {x : Str} {p' : Pos} {v : Value} {d : D} {a : Addr} {od : Option D} {P : Loc → Sto → Prop} {Y : XF} (hv : (v, d) ∈ Γ) (hk : c.env.scope.kind = .function) (hl : c.env.kindOf x = some .cell) (hc : c.env.cells.lookup x = some a) (ha : σ a = some (.cell od)) (h : P ρ (σ.put a (.cell (some d)))) :
    WU G c Γ (assign (.Name x p') c.env v) ρ σ P Y := fun s Q E S q f => wpAny_assign_Name (WU_cell (p' := p') hv hk hl hc ha h s Q E S q f)
/-- for x in range(n), x a name that a comprehension of the body reads -/
theorem Wx_ForRangeC {x : Str} {px np cp pos : Pos} {e : Expr} {rest : List Expr} {body : List Stmt} {R : FP} {Y : XF} {ca : Addr} (F : c.Fn) (hh : c.A.handled = none) (hk : c.env.scope.kind = .function) (hx : c.env.kindOf x = some .cell) (hc : c.env.cells.lookup x = some ca) (A : Addr → Prop) (J : Nat → Loc → Sto → Prop)
    (hJ : ∀ i ρ τ τ', J i ρ τ → (∀ a, A a → τ' a = τ a) → J i ρ τ') (hcell : ∀ i ρ τ, J i ρ τ → ∃ od, τ ca = some (.cell od))
    (h : WE G c Γ (.Call (.Name "range" np) (e :: rest) [] cp) ρ σ (fun d σ1 => ∃ (r : Addr) (m n : Int) (t u v : Tok), d = .ref r ∧ σ1 r = some (.obj (rgO m n t u v)) ∧ (-1000000 ≤ m ∧ m ≤ 1000000) ∧ (-1000000 ≤ n ∧ n ≤ 1000000) ∧ (∀ a, A a → a ≠ r ∧ ∃ o, σ1 a = some o) ∧ J 0 ρ σ1 ∧
      (∀ (i : Nat), m + (i : Int) < n → ∀ ρ τ I, J i ρ τ → (∃ o, τ I = some (.obj o) ∧ o.cls ≠ .type "tuple") → (∀ a, A a → a ≠ I) → ∀ Γ', (∀ p ∈ Γ, p ∈ Γ') → Wxs G c Γ' body ρ (τ.put ca (.cell (some (.int (m + i))))) (fun fl ρ'' τ'' => match fl with
          | .next | .cont => J (i + 1) ρ'' τ'' ∧ τ'' I = τ I
          | .brk => R .next ρ'' τ'' ∧ τ'' I = τ I
          | .ret d => R (.ret d) ρ'' τ'' ∧ τ'' I = τ I) Y) ∧
      ∀ ρ τ, J (n - m).toNat ρ τ → R .next ρ τ) X) (hX : ∀ x σ, X x σ → Y x ρ σ) : Wx G c Γ (.For (.Name x px) (.Call (.Name "range" np) (e :: rest) [] cp) body [] pos) ρ σ R Y := by
  refine Wx_For F (fun _ => rfl) (h.mono ?_ fun _ _ h => h) hX
  rintro d σ1 ⟨r, m, n, t, u, v, rfl, hr, hm, hn, hA, hJ0, turn, fin⟩
  refine ⟨_, _, iter_range hh hr hm hn, fun I ax hI hax => ?_⟩
  obtain rfl : ax = I := by
    rcases hax with h | ⟨h, l, h2⟩ | ⟨⟨ds, h⟩, -⟩
    · exact h.1
    · cases h; rw [hr] at h2; cases h2
    · cases h
  have hne : ∀ a, A a → a ≠ ax := fun a ha => by
    obtain ⟨-, o, h1⟩ := hA a ha
    exact ne_none hI h1
  have hlen : (rgD m n).length = (n - m).toNat := by simp [rgD]
  refine ⟨J, fun i ρ τ τ' q k => hJ i ρ τ τ' q fun a ha => k a (hne a ha) (hne a ha), hJ0, fun i d' hd ρ τ q hoI hox Γ' w hg => ?_, fun ρ τ q => fin ρ τ (by rw [← hlen]; exact q)⟩
  have hi : i < (n - m).toNat := by rw [← hlen]; exact (List.getElem?_eq_some_iff.mp hd).1
  have : d' = .int (m + i) := by
    have : (rgD m n)[i]? = some (.int (m + i)) := by unfold rgD; rw [List.getElem?_map, List.getElem?_range (by simpa using hi)]; rfl
    rw [this] at hd; cases hd; rfl
  subst this
  obtain ⟨od, hca⟩ := hcell i ρ τ q
  refine WU_cellN (.head _) hk hx hc hca ?_
  refine WS.mono (turn i (by omega) ρ τ ax q hoI hne Γ' hg) (fun fl ρ'' τ'' z => ?_) fun _ _ _ z => z
  cases fl with
  | next => exact ⟨z.1, z.2, z.2⟩
  | cont => exact ⟨z.1, z.2, z.2⟩
  | brk => exact z
  | ret d => exact z
end
end Mine
set_option maxHeartbeats 1000000
namespace Mine
open PySem PySem.W PySem.Calls PyProof.Rows
section
variable {G : Gl} {c : Cx} {Γ : Pairs} {ρ : Loc} {σ : Sto} {P : D → Sto → Prop} {X : XP} {R : FP} {Y : XF} {h h' : Heap} {N FS : Led} {m : Str → Option Value}
/-- x or y or z, a truth -/
theorem WT_Or3 {x y z : Expr} {pos : Pos} {P : Bool → Sto → Prop} (h : WT G c Γ x ρ σ (fun k σ' => if k then P true σ' else WT G c Γ y ρ σ' (fun k σ' => if k then P true σ' else WT G c Γ z ρ σ' P X) X) X) : WT G c Γ (.BoolOp .Or [x, y, z] pos) ρ σ P X :=
  fun s Q E S q f => isTrue_or (h s _ E S (fun k σ1 h1 t1 p1 S1 => by
    cases k
    · refine isTrue_or (p1 { s with heap := h1, toks := t1 } _ E S1 (fun k σ2 h2 t2 p2 S2 => ?_) (f.at h1 t1 fun _ hp => hp))
      cases k
      · refine isTrue_or (p2 { s with heap := h2, toks := t2 } _ E S2 (fun k σ3 h3 t3 p3 S3 => ?_) (f.at h2 t2 fun _ hp => hp))
        cases k
        · exact isTrue_or_nil (q false σ3 h3 t3 p3 S3)
        · exact q true σ3 h3 t3 p3 S3
      · exact q true σ2 h2 t2 p2 S2
    · exact q true σ1 h1 t1 p1 S1) f)
theorem in_strs' {a : Addr} {ls : List (List Nat)} {l : List Nat} (ha : σ a = some (.list (ls.map D.str))) (h : P (.bool (decide (l ∈ ls))) σ) : W2 G c (compareOp .In) (.str l) (.ref a) ρ σ P X := fun Γ v w hv hw s Q E S q _ => by
  obtain ⟨x, t, rfl, e⟩ := S.isStr hv
  obtain rfl := S.isRef hw
  have S0 := S
  obtain ⟨N, FS, m, S⟩ := S
  obtain ⟨vs, n, h1, h2⟩ := S.re _ _ ha
  have hb : ((ls.map fun l => (⟨l.toArray⟩ : Str)).any (· == x)) = decide (l ∈ ls) := by
    rw [str_eq e, List.any_map, Bool.eq_iff_iff, List.any_eq_true, decide_eq_true_iff]
    constructor
    · rintro ⟨k, hk, hk2⟩
      have : (⟨k.toArray⟩ : Str) = ⟨l.toArray⟩ := eq_of_beq hk2
      have : k = l := by simpa using this
      exact this ▸ hk
    · intro hl
      exact ⟨l, hl, by simp⟩
  refine in_list_strs (ys := ls.map fun l => (⟨l.toArray⟩ : Str)) ⟨_, (S.nw _ (List.mem_append_left FS h1)).1, rfl, n, rfl⟩ (strsAre_of h2) ?_
  rw [hb]
  exact q _ _ σ s.heap _ h (S0.put_plain fun _ => .bool _)
noncomputable abbrev rgM (a b : Int) (t u v : Tok) : Obj := { cls := .type "range", data := .fields #[.int a t, .int b u, .int (-1) v] }
theorem range3m' {a b : Int} (ha : -1000000 ≤ a ∧ a ≤ 1000000) (hb : -1000000 ≤ b ∧ b ≤ 1000000) (h : ∀ r t u v, σ r = none → P (.ref r) (σ.put r (.obj (rgM a b t u v)))) : Wn G c (fun vs => call (.type "range") vs) [.int a, .int b, .int (-1)] ρ σ P X := wn3 fun Γ v w z hv hw hz s Q E S q _ => by
  obtain ⟨t, rfl⟩ := S.isInt hv
  obtain ⟨u, rfl⟩ := S.isInt hw
  obtain ⟨v, rfl⟩ := S.isInt hz
  obtain ⟨N, FS, m, S⟩ := S
  refine call_range_3 (by decide) ?_ (.inl (div_small (by decide)))
  have W := News.push S.fr S.nw (rgM a b t u v)
  obtain ⟨S1, hn⟩ := S.alloc (S.fr.push _) W S.lt
  exact q (.ref s.heap.objs.size) _ _ _ _ (h _ _ _ _ hn) ((S1.putO (o := .obj (rgM a b t u v)) (.head _)).put (.ref _)).st
theorem rangeM_small {a b : Int} (ha : -1000000 ≤ a ∧ a ≤ 1000000) (hb : -1000000 ≤ b ∧ b ≤ 1000000) : Builtin.Range.small a b (-1) = true ∧ Builtin.Range.rangeSize a b (-1) = ((a - b).toNat : Nat) := by
  have e : Builtin.Range.rangeSize a b (-1) = ((a - b).toNat : Nat) := by
    unfold Builtin.Range.rangeSize
    simp
    omega
  refine ⟨?_, e⟩
  unfold Builtin.Range.small
  rw [e]
  unfold Builtin.Range.rangeFitsLong
  simp
  omega
noncomputable def rgDn (a b : Int) : List D := (List.range (a - b).toNat).map fun i : Nat => D.int (a - i)
theorem iter_down {r : Addr} {a b : Int} {t u v : Tok} (h0 : c.h0) (hr : σ r = some (.obj (rgM a b t u v))) (ha : -1000000 ≤ a ∧ a ≤ 1000000) (hb : -1000000 ≤ b ∧ b ≤ 1000000) : Iter G c (.ref r) σ (rgDn a b) id := fun Γ v ρ s Q E hv S q => by
  obtain rfl := S.isRef hv
  obtain ⟨N, FS, m, S⟩ := S
  obtain ⟨k1, k2⟩ := rangeM_small ha hb
  refine wpAny_pyIter_range (S.nw _ (List.mem_append_left FS (S.re _ _ hr))).1 k1 ?_
  rw [k2]
  have W := News.push S.fr S.nw ({ cls := .type "range_iterator", data := .fields #[rawInt a, rawInt (((a - b).toNat : Nat) : Int), rawInt (-1)] } : Obj)
  obtain ⟨S1, hn⟩ := S.alloc (S.fr.push _) W S.lt
  have S2 := S1.putO (o := .obj { cls := .type "range_iterator", data := .fields #[rawInt a, rawInt (((a - b).toNat : Nat) : Int), rawInt (-1)] }) (.head _)
  refine q s.heap.objs.size s.heap.objs.size Γ (fun i h => IsRangeIter h s.heap.objs.size (a + (i : Nat) * (-1)) (((rgDn a b).length : Int) - (i : Nat)) (-1)) _ _ s.toks (fun _ hp => hp) hn (.inl ⟨rfl, fun a l e q => by cases e; rw [hr] at q; cases q⟩) (fun b hb _ => Sto.put_ne _ _ hb) ⟨_, _, Sto.put_same _ _ _, ⟨_, rfl, by decide +kernel⟩, Sto.put_same _ _ _, fun h h1 h2 => ?_⟩
    ⟨⟨_, (Walks.range h0 s.heap.objs.size a (-1) (rgDn a b).length).mono_fp (fun b hb => List.mem_cons_of_mem _ hb), fun i v N hi hg pv => ?_⟩, fun i h hs => ⟨_, _, hs, rfl, by decide +kernel⟩⟩ S2.st (fun τ' ρ' Γ'' h' _ _ S => S) ⟨fun _ _ _ => rfl, fun τ' _ o hb => by rw [hn] at hb; cases hb⟩
  · show h.get? _ = some _
    rw [h1]
    simp [rgDn]
  · obtain ⟨t, rfl⟩ := pv
    have : (rgDn a b).getD i .none = .int (a + (i : Nat) * (-1)) := by
      have hi' : i < (a - b).toNat := by simpa [rgDn] using hi
      simp [rgDn, hi']
      omega
    rw [this]; exact .int _ _
theorem Wx_ForDownC {x : Str} {px np cp pos : Pos} {e : Expr} {rest : List Expr} {body : List Stmt} {R : FP} {Y : XF} {ca : Addr} (F : c.Fn) (hh : c.A.handled = none) (hk : c.env.scope.kind = .function) (hx : c.env.kindOf x = some .cell) (hc : c.env.cells.lookup x = some ca) (A : Addr → Prop) (J : Nat → Loc → Sto → Prop)
    (hJ : ∀ i ρ τ τ', J i ρ τ → (∀ a, A a → τ' a = τ a) → J i ρ τ') (hcell : ∀ i ρ τ, J i ρ τ → ∃ od, τ ca = some (.cell od))
    (h : WE G c Γ (.Call (.Name "range" np) (e :: rest) [] cp) ρ σ (fun d σ1 => ∃ (r : Addr) (m n : Int) (t u v : Tok), d = .ref r ∧ σ1 r = some (.obj (rgM m n t u v)) ∧ (-1000000 ≤ m ∧ m ≤ 1000000) ∧ (-1000000 ≤ n ∧ n ≤ 1000000) ∧ (∀ a, A a → a ≠ r ∧ ∃ o, σ1 a = some o) ∧ J 0 ρ σ1 ∧
      (∀ (i : Nat), n < m - (i : Int) → ∀ ρ τ I, J i ρ τ → (∃ o, τ I = some (.obj o) ∧ o.cls ≠ .type "tuple") → (∀ a, A a → a ≠ I) → ∀ Γ', (∀ p ∈ Γ, p ∈ Γ') → Wxs G c Γ' body ρ (τ.put ca (.cell (some (.int (m - i))))) (fun fl ρ'' τ'' => match fl with
          | .next | .cont => J (i + 1) ρ'' τ'' ∧ τ'' I = τ I
          | .brk => R .next ρ'' τ'' ∧ τ'' I = τ I
          | .ret d => R (.ret d) ρ'' τ'' ∧ τ'' I = τ I) Y) ∧
      ∀ ρ τ, J (m - n).toNat ρ τ → R .next ρ τ) X) (hX : ∀ x σ, X x σ → Y x ρ σ) : Wx G c Γ (.For (.Name x px) (.Call (.Name "range" np) (e :: rest) [] cp) body [] pos) ρ σ R Y := by
  refine Wx_For F (fun _ => rfl) (h.mono ?_ fun _ _ h => h) hX
  rintro d σ1 ⟨r, m, n, t, u, v, rfl, hr, hm, hn, hA, hJ0, turn, fin⟩
  refine ⟨_, _, iter_down hh hr hm hn, fun I ax hI hax => ?_⟩
  obtain rfl : ax = I := by
    rcases hax with h | ⟨h, l, h2⟩ | ⟨⟨ds, h⟩, -⟩
    · exact h.1
    · cases h; rw [hr] at h2; cases h2
    · cases h
  have hne : ∀ a, A a → a ≠ ax := fun a ha => by
    obtain ⟨-, o, h1⟩ := hA a ha
    exact ne_none hI h1
  have hlen : (rgDn m n).length = (m - n).toNat := by simp [rgDn]
  refine ⟨J, fun i ρ τ τ' q k => hJ i ρ τ τ' q fun a ha => k a (hne a ha) (hne a ha), hJ0, fun i d' hd ρ τ q hoI hox Γ' w hg => ?_, fun ρ τ q => fin ρ τ (by rw [← hlen]; exact q)⟩
  have hi : i < (m - n).toNat := by rw [← hlen]; exact (List.getElem?_eq_some_iff.mp hd).1
  have : d' = .int (m - i) := by
    have : (rgDn m n)[i]? = some (.int (m - i)) := by unfold rgDn; rw [List.getElem?_map, List.getElem?_range (by simpa using hi)]; rfl
    rw [this] at hd; cases hd; rfl
  subst this
  obtain ⟨od, hca⟩ := hcell i ρ τ q
  refine WU_cellN (.head _) hk hx hc hca ?_
  refine WS.mono (turn i (by omega) ρ τ ax q hoI hne Γ' hg) (fun fl ρ'' τ'' z => ?_) fun _ _ _ z => z
  cases fl with
  | next => exact ⟨z.1, z.2, z.2⟩
  | cont => exact ⟨z.1, z.2, z.2⟩
  | brk => exact z
  | ret d => exact z
end
end Mine
set_option maxHeartbeats 1000000
namespace Mine
open PySem PySem.W PySem.Calls PyProof.Rows PySem.SeqAt
theorem eqAt_bytes {A : Around} {s : Shared} (b c : Array UInt8) (t u : Tok) : EqAt A s (.bytes b t) (.bytes c u) (b.toList == c.toList) := fun prog w E Q h => by
  unfold eqBool
  refine wpAny_holding ?_
  refine wpAny_ite_split (fun hab => ?_) (fun hab => ?_)
  · have e : b = c := by have := eq_of_beq hab; injection this
    subst e
    exact wpAny_bind (wpAny_rule (wpAny_pure (by simpa using h)))
  · exact wpAny_bind (richCompare_gives (op := .Eq) (typeIs_bytes s b t) (typeIs_bytes s c u) FB.slot_bytes_eq FB.entry_bytes_eq (FB.args_bytes_eq_2 _ _) (gives_bytes_eq b c t u) (fun x => nomatch x) (wpAny_truthy_bool h))
mutual
/-- the same data, n deep at most -/
inductive Sm (σ : Sto) : Nat → D → D → Prop
  | none (n : Nat) : Sm σ n .none .none
  | bool (n : Nat) (b : Bool) : Sm σ n (.bool b) (.bool b)
  | int (n : Nat) (i : Int) : Sm σ n (.int i) (.int i)
  | str (n : Nat) (l : List Nat) : Sm σ n (.str l) (.str l)
  | bytes (n : Nat) (l : List Nat) : Sm σ n (.bytes l) (.bytes l)
  | tup {n : Nat} {ds es : List D} : SmAll σ n ds es → Sm σ (n + 1) (.tup ds) (.tup es)
  | list {n : Nat} {a b : Addr} {ds es : List D} : σ a = some (.list ds) → σ b = some (.list es) → SmAll σ n ds es → Sm σ (n + 1) (.ref a) (.ref b)
inductive SmAll (σ : Sto) : Nat → List D → List D → Prop
  | nil (n : Nat) : SmAll σ n [] []
  | cons {n : Nat} {d e : D} {ds es : List D} : Sm σ n d e → SmAll σ n ds es → SmAll σ n (d :: ds) (e :: es)
end
theorem SmAll.strs {σ : Sto} (n : Nat) (ls : List (List Nat)) : SmAll σ n (ls.map D.str) (ls.map D.str) := by
  induction ls with
  | nil => exact .nil n
  | cons l ls ih => exact .cons (.str n l) ih
theorem all_true (n : Nat) : ((List.range n).all fun _ => true) = true := by simp
section
variable {G : Gl} {c : Cx} {σ : Sto} {ρ : Loc} {Γ : Pairs} {N FS : Led} {m : Str → Option Value} {s : Shared}
theorem SmAll.eqAt (S : StN G c σ ρ Γ s.heap N FS m) {n : Nat} {ds es : List D} (h : SmAll σ n ds es) : ∀ (A : Around) {vs ws : List Value}, A.units + n < cLine → RelAll N vs ds → RelAll N ws es → vs.length = ws.length ∧ ∀ (j : Nat) (v w : Value), vs[j]? = some v → ws[j]? = some w → EqAt A s v w true := by
  refine SmAll.rec (motive_1 := fun n d e _ => ∀ (A : Around) {v w : Value}, A.units + n < cLine → RelD N v d → RelD N w e → EqAt A s v w true)
    (motive_2 := fun n ds es _ => ∀ (A : Around) {vs ws : List Value}, A.units + n < cLine → RelAll N vs ds → RelAll N ws es → vs.length = ws.length ∧ ∀ (j : Nat) (v w : Value), vs[j]? = some v → ws[j]? = some w → EqAt A s v w true) ?_ ?_ ?_ ?_ ?_ ?_ ?_ ?_ ?_ h
  · intro n A v w hu rv rw
    cases rv; cases rw; exact EqAt.same _
  · intro n b A v w hu rv rw
    cases rv; cases rw; exact EqAt.same _
  · intro n i A v w hu rv rw
    obtain ⟨t, rfl⟩ := rv.isInt
    obtain ⟨u, rfl⟩ := rw.isInt
    have := EqAt.int_int (A := A) (s := s) i t i u
    rwa [beq_self_eq_true] at this
  · intro n l A v w hu rv rw
    obtain ⟨x, t, rfl, e1⟩ := rv.isStr
    obtain ⟨y, u, rfl, e2⟩ := rw.isStr
    rw [str_eq e1, str_eq e2]
    have := EqAt.str_str (A := A) (s := s) ⟨l.toArray⟩ t ⟨l.toArray⟩ u
    rwa [beq_self_eq_true] at this
  · intro n l A v w hu rv rw
    cases rv with
    | bytes e1 => cases rw with
      | @bytes b2 t2 _ e2 =>
        rename_i b1 t1
        have h := eqAt_bytes (A := A) (s := s) b1 b2 t1 t2
        have : b1.toList = b2.toList := by
          have inj : ∀ (x y : List UInt8), x.map UInt8.toNat = y.map UInt8.toNat → x = y := by
            intro x
            induction x with
            | nil => intro y hy; cases y with
              | nil => rfl
              | cons => cases hy
            | cons a x ih => intro y hy; cases y with
              | nil => cases hy
              | cons b y =>
                rw [List.map_cons, List.map_cons, List.cons_eq_cons] at hy
                rw [UInt8.toNat_inj.mp hy.1, ih y hy.2]
          exact inj _ _ (e1.trans e2.symm)
        rw [this, beq_self_eq_true] at h
        exact h
  · intro n ds es h ih A v w hu rv rw
    cases rv with
    | @tup a vs k _ h1 h2 => cases rw with
      | @tup b ws k' _ h3 h4 =>
        have T1 : s.heap.IsTuple a vs.toArray := ⟨_, (S.nw _ (List.mem_append_left FS h1)).1, rfl, k, rfl⟩
        have T2 : s.heap.IsTuple b ws.toArray := ⟨_, (S.nw _ (List.mem_append_left FS h3)).1, rfl, k', rfl⟩
        by_cases e : a = b
        · subst e; exact EqAt.same _
        · obtain ⟨hl, he⟩ := ih A.in1 (vs := vs) (ws := ws) (by show A.units + 1 + n < cLine; omega) h2 h4
          have := RcAt.tuples (A := A) (e := fun _ => true) T1 T2 (by omega) (fun j j1 j2 => he j _ _ (by simp) (by simp))
          have z : ((List.range (min vs.toArray.size ws.toArray.size)).all (fun _ => true) && vs.toArray.size == ws.toArray.size) = true := by simp [hl]
          rw [z] at this
          exact EqAt.of_refs e this
  · intro n a b ds es ha hb h ih A v w hu rv rw
    cases rv; cases rw
    obtain ⟨vs, k, h1, h2⟩ := S.re _ _ ha
    obtain ⟨ws, k', h3, h4⟩ := S.re _ _ hb
    have T1 : s.heap.IsList a vs.toArray := ⟨_, (S.nw _ (List.mem_append_left FS h1)).1, rfl, k, rfl⟩
    have T2 : s.heap.IsList b ws.toArray := ⟨_, (S.nw _ (List.mem_append_left FS h3)).1, rfl, k', rfl⟩
    by_cases e : a = b
    · subst e; exact EqAt.same _
    · obtain ⟨hl, he⟩ := ih A.in1 (vs := vs) (ws := ws) (by show A.units + 1 + n < cLine; omega) h2 h4
      have := RcAt.lists (A := A) (e := fun _ => true) T1 T2 (by simpa using hl) (by omega) (fun j j1 j2 => he j _ _ (by simp) (by simp))
      rw [all_true] at this
      exact EqAt.of_refs e this
  · intro n A vs ws hu rv rw
    cases rv; cases rw; exact ⟨rfl, fun j v w h => by simp at h⟩
  · intro n d e ds es h hs ih1 ih2 A vs ws hu rv rw
    cases rv with
    | cons r1 r2 => cases rw with
      | cons r3 r4 =>
        obtain ⟨l, k⟩ := ih2 A hu r2 r4
        refine ⟨by simp [l], fun j v w e1 e2 => ?_⟩
        cases j with
        | zero => cases e1; cases e2; exact ih1 A hu r1 r3
        | succ j => exact k j v w (by simpa using e1) (by simpa using e2)
theorem ne_sm {n k : Nat} {a b : Addr} {ds es : List D} (hr : c.Room k) (ha : σ a = some (.list ds)) (hb : σ b = some (.list es)) (h : SmAll σ n ds es) (hn : n ≤ 60) (hP : P (.bool false) σ) : W2 G c (compareOp .NotEq) (.ref a) (.ref b) ρ σ P X := fun Γ v w hv hw s Q E S q _ => by
  obtain rfl := S.isRef hv
  obtain rfl := S.isRef hw
  have S0 := S
  obtain ⟨N, FS, m, S⟩ := S
  obtain ⟨vs, k, h1, h2⟩ := S.re _ _ ha
  obtain ⟨ws, k', h3, h4⟩ := S.re _ _ hb
  have T1 : s.heap.IsList a vs.toArray := ⟨_, (S.nw _ (List.mem_append_left FS h1)).1, rfl, k, rfl⟩
  have T2 : s.heap.IsList b ws.toArray := ⟨_, (S.nw _ (List.mem_append_left FS h3)).1, rfl, k', rfl⟩
  have hu := hr.un
  obtain ⟨hl, he⟩ := SmAll.eqAt S h c.A.in1 (vs := vs) (ws := ws) (by show c.A.units + 1 + n < cLine; omega) h2 h4
  have := RcNeAt.lists (A := c.A) (e := fun _ => true) T1 T2 (by simpa using hl) (by omega) (fun j j1 j2 => he j _ _ (by simp) (by simp))
  rw [all_true] at this
  exact this G.prog G.w E Q (q _ _ σ s.heap s.toks hP (S0.put_plain fun _ => .bool _))
end
end Mine
set_option maxHeartbeats 1000000
namespace Mine
open PySem PySem.W PySem.Calls PyProof.Rows
section
variable {G : Gl} {c : Cx} {Γ : Pairs} {ρ : Loc} {σ : Sto} {P : D → Sto → Prop} {X : XP} {R : FP} {Y : XF}
theorem clip_cut (n : Nat) (i : Int) : clipAt n i = cutLo (some i) n := by
  unfold clipAt cutLo
  dsimp only
  by_cases h : i < 0
  · rw [if_pos h, if_pos h, clipN i n h]; rfl
  · rw [if_neg h, if_neg h, clipP i n h]; rfl
theorem picked_cut {b : Array UInt8} {l : List Nat} (e : b.toList.map UInt8.toNat = l) (lo hi : Option Int) : (KBy.picked b lo hi).toList.map UInt8.toNat = cut lo hi l := by
  rw [KBc.picked_eq]
  subst e
  have hn : b.size = (b.toList.map UInt8.toNat).length := by simp
  unfold cut
  rw [List.toList_toArray, List.map_take, List.map_drop, ← hn]
  have h1 : lo.elim 0 (clipAt b.size) = cutLo lo b.size := by
    cases lo with
    | none => rfl
    | some i => exact clip_cut _ _
  have h2 : hi.elim b.size (clipAt b.size) = cutHi hi b.size := by
    cases hi with
    | none => rfl
    | some i => exact clip_cut _ _
  rw [h1, h2]
/-- octets cut -/
theorem cut_byt {value : Expr} {lo hi : Option Expr} {sp : Pos} {oi oj : Option Int} {l : List Nat} {σ3 : Sto} (hl : l.length ≤ 1000000) (hs : ∀ x t a, subscripted (.Slice lo hi none sp) false (.bytes x t) (.ref a) = operate [.ref a, .bytes x t] (getItem (.bytes x t) (.ref a)))
    (ht : ∀ x t r, letTemporaryGo value (.bytes x t) r = pure ()) (h : P (.bytes (cut oi oj l)) σ3) :
    ∀ (Γ' : Pairs) (v vl vu : Value) (s : Shared) (Q E : Value → Shared → Prop), IsPart vl oi → IsPart vu oj → (v, .bytes l) ∈ Γ' → St G c σ3 ρ Γ' s.heap → (∀ u k σ' h tk, P k σ' → St G c σ' ρ ((u, k) :: Γ') h → Q u { s with heap := h, toks := tk }) →
        wpAny G.M c.A (subscriptTail value (.Slice lo hi none sp) v (.ref s.heap.objs.size)) Q E { s with heap := s.heap.push { cls := .type "slice", data := .fields #[vl, vu, .none] } } := fun Γ' v vl vu s Q E i1 i2 hv S q => by
  obtain ⟨b, t, rfl, e⟩ := S.isBytes hv
  obtain ⟨N, FS, m, S⟩ := S
  refine KBc.slice_K S.fr S.nw (ks := KBw.bInts b) rfl i1 i2 (by rw [KBw.ints_length]; have := bytes_size e; omega) (fun h' t' k F' N' _ => ?_) (hs _ _ _) (ht _ _)
  exact q _ _ σ3 h' k h ((S.move F' N').put (.bytes (picked_cut e oi oj))).st
theorem B1_list {a : Addr} {ds : List D} {P : Bool → Sto → Prop} (ha : σ a = some (.list ds)) (hl : ds.length ≤ 1000000) (h : P (!ds.isEmpty) σ) : B1 G c truthy (.ref a) ρ σ P X := fun Γ v hv s Q E S q _ => by
  obtain rfl := S.isRef hv
  have S0 := S
  obtain ⟨N, FS, m, S⟩ := S
  obtain ⟨vs, n, h1, h2⟩ := S.re _ _ ha
  have hn := h2.length
  refine wpAny_truthy_list ⟨_, (S.nw _ (List.mem_append_left FS h1)).1, rfl, n, rfl⟩ (by simp; omega) ?_
  have : (!vs.toArray.isEmpty) = !ds.isEmpty := by
    cases vs with
    | nil => cases ds with
      | nil => rfl
      | cons => cases hn
    | cons => cases ds with
      | nil => cases hn
      | cons => rfl
  rw [this]
  exact q _ σ s.heap _ h S0
theorem sub_lst {value slice : Expr} {a : Addr} {ds : List D} {i : Int} {d : D} (ha : σ a = some (.list ds)) (hl : ds.length ≤ 1000000) (h0 : 0 ≤ i) (hi : ds[i.toNat]? = some d) (hs : ∀ b u, subscripted slice false (.ref b) (.int i u) = operate [.ref b, .int i u] (getItem (.ref b) (.int i u)))
    (h : P d σ) : W2 G c (subscriptTail value slice) (.ref a) (.int i) ρ σ P X := fun Γ v w hv hw s Q E S q _ => by
  obtain rfl := S.isRef hv
  obtain ⟨u, rfl⟩ := S.isInt hw
  obtain ⟨N, FS, m, S⟩ := S
  obtain ⟨vs, n, h1, h2⟩ := S.re _ _ ha
  obtain ⟨y, hy, ry⟩ := h2.get hi
  have hlt : i.toNat < ds.length := (List.getElem?_eq_some_iff.mp hi).1
  exact kba_turn (value' := PySem.Expr.Name (PySem.Str.ofString "_") ⟨0, 0, 0, 0⟩) (fun _ => rfl) (item_listL ⟨_, (S.nw _ (List.mem_append_left FS h1)).1, rfl, n, rfl⟩ h0 (by omega) hy (q y d σ s.heap s.toks h (S.put ry).st) (hs _ _) (fun _ => rfl))
end
end Mine
set_option maxHeartbeats 1000000
namespace Mine
open PySem PySem.W PySem.Calls PyProof.Rows
open Builtin Builtin.Str Builtin.BaseException Builtin.Exceptions
theorem slotStr : Slot "Exception" "__str__" "BaseException.__str__" :=
  .of (owner := "BaseException") (n := "__str__") (by rw [typeLookup_type, builtinLookup_eq_fast]; kernel_rfl) (by decide +kernel) (by decide +kernel) (by decide +kernel)
    (by first | exact .inl (by decide +kernel) | exact .inr (by decide +kernel)) (by rw [isSubtype_type]; kernel_rfl)
/-- an exception of the text with one argument, a text -/
structure ExOne (K : Frag) (h : Heap) (e C : Addr) (m : Str) (tk : Tok) : Prop where
  inn : K.In h
  obj : ∃ oe vs t0 ot k, h.get? e = some oe ∧ oe.cls = .ref C ∧ oe.data = .fields vs ∧ vs[0]? = some (.ref t0) ∧ h.get? t0 = some ot ∧ ot.data = .seq [Value.str m tk].toArray k
  str : findIn K (.ref C) "__str__" = some (some (.builtin "BaseException.__str__"))
  base : mroIn K C (.type "BaseException") = some true
section
variable {prog : Program} {w : World} {A : Around} {E : Value → Shared → Prop} {s : Shared} {K : Frag} {e C : Addr} {m : Str} {tk : Tok}
theorem ExOne.type (x : ExOne K s.heap e C m tk) {M : Model} : Looks M s.heap (typeOf (.ref e)) (.ref C) := by
  obtain ⟨oe, vs, t0, ot, k, h1, h2, -⟩ := x.obj
  exact h2 ▸ (Looks.ld h1).andThen .now
theorem ExOne.call (x : ExOne K s.heap e C m tk) {Q : Value → Shared → Prop} (hq : Q (.str m tk) s) : wpAny (model prog w) A (call (.builtin "BaseException.__str__") [.ref e]) Q E s := by
  have L4 : Looks (model prog w) s.heap (isInstance (.ref e) (.type "BaseException")) true := x.type.andThen (looks_mroIn x.inn x.base)
  refine wpAny_call (codeAny_call_builtin slotStr.plain F.entry_bexc_str (@check_slot (model prog w) _ _ _ "BaseException.__str__" "BaseException" "__str__" (.ref e) [] [] _ (by decide +kernel) (by decide +kernel) L4 (F.args_bexc_str (.ref e)) ?_))
  obtain ⟨oe, vs, t0, ot, k, h1, h2, h3, h4, h5, h6⟩ := x.obj
  have ba : ∀ (Q : Value × List Value → Shared → Prop) (M : Model) (A : Around) (E : Value → Shared → Prop), Q (.ref t0, [.str m tk]) s → wpAny M A (bexcArgs (.ref e)) Q E s := fun Q M A E hq => by
    unfold bexcArgs
    refine wpAny_bind (wpAny_field h1 h3 h4 (wpAny_bind (wpAny_seqItems h5 h6 ?_)))
    exact wpAny_pure hq
  unfold Builtin.«BaseException.__str__»
  repeat (first | with_reducible refine ba _ _ _ _ ?_ | wp_step)
  exact hq
theorem ExOne.strOf (x : ExOne K s.heap e C m tk) (hu : A.units < cLine) {Q : Value → Shared → Prop} (hq : Q (.str m tk) s) : wpAny (model prog w) A (strOf (.ref e)) Q E s := by
  have cs : ∀ (A : Around) (Q : Option Value → Shared → Prop), Q (some (.str m tk)) s → wpAny (model prog w) A (callSpecial? (.ref e) (Str.ofString "__str__")) Q E s := fun A Q hq => by
    simp only [callSpecial?, specialOf]
    refine wpAny_bind (wpAny_bind (x.type.here ((looks_findIn x.inn x.str).here ?_)))
    simp only [slotStr.bind]
    exact wpAny_holding (wpAny_bind (wpAny_pure (wpAny_bind (x.call (wpAny_pure hq)))))
  unfold Builtin.Str.strOf
  repeat (first | with_reducible refine wpAny_cRoomFor hu ?_ | with_reducible refine cs _ _ ?_ | wp_step)
  exact hq
theorem str_exc1 (x : ExOne K s.heap e C m tk) (hu : A.units + 8 < cLine) {Q : Value → Shared → Prop} (hq : Q (.str m tk) s) : wpAny (model prog w) A (call (.type "str") [.ref e]) Q E s :=
  callType_new F.called_str (by decide) (F.typeCall_str_1 _) (F.newCall_str_1 _) (fun obj => F.args_object_init_2 obj _) F.entry_str_new
    (meets_str_new (S := fun A R s => A.units + 2 < cLine ∧ ExOne K s.heap e C m tk ∧ R (.ok (.ret (.str m tk))) s) fun prog w A R s hq => ExOne.strOf (A := A.in1) hq.2.1 (by have := hq.1; show A.units + 1 < cLine; omega) hq.2.2) ⟨by show A.units + 1 + 2 < cLine; omega, x, typeIs_str _ _ _, hq⟩
end
section
variable {G : Gl} {c : Cx} {Γ : Pairs} {ρ : Loc} {σ : Sto} {P : D → Sto → Prop} {X : XP} {R : FP} {Y : XF}
theorem str_int' {i : Int} (hi : i.natAbs < 2 ^ 64) (h : P (.str (dig i)) σ) : Wn G c (fun vs => call (.type "str") vs) [.int i] ρ σ P X := wn1 fun Γ v hv s Q E S q _ => by
  obtain ⟨t, rfl⟩ := S.isInt hv
  have hlog : i.natAbs.log2 < 1920 := by
    by_cases h0 : i.natAbs = 0
    · rw [h0]; decide
    · have := (Nat.log2_lt h0).mpr hi; omega
  refine PySem.P.str_of_int hlog ?_
  exact q _ _ σ s.heap _ h (S.put_plain fun _ => .str rfl)
/-- str(e) -/
theorem str_e' {n : Nat} {e C dx : Addr} {l : List Nat} (hr : c.Room n) (he : σ e = some (.exc C dx (.tup [.str l]))) (h1 : findIn G.K (.ref C) "__str__" = some (some (.builtin "BaseException.__str__"))) (h2 : mroIn G.K C (.type "BaseException") = some true)
    (h : P (.str l) σ) : Wn G c (fun vs => call (.type "str") vs) [.ref e] ρ σ P X := wn1 fun Γ v hv s Q E S q _ => by
  obtain rfl := S.isRef hv
  have S0 := S
  obtain ⟨N, FS, m, S⟩ := S
  obtain ⟨vs, sl, v0, k1, k2, k3, k4⟩ := S.re _ _ he
  rcases k4 with k4 | k4
  · cases k4
  · cases k4 with
    | tup k5 k6 =>
      cases k6 with
      | cons r1 r2 =>
        cases r2
        obtain ⟨x, t, rfl, ex⟩ := r1.isStr
        have X0 : G.K.In s.heap := G.X.keeps S.fr.keep
        refine str_exc1 (K := G.K) (C := C) (m := x) (tk := t) ⟨X0, ⟨_, _, _, _, _, (S.nw _ (List.mem_append_left FS k1)).1, rfl, rfl, k3, (S.nw _ (List.mem_append_left FS k5)).1, rfl⟩, h1, h2⟩ (by have := hr.un; omega) ?_
        exact q _ _ σ s.heap s.toks h (S.put (.str ex)).st
/-- the last of a list -/
theorem sub_last {value slice : Expr} {a : Addr} {ds : List D} {i : Int} {d : D} (ha : σ a = some (.list ds)) (hl : ds.length ≤ 1000000) (h0 : i < 0) (h1 : -(ds.length : Int) ≤ i) (hi : ds[(i + ds.length).toNat]? = some d) (hs : ∀ b u, subscripted slice false (.ref b) (.int i u) = operate [.ref b, .int i u] (getItem (.ref b) (.int i u)))
    (h : P d σ) : W2 G c (subscriptTail value slice) (.ref a) (.int i) ρ σ P X := fun Γ v w hv hw s Q E S q _ => by
  obtain rfl := S.isRef hv
  obtain ⟨u, rfl⟩ := S.isInt hw
  obtain ⟨N, FS, m, S⟩ := S
  obtain ⟨vs, n, k1, k2⟩ := S.re _ _ ha
  obtain ⟨y, hy, ry⟩ := k2.get hi
  have hlen := k2.length
  exact kba_turn (value' := PySem.Expr.Name (PySem.Str.ofString "_") ⟨0, 0, 0, 0⟩) (fun _ => rfl) (kim_back S.nw (List.mem_append_left FS k1) rfl rfl h0 (by rw [hlen]; exact h1) (by omega) (by rw [hlen]; exact hy) (q y d σ s.heap s.toks h (S.put ry).st) (hs _ _) (fun _ => rfl))
end
end Mine
set_option maxHeartbeats 1000000
namespace Mine
open PySem PySem.W PySem.Calls PyProof.Rows
/-- the places of the line ends -/
noncomputable def nls (l : List Nat) (n : Nat) : List Nat := (List.range n).filter fun j => l[j]? == some 10
theorem nls_succ (l : List Nat) (n : Nat) : nls l (n + 1) = nls l n ++ if l[n]? = some 10 then [n] else [] := by
  unfold nls
  rw [List.range_succ, List.filter_append, List.filter_cons]
  by_cases h : l[n]? = some 10
  · simp [h]
  · simp [h]
theorem nls_len (l : List Nat) : ∀ n, (nls l n).length = nlc l n
  | 0 => rfl
  | n + 1 => by
    rw [nls_succ, List.length_append, nls_len l n, show nlc l (n + 1) = nlc l n + if l[n]? = some 10 then 1 else 0 from rfl]
    by_cases h : l[n]? = some 10
    · rw [if_pos h, if_pos h]; rfl
    · rw [if_neg h, if_neg h]; rfl
theorem nls_last (l : List Nat) : ∀ n, nll l n = match (nls l n).getLast? with | none => -1 | some z => (z : Int)
  | 0 => rfl
  | n + 1 => by
    rw [nls_succ]
    unfold nll
    by_cases h : l[n]? = some 10
    · rw [if_pos h, if_pos h]; simp
    · rw [if_neg h, if_neg h, List.append_nil]; exact nls_last l n
theorem nls_lt (l : List Nat) (n z : Nat) (h : z ∈ nls l n) : z < n := by
  unfold nls at h
  exact List.mem_range.mp (List.mem_filter.mp h).1
theorem stS_list (l : List Nat) (hi lim : Nat) (hl : hi < lim) : ∀ i, i ≤ hi → (Nl.stS l hi lim i).1.toList = nls l i
  | 0, _ => rfl
  | i + 1, h => by
    have ih := stS_list l hi lim hl i (by omega)
    have h1 := Nl.stS_free l hi lim i
    have h2 := Nl.stS_size l hi lim i
    rw [nls_succ]
    unfold Nl.stS
    dsimp only
    by_cases q : l[i]? = some 10
    · rw [if_pos ⟨by omega, h1, h, q⟩, if_pos q]; simp [ih]
    · rw [if_neg (fun z => q z.2.2.2), if_neg q, List.append_nil]; exact ih
/-- the rows -/
noncomputable def rowsAt (l : List Nat) (cuts : List Nat) : List (List Nat) := ((0 :: cuts.map (· + 1)).zip (cuts ++ [l.length])).map fun p => (l.take p.2).drop p.1
theorem rowsAt_len (l cuts : List Nat) : (rowsAt l cuts).length = cuts.length + 1 := by
  unfold rowsAt; simp
theorem rowsAt_last (l cuts : List Nat) : (rowsAt l cuts)[cuts.length]? = some (l.drop (match cuts.getLast? with | none => 0 | some z => z + 1)) := by
  unfold rowsAt
  rw [List.getElem?_map]
  have h2 : (cuts ++ [l.length])[cuts.length]? = some l.length := by simp
  have h1 : (0 :: cuts.map (· + 1))[cuts.length]? = some (match cuts.getLast? with | none => 0 | some z => z + 1) := by
    cases cuts with
    | nil => rfl
    | cons a r =>
      rw [List.length_cons, List.getElem?_cons_succ, List.getElem?_map]
      rw [List.getLast?_eq_getElem?]
      simp only [List.length_cons, Nat.add_sub_cancel]
      have : r.length < (a :: r).length := by simp
      rw [List.getElem?_eq_getElem this]
      rfl
  rw [show ((0 :: cuts.map (· + 1)).zip (cuts ++ [l.length]))[cuts.length]? = some (_, l.length) from List.getElem?_zip_eq_some.mpr ⟨h1, h2⟩]
  simp
theorem rowsAt_le (l cuts : List Nat) : ∀ x ∈ rowsAt l cuts, x.length ≤ l.length := by
  intro x hx
  unfold rowsAt at hx
  obtain ⟨p, -, rfl⟩ := List.mem_map.mp hx
  simp; omega
noncomputable abbrev rows (l : List Nat) : List (List Nat) := rowsAt l (nls l l.length)
theorem rows_len (l : List Nat) : (rows l).length = nlc l l.length + 1 := by rw [rowsAt_len, nls_len]
theorem rows_last (l : List Nat) : ∃ w, (rows l)[nlc l l.length]? = some w ∧ (w.length : Int) = l.length - nll l l.length - 1 := by
  refine ⟨_, by rw [← nls_len]; exact rowsAt_last _ _, ?_⟩
  rw [nls_last, List.length_drop]
  cases q : (nls l l.length).getLast? with
  | none => simp
  | some z =>
    have := nls_lt l _ z (List.mem_of_getLast? q)
    simp; omega
theorem rel_strs {N : Led} : ∀ (xs : List Str) (t : Tok), RelAll N (strsFrom t xs) (xs.map fun x => D.str x.cps.toList)
  | [], _ => .nil
  | x :: xs, t => .cons (.str rfl) (rel_strs xs (t + 1))
theorem parts_rows {x : Str} {l : List Nat} (e : x.cps.toList = l) (cuts : List Nat) : (Builtin.Str.partsBetween x cuts 1).map (fun x => D.str x.cps.toList) = (rowsAt l cuts).map D.str := by
  unfold Builtin.Str.partsBetween rowsAt
  rw [← str_len e, List.map_map, List.map_map]
  refine List.map_congr_left fun p hp => ?_
  show D.str (Builtin.Str.strSub x p.1 p.2).cps.toList = _
  rw [sub_list e]; rfl
section
variable {G : Gl} {c : Cx} {Γ : Pairs} {ρ : Loc} {σ : Sto} {P : D → Sto → Prop} {X : XP} {R : FP} {Y : XF}
theorem StN.pushList {N FS : Led} {m : Str → Option Value} {h : Heap} (S : StN G c σ ρ Γ h N FS m) {vs : List Value} {ds : List D} (hr : RelAll N vs ds) :
    σ h.objs.size = none ∧ St G c (σ.put h.objs.size (.list ds)) ρ ((.ref h.objs.size, .ref h.objs.size) :: Γ) (h.push { cls := .type "list", data := .seq vs.toArray }) := by
  have W := News.push S.fr S.nw ({ cls := .type "list", data := .seq vs.toArray } : Obj)
  obtain ⟨S1, hn⟩ := S.alloc (S.fr.push _) W S.lt
  exact ⟨hn, ((S1.putO (o := .list ds) ⟨vs, _, .head _, hr.mono (Sub.cons _ _)⟩).put (.ref _)).st⟩
theorem split_str' {l : List Nat} (hl : l.length ≤ 100000) (h : ∀ r, σ r = none → P (.ref r) (σ.put r (.list ((rows l).map D.str)))) : Wn G c (fun vs => call (.builtin "str.split") vs) [.str l, .str [10]] ρ σ P X := wn2 fun Γ v w hv hw s Q E S q _ => by
  obtain ⟨x, t, rfl, e⟩ := S.isStr hv
  obtain ⟨y, u, rfl, e2⟩ := S.isStr hw
  obtain rfl : y = ⟨#[10]⟩ := nl_str e2
  obtain ⟨N, FS, m, S⟩ := S
  have hx := str_len e
  have hocc : Builtin.Str.occurrences x ⟨#[10]⟩ 0 x.length (x.length + 1) = nls l l.length := by rw [Nl.occ_eq e, hx, stS_list _ _ _ (by omega) _ (Nat.le_refl _)]
  have itself : nls l l.length = [] → RelAll N [Value.str x t] ((rows l).map D.str) := fun z => by
    unfold rows
    rw [z]
    have : rowsAt l [] = [l] := by simp [rowsAt]
    rw [this]
    exact .cons (.str e) .nil
  cases h1 : (decide (x.length < (⟨#[10]⟩ : Str).length) || decide (Builtin.Str.strKind x < Builtin.Str.strKind ⟨#[10]⟩))
  · cases hf : (Builtin.Str.occurrences x ⟨#[10]⟩ 0 x.length (x.length + 1)).isEmpty
    · refine call_meets F.slot_str_split (typeIs_str _ _ _) F.entry_str_split (F.args_str_split_2 _ _) (meets_str_split_sep x ⟨#[10]⟩ t u h1 rfl hf (by rw [hx, sizeLine_eq]; omega) (by
        unfold Builtin.Str.partsBetween
        rw [hocc]
        have := nlc_le l l.length
        simp [nls_len, sizeLine_eq]; omega)) ?_
      have hr : RelAll N (strsFrom s.toks (Builtin.Str.partsBetween x (Builtin.Str.occurrences x ⟨#[10]⟩ 0 x.length (x.length + 1)) 1)) ((rows l).map D.str) := by
        have := rel_strs (N := N) (Builtin.Str.partsBetween x (Builtin.Str.occurrences x ⟨#[10]⟩ 0 x.length (x.length + 1)) 1) s.toks
        rw [parts_rows e, hocc] at this
        rw [hocc]; exact this
      obtain ⟨hn, S1⟩ := S.pushList hr
      exact q _ _ _ _ _ (h _ hn) S1
    · have z : nls l l.length = [] := by rw [← hocc]; simpa using hf
      obtain ⟨hn, S1⟩ := S.pushList (itself z)
      exact call_meets F.slot_str_split (typeIs_str _ _ _) F.entry_str_split (F.args_str_split_2 _ _) (meets_str_split_not_found x ⟨#[10]⟩ t u h1 rfl hf) (q _ _ _ _ s.toks (h _ hn) S1)
  · have z : nls l l.length = [] := by
      have h2 : x.length = 0 := by
        rw [Bool.or_eq_true, decide_eq_true_eq, decide_eq_true_eq] at h1
        rcases h1 with h1 | h1
        · have : (⟨#[10]⟩ : Str).length = 1 := rfl
          omega
        · exfalso
          have : Builtin.Str.strKind ⟨#[10]⟩ = 1 := by decide +kernel
          rw [this] at h1
          unfold Builtin.Str.strKind at h1
          split at h1
          · omega
          · split at h1 <;> omega
      have : l.length = 0 := by omega
      rw [this]; rfl
    obtain ⟨hn, S1⟩ := S.pushList (itself z)
    exact call_meets F.slot_str_split (typeIs_str _ _ _) F.entry_str_split (F.args_str_split_2 _ _) (meets_str_split_cannot_occur x ⟨#[10]⟩ t u h1) (q _ _ _ _ s.toks (h _ hn) S1)
end
end Mine
set_option maxHeartbeats 1000000
namespace Mine
open PySem PySem.W PySem.Calls PyProof.Rows
open Builtin
theorem bsplit_tree (b : Array UInt8) (t u : Tok) : Builtin.«bytes.split» ⟨[.bytes b t, .bytes #[10] u], []⟩ =
    (Builtin.Bytes.payload (.bytes b t) >>= fun b => Builtin.Bytes.bytesLike "bytes.split" (.bytes #[10] u) >>= fun sep => (do
      if sep.isEmpty then rule "bytes.split.empty-separator"; raiseError "ValueError" "empty separator"
      let places := (Builtin.Bytes.occurrences b sep 0 b.size).take (b.size + 1)
      if places.isEmpty then rule "bytes.split.no-separator"; return ← ret (← newList [← Builtin.Bytes.Kind.bytes.same (.bytes b t)])
      ret (← newList (← (Builtin.Bytes.between b sep.size places).mapM Builtin.Bytes.Kind.bytes.new)))) := by kernel_rfl
theorem bsplit_pure (b : Array UInt8) (t u : Tok) : Builtin.«bytes.split» ⟨[.bytes b t, .bytes #[10] u], []⟩ =
    (if ((Builtin.Bytes.occurrences b #[10] 0 b.size).take (b.size + 1)).isEmpty = true then (rule "bytes.split.no-separator" >>= fun _ => newList [.bytes b t] >>= fun r => ret r)
      else ((Builtin.Bytes.between b 1 ((Builtin.Bytes.occurrences b #[10] 0 b.size).take (b.size + 1))).mapM mkBytes >>= fun vs => newList vs >>= fun r => ret r)) := by
  rw [bsplit_tree]
  have h1 : Builtin.Bytes.payload (.bytes b t) = pure b := rfl
  have h2 : Builtin.Bytes.bytesLike "bytes.split" (.bytes #[10] u) = pure #[10] := by
    unfold Builtin.Bytes.bytesLike
    rw [KBy.buffer_eq, pure_bind]
  have h3 : Builtin.Bytes.Kind.bytes.same (.bytes b t) = pure (.bytes b t) := by kernel_rfl
  rw [h1, pure_bind, h2, pure_bind]
  simp only [h3, pure_bind]
  cases ((Builtin.Bytes.occurrences b #[10] 0 b.size).take (b.size + 1)).isEmpty
  · rfl
  · rfl
namespace BF
open PySem.W.FB
theorem slot_split : Slot "bytes" "split" "bytes.split" :=
  .of (owner := "bytes") (n := "split") (by rw [typeLookup_type, builtinLookup_eq_fast]; kernel_rfl) (by decide +kernel) (by decide +kernel) (by decide +kernel)
    (by first | exact .inl (by decide +kernel) | exact .inr (by decide +kernel)) (by rw [isSubtype_type]; kernel_rfl)
theorem type_split : typeOf (.builtin "bytes.split") = pure (.type "method_descriptor") := by show builtinType _ = _; rw [builtinType_eq_fast]; kernel_rfl
theorem entry_split : entryFor table "bytes.split" = some Builtin.«bytes.split» := entryFor_of_tree (by kernel_rfl)
theorem args_split (a b : Value) : argsOk "bytes.split" ⟨[a, b], []⟩ := by
  unfold argsOk; rw [signature?_of (id := "bytes.split") (n := ['t', 'i', 'l', 'p', 's']) (o := ['s', 'e', 't', 'y', 'b']) (by kernel_rfl) owner_bytes]; kernel_rfl
end BF
noncomputable def bytesFrom : Tok → List (Array UInt8) → List Value
  | _, [] => []
  | t, b :: r => .bytes b t :: bytesFrom (t + 1) r
theorem mapM_mkBytes {M : Model} {A : Around} {E : Value → Shared → Prop} : ∀ (l : List (Array UInt8)) (s : Shared) (Q : List Value → Shared → Prop), (∀ p ∈ l, p.size ≤ sizeLine) → Q (bytesFrom s.toks l) { s with toks := s.toks + l.length } → wpAny M A (l.mapM mkBytes) Q E s
  | [], s, Q, _, h => by rw [List.mapM_nil]; exact wpAny_pure h
  | a :: r, s, Q, hz, h => by
    rw [List.mapM_cons]
    refine wpAny_bind (wpAny_mkBytes (wpAny_bind (mapM_mkBytes r _ _ (fun p hp => hz p (.tail _ hp)) (wpAny_pure ?_))) (hz a (.head _)))
    have e : s.toks + 1 + r.length = s.toks + (a :: r).length := by simp [Nat.add_comm, Nat.add_left_comm]
    show Q (.bytes a s.toks :: bytesFrom (s.toks + 1) r) { s with toks := s.toks + 1 + r.length }
    rw [e]; exact h
theorem rel_byts {N : Led} : ∀ (xs : List (Array UInt8)) (t : Tok), RelAll N (bytesFrom t xs) (xs.map fun b => D.bytes (b.toList.map UInt8.toNat))
  | [], _ => .nil
  | x :: xs, t => .cons (.bytes rfl) (rel_byts xs (t + 1))
theorem ext_cut {b : Array UInt8} {l : List Nat} (e : b.toList.map UInt8.toNat = l) (i j : Nat) : (b.extract i j).toList.map UInt8.toNat = (l.take j).drop i := by
  subst e
  rw [Array.toList_extract, List.extract_eq_take_drop, ← List.map_take, ← List.map_drop, List.drop_take]
theorem between_go (b : Array UInt8) : ∀ (cuts : List Nat) (parts : Array (Array UInt8)) (last : Nat),
    (let r := cuts.foldl (fun (x : Array (Array UInt8) × Nat) p => (x.1.push (b.extract x.2 p), p + 1)) (parts, last); (r.1.push (b.extract r.2 b.size)).toList) = parts.toList ++ ((last :: cuts.map (· + 1)).zip (cuts ++ [b.size])).map fun p => b.extract p.1 p.2
  | [], parts, last => by simp
  | c :: cuts, parts, last => by
    have := between_go b cuts (parts.push (b.extract last c)) (c + 1)
    simp only [List.foldl_cons] at this ⊢
    rw [this]
    simp
theorem between_rows {b : Array UInt8} {l : List Nat} (e : b.toList.map UInt8.toNat = l) (cuts : List Nat) : (Builtin.Bytes.between b 1 cuts).map (fun b => D.bytes (b.toList.map UInt8.toNat)) = (rowsAt l cuts).map D.bytes := by
  have h := between_go b cuts #[] 0
  have hb : b.size = l.length := bytes_size e
  have : Builtin.Bytes.between b 1 cuts = ((0 :: cuts.map (· + 1)).zip (cuts ++ [b.size])).map fun p => b.extract p.1 p.2 := by
    rw [show ([] : List (Array UInt8)) = (#[] : Array (Array UInt8)).toList from rfl] at *
    exact h.trans (by simp)
  rw [this, hb]
  unfold rowsAt
  rw [List.map_map, List.map_map]
  refine List.map_congr_left fun p hp => ?_
  show D.bytes _ = D.bytes _
  rw [ext_cut e]
theorem bocc_list {b : Array UInt8} {l : List Nat} (e : b.toList.map UInt8.toNat = l) : ∀ n, ((List.range n).foldl (BF.stB b) ([], 0)).1.reverse = nls l n ∧ ((List.range n).foldl (BF.stB b) ([], 0)).2 ≤ n
  | 0 => ⟨rfl, Nat.le_refl _⟩
  | n + 1 => by
    obtain ⟨h1, h2⟩ := bocc_list e n
    rw [List.range_succ, List.foldl_append, nls_succ]
    simp only [List.foldl_cons, List.foldl_nil]
    generalize (List.range n).foldl (BF.stB b) ([], 0) = r at h1 h2
    unfold BF.stB
    rw [BF.ext_one e]
    by_cases q : l[n]? = some 10
    · rw [if_pos (by simp [q, h2]), if_pos q]; simp [h1]
    · rw [if_neg (by simp [q]), if_neg q]; exact ⟨by simpa using h1, by omega⟩
theorem bocc_nls {b : Array UInt8} {l : List Nat} (e : b.toList.map UInt8.toNat = l) : (Builtin.Bytes.occurrences b #[10] 0 b.size).take (b.size + 1) = nls l l.length := by
  have hb : b.size = l.length := bytes_size e
  have h : Builtin.Bytes.occurrences b #[10] 0 b.size = nls l b.size := by
    rw [← (bocc_list e b.size).1]
    unfold Builtin.Bytes.occurrences
    have : (List.map (fun x => x + 0) (List.range (b.size + 1 - (0 + (#[10] : Array UInt8).size)))) = List.range b.size := by simp
    rw [this]
    rfl
  rw [h, hb, List.take_of_length_le]
  have := nlc_le l l.length
  rw [nls_len]; omega
section
variable {G : Gl} {c : Cx} {Γ : Pairs} {ρ : Loc} {σ : Sto} {P : D → Sto → Prop} {X : XP} {R : FP} {Y : XF}
theorem split_bytes' {l : List Nat} (hl : l.length ≤ 100000) (h : ∀ r, σ r = none → P (.ref r) (σ.put r (.list ((rows l).map D.bytes)))) : Wn G c (fun vs => call (.builtin "bytes.split") vs) [.bytes l, .bytes [10]] ρ σ P X := wn2 fun Γ v w hv hw s Q E S q _ => by
  obtain ⟨b, t, rfl, e⟩ := S.isBytes hv
  obtain ⟨y, u, rfl, e2⟩ := S.isBytes hw
  obtain rfl : y = #[10] := nl_bytes e2
  obtain ⟨N, FS, m, S⟩ := S
  have hb : b.size = l.length := bytes_size e
  refine wpAny_call_entry BF.slot_split (typeIs_bytes _ _ _) BF.entry_split ?_ (BF.args_split _ _)
  rw [bsplit_pure, bocc_nls e]
  cases hf : (nls l l.length).isEmpty
  · rw [if_neg (by decide)]
    have hz : ∀ p ∈ Builtin.Bytes.between b 1 (nls l l.length), p.size ≤ sizeLine := fun p hp => by
      have h1 : D.bytes (p.toList.map UInt8.toNat) ∈ (rows l).map D.bytes := by
        show _ ∈ (rowsAt l (nls l l.length)).map D.bytes
        rw [← between_rows e]; exact List.mem_map.mpr ⟨p, hp, rfl⟩
      obtain ⟨x, hx, ex⟩ := List.mem_map.mp h1
      have h2 := rowsAt_le l _ x hx
      injection ex with ex
      rw [ex] at h2
      simp only [List.length_map, Array.length_toList] at h2
      rw [sizeLine_eq]; omega
    refine wpAny_bind (mapM_mkBytes _ _ _ hz (wpAny_bind (wpAny_newList ?_ ?_)))
    · have hr : RelAll N (bytesFrom s.toks (Builtin.Bytes.between b 1 (nls l l.length))) ((rows l).map D.bytes) := by
        have := rel_byts (N := N) (Builtin.Bytes.between b 1 (nls l l.length)) s.toks
        rwa [between_rows e] at this
      obtain ⟨hn, S1⟩ := S.pushList hr
      exact wpAny_pure ⟨_, rfl, q _ _ _ _ _ (h _ hn) S1⟩
    · have h1 : (bytesFrom s.toks (Builtin.Bytes.between b 1 (nls l l.length))).length = (rows l).length := by
        have := (rel_byts (N := N) (Builtin.Bytes.between b 1 (nls l l.length)) s.toks).length
        rw [between_rows e, List.length_map] at this
        exact this
      rw [h1, rows_len, sizeLine_eq]
      have := nlc_le l l.length
      omega
  · rw [if_pos rfl]
    have z : nls l l.length = [] := by simpa using hf
    have hr : RelAll N [Value.bytes b t] ((rows l).map D.bytes) := by
      unfold rows
      rw [z]
      have : rowsAt l [] = [l] := by simp [rowsAt]
      rw [this]
      exact .cons (.bytes e) .nil
    obtain ⟨hn, S1⟩ := S.pushList hr
    exact wpAny_bind (wpAny_rule (wpAny_bind (wpAny_newList (wpAny_pure ⟨_, rfl, q _ _ _ _ s.toks (h _ hn) S1⟩) (by show 1 ≤ sizeLine; decide))))
end
end Mine
open PySem PySem.W PyProof.Rows
set_option maxHeartbeats 8000000
namespace Mine
noncomputable abbrev rwp : Program := PySem.Challenge.rw_io0014_04.row.prog
/-- the top without its classes -/
noncomputable def view : Program := { rwp with main := { rwp.main with body := rwp.main.body.take 2 ++ ((rwp.main.body.drop 4).take 1 ++ rwp.main.body.drop 6) } }
noncomputable abbrev oL : List Str := [PySem.Str.ofString "PatternError", PySem.Str.ofString "error_constants", PySem.Str.ofString "Tokenizer"]
noncomputable abbrev oX (s : Shared) : Bool := xlAt Mine.view [] s && recOk (RowW.records PySem.Challenge.rw_io0014_04.row.toRowW) s
theorem oX1 (s : Shared) (e : oX s = true) : XL Mine.view [] (s.heap.nsMap mainGlobals) s.heap := xl_of s (Bool.and_eq_true_iff.mp e).1
theorem oX2 (s : Shared) (e : oX s = true) : RecFacts (RowW.records PySem.Challenge.rw_io0014_04.row.toRowW) s.heap := recFacts_of (Bool.and_eq_true_iff.mp e).2
theorem oB : Mine.rwp.bare := ⟨rfl, rfl, rfl, rfl, rfl, by decide +kernel⟩
noncomputable abbrev oH (H : Hook) (hl : LeftO PySem.Challenge.rw_io0014_04.row.prog Mine.view Mine.oL Mine.oX H.obs H.val 2600) := holds_open (r := PySem.Challenge.rw_io0014_04.row) (q := Mine.view) (loose := Mine.oL) (Xt := Mine.oX) (XP := XL Mine.view []) (Yf := H.obs) (Ya := H.val) (YP := H.says) (N := 2600) hl H.of H.keeps Mine.oX1 XL.keeps rfl rfl rfl Mine.oX2 rfl (by decide +kernel) (by decide +kernel) Mine.oB
-- the head, checked at once and not in pieces (the compiled file is smaller)
local macro_rules | `(tactic| o_head $H) => `(tactic| (refine Mine.oH $H ?hl ?hw ?hc; (case hl => intro w; kernel_rfl)))
open_top hd for PySem.Challenge.rw_io0014_04
noncomputable abbrev hp := @hd.heap_39
noncomputable abbrev aPE : Addr := 41
noncomputable abbrev aPEi : Addr := 38
noncomputable abbrev aPEc : Addr := 25
noncomputable abbrev aPEk : Addr := 37
noncomputable abbrev aTk : Addr := 133
noncomputable abbrev aInit : Addr := 58
noncomputable abbrev aNext : Addr := 65
noncomputable abbrev aGet : Addr := 79
noncomputable abbrev aOct : Addr := 142
noncomputable abbrev aWords : Addr := 149
noncomputable abbrev aTold : Addr := 156
noncomputable abbrev aReading : Addr := 163
end Mine
set_option maxHeartbeats 4000000
namespace Mine
open PySem PySem.W PySem.Calls PyProof.Rows
structure G2 (G : Gl) : Prop where
  K : G.K = Mine.hp G.w.params
  prog : G.prog = Mine.rwp
noncomputable def bad : List Nat := lit "bad escape (end of pattern)"
noncomputable def perrW (l : List Nat) (p : Nat) : List Nat :=
  if 10 ∈ l then bad ++ lit " at position " ++ dig p ++ lit " (line " ++ dig (nlc l p + 1) ++ lit ", column " ++ dig (p - nll l p) ++ lit ")" else bad ++ lit " at position " ++ dig p
noncomputable def perrF (pat : D) (l : List Nat) (p : Nat) : List (Str × D) := [("msg", .str bad), ("pattern", pat), ("pos", .int p), ("lineno", .int (nlc l p + 1)), ("colno", .int (p - nll l p))]
section
variable {G : Gl}
theorem C_perr_str (hG : G2 G) {σ : Sto} {e t e0 : Addr} {l : List Nat} {p : Nat} (hp : p ≤ l.length) (hl : l.length ≤ 100000) (he : σ e = some (.obj (excNew aPE t))) (hne : e ≠ e0) (h0 : σ e0 ≠ none) :
    FnC G (HX σ e0) 1 (.ref aPEi) [.ref e, .str bad, .str l, .int p] σ (fun d σ' => d = .none ∧ ∃ dx, σ dx = none ∧ dx ≠ e ∧ ∀ a o, exS σ e aPE dx (perrF (.str l) l p) (.tup [.str (perrW l p)]) a = some o → σ' a = some o) (fun _ _ => False) := by
  have hK := hG.K
  have hnn := nll_ge l p
  have hnl := nll_lt l p
  have hnc := nlc_le l p
  refine fn_introAt (xs := ["self", "msg", "pattern", "pos"]) (by rw [hK]; rfl) (by (rw [‹Gl.K _ = Mine.hp _›]; kernel_rfl)) rfl (fun s vs X0 hvs => ?_) (by decide +kernel) (by decide +kernel) (by decide +kernel) rfl rfl rfl rfl rfl ?_
  · obtain ⟨a, b, c, d, rfl⟩ := len4 hvs
    exact binds_K X0 rfl (by rw [hK]; rfl) rfl rfl rfl
  · rintro ⟨A', env', stk'⟩ Γ L F rm hh rfl
    refine WSA_cons (Wx_AssignA rfl ?_ (fun _ _ h => h))
    (with_reducible refine WE_local (d := ?dx1) ?k1x1 ?k2x1 ?k3x1 ?k4x1 ?_); (case k1x1 => rfl); (case k2x1 => rfl); (case k3x1 => rfl); (case k4x1 => (with_reducible refine locOf_miss (by decide +kernel) ?_; with_reducible exact locOf_same))
    intro _
    (with_reducible refine WE_local (d := ?dx2) ?k1x2 ?k2x2 ?k3x2 ?k4x2 ?_); (case k1x2 => rfl); (case k2x2 => rfl); (case k3x2 => rfl); (case k4x2 => with_reducible exact locOf_same)
    refine ⟨e, rfl, setA_new he (by (rw [‹Gl.K _ = Mine.hp _›]; kernel_rfl)) fun dx hdx hdxe => ?_⟩
    show WSA _ _ _ _ _ _ (exS σ e aPE dx _ _) _ _
    have hdx0 : e0 ≠ dx := fun q => h0 (q ▸ hdx)
    refine WSA_cons (Wx_AssignA rfl ?_ (fun _ _ h => h))
    (with_reducible refine WE_local (d := ?dx3) ?k1x3 ?k2x3 ?k3x3 ?k4x3 ?_); (case k1x3 => rfl); (case k2x3 => rfl); (case k3x3 => rfl); (case k4x3 => (with_reducible refine locOf_miss (by decide +kernel) ?_; (with_reducible refine locOf_miss (by decide +kernel) ?_; with_reducible exact locOf_same)))
    intro _
    (with_reducible refine WE_local (d := ?dx4) ?k1x4 ?k2x4 ?k3x4 ?k4x4 ?_); (case k1x4 => rfl); (case k2x4 => rfl); (case k3x4 => rfl); (case k4x4 => with_reducible exact locOf_same)
    refine ⟨e, rfl, setA_S hdxe (by (rw [‹Gl.K _ = Mine.hp _›]; kernel_rfl)) (Nat.le_of_ble_eq_true rfl) rfl ?_⟩
    refine WSA_cons (Wx_AssignA rfl ?_ (fun _ _ h => h))
    (with_reducible refine WE_local (d := ?dx5) ?k1x5 ?k2x5 ?k3x5 ?k4x5 ?_); (case k1x5 => rfl); (case k2x5 => rfl); (case k3x5 => rfl); (case k4x5 => (with_reducible refine locOf_miss (by decide +kernel) ?_; (with_reducible refine locOf_miss (by decide +kernel) ?_; (with_reducible refine locOf_miss (by decide +kernel) ?_; with_reducible exact locOf_same))))
    intro _
    (with_reducible refine WE_local (d := ?dx6) ?k1x6 ?k2x6 ?k3x6 ?k4x6 ?_); (case k1x6 => rfl); (case k2x6 => rfl); (case k3x6 => rfl); (case k4x6 => with_reducible exact locOf_same)
    refine ⟨e, rfl, setA_S hdxe (by (rw [‹Gl.K _ = Mine.hp _›]; kernel_rfl)) (Nat.le_of_ble_eq_true rfl) rfl ?_⟩
    refine WSA_cons (Wx_If ?_ (fun _ _ h => h))
    refine WT_And (WT_Compare rfl ?_)
    (with_reducible refine WE_local (d := ?dx7) ?k1x7 ?k2x7 ?k3x7 ?k4x7 ?_); (case k1x7 => rfl); (case k2x7 => rfl); (case k3x7 => rfl); (case k4x7 => (with_reducible refine locOf_miss (by decide +kernel) ?_; (with_reducible refine locOf_miss (by decide +kernel) ?_; with_reducible exact locOf_same)))
    intro _
    refine WE_None (isNot_str_none (B1_bool ?_))
    refine WT_Compare rfl ?_
    (with_reducible refine WE_local (d := ?dx8) ?k1x8 ?k2x8 ?k3x8 ?k4x8 ?_); (case k1x8 => rfl); (case k2x8 => rfl); (case k3x8 => rfl); (case k4x8 => (with_reducible refine locOf_miss (by decide +kernel) ?_; (with_reducible refine locOf_miss (by decide +kernel) ?_; (with_reducible refine locOf_miss (by decide +kernel) ?_; with_reducible exact locOf_same))))
    intro _
    refine WE_None (isNot_int_none (B1_bool ?_))
    show Wxs _ _ _ _ _ _ _ _
    refine Wxs_cons (Wx_Assign rfl rfl rfl ?_ (fun _ _ h => h))
    refine WE_BinOp (WE_Str rfl ?_)
    intro _
    refine WE_tuple (WL_cons rfl ?_)
    (with_reducible refine WE_local (d := ?dx9) ?k1x9 ?k2x9 ?k3x9 ?k4x9 ?_); (case k1x9 => rfl); (case k2x9 => rfl); (case k3x9 => rfl); (case k4x9 => (with_reducible refine locOf_miss (by decide +kernel) ?_; with_reducible exact locOf_same))
    intro _
    refine WL_cons rfl ?_
    (with_reducible refine WE_local (d := ?dx10) ?k1x10 ?k2x10 ?k3x10 ?k4x10 ?_); (case k1x10 => rfl); (case k2x10 => rfl); (case k3x10 => rfl); (case k4x10 => (with_reducible refine locOf_miss (by decide +kernel) ?_; (with_reducible refine locOf_miss (by decide +kernel) ?_; (with_reducible refine locOf_miss (by decide +kernel) ?_; with_reducible exact locOf_same))))
    intro _
    refine WL_nil ⟨Nat.le_of_ble_eq_true rfl, pct1 rfl (by omega) (by omega) (by decide +kernel) ?_⟩
    refine Wxs_cons (Wx_If (WT_value rfl ?_) (fun _ _ h => h))
    refine WE_bcall callee_builtin rfl rfl rfl rfl rfl (by (rw [‹Gl.K _ = Mine.hp _›]; kernel_rfl)) boot_isinstance (by decide +kernel) rfl rfl rfl rfl fun _ => ?_
    refine WL_cons rfl ?_
    (with_reducible refine WE_local (d := ?dx11) ?k1x11 ?k2x11 ?k3x11 ?k4x11 ?_); (case k1x11 => rfl); (case k2x11 => rfl); (case k3x11 => rfl); (case k4x11 => (with_reducible refine get_miss (by decide +kernel) ?_; (with_reducible refine locOf_miss (by decide +kernel) ?_; (with_reducible refine locOf_miss (by decide +kernel) ?_; with_reducible exact locOf_same))))
    intro _
    refine WL_cons rfl ?_
    refine WE_boot rfl rfl rfl rfl rfl (by (rw [‹Gl.K _ = Mine.hp _›]; kernel_rfl)) boot_str (by decide +kernel) rfl ?_
    intro _
    refine WL_nil (isi_str (B1_bool ?_))
    show Wxs _ _ _ _ _ _ _ _
    refine Wxs_cons (Wx_Assign rfl rfl rfl ?_ (fun _ _ h => h))
    refine WE_Str rfl ?_
    refine Wxs_nil ?_
    refine Wxs_cons (Wx_AssignA rfl ?_ (fun _ _ h => h))
    refine WE_BinOp (WE_meth rfl rfl rfl ?_)
    (with_reducible refine WE_local (d := ?dx12) ?k1x12 ?k2x12 ?k3x12 ?k4x12 ?_); (case k1x12 => rfl); (case k2x12 => rfl); (case k3x12 => rfl); (case k4x12 => (with_reducible refine get_miss (by decide +kernel) ?_; (with_reducible refine get_miss (by decide +kernel) ?_; (with_reducible refine locOf_miss (by decide +kernel) ?_; (with_reducible refine locOf_miss (by decide +kernel) ?_; with_reducible exact locOf_same)))))
    refine ⟨_, gm_str PySem.F.slot_str_count PySem.F.type_str_count, callee_builtin, fun _ => ?_⟩
    refine WL_cons rfl ?_
    (with_reducible refine WE_local (d := ?dx13) ?k1x13 ?k2x13 ?k3x13 ?k4x13 ?_); (case k1x13 => rfl); (case k2x13 => rfl); (case k3x13 => rfl); (case k4x13 => with_reducible exact get_same)
    intro _
    refine WL_cons rfl (WE_Int ?_)
    intro _
    refine WL_cons rfl ?_
    (with_reducible refine WE_local (d := ?dx14) ?k1x14 ?k2x14 ?k3x14 ?k4x14 ?_); (case k1x14 => rfl); (case k2x14 => rfl); (case k3x14 => rfl); (case k4x14 => (with_reducible refine get_miss (by decide +kernel) ?_; (with_reducible refine get_miss (by decide +kernel) ?_; (with_reducible refine locOf_miss (by decide +kernel) ?_; (with_reducible refine locOf_miss (by decide +kernel) ?_; (with_reducible refine locOf_miss (by decide +kernel) ?_; with_reducible exact locOf_same))))))
    intro _
    refine WL_nil (count_str' hp ?_)
    intro _
    refine WE_Int (add_int' ?_)
    intro _
    (with_reducible refine WE_local (d := ?dx15) ?k1x15 ?k2x15 ?k3x15 ?k4x15 ?_); (case k1x15 => rfl); (case k2x15 => rfl); (case k3x15 => rfl); (case k4x15 => (with_reducible refine get_miss (by decide +kernel) ?_; (with_reducible refine get_miss (by decide +kernel) ?_; with_reducible exact locOf_same)))
    refine ⟨e, rfl, setA_S hdxe (by (rw [‹Gl.K _ = Mine.hp _›]; kernel_rfl)) (Nat.le_of_ble_eq_true rfl) rfl ?_⟩
    refine Wxs_cons (Wx_AssignA rfl ?_ (fun _ _ h => h))
    refine WE_BinOp ?_
    (with_reducible refine WE_local (d := ?dx16) ?k1x16 ?k2x16 ?k3x16 ?k4x16 ?_); (case k1x16 => rfl); (case k2x16 => rfl); (case k3x16 => rfl); (case k4x16 => (with_reducible refine get_miss (by decide +kernel) ?_; (with_reducible refine get_miss (by decide +kernel) ?_; (with_reducible refine locOf_miss (by decide +kernel) ?_; (with_reducible refine locOf_miss (by decide +kernel) ?_; (with_reducible refine locOf_miss (by decide +kernel) ?_; with_reducible exact locOf_same))))))
    intro _
    refine WE_meth rfl rfl rfl ?_
    (with_reducible refine WE_local (d := ?dx17) ?k1x17 ?k2x17 ?k3x17 ?k4x17 ?_); (case k1x17 => rfl); (case k2x17 => rfl); (case k3x17 => rfl); (case k4x17 => (with_reducible refine get_miss (by decide +kernel) ?_; (with_reducible refine get_miss (by decide +kernel) ?_; (with_reducible refine locOf_miss (by decide +kernel) ?_; (with_reducible refine locOf_miss (by decide +kernel) ?_; with_reducible exact locOf_same)))))
    refine ⟨_, gm_str PySem.F.slot_str_rfind PySem.F.type_str_rfind, callee_builtin, fun _ => ?_⟩
    refine WL_cons rfl ?_
    (with_reducible refine WE_local (d := ?dx18) ?k1x18 ?k2x18 ?k3x18 ?k4x18 ?_); (case k1x18 => rfl); (case k2x18 => rfl); (case k3x18 => rfl); (case k4x18 => with_reducible exact get_same)
    intro _
    refine WL_cons rfl (WE_Int ?_)
    intro _
    refine WL_cons rfl ?_
    (with_reducible refine WE_local (d := ?dx19) ?k1x19 ?k2x19 ?k3x19 ?k4x19 ?_); (case k1x19 => rfl); (case k2x19 => rfl); (case k3x19 => rfl); (case k4x19 => (with_reducible refine get_miss (by decide +kernel) ?_; (with_reducible refine get_miss (by decide +kernel) ?_; (with_reducible refine locOf_miss (by decide +kernel) ?_; (with_reducible refine locOf_miss (by decide +kernel) ?_; (with_reducible refine locOf_miss (by decide +kernel) ?_; with_reducible exact locOf_same))))))
    intro _
    refine WL_nil (rfind_str' hp ?_)
    refine sub_int' ?_
    intro _
    (with_reducible refine WE_local (d := ?dx20) ?k1x20 ?k2x20 ?k3x20 ?k4x20 ?_); (case k1x20 => rfl); (case k2x20 => rfl); (case k3x20 => rfl); (case k4x20 => (with_reducible refine get_miss (by decide +kernel) ?_; (with_reducible refine get_miss (by decide +kernel) ?_; with_reducible exact locOf_same)))
    refine ⟨e, rfl, setA_S hdxe (by (rw [‹Gl.K _ = Mine.hp _›]; kernel_rfl)) (Nat.le_of_ble_eq_true rfl) rfl ?_⟩
    refine Wxs_cons (Wx_If (WT_Compare rfl ?_) (fun _ _ h => h))
    (with_reducible refine WE_local (d := ?dx21) ?k1x21 ?k2x21 ?k3x21 ?k4x21 ?_); (case k1x21 => rfl); (case k2x21 => rfl); (case k3x21 => rfl); (case k4x21 => with_reducible exact get_same)
    intro _
    (with_reducible refine WE_local (d := ?dx22) ?k1x22 ?k2x22 ?k3x22 ?k4x22 ?_); (case k1x22 => rfl); (case k2x22 => rfl); (case k3x22 => rfl); (case k4x22 => (with_reducible refine get_miss (by decide +kernel) ?_; (with_reducible refine get_miss (by decide +kernel) ?_; (with_reducible refine locOf_miss (by decide +kernel) ?_; (with_reducible refine locOf_miss (by decide +kernel) ?_; with_reducible exact locOf_same)))))
    refine in_str' (B1_bool ?_)
    by_cases hm : 10 ∈ l
    · rw [if_pos (decide_eq_true hm)]
      refine Wxs_cons (Wx_Assign rfl rfl rfl ?_ (fun _ _ h => h))
      refine WE_BinOp (WE_Str rfl ?_)
      intro _
      refine WE_tuple (WL_cons rfl ?_)
      (with_reducible refine WE_local (d := ?dx23) ?k1x23 ?k2x23 ?k3x23 ?k4x23 ?_); (case k1x23 => rfl); (case k2x23 => rfl); (case k3x23 => rfl); (case k4x23 => (with_reducible refine get_miss (by decide +kernel) ?_; with_reducible exact get_same))
      intro _
      refine WL_cons rfl (WE_attr ?_)
      (with_reducible refine WE_local (d := ?dx24) ?k1x24 ?k2x24 ?k3x24 ?k4x24 ?_); (case k1x24 => rfl); (case k2x24 => rfl); (case k3x24 => rfl); (case k4x24 => (with_reducible refine get_miss (by decide +kernel) ?_; (with_reducible refine get_miss (by decide +kernel) ?_; with_reducible exact locOf_same)))
      refine getA_S hdxe (by (rw [‹Gl.K _ = Mine.hp _›]; kernel_rfl)) rfl ?_
      intro _
      refine WL_cons rfl (WE_attr ?_)
      (with_reducible refine WE_local (d := ?dx25) ?k1x25 ?k2x25 ?k3x25 ?k4x25 ?_); (case k1x25 => rfl); (case k2x25 => rfl); (case k3x25 => rfl); (case k4x25 => (with_reducible refine get_miss (by decide +kernel) ?_; (with_reducible refine get_miss (by decide +kernel) ?_; with_reducible exact locOf_same)))
      refine getA_S hdxe (by (rw [‹Gl.K _ = Mine.hp _›]; kernel_rfl)) rfl ?_
      intro _
      refine WL_nil ⟨Nat.le_of_ble_eq_true rfl, pct2 rfl (by omega) (by omega) (by omega) (by omega) ?_ ?_⟩
      · have := dig_len (n := p) (by omega) (by omega)
        simp only [List.length_append]
        have h1 : bad.length ≤ 100 := by decide +kernel
        have h2 : (lit " at position ").length ≤ 100 := by decide +kernel
        omega
      refine Wxs_nil (Wxs_nil ?_)
      refine WSA_last (super_init (f := aPEi) (cc := aPEc) (cda := aPEk) (C := aPE) (e := e) (dx := dx) (a0 := .none) F rfl rfl rfl rfl rfl rfl rfl (by rw [hK]; rfl) rfl rfl (by rw [hK]; rfl) rfl ?_ ?_ (by rw [hK]; rfl) rfl (by (with_reducible refine get_miss (by decide +kernel) ?_; (with_reducible refine get_miss (by decide +kernel) ?_; (with_reducible refine get_miss (by decide +kernel) ?_; with_reducible exact locOf_same)))) rfl (by (rw [‹Gl.K _ = Mine.hp _›]; kernel_rfl)) rfl rfl (by (rw [‹Gl.K _ = Mine.hp _›]; kernel_rfl)) (by (rw [‹Gl.K _ = Mine.hp _›]; kernel_rfl)) (by (rw [‹Gl.K _ = Mine.hp _›]; kernel_rfl)) exS_e ?_ (fun _ _ h => h))
      · rw [hG.prog]; kernel_rfl
      · rw [hG.prog]; kernel_rfl
      · intro u hu
        (with_reducible refine WE_local (d := ?dx26) ?k1x26 ?k2x26 ?k3x26 ?k4x26 ?_); (case k1x26 => rfl); (case k2x26 => rfl); (case k3x26 => rfl); (case k4x26 => with_reducible exact get_same)
        have hue : u ≠ e := fun q => by rw [q, exS_e] at hu; cases hu
        refine ⟨_, Sto.put_same _ _ _, (Sto.put_ne _ _ hue.symm).trans exS_e, exS σ e aPE dx _ _, exS_fin hu hue rfl (by unfold perrW; rw [if_pos hm]), rfl, dx, hdx, hdxe, fun a o ha => ha⟩
    · rw [if_neg (by simpa using hm)]
      refine Wxs_nil (Wxs_nil ?_)
      refine WSA_last (super_init (f := aPEi) (cc := aPEc) (cda := aPEk) (C := aPE) (e := e) (dx := dx) (a0 := .none) F rfl rfl rfl rfl rfl rfl rfl (by rw [hK]; rfl) rfl rfl (by rw [hK]; rfl) rfl ?_ ?_ (by rw [hK]; rfl) rfl (by (with_reducible refine get_miss (by decide +kernel) ?_; (with_reducible refine get_miss (by decide +kernel) ?_; with_reducible exact locOf_same))) rfl (by (rw [‹Gl.K _ = Mine.hp _›]; kernel_rfl)) rfl rfl (by (rw [‹Gl.K _ = Mine.hp _›]; kernel_rfl)) (by (rw [‹Gl.K _ = Mine.hp _›]; kernel_rfl)) (by (rw [‹Gl.K _ = Mine.hp _›]; kernel_rfl)) exS_e ?_ (fun _ _ h => h))
      · rw [hG.prog]; kernel_rfl
      · rw [hG.prog]; kernel_rfl
      · intro u hu
        (with_reducible refine WE_local (d := ?dx27) ?k1x27 ?k2x27 ?k3x27 ?k4x27 ?_); (case k1x27 => rfl); (case k2x27 => rfl); (case k3x27 => rfl); (case k4x27 => (with_reducible refine get_miss (by decide +kernel) ?_; with_reducible exact get_same))
        have hue : u ≠ e := fun q => by rw [q, exS_e] at hu; cases hu
        refine ⟨_, Sto.put_same _ _ _, (Sto.put_ne _ _ hue.symm).trans exS_e, exS σ e aPE dx _ _, exS_fin hu hue rfl (by unfold perrW; rw [if_neg hm]), rfl, dx, hdx, hdxe, fun a o ha => ha⟩
theorem C_perr_bytes (hG : G2 G) {σ : Sto} {e t e0 : Addr} {l : List Nat} {p : Nat} (hp : p ≤ l.length) (hl : l.length ≤ 100000) (he : σ e = some (.obj (excNew aPE t))) (hne : e ≠ e0) (h0 : σ e0 ≠ none) :
    FnC G (HX σ e0) 1 (.ref aPEi) [.ref e, .str bad, .bytes l, .int p] σ (fun d σ' => d = .none ∧ ∃ dx, σ dx = none ∧ dx ≠ e ∧ ∀ a o, exS σ e aPE dx (perrF (.bytes l) l p) (.tup [.str (perrW l p)]) a = some o → σ' a = some o) (fun _ _ => False) := by
  have hK := hG.K
  have hnn := nll_ge l p
  have hnl := nll_lt l p
  have hnc := nlc_le l p
  refine fn_introAt (xs := ["self", "msg", "pattern", "pos"]) (by rw [hK]; rfl) (by (rw [‹Gl.K _ = Mine.hp _›]; kernel_rfl)) rfl (fun s vs X0 hvs => ?_) (by decide +kernel) (by decide +kernel) (by decide +kernel) rfl rfl rfl rfl rfl ?_
  · obtain ⟨a, b, c, d, rfl⟩ := len4 hvs
    exact binds_K X0 rfl (by rw [hK]; rfl) rfl rfl rfl
  · rintro ⟨A', env', stk'⟩ Γ L F rm hh rfl
    refine WSA_cons (Wx_AssignA rfl ?_ (fun _ _ h => h))
    (with_reducible refine WE_local (d := ?dx28) ?k1x28 ?k2x28 ?k3x28 ?k4x28 ?_); (case k1x28 => rfl); (case k2x28 => rfl); (case k3x28 => rfl); (case k4x28 => (with_reducible refine locOf_miss (by decide +kernel) ?_; with_reducible exact locOf_same))
    intro _
    (with_reducible refine WE_local (d := ?dx29) ?k1x29 ?k2x29 ?k3x29 ?k4x29 ?_); (case k1x29 => rfl); (case k2x29 => rfl); (case k3x29 => rfl); (case k4x29 => with_reducible exact locOf_same)
    refine ⟨e, rfl, setA_new he (by (rw [‹Gl.K _ = Mine.hp _›]; kernel_rfl)) fun dx hdx hdxe => ?_⟩
    show WSA _ _ _ _ _ _ (exS σ e aPE dx _ _) _ _
    have hdx0 : e0 ≠ dx := fun q => h0 (q ▸ hdx)
    refine WSA_cons (Wx_AssignA rfl ?_ (fun _ _ h => h))
    (with_reducible refine WE_local (d := ?dx30) ?k1x30 ?k2x30 ?k3x30 ?k4x30 ?_); (case k1x30 => rfl); (case k2x30 => rfl); (case k3x30 => rfl); (case k4x30 => (with_reducible refine locOf_miss (by decide +kernel) ?_; (with_reducible refine locOf_miss (by decide +kernel) ?_; with_reducible exact locOf_same)))
    intro _
    (with_reducible refine WE_local (d := ?dx31) ?k1x31 ?k2x31 ?k3x31 ?k4x31 ?_); (case k1x31 => rfl); (case k2x31 => rfl); (case k3x31 => rfl); (case k4x31 => with_reducible exact locOf_same)
    refine ⟨e, rfl, setA_S hdxe (by (rw [‹Gl.K _ = Mine.hp _›]; kernel_rfl)) (Nat.le_of_ble_eq_true rfl) rfl ?_⟩
    refine WSA_cons (Wx_AssignA rfl ?_ (fun _ _ h => h))
    (with_reducible refine WE_local (d := ?dx32) ?k1x32 ?k2x32 ?k3x32 ?k4x32 ?_); (case k1x32 => rfl); (case k2x32 => rfl); (case k3x32 => rfl); (case k4x32 => (with_reducible refine locOf_miss (by decide +kernel) ?_; (with_reducible refine locOf_miss (by decide +kernel) ?_; (with_reducible refine locOf_miss (by decide +kernel) ?_; with_reducible exact locOf_same))))
    intro _
    (with_reducible refine WE_local (d := ?dx33) ?k1x33 ?k2x33 ?k3x33 ?k4x33 ?_); (case k1x33 => rfl); (case k2x33 => rfl); (case k3x33 => rfl); (case k4x33 => with_reducible exact locOf_same)
    refine ⟨e, rfl, setA_S hdxe (by (rw [‹Gl.K _ = Mine.hp _›]; kernel_rfl)) (Nat.le_of_ble_eq_true rfl) rfl ?_⟩
    refine WSA_cons (Wx_If ?_ (fun _ _ h => h))
    refine WT_And (WT_Compare rfl ?_)
    (with_reducible refine WE_local (d := ?dx34) ?k1x34 ?k2x34 ?k3x34 ?k4x34 ?_); (case k1x34 => rfl); (case k2x34 => rfl); (case k3x34 => rfl); (case k4x34 => (with_reducible refine locOf_miss (by decide +kernel) ?_; (with_reducible refine locOf_miss (by decide +kernel) ?_; with_reducible exact locOf_same)))
    intro _
    refine WE_None (isNot_bytes_none (B1_bool ?_))
    refine WT_Compare rfl ?_
    (with_reducible refine WE_local (d := ?dx35) ?k1x35 ?k2x35 ?k3x35 ?k4x35 ?_); (case k1x35 => rfl); (case k2x35 => rfl); (case k3x35 => rfl); (case k4x35 => (with_reducible refine locOf_miss (by decide +kernel) ?_; (with_reducible refine locOf_miss (by decide +kernel) ?_; (with_reducible refine locOf_miss (by decide +kernel) ?_; with_reducible exact locOf_same))))
    intro _
    refine WE_None (isNot_int_none (B1_bool ?_))
    show Wxs _ _ _ _ _ _ _ _
    refine Wxs_cons (Wx_Assign rfl rfl rfl ?_ (fun _ _ h => h))
    refine WE_BinOp (WE_Str rfl ?_)
    intro _
    refine WE_tuple (WL_cons rfl ?_)
    (with_reducible refine WE_local (d := ?dx36) ?k1x36 ?k2x36 ?k3x36 ?k4x36 ?_); (case k1x36 => rfl); (case k2x36 => rfl); (case k3x36 => rfl); (case k4x36 => (with_reducible refine locOf_miss (by decide +kernel) ?_; with_reducible exact locOf_same))
    intro _
    refine WL_cons rfl ?_
    (with_reducible refine WE_local (d := ?dx37) ?k1x37 ?k2x37 ?k3x37 ?k4x37 ?_); (case k1x37 => rfl); (case k2x37 => rfl); (case k3x37 => rfl); (case k4x37 => (with_reducible refine locOf_miss (by decide +kernel) ?_; (with_reducible refine locOf_miss (by decide +kernel) ?_; (with_reducible refine locOf_miss (by decide +kernel) ?_; with_reducible exact locOf_same))))
    intro _
    refine WL_nil ⟨Nat.le_of_ble_eq_true rfl, pct1 rfl (by omega) (by omega) (by decide +kernel) ?_⟩
    refine Wxs_cons (Wx_If (WT_value rfl ?_) (fun _ _ h => h))
    refine WE_bcall callee_builtin rfl rfl rfl rfl rfl (by (rw [‹Gl.K _ = Mine.hp _›]; kernel_rfl)) boot_isinstance (by decide +kernel) rfl rfl rfl rfl fun _ => ?_
    refine WL_cons rfl ?_
    (with_reducible refine WE_local (d := ?dx38) ?k1x38 ?k2x38 ?k3x38 ?k4x38 ?_); (case k1x38 => rfl); (case k2x38 => rfl); (case k3x38 => rfl); (case k4x38 => (with_reducible refine get_miss (by decide +kernel) ?_; (with_reducible refine locOf_miss (by decide +kernel) ?_; (with_reducible refine locOf_miss (by decide +kernel) ?_; with_reducible exact locOf_same))))
    intro _
    refine WL_cons rfl ?_
    refine WE_boot rfl rfl rfl rfl rfl (by (rw [‹Gl.K _ = Mine.hp _›]; kernel_rfl)) boot_str (by decide +kernel) rfl ?_
    intro _
    refine WL_nil (isi_bytes (B1_bool ?_))
    show Wxs _ _ _ _ _ _ _ _
    refine Wxs_cons (Wx_Assign rfl rfl rfl ?_ (fun _ _ h => h))
    refine WE_Bytes rfl ?_
    refine Wxs_nil ?_
    refine Wxs_cons (Wx_AssignA rfl ?_ (fun _ _ h => h))
    refine WE_BinOp (WE_meth rfl rfl rfl ?_)
    (with_reducible refine WE_local (d := ?dx39) ?k1x39 ?k2x39 ?k3x39 ?k4x39 ?_); (case k1x39 => rfl); (case k2x39 => rfl); (case k3x39 => rfl); (case k4x39 => (with_reducible refine get_miss (by decide +kernel) ?_; (with_reducible refine get_miss (by decide +kernel) ?_; (with_reducible refine locOf_miss (by decide +kernel) ?_; (with_reducible refine locOf_miss (by decide +kernel) ?_; with_reducible exact locOf_same)))))
    refine ⟨_, gm_bytes BF.slot_count BF.type_count, callee_builtin, fun _ => ?_⟩
    refine WL_cons rfl ?_
    (with_reducible refine WE_local (d := ?dx40) ?k1x40 ?k2x40 ?k3x40 ?k4x40 ?_); (case k1x40 => rfl); (case k2x40 => rfl); (case k3x40 => rfl); (case k4x40 => with_reducible exact get_same)
    intro _
    refine WL_cons rfl (WE_Int ?_)
    intro _
    refine WL_cons rfl ?_
    (with_reducible refine WE_local (d := ?dx41) ?k1x41 ?k2x41 ?k3x41 ?k4x41 ?_); (case k1x41 => rfl); (case k2x41 => rfl); (case k3x41 => rfl); (case k4x41 => (with_reducible refine get_miss (by decide +kernel) ?_; (with_reducible refine get_miss (by decide +kernel) ?_; (with_reducible refine locOf_miss (by decide +kernel) ?_; (with_reducible refine locOf_miss (by decide +kernel) ?_; (with_reducible refine locOf_miss (by decide +kernel) ?_; with_reducible exact locOf_same))))))
    intro _
    refine WL_nil (count_bytes' hp ?_)
    intro _
    refine WE_Int (add_int' ?_)
    intro _
    (with_reducible refine WE_local (d := ?dx42) ?k1x42 ?k2x42 ?k3x42 ?k4x42 ?_); (case k1x42 => rfl); (case k2x42 => rfl); (case k3x42 => rfl); (case k4x42 => (with_reducible refine get_miss (by decide +kernel) ?_; (with_reducible refine get_miss (by decide +kernel) ?_; with_reducible exact locOf_same)))
    refine ⟨e, rfl, setA_S hdxe (by (rw [‹Gl.K _ = Mine.hp _›]; kernel_rfl)) (Nat.le_of_ble_eq_true rfl) rfl ?_⟩
    refine Wxs_cons (Wx_AssignA rfl ?_ (fun _ _ h => h))
    refine WE_BinOp ?_
    (with_reducible refine WE_local (d := ?dx43) ?k1x43 ?k2x43 ?k3x43 ?k4x43 ?_); (case k1x43 => rfl); (case k2x43 => rfl); (case k3x43 => rfl); (case k4x43 => (with_reducible refine get_miss (by decide +kernel) ?_; (with_reducible refine get_miss (by decide +kernel) ?_; (with_reducible refine locOf_miss (by decide +kernel) ?_; (with_reducible refine locOf_miss (by decide +kernel) ?_; (with_reducible refine locOf_miss (by decide +kernel) ?_; with_reducible exact locOf_same))))))
    intro _
    refine WE_meth rfl rfl rfl ?_
    (with_reducible refine WE_local (d := ?dx44) ?k1x44 ?k2x44 ?k3x44 ?k4x44 ?_); (case k1x44 => rfl); (case k2x44 => rfl); (case k3x44 => rfl); (case k4x44 => (with_reducible refine get_miss (by decide +kernel) ?_; (with_reducible refine get_miss (by decide +kernel) ?_; (with_reducible refine locOf_miss (by decide +kernel) ?_; (with_reducible refine locOf_miss (by decide +kernel) ?_; with_reducible exact locOf_same)))))
    refine ⟨_, gm_bytes BF.slot_rfind BF.type_rfind, callee_builtin, fun _ => ?_⟩
    refine WL_cons rfl ?_
    (with_reducible refine WE_local (d := ?dx45) ?k1x45 ?k2x45 ?k3x45 ?k4x45 ?_); (case k1x45 => rfl); (case k2x45 => rfl); (case k3x45 => rfl); (case k4x45 => with_reducible exact get_same)
    intro _
    refine WL_cons rfl (WE_Int ?_)
    intro _
    refine WL_cons rfl ?_
    (with_reducible refine WE_local (d := ?dx46) ?k1x46 ?k2x46 ?k3x46 ?k4x46 ?_); (case k1x46 => rfl); (case k2x46 => rfl); (case k3x46 => rfl); (case k4x46 => (with_reducible refine get_miss (by decide +kernel) ?_; (with_reducible refine get_miss (by decide +kernel) ?_; (with_reducible refine locOf_miss (by decide +kernel) ?_; (with_reducible refine locOf_miss (by decide +kernel) ?_; (with_reducible refine locOf_miss (by decide +kernel) ?_; with_reducible exact locOf_same))))))
    intro _
    refine WL_nil (rfind_bytes' hp ?_)
    refine sub_int' ?_
    intro _
    (with_reducible refine WE_local (d := ?dx47) ?k1x47 ?k2x47 ?k3x47 ?k4x47 ?_); (case k1x47 => rfl); (case k2x47 => rfl); (case k3x47 => rfl); (case k4x47 => (with_reducible refine get_miss (by decide +kernel) ?_; (with_reducible refine get_miss (by decide +kernel) ?_; with_reducible exact locOf_same)))
    refine ⟨e, rfl, setA_S hdxe (by (rw [‹Gl.K _ = Mine.hp _›]; kernel_rfl)) (Nat.le_of_ble_eq_true rfl) rfl ?_⟩
    refine Wxs_cons (Wx_If (WT_Compare rfl ?_) (fun _ _ h => h))
    (with_reducible refine WE_local (d := ?dx48) ?k1x48 ?k2x48 ?k3x48 ?k4x48 ?_); (case k1x48 => rfl); (case k2x48 => rfl); (case k3x48 => rfl); (case k4x48 => with_reducible exact get_same)
    intro _
    (with_reducible refine WE_local (d := ?dx49) ?k1x49 ?k2x49 ?k3x49 ?k4x49 ?_); (case k1x49 => rfl); (case k2x49 => rfl); (case k3x49 => rfl); (case k4x49 => (with_reducible refine get_miss (by decide +kernel) ?_; (with_reducible refine get_miss (by decide +kernel) ?_; (with_reducible refine locOf_miss (by decide +kernel) ?_; (with_reducible refine locOf_miss (by decide +kernel) ?_; with_reducible exact locOf_same)))))
    refine in_bytes' (hh.at (exS_o hne.symm hdx0)) (B1_bool ?_)
    by_cases hm : 10 ∈ l
    · rw [if_pos (decide_eq_true hm)]
      refine Wxs_cons (Wx_Assign rfl rfl rfl ?_ (fun _ _ h => h))
      refine WE_BinOp (WE_Str rfl ?_)
      intro _
      refine WE_tuple (WL_cons rfl ?_)
      (with_reducible refine WE_local (d := ?dx50) ?k1x50 ?k2x50 ?k3x50 ?k4x50 ?_); (case k1x50 => rfl); (case k2x50 => rfl); (case k3x50 => rfl); (case k4x50 => (with_reducible refine get_miss (by decide +kernel) ?_; with_reducible exact get_same))
      intro _
      refine WL_cons rfl (WE_attr ?_)
      (with_reducible refine WE_local (d := ?dx51) ?k1x51 ?k2x51 ?k3x51 ?k4x51 ?_); (case k1x51 => rfl); (case k2x51 => rfl); (case k3x51 => rfl); (case k4x51 => (with_reducible refine get_miss (by decide +kernel) ?_; (with_reducible refine get_miss (by decide +kernel) ?_; with_reducible exact locOf_same)))
      refine getA_S hdxe (by (rw [‹Gl.K _ = Mine.hp _›]; kernel_rfl)) rfl ?_
      intro _
      refine WL_cons rfl (WE_attr ?_)
      (with_reducible refine WE_local (d := ?dx52) ?k1x52 ?k2x52 ?k3x52 ?k4x52 ?_); (case k1x52 => rfl); (case k2x52 => rfl); (case k3x52 => rfl); (case k4x52 => (with_reducible refine get_miss (by decide +kernel) ?_; (with_reducible refine get_miss (by decide +kernel) ?_; with_reducible exact locOf_same)))
      refine getA_S hdxe (by (rw [‹Gl.K _ = Mine.hp _›]; kernel_rfl)) rfl ?_
      intro _
      refine WL_nil ⟨Nat.le_of_ble_eq_true rfl, pct2 rfl (by omega) (by omega) (by omega) (by omega) ?_ ?_⟩
      · have := dig_len (n := p) (by omega) (by omega)
        simp only [List.length_append]
        have h1 : bad.length ≤ 100 := by decide +kernel
        have h2 : (lit " at position ").length ≤ 100 := by decide +kernel
        omega
      refine Wxs_nil (Wxs_nil ?_)
      refine WSA_last (super_init (f := aPEi) (cc := aPEc) (cda := aPEk) (C := aPE) (e := e) (dx := dx) (a0 := .none) F rfl rfl rfl rfl rfl rfl rfl (by rw [hK]; rfl) rfl rfl (by rw [hK]; rfl) rfl ?_ ?_ (by rw [hK]; rfl) rfl (by (with_reducible refine get_miss (by decide +kernel) ?_; (with_reducible refine get_miss (by decide +kernel) ?_; (with_reducible refine get_miss (by decide +kernel) ?_; with_reducible exact locOf_same)))) rfl (by (rw [‹Gl.K _ = Mine.hp _›]; kernel_rfl)) rfl rfl (by (rw [‹Gl.K _ = Mine.hp _›]; kernel_rfl)) (by (rw [‹Gl.K _ = Mine.hp _›]; kernel_rfl)) (by (rw [‹Gl.K _ = Mine.hp _›]; kernel_rfl)) exS_e ?_ (fun _ _ h => h))
      · rw [hG.prog]; kernel_rfl
      · rw [hG.prog]; kernel_rfl
      · intro u hu
        (with_reducible refine WE_local (d := ?dx53) ?k1x53 ?k2x53 ?k3x53 ?k4x53 ?_); (case k1x53 => rfl); (case k2x53 => rfl); (case k3x53 => rfl); (case k4x53 => with_reducible exact get_same)
        have hue : u ≠ e := fun q => by rw [q, exS_e] at hu; cases hu
        refine ⟨_, Sto.put_same _ _ _, (Sto.put_ne _ _ hue.symm).trans exS_e, exS σ e aPE dx _ _, exS_fin hu hue rfl (by unfold perrW; rw [if_pos hm]), rfl, dx, hdx, hdxe, fun a o ha => ha⟩
    · rw [if_neg (by simpa using hm)]
      refine Wxs_nil (Wxs_nil ?_)
      refine WSA_last (super_init (f := aPEi) (cc := aPEc) (cda := aPEk) (C := aPE) (e := e) (dx := dx) (a0 := .none) F rfl rfl rfl rfl rfl rfl rfl (by rw [hK]; rfl) rfl rfl (by rw [hK]; rfl) rfl ?_ ?_ (by rw [hK]; rfl) rfl (by (with_reducible refine get_miss (by decide +kernel) ?_; (with_reducible refine get_miss (by decide +kernel) ?_; with_reducible exact locOf_same))) rfl (by (rw [‹Gl.K _ = Mine.hp _›]; kernel_rfl)) rfl rfl (by (rw [‹Gl.K _ = Mine.hp _›]; kernel_rfl)) (by (rw [‹Gl.K _ = Mine.hp _›]; kernel_rfl)) (by (rw [‹Gl.K _ = Mine.hp _›]; kernel_rfl)) exS_e ?_ (fun _ _ h => h))
      · rw [hG.prog]; kernel_rfl
      · rw [hG.prog]; kernel_rfl
      · intro u hu
        (with_reducible refine WE_local (d := ?dx54) ?k1x54 ?k2x54 ?k3x54 ?k4x54 ?_); (case k1x54 => rfl); (case k2x54 => rfl); (case k3x54 => rfl); (case k4x54 => (with_reducible refine get_miss (by decide +kernel) ?_; with_reducible exact get_same))
        have hue : u ≠ e := fun q => by rw [q, exS_e] at hu; cases hu
        refine ⟨_, Sto.put_same _ _ _, (Sto.put_ne _ _ hue.symm).trans exS_e, exS σ e aPE dx _ _, exS_fin hu hue rfl (by unfold perrW; rw [if_neg hm]), rfl, dx, hdx, hdxe, fun a o ha => ha⟩
end
end Mine
set_option maxHeartbeats 4000000
namespace Mine
open PySem PySem.W PySem.Calls PyProof.Rows
inductive Nx where
  | stop | bad
  | tok (w : List Nat) (j : Int)
noncomputable def nxt (l : List Nat) (i : Int) : Nx := match at? l.length i with
  | none => .stop
  | some k => if l[k]? = some 92 then (match at? l.length (i + 1) with
    | none => .bad
    | some k2 => .tok [92, l.getD k2 0] (i + 2)) else .tok [l.getD k 0] (i + 1)
noncomputable def PatOk (b : Bool) (pat : D) (l : List Nat) : Prop := (b = true ∧ pat = .str l) ∨ (b = false ∧ pat = .bytes l)
noncomputable def tokF (b : Bool) (pat : D) (l : List Nat) (i : Int) (nx : D) : List (Str × D) := [("istext", .bool b), ("string", pat), ("decoded_string", .str l), ("index", .int i), ("next", nx)]
section
variable {G : Gl} {c : Cx} {ρ : Loc} {σ : Sto} {P : D → Sto → Prop} {X : XP}
theorem len_pat {b : Bool} {pat : D} {l : List Nat} (hp : PatOk b pat l) (hl : l.length ≤ 1000000) (h : P (.int l.length) σ) : Wn G c (fun vs => call (.builtin "len") vs) [pat] ρ σ P X := by
  rcases hp with ⟨-, rfl⟩ | ⟨-, rfl⟩
  · exact len_str' hl h
  · exact len_bytes' hl h
theorem C_perr (hG : G2 G) {b : Bool} {pat : D} {e t e0 : Addr} {l : List Nat} {p : Nat} (hpat : PatOk b pat l) (hp : p ≤ l.length) (hl : l.length ≤ 100000) (he : σ e = some (.obj (excNew aPE t))) (hne : e ≠ e0) (h0 : σ e0 ≠ none) :
    FnC G (HX σ e0) 1 (.ref aPEi) [.ref e, .str bad, pat, .int p] σ (fun d σ' => d = .none ∧ ∃ dx, σ dx = none ∧ dx ≠ e ∧ ∀ a o, exS σ e aPE dx (perrF pat l p) (.tup [.str (perrW l p)]) a = some o → σ' a = some o) (fun _ _ => False) := by
  rcases hpat with ⟨-, rfl⟩ | ⟨-, rfl⟩
  · exact C_perr_str hG hp hl he hne h0
  · exact C_perr_bytes hG hp hl he hne h0
theorem WSX_last {Γ : Pairs} {e : Addr} {x : Ex} {R : FP} {Y : XF} {env : Env} {st : Stmt} (h : WSX G c Γ (exec st env) ρ σ e x R Y) : WSX G c Γ (execs [st] env) ρ σ e x R Y := fun s Q E S q f =>
  wpAny_execs_cons (h s _ E S (fun a b Γ' ρ' σ' h1 t1 ok p S1 => by
    cases ok with
    | next => exact wpAny_execs_nil (q _ _ _ _ _ _ _ .next p S1)
    | brk => exact q _ _ _ _ _ _ _ .brk p S1
    | cont => exact q _ _ _ _ _ _ _ .cont p S1
    | ret v d => exact q _ _ _ _ _ _ _ (.ret v d) p S1) f)
theorem at_lt {n : Nat} {i : Int} {k : Nat} (h : at? n i = some k) : k < n := by
  unfold at? at h
  split at h
  · cases h; omega
  · split at h
    · cases h; omega
    · cases h
theorem getD_of {l : List Nat} {k a : Nat} (h : l[k]? = some a) : l.getD k 0 = a := by simp [h]
theorem nxt_stop {l : List Nat} {i : Int} (h : at? l.length i = none) : nxt l i = .stop := by unfold nxt; rw [h]
theorem nxt_one {l : List Nat} {i : Int} {k a : Nat} (h : at? l.length i = some k) (ha : l[k]? = some a) (hn : a ≠ 92) : nxt l i = .tok [a] (i + 1) := by
  unfold nxt; rw [h]; dsimp only; rw [if_neg (by rw [ha]; simpa using hn), getD_of ha]
theorem nxt_bad {l : List Nat} {i : Int} {k : Nat} (h : at? l.length i = some k) (ha : l[k]? = some 92) (h2 : at? l.length (i + 1) = none) : nxt l i = .bad := by
  unfold nxt; rw [h]; dsimp only; rw [if_pos ha, h2]
theorem nxt_two {l : List Nat} {i : Int} {k k2 a : Nat} (h : at? l.length i = some k) (ha : l[k]? = some 92) (h2 : at? l.length (i + 1) = some k2) (ha2 : l[k2]? = some a) : nxt l i = .tok [92, a] (i + 2) := by
  unfold nxt; rw [h]; dsimp only; rw [if_pos ha, h2]; dsimp only; rw [getD_of ha2]
/-- the refusal -/
noncomputable def Bad (pat : D) (l : List Nat) (σ : Sto) (x : Ex) (σ' : Sto) : Prop := ∃ dx, x.cls = .ref aPE ∧ x.dict = some dx ∧ x.a0 = .tup [.str (perrW l (l.length - 1))] ∧ σ dx = none ∧ σ' = σ.put dx (.flds (perrF pat l (l.length - 1)))
theorem C_next (hG : G2 G) {b : Bool} {pat : D} {t dx : Addr} {l : List Nat} {i : Int} {nx : D} (hpat : PatOk b pat l) (hl : l.length ≤ 100000) (hi : -100000 ≤ i ∧ i ≤ 100000) (ht : σ t = some (.inst aTk dx)) (hf : σ dx = some (.flds (tokF b pat l i nx))) :
    FnC G HN 3 (.ref aNext) [.ref t] σ (fun d σ' => d = .none ∧ match nxt l i with | .stop => σ' = σ.put dx (.flds (tokF b pat l i .none)) | .tok w j => σ' = σ.put dx (.flds (tokF b pat l j (.str w))) | .bad => False)
      (fun x σ' => nxt l i = .bad ∧ Bad pat l σ x σ') := by
  have hK := hG.K
  have hne : t ≠ dx := by rintro rfl; rw [ht] at hf; cases hf
  refine fn_intro (xs := ["self"]) (by rw [hK]; rfl) (by (rw [‹Gl.K _ = Mine.hp _›]; kernel_rfl)) rfl (fun s vs X0 hvs => ?_) (by decide +kernel) (by decide +kernel) (by decide +kernel) rfl rfl rfl rfl rfl ?_
  · obtain ⟨a, rfl⟩ := len1 hvs
    exact BindsTo.of_eq rfl
  · rintro ⟨A', env', stk'⟩ Γ L F rm hh rfl
    refine Wxs_cons (Wx_Assign rfl rfl rfl (WE_attr ?_) (fun _ _ h => h))
    (with_reducible refine WE_local (d := ?dx55) ?k1x55 ?k2x55 ?k3x55 ?k4x55 ?_); (case k1x55 => rfl); (case k2x55 => rfl); (case k3x55 => rfl); (case k4x55 => with_reducible exact locOf_same)
    refine getAttr_own (.inl ht) hf (by (rw [‹Gl.K _ = Mine.hp _›]; kernel_rfl)) rfl ?_
    refine Wxs_cons (Wx_Try (Z := fun x ρ' σ' => x.cls = .type "IndexError" ∧ x.ctx = .none ∧ ρ' = (locOf ["self"] [.ref t]).put "index" (.int i) ∧ σ' = σ ∧ at? l.length i = none) F ?_ (evC_boot rfl rfl rfl rfl rfl (by (rw [‹Gl.K _ = Mine.hp _›]; kernel_rfl)) boot_IndexError (by decide +kernel)) (fun x _ _ hx => by rw [hx.1]; (rw [‹Gl.K _ = Mine.hp _›]; kernel_rfl)) ?_)
    · refine Wxs_cons (Wx_Assign (X := fun x σ' => x.cls = .type "IndexError" ∧ x.ctx = .none ∧ σ' = σ ∧ at? l.length i = none) rfl rfl rfl (WE_sub (WE_attr ?_)) (fun x σ' h => ⟨h.1, h.2.1, rfl, h.2.2.1, h.2.2.2⟩))
      (with_reducible refine WE_local (d := ?dx56) ?k1x56 ?k2x56 ?k3x56 ?k4x56 ?_); (case k1x56 => rfl); (case k2x56 => rfl); (case k3x56 => rfl); (case k4x56 => (with_reducible refine get_miss (by decide +kernel) ?_; with_reducible exact locOf_same))
      refine getAttr_own (.inl ht) hf (by (rw [‹Gl.K _ = Mine.hp _›]; kernel_rfl)) rfl ?_
      intro _
      (with_reducible refine WE_local (d := ?dx57) ?k1x57 ?k2x57 ?k3x57 ?k4x57 ?_); (case k1x57 => rfl); (case k2x57 => rfl); (case k3x57 => rfl); (case k4x57 => with_reducible exact get_same)
      refine sub_str hh (by omega) (by omega) (fun _ _ _ => rfl) (fun _ _ _ => rfl) (fun k a hk ha => ?_) (fun hn x h1 h2 => ⟨h1, h2, rfl, hn⟩)
      refine Wxs_nil ?_
      refine Wxs_cons (Wx_If (WT_Compare rfl ?_) (fun _ _ h => h))
      (with_reducible refine WE_local (d := ?dx58) ?k1x58 ?k2x58 ?k3x58 ?k4x58 ?_); (case k1x58 => rfl); (case k2x58 => rfl); (case k3x58 => rfl); (case k4x58 => with_reducible exact get_same)
      intro _
      refine WE_Str rfl (eq_str' (B1_bool ?_))
      by_cases q : a = 92
      · subst q
        rw [if_pos (by decide +kernel)]
        refine Wxs_cons (Wx_Aug rfl rfl (by (with_reducible refine get_miss (by decide +kernel) ?_; with_reducible exact get_same)) (fun _ => WE_Int (iadd_int' ?_)) (fun _ _ h => h))
        refine Wxs_cons (Wx_Try (Z := fun x ρ' σ' => x.cls = .type "IndexError" ∧ x.ctx = .none ∧ ρ' = (((locOf ["self"] [.ref t]).put "index" (.int i)).put "char" (.str [92])).put "index" (.int (i + 1)) ∧ σ' = σ ∧ at? l.length (i + 1) = none) F ?_ (evC_boot rfl rfl rfl rfl rfl (by (rw [‹Gl.K _ = Mine.hp _›]; kernel_rfl)) boot_IndexError (by decide +kernel)) (fun x _ _ hx => by rw [hx.1]; (rw [‹Gl.K _ = Mine.hp _›]; kernel_rfl)) ?_)
        · refine Wxs_cons (Wx_Aug (X := fun x σ' => x.cls = .type "IndexError" ∧ x.ctx = .none ∧ σ' = σ ∧ at? l.length (i + 1) = none) rfl rfl (by (with_reducible refine get_miss (by decide +kernel) ?_; with_reducible exact get_same)) (fun _ => WE_sub (WE_attr ?_)) (fun x σ' h => ⟨h.1, h.2.1, rfl, h.2.2.1, h.2.2.2⟩))
          (with_reducible refine WE_local (d := ?dx59) ?k1x59 ?k2x59 ?k3x59 ?k4x59 ?_); (case k1x59 => rfl); (case k2x59 => rfl); (case k3x59 => rfl); (case k4x59 => (with_reducible refine get_miss (by decide +kernel) ?_; (with_reducible refine get_miss (by decide +kernel) ?_; (with_reducible refine get_miss (by decide +kernel) ?_; with_reducible exact locOf_same))))
          refine getAttr_own (.inl ht) hf (by (rw [‹Gl.K _ = Mine.hp _›]; kernel_rfl)) rfl ?_
          intro _
          (with_reducible refine WE_local (d := ?dx60) ?k1x60 ?k2x60 ?k3x60 ?k4x60 ?_); (case k1x60 => rfl); (case k2x60 => rfl); (case k3x60 => rfl); (case k4x60 => with_reducible exact get_same)
          refine sub_str hh (by omega) (by omega) (fun _ _ _ => rfl) (fun _ _ _ => rfl) (fun k2 a2 hk2 ha2 => ?_) (fun hn x h1 h2 => ⟨h1, h2, rfl, hn⟩)
          refine iadd_str' (Nat.le_of_ble_eq_true rfl) (Nat.le_of_ble_eq_true rfl) ?_
          refine Wxs_nil (Wxs_nil ?_)
          refine Wxs_cons (Wx_AssignA rfl (WE_BinOp ?_) (fun _ _ h => h))
          (with_reducible refine WE_local (d := ?dx61) ?k1x61 ?k2x61 ?k3x61 ?k4x61 ?_); (case k1x61 => rfl); (case k2x61 => rfl); (case k3x61 => rfl); (case k4x61 => (with_reducible refine get_miss (by decide +kernel) ?_; with_reducible exact get_same))
          intro _
          refine WE_Int (add_int' ?_)
          intro _
          (with_reducible refine WE_local (d := ?dx62) ?k1x62 ?k2x62 ?k3x62 ?k4x62 ?_); (case k1x62 => rfl); (case k2x62 => rfl); (case k3x62 => rfl); (case k4x62 => (with_reducible refine get_miss (by decide +kernel) ?_; (with_reducible refine get_miss (by decide +kernel) ?_; (with_reducible refine get_miss (by decide +kernel) ?_; (with_reducible refine get_miss (by decide +kernel) ?_; with_reducible exact locOf_same)))))
          refine ⟨t, rfl, setA_own (.inl ht) hf (by (rw [‹Gl.K _ = Mine.hp _›]; kernel_rfl)) (Nat.le_of_ble_eq_true rfl) ?_⟩
          refine Wxs_cons (Wx_AssignA rfl ?_ (fun _ _ h => h))
          (with_reducible refine WE_local (d := ?dx63) ?k1x63 ?k2x63 ?k3x63 ?k4x63 ?_); (case k1x63 => rfl); (case k2x63 => rfl); (case k3x63 => rfl); (case k4x63 => with_reducible exact get_same)
          intro _
          (with_reducible refine WE_local (d := ?dx64) ?k1x64 ?k2x64 ?k3x64 ?k4x64 ?_); (case k1x64 => rfl); (case k2x64 => rfl); (case k3x64 => rfl); (case k4x64 => (with_reducible refine get_miss (by decide +kernel) ?_; (with_reducible refine get_miss (by decide +kernel) ?_; (with_reducible refine get_miss (by decide +kernel) ?_; (with_reducible refine get_miss (by decide +kernel) ?_; with_reducible exact locOf_same)))))
          refine ⟨t, rfl, setA_own (fs := tokF b pat l (i + 1 + 1) nx) (.inl ((Sto.put_ne _ _ hne).trans ht)) (Sto.put_same _ _ _) (by (rw [‹Gl.K _ = Mine.hp _›]; kernel_rfl)) (Nat.le_of_ble_eq_true rfl) ?_⟩
          refine Wxs_nil ⟨rfl, ?_⟩
          rw [nxt_two hk ha hk2 ha2, Sto.put_put]
          show σ.put dx (.flds (tokF b pat l (i + 1 + 1) (.str ([92] ++ [a2])))) = _
          rw [show i + 1 + 1 = i + 2 by omega]; rfl
        · rintro e x _ σ' ⟨h1, h2, rfl, hσ, h5⟩
          rw [hσ]
          refine WSX_last (Wx_RaiseFrom F (by rw [h1]; decide) h2 fun oe vs he0 hd0 h20 => ?_)
          have hte : t ≠ e := by rintro rfl; rw [ht] at he0; cases he0
          have hde : dx ≠ e := by rintro rfl; rw [hf] at he0; cases he0
          have hlt := at_lt hk
          refine WE_gcall (f := .ref aPE) (by (rw [‹Gl.K _ = Mine.hp _›]; kernel_rfl)) rfl rfl rfl rfl (by (rw [‹Gl.K _ = Mine.hp _›]; kernel_rfl)) rfl rfl rfl rfl fun _ => ?_
          refine WL_cons rfl (WE_Str rfl ?_)
          intro _
          refine WL_cons rfl (WE_attr ?_)
          (with_reducible refine WE_local (d := ?dx65) ?k1x65 ?k2x65 ?k3x65 ?k4x65 ?_); (case k1x65 => rfl); (case k2x65 => rfl); (case k3x65 => rfl); (case k4x65 => (with_reducible refine get_miss (by decide +kernel) ?_; (with_reducible refine get_miss (by decide +kernel) ?_; (with_reducible refine get_miss (by decide +kernel) ?_; with_reducible exact locOf_same))))
          refine getAttr_own (.inl ((Sto.put_ne _ _ hte).trans ht)) ((Sto.put_ne _ _ hde).trans hf) (by (rw [‹Gl.K _ = Mine.hp _›]; kernel_rfl)) rfl ?_
          intro _
          refine WL_cons rfl (WE_BinOp ?_)
          refine WE_bcall callee_builtin rfl rfl rfl rfl rfl (by (rw [‹Gl.K _ = Mine.hp _›]; kernel_rfl)) boot_len (by decide +kernel) rfl rfl rfl rfl fun _ => ?_
          refine WL_cons rfl (WE_attr ?_)
          (with_reducible refine WE_local (d := ?dx66) ?k1x66 ?k2x66 ?k3x66 ?k4x66 ?_); (case k1x66 => rfl); (case k2x66 => rfl); (case k3x66 => rfl); (case k4x66 => (with_reducible refine get_miss (by decide +kernel) ?_; (with_reducible refine get_miss (by decide +kernel) ?_; (with_reducible refine get_miss (by decide +kernel) ?_; with_reducible exact locOf_same))))
          refine getAttr_own (.inl ((Sto.put_ne _ _ hte).trans ht)) ((Sto.put_ne _ _ hde).trans hf) (by (rw [‹Gl.K _ = Mine.hp _›]; kernel_rfl)) rfl ?_
          intro _
          refine WL_nil (len_pat hpat (by omega) ?_)
          intro _
          refine WE_Int (sub_int' ?_)
          intro _
          refine WL_nil ?_
          rw [show ((l.length : Int) - 1) = ((l.length - 1 : Nat) : Int) by omega]
          refine Wn_exc (fI := aPEi) (hd := HX (σ.put e (.obj oe)) e) (k := 1) (n := 2) (F.hand e) ⟨rm.depth, rm.units⟩ ⟨rfl, oe, vs, Sto.put_same _ _ _, hd0, h20⟩ (by decide) (Nat.le_of_ble_eq_true rfl) (by (rw [‹Gl.K _ = Mine.hp _›]; kernel_rfl)) (by (rw [‹Gl.K _ = Mine.hp _›]; kernel_rfl)) (by (rw [‹Gl.K _ = Mine.hp _›]; kernel_rfl)) fun e' t' hn' => ?_
          have hee : e' ≠ e := by rintro rfl; rw [Sto.put_same] at hn'; cases hn'
          refine ((C_perr hG (e0 := e) hpat (p := l.length - 1) (by omega) hl (Sto.put_same _ _ _) hee (by rw [Sto.put_ne _ _ hee.symm, Sto.put_same]; simp)).hmono fun v hv => hv.at (Sto.put_ne _ _ hee.symm)).mono ?_ fun _ _ h => h
          rintro d σ' ⟨rfl, dx', hx1, hx2, hx3⟩
          obtain ⟨r1, r2, r3, r4⟩ := raise_fin he0 hn' hx1 hx2 hx3
          exact ⟨rfl, e', aPE, dx', _, _, rfl, r1, r2, by (rw [‹Gl.K _ = Mine.hp _›]; kernel_rfl), r4, nxt_bad hk ha h5, dx', rfl, rfl, rfl, r3, rfl⟩
      · rw [if_neg (by rw [show (decide ([a] = ("\\" : Str).cps.toList)) = false from decide_eq_false fun z => q (by simpa [show ("\\" : Str).cps.toList = [92] from by decide +kernel] using z)]; decide)]
        refine Wxs_nil ?_
        refine Wxs_cons (Wx_AssignA rfl (WE_BinOp ?_) (fun _ _ h => h))
        (with_reducible refine WE_local (d := ?dx67) ?k1x67 ?k2x67 ?k3x67 ?k4x67 ?_); (case k1x67 => rfl); (case k2x67 => rfl); (case k3x67 => rfl); (case k4x67 => (with_reducible refine get_miss (by decide +kernel) ?_; with_reducible exact get_same))
        intro _
        refine WE_Int (add_int' ?_)
        intro _
        (with_reducible refine WE_local (d := ?dx68) ?k1x68 ?k2x68 ?k3x68 ?k4x68 ?_); (case k1x68 => rfl); (case k2x68 => rfl); (case k3x68 => rfl); (case k4x68 => (with_reducible refine get_miss (by decide +kernel) ?_; (with_reducible refine get_miss (by decide +kernel) ?_; with_reducible exact locOf_same)))
        refine ⟨t, rfl, setA_own (.inl ht) hf (by (rw [‹Gl.K _ = Mine.hp _›]; kernel_rfl)) (Nat.le_of_ble_eq_true rfl) ?_⟩
        refine Wxs_cons (Wx_AssignA rfl ?_ (fun _ _ h => h))
        (with_reducible refine WE_local (d := ?dx69) ?k1x69 ?k2x69 ?k3x69 ?k4x69 ?_); (case k1x69 => rfl); (case k2x69 => rfl); (case k3x69 => rfl); (case k4x69 => with_reducible exact get_same)
        intro _
        (with_reducible refine WE_local (d := ?dx70) ?k1x70 ?k2x70 ?k3x70 ?k4x70 ?_); (case k1x70 => rfl); (case k2x70 => rfl); (case k3x70 => rfl); (case k4x70 => (with_reducible refine get_miss (by decide +kernel) ?_; (with_reducible refine get_miss (by decide +kernel) ?_; with_reducible exact locOf_same)))
        refine ⟨t, rfl, setA_own (fs := tokF b pat l (i + 1) nx) (.inl ((Sto.put_ne _ _ hne).trans ht)) (Sto.put_same _ _ _) (by (rw [‹Gl.K _ = Mine.hp _›]; kernel_rfl)) (Nat.le_of_ble_eq_true rfl) ?_⟩
        refine Wxs_nil ⟨rfl, ?_⟩
        rw [nxt_one hk ha q, Sto.put_put]
        rfl
    · rintro e x _ _ ⟨h1, h2, rfl, rfl, h5⟩
      refine WSX.of (Wxs_cons (Wx_AssignA rfl (WE_None ?_) (fun _ _ h => h)))
      intro _
      (with_reducible refine WE_local (d := ?dx71) ?k1x71 ?k2x71 ?k3x71 ?k4x71 ?_); (case k1x71 => rfl); (case k2x71 => rfl); (case k3x71 => rfl); (case k4x71 => (with_reducible refine get_miss (by decide +kernel) ?_; with_reducible exact locOf_same))
      refine ⟨t, rfl, setA_own (.inl ht) hf (by (rw [‹Gl.K _ = Mine.hp _›]; kernel_rfl)) (Nat.le_of_ble_eq_true rfl) ?_⟩
      refine Wxs_cons (Wx_ReturnN ⟨rfl, ?_⟩)
      rw [nxt_stop h5]
      rfl
end
end Mine
set_option maxHeartbeats 4000000
namespace Mine
open PySem PySem.W PySem.Calls PyProof.Rows
section
variable {G : Gl} {c : Cx} {ρ : Loc} {σ : Sto} {P : D → Sto → Prop} {X : XP}
/-- what next does to the store -/
noncomputable def NextP (b : Bool) (pat : D) (l : List Nat) (i : Int) (dx : Addr) (σ σ' : Sto) : Prop := match nxt l i with
  | .stop => σ' = σ.put dx (.flds (tokF b pat l i .none))
  | .tok w j => σ' = σ.put dx (.flds (tokF b pat l j (.str w)))
  | .bad => False
theorem C_get (hG : G2 G) {b : Bool} {pat : D} {t dx : Addr} {l : List Nat} {i : Int} {nx : D} (hpat : PatOk b pat l) (hl : l.length ≤ 100000) (hi : -100000 ≤ i ∧ i ≤ 100000) (ht : σ t = some (.inst aTk dx)) (hf : σ dx = some (.flds (tokF b pat l i nx))) :
    FnC G HN 4 (.ref aGet) [.ref t] σ (fun d σ' => d = nx ∧ NextP b pat l i dx σ σ') (fun x σ' => nxt l i = .bad ∧ Bad pat l σ x σ') := by
  have hK := hG.K
  refine fn_intro (xs := ["self"]) (by rw [hK]; rfl) (by (rw [‹Gl.K _ = Mine.hp _›]; kernel_rfl)) rfl (fun s vs X0 hvs => ?_) (by decide +kernel) (by decide +kernel) (by decide +kernel) rfl rfl rfl rfl rfl ?_
  · obtain ⟨a, rfl⟩ := len1 hvs
    exact BindsTo.of_eq rfl
  · rintro ⟨A', env', stk'⟩ Γ L F rm hh rfl
    refine Wxs_cons (Wx_Assign rfl rfl rfl (WE_attr ?_) (fun _ _ h => h))
    (with_reducible refine WE_local (d := ?dx72) ?k1x72 ?k2x72 ?k3x72 ?k4x72 ?_); (case k1x72 => rfl); (case k2x72 => rfl); (case k3x72 => rfl); (case k4x72 => with_reducible exact locOf_same)
    refine getAttr_own (.inl ht) hf (by (rw [‹Gl.K _ = Mine.hp _›]; kernel_rfl)) rfl ?_
    refine Wxs_cons (Wx_Expr rfl rfl (WE_meth0 rfl ?_) (fun _ _ h => h))
    (with_reducible refine WE_local (d := ?dx73) ?k1x73 ?k2x73 ?k3x73 ?k4x73 ?_); (case k1x73 => rfl); (case k2x73 => rfl); (case k3x73 => rfl); (case k4x73 => (with_reducible refine get_miss (by decide +kernel) ?_; with_reducible exact locOf_same))
    refine ⟨_, gm_own (f := aNext) (.inl ht) hf (by (rw [‹Gl.K _ = Mine.hp _›]; kernel_rfl)) rfl, callee_K (by (rw [‹Gl.K _ = Mine.hp _›]; kernel_rfl)), Wn_fn (n := 3) (k := 3) ⟨F, rm, hh, rfl, rfl⟩ (Nat.le_refl _) ((C_next hG hpat hl hi ht hf).mono ?_ fun _ _ h => h)⟩
    rintro d σ' ⟨rfl, h⟩
    refine Wxs_cons (Wx_Return ?_ (fun _ _ h => h))
    (with_reducible refine WE_local (d := ?dx74) ?k1x74 ?k2x74 ?k3x74 ?k4x74 ?_); (case k1x74 => rfl); (case k2x74 => rfl); (case k3x74 => rfl); (case k4x74 => with_reducible exact get_same)
    exact ⟨rfl, h⟩
noncomputable def NxOk (nx : D) : Prop := nx = .none ∨ ∃ w, nx = .str w ∧ w ≠ [] ∧ w.length ≤ 2
/-- a tokenizer made: t its object, dx its dict -/
noncomputable def newS (σ : Sto) (t dx : Addr) (F : List (Str × D)) : Sto := ((σ.put dx (.flds [])).put t (.inst aTk dx)).put dx (.flds F)
theorem latin_lit : (Str.ofString "latin1").cps.toList = [108, 97, 116, 105, 110, 49] := by decide +kernel
theorem C_init_str (hG : G2 G) {t dx : Addr} {l : List Nat} (hl : l.length ≤ 100000) (ht : σ t = some (.inst aTk dx)) (hf : σ dx = some (.flds [])) :
    FnC G HN 4 (.ref aInit) [.ref t, .str l] σ (fun d σ' => d = .none ∧ NextP true (.str l) l 0 dx (σ.put dx (.flds (tokF true (.str l) l 0 .none))) σ') (fun x σ' => nxt l 0 = .bad ∧ Bad (.str l) l (σ.put dx (.flds (tokF true (.str l) l 0 .none))) x σ') := by
  have hK := hG.K
  have hne : t ≠ dx := by rintro rfl; rw [ht] at hf; cases hf
  have ht' : ∀ F, (σ.put dx (.flds F)) t = some (.inst aTk dx) := fun F => (Sto.put_ne _ _ hne).trans ht
  refine fn_intro (xs := ["self", "string"]) (by rw [hK]; rfl) (by (rw [‹Gl.K _ = Mine.hp _›]; kernel_rfl)) rfl (fun s vs X0 hvs => ?_) (by decide +kernel) (by decide +kernel) (by decide +kernel) rfl rfl rfl rfl rfl ?_
  · obtain ⟨a, b, rfl⟩ := len2 hvs
    exact BindsTo.of_eq rfl
  · rintro ⟨A', env', stk'⟩ Γ L F rm hh rfl
    refine Wxs_cons (Wx_AssignA rfl ?_ (fun _ _ h => h))
    refine WE_bcall callee_builtin rfl rfl rfl rfl rfl (by (rw [‹Gl.K _ = Mine.hp _›]; kernel_rfl)) boot_isinstance (by decide +kernel) rfl rfl rfl rfl fun _ => ?_
    refine WL_cons rfl ?_
    (with_reducible refine WE_local (d := ?dx80) ?k1x80 ?k2x80 ?k3x80 ?k4x80 ?_); (case k1x80 => rfl); (case k2x80 => rfl); (case k3x80 => rfl); (case k4x80 => (with_reducible refine locOf_miss (by decide +kernel) ?_; with_reducible exact locOf_same))
    intro _
    refine WL_cons rfl ?_
    refine WE_boot rfl rfl rfl rfl rfl (by (rw [‹Gl.K _ = Mine.hp _›]; kernel_rfl)) boot_str (by decide +kernel) rfl ?_
    intro _
    refine WL_nil (isi_str ?_)
    intro _
    (with_reducible refine WE_local (d := ?dx81) ?k1x81 ?k2x81 ?k3x81 ?k4x81 ?_); (case k1x81 => rfl); (case k2x81 => rfl); (case k3x81 => rfl); (case k4x81 => with_reducible exact locOf_same)
    refine ⟨t, rfl, setA_own (.inl ht) hf (by (rw [‹Gl.K _ = Mine.hp _›]; kernel_rfl)) (Nat.le_of_ble_eq_true rfl) ?_⟩
    refine Wxs_cons (Wx_AssignA rfl ?_ (fun _ _ h => h))
    (with_reducible refine WE_local (d := ?dx82) ?k1x82 ?k2x82 ?k3x82 ?k4x82 ?_); (case k1x82 => rfl); (case k2x82 => rfl); (case k3x82 => rfl); (case k4x82 => (with_reducible refine locOf_miss (by decide +kernel) ?_; with_reducible exact locOf_same))
    intro _
    (with_reducible refine WE_local (d := ?dx83) ?k1x83 ?k2x83 ?k3x83 ?k4x83 ?_); (case k1x83 => rfl); (case k2x83 => rfl); (case k3x83 => rfl); (case k4x83 => with_reducible exact locOf_same)
    refine ⟨t, rfl, setA_own (.inl (ht' _)) (Sto.put_same _ _ _) (by (rw [‹Gl.K _ = Mine.hp _›]; kernel_rfl)) (Nat.le_of_ble_eq_true rfl) ?_⟩
    rw [Sto.put_put]
    refine Wxs_cons (Wx_If (WT_Not (WT_value rfl (WE_attr ?_))) (fun _ _ h => h))
    (with_reducible refine WE_local (d := ?dx84) ?k1x84 ?k2x84 ?k3x84 ?k4x84 ?_); (case k1x84 => rfl); (case k2x84 => rfl); (case k3x84 => rfl); (case k4x84 => with_reducible exact locOf_same)
    refine getAttr_own (.inl (ht' _)) (Sto.put_same _ _ _) (by (rw [‹Gl.K _ = Mine.hp _›]; kernel_rfl)) rfl (B1_bool ?_)
    show Wxs _ _ _ _ _ _ _ _
    refine Wxs_nil ?_
    refine Wxs_cons (Wx_AssignA rfl ?_ (fun _ _ h => h))
    (with_reducible refine WE_local (d := ?dx85) ?k1x85 ?k2x85 ?k3x85 ?k4x85 ?_); (case k1x85 => rfl); (case k2x85 => rfl); (case k3x85 => rfl); (case k4x85 => (with_reducible refine locOf_miss (by decide +kernel) ?_; with_reducible exact locOf_same))
    intro _
    (with_reducible refine WE_local (d := ?dx86) ?k1x86 ?k2x86 ?k3x86 ?k4x86 ?_); (case k1x86 => rfl); (case k2x86 => rfl); (case k3x86 => rfl); (case k4x86 => with_reducible exact locOf_same)
    refine ⟨t, rfl, setA_own (.inl (ht' _)) (Sto.put_same _ _ _) (by (rw [‹Gl.K _ = Mine.hp _›]; kernel_rfl)) (Nat.le_of_ble_eq_true rfl) ?_⟩
    rw [Sto.put_put]
    refine Wxs_cons (Wx_AssignA rfl (WE_Int ?_) (fun _ _ h => h))
    intro _
    (with_reducible refine WE_local (d := ?dx87) ?k1x87 ?k2x87 ?k3x87 ?k4x87 ?_); (case k1x87 => rfl); (case k2x87 => rfl); (case k3x87 => rfl); (case k4x87 => with_reducible exact locOf_same)
    refine ⟨t, rfl, setA_own (.inl (ht' _)) (Sto.put_same _ _ _) (by (rw [‹Gl.K _ = Mine.hp _›]; kernel_rfl)) (Nat.le_of_ble_eq_true rfl) ?_⟩
    rw [Sto.put_put]
    refine Wxs_cons (Wx_AssignA rfl (WE_None ?_) (fun _ _ h => h))
    intro _
    (with_reducible refine WE_local (d := ?dx88) ?k1x88 ?k2x88 ?k3x88 ?k4x88 ?_); (case k1x88 => rfl); (case k2x88 => rfl); (case k3x88 => rfl); (case k4x88 => with_reducible exact locOf_same)
    refine ⟨t, rfl, setA_own (.inl (ht' _)) (Sto.put_same _ _ _) (by (rw [‹Gl.K _ = Mine.hp _›]; kernel_rfl)) (Nat.le_of_ble_eq_true rfl) ?_⟩
    rw [Sto.put_put]
    show Wxs _ _ _ _ _ (σ.put dx (.flds (tokF true (.str l) l 0 .none))) _ _
    refine Wxs_cons (Wx_Expr rfl rfl (WE_meth0 rfl ?_) (fun _ _ h => h))
    (with_reducible refine WE_local (d := ?dx89) ?k1x89 ?k2x89 ?k3x89 ?k4x89 ?_); (case k1x89 => rfl); (case k2x89 => rfl); (case k3x89 => rfl); (case k4x89 => with_reducible exact locOf_same)
    refine ⟨_, gm_own (f := aNext) (.inl (ht' _)) (Sto.put_same _ _ _) (by (rw [‹Gl.K _ = Mine.hp _›]; kernel_rfl)) rfl, callee_K (by (rw [‹Gl.K _ = Mine.hp _›]; kernel_rfl)), Wn_fn (n := 3) (k := 3) ⟨F, rm, hh, rfl, rfl⟩ (Nat.le_refl _) ((C_next hG (b := true) (by first | exact .inl ⟨rfl, rfl⟩ | exact .inr ⟨rfl, rfl⟩) hl (by omega) (ht' _) (Sto.put_same _ _ _)).mono ?_ fun _ _ h => h)⟩
    rintro d σ' ⟨rfl, h⟩
    exact Wxs_nil ⟨rfl, h⟩
theorem C_init_bytes (hG : G2 G) {t dx : Addr} {l : List Nat} (hl : l.length ≤ 100000) (ht : σ t = some (.inst aTk dx)) (hf : σ dx = some (.flds [])) :
    FnC G HN 4 (.ref aInit) [.ref t, .bytes l] σ (fun d σ' => d = .none ∧ NextP false (.bytes l) l 0 dx (σ.put dx (.flds (tokF false (.bytes l) l 0 .none))) σ') (fun x σ' => nxt l 0 = .bad ∧ Bad (.bytes l) l (σ.put dx (.flds (tokF false (.bytes l) l 0 .none))) x σ') := by
  have hK := hG.K
  have hne : t ≠ dx := by rintro rfl; rw [ht] at hf; cases hf
  have ht' : ∀ F, (σ.put dx (.flds F)) t = some (.inst aTk dx) := fun F => (Sto.put_ne _ _ hne).trans ht
  refine fn_intro (xs := ["self", "string"]) (by rw [hK]; rfl) (by (rw [‹Gl.K _ = Mine.hp _›]; kernel_rfl)) rfl (fun s vs X0 hvs => ?_) (by decide +kernel) (by decide +kernel) (by decide +kernel) rfl rfl rfl rfl rfl ?_
  · obtain ⟨a, b, rfl⟩ := len2 hvs
    exact BindsTo.of_eq rfl
  · rintro ⟨A', env', stk'⟩ Γ L F rm hh rfl
    refine Wxs_cons (Wx_AssignA rfl ?_ (fun _ _ h => h))
    refine WE_bcall callee_builtin rfl rfl rfl rfl rfl (by (rw [‹Gl.K _ = Mine.hp _›]; kernel_rfl)) boot_isinstance (by decide +kernel) rfl rfl rfl rfl fun _ => ?_
    refine WL_cons rfl ?_
    (with_reducible refine WE_local (d := ?dx90) ?k1x90 ?k2x90 ?k3x90 ?k4x90 ?_); (case k1x90 => rfl); (case k2x90 => rfl); (case k3x90 => rfl); (case k4x90 => (with_reducible refine locOf_miss (by decide +kernel) ?_; with_reducible exact locOf_same))
    intro _
    refine WL_cons rfl ?_
    refine WE_boot rfl rfl rfl rfl rfl (by (rw [‹Gl.K _ = Mine.hp _›]; kernel_rfl)) boot_str (by decide +kernel) rfl ?_
    intro _
    refine WL_nil (isi_bytes ?_)
    intro _
    (with_reducible refine WE_local (d := ?dx91) ?k1x91 ?k2x91 ?k3x91 ?k4x91 ?_); (case k1x91 => rfl); (case k2x91 => rfl); (case k3x91 => rfl); (case k4x91 => with_reducible exact locOf_same)
    refine ⟨t, rfl, setA_own (.inl ht) hf (by (rw [‹Gl.K _ = Mine.hp _›]; kernel_rfl)) (Nat.le_of_ble_eq_true rfl) ?_⟩
    refine Wxs_cons (Wx_AssignA rfl ?_ (fun _ _ h => h))
    (with_reducible refine WE_local (d := ?dx92) ?k1x92 ?k2x92 ?k3x92 ?k4x92 ?_); (case k1x92 => rfl); (case k2x92 => rfl); (case k3x92 => rfl); (case k4x92 => (with_reducible refine locOf_miss (by decide +kernel) ?_; with_reducible exact locOf_same))
    intro _
    (with_reducible refine WE_local (d := ?dx93) ?k1x93 ?k2x93 ?k3x93 ?k4x93 ?_); (case k1x93 => rfl); (case k2x93 => rfl); (case k3x93 => rfl); (case k4x93 => with_reducible exact locOf_same)
    refine ⟨t, rfl, setA_own (.inl (ht' _)) (Sto.put_same _ _ _) (by (rw [‹Gl.K _ = Mine.hp _›]; kernel_rfl)) (Nat.le_of_ble_eq_true rfl) ?_⟩
    rw [Sto.put_put]
    refine Wxs_cons (Wx_If (WT_Not (WT_value rfl (WE_attr ?_))) (fun _ _ h => h))
    (with_reducible refine WE_local (d := ?dx94) ?k1x94 ?k2x94 ?k3x94 ?k4x94 ?_); (case k1x94 => rfl); (case k2x94 => rfl); (case k3x94 => rfl); (case k4x94 => with_reducible exact locOf_same)
    refine getAttr_own (.inl (ht' _)) (Sto.put_same _ _ _) (by (rw [‹Gl.K _ = Mine.hp _›]; kernel_rfl)) rfl (B1_bool ?_)
    show Wxs _ _ _ _ _ _ _ _
    refine Wxs_cons (Wx_Assign rfl rfl rfl ?_ (fun _ _ h => h))
    refine WE_bcall callee_type rfl rfl rfl rfl rfl (by (rw [‹Gl.K _ = Mine.hp _›]; kernel_rfl)) boot_str (by decide +kernel) rfl rfl rfl rfl fun _ => ?_
    refine WL_cons rfl ?_
    (with_reducible refine WE_local (d := ?dx95) ?k1x95 ?k2x95 ?k3x95 ?k4x95 ?_); (case k1x95 => rfl); (case k2x95 => rfl); (case k3x95 => rfl); (case k4x95 => (with_reducible refine locOf_miss (by decide +kernel) ?_; with_reducible exact locOf_same))
    intro _
    refine WL_cons rfl (WE_Str latin_lit ?_)
    intro _
    refine WL_nil (latin' (by omega) ?_)
    refine Wxs_nil ?_
    refine Wxs_cons (Wx_AssignA rfl ?_ (fun _ _ h => h))
    (with_reducible refine WE_local (d := ?dx96) ?k1x96 ?k2x96 ?k3x96 ?k4x96 ?_); (case k1x96 => rfl); (case k2x96 => rfl); (case k3x96 => rfl); (case k4x96 => with_reducible exact get_same)
    intro _
    (with_reducible refine WE_local (d := ?dx97) ?k1x97 ?k2x97 ?k3x97 ?k4x97 ?_); (case k1x97 => rfl); (case k2x97 => rfl); (case k3x97 => rfl); (case k4x97 => (with_reducible refine get_miss (by decide +kernel) ?_; with_reducible exact locOf_same))
    refine ⟨t, rfl, setA_own (.inl (ht' _)) (Sto.put_same _ _ _) (by (rw [‹Gl.K _ = Mine.hp _›]; kernel_rfl)) (Nat.le_of_ble_eq_true rfl) ?_⟩
    rw [Sto.put_put]
    refine Wxs_cons (Wx_AssignA rfl (WE_Int ?_) (fun _ _ h => h))
    intro _
    (with_reducible refine WE_local (d := ?dx98) ?k1x98 ?k2x98 ?k3x98 ?k4x98 ?_); (case k1x98 => rfl); (case k2x98 => rfl); (case k3x98 => rfl); (case k4x98 => (with_reducible refine get_miss (by decide +kernel) ?_; with_reducible exact locOf_same))
    refine ⟨t, rfl, setA_own (.inl (ht' _)) (Sto.put_same _ _ _) (by (rw [‹Gl.K _ = Mine.hp _›]; kernel_rfl)) (Nat.le_of_ble_eq_true rfl) ?_⟩
    rw [Sto.put_put]
    refine Wxs_cons (Wx_AssignA rfl (WE_None ?_) (fun _ _ h => h))
    intro _
    (with_reducible refine WE_local (d := ?dx99) ?k1x99 ?k2x99 ?k3x99 ?k4x99 ?_); (case k1x99 => rfl); (case k2x99 => rfl); (case k3x99 => rfl); (case k4x99 => (with_reducible refine get_miss (by decide +kernel) ?_; with_reducible exact locOf_same))
    refine ⟨t, rfl, setA_own (.inl (ht' _)) (Sto.put_same _ _ _) (by (rw [‹Gl.K _ = Mine.hp _›]; kernel_rfl)) (Nat.le_of_ble_eq_true rfl) ?_⟩
    rw [Sto.put_put]
    show Wxs _ _ _ _ _ (σ.put dx (.flds (tokF false (.bytes l) l 0 .none))) _ _
    refine Wxs_cons (Wx_Expr rfl rfl (WE_meth0 rfl ?_) (fun _ _ h => h))
    (with_reducible refine WE_local (d := ?dx100) ?k1x100 ?k2x100 ?k3x100 ?k4x100 ?_); (case k1x100 => rfl); (case k2x100 => rfl); (case k3x100 => rfl); (case k4x100 => (with_reducible refine get_miss (by decide +kernel) ?_; with_reducible exact locOf_same))
    refine ⟨_, gm_own (f := aNext) (.inl (ht' _)) (Sto.put_same _ _ _) (by (rw [‹Gl.K _ = Mine.hp _›]; kernel_rfl)) rfl, callee_K (by (rw [‹Gl.K _ = Mine.hp _›]; kernel_rfl)), Wn_fn (n := 3) (k := 3) ⟨F, rm, hh, rfl, rfl⟩ (Nat.le_refl _) ((C_next hG (b := false) (by first | exact .inl ⟨rfl, rfl⟩ | exact .inr ⟨rfl, rfl⟩) hl (by omega) (ht' _) (Sto.put_same _ _ _)).mono ?_ fun _ _ h => h)⟩
    rintro d σ' ⟨rfl, h⟩
    exact Wxs_nil ⟨rfl, h⟩
theorem C_init (hG : G2 G) {b : Bool} {pat : D} {t dx : Addr} {l : List Nat} (hpat : PatOk b pat l) (hl : l.length ≤ 100000) (ht : σ t = some (.inst aTk dx)) (hf : σ dx = some (.flds [])) :
    FnC G HN 4 (.ref aInit) [.ref t, pat] σ (fun d σ' => d = .none ∧ NextP b pat l 0 dx (σ.put dx (.flds (tokF b pat l 0 .none))) σ') (fun x σ' => nxt l 0 = .bad ∧ Bad pat l (σ.put dx (.flds (tokF b pat l 0 .none))) x σ') := by
  rcases hpat with ⟨rfl, rfl⟩ | ⟨rfl, rfl⟩
  · exact C_init_str hG hl ht hf
  · exact C_init_bytes hG hl ht hf
/-- Tokenizer(pattern) -/
theorem C_new (hG : G2 G) {b : Bool} {pat : D} {l : List Nat} {n : Nat} (F : c.Ok n) (hn : 5 ≤ n) (hpat : PatOk b pat l) (hl : l.length ≤ 100000)
    (h : ∀ t dx σ', t ≠ dx → σ t = none → σ dx = none → NextP b pat l 0 dx (newS σ t dx (tokF b pat l 0 .none)) σ' → P (.ref t) σ')
    (hX : ∀ t dx x σ', t ≠ dx → σ t = none → σ dx = none → nxt l 0 = .bad → Bad pat l (newS σ t dx (tokF b pat l 0 .none)) x σ' → X x σ') :
    Wn G c (fun vs => call (.ref aTk) vs) [pat] ρ σ P X := by
  have hK := hG.K
  refine Wn_make (fI := aInit) (k := 4) F hn (by (rw [‹Gl.K _ = Mine.hp _›]; kernel_rfl)) (by (rw [‹Gl.K _ = Mine.hp _›]; kernel_rfl)) (by (rw [‹Gl.K _ = Mine.hp _›]; kernel_rfl)) fun t dx ht hdx hne => ?_
  refine (C_init hG hpat hl (Sto.put_same _ _ _) ((Sto.put_ne _ _ hne.symm).trans (Sto.put_same _ _ _))).mono ?_ ?_
  · rintro d σ' ⟨rfl, h'⟩
    exact ⟨rfl, h t dx σ' hne ht hdx h'⟩
  · rintro x σ' ⟨h1, h2⟩
    exact hX t dx x σ' hne ht hdx h1 h2
end
end Mine
set_option maxHeartbeats 4000000
namespace Mine
open PySem PySem.W PySem.Calls PyProof.Rows
section
variable {G : Gl} {c : Cx} {ρ : Loc} {σ : Sto} {P : D → Sto → Prop} {X : XP}
theorem C_octets (hG : G2 G) {l : List Nat} (hl : l.length ≤ 100000) (hb : ∀ n ∈ l, n < 256) :
    FnC G HN 1 (.ref aOct) [.str l] σ (fun d σ' => d = .bytes l ∧ ∀ b o, σ b = some o → σ' b = some o) (fun _ _ => False) := by
  have hK := hG.K
  refine fn_intro (xs := ["text"]) (by rw [hK]; rfl) (by (rw [‹Gl.K _ = Mine.hp _›]; kernel_rfl)) rfl (fun s vs X0 hvs => ?_) (by decide +kernel) (by decide +kernel) (by decide +kernel) rfl rfl rfl rfl rfl ?_
  · obtain ⟨a, rfl⟩ := len1 hvs
    exact BindsTo.of_eq rfl
  · rintro ⟨A', env', stk'⟩ Γ L F rm hh rfl
    refine Wxs_cons (Wx_Return ?_ (fun _ _ h => h))
    refine WE_bcall callee_type rfl rfl rfl rfl rfl (by (rw [‹Gl.K _ = Mine.hp _›]; kernel_rfl)) boot_bytes (by decide +kernel) rfl rfl rfl rfl fun _ => ?_
    refine WL_cons rfl (WE_ListComp F rfl (by decide +kernel) rfl (by decide +kernel) (by decide +kernel) (fun _ => rfl) ?_)
    (with_reducible refine WE_local (d := ?dx101) ?k1x101 ?k2x101 ?k3x101 ?k4x101 ?_); (case k1x101 => rfl); (case k2x101 => rfl); (case k3x101 => rfl); (case k4x101 => with_reducible exact locOf_same)
    refine ⟨_, _, fun d => match d with | .str [a] => some (.int a) | _ => none, iter_str hh, by simp; omega, fun C τ Γ' d' hτ hd ρ' hx => ?_, fun a ha => ?_⟩
    · obtain ⟨a, ha, rfl⟩ := List.mem_map.mp hd
      refine tests_nil ⟨rfl, rfl, fun Γ'' => ?_⟩
      show WE G (Cx.comp _ _ _ _ _) _ _ _ _ _ _
      refine WE_bcall callee_builtin rfl rfl rfl rfl rfl (by (rw [‹Gl.K _ = Mine.hp _›]; kernel_rfl)) boot_ord (by decide +kernel) rfl rfl rfl rfl fun _ => ?_
      refine WL_cons rfl (WE_local rfl rfl rfl hx ?_)
      intro _
      exact WL_nil (ord' ⟨rfl, rfl⟩)
    · intro _
      have e : (l.map fun a => D.str [a]).filterMap (fun d => match d with | .str [a] => some (D.int a) | _ => none) = l.map fun n : Nat => D.int n := by
        rw [List.filterMap_map]
        rw [← List.filterMap_eq_map]
        rfl
      rw [e]
      refine WL_nil (bytes' hh (Sto.put_same _ _ _) (by omega) hb ⟨rfl, fun b o hbo => ?_⟩)
      rw [Sto.put_ne _ _ (fun q => by rw [q, ha] at hbo; cases hbo)]
      exact hbo
end
end Mine
set_option maxHeartbeats 4000000
namespace Mine
open PySem PySem.W PySem.Calls PyProof.Rows
noncomputable def nzero : D → Nat
  | .none => 0
  | _ => 1
theorem nzero_le (d : D) : nzero d ≤ 1 := by unfold nzero; split <;> omega
theorem newS_put {σ : Sto} {t dx : Addr} {F F' : List (Str × D)} : (newS σ t dx F).put dx (.flds F') = newS σ t dx F' := by unfold newS; rw [Sto.put_put]
theorem newS_t {σ : Sto} {t dx : Addr} {F : List (Str × D)} (h : t ≠ dx) : newS σ t dx F t = some (.inst aTk dx) := by unfold newS; rw [Sto.put_ne _ _ h, Sto.put_same]
theorem newS_d {σ : Sto} {t dx : Addr} {F : List (Str × D)} : newS σ t dx F dx = some (.flds F) := Sto.put_same _ _ _
theorem newS_o {σ : Sto} {t dx a : Addr} {F : List (Str × D)} {o : O} (ht : σ t = none) (hd : σ dx = none) (ha : σ a = some o) : newS σ t dx F a = some o := by
  have h1 := ne_none ht ha
  have h2 := ne_none hd ha
  unfold newS
  rw [Sto.put_ne _ _ h2, Sto.put_ne _ _ h1, Sto.put_ne _ _ h2]; exact ha
end Mine
set_option maxHeartbeats 4000000
namespace Mine
open PySem PySem.W PySem.Calls PyProof.Rows
theorem nlc_take (l : List Nat) (p : Nat) : ∀ i, i ≤ p → nlc (l.take p) i = nlc l i
  | 0, _ => rfl
  | i + 1, h => by
    show nlc (l.take p) i + (if (l.take p)[i]? = some 10 then 1 else 0) = nlc l i + (if l[i]? = some 10 then 1 else 0)
    rw [nlc_take l p i (by omega), List.getElem?_take_of_lt (by omega)]
theorem nll_take (l : List Nat) (p : Nat) : ∀ i, i ≤ p → nll (l.take p) i = nll l i
  | 0, _ => rfl
  | i + 1, h => by
    show (if (l.take p)[i]? = some 10 then (i : Int) else nll (l.take p) i) = (if l[i]? = some 10 then (i : Int) else nll l i)
    rw [nll_take l p i (by omega), List.getElem?_take_of_lt (by omega)]
theorem cut_upto {α : Type} (l : List α) (m : Nat) : cut none (some (m : Int)) l = l.take m := by
  unfold cut cutLo cutHi
  dsimp only
  rw [if_neg (by omega), Int.toNat_natCast, List.drop_zero, Nat.sub_zero]
  by_cases h : m ≤ l.length
  · rw [Nat.min_eq_left h]
  · rw [Nat.min_eq_right (by omega), List.take_of_length_le (Nat.le_refl _), List.take_of_length_le (by omega)]
/-- what is told of a refusal at a place -/
noncomputable def wordsL (pat : D) (l : List Nat) (p : Nat) : List D := [.str bad, pat, .int p, .int (nlc l p + 1), .int (p - nll l p), .str (perrW l p)]
theorem bad_len : bad.length ≤ 100 := by decide +kernel
section
variable {G : Gl} {c : Cx} {ρ : Loc} {σ : Sto} {P : D → Sto → Prop} {X : XP}
theorem C_words_str (hG : G2 G) {l : List Nat} {p : Nat} (hp : p ≤ l.length) (hl : l.length ≤ 1000) :
    FnC G HN 1 (.ref aWords) [.str l, .str bad, .int p] σ (fun d σ' => ∃ r, d = .ref r ∧ σ r = none ∧ σ' r = some (.list (wordsL (.str l) l p)) ∧ ∀ b o, σ b = some o → σ' b = some o) (fun _ _ => False) := by
  have hK := hG.K
  have hnn := nll_ge l p
  have hnl := nll_lt l p
  have hnc := nlc_le l p
  have hbl := bad_len
  have b1 : (Str.ofString " at position ").cps.toList.length ≤ 20 := by decide +kernel
  have b2 : (Str.ofString " (line ").cps.toList.length ≤ 20 := by decide +kernel
  have b3 : (Str.ofString ", column ").cps.toList.length ≤ 20 := by decide +kernel
  have b4 : (Str.ofString ")").cps.toList.length ≤ 20 := by decide +kernel
  have hdp := dig_len (n := p) (by omega) (by omega)
  have hdl := dig_len (n := (nlc l p : Int) + 1) (by omega) (by omega)
  have hdc := dig_len (n := (p : Int) - nll l p) (by omega) (by omega)
  refine fn_intro (xs := ["pattern", "msg", "pos"]) (by rw [hK]; rfl) (by (rw [‹Gl.K _ = Mine.hp _›]; kernel_rfl)) rfl (fun s vs X0 hvs => ?_) (by decide +kernel) (by decide +kernel) (by decide +kernel) rfl rfl rfl rfl rfl ?_
  · obtain ⟨a, b, c, rfl⟩ := len3 hvs
    exact BindsTo.of_eq rfl
  · rintro ⟨A', env', stk'⟩ Γ L F rm hh rfl
    (with_reducible refine Wxs_cons (Wx_Assign ?k1x102 ?k2x102 ?k3x102 ?_ (fun _ _ h => h))); (case k1x102 => rfl); (case k2x102 => rfl); (case k3x102 => rfl)
    refine WE_IfExp (WT_value rfl ?_)
    (with_reducible refine WE_bcall (f := ?fx103) ?hfx103 ?k1x103 ?k2x103 ?k3x103 ?k4x103 ?k5x103 ?enx103 ?hvx103 ?hnx103 ?hhx103 ?k6x103 ?k7x103 ?k8x103 fun _ => ?_); (case hvx103 => with_reducible exact boot_isinstance); (case hfx103 => with_reducible exact callee_builtin); (case enx103 => (rw [‹Gl.K _ = Mine.hp _›]; kernel_rfl)); (case hnx103 => decide +kernel); all_goals first | rfl | skip
    (with_reducible refine WL_cons ?k1x104 ?_); (case k1x104 => rfl)
    (with_reducible refine WE_local (d := ?dx105) ?k1x105 ?k2x105 ?k3x105 ?k4x105 ?_); (case k1x105 => rfl); (case k2x105 => rfl); (case k3x105 => rfl); (case k4x105 => with_reducible exact locOf_same)
    with_reducible refine fun (_ : Value) => ?_
    (with_reducible refine WL_cons ?k1x106 ?_); (case k1x106 => rfl)
    (with_reducible refine WE_boot (v := ?vx107) ?k1x107 ?k2x107 ?k3x107 ?k4x107 ?k5x107 ?enx107 ?hvx107 ?hnx107 ?hhx107 ?_); (case hvx107 => with_reducible exact boot_str); (case enx107 => (rw [‹Gl.K _ = Mine.hp _›]; kernel_rfl)); (case hnx107 => decide +kernel); (case k1x107 => rfl); (case k2x107 => rfl); (case k3x107 => rfl); (case k4x107 => rfl); (case k5x107 => rfl); (case hhx107 => rfl)
    with_reducible refine fun (_ : Value) => ?_
    with_reducible refine WL_nil ?_
    with_reducible refine isi_str ?_
    with_reducible refine B1_bool ?_
    show WE _ _ _ _ _ _ _ _
    refine WE_Str (l := [10]) (by decide +kernel) ?_
    show Wxs _ _ _ _ _ _ _ _
    (with_reducible refine Wxs_cons (Wx_Assign ?k1x108 ?k2x108 ?k3x108 ?_ (fun _ _ h => h))); (case k1x108 => rfl); (case k2x108 => rfl); (case k3x108 => rfl)
    with_reducible refine WE_cut ?_
    (with_reducible refine WE_local (d := ?dx109) ?k1x109 ?k2x109 ?k3x109 ?k4x109 ?_); (case k1x109 => rfl); (case k2x109 => rfl); (case k3x109 => rfl); (case k4x109 => (with_reducible refine get_miss (by decide +kernel) ?_; with_reducible exact locOf_same))
    with_reducible refine fun (_ : Value) => ?_
    with_reducible refine WPt_none ?_
    with_reducible refine WPt_some ?_
    (with_reducible refine WE_local (d := ?dx110) ?k1x110 ?k2x110 ?k3x110 ?k4x110 ?_); (case k1x110 => rfl); (case k2x110 => rfl); (case k3x110 => rfl); (case k4x110 => (with_reducible refine get_miss (by decide +kernel) ?_; (with_reducible refine locOf_miss (by decide +kernel) ?_; (with_reducible refine locOf_miss (by decide +kernel) ?_; with_reducible exact locOf_same))))
    with_reducible refine Exists.intro _ (And.intro (rfl : D.int _ = D.int _) ?_)
    (with_reducible refine cut_str ?k1x111 ?k2x111 ?k3x111 ?_); (case k2x111 => exact fun _ _ _ => rfl); (case k3x111 => exact fun _ _ _ => rfl); (case k1x111 => omega)
    try (refine cut_str (by omega) (fun _ _ _ => rfl) (fun _ _ _ => rfl) ?_)
    rw [cut_upto]
    have ht : (l.take p).length = p := by rw [List.length_take, Nat.min_eq_left hp]
    have hrl : (rows (l.take p)).length = nlc l p + 1 := by rw [rows_len, ht, nlc_take l p p (Nat.le_refl _)]
    obtain ⟨w, hw1, hw2⟩ := rows_last (l.take p)
    rw [ht, nlc_take l p p (Nat.le_refl _)] at hw1
    rw [ht, nll_take l p p (Nat.le_refl _)] at hw2
    show Wxs _ _ _ _ _ _ _ _
    (with_reducible refine Wxs_cons (Wx_Assign ?k1x112 ?k2x112 ?k3x112 ?_ (fun _ _ h => h))); (case k1x112 => rfl); (case k2x112 => rfl); (case k3x112 => rfl)
    (with_reducible refine WE_meth (pl := ?plx113) ?k1x113 ?k2x113 ?k3x113 ?_); (case k1x113 => rfl); (case k2x113 => rfl); (case k3x113 => rfl)
    (with_reducible refine WE_local (d := ?dx114) ?k1x114 ?k2x114 ?k3x114 ?k4x114 ?_); (case k1x114 => rfl); (case k2x114 => rfl); (case k3x114 => rfl); (case k4x114 => with_reducible exact get_same)
    refine ⟨_, gm_str PySem.F.slot_str_split PySem.F.type_str_split, callee_builtin, fun _ => ?_⟩
    (with_reducible refine WL_cons ?k1x115 ?_); (case k1x115 => rfl)
    (with_reducible refine WE_local (d := ?dx116) ?k1x116 ?k2x116 ?k3x116 ?k4x116 ?_); (case k1x116 => rfl); (case k2x116 => rfl); (case k3x116 => rfl); (case k4x116 => (with_reducible refine get_miss (by decide +kernel) ?_; with_reducible exact get_same))
    with_reducible refine fun (_ : Value) => ?_
    with_reducible refine WL_nil ?_
    refine split_str' (by omega) fun r1 hr1 => ?_
    show Wxs _ _ _ _ _ _ _ _
    (with_reducible refine Wxs_cons (Wx_Assign ?k1x117 ?k2x117 ?k3x117 ?_ (fun _ _ h => h))); (case k1x117 => rfl); (case k2x117 => rfl); (case k3x117 => rfl)
    (with_reducible refine WE_bcall (f := ?fx118) ?hfx118 ?k1x118 ?k2x118 ?k3x118 ?k4x118 ?k5x118 ?enx118 ?hvx118 ?hnx118 ?hhx118 ?k6x118 ?k7x118 ?k8x118 fun _ => ?_); (case hvx118 => with_reducible exact boot_len); (case hfx118 => with_reducible exact callee_builtin); (case enx118 => (rw [‹Gl.K _ = Mine.hp _›]; kernel_rfl)); (case hnx118 => decide +kernel); all_goals first | rfl | skip
    (with_reducible refine WL_cons ?k1x119 ?_); (case k1x119 => rfl)
    (with_reducible refine WE_local (d := ?dx120) ?k1x120 ?k2x120 ?k3x120 ?k4x120 ?_); (case k1x120 => rfl); (case k2x120 => rfl); (case k3x120 => rfl); (case k4x120 => with_reducible exact get_same)
    with_reducible refine fun (_ : Value) => ?_
    with_reducible refine WL_nil ?_
    refine len_list' (Sto.put_same _ _ _) (by rw [List.length_map, hrl]; omega) ?_
    rw [List.length_map, hrl]
    show Wxs _ _ _ _ _ _ _ _
    (with_reducible refine Wxs_cons (Wx_Assign ?k1x121 ?k2x121 ?k3x121 ?_ (fun _ _ h => h))); (case k1x121 => rfl); (case k2x121 => rfl); (case k3x121 => rfl)
    with_reducible refine WE_BinOp ?_
    with_reducible refine WE_BinOp ?_
    with_reducible refine WE_BinOp ?_
    (with_reducible refine WE_local (d := ?dx122) ?k1x122 ?k2x122 ?k3x122 ?k4x122 ?_); (case k1x122 => rfl); (case k2x122 => rfl); (case k3x122 => rfl); (case k4x122 => (with_reducible refine get_miss (by decide +kernel) ?_; (with_reducible refine get_miss (by decide +kernel) ?_; (with_reducible refine get_miss (by decide +kernel) ?_; (with_reducible refine get_miss (by decide +kernel) ?_; (with_reducible refine locOf_miss (by decide +kernel) ?_; (with_reducible refine locOf_miss (by decide +kernel) ?_; with_reducible exact locOf_same)))))))
    with_reducible refine fun (_ : Value) => ?_
    (with_reducible refine WE_bcall (f := ?fx123) ?hfx123 ?k1x123 ?k2x123 ?k3x123 ?k4x123 ?k5x123 ?enx123 ?hvx123 ?hnx123 ?hhx123 ?k6x123 ?k7x123 ?k8x123 fun _ => ?_); (case hvx123 => with_reducible exact boot_len); (case hfx123 => with_reducible exact callee_builtin); (case enx123 => (rw [‹Gl.K _ = Mine.hp _›]; kernel_rfl)); (case hnx123 => decide +kernel); all_goals first | rfl | skip
    (with_reducible refine WL_cons ?k1x124 ?_); (case k1x124 => rfl)
    (with_reducible refine WE_local (d := ?dx125) ?k1x125 ?k2x125 ?k3x125 ?k4x125 ?_); (case k1x125 => rfl); (case k2x125 => rfl); (case k3x125 => rfl); (case k4x125 => (with_reducible refine get_miss (by decide +kernel) ?_; (with_reducible refine get_miss (by decide +kernel) ?_; with_reducible exact get_same)))
    with_reducible refine fun (_ : Value) => ?_
    with_reducible refine WL_nil ?_
    (with_reducible refine len_str' ?k1x126 ?_); (case k1x126 => omega)
    with_reducible refine sub_int' ?_
    with_reducible refine fun (_ : Value) => ?_
    (with_reducible refine WE_bcall (f := ?fx127) ?hfx127 ?k1x127 ?k2x127 ?k3x127 ?k4x127 ?k5x127 ?enx127 ?hvx127 ?hnx127 ?hhx127 ?k6x127 ?k7x127 ?k8x127 fun _ => ?_); (case hvx127 => with_reducible exact boot_len); (case hfx127 => with_reducible exact callee_builtin); (case enx127 => (rw [‹Gl.K _ = Mine.hp _›]; kernel_rfl)); (case hnx127 => decide +kernel); all_goals first | rfl | skip
    (with_reducible refine WL_cons ?k1x128 ?_); (case k1x128 => rfl)
    with_reducible refine WE_sub ?_
    (with_reducible refine WE_local (d := ?dx129) ?k1x129 ?k2x129 ?k3x129 ?k4x129 ?_); (case k1x129 => rfl); (case k2x129 => rfl); (case k3x129 => rfl); (case k4x129 => (with_reducible refine get_miss (by decide +kernel) ?_; with_reducible exact get_same))
    with_reducible refine fun (_ : Value) => ?_
    with_reducible refine WE_Unary ?_
    with_reducible refine WE_Int ?_
    with_reducible refine neg_int' ?_
    refine sub_last (Sto.put_same _ _ _) (by rw [List.length_map, hrl]; omega) (by decide) (by rw [List.length_map, hrl]; omega) (d := .str w) ?_ (fun _ _ => rfl) ?_
    · rw [List.length_map, hrl, show ((-1 : Int) + ((nlc l p + 1 : Nat) : Int)).toNat = nlc l p by omega, List.getElem?_map, hw1]; rfl
    with_reducible refine fun (_ : Value) => ?_
    with_reducible refine WL_nil ?_
    (with_reducible refine len_str' ?k1x130 ?_); (case k1x130 => omega)
    with_reducible refine add_int' ?_
    with_reducible refine fun (_ : Value) => ?_
    with_reducible refine WE_Int ?_
    with_reducible refine add_int' ?_
    rw [ht, show ((p : Int) - p + w.length + 1) = (p : Int) - nll l p by omega, show ((nlc l p + 1 : Nat) : Int) = (nlc l p : Int) + 1 by omega]
    show Wxs _ _ _ _ _ _ _ _
    (with_reducible refine Wxs_cons (Wx_Assign ?k1x131 ?k2x131 ?k3x131 ?_ (fun _ _ h => h))); (case k1x131 => rfl); (case k2x131 => rfl); (case k3x131 => rfl)
    with_reducible refine WE_BinOp ?_
    with_reducible refine WE_BinOp ?_
    (with_reducible refine WE_local (d := ?dx132) ?k1x132 ?k2x132 ?k3x132 ?k4x132 ?_); (case k1x132 => rfl); (case k2x132 => rfl); (case k3x132 => rfl); (case k4x132 => (with_reducible refine get_miss (by decide +kernel) ?_; (with_reducible refine get_miss (by decide +kernel) ?_; (with_reducible refine get_miss (by decide +kernel) ?_; (with_reducible refine get_miss (by decide +kernel) ?_; (with_reducible refine get_miss (by decide +kernel) ?_; (with_reducible refine locOf_miss (by decide +kernel) ?_; with_reducible exact locOf_same)))))))
    with_reducible refine fun (_ : Value) => ?_
    (with_reducible refine WE_Str (l := ?lx133) ?k1x133 ?_); (case k1x133 => rfl)
    (with_reducible refine add_str' ?k1x134 ?k2x134 ?_); (case k1x134 => omega); (case k2x134 => omega)
    with_reducible refine fun (_ : Value) => ?_
    (with_reducible refine WE_bcall (f := ?fx135) ?hfx135 ?k1x135 ?k2x135 ?k3x135 ?k4x135 ?k5x135 ?enx135 ?hvx135 ?hnx135 ?hhx135 ?k6x135 ?k7x135 ?k8x135 fun _ => ?_); (case hvx135 => with_reducible exact boot_str); (case hfx135 => with_reducible exact callee_type); (case enx135 => (rw [‹Gl.K _ = Mine.hp _›]; kernel_rfl)); (case hnx135 => decide +kernel); all_goals first | rfl | skip
    (with_reducible refine WL_cons ?k1x136 ?_); (case k1x136 => rfl)
    (with_reducible refine WE_local (d := ?dx137) ?k1x137 ?k2x137 ?k3x137 ?k4x137 ?_); (case k1x137 => rfl); (case k2x137 => rfl); (case k3x137 => rfl); (case k4x137 => (with_reducible refine get_miss (by decide +kernel) ?_; (with_reducible refine get_miss (by decide +kernel) ?_; (with_reducible refine get_miss (by decide +kernel) ?_; (with_reducible refine get_miss (by decide +kernel) ?_; (with_reducible refine get_miss (by decide +kernel) ?_; (with_reducible refine locOf_miss (by decide +kernel) ?_; (with_reducible refine locOf_miss (by decide +kernel) ?_; with_reducible exact locOf_same))))))))
    with_reducible refine fun (_ : Value) => ?_
    with_reducible refine WL_nil ?_
    (with_reducible refine str_int' ?k1x138 ?_); (case k1x138 => omega)
    (with_reducible refine add_str' ?k1x139 ?k2x139 ?_); (case k1x139 => (simp only [List.length_append]; omega)); (case k2x139 => omega)
    show Wxs _ _ _ _ _ _ _ _
    refine Wxs_cons (WS.mono (R := fun f ρ' σ' => f = .next ∧ ρ' "msg" = some (.str bad) ∧ ρ' "pattern" = some (.str l) ∧ ρ' "pos" = some (.int p) ∧ ρ' "line" = some (.int (nlc l p + 1)) ∧ ρ' "column" = some (.int (p - nll l p)) ∧ ρ' "words" = some (.str (perrW l p)) ∧ ∀ b o, σ b = some o → σ' b = some o) (Y := fun _ _ _ => False) ?_ ?_ (fun _ _ _ h => h))
    · refine Wx_If ?_ (fun _ _ h => h)
      (with_reducible refine WT_Compare ?k1x140 ?_); (case k1x140 => rfl)
      (with_reducible refine WE_bcall (f := ?fx141) ?hfx141 ?k1x141 ?k2x141 ?k3x141 ?k4x141 ?k5x141 ?enx141 ?hvx141 ?hnx141 ?hhx141 ?k6x141 ?k7x141 ?k8x141 fun _ => ?_); (case hvx141 => with_reducible exact boot_len); (case hfx141 => with_reducible exact callee_builtin); (case enx141 => (rw [‹Gl.K _ = Mine.hp _›]; kernel_rfl)); (case hnx141 => decide +kernel); all_goals first | rfl | skip
      (with_reducible refine WL_cons ?k1x142 ?_); (case k1x142 => rfl)
      (with_reducible refine WE_meth (pl := ?plx143) ?k1x143 ?k2x143 ?k3x143 ?_); (case k1x143 => rfl); (case k2x143 => rfl); (case k3x143 => rfl)
      (with_reducible refine WE_local (d := ?dx144) ?k1x144 ?k2x144 ?k3x144 ?k4x144 ?_); (case k1x144 => rfl); (case k2x144 => rfl); (case k3x144 => rfl); (case k4x144 => (with_reducible refine get_miss (by decide +kernel) ?_; (with_reducible refine get_miss (by decide +kernel) ?_; (with_reducible refine get_miss (by decide +kernel) ?_; (with_reducible refine get_miss (by decide +kernel) ?_; (with_reducible refine get_miss (by decide +kernel) ?_; (with_reducible refine get_miss (by decide +kernel) ?_; with_reducible exact locOf_same)))))))
      refine ⟨_, gm_str PySem.F.slot_str_split PySem.F.type_str_split, callee_builtin, fun _ => ?_⟩
      (with_reducible refine WL_cons ?k1x145 ?_); (case k1x145 => rfl)
      (with_reducible refine WE_local (d := ?dx146) ?k1x146 ?k2x146 ?k3x146 ?k4x146 ?_); (case k1x146 => rfl); (case k2x146 => rfl); (case k3x146 => rfl); (case k4x146 => (with_reducible refine get_miss (by decide +kernel) ?_; (with_reducible refine get_miss (by decide +kernel) ?_; (with_reducible refine get_miss (by decide +kernel) ?_; (with_reducible refine get_miss (by decide +kernel) ?_; (with_reducible refine get_miss (by decide +kernel) ?_; with_reducible exact get_same))))))
      with_reducible refine fun (_ : Value) => ?_
      with_reducible refine WL_nil ?_
      refine split_str' (by omega) fun r2 hr2 => ?_
      have hr3 : (rows l).length = nlc l l.length + 1 := rows_len l
      have hn3 := nlc_le l l.length
      with_reducible refine fun (_ : Value) => ?_
      with_reducible refine WL_nil ?_
      refine len_list' (Sto.put_same _ _ _) (by rw [List.length_map, hr3]; omega) ?_
      rw [List.length_map, hr3]
      with_reducible refine fun (_ : Value) => ?_
      with_reducible refine WE_Int ?_
      with_reducible refine gt_int' ?_
      with_reducible refine B1_bool ?_
      have hmem := nlc_mem l l.length (Nat.le_refl _)
      rw [List.take_length] at hmem
      by_cases hm : 10 ∈ l
      · have := hmem.mpr hm
        rw [if_pos (by simp; omega)]
        refine Wxs_cons (Wx_Aug rfl rfl (by with_reducible exact get_same) (fun _ => ?_) (fun _ _ h => h))
        with_reducible refine WE_BinOp ?_
        with_reducible refine WE_BinOp ?_
        with_reducible refine WE_BinOp ?_
        with_reducible refine WE_BinOp ?_
        (with_reducible refine WE_Str (l := ?lx147) ?k1x147 ?_); (case k1x147 => rfl)
        with_reducible refine fun (_ : Value) => ?_
        (with_reducible refine WE_bcall (f := ?fx148) ?hfx148 ?k1x148 ?k2x148 ?k3x148 ?k4x148 ?k5x148 ?enx148 ?hvx148 ?hnx148 ?hhx148 ?k6x148 ?k7x148 ?k8x148 fun _ => ?_); (case hvx148 => with_reducible exact boot_str); (case hfx148 => with_reducible exact callee_type); (case enx148 => (rw [‹Gl.K _ = Mine.hp _›]; kernel_rfl)); (case hnx148 => decide +kernel); all_goals first | rfl | skip
        (with_reducible refine WL_cons ?k1x149 ?_); (case k1x149 => rfl)
        (with_reducible refine WE_local (d := ?dx150) ?k1x150 ?k2x150 ?k3x150 ?k4x150 ?_); (case k1x150 => rfl); (case k2x150 => rfl); (case k3x150 => rfl); (case k4x150 => (with_reducible refine get_miss (by decide +kernel) ?_; (with_reducible refine get_miss (by decide +kernel) ?_; with_reducible exact get_same)))
        with_reducible refine fun (_ : Value) => ?_
        with_reducible refine WL_nil ?_
        (with_reducible refine str_int' ?k1x151 ?_); (case k1x151 => omega)
        (with_reducible refine add_str' ?k1x152 ?k2x152 ?_); (case k1x152 => omega); (case k2x152 => omega)
        with_reducible refine fun (_ : Value) => ?_
        (with_reducible refine WE_Str (l := ?lx153) ?k1x153 ?_); (case k1x153 => rfl)
        (with_reducible refine add_str' ?k1x154 ?k2x154 ?_); (case k1x154 => (simp only [List.length_append]; omega)); (case k2x154 => omega)
        with_reducible refine fun (_ : Value) => ?_
        (with_reducible refine WE_bcall (f := ?fx155) ?hfx155 ?k1x155 ?k2x155 ?k3x155 ?k4x155 ?k5x155 ?enx155 ?hvx155 ?hnx155 ?hhx155 ?k6x155 ?k7x155 ?k8x155 fun _ => ?_); (case hvx155 => with_reducible exact boot_str); (case hfx155 => with_reducible exact callee_type); (case enx155 => (rw [‹Gl.K _ = Mine.hp _›]; kernel_rfl)); (case hnx155 => decide +kernel); all_goals first | rfl | skip
        (with_reducible refine WL_cons ?k1x156 ?_); (case k1x156 => rfl)
        (with_reducible refine WE_local (d := ?dx157) ?k1x157 ?k2x157 ?k3x157 ?k4x157 ?_); (case k1x157 => rfl); (case k2x157 => rfl); (case k3x157 => rfl); (case k4x157 => (with_reducible refine get_miss (by decide +kernel) ?_; with_reducible exact get_same))
        with_reducible refine fun (_ : Value) => ?_
        with_reducible refine WL_nil ?_
        (with_reducible refine str_int' ?k1x158 ?_); (case k1x158 => omega)
        (with_reducible refine add_str' ?k1x159 ?k2x159 ?_); (case k1x159 => (simp only [List.length_append]; omega)); (case k2x159 => omega)
        with_reducible refine fun (_ : Value) => ?_
        (with_reducible refine WE_Str (l := ?lx160) ?k1x160 ?_); (case k1x160 => rfl)
        (with_reducible refine add_str' ?k1x161 ?k2x161 ?_); (case k1x161 => (simp only [List.length_append]; omega)); (case k2x161 => omega)
        refine iadd_str' (by simp only [List.length_append]; omega) (by simp only [List.length_append]; omega) ?_
        refine Wxs_nil ⟨rfl, by (with_reducible refine get_miss (by decide +kernel) ?_; (with_reducible refine get_miss (by decide +kernel) ?_; (with_reducible refine get_miss (by decide +kernel) ?_; (with_reducible refine get_miss (by decide +kernel) ?_; (with_reducible refine get_miss (by decide +kernel) ?_; (with_reducible refine get_miss (by decide +kernel) ?_; (with_reducible refine get_miss (by decide +kernel) ?_; (with_reducible refine locOf_miss (by decide +kernel) ?_; with_reducible exact locOf_same)))))))), by (with_reducible refine get_miss (by decide +kernel) ?_; (with_reducible refine get_miss (by decide +kernel) ?_; (with_reducible refine get_miss (by decide +kernel) ?_; (with_reducible refine get_miss (by decide +kernel) ?_; (with_reducible refine get_miss (by decide +kernel) ?_; (with_reducible refine get_miss (by decide +kernel) ?_; (with_reducible refine get_miss (by decide +kernel) ?_; with_reducible exact locOf_same))))))), by (with_reducible refine get_miss (by decide +kernel) ?_; (with_reducible refine get_miss (by decide +kernel) ?_; (with_reducible refine get_miss (by decide +kernel) ?_; (with_reducible refine get_miss (by decide +kernel) ?_; (with_reducible refine get_miss (by decide +kernel) ?_; (with_reducible refine get_miss (by decide +kernel) ?_; (with_reducible refine get_miss (by decide +kernel) ?_; (with_reducible refine locOf_miss (by decide +kernel) ?_; (with_reducible refine locOf_miss (by decide +kernel) ?_; with_reducible exact locOf_same))))))))), by (with_reducible refine get_miss (by decide +kernel) ?_; (with_reducible refine get_miss (by decide +kernel) ?_; (with_reducible refine get_miss (by decide +kernel) ?_; with_reducible exact get_same))), by (with_reducible refine get_miss (by decide +kernel) ?_; (with_reducible refine get_miss (by decide +kernel) ?_; with_reducible exact get_same)), ?_, fun b o hb => put_keep hr2 (put_keep hr1 hb)⟩
        rw [get_same]
        unfold perrW
        rw [if_pos hm]
        simp only [lit, List.append_assoc]
      · have : ¬ nlc l l.length ≠ 0 := fun q => hm (hmem.mp q)
        rw [if_neg (by simp; omega)]
        refine Wxs_nil ⟨rfl, by (with_reducible refine get_miss (by decide +kernel) ?_; (with_reducible refine get_miss (by decide +kernel) ?_; (with_reducible refine get_miss (by decide +kernel) ?_; (with_reducible refine get_miss (by decide +kernel) ?_; (with_reducible refine get_miss (by decide +kernel) ?_; (with_reducible refine get_miss (by decide +kernel) ?_; (with_reducible refine locOf_miss (by decide +kernel) ?_; with_reducible exact locOf_same))))))), by (with_reducible refine get_miss (by decide +kernel) ?_; (with_reducible refine get_miss (by decide +kernel) ?_; (with_reducible refine get_miss (by decide +kernel) ?_; (with_reducible refine get_miss (by decide +kernel) ?_; (with_reducible refine get_miss (by decide +kernel) ?_; (with_reducible refine get_miss (by decide +kernel) ?_; with_reducible exact locOf_same)))))), by (with_reducible refine get_miss (by decide +kernel) ?_; (with_reducible refine get_miss (by decide +kernel) ?_; (with_reducible refine get_miss (by decide +kernel) ?_; (with_reducible refine get_miss (by decide +kernel) ?_; (with_reducible refine get_miss (by decide +kernel) ?_; (with_reducible refine get_miss (by decide +kernel) ?_; (with_reducible refine locOf_miss (by decide +kernel) ?_; (with_reducible refine locOf_miss (by decide +kernel) ?_; with_reducible exact locOf_same)))))))), by (with_reducible refine get_miss (by decide +kernel) ?_; (with_reducible refine get_miss (by decide +kernel) ?_; with_reducible exact get_same)), by (with_reducible refine get_miss (by decide +kernel) ?_; with_reducible exact get_same), ?_, fun b o hb => put_keep hr2 (put_keep hr1 hb)⟩
        rw [get_same]
        unfold perrW
        rw [if_neg hm]
        rfl
    rintro f ρ' σ' ⟨rfl, q1, q2, q3, q4, q5, q6, kp⟩
    show Wxs _ _ _ _ _ _ _ _
    with_reducible refine Wxs_cons (Wx_Return ?_ (fun _ _ h => h))
    with_reducible refine WE_list ?_
    (with_reducible refine WL_cons ?k1x162 ?_); (case k1x162 => rfl)
    (with_reducible refine WE_local (d := ?dx163) ?k1x163 ?k2x163 ?k3x163 ?k4x163 ?_); (case k1x163 => rfl); (case k2x163 => rfl); (case k3x163 => rfl); (case k4x163 => with_reducible assumption)
    with_reducible refine fun (_ : Value) => ?_
    (with_reducible refine WL_cons ?k1x164 ?_); (case k1x164 => rfl)
    (with_reducible refine WE_local (d := ?dx165) ?k1x165 ?k2x165 ?k3x165 ?k4x165 ?_); (case k1x165 => rfl); (case k2x165 => rfl); (case k3x165 => rfl); (case k4x165 => with_reducible assumption)
    with_reducible refine fun (_ : Value) => ?_
    (with_reducible refine WL_cons ?k1x166 ?_); (case k1x166 => rfl)
    (with_reducible refine WE_local (d := ?dx167) ?k1x167 ?k2x167 ?k3x167 ?k4x167 ?_); (case k1x167 => rfl); (case k2x167 => rfl); (case k3x167 => rfl); (case k4x167 => with_reducible assumption)
    with_reducible refine fun (_ : Value) => ?_
    (with_reducible refine WL_cons ?k1x168 ?_); (case k1x168 => rfl)
    (with_reducible refine WE_local (d := ?dx169) ?k1x169 ?k2x169 ?k3x169 ?k4x169 ?_); (case k1x169 => rfl); (case k2x169 => rfl); (case k3x169 => rfl); (case k4x169 => with_reducible assumption)
    with_reducible refine fun (_ : Value) => ?_
    (with_reducible refine WL_cons ?k1x170 ?_); (case k1x170 => rfl)
    (with_reducible refine WE_local (d := ?dx171) ?k1x171 ?k2x171 ?k3x171 ?k4x171 ?_); (case k1x171 => rfl); (case k2x171 => rfl); (case k3x171 => rfl); (case k4x171 => with_reducible assumption)
    with_reducible refine fun (_ : Value) => ?_
    (with_reducible refine WL_cons ?k1x172 ?_); (case k1x172 => rfl)
    (with_reducible refine WE_local (d := ?dx173) ?k1x173 ?k2x173 ?k3x173 ?k4x173 ?_); (case k1x173 => rfl); (case k2x173 => rfl); (case k3x173 => rfl); (case k4x173 => with_reducible assumption)
    with_reducible refine fun (_ : Value) => ?_
    with_reducible refine WL_nil ?_
    (with_reducible refine And.intro (Nat.le_of_ble_eq_true ?k1x174 : _ ≤ 1000) ?_); (case k1x174 => rfl)
    intro r hr
    exact ⟨r, rfl, (by cases z : σ r with | none => rfl | some o => rw [kp _ _ z] at hr; cases hr), Sto.put_same _ _ _, fun b o hb => put_keep hr (kp _ _ hb)⟩
theorem C_words_bytes (hG : G2 G) {l : List Nat} {p : Nat} (hp : p ≤ l.length) (hl : l.length ≤ 1000) :
    FnC G HN 1 (.ref aWords) [.bytes l, .str bad, .int p] σ (fun d σ' => ∃ r, d = .ref r ∧ σ r = none ∧ σ' r = some (.list (wordsL (.bytes l) l p)) ∧ ∀ b o, σ b = some o → σ' b = some o) (fun _ _ => False) := by
  have hK := hG.K
  have hnn := nll_ge l p
  have hnl := nll_lt l p
  have hnc := nlc_le l p
  have hbl := bad_len
  have b1 : (Str.ofString " at position ").cps.toList.length ≤ 20 := by decide +kernel
  have b2 : (Str.ofString " (line ").cps.toList.length ≤ 20 := by decide +kernel
  have b3 : (Str.ofString ", column ").cps.toList.length ≤ 20 := by decide +kernel
  have b4 : (Str.ofString ")").cps.toList.length ≤ 20 := by decide +kernel
  have hdp := dig_len (n := p) (by omega) (by omega)
  have hdl := dig_len (n := (nlc l p : Int) + 1) (by omega) (by omega)
  have hdc := dig_len (n := (p : Int) - nll l p) (by omega) (by omega)
  refine fn_intro (xs := ["pattern", "msg", "pos"]) (by rw [hK]; rfl) (by (rw [‹Gl.K _ = Mine.hp _›]; kernel_rfl)) rfl (fun s vs X0 hvs => ?_) (by decide +kernel) (by decide +kernel) (by decide +kernel) rfl rfl rfl rfl rfl ?_
  · obtain ⟨a, b, c, rfl⟩ := len3 hvs
    exact BindsTo.of_eq rfl
  · rintro ⟨A', env', stk'⟩ Γ L F rm hh rfl
    (with_reducible refine Wxs_cons (Wx_Assign ?k1x175 ?k2x175 ?k3x175 ?_ (fun _ _ h => h))); (case k1x175 => rfl); (case k2x175 => rfl); (case k3x175 => rfl)
    refine WE_IfExp (WT_value rfl ?_)
    (with_reducible refine WE_bcall (f := ?fx176) ?hfx176 ?k1x176 ?k2x176 ?k3x176 ?k4x176 ?k5x176 ?enx176 ?hvx176 ?hnx176 ?hhx176 ?k6x176 ?k7x176 ?k8x176 fun _ => ?_); (case hvx176 => with_reducible exact boot_isinstance); (case hfx176 => with_reducible exact callee_builtin); (case enx176 => (rw [‹Gl.K _ = Mine.hp _›]; kernel_rfl)); (case hnx176 => decide +kernel); all_goals first | rfl | skip
    (with_reducible refine WL_cons ?k1x177 ?_); (case k1x177 => rfl)
    (with_reducible refine WE_local (d := ?dx178) ?k1x178 ?k2x178 ?k3x178 ?k4x178 ?_); (case k1x178 => rfl); (case k2x178 => rfl); (case k3x178 => rfl); (case k4x178 => with_reducible exact locOf_same)
    with_reducible refine fun (_ : Value) => ?_
    (with_reducible refine WL_cons ?k1x179 ?_); (case k1x179 => rfl)
    (with_reducible refine WE_boot (v := ?vx180) ?k1x180 ?k2x180 ?k3x180 ?k4x180 ?k5x180 ?enx180 ?hvx180 ?hnx180 ?hhx180 ?_); (case hvx180 => with_reducible exact boot_str); (case enx180 => (rw [‹Gl.K _ = Mine.hp _›]; kernel_rfl)); (case hnx180 => decide +kernel); (case k1x180 => rfl); (case k2x180 => rfl); (case k3x180 => rfl); (case k4x180 => rfl); (case k5x180 => rfl); (case hhx180 => rfl)
    with_reducible refine fun (_ : Value) => ?_
    with_reducible refine WL_nil ?_
    with_reducible refine isi_bytes ?_
    with_reducible refine B1_bool ?_
    show WE _ _ _ _ _ _ _ _
    refine WE_Bytes (l := [10]) rfl ?_
    show Wxs _ _ _ _ _ _ _ _
    (with_reducible refine Wxs_cons (Wx_Assign ?k1x181 ?k2x181 ?k3x181 ?_ (fun _ _ h => h))); (case k1x181 => rfl); (case k2x181 => rfl); (case k3x181 => rfl)
    with_reducible refine WE_cut ?_
    (with_reducible refine WE_local (d := ?dx182) ?k1x182 ?k2x182 ?k3x182 ?k4x182 ?_); (case k1x182 => rfl); (case k2x182 => rfl); (case k3x182 => rfl); (case k4x182 => (with_reducible refine get_miss (by decide +kernel) ?_; with_reducible exact locOf_same))
    with_reducible refine fun (_ : Value) => ?_
    with_reducible refine WPt_none ?_
    with_reducible refine WPt_some ?_
    (with_reducible refine WE_local (d := ?dx183) ?k1x183 ?k2x183 ?k3x183 ?k4x183 ?_); (case k1x183 => rfl); (case k2x183 => rfl); (case k3x183 => rfl); (case k4x183 => (with_reducible refine get_miss (by decide +kernel) ?_; (with_reducible refine locOf_miss (by decide +kernel) ?_; (with_reducible refine locOf_miss (by decide +kernel) ?_; with_reducible exact locOf_same))))
    with_reducible refine Exists.intro _ (And.intro (rfl : D.int _ = D.int _) ?_)
    (refine cut_byt (by omega) (fun _ _ _ => rfl) (fun _ _ _ => rfl) ?_)
    rw [cut_upto]
    have ht : (l.take p).length = p := by rw [List.length_take, Nat.min_eq_left hp]
    have hrl : (rows (l.take p)).length = nlc l p + 1 := by rw [rows_len, ht, nlc_take l p p (Nat.le_refl _)]
    obtain ⟨w, hw1, hw2⟩ := rows_last (l.take p)
    rw [ht, nlc_take l p p (Nat.le_refl _)] at hw1
    rw [ht, nll_take l p p (Nat.le_refl _)] at hw2
    show Wxs _ _ _ _ _ _ _ _
    (with_reducible refine Wxs_cons (Wx_Assign ?k1x184 ?k2x184 ?k3x184 ?_ (fun _ _ h => h))); (case k1x184 => rfl); (case k2x184 => rfl); (case k3x184 => rfl)
    (with_reducible refine WE_meth (pl := ?plx185) ?k1x185 ?k2x185 ?k3x185 ?_); (case k1x185 => rfl); (case k2x185 => rfl); (case k3x185 => rfl)
    (with_reducible refine WE_local (d := ?dx186) ?k1x186 ?k2x186 ?k3x186 ?k4x186 ?_); (case k1x186 => rfl); (case k2x186 => rfl); (case k3x186 => rfl); (case k4x186 => with_reducible exact get_same)
    refine ⟨_, gm_bytes BF.slot_split BF.type_split, callee_builtin, fun _ => ?_⟩
    (with_reducible refine WL_cons ?k1x187 ?_); (case k1x187 => rfl)
    (with_reducible refine WE_local (d := ?dx188) ?k1x188 ?k2x188 ?k3x188 ?k4x188 ?_); (case k1x188 => rfl); (case k2x188 => rfl); (case k3x188 => rfl); (case k4x188 => (with_reducible refine get_miss (by decide +kernel) ?_; with_reducible exact get_same))
    with_reducible refine fun (_ : Value) => ?_
    with_reducible refine WL_nil ?_
    refine split_bytes' (by omega) fun r1 hr1 => ?_
    show Wxs _ _ _ _ _ _ _ _
    (with_reducible refine Wxs_cons (Wx_Assign ?k1x189 ?k2x189 ?k3x189 ?_ (fun _ _ h => h))); (case k1x189 => rfl); (case k2x189 => rfl); (case k3x189 => rfl)
    (with_reducible refine WE_bcall (f := ?fx190) ?hfx190 ?k1x190 ?k2x190 ?k3x190 ?k4x190 ?k5x190 ?enx190 ?hvx190 ?hnx190 ?hhx190 ?k6x190 ?k7x190 ?k8x190 fun _ => ?_); (case hvx190 => with_reducible exact boot_len); (case hfx190 => with_reducible exact callee_builtin); (case enx190 => (rw [‹Gl.K _ = Mine.hp _›]; kernel_rfl)); (case hnx190 => decide +kernel); all_goals first | rfl | skip
    (with_reducible refine WL_cons ?k1x191 ?_); (case k1x191 => rfl)
    (with_reducible refine WE_local (d := ?dx192) ?k1x192 ?k2x192 ?k3x192 ?k4x192 ?_); (case k1x192 => rfl); (case k2x192 => rfl); (case k3x192 => rfl); (case k4x192 => with_reducible exact get_same)
    with_reducible refine fun (_ : Value) => ?_
    with_reducible refine WL_nil ?_
    refine len_list' (Sto.put_same _ _ _) (by rw [List.length_map, hrl]; omega) ?_
    rw [List.length_map, hrl]
    show Wxs _ _ _ _ _ _ _ _
    (with_reducible refine Wxs_cons (Wx_Assign ?k1x193 ?k2x193 ?k3x193 ?_ (fun _ _ h => h))); (case k1x193 => rfl); (case k2x193 => rfl); (case k3x193 => rfl)
    with_reducible refine WE_BinOp ?_
    with_reducible refine WE_BinOp ?_
    with_reducible refine WE_BinOp ?_
    (with_reducible refine WE_local (d := ?dx194) ?k1x194 ?k2x194 ?k3x194 ?k4x194 ?_); (case k1x194 => rfl); (case k2x194 => rfl); (case k3x194 => rfl); (case k4x194 => (with_reducible refine get_miss (by decide +kernel) ?_; (with_reducible refine get_miss (by decide +kernel) ?_; (with_reducible refine get_miss (by decide +kernel) ?_; (with_reducible refine get_miss (by decide +kernel) ?_; (with_reducible refine locOf_miss (by decide +kernel) ?_; (with_reducible refine locOf_miss (by decide +kernel) ?_; with_reducible exact locOf_same)))))))
    with_reducible refine fun (_ : Value) => ?_
    (with_reducible refine WE_bcall (f := ?fx195) ?hfx195 ?k1x195 ?k2x195 ?k3x195 ?k4x195 ?k5x195 ?enx195 ?hvx195 ?hnx195 ?hhx195 ?k6x195 ?k7x195 ?k8x195 fun _ => ?_); (case hvx195 => with_reducible exact boot_len); (case hfx195 => with_reducible exact callee_builtin); (case enx195 => (rw [‹Gl.K _ = Mine.hp _›]; kernel_rfl)); (case hnx195 => decide +kernel); all_goals first | rfl | skip
    (with_reducible refine WL_cons ?k1x196 ?_); (case k1x196 => rfl)
    (with_reducible refine WE_local (d := ?dx197) ?k1x197 ?k2x197 ?k3x197 ?k4x197 ?_); (case k1x197 => rfl); (case k2x197 => rfl); (case k3x197 => rfl); (case k4x197 => (with_reducible refine get_miss (by decide +kernel) ?_; (with_reducible refine get_miss (by decide +kernel) ?_; with_reducible exact get_same)))
    with_reducible refine fun (_ : Value) => ?_
    with_reducible refine WL_nil ?_
    (with_reducible refine len_bytes' ?k1x198 ?_); (case k1x198 => omega)
    with_reducible refine sub_int' ?_
    with_reducible refine fun (_ : Value) => ?_
    (with_reducible refine WE_bcall (f := ?fx199) ?hfx199 ?k1x199 ?k2x199 ?k3x199 ?k4x199 ?k5x199 ?enx199 ?hvx199 ?hnx199 ?hhx199 ?k6x199 ?k7x199 ?k8x199 fun _ => ?_); (case hvx199 => with_reducible exact boot_len); (case hfx199 => with_reducible exact callee_builtin); (case enx199 => (rw [‹Gl.K _ = Mine.hp _›]; kernel_rfl)); (case hnx199 => decide +kernel); all_goals first | rfl | skip
    (with_reducible refine WL_cons ?k1x200 ?_); (case k1x200 => rfl)
    with_reducible refine WE_sub ?_
    (with_reducible refine WE_local (d := ?dx201) ?k1x201 ?k2x201 ?k3x201 ?k4x201 ?_); (case k1x201 => rfl); (case k2x201 => rfl); (case k3x201 => rfl); (case k4x201 => (with_reducible refine get_miss (by decide +kernel) ?_; with_reducible exact get_same))
    with_reducible refine fun (_ : Value) => ?_
    with_reducible refine WE_Unary ?_
    with_reducible refine WE_Int ?_
    with_reducible refine neg_int' ?_
    refine sub_last (Sto.put_same _ _ _) (by rw [List.length_map, hrl]; omega) (by decide) (by rw [List.length_map, hrl]; omega) (d := .bytes w) ?_ (fun _ _ => rfl) ?_
    · rw [List.length_map, hrl, show ((-1 : Int) + ((nlc l p + 1 : Nat) : Int)).toNat = nlc l p by omega, List.getElem?_map, hw1]; rfl
    with_reducible refine fun (_ : Value) => ?_
    with_reducible refine WL_nil ?_
    (with_reducible refine len_bytes' ?k1x202 ?_); (case k1x202 => omega)
    with_reducible refine add_int' ?_
    with_reducible refine fun (_ : Value) => ?_
    with_reducible refine WE_Int ?_
    with_reducible refine add_int' ?_
    rw [ht, show ((p : Int) - p + w.length + 1) = (p : Int) - nll l p by omega, show ((nlc l p + 1 : Nat) : Int) = (nlc l p : Int) + 1 by omega]
    show Wxs _ _ _ _ _ _ _ _
    (with_reducible refine Wxs_cons (Wx_Assign ?k1x203 ?k2x203 ?k3x203 ?_ (fun _ _ h => h))); (case k1x203 => rfl); (case k2x203 => rfl); (case k3x203 => rfl)
    with_reducible refine WE_BinOp ?_
    with_reducible refine WE_BinOp ?_
    (with_reducible refine WE_local (d := ?dx204) ?k1x204 ?k2x204 ?k3x204 ?k4x204 ?_); (case k1x204 => rfl); (case k2x204 => rfl); (case k3x204 => rfl); (case k4x204 => (with_reducible refine get_miss (by decide +kernel) ?_; (with_reducible refine get_miss (by decide +kernel) ?_; (with_reducible refine get_miss (by decide +kernel) ?_; (with_reducible refine get_miss (by decide +kernel) ?_; (with_reducible refine get_miss (by decide +kernel) ?_; (with_reducible refine locOf_miss (by decide +kernel) ?_; with_reducible exact locOf_same)))))))
    with_reducible refine fun (_ : Value) => ?_
    (with_reducible refine WE_Str (l := ?lx205) ?k1x205 ?_); (case k1x205 => rfl)
    (with_reducible refine add_str' ?k1x206 ?k2x206 ?_); (case k1x206 => omega); (case k2x206 => omega)
    with_reducible refine fun (_ : Value) => ?_
    (with_reducible refine WE_bcall (f := ?fx207) ?hfx207 ?k1x207 ?k2x207 ?k3x207 ?k4x207 ?k5x207 ?enx207 ?hvx207 ?hnx207 ?hhx207 ?k6x207 ?k7x207 ?k8x207 fun _ => ?_); (case hvx207 => with_reducible exact boot_str); (case hfx207 => with_reducible exact callee_type); (case enx207 => (rw [‹Gl.K _ = Mine.hp _›]; kernel_rfl)); (case hnx207 => decide +kernel); all_goals first | rfl | skip
    (with_reducible refine WL_cons ?k1x208 ?_); (case k1x208 => rfl)
    (with_reducible refine WE_local (d := ?dx209) ?k1x209 ?k2x209 ?k3x209 ?k4x209 ?_); (case k1x209 => rfl); (case k2x209 => rfl); (case k3x209 => rfl); (case k4x209 => (with_reducible refine get_miss (by decide +kernel) ?_; (with_reducible refine get_miss (by decide +kernel) ?_; (with_reducible refine get_miss (by decide +kernel) ?_; (with_reducible refine get_miss (by decide +kernel) ?_; (with_reducible refine get_miss (by decide +kernel) ?_; (with_reducible refine locOf_miss (by decide +kernel) ?_; (with_reducible refine locOf_miss (by decide +kernel) ?_; with_reducible exact locOf_same))))))))
    with_reducible refine fun (_ : Value) => ?_
    with_reducible refine WL_nil ?_
    (with_reducible refine str_int' ?k1x210 ?_); (case k1x210 => omega)
    (with_reducible refine add_str' ?k1x211 ?k2x211 ?_); (case k1x211 => (simp only [List.length_append]; omega)); (case k2x211 => omega)
    show Wxs _ _ _ _ _ _ _ _
    refine Wxs_cons (WS.mono (R := fun f ρ' σ' => f = .next ∧ ρ' "msg" = some (.str bad) ∧ ρ' "pattern" = some (.bytes l) ∧ ρ' "pos" = some (.int p) ∧ ρ' "line" = some (.int (nlc l p + 1)) ∧ ρ' "column" = some (.int (p - nll l p)) ∧ ρ' "words" = some (.str (perrW l p)) ∧ ∀ b o, σ b = some o → σ' b = some o) (Y := fun _ _ _ => False) ?_ ?_ (fun _ _ _ h => h))
    · refine Wx_If ?_ (fun _ _ h => h)
      (with_reducible refine WT_Compare ?k1x212 ?_); (case k1x212 => rfl)
      (with_reducible refine WE_bcall (f := ?fx213) ?hfx213 ?k1x213 ?k2x213 ?k3x213 ?k4x213 ?k5x213 ?enx213 ?hvx213 ?hnx213 ?hhx213 ?k6x213 ?k7x213 ?k8x213 fun _ => ?_); (case hvx213 => with_reducible exact boot_len); (case hfx213 => with_reducible exact callee_builtin); (case enx213 => (rw [‹Gl.K _ = Mine.hp _›]; kernel_rfl)); (case hnx213 => decide +kernel); all_goals first | rfl | skip
      (with_reducible refine WL_cons ?k1x214 ?_); (case k1x214 => rfl)
      (with_reducible refine WE_meth (pl := ?plx215) ?k1x215 ?k2x215 ?k3x215 ?_); (case k1x215 => rfl); (case k2x215 => rfl); (case k3x215 => rfl)
      (with_reducible refine WE_local (d := ?dx216) ?k1x216 ?k2x216 ?k3x216 ?k4x216 ?_); (case k1x216 => rfl); (case k2x216 => rfl); (case k3x216 => rfl); (case k4x216 => (with_reducible refine get_miss (by decide +kernel) ?_; (with_reducible refine get_miss (by decide +kernel) ?_; (with_reducible refine get_miss (by decide +kernel) ?_; (with_reducible refine get_miss (by decide +kernel) ?_; (with_reducible refine get_miss (by decide +kernel) ?_; (with_reducible refine get_miss (by decide +kernel) ?_; with_reducible exact locOf_same)))))))
      refine ⟨_, gm_bytes BF.slot_split BF.type_split, callee_builtin, fun _ => ?_⟩
      (with_reducible refine WL_cons ?k1x217 ?_); (case k1x217 => rfl)
      (with_reducible refine WE_local (d := ?dx218) ?k1x218 ?k2x218 ?k3x218 ?k4x218 ?_); (case k1x218 => rfl); (case k2x218 => rfl); (case k3x218 => rfl); (case k4x218 => (with_reducible refine get_miss (by decide +kernel) ?_; (with_reducible refine get_miss (by decide +kernel) ?_; (with_reducible refine get_miss (by decide +kernel) ?_; (with_reducible refine get_miss (by decide +kernel) ?_; (with_reducible refine get_miss (by decide +kernel) ?_; with_reducible exact get_same))))))
      with_reducible refine fun (_ : Value) => ?_
      with_reducible refine WL_nil ?_
      refine split_bytes' (by omega) fun r2 hr2 => ?_
      have hr3 : (rows l).length = nlc l l.length + 1 := rows_len l
      have hn3 := nlc_le l l.length
      with_reducible refine fun (_ : Value) => ?_
      with_reducible refine WL_nil ?_
      refine len_list' (Sto.put_same _ _ _) (by rw [List.length_map, hr3]; omega) ?_
      rw [List.length_map, hr3]
      with_reducible refine fun (_ : Value) => ?_
      with_reducible refine WE_Int ?_
      with_reducible refine gt_int' ?_
      with_reducible refine B1_bool ?_
      have hmem := nlc_mem l l.length (Nat.le_refl _)
      rw [List.take_length] at hmem
      by_cases hm : 10 ∈ l
      · have := hmem.mpr hm
        rw [if_pos (by simp; omega)]
        refine Wxs_cons (Wx_Aug rfl rfl (by with_reducible exact get_same) (fun _ => ?_) (fun _ _ h => h))
        with_reducible refine WE_BinOp ?_
        with_reducible refine WE_BinOp ?_
        with_reducible refine WE_BinOp ?_
        with_reducible refine WE_BinOp ?_
        (with_reducible refine WE_Str (l := ?lx219) ?k1x219 ?_); (case k1x219 => rfl)
        with_reducible refine fun (_ : Value) => ?_
        (with_reducible refine WE_bcall (f := ?fx220) ?hfx220 ?k1x220 ?k2x220 ?k3x220 ?k4x220 ?k5x220 ?enx220 ?hvx220 ?hnx220 ?hhx220 ?k6x220 ?k7x220 ?k8x220 fun _ => ?_); (case hvx220 => with_reducible exact boot_str); (case hfx220 => with_reducible exact callee_type); (case enx220 => (rw [‹Gl.K _ = Mine.hp _›]; kernel_rfl)); (case hnx220 => decide +kernel); all_goals first | rfl | skip
        (with_reducible refine WL_cons ?k1x221 ?_); (case k1x221 => rfl)
        (with_reducible refine WE_local (d := ?dx222) ?k1x222 ?k2x222 ?k3x222 ?k4x222 ?_); (case k1x222 => rfl); (case k2x222 => rfl); (case k3x222 => rfl); (case k4x222 => (with_reducible refine get_miss (by decide +kernel) ?_; (with_reducible refine get_miss (by decide +kernel) ?_; with_reducible exact get_same)))
        with_reducible refine fun (_ : Value) => ?_
        with_reducible refine WL_nil ?_
        (with_reducible refine str_int' ?k1x223 ?_); (case k1x223 => omega)
        (with_reducible refine add_str' ?k1x224 ?k2x224 ?_); (case k1x224 => omega); (case k2x224 => omega)
        with_reducible refine fun (_ : Value) => ?_
        (with_reducible refine WE_Str (l := ?lx225) ?k1x225 ?_); (case k1x225 => rfl)
        (with_reducible refine add_str' ?k1x226 ?k2x226 ?_); (case k1x226 => (simp only [List.length_append]; omega)); (case k2x226 => omega)
        with_reducible refine fun (_ : Value) => ?_
        (with_reducible refine WE_bcall (f := ?fx227) ?hfx227 ?k1x227 ?k2x227 ?k3x227 ?k4x227 ?k5x227 ?enx227 ?hvx227 ?hnx227 ?hhx227 ?k6x227 ?k7x227 ?k8x227 fun _ => ?_); (case hvx227 => with_reducible exact boot_str); (case hfx227 => with_reducible exact callee_type); (case enx227 => (rw [‹Gl.K _ = Mine.hp _›]; kernel_rfl)); (case hnx227 => decide +kernel); all_goals first | rfl | skip
        (with_reducible refine WL_cons ?k1x228 ?_); (case k1x228 => rfl)
        (with_reducible refine WE_local (d := ?dx229) ?k1x229 ?k2x229 ?k3x229 ?k4x229 ?_); (case k1x229 => rfl); (case k2x229 => rfl); (case k3x229 => rfl); (case k4x229 => (with_reducible refine get_miss (by decide +kernel) ?_; with_reducible exact get_same))
        with_reducible refine fun (_ : Value) => ?_
        with_reducible refine WL_nil ?_
        (with_reducible refine str_int' ?k1x230 ?_); (case k1x230 => omega)
        (with_reducible refine add_str' ?k1x231 ?k2x231 ?_); (case k1x231 => (simp only [List.length_append]; omega)); (case k2x231 => omega)
        with_reducible refine fun (_ : Value) => ?_
        (with_reducible refine WE_Str (l := ?lx232) ?k1x232 ?_); (case k1x232 => rfl)
        (with_reducible refine add_str' ?k1x233 ?k2x233 ?_); (case k1x233 => (simp only [List.length_append]; omega)); (case k2x233 => omega)
        refine iadd_str' (by simp only [List.length_append]; omega) (by simp only [List.length_append]; omega) ?_
        refine Wxs_nil ⟨rfl, by (with_reducible refine get_miss (by decide +kernel) ?_; (with_reducible refine get_miss (by decide +kernel) ?_; (with_reducible refine get_miss (by decide +kernel) ?_; (with_reducible refine get_miss (by decide +kernel) ?_; (with_reducible refine get_miss (by decide +kernel) ?_; (with_reducible refine get_miss (by decide +kernel) ?_; (with_reducible refine get_miss (by decide +kernel) ?_; (with_reducible refine locOf_miss (by decide +kernel) ?_; with_reducible exact locOf_same)))))))), by (with_reducible refine get_miss (by decide +kernel) ?_; (with_reducible refine get_miss (by decide +kernel) ?_; (with_reducible refine get_miss (by decide +kernel) ?_; (with_reducible refine get_miss (by decide +kernel) ?_; (with_reducible refine get_miss (by decide +kernel) ?_; (with_reducible refine get_miss (by decide +kernel) ?_; (with_reducible refine get_miss (by decide +kernel) ?_; with_reducible exact locOf_same))))))), by (with_reducible refine get_miss (by decide +kernel) ?_; (with_reducible refine get_miss (by decide +kernel) ?_; (with_reducible refine get_miss (by decide +kernel) ?_; (with_reducible refine get_miss (by decide +kernel) ?_; (with_reducible refine get_miss (by decide +kernel) ?_; (with_reducible refine get_miss (by decide +kernel) ?_; (with_reducible refine get_miss (by decide +kernel) ?_; (with_reducible refine locOf_miss (by decide +kernel) ?_; (with_reducible refine locOf_miss (by decide +kernel) ?_; with_reducible exact locOf_same))))))))), by (with_reducible refine get_miss (by decide +kernel) ?_; (with_reducible refine get_miss (by decide +kernel) ?_; (with_reducible refine get_miss (by decide +kernel) ?_; with_reducible exact get_same))), by (with_reducible refine get_miss (by decide +kernel) ?_; (with_reducible refine get_miss (by decide +kernel) ?_; with_reducible exact get_same)), ?_, fun b o hb => put_keep hr2 (put_keep hr1 hb)⟩
        rw [get_same]
        unfold perrW
        rw [if_pos hm]
        simp only [lit, List.append_assoc]
      · have : ¬ nlc l l.length ≠ 0 := fun q => hm (hmem.mp q)
        rw [if_neg (by simp; omega)]
        refine Wxs_nil ⟨rfl, by (with_reducible refine get_miss (by decide +kernel) ?_; (with_reducible refine get_miss (by decide +kernel) ?_; (with_reducible refine get_miss (by decide +kernel) ?_; (with_reducible refine get_miss (by decide +kernel) ?_; (with_reducible refine get_miss (by decide +kernel) ?_; (with_reducible refine get_miss (by decide +kernel) ?_; (with_reducible refine locOf_miss (by decide +kernel) ?_; with_reducible exact locOf_same))))))), by (with_reducible refine get_miss (by decide +kernel) ?_; (with_reducible refine get_miss (by decide +kernel) ?_; (with_reducible refine get_miss (by decide +kernel) ?_; (with_reducible refine get_miss (by decide +kernel) ?_; (with_reducible refine get_miss (by decide +kernel) ?_; (with_reducible refine get_miss (by decide +kernel) ?_; with_reducible exact locOf_same)))))), by (with_reducible refine get_miss (by decide +kernel) ?_; (with_reducible refine get_miss (by decide +kernel) ?_; (with_reducible refine get_miss (by decide +kernel) ?_; (with_reducible refine get_miss (by decide +kernel) ?_; (with_reducible refine get_miss (by decide +kernel) ?_; (with_reducible refine get_miss (by decide +kernel) ?_; (with_reducible refine locOf_miss (by decide +kernel) ?_; (with_reducible refine locOf_miss (by decide +kernel) ?_; with_reducible exact locOf_same)))))))), by (with_reducible refine get_miss (by decide +kernel) ?_; (with_reducible refine get_miss (by decide +kernel) ?_; with_reducible exact get_same)), by (with_reducible refine get_miss (by decide +kernel) ?_; with_reducible exact get_same), ?_, fun b o hb => put_keep hr2 (put_keep hr1 hb)⟩
        rw [get_same]
        unfold perrW
        rw [if_neg hm]
        rfl
    rintro f ρ' σ' ⟨rfl, q1, q2, q3, q4, q5, q6, kp⟩
    show Wxs _ _ _ _ _ _ _ _
    with_reducible refine Wxs_cons (Wx_Return ?_ (fun _ _ h => h))
    with_reducible refine WE_list ?_
    (with_reducible refine WL_cons ?k1x234 ?_); (case k1x234 => rfl)
    (with_reducible refine WE_local (d := ?dx235) ?k1x235 ?k2x235 ?k3x235 ?k4x235 ?_); (case k1x235 => rfl); (case k2x235 => rfl); (case k3x235 => rfl); (case k4x235 => with_reducible assumption)
    with_reducible refine fun (_ : Value) => ?_
    (with_reducible refine WL_cons ?k1x236 ?_); (case k1x236 => rfl)
    (with_reducible refine WE_local (d := ?dx237) ?k1x237 ?k2x237 ?k3x237 ?k4x237 ?_); (case k1x237 => rfl); (case k2x237 => rfl); (case k3x237 => rfl); (case k4x237 => with_reducible assumption)
    with_reducible refine fun (_ : Value) => ?_
    (with_reducible refine WL_cons ?k1x238 ?_); (case k1x238 => rfl)
    (with_reducible refine WE_local (d := ?dx239) ?k1x239 ?k2x239 ?k3x239 ?k4x239 ?_); (case k1x239 => rfl); (case k2x239 => rfl); (case k3x239 => rfl); (case k4x239 => with_reducible assumption)
    with_reducible refine fun (_ : Value) => ?_
    (with_reducible refine WL_cons ?k1x240 ?_); (case k1x240 => rfl)
    (with_reducible refine WE_local (d := ?dx241) ?k1x241 ?k2x241 ?k3x241 ?k4x241 ?_); (case k1x241 => rfl); (case k2x241 => rfl); (case k3x241 => rfl); (case k4x241 => with_reducible assumption)
    with_reducible refine fun (_ : Value) => ?_
    (with_reducible refine WL_cons ?k1x242 ?_); (case k1x242 => rfl)
    (with_reducible refine WE_local (d := ?dx243) ?k1x243 ?k2x243 ?k3x243 ?k4x243 ?_); (case k1x243 => rfl); (case k2x243 => rfl); (case k3x243 => rfl); (case k4x243 => with_reducible assumption)
    with_reducible refine fun (_ : Value) => ?_
    (with_reducible refine WL_cons ?k1x244 ?_); (case k1x244 => rfl)
    (with_reducible refine WE_local (d := ?dx245) ?k1x245 ?k2x245 ?k3x245 ?k4x245 ?_); (case k1x245 => rfl); (case k2x245 => rfl); (case k3x245 => rfl); (case k4x245 => with_reducible assumption)
    with_reducible refine fun (_ : Value) => ?_
    with_reducible refine WL_nil ?_
    (with_reducible refine And.intro (Nat.le_of_ble_eq_true ?k1x246 : _ ≤ 1000) ?_); (case k1x246 => rfl)
    intro r hr
    exact ⟨r, rfl, (by cases z : σ r with | none => rfl | some o => rw [kp _ _ z] at hr; cases hr), Sto.put_same _ _ _, fun b o hb => put_keep hr (kp _ _ hb)⟩
theorem C_words (hG : G2 G) {b : Bool} {pat : D} {l : List Nat} {p : Nat} (hpat : PatOk b pat l) (hp : p ≤ l.length) (hl : l.length ≤ 1000) :
    FnC G HN 1 (.ref aWords) [pat, .str bad, .int p] σ (fun d σ' => ∃ r, d = .ref r ∧ σ r = none ∧ σ' r = some (.list (wordsL pat l p)) ∧ ∀ b o, σ b = some o → σ' b = some o) (fun _ _ => False) := by
  rcases hpat with ⟨-, rfl⟩ | ⟨-, rfl⟩
  · exact C_words_str hG hp hl
  · exact C_words_bytes hG hp hl
/-- a def of the text called, an exception at hand or not -/
theorem Wn_fnH {hd : Option Value → Prop} {n k : Nat} {f : Value} {ds : List D} (F : c.Fn) (hr : c.Room n) (hh : hd c.A.handled) (hk : k ≤ n) (h : FnC G hd k f ds σ P X) : Wn G c (fun vs => call f vs) ds ρ σ P X := fun Γ vs hl hp s Q E S q fl => wpAny_call (h c ρ Γ vs s _ F (hr.le hk) hh S hl hp (fun v d σ' h tk p S' => q v d σ' h tk p S') fun e x σ' h tk p S' => fl e x .fly ρ σ' h tk ⟨rfl, p⟩ S')
theorem C_told (hG : G2 G) {hd : Option Value → Prop} {pat : D} {e dx : Addr} {l : List Nat} {p : Nat} (he : σ e = some (.exc aPE dx (.tup [.str (perrW l p)]))) (hf : σ dx = some (.flds (perrF pat l p))) :
    FnC G hd 1 (.ref aTold) [.ref e] σ (fun d σ' => ∃ r, d = .ref r ∧ σ r = none ∧ σ' r = some (.list (wordsL pat l p)) ∧ ∀ b o, σ b = some o → σ' b = some o) (fun _ _ => False) := by
  have hK := hG.K
  refine fn_intro (xs := ["e"]) (by rw [hK]; rfl) (by (rw [‹Gl.K _ = Mine.hp _›]; kernel_rfl)) rfl (fun s vs X0 hvs => ?_) (by decide +kernel) (by decide +kernel) (by decide +kernel) rfl rfl rfl rfl rfl ?_
  · obtain ⟨a, rfl⟩ := len1 hvs
    exact BindsTo.of_eq rfl
  · rintro ⟨A', env', stk'⟩ Γ L F rm hh rfl
    with_reducible refine Wxs_cons (Wx_Return ?_ (fun _ _ h => h))
    with_reducible refine WE_list ?_
    (with_reducible refine WL_cons ?k1x247 ?_); (case k1x247 => rfl)
    with_reducible refine WE_attr ?_
    (with_reducible refine WE_local (d := ?dx248) ?k1x248 ?k2x248 ?k3x248 ?k4x248 ?_); (case k1x248 => rfl); (case k2x248 => rfl); (case k3x248 => rfl); (case k4x248 => with_reducible exact locOf_same)
    refine getAttr_E (.inr (.inl ⟨_, he⟩)) hf (by (rw [‹Gl.K _ = Mine.hp _›]; kernel_rfl)) rfl ?_
    with_reducible refine fun (_ : Value) => ?_
    (with_reducible refine WL_cons ?k1x249 ?_); (case k1x249 => rfl)
    with_reducible refine WE_attr ?_
    (with_reducible refine WE_local (d := ?dx250) ?k1x250 ?k2x250 ?k3x250 ?k4x250 ?_); (case k1x250 => rfl); (case k2x250 => rfl); (case k3x250 => rfl); (case k4x250 => with_reducible exact locOf_same)
    refine getAttr_E (.inr (.inl ⟨_, he⟩)) hf (by (rw [‹Gl.K _ = Mine.hp _›]; kernel_rfl)) rfl ?_
    with_reducible refine fun (_ : Value) => ?_
    (with_reducible refine WL_cons ?k1x251 ?_); (case k1x251 => rfl)
    with_reducible refine WE_attr ?_
    (with_reducible refine WE_local (d := ?dx252) ?k1x252 ?k2x252 ?k3x252 ?k4x252 ?_); (case k1x252 => rfl); (case k2x252 => rfl); (case k3x252 => rfl); (case k4x252 => with_reducible exact locOf_same)
    refine getAttr_E (.inr (.inl ⟨_, he⟩)) hf (by (rw [‹Gl.K _ = Mine.hp _›]; kernel_rfl)) rfl ?_
    with_reducible refine fun (_ : Value) => ?_
    (with_reducible refine WL_cons ?k1x253 ?_); (case k1x253 => rfl)
    with_reducible refine WE_attr ?_
    (with_reducible refine WE_local (d := ?dx254) ?k1x254 ?k2x254 ?k3x254 ?k4x254 ?_); (case k1x254 => rfl); (case k2x254 => rfl); (case k3x254 => rfl); (case k4x254 => with_reducible exact locOf_same)
    refine getAttr_E (.inr (.inl ⟨_, he⟩)) hf (by (rw [‹Gl.K _ = Mine.hp _›]; kernel_rfl)) rfl ?_
    with_reducible refine fun (_ : Value) => ?_
    (with_reducible refine WL_cons ?k1x255 ?_); (case k1x255 => rfl)
    with_reducible refine WE_attr ?_
    (with_reducible refine WE_local (d := ?dx256) ?k1x256 ?k2x256 ?k3x256 ?k4x256 ?_); (case k1x256 => rfl); (case k2x256 => rfl); (case k3x256 => rfl); (case k4x256 => with_reducible exact locOf_same)
    refine getAttr_E (.inr (.inl ⟨_, he⟩)) hf (by (rw [‹Gl.K _ = Mine.hp _›]; kernel_rfl)) rfl ?_
    with_reducible refine fun (_ : Value) => ?_
    (with_reducible refine WL_cons ?k1x257 ?_); (case k1x257 => rfl)
    (with_reducible refine WE_bcall (f := ?fx258) ?hfx258 ?k1x258 ?k2x258 ?k3x258 ?k4x258 ?k5x258 ?enx258 ?hvx258 ?hnx258 ?hhx258 ?k6x258 ?k7x258 ?k8x258 fun _ => ?_); (case hvx258 => with_reducible exact boot_str); (case hfx258 => with_reducible exact callee_type); (case enx258 => (rw [‹Gl.K _ = Mine.hp _›]; kernel_rfl)); (case hnx258 => decide +kernel); all_goals first | rfl | skip
    (with_reducible refine WL_cons ?k1x259 ?_); (case k1x259 => rfl)
    (with_reducible refine WE_local (d := ?dx260) ?k1x260 ?k2x260 ?k3x260 ?k4x260 ?_); (case k1x260 => rfl); (case k2x260 => rfl); (case k3x260 => rfl); (case k4x260 => with_reducible exact locOf_same)
    with_reducible refine fun (_ : Value) => ?_
    with_reducible refine WL_nil ?_
    refine str_e' rm he (by (rw [‹Gl.K _ = Mine.hp _›]; kernel_rfl)) (by (rw [‹Gl.K _ = Mine.hp _›]; kernel_rfl)) ?_
    with_reducible refine fun (_ : Value) => ?_
    with_reducible refine WL_nil ?_
    (with_reducible refine And.intro (Nat.le_of_ble_eq_true ?k1x261 : _ ≤ 1000) ?_); (case k1x261 => rfl)
    intro r hr
    exact ⟨r, rfl, hr, Sto.put_same _ _ _, fun b o hb => put_keep hr hb⟩
end
end Mine
set_option maxHeartbeats 4000000
namespace Mine
open PySem PySem.W PySem.Calls PyProof.Rows
/-- the signs of a reading from a place, and whether the end was met -/
inductive Tks (l : List Nat) : Int → List (List Nat) → Bool → Prop
  | stop {k : Int} : nxt l k = .stop → Tks l k [] true
  | bad {k : Int} : nxt l k = .bad → Tks l k [] false
  | tok {k j : Int} {w : List Nat} {ws : List (List Nat)} {b : Bool} : nxt l k = .tok w j → Tks l j ws b → Tks l k (w :: ws) b
theorem nxt_tok {l : List Nat} {i j : Int} {w : List Nat} (h0 : 0 ≤ i) (hi : i ≤ l.length) (h : nxt l i = .tok w j) : w ≠ [] ∧ w.length ≤ 2 ∧ i < j ∧ j ≤ l.length := by
  unfold nxt at h
  split at h
  · cases h
  · rename_i k hk
    have k1 := at_lt hk
    have k2 : i < l.length := by
      unfold at? at hk
      split at hk
      · omega
      · rw [if_neg (by omega)] at hk; cases hk
    split at h
    · split at h
      · cases h
      · rename_i k3 hk3
        cases h
        have : i + 1 < l.length := by
          unfold at? at hk3
          split at hk3
          · omega
          · rw [if_neg (by omega)] at hk3; cases hk3
        exact ⟨by simp, by simp, by omega, by omega⟩
    · cases h
      exact ⟨by simp, by simp, by omega, by omega⟩
/-- what is left of the reading -/
noncomputable def RestT (l : List Nat) (T : List (List Nat) → Bool → Prop) (done : List (List Nat)) (i : Int) : D → Prop
  | .str w => ∀ ws b, Tks l i ws b → T (done ++ w :: ws) b
  | _ => T done true
theorem NextP.atT {b : Bool} {pat : D} {l : List Nat} {i : Int} {dx : Addr} {σ σ' : Sto} {T : List (List Nat) → Bool → Prop} {done : List (List Nat)} (hl : 0 ≤ i ∧ i ≤ l.length) (h : NextP b pat l i dx σ σ') (hT : ∀ ws b, Tks l i ws b → T (done ++ ws) b) :
    ∃ i' nx', σ' = σ.put dx (.flds (tokF b pat l i' nx')) ∧ NxOk nx' ∧ i ≤ i' ∧ i' ≤ l.length ∧ RestT l T done i' nx' ∧ (nx' = .none ∧ i' = i ∨ nx' ≠ .none ∧ i < i') := by
  unfold NextP at h
  split at h
  · rename_i hn
    exact ⟨i, .none, h, .inl rfl, Int.le_refl _, hl.2, (by have := hT _ _ (.stop hn); rwa [List.append_nil] at this), .inl ⟨rfl, rfl⟩⟩
  · rename_i w j hn
    obtain ⟨w1, w2, w3, w4⟩ := nxt_tok hl.1 hl.2 hn
    exact ⟨j, .str w, h, .inr ⟨w, rfl, w1, w2⟩, by omega, w4, fun ws b hg => hT _ _ (.tok hn hg), .inr ⟨by simp, w3⟩⟩
  · exact h.elim
/-- what is told of a refusal -/
noncomputable def told (pat : D) (l : List Nat) (e : Bool) : List D := if e then [] else wordsL pat l (l.length - 1)
section
variable {G : Gl} {c : Cx} {ρ : Loc} {σ : Sto} {P : D → Sto → Prop} {X : XP}
theorem C_reading (hG : G2 G) {b : Bool} {pat : D} {l : List Nat} (T : List (List Nat) → Bool → Prop) (hT : ∀ ws b, Tks l 0 ws b → T ws b) (hpat : PatOk b pat l) (hl : l.length ≤ 1000) :
    FnC G HN 6 (.ref aReading) [pat] σ (fun d σ' => ∃ r1 r2 ws e, d = .tup [.ref r1, .ref r2] ∧ σ r1 = none ∧ σ r2 = none ∧ r1 ≠ r2 ∧ σ' r1 = some (.list (ws.map D.str)) ∧ σ' r2 = some (.list (told pat l e)) ∧ T ws e ∧ ws.length ≤ 1500 ∧ ∀ b o, σ b = some o → σ' b = some o) (fun _ _ => False) := by
  have hK := hG.K
  refine fn_intro (xs := ["pattern"]) (by rw [hK]; rfl) (by (rw [‹Gl.K _ = Mine.hp _›]; kernel_rfl)) rfl (fun s vs X0 hvs => ?_) (by decide +kernel) (by decide +kernel) (by decide +kernel) rfl rfl rfl rfl rfl ?_
  · obtain ⟨a, rfl⟩ := len1 hvs
    exact BindsTo.of_eq rfl
  · rintro ⟨A', env', stk'⟩ Γ L F rm hh rfl
    have F5 : Cx.Ok ⟨A', callEnv _ _ _, stk'⟩ 5 := ⟨F, rm, hh, rfl, rfl⟩
    refine Wxs_cons (Wx_Assign rfl rfl rfl (WE_list (WL_nil ⟨by simp, fun r hr => ?_⟩)) (fun _ _ h => h))
    refine Wxs_cons (Wx_TryAs (n := "e") (cv := .ref aPE) (Z := fun x ρ' σ' => ρ' "signs" = some (.ref r) ∧ ∃ (σ0 : Sto) (done : List (List Nat)) (dx' : Addr), x.cls = .ref aPE ∧ x.dict = some dx' ∧ x.a0 = .tup [.str (perrW l (l.length - 1))] ∧ σ0 dx' = none ∧ σ' = σ0.put dx' (.flds (perrF pat l (l.length - 1))) ∧ σ0 r = some (.list (done.map D.str)) ∧ done.length ≤ 1500 ∧ T done false ∧ ∀ b o, σ b = some o → σ0 b = some o) F rfl ?_ (evC_glob rfl rfl rfl rfl (by (rw [‹Gl.K _ = Mine.hp _›]; kernel_rfl))) (fun x _ _ hx => by obtain ⟨-, _, _, _, h1, -⟩ := hx; rw [h1]; (rw [‹Gl.K _ = Mine.hp _›]; kernel_rfl)) ?_)
    · refine Wxs_cons (Wx_Assign (X := fun x σ' => nxt l 0 = .bad ∧ ∃ σ1, Bad pat l σ1 x σ' ∧ ∀ b o, (σ.put r (.list [])) b = some o → σ1 b = some o) rfl rfl rfl ?_ (fun x σ' h => ?_))
      · refine WE_gcall (f := .ref aTk) (by (rw [‹Gl.K _ = Mine.hp _›]; kernel_rfl)) rfl rfl rfl rfl (by (rw [‹Gl.K _ = Mine.hp _›]; kernel_rfl)) rfl rfl rfl rfl fun _ => ?_
        (with_reducible refine WL_cons ?k1x262 ?_); (case k1x262 => rfl)
        (with_reducible refine WE_local (d := ?dx263) ?k1x263 ?k2x263 ?k3x263 ?k4x263 ?_); (case k1x263 => rfl); (case k2x263 => rfl); (case k3x263 => rfl); (case k4x263 => (with_reducible refine get_miss (by decide +kernel) ?_; with_reducible exact locOf_same))
        with_reducible refine fun (_ : Value) => ?_
        with_reducible refine WL_nil ?_
        refine C_new hG F5 (by decide) hpat (by omega) (fun t dx σ' hne ht hd hN => ?_) (fun t dx x σ' hne ht hd hb hB => ⟨hb, _, hB, fun b o hb => newS_o ht hd hb⟩)
        obtain ⟨i1, nx1, rfl, n1, n2, n3, n4, n5⟩ := NextP.atT (T := T) (done := []) ⟨by omega, by omega⟩ hN hT
        rw [newS_put]
        have htr : t ≠ r := by rintro rfl; rw [Sto.put_same] at ht; cases ht
        have hdr : dx ≠ r := by rintro rfl; rw [Sto.put_same] at hd; cases hd
        show Wxs _ _ _ _ _ _ _ _
        refine Wxs_cons (Wx_While F (fun n ρ' σ' => ρ' "signs" = some (.ref r) ∧ ρ' "t" = some (.ref t) ∧ ∃ (i : Int) (nx : D) (done : List (List Nat)), NxOk nx ∧ 0 ≤ i ∧ i ≤ l.length ∧ RestT l T done i nx ∧ done.length + n ≤ 1400 ∧ ((l.length : Int) - i).toNat + nzero nx = n ∧ σ' r = some (.list (done.map D.str)) ∧ σ' dx = some (.flds (tokF b pat l i nx)) ∧ σ' t = some (.inst aTk dx) ∧ ∀ b o, σ b = some o → σ' b = some o) (((l.length : Int) - i1).toNat + nzero nx1) ⟨by (with_reducible refine get_miss (by decide +kernel) ?_; with_reducible exact get_same), by with_reducible exact get_same, i1, nx1, [], n1, by omega, n3, n4, ?_, rfl, newS_o ht hd (Sto.put_same _ _ _), newS_d, newS_t hne, fun b o hb => newS_o ht hd (put_keep hr hb)⟩ (XT := fun ρ' x σ' => False) ?_ (fun _ _ _ h => h.elim))
        · have := nzero_le nx1
          simp only [List.length_nil]
          omega
        · rintro n ρ' σ' ⟨l1, l2, i, nx, done, m1, m2, m3, m4, m5, m6, m7, m8, m9, m10⟩
          refine WT_Compare (X := fun _ _ => False) rfl (WE_attr ?_)
          (with_reducible refine WE_local (d := ?dx264) ?k1x264 ?k2x264 ?k3x264 ?k4x264 ?_); (case k1x264 => rfl); (case k2x264 => rfl); (case k3x264 => rfl); (case k4x264 => with_reducible assumption)
          refine getAttr_own (.inl m9) m8 (by (rw [‹Gl.K _ = Mine.hp _›]; kernel_rfl)) rfl ?_
          intro _
          rcases m1 with rfl | ⟨w, rfl, hw, hw2⟩
          · refine WE_None (isNot_none_none (B1_bool ?_))
            show Wxs _ _ _ _ _ _ _ _
            refine Wxs_nil ?_
            with_reducible refine Wxs_cons (Wx_Return ?_ (fun _ _ h => h))
            with_reducible refine WE_tuple ?_
            (with_reducible refine WL_cons ?k1x265 ?_); (case k1x265 => rfl)
            (with_reducible refine WE_local (d := ?dx266) ?k1x266 ?k2x266 ?k3x266 ?k4x266 ?_); (case k1x266 => rfl); (case k2x266 => rfl); (case k3x266 => rfl); (case k4x266 => with_reducible assumption)
            with_reducible refine fun (_ : Value) => ?_
            (with_reducible refine WL_cons ?k1x267 ?_); (case k1x267 => rfl)
            with_reducible refine WE_list ?_
            with_reducible refine WL_nil ?_
            (with_reducible refine And.intro (Nat.le_of_ble_eq_true ?k1x268 : _ ≤ 1000) ?_); (case k1x268 => rfl)
            intro q hq
            with_reducible refine fun (_ : Value) => ?_
            with_reducible refine WL_nil ?_
            (with_reducible refine And.intro (Nat.le_of_ble_eq_true ?k1x269 : _ ≤ 1000) ?_); (case k1x269 => rfl)
            refine ⟨r, q, done, true, rfl, hr, ?_, (ne_none hq m7), put_keep hq m7, ?_, m4, by omega, fun b o hb => put_keep hq (m10 _ _ hb)⟩
            · cases z : σ q with
              | none => rfl
              | some o => rw [m10 _ _ z] at hq; cases hq
            · rw [Sto.put_same]; rfl
          · refine WE_None (isNot_str_none (B1_bool ?_))
            show Wxs _ _ _ _ _ _ _ _
            refine Wxs_cons (Wx_Expr (X := fun _ _ => False) rfl rfl (WE_meth rfl rfl rfl ?_) (fun _ _ h => h.elim))
            (with_reducible refine WE_local (d := ?dx270) ?k1x270 ?k2x270 ?k3x270 ?k4x270 ?_); (case k1x270 => rfl); (case k2x270 => rfl); (case k3x270 => rfl); (case k4x270 => with_reducible assumption)
            refine ⟨_, gm_list m7 PySem.F.slot_list_append PySem.F.type_list_append, callee_builtin, fun _ => ?_⟩
            refine WL_cons rfl (WE_attr ?_)
            (with_reducible refine WE_local (d := ?dx271) ?k1x271 ?k2x271 ?k3x271 ?k4x271 ?_); (case k1x271 => rfl); (case k2x271 => rfl); (case k3x271 => rfl); (case k4x271 => with_reducible assumption)
            refine getAttr_own (.inl m9) m8 (by (rw [‹Gl.K _ = Mine.hp _›]; kernel_rfl)) rfl ?_
            intro _
            refine WL_nil (appendW m7 (by simp; omega) ?_)
            have k9 : ∀ x, (σ'.put r (.list x)) t = some (.inst aTk dx) := fun x => (Sto.put_ne _ _ htr).trans m9
            have k8 : ∀ x, (σ'.put r (.list x)) dx = some (.flds (tokF b pat l i (.str w))) := fun x => (Sto.put_ne _ _ hdr).trans m8
            refine Wxs_cons (Wx_Expr (X := fun x τ => nxt l i = .bad ∧ Bad pat l (σ'.put r (.list (done.map D.str ++ [D.str w]))) x τ) rfl rfl (WE_meth0 rfl ?_) (fun x τ h => ?_))
            · ((with_reducible refine WE_local (d := ?dx272) ?k1x272 ?k2x272 ?k3x272 ?k4x272 ?_); (case k1x272 => rfl); (case k2x272 => rfl); (case k3x272 => rfl); (case k4x272 => with_reducible assumption))
              refine ⟨_, gm_own (f := aGet) (.inl (k9 _)) (k8 _) (by (rw [‹Gl.K _ = Mine.hp _›]; kernel_rfl)) rfl, callee_K (by (rw [‹Gl.K _ = Mine.hp _›]; kernel_rfl)), Wn_fn (n := 5) (k := 4) F5 (by decide) ((C_get hG hpat (by omega) (by omega) (k9 _) (k8 _)).mono ?_ fun _ _ h => h)⟩
              rintro d τ ⟨rfl, h⟩
              obtain ⟨i2, nx2, rfl, p1, p2, p3, p4, p5⟩ := NextP.atT (T := T) (done := done ++ [w]) ⟨m2, m3⟩ h (fun ws b hg => by rw [List.append_assoc]; exact m4 _ _ hg)
              have hz : nzero (.str w) = 1 := rfl
              have hz2 : ((l.length : Int) - i2).toNat + nzero nx2 < n := by
                rw [hz] at m6
                rcases p5 with ⟨rfl, rfl⟩ | ⟨-, hlt⟩
                · show ((l.length : Int) - i2).toNat + 0 < n
                  omega
                · have := nzero_le nx2; omega
              refine Wxs_nil ⟨_, hz2, l1, l2, i2, nx2, done ++ [w], p1, by omega, p3, p4, by simp; omega, rfl, ?_, Sto.put_same _ _ _, (Sto.put_ne _ _ hne).trans (k9 _), fun b o hb => ?_⟩
              · rw [Sto.put_ne _ _ hdr.symm, Sto.put_same, List.map_append]; rfl
              · have h1 : b ≠ dx := fun e => by subst e; rw [put_keep hr hb] at hd; cases hd
                have h2 := ne_none hr hb
                exact (Sto.put_ne _ _ h1).trans ((Sto.put_ne _ _ h2).trans (m10 _ _ hb))
            · obtain ⟨h1, dx', h2, h3, ha0, h5, rfl⟩ := h
              refine ⟨l1, _, done ++ [w], dx', h2, h3, ha0, h5, rfl, ?_, by simp; omega, ?_, fun b o hb => (Sto.put_ne _ _ (ne_none hr hb)).trans (m10 _ _ hb)⟩
              · rw [Sto.put_same, List.map_append]; rfl
              · exact m4 _ _ (.bad h1)
      · obtain ⟨h1, σ1, ⟨dx', h2, h3, ha0, h5, rfl⟩, h6⟩ := h
        exact ⟨by with_reducible exact get_same, σ1, [], dx', h2, h3, ha0, h5, rfl, h6 _ _ (Sto.put_same _ _ _), by simp, hT _ _ (.bad h1), fun b o hb => h6 _ _ (put_keep hr hb)⟩
    · rintro e x ρ' σ' ⟨l1, σ0, done, dx', h1, h2, ha0, h3, rfl, h4, h5, h6, h8⟩ he
      have hed : e ≠ dx' := by rintro rfl; rw [Sto.put_same] at he; cases he
      refine ⟨aPE, dx', h1, h2, ?_⟩
      rw [ha0]
      have he1 : ((σ0.put dx' (.flds (perrF pat l (l.length - 1)))).put e (.exc aPE dx' (.tup [.str (perrW l (l.length - 1))]))) e = some (.exc aPE dx' (.tup [.str (perrW l (l.length - 1))])) := Sto.put_same _ _ _
      have hd1 : ((σ0.put dx' (.flds (perrF pat l (l.length - 1)))).put e (.exc aPE dx' (.tup [.str (perrW l (l.length - 1))]))) dx' = some (.flds (perrF pat l (l.length - 1))) := (Sto.put_ne _ _ hed.symm).trans (Sto.put_same _ _ _)
      have kp : ∀ b o, σ0 b = some o → ((σ0.put dx' (.flds (perrF pat l (l.length - 1)))).put e (.exc aPE dx' (.tup [.str (perrW l (l.length - 1))]))) b = some o := fun b o hb => put_keep he (put_keep h3 hb)
      generalize ((σ0.put dx' (.flds (perrF pat l (l.length - 1)))).put e (.exc aPE dx' (.tup [.str (perrW l (l.length - 1))]))) = τ at he1 hd1 kp
      have Fh := F.hand e
      have rh : (Cx.hand ⟨A', callEnv _ _ _, stk'⟩ e).Room 5 := ⟨rm.depth, rm.units⟩
      with_reducible refine Wxs_cons (Wx_Return ?_ (fun _ _ h => h))
      refine WE_tuple (WL_cons rfl ?_)
      (with_reducible refine WE_local (d := ?dx273) ?k1x273 ?k2x273 ?k3x273 ?k4x273 ?_); (case k1x273 => rfl); (case k2x273 => rfl); (case k3x273 => rfl); (case k4x273 => (with_reducible refine get_miss (by decide +kernel) ?_; with_reducible assumption))
      intro _
      refine WL_cons rfl (WE_gcall (f := .ref aTold) (by (rw [‹Gl.K _ = Mine.hp _›]; kernel_rfl)) rfl rfl rfl rfl (by (rw [‹Gl.K _ = Mine.hp _›]; kernel_rfl)) rfl rfl rfl rfl fun _ => ?_)
      refine WL_cons rfl ?_
      (with_reducible refine WE_local (d := ?dx274) ?k1x274 ?k2x274 ?k3x274 ?k4x274 ?_); (case k1x274 => rfl); (case k2x274 => rfl); (case k3x274 => rfl); (case k4x274 => with_reducible exact get_same)
      intro _
      refine WL_nil (Wn_fnH (hd := fun _ => True) (k := 1) Fh rh trivial (by decide) ((C_told hG he1 hd1).mono ?_ fun _ _ h => h))
      rintro d τ3 ⟨q, rfl, hq, hq1, kp2⟩
      intro _
      have e1 : r ≠ q := fun e => by rw [← e, kp _ _ h4] at hq; cases hq
      refine WL_nil ⟨by simp, by rw [get_same]; simp, r, q, done, false, rfl, hr, ?_, e1, kp2 _ _ (kp _ _ h4), hq1, h6, h5, fun b o hb => kp2 _ _ (kp _ _ (h8 _ _ hb))⟩
      cases z : σ q with
      | none => rfl
      | some o => rw [kp _ _ (h8 _ _ z)] at hq; cases hq
end
end Mine
set_option maxHeartbeats 4000000
namespace Mine
open PySem PySem.W PySem.Calls PyProof.Rows
theorem at_nat {n k : Nat} : at? n (k : Int) = if k < n then some k else none := by
  unfold at?
  by_cases h : k < n
  · rw [if_pos (by omega), if_pos h]; simp
  · rw [if_neg (by omega), if_neg (by omega), if_neg h]
theorem cut_last {α : Type} (l : List α) : cut none (some (-1)) l = l.take (l.length - 1) := by
  unfold cut cutLo cutHi
  dsimp only
  rw [if_pos (by omega), List.drop_zero]
  rfl
/-- the signs of a text, and whether it is read through -/
inductive Sg : List Nat → List (List Nat) → Bool → Prop
  | nil : Sg [] [] true
  | lone : Sg [92] [] false
  | two {a : Nat} {r : List Nat} {ws : List (List Nat)} {b : Bool} : Sg r ws b → Sg (92 :: a :: r) ([92, a] :: ws) b
  | one {a : Nat} {r : List Nat} {ws : List (List Nat)} {b : Bool} : a ≠ 92 → Sg r ws b → Sg (a :: r) ([a] :: ws) b
theorem drop_at {l : List Nat} {k a : Nat} (h : l[k]? = some a) : l.drop k = a :: l.drop (k + 1) := by
  obtain ⟨h1, h2⟩ := List.getElem?_eq_some_iff.mp h
  rw [List.drop_eq_getElem_cons h1, h2]
theorem tks_sg {l : List Nat} {i : Int} {ws : List (List Nat)} {b : Bool} (h : Tks l i ws b) : ∀ k : Nat, i = k → k ≤ l.length → Sg (l.drop k) ws b := by
  induction h with
  | stop hn =>
    intro k hk hl
    subst hk
    unfold nxt at hn
    rw [at_nat] at hn
    by_cases h : k < l.length
    · rw [if_pos h] at hn
      dsimp only at hn
      split at hn
      · split at hn <;> cases hn
      · cases hn
    · rw [List.drop_of_length_le (by omega)]; exact .nil
  | bad hn =>
    intro k hk hl
    subst hk
    unfold nxt at hn
    rw [at_nat] at hn
    by_cases h : k < l.length
    · rw [if_pos h] at hn
      dsimp only at hn
      split at hn
      · rename_i h92
        rw [show (k : Int) + 1 = ((k + 1 : Nat) : Int) from rfl, at_nat] at hn
        by_cases h2 : k + 1 < l.length
        · rw [if_pos h2] at hn; cases hn
        · rw [drop_at h92, List.drop_of_length_le (by omega)]; exact .lone
      · cases hn
    · rw [if_neg h] at hn; cases hn
  | tok hn hg ih =>
    intro k hk hl
    subst hk
    unfold nxt at hn
    rw [at_nat] at hn
    by_cases h : k < l.length
    · rw [if_pos h] at hn
      dsimp only at hn
      split at hn
      · rename_i h92
        rw [show (k : Int) + 1 = ((k + 1 : Nat) : Int) from rfl, at_nat] at hn
        by_cases h2 : k + 1 < l.length
        · rw [if_pos h2] at hn
          cases hn
          rw [drop_at h92, drop_at (List.getElem?_eq_getElem h2), List.getD_eq_getElem?_getD, List.getElem?_eq_getElem h2]
          exact .two (ih (k + 2) rfl (by omega))
        · rw [if_neg h2] at hn; cases hn
      · rename_i h92
        cases hn
        have hg2 : l[k]? = some l[k] := List.getElem?_eq_getElem h
        rw [drop_at hg2, List.getD_eq_getElem?_getD, hg2]
        exact .one (fun q => h92 (by rw [hg2, q])) (ih (k + 1) rfl (by omega))
    · rw [if_neg h] at hn; cases hn
theorem tks_sg0 {l : List Nat} {ws : List (List Nat)} {b : Bool} (h : Tks l 0 ws b) : Sg l ws b := by
  have := tks_sg h 0 rfl (by omega)
  simpa using this
theorem sg_det {l : List Nat} {ws : List (List Nat)} {b : Bool} (h : Sg l ws b) : ∀ {ws' : List (List Nat)} {b' : Bool}, Sg l ws' b' → ws = ws' ∧ b = b' := by
  induction h with
  | nil => intro _ _ h'; cases h'; exact ⟨rfl, rfl⟩
  | lone =>
    intro _ _ h'
    cases h' with
    | lone => exact ⟨rfl, rfl⟩
    | one hn => exact absurd rfl hn
  | two _ ih =>
    intro _ _ h'
    cases h' with
    | two h => obtain ⟨rfl, rfl⟩ := ih h; exact ⟨rfl, rfl⟩
    | one hn => exact absurd rfl hn
  | one hn _ ih =>
    intro _ _ h'
    cases h' with
    | lone => exact absurd rfl hn
    | two => exact absurd rfl hn
    | one _ h => obtain ⟨rfl, rfl⟩ := ih h; exact ⟨rfl, rfl⟩
theorem sg_app {l : List Nat} {ws : List (List Nat)} {b : Bool} (h : Sg l ws b) : b = true → ∀ {l2 : List Nat} {ws2 : List (List Nat)} {b2 : Bool}, Sg l2 ws2 b2 → Sg (l ++ l2) (ws ++ ws2) b2 := by
  induction h with
  | nil => intro _ _ _ _ h; exact h
  | lone => intro h; cases h
  | two _ ih => intro hb _ _ _ h; exact .two (ih hb h)
  | one hn _ ih => intro hb _ _ _ h; exact .one hn (ih hb h)
theorem sg_shape {l : List Nat} {ws : List (List Nat)} {b : Bool} (h : Sg l ws b) : ∀ w ∈ ws, (∃ a, w = [92, a]) ∨ ∃ a, a ≠ 92 ∧ w = [a] := by
  induction h with
  | nil => intro w hw; cases hw
  | lone => intro w hw; cases hw
  | two _ ih =>
    intro w hw
    rcases List.mem_cons.mp hw with rfl | hw
    · exact .inl ⟨_, rfl⟩
    · exact ih w hw
  | one hn _ ih =>
    intro w hw
    rcases List.mem_cons.mp hw with rfl | hw
    · exact .inr ⟨_, hn, rfl⟩
    · exact ih w hw
theorem getD_lt {l : List Nat} {b : Nat} (h : ∀ n ∈ l, n < b) (hb : 0 < b) (k : Nat) : l.getD k 0 < b := by
  rw [List.getD_eq_getElem?_getD]
  cases q : l[k]? with
  | none => exact hb
  | some a => exact h a (List.mem_of_getElem? q)
theorem sg_ne {l : List Nat} {ws : List (List Nat)} (h : Sg l ws false) : 0 < l.length := by
  cases l with
  | nil => cases h
  | cons => simp
end Mine
set_option maxHeartbeats 4000000
namespace Mine
open PySem PySem.W PySem.Calls PyProof.Rows
/-- a coat -/
noncomputable def coatS (ch w : List Nat) : List (List Nat) := w.map fun c => if c ∈ ch then [92, c] else [c]
noncomputable def coat (ch w : List Nat) : List Nat := (coatS ch w).flatten
theorem coat_cons (ch : List Nat) (c : Nat) (w : List Nat) : coat ch (c :: w) = (if c ∈ ch then [92, c] else [c]) ++ coat ch w := rfl
theorem sg_coat {ch : List Nat} (h : 92 ∈ ch) : ∀ w : List Nat, Sg (coat ch w) (coatS ch w) true
  | [] => .nil
  | c :: w => by
    rw [coat_cons]
    unfold coatS
    rw [List.map_cons]
    by_cases hc : c ∈ ch
    · rw [if_pos hc]; exact .two (sg_coat h w)
    · rw [if_neg hc]; exact .one (fun e => hc (e ▸ h)) (sg_coat h w)
theorem coat_app (ch u v : List Nat) : coat ch (u ++ v) = coat ch u ++ coat ch v := by
  unfold coat coatS; rw [List.map_append, List.flatten_append]
theorem coatS_len (ch w : List Nat) : (coatS ch w).length = w.length := by unfold coatS; simp
theorem coat_len (ch w : List Nat) : w.length ≤ (coat ch w).length ∧ (coat ch w).length ≤ 2 * w.length := by
  induction w with
  | nil => exact ⟨Nat.le_refl _, Nat.le_refl _⟩
  | cons c w ih =>
    rw [coat_cons, List.length_append, List.length_cons]
    split <;> simp <;> omega
theorem coat_ne {ch w : List Nat} (h : w ≠ []) : coat ch w ≠ [] := by
  have := (coat_len ch w).1
  intro e
  rw [e] at this
  exact h (List.length_eq_zero_iff.mp (Nat.le_zero.mp this))
/-- the last letter cut off -/
theorem sg_short {ch : List Nat} (h : 92 ∈ ch) {w : List Nat} (hw : w ≠ []) {c : Nat} (hc : w[w.length - 1]? = some c) :
    Sg ((coat ch w).take ((coat ch w).length - 1)) ((coatS ch w).take ((coatS ch w).length - 1)) (!decide (c ∈ ch)) ∧ (coatS ch w)[(coatS ch w).length - 1]? = some (if c ∈ ch then [92, c] else [c]) := by
  obtain ⟨u, c', rfl⟩ : ∃ u c', w = u ++ [c'] := ⟨w.dropLast, w.getLast hw, (List.dropLast_concat_getLast hw).symm⟩
  have e : c' = c := by simpa using hc
  subst e
  have hS : coatS ch (u ++ [c']) = coatS ch u ++ [if c' ∈ ch then [92, c'] else [c']] := by unfold coatS; rw [List.map_append]; rfl
  have hC : coat ch (u ++ [c']) = coat ch u ++ (if c' ∈ ch then [92, c'] else [c']) := by rw [coat_app]; unfold coat; unfold coatS; simp
  rw [hS, hC]
  have e1 : (coatS ch u ++ [if c' ∈ ch then [92, c'] else [c']]).take ((coatS ch u ++ [if c' ∈ ch then [92, c'] else [c']]).length - 1) = coatS ch u := by simp
  rw [e1]
  refine ⟨?_, by simp⟩
  by_cases q : c' ∈ ch
  · have e2 : (coat ch u ++ (if c' ∈ ch then [92, c'] else [c'])).take ((coat ch u ++ (if c' ∈ ch then [92, c'] else [c'])).length - 1) = coat ch u ++ [92] := by
      rw [if_pos q, List.length_append]
      show List.take ((coat ch u).length + 2 - 1) _ = _
      rw [show (coat ch u).length + 2 - 1 = (coat ch u).length + 1 by omega, List.take_length_add_append]; rfl
    rw [e2]
    have := sg_app (sg_coat h u) rfl (l2 := [92]) .lone
    simpa [q] using this
  · have e2 : (coat ch u ++ (if c' ∈ ch then [92, c'] else [c'])).take ((coat ch u ++ (if c' ∈ ch then [92, c'] else [c'])).length - 1) = coat ch u := by
      rw [if_neg q]
      simp
    rw [e2]
    simpa [q] using sg_coat h u
theorem coat_last {ch w : List Nat} : ((coatS ch w).map fun s => [s.getD (s.length - 1) 0]).flatten = w := by
  induction w with
  | nil => rfl
  | cons c w ih =>
    unfold coatS at ih ⊢
    rw [List.map_cons, List.map_cons, List.flatten_cons, ih]
    split <;> rfl
theorem coat_lt {ch w : List Nat} {b : Nat} (hb : 92 < b) (h : ∀ c ∈ w, c < b) : ∀ c ∈ coat ch w, c < b := by
  induction w with
  | nil => intro c hc; cases hc
  | cons a w ih =>
    intro c hc
    rw [coat_cons] at hc
    rcases List.mem_append.mp hc with hc | hc
    · have ha := h a (.head _)
      split at hc
      · simp at hc; rcases hc with rfl | rfl
        · exact hb
        · exact ha
      · simp at hc; subst hc; exact ha
    · exact ih (fun c hc => h c (.tail _ hc)) c hc
noncomputable def letters : List Nat := [97, 98, 10, 233, 92]
/-- the letters that a coat covers -/
noncomputable def chosenOf (total : Int) (i : Nat) : List Nat := ((List.range 4).filterMap fun j => if (total / 5 + 7 * (i : Int)) / 2 ^ j % 2 ≠ 0 then some (letters.getD j 0) else none) ++ [92]
theorem chosen_bs (total : Int) (i : Nat) : 92 ∈ chosenOf total i := List.mem_append_right _ (by simp)
theorem chosen_len (total : Int) (i : Nat) : (chosenOf total i).length ≤ 5 := by
  unfold chosenOf
  have := List.length_filterMap_le (fun j => if (total / 5 + 7 * (i : Int)) / 2 ^ j % 2 ≠ 0 then some (letters.getD j 0) else none) (List.range 4)
  simp at this ⊢
  omega
noncomputable def wordOf (total : Int) (inside : List Nat) : Nat → List Nat
  | 0 => inside
  | k + 1 => coat (chosenOf total k) (wordOf total inside k)
noncomputable def insideOf (script : List Int) : List Nat := (script.take 7).map (fun n => letters.getD (n % 5).toNat 0) ++ [letters.getD (script.sum % 5).toNat 0]
theorem inside_facts (script : List Int) : insideOf script ≠ [] ∧ (insideOf script).length ≤ 8 ∧ ∀ c ∈ insideOf script, c < 256 := by
  unfold insideOf
  refine ⟨by simp, by simp; omega, fun n hn => ?_⟩
  rcases List.mem_append.mp hn with hn | hn
  · obtain ⟨x, -, rfl⟩ := List.mem_map.mp hn
    exact getD_lt (by decide) (by decide) _
  · simp only [List.mem_cons, List.not_mem_nil, or_false] at hn
    subst hn
    exact getD_lt (by decide) (by decide) _
theorem word_facts (total : Int) {w : List Nat} (h : w ≠ [] ∧ w.length ≤ 8 ∧ ∀ c ∈ w, c < 256) : ∀ k, wordOf total w k ≠ [] ∧ (wordOf total w k).length ≤ 2 ^ k * 8 ∧ ∀ c ∈ wordOf total w k, c < 256
  | 0 => ⟨h.1, (by rw [Nat.pow_zero, Nat.one_mul]; exact h.2.1), h.2.2⟩
  | k + 1 => by
    obtain ⟨h1, h2, h3⟩ := word_facts total h k
    refine ⟨coat_ne h1, ?_, coat_lt (by decide) h3⟩
    have := (coat_len (chosenOf total k) (wordOf total w k)).2
    show (coat (chosenOf total k) (wordOf total w k)).length ≤ _
    rw [Nat.pow_succ]
    omega
end Mine
set_option maxHeartbeats 4000000
namespace Mine
open PySem PySem.W PySem.Calls PyProof.Rows
noncomputable def lawB : List Stmt := match Mine.rwp.main.body.getLast? with | some (.FunctionDef _ _ b _ _ _ _ _ _ _) => b | _ => []
noncomputable def lawSc : Scope := match Mine.rwp.main.body.getLast? with | some (.FunctionDef _ _ _ _ _ _ s _ _ _) => s | _ => { kind := .function, names := [], isGenerator := false, isCoroutine := false }
noncomputable def stm (n : Nat) : Stmt := lawB.getD n (.Pass ⟨0, 0, 0, 0⟩)
theorem chosen_comp (x : Int) (n : Nat) : (List.range n).filterMap (fun i => if x / 2 ^ i % 2 ≠ 0 then some (D.str [letters.getD i 0]) else none) = ((List.range n).filterMap fun i => if x / 2 ^ i % 2 ≠ 0 then some (letters.getD i 0) else none).map fun c => D.str [c] := by
  rw [List.map_filterMap]
  congr 1
  funext i
  split <;> rfl
noncomputable def wordsD (total : Int) (ins : List Nat) (n : Nat) : List D := (List.range n).map fun j => D.str (wordOf total ins j)
theorem wordsD_len (total : Int) (ins : List Nat) (n : Nat) : (wordsD total ins n).length = n := by unfold wordsD; simp
theorem wordsD_get {total : Int} {ins : List Nat} {n j : Nat} (h : j < n) : (wordsD total ins n)[j]? = some (.str (wordOf total ins j)) := by unfold wordsD; simp [h]
theorem wordsD_succ (total : Int) (ins : List Nat) (n : Nat) : wordsD total ins n ++ [.str (wordOf total ins n)] = wordsD total ins (n + 1) := by unfold wordsD; rw [List.range_succ, List.map_append]; rfl
theorem letter_at {i : Nat} (h : i < 4) : ((cut none (some 4) letters).map fun a => D.str [a]).getD i .none = .str [letters.getD i 0] := by
  have : i = 0 ∨ i = 1 ∨ i = 2 ∨ i = 3 := by omega
  rcases this with rfl | rfl | rfl | rfl <;> rfl
theorem two_pow {i : Nat} (h : i < 4) : ((2 : Int) ^ i).natAbs < 2 ^ 64 ∧ 0 < (2 : Int) ^ i := by
  have : i = 0 ∨ i = 1 ∨ i = 2 ∨ i = 3 := by omega
  rcases this with rfl | rfl | rfl | rfl <;> decide
section
variable {G : Gl} {c : Cx} {Γ : Pairs} {ρ : Loc} {σ : Sto} {P : D → Sto → Prop} {X : XP}
theorem C_coats (hG : G2 G) {nm : Str} {L fa rw : Addr} {cd : Value} {a : Addr} {script : List Int} {ins : List Nat} {od3 od4 : Option D} (hl : script.length ≤ 63) (ha : SL G a script)
    (hi : ins ≠ [] ∧ ins.length ≤ 8 ∧ ∀ c ∈ ins, c < 256)
    (h1 : σ (L + 1) = some (.cell (some (.str letters)))) (h2 : σ (L + 1 + 1) = some (.cell (some (.int script.sum)))) (h3 : σ (L + 1 + 1 + 1) = some (.cell od3)) (h4 : σ (L + 1 + 1 + 1 + 1) = some (.cell od4))
    (hs : ρ "script" = some (.ref a)) (hw : ρ "words" = some (.ref rw)) (hrw : σ rw = some (.list (wordsD script.sum ins 1)))
    (F : c.Fn) (rm : c.Room 6) (hh : c.A.handled = none) (he : c.env = envOfC nm lawSc L fa cd) :
    Wx G c Γ (stm 4) ρ σ (fun f ρ' σ' => f = .next ∧ ρ' "words" = some (.ref rw) ∧ (∃ od, σ' (L + 1 + 1 + 1) = some (.cell od)) ∧ ∃ n, 2 ≤ n ∧ n ≤ 4 ∧ σ' rw = some (.list (wordsD script.sum ins n))) (fun _ _ _ => False) := by
  have hK := hG.K
  obtain ⟨A', env', stk'⟩ := c
  subst he
  have h0 : Cx.h0 ⟨A', envOfC nm lawSc L fa cd, stk'⟩ := hh
  have hnn : ∀ {x y : Nat}, x < y → (L + x : Nat) ≠ L + y := fun h e => absurd (Nat.add_left_cancel e) (Nat.ne_of_lt h)
  have n13 : L + 1 ≠ L + 1 + 1 + 1 := hnn (x := 1) (y := 3) (by decide)
  have n14 : L + 1 ≠ L + 1 + 1 + 1 + 1 := hnn (x := 1) (y := 4) (by decide)
  have n23 : L + 1 + 1 ≠ L + 1 + 1 + 1 := hnn (x := 2) (y := 3) (by decide)
  have n24 : L + 1 + 1 ≠ L + 1 + 1 + 1 + 1 := hnn (x := 2) (y := 4) (by decide)
  have n34 : L + 1 + 1 + 1 ≠ L + 1 + 1 + 1 + 1 := hnn (x := 3) (y := 4) (by decide)
  show Wx _ _ _ (.For _ _ _ _ _) _ _ _ _
  refine Wx_ForRangeC (X := fun _ _ => False) F h0 rfl rfl rfl (fun a => a = L + 1 ∨ a = L + 1 + 1 ∨ a = L + 1 + 1 + 1 ∨ a = L + 1 + 1 + 1 + 1 ∨ a = rw) (fun i ρ τ => ρ "words" = some (.ref rw) ∧ τ (L + 1) = some (.cell (some (.str letters))) ∧ τ (L + 1 + 1) = some (.cell (some (.int script.sum))) ∧ (∃ od, τ (L + 1 + 1 + 1) = some (.cell od)) ∧ (∃ od, τ (L + 1 + 1 + 1 + 1) = some (.cell od)) ∧ τ rw = some (.list (wordsD script.sum ins (i + 1)))) ?_ ?_ ?_ (fun _ _ h => h)
  · rintro i ρ τ τ' ⟨q1, q2, q3, ⟨o4, q4⟩, ⟨o5, q5⟩, q6⟩ hk
    exact ⟨q1, (hk _ (.inl rfl)).trans q2, (hk _ (.inr (.inl rfl))).trans q3, ⟨o4, (hk _ (.inr (.inr (.inl rfl)))).trans q4⟩, ⟨o5, (hk _ (.inr (.inr (.inr (.inl rfl))))).trans q5⟩, (hk _ (.inr (.inr (.inr (.inr rfl))))).trans q6⟩
  · rintro i ρ τ ⟨q1, q2, q3, q4, q5, q6⟩
    exact q4
  (with_reducible refine WE_bcall (f := ?fx275) ?hfx275 ?k1x275 ?k2x275 ?k3x275 ?k4x275 ?k5x275 ?enx275 ?hvx275 ?hnx275 ?hhx275 ?k6x275 ?k7x275 ?k8x275 fun _ => ?_); (case hvx275 => with_reducible exact boot_range); (case hfx275 => with_reducible exact callee_type); (case enx275 => (rw [‹Gl.K _ = Mine.hp _›]; kernel_rfl)); (case hnx275 => decide +kernel); all_goals first | rfl | skip
  (with_reducible refine WL_cons ?k1x276 ?_); (case k1x276 => rfl)
  with_reducible refine WE_BinOp ?_
  with_reducible refine WE_Int ?_
  with_reducible refine fun (_ : Value) => ?_
  with_reducible refine WE_BinOp ?_
  (with_reducible refine WE_bcall (f := ?fx277) ?hfx277 ?k1x277 ?k2x277 ?k3x277 ?k4x277 ?k5x277 ?enx277 ?hvx277 ?hnx277 ?hhx277 ?k6x277 ?k7x277 ?k8x277 fun _ => ?_); (case hvx277 => with_reducible exact boot_len); (case hfx277 => with_reducible exact callee_builtin); (case enx277 => (rw [‹Gl.K _ = Mine.hp _›]; kernel_rfl)); (case hnx277 => decide +kernel); all_goals first | rfl | skip
  (with_reducible refine WL_cons ?k1x278 ?_); (case k1x278 => rfl)
  (with_reducible refine WE_local (d := ?dx279) ?k1x279 ?k2x279 ?k3x279 ?k4x279 ?_); (case k1x279 => rfl); (case k2x279 => rfl); (case k3x279 => rfl); (case k4x279 => with_reducible assumption)
  with_reducible refine fun (_ : Value) => ?_
  with_reducible refine WL_nil ?_
  refine lenB ha (by omega) ?_
  with_reducible refine fun (_ : Value) => ?_
  with_reducible refine WE_Int ?_
  (with_reducible refine mod_int'' ?k1x280 ?_); (case k1x280 => decide)
  with_reducible refine add_int' ?_
  with_reducible refine fun (_ : Value) => ?_
  with_reducible refine WL_nil ?_
  have hm : (script.length : Int) % 3 < 3 ∧ 0 ≤ (script.length : Int) % 3 := by omega
  refine range1' fun rr _ _ _ hrr => ⟨rr, _, _, _, _, _, rfl, Sto.put_same _ _ _, by omega, by omega, ?_, ?_, ?_, ?_⟩
  · rintro a (rfl | rfl | rfl | rfl | rfl)
    · exact ⟨ne_none hrr h1, _, put_keep hrr h1⟩
    · exact ⟨ne_none hrr h2, _, put_keep hrr h2⟩
    · exact ⟨ne_none hrr h3, _, put_keep hrr h3⟩
    · exact ⟨ne_none hrr h4, _, put_keep hrr h4⟩
    · exact ⟨ne_none hrr hrw, _, put_keep hrr hrw⟩
  · exact ⟨hw, put_keep hrr h1, put_keep hrr h2, ⟨_, put_keep hrr h3⟩, ⟨_, put_keep hrr h4⟩, put_keep hrr hrw⟩
  · rintro k hk ρ τ I ⟨q1, q2, q3, ⟨o4, q4⟩, ⟨o5, q5⟩, q6⟩ ⟨oI, hoI, hoT⟩ hA Γ' hG'
    rw [Int.zero_add] at hk ⊢
    have hk3 : k < 3 := by omega
    have hwf := word_facts script.sum hi k
    have hwl : (wordOf script.sum ins k).length ≤ 64 := by
      have : k = 0 ∨ k = 1 ∨ k = 2 := by omega
      rcases this with rfl | rfl | rfl <;> simp at hwf ⊢ <;> omega
    have i3 := hA _ (.inr (.inr (.inl rfl)))
    have i4 := hA _ (.inr (.inr (.inr (.inl rfl))))
    have i5 := hA _ (.inr (.inr (.inr (.inr rfl))))
    have w3 : L + 1 + 1 + 1 ≠ rw := fun e => by rw [e, q6] at q4; cases q4
    have w4 : L + 1 + 1 + 1 + 1 ≠ rw := fun e => by rw [e, q6] at q5; cases q5
    have r2 : (τ.put (L + 1 + 1 + 1) (O.cell (some (D.int k)))) (L + 1) = some (.cell (some (.str letters))) := (Sto.put_ne _ _ n13).trans q2
    have r3 : (τ.put (L + 1 + 1 + 1) (O.cell (some (D.int k)))) (L + 1 + 1) = some (.cell (some (.int script.sum))) := (Sto.put_ne _ _ n23).trans q3
    have r4 : (τ.put (L + 1 + 1 + 1) (O.cell (some (D.int k)))) (L + 1 + 1 + 1) = some (.cell (some (.int k))) := Sto.put_same _ _ _
    have r5 : (τ.put (L + 1 + 1 + 1) (O.cell (some (D.int k)))) (L + 1 + 1 + 1 + 1) = some (.cell o5) := (Sto.put_ne _ _ n34.symm).trans q5
    have r6 : (τ.put (L + 1 + 1 + 1) (O.cell (some (D.int k)))) rw = some (.list (wordsD script.sum ins (k + 1))) := (Sto.put_ne _ _ w3.symm).trans q6
    have rI : (τ.put (L + 1 + 1 + 1) (O.cell (some (D.int k)))) I = some (.obj oI) := (Sto.put_ne _ _ i3.symm).trans hoI
    rw [hoI]
    generalize (τ.put (L + 1 + 1 + 1) (O.cell (some (D.int k)))) = τ1 at r2 r3 r4 r5 r6 rI ⊢
    clear q2 q3 q4 q5 q6 hoI h1 h2 h3 h4 hs hw hrw hA
    refine Wxs_cons (Wx_AssignCell (X := fun _ _ => False) (a := L + 1 + 1 + 1 + 1) rfl rfl rfl rfl ?_ (fun _ _ h => h))
    refine WV.mono (P := fun d σ' => ∃ rd, d = .ref rd ∧ τ1 rd = none ∧ σ' rd = some (.list (((chosenOf script.sum k).map fun c => [c]).map D.str)) ∧ ∀ b o, τ1 b = some o → σ' b = some o) ?_ ?_ (fun _ _ h => h)
    · refine WE_BinOp (WE_ListComp2 F h0 rfl (by decide +kernel) rfl (by decide +kernel) (by decide +kernel) (by decide +kernel) (by decide +kernel) (fun _ => rfl) ?_)
      refine enum_src h0 rfl rfl rfl rfl (by (rw [‹Gl.K _ = Mine.hp _›]; kernel_rfl)) rfl rfl rfl fun v => ?_
      refine WL_cons rfl (WE_cut ?_)
      (with_reducible refine WE_cell (d := ?dx281) (a := ?ax281) ?k1x281 ?k2x281 ?k3x281 ?k4x281 ?k5x281 ?_); (case k1x281 => rfl); (case k2x281 => rfl); (case k3x281 => rfl); (case k4x281 => rfl); (case k5x281 => with_reducible assumption)
      intro _
      refine WPt_none (WPt_some ?_)
      with_reducible refine WE_Int ?_
      refine ⟨_, rfl, cut_str (by decide) (fun _ _ _ => rfl) (fun _ _ _ => rfl) ?_⟩
      intro _
      refine WL_nil ⟨_, rfl, fun i => if (script.sum / 5 + 7 * (k : Int)) / 2 ^ i % 2 ≠ 0 then some (D.str [letters.getD i 0]) else none, by decide +kernel, ?_, ?_⟩
      · intro C τ Γ'' hs i hτ hi4 ρ' hx hy
        replace hi4 : i < 4 := hi4
        dsimp only at hx hy ⊢
        rw [letter_at hi4] at hy
        obtain ⟨p1, p2⟩ := two_pow hi4
        have f2 := hτ _ _ r3 (by simp)
        have f3 := hτ _ _ r4 (by simp)
        refine tests_one (WT_value rfl ?_)
        show WE G (Cx.comp2 _ _ _ _ _ _) _ _ _ _ _ _
        with_reducible refine WE_BinOp ?_
        with_reducible refine WE_BinOp ?_
        with_reducible refine WE_BinOp ?_
        with_reducible refine WE_BinOp ?_
        (with_reducible refine WE_cell (d := ?dx282) (a := ?ax282) ?k1x282 ?k2x282 ?k3x282 ?k4x282 ?k5x282 ?_); (case k1x282 => rfl); (case k2x282 => rfl); (case k3x282 => rfl); (case k4x282 => rfl); (case k5x282 => with_reducible assumption)
        with_reducible refine fun (_ : Value) => ?_
        with_reducible refine WE_Int ?_
        refine div_int' (by decide) (div_small (by decide)) ?_
        with_reducible refine fun (_ : Value) => ?_
        with_reducible refine WE_BinOp ?_
        with_reducible refine WE_Int ?_
        with_reducible refine fun (_ : Value) => ?_
        (with_reducible refine WE_cell (d := ?dx283) (a := ?ax283) ?k1x283 ?k2x283 ?k3x283 ?k4x283 ?k5x283 ?_); (case k1x283 => rfl); (case k2x283 => rfl); (case k3x283 => rfl); (case k4x283 => rfl); (case k5x283 => with_reducible assumption)
        refine mul_int' (mul_small (by decide)) ?_
        with_reducible refine add_int' ?_
        with_reducible refine fun (_ : Value) => ?_
        with_reducible refine WE_BinOp ?_
        with_reducible refine WE_Int ?_
        with_reducible refine fun (_ : Value) => ?_
        (with_reducible refine WE_local (d := ?dx284) ?k1x284 ?k2x284 ?k3x284 ?k4x284 ?_); (case k1x284 => rfl); (case k2x284 => rfl); (case k3x284 => rfl); (case k4x284 => with_reducible assumption)
        refine pow_int' (by omega) (by decide) (div_int' p2 (div_small p1) ?_)
        with_reducible refine fun (_ : Value) => ?_
        with_reducible refine WE_Int ?_
        (with_reducible refine mod_int'' ?k1x285 ?_); (case k1x285 => decide)
        with_reducible refine B1_int ?_
        refine ⟨rfl, ?_⟩
        by_cases q : (script.sum / 5 + 7 * (k : Int)) / 2 ^ i % 2 ≠ 0
        · rw [if_pos q]
          refine ⟨by simpa using q, fun Γ'' => ?_⟩
          show WE G (Cx.comp2 _ _ _ _ _ _) _ _ _ _ _ _
          (with_reducible refine WE_local (d := ?dx286) ?k1x286 ?k2x286 ?k3x286 ?k4x286 ?_); (case k1x286 => rfl); (case k2x286 => rfl); (case k3x286 => rfl); (case k4x286 => with_reducible assumption)
          exact ⟨rfl, rfl⟩
        · rw [if_neg q]
          simpa using q
      · intro rc hrc
        rw [show (cut none (some 4) letters).length = 4 from rfl, chosen_comp]
        intro _
        refine WE_list (WL_cons rfl (WE_Str (l := [92]) (by decide +kernel) ?_))
        intro _
        refine WL_nil ⟨by simp, fun rb hrb => ?_⟩
        have hch : ((List.range 4).filterMap fun i => if (script.sum / 5 + 7 * (k : Int)) / 2 ^ i % 2 ≠ 0 then some (letters.getD i 0) else none).map (fun c => D.str [c]) ++ [D.str [92]] = ((chosenOf script.sum k).map fun c => [c]).map D.str := by
          unfold chosenOf
          simp
        have hcl := chosen_len script.sum k
        refine addL' (put_keep hrb (Sto.put_same _ _ _)) (Sto.put_same _ _ _) ?_ fun rd hrd => ?_
        · have := congrArg List.length hch
          simp at this ⊢
          omega
        rw [hch]
        refine ⟨rd, rfl, ?_, Sto.put_same _ _ _, fun b o hb => put_keep hrd (put_keep hrb (put_keep hrc hb))⟩
        cases z : τ1 rd with
        | none => rfl
        | some o => rw [put_keep hrb (put_keep hrc z)] at hrd; cases hrd
    rintro d τ2 ⟨rd, rfl, hrd, hd, kp⟩
    refine ⟨_, kp _ _ r5, ?_⟩
    show Wxs _ _ _ _ _ _ _ _
    have e4 : rd ≠ L + 1 + 1 + 1 + 1 := fun e => by rw [e, r5] at hrd; cases hrd
    have edw : rd ≠ rw := fun e => by rw [e, r6] at hrd; cases hrd
    have s2 := (Sto.put_ne _ (.cell (some (.ref rd))) n14).trans (kp _ _ r2)
    have s3 := (Sto.put_ne _ (.cell (some (.ref rd))) n24).trans (kp _ _ r3)
    have s4 := (Sto.put_ne _ (.cell (some (.ref rd))) n34).trans (kp _ _ r4)
    have s5 := Sto.put_same τ2 (L + 1 + 1 + 1 + 1) (.cell (some (.ref rd)))
    have s6 := (Sto.put_ne _ (.cell (some (.ref rd))) w4.symm).trans (kp _ _ r6)
    have sI := (Sto.put_ne _ (.cell (some (.ref rd))) i4.symm).trans (kp _ _ rI)
    have sd := (Sto.put_ne _ (.cell (some (.ref rd))) e4).trans hd
    generalize τ2.put (L + 1 + 1 + 1 + 1) (.cell (some (.ref rd))) = τ3 at s2 s3 s4 s5 s6 sI sd ⊢
    clear kp hd hrd r2 r3 r4 r5 r6 rI τ2 τ1
    refine Wxs_cons (Wx_Expr (X := fun _ _ => False) rfl rfl (WE_meth rfl rfl rfl ?_) (fun _ _ h => h))
    (with_reducible refine WE_local (d := ?dx287) ?k1x287 ?k2x287 ?k3x287 ?k4x287 ?_); (case k1x287 => rfl); (case k2x287 => rfl); (case k3x287 => rfl); (case k4x287 => with_reducible assumption)
    refine ⟨_, gm_list s6 PySem.F.slot_list_append PySem.F.type_list_append, callee_builtin, fun _ => ?_⟩
    refine WL_cons rfl (WV.mono (P := fun d σ' => d = .str (wordOf script.sum ins (k + 1)) ∧ ∀ b o, τ3 b = some o → σ' b = some o) ?_ ?_ (fun _ _ h => h))
    · refine WE_meth rfl rfl rfl (WE_Str (l := []) (by decide +kernel) ?_)
      refine ⟨_, gm_str PySem.F.slot_str_join PySem.F.type_str_join, callee_builtin, fun _ => ?_⟩
      refine WL_cons rfl (WE_ListComp F rfl (by decide +kernel) rfl (by decide +kernel) (by decide +kernel) (fun _ => rfl) ?_)
      with_reducible refine WE_sub ?_
      (with_reducible refine WE_local (d := ?dx288) ?k1x288 ?k2x288 ?k3x288 ?k4x288 ?_); (case k1x288 => rfl); (case k2x288 => rfl); (case k3x288 => rfl); (case k4x288 => with_reducible assumption)
      with_reducible refine fun (_ : Value) => ?_
      with_reducible refine WE_Unary ?_
      with_reducible refine WE_Int ?_
      with_reducible refine neg_int' ?_
      refine sub_last s6 (by rw [wordsD_len]; omega) (by decide) (by rw [wordsD_len]; omega) (d := .str (wordOf script.sum ins k)) (by rw [wordsD_len, show ((-1 : Int) + ((k + 1 : Nat) : Int)).toNat = k by omega]; exact wordsD_get (Nat.lt_succ_self k)) (fun _ _ => rfl) ?_
      refine ⟨_, _, fun d => match d with | .str [a] => some (.str (if a ∈ chosenOf script.sum k then [92, a] else [a])) | _ => none, iter_str hh, by simp; omega, fun C τ Γ' d' hτ hd ρ' hx => ?_, fun x hx => ?_⟩
      · obtain ⟨b, hb, rfl⟩ := List.mem_map.mp hd
        have f5 := hτ _ _ s5 (by simp) (by simp)
        have fd := hτ _ _ sd (by simp) (by simp)
        refine tests_nil ⟨rfl, rfl, fun Γ'' => ?_⟩
        show WE G (Cx.comp _ _ _ _ _) _ _ _ _ _ _
        refine WE_IfExp ?_
        (with_reducible refine WT_Compare ?k1x289 ?_); (case k1x289 => rfl)
        (with_reducible refine WE_local (d := ?dx290) ?k1x290 ?k2x290 ?k3x290 ?k4x290 ?_); (case k1x290 => rfl); (case k2x290 => rfl); (case k3x290 => rfl); (case k4x290 => with_reducible assumption)
        with_reducible refine fun (_ : Value) => ?_
        (with_reducible refine WE_cell (d := ?dx291) (a := ?ax291) ?k1x291 ?k2x291 ?k3x291 ?k4x291 ?k5x291 ?_); (case k1x291 => rfl); (case k2x291 => rfl); (case k3x291 => rfl); (case k4x291 => rfl); (case k5x291 => with_reducible assumption)
        refine in_strs' fd ?_
        with_reducible refine B1_bool ?_
        by_cases q : b ∈ chosenOf script.sum k
        · rw [if_pos (by simpa using q)]
          with_reducible refine WE_BinOp ?_
          (with_reducible refine WE_Str (l := [92]) ?k1x292 ?_); (case k1x292 => decide +kernel)
          with_reducible refine fun (_ : Value) => ?_
          (with_reducible refine WE_local (d := ?dx293) ?k1x293 ?k2x293 ?k3x293 ?k4x293 ?_); (case k1x293 => rfl); (case k2x293 => rfl); (case k3x293 => rfl); (case k4x293 => with_reducible assumption)
          refine add_str' (Nat.le_of_ble_eq_true rfl) (Nat.le_of_ble_eq_true rfl) ?_
          rw [if_pos q]
          exact ⟨rfl, rfl⟩
        · rw [if_neg (by simpa using q)]
          (with_reducible refine WE_local (d := ?dx294) ?k1x294 ?k2x294 ?k3x294 ?k4x294 ?_); (case k1x294 => rfl); (case k2x294 => rfl); (case k3x294 => rfl); (case k4x294 => with_reducible assumption)
          rw [if_neg q]
          exact ⟨rfl, rfl⟩
      · intro _
        have e : ((wordOf script.sum ins k).map fun a => D.str [a]).filterMap (fun d => match d with | .str [a] => some (D.str (if a ∈ chosenOf script.sum k then [92, a] else [a])) | _ => none) = (coatS (chosenOf script.sum k) (wordOf script.sum ins k)).map D.str := by
          unfold coatS
          rw [List.filterMap_map, List.map_map, ← List.filterMap_eq_map]
          rfl
        rw [e]
        have hcl := coat_len (chosenOf script.sum k) (wordOf script.sum ins k)
        refine WL_nil (join' (Sto.put_same _ _ _) rfl ?_ ⟨rfl, fun b o hb => put_keep hx hb⟩)
        rw [← List.length_flatten, coatS_len]
        show (coat _ _).length + _ ≤ _
        omega
    rintro d τ4 ⟨rfl, kp⟩
    intro _
    refine WL_nil (appendW (kp _ _ s6) (by rw [wordsD_len]; omega) ?_)
    rw [wordsD_succ]
    have w1 : L + 1 ≠ rw := fun e => by rw [e, s6] at s2; cases s2
    have w2 : L + 1 + 1 ≠ rw := fun e => by rw [e, s6] at s3; cases s3
    refine Wxs_nil ⟨⟨q1, (Sto.put_ne _ _ w1).trans (kp _ _ s2), (Sto.put_ne _ _ w2).trans (kp _ _ s3), ⟨_, (Sto.put_ne _ _ w3).trans (kp _ _ s4)⟩, ⟨_, (Sto.put_ne _ _ w4).trans (kp _ _ s5)⟩, Sto.put_same _ _ _⟩, (Sto.put_ne _ _ i5.symm).trans (kp _ _ sI)⟩
  · rintro ρ τ ⟨q1, q2, q3, q4, q5, q6⟩
    exact ⟨rfl, q1, q4, _, by omega, by omega, q6⟩
end
end Mine
set_option maxHeartbeats 4000000
namespace Mine
open PySem PySem.W PySem.Calls PyProof.Rows
noncomputable def inB : List Stmt := match stm 5 with | .For _ _ [.For _ _ b _ _] _ _ => b | _ => []
theorem told_sm {σ : Sto} (n : Nat) {b : Bool} {pat : D} {l : List Nat} (hp : PatOk b pat l) (e : Bool) : SmAll σ n (told pat l e) (told pat l e) := by
  unfold told
  split
  · exact .nil n
  · have h : Sm σ n pat pat := by
      rcases hp with ⟨-, rfl⟩ | ⟨-, rfl⟩
      · exact .str _ _
      · exact .bytes _ _
    exact .cons (.str _ _) (.cons h (.cons (.int _ _) (.cons (.int _ _) (.cons (.int _ _) (.cons (.str _ _) (.nil _))))))
theorem told_len (pat : D) (l : List Nat) (e : Bool) : (told pat l e).length ≤ 1000000 := by unfold told; split <;> simp [wordsL]
section
variable {G : Gl} {c : Cx} {Γ : Pairs} {ρ : Loc} {σ : Sto} {P : D → Sto → Prop} {X : XP}
theorem cut_pat {b : Bool} {pat : D} {l : List Nat} {value : Expr} {lo hi : Option Expr} {sp : Pos} {oi oj : Option Int} {σ3 : Sto} (hpat : PatOk b pat l) (hl : l.length ≤ 1000000) (hs1 : ∀ x t a, subscripted (.Slice lo hi none sp) false (.str x t) (.ref a) = operate [.ref a, .str x t] (getItem (.str x t) (.ref a)))
    (hs2 : ∀ x t a, subscripted (.Slice lo hi none sp) false (.bytes x t) (.ref a) = operate [.ref a, .bytes x t] (getItem (.bytes x t) (.ref a))) (ht1 : ∀ x t r, letTemporaryGo value (.str x t) r = pure ()) (ht2 : ∀ x t r, letTemporaryGo value (.bytes x t) r = pure ()) (h : ∀ pat', PatOk b pat' (cut oi oj l) → P pat' σ3) :
    ∀ (Γ' : Pairs) (v vl vu : Value) (s : Shared) (Q E : Value → Shared → Prop), IsPart vl oi → IsPart vu oj → (v, pat) ∈ Γ' → St G c σ3 ρ Γ' s.heap → (∀ u k σ' h tk, P k σ' → St G c σ' ρ ((u, k) :: Γ') h → Q u { s with heap := h, toks := tk }) →
        wpAny G.M c.A (subscriptTail value (.Slice lo hi none sp) v (.ref s.heap.objs.size)) Q E { s with heap := s.heap.push { cls := .type "slice", data := .fields #[vl, vu, .none] } } := by
  rcases hpat with ⟨hb, rfl⟩ | ⟨hb, rfl⟩
  · exact cut_str hl hs1 ht1 (h _ (.inl ⟨hb, rfl⟩))
  · exact cut_byt hl hs2 ht2 (h _ (.inr ⟨hb, rfl⟩))
theorem C_inner (hG : G2 G) {nm : Str} {L fa rw : Addr} {cd : Value} {ch u : List Nat} {ds : List D} {j : Nat} {oc : Bool} (hj : 1 ≤ j) (hb : 92 ∈ ch) (hu : u ≠ []) (hul : u.length ≤ 64) (hw256 : ∀ c ∈ coat ch u, c < 256)
    (hd1 : ds[j]? = some (.str (coat ch u))) (hd2 : ds[j - 1]? = some (.str u)) (hdl : ds.length ≤ 10)
    (h3 : σ (L + 1 + 1 + 1) = some (.cell (some (.int j)))) (hw : ρ "words" = some (.ref rw)) (ho : ρ "octets" = some (.bool oc)) (hrw : σ rw = some (.list ds))
    (F : c.Fn) (rm : c.Room 6) (hh : c.A.handled = none) (he : c.env = envOfC nm lawSc L fa cd) :
    Wxs G c Γ inB ρ σ (fun f ρ' σ' => f = .next ∧ ρ' "words" = some (.ref rw) ∧ ρ' "octets" = some (.bool oc) ∧ ∀ b o, σ b = some o → σ' b = some o) (fun _ _ _ => False) := by
  have hK := hG.K
  obtain ⟨A', env', stk'⟩ := c
  subst he
  have h0 : Cx.h0 ⟨A', envOfC nm lawSc L fa cd, stk'⟩ := hh
  unfold inB
  have F6 : Cx.Ok ⟨A', envOfC nm lawSc L fa cd, stk'⟩ 6 := ⟨F, rm, hh, rfl, rfl⟩
  have hcl := coat_len ch u
  have hjl : j < ds.length := by
    obtain ⟨q, -⟩ := List.getElem?_eq_some_iff.mp hd1
    exact q
  refine Wxs_cons (Wx_Assign (X := fun _ _ => False) rfl rfl rfl ?_ (fun _ _ h => h))
  refine WV.mono (P := fun d σ' => (∃ b, PatOk b d (coat ch u)) ∧ ∀ b o, σ b = some o → σ' b = some o) ?_ ?_ (fun _ _ h => h)
  · refine WE_IfExp (WT_value rfl ?_)
    (with_reducible refine WE_local (d := ?dx295) ?k1x295 ?k2x295 ?k3x295 ?k4x295 ?_); (case k1x295 => rfl); (case k2x295 => rfl); (case k3x295 => rfl); (case k4x295 => with_reducible assumption)
    with_reducible refine B1_bool ?_
    cases oc
    · show WE _ _ _ _ _ _ _ _
      with_reducible refine WE_sub ?_
      (with_reducible refine WE_local (d := ?dx296) ?k1x296 ?k2x296 ?k3x296 ?k4x296 ?_); (case k1x296 => rfl); (case k2x296 => rfl); (case k3x296 => rfl); (case k4x296 => with_reducible assumption)
      with_reducible refine fun (_ : Value) => ?_
      (with_reducible refine WE_cell (d := ?dx297) (a := ?ax297) ?k1x297 ?k2x297 ?k3x297 ?k4x297 ?k5x297 ?_); (case k1x297 => rfl); (case k2x297 => rfl); (case k3x297 => rfl); (case k4x297 => rfl); (case k5x297 => with_reducible assumption)
      refine sub_lst hrw (by omega) (by omega) (d := .str (coat ch u)) (by simpa using hd1) (fun _ _ => rfl) ?_
      exact ⟨⟨true, .inl ⟨rfl, rfl⟩⟩, fun _ _ h => h⟩
    · show WE _ _ _ _ _ _ _ _
      refine WE_gcall (f := .ref aOct) (by (rw [‹Gl.K _ = Mine.hp _›]; kernel_rfl)) rfl rfl rfl rfl (by (rw [‹Gl.K _ = Mine.hp _›]; kernel_rfl)) rfl rfl rfl rfl fun _ => ?_
      refine WL_cons rfl ?_
      with_reducible refine WE_sub ?_
      (with_reducible refine WE_local (d := ?dx298) ?k1x298 ?k2x298 ?k3x298 ?k4x298 ?_); (case k1x298 => rfl); (case k2x298 => rfl); (case k3x298 => rfl); (case k4x298 => with_reducible assumption)
      with_reducible refine fun (_ : Value) => ?_
      (with_reducible refine WE_cell (d := ?dx299) (a := ?ax299) ?k1x299 ?k2x299 ?k3x299 ?k4x299 ?k5x299 ?_); (case k1x299 => rfl); (case k2x299 => rfl); (case k3x299 => rfl); (case k4x299 => rfl); (case k5x299 => with_reducible assumption)
      refine sub_lst hrw (by omega) (by omega) (d := .str (coat ch u)) (by simpa using hd1) (fun _ _ => rfl) ?_
      with_reducible refine fun (_ : Value) => ?_
      with_reducible refine WL_nil ?_
      refine Wn_fn F6 (k := 1) (by decide) ((C_octets hG (by omega) hw256).mono ?_ fun _ _ h => h)
      rintro d σ2 ⟨rfl, k2⟩
      exact ⟨⟨false, .inr ⟨rfl, rfl⟩⟩, k2⟩
  rintro pat σ1 ⟨⟨b, hpat⟩, kp1⟩
  show Wxs _ _ _ _ _ _ _ _
  (with_reducible refine Wxs_cons (Wx_AssignPair ‹Cx.h0 _› ?k1x300 ?k2x300 ?k3x300 ?k4x300 ?k5x300 ?_ (fun _ _ h => h))); (case k1x300 => rfl); (case k2x300 => rfl); (case k3x300 => rfl); (case k4x300 => rfl); (case k5x300 => rfl)
  refine WE_gcall (f := .ref aReading) (by (rw [‹Gl.K _ = Mine.hp _›]; kernel_rfl)) rfl rfl rfl rfl (by (rw [‹Gl.K _ = Mine.hp _›]; kernel_rfl)) rfl rfl rfl rfl fun _ => ?_
  (with_reducible refine WL_cons ?k1x301 ?_); (case k1x301 => rfl)
  (with_reducible refine WE_local (d := ?dx302) ?k1x302 ?k2x302 ?k3x302 ?k4x302 ?_); (case k1x302 => rfl); (case k2x302 => rfl); (case k3x302 => rfl); (case k4x302 => with_reducible exact get_same)
  with_reducible refine fun (_ : Value) => ?_
  with_reducible refine WL_nil ?_
  refine Wn_fn F6 (k := 6) (by decide) ((C_reading hG (fun ws e => Sg (coat ch u) ws e) (fun _ _ h => tks_sg0 h) hpat (by omega)).mono ?_ fun _ _ h => h)
  rintro d σ2 ⟨r1, r2, W, e0, rfl, -, -, hne, hw1, ht1, hS, hWl, kp2⟩
  obtain ⟨rfl, rfl⟩ := sg_det hS (sg_coat hb u)
  refine ⟨_, _, rfl, ?_⟩
  have kp : ∀ b o, σ b = some o → σ2 b = some o := fun b o h => kp2 _ _ (kp1 _ _ h)
  have f3 := kp _ _ h3
  have frw := kp _ _ hrw
  have hsum : ((coatS ch u).map List.length).sum = (coat ch u).length := by rw [← List.length_flatten]; rfl
  have hlenS := coatS_len ch u
  clear kp1 kp2 hS σ1
  show Wxs _ _ _ _ _ _ _ _
  refine Wxs_cons (Wx_If (X := fun _ _ => False) (WT_Or3 (WT_value rfl ?_)) (fun _ _ h => h))
  (with_reducible refine WE_local (d := ?dx303) ?k1x303 ?k2x303 ?k3x303 ?k4x303 ?_); (case k1x303 => rfl); (case k2x303 => rfl); (case k3x303 => rfl); (case k4x303 => with_reducible exact get_same)
  refine B1_list ht1 (told_len _ _ _) ?_
  show WT _ _ _ _ _ _ _ _
  (with_reducible refine WT_Compare ?k1x304 ?_); (case k1x304 => rfl)
  refine WE_meth rfl rfl rfl (WE_Str (l := []) (by decide +kernel) ?_)
  refine ⟨_, gm_str PySem.F.slot_str_join PySem.F.type_str_join, callee_builtin, fun _ => ?_⟩
  refine WL_cons rfl ?_
  (with_reducible refine WE_local (d := ?dx305) ?k1x305 ?k2x305 ?k3x305 ?k4x305 ?_); (case k1x305 => rfl); (case k2x305 => rfl); (case k3x305 => rfl); (case k4x305 => (with_reducible refine get_miss (by decide +kernel) ?_; with_reducible exact get_same))
  with_reducible refine fun (_ : Value) => ?_
  with_reducible refine WL_nil ?_
  refine join' hw1 rfl (by rw [hsum, hlenS]; omega) ?_
  with_reducible refine fun (_ : Value) => ?_
  with_reducible refine WE_sub ?_
  (with_reducible refine WE_local (d := ?dx306) ?k1x306 ?k2x306 ?k3x306 ?k4x306 ?_); (case k1x306 => rfl); (case k2x306 => rfl); (case k3x306 => rfl); (case k4x306 => (with_reducible refine get_miss (by decide +kernel) ?_; (with_reducible refine get_miss (by decide +kernel) ?_; (with_reducible refine get_miss (by decide +kernel) ?_; with_reducible assumption))))
  with_reducible refine fun (_ : Value) => ?_
  (with_reducible refine WE_cell (d := ?dx307) (a := ?ax307) ?k1x307 ?k2x307 ?k3x307 ?k4x307 ?k5x307 ?_); (case k1x307 => rfl); (case k2x307 => rfl); (case k3x307 => rfl); (case k4x307 => rfl); (case k5x307 => with_reducible assumption)
  refine sub_lst frw (by omega) (by omega) (d := .str (coat ch u)) (by simpa using hd1) (fun _ _ => rfl) ?_
  with_reducible refine ne_str' ?_
  with_reducible refine B1_bool ?_
  rw [show (coatS ch u).flatten = coat ch u from rfl]
  rw [show (!decide (coat ch u = coat ch u)) = false by simp]
  show WT _ _ _ _ _ _ _ _
  (with_reducible refine WT_Compare ?k1x308 ?_); (case k1x308 => rfl)
  refine WV.mono (P := fun d σ' => d = .str u ∧ ∀ b o, σ2 b = some o → σ' b = some o) ?_ ?_ (fun _ _ h => h)
  · refine WE_meth rfl rfl rfl (WE_Str (l := []) (by decide +kernel) ?_)
    refine ⟨_, gm_str PySem.F.slot_str_join PySem.F.type_str_join, callee_builtin, fun _ => ?_⟩
    refine WL_cons rfl (WE_ListComp F rfl (by decide +kernel) rfl (by decide +kernel) (by decide +kernel) (fun _ => rfl) ?_)
    (with_reducible refine WE_local (d := ?dx309) ?k1x309 ?k2x309 ?k3x309 ?k4x309 ?_); (case k1x309 => rfl); (case k2x309 => rfl); (case k3x309 => rfl); (case k4x309 => (with_reducible refine get_miss (by decide +kernel) ?_; with_reducible exact get_same))
    refine ⟨_, _, fun d => match d with | .str s => some (.str [s.getD (s.length - 1) 0]) | _ => none, iter_list hh hw1, by rw [List.length_map]; omega, fun C τ Γ' d' hτ hd ρ' hx => ?_, fun x hx => ?_⟩
    · obtain ⟨w, hwm, rfl⟩ := List.mem_map.mp hd
      refine tests_nil ⟨rfl, rfl, fun Γ'' => ?_⟩
      show WE G (Cx.comp _ _ _ _ _) _ _ _ _ _ _
      with_reducible refine WE_sub ?_
      (with_reducible refine WE_local (d := ?dx310) ?k1x310 ?k2x310 ?k3x310 ?k4x310 ?_); (case k1x310 => rfl); (case k2x310 => rfl); (case k3x310 => rfl); (case k4x310 => with_reducible assumption)
      with_reducible refine fun (_ : Value) => ?_
      with_reducible refine WE_Unary ?_
      with_reducible refine WE_Int ?_
      with_reducible refine neg_int' ?_
      have shape := sg_shape (sg_coat hb u) w hwm
      have hl1 : 1 ≤ w.length ∧ w.length ≤ 2 := by rcases shape with ⟨x, rfl⟩ | ⟨x, -, rfl⟩ <;> simp
      refine sub_str hh (by omega) (by omega) (fun _ _ _ => rfl) (fun _ _ _ => rfl) (fun k y hk hy => ⟨?_, rfl⟩) (fun hn => ?_)
      · unfold at? at hk
        rw [if_neg (by omega), if_pos ⟨by omega, by omega⟩] at hk
        have : k = w.length - 1 := by have := Option.some.inj hk; omega
        subst this
        rw [getD_of hy]
      · unfold at? at hn
        rw [if_neg (by omega), if_pos ⟨by omega, by omega⟩] at hn
        cases hn
    · intro _
      have e : ((coatS ch u).map D.str).filterMap (fun d => match d with | .str s => some (D.str [s.getD (s.length - 1) 0]) | _ => none) = ((coatS ch u).map fun s => [s.getD (s.length - 1) 0]).map D.str := by
        rw [List.filterMap_map, List.map_map, ← List.filterMap_eq_map]
        rfl
      rw [e]
      refine WL_nil (join' (Sto.put_same _ _ _) rfl ?_ ⟨?_, fun b o hb => put_keep hx hb⟩)
      · rw [← List.length_flatten, coat_last, List.length_map, hlenS]; omega
      · rw [coat_last]
  rintro d σ3 ⟨rfl, kp3⟩
  intro _
  refine WV.forget (σ' := σ2) ?_ kp3
  with_reducible refine WE_sub ?_
  (with_reducible refine WE_local (d := ?dx311) ?k1x311 ?k2x311 ?k3x311 ?k4x311 ?_); (case k1x311 => rfl); (case k2x311 => rfl); (case k3x311 => rfl); (case k4x311 => (with_reducible refine get_miss (by decide +kernel) ?_; (with_reducible refine get_miss (by decide +kernel) ?_; (with_reducible refine get_miss (by decide +kernel) ?_; with_reducible assumption))))
  with_reducible refine fun (_ : Value) => ?_
  with_reducible refine WE_BinOp ?_
  (with_reducible refine WE_cell (d := ?dx312) (a := ?ax312) ?k1x312 ?k2x312 ?k3x312 ?k4x312 ?k5x312 ?_); (case k1x312 => rfl); (case k2x312 => rfl); (case k3x312 => rfl); (case k4x312 => rfl); (case k5x312 => with_reducible assumption)
  with_reducible refine fun (_ : Value) => ?_
  with_reducible refine WE_Int ?_
  with_reducible refine sub_int' ?_
  refine sub_lst frw (by omega) (by omega) (d := .str u) (by rw [show ((j : Int) - 1).toNat = j - 1 by omega]; exact hd2) (fun _ _ => rfl) ?_
  with_reducible refine ne_str' ?_
  with_reducible refine B1_bool ?_
  rw [show (!decide (u = u)) = false by simp]
  show Wxs _ _ _ _ _ _ _ _
  with_reducible refine Wxs_nil ?_
  (with_reducible refine Wxs_cons (Wx_Assign ?k1x313 ?k2x313 ?k3x313 ?_ (fun _ _ h => h))); (case k1x313 => rfl); (case k2x313 => rfl); (case k3x313 => rfl)
  with_reducible refine WE_cut ?_
  (with_reducible refine WE_local (d := ?dx314) ?k1x314 ?k2x314 ?k3x314 ?k4x314 ?_); (case k1x314 => rfl); (case k2x314 => rfl); (case k3x314 => rfl); (case k4x314 => (with_reducible refine get_miss (by decide +kernel) ?_; (with_reducible refine get_miss (by decide +kernel) ?_; with_reducible exact get_same)))
  with_reducible refine fun (_ : Value) => ?_
  with_reducible refine WPt_none ?_
  with_reducible refine WPt_some ?_
  with_reducible refine WE_Unary ?_
  with_reducible refine WE_Int ?_
  with_reducible refine neg_int' ?_
  with_reducible refine Exists.intro _ (And.intro (rfl : D.int _ = D.int _) ?_)
  refine cut_pat hpat (by omega) (fun _ _ _ => rfl) (fun _ _ _ => rfl) (fun _ _ _ => rfl) (fun _ _ _ => rfl) fun pat1 hp1 => ?_
  rw [cut_last] at hp1
  obtain ⟨cc, hcc⟩ : ∃ cc, u[u.length - 1]? = some cc := ⟨_, List.getElem?_eq_getElem (Nat.sub_lt (List.length_pos_iff.mpr hu) (by decide))⟩
  obtain ⟨hs1, hs2⟩ := sg_short hb hu hcc
  have hsl : ((coat ch u).take ((coat ch u).length - 1)).length ≤ 128 := by rw [List.length_take]; omega
  generalize ((coat ch u).take ((coat ch u).length - 1)) = sh at hp1 hs1 hsl
  show Wxs _ _ _ _ _ _ _ _
  (with_reducible refine Wxs_cons (Wx_AssignPair ‹Cx.h0 _› ?k1x315 ?k2x315 ?k3x315 ?k4x315 ?k5x315 ?_ (fun _ _ h => h))); (case k1x315 => rfl); (case k2x315 => rfl); (case k3x315 => rfl); (case k4x315 => rfl); (case k5x315 => rfl)
  refine WE_gcall (f := .ref aReading) (by (rw [‹Gl.K _ = Mine.hp _›]; kernel_rfl)) rfl rfl rfl rfl (by (rw [‹Gl.K _ = Mine.hp _›]; kernel_rfl)) rfl rfl rfl rfl fun _ => ?_
  (with_reducible refine WL_cons ?k1x316 ?_); (case k1x316 => rfl)
  (with_reducible refine WE_local (d := ?dx317) ?k1x317 ?k2x317 ?k3x317 ?k4x317 ?_); (case k1x317 => rfl); (case k2x317 => rfl); (case k3x317 => rfl); (case k4x317 => with_reducible exact get_same)
  with_reducible refine fun (_ : Value) => ?_
  with_reducible refine WL_nil ?_
  refine Wn_fn F6 (k := 6) (by decide) ((C_reading hG (fun ws e => Sg sh ws e) (fun _ _ h => tks_sg0 h) hp1 (by omega)).mono ?_ fun _ _ h => h)
  rintro d σ4 ⟨r3, r4, W4, e4, rfl, -, -, hne4, hw4, ht4, hS4, hWl4, kp4⟩
  obtain ⟨rfl, rfl⟩ := sg_det hS4 hs1
  refine ⟨_, _, rfl, ?_⟩
  have g1 := kp4 _ _ hw1
  have kpp : ∀ b o, σ b = some o → σ4 b = some o := fun b o h => kp4 _ _ (kp _ _ h)
  clear kp kp4 kp3 hw1 ht1 f3 frw
  show Wxs _ _ _ _ _ _ _ _
  with_reducible refine Wxs_cons (Wx_If ?_ (fun _ _ h => h))
  (with_reducible refine WT_Compare ?k1x318 ?_); (case k1x318 => rfl)
  (with_reducible refine WE_local (d := ?dx319) ?k1x319 ?k2x319 ?k3x319 ?k4x319 ?_); (case k1x319 => rfl); (case k2x319 => rfl); (case k3x319 => rfl); (case k4x319 => (with_reducible refine get_miss (by decide +kernel) ?_; with_reducible exact get_same))
  with_reducible refine fun (_ : Value) => ?_
  with_reducible refine WE_cut ?_
  (with_reducible refine WE_local (d := ?dx320) ?k1x320 ?k2x320 ?k3x320 ?k4x320 ?_); (case k1x320 => rfl); (case k2x320 => rfl); (case k3x320 => rfl); (case k4x320 => (with_reducible refine get_miss (by decide +kernel) ?_; (with_reducible refine get_miss (by decide +kernel) ?_; (with_reducible refine get_miss (by decide +kernel) ?_; (with_reducible refine get_miss (by decide +kernel) ?_; with_reducible exact get_same)))))
  with_reducible refine fun (_ : Value) => ?_
  with_reducible refine WPt_none ?_
  with_reducible refine WPt_some ?_
  with_reducible refine WE_Unary ?_
  with_reducible refine WE_Int ?_
  with_reducible refine neg_int' ?_
  with_reducible refine Exists.intro _ (And.intro (rfl : D.int _ = D.int _) ?_)
  refine cut_lstT g1 (by rw [List.length_map]; omega) (fun _ _ => rfl) fun r5 hr5 => ?_
  rw [cut_last, List.length_map, ← List.map_take]
  refine ne_sm (n := 1) rm (put_keep hr5 hw4) (Sto.put_same _ _ _) (SmAll.strs _ _) (by decide) (B1_bool ?_)
  show Wxs _ _ _ _ _ _ _ _
  refine WS.forget (σ' := σ4) ?_ (fun b o h => put_keep hr5 h)
  with_reducible refine Wxs_nil ?_
  show Wxs _ _ _ _ _ _ _ _
  (with_reducible refine Wxs_cons (Wx_Assign ?k1x321 ?k2x321 ?k3x321 ?_ (fun _ _ h => h))); (case k1x321 => rfl); (case k2x321 => rfl); (case k3x321 => rfl)
  refine WV.mono (P := fun d σ' => ∃ r, d = .ref r ∧ σ' r = some (.list (told pat1 sh (!decide (cc ∈ ch)))) ∧ ∀ b o, σ4 b = some o → σ' b = some o) ?_ ?_ (fun _ _ h => h)
  · refine WE_IfExp ?_
    (with_reducible refine WT_Compare ?k1x322 ?_); (case k1x322 => rfl)
    (with_reducible refine WE_bcall (f := ?fx323) ?hfx323 ?k1x323 ?k2x323 ?k3x323 ?k4x323 ?k5x323 ?enx323 ?hvx323 ?hnx323 ?hhx323 ?k6x323 ?k7x323 ?k8x323 fun _ => ?_); (case hvx323 => with_reducible exact boot_len); (case hfx323 => with_reducible exact callee_builtin); (case enx323 => (rw [‹Gl.K _ = Mine.hp _›]; kernel_rfl)); (case hnx323 => decide +kernel); all_goals first | rfl | skip
    (with_reducible refine WL_cons ?k1x324 ?_); (case k1x324 => rfl)
    with_reducible refine WE_sub ?_
    (with_reducible refine WE_local (d := ?dx325) ?k1x325 ?k2x325 ?k3x325 ?k4x325 ?_); (case k1x325 => rfl); (case k2x325 => rfl); (case k3x325 => rfl); (case k4x325 => (with_reducible refine get_miss (by decide +kernel) ?_; (with_reducible refine get_miss (by decide +kernel) ?_; (with_reducible refine get_miss (by decide +kernel) ?_; (with_reducible refine get_miss (by decide +kernel) ?_; with_reducible exact get_same)))))
    with_reducible refine fun (_ : Value) => ?_
    with_reducible refine WE_Unary ?_
    with_reducible refine WE_Int ?_
    with_reducible refine neg_int' ?_
    refine sub_last g1 (by rw [List.length_map]; omega) (by decide) (by rw [List.length_map, hlenS]; have := List.length_pos_iff.mpr hu; omega) (d := .str (if cc ∈ ch then [92, cc] else [cc])) ?_ (fun _ _ => rfl) ?_
    · rw [List.length_map, show ((-1 : Int) + ((coatS ch u).length : Nat)).toNat = (coatS ch u).length - 1 by omega, List.getElem?_map, hs2]; rfl
    with_reducible refine fun (_ : Value) => ?_
    with_reducible refine WL_nil ?_
    refine len_str' (by split <;> exact Nat.le_of_ble_eq_true rfl) ?_
    with_reducible refine fun (_ : Value) => ?_
    with_reducible refine WE_Int ?_
    with_reducible refine eq_int' ?_
    with_reducible refine B1_bool ?_
    by_cases q : cc ∈ ch
    · have hpos := sg_ne (by simpa [q] using hs1)
      rw [if_pos (by simp [q])]
      refine WE_gcall (f := .ref aWords) (by (rw [‹Gl.K _ = Mine.hp _›]; kernel_rfl)) rfl rfl rfl rfl (by (rw [‹Gl.K _ = Mine.hp _›]; kernel_rfl)) rfl rfl rfl rfl fun _ => ?_
      refine WL_cons rfl ?_
      (with_reducible refine WE_local (d := ?dx326) ?k1x326 ?k2x326 ?k3x326 ?k4x326 ?_); (case k1x326 => rfl); (case k2x326 => rfl); (case k3x326 => rfl); (case k4x326 => (with_reducible refine get_miss (by decide +kernel) ?_; (with_reducible refine get_miss (by decide +kernel) ?_; with_reducible exact get_same)))
      intro _
      refine WL_cons rfl (WE_Str (l := bad) rfl ?_)
      intro _
      refine WL_cons rfl ?_
      with_reducible refine WE_BinOp ?_
      refine WE_bcall callee_builtin rfl rfl rfl rfl rfl (by (rw [‹Gl.K _ = Mine.hp _›]; kernel_rfl)) boot_len (by decide +kernel) rfl rfl rfl rfl fun _ => ?_
      refine WL_cons rfl ?_
      (with_reducible refine WE_local (d := ?dx327) ?k1x327 ?k2x327 ?k3x327 ?k4x327 ?_); (case k1x327 => rfl); (case k2x327 => rfl); (case k3x327 => rfl); (case k4x327 => (with_reducible refine get_miss (by decide +kernel) ?_; (with_reducible refine get_miss (by decide +kernel) ?_; with_reducible exact get_same)))
      intro _
      refine WL_nil (len_pat hp1 (by omega) ?_)
      with_reducible refine fun (_ : Value) => ?_
      with_reducible refine WE_Int ?_
      with_reducible refine sub_int' ?_
      with_reducible refine fun (_ : Value) => ?_
      with_reducible refine WL_nil ?_
      rw [show ((sh.length : Int) - 1) = ((sh.length - 1 : Nat) : Int) by omega]
      refine Wn_fn F6 (k := 1) (by decide) ((C_words hG hp1 (by omega) (by omega)).mono ?_ fun _ _ h => h)
      rintro d τ9 ⟨rq, rfl, hrq, hrq1, kp9⟩
      exact ⟨rq, rfl, by rw [hrq1]; unfold told; rw [if_neg (by simp [q])], kp9⟩
    · rw [if_neg (by simp [q])]
      with_reducible refine WE_list ?_
      with_reducible refine WL_nil ?_
      (with_reducible refine And.intro (Nat.le_of_ble_eq_true ?k1x328 : _ ≤ 1000) ?_); (case k1x328 => rfl)
      intro q2 hq2
      refine ⟨q2, rfl, ?_, fun b o hb => put_keep hq2 hb⟩
      rw [Sto.put_same]
      unfold told
      rw [if_pos (by simp [q])]
  rintro d σ5 ⟨r, rfl, hr, kp5⟩
  show Wxs _ _ _ _ _ _ _ _
  with_reducible refine Wxs_cons (Wx_If ?_ (fun _ _ h => h))
  (with_reducible refine WT_Compare ?k1x329 ?_); (case k1x329 => rfl)
  (with_reducible refine WE_local (d := ?dx330) ?k1x330 ?k2x330 ?k3x330 ?k4x330 ?_); (case k1x330 => rfl); (case k2x330 => rfl); (case k3x330 => rfl); (case k4x330 => (with_reducible refine get_miss (by decide +kernel) ?_; with_reducible exact get_same))
  with_reducible refine fun (_ : Value) => ?_
  (with_reducible refine WE_local (d := ?dx331) ?k1x331 ?k2x331 ?k3x331 ?k4x331 ?_); (case k1x331 => rfl); (case k2x331 => rfl); (case k3x331 => rfl); (case k4x331 => with_reducible exact get_same)
  refine ne_sm (n := 1) rm (kp5 _ _ ht4) hr (told_sm _ hp1 _) (by decide) (B1_bool ?_)
  show Wxs _ _ _ _ _ _ _ _
  with_reducible refine Wxs_nil ?_
  with_reducible refine Wxs_nil ?_
  exact ⟨rfl, by (with_reducible refine get_miss (by decide +kernel) ?_; (with_reducible refine get_miss (by decide +kernel) ?_; (with_reducible refine get_miss (by decide +kernel) ?_; (with_reducible refine get_miss (by decide +kernel) ?_; (with_reducible refine get_miss (by decide +kernel) ?_; (with_reducible refine get_miss (by decide +kernel) ?_; (with_reducible refine get_miss (by decide +kernel) ?_; with_reducible assumption))))))), by (with_reducible refine get_miss (by decide +kernel) ?_; (with_reducible refine get_miss (by decide +kernel) ?_; (with_reducible refine get_miss (by decide +kernel) ?_; (with_reducible refine get_miss (by decide +kernel) ?_; (with_reducible refine get_miss (by decide +kernel) ?_; (with_reducible refine get_miss (by decide +kernel) ?_; (with_reducible refine get_miss (by decide +kernel) ?_; with_reducible assumption))))))), fun b o h => kp5 _ _ (kpp _ _ h)⟩
end
end Mine
set_option maxHeartbeats 4000000
namespace Mine
open PySem PySem.W PySem.Calls PyProof.Rows
section
variable {G : Gl} {c : Cx} {Γ : Pairs} {ρ : Loc} {σ : Sto} {P : D → Sto → Prop} {X : XP}
theorem C_law (hG : G2 G) {nm : Str} {L fa : Addr} {cd : Value} {a : Addr} {script : List Int} (hl : script.length ≤ 63) (ha : SL G a script) (hc1 : σ (L + 1) = some (.cell none)) (hc2 : σ (L + 1 + 1) = some (.cell none)) (hc3 : σ (L + 1 + 1 + 1) = some (.cell none)) (hc4 : σ (L + 1 + 1 + 1 + 1) = some (.cell none))
    (F : c.Fn) (rm : c.Room 6) (hh : c.A.handled = none) (he : c.env = envOfC nm lawSc L fa cd) :
    Wxs G c Γ lawB (locOf ["script"] [.ref a]) σ (fun fl _ _ => fl = .ret (.bool true)) (fun _ _ _ => False) := by
  have hK := hG.K
  obtain ⟨A', env', stk'⟩ := c
  subst he
  have h0 : Cx.h0 ⟨A', envOfC nm lawSc L fa cd, stk'⟩ := hh
  have hnn : ∀ {x y : Nat}, x < y → (L + x : Nat) ≠ L + y := fun h e => absurd (Nat.add_left_cancel e) (Nat.ne_of_lt h)
  have n12 : L + 1 ≠ L + 1 + 1 := hnn (x := 1) (y := 2) (by decide)
  have n13 : L + 1 ≠ L + 1 + 1 + 1 := hnn (x := 1) (y := 3) (by decide)
  have n14 : L + 1 ≠ L + 1 + 1 + 1 + 1 := hnn (x := 1) (y := 4) (by decide)
  have n23 : L + 1 + 1 ≠ L + 1 + 1 + 1 := hnn (x := 2) (y := 3) (by decide)
  have n24 : L + 1 + 1 ≠ L + 1 + 1 + 1 + 1 := hnn (x := 2) (y := 4) (by decide)
  have n34 : L + 1 + 1 + 1 ≠ L + 1 + 1 + 1 + 1 := hnn (x := 3) (y := 4) (by decide)
  unfold lawB
  have F6 : Cx.Ok ⟨A', envOfC nm lawSc L fa cd, stk'⟩ 6 := ⟨F, rm, hh, rfl, rfl⟩
  refine Wxs_cons (Wx_AssignCell (a := L + 1) rfl rfl rfl rfl (WE_Str (l := letters) (by decide +kernel) ⟨_, hc1, ?_⟩) (fun _ _ h => h))
  have k1 : (σ.put (L + 1) (O.cell (some (D.str letters)))) (L + 1) = some (.cell (some (.str letters))) := Sto.put_same _ _ _
  have k2 : (σ.put (L + 1) (O.cell (some (D.str letters)))) (L + 1 + 1) = some (.cell none) := (Sto.put_ne _ _ n12.symm).trans hc2
  have k3 : (σ.put (L + 1) (O.cell (some (D.str letters)))) (L + 1 + 1 + 1) = some (.cell none) := (Sto.put_ne _ _ n13.symm).trans hc3
  have k4 : (σ.put (L + 1) (O.cell (some (D.str letters)))) (L + 1 + 1 + 1 + 1) = some (.cell none) := (Sto.put_ne _ _ n14.symm).trans hc4
  generalize (σ.put (L + 1) (O.cell (some (D.str letters)))) = σ1 at k1 k2 k3 k4 ⊢
  show Wxs _ _ _ _ _ _ _ _
  (with_reducible refine Wxs_cons (Wx_AssignCell (a := ?ax332) ?k1x332 ?k2x332 ?k3x332 ?k4x332 ?_ (fun _ _ h => h))); (case k1x332 => rfl); (case k2x332 => rfl); (case k3x332 => rfl); (case k4x332 => rfl)
  (with_reducible refine WE_bcall (f := ?fx333) ?hfx333 ?k1x333 ?k2x333 ?k3x333 ?k4x333 ?k5x333 ?enx333 ?hvx333 ?hnx333 ?hhx333 ?k6x333 ?k7x333 ?k8x333 fun _ => ?_); (case hvx333 => with_reducible exact boot_sum); (case hfx333 => with_reducible exact callee_builtin); (case enx333 => (rw [‹Gl.K _ = Mine.hp _›]; kernel_rfl)); (case hnx333 => decide +kernel); all_goals first | rfl | skip
  (with_reducible refine WL_cons ?k1x334 ?_); (case k1x334 => rfl)
  (with_reducible refine WE_local (d := ?dx335) ?k1x335 ?k2x335 ?k3x335 ?k4x335 ?_); (case k1x335 => rfl); (case k2x335 => rfl); (case k3x335 => rfl); (case k4x335 => with_reducible exact locOf_same)
  with_reducible refine fun (_ : Value) => ?_
  with_reducible refine WL_nil ?_
  refine sumB hh ha ⟨_, k2, ?_⟩
  have m1 : (σ1.put (L + 1 + 1) (O.cell (some (D.int script.sum)))) (L + 1) = some (.cell (some (.str letters))) := (Sto.put_ne _ _ n12).trans k1
  have m2 : (σ1.put (L + 1 + 1) (O.cell (some (D.int script.sum)))) (L + 1 + 1) = some (.cell (some (.int script.sum))) := Sto.put_same _ _ _
  have m3 : (σ1.put (L + 1 + 1) (O.cell (some (D.int script.sum)))) (L + 1 + 1 + 1) = some (.cell none) := (Sto.put_ne _ _ n23.symm).trans k3
  have m4 : (σ1.put (L + 1 + 1) (O.cell (some (D.int script.sum)))) (L + 1 + 1 + 1 + 1) = some (.cell none) := (Sto.put_ne _ _ n24.symm).trans k4
  generalize (σ1.put (L + 1 + 1) (O.cell (some (D.int script.sum)))) = σ2 at m1 m2 m3 m4 ⊢
  clear k1 k2 k3 k4 hc1 hc2 hc3 hc4
  show Wxs _ _ _ _ _ _ _ _
  refine Wxs_cons (Wx_Assign rfl rfl rfl (WE_BinOp ?_) (fun _ _ h => h))
  refine WE_meth rfl rfl rfl (WE_Str (l := []) (by decide +kernel) ?_)
  refine ⟨_, gm_str PySem.F.slot_str_join PySem.F.type_str_join, callee_builtin, fun _ => ?_⟩
  refine WL_cons rfl (WE_ListComp F rfl (by decide +kernel) rfl (by decide +kernel) (by decide +kernel) (fun _ => rfl) ?_)
  refine WE_cut ?_
  (with_reducible refine WE_local (d := ?dx336) ?k1x336 ?k2x336 ?k3x336 ?k4x336 ?_); (case k1x336 => rfl); (case k2x336 => rfl); (case k3x336 => rfl); (case k4x336 => with_reducible exact locOf_same)
  intro _
  refine WPt_none (WPt_some ?_)
  with_reducible refine WE_Int ?_
  refine ⟨_, rfl, cutB ha (by omega) (fun _ _ => rfl) (fun _ _ => rfl) fun r hr => ?_⟩
  rw [show (7 : Int) = ((7 : Nat) : Int) from rfl, cut_upto]
  refine ⟨_, _, fun d => match d with | .int n => some (.str [letters.getD (n % 5).toNat 0]) | _ => none, iter_list hh (Sto.put_same _ _ _), by simp; omega, fun C τ Γ' d' hτ hd ρ' hx => ?_, fun x hx => ?_⟩
  · obtain ⟨n, hn, rfl⟩ := List.mem_map.mp hd
    have fl := hτ (L + 1) _ (put_keep hr m1) (fun e => by cases e; rw [hr] at m1; cases m1) (by simp)
    refine tests_nil ⟨rfl, rfl, fun Γ'' => ?_⟩
    show WE G (Cx.comp _ _ _ _ _) _ _ _ _ _ _
    with_reducible refine WE_sub ?_
    (with_reducible refine WE_cell (d := ?dx337) (a := ?ax337) ?k1x337 ?k2x337 ?k3x337 ?k4x337 ?k5x337 ?_); (case k1x337 => rfl); (case k2x337 => rfl); (case k3x337 => rfl); (case k4x337 => rfl); (case k5x337 => with_reducible assumption)
    with_reducible refine fun (_ : Value) => ?_
    with_reducible refine WE_BinOp ?_
    (with_reducible refine WE_local (d := ?dx338) ?k1x338 ?k2x338 ?k3x338 ?k4x338 ?_); (case k1x338 => rfl); (case k2x338 => rfl); (case k3x338 => rfl); (case k4x338 => with_reducible assumption)
    with_reducible refine fun (_ : Value) => ?_
    with_reducible refine WE_Int ?_
    (with_reducible refine mod_int'' ?k1x339 ?_); (case k1x339 => decide)
    have hn0 : 0 ≤ n % 5 := by omega
    have hn1 : n % 5 < 5 := by omega
    refine sub_str hh (by omega) (by decide) (fun _ _ _ => rfl) (fun _ _ _ => rfl) (fun k b hk hb => ⟨?_, rfl⟩) (fun hnone => ?_)
    · have : k = (n % 5).toNat := by
        unfold at? at hk
        rw [if_pos ⟨hn0, by show n % 5 < ((5 : Nat) : Int); omega⟩] at hk
        exact (Option.some.inj hk).symm
      subst this
      rw [getD_of hb]
    · unfold at? at hnone
      rw [if_pos ⟨hn0, by show n % 5 < ((5 : Nat) : Int); omega⟩] at hnone
      cases hnone
  intro _
  have e : ((script.take 7).map D.int).filterMap (fun d => match d with | .int n => some (D.str [letters.getD (n % 5).toNat 0]) | _ => none) = ((script.take 7).map fun n => [letters.getD (n % 5).toNat 0]).map D.str := by
    rw [List.filterMap_map, List.map_map, ← List.filterMap_eq_map]
    rfl
  rw [e]
  refine WL_nil (join' (Sto.put_same _ _ _) rfl ?_ ?_)
  · have : (((script.take 7).map fun n => [letters.getD (n % 5).toNat 0]).map List.length).sum = (script.take 7).length := by
      rw [List.map_map]
      generalize script.take 7 = k
      induction k with
      | nil => rfl
      | cons x k ih => rw [List.map_cons, List.sum_cons, ih]; show 1 + k.length = k.length + 1; omega
    rw [this, List.length_map, List.length_take]
    omega
  have e2 : ((script.take 7).map fun n => [letters.getD (n % 5).toNat 0]).flatten = (script.take 7).map (fun n => letters.getD (n % 5).toNat 0) := by
    generalize script.take 7 = k
    induction k with
    | nil => rfl
    | cons x k ih => rw [List.map_cons, List.flatten_cons, ih]; rfl
  rw [e2]
  clear e e2
  have m1' := put_keep (x := .list (((script.take 7).map fun n => [letters.getD (n % 5).toNat 0]).map D.str)) hx (put_keep hr m1)
  have m2' := put_keep (x := .list (((script.take 7).map fun n => [letters.getD (n % 5).toNat 0]).map D.str)) hx (put_keep hr m2)
  have m3' := put_keep (x := .list (((script.take 7).map fun n => [letters.getD (n % 5).toNat 0]).map D.str)) hx (put_keep hr m3)
  have m4' := put_keep (x := .list (((script.take 7).map fun n => [letters.getD (n % 5).toNat 0]).map D.str)) hx (put_keep hr m4)
  intro _
  generalize ((σ2.put r (O.list ((script.take 7).map D.int))).put x (.list (((script.take 7).map fun n => [letters.getD (n % 5).toNat 0]).map D.str))) = σ3 at m1' m2' m3' m4' ⊢
  clear m1 m2 m3 m4 hr hx
  with_reducible refine WE_sub ?_
  (with_reducible refine WE_cell (d := ?dx340) (a := ?ax340) ?k1x340 ?k2x340 ?k3x340 ?k4x340 ?k5x340 ?_); (case k1x340 => rfl); (case k2x340 => rfl); (case k3x340 => rfl); (case k4x340 => rfl); (case k5x340 => with_reducible assumption)
  with_reducible refine fun (_ : Value) => ?_
  with_reducible refine WE_BinOp ?_
  (with_reducible refine WE_cell (d := ?dx341) (a := ?ax341) ?k1x341 ?k2x341 ?k3x341 ?k4x341 ?k5x341 ?_); (case k1x341 => rfl); (case k2x341 => rfl); (case k3x341 => rfl); (case k4x341 => rfl); (case k5x341 => with_reducible assumption)
  with_reducible refine fun (_ : Value) => ?_
  with_reducible refine WE_Int ?_
  (with_reducible refine mod_int'' ?k1x342 ?_); (case k1x342 => decide)
  have hs0 : 0 ≤ script.sum % 5 := by omega
  have hs1 : script.sum % 5 < 5 := by omega
  refine sub_str hh (by omega) (by decide) (fun _ _ _ => rfl) (fun _ _ _ => rfl) (fun k b hk hb => ?_) (fun hnone => ?_)
  rotate_left
  · unfold at? at hnone
    rw [if_pos ⟨hs0, by show script.sum % 5 < ((5 : Nat) : Int); omega⟩] at hnone
    cases hnone
  have : k = (script.sum % 5).toNat := by
    unfold at? at hk
    rw [if_pos ⟨hs0, by show script.sum % 5 < ((5 : Nat) : Int); omega⟩] at hk
    exact (Option.some.inj hk).symm
  subst this
  refine add_str' (by rw [List.length_map, List.length_take]; omega) (Nat.le_of_ble_eq_true rfl) ?_
  have hin : (script.take 7).map (fun n => letters.getD (n % 5).toNat 0) ++ [b] = insideOf script := by unfold insideOf; rw [getD_of hb]
  rw [hin]
  clear hin hb hk hs0 hs1
  have hif := inside_facts script
  generalize insideOf script = ins at hif ⊢
  show Wxs _ _ _ _ _ _ _ _
  refine Wxs_cons (Wx_Assign rfl rfl rfl (WE_list (WL_cons rfl ?_)) (fun _ _ h => h))
  (with_reducible refine WE_local (d := ?dx343) ?k1x343 ?k2x343 ?k3x343 ?k4x343 ?_); (case k1x343 => rfl); (case k2x343 => rfl); (case k3x343 => rfl); (case k4x343 => with_reducible exact get_same)
  intro _
  refine WL_nil ⟨by simp, fun rw hrw => ?_⟩
  have m1 := put_keep (x := .list [D.str ins]) hrw m1'
  have m2 := put_keep (x := .list [D.str ins]) hrw m2'
  have m3 := put_keep (x := .list [D.str ins]) hrw m3'
  have m4 := put_keep (x := .list [D.str ins]) hrw m4'
  have mw : (σ3.put rw (.list [D.str ins])) rw = some (.list (wordsD script.sum ins 1)) := Sto.put_same _ _ _
  generalize (σ3.put rw (.list [D.str ins])) = σ4 at m1 m2 m3 m4 mw ⊢
  show Wxs _ _ _ _ _ _ _ _
  refine Wxs_cons (WS.mono (C_coats (c := ⟨A', envOfC nm lawSc L fa cd, stk'⟩) (Γ := Γ) hG hl ha hif m1 m2 m3 m4 (by (with_reducible refine get_miss (by decide +kernel) ?_; (with_reducible refine get_miss (by decide +kernel) ?_; with_reducible exact locOf_same))) (by with_reducible exact get_same) mw F rm hh rfl) ?_ (fun _ _ _ h => h))
  rintro f ρ5 σ5 ⟨rfl, p1, ⟨od, p2⟩, n, hn1, hn2, p3⟩
  clear m1 m2 m3 m4 mw hrw m1' m2' m3' m4'
  show Wxs _ _ _ _ _ _ _ _
  refine Wxs_cons (Wx_ForId (X := fun _ _ => False) F (fun _ => rfl) [L + 1 + 1 + 1, rw] (fun _ ρ τ => ρ "words" = some (.ref rw) ∧ (∃ od, τ (L + 1 + 1 + 1) = some (.cell od)) ∧ τ rw = some (.list (wordsD script.sum ins n))) ?_ ?_ (fun _ _ h => h))
  · rintro i ρ τ τ' ⟨q1, ⟨od, q2⟩, q3⟩ hk
    exact ⟨q1, ⟨od, (hk _ (by simp)).trans q2⟩, (hk _ (by simp)).trans q3⟩
  with_reducible refine WE_tuple ?_
  (with_reducible refine WL_cons ?k1x344 ?_); (case k1x344 => rfl)
  with_reducible refine WE_Bool ?_
  with_reducible refine fun (_ : Value) => ?_
  (with_reducible refine WL_cons ?k1x345 ?_); (case k1x345 => rfl)
  with_reducible refine WE_Bool ?_
  with_reducible refine fun (_ : Value) => ?_
  with_reducible refine WL_nil ?_
  (with_reducible refine And.intro (Nat.le_of_ble_eq_true ?k1x346 : _ ≤ 1000) ?_); (case k1x346 => rfl)
  refine ⟨[.bool false, .bool true], iter_tup h0, ?_, ⟨p1, ⟨_, p2⟩, p3⟩, ?_, ?_⟩
  · intro a ha
    simp only [List.mem_cons, List.not_mem_nil, or_false] at ha
    rcases ha with rfl | rfl
    · exact ⟨_, p2, fun y e => (by cases e), by simp⟩
    · exact ⟨_, p3, fun y e => (by cases e), by simp⟩
  · clear p1 p2 p3 od σ5 ρ5
    rintro i oc hd ρ τ I ax ⟨q1, ⟨od, q2⟩, q3⟩ ⟨oI, hoI, hoT⟩ ⟨oX, hoX⟩ hA Γ' v hG'
    obtain ⟨o, rfl⟩ : ∃ o, oc = .bool o := by
      have := List.mem_of_getElem? hd
      simp only [List.mem_cons, List.not_mem_nil, or_false] at this
      rcases this with rfl | rfl
      · exact ⟨_, rfl⟩
      · exact ⟨_, rfl⟩
    refine WU_name (.head _) rfl rfl ?_
    rw [hoI, hoX]
    have hA3 := hA (L + 1 + 1 + 1) (by simp)
    have hAw := hA rw (by simp)
    have h3w : L + 1 + 1 + 1 ≠ rw := fun e => by rw [e, q3] at q2; cases q2
    refine Wxs_cons (Wx_ForDownC (X := fun _ _ => False) F h0 rfl rfl rfl (fun a => a = L + 1 + 1 + 1 ∨ a = rw ∨ a = I ∨ a = ax) (fun _ ρ τ => ρ "words" = some (.ref rw) ∧ ρ "octets" = some (.bool o) ∧ (∃ od, τ (L + 1 + 1 + 1) = some (.cell od)) ∧ τ rw = some (.list (wordsD script.sum ins n)) ∧ τ I = some (.obj oI) ∧ τ ax = some (.obj oX)) ?_ ?_ ?_ (fun _ _ h => h))
    · rintro i ρ τ τ' ⟨p1, p2, ⟨od, p3⟩, p4, p5, p6⟩ hk
      exact ⟨p1, p2, ⟨od, (hk _ (.inl rfl)).trans p3⟩, (hk _ (.inr (.inl rfl))).trans p4, (hk _ (.inr (.inr (.inl rfl)))).trans p5, (hk _ (.inr (.inr (.inr rfl)))).trans p6⟩
    · rintro i ρ τ ⟨-, -, p3, -⟩
      exact p3
    (with_reducible refine WE_bcall (f := ?fx347) ?hfx347 ?k1x347 ?k2x347 ?k3x347 ?k4x347 ?k5x347 ?enx347 ?hvx347 ?hnx347 ?hhx347 ?k6x347 ?k7x347 ?k8x347 fun _ => ?_); (case hvx347 => with_reducible exact boot_range); (case hfx347 => with_reducible exact callee_type); (case enx347 => (rw [‹Gl.K _ = Mine.hp _›]; kernel_rfl)); (case hnx347 => decide +kernel); all_goals first | rfl | skip
    (with_reducible refine WL_cons ?k1x348 ?_); (case k1x348 => rfl)
    with_reducible refine WE_BinOp ?_
    (with_reducible refine WE_bcall (f := ?fx349) ?hfx349 ?k1x349 ?k2x349 ?k3x349 ?k4x349 ?k5x349 ?enx349 ?hvx349 ?hnx349 ?hhx349 ?k6x349 ?k7x349 ?k8x349 fun _ => ?_); (case hvx349 => with_reducible exact boot_len); (case hfx349 => with_reducible exact callee_builtin); (case enx349 => (rw [‹Gl.K _ = Mine.hp _›]; kernel_rfl)); (case hnx349 => decide +kernel); all_goals first | rfl | skip
    (with_reducible refine WL_cons ?k1x350 ?_); (case k1x350 => rfl)
    (with_reducible refine WE_local (d := ?dx351) ?k1x351 ?k2x351 ?k3x351 ?k4x351 ?_); (case k1x351 => rfl); (case k2x351 => rfl); (case k3x351 => rfl); (case k4x351 => (with_reducible refine get_miss (by decide +kernel) ?_; with_reducible assumption))
    with_reducible refine fun (_ : Value) => ?_
    with_reducible refine WL_nil ?_
    refine len_list' q3 (by rw [wordsD_len]; omega) ?_
    rw [wordsD_len]
    with_reducible refine fun (_ : Value) => ?_
    with_reducible refine WE_Int ?_
    with_reducible refine sub_int' ?_
    with_reducible refine fun (_ : Value) => ?_
    (with_reducible refine WL_cons ?k1x352 ?_); (case k1x352 => rfl)
    with_reducible refine WE_Int ?_
    with_reducible refine fun (_ : Value) => ?_
    (with_reducible refine WL_cons ?k1x353 ?_); (case k1x353 => rfl)
    with_reducible refine WE_Unary ?_
    with_reducible refine WE_Int ?_
    with_reducible refine neg_int' ?_
    with_reducible refine fun (_ : Value) => ?_
    with_reducible refine WL_nil ?_
    refine range3m' (by omega) (by omega) fun r _ _ _ hr => ⟨r, _, _, _, _, _, rfl, Sto.put_same _ _ _, by omega, by omega, ?_, ⟨by (with_reducible refine get_miss (by decide +kernel) ?_; with_reducible assumption), by with_reducible exact get_same, ⟨_, put_keep hr q2⟩, put_keep hr q3, put_keep hr hoI, put_keep hr hoX⟩, ?_, ?_⟩
    · rintro a (rfl | rfl | rfl | rfl)
      · exact ⟨ne_none hr q2, _, put_keep hr q2⟩
      · exact ⟨ne_none hr q3, _, put_keep hr q3⟩
      · exact ⟨ne_none hr hoI, _, put_keep hr hoI⟩
      · exact ⟨ne_none hr hoX, _, put_keep hr hoX⟩
    · rintro k hk ρ2 τ2 I2 ⟨p1, p2, ⟨od2, p3⟩, p4, p5, p6⟩ ⟨oJ, hoJ, -⟩ hA2 Γ2 hG2'
      obtain ⟨j, hj⟩ : ∃ j : Nat, ((n : Nat) : Int) - 1 - k = j := ⟨n - 1 - k, by omega⟩
      rw [hj]
      have hj1 : 1 ≤ j := by omega
      have hj2 : j < n := by omega
      obtain ⟨i, rfl⟩ : ∃ i, j = i + 1 := ⟨j - 1, by omega⟩
      have hI3 := hA2 _ (.inl rfl)
      have wf := word_facts script.sum hif i
      have wf2 := word_facts script.sum hif (i + 1)
      have hul : (wordOf script.sum ins i).length ≤ 64 := by
        have : i = 0 ∨ i = 1 ∨ i = 2 := by omega
        rcases this with rfl | rfl | rfl <;> simp at wf ⊢ <;> omega
      refine WS.mono (C_inner (c := ⟨A', envOfC nm lawSc L fa cd, stk'⟩) (Γ := Γ2) (ch := chosenOf script.sum i) (u := wordOf script.sum ins i) (j := i + 1) hG hj1 (chosen_bs _ _) wf.1 hul wf2.2.2 (wordsD_get hj2) (wordsD_get (j := i) (by omega)) (by rw [wordsD_len]; omega) (Sto.put_same _ _ _) p1 p2 ((Sto.put_ne _ _ h3w.symm).trans p4) F rm hh rfl) ?_ (fun _ _ _ h => h)
      rintro f ρ3 τ3 ⟨rfl, z1, z2, z3⟩
      have k3 := z3 _ _ (Sto.put_same _ _ _)
      have k4 := z3 _ _ ((Sto.put_ne _ _ h3w.symm).trans p4)
      have k5 := z3 _ _ ((Sto.put_ne _ _ hA3.1.symm).trans p5)
      have k6 := z3 _ _ ((Sto.put_ne _ _ hA3.2.symm).trans p6)
      have k7 := z3 _ _ ((Sto.put_ne _ _ hI3.symm).trans hoJ)
      exact ⟨⟨z1, z2, ⟨_, k3⟩, k4, k5, k6⟩, k7.trans hoJ.symm⟩
    · rintro ρ2 τ2 ⟨p1, p2, p3, p4, p5, p6⟩
      show Wxs _ _ _ _ _ _ _ _
      with_reducible refine Wxs_nil ?_
      exact ⟨⟨p1, p3, p4⟩, p5, p6⟩
  · rintro ρ τ -
    show Wxs _ _ _ _ _ _ _ _
    with_reducible refine Wxs_cons (Wx_Return ?_ (fun _ _ h => h))
    with_reducible refine WE_Bool ?_
    rfl
end
end Mine
set_option maxHeartbeats 4000000
namespace Mine
open PySem PySem.W PySem.Calls PyProof.Rows
theorem fin_law {G : Gl} {c : Cx} {σ : Sto} {ρ : Loc} {body : List Stmt} {s : Shared} {Q : Flow → Shared → Prop} {E : Value → Shared → Prop} (S : St G c σ ρ [] s.heap) (h : Wxs G c [] body ρ σ (fun fl _ _ => fl = .ret (.bool true)) (fun _ _ _ => False))
    (q : ∀ h' tk m, Fr G.h₀ c.env.locals h' m → Q (.ret (.bool true)) { s with heap := h', toks := tk }) : wpAny G.M c.A (execs body c.env) Q E s :=
  h s Q E S (fun f fl Γ' ρ' σ' h' tk ok p S' => by
    subst p
    cases ok
    obtain ⟨N, FS, m, S'⟩ := S'
    have r := S'.ga _ (.head _)
    cases r
    exact q h' tk m S'.fr) (fun _ _ _ _ _ _ _ p => p.elim)
theorem nodup4 (S : Nat) : [S + 1 + 1 + 1 + 1, S + 1 + 1 + 1, S + 1 + 1, S + 1].Nodup := by
  simp only [List.nodup_cons, List.mem_cons, List.not_mem_nil, or_false, not_or, not_false_eq_true, List.nodup_nil, and_true]
  omega
theorem main4 {w : World} {s₁ : Shared} {mg mb : Str → Option Value} {vw : Program} {loose : List Str} {mean : ExcName → Option Value} {nm : Str} {fa : Addr} {cd : Value} {a : Addr} {vs : List Value} {ns : List Int} {h₁ : Heap} {tk₁ : Nat} {m : Str → Option Value} {o1 o2 o3 o4 : Obj} {v1 v2 v3 v4 : Option Value} {Q : Flow → Shared → Prop} {E : Value → Shared → Prop}
    (KX : (Mine.hp w.params).In s₁.heap) (T : Top vw loose mean mg mb s₁.heap) (hL : s₁.heap.IsList a vs.toArray) (hI : IntsAre vs ns) (hn : ns.length ≤ 63)
    (F : Fr s₁.heap s₁.heap.objs.size h₁ m) (hm : m "script" = some (.ref a)) (N0 : News s₁.heap s₁.heap.objs.size h₁ [(s₁.heap.objs.size + 1 + 1 + 1 + 1, o4), (s₁.heap.objs.size + 1 + 1 + 1, o3), (s₁.heap.objs.size + 1 + 1, o2), (s₁.heap.objs.size + 1, o1)]) (e1 : o1.data = .cell v1) (e2 : o2.data = .cell v2) (e3 : o3.data = .cell v3) (e4 : o4.data = .cell v4)
    (q : ∀ h' tk m, Fr s₁.heap s₁.heap.objs.size h' m → Q (.ret (.bool true)) { heap := h', gens := s₁.gens, drawn := s₁.drawn, toks := tk, os := s₁.os }) :
    wpAny (model Mine.rwp w) (callerA.deeper (envOfC nm lawSc s₁.heap.objs.size fa cd)) (execs lawB (envOfC nm lawSc s₁.heap.objs.size fa cd)) Q E { heap := h₁, gens := s₁.gens, drawn := s₁.drawn, toks := tk₁, os := s₁.os } := by
  let G : Gl := ⟨Mine.rwp, w, Mine.hp w.params, s₁.heap, mg, mb, KX, T.g, T.b, T.nolimit, T.builtins⟩
  let c : Cx := ⟨callerA.deeper (envOfC nm lawSc s₁.heap.objs.size fa cd), envOfC nm lawSc s₁.heap.objs.size fa cd, []⟩
  refine fin_law (G := G) (c := c) (σ := fun b => if b = s₁.heap.objs.size + 1 ∨ b = s₁.heap.objs.size + 1 + 1 ∨ b = s₁.heap.objs.size + 1 + 1 + 1 ∨ b = s₁.heap.objs.size + 1 + 1 + 1 + 1 then some (.cell none) else none) (ρ := locOf ["script"] [.ref a]) (s := { heap := h₁, gens := s₁.gens, drawn := s₁.drawn, toks := tk₁, os := s₁.os }) ⟨[(s₁.heap.objs.size + 1 + 1 + 1 + 1, o4), (s₁.heap.objs.size + 1 + 1 + 1, o3), (s₁.heap.objs.size + 1 + 1, o2), (s₁.heap.objs.size + 1, o1)], [], m, ?_⟩
    (C_law (c := c) (cd := cd) ⟨rfl, rfl⟩ hn ⟨vs.toArray, hL, by simpa using hI⟩ (if_pos (.inl rfl)) (if_pos (.inr (.inl rfl))) (if_pos (.inr (.inr (.inl rfl)))) (if_pos (.inr (.inr (.inr rfl)))) ⟨rfl, rfl, rfl, fun _ h => nomatch h⟩ ⟨by show callerA.depth + 1 + 2 * 6 < 900; decide +kernel, by show callerA.units + 3 + 16 * 6 + 300 < 9900; decide +kernel⟩ rfl rfl) q
  refine ⟨F, N0, ?_, fun x d e => ?_, fun b x e => ?_, .nil, fun p hp => nomatch hp⟩
  · exact nodup4 _
  · unfold locOf at e
    split at e
    · rename_i hx; subst hx; cases e; exact ⟨_, hm, .ref _⟩
    · cases e
  · split at e
    · rename_i hb
      cases e
      rcases hb with rfl | rfl | rfl | rfl
      · exact ⟨o1, v1, .tail _ (.tail _ (.tail _ (.head _))), e1, .none _⟩
      · exact ⟨o2, v2, .tail _ (.tail _ (.head _)), e2, .none _⟩
      · exact ⟨o3, v3, .tail _ (.head _), e3, .none _⟩
      · exact ⟨o4, v4, .head _, e4, .none _⟩
    · cases e
end Mine
open PySem PySem.W PyProof.Rows
set_option maxRecDepth 100000 in
set_option maxHeartbeats 8000000 in
theorem PySem.Challenge.cw_io0014_04_holds : PySem.Challenge.rw_io0014_04.Holds := by
  refine Mine.hd ?_
  k_go0
  refine Mine.main4 (by assumption) (by assumption) (by assumption) (by assumption) (by omega) (by assumption) rfl (by assumption) (by assumption) (by assumption) (by assumption) (by assumption) (fun h' tk m F => by
    refine goodW_bool F (by assumption) (raisesW_false ?_) ?_
    · wrow_none_raised
    · wrow_post)

