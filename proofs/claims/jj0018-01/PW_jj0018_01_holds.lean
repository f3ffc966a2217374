import PyProof.Rows.All
import Wide.All
import OpenK.AllK
import PyProof.IsiH_tuple
import KE.KItem
import KE.LcTurns
import KE.RegLcTurns
import KE.KTryDeep
import KE.KTryDeepN
import Wide.FinOn
import PySem.Challenge.RW_jj0018_01
open PySem PySem.W PyProof.Rows PySem.Calls
set_option Elab.async false
set_option linter.all false
set_option compiler.extract_closed false
set_option maxRecDepth 100000
set_option maxHeartbeats 0
namespace Mine
-- Hd
section
local macro_rules | `(tactic| o_head $_) => `(tactic| assumption)
theorem hd (h : PySem.Challenge.rw_jj0018_01.row.Holds) : PySem.Challenge.rw_jj0018_01.row.Holds := by
  k_head
end
section
-- Base1
/-- the goal behind a letter, while facts are opened -/
theorem hideG {G : Prop} (h : ∀ P : Prop, (G → P) → P) : G := h G fun g => g
/-- what follows from P follows from Q: it hides what is yet to come behind a name -/
@[irreducible] def Leads (P Q : Flow → Shared → Prop) : Prop := ∀ f s, P f s → Q f s
theorem Leads.refl (P : Flow → Shared → Prop) : Leads P P := by
  unfold Leads
  exact fun _ _ h => h
theorem execs_chk {prog : Program} {w : World} {A : Around} {E : Value → Shared → Prop} {s : Shared} {P Q : Flow → Shared → Prop} {ss : List Stmt} {env : Env} (_h : Leads P Q) (h : wpAny (model prog w) A (execs ss env) Q E s) : wpAny (model prog w) A (execs ss env) Q E s := h
theorem execs_hid1 {prog : Program} {w : World} {A : Around} {E : Value → Shared → Prop} {s : Shared} {Q : Flow → Shared → Prop} {st : Stmt} {rest : List Stmt} {env : Env}
    (h : ∀ Q1 : Flow → Shared → Prop, Leads (fun f s' => match f with | .next => wpAny (model prog w) A (execs rest env) Q E s' | f => Q f s') Q1 → wpAny (model prog w) A (exec st env) Q1 E s) :
    wpAny (model prog w) A (execs (st :: rest) env) Q E s :=
  wpAny_execs_cons (h _ (Leads.refl _))
theorem execs_hid {prog : Program} {w : World} {A : Around} {E : Value → Shared → Prop} {s : Shared} {Q : Flow → Shared → Prop} {st : Stmt} {rest : List Stmt} {env : Env}
    (h : ∀ Q0 Q1 : Flow → Shared → Prop, Leads Q Q0 → Leads (fun f s' => match f with | .next => wpAny (model prog w) A (execs rest env) Q0 E s' | f => Q0 f s') Q1 → wpAny (model prog w) A (exec st env) Q1 E s) :
    wpAny (model prog w) A (execs (st :: rest) env) Q E s :=
  wpAny_execs_cons (h Q _ (Leads.refl _) (Leads.refl _))
abbrev topA (dp un : Nat) (gd : Option (List Code)) (outer : List Env) : Around := { handled := none, depth := dp, frames := some outer, guards := gd, units := un }
/-- a contract of a def: over a ledger, whatever the frames; n bounds how deep it calls -/
def Ctr (n : Nat) (prog : Program) (w : World) (K : Frag) (p : Program) (loose : List Str) (mean : ExcName → Option Value) (mg mb : Str → Option Value)
    (f : Addr) (args : Args) (need : List (Addr × Obj)) (post : Value → List (Addr × Obj) → Prop) : Prop :=
  ∀ (dp un : Nat) (gd : Option (List Code)) (outer : List Env) (base : Heap) (s : Shared) (R : Result → Shared → Prop),
    Below (topA dp un gd outer) base outer (hideAll s.heap (need.map (·.1))) → K.In (hideAll s.heap (need.map (·.1))) → Top p loose mean mg mb (hideAll s.heap (need.map (·.1))) →
    (∀ q ∈ need, s.heap.get? q.1 = some q.2) → dp + 3 * n < recursionLimit → un + 40 * n < cLine →
    (∀ v h' tk' L' m' news', Fr (hideAll s.heap (need.map (·.1))) L' h' m' → News (hideAll s.heap (need.map (·.1))) L' h' news' → post v news' → R (.ok (.ret v)) { s with heap := h', toks := tk' }) →
    codeAny (model prog w) (topA dp un gd outer) (.call (.ref f) args) R s
/-- what a contract's body comes to -/
def EndC (g : Heap) (s : Shared) (post : Value → List (Addr × Obj) → Prop) (v : Value) (s' : Shared) : Prop :=
  ∃ h' tk' L'' m' news', s' = { s with heap := h', toks := tk' } ∧ Fr g L'' h' m' ∧ News g L'' h' news' ∧ post v news'
theorem EndC.mk {g h' : Heap} {s : Shared} {post : Value → List (Addr × Obj) → Prop} {v : Value} {L : Addr} {m : Str → Option Value} {news : List (Addr × Obj)} {tk : Tok} (F : Fr g L h' m) (N : News g L h' news) (hp : post v news) :
    EndC g s post v { s with heap := h', toks := tk } := ⟨h', tk, L, m, news, rfl, F, N, hp⟩
section
variable {n : Nat} {prog : Program} {w : World} {A₀ A : Around} {s : Shared} {base h₀ : Heap} {outer : List Env} {L : Addr} {m : Str → Option Value} {env : Env} {need : List (Addr × Obj)} {K : Frag}
  {p : Program} {loose : List Str} {mean : ExcName → Option Value} {mg mb : Str → Option Value} {f : Addr} {args : Args} {post : Value → List (Addr × Obj) → Prop}
theorem Ctr.code {R : Result → Shared → Prop} (C : Ctr n prog w K p loose mean mg mb f args need post) (B : Below A₀ base outer h₀) (F : Fr h₀ L s.heap m) (X : K.In h₀) (N : News h₀ L s.heap need) (T : Top p loose mean mg mb h₀)
    (hA : A.frames = some (env :: outer)) (hf : env.frame = some L) (hke : env.scope.kind = .function) (hh : A.handled = none) (hd : A.depth + 3 * n < recursionLimit) (hu : A.units + 40 * n < cLine)
    (k : ∀ v h' tk' news', Fr h₀ L h' m → News h₀ L h' news' → post v news' → R (.ok (.ret v)) { s with heap := h', toks := tk' }) :
    codeAny (model prog w) A (.call (.ref f) args) R s := by
  obtain ⟨hd0, dp, fr, gd, un⟩ := A
  dsimp only at hA hh hd hu
  subst hA hh
  obtain ⟨FG, BG, st, lv⟩ := groundX (A := topA dp un gd (env :: outer)) (R := R) B F N rfl hf hke
  refine C dp un gd (env :: outer) base s R BG (X.keeps st) (T.keeps st) (fun q hq => (N q hq).1) hd hu fun v h' tk' L' m' news' F' N' hp => ?_
  exact lv v { s with heap := h', toks := tk' } ⟨L', m', news', F', N', fun F2 N2 => k v h' tk' news' F2 N2 hp⟩
theorem Ctr.call {Q E : Value → Shared → Prop} {pos : List Value} {kw : List (Str × Value)} (C : Ctr n prog w K p loose mean mg mb f ⟨pos, kw⟩ need post) (B : Below A₀ base outer h₀) (F : Fr h₀ L s.heap m) (X : K.In h₀) (N : News h₀ L s.heap need) (T : Top p loose mean mg mb h₀)
    (hA : A.frames = some (env :: outer)) (hf : env.frame = some L) (hke : env.scope.kind = .function) (hh : A.handled = none) (hd : A.depth + 3 * n < recursionLimit) (hu : A.units + 40 * n < cLine)
    (k : ∀ v h' tk' news', Fr h₀ L h' m → News h₀ L h' news' → post v news' → Q v { s with heap := h', toks := tk' }) :
    wpAny (model prog w) A (PySem.call (.ref f) pos kw) Q E s :=
  wpAny_call (C.code B F X N T hA hf hke hh hd hu k)
theorem ctr_enter {name qual : Str} {params : Arguments} {body : List Stmt} {scope : Scope} {dV kV doc pm cdv ct oc : Value} {an od : Option Addr} {osl : Array (Option Value)} {binds : List (Str × Value)} {mm : Str → Option Value}
    (ho : K.lookup f = some ⟨oc, od, .func (fnOf name qual params body scope dV kV doc pm an cdv ct), osl⟩) (hcd : codeIn K cdv qual = true)
    (hbind : ∀ s : Shared, K.In s.heap → BindsTo s (fnOf name qual params body scope dV kV doc pm an cdv ct) args binds) (hloc : ∀ y ∈ binds, scope.names.lookup y.1 = some .local)
    (hmm : (fun y => binds.reverse.lookup y) = mm)
    (h : ∀ (dp un : Nat) (gd : Option (List Code)) (outer : List Env) (base g : Heap) (s : Shared) (L' : Addr),
      Below (topA dp un gd outer) base outer g → K.In g → Top p loose mean mg mb g → Fr g L' s.heap mm → News g L' s.heap need → dp + 3 * n < recursionLimit → un + 40 * n < cLine →
      wpAny (model prog w) ((topA dp un gd outer).deeper (envOf qual scope L' f cdv)) (execs body (envOf qual scope L' f cdv))
        (fun fl s' => EndC g s post (match fl with | .ret v => v | _ => .none) s')
        (fun _ _ => False) s)
    (hco : scope.isCoroutine = false) (hgen : scope.isGenerator = false) (hk : scope.kind = .function) (hcell : ∀ x ∈ scope.names, x.2 ≠ .cell) (hn : 0 < n) :
    Ctr n prog w K p loose mean mg mb f args need post := by
  intro dp un gd outer base s R B X T N0 hd hu k
  have Xs : K.In s.heap := X.keeps fun b o e => of_hideAll _ e
  refine codeAny_call_def (fd := fnOf name qual params body scope dV kV doc pm an cdv ct) (body := body) (binds := binds) (by show dp < _; omega) (Xs _ _ ho) rfl (T.nolimit.keeps fun b o e => of_hideAll _ e) (codeRec_of Xs hcd) rfl (hbind s Xs) hcell hloc (fun h₁ hns hk₁ => ?_) hco hgen hk
  refine wpAny_mono (h dp un gd outer base _ { s with heap := h₁, toks := s.toks + binds.length } s.heap.objs.size B X T (hmm ▸ ⟨hns, fun b o e => hk₁ b o (of_hideAll _ e), Nat.le_of_eq (hideAll_size _ _)⟩)
    (fun q hq => ⟨hk₁ _ _ (N0 q hq), Nat.ne_of_lt (Heap.lt_size (N0 q hq)), hideAll_none _ (List.mem_map_of_mem hq)⟩) hd hu) (fun fl s' hl => ?_) fun _ _ y => y.elim
  obtain ⟨h', tk', L'', m', news', rfl, F', N', hp⟩ := hl
  exact k _ h' tk' L'' m' news' F' N' hp
theorem Ctr.mono {post' : Value → List (Addr × Obj) → Prop} (C : Ctr n prog w K p loose mean mg mb f args need post) (h : ∀ v L, post v L → post' v L) : Ctr n prog w K p loose mean mg mb f args need post' :=
  fun dp un gd outer base s R B X T N0 hd hu k => C dp un gd outer base s R B X T N0 hd hu fun v h' tk' L' m' news' F' N' hp => k v h' tk' L' m' news' F' N' (h _ _ hp)
end
section
variable {Q : Value → Shared → Prop} {s : Shared} {h₀ : Heap} {L : Addr} {m : Str → Option Value} {need : List (Addr × Obj)}
/-- behind a call that leaves the ledger as it was -/
theorem after_t {w : Tok → Value} (k : ∀ h' tk' t, Fr h₀ L h' m → News h₀ L h' need → Q (w t) { s with heap := h', toks := tk' }) :
    ∀ v h' tk' news', Fr h₀ L h' m → News h₀ L h' news' → (news' = need ∧ ∃ t, v = w t) → Q v { s with heap := h', toks := tk' } := by
  rintro v h' tk' _ F N ⟨rfl, t, rfl⟩
  exact k h' tk' t F N
theorem after_e {w : Value} (k : ∀ h' tk', Fr h₀ L h' m → News h₀ L h' need → Q w { s with heap := h', toks := tk' }) :
    ∀ v h' tk' news', Fr h₀ L h' m → News h₀ L h' news' → (news' = need ∧ v = w) → Q v { s with heap := h', toks := tk' } := by
  rintro v h' tk' _ F N ⟨rfl, rfl⟩
  exact k h' tk' F N
end
end
section
-- Base2
def upd {α : Type} (f : Str → Option α) (k : Str) (x : Option α) : Str → Option α := fun y => if y = k then x else f y
theorem valueAt_cons (p : Str × Value) (kvs : List (Str × Value)) (y : Str) : valueAt (p :: kvs) y = if p.1 = y then some p.2 else valueAt kvs y := by
  unfold valueAt
  rw [List.find?_cons]
  by_cases h : p.1 = y <;> simp [h]
theorem valueAt_app (a : List (Str × Value)) (p : Str × Value) (y : Str) (h : valueAt a p.1 = none) : valueAt (a ++ [p]) y = if p.1 = y then some p.2 else valueAt a y := by
  induction a with
  | nil => rw [List.nil_append, valueAt_cons]
  | cons q a ih =>
    rw [valueAt_cons] at h
    rw [List.cons_append, valueAt_cons, valueAt_cons]
    by_cases h1 : q.1 = y
    · rw [if_pos h1]
      by_cases h2 : p.1 = y
      · rw [if_pos (h1.trans h2.symm)] at h; cases h
      · rw [if_neg h2, if_pos h1]
    · rw [if_neg h1]
      by_cases h2 : q.1 = p.1
      · rw [if_pos h2] at h; cases h
      · rw [if_neg h2] at h
        rw [ih h]
        by_cases h3 : p.1 = y
        · simp [h3]
        · simp [h3, h1]
theorem valueAt_any (kvs : List (Str × Value)) (k : Str) : kvs.any (fun kv => kv.1 = k) = (valueAt kvs k).isSome := by
  induction kvs with
  | nil => rfl
  | cons p r ih =>
    rw [valueAt_cons, List.any_cons, ih]
    by_cases h : p.1 = k <;> simp [h]
theorem valueAt_stored (kvs : List (Str × Value)) (k : Str) (v : Value) (y : Str) : valueAt (stored kvs k v) y = if y = k then some v else valueAt kvs y := by
  unfold stored
  rw [valueAt_any]
  cases hq : valueAt kvs k with
  | none =>
    simp only [Option.isSome_none, Bool.false_eq_true, if_false]
    rw [valueAt_app _ _ _ hq]
    by_cases h : y = k
    · simp [h]
    · rw [if_neg (fun e => h e.symm), if_neg h]
  | some v0 =>
    simp only [Option.isSome_some, if_true]
    have : ∀ l : List (Str × Value), valueAt (l.map fun kv => if kv.1 = k then (kv.1, v) else kv) y = if y = k then (valueAt l k).map (fun _ => v) else valueAt l y := by
      intro l
      induction l with
      | nil => by_cases h : y = k <;> simp [h, valueAt]
      | cons p r ih =>
        rw [List.map_cons, valueAt_cons, ih, valueAt_cons, valueAt_cons]
        by_cases h1 : p.1 = k
        · rw [if_pos h1]
          by_cases h2 : y = k
          · subst h2; simp [h1]
          · have : ¬ p.1 = y := fun e => h2 (e.symm.trans h1)
            simp [h2, this]
        · rw [if_neg h1]
          by_cases h2 : y = k
          · subst h2; simp [h1]
          · simp [h2]
    rw [this, hq]
    rfl
theorem valueAt_without (kvs : List (Str × Value)) (k : Str) (y : Str) : valueAt (without kvs k) y = if y = k then none else valueAt kvs y := by
  induction kvs with
  | nil => by_cases h : y = k <;> simp [h, valueAt, without]
  | cons p r ih =>
    have e : without (p :: r) k = if p.1 = k then without r k else p :: without r k := by
      unfold without
      rw [List.filter_cons]
      by_cases h : p.1 = k <;> simp [h]
    rw [e, valueAt_cons]
    by_cases h1 : p.1 = k
    · rw [if_pos h1, ih]
      by_cases h2 : y = k
      · rw [if_pos h2, if_pos h2]
      · rw [if_neg h2, if_neg h2, if_neg (fun e => h2 (e.symm.trans h1))]
    · rw [if_neg h1, valueAt_cons, ih]
      by_cases h2 : p.1 = y
      · rw [if_pos h2, if_neg (fun e => h1 (h2.trans e)), if_pos h2]
      · rw [if_neg h2, if_neg h2]
theorem stored_length (kvs : List (Str × Value)) (k : Str) (v : Value) : (stored kvs k v).length ≤ kvs.length + 1 := by
  unfold stored
  split
  · rw [List.length_map]; omega
  · rw [List.length_append]; simp
theorem without_length (kvs : List (Str × Value)) (k : Str) : (without kvs k).length ≤ kvs.length := List.length_filter_le ..
structure TabR (prog : Program) (w : World) {α : Type} (P : α → Value → Prop) (o : Obj) (f : Str → Option α) (b : Nat) : Prop where
  is : ∃ kvs, o.IsDictOf (strKind prog w) kvs ∧ kvs.length ≤ b ∧ (∀ k x, f k = some x → ∃ v, valueAt kvs k = some v ∧ P x v) ∧ ∀ k, f k = none → valueAt kvs k = none
def PI (i : Int) (v : Value) : Prop := ∃ t, v = .int i t
section
variable {prog : Program} {w : World} {α : Type} {P P' : α → Value → Prop} {o o' : Obj} {f : Str → Option α} {b : Nat}
theorem TabR.mono (T : TabR prog w P o f b) (h : ∀ x v, P x v → P' x v) : TabR prog w P' o f b := by
  obtain ⟨kvs, hd, hl, h1, h2⟩ := T.is
  exact ⟨kvs, hd, hl, fun k x e => let ⟨v, a, c⟩ := h1 k x e; ⟨v, a, h x v c⟩, h2⟩
theorem TabR.le {b' : Nat} (T : TabR prog w P o f b) (h : b ≤ b') : TabR prog w P o f b' := by
  obtain ⟨kvs, hd, hl, r⟩ := T.is
  exact ⟨kvs, hd, Nat.le_trans hl h, r⟩
theorem TabR.empty (hd : o.IsDictOf (strKind prog w) []) : TabR prog w P o (fun _ => none) b := ⟨[], hd, Nat.zero_le _, fun _ _ e => (nomatch e), fun _ _ => rfl⟩
end
section
variable {prog : Program} {w : World} {A : Around} {E : Value → Shared → Prop} {s : Shared} {h₀ : Heap} {L d : Addr} {m : Str → Option Value} {news : List (Addr × Obj)} {g : Obj → List (Addr × Obj)} {o : Obj}
  {α : Type} {P : α → Value → Prop} {f : Str → Option α} {fi : Str → Option Int} {b : Nat} {k : Str} {t : Tok}
theorem d_method {name : Str} {id : String} {pl : Sem Bool} {Q : Value × List Value → Shared → Prop} (slot : Slot "dict" name id) (ty : typeOf (.builtin id) = pure (.type "method_descriptor")) (N : News h₀ L s.heap news) (hp : (d, o) ∈ news) (T : TabR prog w P o f b) (h : Q (.builtin id, [.ref d]) s) :
    wpAny (model prog w) A (getMethod (.ref d) name pl) Q E s :=
  let ⟨_, hd, _⟩ := T.is
  kob_method slot ty N hp hd h
theorem d_get {dflt : Value} {Q : Value → Shared → Prop} (N : News h₀ L s.heap news) (hp : (d, o) ∈ news) (T : TabR prog w P o f b) (lo : (d == sysModules) = false)
    (hn : f k = none → Q dflt { s with toks := s.toks + 1 }) (hs : ∀ x v, f k = some x → P x v → Q v { s with toks := s.toks + 1 }) :
    wpAny (model prog w) A (call (.builtin "dict.get") [.ref d, .str k t, dflt]) Q E s := by
  obtain ⟨kvs, hd, hl, h1, h2⟩ := T.is
  cases e : f k with
  | none => exact kdg_get2 N hp hd lo (strKind_is _ _ _ _) none (h2 k e) (hn e)
  | some x =>
    obtain ⟨v, hv, hP⟩ := h1 k x e
    exact kdg_get2 N hp hd lo (strKind_is _ _ _ _) (some v) hv (hs x v e hP)
theorem d_getI {z : Int} {tz : Tok} {Q : Value → Shared → Prop} (N : News h₀ L s.heap news) (hp : (d, o) ∈ news) (T : TabR prog w PI o fi b) (lo : (d == sysModules) = false)
    (h : ∀ t', Q (.int ((fi k).getD z) t') { s with toks := s.toks + 1 }) :
    wpAny (model prog w) A (call (.builtin "dict.get") [.ref d, .str k t, .int z tz]) Q E s :=
  d_get N hp T lo (fun e => by have := h tz; rw [e] at this; exact this) fun x v e ⟨t', hv⟩ => by
    subst hv; have := h t'; rw [e] at this; exact this
theorem d_pop {dflt : Value} {Q : Value → Shared → Prop} (F : Fr h₀ L s.heap m) (N : News h₀ L s.heap news) (U : UpdF d o news g) (T : TabR prog w P o f b) (lo : (d == sysModules) = false) (hb : b ≤ 1000)
    (h : ∀ h' o' v, Fr h₀ L h' m → News h₀ L h' (g o') → TabR prog w P o' (upd f k none) b → Q v { s with heap := h', toks := s.toks + 1 }) :
    wpAny (model prog w) A (call (.builtin "dict.pop") [.ref d, .str k t, dflt]) Q E s := by
  obtain ⟨kvs, hd, hl, h1, h2⟩ := T.is
  have tab : ∀ o', o'.IsDictOf (strKind prog w) (without kvs k) → TabR prog w P o' (upd f k none) b := fun o' hd' => ⟨without kvs k, hd', Nat.le_trans (without_length ..) hl, fun y x e => by
      unfold upd at e
      split at e
      · cases e
      · rename_i q
        obtain ⟨v, a, c⟩ := h1 y x e
        exact ⟨v, by rw [valueAt_without, if_neg q, a], c⟩, fun y e => by
      rw [valueAt_without]
      unfold upd at e
      split
      · rfl
      · rename_i q; rw [if_neg q] at e; exact h2 y e⟩
  cases e : valueAt kvs k with
  | some v => exact kob_pop F N U hd (strKind_is _ _ _ _) (.inr ⟨_, rfl⟩) rfl (PySem.F.args_dict_pop_3 _ _ _) e (by rw [sizeLine_eq]; omega) fun h' o' F' N' hd' => h h' o' v F' N' (tab o' hd')
  | none =>
    obtain ⟨own, rest, rfl, hg, a, c⟩ := U.split
    have hm := N (d, o) (List.mem_append_right _ (.head _))
    have hD : s.heap.DictOf (strKind prog w) d kvs := Heap.dictOf_iff.mpr ⟨o, hm.1, hd⟩
    have z := h s.heap o dflt F (hg o ▸ N) (tab o (by
      have : without kvs k = kvs := without_of_not_mem _ _ fun hk => by
        obtain ⟨p, hp, rfl⟩ := List.mem_map.mp hk
        have : kvs.any (fun kv => kv.1 = p.1) = true := List.any_eq_true.mpr ⟨p, hp, by simp⟩
        rw [valueAt_any, e] at this; cases this
      rw [this]; exact hd))
    exact call_meetsIn PySem.F.slot_dict_pop hD.typeIs PySem.F.entry_dict_pop (PySem.F.args_dict_pop_3 _ _ _) (meets_dict_pop_default _ d (strKind_is _ _ _ _) lo rfl dflt) ⟨kvs, hD, e, z⟩
theorem tab_stored {o' : Obj} {kvs : List (Str × Value)} {v : Value} {x : α} (hd' : o'.IsDictOf (strKind prog w) (stored kvs k v)) (hl : kvs.length ≤ b) (h1 : ∀ k x, f k = some x → ∃ v, valueAt kvs k = some v ∧ P x v) (h2 : ∀ k, f k = none → valueAt kvs k = none) (hP : P x v) :
    TabR prog w P o' (upd f k (some x)) (b + 1) := ⟨stored kvs k v, hd', by have := stored_length kvs k v; omega, fun y z e => by
      rw [valueAt_stored]
      unfold upd at e
      split at e
      · rename_i q; cases e; rw [if_pos q]; exact ⟨v, rfl, hP⟩
      · rename_i q; rw [if_neg q]; exact h1 y z e, fun y e => by
      rw [valueAt_stored]
      unfold upd at e
      split at e
      · cases e
      · rename_i q; rw [if_neg q]; exact h2 y e⟩
theorem d_set {v : Value} (x : α) {Q : Unit → Shared → Prop} (F : Fr h₀ L s.heap m) (N : News h₀ L s.heap news) (U : UpdF d o news g) (T : TabR prog w P o f b) (hb : b ≤ 1000) (hP : P x v)
    (h : ∀ h' o', Fr h₀ L h' m → News h₀ L h' (g o') → TabR prog w P o' (upd f k (some x)) (b + 1) → Q () { s with heap := h', toks := s.toks + 1 }) :
    wpAny (model prog w) A (setItem (.ref d) (.str k t) v) Q E s := by
  obtain ⟨kvs, hd, hl, h1, h2⟩ := T.is
  exact kda_set F N U hd (strKind_is _ _ _ _) (by rw [sizeLine_eq]; omega) fun h' o' F' N' hd' => h h' o' F' N' (tab_stored hd' hl h1 h2 hP)
theorem d_item {value slice : PySem.Expr} {x : α} {Q : Value → Shared → Prop} (N : News h₀ L s.heap news) (hp : (d, o) ∈ news) (T : TabR prog w P o f b) (e : f k = some x)
    (h : ∀ v, P x v → Q v { s with toks := s.toks + 1 })
    (hs : subscripted slice false (.ref d) (.str k t) = operate [.ref d, .str k t] (getItem (.ref d) (.str k t)) := by with_unfolding_all rfl) (hg : ∀ r, letTemporaryGo value (.ref d) r = pure () := by intro _; with_unfolding_all rfl) :
    wpAny (model prog w) A (subscriptTail value slice (.ref d) (.str k t)) Q E s := by
  obtain ⟨kvs, hd, hl, h1, h2⟩ := T.is
  obtain ⟨v, hv, hP⟩ := h1 k x e
  exact kda_item N hp hd (strKind_is _ _ _ _) hv (h v hP) hs hg
theorem d_setdefault {dflt : Value} (x : α) {Q : Value → Shared → Prop} (F : Fr h₀ L s.heap m) (N : News h₀ L s.heap news) (U : UpdF d o news g) (T : TabR prog w P o f b) (lo : (d == sysModules) = false) (hb : b ≤ 1000) (hP : P x dflt)
    (h : ∀ h' o' v, Fr h₀ L h' m → News h₀ L h' (g o') → TabR prog w P o' (upd f k (some ((f k).getD x))) (b + 1) → Q v { s with heap := h', toks := s.toks + 1 }) :
    wpAny (model prog w) A (call (.builtin "dict.setdefault") [.ref d, .str k t, dflt]) Q E s := by
  obtain ⟨kvs, hd, hl, h1, h2⟩ := T.is
  obtain ⟨own, rest, rfl, hg, a, c⟩ := U.split
  have hm := N (d, o) (List.mem_append_right _ (.head _))
  cases e : f k with
  | some y =>
    obtain ⟨v, hv, hP'⟩ := h1 k y e
    have eq : upd f k (some ((f k).getD x)) = f := by
      funext z
      unfold upd
      split
      · rename_i q; subst q; rw [e]; rfl
      · rfl
    refine kob_setdef_there N (List.mem_append_right _ (.head _)) hd lo (strKind_is _ _ _ _) (PySem.F.args_dict_setdefault_3 _ _ _) hv (by rw [sizeLine_eq]; omega) ?_
    exact h s.heap o v F (hg o ▸ N) (by rw [eq]; exact ⟨kvs, hd, by omega, h1, h2⟩)
  | none =>
    refine kob_setdef_new F N U hd lo (strKind_is _ _ _ _) (PySem.F.args_dict_setdefault_3 _ _ _) (h2 k e) (by rw [sizeLine_eq]; omega) fun h' o' F' N' hd' => h h' o' _ F' N' ?_
    rw [e]
    exact tab_stored hd' hl h1 h2 hP
theorem d_len {Q : Value → Shared → Prop} (N : News h₀ L s.heap news) (hp : (d, o) ∈ news) (T : TabR prog w P o f b) (lo : (d == sysModules) = false) (hb : b ≤ 1000)
    (h : ∀ n t tk', Q (.int n t) { s with toks := tk' }) : wpAny (model prog w) A (call (.builtin "len") [.ref d]) Q E s := by
  obtain ⟨kvs, hd, hl, h1, h2⟩ := T.is
  exact kda_len N hp hd lo (by omega) (h _ _ _)
theorem d_clear {Q : Value → Shared → Prop} (F : Fr h₀ L s.heap m) (N : News h₀ L s.heap news) (U : UpdF d o news g) (T : TabR prog w P o f b) (hb : b ≤ 1000)
    (h : ∀ h' o', Fr h₀ L h' m → News h₀ L h' (g o') → TabR prog w P o' (fun _ => none) b → Q .none { s with heap := h' }) :
    wpAny (model prog w) A (call (.builtin "dict.clear") [.ref d]) Q E s := by
  obtain ⟨kvs, hd, hl, h1, h2⟩ := T.is
  obtain ⟨pre, post, rfl, hg, a, c⟩ := U.split
  exact call_clear_madeIn (enc := PyData.str) (hsz := by rw [sizeLine_eq]; omega) F N a c hd fun h' o' F' N' x _ => h h' o' F' (hg o' ▸ N') (TabR.empty x)
end
end
section
-- Base3
structure CX where
  w : World
  p : Program
  loose : List Str
  mean : ExcName → Option Value
  mg : Str → Option Value
  mb : Str → Option Value
abbrev Led := List (Addr × Obj)
def Ct (n : Nat) (x : CX) (f : Addr) (args : List Value) (kw : List (Str × Value)) (need : Led) (post : Value → Led → Prop) : Prop :=
  Ctr n PySem.Challenge.rw_jj0018_01.row.prog x.w (Mine.hd.heap_1 x.w.params) x.p x.loose x.mean x.mg x.mb f ⟨args, kw⟩ need post
/-- the places of the store and of its clock; numbers that nobody asks for: hashes, tokens, counts -/
structure Cf where
  st : Addr
  dst : Addr
  d1 : Addr
  d2 : Addr
  d3 : Addr
  ln : Addr
  fc : Addr
  cc : Addr
  cn : Addr
  ff : FuncData
  oc : Obj
  on : Obj
  e : Nat → Int
  t : Nat → Tok
  n : Nat → Nat
abbrev Cf.fo (c : Cf) : Obj := { cls := .type "function", data := .func c.ff }
abbrev stoDict (c : Cf) : Obj :=
  dictOf [⟨c.e 0, .str (Str.ofString "clock") (c.t 0), .ref c.fc⟩, ⟨c.e 1, .str (Str.ofString "storage") (c.t 1), .ref c.d1⟩, ⟨c.e 2, .str (Str.ofString "expirations") (c.t 2), .ref c.d2⟩, ⟨c.e 3, .str (Str.ofString "events") (c.t 3), .ref c.d3⟩] (c.n 0)
abbrev tupO (vs : Array Value) : Obj := { cls := .type "tuple", data := .seq vs }
/-- the store's state -/
structure St where
  cnt : Str → Option Int
  ex : Str → Option Int
  ev : Str → Option (List Int)
  now : Int
/-- an entry of a moving window -/
def EntryAt (rest : Led) (t : Int) (v : Value) : Prop :=
  ∃ e de h1 h2 t1 t2 t3 t4 n x, v = .ref e ∧ (e, instObj 551 de) ∈ rest ∧ (de, dictOf [⟨h1, .str (Str.ofString "atime") t1, .int t t2⟩, ⟨h2, .str (Str.ofString "expiry") t3, .int x t4⟩] n) ∈ rest
inductive Rows (rest : Led) : List Int → List Value → Prop
  | nil : Rows rest [] []
  | cons {t : Int} {v : Value} {ts : List Int} {vs : List Value} : EntryAt rest t v → Rows rest ts vs → Rows rest (t :: ts) (v :: vs)
def PE (rest : Led) (ts : List Int) (v : Value) : Prop := ∃ a vs n, v = .ref a ∧ (a, W.listOf vs.toArray n) ∈ rest ∧ Rows rest ts vs ∧ ts.length ≤ 1000
theorem EntryAt.mono {rest rest' : Led} {t : Int} {v : Value} (h : EntryAt rest t v) (hs : ∀ p ∈ rest, p ∈ rest') : EntryAt rest' t v := by
  obtain ⟨e, de, h1, h2, t1, t2, t3, t4, n, x, a, b, c⟩ := h
  exact ⟨e, de, h1, h2, t1, t2, t3, t4, n, x, a, hs _ b, hs _ c⟩
theorem Rows.mono {rest rest' : Led} {ts : List Int} {vs : List Value} (h : Rows rest ts vs) (hs : ∀ p ∈ rest, p ∈ rest') : Rows rest' ts vs := by
  induction h with
  | nil => exact .nil
  | cons a _ ih => exact .cons (a.mono hs) ih
theorem PE.mono {rest rest' : Led} {ts : List Int} {v : Value} (h : PE rest ts v) (hs : ∀ p ∈ rest, p ∈ rest') : PE rest' ts v := by
  obtain ⟨a, vs, n, e, hm, r, l⟩ := h
  exact ⟨a, vs, n, e, hs _ hm, r.mono hs, l⟩
/-- the ledger's head: what turns -/
abbrev DL (c : Cf) (o1 o2 o3 o4 o5 : Obj) (rest : Led) : Led := (c.d1, o1) :: (c.d2, o2) :: (c.d3, o3) :: (c.ln, o4) :: (623, o5) :: rest
/-- the clock keeps its word -/
def ClkOk (x : CX) (c : Cf) : Prop := ∀ (L : Led) (now : Int) (t : Tok) (n : Nat), (c.fc, c.fo) ∈ L → (c.cc, c.oc) ∈ L → (c.cn, c.on) ∈ L → (c.ln, W.listOf #[.int now t] n) ∈ L →
  Ct 1 x c.fc [] [] L fun v L' => L' = L ∧ ∃ t, v = .int now t
structure Fix (x : CX) (c : Cf) (rest : Led) : Prop where
  st : (c.st, instObj 674 c.dst) ∈ rest
  dst : (c.dst, stoDict c) ∈ rest
  fc : (c.fc, c.fo) ∈ rest
  cc : (c.cc, c.oc) ∈ rest
  cn : (c.cn, c.on) ∈ rest
  a1 : ∀ p ∈ rest, p.1 ≠ c.d1
  a2 : ∀ p ∈ rest, p.1 ≠ c.d2
  a3 : ∀ p ∈ rest, p.1 ≠ c.d3
  a4 : ∀ p ∈ rest, p.1 ≠ c.ln
  a5 : ∀ p ∈ rest, p.1 ≠ 623
structure Fixed (x : CX) (c : Cf) : Prop where
  lo1 : (c.d1 == sysModules) = false
  lo2 : (c.d2 == sysModules) = false
  lo3 : (c.d3 == sysModules) = false
  n12 : c.d1 ≠ c.d2
  n13 : c.d1 ≠ c.d3
  n14 : c.d1 ≠ c.ln
  n15 : c.d1 ≠ 623
  n23 : c.d2 ≠ c.d3
  n24 : c.d2 ≠ c.ln
  n25 : c.d2 ≠ 623
  n34 : c.d3 ≠ c.ln
  n35 : c.d3 ≠ 623
  n45 : c.ln ≠ 623
  clk : ClkOk x c
/-- the table of the lambda's code: still empty, or filled once -/
inductive TabOk (x : CX) (rest : Led) : Obj → Prop
  | none : TabOk x rest (tabObj #[])
  | some {c' : Addr} {oc : Obj} {vs : Array Value} {t : Tok} : (c', oc) ∈ rest → oc.data = .fields vs → vs[1]? = some (.str (Str.ofString "MemoryStorage.get_moving_window.<locals>.<lambda>") t) → TabOk x rest (tabObj #[rawInt 488, rawInt 68, .ref c'])
theorem TabOk.mono {x : CX} {rest rest' : Led} {o : Obj} (h : TabOk x rest o) (hs : ∀ p ∈ rest, p ∈ rest') : TabOk x rest' o := by
  cases h with
  | none => exact .none
  | some a b c => exact .some (hs _ a) b c
theorem TabOk.push {x : CX} {rest : Led} {q : Addr × Obj} {o : Obj} (h : TabOk x rest o) : TabOk x (q :: rest) o := h.mono fun _ hp => .tail _ hp
abbrev PGM : Program := PySem.Challenge.rw_jj0018_01.row.prog
inductive StR (x : CX) (c : Cf) (σ : St) (b : Nat) : Led → Led → Prop
  | mk {o1 o2 o3 o5 : Obj} {t : Tok} {n : Nat} {rest : Led} : TabR PySem.Challenge.rw_jj0018_01.row.prog x.w PI o1 σ.cnt b → TabR PySem.Challenge.rw_jj0018_01.row.prog x.w PI o2 σ.ex b → TabR PySem.Challenge.rw_jj0018_01.row.prog x.w (PE rest) o3 σ.ev b → TabOk x rest o5 → Fix x c rest →
      StR x c σ b (DL c o1 o2 o3 (W.listOf #[.int σ.now t] n) o5 rest) rest
theorem StR.le {x : CX} {c : Cf} {σ : St} {b b' : Nat} {L rest : Led} (h : StR x c σ b L rest) (hb : b ≤ b') : StR x c σ b' L rest := by
  cases h with
  | mk a1 a2 a3 a4 a5 => exact .mk (a1.le hb) (a2.le hb) (a3.le hb) a4 a5
/-- behind a call that gives a value and leaves the store's state -/
theorem after_s {Q : Value → Shared → Prop} {s : Shared} {h₀ : Heap} {L : Addr} {m : Str → Option Value} {x : CX} {c : Cf} {σ : St} {b : Nat} {rest : Led} {w : Value}
    (k : ∀ h' tk' o1 o2 o3 o5 t n, Fr h₀ L h' m → News h₀ L h' (DL c o1 o2 o3 (W.listOf #[.int σ.now t] n) o5 rest) →
      TabR PySem.Challenge.rw_jj0018_01.row.prog x.w PI o1 σ.cnt b → TabR PySem.Challenge.rw_jj0018_01.row.prog x.w PI o2 σ.ex b → TabR PySem.Challenge.rw_jj0018_01.row.prog x.w (PE rest) o3 σ.ev b → TabOk x rest o5 → Fix x c rest → Q w { s with heap := h', toks := tk' }) :
    ∀ v h' tk' news', Fr h₀ L h' m → News h₀ L h' news' → (v = w ∧ StR x c σ b news' rest) → Q v { s with heap := h', toks := tk' } := by
  rintro v h' tk' _ F N ⟨rfl, S⟩
  cases S with
  | mk a1 a2 a3 a4 a5 => exact k h' tk' _ _ _ _ _ _ F N a1 a2 a3 a4 a5
/-- the store's state opened -/
@[elab_as_elim] theorem open_s {x : CX} {c : Cf} {σ : St} {b : Nat} {L rest : Led} {G : Led → Prop} (S : StR x c σ b L rest)
    (k : ∀ o1 o2 o3 o5 t n, TabR PySem.Challenge.rw_jj0018_01.row.prog x.w PI o1 σ.cnt b → TabR PySem.Challenge.rw_jj0018_01.row.prog x.w PI o2 σ.ex b → TabR PySem.Challenge.rw_jj0018_01.row.prog x.w (PE rest) o3 σ.ev b → TabOk x rest o5 → Fix x c rest →
      G (DL c o1 o2 o3 (W.listOf #[.int σ.now t] n) o5 rest)) : G L := by
  cases S with
  | mk a1 a2 a3 a4 a5 => exact k _ _ _ _ _ _ a1 a2 a3 a4 a5
end
section
-- Spec
theorem upd_at {α : Type} (f : Str → Option α) (k : Str) (x : Option α) : upd f k x k = x := if_pos rfl
/-! what the store's methods do -/
def getS (σ : St) (k : Str) : St := if (σ.ex k).getD 0 ≤ σ.now then { σ with cnt := upd σ.cnt k none, ex := upd σ.ex k none } else σ
def getV (σ : St) (k : Str) : Int := ((getS σ k).cnt k).getD 0
theorem getS_now (σ : St) (k : Str) : (getS σ k).now = σ.now := by unfold getS; split <;> rfl
def incrV (σ : St) (k : Str) (amount : Int) : Int := getV σ k + amount
def incrS (σ : St) (k : Str) (expiry amount : Int) : St :=
  { getS σ k with cnt := upd (getS σ k).cnt k (some (incrV σ k amount)), ex := if incrV σ k amount = amount then upd (getS σ k).ex k (some ((getS σ k).now + expiry)) else (getS σ k).ex }
theorem incrS_pos {σ : St} {k : Str} {expiry amount : Int} (h : incrV σ k amount = amount) :
    incrS σ k expiry amount = ⟨upd (getS σ k).cnt k (some (incrV σ k amount)), upd (getS σ k).ex k (some ((getS σ k).now + expiry)), (getS σ k).ev, (getS σ k).now⟩ := by
  unfold incrS; rw [if_pos h]
theorem incrS_neg {σ : St} {k : Str} {expiry amount : Int} (h : incrV σ k amount ≠ amount) :
    incrS σ k expiry amount = ⟨upd (getS σ k).cnt k (some (incrV σ k amount)), (getS σ k).ex, (getS σ k).ev, (getS σ k).now⟩ := by
  unfold incrS; rw [if_neg h]
def clearS (σ : St) (k : Str) : St := { σ with cnt := upd σ.cnt k none, ex := upd σ.ex k none, ev := upd σ.ev k none }
def resetS (σ : St) : St := { σ with cnt := fun _ => none, ex := fun _ => none, ev := fun _ => none }
def expV (σ : St) (k : Str) : Int := (σ.ex k).getD σ.now
theorem ClkOk.use {x : CX} {c : Cf} (h : ClkOk x c) {L : Led} {now : Int} {t : Tok} {n : Nat} (m1 : (c.fc, c.fo) ∈ L) (m2 : (c.cc, c.oc) ∈ L) (m3 : (c.cn, c.on) ∈ L) (m4 : (c.ln, W.listOf #[.int now t] n) ∈ L) :
    Ct 1 x c.fc [] [] L fun v L' => L' = L ∧ ∃ t, v = .int now t := h L now t n m1 m2 m3 m4
theorem StR.of {x : CX} {c : Cf} {b : Nat} {cnt ex : Str → Option Int} {ev : Str → Option (List Int)} {now : Int} {o1 o2 o3 o5 : Obj} {t : Tok} {n : Nat} {rest : Led}
    (T1 : TabR PySem.Challenge.rw_jj0018_01.row.prog x.w PI o1 cnt b) (T2 : TabR PySem.Challenge.rw_jj0018_01.row.prog x.w PI o2 ex b) (T3 : TabR PySem.Challenge.rw_jj0018_01.row.prog x.w (PE rest) o3 ev b) (T4 : TabOk x rest o5) (T5 : Fix x c rest) :
    StR x c ⟨cnt, ex, ev, now⟩ b ((c.d1, o1) :: (c.d2, o2) :: (c.d3, o3) :: (c.ln, W.listOf #[.int now t] n) :: (623, o5) :: rest) rest := .mk T1 T2 T3 T4 T5
theorem d_setI {prog : Program} {w : World} {A : Around} {E : Value → Shared → Prop} {s : Shared} {h₀ : Heap} {L d : Addr} {m : Str → Option Value} {news : List (Addr × Obj)} {g : Obj → List (Addr × Obj)} {o : Obj} {f : Str → Option Int} {b : Nat} {k : Str} {t ti : Tok} {i : Int}
    {Q : Unit → Shared → Prop} (F : Fr h₀ L s.heap m) (N : News h₀ L s.heap news) (U : UpdF d o news g) (T : TabR prog w PI o f b) (hb : b ≤ 1000)
    (h : ∀ h' o', Fr h₀ L h' m → News h₀ L h' (g o') → TabR prog w PI o' (upd f k (some i)) (b + 1) → Q () { s with heap := h', toks := s.toks + 1 }) :
    wpAny (model prog w) A (setItem (.ref d) (.str k t) (.int i ti)) Q E s := d_set i F N U T hb ⟨_, rfl⟩ h
theorem EndC.mk2 {g h' : Heap} {s : Shared} {post : Value → List (Addr × Obj) → Prop} {v : Value} {L : Addr} {m : Str → Option Value} {news news' : List (Addr × Obj)} {tk : Tok} (F : Fr g L h' m) (N : News g L h' news) (hs : ∀ p ∈ news', p ∈ news) (hp : post v news') :
    EndC g s post v { s with heap := h', toks := tk } := EndC.mk F (N.perm hs) hp
/-- the name of a sliding window's count -/
def skey (key : Str) (i : Int) : Str := Str.empty ++ key ++ Str.ofString "/" ++ Str.ofString (toString i)
theorem Fix.push {x : CX} {c : Cf} {rest : Led} {D : Addr} {o : Obj} (T : Fix x c rest) (h1 : c.d1 < D) (h2 : c.d2 < D) (h3 : c.d3 < D) (h4 : c.ln < D) (h5 : 623 < D) : Fix x c ((D, o) :: rest) :=
  ⟨.tail _ T.st, .tail _ T.dst, .tail _ T.fc, .tail _ T.cc, .tail _ T.cn,
   fun p hp => (List.mem_cons.mp hp).elim (fun e => by subst e; exact Nat.ne_of_gt h1) (T.a1 p),
   fun p hp => (List.mem_cons.mp hp).elim (fun e => by subst e; exact Nat.ne_of_gt h2) (T.a2 p),
   fun p hp => (List.mem_cons.mp hp).elim (fun e => by subst e; exact Nat.ne_of_gt h3) (T.a3 p),
   fun p hp => (List.mem_cons.mp hp).elim (fun e => by subst e; exact Nat.ne_of_gt h4) (T.a4 p),
   fun p hp => (List.mem_cons.mp hp).elim (fun e => by subst e; exact Nat.ne_of_gt h5) (T.a5 p)⟩
theorem tab_up {prog : Program} {w : World} {o : Obj} {ev : Str → Option (List Int)} {b : Nat} {rest : Led} {q : Addr × Obj} (T : TabR prog w (PE rest) o ev b) : TabR prog w (PE (q :: rest)) o ev b :=
  T.mono fun _ _ h => h.mono fun _ hp => .tail _ hp
/-- the four numbers of a sliding window -/
def infoT (σ : St) (pk : Str) (now : Int) : Int := if getV σ pk = 0 then 0 else 10 - (now - 10).fmod 10
def infoC (now : Int) : Int := 10 - now.fmod 10 + 10
def get2S (σ : St) (pk ck : Str) : St := getS (getS σ pk) ck
theorem EndC.tup {g h' : Heap} {s : Shared} {post : Value → List (Addr × Obj) → Prop} {v : Value} {L D : Addr} {o : Obj} {m : Str → Option Value} {tk t : Tok} {n : Nat} {x : CX} {c : Cf} {σ : St} {b : Nat} {o1 o2 o3 o5 : Obj} {rest : Led}
    (F : Fr g L h' m) (N : News g L h' ((D, o) :: DL c o1 o2 o3 (W.listOf #[.int σ.now t] n) o5 rest))
    (l : c.d1 < D ∧ c.d2 < D ∧ c.d3 < D ∧ c.ln < D ∧ 623 < D ∧ AllLt D rest)
    (T1 : TabR PySem.Challenge.rw_jj0018_01.row.prog x.w PI o1 σ.cnt b) (T2 : TabR PySem.Challenge.rw_jj0018_01.row.prog x.w PI o2 σ.ex b) (T3 : TabR PySem.Challenge.rw_jj0018_01.row.prog x.w (PE rest) o3 σ.ev b) (T4 : TabOk x rest o5) (T5 : Fix x c rest)
    (hp : ∀ L', StR x c σ b L' ((D, o) :: rest) → post v L') : EndC g s post v { s with heap := h', toks := tk } := by
  refine EndC.mk2 (news' := DL c o1 o2 o3 (W.listOf #[.int σ.now t] n) o5 ((D, o) :: rest)) F N (fun p hp => ?_) (hp _ (.mk T1 T2 (tab_up T3) T4.push (T5.push l.1 l.2.1 l.2.2.1 l.2.2.2.1 l.2.2.2.2.1)))
  simp only [List.mem_cons] at hp ⊢
  rcases hp with h | h | h | h | h | h | h
  · exact .inr (.inl h)
  · exact .inr (.inr (.inl h))
  · exact .inr (.inr (.inr (.inl h)))
  · exact .inr (.inr (.inr (.inr (.inl h))))
  · exact .inr (.inr (.inr (.inr (.inr (.inl h)))))
  · exact .inl h
  · exact .inr (.inr (.inr (.inr (.inr (.inr h)))))
theorem drop_N {x : CX} {c : Cf} {rest : Led} {h₀ h : Heap} {L : Addr} {news : Led} {o1 o2 o3 o4 o5 : Obj} {P : Prop} (_ : Fix x c rest) (N : News h₀ L h news) (hs : ∀ p ∈ DL c o1 o2 o3 o4 o5 rest, p ∈ news) (k : News h₀ L h (DL c o1 o2 o3 o4 o5 rest) → P) : P := k (N.perm hs)
end
section
-- Spec2
def pKey (σ : St) (key : Str) : Str := skey key ((σ.now - 10).fdiv 10)
def cKey (σ : St) (key : Str) : Str := skey key (σ.now.fdiv 10)
theorem getV_eq (τ : St) (k : Str) : getV τ k = if (τ.ex k).getD 0 ≤ τ.now then 0 else (τ.cnt k).getD 0 := by
  by_cases q : (τ.ex k).getD 0 ≤ τ.now <;> simp [getV, getS, q, upd_at]
theorem getV_getS {σ : St} {k : Str} (h : 0 ≤ σ.now) : getV (getS σ k) k = getV σ k := by
  by_cases q : (σ.ex k).getD 0 ≤ σ.now <;> simp [getV_eq, getS, q, upd_at, h]
/-- the weighted count of a sliding window -/
def wtd (σ : St) (key : Str) : Int := (getV σ (pKey σ key) * infoT σ (pKey σ key) σ.now).fdiv 10 + getV (getS σ (pKey σ key)) (cKey σ key)
def infS (σ : St) (key : Str) : St := get2S σ (pKey σ key) (cKey σ key)
def acqSB (σ : St) (key : Str) (limit amount : Int) : Bool := !decide (amount > limit) && !decide (wtd σ key + amount > limit)
def acqSS (σ : St) (key : Str) (limit amount : Int) : St := if amount > limit then σ else if wtd σ key + amount > limit then infS σ key else incrS (infS σ key) (cKey σ key) (2 * 10) amount
theorem infoT_le (σ : St) (pk : Str) (now : Int) : 0 ≤ infoT σ pk now ∧ infoT σ pk now ≤ 10 := by
  unfold infoT
  have h1 := Int.fmod_eq_emod_of_nonneg (now - 10) (b := 10) (by decide)
  split <;> omega
section
variable {σ : St} {key : Str} {limit amount : Int}
theorem acqSB_1 (h : limit < amount) : acqSB σ key limit amount = false := by simp [acqSB, h]
theorem acqSS_1 (h : limit < amount) : acqSS σ key limit amount = σ := by simp [acqSS, h]
theorem acqSB_2 (_ : ¬ limit < amount) (h2 : limit < wtd σ key + amount) : acqSB σ key limit amount = false := by simp [acqSB, h2]
theorem acqSS_2 (h1 : ¬ limit < amount) (h2 : limit < wtd σ key + amount) : acqSS σ key limit amount = infS σ key := by simp [acqSS, h1, h2]
theorem acqSB_3 (h1 : ¬ limit < amount) (h2 : ¬ limit < wtd σ key + amount) : acqSB σ key limit amount = true := by simp [acqSB, h1, h2]
theorem acqSS_3 (h1 : ¬ limit < amount) (h2 : ¬ limit < wtd σ key + amount) : acqSS σ key limit amount = incrS (infS σ key) (cKey σ key) (2 * 10) amount := by simp [acqSS, h1, h2]
end
end
section
-- Mw
def Stop (P : Prop) : Prop := P
theorem Stop.out {P : Prop} (h : Stop P) : P := h
def evL (σ : St) (key : Str) : List Int := (σ.ev key).getD []
def acqMB (σ : St) (key : Str) (limit amount : Int) : Bool := !decide (limit < amount) && (match (evL σ key)[(limit - amount).toNat]? with | some t => !decide (σ.now - 10 ≤ t) | none => true)
def acqMS (σ : St) (key : Str) (limit amount : Int) : St := if limit < amount then σ else if acqMB σ key limit amount then { σ with ev := upd σ.ev key (some (List.replicate amount.toNat σ.now ++ evL σ key)) } else { σ with ev := upd σ.ev key (some (evL σ key)) }
theorem Rows.length {rest : Led} {ts : List Int} {vs : List Value} (h : Rows rest ts vs) : vs.length = ts.length := by
  induction h with
  | nil => rfl
  | cons _ _ ih => rw [List.length_cons, List.length_cons, ih]
theorem Rows.get {rest : Led} {ts : List Int} {vs : List Value} (h : Rows rest ts vs) : ∀ {i : Nat} {t : Int}, ts[i]? = some t → ∃ v, vs[i]? = some v ∧ EntryAt rest t v := by
  induction h with
  | nil => intro i t e; simp at e
  | cons a _ ih =>
    intro i t e
    cases i with
    | zero => simp at e; subst e; exact ⟨_, rfl, a⟩
    | succ i => simp at e; obtain ⟨v, hv, he⟩ := ih e; exact ⟨v, by simpa using hv, he⟩
theorem Rows.append {rest : Led} {ts ts' : List Int} {vs vs' : List Value} (h : Rows rest ts vs) (h' : Rows rest ts' vs') : Rows rest (ts ++ ts') (vs ++ vs') := by
  induction h with
  | nil => exact h'
  | cons a _ ih => exact .cons a ih
theorem Rows.rep {rest : Led} {t : Int} {v : Value} (a : EntryAt rest t v) : ∀ n, Rows rest (List.replicate n t) (List.replicate n v)
  | 0 => .nil
  | n + 1 => .cons a (Rows.rep a n)
section
variable {prog : Program} {w : World} {A : Around} {E : Value → Shared → Prop} {s : Shared} {h₀ : Heap} {L d a : Addr} {m : Str → Option Value} {news : List (Addr × Obj)} {g : Obj → List (Addr × Obj)} {o : Obj}
  {f : Str → Option (List Int)} {b : Nat} {k : Str} {t : Tok} {rest : Led}
theorem d_setdefE {Q : Value → Shared → Prop} (F : Fr h₀ L s.heap m) (N : News h₀ L s.heap news) (U : UpdF d o news g) (T : TabR prog w (PE rest) o f b) (lo : (d == sysModules) = false) (hb : b ≤ 1000)
    (h : ∀ h' o' v, Fr h₀ L h' m → News h₀ L h' (g o') → TabR prog w (PE ((a, W.listOf #[] 0) :: rest)) o' (upd f k (some ((f k).getD []))) (b + 1) → Q v { s with heap := h', toks := s.toks + 1 }) :
    wpAny (model prog w) A (call (.builtin "dict.setdefault") [.ref d, .str k t, .ref a]) Q E s :=
  d_setdefault [] F N U (tab_up T) lo hb ⟨a, [], 0, rfl, .head _, .nil, Nat.zero_le _⟩ h
theorem d_itemE {value slice : PySem.Expr} {x : List Int} {Q : Value → Shared → Prop} (N : News h₀ L s.heap news) (hp : (d, o) ∈ news) (T : TabR prog w (PE rest) o f b) (e : f k = some x) (sub : ∀ p ∈ rest, p ∈ news)
    (h : ∀ a vs n, (a, W.listOf (List.toArray vs) n) ∈ news → Rows rest x vs → x.length ≤ 1000 → Q (.ref a) { s with toks := s.toks + 1 })
    (hs : subscripted slice false (.ref d) (.str k t) = operate [.ref d, .str k t] (getItem (.ref d) (.str k t)) := by with_unfolding_all rfl) (hg : ∀ r, letTemporaryGo value (.ref d) r = pure () := by intro _; with_unfolding_all rfl) :
    wpAny (model prog w) A (subscriptTail value slice (.ref d) (.str k t)) Q E s :=
  d_item N hp T e (fun v ⟨a, vs, n, e, hm, hR, hl⟩ => by subst e; exact h a vs n (sub _ hm) hR hl) hs hg
theorem item_in {value slice : PySem.Expr} {i : Int} {x : List Int} {y : Int} {vs : List Value} {n : Nat} {Q : Value → Shared → Prop} (N : News h₀ L s.heap news) (hm : (a, W.listOf (List.toArray vs) n) ∈ news) (R : Rows rest x vs) (sub : ∀ p ∈ rest, p ∈ news)
    (h0 : 0 ≤ i) (h1 : i < 2 ^ 63) (hx : x[i.toNat]? = some y)
    (h : ∀ e de h1 h2 t1 t2 t3 t4 n x, (e, instObj 551 de) ∈ news → (de, dictOf [⟨h1, .str (Str.ofString "atime") t1, .int y t2⟩, ⟨h2, .str (Str.ofString "expiry") t3, .int x t4⟩] n) ∈ news → Q (.ref e) s)
    (hs : subscripted slice false (.ref a) (.int i t) = operate [.ref a, .int i t] (getItem (.ref a) (.int i t)) := by with_unfolding_all rfl) :
    wpAny (model prog w) A (subscriptTail value slice (.ref a) (.int i t)) Q E s := by
  have hl := N.isList hm
  obtain ⟨v, hv, e, de, q1, q2, t1, t2, t3, t4, n', x', ev, m1, m2⟩ := R.get hx
  subst ev
  exact tail_any hl.typeIs slot_list_getitem.lookup (wpAny_getItem_list hl h0 h1 (by simpa using hv) (h _ _ _ _ _ _ _ _ _ _ (sub _ m1) (sub _ m2))) hs
theorem item_out {value slice : PySem.Expr} {i : Int} {x : List Int} {vs : List Value} {n : Nat} {Q : Value → Shared → Prop} (hA : A.handled = none) (N : News h₀ L s.heap news) (hm : (a, W.listOf (List.toArray vs) n) ∈ news) (R : Rows rest x vs)
    (h0 : 0 ≤ i) (h1 : i < 2 ^ 63) (hx : x[i.toNat]? = none) (hE : ∀ h' tk e, Heap.NewExc s.heap h' e "IndexError" → E (.ref e) { s with heap := h', toks := tk })
    (hs : subscripted slice false (.ref a) (.int i t) = operate [.ref a, .int i t] (getItem (.ref a) (.int i t)) := by with_unfolding_all rfl) :
    wpAny (model prog w) A (subscriptTail value slice (.ref a) (.int i t)) Q E s := by
  have hl := N.isList hm
  have := List.getElem?_eq_none_iff.mp hx
  have := R.length
  exact tail_any hl.typeIs slot_list_getitem.lookup (wpAny_getItem_list_out hA hl (.inr (by simp; omega)) (by omega) h1 hE) hs
theorem foldl_rep (v : Value) : ∀ (k : Nat) (z : Array Value), List.foldl (fun x1 x2 => x1 ++ x2) z (List.replicate k #[v]) = z ++ (List.replicate k v).toArray
  | 0, z => by simp
  | k + 1, z => by
    rw [List.replicate_succ, List.foldl_cons, foldl_rep v k, List.replicate_succ]
    apply Array.ext'
    simp
theorem mul_one {l : Addr} {v : Value} {n : Nat} {i : Int} {Q : Value → Shared → Prop} (F : Fr h₀ L s.heap m) (N : News h₀ L s.heap news) (hm : (l, W.listOf #[v] n) ∈ news) (h1 : 1 ≤ i) (h2 : i ≤ 1000)
    (h : ∀ a h', Fr h₀ L h' m → News h₀ L h' ((a, W.listOf (List.replicate i.toNat v).toArray 0) :: news) → (∀ p ∈ news, p.1 < a) → Q (.ref a) { s with heap := h' }) :
    wpAny (model prog w) A (binaryOp .Mult (.ref l) (.int i t)) Q E s := by
  refine mul_list F N (N _ hm).1 (by omega) (by omega) (by simp; omega) fun h' F' N' => ?_
  rw [foldl_rep] at N'
  exact h _ h' F' (by simpa [W.listOf] using N') fun p hp => Heap.lt_size (N p hp).1
theorem upd_upd {α : Type} (f : Str → Option α) (k : Str) (x y : Option α) : upd (upd f k x) k y = upd f k y := by
  funext z; unfold upd; split <;> rfl
theorem add_two {l b : Addr} {v : Value} {j : Nat} {ws : List Value} {ts : List Int} {n n2 : Nat} {Q : Value → Shared → Prop} (F : Fr h₀ L s.heap m) (N : News h₀ L s.heap news) (hl : (l, W.listOf (List.replicate j v).toArray n) ∈ news) (hb : (b, W.listOf ws.toArray n2) ∈ news) (R : Rows rest ts ws) (hj : j ≤ 1000) (ht : ts.length ≤ 1000)
    (h : ∀ a h', Fr h₀ L h' m → News h₀ L h' ((a, W.listOf (List.replicate j v ++ ws).toArray 0) :: news) → (∀ p ∈ news, p.1 < a) → Q (.ref a) { s with heap := h' }) :
    wpAny (model prog w) A (binaryOp .Add (.ref l) (.ref b)) Q E s :=
  add_lists (hsz := by rw [sizeLine_eq, List.length_replicate, R.length]; omega) F N (N.isList hl) (N.isList hb) fun h' F' N' => h _ h' F' N' fun p hp => Heap.lt_size (N p hp).1
theorem d_setA {c : Cf} {o1 o2 o4 o5 : Obj} {q2 q3 q6 : Addr × Obj} {rest : Led} {D de : Addr} {at_ : Int} {y : Option (List Int)} {ts : List Int} {ws : List Value} {j n1 : Nat} {h1 h2 x : Int} {t1 t2 t3 t4 : Tok}
    {Q : Unit → Shared → Prop} (F : Fr h₀ L s.heap m) (N : News h₀ L s.heap news) (U : UpdF c.d3 o news g)
    (hn : news = (a, W.listOf (List.replicate j (Value.ref D) ++ ws).toArray 0) :: q2 :: q3 :: (D, instObj 551 de) :: (de, dictOf [⟨h1, .str (Str.ofString "atime") t1, .int at_ t2⟩, ⟨h2, .str (Str.ofString "expiry") t3, .int x t4⟩] n1) :: q6 :: DL c o1 o2 o o4 o5 rest)
    (T : TabR prog w (PE (q6 :: rest)) o (upd f k y) b) (hb : b ≤ 1000) (R : Rows (q6 :: rest) ts ws) (hj : j + ts.length ≤ 1000)
    (h : ∀ h' o', Fr h₀ L h' m → News h₀ L h' (g o') → TabR prog w (PE ((a, W.listOf (List.replicate j (Value.ref D) ++ ws).toArray 0) :: q2 :: q3 :: (D, instObj 551 de) :: (de, dictOf [⟨h1, .str (Str.ofString "atime") t1, .int at_ t2⟩, ⟨h2, .str (Str.ofString "expiry") t3, .int x t4⟩] n1) :: q6 :: rest)) o' (upd f k (some (List.replicate j at_ ++ ts))) (b + 1) → Q () { s with heap := h', toks := s.toks + 1 }) :
    wpAny (model prog w) A (setItem (.ref c.d3) (.str k t) (.ref a)) Q E s := by
  refine d_set (P := PE ((a, W.listOf (List.replicate j (Value.ref D) ++ ws).toArray 0) :: q2 :: q3 :: (D, instObj 551 de) :: (de, dictOf [⟨h1, .str (Str.ofString "atime") t1, .int at_ t2⟩, ⟨h2, .str (Str.ofString "expiry") t3, .int x t4⟩] n1) :: q6 :: rest)) (List.replicate j at_ ++ ts) F N U
    (T.mono fun _ _ hp => hp.mono fun p hp => .tail _ (.tail _ (.tail _ (.tail _ (.tail _ hp))))) hb ⟨a, _, 0, rfl, .head _, ?_, by rw [List.length_append, List.length_replicate]; exact hj⟩ fun h' o' F' N' T' => h h' o' F' N' (by rw [upd_upd] at T'; exact T')
  exact (Rows.rep ⟨D, de, h1, h2, t1, t2, t3, t4, n1, x, rfl, .tail _ (.tail _ (.tail _ (.head _))), .tail _ (.tail _ (.tail _ (.tail _ (.head _))))⟩ j).append (R.mono fun p hp => .tail _ (.tail _ (.tail _ (.tail _ (.tail _ hp)))))
end
section
variable {σ : St} {key : Str} {limit amount y : Int}
theorem acqMB_1 (h : limit < amount) : acqMB σ key limit amount = false := by simp [acqMB, h]
theorem acqMS_1 (h : limit < amount) : acqMS σ key limit amount = σ := by simp [acqMS, h]
theorem acqMB_2 (hx : ((σ.ev key).getD [])[(limit - amount).toNat]? = some y) (h2 : σ.now - 10 ≤ y) : acqMB σ key limit amount = false := by
  unfold acqMB evL; rw [hx]; simp [h2]
theorem acqMS_2 (h : ¬ limit < amount) (hx : ((σ.ev key).getD [])[(limit - amount).toNat]? = some y) (h2 : σ.now - 10 ≤ y) : acqMS σ key limit amount = { σ with ev := upd σ.ev key (some ((σ.ev key).getD [])) } := by
  unfold acqMS; rw [if_neg h, acqMB_2 hx h2]; rfl
theorem acqMB_3 (h : ¬ limit < amount) (hx : ((σ.ev key).getD [])[(limit - amount).toNat]? = some y) (h2 : ¬ σ.now - 10 ≤ y) : acqMB σ key limit amount = true := by
  unfold acqMB evL; rw [hx]; simp [h2]; omega
theorem acqMS_3 (h : ¬ limit < amount) (hx : ((σ.ev key).getD [])[(limit - amount).toNat]? = some y) (h2 : ¬ σ.now - 10 ≤ y) : acqMS σ key limit amount = { σ with ev := upd σ.ev key (some (List.replicate amount.toNat σ.now ++ (σ.ev key).getD [])) } := by
  unfold acqMS; rw [if_neg h, acqMB_3 h hx h2]; rfl
theorem acqMB_4 (h : ¬ limit < amount) (hx : ((σ.ev key).getD [])[(limit - amount).toNat]? = none) : acqMB σ key limit amount = true := by
  unfold acqMB evL; rw [hx]; simp; omega
theorem acqMS_4 (h : ¬ limit < amount) (hx : ((σ.ev key).getD [])[(limit - amount).toNat]? = none) : acqMS σ key limit amount = { σ with ev := upd σ.ev key (some (List.replicate amount.toNat σ.now ++ (σ.ev key).getD [])) } := by
  unfold acqMS; rw [if_neg h, acqMB_4 h hx]; rfl
end
section
variable {c : Cf} {o1 o2 o3 o4 o5 : Obj} {q1 q2 q3 q4 q5 q6 q7 q8 q9 : Addr × Obj} {rest : Led}
theorem sub1 : ∀ p ∈ DL c o1 o2 o3 o4 o5 (q1 :: rest), p ∈ q1 :: DL c o1 o2 o3 o4 o5 rest := by
  intro p hp
  simp only [List.mem_cons] at hp ⊢
  rcases hp with h | h | h | h | h | h | h <;> simp [h]
theorem sub2 : ∀ p ∈ DL c o1 o2 o3 o4 o5 (q1 :: q2 :: rest), p ∈ q1 :: q2 :: DL c o1 o2 o3 o4 o5 rest := by
  intro p hp
  simp only [List.mem_cons] at hp ⊢
  rcases hp with h | h | h | h | h | h | h | h <;> simp [h]
theorem sub3 : ∀ p ∈ DL c o1 o2 o3 o4 o5 (q1 :: q2 :: q3 :: rest), p ∈ q1 :: q2 :: q3 :: DL c o1 o2 o3 o4 o5 rest := by
  intro p hp
  simp only [List.mem_cons] at hp ⊢
  rcases hp with h | h | h | h | h | h | h | h | h <;> simp [h]
theorem sub4 : ∀ p ∈ DL c o1 o2 o3 o4 o5 (q1 :: q2 :: q3 :: q4 :: rest), p ∈ q1 :: q2 :: q3 :: q4 :: DL c o1 o2 o3 o4 o5 rest := by
  intro p hp
  simp only [List.mem_cons] at hp ⊢
  rcases hp with h | h | h | h | h | h | h | h | h | h <;> simp [h]
theorem sub5 : ∀ p ∈ DL c o1 o2 o3 o4 o5 (q1 :: q2 :: q3 :: q4 :: q5 :: rest), p ∈ q1 :: q2 :: q3 :: q4 :: q5 :: DL c o1 o2 o3 o4 o5 rest := by
  intro p hp
  simp only [List.mem_cons] at hp ⊢
  rcases hp with h | h | h | h | h | h | h | h | h | h | h <;> simp [h]
theorem sub6 : ∀ p ∈ DL c o1 o2 o3 o4 o5 (q1 :: q2 :: q3 :: q4 :: q5 :: q6 :: rest), p ∈ q1 :: q2 :: q3 :: q4 :: q5 :: q6 :: DL c o1 o2 o3 o4 o5 rest := by
  intro p hp
  simp only [List.mem_cons] at hp ⊢
  rcases hp with h | h | h | h | h | h | h | h | h | h | h | h <;> simp [h]
theorem sub7 : ∀ p ∈ DL c o1 o2 o3 o4 o5 (q1 :: q2 :: q3 :: q4 :: q5 :: q6 :: q7 :: rest), p ∈ q1 :: q2 :: q3 :: q4 :: q5 :: q6 :: q7 :: DL c o1 o2 o3 o4 o5 rest := by
  intro p hp
  simp only [List.mem_cons] at hp ⊢
  rcases hp with h | h | h | h | h | h | h | h | h | h | h | h | h <;> simp [h]
theorem sub8 : ∀ p ∈ DL c o1 o2 o3 o4 o5 (q1 :: q2 :: q3 :: q4 :: q5 :: q6 :: q7 :: q8 :: rest), p ∈ q1 :: q2 :: q3 :: q4 :: q5 :: q6 :: q7 :: q8 :: DL c o1 o2 o3 o4 o5 rest := by
  intro p hp
  simp only [List.mem_cons] at hp ⊢
  rcases hp with h | h | h | h | h | h | h | h | h | h | h | h | h | h <;> simp [h]
theorem sub9 : ∀ p ∈ DL c o1 o2 o3 o4 o5 (q1 :: q2 :: q3 :: q4 :: q5 :: q6 :: q7 :: q8 :: q9 :: rest), p ∈ q1 :: q2 :: q3 :: q4 :: q5 :: q6 :: q7 :: q8 :: q9 :: DL c o1 o2 o3 o4 o5 rest := by
  intro p hp
  simp only [List.mem_cons] at hp ⊢
  rcases hp with h | h | h | h | h | h | h | h | h | h | h | h | h | h | h <;> simp [h]
end
end
section
-- Bis
section
variable {n : Nat} {prog : Program} {w : World} {K : Frag} {p : Program} {loose : List Str} {mean : ExcName → Option Value} {mg mb : Str → Option Value} {f : Addr} {args : Args} {need : List (Addr × Obj)} {post : Value → List (Addr × Obj) → Prop}
/-- the contract of a lambda that stands in the ledger -/
theorem ctr_enterL {name qual : Str} {params : Arguments} {body : PySem.Expr} {scope : Scope} {cl : List (Str × Addr)} {pm ctv : Value} {c' : Addr} {oc : Obj} {vs : Array Value} {t : Tok} {binds : List (Str × Value)} {mm : Str → Option Value}
    (ho : (f, kla_obj name qual params body scope cl pm c' ctv) ∈ need) (hcd : (c', oc) ∈ need) (hd : oc.data = .fields vs) (hv : vs[1]? = some (.str qual t))
    (hbind : bindArgs (kla_fn name qual params body scope cl pm (.ref c') ctv) args = pure binds) (hloc : ∀ y ∈ binds, scope.names.lookup y.1 = some .local)
    (hmm : (fun y => binds.reverse.lookup y) = mm)
    (h : ∀ (dp un : Nat) (gd : Option (List Code)) (outer : List Env) (base g : Heap) (s : Shared) (L' : Addr),
      Below (topA dp un gd outer) base outer g → K.In g → Top p loose mean mg mb g → Fr g L' s.heap mm → News g L' s.heap need → dp + 3 * n < recursionLimit → un + 40 * n < cLine →
      wpAny (model prog w) ((topA dp un gd outer).deeper (envX qual scope L' f (.ref c') cl)) (eval body (envX qual scope L' f (.ref c') cl))
        (fun v s' => EndC g s post v s')
        (fun _ _ => False) s)
    (hco : scope.isCoroutine = false) (hgen : scope.isGenerator = false) (hk : scope.kind = .function) (hcell : ∀ x ∈ scope.names, x.2 ≠ .cell) (hn : 0 < n) :
    Ctr n prog w K p loose mean mg mb f args need post := by
  intro dp un gd outer base s R B X T N0 hd' hu k
  refine kla_callFunE (by show dp < _; omega) (N0 _ ho) rfl hco hgen rfl ⟨c', oc, vs, t, rfl, N0 _ hcd, hd, hv⟩ ?_
  rw [hbind]
  refine wpAny_pure (wpAny_newFunctionEnv hcell hloc (fun h₁ hns hsb => ⟨(T.nolimit.keeps fun b o e => of_hideAll _ e).fresh _ hsb, ?_⟩) hk)
  show codeAny _ _ (.expr body (envX qual scope s.heap.objs.size f (.ref c') cl)) _ _
  have hk₁ : ∀ b o, s.heap.get? b = some o → h₁.get? b = some o := fun b o e => hsb.extBut b o (Nat.ne_of_lt (Heap.lt_size e)) (Heap.get?_push_of_some _ e)
  refine kla_codeExpr (wpAny_mono (h dp un gd outer base _ { s with heap := h₁, toks := s.toks + binds.length } s.heap.objs.size B X T (hmm ▸ ⟨hns, fun b o e => hk₁ b o (of_hideAll _ e), Nat.le_of_eq (hideAll_size _ _)⟩)
    (fun q hq => ⟨hk₁ _ _ (N0 q hq), Nat.ne_of_lt (Heap.lt_size (N0 q hq)), hideAll_none _ (List.mem_map_of_mem hq)⟩) hd' hu) (fun v s' hl => ?_) fun _ _ y => y.elim)
  obtain ⟨h', tk', L'', m', news', rfl, F', N', hp⟩ := hl
  exact k _ h' tk' L'' m' news' F' N' hp
end
section
variable {prog : Program} {w : World} {A : Around} {E : Value → Shared → Prop} {s : Shared} {h₀ : Heap} {L a : Addr} {m : Str → Option Value} {news : List (Addr × Obj)} {t : Tok} {rest : Led}
theorem len_rows {ts : List Int} {vs : List Value} {n : Nat} {Q : Value → Shared → Prop} (N : News h₀ L s.heap news) (hm : (a, W.listOf (List.toArray vs) n) ∈ news) (R : Rows rest ts vs) (hl : ts.length ≤ 1000) (h : ∀ tk' t, Q (.int ts.length t) { s with toks := tk' }) :
    wpAny (model prog w) A (call (.builtin "len") [.ref a]) Q E s := by
  have e := R.length
  refine call_len_list (N.isList hm) (by simp; omega) ?_
  have := h (s.toks + 1 + 1) (s.toks + 1)
  rw [← e] at this
  simpa using this
/-- an item in the middle: whose place lies within, and what the place says -/
theorem item_mid {value slice : PySem.Expr} {i x : Int} {j : Nat} {ts : List Int} {vs : List Value} {n : Nat} {Q : Value → Shared → Prop} (N : News h₀ L s.heap news) (hm : (a, W.listOf (List.toArray vs) n) ∈ news) (R : Rows rest ts vs) (hl : ts.length ≤ 1000)
    (hmid : ∀ (i : Nat) t, ts[i]? = some t → (-t < x ↔ i < j)) (h0 : 0 ≤ i) (h1 : i < ts.length)
    (h : ∀ e y, EntryAt rest y (.ref e) → (-y < x ↔ i.toNat < j) → Q (.ref e) s)
    (hs : subscripted slice false (.ref a) (.int i t) = operate [.ref a, .int i t] (getItem (.ref a) (.int i t)) := by with_unfolding_all rfl) :
    wpAny (model prog w) A (subscriptTail value slice (.ref a) (.int i t)) Q E s := by
  have hL := N.isList hm
  obtain ⟨y, hy⟩ : ∃ y, ts[i.toNat]? = some y := ⟨_, List.getElem?_eq_getElem (by omega)⟩
  obtain ⟨v, hv, e, de, r⟩ := R.get hy
  obtain ⟨q1, q2, t1, t2, t3, t4, n', x', ev, m1, m2⟩ := r
  subst ev
  exact tail_any hL.typeIs slot_list_getitem.lookup (wpAny_getItem_list hL h0 (by omega) (by simpa using hv) (h e y ⟨e, de, q1, q2, t1, t2, t3, t4, n', x', rfl, m1, m2⟩ (hmid _ _ hy))) hs
end
/-- what a row's key says, by contract -/
def KeyOk (x : CX) (L : Led) (fn : Addr) : Prop := ∀ (e : Addr) (y : Int), EntryAt L y (.ref e) → Ct 1 x fn [.ref e] [] L fun v L' => L' = L ∧ ∃ t, v = .int (-y) t
theorem KeyOk.use {x : CX} {L : Led} {fn e : Addr} {y : Int} (h : KeyOk x L fn) (q : EntryAt L y (.ref e)) : Ct 1 x fn [.ref e] [] L fun v L' => L' = L ∧ ∃ t, v = .int (-y) t := h e y q
section
variable {prog : Program} {w : World} {A : Around} {E : Value → Shared → Prop} {s : Shared} {h₀ : Heap} {L d a : Addr} {m : Str → Option Value} {news : List (Addr × Obj)} {t : Tok} {rest : Led} {o : Obj} {f : Str → Option (List Int)} {b : Nat} {k : Str}
theorem d_getE0 {n : Nat} {Q : Value → Shared → Prop} (N : News h₀ L s.heap news) (hp : (d, o) ∈ news) (T : TabR prog w (PE rest) o f b) (lo : (d == sysModules) = false) (e : (f k).getD [] = []) (sub : ∀ p ∈ rest, p ∈ news) (ha : (a, W.listOf #[] n) ∈ news)
    (h : ∀ a' n', (a', W.listOf #[] n') ∈ news → Q (.ref a') { s with toks := s.toks + 1 }) :
    wpAny (model prog w) A (call (.builtin "dict.get") [.ref d, .str k t, .ref a]) Q E s :=
  d_get N hp T lo (fun _ => h a n ha) fun x v e' ⟨a', vs, n', ev, hm, R, _⟩ => by
    subst ev
    rw [e'] at e
    cases e
    cases R
    exact h a' n' (sub _ hm)
theorem d_getE1 {ts : List Int} {dflt : Value} {Q : Value → Shared → Prop} (N : News h₀ L s.heap news) (hp : (d, o) ∈ news) (T : TabR prog w (PE rest) o f b) (lo : (d == sysModules) = false) (e : f k = some ts)
    (h : ∀ a' vs n', (a', W.listOf (List.toArray vs) n') ∈ rest → Rows rest ts vs → ts.length ≤ 1000 → Q (.ref a') { s with toks := s.toks + 1 }) :
    wpAny (model prog w) A (call (.builtin "dict.get") [.ref d, .str k t, dflt]) Q E s :=
  d_get N hp T lo (fun e' => by rw [e] at e'; cases e') fun x v e' ⟨a', vs, n', ev, hm, R, hl⟩ => by
    subst ev
    rw [e] at e'
    cases e'
    exact h a' vs n' hm R hl
theorem truthy_no {n : Nat} {Q : Bool → Shared → Prop} (N : News h₀ L s.heap news) (hm : (a, W.listOf #[] n) ∈ news) (h : ∀ tk', Q false { s with toks := tk' }) : wpAny (model prog w) A (truthy (.ref a)) Q E s :=
  wpAny_truthy_list (items := #[]) (N.isList hm) (by decide) (h _)
theorem truthy_yes {ts : List Int} {vs : List Value} {n : Nat} {Q : Bool → Shared → Prop} (N : News h₀ L s.heap news) (hm : (a, W.listOf vs.toArray n) ∈ news) (R : Rows rest ts vs) (hl : ts.length ≤ 1000) (h0 : 0 < ts.length) (h : ∀ tk', Q true { s with toks := tk' }) : wpAny (model prog w) A (truthy (.ref a)) Q E s := by
  have e := R.length
  refine wpAny_truthy_list (N.isList hm) (by simp; omega) ?_
  have q : (!vs.toArray.isEmpty) = true := by
    cases vs with
    | nil => simp at e; omega
    | cons _ _ => simp
  first | (rw [q]; exact h _) | (simp only [q]; exact h _)
end
theorem tabOk_some' {x : CX} {rest : Led} {o : Obj} {c' : Addr} {oc : Obj} {vs : Array Value} {t : Tok} {q : Str} (a : (c', oc) ∈ rest) (b : oc.data = .fields vs) (c : vs[1]? = some (.str q t)) (d : q = Str.ofString "MemoryStorage.get_moving_window.<locals>.<lambda>") (e : o = tabObj #[rawInt 488, rawInt 68, .ref c']) : TabOk x rest o := by
  subst e; rw [d] at c; exact .some a b c
end
section
open Builtin Builtin.ObjectAttr
-- Tup
set_option maxHeartbeats 400000
section
variable {prog : Program} {w : World} {A : Around} {E : Value → Shared → Prop} {s : Shared} {K : Frag} {x C : Addr} {ox : Obj} {od : Option Obj} {name : Str} {expr : Bool} {Q : Value → Shared → Prop}
theorem ga_ne : (Value.builtin "tuple.__getattribute__" == Value.builtin "object.__getattribute__") = false := beq_eq_false_iff_ne.mpr fun h => absurd (Value.builtin.inj h) (by decide +kernel)
theorem tga_kind : builtinKind "tuple.__getattribute__" = some .slot := by decide +kernel
theorem tga_split : splitId "tuple.__getattribute__" = some ("tuple", "__getattribute__") := by decide +kernel
theorem tga_args (x y : Value) : slotArgs "__getattribute__" 1 ⟨[x, y], []⟩ = pure (x, [y]) := by kernel_rfl
theorem get_tup {g : Addr} {a : Value} (X : K.In s.heap) (I : PySem.W.InstAt s.heap x ox C od) (hga : findIn K (.ref C) "__getattribute__" = some (some (.builtin "tuple.__getattribute__")))
    (hk : findIn K (.ref C) "__getattr__" = some none) (hf : findObj K C od name = some (.bind (.ref g) a)) (hi : subIn K (.ref C) (.type "tuple") = some true)
    (h : wpAny (model prog w) A.in1 (call (.ref g) [a, .ref x, .ref C]) (fun v s' => wpAny (model prog w) A (handedOut v) Q E s') (fun _ _ => False) { s with toks := s.toks + 1 }) :
    wpAny (model prog w) A (getAttr (.ref x) name expr) Q E s := by
  obtain ⟨hh, gg, d, t, os⟩ := s
  have L0 := I.type (M := model prog w)
  have L1 := looks_findIn (M := model prog w) X hga
  have L2 := looks_findIn (M := model prog w) X hk
  have L3 := looks_find (M := model prog w) X I hf
  have L4 : Looks (model prog w) hh (isInstance (.ref x) (.type "tuple")) true := L0.andThen (looks_subIn X hi)
  unfold getAttr getAttrBy
  refine wpAny_bind (wpAny_mkText (wpAny_holding (wpAny_bind (L0.at (wpAny_bind (L1.at ?_))))))
  dsimp only
  simp only [ga_ne, Bool.and_false, Bool.false_eq_true, if_false]
  unfold getAttrByItsOwn hookBefore callGetattribute boundAndCalled
  refine wpAny_bind ?_
  rw [if_pos (show onTheHeap (.ref C) = true from rfl)]
  refine L2.at ?_
  refine wpAny_bind (wpAny_attempt (wpAny_holding ?_))
  rw [show onTheHeap (Value.builtin "tuple.__getattribute__") = false from rfl]
  simp only [Bool.and_false, Bool.false_eq_true, if_false]
  rw [PySem.F.slot_tuple_getattribute.bind (.ref x)]
  refine wpAny_bind (wpAny_pure ?_)
  refine wpAny_call (codeAny_call_builtin PySem.F.slot_tuple_getattribute.plain PySem.F.entry_tuple_ga (@check_slot (model prog w) _ _ _ "tuple.__getattribute__" "tuple" "__getattribute__" (.ref x) [.str name t] [] _ tga_kind tga_split L4 (PySem.F.args_tuple_getattribute_2 _ _) ?_))
  show wpAny _ _ (Builtin.«object.__getattribute__» ⟨[.ref x, .str name t], []⟩) _ _ _
  unfold Builtin.«object.__getattribute__»
  rw [tga_args]
  refine wpAny_bind (wpAny_pure ?_)
  dsimp only
  rw [show attrName (.str name t) = pure name from rfl]
  refine wpAny_bind (wpAny_pure ?_)
  refine wpAny_bind (L0.at (wpAny_bind (L3.at ?_)))
  show wpAny _ _ (holding [a] (call (.ref g) [a, .ref x, .ref C]) >>= ret) _ _ _
  exact wpAny_bind (wpAny_holding (wpAny_mono h (fun v s' z => wpAny_pure z) fun _ _ z => z.elim))
end
open PySem.Calls
section
variable {prog : Program} {w : World} {A : Around} {E : Value → Shared → Prop} {s : Shared} {K : Frag} {C : Addr} {Q : Value → Shared → Prop}
theorem issub_meets (ht : isClsIn K C = true) (hi : subIn K (.ref C) (.type "tuple") = some true) :
    Meets (Builtin.«issubclass» ⟨[.ref C, .type "tuple"], []⟩) (fun _ R s => K.In s.heap ∧ R (.ok (.ret (.bool true))) s) := by
  intro prog w A R s hs
  obtain ⟨X, h⟩ := hs
  obtain ⟨hh, gg, d, t, os⟩ := s
  have L1 := looks_subIn (M := model prog w) X hi
  have L2 : Looks (model prog w) hh (typeOf (.type "tuple")) (.type "type") := Looks.of_pure (by kernel_rfl)
  have L3 : Looks (model prog w) hh (isType (.type "tuple")) true := Looks.of_pure (by kernel_rfl)
  have hC : ∃ oc od cd sl, hh.get? C = some ⟨oc, od, .cls cd, sl⟩ := by
    unfold isClsIn clsIn at ht
    split at ht
    · rename_i e; exact ⟨_, _, _, _, X _ _ e⟩
    · cases ht
  obtain ⟨oc, od, cd, sl, hC⟩ := hC
  refine issubclass_outer ?_
  unfold Builtin.«issubclass.nested»
  repeat lk
  exact h
theorem issub_tup (X : K.In s.heap) (ht : isClsIn K C = true) (hi : subIn K (.ref C) (.type "tuple") = some true) (h : Q (.bool true) s) :
    wpAny (model prog w) A (call (.builtin "issubclass") [.ref C, .type "tuple"]) Q E s :=
  call_issubclass (issub_meets ht hi) ⟨X, h⟩
end
open PySem.Calls
section
variable {prog : Program} {w : World} {A : Around} {E : Value → Shared → Prop} {s : Shared} {K : Frag} {C x : Addr} {ox : Obj} {od : Option Obj} {Q : Value → Shared → Prop} {xs : Array Value} {n : Nat} {v : Value} {t : Tok} {od' : Option Addr} {sl : Array (Option Value)}
theorem tgi_kind : builtinKind "tuple.__getitem__" = some .slot := by decide +kernel
theorem tgi_split : splitId "tuple.__getitem__" = some ("tuple", "__getitem__") := by decide +kernel
theorem tgi_meets (l : Addr) (c : Value) (dd : Option Addr) (sl : Array (Option Value)) (items : Array Value) (n : Nat) (i : Int) (u : Tok) (k : Nat) (y : Value) (hlo : -2 ^ 63 ≤ i) (hhi : i < 2 ^ 63) (hk : seqIndex? i items.size = some k) (hy : items[k]? = some y) :
    Meets (Builtin.«tuple.__getitem__» ⟨[.ref l, .int i u], []⟩) (fun _ R s => s.heap.get? l = some ⟨c, dd, .seq items n, sl⟩ ∧ R (.ok (.ret y)) s) :=
  .of_wp fun prog w A R s h => by
    obtain ⟨hp, g, d, tk, os⟩ := s
    obtain ⟨hl, h⟩ := h
    have f1 := AutoSeq1.idx_int
    have hf : ¬ (decide (i < -2 ^ 63) || decide (i ≥ 2 ^ 63)) = true := by simp; omega
    wp_walk using wpAny_loadPart' hl
    simp only [hk, hy, Option.bind_some]
    refine wpAny_ite_false (by simp; omega) ?_
    wp_walk
    exact ⟨_, rfl, h⟩
theorem tup_item {k : Nat} (X : K.In s.heap) (I : PySem.W.InstAt s.heap x ⟨.ref C, od', .seq xs n, sl⟩ C od) (hi : subIn K (.ref C) (.type "tuple") = some true) (hk : xs[k]? = some v) (h2 : k < 1000) (h : Q v s) :
    wpAny (model prog w) A (call (.builtin "tuple.__getitem__") [.ref x, .int (k : Int) t]) Q E s := by
  have L0 := I.type (M := model prog w)
  have L4 : Looks (model prog w) s.heap (isInstance (.ref x) (.type "tuple")) true := L0.andThen (looks_subIn X hi)
  have hlt : k < xs.size := by
    rcases Nat.lt_or_ge k xs.size with q | q
    · exact q
    · rw [Array.getElem?_eq_none q] at hk; cases hk
  have hs : seqIndex? (k : Int) xs.size = some k := by
    unfold seqIndex?
    simp
    omega
  refine wpAny_call (codeAny_call_builtin PySem.F.slot_tuple_getitem.plain PySem.F.entry_tuple_getitem (@check_slot (model prog w) _ _ _ "tuple.__getitem__" "tuple" "__getitem__" (.ref x) [.int (k : Int) t] [] _ tgi_kind tgi_split L4 (PySem.F.args_tuple_getitem_2 _ _) ?_))
  exact tgi_meets x (.ref C) od' sl xs n k t k v (by omega) (by omega) hs hk prog w A (wants Q E) s ⟨I.at_, h⟩
end
theorem findObj_any {K : Frag} {C : Addr} {od : Option Obj} {name : Str} {a g : Value} (hc : isClsIn K C = true) (ha : findIn K (.ref C) name = some (some a)) (hg : specialIn K a "__get__" = some (some g)) (ht : takesIn K a = some true) : findObj K C od name = some (.bind g a) := by
  obtain ⟨cd, hc⟩ := Option.isSome_iff_exists.mp hc
  unfold findObj
  rw [hc, Option.bind_some, ha, Option.bind_some]
  simp [hg, ht]
end
section
open Builtin Builtin.ObjectAttr
-- Ws
abbrev tupInst (C dx : Addr) (xs : Array Value) : Obj := ⟨.ref C, some dx, .seq xs, #[]⟩
/-- a class that is a tuple's, with a `__new__` of its own -/
structure TMakes (M : Model) (h : Heap) (C : Addr) : Prop where
  obj : ∃ oc od cd sl, h.get? C = some ⟨oc, od, .cls cd, sl⟩ ∧ cd.mro.isEmpty = false ∧ cd.hasDel = false
  made : Looks M h (Bind.madeBy (.ref C)) none
  base : Looks M h (Bind.staticBase (.ref C)) (.type "tuple")
  here : Looks M h (Bind.madeHere "tuple.__new__" (.ref C)) ()
  self : Looks M h (isSubtype (.ref C) (.ref C)) true
  tup : Looks M h (isSubtype (.ref C) (.type "tuple")) true
  obj1 : Looks M h (isSubtype (.ref C) (.type "object")) true
  call : Looks M h (specialOf (.ref C) "__call__") (some (.builtin "type.__call__"))
  typ : Looks M h (isInstance (.ref C) (.type "type")) true
  init : Looks M h (typeLookup (.ref C) "__init__") (some (.builtin "object.__init__"))
def tmakesIn (K : Frag) (C : Addr) : Bool := match K.lookup C with
  | some ⟨_, _, .cls cd, sl⟩ => (sl.toList[4]?).join == some .none && !cd.hasDel && !cd.mro.isEmpty && cd.bases == [.type "tuple"] && cd.mro.contains (.ref C) && cd.mro.contains (.type "tuple") && cd.mro.contains (.type "object") && decide (2 ≤ cd.mro.length) &&
      specialIn K (.ref C) "__call__" == some (some (.builtin "type.__call__")) && instIn K (.ref C) (.type "type") == some true && findIn K (.ref C) "__init__" == some (some (.builtin "object.__init__"))
  | _ => false
theorem allLt_mem {d : Addr} : ∀ {l : List (Addr × Obj)}, AllLt d l → ∀ p ∈ l, p.1 < d
  | [], _, _, h => nomatch h
  | _ :: _, x, p, h => (List.mem_cons.mp h).elim (fun e => e ▸ x.1) (allLt_mem x.2 p)
theorem best_tuple : Builtin.Slots.bestBase [.type "tuple"] = pure (.type "tuple") := by kernel_rfl
theorem tmakes_of {K : Frag} {M : Model} {h : Heap} (X : K.In h) {C : Addr} (e : tmakesIn K C = true) : TMakes M h C := by
  unfold tmakesIn at e
  split at e
  · rename_i oc od cd sl ho
    simp only [Bool.and_eq_true, Bool.not_eq_true', beq_iff_eq, decide_eq_true_eq] at e
    obtain ⟨⟨⟨⟨⟨⟨⟨⟨⟨⟨e1, e2⟩, e3⟩, e4⟩, e5⟩, e6⟩, e7⟩, e8⟩, e9⟩, e10⟩, e11⟩ := e
    have hc : clsIn K C = some cd := by unfold clsIn; rw [ho]
    have hm : Looks M h (mroOf (.ref C)) cd.mro := (looks_clsIn X hc).andThen .now
    obtain ⟨c, c2, l, hl⟩ : ∃ c c2 l, cd.mro = c :: c2 :: l := by
      cases q : cd.mro with
      | nil => rw [q] at e8; simp at e8
      | cons c l => cases l with
        | nil => rw [q] at e8; simp at e8
        | cons c2 l => exact ⟨c, c2, l, rfl⟩
    have made : Looks M h (Bind.madeBy (.ref C)) none := by
      intro A Q E s k q
      unfold Bind.madeBy
      refine wpAny_bind (hm A _ E s k ?_)
      rw [hl, List.forIn_cons]
      refine wpAny_bind (wpAny_bind (wpAny_bind (wpAny_bind (wpAny_loadPart (k _ _ (X _ _ ho)) (wpAny_pure ?_)))))
      dsimp only
      rw [← Array.getElem?_toList, e1]
      exact wpAny_pure (wpAny_pure (wpAny_pure q))
    have madeT : Bind.madeBy (.type "tuple") = pure (some "tuple.__new__") := PySem.F.called_tuple.made
    have base : Looks M h (Bind.staticBase (.ref C)) (.type "tuple") := by
      intro A Q E s k q
      unfold Bind.staticBase
      refine wpAny_bind (hm A _ E s k ?_)
      rw [hl, List.forIn_cons]
      refine wpAny_bind (wpAny_bind (wpAny_bind (made A _ E s k ?_)))
      simp only [Option.isSome_none, Bool.false_eq_true, if_false]
      refine wpAny_bind ((looks_clsIn X hc) A _ E s k ?_)
      rw [e4, best_tuple]
      refine wpAny_bind (wpAny_pure (wpAny_pure ?_))
      dsimp only
      rw [List.forIn_cons]
      refine wpAny_bind (wpAny_bind ?_)
      rw [madeT]
      exact wpAny_pure (wpAny_pure (wpAny_pure (wpAny_pure q)))
    refine ⟨⟨oc, od, cd, sl, X _ _ ho, e3, e2⟩, made, base, ?_, looks_mroIn X ?_, looks_mroIn X ?_, looks_mroIn X ?_, looks_specialIn X e9, looks_instIn X e10, looks_findIn X e11⟩
    · exact base.andThen ((Looks.of_pure madeT).andThen (Looks.of_pure (by kernel_rfl)))
    · unfold mroIn; rw [hc, Option.bind_some, if_neg (by rw [e3]; decide), e5]
    · unfold mroIn; rw [hc, Option.bind_some, if_neg (by rw [e3]; decide), e6]
    · unfold mroIn; rw [hc, Option.bind_some, if_neg (by rw [e3]; decide), e7]
  · cases e
theorem oi_args3 (a b c : Value) : argsOk "object.__init__" ⟨[a, b, c], []⟩ := by unfold argsOk; kernel_rfl
theorem tmakes_of' {K : Frag} {M : Model} {h : Heap} (X : K.In h) {C : Addr} {oc : Value} {od : Option Addr} {cd : ClassData} {sl : Array (Option Value)} (ho : K.lookup C = some ⟨oc, od, .cls cd, sl⟩)
    (hr : ((sl.toList[4]?).join == some .none && !cd.hasDel && !cd.mro.isEmpty && cd.bases == [.type "tuple"] && cd.mro.contains (.ref C) && cd.mro.contains (.type "tuple") && cd.mro.contains (.type "object") && decide (2 ≤ cd.mro.length)) = true)
    (e9 : specialIn K (.ref C) "__call__" = some (some (.builtin "type.__call__"))) (e10 : instIn K (.ref C) (.type "type") = some true) (e11 : findIn K (.ref C) "__init__" = some (some (.builtin "object.__init__"))) : TMakes M h C := by
  refine tmakes_of X ?_
  unfold tmakesIn
  rw [ho]
  dsimp only
  rw [hr, e9, e10, e11]
  simp
section
variable {prog : Program} {w : World} {A : Around} {K : Frag} {C : Addr} {R : Result → Shared → Prop} {s : Shared}
theorem make_T {v1 v2 f : Value} (Y : TMakes (model prog w) s.heap C)
    (hg : ∀ (A' : Around) (Q : Value → Shared → Prop) (E : Value → Shared → Prop), Q f { s with toks := s.toks + 1 } → wpAny (model prog w) A' (getAttr (.ref C) "__new__") Q E s)
    (hq : codeAny (model prog w) (A.under (.builtin "type.__call__" ⟨.ref C :: [v1, v2], []⟩)) (.call f ⟨.ref C :: [v1, v2], []⟩) (fun r s' => ∃ x ox, r = .ok (.ret (.ref x)) ∧ TMakes (model prog w) s'.heap C ∧ s'.heap.get? x = some ox ∧ ox.cls = .ref C ∧ R r s') { s with toks := s.toks + 1 }) :
    codeAny (model prog w) A (.call (.ref C) ⟨[v1, v2], []⟩) R s := by
  obtain ⟨h, g, d, t, os⟩ := s
  have Y' := Y
  obtain ⟨⟨oc, od, cd, sl, hC, e4, e2⟩, made, base, here, self, tup, obj1, call, typ, init⟩ := Y
  refine codeAny_of_tree ?_
  show wpAny _ _ (callAny (.ref C) _) _ _ _
  refine nd_load hC ?_
  show wpAny _ _ (callAny.viaDunder (.ref C) _) _ _ _
  unfold callAny.viaDunder
  refine wpAny_bind (call.at ?_)
  dsimp only
  rw [tc_bind]
  refine wpAny_bind (wpAny_pure (wpAny_bind (wpAny_pure ?_)))
  refine wpAny_pure (a := Fin.again (.call (.builtin "type.__call__") ⟨.ref C :: [v1, v2], []⟩)) (And.intro rfl ?_)
  refine codeAny_call_builtin_at (Code.quiet_builtin _ (by decide +kernel)) entry_typeCall (check_slot tc_kind tc_split typ (tc_args _ _ _) ?_)
  unfold Builtin.«type.__call__»
  have hm : Looks (model prog w) h (mroOf (.ref C)) cd.mro := ((Looks.ld (part := none) hC).andThen .now).andThen .now
  repeat (first | simp only [e4, Bool.false_eq_true, if_false] | with_reducible refine hg _ _ _ ?_ | with_reducible refine wpAny_call ?_ | lk)
  refine codeAny_mono hq fun r s' z => ?_
  obtain ⟨x, ox, rfl, hk, hx, hcl, hR⟩ := z
  obtain ⟨_, made2, _, _, self2, _, obj2, _, _, init2⟩ := hk
  obtain ⟨h', g', d', t', os'⟩ := s'
  dsimp only at made2 self2 obj2 init2 hx hR ⊢
  have t1 : Looks (model prog w) h' (typeOf (.ref x)) (.ref C) := hcl ▸ (Looks.ld hx).andThen .now
  have s1 := self2
  have i1 := init2
  have m1 := made2
  have t2 : Looks (model prog w) h' (isInstance (.ref x) (.type "object")) true := t1.andThen obj2
  have b1 : Looks (model prog w) h' (bindSpecial (.builtin "object.__init__") (.ref x)) (.builtin "object.__init__", [.ref x]) := Looks.of_pure (oi_bind _)
  have ti : Looks (model prog w) h' (isInstance (.ref x) (.ref C)) true := t1.andThen s1
  have sp : Looks (model prog w) h' (specialOf (.ref x) "__init__") (some (.builtin "object.__init__")) := t1.andThen i1
  refine wpAny_bind (ti.at ?_)
  simp only [Bool.not_true, Bool.false_eq_true, if_false]
  refine wpAny_bind (wpAny_holding ?_)
  unfold callSpecial?
  refine wpAny_bind (sp.at ?_)
  dsimp only
  refine wpAny_holding (wpAny_bind (b1.at ?_))
  dsimp only
  refine wpAny_bind (wpAny_call (codeAny_call_builtin oi_plain entry_oi (@check_slot (model prog w) _ _ _ "object.__init__" "object" "__init__" (.ref x) [v1, v2] [] _ oi_kind oi_split t2 (oi_args3 (.ref x) v1 v2) ?_)))
  unfold Builtin.«object.__init__»
  dsimp only
  repeat (first | simp only [List.isEmpty_cons, Bool.not_false, Bool.true_or, if_true, bne_self_eq_false, Bool.false_eq_true, if_false] | lk)
  exact hR
theorem tn_kind : builtinKind "tuple.__new__" = some .builtinFn := by decide +kernel
theorem tn_split : splitId "tuple.__new__" = some ("tuple", "__new__") := by decide +kernel
theorem tn_args (a b : Value) : argsOk "tuple.__new__" ⟨[a, b], []⟩ := by unfold argsOk; kernel_rfl
theorem tn_quiet : "tuple.__new__".startsWith "lifetime." = false := by decide +kernel
theorem tn_made : Bind.madeBy (.type "tuple") = pure (some "tuple.__new__") := PySem.F.called_tuple.made
theorem new_T {t : Addr} {xs : Array Value} {n : Nat} (Y : TMakes (model prog w) s.heap C) (ht : s.heap.get? t = some { cls := .type "tuple", data := .seq xs n }) (hz : xs.size ≤ sizeLine)
    (hq : ∀ h' : Heap, (∀ b o, s.heap.get? b = some o → h'.get? b = some o) → R (.ok (.ret (.ref (h'.objs.size + 1)))) { s with heap := (h'.push emptyDict).push (tupInst C h'.objs.size xs) }) :
    codeAny (model prog w) A (.call (.builtin "tuple.__new__") ⟨[.ref C, .ref t], []⟩) R s := by
  obtain ⟨h, g, d, tk, os⟩ := s
  obtain ⟨⟨oc, od, cd, sl, hC, e4, e2⟩, made, base, here, self, tup, obj1, call, typ, init⟩ := Y
  have mt : Looks (model prog w) h (Bind.madeBy (.type "tuple")) (some "tuple.__new__") := Looks.of_pure tn_made
  have ty : Looks (model prog w) h (isType (.ref C)) true := (Looks.ld hC).andThen .now
  refine codeAny_call_builtin_code (Code.quiet_builtin _ tn_quiet) ?_
  simp only [checkBuiltinCall, tn_kind, tn_split]
  have args := tn_args (.ref C) (.ref t)
  unfold argsOk at args
  repeat (first | simp only [bne_self_eq_false, Bool.not_true, Bool.false_eq_true, if_false, beq_self_eq_true, if_true] | lk)
  refine codeAny_builtin PySem.F.entry_tuple_new ?_
  unfold Builtin.«tuple.__new__»
  have nk : (noKeywords "tuple" ⟨[.ref C, .ref t], []⟩) = pure () := by rfl
  have cc : checkCount "tuple" 0 1 [Value.ref t].length = pure () := by kernel_rfl
  have bq : (Value.ref C == Value.type "tuple") = false := rfl
  repeat (first | simp only [nk, cc, bq, bne_self_eq_false, Bool.not_true, Bool.false_eq_true, if_false, beq_self_eq_true, if_true] | with_reducible refine wpAny_collect_seq t (.inr rfl) ht rfl rfl ?_ hz | lk)
  intro h' hk
  have hC2 := hk _ _ hC
  have e : xs.toList.toArray = xs := by simp
  rw [e]
  refine wpAny_bind (wpAny_pure (wpAny_bind (wpAny_alloc (wpAny_bind ?_))))
  unfold newObj
  dsimp only
  rw [if_neg (Nat.not_lt.mpr hz)]
  unfold newObjAsIs classHasDel
  refine wpAny_bind (wpAny_alloc (wpAny_bind (wpAny_bind (wpAny_load (Heap.get?_push_of_some _ (Heap.get?_push_of_some _ hC2)) (wpAny_pure ?_)))))
  rw [e2]
  refine wpAny_pure (wpAny_pure ?_)
  show R _ _
  rw [Heap.size_push]
  exact hq h' hk
theorem new_TN {E : Value → Shared → Prop} {h₀ : Heap} {L t : Addr} {m : Str → Option Value} {news : List (Addr × Obj)} {Q : Value → Shared → Prop} {xs : Array Value} {n : Nat} (Y : TMakes (model prog w) s.heap C) (F : Fr h₀ L s.heap m) (N : News h₀ L s.heap news)
    (ht : (t, ({ cls := .type "tuple", data := .seq xs n } : Obj)) ∈ news) (hz : xs.size ≤ sizeLine)
    (h : ∀ x dx h', Fr h₀ L h' m → News h₀ L h' ((x, tupInst C dx xs) :: (dx, emptyDict) :: news) → (∀ p ∈ news, p.1 < dx) → dx < x → Q (.ref x) { s with heap := h' }) :
    wpAny (model prog w) A (call (.builtin "tuple.__new__") [.ref C, .ref t]) Q E s := by
  refine wpAny_call (new_T Y (N _ ht).1 hz fun h' hk => ?_)
  have F' := F.keeps hk
  have N' := N.grown hk
  have N2 := (N'.push F' emptyDict).push (F'.push _) (tupInst C h'.objs.size xs)
  rw [Heap.size_push] at N2
  exact h _ h'.objs.size _ ((F'.push _).push _) N2 (fun p hp => Heap.lt_size (N' p hp).1) (Nat.lt_succ_self _)
end
end
section
local macro_rules | `(tactic| k_mem) => `(tactic| first | exact List.Mem.head _ | assumption | (refine' List.Mem.tail _ ?_; k_mem))
local macro_rules | `(tactic| k_all) => `(tactic| first | k_extra "my all" | (with_reducible assumption))
local macro_rules | `(tactic| k_ne) => `(tactic| first | (with_reducible assumption) | exact Ne.symm (by with_reducible assumption) | (refine Nat.ne_of_lt ?_; (try dsimp only); omega) | (refine Nat.ne_of_gt ?_; (try dsimp only); omega))
local macro_rules | `(tactic| k_steps) => `(tactic| repeat' (first | (k_unfold; (try dsimp only)) | (k_end; kc_close) | walk1 | ((with_unfolding_all refine' (?hLd : Leads _ _) _ _ ?_; (case hLd => with_reducible assumption)); (try dsimp only)) | (dsimp only; walk1) | (leave1; walk_say "STEP leave1"; (try dsimp only)) | fail "no step"))
local macro_rules | `(tactic| walk_at $s:str) => `(tactic| k_extra $s)
theorem lines_mac : True := by
  k_with "my sto" => (first | (refine' StR.mk ?a1q1 ?a2q1 ?a3q1 ?a4q1 ?a5q1; (case a1q1 => k_asm); (case a2q1 => k_asm); (case a3q1 => k_asm); (case a4q1 => k_asm); (case a5q1 => k_asm)) | (refine' StR.of ?a1q1 ?a2q1 ?a3q1 ?a4q1 ?a5q1; (case a1q1 => k_asm); (case a2q1 => k_asm); (case a3q1 => k_asm); (case a4q1 => k_asm); (case a5q1 => k_asm)))
  k_with "my end1" => (first | k_asm | exact TabR.le (by k_asm) (by omega))
  k_with "my tab" => (first | assumption | (refine TabOk.push ?_; k_extra "my tab"))
  k_with "my end" => (first | (refine' StR.mk ?a1q4 ?a2q4 ?a3q4 ?a4q4 ?a5q4; (case a1q4 => k_extra "my end1"); (case a2q4 => k_extra "my end1"); (case a3q4 => k_extra "my end1"); (case a4q4 => k_extra "my tab"); (case a5q4 => k_asm)) | (refine' StR.of ?a1q4 ?a2q4 ?a3q4 ?a4q4 ?a5q4; (case a1q4 => k_extra "my end1"); (case a2q4 => k_extra "my end1"); (case a3q4 => k_extra "my end1"); (case a4q4 => k_extra "my tab"); (case a5q4 => k_asm)))
  k_with "my sub" => (first | ((refine List.forall_mem_cons.mpr ⟨?_, ?_⟩); (focus k_mem); k_extra "my sub") | (intro p hp; repeat (first | exact hp | refine List.mem_cons_of_mem _ ?_)))
  k_with "my tup" => ((refine' EndC.tup ?Fq6 ?Nq6 ?lq6 ?T1q6 ?T2q6 ?T3q6 ?T4q6 ?T5q6 ?_; (case Fq6 => k_asm); (case Nq6 => k_asm); (case lq6 => assumption); (case T1q6 => k_extra "my end1"); (case T2q6 => k_extra "my end1"); (case T3q6 => k_extra "my end1"); (case T4q6 => k_asm); (case T5q6 => k_asm)))
  k_with "my drop" => ((refine' drop_N ?T5q7 ?Nq7 ?hsq7 ?_; (case T5q7 => assumption); (case Nq7 => k_asm); (case hsq7 => k_extra "my sub"); intro N2'))
  k_with "my room" => ((simp only [depth_under_make, depth_under_kw, depth_in1, depth_deeper, units_in1, units_deeper, Around.mark_units]; (try dsimp only [topA]); omega))
  k_with "callWith ref" => ((k_here; k_dflt (refine' callWith_K ?k1q9 ?k2q9 ?_; (case k1q9 => k_asm); (case k2q9 => k_is); k_whole)))
  k_with "getAttr ref" => ((k_here; k_dflt (refine' get_own ?k1q10 ?k2q10 ?k3q10 ?k4q10 ?k5q10 ?k6q10 ?k7q10 ?k8q10 ?k9q10 ?_; (case k1q10 => k_asm); (case k2q10 => k_asm); (case k3q10 => k_inst); (case k4q10 => k_is); (case k5q10 => k_is); (case k6q10 => k_is); (case k7q10 => k_is); (case k8q10 => k_get); (case k9q10 => k_handed); k_whole)))
  k_with "getMethod ref" => ((k_here; (with_reducible show wpAny _ _ (getMethod (Value.ref (Cf.st _)) _ _) _ _ _); k_dflt (refine' method_inst ?k1q11 ?k2q11 ?k3q11 ?k4q11 ?k5q11 ?k6q11 ?k7q11 ?_; (case k1q11 => k_asm); (case k2q11 => k_asm); (case k3q11 => k_inst); (case k4q11 => k_is); (case k5q11 => k_is); (case k6q11 => k_is); (case k7q11 => k_get); k_whole)))
  k_with "getMethod ref" => ((k_here; (with_reducible show wpAny _ _ (getMethod (Value.ref _) (Str.ofString "pop") _) _ _ _); k_dflt (refine d_method PySem.F.slot_dict_pop PySem.F.type_dict_pop (by k_asm) (by k_mem) (by k_asm) ?_)))
  k_with "getMethod ref" => ((k_here; (with_reducible show wpAny _ _ (getMethod (Value.ref _) (Str.ofString "get") _) _ _ _); k_dflt (refine d_method PySem.F.slot_dict_get PySem.F.type_dict_get (by k_asm) (by k_mem) (by k_asm) ?_)))
  k_with "getMethod ref" => ((k_here; (with_reducible show wpAny _ _ (getMethod (Value.ref _) (Str.ofString "clock") _) _ _ _); k_dflt (refine' kmu_own ?k1q14 ?k2q14 ?k3q14 ?k4q14 ?k5q14 ?_; (case k1q14 => k_asm); (case k2q14 => k_asm); (case k3q14 => k_inst); (case k4q14 => k_is); (case k5q14 => k_is); k_whole)))
  k_with "callWith" => ((plain_pass; (show wpAny _ _ (callWith _ (Value.builtin _) [_] _ (backToKw _ (keywordEach [] _))) _ _ _); refine callWith_method1 ?_))
  k_with "call builtin:dict.pop" => ((k_here; (with_reducible show wpAny _ _ (call (Value.builtin "dict.pop") [Value.ref _, Value.str _ _, _]) _ _ _); k_dflt (refine' d_pop ?Fq16 ?Nq16 ?Uq16 ?Tq16 ?loq16 ?hbq16 ?_; (case Fq16 => k_asm); (case Nq16 => k_asm); (case Uq16 => k_updF); (case Tq16 => k_asm); (case loq16 => k_asm); (case hbq16 => k_asm)); intro h' o' v' F' N' T'; (try dsimp only at N'); (try k_sweep)))
  k_with "call builtin:dict.get" => ((k_here; (with_reducible show wpAny _ _ (call (Value.builtin "dict.get") [Value.ref _, Value.str _ _, Value.int _ _]) _ _ _); k_dflt (refine' d_getI ?Nq17 ?mq17 ?Tq17 ?loq17 ?_; (case Nq17 => k_asm); (case mq17 => k_mem); (case Tq17 => k_asm); (case loq17 => k_asm)); intro t'))
  k_with "setItem ref str" => ((k_here; (with_reducible show wpAny _ _ (setItem (Value.ref _) (Value.str _ _) (Value.int _ _)) _ _ _); k_dflt (refine' d_setI ?Fq18 ?Nq18 ?Uq18 ?Tq18 ?hbq18 ?_; (case Fq18 => k_asm); (case Nq18 => k_asm); (case Uq18 => k_updF); (case Tq18 => k_asm); (case hbq18 => first | k_asm | omega)); intro h' o' F' N' T'; (try dsimp only at N'); (try k_sweep)))
  k_with "callWith ref" => ((k_here; (show wpAny _ _ (callWith _ (Value.ref (Cf.fc _)) [] _ _) _ _ _); k_dflt (refine' callWith_F0 (FnAt.of ?Nq19 ?mq19) ?_; (case Nq19 => k_asm); (case mq19 => k_mem)); try dsimp only [List.nil_append, List.append_nil]))
  k_with "call ref" => ((k_here; (with_reducible show wpAny _ _ (call (Value.ref (Cf.fc _)) [] []) _ _ _); k_dflt (refine' Ctr.call (ClkOk.use ?cq20 ?m1q20 ?m2q20 ?m3q20 ?m4q20) ?Bq20 ?Fq20 ?Xq20 ?Nq20 ?Tq20 rfl rfl rfl rfl ?hdq20 ?huq20 ?_; (case cq20 => k_asm); (case Nq20 => k_asm); (case m1q20 => k_mem); (case m2q20 => k_mem); (case m3q20 => k_mem); (case m4q20 => k_mem); (case Bq20 => k_asm); (case Fq20 => k_asm); (case Xq20 => k_asm); (case Tq20 => k_asm); (case hdq20 => k_extra "my room"); (case huq20 => k_extra "my room")); (refine after_t ?_); intro h' tk' t' F' N'; (try k_sweep)))
  k_with "execs cons" => ((k_here; (try k_gentoks); first | ((fail_if_success (refine' execs_chk ?hckq21 ?_; (case hckq21 => with_reducible assumption))); (refine execs_hid ?_); intro Q0' Q1' hQ0' hQ1') | ((refine execs_hid1 ?_); intro Q1' hQ1')))
  exact True.intro
section
-- c_tgsec
theorem lines_c_tgsec : True := by
  k_with "my inst" => (guard_hyp mk1; first | (refine' inst_N_c_tgsec ?Nq22 ?mq22 ?m2q22; (case Nq22 => k_asm); (case mq22 => k_mem); (case m2q22 => k_mem)) | (refine' inst_K1_c_tgsec ?Xq22 ?eq22 ?dq22; (case Xq22 => k_in); (case eq22 => k_is); (case dq22 => k_is)))
  k_with "getMethod type:tuple" => (guard_hyp mk1; (k_here; k_dflt (refine' method_type ?Fq23 ?Xq23 ?tq23 ?sq23 ?eq23 ?hq23 ?_; (case Fq23 => k_asm); (case Xq23 => k_asm); (case tq23 => kernel_rfl); (case sq23 => decide +kernel); (case eq23 => k_is); (case hq23 => k_handed))))
  k_with "call type:type" => (guard_hyp mk1; (k_here; k_dflt (refine' kto_own (C := _) ?Iq24 ?_; (case Iq24 => k_extra "my inst"))))
  k_with "call builtin:issubclass" => (guard_hyp mk1; (k_here; k_dflt (refine' issub_tup ?Xq25 ?tq25 ?iq25 ?_; (case Xq25 => k_in); (case tq25 => k_is); (case iq25 => k_is))))
  k_with "call builtin:tuple.__getitem__" => (guard_hyp mk1; (k_here; k_dflt (refine' tup_item (k := _) ?Xq26 ?Iq26 ?iq26 ?kq26 ?lq26 ?_; (case Xq26 => k_in); (case Iq26 => k_extra "my inst"); (case iq26 => k_is); (case kq26 => rfl); (case lq26 => decide))))
  exact True.intro
theorem inst_K1_c_tgsec {K : Frag} {h : Heap} {x C dx : Addr} {xs : Array Value} {n : Nat} {sl : Array (Option Value)} {o : Obj} (X : K.In h) (e : K.lookup x = some ⟨.ref C, some dx, .seq xs n, sl⟩) (hd : K.lookup dx = some o) :
    PySem.W.InstAt h x ⟨.ref C, some dx, .seq xs n, sl⟩ C (some o) := ⟨X _ _ e, rfl, rfl, X _ _ hd⟩
theorem inst_N_c_tgsec {h₀ h : Heap} {L x C dx : Addr} {news : Led} {xs : Array Value} (N : News h₀ L h news) (e : (x, tupInst C dx xs) ∈ news) (e2 : (dx, emptyDict) ∈ news) :
    PySem.W.InstAt h x (tupInst C dx xs) C (some emptyDict) := ⟨(N _ e).1, rfl, rfl, (N _ e2).1⟩
theorem c_tgsec {x : CX} {L : Led} :
    Ct 2 x 320 [.ref 408, .ref 498, .ref 416] [] L fun v L' => L' = L ∧ v = .int 1 898 := by
  have mk1 := True.intro
  unfold Ct
  k_fill
  k_dflt (refine' ctr_enter (binds := [(Str.ofString "self", .ref 408), (Str.ofString "obj", .ref 498), (Str.ofString "objtype", .ref 416)]) (mm := fun y => List.lookup y [(Str.ofString "objtype", .ref 416), (Str.ofString "obj", .ref 498), (Str.ofString "self", .ref 408)]) ?k6 ?k7 ?k9 ?kB rfl ?_ ?c2 ?c3 ?c4 ?c5 ?c6; (case k6 => k_is); (case k7 => k_is); (case k9 => first | exact fun s _ => BindsTo.of_eq rfl | exact fun s hX => binds_K hX rfl (by k_is) rfl rfl rfl); (case c5 => decide); (case c6 => decide); (case kB => exact locs rfl); (case c2 => exact rfl); (case c3 => exact rfl); (case c4 => exact rfl); k_whole; intro dp un gd outer base g s L' B X T F N hdp hun; (try dsimp only [DL] at N); (try dsimp only); (try k_fold))
  k_steps
  exact EndC.mk (by k_asm) (by k_asm) ⟨rfl, rfl⟩
end
section
-- c_iexp
theorem lines_c_iexp : True := by
  k_with "my inst" => (guard_hyp mk2; first | (refine' inst2_N_c_iexp ?Nq27 ?mq27 ?m2q27; (case Nq27 => k_asm); (case mq27 => k_mem); (case m2q27 => k_mem)) | (refine' inst2_K1_c_iexp ?Xq27 ?eq27 ?dq27; (case Xq27 => k_in); (case eq27 => k_is); (case dq27 => k_is)))
  k_with "getMethod type:tuple" => (guard_hyp mk2; (k_here; k_dflt (refine' method_type ?Fq28 ?Xq28 ?tq28 ?sq28 ?eq28 ?hq28 ?_; (case Fq28 => k_asm); (case Xq28 => k_asm); (case tq28 => kernel_rfl); (case sq28 => decide +kernel); (case eq28 => k_is); (case hq28 => k_handed))))
  k_with "call type:type" => (guard_hyp mk2; (k_here; k_dflt (refine' kto_own (C := _) ?Iq29 ?_; (case Iq29 => k_extra "my inst"))))
  k_with "call builtin:issubclass" => (guard_hyp mk2; (k_here; k_dflt (refine' issub_tup ?Xq30 ?tq30 ?iq30 ?_; (case Xq30 => k_in); (case tq30 => k_is); (case iq30 => k_is))))
  k_with "call builtin:tuple.__getitem__" => (guard_hyp mk2; (k_here; k_dflt (refine' tup_item (k := _) ?Xq31 ?Iq31 ?iq31 ?kq31 ?lq31 ?_; (case Xq31 => k_in); (case Iq31 => k_extra "my inst"); (case iq31 => k_is); (case kq31 => rfl); (case lq31 => decide))))
  k_with "getAttr ref" => (guard_hyp mk2; (k_here; k_dflt (refine' get_tup ?Xq32 ?Iq32 ?gq32 ?kq32 (findObj_any ?f1q32 ?f2q32 ?f3q32 ?f4q32) ?iq32 ?_; (case Xq32 => k_in); (case Iq32 => k_extra "my inst"); (case gq32 => k_is); (case kq32 => k_is); (case f1q32 => k_is); (case f2q32 => k_is); (case f3q32 => k_is); (case f4q32 => k_is); (case iq32 => k_is))))
  k_with "call ref" => (guard_hyp mk2; (k_here; (with_reducible show wpAny _ _ (call (Value.ref 320) [Value.ref 408, Value.ref 498, Value.ref 416] []) _ _ _); k_dflt (refine' Ctr.call c_tgsec ?Bq33 ?Fq33 ?Xq33 ?Nq33 ?Tq33 rfl rfl rfl rfl ?hdq33 ?huq33 ?_; (case Nq33 => k_asm); (case Bq33 => k_asm); (case Fq33 => k_asm); (case Xq33 => k_asm); (case Tq33 => k_asm); (case hdq33 => k_extra "my room"); (case huq33 => k_extra "my room")); (refine after_e ?_); intro h' tk' F' N'; (try k_sweep); (refine handed_on rfl ?_)))
  exact True.intro
theorem inst2_K1_c_iexp {K : Frag} {h : Heap} {x C dx : Addr} {xs : Array Value} {n : Nat} {sl : Array (Option Value)} {o : Obj} (X : K.In h) (e : K.lookup x = some ⟨.ref C, some dx, .seq xs n, sl⟩) (hd : K.lookup dx = some o) :
    PySem.W.InstAt h x ⟨.ref C, some dx, .seq xs n, sl⟩ C (some o) := ⟨X _ _ e, rfl, rfl, X _ _ hd⟩
theorem inst2_N_c_iexp {h₀ h : Heap} {L x C dx : Addr} {news : Led} {xs : Array Value} (N : News h₀ L h news) (e : (x, tupInst C dx xs) ∈ news) (e2 : (dx, emptyDict) ∈ news) :
    PySem.W.InstAt h x (tupInst C dx xs) C (some emptyDict) := ⟨(N _ e).1, rfl, rfl, (N _ e2).1⟩
theorem c_iexp {x : CX} {L : Led} {it dit : Addr} {e1 e2 e3 am : Int} {t1 t2 t3 t4 t5 t6 : Tok} {n0 : Nat} (m1 : (it, instObj 501 dit) ∈ L) (m2 : (dit, dictOf [⟨e1, .str (Str.ofString "namespace") t1, .str (Str.ofString "LIMITER") t2⟩, ⟨e2, .str (Str.ofString "amount") t3, .int am t4⟩, ⟨e3, .str (Str.ofString "multiples") t5, .int 10 t6⟩] n0) ∈ L) :
    Ct 3 x 451 [.ref it] [] L fun v L' => L' = L ∧ ∃ t, v = .int (1 * 10) t := by
  have mk2 := True.intro
  unfold Ct
  k_fill
  k_dflt (refine' ctr_enter (binds := [(Str.ofString "self", .ref it)]) (mm := fun y => List.lookup y [(Str.ofString "self", .ref it)]) ?k6 ?k7 ?k9 ?kB rfl ?_ ?c2 ?c3 ?c4 ?c5 ?c6; (case k6 => k_is); (case k7 => k_is); (case k9 => first | exact fun s _ => BindsTo.of_eq rfl | exact fun s hX => binds_K hX rfl (by k_is) rfl rfl rfl); (case c5 => decide); (case c6 => decide); (case kB => exact locs rfl); (case c2 => exact rfl); (case c3 => exact rfl); (case c4 => exact rfl); k_whole; intro dp un gd outer base g s L' B X T F N hdp hun; (try dsimp only [DL] at N); (try dsimp only); (try k_fold))
  k_steps
  exact EndC.mk (by k_asm) (by k_asm) ⟨rfl, _, rfl⟩
end
section
-- c_bis
theorem lines_c_bis : True := by
  k_with "callWith ref" => (guard_hyp mk3; (k_here; (with_reducible show wpAny _ _ (callWith _ (Value.ref _) [] _ _) _ _ _); k_dflt (refine' callWith_F (FnAt.of ?Nq34 ?mq34) ?_; (case Nq34 => k_asm); (case mq34 => k_mem); k_whole)))
  k_with "FnAt" => (guard_hyp mk3; (k_dflt (refine' FnAt.of ?Nq35 ?mq35; (case Nq35 => k_asm); (case mq35 => k_mem))))
  k_with "call builtin:len" => (guard_hyp mk3; (k_here; (with_reducible show wpAny _ _ (call (Value.builtin "len") [Value.ref _]) _ _ _); k_dflt (refine' len_rows ?Nq36 ?mq36 ?Rq36 ?hlq36 ?_; (case Nq36 => k_asm); (case mq36 => k_mem); (case Rq36 => k_asm); (case hlq36 => k_asm)); intro tk' t'))
  k_with "subscriptTail" => (guard_hyp mk3; (k_here; (with_reducible show wpAny _ _ (subscriptTail _ _ (Value.ref _) (Value.int _ _)) _ _ _); k_dflt (refine' item_mid ?Nq37 ?mq37 ?Rq37 ?hlq37 ?hmidq37 ?h0q37 ?h1q37 ?_; (case Nq37 => k_asm); (case mq37 => k_mem); (case Rq37 => k_asm); (case hlq37 => k_asm); (case hmidq37 => assumption); (case h0q37 => (simp only [Int.fdiv_eq_ediv_of_nonneg _ (show (0:Int) ≤ 2 by decide)]; omega)); (case h1q37 => (simp only [Int.fdiv_eq_ediv_of_nonneg _ (show (0:Int) ≤ 2 by decide)]; omega))); intro e' y' hE' hC'))
  k_with "call ref" => (guard_hyp mk3; (k_here; (with_reducible show wpAny _ _ (call (Value.ref _) [Value.ref _] []) _ _ _); k_dflt (refine' Ctr.call (KeyOk.use ?cq38 ?qq38) ?Bq38 ?Fq38 ?Xq38 ?Nq38 ?Tq38 rfl rfl rfl rfl ?hdq38 ?huq38 ?_; (case cq38 => assumption); (case Nq38 => k_asm); (case qq38 => assumption); (case Bq38 => k_asm); (case Fq38 => k_asm); (case Xq38 => k_asm); (case Tq38 => k_asm); (case hdq38 => k_extra "my room"); (case huq38 => k_extra "my room")); (refine after_t ?_); intro h' tk' t' F' N'; (try k_sweep)))
  exact True.intro
theorem c_bis {x : CX} {L : Led} {rows fn : Addr} {vs : List Value} {n0 : Nat} {ts : List Int} {xv : Int} {t1 : Tok} {j : Nat} {fd : FuncData} (hm : (rows, W.listOf vs.toArray n0) ∈ L) (hfn : (fn, ({ cls := .type "function", data := .func fd } : Obj)) ∈ L) (R : Rows L ts vs) (hl : ts.length ≤ 1000) (hj : j ≤ ts.length)
    (hmid : ∀ (i : Nat) t, ts[i]? = some t → (-t < xv ↔ i < j)) (hk : KeyOk x L fn) :
    Ct 3 x 534 [.ref rows, .int xv t1] [(Str.ofString "key", .ref fn)] L fun v L' => L' = L ∧ ∃ t, v = .int j t := by
  have mk3 := True.intro
  unfold Ct
  k_fill
  k_dflt (refine' ctr_enter (binds := [(Str.ofString "rows", .ref rows), (Str.ofString "x", .int xv t1), (Str.ofString "key", .ref fn)]) (mm := fun y => List.lookup y [(Str.ofString "key", .ref fn), (Str.ofString "x", .int xv t1), (Str.ofString "rows", .ref rows)]) ?k6 ?k7 ?k9 ?kB rfl ?_ ?c2 ?c3 ?c4 ?c5 ?c6; (case k6 => k_is); (case k7 => k_is); (case k9 => first | exact fun s _ => BindsTo.of_eq rfl | exact fun s hX => binds_K hX rfl (by k_is) rfl rfl rfl); (case c5 => decide); (case c6 => decide); (case kB => exact locs rfl); (case c2 => exact rfl); (case c3 => exact rfl); (case c4 => exact rfl); k_whole; intro dp un gd outer base g s L' B X T F N hdp hun; (try dsimp only [DL] at N); (try dsimp only); (try k_fold))
  (k_with "state" => ((try dsimp only); (try simp only [Int.fdiv_eq_ediv_of_nonneg _ (show (0:Int) ≤ 2 by decide)] at *); omega))
  (k_with "measure" => ((try dsimp only); (try simp only [Int.fdiv_eq_ediv_of_nonneg _ (show (0:Int) ≤ 2 by decide)] at *); omega))
  (k_with "exec While Compare cons nil" => k_while (fun (_ : List Int) lo hi => 0 ≤ lo ∧ lo ≤ (j : Int) ∧ (j : Int) ≤ hi ∧ hi ≤ (ts.length : Int)) (fun (_ : List Int) lo hi => (hi - lo).toNat) "lo" "hi")
  k_steps
  refine' EndC.mk ?F ?N ⟨rfl, _, congrArg (fun z => Value.int z _) ?e⟩
  case F => k_asm
  case N => k_asm
  case e => omega
end
section
-- c_gmw0
theorem lines_c_gmw0 : True := by
  k_with "truthy ref" => (guard_hyp mk4; (k_here; k_dflt (refine' truthy_no ?Nq39 ?mq39 ?_; (case Nq39 => k_asm); (case mq39 => assumption)); intro tk'))
  k_with "call builtin:dict.get" => (guard_hyp mk4; (k_here; (with_reducible show wpAny _ _ (call (Value.builtin "dict.get") [Value.ref _, Value.str _ _, Value.ref _]) _ _ _); k_dflt (refine' d_getE0 ?Nq40 ?mq40 ?Tq40 ?loq40 ?eq40 ?subq40 ?haq40 ?_; (case Nq40 => k_asm); (case mq40 => k_mem); (case Tq40 => k_asm); (case loq40 => k_asm); (case eq40 => assumption); (case subq40 => k_extra "my sub"); (case haq40 => k_mem)); intro a' n' hm'))
  k_with "my fix" => (guard_hyp mk4; first | assumption | (refine' Fix.push ?_ ?h1q41 ?h2q41 ?h3q41 ?h4q41 ?h5q41; (case h1q41 => (refine Nat.lt_of_succ_le ?_; (try dsimp only); omega)); (case h2q41 => (refine Nat.lt_of_succ_le ?_; (try dsimp only); omega)); (case h3q41 => (refine Nat.lt_of_succ_le ?_; (try dsimp only); omega)); (case h4q41 => (refine Nat.lt_of_succ_le ?_; (try dsimp only); omega)); (case h5q41 => (refine Nat.lt_of_succ_le ?_; (try dsimp only); omega)); k_extra "my fix"))
  k_with "my pe" => (guard_hyp mk4; first | assumption | (refine tab_up ?_; k_extra "my pe"))
  k_with "my endk" => (guard_hyp mk4; (refine' StR.mk ?a1q43 ?a2q43 ?a3q43 ?a4q43 ?a5q43; (case a1q43 => k_extra "my end1"); (case a2q43 => k_extra "my end1"); (case a3q43 => k_extra "my pe"); (case a4q43 => k_extra "my tab"); (case a5q43 => k_extra "my fix")))
  exact True.intro
theorem c_gmw0 {x : CX} {c : Cf} {σ : St} {b : Nat} {L rest : Led} {key : Str} {tk t1 t2 : Tok} {limit : Int} {ts : List Int} {y : Int} {j : Nat} (X0 : Fixed x c) (S : StR x c σ b L rest) (hb : b ≤ 800) (he : (σ.ev key).getD [] = []) :
    Ct 4 x 628 [.ref c.st, .str key tk, .int limit t1, .int 10 t2] [] L fun v L' => ∃ D t1 t2 rest', v = .ref D ∧ (∀ p ∈ rest, p ∈ rest') ∧ (D, tupO #[.int σ.now t1, .int 0 t2]) ∈ rest' ∧ StR x c σ b L' rest' := by
  have mk4 := True.intro
  have X1 := X0
  obtain ⟨lo1, lo2, lo3, n12, n13, n14, n15, n23, n24, n25, n34, n35, n45, hclk⟩ := X1
  refine open_s S ?_
  clear S
  intro o1 o2 o3 o5 t0 n0 T1 T2 T3 T4 T5
  have T5' := T5
  obtain ⟨m1, m2, m3, m4, m5, a1, a2, a3, a4, a5⟩ := T5'
  unfold Ct
  k_fill
  k_dflt (refine' ctr_enter (binds := [(Str.ofString "self", .ref c.st), (Str.ofString "key", .str key tk), (Str.ofString "limit", .int limit t1), (Str.ofString "expiry", .int 10 t2)]) (mm := fun y => List.lookup y [(Str.ofString "expiry", .int 10 t2), (Str.ofString "limit", .int limit t1), (Str.ofString "key", .str key tk), (Str.ofString "self", .ref c.st)]) ?k6 ?k7 ?k9 ?kB rfl ?_ ?c2 ?c3 ?c4 ?c5 ?c6; (case k6 => k_is); (case k7 => k_is); (case k9 => first | exact fun s _ => BindsTo.of_eq rfl | exact fun s hX => binds_K hX rfl (by k_is) rfl rfl rfl); (case c5 => decide); (case c6 => decide); (case kB => exact locs rfl); (case c2 => exact rfl); (case c3 => exact rfl); (case c4 => exact rfl); k_whole; intro dp un gd outer base g s L' B X T F N hdp hun; (try dsimp only [DL] at N); (try dsimp only); (try k_fold))
  all_goals (have CH := codeHd_of_K (c := 627) (P := 623) X (by kernel_rfl))
  k_steps
  refine' EndC.mk2 ?F ?N ?s ⟨_, _, _, _ :: _ :: rest, rfl, fun _ h => .tail _ (.tail _ (h)), .head _, ?S⟩
  case F => k_asm
  case N => k_asm
  case s => exact sub2
  case S => k_extra "my endk"
end
section
-- c_lam
theorem c_lam {x : CX} {L : Led} {f c' : Addr} {pm ctv : Value} {oc : Obj} {vs : Array Value} {t : Tok} {q q' : Str}
    (ho : (f, kla_obj (Str.ofString "<lambda>") q { posonlyargs := [], args := [{ arg := Str.ofString "entry", annotation := none, pos := { line := 488, col := 75, endLine := 488, endCol := 80 } }], vararg := none, kwonlyargs := [], kw_defaults := [], kwarg := none, defaults := [] } (PySem.Expr.UnaryOp UnaryOp.USub ((PySem.Expr.Name (Str.ofString "entry") { line := 488, col := 83, endLine := 488, endCol := 88 }).Attribute (Str.ofString "atime") { line := 488, col := 83, endLine := 488, endCol := 94 }) { line := 488, col := 82, endLine := 488, endCol := 94 }) { kind := ScopeKind.function, names := [(Str.ofString "entry", NameKind.local)], isGenerator := false, isCoroutine := false } [] pm c' ctv) ∈ L) (hcd : (c', oc) ∈ L) (hd : oc.data = .fields vs) (hv' : vs[1]? = some (.str q' t)) (hq : q' = q) : KeyOk x L f := by
  have mk5 := True.intro
  intro e y hE
  have hv : vs[1]? = some (.str q t) := by rw [hv', hq]
  clear hv' hq
  obtain ⟨e, de, q1, q2, u1, u2, u3, u4, n', x', ev, m1, m2⟩ := hE
  cases ev
  unfold Ct
  k_fill
  k_dflt (refine' ctr_enterL (binds := [(Str.ofString "entry", .ref e)]) (mm := fun y => List.lookup y [(Str.ofString "entry", .ref e)]) ?k6 ?k7 ?k8 ?k8b ?k9 ?kB rfl ?_ ?c2 ?c3 ?c4 ?c5 ?c6; (case k6 => assumption); (case k7 => assumption); (case k8 => assumption); (case k8b => assumption); (case k9 => exact rfl); (case c5 => decide); (case c6 => decide); (case kB => exact locs rfl); (case c2 => exact rfl); (case c3 => exact rfl); (case c4 => exact rfl); k_whole; intro dp un gd outer base g s L' B X T F N hdp hun; (try dsimp only [DL] at N); (try dsimp only); (try k_fold))
  k_steps
  (refine' EndC.mk ?F ?N ⟨rfl, _, rfl⟩)
  case F => k_asm
  case N => k_asm
end
section
-- c_gmw1
theorem lines_c_gmw1 : True := by
  k_with "truthy ref" => (guard_hyp mk6; (k_here; k_dflt (refine' truthy_yes ?Nq44 ?mq44 ?Rq44 ?hlq44 ?h0q44 ?_; (case Nq44 => k_asm); (case mq44 => k_mem); (case Rq44 => assumption); (case hlq44 => assumption); (case h0q44 => omega)); intro tk'))
  k_with "call builtin:dict.get" => (guard_hyp mk6; (k_here; (with_reducible show wpAny _ _ (call (Value.builtin "dict.get") [Value.ref _, Value.str _ _, Value.ref _]) _ _ _); k_dflt (refine' d_getE1 ?Nq45 ?mq45 ?Tq45 ?loq45 ?eq45 ?_; (case Nq45 => k_asm); (case mq45 => k_mem); (case Tq45 => k_asm); (case loq45 => k_asm); (case eq45 => assumption)); intro a' vs' n' hm' hR' hl'))
  k_with "my rows" => (guard_hyp mk6; (refine' Rows.mono ?aq46 ?bq46; (case aq46 => assumption); (case bq46 => k_extra "my sub")))
  k_with "my key" => (guard_hyp mk6; (refine' c_lam ?aq47 ?bq47 ?cq47 ?dq47 ?eq47; (case aq47 => k_mem); (case bq47 => k_mem); (case cq47 => assumption); (case dq47 => assumption); (case eq47 => first | rfl | kernel_rfl)))
  k_with "subscriptTail" => (guard_hyp mk6; (k_here; (with_reducible show wpAny _ _ (subscriptTail _ _ (Value.ref _) (Value.int _ _)) _ _ _); k_dflt (refine' item_in ?Nq48 ?mq48 ?Rq48 ?subq48 ?h0q48 ?h1q48 ?hxq48 ?_; (case Nq48 => k_asm); (case mq48 => k_mem); (case Rq48 => k_asm); (case subq48 => k_extra "my sub"); (case h0q48 => omega); (case h1q48 => omega); (case hxq48 => assumption)); intro e' de' q1 q2 t1' t2' t3' t4' n' x' me1 me2))
  k_with "call ref" => (guard_hyp mk6; (k_here; (with_reducible show wpAny _ _ (call (Value.ref 534) [Value.ref _, Value.int _ _] _) _ _ _); (k_dflt (show wpAny _ _ (call (Value.ref 534) [_, _] [(Str.ofString "key", Value.ref _)]) _ _ _)); k_dflt (refine' Ctr.call (c_bis ?hmq49 ?hfnq49 ?Rq49 ?hlq49 ?hjq49 ?hmidq49 ?hkq49) ?Bq49 ?Fq49 ?Xq49 ?Nq49 ?Tq49 rfl rfl rfl rfl ?hdq49 ?huq49 ?_; (case Nq49 => k_asm); (case hmq49 => k_mem); (case hfnq49 => k_mem); (case Rq49 => k_extra "my rows"); (case hlq49 => k_asm); (case hjq49 => assumption); (case hmidq49 => assumption); (case hkq49 => k_extra "my key"); (case Bq49 => k_asm); (case Fq49 => k_asm); (case Xq49 => k_asm); (case Tq49 => k_asm); (case hdq49 => k_extra "my room"); (case huq49 => k_extra "my room")); (refine after_t ?_); intro h' tk' t' F' N'; (try k_sweep)))
  k_with "my fix" => (guard_hyp mk6; first | assumption | (refine' Fix.push ?_ ?h1q50 ?h2q50 ?h3q50 ?h4q50 ?h5q50; (case h1q50 => (refine Nat.lt_of_succ_le ?_; (try dsimp only); omega)); (case h2q50 => (refine Nat.lt_of_succ_le ?_; (try dsimp only); omega)); (case h3q50 => (refine Nat.lt_of_succ_le ?_; (try dsimp only); omega)); (case h4q50 => (refine Nat.lt_of_succ_le ?_; (try dsimp only); omega)); (case h5q50 => (refine Nat.lt_of_succ_le ?_; (try dsimp only); omega)); k_extra "my fix"))
  k_with "my tab2" => (guard_hyp mk6; first | k_extra "my tab" | exact TabOk.push (TabOk.push (TabOk.push (.some (by assumption) (by assumption) (by assumption)))) | (refine' tabOk_some' ?aq51 ?bq51 ?cq51 ?dq51 ?eq51; (case aq51 => exact .tail _ (.tail _ (.head _))); (case bq51 => assumption); (case cq51 => assumption); (case dq51 => first | rfl | kernel_rfl); (case eq51 => rfl)))
  k_with "my pe" => (guard_hyp mk6; first | assumption | (refine tab_up ?_; k_extra "my pe"))
  k_with "my endk" => (guard_hyp mk6; (refine' StR.mk ?a1q53 ?a2q53 ?a3q53 ?a4q53 ?a5q53; (case a1q53 => k_extra "my end1"); (case a2q53 => k_extra "my end1"); (case a3q53 => k_extra "my pe"); (case a4q53 => k_extra "my tab2"); (case a5q53 => k_extra "my fix")))
  exact True.intro
theorem c_gmw1 {x : CX} {c : Cf} {σ : St} {b : Nat} {L rest : Led} {key : Str} {tk t1 t2 : Tok} {limit : Int} {ts : List Int} {y : Int} {j : Nat} (X0 : Fixed x c) (S : StR x c σ b L rest) (hb : b ≤ 800) (he : σ.ev key = some ts) (hj1 : 1 ≤ j) (hj : j ≤ ts.length) (hy : ts[((j : Int) - 1).toNat]? = some y) (hmid : ∀ (i : Nat) t, ts[i]? = some t → (-t < -(σ.now - 10) ↔ i < j)) :
    Ct 4 x 628 [.ref c.st, .str key tk, .int limit t1, .int 10 t2] [] L fun v L' => ∃ D t1 t2 rest', v = .ref D ∧ (∀ p ∈ rest, p ∈ rest') ∧ (D, tupO #[.int y t1, .int (j : Int) t2]) ∈ rest' ∧ StR x c σ b L' rest' := by
  have mk6 := True.intro
  have X1 := X0
  obtain ⟨lo1, lo2, lo3, n12, n13, n14, n15, n23, n24, n25, n34, n35, n45, hclk⟩ := X1
  refine open_s S ?_
  clear S
  intro o1 o2 o3 o5 t0 n0 T1 T2 T3 T4 T5
  have T5' := T5
  obtain ⟨m1, m2, m3, m4, m5, a1, a2, a3, a4, a5⟩ := T5'
  cases T4 with
  | none =>
    unfold Ct
    k_fill
    k_dflt (refine' ctr_enter (binds := [(Str.ofString "self", .ref c.st), (Str.ofString "key", .str key tk), (Str.ofString "limit", .int limit t1), (Str.ofString "expiry", .int 10 t2)]) (mm := fun y => List.lookup y [(Str.ofString "expiry", .int 10 t2), (Str.ofString "limit", .int limit t1), (Str.ofString "key", .str key tk), (Str.ofString "self", .ref c.st)]) ?k6 ?k7 ?k9 ?kB rfl ?_ ?c2 ?c3 ?c4 ?c5 ?c6; (case k6 => k_is); (case k7 => k_is); (case k9 => first | exact fun s _ => BindsTo.of_eq rfl | exact fun s hX => binds_K hX rfl (by k_is) rfl rfl rfl); (case c5 => decide); (case c6 => decide); (case kB => exact locs rfl); (case c2 => exact rfl); (case c3 => exact rfl); (case c4 => exact rfl); k_whole; intro dp un gd outer base g s L' B X T F N hdp hun; (try dsimp only [DL] at N); (try dsimp only); (try k_fold))
    all_goals (have CH := codeHd_of_K (c := 627) (P := 623) X (by kernel_rfl))
    k_steps
    refine' EndC.mk2 ?F ?N ?s ⟨_, _, _, _ :: _ :: _ :: _ :: rest, rfl, fun _ h => .tail _ (.tail _ (.tail _ (.tail _ (h)))), .head _, ?S⟩
    case F => k_asm
    case N => k_asm
    case s => exact sub4
    case S => k_extra "my endk"
  | some hc1 hc2 hc3 =>
    unfold Ct
    k_fill
    k_dflt (refine' ctr_enter (binds := [(Str.ofString "self", .ref c.st), (Str.ofString "key", .str key tk), (Str.ofString "limit", .int limit t1), (Str.ofString "expiry", .int 10 t2)]) (mm := fun y => List.lookup y [(Str.ofString "expiry", .int 10 t2), (Str.ofString "limit", .int limit t1), (Str.ofString "key", .str key tk), (Str.ofString "self", .ref c.st)]) ?k6 ?k7 ?k9 ?kB rfl ?_ ?c2 ?c3 ?c4 ?c5 ?c6; (case k6 => k_is); (case k7 => k_is); (case k9 => first | exact fun s _ => BindsTo.of_eq rfl | exact fun s hX => binds_K hX rfl (by k_is) rfl rfl rfl); (case c5 => decide); (case c6 => decide); (case kB => exact locs rfl); (case c2 => exact rfl); (case c3 => exact rfl); (case c4 => exact rfl); k_whole; intro dp un gd outer base g s L' B X T F N hdp hun; (try dsimp only [DL] at N); (try dsimp only); (try k_fold))
    all_goals (have CH := codeHd_of_K (c := 627) (P := 623) X (by kernel_rfl))
    k_steps
    refine' EndC.mk2 ?F ?N ?s ⟨_, _, _, _ :: _ :: _ :: rest, rfl, fun _ h => .tail _ (.tail _ (.tail _ (h))), .head _, ?S⟩
    case F => k_asm
    case N => k_asm
    case s => exact sub3
    case S => k_extra "my endk"
end
section
-- Tr
abbrev frs (l : List Env) : List Addr := l.filterMap (·.frame)
/-- a contract of a def that may catch an exception: the frames around it may be readied -/
def CtrT (n : Nat) (prog : Program) (w : World) (K : Frag) (p : Program) (loose : List Str) (mean : ExcName → Option Value) (mg mb : Str → Option Value)
    (f : Addr) (args : Args) (need : List (Addr × Obj)) (post : Value → List (Addr × Obj) → Prop) : Prop :=
  ∀ (dp un : Nat) (gd : Option (List Code)) (outer : List Env) (base : Heap) (s : Shared) (R : Result → Shared → Prop),
    Below (topA dp un gd outer) base outer (hideAll s.heap (need.map (·.1))) → K.In (hideAll s.heap (need.map (·.1))) → Top p loose mean mg mb (hideAll s.heap (need.map (·.1))) →
    K.In base → Top p loose mean mg mb base → KtsDicts (frs outer) (hideAll s.heap (need.map (·.1))) →
    (∀ q ∈ need, s.heap.get? q.1 = some q.2) → dp + 3 * n < recursionLimit → un + 40 * n < cLine →
    (∀ v h' tk' L' m' news' g', KtsTurn (frs outer) (hideAll s.heap (need.map (·.1))) g' → Fr g' L' h' m' → News g' L' h' news' → post v news' → R (.ok (.ret v)) { s with heap := h', toks := tk' }) →
    codeAny (model prog w) (topA dp un gd outer) (.call (.ref f) args) R s
def EndT (fs : List Addr) (g : Heap) (s : Shared) (post : Value → List (Addr × Obj) → Prop) (v : Value) (s' : Shared) : Prop :=
  ∃ h' tk' L'' m' news' g', s' = { s with heap := h', toks := tk' } ∧ KtsTurn fs g g' ∧ Fr g' L'' h' m' ∧ News g' L'' h' news' ∧ post v news'
theorem EndT.mk {fs : List Addr} {g g' h' : Heap} {s : Shared} {post : Value → List (Addr × Obj) → Prop} {v : Value} {L : Addr} {m : Str → Option Value} {news news' : List (Addr × Obj)} {tk : Tok} (T : KtsTurn fs g g') (F : Fr g' L h' m) (N : News g' L h' news) (hs : ∀ p ∈ news', p ∈ news) (hp : post v news') :
    EndT fs g s post v { s with heap := h', toks := tk } := ⟨h', tk, L, m, news', g', rfl, T, F, N.perm hs, hp⟩
section
variable {n : Nat} {prog : Program} {w : World} {A₀ A : Around} {s : Shared} {base h₀ : Heap} {outer : List Env} {L a : Addr} {m : Str → Option Value} {cn : Str} {cs : Scope} {ccd : Value} {need : List (Addr × Obj)} {K : Frag}
  {p : Program} {loose : List Str} {mean : ExcName → Option Value} {mg mb : Str → Option Value} {f : Addr} {args : Args} {post : Value → List (Addr × Obj) → Prop}
theorem CtrT.code {R : Result → Shared → Prop} (C : CtrT n prog w K p loose mean mg mb f args need post) (B : Below A₀ base outer h₀) (F : Fr h₀ L s.heap m) (X : K.In h₀) (N : News h₀ L s.heap need) (T : Top p loose mean mg mb h₀)
    (XB : K.In base) (TB : Top p loose mean mg mb base) (D : KtsDicts (frs outer) h₀)
    (hA : A.frames = some (envOf cn cs L a ccd :: outer)) (hke : cs.kind = .function) (hh : A.handled = none) (hd : A.depth + 3 * n < recursionLimit) (hu : A.units + 40 * n < cLine)
    (k : ∀ v h' tk' news' g, KtsTurn (frs outer) h₀ g → Below A₀ base outer g → K.In g → Top p loose mean mg mb g → KtsDicts (frs outer) g → Fr g L h' m → News g L h' news' → post v news' → R (.ok (.ret v)) { s with heap := h', toks := tk' }) :
    codeAny (model prog w) A (.call (.ref f) args) R s := by
  obtain ⟨oL, es, ep, hLg, hLd, hN, hNs, st, B₂⟩ := kts_enter B F N hA hke
  obtain ⟨hd0, dp, fr, gd, un⟩ := A
  dsimp only at hA hh hd hu
  subst hA hh
  refine C dp un gd _ base s R ⟨rfl, B₂.stays, B₂.frames⟩ (X.keeps st) (T.keeps st) XB TB (fun b hb => ?_) (fun q hq => (N q hq).1) hd hu fun v h' tk' L' m' news' g' T' F' N' hp => ?_
  · rcases kts_mem hb with rfl | hb
    · exact ⟨oL, es, ep, hLg, hLd⟩
    · obtain ⟨o, es', n', ho', hd'⟩ := D b hb
      exact ⟨o, es', n', st b o ho', hd'⟩
  have nL₀ : h₀.get? L = none := kts_self F
  obtain ⟨sl, hs⟩ := T'.up hLg
  obtain ⟨T₁, S₁⟩ := kts_turn_at (h := h') (fs := outer.filterMap (·.frame)) (g := h₀)
    (fun b hb => let ⟨_, o, ho', _⟩ := B.frames.mem hb; ⟨o, ho'⟩)
    (fun b o e nmem => F'.keep b o (T'.other b o (st b o e) (fun q => by
      rcases kts_mem q with z | z
      · rw [z, nL₀] at e; cases e
      · exact nmem z)))
    (fun b o e hm => let ⟨sl', hs'⟩ := T'.up (st b o e); ⟨sl', F'.keep _ _ hs'⟩)
  have B₃ : Below A₀ base outer (ktsHeap h' (outer.filterMap (·.frame)) h₀) := ⟨B.stack, fun b o e => T₁.other b o (B.stays b o e) (fun hm => by
    rw [(B.frames.mem hm).1] at e; cases e), B.frames.of_keeps fun b o e _ => let ⟨sl', hs'⟩ := T₁.up e; ⟨_, hs', rfl⟩⟩
  refine k v h' tk' news' _ T₁ B₃ (XB.keeps B₃.stays) (TB.keeps B₃.stays) (D.turn T₁) ⟨hNs sl _ (F'.keep _ _ hs), S₁, by rw [T₁.size]; exact F.above⟩ (fun q hq => ⟨(N' q hq).1, fun z => ?_, ?_⟩) hp
  · have := (N' q hq).2.2; rw [z, hs] at this; cases this
  · refine T₁.none_ _ ?_
    cases e : h₀.get? q.1 with
    | none => rfl
    | some o =>
      obtain ⟨sl', hs'⟩ := T'.up (st _ _ e)
      have := (N' q hq).2.2
      rw [hs'] at this; cases this
theorem CtrT.call {Q E : Value → Shared → Prop} {pos : List Value} {kw : List (Str × Value)} (C : CtrT n prog w K p loose mean mg mb f ⟨pos, kw⟩ need post) (B : Below A₀ base outer h₀) (F : Fr h₀ L s.heap m) (X : K.In h₀) (N : News h₀ L s.heap need) (T : Top p loose mean mg mb h₀)
    (XB : K.In base) (TB : Top p loose mean mg mb base) (D : KtsDicts (frs outer) h₀)
    (hA : A.frames = some (envOf cn cs L a ccd :: outer)) (hke : cs.kind = .function) (hh : A.handled = none) (hd : A.depth + 3 * n < recursionLimit) (hu : A.units + 40 * n < cLine)
    (k : ∀ v h' tk' news' g, KtsTurn (frs outer) h₀ g → Below A₀ base outer g → K.In g → Top p loose mean mg mb g → KtsDicts (frs outer) g → Fr g L h' m → News g L h' news' → post v news' → Q v { s with heap := h', toks := tk' }) :
    wpAny (model prog w) A (PySem.call (.ref f) pos kw) Q E s :=
  wpAny_call (C.code B F X N T XB TB D hA hke hh hd hu k)
theorem ctrT_enter {name qual : Str} {params : Arguments} {body : List Stmt} {scope : Scope} {dV kV doc pm cdv ct oc : Value} {an od : Option Addr} {osl : Array (Option Value)} {binds : List (Str × Value)} {mm : Str → Option Value}
    (ho : K.lookup f = some ⟨oc, od, .func (fnOf name qual params body scope dV kV doc pm an cdv ct), osl⟩) (hcd : codeIn K cdv qual = true)
    (hbind : ∀ s : Shared, K.In s.heap → BindsTo s (fnOf name qual params body scope dV kV doc pm an cdv ct) args binds) (hloc : ∀ y ∈ binds, scope.names.lookup y.1 = some .local)
    (hmm : (fun y => binds.reverse.lookup y) = mm)
    (h : ∀ (dp un : Nat) (gd : Option (List Code)) (outer : List Env) (base g : Heap) (s : Shared) (L' : Addr),
      Below (topA dp un gd outer) base outer g → K.In g → Top p loose mean mg mb g → K.In base → Top p loose mean mg mb base → KtsDicts (frs outer) g → Fr g L' s.heap mm → News g L' s.heap need → dp + 3 * n < recursionLimit → un + 40 * n < cLine →
      wpAny (model prog w) ((topA dp un gd outer).deeper (envOf qual scope L' f cdv)) (execs body (envOf qual scope L' f cdv))
        (fun fl s' => EndT (frs outer) g s post (match fl with | .ret v => v | _ => .none) s')
        (fun _ _ => False) s)
    (hco : scope.isCoroutine = false) (hgen : scope.isGenerator = false) (hk : scope.kind = .function) (hcell : ∀ x ∈ scope.names, x.2 ≠ .cell) (hn : 0 < n) :
    CtrT n prog w K p loose mean mg mb f args need post := by
  intro dp un gd outer base s R B X T XB TB D N0 hd hu k
  have Xs : K.In s.heap := X.keeps fun b o e => of_hideAll _ e
  refine codeAny_call_def (fd := fnOf name qual params body scope dV kV doc pm an cdv ct) (body := body) (binds := binds) (by show dp < _; omega) (Xs _ _ ho) rfl (T.nolimit.keeps fun b o e => of_hideAll _ e) (codeRec_of Xs hcd) rfl (hbind s Xs) hcell hloc (fun h₁ hns hk₁ => ?_) hco hgen hk
  refine wpAny_mono (h dp un gd outer base _ { s with heap := h₁, toks := s.toks + binds.length } s.heap.objs.size B X T XB TB D (hmm ▸ ⟨hns, fun b o e => hk₁ b o (of_hideAll _ e), Nat.le_of_eq (hideAll_size _ _)⟩)
    (fun q hq => ⟨hk₁ _ _ (N0 q hq), Nat.ne_of_lt (Heap.lt_size (N0 q hq)), hideAll_none _ (List.mem_map_of_mem hq)⟩) hd hu) (fun fl s' hl => ?_) fun _ _ y => y.elim
  obtain ⟨h', tk', L'', m', news', g', rfl, T', F', N', hp⟩ := hl
  exact k _ h' tk' L'' m' news' g' T' F' N' hp
/-- where no frame lies around, the ground does not turn -/
theorem turn_nil {g g' h' : Heap} {L' : Addr} {m' : Str → Option Value} {news : List (Addr × Obj)} (T : KtsTurn [] g g') (F : Fr g' L' h' m') (N : News g' L' h' news) : Fr g L' h' m' ∧ News g L' h' news :=
  ⟨⟨F.ns, fun b o e => F.keep b o (T.other b o e (nomatch ·)), by rw [← T.size]; exact F.above⟩, fun q hq => ⟨(N q hq).1, (N q hq).2.1, by
    cases e : g.get? q.1 with
    | none => rfl
    | some o => have := (N q hq).2.2; rw [T.other _ _ e (nomatch ·)] at this; cases this⟩⟩
end
/-- the same over the law's program -/
def CtT (n : Nat) (x : CX) (f : Addr) (args : List Value) (kw : List (Str × Value)) (need : Led) (post : Value → Led → Prop) : Prop :=
  CtrT n PySem.Challenge.rw_jj0018_01.row.prog x.w (Mine.hd.heap_1 x.w.params) x.p x.loose x.mean x.mg x.mb f ⟨args, kw⟩ need post
theorem Ct.toT {n : Nat} {x : CX} {f : Addr} {args : List Value} {kw : List (Str × Value)} {need : Led} {post : Value → Led → Prop} (C : Ct n x f args kw need post) : CtT n x f args kw need post :=
  fun dp un gd outer base s R B X T _ _ _ N0 hd hu k => C dp un gd outer base s R B X T N0 hd hu fun v h' tk' L' m' news' F' N' hp => k v h' tk' L' m' news' _ KtsTurn.refl F' N' hp
theorem CtT.mono {n : Nat} {x : CX} {f : Addr} {args : List Value} {kw : List (Str × Value)} {need : Led} {post post' : Value → Led → Prop} (C : CtT n x f args kw need post) (h : ∀ v L, post v L → post' v L) : CtT n x f args kw need post' :=
  fun dp un gd outer base s R B X T XB TB D N0 hd hu k => C dp un gd outer base s R B X T XB TB D N0 hd hu fun v h' tk' L' m' news' g' T' F' N' hp => k v h' tk' L' m' news' g' T' F' N' (h _ _ hp)
end
section
-- Ch
section
variable {prog : Program} {w : World} {A₀ : Around} {E : Value → Shared → Prop} {s' : Shared} {base g h : Heap} {outer : List Env} {L a e : Addr} {m : Str → Option Value} {name : Str} {scope : Scope} {cd : Value} {Q : Flow → Shared → Prop} {news : List (Addr × Obj)}
  {KF : Frag} {p : Program} {loose : List Str} {mean : ExcName → Option Value} {mg mb : Str → Option Value} {x : Str} {T' X : String} {np pos : Pos} {b₀ : Stmt} {suite : List Stmt} {rest : List ExceptHandler}
/-- an exception of a built-in class that is caught in the frame in which it was raised -/
theorem caught_here (K : Below A₀ base outer g) (hx : Heap.NewExc h s'.heap e X) (F : Fr g L h m) (N : News g L h news) (XB : KF.In base) (TB : Top p loose mean mg mb base)
    (D : KtsDicts (outer.filterMap (·.frame)) g)
    (ex : nsIn KF mainGlobals x = some none) (hv : bootBuiltins x = some (.type T')) (hn' : x ≠ "__name__")
    (hexc : isSubtype (.type T') (.type "BaseException") = pure true) (hnt : isSubtype (.type ((Manifest.find? T').elim "type" fun y => y.metatype)) (.type "tuple") = pure false) (hsub : isSubtype (.type X) (.type T') = pure true)
    (k : ∀ h' g', KtsTurn (outer.filterMap (·.frame)) g g' → Fr g' L h' m → News g' L h' news → Below A₀ base outer g' → KF.In g' → Top p loose mean mg mb g' → KtsDicts (outer.filterMap (·.frame)) g' →
      wpAny (model prog w) ((A₀.deeper (envOf name scope L a cd)).mark (some (.ref e))) (execs (b₀ :: suite) (envOf name scope L a cd)) Q E { s' with heap := h' })
    (hk : scope.kind = .function := by rfl) (hxk : (envOf name scope L a cd).kindOf x = some .globalImplicit := by rfl) (hd : (x == ("__debug__" : Str)) = false := by decide)
    (hE : PassesOwnAt (model prog w) ((A₀.deeper (envOf name scope L a cd)).mark (some (.ref e))) (A₀.deeper (envOf name scope L a cd)) (envOf name scope L a cd) E := by passes_own) :
    wpAny (model prog w) (A₀.deeper (envOf name scope L a cd)) (noteFrame (.ref e) (envOf name scope L a cd))
      (fun _ s₂ => wpAny (model prog w) (A₀.deeper (envOf name scope L a cd)) (setFlight (.ref e) none) (fun _ s₃ =>
        wpAny (model prog w) (A₀.deeper (envOf name scope L a cd)) (handleBy (.ref e) (envOf name scope L a cd) (.ExceptHandler (some (.Name x np)) none (b₀ :: suite) pos :: rest)) Q E s₃) E s₂) E s' := by
  have K' := K.push (name := name) (a := a) (cd := cd) F hk
  have hin : ∀ env ∈ (envOf name scope L a cd :: outer), ∀ b, env.frame = some b → b ∈ (envOf name scope L a cd :: outer).filterMap (·.frame) := fun env he b hb => List.mem_filterMap.mpr ⟨env, he, hb⟩
  have st : base.StaysIn (hideAll h ((envOf name scope L a cd :: outer).filterMap (·.frame))) := fun b o q => hideAll_get _ (K'.stays b o q) fun hm => by
    rw [(K'.frames.mem hm).1] at q; cases q
  have sg : ∀ b o, h.get? b = some o → b ∉ (envOf name scope L a cd :: outer).filterMap (·.frame) → (hideAll h ((envOf name scope L a cd :: outer).filterMap (·.frame))).get? b = some o := fun b o q nm => hideAll_get _ q nm
  have hl : ∀ q ∈ news, (hideAll h ((envOf name scope L a cd :: outer).filterMap (·.frame))).get? q.1 = some q.2 := fun q hq => by
    refine hideAll_get _ (N q hq).1 fun hm => ?_
    obtain ⟨env, he, hf⟩ := List.mem_filterMap.mp hm
    rcases List.mem_cons.mp he with rfl | he
    · exact (N q hq).2.1 (Option.some.inj hf).symm
    · obtain ⟨o, ho, _⟩ := (K.frames.mem (List.mem_filterMap.mpr ⟨env, he, hf⟩)).2
      rw [(N q hq).2.2] at ho; cases ho
  obtain ⟨ob, tp, he, hcls, hdt⟩ := hx.there
  have hen : (hideAll h ((envOf name scope L a cd :: outer).filterMap (·.frame))).get? e = none := by
    cases q : (hideAll h ((envOf name scope L a cd :: outer).filterMap (·.frame))).get? e with
    | none => rfl
    | some o => have := of_hideAll _ q; rw [hx.new] at this; cases this
  have hLB : (hideAll h ((envOf name scope L a cd :: outer).filterMap (·.frame))).get? L = none := hideAll_none _ (List.mem_filterMap.mpr ⟨_, .head _, rfl⟩)
  unfold noteFrame
  show wpAny _ _ (field (.ref e) 1 >>= _) _ _ _
  refine wpAny_bind (wpAny_field he hdt (x := .none) rfl ?_)
  rw [if_neg (by decide)]
  refine wpAny_newEntryW (a0 := tp) K'.stack ((funFrames_hide K'.frames hin).of_keeps fun b o hb _ => ⟨o, hx.keeps b o hb, rfl⟩) rfl he (fun b o hb => hx.keeps b o (of_hideAll _ hb)) hen hdt (by simp) rfl fun h₅ hL => ?_
  obtain ⟨k1, k2, k3, k4⟩ := hL
  rw [hcls] at k3
  have hfl : Heap.FlyingW (hideAll h ((envOf name scope L a cd :: outer).filterMap (·.frame))) (envOf name scope L a cd :: outer) e (.type X) tp h₅ := ⟨k1, hen, k2, k3⟩
  have hsm : h.UpToSlots h₅ := (Heap.UpToSlots.of_keeps hx.keeps).trans k4
  obtain ⟨g₅, T₅, F₅, K₅⟩ := kts_ground K F sg hfl.1 hsm
  have X₅ : KF.In g₅ := XB.keeps K₅.stays
  have P₅ : TopRead p loose mg mb g₅ := topRead_of (TB.keeps K₅.stays)
  obtain ⟨ob', hob, hobc⟩ := hfl.there
  refine wpAny_handleBy_builtin (X := X) (T := T') (b := true) hexc hnt hsub (name_B F₅ X₅ P₅ ex hv hn' ⟨rfl, ⟨ob', hob, hobc⟩, ?_⟩ hk hxk hd)
  refine lands_againW hfl fun h₆ hfl₆ hsm₆ => ?_
  obtain ⟨g₆, T₆, F₆, K₆⟩ := kts_ground K F sg hfl₆.1 (hsm.trans hsm₆)
  have Nl : News g₆ L h₆ news := fun q hq => ⟨hfl₆.1 _ _ (hl q hq), (N q hq).2.1, T₆.none_ _ (N q hq).2.2⟩
  exact wpAny_passesOwnAt hE (k h₆ g₆ T₆ F₆ Nl K₆ (XB.keeps K₆.stays) (TB.keeps K₆.stays) (D.turn T₆))
end
end
section
-- c_ent
theorem c_einit {x : CX} {L : Led} {e de : Addr} {ex at_ : Int} {t1 t2 : Tok} (hne : e ≠ de) (hL : ∀ p ∈ L, p.1 ≠ de) :
    Ct 1 x 548 [.ref e, .int ex t1, .int at_ t2] [] ((e, instObj 551 de) :: (de, emptyDict) :: L) fun v L' => v = .none ∧ ∃ h1 h2 t3 t4 t5 n, L' = (e, instObj 551 de) :: (de, dictOf [⟨h1, .str (Str.ofString "atime") t3, .int at_ t2⟩, ⟨h2, .str (Str.ofString "expiry") t4, .int (at_ + ex) t5⟩] n) :: L := by
  have mk7 := True.intro
  unfold Ct
  k_fill
  k_dflt (refine' ctr_enter (binds := [(Str.ofString "self", .ref e), (Str.ofString "expiry", .int ex t1), (Str.ofString "atime", .int at_ t2)]) (mm := fun y => List.lookup y [(Str.ofString "atime", .int at_ t2), (Str.ofString "expiry", .int ex t1), (Str.ofString "self", .ref e)]) ?k6 ?k7 ?k9 ?kB rfl ?_ ?c2 ?c3 ?c4 ?c5 ?c6; (case k6 => k_is); (case k7 => k_is); (case k9 => first | exact fun s _ => BindsTo.of_eq rfl | exact fun s hX => binds_K hX rfl (by k_is) rfl rfl rfl); (case c5 => decide); (case c6 => decide); (case kB => exact locs rfl); (case c2 => exact rfl); (case c3 => exact rfl); (case c4 => exact rfl); k_whole; intro dp un gd outer base g s L' B X T F N hdp hun; (try dsimp only [DL] at N); (try dsimp only); (try k_fold))
  k_steps
  (refine' EndC.mk ?F ?N ⟨rfl, _, _, _, _, _, _, ?e⟩)
  case F => k_asm
  case N => k_asm
  case e => rfl
theorem c_mkent {x : CX} {L : Led} {ex at_ : Int} {t1 t2 : Tok} :
    Ct 2 x 551 [.int ex t1, .int at_ t2] [] L fun v L' => ∃ D de h1 h2 t3 t4 t5 n, v = .ref D ∧ (∀ p ∈ L, p.1 < de) ∧ de < D ∧ L' = (D, instObj 551 de) :: (de, dictOf [⟨h1, .str (Str.ofString "atime") t3, .int at_ t2⟩, ⟨h2, .str (Str.ofString "expiry") t4, .int (at_ + ex) t5⟩] n) :: L := by
  intro dp un gd outer base s R B X T N0 hd hu k
  have Xs := X.keeps fun b o e => of_hideAll _ e
  have lt : ∀ p ∈ L, p.1 < s.heap.objs.size := fun p hp => Heap.lt_size (N0 p hp)
  obtain ⟨h, g, d, t, os⟩ := s
  dsimp only at Xs lt N0
  have C := @c_einit x L (h.objs.size + 1) h.objs.size ex at_ t1 t2 (Nat.ne_of_gt (Nat.lt_succ_self _)) (fun p hp => Nat.ne_of_lt (lt p hp))
  unfold Ct at C
  k_fill
  refine' make_core (makes_of Xs ?hm) (looks_findIn Xs ?hi) (fun self => bind_fn Xs self ?hf) (.inl rfl) ?hq
  case hm => k_is
  case hi => k_is
  case hf => k_is
  case hq =>
    have hcu : (Code.builtin "type.__call__" { pos := [Value.ref 551, .int ex t1, .int at_ t2] }).cUnits ≤ 30 := Nat.le_of_ble_eq_true rfl
    have up : ∀ b o, h.get? b = some o → ((h.push emptyDict).push (instObj 551 h.objs.size)).get? b = some o := fun b o e => Heap.get?_push_of_some _ (Heap.get?_push_of_some _ e)
    have hx : ((h.push emptyDict).push (instObj 551 h.objs.size)).get? (h.objs.size + 1) = some (instObj 551 h.objs.size) := by heap_get
    have hdx : ((h.push emptyDict).push (instObj 551 h.objs.size)).get? h.objs.size = some emptyDict := by heap_get
    have st : ∀ b o, (hideAll h (L.map (·.1))).get? b = some o → (hideAll ((h.push emptyDict).push (instObj 551 h.objs.size)) (((h.objs.size + 1, instObj 551 h.objs.size) :: (h.objs.size, emptyDict) :: L).map (·.1))).get? b = some o := fun b o e => by
      have hb := Heap.lt_size (of_hideAll _ e)
      refine hideAll_get _ (up b o (of_hideAll _ e)) fun hm => ?_
      rcases List.mem_cons.mp hm with rfl | hm
      · exact absurd hb (Nat.not_lt.mpr (Nat.le_succ _))
      · rcases List.mem_cons.mp hm with rfl | hm
        · exact absurd hb (Nat.lt_irrefl _)
        · rw [hideAll_none _ hm] at e; cases e
    refine' C (dp + 1) _ _ outer base _ _ ⟨rfl, fun b o e => st b o (B.stays b o e), B.frames.of_keeps fun b o e _ => ⟨o, st b o e, rfl⟩⟩ (X.keeps st) (T.keeps st) ?hN ?hd ?hu ?k
    case hd => omega
    case hu => (show un + _ + 40 * 1 < cLine; omega)
    case hN =>
      intro q hq
      rcases List.mem_cons.mp hq with rfl | hq
      · exact hx
      · rcases List.mem_cons.mp hq with rfl | hq
        · exact hdx
        · exact up _ _ (N0 q hq)
    case k =>
      intro v h' tk' L' m' news' F' N' ⟨ev, h1, h2, t3, t4, t5, n, e2⟩
      subst ev e2
      refine ⟨rfl, k _ h' tk' L' m' _ ⟨F'.ns, fun b o e => F'.keep b o (st b o e), ?_⟩ (fun q hq => ⟨(N' q hq).1, (N' q hq).2.1, ?_⟩) ⟨_, _, h1, h2, t3, t4, t5, n, rfl, lt, Nat.lt_succ_self _, rfl⟩⟩
      · have := F'.above
        rw [hideAll_size, Heap.size_push, Heap.size_push] at this
        rw [hideAll_size]
        exact Nat.le_trans (Nat.le_add_right _ 2) this
      · cases e : (hideAll h (L.map (·.1))).get? q.1 with
        | none => rfl
        | some o => have := (N' q hq).2.2; rw [st _ _ e] at this; cases this
end
section
-- c_acq1
theorem lines_c_acq1 : True := by
  k_with "getMethod ref" => (guard_hyp mk8; (k_here; (with_reducible show wpAny _ _ (getMethod (Value.ref _) (Str.ofString "setdefault") _) _ _ _); k_dflt (refine d_method PySem.F.slot_dict_setdefault PySem.F.type_dict_setdefault (by k_asm) (by k_mem) (by k_asm) ?_)))
  k_with "call builtin:dict.setdefault" => (guard_hyp mk8; (k_here; (with_reducible show wpAny _ _ (call (Value.builtin "dict.setdefault") [Value.ref _, Value.str _ _, Value.ref _]) _ _ _); k_dflt (refine' d_setdefE ?Fq55 ?Nq55 ?Uq55 ?Tq55 ?loq55 ?hbq55 ?_; (case Fq55 => k_asm); (case Nq55 => k_asm); (case Uq55 => k_updF); (case Tq55 => k_asm); (case loq55 => k_asm); (case hbq55 => first | k_asm | omega)); intro h' o' v' F' N' T'; (try dsimp only at N'); (try k_sweep)))
  k_with "subscriptTail" => (guard_hyp mk8; (k_here; (with_reducible show wpAny _ _ (subscriptTail _ _ (Value.ref _) (Value.str _ _)) _ _ _); k_dflt (refine' d_itemE ?Nq56 ?mq56 ?Tq56 ?eq56 ?subq56 ?_; (case Nq56 => k_asm); (case mq56 => k_mem); (case Tq56 => k_asm); (case eq56 => exact upd_at _ _ _); (case subq56 => k_extra "my sub")); intro a' vs' n' hm' hR' hl'))
  k_with "subscriptTail Attribute" => (guard_hyp mk8; (k_here; (with_reducible show wpAny _ _ (subscriptTail _ _ (Value.ref _) (Value.str _ _)) _ _ _); k_dflt (refine kba_turn (value' := PySem.Expr.Name (PySem.Str.ofString "_") ⟨0, 0, 0, 0⟩) (fun _ => rfl) ?_; refine' d_itemE ?Nq57 ?mq57 ?Tq57 ?eq57 ?subq57 ?_; (case Nq57 => k_asm); (case mq57 => k_mem); (case Tq57 => k_asm); (case eq57 => exact upd_at _ _ _); (case subq57 => k_extra "my sub")); intro a' vs' n' hm' hR' hl'))
  k_with "subscriptTail Subscript" => (guard_hyp mk8; (k_here; (with_reducible show wpAny _ _ (subscriptTail _ _ (Value.ref _) (Value.str _ _)) _ _ _); k_dflt (refine kba_turn (value' := PySem.Expr.Name (PySem.Str.ofString "_") ⟨0, 0, 0, 0⟩) (fun _ => rfl) ?_; refine' d_itemE ?Nq58 ?mq58 ?Tq58 ?eq58 ?subq58 ?_; (case Nq58 => k_asm); (case mq58 => k_mem); (case Tq58 => k_asm); (case eq58 => exact upd_at _ _ _); (case subq58 => k_extra "my sub")); intro a' vs' n' hm' hR' hl'))
  k_with "subscriptTail" => (guard_hyp mk8; (k_here; (with_reducible show wpAny _ _ (subscriptTail _ _ (Value.ref _) (Value.int _ _)) _ _ _); k_dflt (refine' item_in ?Nq59 ?mq59 ?Rq59 ?subq59 ?h0q59 ?h1q59 ?hxq59 ?_; (case Nq59 => k_asm); (case mq59 => k_mem); (case Rq59 => k_asm); (case subq59 => k_extra "my sub"); (case h0q59 => omega); (case h1q59 => omega); (case hxq59 => assumption)); intro e' de' q1 q2 t1' t2' t3' t4' n' x' me1 me2))
  k_with "subscriptTail Attribute" => (guard_hyp mk8; (k_here; (with_reducible show wpAny _ _ (subscriptTail _ _ (Value.ref _) (Value.int _ _)) _ _ _); k_dflt (refine kba_turn (value' := PySem.Expr.Name (PySem.Str.ofString "_") ⟨0, 0, 0, 0⟩) (fun _ => rfl) ?_; refine' item_in ?Nq60 ?mq60 ?Rq60 ?subq60 ?h0q60 ?h1q60 ?hxq60 ?_; (case Nq60 => k_asm); (case mq60 => k_mem); (case Rq60 => k_asm); (case subq60 => k_extra "my sub"); (case h0q60 => omega); (case h1q60 => omega); (case hxq60 => assumption)); intro e' de' q1 q2 t1' t2' t3' t4' n' x' me1 me2))
  k_with "subscriptTail Subscript" => (guard_hyp mk8; (k_here; (with_reducible show wpAny _ _ (subscriptTail _ _ (Value.ref _) (Value.int _ _)) _ _ _); k_dflt (refine kba_turn (value' := PySem.Expr.Name (PySem.Str.ofString "_") ⟨0, 0, 0, 0⟩) (fun _ => rfl) ?_; refine' item_in ?Nq61 ?mq61 ?Rq61 ?subq61 ?h0q61 ?h1q61 ?hxq61 ?_; (case Nq61 => k_asm); (case mq61 => k_mem); (case Rq61 => k_asm); (case subq61 => k_extra "my sub"); (case h0q61 => omega); (case h1q61 => omega); (case hxq61 => assumption)); intro e' de' q1 q2 t1' t2' t3' t4' n' x' me1 me2))
  k_with "subscriptTail" => (guard_hyp mk8; (k_here; (with_reducible show wpAny _ _ (subscriptTail _ _ (Value.ref _) (Value.int _ _)) _ _ _); k_dflt (refine' item_out ?Aq62 ?Nq62 ?mq62 ?Rq62 ?h0q62 ?h1q62 ?hxq62 ?_; (case Aq62 => rfl); (case Nq62 => k_asm); (case mq62 => k_mem); (case Rq62 => k_asm); (case h0q62 => omega); (case h1q62 => omega); (case hxq62 => assumption)); intro h' tk' e' x'))
  k_with "subscriptTail Attribute" => (guard_hyp mk8; (k_here; (with_reducible show wpAny _ _ (subscriptTail _ _ (Value.ref _) (Value.int _ _)) _ _ _); k_dflt (refine kba_turn (value' := PySem.Expr.Name (PySem.Str.ofString "_") ⟨0, 0, 0, 0⟩) (fun _ => rfl) ?_; refine' item_out ?Aq63 ?Nq63 ?mq63 ?Rq63 ?h0q63 ?h1q63 ?hxq63 ?_; (case Aq63 => rfl); (case Nq63 => k_asm); (case mq63 => k_mem); (case Rq63 => k_asm); (case h0q63 => omega); (case h1q63 => omega); (case hxq63 => assumption)); intro h' tk' e' x'))
  k_with "subscriptTail Subscript" => (guard_hyp mk8; (k_here; (with_reducible show wpAny _ _ (subscriptTail _ _ (Value.ref _) (Value.int _ _)) _ _ _); k_dflt (refine kba_turn (value' := PySem.Expr.Name (PySem.Str.ofString "_") ⟨0, 0, 0, 0⟩) (fun _ => rfl) ?_; refine' item_out ?Aq64 ?Nq64 ?mq64 ?Rq64 ?h0q64 ?h1q64 ?hxq64 ?_; (case Aq64 => rfl); (case Nq64 => k_asm); (case mq64 => k_mem); (case Rq64 => k_asm); (case h0q64 => omega); (case h1q64 => omega); (case hxq64 => assumption)); intro h' tk' e' x'))
  k_with "noteFrame ref" => (guard_hyp mk8; (k_here; (with_reducible show wpAny _ _ (noteFrame _ _) (fun _ s₂ => wpAny _ _ (setFlight _ none) (fun _ s₃ => wpAny _ _ (handleBy _ _ (ExceptHandler.ExceptHandler (some (Expr.Name ("IndexError" : Str) _)) none _ _ :: _)) _ _ s₃) _ s₂) _ _); k_dflt (refine' caught_here (T' := "IndexError") (X := "IndexError") ?Kq65 ?hxq65 ?Fq65 ?Nq65 ?XBq65 ?TBq65 ?Dq65 ?exq65 PyProof.Rows.Boot.«IndexError» ?hnq65 PySem.F.isExc_IndexError PySem.F.notTuple_IndexError ?hsq65 ?_; (case Kq65 => assumption); (case hxq65 => assumption); (case Fq65 => assumption); (case Nq65 => k_asm); (case XBq65 => assumption); (case TBq65 => assumption); (case Dq65 => assumption); (case hsq65 => kts_sub); (case exq65 => k_is); (case hnq65 => decide); k_whole); intro h' g' T' F' N' K' X' P' D'; (try k_sweep)))
  k_with "call ref" => (guard_hyp mk8; (k_here; (with_reducible show wpAny _ _ (call (Value.ref 551) [Value.int _ _, Value.int _ _] []) _ _ _); k_dflt (refine' Ctr.call (c_mkent) ?Bq66 ?Fq66 ?Xq66 ?Nq66 ?Tq66 rfl rfl rfl rfl ?hdq66 ?huq66 ?_; (case Nq66 => k_asm); (case Bq66 => k_asm); (case Fq66 => k_asm); (case Xq66 => k_asm); (case Tq66 => k_asm); (case hdq66 => k_extra "my room"); (case huq66 => k_extra "my room")); intro v' h' tk' L2' F' N' hp'; (refine hideG ?_); intro G' hG'; (obtain ⟨D', de', q1', q2', u3', u4', u5', n', e1', l1', l2', e2'⟩ := hp'); (refine hG' ?_); (clear hG' G'); subst e1' e2'; (replace l2' := Nat.succ_le_of_lt l2'); (try k_lt l1'); (try k_sweep)))
  k_with "my end6" => (guard_hyp mk8; (refine' StR.mk ?a1q67 ?a2q67 ?a3q67 ?a4q67 ?a5q67; (case a1q67 => k_extra "my end1"); (case a2q67 => k_extra "my end1"); (case a3q67 => k_extra "my end1"); (case a4q67 => k_extra "my tab"); (case a5q67 => k_extra "my fix")))
  k_with "binaryOp Mult ref int" => (guard_hyp mk8; (k_here; (with_reducible show wpAny _ _ (binaryOp _ (Value.ref _) (Value.int _ _)) _ _ _); k_dflt (refine' mul_one ?Fq68 ?Nq68 ?mq68 ?h1q68 ?h2q68 ?_; (case Fq68 => k_asm); (case Nq68 => k_asm); (case mq68 => k_mem); (case h1q68 => omega); (case h2q68 => omega)); intro l' h' F' N' l1'; (try k_lt l1'); (try k_sweep)))
  k_with "binaryOp Add" => (guard_hyp mk8; (k_here; (with_reducible show wpAny _ _ (binaryOp _ (Value.ref _) (Value.ref _)) _ _ _); k_dflt (refine' add_two ?Fq69 ?Nq69 ?mq69 ?m2q69 ?Rq69 ?hjq69 ?hzq69 ?_; (case Fq69 => k_asm); (case Nq69 => k_asm); (case mq69 => k_mem); (case m2q69 => k_mem); (case Rq69 => k_asm); (case hjq69 => omega); (case hzq69 => omega)); intro l' h' F' N' l1'; (try k_lt l1'); (try k_sweep)))
  k_with "setItem ref str" => (guard_hyp mk8; (k_here; (with_reducible show wpAny _ _ (setItem (Value.ref _) (Value.str _ _) (Value.ref _)) _ _ _); k_dflt (refine' d_setA ?Fq70 ?Nq70 ?Uq70 ?hnq70 ?Tabq70 ?hbq70 ?Rq70 ?hjq70 ?_; (case Fq70 => k_asm); (case Nq70 => k_asm); (case hnq70 => exact rfl); (case Uq70 => k_updF); (case Tabq70 => k_asm); (case hbq70 => omega); (case Rq70 => k_asm); (case hjq70 => omega)); intro h' o' F' N' T'; (try dsimp only at N'); (try k_sweep)))
  k_with "my fix" => (guard_hyp mk8; first | assumption | (refine' Fix.push ?_ ?h1q71 ?h2q71 ?h3q71 ?h4q71 ?h5q71; (case h1q71 => (refine Nat.lt_of_succ_le ?_; (try dsimp only); omega)); (case h2q71 => (refine Nat.lt_of_succ_le ?_; (try dsimp only); omega)); (case h3q71 => (refine Nat.lt_of_succ_le ?_; (try dsimp only); omega)); (case h4q71 => (refine Nat.lt_of_succ_le ?_; (try dsimp only); omega)); (case h5q71 => (refine Nat.lt_of_succ_le ?_; (try dsimp only); omega)); k_extra "my fix"))
  exact True.intro
theorem c_acq1 {x : CX} {c : Cf} {σ : St} {b : Nat} {L rest : Led} {key : Str} {tk t1 t2 t3 : Tok} {limit amount : Int} {y : Int} (X0 : Fixed x c) (S : StR x c σ b L rest) (hb : b ≤ 700) (h0 : limit < amount) :
    CtT 5 x 614 [.ref c.st, .str key tk, .int limit t1, .int 10 t2] [(Str.ofString "amount", .int amount t3)] L fun v L' => v = .bool (acqMB σ key limit amount) ∧ ∃ rest', (∀ p ∈ rest, p ∈ rest') ∧ StR x c (acqMS σ key limit amount) (b + 2) L' rest' := by
  have mk8 := True.intro
  have X1 := X0
  obtain ⟨lo1, lo2, lo3, n12, n13, n14, n15, n23, n24, n25, n34, n35, n45, hclk⟩ := X1
  refine open_s S ?_
  clear S
  intro o1 o2 o3 o5 t0 n0 T1 T2 T3 T4 T5
  have T5' := T5
  obtain ⟨m1, m2, m3, m4, m5, a1, a2, a3, a4, a5⟩ := T5'
  have hb1 : b ≤ 800 := by omega
  unfold CtT
  k_fill
  k_dflt (refine' ctrT_enter (binds := [(Str.ofString "self", .ref c.st), (Str.ofString "key", .str key tk), (Str.ofString "limit", .int limit t1), (Str.ofString "expiry", .int 10 t2), (Str.ofString "amount", .int amount t3)]) (mm := fun y => List.lookup y [(Str.ofString "amount", .int amount t3), (Str.ofString "expiry", .int 10 t2), (Str.ofString "limit", .int limit t1), (Str.ofString "key", .str key tk), (Str.ofString "self", .ref c.st)]) ?k6 ?k7 ?k9 ?kB rfl ?_ ?c2 ?c3 ?c4 ?c5 ?c6; (case k6 => k_is); (case k7 => k_is); (case k9 => first | exact fun s _ => BindsTo.of_eq rfl | exact fun s hX => binds_K hX rfl (by k_is) rfl rfl rfl); (case c5 => decide); (case c6 => decide); (case kB => exact locs rfl); (case c2 => exact rfl); (case c3 => exact rfl); (case c4 => exact rfl); k_whole; intro dp un gd outer base g s L' B X T XB TB D F N hdp hun; (try dsimp only [DL] at N); (try dsimp only); (try k_fold))
  k_steps
  · refine' EndT.mk ?Tn ?F ?N ?s ⟨?v, rest, fun _ h => h, ?S⟩
    case Tn => first | assumption | exact KtsTurn.refl
    case F => k_asm
    case N => k_asm
    case s => exact fun p hp => hp
    case v => exact congrArg Value.bool (Eq.symm (acqMB_1 h0))
    case S => (rw [acqMS_1 h0]; k_extra "my end")
end
section
-- c_acq2
theorem lines_c_acq2 : True := by
  k_with "getMethod ref" => (guard_hyp mk9; (k_here; (with_reducible show wpAny _ _ (getMethod (Value.ref _) (Str.ofString "setdefault") _) _ _ _); k_dflt (refine d_method PySem.F.slot_dict_setdefault PySem.F.type_dict_setdefault (by k_asm) (by k_mem) (by k_asm) ?_)))
  k_with "call builtin:dict.setdefault" => (guard_hyp mk9; (k_here; (with_reducible show wpAny _ _ (call (Value.builtin "dict.setdefault") [Value.ref _, Value.str _ _, Value.ref _]) _ _ _); k_dflt (refine' d_setdefE ?Fq73 ?Nq73 ?Uq73 ?Tq73 ?loq73 ?hbq73 ?_; (case Fq73 => k_asm); (case Nq73 => k_asm); (case Uq73 => k_updF); (case Tq73 => k_asm); (case loq73 => k_asm); (case hbq73 => first | k_asm | omega)); intro h' o' v' F' N' T'; (try dsimp only at N'); (try k_sweep)))
  k_with "subscriptTail" => (guard_hyp mk9; (k_here; (with_reducible show wpAny _ _ (subscriptTail _ _ (Value.ref _) (Value.str _ _)) _ _ _); k_dflt (refine' d_itemE ?Nq74 ?mq74 ?Tq74 ?eq74 ?subq74 ?_; (case Nq74 => k_asm); (case mq74 => k_mem); (case Tq74 => k_asm); (case eq74 => exact upd_at _ _ _); (case subq74 => k_extra "my sub")); intro a' vs' n' hm' hR' hl'))
  k_with "subscriptTail Attribute" => (guard_hyp mk9; (k_here; (with_reducible show wpAny _ _ (subscriptTail _ _ (Value.ref _) (Value.str _ _)) _ _ _); k_dflt (refine kba_turn (value' := PySem.Expr.Name (PySem.Str.ofString "_") ⟨0, 0, 0, 0⟩) (fun _ => rfl) ?_; refine' d_itemE ?Nq75 ?mq75 ?Tq75 ?eq75 ?subq75 ?_; (case Nq75 => k_asm); (case mq75 => k_mem); (case Tq75 => k_asm); (case eq75 => exact upd_at _ _ _); (case subq75 => k_extra "my sub")); intro a' vs' n' hm' hR' hl'))
  k_with "subscriptTail Subscript" => (guard_hyp mk9; (k_here; (with_reducible show wpAny _ _ (subscriptTail _ _ (Value.ref _) (Value.str _ _)) _ _ _); k_dflt (refine kba_turn (value' := PySem.Expr.Name (PySem.Str.ofString "_") ⟨0, 0, 0, 0⟩) (fun _ => rfl) ?_; refine' d_itemE ?Nq76 ?mq76 ?Tq76 ?eq76 ?subq76 ?_; (case Nq76 => k_asm); (case mq76 => k_mem); (case Tq76 => k_asm); (case eq76 => exact upd_at _ _ _); (case subq76 => k_extra "my sub")); intro a' vs' n' hm' hR' hl'))
  k_with "subscriptTail" => (guard_hyp mk9; (k_here; (with_reducible show wpAny _ _ (subscriptTail _ _ (Value.ref _) (Value.int _ _)) _ _ _); k_dflt (refine' item_in ?Nq77 ?mq77 ?Rq77 ?subq77 ?h0q77 ?h1q77 ?hxq77 ?_; (case Nq77 => k_asm); (case mq77 => k_mem); (case Rq77 => k_asm); (case subq77 => k_extra "my sub"); (case h0q77 => omega); (case h1q77 => omega); (case hxq77 => assumption)); intro e' de' q1 q2 t1' t2' t3' t4' n' x' me1 me2))
  k_with "subscriptTail Attribute" => (guard_hyp mk9; (k_here; (with_reducible show wpAny _ _ (subscriptTail _ _ (Value.ref _) (Value.int _ _)) _ _ _); k_dflt (refine kba_turn (value' := PySem.Expr.Name (PySem.Str.ofString "_") ⟨0, 0, 0, 0⟩) (fun _ => rfl) ?_; refine' item_in ?Nq78 ?mq78 ?Rq78 ?subq78 ?h0q78 ?h1q78 ?hxq78 ?_; (case Nq78 => k_asm); (case mq78 => k_mem); (case Rq78 => k_asm); (case subq78 => k_extra "my sub"); (case h0q78 => omega); (case h1q78 => omega); (case hxq78 => assumption)); intro e' de' q1 q2 t1' t2' t3' t4' n' x' me1 me2))
  k_with "subscriptTail Subscript" => (guard_hyp mk9; (k_here; (with_reducible show wpAny _ _ (subscriptTail _ _ (Value.ref _) (Value.int _ _)) _ _ _); k_dflt (refine kba_turn (value' := PySem.Expr.Name (PySem.Str.ofString "_") ⟨0, 0, 0, 0⟩) (fun _ => rfl) ?_; refine' item_in ?Nq79 ?mq79 ?Rq79 ?subq79 ?h0q79 ?h1q79 ?hxq79 ?_; (case Nq79 => k_asm); (case mq79 => k_mem); (case Rq79 => k_asm); (case subq79 => k_extra "my sub"); (case h0q79 => omega); (case h1q79 => omega); (case hxq79 => assumption)); intro e' de' q1 q2 t1' t2' t3' t4' n' x' me1 me2))
  k_with "subscriptTail" => (guard_hyp mk9; (k_here; (with_reducible show wpAny _ _ (subscriptTail _ _ (Value.ref _) (Value.int _ _)) _ _ _); k_dflt (refine' item_out ?Aq80 ?Nq80 ?mq80 ?Rq80 ?h0q80 ?h1q80 ?hxq80 ?_; (case Aq80 => rfl); (case Nq80 => k_asm); (case mq80 => k_mem); (case Rq80 => k_asm); (case h0q80 => omega); (case h1q80 => omega); (case hxq80 => assumption)); intro h' tk' e' x'))
  k_with "subscriptTail Attribute" => (guard_hyp mk9; (k_here; (with_reducible show wpAny _ _ (subscriptTail _ _ (Value.ref _) (Value.int _ _)) _ _ _); k_dflt (refine kba_turn (value' := PySem.Expr.Name (PySem.Str.ofString "_") ⟨0, 0, 0, 0⟩) (fun _ => rfl) ?_; refine' item_out ?Aq81 ?Nq81 ?mq81 ?Rq81 ?h0q81 ?h1q81 ?hxq81 ?_; (case Aq81 => rfl); (case Nq81 => k_asm); (case mq81 => k_mem); (case Rq81 => k_asm); (case h0q81 => omega); (case h1q81 => omega); (case hxq81 => assumption)); intro h' tk' e' x'))
  k_with "subscriptTail Subscript" => (guard_hyp mk9; (k_here; (with_reducible show wpAny _ _ (subscriptTail _ _ (Value.ref _) (Value.int _ _)) _ _ _); k_dflt (refine kba_turn (value' := PySem.Expr.Name (PySem.Str.ofString "_") ⟨0, 0, 0, 0⟩) (fun _ => rfl) ?_; refine' item_out ?Aq82 ?Nq82 ?mq82 ?Rq82 ?h0q82 ?h1q82 ?hxq82 ?_; (case Aq82 => rfl); (case Nq82 => k_asm); (case mq82 => k_mem); (case Rq82 => k_asm); (case h0q82 => omega); (case h1q82 => omega); (case hxq82 => assumption)); intro h' tk' e' x'))
  k_with "noteFrame ref" => (guard_hyp mk9; (k_here; (with_reducible show wpAny _ _ (noteFrame _ _) (fun _ s₂ => wpAny _ _ (setFlight _ none) (fun _ s₃ => wpAny _ _ (handleBy _ _ (ExceptHandler.ExceptHandler (some (Expr.Name ("IndexError" : Str) _)) none _ _ :: _)) _ _ s₃) _ s₂) _ _); k_dflt (refine' caught_here (T' := "IndexError") (X := "IndexError") ?Kq83 ?hxq83 ?Fq83 ?Nq83 ?XBq83 ?TBq83 ?Dq83 ?exq83 PyProof.Rows.Boot.«IndexError» ?hnq83 PySem.F.isExc_IndexError PySem.F.notTuple_IndexError ?hsq83 ?_; (case Kq83 => assumption); (case hxq83 => assumption); (case Fq83 => assumption); (case Nq83 => k_asm); (case XBq83 => assumption); (case TBq83 => assumption); (case Dq83 => assumption); (case hsq83 => kts_sub); (case exq83 => k_is); (case hnq83 => decide); k_whole); intro h' g' T' F' N' K' X' P' D'; (try k_sweep)))
  k_with "call ref" => (guard_hyp mk9; (k_here; (with_reducible show wpAny _ _ (call (Value.ref 551) [Value.int _ _, Value.int _ _] []) _ _ _); k_dflt (refine' Ctr.call (c_mkent) ?Bq84 ?Fq84 ?Xq84 ?Nq84 ?Tq84 rfl rfl rfl rfl ?hdq84 ?huq84 ?_; (case Nq84 => k_asm); (case Bq84 => k_asm); (case Fq84 => k_asm); (case Xq84 => k_asm); (case Tq84 => k_asm); (case hdq84 => k_extra "my room"); (case huq84 => k_extra "my room")); intro v' h' tk' L2' F' N' hp'; (refine hideG ?_); intro G' hG'; (obtain ⟨D', de', q1', q2', u3', u4', u5', n', e1', l1', l2', e2'⟩ := hp'); (refine hG' ?_); (clear hG' G'); subst e1' e2'; (replace l2' := Nat.succ_le_of_lt l2'); (try k_lt l1'); (try k_sweep)))
  k_with "my end6" => (guard_hyp mk9; (refine' StR.mk ?a1q85 ?a2q85 ?a3q85 ?a4q85 ?a5q85; (case a1q85 => k_extra "my end1"); (case a2q85 => k_extra "my end1"); (case a3q85 => k_extra "my end1"); (case a4q85 => k_extra "my tab"); (case a5q85 => k_extra "my fix")))
  k_with "binaryOp Mult ref int" => (guard_hyp mk9; (k_here; (with_reducible show wpAny _ _ (binaryOp _ (Value.ref _) (Value.int _ _)) _ _ _); k_dflt (refine' mul_one ?Fq86 ?Nq86 ?mq86 ?h1q86 ?h2q86 ?_; (case Fq86 => k_asm); (case Nq86 => k_asm); (case mq86 => k_mem); (case h1q86 => omega); (case h2q86 => omega)); intro l' h' F' N' l1'; (try k_lt l1'); (try k_sweep)))
  k_with "binaryOp Add" => (guard_hyp mk9; (k_here; (with_reducible show wpAny _ _ (binaryOp _ (Value.ref _) (Value.ref _)) _ _ _); k_dflt (refine' add_two ?Fq87 ?Nq87 ?mq87 ?m2q87 ?Rq87 ?hjq87 ?hzq87 ?_; (case Fq87 => k_asm); (case Nq87 => k_asm); (case mq87 => k_mem); (case m2q87 => k_mem); (case Rq87 => k_asm); (case hjq87 => omega); (case hzq87 => omega)); intro l' h' F' N' l1'; (try k_lt l1'); (try k_sweep)))
  k_with "setItem ref str" => (guard_hyp mk9; (k_here; (with_reducible show wpAny _ _ (setItem (Value.ref _) (Value.str _ _) (Value.ref _)) _ _ _); k_dflt (refine' d_setA ?Fq88 ?Nq88 ?Uq88 ?hnq88 ?Tabq88 ?hbq88 ?Rq88 ?hjq88 ?_; (case Fq88 => k_asm); (case Nq88 => k_asm); (case hnq88 => exact rfl); (case Uq88 => k_updF); (case Tabq88 => k_asm); (case hbq88 => omega); (case Rq88 => k_asm); (case hjq88 => omega)); intro h' o' F' N' T'; (try dsimp only at N'); (try k_sweep)))
  k_with "my fix" => (guard_hyp mk9; first | assumption | (refine' Fix.push ?_ ?h1q89 ?h2q89 ?h3q89 ?h4q89 ?h5q89; (case h1q89 => (refine Nat.lt_of_succ_le ?_; (try dsimp only); omega)); (case h2q89 => (refine Nat.lt_of_succ_le ?_; (try dsimp only); omega)); (case h3q89 => (refine Nat.lt_of_succ_le ?_; (try dsimp only); omega)); (case h4q89 => (refine Nat.lt_of_succ_le ?_; (try dsimp only); omega)); (case h5q89 => (refine Nat.lt_of_succ_le ?_; (try dsimp only); omega)); k_extra "my fix"))
  exact True.intro
theorem c_acq2 {x : CX} {c : Cf} {σ : St} {b : Nat} {L rest : Led} {key : Str} {tk t1 t2 t3 : Tok} {limit amount : Int} {y : Int} (X0 : Fixed x c) (S : StR x c σ b L rest) (hb : b ≤ 700) (h0 : ¬ limit < amount) (h1 : 1 ≤ amount) (h2 : limit ≤ 8) (hlen : ((σ.ev key).getD []).length ≤ 900) (hx : ((σ.ev key).getD [])[(limit - amount).toNat]? = some y) :
    CtT 5 x 614 [.ref c.st, .str key tk, .int limit t1, .int 10 t2] [(Str.ofString "amount", .int amount t3)] L fun v L' => v = .bool (acqMB σ key limit amount) ∧ ∃ rest', (∀ p ∈ rest, p ∈ rest') ∧ StR x c (acqMS σ key limit amount) (b + 2) L' rest' := by
  have mk9 := True.intro
  have X1 := X0
  obtain ⟨lo1, lo2, lo3, n12, n13, n14, n15, n23, n24, n25, n34, n35, n45, hclk⟩ := X1
  refine open_s S ?_
  clear S
  intro o1 o2 o3 o5 t0 n0 T1 T2 T3 T4 T5
  have T5' := T5
  obtain ⟨m1, m2, m3, m4, m5, a1, a2, a3, a4, a5⟩ := T5'
  have hb1 : b ≤ 800 := by omega
  unfold CtT
  k_fill
  k_dflt (refine' ctrT_enter (binds := [(Str.ofString "self", .ref c.st), (Str.ofString "key", .str key tk), (Str.ofString "limit", .int limit t1), (Str.ofString "expiry", .int 10 t2), (Str.ofString "amount", .int amount t3)]) (mm := fun y => List.lookup y [(Str.ofString "amount", .int amount t3), (Str.ofString "expiry", .int 10 t2), (Str.ofString "limit", .int limit t1), (Str.ofString "key", .str key tk), (Str.ofString "self", .ref c.st)]) ?k6 ?k7 ?k9 ?kB rfl ?_ ?c2 ?c3 ?c4 ?c5 ?c6; (case k6 => k_is); (case k7 => k_is); (case k9 => first | exact fun s _ => BindsTo.of_eq rfl | exact fun s hX => binds_K hX rfl (by k_is) rfl rfl rfl); (case c5 => decide); (case c6 => decide); (case kB => exact locs rfl); (case c2 => exact rfl); (case c3 => exact rfl); (case c4 => exact rfl); k_whole; intro dp un gd outer base g s L' B X T XB TB D F N hdp hun; (try dsimp only [DL] at N); (try dsimp only); (try k_fold))
  k_steps
  · refine' EndT.mk ?Tn ?F ?N ?s ⟨?v, _ :: rest, fun _ h => .tail _ (h), ?S⟩
    case Tn => first | assumption | exact KtsTurn.refl
    case F => k_asm
    case N => k_asm
    case s => exact sub1
    case v => exact congrArg Value.bool (Eq.symm (acqMB_2 hx (by assumption)))
    case S => (rw [acqMS_2 h0 hx (by assumption)]; k_extra "my end6")
  · refine' EndT.mk ?Tn ?F ?N ?s ⟨?v, _ :: _ :: _ :: _ :: _ :: _ :: rest, fun _ h => .tail _ (.tail _ (.tail _ (.tail _ (.tail _ (.tail _ (h)))))), ?S⟩
    case Tn => first | assumption | exact KtsTurn.refl
    case F => k_asm
    case N => k_asm
    case s => exact sub6
    case v => exact congrArg Value.bool (Eq.symm (acqMB_3 h0 hx (by assumption)))
    case S => (rw [acqMS_3 h0 hx (by assumption)]; k_extra "my end6")
end
section
-- c_acq3
theorem lines_c_acq3 : True := by
  k_with "getMethod ref" => (guard_hyp mk10; (k_here; (with_reducible show wpAny _ _ (getMethod (Value.ref _) (Str.ofString "setdefault") _) _ _ _); k_dflt (refine d_method PySem.F.slot_dict_setdefault PySem.F.type_dict_setdefault (by k_asm) (by k_mem) (by k_asm) ?_)))
  k_with "call builtin:dict.setdefault" => (guard_hyp mk10; (k_here; (with_reducible show wpAny _ _ (call (Value.builtin "dict.setdefault") [Value.ref _, Value.str _ _, Value.ref _]) _ _ _); k_dflt (refine' d_setdefE ?Fq91 ?Nq91 ?Uq91 ?Tq91 ?loq91 ?hbq91 ?_; (case Fq91 => k_asm); (case Nq91 => k_asm); (case Uq91 => k_updF); (case Tq91 => k_asm); (case loq91 => k_asm); (case hbq91 => first | k_asm | omega)); intro h' o' v' F' N' T'; (try dsimp only at N'); (try k_sweep)))
  k_with "subscriptTail" => (guard_hyp mk10; (k_here; (with_reducible show wpAny _ _ (subscriptTail _ _ (Value.ref _) (Value.str _ _)) _ _ _); k_dflt (refine' d_itemE ?Nq92 ?mq92 ?Tq92 ?eq92 ?subq92 ?_; (case Nq92 => k_asm); (case mq92 => k_mem); (case Tq92 => k_asm); (case eq92 => exact upd_at _ _ _); (case subq92 => k_extra "my sub")); intro a' vs' n' hm' hR' hl'))
  k_with "subscriptTail Attribute" => (guard_hyp mk10; (k_here; (with_reducible show wpAny _ _ (subscriptTail _ _ (Value.ref _) (Value.str _ _)) _ _ _); k_dflt (refine kba_turn (value' := PySem.Expr.Name (PySem.Str.ofString "_") ⟨0, 0, 0, 0⟩) (fun _ => rfl) ?_; refine' d_itemE ?Nq93 ?mq93 ?Tq93 ?eq93 ?subq93 ?_; (case Nq93 => k_asm); (case mq93 => k_mem); (case Tq93 => k_asm); (case eq93 => exact upd_at _ _ _); (case subq93 => k_extra "my sub")); intro a' vs' n' hm' hR' hl'))
  k_with "subscriptTail Subscript" => (guard_hyp mk10; (k_here; (with_reducible show wpAny _ _ (subscriptTail _ _ (Value.ref _) (Value.str _ _)) _ _ _); k_dflt (refine kba_turn (value' := PySem.Expr.Name (PySem.Str.ofString "_") ⟨0, 0, 0, 0⟩) (fun _ => rfl) ?_; refine' d_itemE ?Nq94 ?mq94 ?Tq94 ?eq94 ?subq94 ?_; (case Nq94 => k_asm); (case mq94 => k_mem); (case Tq94 => k_asm); (case eq94 => exact upd_at _ _ _); (case subq94 => k_extra "my sub")); intro a' vs' n' hm' hR' hl'))
  k_with "subscriptTail" => (guard_hyp mk10; (k_here; (with_reducible show wpAny _ _ (subscriptTail _ _ (Value.ref _) (Value.int _ _)) _ _ _); k_dflt (refine' item_in ?Nq95 ?mq95 ?Rq95 ?subq95 ?h0q95 ?h1q95 ?hxq95 ?_; (case Nq95 => k_asm); (case mq95 => k_mem); (case Rq95 => k_asm); (case subq95 => k_extra "my sub"); (case h0q95 => omega); (case h1q95 => omega); (case hxq95 => assumption)); intro e' de' q1 q2 t1' t2' t3' t4' n' x' me1 me2))
  k_with "subscriptTail Attribute" => (guard_hyp mk10; (k_here; (with_reducible show wpAny _ _ (subscriptTail _ _ (Value.ref _) (Value.int _ _)) _ _ _); k_dflt (refine kba_turn (value' := PySem.Expr.Name (PySem.Str.ofString "_") ⟨0, 0, 0, 0⟩) (fun _ => rfl) ?_; refine' item_in ?Nq96 ?mq96 ?Rq96 ?subq96 ?h0q96 ?h1q96 ?hxq96 ?_; (case Nq96 => k_asm); (case mq96 => k_mem); (case Rq96 => k_asm); (case subq96 => k_extra "my sub"); (case h0q96 => omega); (case h1q96 => omega); (case hxq96 => assumption)); intro e' de' q1 q2 t1' t2' t3' t4' n' x' me1 me2))
  k_with "subscriptTail Subscript" => (guard_hyp mk10; (k_here; (with_reducible show wpAny _ _ (subscriptTail _ _ (Value.ref _) (Value.int _ _)) _ _ _); k_dflt (refine kba_turn (value' := PySem.Expr.Name (PySem.Str.ofString "_") ⟨0, 0, 0, 0⟩) (fun _ => rfl) ?_; refine' item_in ?Nq97 ?mq97 ?Rq97 ?subq97 ?h0q97 ?h1q97 ?hxq97 ?_; (case Nq97 => k_asm); (case mq97 => k_mem); (case Rq97 => k_asm); (case subq97 => k_extra "my sub"); (case h0q97 => omega); (case h1q97 => omega); (case hxq97 => assumption)); intro e' de' q1 q2 t1' t2' t3' t4' n' x' me1 me2))
  k_with "subscriptTail" => (guard_hyp mk10; (k_here; (with_reducible show wpAny _ _ (subscriptTail _ _ (Value.ref _) (Value.int _ _)) _ _ _); k_dflt (refine' item_out ?Aq98 ?Nq98 ?mq98 ?Rq98 ?h0q98 ?h1q98 ?hxq98 ?_; (case Aq98 => rfl); (case Nq98 => k_asm); (case mq98 => k_mem); (case Rq98 => k_asm); (case h0q98 => omega); (case h1q98 => omega); (case hxq98 => assumption)); intro h' tk' e' x'))
  k_with "subscriptTail Attribute" => (guard_hyp mk10; (k_here; (with_reducible show wpAny _ _ (subscriptTail _ _ (Value.ref _) (Value.int _ _)) _ _ _); k_dflt (refine kba_turn (value' := PySem.Expr.Name (PySem.Str.ofString "_") ⟨0, 0, 0, 0⟩) (fun _ => rfl) ?_; refine' item_out ?Aq99 ?Nq99 ?mq99 ?Rq99 ?h0q99 ?h1q99 ?hxq99 ?_; (case Aq99 => rfl); (case Nq99 => k_asm); (case mq99 => k_mem); (case Rq99 => k_asm); (case h0q99 => omega); (case h1q99 => omega); (case hxq99 => assumption)); intro h' tk' e' x'))
  k_with "subscriptTail Subscript" => (guard_hyp mk10; (k_here; (with_reducible show wpAny _ _ (subscriptTail _ _ (Value.ref _) (Value.int _ _)) _ _ _); k_dflt (refine kba_turn (value' := PySem.Expr.Name (PySem.Str.ofString "_") ⟨0, 0, 0, 0⟩) (fun _ => rfl) ?_; refine' item_out ?Aq100 ?Nq100 ?mq100 ?Rq100 ?h0q100 ?h1q100 ?hxq100 ?_; (case Aq100 => rfl); (case Nq100 => k_asm); (case mq100 => k_mem); (case Rq100 => k_asm); (case h0q100 => omega); (case h1q100 => omega); (case hxq100 => assumption)); intro h' tk' e' x'))
  k_with "noteFrame ref" => (guard_hyp mk10; (k_here; (with_reducible show wpAny _ _ (noteFrame _ _) (fun _ s₂ => wpAny _ _ (setFlight _ none) (fun _ s₃ => wpAny _ _ (handleBy _ _ (ExceptHandler.ExceptHandler (some (Expr.Name ("IndexError" : Str) _)) none _ _ :: _)) _ _ s₃) _ s₂) _ _); k_dflt (refine' caught_here (T' := "IndexError") (X := "IndexError") ?Kq101 ?hxq101 ?Fq101 ?Nq101 ?XBq101 ?TBq101 ?Dq101 ?exq101 PyProof.Rows.Boot.«IndexError» ?hnq101 PySem.F.isExc_IndexError PySem.F.notTuple_IndexError ?hsq101 ?_; (case Kq101 => assumption); (case hxq101 => assumption); (case Fq101 => assumption); (case Nq101 => k_asm); (case XBq101 => assumption); (case TBq101 => assumption); (case Dq101 => assumption); (case hsq101 => kts_sub); (case exq101 => k_is); (case hnq101 => decide); k_whole); intro h' g' T' F' N' K' X' P' D'; (try k_sweep)))
  k_with "call ref" => (guard_hyp mk10; (k_here; (with_reducible show wpAny _ _ (call (Value.ref 551) [Value.int _ _, Value.int _ _] []) _ _ _); k_dflt (refine' Ctr.call (c_mkent) ?Bq102 ?Fq102 ?Xq102 ?Nq102 ?Tq102 rfl rfl rfl rfl ?hdq102 ?huq102 ?_; (case Nq102 => k_asm); (case Bq102 => k_asm); (case Fq102 => k_asm); (case Xq102 => k_asm); (case Tq102 => k_asm); (case hdq102 => k_extra "my room"); (case huq102 => k_extra "my room")); intro v' h' tk' L2' F' N' hp'; (refine hideG ?_); intro G' hG'; (obtain ⟨D', de', q1', q2', u3', u4', u5', n', e1', l1', l2', e2'⟩ := hp'); (refine hG' ?_); (clear hG' G'); subst e1' e2'; (replace l2' := Nat.succ_le_of_lt l2'); (try k_lt l1'); (try k_sweep)))
  k_with "my end6" => (guard_hyp mk10; (refine' StR.mk ?a1q103 ?a2q103 ?a3q103 ?a4q103 ?a5q103; (case a1q103 => k_extra "my end1"); (case a2q103 => k_extra "my end1"); (case a3q103 => k_extra "my end1"); (case a4q103 => k_extra "my tab"); (case a5q103 => k_extra "my fix")))
  k_with "binaryOp Mult ref int" => (guard_hyp mk10; (k_here; (with_reducible show wpAny _ _ (binaryOp _ (Value.ref _) (Value.int _ _)) _ _ _); k_dflt (refine' mul_one ?Fq104 ?Nq104 ?mq104 ?h1q104 ?h2q104 ?_; (case Fq104 => k_asm); (case Nq104 => k_asm); (case mq104 => k_mem); (case h1q104 => omega); (case h2q104 => omega)); intro l' h' F' N' l1'; (try k_lt l1'); (try k_sweep)))
  k_with "binaryOp Add" => (guard_hyp mk10; (k_here; (with_reducible show wpAny _ _ (binaryOp _ (Value.ref _) (Value.ref _)) _ _ _); k_dflt (refine' add_two ?Fq105 ?Nq105 ?mq105 ?m2q105 ?Rq105 ?hjq105 ?hzq105 ?_; (case Fq105 => k_asm); (case Nq105 => k_asm); (case mq105 => k_mem); (case m2q105 => k_mem); (case Rq105 => k_asm); (case hjq105 => omega); (case hzq105 => omega)); intro l' h' F' N' l1'; (try k_lt l1'); (try k_sweep)))
  k_with "setItem ref str" => (guard_hyp mk10; (k_here; (with_reducible show wpAny _ _ (setItem (Value.ref _) (Value.str _ _) (Value.ref _)) _ _ _); k_dflt (refine' d_setA ?Fq106 ?Nq106 ?Uq106 ?hnq106 ?Tabq106 ?hbq106 ?Rq106 ?hjq106 ?_; (case Fq106 => k_asm); (case Nq106 => k_asm); (case hnq106 => exact rfl); (case Uq106 => k_updF); (case Tabq106 => k_asm); (case hbq106 => omega); (case Rq106 => k_asm); (case hjq106 => omega)); intro h' o' F' N' T'; (try dsimp only at N'); (try k_sweep)))
  k_with "my fix" => (guard_hyp mk10; first | assumption | (refine' Fix.push ?_ ?h1q107 ?h2q107 ?h3q107 ?h4q107 ?h5q107; (case h1q107 => (refine Nat.lt_of_succ_le ?_; (try dsimp only); omega)); (case h2q107 => (refine Nat.lt_of_succ_le ?_; (try dsimp only); omega)); (case h3q107 => (refine Nat.lt_of_succ_le ?_; (try dsimp only); omega)); (case h4q107 => (refine Nat.lt_of_succ_le ?_; (try dsimp only); omega)); (case h5q107 => (refine Nat.lt_of_succ_le ?_; (try dsimp only); omega)); k_extra "my fix"))
  exact True.intro
theorem c_acq3 {x : CX} {c : Cf} {σ : St} {b : Nat} {L rest : Led} {key : Str} {tk t1 t2 t3 : Tok} {limit amount : Int} {y : Int} (X0 : Fixed x c) (S : StR x c σ b L rest) (hb : b ≤ 700) (h0 : ¬ limit < amount) (h1 : 1 ≤ amount) (h2 : limit ≤ 8) (hlen : ((σ.ev key).getD []).length ≤ 900) (hx : ((σ.ev key).getD [])[(limit - amount).toNat]? = none) :
    CtT 5 x 614 [.ref c.st, .str key tk, .int limit t1, .int 10 t2] [(Str.ofString "amount", .int amount t3)] L fun v L' => v = .bool (acqMB σ key limit amount) ∧ ∃ rest', (∀ p ∈ rest, p ∈ rest') ∧ StR x c (acqMS σ key limit amount) (b + 2) L' rest' := by
  have mk10 := True.intro
  have X1 := X0
  obtain ⟨lo1, lo2, lo3, n12, n13, n14, n15, n23, n24, n25, n34, n35, n45, hclk⟩ := X1
  refine open_s S ?_
  clear S
  intro o1 o2 o3 o5 t0 n0 T1 T2 T3 T4 T5
  have T5' := T5
  obtain ⟨m1, m2, m3, m4, m5, a1, a2, a3, a4, a5⟩ := T5'
  have hb1 : b ≤ 800 := by omega
  unfold CtT
  k_fill
  k_dflt (refine' ctrT_enter (binds := [(Str.ofString "self", .ref c.st), (Str.ofString "key", .str key tk), (Str.ofString "limit", .int limit t1), (Str.ofString "expiry", .int 10 t2), (Str.ofString "amount", .int amount t3)]) (mm := fun y => List.lookup y [(Str.ofString "amount", .int amount t3), (Str.ofString "expiry", .int 10 t2), (Str.ofString "limit", .int limit t1), (Str.ofString "key", .str key tk), (Str.ofString "self", .ref c.st)]) ?k6 ?k7 ?k9 ?kB rfl ?_ ?c2 ?c3 ?c4 ?c5 ?c6; (case k6 => k_is); (case k7 => k_is); (case k9 => first | exact fun s _ => BindsTo.of_eq rfl | exact fun s hX => binds_K hX rfl (by k_is) rfl rfl rfl); (case c5 => decide); (case c6 => decide); (case kB => exact locs rfl); (case c2 => exact rfl); (case c3 => exact rfl); (case c4 => exact rfl); k_whole; intro dp un gd outer base g s L' B X T XB TB D F N hdp hun; (try dsimp only [DL] at N); (try dsimp only); (try k_fold))
  k_steps
  · refine' EndT.mk ?Tn ?F ?N ?s ⟨?v, _ :: _ :: _ :: _ :: _ :: _ :: rest, fun _ h => .tail _ (.tail _ (.tail _ (.tail _ (.tail _ (.tail _ (h)))))), ?S⟩
    case Tn => first | assumption | exact KtsTurn.refl
    case F => k_asm
    case N => k_asm
    case s => exact sub6
    case v => exact congrArg Value.bool (Eq.symm (acqMB_4 h0 hx))
    case S => (rw [acqMS_4 h0 hx]; k_extra "my end6")
end
section
-- Lim
/-- an item of am in ten seconds, as the ledger bears it -/
inductive ItemAt (rest : Led) (it : Addr) (am : Int) : Prop
  | mk (dit : Addr) (e1 e2 e3 : Int) (t1 t2 t3 t4 t5 t6 : Tok) (n0 : Nat) (a : (it, instObj 501 dit) ∈ rest) (b : (dit, dictOf [⟨e1, .str (Str.ofString "namespace") t1, .str (Str.ofString "LIMITER") t2⟩, ⟨e2, .str (Str.ofString "amount") t3, .int am t4⟩, ⟨e3, .str (Str.ofString "multiples") t5, .int 10 t6⟩] n0) ∈ rest) : ItemAt rest it am
theorem ItemAt.mono {rest rest' : Led} {it : Addr} {am : Int} (h : ItemAt rest it am) (hs : ∀ p ∈ rest, p ∈ rest') : ItemAt rest' it am := by
  obtain ⟨dit, e1, e2, e3, t1, t2, t3, t4, t5, t6, n0, a, b⟩ := h
  exact ⟨dit, e1, e2, e3, t1, t2, t3, t4, t5, t6, n0, hs _ a, hs _ b⟩
/-- a limiter of class C over a store -/
inductive LimAt (rest : Led) (C lim st : Addr) : Prop
  | mk (dl : Addr) (e : Int) (t : Tok) (n : Nat) (a : (lim, instObj C dl) ∈ rest) (b : (dl, dictOf [⟨e, .str (Str.ofString "storage") t, .ref st⟩] n) ∈ rest) : LimAt rest C lim st
theorem LimAt.mono {rest rest' : Led} {C lim st : Addr} (h : LimAt rest C lim st) (hs : ∀ p ∈ rest, p ∈ rest') : LimAt rest' C lim st := by
  obtain ⟨dl, e, t, n, a, b⟩ := h
  exact ⟨dl, e, t, n, hs _ a, hs _ b⟩
/-- identifiers whose key, with the item, is key -/
def NameAt (x : CX) (rest : Led) (it tu : Addr) (key : Str) : Prop := ∀ L, (∀ p ∈ rest, p ∈ L) → Ct 4 x 458 [.ref it, .ref tu] [] L fun v L' => L' = L ∧ ∃ t, v = .str key t
theorem NameAt.mono {x : CX} {rest rest' : Led} {it tu : Addr} {key : Str} (h : NameAt x rest it tu key) (hs : ∀ p ∈ rest, p ∈ rest') : NameAt x rest' it tu key := fun L hL => h L fun p hp => hL p (hs p hp)
theorem NameAt.use {x : CX} {rest L : Led} {it tu : Addr} {key : Str} (h : NameAt x rest it tu key) (hs : ∀ p ∈ rest, p ∈ L) : Ct 4 x 458 [.ref it, .ref tu] [] L fun v L' => L' = L ∧ ∃ t, v = .str key t := h L hs
theorem exp_of {x : CX} {L : Led} {it dit : Addr} {e1 e2 e3 am : Int} {t1 t2 t3 t4 t5 t6 : Tok} {n0 : Nat} (m1 : (it, instObj 501 dit) ∈ L) (m2 : (dit, dictOf [⟨e1, .str (Str.ofString "namespace") t1, .str (Str.ofString "LIMITER") t2⟩, ⟨e2, .str (Str.ofString "amount") t3, .int am t4⟩, ⟨e3, .str (Str.ofString "multiples") t5, .int 10 t6⟩] n0) ∈ L) :
    Ct 3 x 451 [.ref it] [] L fun v L' => L' = L ∧ ∃ t, v = .int 10 t := c_iexp m1 m2
theorem Ct.mono {n : Nat} {x : CX} {f : Addr} {args : List Value} {kw : List (Str × Value)} {need : Led} {post post' : Value → Led → Prop} (C : Ct n x f args kw need post) (h : ∀ v L, post v L → post' v L) : Ct n x f args kw need post' := Ctr.mono C h
/-- what a moving window tells: since when, how many -/
def GmwOk (σ : St) (key : Str) (st : Int) (n : Int) : Prop := ((σ.ev key).getD [] = [] ∧ st = σ.now ∧ n = 0) ∨
  ∃ ts, ∃ j : Nat, σ.ev key = some ts ∧ 1 ≤ j ∧ j ≤ ts.length ∧ ts[((j : Int) - 1).toNat]? = some st ∧ (∀ (i : Nat) t, ts[i]? = some t → (-t < -(σ.now - 10) ↔ i < j)) ∧ n = (j : Int)
theorem c_gmw {x : CX} {c : Cf} {σ : St} {b : Nat} {L rest : Led} {key : Str} {tk t1 t2 : Tok} {limit st n : Int} (X0 : Fixed x c) (S : StR x c σ b L rest) (hb : b ≤ 800) (hg : GmwOk σ key st n) :
    Ct 4 x 628 [.ref c.st, .str key tk, .int limit t1, .int 10 t2] [] L fun v L' => ∃ D t1 t2 rest', v = .ref D ∧ (∀ p ∈ rest, p ∈ rest') ∧ (D, tupO #[.int st t1, .int n t2]) ∈ rest' ∧ StR x c σ b L' rest' := by
  rcases hg with ⟨h1, h2, h3⟩ | ⟨ts, j, h1, h2, h3, h4, h5, h6⟩
  · subst h2 h3
    exact c_gmw0 (ts := []) (y := 0) (j := 0) X0 S hb h1
  · subst h6
    exact c_gmw1 X0 S hb h1 h2 h3 h4 h5
theorem c_acq {x : CX} {c : Cf} {σ : St} {b : Nat} {L rest : Led} {key : Str} {tk t1 t2 t3 : Tok} {limit amount : Int} (X0 : Fixed x c) (S : StR x c σ b L rest) (hb : b ≤ 700) (h1 : 1 ≤ amount) (h2 : limit ≤ 8) (hlen : ((σ.ev key).getD []).length ≤ 900) :
    CtT 5 x 614 [.ref c.st, .str key tk, .int limit t1, .int 10 t2] [(Str.ofString "amount", .int amount t3)] L fun v L' => v = .bool (acqMB σ key limit amount) ∧ ∃ rest', (∀ p ∈ rest, p ∈ rest') ∧ StR x c (acqMS σ key limit amount) (b + 2) L' rest' := by
  by_cases h0 : limit < amount
  · exact c_acq1 (y := 0) X0 S hb h0
  · cases hx : ((σ.ev key).getD [])[(limit - amount).toNat]? with
    | none => exact c_acq3 (y := 0) X0 S hb h0 h1 h2 hlen hx
    | some y => exact c_acq2 X0 S hb h0 h1 h2 hlen hx
theorem in_of {K : Frag} {h₀ h : Heap} {L : Addr} {m : Str → Option Value} (F : Fr h₀ L h m) (X : K.In h₀) : K.In h := X.keeps F.keep
theorem up1 {rest r : Led} {q1 : Addr × Obj} (h : ∀ p ∈ rest, p ∈ r) : ∀ p ∈ rest, p ∈ q1 :: r := fun p hp => .tail _ (h p hp)
theorem up2 {rest r : Led} {q1 q2 : Addr × Obj} (h : ∀ p ∈ rest, p ∈ r) : ∀ p ∈ rest, p ∈ q1 :: q2 :: r := up1 (up1 h)
theorem up3 {rest r : Led} {q1 q2 q3 : Addr × Obj} (h : ∀ p ∈ rest, p ∈ r) : ∀ p ∈ rest, p ∈ q1 :: q2 :: q3 :: r := up1 (up2 h)
theorem up4 {rest r : Led} {q1 q2 q3 q4 : Addr × Obj} (h : ∀ p ∈ rest, p ∈ r) : ∀ p ∈ rest, p ∈ q1 :: q2 :: q3 :: q4 :: r := up1 (up3 h)
/-- the reset of a sliding counter, as a fraction -/
def swRin (pc pt cc ct : Int) : Int := if cc = 0 then (pt * pc).fmod 10 else if ct.fmod 10 * pc < (pt * pc).fmod 10 then ct.fmod 10 * pc else (pt * pc).fmod 10
def swR0 (now pc pt cc ct : Int) : Int × Int := if pc = 0 then (if cc = 0 then (now, 1) else (now + ct.fmod 10, 1)) else (now * pc + swRin pc pt cc ct, pc)
def swR (σ : St) (key : Str) : Int × Int := swR0 σ.now (getV σ (pKey σ key)) (infoT σ (pKey σ key) σ.now) (getV (getS σ (pKey σ key)) (cKey σ key)) (infoC σ.now)
theorem infS_now (σ : St) (key : Str) : (infS σ key).now = σ.now := by unfold infS get2S; rw [getS_now, getS_now]
end
section
-- View
def updI {α : Type} (f : Str → α) (k : Str) (x : α) : Str → α := fun y => if y = k then x else f y
/-- what can be told of a store: counts, ends, windows, the time -/
structure Vw where
  n : Str → Int
  e : Str → Int
  m : Str → List Int
  now : Int
def view (σ : St) : Vw := ⟨getV σ, fun k => expV (getS σ k) k, evL σ, σ.now⟩
def Vw.incr (v : Vw) (k : Str) (x a : Int) : Vw := { v with n := updI v.n k (v.n k + a), e := if v.n k = 0 then updI v.e k (v.now + x) else v.e }
def Vw.clear (v : Vw) (k : Str) : Vw := { v with n := updI v.n k 0, e := updI v.e k v.now, m := updI v.m k [] }
def Vw.reset (v : Vw) : Vw := { v with n := fun _ => 0, e := fun _ => v.now, m := fun _ => [] }
def Vw.acqB (v : Vw) (k : Str) (limit amount : Int) : Bool := !decide (limit < amount) && (match (v.m k)[(limit - amount).toNat]? with | some t => !decide (v.now - 10 ≤ t) | none => true)
def Vw.acq (v : Vw) (k : Str) (limit amount : Int) : Vw := if v.acqB k limit amount then { v with m := updI v.m k (List.replicate amount.toNat v.now ++ v.m k) } else v
def Vw.adv (v : Vw) (d : Int) : Vw := ⟨fun k => if v.e k ≤ v.now + d then 0 else v.n k, fun k => if v.e k ≤ v.now + d then v.now + d else v.e k, v.m, v.now + d⟩
def Vw.pk (v : Vw) (k : Str) : Str := skey k ((v.now - 10).fdiv 10)
def Vw.ck (v : Vw) (k : Str) : Str := skey k (v.now.fdiv 10)
def Vw.ttl (v : Vw) (k : Str) : Int := if v.n (v.pk k) = 0 then 0 else 10 - (v.now - 10).fmod 10
def Vw.wtd (v : Vw) (k : Str) : Int := (v.n (v.pk k) * v.ttl k).fdiv 10 + v.n (v.ck k)
def Vw.acqSB (v : Vw) (k : Str) (limit amount : Int) : Bool := !decide (amount > limit) && !decide (v.wtd k + amount > limit)
def Vw.acqS (v : Vw) (k : Str) (limit amount : Int) : Vw := if v.acqSB k limit amount then v.incr (v.ck k) 20 amount else v
def Vw.swR (v : Vw) (k : Str) : Int × Int := swR0 v.now (v.n (v.pk k)) (v.ttl k) (v.n (v.ck k)) (infoC v.now)
theorem expV_eq {σ : St} {k : Str} (h : 0 ≤ σ.now) : expV (getS σ k) k = if (σ.ex k).getD 0 ≤ σ.now then σ.now else (σ.ex k).getD 0 := by
  by_cases q : (σ.ex k).getD 0 ≤ σ.now
  · simp [expV, getS, q, upd_at]
  · simp only [expV, getS, q, if_false]
    cases e : σ.ex k with
    | none => rw [e] at q; exact absurd h q
    | some y => rfl
theorem view_e {σ : St} (h : 0 ≤ σ.now) (k : Str) : (view σ).e k = if (σ.ex k).getD 0 ≤ σ.now then σ.now else (σ.ex k).getD 0 := expV_eq h
theorem view_n (σ : St) (k : Str) : (view σ).n k = if (σ.ex k).getD 0 ≤ σ.now then 0 else (σ.cnt k).getD 0 := getV_eq σ k
theorem Vw.ext' {v w : Vw} (h1 : ∀ k, v.n k = w.n k) (h2 : ∀ k, v.e k = w.e k) (h3 : ∀ k, v.m k = w.m k) (h4 : v.now = w.now) : v = w := by
  cases v; cases w
  simp only at h1 h2 h3 h4
  have := funext h1; have := funext h2; have := funext h3
  subst_vars; rfl
theorem view_get {σ : St} (h : 0 ≤ σ.now) (k : Str) : view (getS σ k) = view σ := by
  have h' : 0 ≤ (getS σ k).now := by rw [getS_now]; exact h
  refine Vw.ext' (fun y => ?_) (fun y => ?_) (fun y => ?_) (getS_now σ k)
  · rw [view_n, view_n, getS_now]
    by_cases q : (σ.ex k).getD 0 ≤ σ.now
    · by_cases z : y = k
      · subst z; simp [getS, q, upd_at, h]
      · simp [getS, q, upd, z]
    · simp [getS, q]
  · rw [view_e h', view_e h, getS_now]
    by_cases q : (σ.ex k).getD 0 ≤ σ.now
    · by_cases z : y = k
      · subst z; simp [getS, q, upd_at, h]
      · simp [getS, q, upd, z]
    · simp [getS, q]
  · show evL (getS σ k) y = evL σ y
    unfold evL getS; split <;> rfl
theorem view_inf {σ : St} (h : 0 ≤ σ.now) (k : Str) : view (infS σ k) = view σ := by
  unfold infS get2S
  rw [view_get (by rw [getS_now]; exact h), view_get h]
theorem view_incr {σ : St} (h : 0 ≤ σ.now) (k : Str) (x a : Int) (hx : 0 < x) : view (incrS σ k x a) = (view σ).incr k x a := by
  have hn : (incrS σ k x a).now = σ.now := getS_now σ k
  have h' : 0 ≤ (incrS σ k x a).now := by rw [hn]; exact h
  have e0 : (view σ).n k = getV σ k := rfl
  refine Vw.ext' (fun y => ?_) (fun y => ?_) (fun y => ?_) hn
  · rw [view_n, hn]
    show _ = updI (view σ).n k ((view σ).n k + a) y
    by_cases z : y = k
    · subst z
      unfold updI
      rw [if_pos rfl, e0]
      by_cases c : getV σ y = 0
      · rw [incrS_pos (by unfold incrV; omega)]
        simp [upd_at, incrV, getS_now]; omega
      · rw [incrS_neg (by unfold incrV; omega)]
        have q : ¬ (σ.ex y).getD 0 ≤ σ.now := fun q => c (by rw [getV_eq, if_pos q])
        simp [upd_at, incrV, getS, q]
    · unfold updI
      rw [if_neg z, ← view_get h k, view_n, getS_now]
      by_cases c : incrV σ k a = a
      · rw [incrS_pos c]; simp [upd, z]
      · rw [incrS_neg c]; simp [upd, z]
  · rw [view_e h', hn]
    show _ = (if (view σ).n k = 0 then updI (view σ).e k ((view σ).now + x) else (view σ).e) y
    by_cases z : y = k
    · subst z
      rw [e0]
      by_cases c : getV σ y = 0
      · rw [incrS_pos (by unfold incrV; omega), if_pos c]
        simp [upd_at, updI, getS_now, view]; omega
      · rw [incrS_neg (by unfold incrV; omega), if_neg c]
        have q : ¬ (σ.ex y).getD 0 ≤ σ.now := fun q => c (by rw [getV_eq, if_pos q])
        rw [view_e h]
        simp [getS, q]
    · have : (if (view σ).n k = 0 then updI (view σ).e k ((view σ).now + x) else (view σ).e) y = (view σ).e y := by split <;> simp [updI, z]
      rw [this, ← view_get h k, view_e (by rw [getS_now]; exact h), getS_now]
      by_cases c : incrV σ k a = a
      · rw [incrS_pos c]; simp [upd, z]
      · rw [incrS_neg c]
  · show evL (incrS σ k x a) y = evL σ y
    unfold evL incrS getS; dsimp only; split <;> rfl
theorem view_clear {σ : St} (h : 0 ≤ σ.now) (k : Str) : view (clearS σ k) = (view σ).clear k := by
  refine Vw.ext' (fun y => ?_) (fun y => ?_) (fun y => ?_) rfl
  · rw [view_n]
    show _ = updI (view σ).n k 0 y
    by_cases z : y = k
    · subst z; simp [clearS, upd_at, updI]
    · simp [clearS, upd, updI, z, view_n]
  · rw [view_e (by exact h)]
    show _ = updI (view σ).e k (view σ).now y
    by_cases z : y = k
    · subst z; simp [clearS, upd_at, updI, h, view]
    · simp [clearS, upd, updI, z, view_e h]
  · show evL (clearS σ k) y = updI (evL σ) k [] y
    unfold evL clearS upd updI
    by_cases z : y = k <;> simp [z]
theorem view_reset {σ : St} (h : 0 ≤ σ.now) : view (resetS σ) = (view σ).reset := by
  refine Vw.ext' (fun y => ?_) (fun y => ?_) (fun y => ?_) rfl
  · rw [view_n]
    show (if _ then (0 : Int) else 0) = 0
    split <;> rfl
  · rw [view_e (by exact h)]; simp [resetS, Vw.reset, h, view]
  · rfl
theorem view_acqB (σ : St) (k : Str) (limit amount : Int) : (view σ).acqB k limit amount = acqMB σ k limit amount := rfl
theorem view_acq (σ : St) (k : Str) (limit amount : Int) : view (acqMS σ k limit amount) = (view σ).acq k limit amount := by
  unfold acqMS Vw.acq
  rw [view_acqB]
  by_cases c : limit < amount
  · rw [if_pos c, acqMB_1 c]; rfl
  · rw [if_neg c]
    cases acqMB σ k limit amount with
    | false =>
      simp only [Bool.false_eq_true, if_false]
      refine Vw.ext' (fun y => ?_) (fun y => ?_) (fun y => ?_) rfl
      · show getV _ y = getV σ y
        unfold getV getS; dsimp only; split <;> rfl
      · show expV (getS { σ with ev := _ } y) y = expV (getS σ y) y
        unfold expV getS; dsimp only; split <;> rfl
      · show evL _ y = evL σ y
        unfold evL upd
        by_cases z : y = k <;> simp [z, evL]
    | true =>
      simp only [if_true]
      refine Vw.ext' (fun y => ?_) (fun y => ?_) (fun y => ?_) rfl
      · show getV _ y = getV σ y
        unfold getV getS; dsimp only; split <;> rfl
      · show expV (getS { σ with ev := _ } y) y = expV (getS σ y) y
        unfold expV getS; dsimp only; split <;> rfl
      · show evL _ y = updI (evL σ) k _ y
        unfold evL upd updI
        by_cases z : y = k <;> simp [z, evL]
        rfl
theorem view_adv {σ : St} (h : 0 ≤ σ.now) (d : Int) (hd : 0 ≤ d) : view { σ with now := σ.now + d } = (view σ).adv d := by
  refine Vw.ext' (fun y => ?_) (fun y => ?_) (fun _ => rfl) rfl
  · rw [view_n]
    show _ = if (view σ).e y ≤ σ.now + d then 0 else (view σ).n y
    rw [view_e h, view_n]
    by_cases q : (σ.ex y).getD 0 ≤ σ.now
    · have : (σ.ex y).getD 0 ≤ σ.now + d := by omega
      simp [q, this]
    · simp [q]
  · rw [view_e (by show 0 ≤ σ.now + d; omega)]
    show _ = if (view σ).e y ≤ σ.now + d then σ.now + d else (view σ).e y
    rw [view_e h]
    by_cases q : (σ.ex y).getD 0 ≤ σ.now
    · have : (σ.ex y).getD 0 ≤ σ.now + d := by omega
      simp [q, this]; omega
    · simp [q]
theorem view_ck {σ : St} (h : 0 ≤ σ.now) (k : Str) : getV (getS σ (pKey σ k)) (cKey σ k) = (view σ).n ((view σ).ck k) := congrFun (congrArg Vw.n (view_get h (pKey σ k))) (cKey σ k)
theorem view_wtd {σ : St} (h : 0 ≤ σ.now) (k : Str) : wtd σ k = (view σ).wtd k := by
  unfold wtd Vw.wtd
  rw [view_ck h]
  rfl
theorem view_swR {σ : St} (h : 0 ≤ σ.now) (k : Str) : swR σ k = (view σ).swR k := by
  unfold swR Vw.swR
  rw [view_ck h]
  rfl
theorem view_acqSB {σ : St} (h : 0 ≤ σ.now) (k : Str) (limit amount : Int) : acqSB σ k limit amount = (view σ).acqSB k limit amount := by
  unfold acqSB Vw.acqSB; rw [view_wtd h]
theorem view_acqS {σ : St} (h : 0 ≤ σ.now) (k : Str) (limit amount : Int) : view (acqSS σ k limit amount) = (view σ).acqS k limit amount := by
  unfold Vw.acqS
  rw [← view_acqSB h]
  unfold acqSS acqSB
  by_cases c1 : amount > limit
  · simp [c1]
  · by_cases c2 : wtd σ k + amount > limit
    · simp [c1, c2, view_inf h]
    · simp only [c1, c2, decide_false, Bool.not_false, Bool.and_self, if_true, if_false]
      rw [view_incr (by rw [infS_now]; exact h) _ _ _ (by decide), view_inf h]
      rfl
end
section
-- Fx
/-- the addresses of the one lie apart from those of the other -/
def Apart (X Y : List (Addr × Obj)) : Prop := ∀ q ∈ X, ∀ p ∈ Y, p.1 ≠ q.1
section
variable {n : Nat} {prog : Program} {w : World} {A₀ A : Around} {s : Shared} {base h₀ : Heap} {outer : List Env} {L a : Addr} {m : Str → Option Value} {env : Env} {cn : Str} {cs : Scope} {ccd : Value} {need X : List (Addr × Obj)} {K : Frag}
  {p : Program} {loose : List Str} {mean : ExcName → Option Value} {mg mb : Str → Option Value} {f : Addr} {args : Args} {post : Value → List (Addr × Obj) → Prop}
/-- what the callee is not handed stays, and lies apart from what it hands back -/
theorem Ctr.codeX {R : Result → Shared → Prop} (C : Ctr n prog w K p loose mean mg mb f args need post) (B : Below A₀ base outer h₀) (F : Fr h₀ L s.heap m) (XK : K.In h₀) (N : News h₀ L s.heap (X ++ need)) (T : Top p loose mean mg mb h₀) (hx : Apart X need)
    (hA : A.frames = some (env :: outer)) (hf : env.frame = some L) (hke : env.scope.kind = .function) (hh : A.handled = none) (hd : A.depth + 3 * n < recursionLimit) (hu : A.units + 40 * n < cLine)
    (k : ∀ v h' tk' news', Fr h₀ L h' m → News h₀ L h' (X ++ news') → Apart X news' → post v news' → R (.ok (.ret v)) { s with heap := h', toks := tk' }) :
    codeAny (model prog w) A (.call (.ref f) args) R s := by
  obtain ⟨hd0, dp, fr, gd, un⟩ := A
  dsimp only at hA hh hd hu
  subst hA hh
  have N₂ : News h₀ L s.heap need := N.perm fun q hq => List.mem_append_right _ hq
  obtain ⟨FG, BG, st, lv⟩ := groundX (A := topA dp un gd (env :: outer)) (R := R) B F N₂ rfl hf hke
  have hX : ∀ q ∈ X, (hideAll s.heap (need.map (·.1))).get? q.1 = some q.2 := fun q hq => hideAll_get _ (N q (List.mem_append_left _ hq)).1 fun hm => by
    obtain ⟨p, hp, e⟩ := List.mem_map.mp hm
    exact hx q hq p hp e
  refine C dp un gd (env :: outer) base s R BG (XK.keeps st) (T.keeps st) (fun q hq => (N₂ q hq).1) hd hu fun v h' tk' L' m' news' F' N' hp => ?_
  refine lv v { s with heap := h', toks := tk' } ⟨L', m', news', F', N', fun F2 N2 => k v h' tk' news' F2 (fun q hq => ?_) (fun q hq p hp' e => ?_) hp⟩
  · rcases List.mem_append.mp hq with hq | hq
    · exact ⟨F'.keep _ _ (hX q hq), (N q (List.mem_append_left _ hq)).2⟩
    · exact N2 q hq
  · have := (N' p hp').2.2
    rw [e, hX q hq] at this; cases this
theorem Ctr.callX {Q E : Value → Shared → Prop} {pos : List Value} {kw : List (Str × Value)} (X : List (Addr × Obj)) (C : Ctr n prog w K p loose mean mg mb f ⟨pos, kw⟩ need post) (B : Below A₀ base outer h₀) (F : Fr h₀ L s.heap m) (XK : K.In h₀) (N : News h₀ L s.heap (X ++ need)) (T : Top p loose mean mg mb h₀) (hx : Apart X need)
    (hA : A.frames = some (env :: outer)) (hf : env.frame = some L) (hke : env.scope.kind = .function) (hh : A.handled = none) (hd : A.depth + 3 * n < recursionLimit) (hu : A.units + 40 * n < cLine)
    (k : ∀ v h' tk' news', Fr h₀ L h' m → News h₀ L h' (X ++ news') → Apart X news' → post v news' → Q v { s with heap := h', toks := tk' }) :
    wpAny (model prog w) A (PySem.call (.ref f) pos kw) Q E s :=
  wpAny_call (C.codeX B F XK N T hx hA hf hke hh hd hu k)
theorem CtrT.codeX {R : Result → Shared → Prop} (C : CtrT n prog w K p loose mean mg mb f args need post) (B : Below A₀ base outer h₀) (F : Fr h₀ L s.heap m) (XK : K.In h₀) (N : News h₀ L s.heap (X ++ need)) (T : Top p loose mean mg mb h₀) (hx : Apart X need)
    (XB : K.In base) (TB : Top p loose mean mg mb base) (D : KtsDicts (frs outer) h₀)
    (hA : A.frames = some (envOf cn cs L a ccd :: outer)) (hke : cs.kind = .function) (hh : A.handled = none) (hd : A.depth + 3 * n < recursionLimit) (hu : A.units + 40 * n < cLine)
    (k : ∀ v h' tk' news' g, KtsTurn (frs outer) h₀ g → Below A₀ base outer g → K.In g → Top p loose mean mg mb g → KtsDicts (frs outer) g → Fr g L h' m → News g L h' (X ++ news') → Apart X news' → post v news' → R (.ok (.ret v)) { s with heap := h', toks := tk' }) :
    codeAny (model prog w) A (.call (.ref f) args) R s := by
  have N₂ : News h₀ L s.heap need := N.perm fun q hq => List.mem_append_right _ hq
  obtain ⟨oL, es, ep, hLg, hLd, hN, hNs, st, B₂⟩ := kts_enter B F N₂ hA hke
  obtain ⟨hd0, dp, fr, gd, un⟩ := A
  dsimp only at hA hh hd hu
  subst hA hh
  have hX : ∀ q ∈ X, (hideAll s.heap (need.map (·.1))).get? q.1 = some q.2 := fun q hq => hideAll_get _ (N q (List.mem_append_left _ hq)).1 fun hm => by
    obtain ⟨p, hp, e⟩ := List.mem_map.mp hm
    exact hx q hq p hp e
  refine C dp un gd _ base s R ⟨rfl, B₂.stays, B₂.frames⟩ (XK.keeps st) (T.keeps st) XB TB (fun b hb => ?_) (fun q hq => (N₂ q hq).1) hd hu fun v h' tk' L' m' news' g' T' F' N' hp => ?_
  · rcases kts_mem hb with rfl | hb
    · exact ⟨oL, es, ep, hLg, hLd⟩
    · obtain ⟨o, es', n', ho', hd'⟩ := D b hb
      exact ⟨o, es', n', st b o ho', hd'⟩
  have nL₀ : h₀.get? L = none := kts_self F
  obtain ⟨sl, hs⟩ := T'.up hLg
  obtain ⟨T₁, S₁⟩ := kts_turn_at (h := h') (fs := outer.filterMap (·.frame)) (g := h₀)
    (fun b hb => let ⟨_, o, ho', _⟩ := B.frames.mem hb; ⟨o, ho'⟩)
    (fun b o e nmem => F'.keep b o (T'.other b o (st b o e) (fun q => by
      rcases kts_mem q with z | z
      · rw [z, nL₀] at e; cases e
      · exact nmem z)))
    (fun b o e hm => let ⟨sl', hs'⟩ := T'.up (st b o e); ⟨sl', F'.keep _ _ hs'⟩)
  have B₃ : Below A₀ base outer (ktsHeap h' (outer.filterMap (·.frame)) h₀) := ⟨B.stack, fun b o e => T₁.other b o (B.stays b o e) (fun hm => by
    rw [(B.frames.mem hm).1] at e; cases e), B.frames.of_keeps fun b o e _ => let ⟨sl', hs'⟩ := T₁.up e; ⟨_, hs', rfl⟩⟩
  have hXg : ∀ q ∈ X, g'.get? q.1 = some q.2 := fun q hq => T'.other _ _ (hX q hq) fun hm => by
    rcases kts_mem hm with z | z
    · exact (N q (List.mem_append_left _ hq)).2.1 z
    · obtain ⟨_, o, ho', _⟩ := B.frames.mem z
      rw [(N q (List.mem_append_left _ hq)).2.2] at ho'; cases ho'
  refine k v h' tk' news' _ T₁ B₃ (XB.keeps B₃.stays) (TB.keeps B₃.stays) (D.turn T₁) ⟨hNs sl _ (F'.keep _ _ hs), S₁, by rw [T₁.size]; exact F.above⟩ (fun q hq => ?_) (fun q hq p hp' e => ?_) hp
  · rcases List.mem_append.mp hq with hq | hq
    · exact ⟨F'.keep _ _ (hXg q hq), (N q (List.mem_append_left _ hq)).2.1, T₁.none_ _ (N q (List.mem_append_left _ hq)).2.2⟩
    · refine ⟨(N' q hq).1, fun z => ?_, ?_⟩
      · have := (N' q hq).2.2; rw [z, hs] at this; cases this
      · refine T₁.none_ _ ?_
        cases e : h₀.get? q.1 with
        | none => rfl
        | some o =>
          obtain ⟨sl', hs'⟩ := T'.up (st _ _ e)
          have := (N' q hq).2.2
          rw [hs'] at this; cases this
  · have := (N' p hp').2.2
    rw [e, hXg q hq] at this; cases this
theorem CtrT.callX {Q E : Value → Shared → Prop} {pos : List Value} {kw : List (Str × Value)} (X : List (Addr × Obj)) (C : CtrT n prog w K p loose mean mg mb f ⟨pos, kw⟩ need post) (B : Below A₀ base outer h₀) (F : Fr h₀ L s.heap m) (XK : K.In h₀) (N : News h₀ L s.heap (X ++ need)) (T : Top p loose mean mg mb h₀) (hx : Apart X need)
    (XB : K.In base) (TB : Top p loose mean mg mb base) (D : KtsDicts (frs outer) h₀)
    (hA : A.frames = some (envOf cn cs L a ccd :: outer)) (hke : cs.kind = .function) (hh : A.handled = none) (hd : A.depth + 3 * n < recursionLimit) (hu : A.units + 40 * n < cLine)
    (k : ∀ v h' tk' news' g, KtsTurn (frs outer) h₀ g → Below A₀ base outer g → K.In g → Top p loose mean mg mb g → KtsDicts (frs outer) g → Fr g L h' m → News g L h' (X ++ news') → Apart X news' → post v news' → Q v { s with heap := h', toks := tk' }) :
    wpAny (model prog w) A (PySem.call (.ref f) pos kw) Q E s :=
  wpAny_call (C.codeX B F XK N T hx XB TB D hA hke hh hd hu k)
/-- where the frame at hand is the lowest: the ground does not turn -/
theorem CtrT.codeN {R : Result → Shared → Prop} (C : CtrT n prog w K p loose mean mg mb f args need post) (B : Below A₀ h₀ [] h₀) (F : Fr h₀ L s.heap m) (XK : K.In h₀) (N : News h₀ L s.heap (X ++ need)) (T : Top p loose mean mg mb h₀) (hx : Apart X need)
    (hA : A.frames = some [env]) (hf : env.frame = some L) (hke : env.scope.kind = .function) (hh : A.handled = none) (hd : A.depth + 3 * n < recursionLimit) (hu : A.units + 40 * n < cLine)
    (k : ∀ v h' tk' news', Fr h₀ L h' m → News h₀ L h' (X ++ news') → Apart X news' → post v news' → R (.ok (.ret v)) { s with heap := h', toks := tk' }) :
    codeAny (model prog w) A (.call (.ref f) args) R s := by
  obtain ⟨hd0, dp, fr, gd, un⟩ := A
  dsimp only at hA hh hd hu
  subst hA hh
  have N₂ : News h₀ L s.heap need := N.perm fun q hq => List.mem_append_right _ hq
  obtain ⟨FG, BG, st, _⟩ := groundX (A := topA dp un gd [env]) (R := R) B F N₂ rfl hf hke
  have hX : ∀ q ∈ X, (hideAll s.heap (need.map (·.1))).get? q.1 = some q.2 := fun q hq => hideAll_get _ (N q (List.mem_append_left _ hq)).1 fun hm => by
    obtain ⟨p, hp, e⟩ := List.mem_map.mp hm
    exact hx q hq p hp e
  have hfr : frs [env] = [L] := by simp [frs, hf]
  obtain ⟨oL, es, ep, hLg, hLd, hLk, hLf⟩ := FG.ns
  refine C dp un gd [env] h₀ s R BG (XK.keeps st) (T.keeps st) XK T (fun b hb => ?_) (fun q hq => (N₂ q hq).1) hd hu fun v h' tk' L' m' news' g' T' F' N' hp => ?_
  · rw [hfr] at hb
    rw [List.mem_singleton.mp hb]
    exact ⟨oL, es, ep, hLg, hLd⟩
  have nL₀ : h₀.get? L = none := kts_self F
  have oth : ∀ b o, (hideAll s.heap (need.map (·.1))).get? b = some o → b ≠ L → h'.get? b = some o := fun b o e nb => F'.keep b o (T'.other b o e fun q => by rw [hfr] at q; exact nb (List.mem_singleton.mp q))
  obtain ⟨sl, hs⟩ := T'.up hLg
  have some_ : ∀ b o, (hideAll s.heap (need.map (·.1))).get? b = some o → ∃ o', g'.get? b = some o' := fun b o e => let ⟨sl', hs'⟩ := T'.up e; ⟨_, hs'⟩
  refine k v h' tk' news' ⟨⟨_, es, ep, F'.keep _ _ hs, hLd, hLk, hLf⟩, fun b o e => oth b o (st b o e) (fun q => by rw [q, nL₀] at e; cases e), F.above⟩ (fun q hq => ?_) (fun q hq p hp' e => ?_) hp
  · rcases List.mem_append.mp hq with hq | hq
    · exact ⟨oth _ _ (hX q hq) (N q (List.mem_append_left _ hq)).2.1, (N q (List.mem_append_left _ hq)).2⟩
    · refine ⟨(N' q hq).1, fun z => ?_, ?_⟩
      · have := (N' q hq).2.2; rw [z, hs] at this; cases this
      · cases e : h₀.get? q.1 with
        | none => rfl
        | some o =>
          obtain ⟨o', ho'⟩ := some_ _ _ (st _ _ e)
          have := (N' q hq).2.2
          rw [ho'] at this; cases this
  · obtain ⟨o', ho'⟩ := some_ _ _ (hX q hq)
    have := (N' p hp').2.2
    rw [e, ho'] at this; cases this
theorem CtrT.callN {Q E : Value → Shared → Prop} {pos : List Value} {kw : List (Str × Value)} (X : List (Addr × Obj)) (C : CtrT n prog w K p loose mean mg mb f ⟨pos, kw⟩ need post) (B : Below A₀ h₀ [] h₀) (F : Fr h₀ L s.heap m) (XK : K.In h₀) (N : News h₀ L s.heap (X ++ need)) (T : Top p loose mean mg mb h₀) (hx : Apart X need)
    (hA : A.frames = some [env]) (hf : env.frame = some L) (hke : env.scope.kind = .function) (hh : A.handled = none) (hd : A.depth + 3 * n < recursionLimit) (hu : A.units + 40 * n < cLine)
    (k : ∀ v h' tk' news', Fr h₀ L h' m → News h₀ L h' (X ++ news') → Apart X news' → post v news' → Q v { s with heap := h', toks := tk' }) :
    wpAny (model prog w) A (PySem.call (.ref f) pos kw) Q E s :=
  wpAny_call (C.codeN B F XK N T hx hA hf hke hh hd hu k)
end
end
section
-- c_get
theorem c_get {x : CX} {c : Cf} {σ : St} {b : Nat} {L rest : Led} {key : Str} {tk : Tok} (X0 : Fixed x c) (S : StR x c σ b L rest) (hb : b ≤ 900) :
    Ct 2 x 599 [.ref c.st, .str key tk] [] L fun v L' => (∃ t, v = .int (getV σ key) t) ∧ StR x c (getS σ key) b L' rest := by
  have mk11 := True.intro
  have X1 := X0
  obtain ⟨lo1, lo2, lo3, n12, n13, n14, n15, n23, n24, n25, n34, n35, n45, hclk⟩ := X1
  refine open_s S ?_
  clear S
  intro o1 o2 o3 o5 t0 n0 T1 T2 T3 T4 T5
  have T5' := T5
  obtain ⟨m1, m2, m3, m4, m5, a1, a2, a3, a4, a5⟩ := T5'
  have hb1 : b ≤ 1000 := by omega
  unfold Ct
  k_fill
  k_dflt (refine' ctr_enter (binds := [(Str.ofString "self", .ref c.st), (Str.ofString "key", .str key tk)]) (mm := fun y => List.lookup y [(Str.ofString "key", .str key tk), (Str.ofString "self", .ref c.st)]) ?k6 ?k7 ?k9 ?kB rfl ?_ ?c2 ?c3 ?c4 ?c5 ?c6; (case k6 => k_is); (case k7 => k_is); (case k9 => first | exact fun s _ => BindsTo.of_eq rfl | exact fun s hX => binds_K hX rfl (by k_is) rfl rfl rfl); (case c5 => decide); (case c6 => decide); (case kB => exact locs rfl); (case c2 => exact rfl); (case c3 => exact rfl); (case c4 => exact rfl); k_whole; intro dp un gd outer base g s L' B X T F N hdp hun; (try dsimp only [DL] at N); (try dsimp only); (try k_fold))
  k_steps
  · rename_i hle _ _ _ _
    refine EndC.mk (by k_asm) (by k_asm) ?_
    rw [getV, getS, if_pos (by assumption)]
    exact ⟨⟨_, rfl⟩, StR.of (by k_asm) (by k_asm) (by k_asm) T4 T5⟩
  · refine EndC.mk (by k_asm) (by k_asm) ?_
    rw [getV, getS, if_neg (by assumption)]
    exact ⟨⟨_, rfl⟩, StR.of (by k_asm) (by k_asm) (by k_asm) T4 T5⟩
end
section
-- c_incr
theorem lines_c_incr : True := by
  k_with "call ref" => (guard_hyp mk12; (k_here; (with_reducible show wpAny _ _ (call (Value.ref 599) [_, _] []) _ _ _); k_dflt (k_extra "my drop"; refine' Ctr.call (c_get ?X0q108 ?Sq108 ?hbq108) ?Bq108 ?Fq108 ?Xq108 ?Nq108 ?Tq108 rfl rfl rfl rfl ?hdq108 ?huq108 ?_; (case X0q108 => k_asm); (case Nq108 => k_asm); (case Sq108 => k_extra "my sto"); (case hbq108 => first | k_asm | omega); (case Bq108 => k_asm); (case Fq108 => k_asm); (case Xq108 => k_asm); (case Tq108 => k_asm); (case hdq108 => k_extra "my room"); (case huq108 => k_extra "my room")); intro v' h' tk' L2' F' N' hp'; (obtain ⟨⟨t', e1'⟩, S'⟩ := hp'); subst e1'; (cases S'); (try k_sweep)))
  k_with "subscriptTail" => (guard_hyp mk12; (k_here; (with_reducible show wpAny _ _ (subscriptTail _ _ (Value.ref _) (Value.str _ _)) _ _ _); k_dflt (refine' d_item (P := PI) ?Nq109 ?mq109 ?Tq109 ?eq109 ?_; (case Nq109 => k_asm); (case mq109 => k_mem); (case Tq109 => k_asm); (case eq109 => exact upd_at _ _ _)); intro v' hv'; (obtain ⟨t', e'⟩ := hv'); subst e'))
  exact True.intro
theorem c_incr {x : CX} {c : Cf} {σ : St} {b : Nat} {L rest : Led} {key : Str} {tk t1 t2 : Tok} {expiry amount : Int} (X0 : Fixed x c) (S : StR x c σ b L rest) (hb : b ≤ 800) :
    Ct 3 x 584 [.ref c.st, .str key tk, .int expiry t1] [(Str.ofString "amount", .int amount t2)] L fun v L' => (∃ t, v = .int (incrV σ key amount) t) ∧ StR x c (incrS σ key expiry amount) (b + 1) L' rest := by
  have mk12 := True.intro
  have X1 := X0
  obtain ⟨lo1, lo2, lo3, n12, n13, n14, n15, n23, n24, n25, n34, n35, n45, hclk⟩ := X1
  refine open_s S ?_
  clear S
  intro o1 o2 o3 o5 t0 n0 T1 T2 T3 T4 T5
  have T5' := T5
  obtain ⟨m1, m2, m3, m4, m5, a1, a2, a3, a4, a5⟩ := T5'
  have hb1 : b ≤ 900 := by omega
  unfold Ct
  k_fill
  k_dflt (refine' ctr_enter (binds := [(Str.ofString "self", .ref c.st), (Str.ofString "key", .str key tk), (Str.ofString "expiry", .int expiry t1), (Str.ofString "amount", .int amount t2)]) (mm := fun y => List.lookup y [(Str.ofString "amount", .int amount t2), (Str.ofString "expiry", .int expiry t1), (Str.ofString "key", .str key tk), (Str.ofString "self", .ref c.st)]) ?k6 ?k7 ?k9 ?kB rfl ?_ ?c2 ?c3 ?c4 ?c5 ?c6; (case k6 => k_is); (case k7 => k_is); (case k9 => first | exact fun s _ => BindsTo.of_eq rfl | exact fun s hX => binds_K hX rfl (by k_is) rfl rfl rfl); (case c5 => decide); (case c6 => decide); (case kB => exact locs rfl); (case c2 => exact rfl); (case c3 => exact rfl); (case c4 => exact rfl); k_whole; intro dp un gd outer base g s L' B X T F N hdp hun; (try dsimp only [DL] at N); (try dsimp only); (try k_fold))
  k_steps
  · refine EndC.mk (by k_asm) (by k_asm) ⟨⟨_, by rw [upd_at]; rfl⟩, ?_⟩
    rw [incrS_pos (by assumption)]
    k_extra "my end"
  · refine EndC.mk (by k_asm) (by k_asm) ⟨⟨_, by rw [upd_at]; rfl⟩, ?_⟩
    rw [incrS_neg (by assumption)]
    k_extra "my end"
end
section
-- c_fhit
theorem lines_c_fhit : True := by
  k_with "call ref" => (guard_hyp mk13; (k_here; (with_reducible show wpAny _ _ (call (Value.ref 458) _ _) _ _ _); (k_dflt (show wpAny _ _ (call (Value.ref 458) [Value.ref _, Value.ref _] []) _ _ _)); k_dflt (refine' Ctr.call (NameAt.use ?hq110 ?subq110) ?Bq110 ?Fq110 ?Xq110 ?Nq110 ?Tq110 rfl rfl rfl rfl ?hdq110 ?huq110 ?_; (case Nq110 => k_asm); (case hq110 => assumption); (case subq110 => k_extra "my sub"); (case Bq110 => k_asm); (case Fq110 => k_asm); (case Xq110 => k_asm); (case Tq110 => k_asm); (case hdq110 => k_extra "my room"); (case huq110 => k_extra "my room")); (refine after_t ?_); intro h' tk' t' F' N'; (try k_sweep)))
  k_with "call ref" => (guard_hyp mk13; (k_here; (with_reducible show wpAny _ _ (call (Value.ref 451) _ _) _ _ _); (k_dflt (show wpAny _ _ (call (Value.ref 451) [Value.ref _] []) _ _ _)); k_dflt (refine' Ctr.call (exp_of ?m1q111 ?m2q111) ?Bq111 ?Fq111 ?Xq111 ?Nq111 ?Tq111 rfl rfl rfl rfl ?hdq111 ?huq111 ?_; (case Nq111 => k_asm); (case m1q111 => k_mem); (case m2q111 => k_mem); (case Bq111 => k_asm); (case Fq111 => k_asm); (case Xq111 => k_asm); (case Tq111 => k_asm); (case hdq111 => k_extra "my room"); (case huq111 => k_extra "my room")); (refine after_t ?_); intro h' tk' t' F' N'; (try k_sweep)))
  k_with "getMethod ref" => (guard_hyp mk13; (k_here; (with_reducible show wpAny _ _ (getMethod (Value.ref _) (Str.ofString "key_for") _) _ _ _); k_dflt (refine' method_inst ?k1q112 ?k2q112 ?k3q112 ?k4q112 ?k5q112 ?k6q112 ?k7q112 ?_; (case k1q112 => k_asm); (case k2q112 => k_asm); (case k3q112 => k_inst); (case k4q112 => k_is); (case k5q112 => k_is); (case k6q112 => k_is); (case k7q112 => k_get); k_whole)))
  k_with "getMethod ref" => (guard_hyp mk13; (k_here; (with_reducible show wpAny _ _ (getMethod (Value.ref _) (Str.ofString "get_expiry") _) _ _ _); k_dflt (refine' method_inst ?k1q113 ?k2q113 ?k3q113 ?k4q113 ?k5q113 ?k6q113 ?k7q113 ?_; (case k1q113 => k_asm); (case k2q113 => k_asm); (case k3q113 => k_inst); (case k4q113 => k_is); (case k5q113 => k_is); (case k6q113 => k_is); (case k7q113 => k_get); k_whole)))
  k_with "getMethod ref" => (guard_hyp mk13; (k_here; (with_reducible show wpAny _ _ (getMethod (Value.ref _) (Str.ofString "_weighted_count") _) _ _ _); k_dflt (refine' method_inst ?k1q114 ?k2q114 ?k3q114 ?k4q114 ?k5q114 ?k6q114 ?k7q114 ?_; (case k1q114 => k_asm); (case k2q114 => k_asm); (case k3q114 => k_inst); (case k4q114 => k_is); (case k5q114 => k_is); (case k6q114 => k_is); (case k7q114 => k_get); k_whole)))
  k_with "call ref" => (guard_hyp mk13; (k_here; (with_reducible show wpAny _ _ (call (Value.ref 584) [_, _, _] _) _ _ _); (k_dflt (show wpAny _ _ (call (Value.ref 584) [_, _, _] [(Str.ofString "amount", Value.int _ _)]) _ _ _)); k_dflt (k_extra "my drop"; refine' Ctr.call (c_incr ?X0q115 ?Sq115 ?hbq115) ?Bq115 ?Fq115 ?Xq115 ?Nq115 ?Tq115 rfl rfl rfl rfl ?hdq115 ?huq115 ?_; (case X0q115 => k_asm); (case Nq115 => k_asm); (case Sq115 => k_extra "my sto"); (case hbq115 => first | k_asm | omega); (case Bq115 => k_asm); (case Fq115 => k_asm); (case Xq115 => k_asm); (case Tq115 => k_asm); (case hdq115 => k_extra "my room"); (case huq115 => k_extra "my room")); intro v' h' tk' L2' F' N' hp'; (obtain ⟨⟨t', e1'⟩, S'⟩ := hp'); subst e1'; (cases S'); (try k_sweep)))
  exact True.intro
theorem c_fhit {x : CX} {c : Cf} {σ : St} {b : Nat} {L rest : Led} {lim it tu : Addr} {am cost : Int} {key : Str} {tc : Tok} (X0 : Fixed x c) (S : StR x c σ b L rest) (hb : b ≤ 600) (HL : LimAt rest 241 lim c.st) (HI : ItemAt rest it am) (HN : NameAt x rest it tu key) :
    Ct 5 x 220 [.ref lim, .ref it, .ref tu, .int cost tc] [] L fun v L' => v = .bool (decide (incrV σ key cost ≤ am)) ∧ StR x c (incrS σ key 10 cost) (b + 1) L' rest := by
  have mk13 := True.intro
  refine hideG ?_
  intro G' hG'
  obtain ⟨dl, el, tl, nl, ml1, ml2⟩ := HL
  obtain ⟨dit, e1, e2, e3, ti1, ti2, ti3, ti4, ti5, ti6, ni, mi1, mi2⟩ := HI
  refine hG' ?_
  clear hG' G'
  have X1 := X0
  obtain ⟨lo1, lo2, lo3, n12, n13, n14, n15, n23, n24, n25, n34, n35, n45, hclk⟩ := X1
  refine open_s S ?_
  clear S
  intro o1 o2 o3 o5 t0 n0 T1 T2 T3 T4 T5
  have T5' := T5
  obtain ⟨m1, m2, m3, m4, m5, a1, a2, a3, a4, a5⟩ := T5'
  have hb1 : b ≤ 900 := by omega
  unfold Ct
  k_fill
  k_dflt (refine' ctr_enter (binds := [(Str.ofString "self", .ref lim), (Str.ofString "item", .ref it), (Str.ofString "identifiers", .ref tu), (Str.ofString "cost", .int cost tc)]) (mm := fun y => List.lookup y [(Str.ofString "cost", .int cost tc), (Str.ofString "identifiers", .ref tu), (Str.ofString "item", .ref it), (Str.ofString "self", .ref lim)]) ?k6 ?k7 ?k9 ?kB rfl ?_ ?c2 ?c3 ?c4 ?c5 ?c6; (case k6 => k_is); (case k7 => k_is); (case k9 => first | exact fun s _ => BindsTo.of_eq rfl | exact fun s hX => binds_K hX rfl (by k_is) rfl rfl rfl); (case c5 => decide); (case c6 => decide); (case kB => exact locs rfl); (case c2 => exact rfl); (case c3 => exact rfl); (case c4 => exact rfl); k_whole; intro dp un gd outer base g s L' B X T F N hdp hun; (try dsimp only [DL] at N); (try dsimp only); (try k_fold))
  k_steps
  refine EndC.mk (by k_asm) (by k_asm) ⟨rfl, ?_⟩
  k_extra "my end"
end
section
-- c_ftest
theorem lines_c_ftest : True := by
  k_with "call ref" => (guard_hyp mk14; (k_here; (with_reducible show wpAny _ _ (call (Value.ref 458) _ _) _ _ _); (k_dflt (show wpAny _ _ (call (Value.ref 458) [Value.ref _, Value.ref _] []) _ _ _)); k_dflt (refine' Ctr.call (NameAt.use ?hq116 ?subq116) ?Bq116 ?Fq116 ?Xq116 ?Nq116 ?Tq116 rfl rfl rfl rfl ?hdq116 ?huq116 ?_; (case Nq116 => k_asm); (case hq116 => assumption); (case subq116 => k_extra "my sub"); (case Bq116 => k_asm); (case Fq116 => k_asm); (case Xq116 => k_asm); (case Tq116 => k_asm); (case hdq116 => k_extra "my room"); (case huq116 => k_extra "my room")); (refine after_t ?_); intro h' tk' t' F' N'; (try k_sweep)))
  k_with "call ref" => (guard_hyp mk14; (k_here; (with_reducible show wpAny _ _ (call (Value.ref 451) _ _) _ _ _); (k_dflt (show wpAny _ _ (call (Value.ref 451) [Value.ref _] []) _ _ _)); k_dflt (refine' Ctr.call (exp_of ?m1q117 ?m2q117) ?Bq117 ?Fq117 ?Xq117 ?Nq117 ?Tq117 rfl rfl rfl rfl ?hdq117 ?huq117 ?_; (case Nq117 => k_asm); (case m1q117 => k_mem); (case m2q117 => k_mem); (case Bq117 => k_asm); (case Fq117 => k_asm); (case Xq117 => k_asm); (case Tq117 => k_asm); (case hdq117 => k_extra "my room"); (case huq117 => k_extra "my room")); (refine after_t ?_); intro h' tk' t' F' N'; (try k_sweep)))
  k_with "getMethod ref" => (guard_hyp mk14; (k_here; (with_reducible show wpAny _ _ (getMethod (Value.ref _) (Str.ofString "key_for") _) _ _ _); k_dflt (refine' method_inst ?k1q118 ?k2q118 ?k3q118 ?k4q118 ?k5q118 ?k6q118 ?k7q118 ?_; (case k1q118 => k_asm); (case k2q118 => k_asm); (case k3q118 => k_inst); (case k4q118 => k_is); (case k5q118 => k_is); (case k6q118 => k_is); (case k7q118 => k_get); k_whole)))
  k_with "getMethod ref" => (guard_hyp mk14; (k_here; (with_reducible show wpAny _ _ (getMethod (Value.ref _) (Str.ofString "get_expiry") _) _ _ _); k_dflt (refine' method_inst ?k1q119 ?k2q119 ?k3q119 ?k4q119 ?k5q119 ?k6q119 ?k7q119 ?_; (case k1q119 => k_asm); (case k2q119 => k_asm); (case k3q119 => k_inst); (case k4q119 => k_is); (case k5q119 => k_is); (case k6q119 => k_is); (case k7q119 => k_get); k_whole)))
  k_with "getMethod ref" => (guard_hyp mk14; (k_here; (with_reducible show wpAny _ _ (getMethod (Value.ref _) (Str.ofString "_weighted_count") _) _ _ _); k_dflt (refine' method_inst ?k1q120 ?k2q120 ?k3q120 ?k4q120 ?k5q120 ?k6q120 ?k7q120 ?_; (case k1q120 => k_asm); (case k2q120 => k_asm); (case k3q120 => k_inst); (case k4q120 => k_is); (case k5q120 => k_is); (case k6q120 => k_is); (case k7q120 => k_get); k_whole)))
  k_with "call ref" => (guard_hyp mk14; (k_here; (with_reducible show wpAny _ _ (call (Value.ref 599) [_, _] []) _ _ _); k_dflt (k_extra "my drop"; refine' Ctr.call (c_get ?X0q121 ?Sq121 ?hbq121) ?Bq121 ?Fq121 ?Xq121 ?Nq121 ?Tq121 rfl rfl rfl rfl ?hdq121 ?huq121 ?_; (case X0q121 => k_asm); (case Nq121 => k_asm); (case Sq121 => k_extra "my sto"); (case hbq121 => first | k_asm | omega); (case Bq121 => k_asm); (case Fq121 => k_asm); (case Xq121 => k_asm); (case Tq121 => k_asm); (case hdq121 => k_extra "my room"); (case huq121 => k_extra "my room")); intro v' h' tk' L2' F' N' hp'; (obtain ⟨⟨t', e1'⟩, S'⟩ := hp'); subst e1'; (cases S'); (try k_sweep)))
  k_with "subscriptTail" => (guard_hyp mk14; (k_here; (with_reducible show wpAny _ _ (subscriptTail _ _ (Value.ref _) (Value.str _ _)) _ _ _); k_dflt (refine' d_item (P := PI) ?Nq122 ?mq122 ?Tq122 ?eq122 ?_; (case Nq122 => k_asm); (case mq122 => k_mem); (case Tq122 => k_asm); (case eq122 => exact upd_at _ _ _)); intro v' hv'; (obtain ⟨t', e'⟩ := hv'); subst e'))
  exact True.intro
theorem c_ftest {x : CX} {c : Cf} {σ : St} {b : Nat} {L rest : Led} {lim it tu : Addr} {am cost : Int} {key : Str} {tc : Tok} (X0 : Fixed x c) (S : StR x c σ b L rest) (hb : b ≤ 600) (HL : LimAt rest 241 lim c.st) (HI : ItemAt rest it am) (HN : NameAt x rest it tu key) :
    Ct 5 x 229 [.ref lim, .ref it, .ref tu, .int cost tc] [] L fun v L' => v = .bool (decide (getV σ key < am - cost + 1)) ∧ StR x c (getS σ key) b L' rest := by
  have mk14 := True.intro
  refine hideG ?_
  intro G' hG'
  obtain ⟨dl, el, tl, nl, ml1, ml2⟩ := HL
  obtain ⟨dit, e1, e2, e3, ti1, ti2, ti3, ti4, ti5, ti6, ni, mi1, mi2⟩ := HI
  refine hG' ?_
  clear hG' G'
  have X1 := X0
  obtain ⟨lo1, lo2, lo3, n12, n13, n14, n15, n23, n24, n25, n34, n35, n45, hclk⟩ := X1
  refine open_s S ?_
  clear S
  intro o1 o2 o3 o5 t0 n0 T1 T2 T3 T4 T5
  have T5' := T5
  obtain ⟨m1, m2, m3, m4, m5, a1, a2, a3, a4, a5⟩ := T5'
  have hb1 : b ≤ 900 := by omega
  unfold Ct
  k_fill
  k_dflt (refine' ctr_enter (binds := [(Str.ofString "self", .ref lim), (Str.ofString "item", .ref it), (Str.ofString "identifiers", .ref tu), (Str.ofString "cost", .int cost tc)]) (mm := fun y => List.lookup y [(Str.ofString "cost", .int cost tc), (Str.ofString "identifiers", .ref tu), (Str.ofString "item", .ref it), (Str.ofString "self", .ref lim)]) ?k6 ?k7 ?k9 ?kB rfl ?_ ?c2 ?c3 ?c4 ?c5 ?c6; (case k6 => k_is); (case k7 => k_is); (case k9 => first | exact fun s _ => BindsTo.of_eq rfl | exact fun s hX => binds_K hX rfl (by k_is) rfl rfl rfl); (case c5 => decide); (case c6 => decide); (case kB => exact locs rfl); (case c2 => exact rfl); (case c3 => exact rfl); (case c4 => exact rfl); k_whole; intro dp un gd outer base g s L' B X T F N hdp hun; (try dsimp only [DL] at N); (try dsimp only); (try k_fold))
  k_steps
  refine EndC.mk (by k_asm) (by k_asm) ⟨rfl, ?_⟩
  k_extra "my end"
end
section
-- c_gexp
theorem c_gexp {x : CX} {c : Cf} {σ : St} {b : Nat} {L rest : Led} {key : Str} {tk : Tok} (X0 : Fixed x c) (S : StR x c σ b L rest) (hb : b ≤ 900) :
    Ct 2 x 621 [.ref c.st, .str key tk] [] L fun v L' => (∃ t, v = .int (expV σ key) t) ∧ L' = L := by
  have mk15 := True.intro
  have X1 := X0
  obtain ⟨lo1, lo2, lo3, n12, n13, n14, n15, n23, n24, n25, n34, n35, n45, hclk⟩ := X1
  refine open_s S ?_
  clear S
  intro o1 o2 o3 o5 t0 n0 T1 T2 T3 T4 T5
  have T5' := T5
  obtain ⟨m1, m2, m3, m4, m5, a1, a2, a3, a4, a5⟩ := T5'
  have hb1 : b ≤ 1000 := by omega
  unfold Ct
  k_fill
  k_dflt (refine' ctr_enter (binds := [(Str.ofString "self", .ref c.st), (Str.ofString "key", .str key tk)]) (mm := fun y => List.lookup y [(Str.ofString "key", .str key tk), (Str.ofString "self", .ref c.st)]) ?k6 ?k7 ?k9 ?kB rfl ?_ ?c2 ?c3 ?c4 ?c5 ?c6; (case k6 => k_is); (case k7 => k_is); (case k9 => first | exact fun s _ => BindsTo.of_eq rfl | exact fun s hX => binds_K hX rfl (by k_is) rfl rfl rfl); (case c5 => decide); (case c6 => decide); (case kB => exact locs rfl); (case c2 => exact rfl); (case c3 => exact rfl); (case c4 => exact rfl); k_whole; intro dp un gd outer base g s L' B X T F N hdp hun; (try dsimp only [DL] at N); (try dsimp only); (try k_fold))
  k_steps
  exact EndC.mk (by k_asm) (by k_asm) ⟨⟨_, rfl⟩, rfl⟩
end
section
-- c_ws
theorem lines_c_ws : True := by
  k_with "my inst" => (guard_hyp mk16; first | (refine' inst_N_c_ws ?Nq123 ?mq123 ?m2q123; (case Nq123 => k_asm); (case mq123 => k_mem); (case m2q123 => k_mem)) | (refine' inst_K1_c_ws ?Xq123 ?eq123 ?dq123; (case Xq123 => k_in); (case eq123 => k_is); (case dq123 => k_is)))
  k_with "getMethod type:tuple" => (guard_hyp mk16; (k_here; k_dflt (refine' method_type ?Fq124 ?Xq124 ?tq124 ?sq124 ?eq124 ?hq124 ?_; (case Fq124 => k_asm); (case Xq124 => k_asm); (case tq124 => kernel_rfl); (case sq124 => decide +kernel); (case eq124 => k_is); (case hq124 => k_handed))))
  k_with "call type:type" => (guard_hyp mk16; (k_here; k_dflt (refine' kto_own (C := _) ?Iq125 ?_; (case Iq125 => k_extra "my inst"))))
  k_with "call builtin:issubclass" => (guard_hyp mk16; (k_here; k_dflt (refine' issub_tup ?Xq126 ?tq126 ?iq126 ?_; (case Xq126 => k_in); (case tq126 => k_is); (case iq126 => k_is))))
  k_with "call builtin:tuple.__getitem__" => (guard_hyp mk16; (k_here; k_dflt (refine' tup_item (k := _) ?Xq127 ?Iq127 ?iq127 ?kq127 ?lq127 ?_; (case Xq127 => k_in); (case Iq127 => k_extra "my inst"); (case iq127 => k_is); (case kq127 => rfl); (case lq127 => decide))))
  k_with "call builtin:tuple.__new__" => (guard_hyp mk16; (k_here; k_dflt (refine' new_TN (tmakes_of' ?Xq128 ?hoq128 ?hrq128 ?e9q128 ?e10q128 ?e11q128) ?Fq128 ?Nq128 ?htq128 ?hzq128 ?_; (case Xq128 => k_in); (case hoq128 => k_is); (case hrq128 => decide +kernel); (case e9q128 => k_is); (case e10q128 => k_is); (case e11q128 => k_is); (case Fq128 => k_asm); (case Nq128 => k_asm); (case htq128 => k_mem); (case hzq128 => exact Nat.le_of_ble_eq_true rfl)); intro x' dx' h' F' N' l1 l2; (try k_lt l1); (try k_sweep)))
  exact True.intro
theorem inst_K1_c_ws {K : Frag} {h : Heap} {x C dx : Addr} {xs : Array Value} {n : Nat} {sl : Array (Option Value)} {o : Obj} (X : K.In h) (e : K.lookup x = some ⟨.ref C, some dx, .seq xs n, sl⟩) (hd : K.lookup dx = some o) :
    PySem.W.InstAt h x ⟨.ref C, some dx, .seq xs n, sl⟩ C (some o) := ⟨X _ _ e, rfl, rfl, X _ _ hd⟩
theorem inst_N_c_ws {h₀ h : Heap} {L x C dx : Addr} {news : Led} {xs : Array Value} (N : News h₀ L h news) (e : (x, tupInst C dx xs) ∈ news) (e2 : (dx, emptyDict) ∈ news) :
    PySem.W.InstAt h x (tupInst C dx xs) C (some emptyDict) := ⟨(N _ e).1, rfl, rfl, (N _ e2).1⟩
theorem c_ws {x : CX} {L : Led} {v1 v2 : Value} :
    Ct 1 x 82 [.ref 132, v1, v2] [] L fun v L' => ∃ D dx, v = .ref D ∧ (∀ p ∈ L, p.1 < dx) ∧ dx < D ∧ L' = (D, tupInst 132 dx #[v1, v2]) :: (dx, emptyDict) :: L := by
  have mk16 := True.intro
  unfold Ct
  k_fill
  k_dflt (refine' ctr_enter (binds := [(Str.ofString "_cls", .ref 132), (Str.ofString "reset_time", v1), (Str.ofString "remaining", v2)]) (mm := fun y => List.lookup y [(Str.ofString "remaining", v2), (Str.ofString "reset_time", v1), (Str.ofString "_cls", .ref 132)]) ?k6 ?k7 ?k9 ?kB rfl ?_ ?c2 ?c3 ?c4 ?c5 ?c6; (case k6 => k_is); (case k7 => k_is); (case k9 => first | exact fun s _ => BindsTo.of_eq rfl | exact fun s hX => binds_K hX rfl (by k_is) rfl rfl rfl); (case c5 => decide); (case c6 => decide); (case kB => exact locs rfl); (case c2 => exact rfl); (case c3 => exact rfl); (case c4 => exact rfl); k_whole; intro dp un gd outer base g s L' B X T F N hdp hun; (try dsimp only [DL] at N); (try dsimp only); (try k_fold))
  k_steps
  (refine' EndC.mk2 ?F ?N ?s ⟨_, _, rfl, ?a, ?b, rfl⟩)
  case b => assumption
  case F => k_asm
  case N => k_asm
  case s => exact fun p hp => (List.mem_cons.mp hp).elim (fun e => e ▸ .head _) fun hp => (List.mem_cons.mp hp).elim (fun e => e ▸ .tail _ (.head _)) fun hp => .tail _ (.tail _ (.tail _ hp))
  case a => (rename _ ∧ AllLt _ _ => hl; exact allLt_mem hl.2)
theorem c_mkws {x : CX} {L : Led} {v1 v2 : Value} :
    Ct 2 x 132 [v1, v2] [] L fun v L' => ∃ D dx, v = .ref D ∧ (∀ p ∈ L, p.1 < dx) ∧ dx < D ∧ L' = (D, tupInst 132 dx #[v1, v2]) :: (dx, emptyDict) :: L := by
  have C := @c_ws x L v1 v2
  unfold Ct at C ⊢
  k_fill
  intro dp un gd outer base s R B X T N0 hd hu k
  have Xs : Frag.In _ s.heap := X.keeps fun b o e => of_hideAll _ e
  refine' make_T (f := .ref 82) (tmakes_of' Xs ?ho ?hr ?e9 ?e10 ?e11) ?hg ?hq
  case ho => k_is
  case hr => decide +kernel
  case e9 => k_is
  case e10 => k_is
  case e11 => k_is
  case hg => (intro A' Q E h; refine' cls_bind (mc := .type "type") Xs ?hr ?e (wpAny_call (sm_get (s := { s with toks := s.toks + 1 }) Xs ?hp (handed_on rfl h))); (case hr => k_is); (case e => k_is); (case hp => k_is))
  case hq =>
    have hcu : (Code.builtin "type.__call__" { pos := [Value.ref 132, v1, v2] }).cUnits ≤ 30 := Nat.le_of_ble_eq_true rfl
    refine' C (dp + 1) _ _ outer base { s with toks := s.toks + 1 } _ ⟨rfl, B.stays, B.frames⟩ X T N0 ?hd ?hu ?k
    case hd => omega
    case hu => (show un + _ + 40 * 1 < cLine; omega)
    case k =>
      intro v h' tk' L' m' news' F' N' ⟨D, dx, e1, l1, l2, e2⟩
      subst e1 e2
      have X2 := X.keeps F'.keep
      refine' ⟨D, _, rfl, tmakes_of' X2 ?ho ?hr ?e9 ?e10 ?e11, (N' (D, _) (.head _)).1, rfl, k _ h' tk' L' m' _ F' N' ⟨_, _, rfl, l1, l2, rfl⟩⟩
      case ho => k_is
      case hr => decide +kernel
      case e9 => k_is
      case e10 => k_is
      case e11 => k_is
end
section
-- c_fstat
theorem lines_c_fstat : True := by
  k_with "call ref" => (guard_hyp mk17; (k_here; (with_reducible show wpAny _ _ (call (Value.ref 458) _ _) _ _ _); (k_dflt (show wpAny _ _ (call (Value.ref 458) [Value.ref _, Value.ref _] []) _ _ _)); k_dflt (refine' Ctr.call (NameAt.use ?hq129 ?subq129) ?Bq129 ?Fq129 ?Xq129 ?Nq129 ?Tq129 rfl rfl rfl rfl ?hdq129 ?huq129 ?_; (case Nq129 => k_asm); (case hq129 => assumption); (case subq129 => k_extra "my sub"); (case Bq129 => k_asm); (case Fq129 => k_asm); (case Xq129 => k_asm); (case Tq129 => k_asm); (case hdq129 => k_extra "my room"); (case huq129 => k_extra "my room")); (refine after_t ?_); intro h' tk' t' F' N'; (try k_sweep)))
  k_with "call ref" => (guard_hyp mk17; (k_here; (with_reducible show wpAny _ _ (call (Value.ref 451) _ _) _ _ _); (k_dflt (show wpAny _ _ (call (Value.ref 451) [Value.ref _] []) _ _ _)); k_dflt (refine' Ctr.call (exp_of ?m1q130 ?m2q130) ?Bq130 ?Fq130 ?Xq130 ?Nq130 ?Tq130 rfl rfl rfl rfl ?hdq130 ?huq130 ?_; (case Nq130 => k_asm); (case m1q130 => k_mem); (case m2q130 => k_mem); (case Bq130 => k_asm); (case Fq130 => k_asm); (case Xq130 => k_asm); (case Tq130 => k_asm); (case hdq130 => k_extra "my room"); (case huq130 => k_extra "my room")); (refine after_t ?_); intro h' tk' t' F' N'; (try k_sweep)))
  k_with "callWith ref" => (guard_hyp mk17; (k_here; (with_reducible show wpAny _ _ (callWith _ (Value.ref 451) _ _ _) _ _ _); k_dflt (refine' callWith_K0 (in_of ?Fq131 ?Xq131) ?kq131 ?_; (case Fq131 => k_asm); (case Xq131 => assumption); (case kq131 => k_is); (try dsimp only [List.nil_append, List.cons_append, List.append_nil]))))
  k_with "getMethod ref" => (guard_hyp mk17; (k_here; (with_reducible show wpAny _ _ (getMethod (Value.ref _) (Str.ofString "key_for") _) _ _ _); k_dflt (refine' method_inst ?k1q132 ?k2q132 ?k3q132 ?k4q132 ?k5q132 ?k6q132 ?k7q132 ?_; (case k1q132 => k_asm); (case k2q132 => k_asm); (case k3q132 => k_inst); (case k4q132 => k_is); (case k5q132 => k_is); (case k6q132 => k_is); (case k7q132 => k_get); k_whole)))
  k_with "getMethod ref" => (guard_hyp mk17; (k_here; (with_reducible show wpAny _ _ (getMethod (Value.ref _) (Str.ofString "get_expiry") _) _ _ _); k_dflt (refine' method_inst ?k1q133 ?k2q133 ?k3q133 ?k4q133 ?k5q133 ?k6q133 ?k7q133 ?_; (case k1q133 => k_asm); (case k2q133 => k_asm); (case k3q133 => k_inst); (case k4q133 => k_is); (case k5q133 => k_is); (case k6q133 => k_is); (case k7q133 => k_get); k_whole)))
  k_with "getMethod ref" => (guard_hyp mk17; (k_here; (with_reducible show wpAny _ _ (getMethod (Value.ref _) (Str.ofString "_weighted_count") _) _ _ _); k_dflt (refine' method_inst ?k1q134 ?k2q134 ?k3q134 ?k4q134 ?k5q134 ?k6q134 ?k7q134 ?_; (case k1q134 => k_asm); (case k2q134 => k_asm); (case k3q134 => k_inst); (case k4q134 => k_is); (case k5q134 => k_is); (case k6q134 => k_is); (case k7q134 => k_get); k_whole)))
  k_with "call ref" => (guard_hyp mk17; (k_here; (with_reducible show wpAny _ _ (call (Value.ref 599) [_, _] []) _ _ _); k_dflt (k_extra "my drop"; refine' Ctr.call (c_get ?X0q135 ?Sq135 ?hbq135) ?Bq135 ?Fq135 ?Xq135 ?Nq135 ?Tq135 rfl rfl rfl rfl ?hdq135 ?huq135 ?_; (case X0q135 => k_asm); (case Nq135 => k_asm); (case Sq135 => k_extra "my sto"); (case hbq135 => first | k_asm | omega); (case Bq135 => k_asm); (case Fq135 => k_asm); (case Xq135 => k_asm); (case Tq135 => k_asm); (case hdq135 => k_extra "my room"); (case huq135 => k_extra "my room")); intro v' h' tk' L2' F' N' hp'; (obtain ⟨⟨t', e1'⟩, S'⟩ := hp'); subst e1'; (cases S'); (try k_sweep)))
  k_with "subscriptTail" => (guard_hyp mk17; (k_here; (with_reducible show wpAny _ _ (subscriptTail _ _ (Value.ref _) (Value.str _ _)) _ _ _); k_dflt (refine' d_item (P := PI) ?Nq136 ?mq136 ?Tq136 ?eq136 ?_; (case Nq136 => k_asm); (case mq136 => k_mem); (case Tq136 => k_asm); (case eq136 => exact upd_at _ _ _)); intro v' hv'; (obtain ⟨t', e'⟩ := hv'); subst e'))
  k_with "call ref" => (guard_hyp mk17; (k_here; (with_reducible show wpAny _ _ (call (Value.ref 621) _ _) _ _ _); (k_dflt (show wpAny _ _ (call (Value.ref 621) [_, _] []) _ _ _)); k_dflt (refine' Ctr.call (c_gexp ?X0q137 ?Sq137 ?hbq137) ?Bq137 ?Fq137 ?Xq137 ?Nq137 ?Tq137 rfl rfl rfl rfl ?hdq137 ?huq137 ?_; (case Nq137 => k_asm); (case X0q137 => k_asm); (case Sq137 => k_extra "my sto"); (case hbq137 => first | k_asm | omega); (case Bq137 => k_asm); (case Fq137 => k_asm); (case Xq137 => k_asm); (case Tq137 => k_asm); (case hdq137 => k_extra "my room"); (case huq137 => k_extra "my room")); intro v' h' tk' L2' F' N' hp'; (obtain ⟨⟨t', e1'⟩, e2'⟩ := hp'); subst e1' e2'; (try k_sweep)))
  k_with "call ref" => (guard_hyp mk17; (k_here; (with_reducible show wpAny _ _ (call (Value.ref 132) _ _) _ _ _); (k_dflt (show wpAny _ _ (call (Value.ref 132) [_, _] []) _ _ _)); k_dflt (refine' Ctr.call (c_mkws) ?Bq138 ?Fq138 ?Xq138 ?Nq138 ?Tq138 rfl rfl rfl rfl ?hdq138 ?huq138 ?_; (case Nq138 => k_asm); (case Bq138 => k_asm); (case Fq138 => k_asm); (case Xq138 => k_asm); (case Tq138 => k_asm); (case hdq138 => k_extra "my room"); (case huq138 => k_extra "my room")); intro v' h' tk' L2' F' N' hp'; (refine hideG ?_); intro G' hG'; (obtain ⟨D', dx', e1', l1', l2', e2'⟩ := hp'); (refine hG' ?_); (clear hG' G'); subst e1' e2'; (replace l2' := Nat.succ_le_of_lt l2'); (try k_lt l1'); (try k_sweep)))
  k_with "my fix" => (guard_hyp mk17; first | assumption | (refine' Fix.push ?_ ?h1q139 ?h2q139 ?h3q139 ?h4q139 ?h5q139; (case h1q139 => (refine Nat.lt_of_succ_le ?_; (try dsimp only); omega)); (case h2q139 => (refine Nat.lt_of_succ_le ?_; (try dsimp only); omega)); (case h3q139 => (refine Nat.lt_of_succ_le ?_; (try dsimp only); omega)); (case h4q139 => (refine Nat.lt_of_succ_le ?_; (try dsimp only); omega)); (case h5q139 => (refine Nat.lt_of_succ_le ?_; (try dsimp only); omega)); k_extra "my fix"))
  k_with "my tab2" => (guard_hyp mk17; first | k_extra "my tab" | exact TabOk.push (TabOk.push (TabOk.push (.some (by assumption) (by assumption) (by assumption)))) | (refine' tabOk_some' ?aq140 ?bq140 ?cq140 ?dq140 ?eq140; (case aq140 => exact .tail _ (.tail _ (.head _))); (case bq140 => assumption); (case cq140 => assumption); (case dq140 => first | rfl | kernel_rfl); (case eq140 => rfl)))
  k_with "my pe" => (guard_hyp mk17; first | assumption | (refine tab_up ?_; k_extra "my pe"))
  k_with "my endk" => (guard_hyp mk17; (refine' StR.mk ?a1q142 ?a2q142 ?a3q142 ?a4q142 ?a5q142; (case a1q142 => k_extra "my end1"); (case a2q142 => k_extra "my end1"); (case a3q142 => k_extra "my pe"); (case a4q142 => k_extra "my tab2"); (case a5q142 => k_extra "my fix")))
  exact True.intro
theorem c_fstat {x : CX} {c : Cf} {σ : St} {b : Nat} {L rest : Led} {lim it tu : Addr} {am cost : Int} {key : Str} {tc : Tok} (X0 : Fixed x c) (S : StR x c σ b L rest) (hb : b ≤ 600) (HL : LimAt rest 241 lim c.st) (HI : ItemAt rest it am) (HN : NameAt x rest it tu key) :
    Ct 5 x 238 [.ref lim, .ref it, .ref tu] [] L fun v L' => ∃ D dx t1 t2 rest', v = .ref D ∧ (∀ p ∈ rest, p ∈ rest') ∧ (D, tupInst 132 dx #[.int (expV (getS σ key) key) t1, .int (if am - getV σ key > 0 then am - getV σ key else 0) t2]) ∈ rest' ∧ (dx, emptyDict) ∈ rest' ∧ StR x c (getS σ key) b L' rest' := by
  have mk17 := True.intro
  refine hideG ?_
  intro G' hG'
  obtain ⟨dl, el, tl, nl, ml1, ml2⟩ := HL
  obtain ⟨dit, e1, e2, e3, ti1, ti2, ti3, ti4, ti5, ti6, ni, mi1, mi2⟩ := HI
  refine hG' ?_
  clear hG' G'
  have X1 := X0
  obtain ⟨lo1, lo2, lo3, n12, n13, n14, n15, n23, n24, n25, n34, n35, n45, hclk⟩ := X1
  refine open_s S ?_
  clear S
  intro o1 o2 o3 o5 t0 n0 T1 T2 T3 T4 T5
  have T5' := T5
  obtain ⟨m1, m2, m3, m4, m5, a1, a2, a3, a4, a5⟩ := T5'
  have hb1 : b ≤ 900 := by omega
  unfold Ct
  k_fill
  k_dflt (refine' ctr_enter (binds := [(Str.ofString "self", .ref lim), (Str.ofString "item", .ref it), (Str.ofString "identifiers", .ref tu)]) (mm := fun y => List.lookup y [(Str.ofString "identifiers", .ref tu), (Str.ofString "item", .ref it), (Str.ofString "self", .ref lim)]) ?k6 ?k7 ?k9 ?kB rfl ?_ ?c2 ?c3 ?c4 ?c5 ?c6; (case k6 => k_is); (case k7 => k_is); (case k9 => first | exact fun s _ => BindsTo.of_eq rfl | exact fun s hX => binds_K hX rfl (by k_is) rfl rfl rfl); (case c5 => decide); (case c6 => decide); (case kB => exact locs rfl); (case c2 => exact rfl); (case c3 => exact rfl); (case c4 => exact rfl); k_whole; intro dp un gd outer base g s L' B X T F N hdp hun; (try dsimp only [DL] at N); (try dsimp only); (try k_fold))
  k_steps
  refine' EndC.mk2 ?Fz ?Nz ?sz ⟨_, _, _, _, _ :: _ :: rest, rfl, fun _ h => .tail _ (.tail _ h), .head _, .tail _ (.head _), ?Sz⟩
  case Fz => k_asm
  case Nz => k_asm
  case sz => exact sub2
  case Sz => k_extra "my endk"
end
section
-- c_clear
theorem c_clear {x : CX} {c : Cf} {σ : St} {b : Nat} {L rest : Led} {key : Str} {tk : Tok} (X0 : Fixed x c) (S : StR x c σ b L rest) (hb : b ≤ 900) :
    Ct 1 x 606 [.ref c.st, .str key tk] [] L fun v L' => v = .none ∧ StR x c (clearS σ key) b L' rest := by
  have mk18 := True.intro
  have X1 := X0
  obtain ⟨lo1, lo2, lo3, n12, n13, n14, n15, n23, n24, n25, n34, n35, n45, hclk⟩ := X1
  refine open_s S ?_
  clear S
  intro o1 o2 o3 o5 t0 n0 T1 T2 T3 T4 T5
  have T5' := T5
  obtain ⟨m1, m2, m3, m4, m5, a1, a2, a3, a4, a5⟩ := T5'
  have hb1 : b ≤ 1000 := by omega
  unfold Ct
  k_fill
  k_dflt (refine' ctr_enter (binds := [(Str.ofString "self", .ref c.st), (Str.ofString "key", .str key tk)]) (mm := fun y => List.lookup y [(Str.ofString "key", .str key tk), (Str.ofString "self", .ref c.st)]) ?k6 ?k7 ?k9 ?kB rfl ?_ ?c2 ?c3 ?c4 ?c5 ?c6; (case k6 => k_is); (case k7 => k_is); (case k9 => first | exact fun s _ => BindsTo.of_eq rfl | exact fun s hX => binds_K hX rfl (by k_is) rfl rfl rfl); (case c5 => decide); (case c6 => decide); (case kB => exact locs rfl); (case c2 => exact rfl); (case c3 => exact rfl); (case c4 => exact rfl); k_whole; intro dp un gd outer base g s L' B X T F N hdp hun; (try dsimp only [DL] at N); (try dsimp only); (try k_fold))
  k_steps
  exact EndC.mk (by k_asm) (by k_asm) ⟨rfl, StR.of (by k_asm) (by k_asm) (by k_asm) T4 T5⟩
end
section
-- c_fclr
theorem lines_c_fclr : True := by
  k_with "call ref" => (guard_hyp mk19; (k_here; (with_reducible show wpAny _ _ (call (Value.ref 458) _ _) _ _ _); (k_dflt (show wpAny _ _ (call (Value.ref 458) [Value.ref _, Value.ref _] []) _ _ _)); k_dflt (refine' Ctr.call (NameAt.use ?hq143 ?subq143) ?Bq143 ?Fq143 ?Xq143 ?Nq143 ?Tq143 rfl rfl rfl rfl ?hdq143 ?huq143 ?_; (case Nq143 => k_asm); (case hq143 => assumption); (case subq143 => k_extra "my sub"); (case Bq143 => k_asm); (case Fq143 => k_asm); (case Xq143 => k_asm); (case Tq143 => k_asm); (case hdq143 => k_extra "my room"); (case huq143 => k_extra "my room")); (refine after_t ?_); intro h' tk' t' F' N'; (try k_sweep)))
  k_with "call ref" => (guard_hyp mk19; (k_here; (with_reducible show wpAny _ _ (call (Value.ref 451) _ _) _ _ _); (k_dflt (show wpAny _ _ (call (Value.ref 451) [Value.ref _] []) _ _ _)); k_dflt (refine' Ctr.call (exp_of ?m1q144 ?m2q144) ?Bq144 ?Fq144 ?Xq144 ?Nq144 ?Tq144 rfl rfl rfl rfl ?hdq144 ?huq144 ?_; (case Nq144 => k_asm); (case m1q144 => k_mem); (case m2q144 => k_mem); (case Bq144 => k_asm); (case Fq144 => k_asm); (case Xq144 => k_asm); (case Tq144 => k_asm); (case hdq144 => k_extra "my room"); (case huq144 => k_extra "my room")); (refine after_t ?_); intro h' tk' t' F' N'; (try k_sweep)))
  k_with "getMethod ref" => (guard_hyp mk19; (k_here; (with_reducible show wpAny _ _ (getMethod (Value.ref _) (Str.ofString "key_for") _) _ _ _); k_dflt (refine' method_inst ?k1q145 ?k2q145 ?k3q145 ?k4q145 ?k5q145 ?k6q145 ?k7q145 ?_; (case k1q145 => k_asm); (case k2q145 => k_asm); (case k3q145 => k_inst); (case k4q145 => k_is); (case k5q145 => k_is); (case k6q145 => k_is); (case k7q145 => k_get); k_whole)))
  k_with "getMethod ref" => (guard_hyp mk19; (k_here; (with_reducible show wpAny _ _ (getMethod (Value.ref _) (Str.ofString "get_expiry") _) _ _ _); k_dflt (refine' method_inst ?k1q146 ?k2q146 ?k3q146 ?k4q146 ?k5q146 ?k6q146 ?k7q146 ?_; (case k1q146 => k_asm); (case k2q146 => k_asm); (case k3q146 => k_inst); (case k4q146 => k_is); (case k5q146 => k_is); (case k6q146 => k_is); (case k7q146 => k_get); k_whole)))
  k_with "getMethod ref" => (guard_hyp mk19; (k_here; (with_reducible show wpAny _ _ (getMethod (Value.ref _) (Str.ofString "_weighted_count") _) _ _ _); k_dflt (refine' method_inst ?k1q147 ?k2q147 ?k3q147 ?k4q147 ?k5q147 ?k6q147 ?k7q147 ?_; (case k1q147 => k_asm); (case k2q147 => k_asm); (case k3q147 => k_inst); (case k4q147 => k_is); (case k5q147 => k_is); (case k6q147 => k_is); (case k7q147 => k_get); k_whole)))
  k_with "call ref" => (guard_hyp mk19; (k_here; (with_reducible show wpAny _ _ (call (Value.ref 606) [_, _] []) _ _ _); k_dflt (k_extra "my drop"; refine' Ctr.call (c_clear ?X0q148 ?Sq148 ?hbq148) ?Bq148 ?Fq148 ?Xq148 ?Nq148 ?Tq148 rfl rfl rfl rfl ?hdq148 ?huq148 ?_; (case X0q148 => k_asm); (case Nq148 => k_asm); (case Sq148 => k_extra "my sto"); (case hbq148 => first | k_asm | omega); (case Bq148 => k_asm); (case Fq148 => k_asm); (case Xq148 => k_asm); (case Tq148 => k_asm); (case hdq148 => k_extra "my room"); (case huq148 => k_extra "my room")); (refine after_s ?_); intro h' tk' o1' o2' o3' o5' t' n' F' N' T1' T2' T3' T4' T5'; (try k_sweep)))
  exact True.intro
theorem c_fclr {x : CX} {c : Cf} {σ : St} {b : Nat} {L rest : Led} {lim it tu : Addr} {am cost : Int} {key : Str} {tc : Tok} (X0 : Fixed x c) (S : StR x c σ b L rest) (hb : b ≤ 600) (HL : LimAt rest 241 lim c.st) (HI : ItemAt rest it am) (HN : NameAt x rest it tu key) :
    Ct 5 x 158 [.ref lim, .ref it, .ref tu] [] L fun v L' => v = .none ∧ StR x c (clearS σ key) b L' rest := by
  have mk19 := True.intro
  refine hideG ?_
  intro G' hG'
  obtain ⟨dl, el, tl, nl, ml1, ml2⟩ := HL
  obtain ⟨dit, e1, e2, e3, ti1, ti2, ti3, ti4, ti5, ti6, ni, mi1, mi2⟩ := HI
  refine hG' ?_
  clear hG' G'
  have X1 := X0
  obtain ⟨lo1, lo2, lo3, n12, n13, n14, n15, n23, n24, n25, n34, n35, n45, hclk⟩ := X1
  refine open_s S ?_
  clear S
  intro o1 o2 o3 o5 t0 n0 T1 T2 T3 T4 T5
  have T5' := T5
  obtain ⟨m1, m2, m3, m4, m5, a1, a2, a3, a4, a5⟩ := T5'
  have hb1 : b ≤ 900 := by omega
  unfold Ct
  k_fill
  k_dflt (refine' ctr_enter (binds := [(Str.ofString "self", .ref lim), (Str.ofString "item", .ref it), (Str.ofString "identifiers", .ref tu)]) (mm := fun y => List.lookup y [(Str.ofString "identifiers", .ref tu), (Str.ofString "item", .ref it), (Str.ofString "self", .ref lim)]) ?k6 ?k7 ?k9 ?kB rfl ?_ ?c2 ?c3 ?c4 ?c5 ?c6; (case k6 => k_is); (case k7 => k_is); (case k9 => first | exact fun s _ => BindsTo.of_eq rfl | exact fun s hX => binds_K hX rfl (by k_is) rfl rfl rfl); (case c5 => decide); (case c6 => decide); (case kB => exact locs rfl); (case c2 => exact rfl); (case c3 => exact rfl); (case c4 => exact rfl); k_whole; intro dp un gd outer base g s L' B X T F N hdp hun; (try dsimp only [DL] at N); (try dsimp only); (try k_fold))
  k_steps
  refine EndC.mk (by k_asm) (by k_asm) ⟨rfl, ?_⟩
  k_extra "my end"
end
section
-- c_mclr
theorem lines_c_mclr : True := by
  k_with "call ref" => (guard_hyp mk20; (k_here; (with_reducible show wpAny _ _ (call (Value.ref 458) _ _) _ _ _); (k_dflt (show wpAny _ _ (call (Value.ref 458) [Value.ref _, Value.ref _] []) _ _ _)); k_dflt (refine' Ctr.call (NameAt.use ?hq149 ?subq149) ?Bq149 ?Fq149 ?Xq149 ?Nq149 ?Tq149 rfl rfl rfl rfl ?hdq149 ?huq149 ?_; (case Nq149 => k_asm); (case hq149 => assumption); (case subq149 => k_extra "my sub"); (case Bq149 => k_asm); (case Fq149 => k_asm); (case Xq149 => k_asm); (case Tq149 => k_asm); (case hdq149 => k_extra "my room"); (case huq149 => k_extra "my room")); (refine after_t ?_); intro h' tk' t' F' N'; (try k_sweep)))
  k_with "call ref" => (guard_hyp mk20; (k_here; (with_reducible show wpAny _ _ (call (Value.ref 451) _ _) _ _ _); (k_dflt (show wpAny _ _ (call (Value.ref 451) [Value.ref _] []) _ _ _)); k_dflt (refine' Ctr.call (exp_of ?m1q150 ?m2q150) ?Bq150 ?Fq150 ?Xq150 ?Nq150 ?Tq150 rfl rfl rfl rfl ?hdq150 ?huq150 ?_; (case Nq150 => k_asm); (case m1q150 => k_mem); (case m2q150 => k_mem); (case Bq150 => k_asm); (case Fq150 => k_asm); (case Xq150 => k_asm); (case Tq150 => k_asm); (case hdq150 => k_extra "my room"); (case huq150 => k_extra "my room")); (refine after_t ?_); intro h' tk' t' F' N'; (try k_sweep)))
  k_with "getMethod ref" => (guard_hyp mk20; (k_here; (with_reducible show wpAny _ _ (getMethod (Value.ref _) (Str.ofString "key_for") _) _ _ _); k_dflt (refine' method_inst ?k1q151 ?k2q151 ?k3q151 ?k4q151 ?k5q151 ?k6q151 ?k7q151 ?_; (case k1q151 => k_asm); (case k2q151 => k_asm); (case k3q151 => k_inst); (case k4q151 => k_is); (case k5q151 => k_is); (case k6q151 => k_is); (case k7q151 => k_get); k_whole)))
  k_with "getMethod ref" => (guard_hyp mk20; (k_here; (with_reducible show wpAny _ _ (getMethod (Value.ref _) (Str.ofString "get_expiry") _) _ _ _); k_dflt (refine' method_inst ?k1q152 ?k2q152 ?k3q152 ?k4q152 ?k5q152 ?k6q152 ?k7q152 ?_; (case k1q152 => k_asm); (case k2q152 => k_asm); (case k3q152 => k_inst); (case k4q152 => k_is); (case k5q152 => k_is); (case k6q152 => k_is); (case k7q152 => k_get); k_whole)))
  k_with "getMethod ref" => (guard_hyp mk20; (k_here; (with_reducible show wpAny _ _ (getMethod (Value.ref _) (Str.ofString "_weighted_count") _) _ _ _); k_dflt (refine' method_inst ?k1q153 ?k2q153 ?k3q153 ?k4q153 ?k5q153 ?k6q153 ?k7q153 ?_; (case k1q153 => k_asm); (case k2q153 => k_asm); (case k3q153 => k_inst); (case k4q153 => k_is); (case k5q153 => k_is); (case k6q153 => k_is); (case k7q153 => k_get); k_whole)))
  k_with "call ref" => (guard_hyp mk20; (k_here; (with_reducible show wpAny _ _ (call (Value.ref 606) [_, _] []) _ _ _); k_dflt (k_extra "my drop"; refine' Ctr.call (c_clear ?X0q154 ?Sq154 ?hbq154) ?Bq154 ?Fq154 ?Xq154 ?Nq154 ?Tq154 rfl rfl rfl rfl ?hdq154 ?huq154 ?_; (case X0q154 => k_asm); (case Nq154 => k_asm); (case Sq154 => k_extra "my sto"); (case hbq154 => first | k_asm | omega); (case Bq154 => k_asm); (case Fq154 => k_asm); (case Xq154 => k_asm); (case Tq154 => k_asm); (case hdq154 => k_extra "my room"); (case huq154 => k_extra "my room")); (refine after_s ?_); intro h' tk' o1' o2' o3' o5' t' n' F' N' T1' T2' T3' T4' T5'; (try k_sweep)))
  exact True.intro
theorem c_mclr {x : CX} {c : Cf} {σ : St} {b : Nat} {L rest : Led} {lim it tu : Addr} {am cost : Int} {key : Str} {tc : Tok} (X0 : Fixed x c) (S : StR x c σ b L rest) (hb : b ≤ 600) (HL : LimAt rest 202 lim c.st) (HI : ItemAt rest it am) (HN : NameAt x rest it tu key) :
    Ct 5 x 158 [.ref lim, .ref it, .ref tu] [] L fun v L' => v = .none ∧ StR x c (clearS σ key) b L' rest := by
  have mk20 := True.intro
  refine hideG ?_
  intro G' hG'
  obtain ⟨dl, el, tl, nl, ml1, ml2⟩ := HL
  obtain ⟨dit, e1, e2, e3, ti1, ti2, ti3, ti4, ti5, ti6, ni, mi1, mi2⟩ := HI
  refine hG' ?_
  clear hG' G'
  have X1 := X0
  obtain ⟨lo1, lo2, lo3, n12, n13, n14, n15, n23, n24, n25, n34, n35, n45, hclk⟩ := X1
  refine open_s S ?_
  clear S
  intro o1 o2 o3 o5 t0 n0 T1 T2 T3 T4 T5
  have T5' := T5
  obtain ⟨m1, m2, m3, m4, m5, a1, a2, a3, a4, a5⟩ := T5'
  have hb1 : b ≤ 900 := by omega
  unfold Ct
  k_fill
  k_dflt (refine' ctr_enter (binds := [(Str.ofString "self", .ref lim), (Str.ofString "item", .ref it), (Str.ofString "identifiers", .ref tu)]) (mm := fun y => List.lookup y [(Str.ofString "identifiers", .ref tu), (Str.ofString "item", .ref it), (Str.ofString "self", .ref lim)]) ?k6 ?k7 ?k9 ?kB rfl ?_ ?c2 ?c3 ?c4 ?c5 ?c6; (case k6 => k_is); (case k7 => k_is); (case k9 => first | exact fun s _ => BindsTo.of_eq rfl | exact fun s hX => binds_K hX rfl (by k_is) rfl rfl rfl); (case c5 => decide); (case c6 => decide); (case kB => exact locs rfl); (case c2 => exact rfl); (case c3 => exact rfl); (case c4 => exact rfl); k_whole; intro dp un gd outer base g s L' B X T F N hdp hun; (try dsimp only [DL] at N); (try dsimp only); (try k_fold))
  k_steps
  refine EndC.mk (by k_asm) (by k_asm) ⟨rfl, ?_⟩
  k_extra "my end"
end
section
-- c_mhit
theorem lines_c_mhit : True := by
  k_with "call ref" => (guard_hyp mk21; (k_here; (with_reducible show wpAny _ _ (call (Value.ref 458) _ _) _ _ _); (k_dflt (show wpAny _ _ (call (Value.ref 458) [Value.ref _, Value.ref _] []) _ _ _)); k_dflt (refine' Ctr.call (NameAt.use ?hq155 ?subq155) ?Bq155 ?Fq155 ?Xq155 ?Nq155 ?Tq155 rfl rfl rfl rfl ?hdq155 ?huq155 ?_; (case Nq155 => k_asm); (case hq155 => assumption); (case subq155 => k_extra "my sub"); (case Bq155 => k_asm); (case Fq155 => k_asm); (case Xq155 => k_asm); (case Tq155 => k_asm); (case hdq155 => k_extra "my room"); (case huq155 => k_extra "my room")); (refine after_t ?_); intro h' tk' t' F' N'; (try k_sweep)))
  k_with "call ref" => (guard_hyp mk21; (k_here; (with_reducible show wpAny _ _ (call (Value.ref 451) _ _) _ _ _); (k_dflt (show wpAny _ _ (call (Value.ref 451) [Value.ref _] []) _ _ _)); k_dflt (refine' Ctr.call (exp_of ?m1q156 ?m2q156) ?Bq156 ?Fq156 ?Xq156 ?Nq156 ?Tq156 rfl rfl rfl rfl ?hdq156 ?huq156 ?_; (case Nq156 => k_asm); (case m1q156 => k_mem); (case m2q156 => k_mem); (case Bq156 => k_asm); (case Fq156 => k_asm); (case Xq156 => k_asm); (case Tq156 => k_asm); (case hdq156 => k_extra "my room"); (case huq156 => k_extra "my room")); (refine after_t ?_); intro h' tk' t' F' N'; (try k_sweep)))
  k_with "callWith ref" => (guard_hyp mk21; (k_here; (with_reducible show wpAny _ _ (callWith _ (Value.ref 451) _ _ _) _ _ _); k_dflt (refine' callWith_K0 (in_of ?Fq157 ?Xq157) ?kq157 ?_; (case Fq157 => k_asm); (case Xq157 => assumption); (case kq157 => k_is); (try dsimp only [List.nil_append, List.cons_append, List.append_nil]))))
  k_with "getMethod ref" => (guard_hyp mk21; (k_here; (with_reducible show wpAny _ _ (getMethod (Value.ref _) (Str.ofString "key_for") _) _ _ _); k_dflt (refine' method_inst ?k1q158 ?k2q158 ?k3q158 ?k4q158 ?k5q158 ?k6q158 ?k7q158 ?_; (case k1q158 => k_asm); (case k2q158 => k_asm); (case k3q158 => k_inst); (case k4q158 => k_is); (case k5q158 => k_is); (case k6q158 => k_is); (case k7q158 => k_get); k_whole)))
  k_with "getMethod ref" => (guard_hyp mk21; (k_here; (with_reducible show wpAny _ _ (getMethod (Value.ref _) (Str.ofString "get_expiry") _) _ _ _); k_dflt (refine' method_inst ?k1q159 ?k2q159 ?k3q159 ?k4q159 ?k5q159 ?k6q159 ?k7q159 ?_; (case k1q159 => k_asm); (case k2q159 => k_asm); (case k3q159 => k_inst); (case k4q159 => k_is); (case k5q159 => k_is); (case k6q159 => k_is); (case k7q159 => k_get); k_whole)))
  k_with "getMethod ref" => (guard_hyp mk21; (k_here; (with_reducible show wpAny _ _ (getMethod (Value.ref _) (Str.ofString "_weighted_count") _) _ _ _); k_dflt (refine' method_inst ?k1q160 ?k2q160 ?k3q160 ?k4q160 ?k5q160 ?k6q160 ?k7q160 ?_; (case k1q160 => k_asm); (case k2q160 => k_asm); (case k3q160 => k_inst); (case k4q160 => k_is); (case k5q160 => k_is); (case k6q160 => k_is); (case k7q160 => k_get); k_whole)))
  k_with "call ref" => (guard_hyp mk21; (k_here; (with_reducible show wpAny _ _ (call (Value.ref 614) _ _) _ _ _); (k_dflt (show wpAny _ _ (call (Value.ref 614) [_, _, _, _] [(Str.ofString "amount", Value.int _ _)]) _ _ _)); k_dflt (k_extra "my drop"; refine' CtrT.call (c_acq ?X0q161 ?Sq161 ?hbq161 ?h1q161 ?h2q161 ?hlenq161) ?Bq161 ?Fq161 ?Xq161 ?Nq161 ?Tq161 ?XBq161 ?TBq161 ?Dq161 rfl rfl rfl ?hdq161 ?huq161 ?_; (case X0q161 => k_asm); (case Nq161 => k_asm); (case Sq161 => k_extra "my sto"); (case hbq161 => first | k_asm | omega); (case h1q161 => assumption); (case h2q161 => assumption); (case hlenq161 => assumption); (case XBq161 => assumption); (case TBq161 => assumption); (case Dq161 => assumption); (case Bq161 => k_asm); (case Fq161 => k_asm); (case Xq161 => k_asm); (case Tq161 => k_asm); (case hdq161 => k_extra "my room"); (case huq161 => k_extra "my room")); intro v' h' tk' L2' g' T' B' X' P' D' F' N' hp'; (refine hideG ?_); intro G' hG'; (obtain ⟨e1', r', hs', S'⟩ := hp'); (refine hG' ?_); (clear hG' G'); subst e1'; (cases S'); (try k_sweep)))
  exact True.intro
theorem c_mhit {x : CX} {c : Cf} {σ : St} {b : Nat} {L rest : Led} {lim it tu : Addr} {am cost : Int} {key : Str} {tc : Tok} (X0 : Fixed x c) (S : StR x c σ b L rest) (hb : b ≤ 600) (HL : LimAt rest 202 lim c.st) (HI : ItemAt rest it am) (HN : NameAt x rest it tu key) (h1 : 1 ≤ cost) (h2 : am ≤ 8) (hlen : ((σ.ev key).getD []).length ≤ 900) :
    CtT 6 x 181 [.ref lim, .ref it, .ref tu, .int cost tc] [] L fun v L' => v = .bool (acqMB σ key am cost) ∧ ∃ rest', (∀ p ∈ rest, p ∈ rest') ∧ StR x c (acqMS σ key am cost) (b + 2) L' rest' := by
  have mk21 := True.intro
  refine hideG ?_
  intro G' hG'
  obtain ⟨dl, el, tl, nl, ml1, ml2⟩ := HL
  obtain ⟨dit, e1, e2, e3, ti1, ti2, ti3, ti4, ti5, ti6, ni, mi1, mi2⟩ := HI
  refine hG' ?_
  clear hG' G'
  have X1 := X0
  obtain ⟨lo1, lo2, lo3, n12, n13, n14, n15, n23, n24, n25, n34, n35, n45, hclk⟩ := X1
  refine open_s S ?_
  clear S
  intro o1 o2 o3 o5 t0 n0 T1 T2 T3 T4 T5
  have T5' := T5
  obtain ⟨m1, m2, m3, m4, m5, a1, a2, a3, a4, a5⟩ := T5'
  have hb1 : b ≤ 900 := by omega
  unfold CtT
  k_fill
  k_dflt (refine' ctrT_enter (binds := [(Str.ofString "self", .ref lim), (Str.ofString "item", .ref it), (Str.ofString "identifiers", .ref tu), (Str.ofString "cost", .int cost tc)]) (mm := fun y => List.lookup y [(Str.ofString "cost", .int cost tc), (Str.ofString "identifiers", .ref tu), (Str.ofString "item", .ref it), (Str.ofString "self", .ref lim)]) ?k6 ?k7 ?k9 ?kB rfl ?_ ?c2 ?c3 ?c4 ?c5 ?c6; (case k6 => k_is); (case k7 => k_is); (case k9 => first | exact fun s _ => BindsTo.of_eq rfl | exact fun s hX => binds_K hX rfl (by k_is) rfl rfl rfl); (case c5 => decide); (case c6 => decide); (case kB => exact locs rfl); (case c2 => exact rfl); (case c3 => exact rfl); (case c4 => exact rfl); k_whole; intro dp un gd outer base g s L' B X T XB TB D F N hdp hun; (try dsimp only [DL] at N); (try dsimp only); (try k_fold))
  k_steps
  refine' EndT.mk ?Tz ?Fz ?Nz ?sz ⟨rfl, _, ?hz, ?Sz⟩
  case Tz => assumption
  case Fz => k_asm
  case Nz => k_asm
  case sz => exact fun p hp => hp
  case hz => assumption
  case Sz => k_extra "my end"
end
section
-- c_mtest
theorem lines_c_mtest : True := by
  k_with "call ref" => (guard_hyp mk22; (k_here; (with_reducible show wpAny _ _ (call (Value.ref 458) _ _) _ _ _); (k_dflt (show wpAny _ _ (call (Value.ref 458) [Value.ref _, Value.ref _] []) _ _ _)); k_dflt (refine' Ctr.call (NameAt.use ?hq162 ?subq162) ?Bq162 ?Fq162 ?Xq162 ?Nq162 ?Tq162 rfl rfl rfl rfl ?hdq162 ?huq162 ?_; (case Nq162 => k_asm); (case hq162 => assumption); (case subq162 => k_extra "my sub"); (case Bq162 => k_asm); (case Fq162 => k_asm); (case Xq162 => k_asm); (case Tq162 => k_asm); (case hdq162 => k_extra "my room"); (case huq162 => k_extra "my room")); (refine after_t ?_); intro h' tk' t' F' N'; (try k_sweep)))
  k_with "call ref" => (guard_hyp mk22; (k_here; (with_reducible show wpAny _ _ (call (Value.ref 451) _ _) _ _ _); (k_dflt (show wpAny _ _ (call (Value.ref 451) [Value.ref _] []) _ _ _)); k_dflt (refine' Ctr.call (exp_of ?m1q163 ?m2q163) ?Bq163 ?Fq163 ?Xq163 ?Nq163 ?Tq163 rfl rfl rfl rfl ?hdq163 ?huq163 ?_; (case Nq163 => k_asm); (case m1q163 => k_mem); (case m2q163 => k_mem); (case Bq163 => k_asm); (case Fq163 => k_asm); (case Xq163 => k_asm); (case Tq163 => k_asm); (case hdq163 => k_extra "my room"); (case huq163 => k_extra "my room")); (refine after_t ?_); intro h' tk' t' F' N'; (try k_sweep)))
  k_with "callWith ref" => (guard_hyp mk22; (k_here; (with_reducible show wpAny _ _ (callWith _ (Value.ref 451) _ _ _) _ _ _); k_dflt (refine' callWith_K0 (in_of ?Fq164 ?Xq164) ?kq164 ?_; (case Fq164 => k_asm); (case Xq164 => assumption); (case kq164 => k_is); (try dsimp only [List.nil_append, List.cons_append, List.append_nil]))))
  k_with "getMethod ref" => (guard_hyp mk22; (k_here; (with_reducible show wpAny _ _ (getMethod (Value.ref _) (Str.ofString "key_for") _) _ _ _); k_dflt (refine' method_inst ?k1q165 ?k2q165 ?k3q165 ?k4q165 ?k5q165 ?k6q165 ?k7q165 ?_; (case k1q165 => k_asm); (case k2q165 => k_asm); (case k3q165 => k_inst); (case k4q165 => k_is); (case k5q165 => k_is); (case k6q165 => k_is); (case k7q165 => k_get); k_whole)))
  k_with "getMethod ref" => (guard_hyp mk22; (k_here; (with_reducible show wpAny _ _ (getMethod (Value.ref _) (Str.ofString "get_expiry") _) _ _ _); k_dflt (refine' method_inst ?k1q166 ?k2q166 ?k3q166 ?k4q166 ?k5q166 ?k6q166 ?k7q166 ?_; (case k1q166 => k_asm); (case k2q166 => k_asm); (case k3q166 => k_inst); (case k4q166 => k_is); (case k5q166 => k_is); (case k6q166 => k_is); (case k7q166 => k_get); k_whole)))
  k_with "getMethod ref" => (guard_hyp mk22; (k_here; (with_reducible show wpAny _ _ (getMethod (Value.ref _) (Str.ofString "_weighted_count") _) _ _ _); k_dflt (refine' method_inst ?k1q167 ?k2q167 ?k3q167 ?k4q167 ?k5q167 ?k6q167 ?k7q167 ?_; (case k1q167 => k_asm); (case k2q167 => k_asm); (case k3q167 => k_inst); (case k4q167 => k_is); (case k5q167 => k_is); (case k6q167 => k_is); (case k7q167 => k_get); k_whole)))
  k_with "call ref" => (guard_hyp mk22; (k_here; (with_reducible show wpAny _ _ (call (Value.ref 628) _ _) _ _ _); (k_dflt (show wpAny _ _ (call (Value.ref 628) [_, _, _, _] []) _ _ _)); k_dflt (k_extra "my drop"; refine' Ctr.call (c_gmw ?X0q168 ?Sq168 ?hbq168 ?hgq168) ?Bq168 ?Fq168 ?Xq168 ?Nq168 ?Tq168 rfl rfl rfl rfl ?hdq168 ?huq168 ?_; (case Nq168 => k_asm); (case X0q168 => k_asm); (case Sq168 => k_extra "my sto"); (case hbq168 => first | k_asm | omega); (case hgq168 => assumption); (case Bq168 => k_asm); (case Fq168 => k_asm); (case Xq168 => k_asm); (case Tq168 => k_asm); (case hdq168 => k_extra "my room"); (case huq168 => k_extra "my room")); intro v' h' tk' L2' F' N' hp'; (refine hideG ?_); intro G' hG'; (obtain ⟨D', u1', u2', r', e1', hs', hm', S'⟩ := hp'); (refine hG' ?_); (clear hG' G'); subst e1'; (have q1 := hs' (_, instObj 501 _) (by assumption)); (have q2 := hs' (_, dictOf [⟨_, .str (Str.ofString "namespace") _, _⟩, _, _] _) (by assumption)); (have q3 := hs' (_, instObj 202 _) (by assumption)); (have q4 := hs' (_, dictOf [_] _) (by assumption)); (have q5 := NameAt.mono (by assumption) hs'); (cases S'); (try k_sweep)))
  exact True.intro
theorem c_mtest {x : CX} {c : Cf} {σ : St} {b : Nat} {L rest : Led} {lim it tu : Addr} {am cost : Int} {key : Str} {tc : Tok} (X0 : Fixed x c) (S : StR x c σ b L rest) (hb : b ≤ 600) (HL : LimAt rest 202 lim c.st) (HI : ItemAt rest it am) (HN : NameAt x rest it tu key) {st nw : Int} (hg : GmwOk σ key st nw) :
    Ct 5 x 190 [.ref lim, .ref it, .ref tu, .int cost tc] [] L fun v L' => v = .bool (decide (nw ≤ am - cost)) ∧ ∃ rest', (∀ p ∈ rest, p ∈ rest') ∧ StR x c σ b L' rest' := by
  have mk22 := True.intro
  refine hideG ?_
  intro G' hG'
  obtain ⟨dl, el, tl, nl, ml1, ml2⟩ := HL
  obtain ⟨dit, e1, e2, e3, ti1, ti2, ti3, ti4, ti5, ti6, ni, mi1, mi2⟩ := HI
  refine hG' ?_
  clear hG' G'
  have X1 := X0
  obtain ⟨lo1, lo2, lo3, n12, n13, n14, n15, n23, n24, n25, n34, n35, n45, hclk⟩ := X1
  refine open_s S ?_
  clear S
  intro o1 o2 o3 o5 t0 n0 T1 T2 T3 T4 T5
  have T5' := T5
  obtain ⟨m1, m2, m3, m4, m5, a1, a2, a3, a4, a5⟩ := T5'
  have hb1 : b ≤ 900 := by omega
  unfold Ct
  k_fill
  k_dflt (refine' ctr_enter (binds := [(Str.ofString "self", .ref lim), (Str.ofString "item", .ref it), (Str.ofString "identifiers", .ref tu), (Str.ofString "cost", .int cost tc)]) (mm := fun y => List.lookup y [(Str.ofString "cost", .int cost tc), (Str.ofString "identifiers", .ref tu), (Str.ofString "item", .ref it), (Str.ofString "self", .ref lim)]) ?k6 ?k7 ?k9 ?kB rfl ?_ ?c2 ?c3 ?c4 ?c5 ?c6; (case k6 => k_is); (case k7 => k_is); (case k9 => first | exact fun s _ => BindsTo.of_eq rfl | exact fun s hX => binds_K hX rfl (by k_is) rfl rfl rfl); (case c5 => decide); (case c6 => decide); (case kB => exact locs rfl); (case c2 => exact rfl); (case c3 => exact rfl); (case c4 => exact rfl); k_whole; intro dp un gd outer base g s L' B X T F N hdp hun; (try dsimp only [DL] at N); (try dsimp only); (try k_fold))
  k_steps
  refine' EndC.mk2 ?Fz ?Nz ?sz ⟨rfl, _, ?hz, ?Sz⟩
  case Fz => k_asm
  case Nz => k_asm
  case sz => exact fun p hp => hp
  case hz => assumption
  case Sz => k_extra "my end"
end
section
-- c_mstat
theorem lines_c_mstat : True := by
  k_with "call ref" => (guard_hyp mk23; (k_here; (with_reducible show wpAny _ _ (call (Value.ref 458) _ _) _ _ _); (k_dflt (show wpAny _ _ (call (Value.ref 458) [Value.ref _, Value.ref _] []) _ _ _)); k_dflt (refine' Ctr.call (NameAt.use ?hq169 ?subq169) ?Bq169 ?Fq169 ?Xq169 ?Nq169 ?Tq169 rfl rfl rfl rfl ?hdq169 ?huq169 ?_; (case Nq169 => k_asm); (case hq169 => assumption); (case subq169 => k_extra "my sub"); (case Bq169 => k_asm); (case Fq169 => k_asm); (case Xq169 => k_asm); (case Tq169 => k_asm); (case hdq169 => k_extra "my room"); (case huq169 => k_extra "my room")); (refine after_t ?_); intro h' tk' t' F' N'; (try k_sweep)))
  k_with "call ref" => (guard_hyp mk23; (k_here; (with_reducible show wpAny _ _ (call (Value.ref 451) _ _) _ _ _); (k_dflt (show wpAny _ _ (call (Value.ref 451) [Value.ref _] []) _ _ _)); k_dflt (refine' Ctr.call (exp_of ?m1q170 ?m2q170) ?Bq170 ?Fq170 ?Xq170 ?Nq170 ?Tq170 rfl rfl rfl rfl ?hdq170 ?huq170 ?_; (case Nq170 => k_asm); (case m1q170 => k_mem); (case m2q170 => k_mem); (case Bq170 => k_asm); (case Fq170 => k_asm); (case Xq170 => k_asm); (case Tq170 => k_asm); (case hdq170 => k_extra "my room"); (case huq170 => k_extra "my room")); (refine after_t ?_); intro h' tk' t' F' N'; (try k_sweep)))
  k_with "callWith ref" => (guard_hyp mk23; (k_here; (with_reducible show wpAny _ _ (callWith _ (Value.ref 451) _ _ _) _ _ _); k_dflt (refine' callWith_K0 (in_of ?Fq171 ?Xq171) ?kq171 ?_; (case Fq171 => k_asm); (case Xq171 => assumption); (case kq171 => k_is); (try dsimp only [List.nil_append, List.cons_append, List.append_nil]))))
  k_with "getMethod ref" => (guard_hyp mk23; (k_here; (with_reducible show wpAny _ _ (getMethod (Value.ref _) (Str.ofString "key_for") _) _ _ _); k_dflt (refine' method_inst ?k1q172 ?k2q172 ?k3q172 ?k4q172 ?k5q172 ?k6q172 ?k7q172 ?_; (case k1q172 => k_asm); (case k2q172 => k_asm); (case k3q172 => k_inst); (case k4q172 => k_is); (case k5q172 => k_is); (case k6q172 => k_is); (case k7q172 => k_get); k_whole)))
  k_with "getMethod ref" => (guard_hyp mk23; (k_here; (with_reducible show wpAny _ _ (getMethod (Value.ref _) (Str.ofString "get_expiry") _) _ _ _); k_dflt (refine' method_inst ?k1q173 ?k2q173 ?k3q173 ?k4q173 ?k5q173 ?k6q173 ?k7q173 ?_; (case k1q173 => k_asm); (case k2q173 => k_asm); (case k3q173 => k_inst); (case k4q173 => k_is); (case k5q173 => k_is); (case k6q173 => k_is); (case k7q173 => k_get); k_whole)))
  k_with "getMethod ref" => (guard_hyp mk23; (k_here; (with_reducible show wpAny _ _ (getMethod (Value.ref _) (Str.ofString "_weighted_count") _) _ _ _); k_dflt (refine' method_inst ?k1q174 ?k2q174 ?k3q174 ?k4q174 ?k5q174 ?k6q174 ?k7q174 ?_; (case k1q174 => k_asm); (case k2q174 => k_asm); (case k3q174 => k_inst); (case k4q174 => k_is); (case k5q174 => k_is); (case k6q174 => k_is); (case k7q174 => k_get); k_whole)))
  k_with "call ref" => (guard_hyp mk23; (k_here; (with_reducible show wpAny _ _ (call (Value.ref 628) _ _) _ _ _); (k_dflt (show wpAny _ _ (call (Value.ref 628) [_, _, _, _] []) _ _ _)); k_dflt (k_extra "my drop"; refine' Ctr.call (c_gmw ?X0q175 ?Sq175 ?hbq175 ?hgq175) ?Bq175 ?Fq175 ?Xq175 ?Nq175 ?Tq175 rfl rfl rfl rfl ?hdq175 ?huq175 ?_; (case Nq175 => k_asm); (case X0q175 => k_asm); (case Sq175 => k_extra "my sto"); (case hbq175 => first | k_asm | omega); (case hgq175 => assumption); (case Bq175 => k_asm); (case Fq175 => k_asm); (case Xq175 => k_asm); (case Tq175 => k_asm); (case hdq175 => k_extra "my room"); (case huq175 => k_extra "my room")); intro v' h' tk' L2' F' N' hp'; (refine hideG ?_); intro G' hG'; (obtain ⟨D', u1', u2', r', e1', hs', hm', S'⟩ := hp'); (refine hG' ?_); (clear hG' G'); subst e1'; (have q1 := hs' (_, instObj 501 _) (by assumption)); (have q2 := hs' (_, dictOf [⟨_, .str (Str.ofString "namespace") _, _⟩, _, _] _) (by assumption)); (have q3 := hs' (_, instObj 202 _) (by assumption)); (have q4 := hs' (_, dictOf [_] _) (by assumption)); (have q5 := NameAt.mono (by assumption) hs'); (cases S'); (try k_sweep)))
  k_with "call ref" => (guard_hyp mk23; (k_here; (with_reducible show wpAny _ _ (call (Value.ref 132) _ _) _ _ _); (k_dflt (show wpAny _ _ (call (Value.ref 132) [_, _] []) _ _ _)); k_dflt (refine' Ctr.call (c_mkws) ?Bq176 ?Fq176 ?Xq176 ?Nq176 ?Tq176 rfl rfl rfl rfl ?hdq176 ?huq176 ?_; (case Nq176 => k_asm); (case Bq176 => k_asm); (case Fq176 => k_asm); (case Xq176 => k_asm); (case Tq176 => k_asm); (case hdq176 => k_extra "my room"); (case huq176 => k_extra "my room")); intro v' h' tk' L2' F' N' hp'; (refine hideG ?_); intro G' hG'; (obtain ⟨D', dx', e1', l1', l2', e2'⟩ := hp'); (refine hG' ?_); (clear hG' G'); subst e1' e2'; (replace l2' := Nat.succ_le_of_lt l2'); (try k_lt l1'); (try k_sweep)))
  k_with "my fix" => (guard_hyp mk23; first | assumption | (refine' Fix.push ?_ ?h1q177 ?h2q177 ?h3q177 ?h4q177 ?h5q177; (case h1q177 => (refine Nat.lt_of_succ_le ?_; (try dsimp only); omega)); (case h2q177 => (refine Nat.lt_of_succ_le ?_; (try dsimp only); omega)); (case h3q177 => (refine Nat.lt_of_succ_le ?_; (try dsimp only); omega)); (case h4q177 => (refine Nat.lt_of_succ_le ?_; (try dsimp only); omega)); (case h5q177 => (refine Nat.lt_of_succ_le ?_; (try dsimp only); omega)); k_extra "my fix"))
  k_with "my tab2" => (guard_hyp mk23; first | k_extra "my tab" | exact TabOk.push (TabOk.push (TabOk.push (.some (by assumption) (by assumption) (by assumption)))) | (refine' tabOk_some' ?aq178 ?bq178 ?cq178 ?dq178 ?eq178; (case aq178 => exact .tail _ (.tail _ (.head _))); (case bq178 => assumption); (case cq178 => assumption); (case dq178 => first | rfl | kernel_rfl); (case eq178 => rfl)))
  k_with "my pe" => (guard_hyp mk23; first | assumption | (refine tab_up ?_; k_extra "my pe"))
  k_with "my endk" => (guard_hyp mk23; (refine' StR.mk ?a1q180 ?a2q180 ?a3q180 ?a4q180 ?a5q180; (case a1q180 => k_extra "my end1"); (case a2q180 => k_extra "my end1"); (case a3q180 => k_extra "my pe"); (case a4q180 => k_extra "my tab2"); (case a5q180 => k_extra "my fix")))
  exact True.intro
theorem c_mstat {x : CX} {c : Cf} {σ : St} {b : Nat} {L rest : Led} {lim it tu : Addr} {am cost : Int} {key : Str} {tc : Tok} (X0 : Fixed x c) (S : StR x c σ b L rest) (hb : b ≤ 600) (HL : LimAt rest 202 lim c.st) (HI : ItemAt rest it am) (HN : NameAt x rest it tu key) {st nw : Int} (hg : GmwOk σ key st nw) :
    Ct 5 x 199 [.ref lim, .ref it, .ref tu] [] L fun v L' => ∃ D dx t1 t2 rest', v = .ref D ∧ (∀ p ∈ rest, p ∈ rest') ∧ (D, tupInst 132 dx #[.int (st + 10) t1, .int (am - nw) t2]) ∈ rest' ∧ (dx, emptyDict) ∈ rest' ∧ StR x c σ b L' rest' := by
  have mk23 := True.intro
  refine hideG ?_
  intro G' hG'
  obtain ⟨dl, el, tl, nl, ml1, ml2⟩ := HL
  obtain ⟨dit, e1, e2, e3, ti1, ti2, ti3, ti4, ti5, ti6, ni, mi1, mi2⟩ := HI
  refine hG' ?_
  clear hG' G'
  have X1 := X0
  obtain ⟨lo1, lo2, lo3, n12, n13, n14, n15, n23, n24, n25, n34, n35, n45, hclk⟩ := X1
  refine open_s S ?_
  clear S
  intro o1 o2 o3 o5 t0 n0 T1 T2 T3 T4 T5
  have T5' := T5
  obtain ⟨m1, m2, m3, m4, m5, a1, a2, a3, a4, a5⟩ := T5'
  have hb1 : b ≤ 900 := by omega
  unfold Ct
  k_fill
  k_dflt (refine' ctr_enter (binds := [(Str.ofString "self", .ref lim), (Str.ofString "item", .ref it), (Str.ofString "identifiers", .ref tu)]) (mm := fun y => List.lookup y [(Str.ofString "identifiers", .ref tu), (Str.ofString "item", .ref it), (Str.ofString "self", .ref lim)]) ?k6 ?k7 ?k9 ?kB rfl ?_ ?c2 ?c3 ?c4 ?c5 ?c6; (case k6 => k_is); (case k7 => k_is); (case k9 => first | exact fun s _ => BindsTo.of_eq rfl | exact fun s hX => binds_K hX rfl (by k_is) rfl rfl rfl); (case c5 => decide); (case c6 => decide); (case kB => exact locs rfl); (case c2 => exact rfl); (case c3 => exact rfl); (case c4 => exact rfl); k_whole; intro dp un gd outer base g s L' B X T F N hdp hun; (try dsimp only [DL] at N); (try dsimp only); (try k_fold))
  k_steps
  refine' EndC.mk2 ?Fz ?Nz ?sz ⟨_, _, _, _, _ :: _ :: _, rfl, ?hz, .head _, .tail _ (.head _), ?Sz⟩
  case Fz => k_asm
  case Nz => k_asm
  case sz => exact sub2
  case Sz => k_extra "my endk"
  case hz => exact up2 (by assumption)
end
section
-- c_info
theorem lines_c_info : True := by
  k_with "call ref" => (guard_hyp mk24; (k_here; (with_reducible show wpAny _ _ (call (Value.ref 599) [_, _] []) _ _ _); k_dflt (k_extra "my drop"; refine' Ctr.call (c_get ?X0q181 ?Sq181 ?hbq181) ?Bq181 ?Fq181 ?Xq181 ?Nq181 ?Tq181 rfl rfl rfl rfl ?hdq181 ?huq181 ?_; (case X0q181 => k_asm); (case Nq181 => k_asm); (case Sq181 => k_extra "my sto"); (case hbq181 => first | k_asm | omega); (case Bq181 => k_asm); (case Fq181 => k_asm); (case Xq181 => k_asm); (case Tq181 => k_asm); (case hdq181 => k_extra "my room"); (case huq181 => k_extra "my room")); intro v' h' tk' L2' F' N' hp'; (obtain ⟨⟨t', e1'⟩, S'⟩ := hp'); subst e1'; (cases S'); (try k_sweep)))
  k_with "subscriptTail" => (guard_hyp mk24; (k_here; (with_reducible show wpAny _ _ (subscriptTail _ _ (Value.ref _) (Value.str _ _)) _ _ _); k_dflt (refine' d_item (P := PI) ?Nq182 ?mq182 ?Tq182 ?eq182 ?_; (case Nq182 => k_asm); (case mq182 => k_mem); (case Tq182 => k_asm); (case eq182 => exact upd_at _ _ _)); intro v' hv'; (obtain ⟨t', e'⟩ := hv'); subst e'))
  exact True.intro
theorem c_info {x : CX} {c : Cf} {σ : St} {b : Nat} {L rest : Led} {pk ck : Str} {tk tk' t1 t2 : Tok} {at_ : Int} (X0 : Fixed x c) (S : StR x c σ b L rest) (hb : b ≤ 800) :
    Ct 3 x 643 [.ref c.st, .str pk tk, .str ck tk', .int 10 t1, .int at_ t2] [] L fun v L' => ∃ D t1 t2 t3 t4, v = .ref D ∧ StR x c (get2S σ pk ck) b L' ((D, tupO #[.int (getV σ pk) t1, .int (infoT σ pk at_) t2, .int (getV (getS σ pk) ck) t3, .int (infoC at_) t4]) :: rest) := by
  have mk24 := True.intro
  have X1 := X0
  obtain ⟨lo1, lo2, lo3, n12, n13, n14, n15, n23, n24, n25, n34, n35, n45, hclk⟩ := X1
  refine open_s S ?_
  clear S
  intro o1 o2 o3 o5 t0 n0 T1 T2 T3 T4 T5
  have T5' := T5
  obtain ⟨m1, m2, m3, m4, m5, a1, a2, a3, a4, a5⟩ := T5'
  have hb1 : b ≤ 900 := by omega
  unfold Ct
  k_fill
  k_dflt (refine' ctr_enter (binds := [(Str.ofString "self", .ref c.st), (Str.ofString "previous_key", .str pk tk), (Str.ofString "current_key", .str ck tk'), (Str.ofString "expiry", .int 10 t1), (Str.ofString "now", .int at_ t2)]) (mm := fun y => List.lookup y [(Str.ofString "now", .int at_ t2), (Str.ofString "expiry", .int 10 t1), (Str.ofString "current_key", .str ck tk'), (Str.ofString "previous_key", .str pk tk), (Str.ofString "self", .ref c.st)]) ?k6 ?k7 ?k9 ?kB rfl ?_ ?c2 ?c3 ?c4 ?c5 ?c6; (case k6 => k_is); (case k7 => k_is); (case k9 => first | exact fun s _ => BindsTo.of_eq rfl | exact fun s hX => binds_K hX rfl (by k_is) rfl rfl rfl); (case c5 => decide); (case c6 => decide); (case kB => exact locs rfl); (case c2 => exact rfl); (case c3 => exact rfl); (case c4 => exact rfl); k_whole; intro dp un gd outer base g s L' B X T F N hdp hun; (try dsimp only [DL] at N); (try dsimp only); (try k_fold))
  k_steps
  all_goals (try k_unfold)
  all_goals (try dsimp only)
  all_goals k_extra "my tup"
  · intro L' S'
    rw [show infoT σ pk at_ = 0 from if_pos (by assumption)]
    exact ⟨_, _, _, _, _, rfl, S'⟩
  · intro L' S'
    rw [show infoT σ pk at_ = 10 - (at_ - 10).fmod 10 from if_neg (by assumption)]
    exact ⟨_, _, _, _, _, rfl, S'⟩
end
section
-- c_swk
theorem c_swk {x : CX} {L : Led} {key : Str} {tk t1 t2 : Tok} {at_ : Int} (hlen : key.length ≤ 100) (h1 : 1000 ≤ at_) (h2 : at_ < 3000) :
    Ct 1 x 517 [.ref 674, .str key tk, .int 10 t1, .int at_ t2] [] L fun v L' => ∃ D t1 t2, v = .ref D ∧ (∀ p ∈ L, p.1 < D) ∧ L' = (D, tupO #[.str (skey key ((at_ - 10).fdiv 10)) t1, .str (skey key (at_.fdiv 10)) t2]) :: L := by
  have mk25 := True.intro
  unfold Ct
  k_fill
  k_dflt (refine' ctr_enter (binds := [(Str.ofString "cls", .ref 674), (Str.ofString "key", .str key tk), (Str.ofString "expiry", .int 10 t1), (Str.ofString "at", .int at_ t2)]) (mm := fun y => List.lookup y [(Str.ofString "at", .int at_ t2), (Str.ofString "expiry", .int 10 t1), (Str.ofString "key", .str key tk), (Str.ofString "cls", .ref 674)]) ?k6 ?k7 ?k9 ?kB rfl ?_ ?c2 ?c3 ?c4 ?c5 ?c6; (case k6 => k_is); (case k7 => k_is); (case k9 => first | exact fun s _ => BindsTo.of_eq rfl | exact fun s hX => binds_K hX rfl (by k_is) rfl rfl rfl); (case c5 => decide); (case c6 => decide); (case kB => exact locs rfl); (case c2 => exact rfl); (case c3 => exact rfl); (case c4 => exact rfl); k_whole; intro dp un gd outer base g s L' B X T F N hdp hun; (try dsimp only [DL] at N); (try dsimp only); (try k_fold))
  k_steps
  exact EndC.mk (by k_asm) (by k_asm) ⟨_, _, _, rfl, by assumption, rfl⟩
end
section
-- c_acqsw
theorem lines_c_acqsw : True := by
  k_with "getMethod ref" => (guard_hyp mk26; (k_here; (with_reducible show wpAny _ _ (getMethod (Value.ref _) (Str.ofString "sliding_window_keys") _) _ _ _); k_dflt (refine' kmu_cm ?k1q183 ?k2q183 ?k3q183 ?k4q183 ?k5q183 ?k6q183 ?k7q183 ?k8q183 ?k9q183 ?k10q183 ?k11q183 ?k12q183 ?k13q183 ?_; (case k1q183 => k_asm); (case k2q183 => k_asm); (case k3q183 => k_asm); (case k4q183 => k_inst); (case k5q183 => k_is); (case k6q183 => k_is); (case k7q183 => k_is); (case k8q183 => k_is); (case k9q183 => k_is); (case k10q183 => k_is); (case k11q183 => decide +kernel); (case k12q183 => k_get); (case k13q183 => k_is); k_whole; intro q' h' F' N' l1; (try k_lt l1); (try k_sweep))))
  k_with "call ref" => (guard_hyp mk26; (k_here; (with_reducible show wpAny _ _ (call (Value.ref _) [Value.str _ _, Value.int 10 _, Value.int _ _] []) _ _ _); k_dflt (refine' call_meth ?k1q184 ?k2q184 ?_; (case k1q184 => k_asm); (case k2q184 => k_mem); k_whole; refine' Ctr.code (c_swk ?hlq184 ?h1q184 ?h2q184) ?Bq184 ?Fq184 ?Xq184 ?Nq184 ?Tq184 rfl rfl rfl rfl ?hdq184 ?huq184 ?_; (case Nq184 => k_asm); (case hlq184 => k_asm); (case h1q184 => k_asm); (case h2q184 => k_asm); (case Bq184 => k_asm); (case Fq184 => k_asm); (case Xq184 => k_asm); (case Tq184 => k_asm); (case hdq184 => k_extra "my room"); (case huq184 => k_extra "my room")); intro v' h' tk' L2' F' N' hp'; (refine hideG ?_); intro G' hG'; (obtain ⟨D', u1', u2', e1', l1', e2'⟩ := hp'); (refine hG' ?_); (clear hG' G'); subst e1' e2'; (try k_lt l1'); (try k_sweep); (try dsimp only)))
  k_with "call ref" => (guard_hyp mk26; (k_here; (with_reducible show wpAny _ _ (call (Value.ref 643) [_, _, _, _, _] []) _ _ _); k_dflt (k_extra "my drop"; refine' Ctr.call (c_info ?X0q185 ?Sq185 ?hbq185) ?Bq185 ?Fq185 ?Xq185 ?Nq185 ?Tq185 rfl rfl rfl rfl ?hdq185 ?huq185 ?_; (case X0q185 => k_asm); (case Nq185 => k_asm); (case Sq185 => k_extra "my sto"); (case hbq185 => first | k_asm | omega); (case Bq185 => k_asm); (case Fq185 => k_asm); (case Xq185 => k_asm); (case Tq185 => k_asm); (case hdq185 => k_extra "my room"); (case huq185 => k_extra "my room")); intro v' h' tk' L2' F' N' hp'; (refine hideG ?_); intro G' hG'; (obtain ⟨D', u1', u2', u3', u4', e1', S'⟩ := hp'); (refine hG' ?_); (clear hG' G'); subst e1'; (cases S'); (try k_sweep)))
  k_with "call ref" => (guard_hyp mk26; (k_here; (with_reducible show wpAny _ _ (call (Value.ref 584) [_, _, _] _) _ _ _); (k_dflt (show wpAny _ _ (call (Value.ref 584) [_, _, _] [(Str.ofString "amount", Value.int _ _)]) _ _ _)); k_dflt (k_extra "my drop"; refine' Ctr.call (c_incr ?X0q186 ?Sq186 ?hbq186) ?Bq186 ?Fq186 ?Xq186 ?Nq186 ?Tq186 rfl rfl rfl rfl ?hdq186 ?huq186 ?_; (case X0q186 => k_asm); (case Nq186 => k_asm); (case Sq186 => k_extra "my sto"); (case hbq186 => first | k_asm | omega); (case Bq186 => k_asm); (case Fq186 => k_asm); (case Xq186 => k_asm); (case Tq186 => k_asm); (case hdq186 => k_extra "my room"); (case huq186 => k_extra "my room")); intro v' h' tk' L2' F' N' hp'; (obtain ⟨⟨t', e1'⟩, S'⟩ := hp'); subst e1'; (cases S'); (try k_sweep)))
  k_with "call ref" => (guard_hyp mk26; (k_here; (with_reducible show wpAny _ _ (call (Value.ref 592) _ _) _ _ _); exfalso; omega))
  k_with "getMethod ref" => (guard_hyp mk26; (k_here; (with_reducible show wpAny _ _ (getMethod (Value.ref _) (Str.ofString "decr") _) _ _ _); exfalso; omega))
  exact True.intro
theorem c_acqsw {x : CX} {c : Cf} {σ : St} {b : Nat} {L rest : Led} {key : Str} {tk t1 t2 t3 : Tok} {limit amount : Int} (X0 : Fixed x c) (S : StR x c σ b L rest) (hb : b ≤ 700) (hlen : key.length ≤ 100) (h1 : 1000 ≤ σ.now) (h2 : σ.now < 3000) :
    Ct 5 x 636 [.ref c.st, .str key tk, .int limit t1, .int 10 t2, .int amount t3] [] L fun v L' => v = .bool (acqSB σ key limit amount) ∧ ∃ rest', (∀ p ∈ rest, p ∈ rest') ∧ StR x c (acqSS σ key limit amount) (b + 1) L' rest' := by
  have mk26 := True.intro
  have X1 := X0
  obtain ⟨lo1, lo2, lo3, n12, n13, n14, n15, n23, n24, n25, n34, n35, n45, hclk⟩ := X1
  refine open_s S ?_
  clear S
  intro o1 o2 o3 o5 t0 n0 T1 T2 T3 T4 T5
  have T5' := T5
  obtain ⟨m1, m2, m3, m4, m5, a1, a2, a3, a4, a5⟩ := T5'
  have hb1 : b ≤ 800 := by omega
  have hI := infoT_le σ (pKey σ key) σ.now
  have hV : incrV (infS σ key) (cKey σ key) amount = getV (getS σ (pKey σ key)) (cKey σ key) + amount := by
    show getV (getS (getS σ (pKey σ key)) (cKey σ key)) (cKey σ key) + amount = _
    rw [getV_getS (by rw [getS_now]; omega)]
  simp only [infS, pKey, cKey] at hI hV
  unfold Ct
  k_fill
  k_dflt (refine' ctr_enter (binds := [(Str.ofString "self", .ref c.st), (Str.ofString "key", .str key tk), (Str.ofString "limit", .int limit t1), (Str.ofString "expiry", .int 10 t2), (Str.ofString "amount", .int amount t3)]) (mm := fun y => List.lookup y [(Str.ofString "amount", .int amount t3), (Str.ofString "expiry", .int 10 t2), (Str.ofString "limit", .int limit t1), (Str.ofString "key", .str key tk), (Str.ofString "self", .ref c.st)]) ?k6 ?k7 ?k9 ?kB rfl ?_ ?c2 ?c3 ?c4 ?c5 ?c6; (case k6 => k_is); (case k7 => k_is); (case k9 => first | exact fun s _ => BindsTo.of_eq rfl | exact fun s hX => binds_K hX rfl (by k_is) rfl rfl rfl); (case c5 => decide); (case c6 => decide); (case kB => exact locs rfl); (case c2 => exact rfl); (case c3 => exact rfl); (case c4 => exact rfl); k_whole; intro dp un gd outer base g s L' B X T F N hdp hun; (try dsimp only [DL] at N); (try dsimp only); (try k_fold))
  k_steps
  · refine' EndC.mk ?F ?N ⟨?v, rest, fun _ h => h, ?S⟩
    case F => k_asm
    case N => k_asm
    case v => exact congrArg Value.bool (Eq.symm (acqSB_1 (by assumption)))
    case S => (rw [acqSS_1 (by assumption)]; k_extra "my end")
  · refine' EndC.mk ?F ?N ⟨?v, _ :: rest, fun _ h => .tail _ h, ?S⟩
    case F => k_asm
    case N => k_asm
    case v => exact congrArg Value.bool (Eq.symm (acqSB_2 (by assumption) (by assumption)))
    case S => (rw [acqSS_2 (by assumption) (by assumption)]; k_extra "my end")
  · refine' EndC.mk ?F ?N ⟨?v, _ :: rest, fun _ h => .tail _ h, ?S⟩
    case F => k_asm
    case N => k_asm
    case v => exact congrArg Value.bool (Eq.symm (acqSB_3 (by assumption) (by assumption)))
    case S => (rw [acqSS_3 (by assumption) (by assumption)]; k_extra "my end")
end
section
-- c_shit
theorem lines_c_shit : True := by
  k_with "call ref" => (guard_hyp mk27; (k_here; (with_reducible show wpAny _ _ (call (Value.ref 458) _ _) _ _ _); (k_dflt (show wpAny _ _ (call (Value.ref 458) [Value.ref _, Value.ref _] []) _ _ _)); k_dflt (refine' Ctr.call (NameAt.use ?hq189 ?subq189) ?Bq189 ?Fq189 ?Xq189 ?Nq189 ?Tq189 rfl rfl rfl rfl ?hdq189 ?huq189 ?_; (case Nq189 => k_asm); (case hq189 => assumption); (case subq189 => k_extra "my sub"); (case Bq189 => k_asm); (case Fq189 => k_asm); (case Xq189 => k_asm); (case Tq189 => k_asm); (case hdq189 => k_extra "my room"); (case huq189 => k_extra "my room")); (refine after_t ?_); intro h' tk' t' F' N'; (try k_sweep)))
  k_with "call ref" => (guard_hyp mk27; (k_here; (with_reducible show wpAny _ _ (call (Value.ref 451) _ _) _ _ _); (k_dflt (show wpAny _ _ (call (Value.ref 451) [Value.ref _] []) _ _ _)); k_dflt (refine' Ctr.call (exp_of ?m1q190 ?m2q190) ?Bq190 ?Fq190 ?Xq190 ?Nq190 ?Tq190 rfl rfl rfl rfl ?hdq190 ?huq190 ?_; (case Nq190 => k_asm); (case m1q190 => k_mem); (case m2q190 => k_mem); (case Bq190 => k_asm); (case Fq190 => k_asm); (case Xq190 => k_asm); (case Tq190 => k_asm); (case hdq190 => k_extra "my room"); (case huq190 => k_extra "my room")); (refine after_t ?_); intro h' tk' t' F' N'; (try k_sweep)))
  k_with "callWith ref" => (guard_hyp mk27; (k_here; (with_reducible show wpAny _ _ (callWith _ (Value.ref 451) _ _ _) _ _ _); k_dflt (refine' callWith_K0 (in_of ?Fq191 ?Xq191) ?kq191 ?_; (case Fq191 => k_asm); (case Xq191 => assumption); (case kq191 => k_is); (try dsimp only [List.nil_append, List.cons_append, List.append_nil]))))
  k_with "getMethod ref" => (guard_hyp mk27; (k_here; (with_reducible show wpAny _ _ (getMethod (Value.ref _) (Str.ofString "key_for") _) _ _ _); k_dflt (refine' method_inst ?k1q192 ?k2q192 ?k3q192 ?k4q192 ?k5q192 ?k6q192 ?k7q192 ?_; (case k1q192 => k_asm); (case k2q192 => k_asm); (case k3q192 => k_inst); (case k4q192 => k_is); (case k5q192 => k_is); (case k6q192 => k_is); (case k7q192 => k_get); k_whole)))
  k_with "getMethod ref" => (guard_hyp mk27; (k_here; (with_reducible show wpAny _ _ (getMethod (Value.ref _) (Str.ofString "get_expiry") _) _ _ _); k_dflt (refine' method_inst ?k1q193 ?k2q193 ?k3q193 ?k4q193 ?k5q193 ?k6q193 ?k7q193 ?_; (case k1q193 => k_asm); (case k2q193 => k_asm); (case k3q193 => k_inst); (case k4q193 => k_is); (case k5q193 => k_is); (case k6q193 => k_is); (case k7q193 => k_get); k_whole)))
  k_with "getMethod ref" => (guard_hyp mk27; (k_here; (with_reducible show wpAny _ _ (getMethod (Value.ref _) (Str.ofString "_weighted_count") _) _ _ _); k_dflt (refine' method_inst ?k1q194 ?k2q194 ?k3q194 ?k4q194 ?k5q194 ?k6q194 ?k7q194 ?_; (case k1q194 => k_asm); (case k2q194 => k_asm); (case k3q194 => k_inst); (case k4q194 => k_is); (case k5q194 => k_is); (case k6q194 => k_is); (case k7q194 => k_get); k_whole)))
  k_with "call ref" => (guard_hyp mk27; (k_here; (with_reducible show wpAny _ _ (call (Value.ref 636) _ _) _ _ _); (k_dflt (show wpAny _ _ (call (Value.ref 636) [_, _, _, _, _] []) _ _ _)); k_dflt (k_extra "my drop"; refine' Ctr.call (c_acqsw ?X0q195 ?Sq195 ?hbq195 ?hlq195 ?h1q195 ?h2q195) ?Bq195 ?Fq195 ?Xq195 ?Nq195 ?Tq195 rfl rfl rfl rfl ?hdq195 ?huq195 ?_; (case Nq195 => k_asm); (case X0q195 => k_asm); (case Sq195 => k_extra "my sto"); (case hbq195 => first | k_asm | omega); (case hlq195 => assumption); (case h1q195 => assumption); (case h2q195 => assumption); (case Bq195 => k_asm); (case Fq195 => k_asm); (case Xq195 => k_asm); (case Tq195 => k_asm); (case hdq195 => k_extra "my room"); (case huq195 => k_extra "my room")); intro v' h' tk' L2' F' N' hp'; (refine hideG ?_); intro G' hG'; (obtain ⟨e1', r', hs', S'⟩ := hp'); (refine hG' ?_); (clear hG' G'); subst e1'; (cases S'); (try k_sweep)))
  exact True.intro
theorem c_shit {x : CX} {c : Cf} {σ : St} {b : Nat} {L rest : Led} {lim it tu : Addr} {am cost : Int} {key : Str} {tc : Tok} (X0 : Fixed x c) (S : StR x c σ b L rest) (hb : b ≤ 600) (HL : LimAt rest 296 lim c.st) (HI : ItemAt rest it am) (HN : NameAt x rest it tu key) (hlen : key.length ≤ 100) (h1 : 1000 ≤ σ.now) (h2 : σ.now < 3000) :
    Ct 6 x 266 [.ref lim, .ref it, .ref tu, .int cost tc] [] L fun v L' => v = .bool (acqSB σ key am cost) ∧ ∃ rest', (∀ p ∈ rest, p ∈ rest') ∧ StR x c (acqSS σ key am cost) (b + 1) L' rest' := by
  have mk27 := True.intro
  refine hideG ?_
  intro G' hG'
  obtain ⟨dl, el, tl, nl, ml1, ml2⟩ := HL
  obtain ⟨dit, e1, e2, e3, ti1, ti2, ti3, ti4, ti5, ti6, ni, mi1, mi2⟩ := HI
  refine hG' ?_
  clear hG' G'
  have X1 := X0
  obtain ⟨lo1, lo2, lo3, n12, n13, n14, n15, n23, n24, n25, n34, n35, n45, hclk⟩ := X1
  refine open_s S ?_
  clear S
  intro o1 o2 o3 o5 t0 n0 T1 T2 T3 T4 T5
  have T5' := T5
  obtain ⟨m1, m2, m3, m4, m5, a1, a2, a3, a4, a5⟩ := T5'
  have hb1 : b ≤ 900 := by omega
  unfold Ct
  k_fill
  k_dflt (refine' ctr_enter (binds := [(Str.ofString "self", .ref lim), (Str.ofString "item", .ref it), (Str.ofString "identifiers", .ref tu), (Str.ofString "cost", .int cost tc)]) (mm := fun y => List.lookup y [(Str.ofString "cost", .int cost tc), (Str.ofString "identifiers", .ref tu), (Str.ofString "item", .ref it), (Str.ofString "self", .ref lim)]) ?k6 ?k7 ?k9 ?kB rfl ?_ ?c2 ?c3 ?c4 ?c5 ?c6; (case k6 => k_is); (case k7 => k_is); (case k9 => first | exact fun s _ => BindsTo.of_eq rfl | exact fun s hX => binds_K hX rfl (by k_is) rfl rfl rfl); (case c5 => decide); (case c6 => decide); (case kB => exact locs rfl); (case c2 => exact rfl); (case c3 => exact rfl); (case c4 => exact rfl); k_whole; intro dp un gd outer base g s L' B X T F N hdp hun; (try dsimp only [DL] at N); (try dsimp only); (try k_fold))
  k_steps
  refine' EndC.mk2 ?Fz ?Nz ?sz ⟨rfl, _, ?hz, ?Sz⟩
  case Fz => k_asm
  case Nz => k_asm
  case sz => exact fun p hp => hp
  case hz => assumption
  case Sz => k_extra "my end"
end
section
-- c_gsw
theorem lines_c_gsw : True := by
  k_with "call ref" => (guard_hyp mk28; (k_here; (with_reducible show wpAny _ _ (call (Value.ref 599) [_, _] []) _ _ _); k_dflt (k_extra "my drop"; refine' Ctr.call (c_get ?X0q196 ?Sq196 ?hbq196) ?Bq196 ?Fq196 ?Xq196 ?Nq196 ?Tq196 rfl rfl rfl rfl ?hdq196 ?huq196 ?_; (case X0q196 => k_asm); (case Nq196 => k_asm); (case Sq196 => k_extra "my sto"); (case hbq196 => first | k_asm | omega); (case Bq196 => k_asm); (case Fq196 => k_asm); (case Xq196 => k_asm); (case Tq196 => k_asm); (case hdq196 => k_extra "my room"); (case huq196 => k_extra "my room")); intro v' h' tk' L2' F' N' hp'; (obtain ⟨⟨t', e1'⟩, S'⟩ := hp'); subst e1'; (cases S'); (try k_sweep)))
  k_with "subscriptTail" => (guard_hyp mk28; (k_here; (with_reducible show wpAny _ _ (subscriptTail _ _ (Value.ref _) (Value.str _ _)) _ _ _); k_dflt (refine' d_item (P := PI) ?Nq197 ?mq197 ?Tq197 ?eq197 ?_; (case Nq197 => k_asm); (case mq197 => k_mem); (case Tq197 => k_asm); (case eq197 => exact upd_at _ _ _)); intro v' hv'; (obtain ⟨t', e'⟩ := hv'); subst e'))
  k_with "getMethod ref" => (guard_hyp mk28; (k_here; (with_reducible show wpAny _ _ (getMethod (Value.ref _) (Str.ofString "sliding_window_keys") _) _ _ _); k_dflt (refine' kmu_cm ?k1q198 ?k2q198 ?k3q198 ?k4q198 ?k5q198 ?k6q198 ?k7q198 ?k8q198 ?k9q198 ?k10q198 ?k11q198 ?k12q198 ?k13q198 ?_; (case k1q198 => k_asm); (case k2q198 => k_asm); (case k3q198 => k_asm); (case k4q198 => k_inst); (case k5q198 => k_is); (case k6q198 => k_is); (case k7q198 => k_is); (case k8q198 => k_is); (case k9q198 => k_is); (case k10q198 => k_is); (case k11q198 => decide +kernel); (case k12q198 => k_get); (case k13q198 => k_is); k_whole; intro q' h' F' N' l1; (try k_lt l1); (try k_sweep))))
  k_with "call ref" => (guard_hyp mk28; (k_here; (with_reducible show wpAny _ _ (call (Value.ref _) [Value.str _ _, Value.int 10 _, Value.int _ _] []) _ _ _); k_dflt (refine' call_meth ?k1q199 ?k2q199 ?_; (case k1q199 => k_asm); (case k2q199 => k_mem); k_whole; refine' Ctr.code (c_swk ?hlq199 ?h1q199 ?h2q199) ?Bq199 ?Fq199 ?Xq199 ?Nq199 ?Tq199 rfl rfl rfl rfl ?hdq199 ?huq199 ?_; (case Nq199 => k_asm); (case hlq199 => k_asm); (case h1q199 => k_asm); (case h2q199 => k_asm); (case Bq199 => k_asm); (case Fq199 => k_asm); (case Xq199 => k_asm); (case Tq199 => k_asm); (case hdq199 => k_extra "my room"); (case huq199 => k_extra "my room")); intro v' h' tk' L2' F' N' hp'; (refine hideG ?_); intro G' hG'; (obtain ⟨D', u1', u2', e1', l1', e2'⟩ := hp'); (refine hG' ?_); (clear hG' G'); subst e1' e2'; (try k_lt l1'); (try k_sweep); (try dsimp only)))
  k_with "call ref" => (guard_hyp mk28; (k_here; (with_reducible show wpAny _ _ (call (Value.ref 643) [_, _, _, _, _] []) _ _ _); k_dflt (k_extra "my drop"; refine' Ctr.call (c_info ?X0q200 ?Sq200 ?hbq200) ?Bq200 ?Fq200 ?Xq200 ?Nq200 ?Tq200 rfl rfl rfl rfl ?hdq200 ?huq200 ?_; (case X0q200 => k_asm); (case Nq200 => k_asm); (case Sq200 => k_extra "my sto"); (case hbq200 => first | k_asm | omega); (case Bq200 => k_asm); (case Fq200 => k_asm); (case Xq200 => k_asm); (case Tq200 => k_asm); (case hdq200 => k_extra "my room"); (case huq200 => k_extra "my room")); intro v' h' tk' L2' F' N' hp'; (refine hideG ?_); intro G' hG'; (obtain ⟨D', u1', u2', u3', u4', e1', S'⟩ := hp'); (refine hG' ?_); (clear hG' G'); subst e1'; (cases S'); (try k_sweep)))
  exact True.intro
theorem c_gsw {x : CX} {c : Cf} {σ : St} {b : Nat} {L rest : Led} {key : Str} {tk t1 : Tok} (X0 : Fixed x c) (S : StR x c σ b L rest) (hb : b ≤ 800) (hlen : key.length ≤ 100) (h1 : 1000 ≤ σ.now) (h2 : σ.now < 3000) :
    Ct 4 x 650 [.ref c.st, .str key tk, .int 10 t1] [] L fun v L' => ∃ D t1 t2 t3 t4, v = .ref D ∧ StR x c (infS σ key) b L' ((D, tupO #[.int (getV σ (pKey σ key)) t1, .int (infoT σ (pKey σ key) σ.now) t2, .int (getV (getS σ (pKey σ key)) (cKey σ key)) t3, .int (infoC σ.now) t4]) :: rest) := by
  have mk28 := True.intro
  have X1 := X0
  obtain ⟨lo1, lo2, lo3, n12, n13, n14, n15, n23, n24, n25, n34, n35, n45, hclk⟩ := X1
  refine open_s S ?_
  clear S
  intro o1 o2 o3 o5 t0 n0 T1 T2 T3 T4 T5
  have T5' := T5
  obtain ⟨m1, m2, m3, m4, m5, a1, a2, a3, a4, a5⟩ := T5'
  have hb1 : b ≤ 900 := by omega
  unfold Ct
  k_fill
  k_dflt (refine' ctr_enter (binds := [(Str.ofString "self", .ref c.st), (Str.ofString "key", .str key tk), (Str.ofString "expiry", .int 10 t1)]) (mm := fun y => List.lookup y [(Str.ofString "expiry", .int 10 t1), (Str.ofString "key", .str key tk), (Str.ofString "self", .ref c.st)]) ?k6 ?k7 ?k9 ?kB rfl ?_ ?c2 ?c3 ?c4 ?c5 ?c6; (case k6 => k_is); (case k7 => k_is); (case k9 => first | exact fun s _ => BindsTo.of_eq rfl | exact fun s hX => binds_K hX rfl (by k_is) rfl rfl rfl); (case c5 => decide); (case c6 => decide); (case kB => exact locs rfl); (case c2 => exact rfl); (case c3 => exact rfl); (case c4 => exact rfl); k_whole; intro dp un gd outer base g s L' B X T F N hdp hun; (try dsimp only [DL] at N); (try dsimp only); (try k_fold))
  k_steps
  refine' EndC.mk ?F ?N ⟨_, _, _, _, _, rfl, ?S⟩
  case F => k_asm
  case N => k_asm
  case S => k_extra "my sto"
end
section
-- c_wc
theorem lines_c_wc : True := by
  k_with "call ref" => (guard_hyp mk29; (k_here; (with_reducible show wpAny _ _ (call (Value.ref 451) _ _) _ _ _); (k_dflt (show wpAny _ _ (call (Value.ref 451) [Value.ref _] []) _ _ _)); k_dflt (refine' Ctr.call (exp_of ?m1q201 ?m2q201) ?Bq201 ?Fq201 ?Xq201 ?Nq201 ?Tq201 rfl rfl rfl rfl ?hdq201 ?huq201 ?_; (case Nq201 => k_asm); (case m1q201 => k_mem); (case m2q201 => k_mem); (case Bq201 => k_asm); (case Fq201 => k_asm); (case Xq201 => k_asm); (case Tq201 => k_asm); (case hdq201 => k_extra "my room"); (case huq201 => k_extra "my room")); (refine after_t ?_); intro h' tk' t' F' N'; (try k_sweep)))
  k_with "callWith ref" => (guard_hyp mk29; (k_here; (with_reducible show wpAny _ _ (callWith _ (Value.ref 451) _ _ _) _ _ _); k_dflt (refine' callWith_K0 (in_of ?Fq202 ?Xq202) ?kq202 ?_; (case Fq202 => k_asm); (case Xq202 => assumption); (case kq202 => k_is); (try dsimp only [List.nil_append, List.cons_append, List.append_nil]))))
  k_with "getMethod ref" => (guard_hyp mk29; (k_here; (with_reducible show wpAny _ _ (getMethod (Value.ref _) (Str.ofString "key_for") _) _ _ _); k_dflt (refine' method_inst ?k1q203 ?k2q203 ?k3q203 ?k4q203 ?k5q203 ?k6q203 ?k7q203 ?_; (case k1q203 => k_asm); (case k2q203 => k_asm); (case k3q203 => k_inst); (case k4q203 => k_is); (case k5q203 => k_is); (case k6q203 => k_is); (case k7q203 => k_get); k_whole)))
  k_with "getMethod ref" => (guard_hyp mk29; (k_here; (with_reducible show wpAny _ _ (getMethod (Value.ref _) (Str.ofString "get_expiry") _) _ _ _); k_dflt (refine' method_inst ?k1q204 ?k2q204 ?k3q204 ?k4q204 ?k5q204 ?k6q204 ?k7q204 ?_; (case k1q204 => k_asm); (case k2q204 => k_asm); (case k3q204 => k_inst); (case k4q204 => k_is); (case k5q204 => k_is); (case k6q204 => k_is); (case k7q204 => k_get); k_whole)))
  k_with "getMethod ref" => (guard_hyp mk29; (k_here; (with_reducible show wpAny _ _ (getMethod (Value.ref _) (Str.ofString "_weighted_count") _) _ _ _); k_dflt (refine' method_inst ?k1q205 ?k2q205 ?k3q205 ?k4q205 ?k5q205 ?k6q205 ?k7q205 ?_; (case k1q205 => k_asm); (case k2q205 => k_asm); (case k3q205 => k_inst); (case k4q205 => k_is); (case k5q205 => k_is); (case k6q205 => k_is); (case k7q205 => k_get); k_whole)))
  exact True.intro
theorem c_wc {x : CX} {L : Led} {lim it : Addr} {am p1 p2 p3 : Int} {t1 t2 t3 : Tok} (HI : ItemAt L it am) (hp : p1.natAbs < 1000) (hp2 : p2.natAbs < 1000) :
    Ct 4 x 257 [.ref lim, .ref it, .int p1 t1, .int p2 t2, .int p3 t3] [] L fun v L' => L' = L ∧ ∃ t, v = .int ((p1 * p2).fdiv 10 + p3) t := by
  have mk29 := True.intro
  refine hideG ?_
  intro G' hG'
  obtain ⟨dit, e1, e2, e3, ti1, ti2, ti3, ti4, ti5, ti6, ni, mi1, mi2⟩ := HI
  refine hG' ?_
  clear hG' G'
  unfold Ct
  k_fill
  k_dflt (refine' ctr_enter (binds := [(Str.ofString "self", .ref lim), (Str.ofString "item", .ref it), (Str.ofString "previous_count", .int p1 t1), (Str.ofString "previous_expires_in", .int p2 t2), (Str.ofString "current_count", .int p3 t3)]) (mm := fun y => List.lookup y [(Str.ofString "current_count", .int p3 t3), (Str.ofString "previous_expires_in", .int p2 t2), (Str.ofString "previous_count", .int p1 t1), (Str.ofString "item", .ref it), (Str.ofString "self", .ref lim)]) ?k6 ?k7 ?k9 ?kB rfl ?_ ?c2 ?c3 ?c4 ?c5 ?c6; (case k6 => k_is); (case k7 => k_is); (case k9 => first | exact fun s _ => BindsTo.of_eq rfl | exact fun s hX => binds_K hX rfl (by k_is) rfl rfl rfl); (case c5 => decide); (case c6 => decide); (case kB => exact locs rfl); (case c2 => exact rfl); (case c3 => exact rfl); (case c4 => exact rfl); k_whole; intro dp un gd outer base g s L' B X T F N hdp hun; (try dsimp only [DL] at N); (try dsimp only); (try k_fold))
  k_steps
  exact EndC.mk (by k_asm) (by k_asm) ⟨rfl, _, rfl⟩
end
section
-- c_stest
theorem lines_c_stest : True := by
  k_with "call ref" => (guard_hyp mk30; (k_here; (with_reducible show wpAny _ _ (call (Value.ref 458) _ _) _ _ _); (k_dflt (show wpAny _ _ (call (Value.ref 458) [Value.ref _, Value.ref _] []) _ _ _)); k_dflt (refine' Ctr.call (NameAt.use ?hq206 ?subq206) ?Bq206 ?Fq206 ?Xq206 ?Nq206 ?Tq206 rfl rfl rfl rfl ?hdq206 ?huq206 ?_; (case Nq206 => k_asm); (case hq206 => assumption); (case subq206 => k_extra "my sub"); (case Bq206 => k_asm); (case Fq206 => k_asm); (case Xq206 => k_asm); (case Tq206 => k_asm); (case hdq206 => k_extra "my room"); (case huq206 => k_extra "my room")); (refine after_t ?_); intro h' tk' t' F' N'; (try k_sweep)))
  k_with "call ref" => (guard_hyp mk30; (k_here; (with_reducible show wpAny _ _ (call (Value.ref 451) _ _) _ _ _); (k_dflt (show wpAny _ _ (call (Value.ref 451) [Value.ref _] []) _ _ _)); k_dflt (refine' Ctr.call (exp_of ?m1q207 ?m2q207) ?Bq207 ?Fq207 ?Xq207 ?Nq207 ?Tq207 rfl rfl rfl rfl ?hdq207 ?huq207 ?_; (case Nq207 => k_asm); (case m1q207 => k_mem); (case m2q207 => k_mem); (case Bq207 => k_asm); (case Fq207 => k_asm); (case Xq207 => k_asm); (case Tq207 => k_asm); (case hdq207 => k_extra "my room"); (case huq207 => k_extra "my room")); (refine after_t ?_); intro h' tk' t' F' N'; (try k_sweep)))
  k_with "callWith ref" => (guard_hyp mk30; (k_here; (with_reducible show wpAny _ _ (callWith _ (Value.ref 451) _ _ _) _ _ _); k_dflt (refine' callWith_K0 (in_of ?Fq208 ?Xq208) ?kq208 ?_; (case Fq208 => k_asm); (case Xq208 => assumption); (case kq208 => k_is); (try dsimp only [List.nil_append, List.cons_append, List.append_nil]))))
  k_with "getMethod ref" => (guard_hyp mk30; (k_here; (with_reducible show wpAny _ _ (getMethod (Value.ref _) (Str.ofString "key_for") _) _ _ _); k_dflt (refine' method_inst ?k1q209 ?k2q209 ?k3q209 ?k4q209 ?k5q209 ?k6q209 ?k7q209 ?_; (case k1q209 => k_asm); (case k2q209 => k_asm); (case k3q209 => k_inst); (case k4q209 => k_is); (case k5q209 => k_is); (case k6q209 => k_is); (case k7q209 => k_get); k_whole)))
  k_with "getMethod ref" => (guard_hyp mk30; (k_here; (with_reducible show wpAny _ _ (getMethod (Value.ref _) (Str.ofString "get_expiry") _) _ _ _); k_dflt (refine' method_inst ?k1q210 ?k2q210 ?k3q210 ?k4q210 ?k5q210 ?k6q210 ?k7q210 ?_; (case k1q210 => k_asm); (case k2q210 => k_asm); (case k3q210 => k_inst); (case k4q210 => k_is); (case k5q210 => k_is); (case k6q210 => k_is); (case k7q210 => k_get); k_whole)))
  k_with "getMethod ref" => (guard_hyp mk30; (k_here; (with_reducible show wpAny _ _ (getMethod (Value.ref _) (Str.ofString "_weighted_count") _) _ _ _); k_dflt (refine' method_inst ?k1q211 ?k2q211 ?k3q211 ?k4q211 ?k5q211 ?k6q211 ?k7q211 ?_; (case k1q211 => k_asm); (case k2q211 => k_asm); (case k3q211 => k_inst); (case k4q211 => k_is); (case k5q211 => k_is); (case k6q211 => k_is); (case k7q211 => k_get); k_whole)))
  k_with "call ref" => (guard_hyp mk30; (k_here; (with_reducible show wpAny _ _ (call (Value.ref 650) _ _) _ _ _); (k_dflt (show wpAny _ _ (call (Value.ref 650) [_, _, _] []) _ _ _)); k_dflt (k_extra "my drop"; refine' Ctr.call (c_gsw ?X0q212 ?Sq212 ?hbq212 ?hlq212 ?h1q212 ?h2q212) ?Bq212 ?Fq212 ?Xq212 ?Nq212 ?Tq212 rfl rfl rfl rfl ?hdq212 ?huq212 ?_; (case Nq212 => k_asm); (case X0q212 => k_asm); (case Sq212 => k_extra "my sto"); (case hbq212 => first | k_asm | omega); (case hlq212 => assumption); (case h1q212 => assumption); (case h2q212 => assumption); (case Bq212 => k_asm); (case Fq212 => k_asm); (case Xq212 => k_asm); (case Tq212 => k_asm); (case hdq212 => k_extra "my room"); (case huq212 => k_extra "my room")); intro v' h' tk' L2' F' N' hp'; (refine hideG ?_); intro G' hG'; (obtain ⟨D', u1', u2', u3', u4', e1', S'⟩ := hp'); (refine hG' ?_); (clear hG' G'); subst e1'; (cases S'); (try k_sweep)))
  k_with "call ref" => (guard_hyp mk30; (k_here; (with_reducible show wpAny _ _ (call (Value.ref 257) _ _) _ _ _); (k_dflt (show wpAny _ _ (call (Value.ref 257) [_, _, _, _, _] []) _ _ _)); k_dflt (refine' Ctr.call (c_wc ?hiq213 ?hpq213 ?hp2q213) ?Bq213 ?Fq213 ?Xq213 ?Nq213 ?Tq213 rfl rfl rfl rfl ?hdq213 ?huq213 ?_; (case Nq213 => k_asm); (case hiq213 => exact ⟨_, _, _, _, _, _, _, _, _, _, _, by k_mem, by k_mem⟩); (case hpq213 => assumption); (case hp2q213 => assumption); (case Bq213 => k_asm); (case Fq213 => k_asm); (case Xq213 => k_asm); (case Tq213 => k_asm); (case hdq213 => k_extra "my room"); (case huq213 => k_extra "my room")); (refine after_t ?_); intro h' tk' t' F' N'; (try k_sweep)))
  exact True.intro
theorem c_stest {x : CX} {c : Cf} {σ : St} {b : Nat} {L rest : Led} {lim it tu : Addr} {am cost : Int} {key : Str} {tc : Tok} (X0 : Fixed x c) (S : StR x c σ b L rest) (hb : b ≤ 600) (HL : LimAt rest 296 lim c.st) (HI : ItemAt rest it am) (HN : NameAt x rest it tu key) (hlen : key.length ≤ 100) (h1 : 1000 ≤ σ.now) (h2 : σ.now < 3000) (hv : (getV σ (pKey σ key)).natAbs < 1000) :
    Ct 5 x 275 [.ref lim, .ref it, .ref tu, .int cost tc] [] L fun v L' => v = .bool (decide (wtd σ key < am - cost + 1)) ∧ ∃ rest', (∀ p ∈ rest, p ∈ rest') ∧ StR x c (infS σ key) b L' rest' := by
  have mk30 := True.intro
  refine hideG ?_
  intro G' hG'
  obtain ⟨dl, el, tl, nl, ml1, ml2⟩ := HL
  obtain ⟨dit, e1, e2, e3, ti1, ti2, ti3, ti4, ti5, ti6, ni, mi1, mi2⟩ := HI
  refine hG' ?_
  clear hG' G'
  have X1 := X0
  obtain ⟨lo1, lo2, lo3, n12, n13, n14, n15, n23, n24, n25, n34, n35, n45, hclk⟩ := X1
  refine open_s S ?_
  clear S
  intro o1 o2 o3 o5 t0 n0 T1 T2 T3 T4 T5
  have T5' := T5
  obtain ⟨m1, m2, m3, m4, m5, a1, a2, a3, a4, a5⟩ := T5'
  have hb1 : b ≤ 900 := by omega
  have hv2 : (infoT σ (pKey σ key) σ.now).natAbs < 1000 := by have := infoT_le σ (pKey σ key) σ.now; omega
  unfold Ct
  k_fill
  k_dflt (refine' ctr_enter (binds := [(Str.ofString "self", .ref lim), (Str.ofString "item", .ref it), (Str.ofString "identifiers", .ref tu), (Str.ofString "cost", .int cost tc)]) (mm := fun y => List.lookup y [(Str.ofString "cost", .int cost tc), (Str.ofString "identifiers", .ref tu), (Str.ofString "item", .ref it), (Str.ofString "self", .ref lim)]) ?k6 ?k7 ?k9 ?kB rfl ?_ ?c2 ?c3 ?c4 ?c5 ?c6; (case k6 => k_is); (case k7 => k_is); (case k9 => first | exact fun s _ => BindsTo.of_eq rfl | exact fun s hX => binds_K hX rfl (by k_is) rfl rfl rfl); (case c5 => decide); (case c6 => decide); (case kB => exact locs rfl); (case c2 => exact rfl); (case c3 => exact rfl); (case c4 => exact rfl); k_whole; intro dp un gd outer base g s L' B X T F N hdp hun; (try dsimp only [DL] at N); (try dsimp only); (try k_fold))
  k_steps
  refine' EndC.mk2 ?Fz ?Nz ?sz ⟨rfl, _ :: rest, fun p hp => .tail _ hp, ?Sz⟩
  case Fz => k_asm
  case Nz => k_asm
  case sz => exact fun p hp => hp
  case Sz => k_extra "my end"
end
section
-- c_sstat
theorem lines_c_sstat : True := by
  k_with "call ref" => (guard_hyp mk31; (k_here; (with_reducible show wpAny _ _ (call (Value.ref 458) _ _) _ _ _); (k_dflt (show wpAny _ _ (call (Value.ref 458) [Value.ref _, Value.ref _] []) _ _ _)); k_dflt (refine' Ctr.call (NameAt.use ?hq214 ?subq214) ?Bq214 ?Fq214 ?Xq214 ?Nq214 ?Tq214 rfl rfl rfl rfl ?hdq214 ?huq214 ?_; (case Nq214 => k_asm); (case hq214 => assumption); (case subq214 => k_extra "my sub"); (case Bq214 => k_asm); (case Fq214 => k_asm); (case Xq214 => k_asm); (case Tq214 => k_asm); (case hdq214 => k_extra "my room"); (case huq214 => k_extra "my room")); (refine after_t ?_); intro h' tk' t' F' N'; (try k_sweep)))
  k_with "call ref" => (guard_hyp mk31; (k_here; (with_reducible show wpAny _ _ (call (Value.ref 451) _ _) _ _ _); (k_dflt (show wpAny _ _ (call (Value.ref 451) [Value.ref _] []) _ _ _)); k_dflt (refine' Ctr.call (exp_of ?m1q215 ?m2q215) ?Bq215 ?Fq215 ?Xq215 ?Nq215 ?Tq215 rfl rfl rfl rfl ?hdq215 ?huq215 ?_; (case Nq215 => k_asm); (case m1q215 => k_mem); (case m2q215 => k_mem); (case Bq215 => k_asm); (case Fq215 => k_asm); (case Xq215 => k_asm); (case Tq215 => k_asm); (case hdq215 => k_extra "my room"); (case huq215 => k_extra "my room")); (refine after_t ?_); intro h' tk' t' F' N'; (try k_sweep)))
  k_with "callWith ref" => (guard_hyp mk31; (k_here; (with_reducible show wpAny _ _ (callWith _ (Value.ref 451) _ _ _) _ _ _); k_dflt (refine' callWith_K0 (in_of ?Fq216 ?Xq216) ?kq216 ?_; (case Fq216 => k_asm); (case Xq216 => assumption); (case kq216 => k_is); (try dsimp only [List.nil_append, List.cons_append, List.append_nil]))))
  k_with "getMethod ref" => (guard_hyp mk31; (k_here; (with_reducible show wpAny _ _ (getMethod (Value.ref _) (Str.ofString "key_for") _) _ _ _); k_dflt (refine' method_inst ?k1q217 ?k2q217 ?k3q217 ?k4q217 ?k5q217 ?k6q217 ?k7q217 ?_; (case k1q217 => k_asm); (case k2q217 => k_asm); (case k3q217 => k_inst); (case k4q217 => k_is); (case k5q217 => k_is); (case k6q217 => k_is); (case k7q217 => k_get); k_whole)))
  k_with "getMethod ref" => (guard_hyp mk31; (k_here; (with_reducible show wpAny _ _ (getMethod (Value.ref _) (Str.ofString "get_expiry") _) _ _ _); k_dflt (refine' method_inst ?k1q218 ?k2q218 ?k3q218 ?k4q218 ?k5q218 ?k6q218 ?k7q218 ?_; (case k1q218 => k_asm); (case k2q218 => k_asm); (case k3q218 => k_inst); (case k4q218 => k_is); (case k5q218 => k_is); (case k6q218 => k_is); (case k7q218 => k_get); k_whole)))
  k_with "getMethod ref" => (guard_hyp mk31; (k_here; (with_reducible show wpAny _ _ (getMethod (Value.ref _) (Str.ofString "_weighted_count") _) _ _ _); k_dflt (refine' method_inst ?k1q219 ?k2q219 ?k3q219 ?k4q219 ?k5q219 ?k6q219 ?k7q219 ?_; (case k1q219 => k_asm); (case k2q219 => k_asm); (case k3q219 => k_inst); (case k4q219 => k_is); (case k5q219 => k_is); (case k6q219 => k_is); (case k7q219 => k_get); k_whole)))
  k_with "call ref" => (guard_hyp mk31; (k_here; (with_reducible show wpAny _ _ (call (Value.ref 650) _ _) _ _ _); (k_dflt (show wpAny _ _ (call (Value.ref 650) [_, _, _] []) _ _ _)); k_dflt (k_extra "my drop"; refine' Ctr.call (c_gsw ?X0q220 ?Sq220 ?hbq220 ?hlq220 ?h1q220 ?h2q220) ?Bq220 ?Fq220 ?Xq220 ?Nq220 ?Tq220 rfl rfl rfl rfl ?hdq220 ?huq220 ?_; (case Nq220 => k_asm); (case X0q220 => k_asm); (case Sq220 => k_extra "my sto"); (case hbq220 => first | k_asm | omega); (case hlq220 => assumption); (case h1q220 => assumption); (case h2q220 => assumption); (case Bq220 => k_asm); (case Fq220 => k_asm); (case Xq220 => k_asm); (case Tq220 => k_asm); (case hdq220 => k_extra "my room"); (case huq220 => k_extra "my room")); intro v' h' tk' L2' F' N' hp'; (refine hideG ?_); intro G' hG'; (obtain ⟨D', u1', u2', u3', u4', e1', S'⟩ := hp'); (refine hG' ?_); (clear hG' G'); subst e1'; (cases S'); (try k_sweep)))
  k_with "call ref" => (guard_hyp mk31; (k_here; (with_reducible show wpAny _ _ (call (Value.ref 257) _ _) _ _ _); (k_dflt (show wpAny _ _ (call (Value.ref 257) [_, _, _, _, _] []) _ _ _)); k_dflt (refine' Ctr.call (c_wc ?hiq221 ?hpq221 ?hp2q221) ?Bq221 ?Fq221 ?Xq221 ?Nq221 ?Tq221 rfl rfl rfl rfl ?hdq221 ?huq221 ?_; (case Nq221 => k_asm); (case hiq221 => exact ⟨_, _, _, _, _, _, _, _, _, _, _, by k_mem, by k_mem⟩); (case hpq221 => assumption); (case hp2q221 => assumption); (case Bq221 => k_asm); (case Fq221 => k_asm); (case Xq221 => k_asm); (case Tq221 => k_asm); (case hdq221 => k_extra "my room"); (case huq221 => k_extra "my room")); (refine after_t ?_); intro h' tk' t' F' N'; (try k_sweep)))
  k_with "call ref" => (guard_hyp mk31; (k_here; (with_reducible show wpAny _ _ (call (Value.ref 132) _ _) _ _ _); (k_dflt (show wpAny _ _ (call (Value.ref 132) [_, _] []) _ _ _)); k_dflt (refine' Ctr.call (c_mkws) ?Bq222 ?Fq222 ?Xq222 ?Nq222 ?Tq222 rfl rfl rfl rfl ?hdq222 ?huq222 ?_; (case Nq222 => k_asm); (case Bq222 => k_asm); (case Fq222 => k_asm); (case Xq222 => k_asm); (case Tq222 => k_asm); (case hdq222 => k_extra "my room"); (case huq222 => k_extra "my room")); intro v' h' tk' L2' F' N' hp'; (refine hideG ?_); intro G' hG'; (obtain ⟨D', dx', e1', l1', l2', e2'⟩ := hp'); (refine hG' ?_); (clear hG' G'); subst e1' e2'; (replace l2' := Nat.succ_le_of_lt l2'); (try k_lt l1'); (try k_sweep)))
  k_with "my fix" => (guard_hyp mk31; first | assumption | (refine' Fix.push ?_ ?h1q223 ?h2q223 ?h3q223 ?h4q223 ?h5q223; (case h1q223 => (refine Nat.lt_of_succ_le ?_; (try dsimp only); omega)); (case h2q223 => (refine Nat.lt_of_succ_le ?_; (try dsimp only); omega)); (case h3q223 => (refine Nat.lt_of_succ_le ?_; (try dsimp only); omega)); (case h4q223 => (refine Nat.lt_of_succ_le ?_; (try dsimp only); omega)); (case h5q223 => (refine Nat.lt_of_succ_le ?_; (try dsimp only); omega)); k_extra "my fix"))
  k_with "my tab2" => (guard_hyp mk31; first | k_extra "my tab" | exact TabOk.push (TabOk.push (TabOk.push (.some (by assumption) (by assumption) (by assumption)))) | (refine' tabOk_some' ?aq224 ?bq224 ?cq224 ?dq224 ?eq224; (case aq224 => exact .tail _ (.tail _ (.head _))); (case bq224 => assumption); (case cq224 => assumption); (case dq224 => first | rfl | kernel_rfl); (case eq224 => rfl)))
  k_with "my pe" => (guard_hyp mk31; first | assumption | (refine tab_up ?_; k_extra "my pe"))
  k_with "my endk" => (guard_hyp mk31; (refine' StR.mk ?a1q226 ?a2q226 ?a3q226 ?a4q226 ?a5q226; (case a1q226 => k_extra "my end1"); (case a2q226 => k_extra "my end1"); (case a3q226 => k_extra "my pe"); (case a4q226 => k_extra "my tab2"); (case a5q226 => k_extra "my fix")))
  exact True.intro
theorem c_sstat {x : CX} {c : Cf} {σ : St} {b : Nat} {L rest : Led} {lim it tu : Addr} {am cost : Int} {key : Str} {tc : Tok} (X0 : Fixed x c) (S : StR x c σ b L rest) (hb : b ≤ 600) (HL : LimAt rest 296 lim c.st) (HI : ItemAt rest it am) (HN : NameAt x rest it tu key) (hlen : key.length ≤ 100) (h1 : 1000 ≤ σ.now) (h2 : σ.now < 3000) (hv : (getV σ (pKey σ key)).natAbs < 1000) :
    Ct 5 x 284 [.ref lim, .ref it, .ref tu] [] L fun v L' => ∃ D dx T t1 t2 t3 r1 r2 rest', v = .ref D ∧ (∀ p ∈ rest, p ∈ rest') ∧ (D, tupInst 132 dx #[.ref T, .int (if am - wtd σ key > 0 then am - wtd σ key else 0) t1]) ∈ rest' ∧ (dx, emptyDict) ∈ rest' ∧ (T, tupO #[.int r1 t2, .int r2 t3]) ∈ rest' ∧ (r1, r2) = swR σ key ∧ StR x c (infS σ key) b L' rest' := by
  have mk31 := True.intro
  refine hideG ?_
  intro G' hG'
  obtain ⟨dl, el, tl, nl, ml1, ml2⟩ := HL
  obtain ⟨dit, e1, e2, e3, ti1, ti2, ti3, ti4, ti5, ti6, ni, mi1, mi2⟩ := HI
  refine hG' ?_
  clear hG' G'
  have X1 := X0
  obtain ⟨lo1, lo2, lo3, n12, n13, n14, n15, n23, n24, n25, n34, n35, n45, hclk⟩ := X1
  refine open_s S ?_
  clear S
  intro o1 o2 o3 o5 t0 n0 T1 T2 T3 T4 T5
  have T5' := T5
  obtain ⟨m1, m2, m3, m4, m5, a1, a2, a3, a4, a5⟩ := T5'
  have hb1 : b ≤ 900 := by omega
  have hv2 : (infoT σ (pKey σ key) σ.now).natAbs < 1000 := by have := infoT_le σ (pKey σ key) σ.now; omega
  unfold Ct
  k_fill
  k_dflt (refine' ctr_enter (binds := [(Str.ofString "self", .ref lim), (Str.ofString "item", .ref it), (Str.ofString "identifiers", .ref tu)]) (mm := fun y => List.lookup y [(Str.ofString "identifiers", .ref tu), (Str.ofString "item", .ref it), (Str.ofString "self", .ref lim)]) ?k6 ?k7 ?k9 ?kB rfl ?_ ?c2 ?c3 ?c4 ?c5 ?c6; (case k6 => k_is); (case k7 => k_is); (case k9 => first | exact fun s _ => BindsTo.of_eq rfl | exact fun s hX => binds_K hX rfl (by k_is) rfl rfl rfl); (case c5 => decide); (case c6 => decide); (case kB => exact locs rfl); (case c2 => exact rfl); (case c3 => exact rfl); (case c4 => exact rfl); k_whole; intro dp un gd outer base g s L' B X T F N hdp hun; (try dsimp only [DL] at N); (try dsimp only); (try k_fold))
  k_steps
  all_goals first | (exfalso; omega) | skip
  all_goals (refine' EndC.mk2 ?Fz ?Nz ?sz ⟨_, _, _, _, _, _, _, _, _ :: _ :: _ :: _ :: rest, rfl, ?hz, .head _, .tail _ (.head _), .tail _ (.tail _ (.head _)), ?ez, ?Sz⟩; (case Fz => k_asm); (case Nz => k_asm); (case sz => exact sub3); (case Sz => k_extra "my endk"); (case hz => exact fun p hp => .tail _ (.tail _ (.tail _ (.tail _ hp)))); (case ez => (simp only [swR, swR0, swRin, infS_now]; (try split) <;> (try split) <;> first | rfl | (exfalso; omega) | trace_state)))
end
section
-- c_csw
theorem lines_c_csw : True := by
  k_with "getMethod ref" => (guard_hyp mk32; (k_here; (with_reducible show wpAny _ _ (getMethod (Value.ref _) (Str.ofString "sliding_window_keys") _) _ _ _); k_dflt (refine' kmu_cm ?k1q227 ?k2q227 ?k3q227 ?k4q227 ?k5q227 ?k6q227 ?k7q227 ?k8q227 ?k9q227 ?k10q227 ?k11q227 ?k12q227 ?k13q227 ?_; (case k1q227 => k_asm); (case k2q227 => k_asm); (case k3q227 => k_asm); (case k4q227 => k_inst); (case k5q227 => k_is); (case k6q227 => k_is); (case k7q227 => k_is); (case k8q227 => k_is); (case k9q227 => k_is); (case k10q227 => k_is); (case k11q227 => decide +kernel); (case k12q227 => k_get); (case k13q227 => k_is); k_whole; intro q' h' F' N' l1; (try k_lt l1); (try k_sweep))))
  k_with "call ref" => (guard_hyp mk32; (k_here; (with_reducible show wpAny _ _ (call (Value.ref _) [Value.str _ _, Value.int 10 _, Value.int _ _] []) _ _ _); k_dflt (refine' call_meth ?k1q228 ?k2q228 ?_; (case k1q228 => k_asm); (case k2q228 => k_mem); k_whole; refine' Ctr.code (c_swk ?hlq228 ?h1q228 ?h2q228) ?Bq228 ?Fq228 ?Xq228 ?Nq228 ?Tq228 rfl rfl rfl rfl ?hdq228 ?huq228 ?_; (case Nq228 => k_asm); (case hlq228 => k_asm); (case h1q228 => k_asm); (case h2q228 => k_asm); (case Bq228 => k_asm); (case Fq228 => k_asm); (case Xq228 => k_asm); (case Tq228 => k_asm); (case hdq228 => k_extra "my room"); (case huq228 => k_extra "my room")); intro v' h' tk' L2' F' N' hp'; (refine hideG ?_); intro G' hG'; (obtain ⟨D', u1', u2', e1', l1', e2'⟩ := hp'); (refine hG' ?_); (clear hG' G'); subst e1' e2'; (try k_lt l1'); (try k_sweep); (try dsimp only)))
  k_with "call ref" => (guard_hyp mk32; (k_here; (with_reducible show wpAny _ _ (call (Value.ref 606) [_, _] []) _ _ _); k_dflt (k_extra "my drop"; refine' Ctr.call (c_clear ?X0q229 ?Sq229 ?hbq229) ?Bq229 ?Fq229 ?Xq229 ?Nq229 ?Tq229 rfl rfl rfl rfl ?hdq229 ?huq229 ?_; (case X0q229 => k_asm); (case Nq229 => k_asm); (case Sq229 => k_extra "my sto"); (case hbq229 => first | k_asm | omega); (case Bq229 => k_asm); (case Fq229 => k_asm); (case Xq229 => k_asm); (case Tq229 => k_asm); (case hdq229 => k_extra "my room"); (case huq229 => k_extra "my room")); (refine after_s ?_); intro h' tk' o1' o2' o3' o5' t' n' F' N' T1' T2' T3' T4' T5'; (try k_sweep)))
  exact True.intro
theorem c_csw {x : CX} {c : Cf} {σ : St} {b : Nat} {L rest : Led} {key : Str} {tk t1 : Tok} (X0 : Fixed x c) (S : StR x c σ b L rest) (hb : b ≤ 800) (hlen : key.length ≤ 100) (h1 : 1000 ≤ σ.now) (h2 : σ.now < 3000) :
    Ct 3 x 657 [.ref c.st, .str key tk, .int 10 t1] [] L fun v L' => v = .none ∧ StR x c (clearS (clearS σ (pKey σ key)) (cKey σ key)) b L' rest := by
  have mk32 := True.intro
  have X1 := X0
  obtain ⟨lo1, lo2, lo3, n12, n13, n14, n15, n23, n24, n25, n34, n35, n45, hclk⟩ := X1
  refine open_s S ?_
  clear S
  intro o1 o2 o3 o5 t0 n0 T1 T2 T3 T4 T5
  have T5' := T5
  obtain ⟨m1, m2, m3, m4, m5, a1, a2, a3, a4, a5⟩ := T5'
  have hb1 : b ≤ 900 := by omega
  unfold Ct
  k_fill
  k_dflt (refine' ctr_enter (binds := [(Str.ofString "self", .ref c.st), (Str.ofString "key", .str key tk), (Str.ofString "expiry", .int 10 t1)]) (mm := fun y => List.lookup y [(Str.ofString "expiry", .int 10 t1), (Str.ofString "key", .str key tk), (Str.ofString "self", .ref c.st)]) ?k6 ?k7 ?k9 ?kB rfl ?_ ?c2 ?c3 ?c4 ?c5 ?c6; (case k6 => k_is); (case k7 => k_is); (case k9 => first | exact fun s _ => BindsTo.of_eq rfl | exact fun s hX => binds_K hX rfl (by k_is) rfl rfl rfl); (case c5 => decide); (case c6 => decide); (case kB => exact locs rfl); (case c2 => exact rfl); (case c3 => exact rfl); (case c4 => exact rfl); k_whole; intro dp un gd outer base g s L' B X T F N hdp hun; (try dsimp only [DL] at N); (try dsimp only); (try k_fold))
  k_steps
  refine EndC.mk (by k_asm) (by k_asm) ⟨rfl, ?_⟩
  k_extra "my sto"
end
section
-- c_sclr
theorem lines_c_sclr : True := by
  k_with "call ref" => (guard_hyp mk33; (k_here; (with_reducible show wpAny _ _ (call (Value.ref 458) _ _) _ _ _); (k_dflt (show wpAny _ _ (call (Value.ref 458) [Value.ref _, Value.ref _] []) _ _ _)); k_dflt (refine' Ctr.call (NameAt.use ?hq230 ?subq230) ?Bq230 ?Fq230 ?Xq230 ?Nq230 ?Tq230 rfl rfl rfl rfl ?hdq230 ?huq230 ?_; (case Nq230 => k_asm); (case hq230 => assumption); (case subq230 => k_extra "my sub"); (case Bq230 => k_asm); (case Fq230 => k_asm); (case Xq230 => k_asm); (case Tq230 => k_asm); (case hdq230 => k_extra "my room"); (case huq230 => k_extra "my room")); (refine after_t ?_); intro h' tk' t' F' N'; (try k_sweep)))
  k_with "call ref" => (guard_hyp mk33; (k_here; (with_reducible show wpAny _ _ (call (Value.ref 451) _ _) _ _ _); (k_dflt (show wpAny _ _ (call (Value.ref 451) [Value.ref _] []) _ _ _)); k_dflt (refine' Ctr.call (exp_of ?m1q231 ?m2q231) ?Bq231 ?Fq231 ?Xq231 ?Nq231 ?Tq231 rfl rfl rfl rfl ?hdq231 ?huq231 ?_; (case Nq231 => k_asm); (case m1q231 => k_mem); (case m2q231 => k_mem); (case Bq231 => k_asm); (case Fq231 => k_asm); (case Xq231 => k_asm); (case Tq231 => k_asm); (case hdq231 => k_extra "my room"); (case huq231 => k_extra "my room")); (refine after_t ?_); intro h' tk' t' F' N'; (try k_sweep)))
  k_with "callWith ref" => (guard_hyp mk33; (k_here; (with_reducible show wpAny _ _ (callWith _ (Value.ref 451) _ _ _) _ _ _); k_dflt (refine' callWith_K0 (in_of ?Fq232 ?Xq232) ?kq232 ?_; (case Fq232 => k_asm); (case Xq232 => assumption); (case kq232 => k_is); (try dsimp only [List.nil_append, List.cons_append, List.append_nil]))))
  k_with "getMethod ref" => (guard_hyp mk33; (k_here; (with_reducible show wpAny _ _ (getMethod (Value.ref _) (Str.ofString "key_for") _) _ _ _); k_dflt (refine' method_inst ?k1q233 ?k2q233 ?k3q233 ?k4q233 ?k5q233 ?k6q233 ?k7q233 ?_; (case k1q233 => k_asm); (case k2q233 => k_asm); (case k3q233 => k_inst); (case k4q233 => k_is); (case k5q233 => k_is); (case k6q233 => k_is); (case k7q233 => k_get); k_whole)))
  k_with "getMethod ref" => (guard_hyp mk33; (k_here; (with_reducible show wpAny _ _ (getMethod (Value.ref _) (Str.ofString "get_expiry") _) _ _ _); k_dflt (refine' method_inst ?k1q234 ?k2q234 ?k3q234 ?k4q234 ?k5q234 ?k6q234 ?k7q234 ?_; (case k1q234 => k_asm); (case k2q234 => k_asm); (case k3q234 => k_inst); (case k4q234 => k_is); (case k5q234 => k_is); (case k6q234 => k_is); (case k7q234 => k_get); k_whole)))
  k_with "getMethod ref" => (guard_hyp mk33; (k_here; (with_reducible show wpAny _ _ (getMethod (Value.ref _) (Str.ofString "_weighted_count") _) _ _ _); k_dflt (refine' method_inst ?k1q235 ?k2q235 ?k3q235 ?k4q235 ?k5q235 ?k6q235 ?k7q235 ?_; (case k1q235 => k_asm); (case k2q235 => k_asm); (case k3q235 => k_inst); (case k4q235 => k_is); (case k5q235 => k_is); (case k6q235 => k_is); (case k7q235 => k_get); k_whole)))
  k_with "call ref" => (guard_hyp mk33; (k_here; (with_reducible show wpAny _ _ (call (Value.ref 657) _ _) _ _ _); (k_dflt (show wpAny _ _ (call (Value.ref 657) [_, _, _] []) _ _ _)); k_dflt (k_extra "my drop"; refine' Ctr.call (c_csw ?X0q236 ?Sq236 ?hbq236 ?hlq236 ?h1q236 ?h2q236) ?Bq236 ?Fq236 ?Xq236 ?Nq236 ?Tq236 rfl rfl rfl rfl ?hdq236 ?huq236 ?_; (case Nq236 => k_asm); (case X0q236 => k_asm); (case Sq236 => k_extra "my sto"); (case hbq236 => first | k_asm | omega); (case hlq236 => assumption); (case h1q236 => assumption); (case h2q236 => assumption); (case Bq236 => k_asm); (case Fq236 => k_asm); (case Xq236 => k_asm); (case Tq236 => k_asm); (case hdq236 => k_extra "my room"); (case huq236 => k_extra "my room")); (refine after_s ?_); intro h' tk' o1' o2' o3' o5' t' n' F' N' T1' T2' T3' T4' T5'; (try k_sweep)))
  exact True.intro
theorem c_sclr {x : CX} {c : Cf} {σ : St} {b : Nat} {L rest : Led} {lim it tu : Addr} {am cost : Int} {key : Str} {tc : Tok} (X0 : Fixed x c) (S : StR x c σ b L rest) (hb : b ≤ 600) (HL : LimAt rest 296 lim c.st) (HI : ItemAt rest it am) (HN : NameAt x rest it tu key) (hlen : key.length ≤ 100) (h1 : 1000 ≤ σ.now) (h2 : σ.now < 3000) :
    Ct 5 x 293 [.ref lim, .ref it, .ref tu] [] L fun v L' => v = .none ∧ StR x c (clearS (clearS σ (pKey σ key)) (cKey σ key)) b L' rest := by
  have mk33 := True.intro
  refine hideG ?_
  intro G' hG'
  obtain ⟨dl, el, tl, nl, ml1, ml2⟩ := HL
  obtain ⟨dit, e1, e2, e3, ti1, ti2, ti3, ti4, ti5, ti6, ni, mi1, mi2⟩ := HI
  refine hG' ?_
  clear hG' G'
  have X1 := X0
  obtain ⟨lo1, lo2, lo3, n12, n13, n14, n15, n23, n24, n25, n34, n35, n45, hclk⟩ := X1
  refine open_s S ?_
  clear S
  intro o1 o2 o3 o5 t0 n0 T1 T2 T3 T4 T5
  have T5' := T5
  obtain ⟨m1, m2, m3, m4, m5, a1, a2, a3, a4, a5⟩ := T5'
  have hb1 : b ≤ 900 := by omega
  unfold Ct
  k_fill
  k_dflt (refine' ctr_enter (binds := [(Str.ofString "self", .ref lim), (Str.ofString "item", .ref it), (Str.ofString "identifiers", .ref tu)]) (mm := fun y => List.lookup y [(Str.ofString "identifiers", .ref tu), (Str.ofString "item", .ref it), (Str.ofString "self", .ref lim)]) ?k6 ?k7 ?k9 ?kB rfl ?_ ?c2 ?c3 ?c4 ?c5 ?c6; (case k6 => k_is); (case k7 => k_is); (case k9 => first | exact fun s _ => BindsTo.of_eq rfl | exact fun s hX => binds_K hX rfl (by k_is) rfl rfl rfl); (case c5 => decide); (case c6 => decide); (case kB => exact locs rfl); (case c2 => exact rfl); (case c3 => exact rfl); (case c4 => exact rfl); k_whole; intro dp un gd outer base g s L' B X T F N hdp hun; (try dsimp only [DL] at N); (try dsimp only); (try k_fold))
  k_steps
  refine EndC.mk (by k_asm) (by k_asm) ⟨rfl, ?_⟩
  k_extra "my end"
end
section
-- c_reset
theorem lines_c_reset : True := by
  k_with "getMethod ref" => (guard_hyp mk34; (k_here; (with_reducible show wpAny _ _ (getMethod (Value.ref _) (Str.ofString "clear") _) _ _ _); k_dflt (refine d_method PySem.F.slot_dict_clear PySem.F.type_dict_clear (by k_asm) (by k_mem) (by k_asm) ?_)))
  k_with "call builtin:len" => (guard_hyp mk34; (k_here; (with_reducible show wpAny _ _ (call (Value.builtin "len") [Value.ref _]) _ _ _); k_dflt (refine' d_len ?Nq238 ?mq238 ?Tq238 ?loq238 ?hbq238 ?_; (case Nq238 => k_asm); (case mq238 => k_mem); (case Tq238 => k_asm); (case loq238 => k_asm); (case hbq238 => k_asm)); intro n' t' tk'))
  k_with "call builtin:dict.clear" => (guard_hyp mk34; (k_here; (with_reducible show wpAny _ _ (call (Value.builtin "dict.clear") [Value.ref _]) _ _ _); k_dflt (refine' d_clear ?Fq239 ?Nq239 ?Uq239 ?Tq239 ?hbq239 ?_; (case Fq239 => k_asm); (case Nq239 => k_asm); (case Uq239 => k_updF); (case Tq239 => k_asm); (case hbq239 => k_asm)); intro h' o' F' N' T'; (try dsimp only at N'); (try k_sweep)))
  exact True.intro
theorem c_reset {x : CX} {c : Cf} {σ : St} {b : Nat} {L rest : Led} (X0 : Fixed x c) (S : StR x c σ b L rest) (hb : b ≤ 800) :
    Ct 1 x 671 [.ref c.st] [] L fun v L' => StR x c (resetS σ) b L' rest := by
  have mk34 := True.intro
  have X1 := X0
  obtain ⟨lo1, lo2, lo3, n12, n13, n14, n15, n23, n24, n25, n34, n35, n45, hclk⟩ := X1
  refine open_s S ?_
  clear S
  intro o1 o2 o3 o5 t0 n0 T1 T2 T3 T4 T5
  have T5' := T5
  obtain ⟨m1, m2, m3, m4, m5, a1, a2, a3, a4, a5⟩ := T5'
  have hb1 : b ≤ 1000 := by omega
  unfold Ct
  k_fill
  k_dflt (refine' ctr_enter (binds := [(Str.ofString "self", .ref c.st)]) (mm := fun y => List.lookup y [(Str.ofString "self", .ref c.st)]) ?k6 ?k7 ?k9 ?kB rfl ?_ ?c2 ?c3 ?c4 ?c5 ?c6; (case k6 => k_is); (case k7 => k_is); (case k9 => first | exact fun s _ => BindsTo.of_eq rfl | exact fun s hX => binds_K hX rfl (by k_is) rfl rfl rfl); (case c5 => decide); (case c6 => decide); (case kB => exact locs rfl); (case c2 => exact rfl); (case c3 => exact rfl); (case c4 => exact rfl); k_whole; intro dp un gd outer base g s L' B X T F N hdp hun; (try dsimp only [DL] at N); (try dsimp only); (try k_fold))
  k_steps
  all_goals (refine EndC.mk (by k_asm) (by k_asm) ?_)
  all_goals k_extra "my sto"
end
section
-- VC
/-- the store, by what can be told of it -/
inductive StV (x : CX) (c : Cf) (v : Vw) (b : Nat) (L rest : Led) : Prop
  | mk {σ : St} : StR x c σ b L rest → view σ = v → StV x c v b L rest
theorem StR.sub {x : CX} {c : Cf} {σ : St} {b : Nat} {L rest : Led} (h : StR x c σ b L rest) : ∀ p ∈ rest, p ∈ L := by
  cases h
  exact fun p hp => .tail _ (.tail _ (.tail _ (.tail _ (.tail _ hp))))
theorem StV.sub {x : CX} {c : Cf} {v : Vw} {b : Nat} {L rest : Led} (h : StV x c v b L rest) : ∀ p ∈ rest, p ∈ L := by
  cases h with | mk h _ => exact h.sub
def GmwV (v : Vw) (key : Str) (st n : Int) : Prop := (v.m key = [] ∧ st = v.now ∧ n = 0) ∨
  ∃ j : Nat, 1 ≤ j ∧ j ≤ (v.m key).length ∧ (v.m key)[((j : Int) - 1).toNat]? = some st ∧ (∀ (i : Nat) t, (v.m key)[i]? = some t → (-t < -(v.now - 10) ↔ i < j)) ∧ n = (j : Int)
theorem GmwV.ok {σ : St} {v : Vw} {key : Str} {st n : Int} (h : GmwV v key st n) (e : view σ = v) : GmwOk σ key st n := by
  subst e
  rcases h with ⟨h1, h2, h3⟩ | ⟨j, h1, h2, h3, h4, h5⟩
  · exact .inl ⟨h1, h2, h3⟩
  · refine .inr ⟨(σ.ev key).getD [], j, ?_, h1, h2, h3, h4, h5⟩
    cases q : σ.ev key with
    | none =>
      have : (view σ).m key = [] := by show (σ.ev key).getD [] = []; rw [q]; rfl
      rw [this] at h2; simp at h2; omega
    | some y => rfl
section
variable {x : CX} {c : Cf} {v : Vw} {b : Nat} {L rest : Led} {lim it tu : Addr} {am cost : Int} {key : Str} {tc : Tok}
abbrev Up (rest rest' : Led) : Prop := ∀ p ∈ rest, p ∈ rest'
theorem v_fhit (X0 : Fixed x c) (S : StV x c v b L rest) (hb : b ≤ 600) (HL : LimAt rest 241 lim c.st) (HI : ItemAt rest it am) (HN : NameAt x rest it tu key) (h0 : 0 ≤ v.now) :
    Ct 5 x 220 [.ref lim, .ref it, .ref tu, .int cost tc] [] L fun r L' => r = .bool (decide (v.n key + cost ≤ am)) ∧ ∃ rest', Up rest rest' ∧ StV x c (v.incr key 10 cost) (b + 1) L' rest' := by
  cases S with | @mk σ S e =>
  subst e
  exact (c_fhit X0 S hb HL HI HN).mono fun r L' ⟨h1, h2⟩ => ⟨h1, _, fun _ h => h, .mk h2 (view_incr h0 _ _ _ (by decide))⟩
theorem v_ftest (X0 : Fixed x c) (S : StV x c v b L rest) (hb : b ≤ 600) (HL : LimAt rest 241 lim c.st) (HI : ItemAt rest it am) (HN : NameAt x rest it tu key) (h0 : 0 ≤ v.now) :
    Ct 5 x 229 [.ref lim, .ref it, .ref tu, .int cost tc] [] L fun r L' => r = .bool (decide (v.n key < am - cost + 1)) ∧ ∃ rest', Up rest rest' ∧ StV x c v b L' rest' := by
  cases S with | @mk σ S e =>
  subst e
  exact (c_ftest X0 S hb HL HI HN).mono fun r L' ⟨h1, h2⟩ => ⟨h1, _, fun _ h => h, .mk h2 (view_get h0 _)⟩
theorem v_fstat (X0 : Fixed x c) (S : StV x c v b L rest) (hb : b ≤ 600) (HL : LimAt rest 241 lim c.st) (HI : ItemAt rest it am) (HN : NameAt x rest it tu key) (h0 : 0 ≤ v.now) :
    Ct 5 x 238 [.ref lim, .ref it, .ref tu] [] L fun r L' => ∃ D dx t1 t2, r = .ref D ∧ ∃ rest', Up rest rest' ∧ ((D, tupInst 132 dx #[.int (v.e key) t1, .int (if am - v.n key > 0 then am - v.n key else 0) t2]) ∈ rest' ∧ (dx, emptyDict) ∈ rest') ∧ StV x c v b L' rest' := by
  cases S with | @mk σ S e =>
  subst e
  exact (c_fstat X0 S hb HL HI HN (cost := 0) (tc := 0)).mono fun r L' ⟨D, dx, t1, t2, rest', h1, h2, h3, h4, h5⟩ => ⟨D, dx, t1, t2, h1, rest', h2, ⟨h3, h4⟩, .mk h5 (view_get h0 _)⟩
theorem v_fclr (X0 : Fixed x c) (S : StV x c v b L rest) (hb : b ≤ 600) (HL : LimAt rest 241 lim c.st) (HI : ItemAt rest it am) (HN : NameAt x rest it tu key) (h0 : 0 ≤ v.now) :
    Ct 5 x 158 [.ref lim, .ref it, .ref tu] [] L fun r L' => r = .none ∧ ∃ rest', Up rest rest' ∧ StV x c (v.clear key) b L' rest' := by
  cases S with | @mk σ S e =>
  subst e
  exact (c_fclr X0 S hb HL HI HN (cost := 0) (tc := 0)).mono fun r L' ⟨h1, h2⟩ => ⟨h1, _, fun _ h => h, .mk h2 (view_clear h0 _)⟩
theorem v_mclr (X0 : Fixed x c) (S : StV x c v b L rest) (hb : b ≤ 600) (HL : LimAt rest 202 lim c.st) (HI : ItemAt rest it am) (HN : NameAt x rest it tu key) (h0 : 0 ≤ v.now) :
    Ct 5 x 158 [.ref lim, .ref it, .ref tu] [] L fun r L' => r = .none ∧ ∃ rest', Up rest rest' ∧ StV x c (v.clear key) b L' rest' := by
  cases S with | @mk σ S e =>
  subst e
  exact (c_mclr X0 S hb HL HI HN (cost := 0) (tc := 0)).mono fun r L' ⟨h1, h2⟩ => ⟨h1, _, fun _ h => h, .mk h2 (view_clear h0 _)⟩
theorem v_mhit (X0 : Fixed x c) (S : StV x c v b L rest) (hb : b ≤ 600) (HL : LimAt rest 202 lim c.st) (HI : ItemAt rest it am) (HN : NameAt x rest it tu key) (h1 : 1 ≤ cost) (h2 : am ≤ 8) (hlen : (v.m key).length ≤ 900) :
    CtT 6 x 181 [.ref lim, .ref it, .ref tu, .int cost tc] [] L fun r L' => r = .bool (v.acqB key am cost) ∧ ∃ rest', Up rest rest' ∧ StV x c (v.acq key am cost) (b + 2) L' rest' := by
  cases S with | @mk σ S e =>
  subst e
  exact (c_mhit X0 S hb HL HI HN h1 h2 hlen).mono fun r L' ⟨h1, rest', h2, h3⟩ => ⟨h1, rest', h2, .mk h3 (view_acq ..)⟩
theorem v_mtest {st nw : Int} (X0 : Fixed x c) (S : StV x c v b L rest) (hb : b ≤ 600) (HL : LimAt rest 202 lim c.st) (HI : ItemAt rest it am) (HN : NameAt x rest it tu key) (hg : GmwV v key st nw) :
    Ct 5 x 190 [.ref lim, .ref it, .ref tu, .int cost tc] [] L fun r L' => r = .bool (decide (nw ≤ am - cost)) ∧ ∃ rest', Up rest rest' ∧ StV x c v b L' rest' := by
  cases S with | @mk σ S e =>
  exact (c_mtest X0 S hb HL HI HN (hg.ok e)).mono fun r L' ⟨h1, rest', h2, h3⟩ => ⟨h1, rest', h2, .mk h3 e⟩
theorem v_mstat {st nw : Int} (X0 : Fixed x c) (S : StV x c v b L rest) (hb : b ≤ 600) (HL : LimAt rest 202 lim c.st) (HI : ItemAt rest it am) (HN : NameAt x rest it tu key) (hg : GmwV v key st nw) :
    Ct 5 x 199 [.ref lim, .ref it, .ref tu] [] L fun r L' => ∃ D dx t1 t2, r = .ref D ∧ ∃ rest', Up rest rest' ∧ ((D, tupInst 132 dx #[.int (st + 10) t1, .int (am - nw) t2]) ∈ rest' ∧ (dx, emptyDict) ∈ rest') ∧ StV x c v b L' rest' := by
  cases S with | @mk σ S e =>
  exact (c_mstat X0 S hb HL HI HN (hg.ok e) (cost := 0) (tc := 0)).mono fun r L' ⟨D, dx, t1, t2, rest', h1, h2, h3, h4, h5⟩ => ⟨D, dx, t1, t2, h1, rest', h2, ⟨h3, h4⟩, .mk h5 e⟩
theorem v_shit (X0 : Fixed x c) (S : StV x c v b L rest) (hb : b ≤ 600) (HL : LimAt rest 296 lim c.st) (HI : ItemAt rest it am) (HN : NameAt x rest it tu key) (hlen : key.length ≤ 100) (h1 : 1000 ≤ v.now) (h2 : v.now < 3000) :
    Ct 6 x 266 [.ref lim, .ref it, .ref tu, .int cost tc] [] L fun r L' => r = .bool (v.acqSB key am cost) ∧ ∃ rest', Up rest rest' ∧ StV x c (v.acqS key am cost) (b + 1) L' rest' := by
  cases S with | @mk σ S e =>
  subst e
  have h0 : 0 ≤ σ.now := by have : 1000 ≤ σ.now := h1; omega
  exact (c_shit X0 S hb HL HI HN hlen h1 h2).mono fun r L' ⟨h1, rest', h2, h3⟩ => ⟨by rw [h1, view_acqSB h0], rest', h2, .mk h3 (view_acqS h0 ..)⟩
theorem v_stest (X0 : Fixed x c) (S : StV x c v b L rest) (hb : b ≤ 600) (HL : LimAt rest 296 lim c.st) (HI : ItemAt rest it am) (HN : NameAt x rest it tu key) (hlen : key.length ≤ 100) (h1 : 1000 ≤ v.now) (h2 : v.now < 3000) (hv : (v.n (v.pk key)).natAbs < 1000) :
    Ct 5 x 275 [.ref lim, .ref it, .ref tu, .int cost tc] [] L fun r L' => r = .bool (decide (v.wtd key < am - cost + 1)) ∧ ∃ rest', Up rest rest' ∧ StV x c v b L' rest' := by
  cases S with | @mk σ S e =>
  subst e
  have h0 : 0 ≤ σ.now := by have : 1000 ≤ σ.now := h1; omega
  exact (c_stest X0 S hb HL HI HN hlen h1 h2 hv).mono fun r L' ⟨h1, rest', h2, h3⟩ => ⟨by rw [h1, view_wtd h0], rest', h2, .mk h3 (view_inf h0 _)⟩
theorem v_sstat (X0 : Fixed x c) (S : StV x c v b L rest) (hb : b ≤ 600) (HL : LimAt rest 296 lim c.st) (HI : ItemAt rest it am) (HN : NameAt x rest it tu key) (hlen : key.length ≤ 100) (h1 : 1000 ≤ v.now) (h2 : v.now < 3000) (hv : (v.n (v.pk key)).natAbs < 1000) :
    Ct 5 x 284 [.ref lim, .ref it, .ref tu] [] L fun r L' => ∃ D dx T t1 t2 t3, r = .ref D ∧ ∃ rest', Up rest rest' ∧ ((D, tupInst 132 dx #[.ref T, .int (if am - v.wtd key > 0 then am - v.wtd key else 0) t1]) ∈ rest' ∧ (dx, emptyDict) ∈ rest' ∧ (T, tupO #[.int (v.swR key).1 t2, .int (v.swR key).2 t3]) ∈ rest') ∧ StV x c v b L' rest' := by
  cases S with | @mk σ S e =>
  subst e
  have h0 : 0 ≤ σ.now := by have : 1000 ≤ σ.now := h1; omega
  refine (c_sstat X0 S hb HL HI HN hlen h1 h2 hv (cost := 0) (tc := 0)).mono fun r L' ⟨D, dx, T, t1, t2, t3, r1, r2, rest', h1, h2, h3, h4, h5, h6, h7⟩ => ⟨D, dx, T, t1, t2, t3, h1, rest', h2, ⟨?_, h4, ?_⟩, .mk h7 (view_inf h0 _)⟩
  · rw [← view_wtd h0]; exact h3
  · rw [← view_swR h0, ← h6]; exact h5
theorem v_sclr (X0 : Fixed x c) (S : StV x c v b L rest) (hb : b ≤ 600) (HL : LimAt rest 296 lim c.st) (HI : ItemAt rest it am) (HN : NameAt x rest it tu key) (hlen : key.length ≤ 100) (h1 : 1000 ≤ v.now) (h2 : v.now < 3000) :
    Ct 5 x 293 [.ref lim, .ref it, .ref tu] [] L fun r L' => r = .none ∧ ∃ rest', Up rest rest' ∧ StV x c ((v.clear (v.pk key)).clear (v.ck key)) b L' rest' := by
  cases S with | @mk σ S e =>
  subst e
  have h0 : 0 ≤ σ.now := by have : 1000 ≤ σ.now := h1; omega
  exact (c_sclr X0 S hb HL HI HN hlen h1 h2 (cost := 0) (tc := 0)).mono fun r L' ⟨h1, h2⟩ => ⟨h1, _, fun _ h => h, .mk h2 (by rw [view_clear (by exact h0), view_clear h0]; rfl)⟩
theorem v_reset (X0 : Fixed x c) (S : StV x c v b L rest) (hb : b ≤ 600) (h0 : 0 ≤ v.now) :
    Ct 1 x 671 [.ref c.st] [] L fun _ L' => ∃ rest', Up rest rest' ∧ StV x c v.reset b L' rest' := by
  cases S with | @mk σ S e =>
  subst e
  exact (c_reset X0 S (by omega)).mono fun r L' h => ⟨_, fun _ h => h, .mk h (view_reset h0)⟩
end
/-- what _law_told tells -/
structure Told where
  f1 : Bool
  f2 : Bool
  fr : Int
  fq : Int
  m1 : Bool
  m2 : Bool
  mr : Int
  mq : Int
  s1 : Bool
  s2 : Bool
  sr1 : Int
  sr2 : Int
  sq : Int
def toldV (v : Vw) (am : Int) (key : Str) (st nw : Int) : Told :=
  { f1 := decide (v.n key < am - am + 1), f2 := decide (v.n key < am - 1 + 1), fr := v.e key, fq := if am - v.n key > 0 then am - v.n key else 0,
    m1 := decide (nw ≤ am - am), m2 := decide (nw ≤ am - 1), mr := st + 10, mq := am - nw,
    s1 := decide (v.wtd key < am - am + 1), s2 := decide (v.wtd key < am - 1 + 1), sr1 := (v.swR key).1, sr2 := (v.swR key).2, sq := if am - v.wtd key > 0 then am - v.wtd key else 0 }
/-- the list of three rows, as the ledger bears it -/
inductive ToldAt (rest : Led) (D : Addr) (t : Told) : Prop
  | mk (a0 a1 a2 T : Addr) (n : Nat) (t1 t2 t3 t4 t5 t6 t7 : Tok) (h1 : (D, W.listOf #[.ref a0, .ref a1, .ref a2] n) ∈ rest)
      (h2 : (a0, tupO #[.bool t.f1, .bool t.f2, .int t.fr t1, .int t.fq t2]) ∈ rest) (h3 : (a1, tupO #[.bool t.m1, .bool t.m2, .int t.mr t3, .int t.mq t4]) ∈ rest)
      (h4 : (a2, tupO #[.bool t.s1, .bool t.s2, .ref T, .int t.sq t5]) ∈ rest) (h5 : (T, tupO #[.int t.sr1 t6, .int t.sr2 t7]) ∈ rest) : ToldAt rest D t
theorem ToldAt.mono {rest rest' : Led} {D : Addr} {t : Told} (h : ToldAt rest D t) (hs : ∀ p ∈ rest, p ∈ rest') : ToldAt rest' D t := by
  obtain ⟨a0, a1, a2, T, n, t1, t2, t3, t4, t5, t6, t7, h1, h2, h3, h4, h5⟩ := h
  exact ⟨a0, a1, a2, T, n, t1, t2, t3, t4, t5, t6, t7, hs _ h1, hs _ h2, hs _ h3, hs _ h4, hs _ h5⟩
end
section
-- Pl
/-- a store told by lists: the first entry of a name counts -/
def Vx (t : Int) (l : List (Str × (Int × Int))) (ml : List (Str × List Int)) : Vw :=
  ⟨fun k => ((l.lookup k).map (·.1)).getD 0, fun k => ((l.lookup k).map (·.2)).getD t, fun k => (ml.lookup k).getD [], t⟩
theorem lookup_at {α : Type} (k : Str) (v : α) (l : List (Str × α)) : List.lookup k ((k, v) :: l) = some v := by simp [List.lookup]
theorem lookup_off {α : Type} {k y : Str} (h : y ≠ k) (v : α) (l : List (Str × α)) : List.lookup y ((k, v) :: l) = List.lookup y l := by
  have : (y == k) = false := beq_false_of_ne h
  simp [List.lookup, this]
theorem Vx_incr (t : Int) (l : List (Str × (Int × Int))) (ml : List (Str × List Int)) (k : Str) (x a : Int) :
    (Vx t l ml).incr k x a = Vx t ((k, ((Vx t l ml).n k + a, if (Vx t l ml).n k = 0 then t + x else (Vx t l ml).e k)) :: l) ml := by
  refine Vw.ext' (fun y => ?_) (fun y => ?_) (fun _ => rfl) rfl
  · show updI (Vx t l ml).n k _ y = ((List.lookup y (_ :: l)).map (·.1)).getD 0
    by_cases z : y = k
    · subst z; rw [lookup_at]; simp [updI]
    · rw [lookup_off z]; simp [updI, z, Vx]
  · show (if (Vx t l ml).n k = 0 then updI (Vx t l ml).e k (t + x) else (Vx t l ml).e) y = ((List.lookup y (_ :: l)).map (·.2)).getD t
    by_cases z : y = k
    · subst z; rw [lookup_at]; split <;> simp [updI]
    · rw [lookup_off z]; split <;> simp [updI, z, Vx]
theorem Vx_acq (t : Int) (l : List (Str × (Int × Int))) (ml : List (Str × List Int)) (k : Str) (limit amount : Int) (h : (Vx t l ml).acqB k limit amount = true) :
    (Vx t l ml).acq k limit amount = Vx t l ((k, List.replicate amount.toNat t ++ (Vx t l ml).m k) :: ml) := by
  unfold Vw.acq
  rw [h]
  refine Vw.ext' (fun _ => rfl) (fun _ => rfl) (fun y => ?_) rfl
  show updI (Vx t l ml).m k _ y = (List.lookup y (_ :: ml)).getD []
  by_cases z : y = k
  · subst z; rw [lookup_at]; show (if y = y then _ else _) = _; rw [if_pos rfl]; rfl
  · rw [lookup_off z]; simp [updI, z, Vx]
theorem Vx_acq0 (t : Int) (l : List (Str × (Int × Int))) (ml : List (Str × List Int)) (k : Str) (limit amount : Int) (h : (Vx t l ml).acqB k limit amount = false) :
    (Vx t l ml).acq k limit amount = Vx t l ml := by
  unfold Vw.acq; rw [h]; rfl
def expire (u : Int) (p : Int × Int) : Int × Int := if p.2 ≤ u then (0, u) else p
theorem lookup_expire (u : Int) (k : Str) : ∀ l : List (Str × (Int × Int)), List.lookup k (l.map fun p => (p.1, expire u p.2)) = (List.lookup k l).map (expire u)
  | [] => rfl
  | p :: l => by
    by_cases z : k = p.1
    · subst z
      rw [List.map_cons, lookup_at, show p :: l = (p.1, p.2) :: l from rfl, lookup_at]; rfl
    · rw [List.map_cons, lookup_off z, show p :: l = (p.1, p.2) :: l from rfl, lookup_off z, lookup_expire u k l]
theorem Vx_adv (t : Int) (l : List (Str × (Int × Int))) (ml : List (Str × List Int)) (d : Int) (hd : 0 ≤ d) :
    (Vx t l ml).adv d = Vx (t + d) (l.map fun p => (p.1, expire (t + d) p.2)) ml := by
  refine Vw.ext' (fun y => ?_) (fun y => ?_) (fun _ => rfl) rfl
  · show (if (Vx t l ml).e y ≤ t + d then 0 else (Vx t l ml).n y) = ((List.lookup y (l.map fun p => (p.1, expire (t + d) p.2))).map (·.1)).getD 0
    rw [lookup_expire]
    show (if ((List.lookup y l).map (·.2)).getD t ≤ t + d then 0 else ((List.lookup y l).map (·.1)).getD 0) = _
    cases List.lookup y l with
    | none => simp
    | some p => simp only [Option.map_some, Option.getD_some, expire]; split <;> rfl
  · show (if (Vx t l ml).e y ≤ t + d then t + d else (Vx t l ml).e y) = ((List.lookup y (l.map fun p => (p.1, expire (t + d) p.2))).map (·.2)).getD (t + d)
    rw [lookup_expire]
    show (if ((List.lookup y l).map (·.2)).getD t ≤ t + d then t + d else ((List.lookup y l).map (·.2)).getD t) = _
    cases List.lookup y l with
    | none => simp; omega
    | some p => simp only [Option.map_some, Option.getD_some, expire]; split <;> rfl
end
section
-- Pl2
/-! what the telling does not see -/
theorem wtd_congr {v w : Vw} {k : Str} (h0 : w.now = v.now) (hp : w.n (v.pk k) = v.n (v.pk k)) (hc : w.n (v.ck k) = v.n (v.ck k)) : w.wtd k = v.wtd k ∧ w.swR k = v.swR k := by
  have e1 : w.pk k = v.pk k := by unfold Vw.pk; rw [h0]
  have e2 : w.ck k = v.ck k := by unfold Vw.ck; rw [h0]
  have e3 : w.ttl k = v.ttl k := by unfold Vw.ttl; rw [e1, hp, h0]
  constructor
  · unfold Vw.wtd; rw [e1, e2, e3, hp, hc]
  · unfold Vw.swR; rw [e1, e2, e3, hp, hc, h0]
theorem clear_n (v : Vw) (k y : Str) : (v.clear k).n y = if y = k then 0 else v.n y := rfl
theorem clear_e (v : Vw) (k y : Str) : (v.clear k).e y = if y = k then v.now else v.e y := rfl
theorem clear_m (v : Vw) (k y : Str) : (v.clear k).m y = if y = k then [] else v.m y := rfl
/-- the names that the law's two rows reach lie apart -/
structure Kd (v : Vw) (kA kB : Str) : Prop where
  ab : kA ≠ kB
  a_pa : kA ≠ v.pk kA
  a_ca : kA ≠ v.ck kA
  a_pb : kA ≠ v.pk kB
  a_cb : kA ≠ v.ck kB
  b_pa : kB ≠ v.pk kA
  b_ca : kB ≠ v.ck kA
  pa_pb : v.pk kA ≠ v.pk kB
  pa_cb : v.pk kA ≠ v.ck kB
  ca_pb : v.ck kA ≠ v.pk kB
  ca_cb : v.ck kA ≠ v.ck kB
  pa_ca : v.pk kA ≠ v.ck kA
section
variable {v : Vw} {kA kB : Str} {am st nw : Int}
/-- a clear of fixed or moving windows -/
theorem told_clrB (d : Kd v kA kB) : toldV (v.clear kA) am kB st nw = toldV v am kB st nw := by
  obtain ⟨h1, h2⟩ := @wtd_congr v (v.clear kA) kB rfl (by rw [clear_n, if_neg d.a_pb.symm]) (by rw [clear_n, if_neg d.a_cb.symm])
  unfold toldV
  rw [h1, h2, clear_n, clear_e, if_neg d.ab.symm, if_neg d.ab.symm]
theorem gmw_clrB (d : Kd v kA kB) (h : GmwV v kB st nw) : GmwV (v.clear kA) kB st nw := by
  have e : (v.clear kA).m kB = v.m kB := by rw [clear_m, if_neg d.ab.symm]
  unfold GmwV; rw [e]; exact h
theorem gmw_clrA : GmwV (v.clear kA) kA v.now 0 := .inl ⟨by rw [clear_m, if_pos rfl], rfl, rfl⟩
theorem told_clrA (d : Kd v kA kB) (h2 : 2 ≤ am) : toldV (v.clear kA) am kA v.now 0 = { toldV v am kA st nw with f1 := true, f2 := true, fr := v.now, fq := am, m1 := true, m2 := true, mr := v.now + 10, mq := am } := by
  obtain ⟨e1, e2⟩ := @wtd_congr v (v.clear kA) kA rfl (by rw [clear_n, if_neg d.a_pa.symm]) (by rw [clear_n, if_neg d.a_ca.symm])
  unfold toldV
  rw [e1, e2, clear_n, clear_e, if_pos rfl, if_pos rfl]
  have a1 : (0 : Int) < am - am + 1 := by omega
  have a2 : (0 : Int) < am - 1 + 1 := by omega
  have a3 : am > 0 := by omega
  have a4 : (1 : Int) ≤ am := by omega
  simp [a2, a3, a4]
/-- a clear of the sliding counter -/
abbrev sclr (v : Vw) (kA : Str) : Vw := (v.clear (v.pk kA)).clear (v.ck kA)
theorem sclr_n (y : Str) (h1 : y ≠ v.pk kA) (h2 : y ≠ v.ck kA) : (sclr v kA).n y = v.n y := by rw [clear_n, if_neg h2, clear_n, if_neg h1]
theorem sclr_e (y : Str) (h1 : y ≠ v.pk kA) (h2 : y ≠ v.ck kA) : (sclr v kA).e y = v.e y := by rw [clear_e, if_neg h2, clear_e, if_neg h1]
theorem sclr_m (y : Str) (h1 : y ≠ v.pk kA) (h2 : y ≠ v.ck kA) : (sclr v kA).m y = v.m y := by rw [clear_m, if_neg h2, clear_m, if_neg h1]
theorem told_sclrB (d : Kd v kA kB) : toldV (sclr v kA) am kB st nw = toldV v am kB st nw := by
  obtain ⟨h1, h2⟩ := @wtd_congr v (sclr v kA) kB rfl (sclr_n _ d.pa_pb.symm d.ca_pb.symm) (sclr_n _ d.pa_cb.symm d.ca_cb.symm)
  unfold toldV
  rw [h1, h2, sclr_n _ d.b_pa d.b_ca, sclr_e _ d.b_pa d.b_ca]
theorem gmw_sclrB (d : Kd v kA kB) (h : GmwV v kB st nw) : GmwV (sclr v kA) kB st nw := by
  unfold GmwV; rw [sclr_m _ d.b_pa d.b_ca]; exact h
theorem gmw_sclrA (d : Kd v kA kB) (h : GmwV v kA st nw) : GmwV (sclr v kA) kA st nw := by
  unfold GmwV; rw [sclr_m _ d.a_pa d.a_ca]; exact h
theorem told_sclrA (d : Kd v kA kB) (h2 : 2 ≤ am) : toldV (sclr v kA) am kA st nw = { toldV v am kA st nw with s1 := true, s2 := true, sr1 := v.now, sr2 := 1, sq := am } := by
  have np : (sclr v kA).n (v.pk kA) = 0 := by rw [clear_n, clear_n, if_pos rfl]; split <;> rfl
  have nc : (sclr v kA).n (v.ck kA) = 0 := by rw [clear_n, if_pos rfl]
  have e1 : (sclr v kA).pk kA = v.pk kA := rfl
  have e2 : (sclr v kA).ck kA = v.ck kA := rfl
  have w0 : (sclr v kA).wtd kA = 0 := by unfold Vw.wtd; rw [e1, e2, np, nc]; simp
  have s0 : (sclr v kA).swR kA = (v.now, 1) := by unfold Vw.swR swR0; rw [e1, e2, np, nc]; rfl
  unfold toldV
  rw [w0, s0, sclr_n _ d.a_pa d.a_ca, sclr_e _ d.a_pa d.a_ca]
  have a1 : (0 : Int) < am - am + 1 := by omega
  have a2 : (0 : Int) < am - 1 + 1 := by omega
  have a3 : am > 0 := by omega
  simp [a2, a3]
theorem gmw_reset (k : Str) : GmwV v.reset k v.now 0 := .inl ⟨rfl, rfl, rfl⟩
theorem told_reset (k : Str) (st' : Int) : (toldV v.reset am k st' 0).f1 = true ∧ (toldV v.reset am k st' 0).m1 = true ∧ (toldV v.reset am k st' 0).s1 = true := by
  have w0 : v.reset.wtd k = 0 := by unfold Vw.wtd; simp [Vw.reset]
  unfold toldV
  rw [w0]
  simp [Vw.reset]
end
/-- what is known of the view behind a clear -/
structure Aft (v v' : Vw) (kA kB : Str) (am sB nB sA' nA' : Int) (tA' : Told) : Prop where
  now : v'.now = v.now
  h0 : 0 ≤ v'.now
  h1 : 1000 ≤ v'.now
  h2 : v'.now < 3000
  hvA : (v'.n (v'.pk kA)).natAbs < 1000
  hvB : (v'.n (v'.pk kB)).natAbs < 1000
  gA : GmwV v' kA sA' nA'
  gB : GmwV v' kB sB nB
  eA : toldV v' am kA sA' nA' = tA'
  eB : toldV v' am kB sB nB = toldV v am kB sB nB
section
variable {v : Vw} {kA kB : Str} {am sA nA sB nB : Int}
theorem aft_clr (d : Kd v kA kB) (ham : 2 ≤ am) (h1 : 1000 ≤ v.now) (h2 : v.now < 3000) (hvA : (v.n (v.pk kA)).natAbs < 1000) (hvB : (v.n (v.pk kB)).natAbs < 1000) (gB : GmwV v kB sB nB) :
    Aft v (v.clear kA) kA kB am sB nB v.now 0 { toldV v am kA sA nA with f1 := true, f2 := true, fr := v.now, fq := am, m1 := true, m2 := true, mr := v.now + 10, mq := am } where
  now := rfl
  h0 := by show 0 ≤ v.now; omega
  h1 := h1
  h2 := h2
  hvA := by show ((v.clear kA).n (v.pk kA)).natAbs < 1000; rw [clear_n, if_neg d.a_pa.symm]; exact hvA
  hvB := by show ((v.clear kA).n (v.pk kB)).natAbs < 1000; rw [clear_n, if_neg d.a_pb.symm]; exact hvB
  gA := gmw_clrA
  gB := gmw_clrB d gB
  eA := told_clrA d ham
  eB := told_clrB d
theorem aft_sclr (d : Kd v kA kB) (ham : 2 ≤ am) (h1 : 1000 ≤ v.now) (h2 : v.now < 3000) (hvB : (v.n (v.pk kB)).natAbs < 1000) (gA : GmwV v kA sA nA) (gB : GmwV v kB sB nB) :
    Aft v (sclr v kA) kA kB am sB nB sA nA { toldV v am kA sA nA with s1 := true, s2 := true, sr1 := v.now, sr2 := 1, sq := am } where
  now := rfl
  h0 := by show 0 ≤ v.now; omega
  h1 := h1
  h2 := h2
  hvA := by
    show ((sclr v kA).n (v.pk kA)).natAbs < 1000
    rw [clear_n, clear_n, if_pos rfl]; split <;> decide
  hvB := by show ((sclr v kA).n (v.pk kB)).natAbs < 1000; rw [sclr_n _ d.pa_pb.symm d.ca_pb.symm]; exact hvB
  gA := gmw_sclrA d gA
  gB := gmw_sclrB d gB
  eA := told_sclrA d ham
  eB := told_sclrB d
end
end
section
-- Chn
/-- what holds of the views of the first loop -/
abbrev C1b (v0 v1 v2 v3 v4 v5 v6 v7 v8 : Vw) (kA kB : Str) (am : Int) : Prop := (v0.incr kA 10 am = v1) ∧ (decide (v0.n kA + am ≤ am) = true) ∧ (v1.incr kA 10 1 = v2) ∧ (decide (v1.n kA + 1 ≤ am) = false) ∧ (v2.incr kB 10 am = v3) ∧ (decide (v2.n kB + am ≤ am) = true) ∧ (v3.incr kB 10 1 = v4) ∧ (decide (v3.n kB + 1 ≤ am) = false) ∧ (v4.acq kA am am = v5) ∧ (v4.acqB kA am am = true) ∧ ((v4.m kA).length ≤ 900) ∧ (v5.acq kA am 1 = v5) ∧ (v5.acqB kA am 1 = false) ∧ ((v5.m kA).length ≤ 900) ∧ (v5.acq kB am am = v6) ∧ (v5.acqB kB am am = true) ∧ ((v5.m kB).length ≤ 900) ∧ (v6.acq kB am 1 = v6) ∧ (v6.acqB kB am 1 = false) ∧ ((v6.m kB).length ≤ 900) ∧ (v6.acqS kA am am = v7) ∧ (v6.acqSB kA am am = true) ∧ (v7.acqS kA am 1 = v7) ∧ (v7.acqSB kA am 1 = false) ∧ (v7.acqS kB am am = v8) ∧ (v7.acqSB kB am am = true) ∧ (v8.acqS kB am 1 = v8) ∧ (v8.acqSB kB am 1 = false) ∧ (0 ≤ v0.now) ∧ (1000 ≤ v0.now) ∧ (v0.now < 3000) ∧ (0 ≤ v1.now) ∧ (1000 ≤ v1.now) ∧ (v1.now < 3000) ∧ (0 ≤ v2.now) ∧ (1000 ≤ v2.now) ∧ (v2.now < 3000) ∧ (0 ≤ v3.now) ∧ (1000 ≤ v3.now) ∧ (v3.now < 3000) ∧ (0 ≤ v4.now) ∧ (1000 ≤ v4.now) ∧ (v4.now < 3000) ∧ (0 ≤ v5.now) ∧ (1000 ≤ v5.now) ∧ (v5.now < 3000) ∧ (0 ≤ v6.now) ∧ (1000 ≤ v6.now) ∧ (v6.now < 3000) ∧ (0 ≤ v7.now) ∧ (1000 ≤ v7.now) ∧ (v7.now < 3000) ∧ (0 ≤ v8.now) ∧ (1000 ≤ v8.now) ∧ (v8.now < 3000)
/-- the views of the first loop -/
inductive Ch1 (v0 v8 : Vw) (kA kB : Str) (am : Int) : Prop
  | mk (v1 v2 v3 v4 v5 v6 v7 : Vw) (h : C1b v0 v1 v2 v3 v4 v5 v6 v7 v8 kA kB am) : Ch1 v0 v8 kA kB am
/-- what holds of the views of the second -/
abbrev C2b (v0 v1 v2 v3 v4 v5 v6 v7 : Vw) (kA kB : Str) (am sA nA sB nB rA jA rB jB : Int) : Prop := (v0.adv 11 = v1) ∧ (0 ≤ v0.now) ∧ (v1.incr kA 10 am = v2) ∧ (decide (v1.n kA + am ≤ am) = true) ∧ (decide (v2.n kA < am - am + 1) = false) ∧ (v2.incr kB 10 am = v3) ∧ (decide (v2.n kB + am ≤ am) = true) ∧ (decide (v3.n kB < am - am + 1) = false) ∧ (v3.acq kA am am = v4) ∧ (v3.acqB kA am am = true) ∧ ((v3.m kA).length ≤ 900) ∧ (decide (nA ≤ am - am) = false) ∧ (GmwV v4 kA sA nA) ∧ (v4.acq kB am am = v5) ∧ (v4.acqB kB am am = true) ∧ ((v4.m kB).length ≤ 900) ∧ (decide (nB ≤ am - am) = false) ∧ (GmwV v5 kB sB nB) ∧ (v5.acqS kA am 1 = v6) ∧ (v5.acqSB kA am 1 = true) ∧ (decide (v6.wtd kA < am - am + 1) = false) ∧ ((v6.n (v6.pk kA)).natAbs < 1000) ∧ (v6.acqS kB am 1 = v7) ∧ (v6.acqSB kB am 1 = true) ∧ (decide (v7.wtd kB < am - am + 1) = false) ∧ ((v7.n (v7.pk kB)).natAbs < 1000) ∧ (Kd v0 kA kB) ∧ ((v0.n (v0.pk kA)).natAbs < 1000) ∧ ((v0.n (v0.pk kB)).natAbs < 1000) ∧ (GmwV v0 kA rA jA) ∧ (GmwV v0 kB rB jB) ∧ (Kd v7 kA kB) ∧ ((v7.n (v7.pk kA)).natAbs < 1000) ∧ ((v7.n (v7.pk kB)).natAbs < 1000) ∧ (GmwV v7 kA sA nA) ∧ (GmwV v7 kB sB nB) ∧ (0 ≤ v0.now) ∧ (1000 ≤ v0.now) ∧ (v0.now < 3000) ∧ (0 ≤ v1.now) ∧ (1000 ≤ v1.now) ∧ (v1.now < 3000) ∧ (0 ≤ v2.now) ∧ (1000 ≤ v2.now) ∧ (v2.now < 3000) ∧ (0 ≤ v3.now) ∧ (1000 ≤ v3.now) ∧ (v3.now < 3000) ∧ (0 ≤ v4.now) ∧ (1000 ≤ v4.now) ∧ (v4.now < 3000) ∧ (0 ≤ v5.now) ∧ (1000 ≤ v5.now) ∧ (v5.now < 3000) ∧ (0 ≤ v6.now) ∧ (1000 ≤ v6.now) ∧ (v6.now < 3000) ∧ (0 ≤ v7.now) ∧ (1000 ≤ v7.now) ∧ (v7.now < 3000)
/-- the views of the second -/
inductive Ch2 (v0 : Vw) (kA kB : Str) (am : Int) : Prop
  | mk (v1 v2 v3 v4 v5 v6 v7 : Vw) (sA nA sB nB rA jA rB jB : Int) (h : C2b v0 v1 v2 v3 v4 v5 v6 v7 kA kB am sA nA sB nB rA jA rB jB) : Ch2 v0 kA kB am
end
section
-- Pl3
/-- the names that the law's store may bear, all apart -/
structure Ks (t : Int) (kA kB a0 a1 a2 b0 b1 b2 : Str) : Prop where
  pA : skey kA ((t - 10).fdiv 10) = a0
  cA : skey kA (t.fdiv 10) = a1
  pA' : skey kA ((t + 11 - 10).fdiv 10) = a1
  cA' : skey kA ((t + 11).fdiv 10) = a2
  pB : skey kB ((t - 10).fdiv 10) = b0
  cB : skey kB (t.fdiv 10) = b1
  pB' : skey kB ((t + 11 - 10).fdiv 10) = b1
  cB' : skey kB ((t + 11).fdiv 10) = b2
  fm : (t + 11 - 10).fmod 10 = 1
  kAkB : kA ≠ kB
  kAa0 : kA ≠ a0
  kAa1 : kA ≠ a1
  kAa2 : kA ≠ a2
  kAb0 : kA ≠ b0
  kAb1 : kA ≠ b1
  kAb2 : kA ≠ b2
  kBa0 : kB ≠ a0
  kBa1 : kB ≠ a1
  kBa2 : kB ≠ a2
  kBb0 : kB ≠ b0
  kBb1 : kB ≠ b1
  kBb2 : kB ≠ b2
  a0a1 : a0 ≠ a1
  a0a2 : a0 ≠ a2
  a0b0 : a0 ≠ b0
  a0b1 : a0 ≠ b1
  a0b2 : a0 ≠ b2
  a1a2 : a1 ≠ a2
  a1b0 : a1 ≠ b0
  a1b1 : a1 ≠ b1
  a1b2 : a1 ≠ b2
  a2b0 : a2 ≠ b0
  a2b1 : a2 ≠ b1
  a2b2 : a2 ≠ b2
  b0b1 : b0 ≠ b1
  b0b2 : b0 ≠ b2
  b1b2 : b1 ≠ b2
theorem incr_new {t : Int} {l : List (Str × (Int × Int))} {ml : List (Str × List Int)} {k : Str} {x a : Int} (h : (Vx t l ml).n k = 0) : (Vx t l ml).incr k x a = Vx t ((k, (a, t + x)) :: l) ml := by
  rw [Vx_incr, h, if_pos rfl, Int.zero_add]
theorem incr_old {t : Int} {l : List (Str × (Int × Int))} {ml : List (Str × List Int)} {k : Str} {x a n e : Int} (h : (Vx t l ml).n k = n) (h0 : n ≠ 0) (he : (Vx t l ml).e k = e) : (Vx t l ml).incr k x a = Vx t ((k, (n + a, e)) :: l) ml := by
  rw [Vx_incr, h, if_neg h0, he]
theorem acq_yes {t : Int} {l : List (Str × (Int × Int))} {ml : List (Str × List Int)} {k : Str} {limit a : Int} {r : List Int} (h : (Vx t l ml).acqB k limit a = true) (hm : (Vx t l ml).m k = r) : (Vx t l ml).acq k limit a = Vx t l ((k, List.replicate a.toNat t ++ r) :: ml) := by
  rw [Vx_acq _ _ _ _ _ _ h, hm]
theorem acqS_yes {t : Int} {l : List (Str × (Int × Int))} {ml : List (Str × List Int)} {k c : Str} {limit a : Int} (h : (Vx t l ml).acqSB k limit a = true) (hc : (Vx t l ml).ck k = c) (hn : (Vx t l ml).n c = 0) : (Vx t l ml).acqS k limit a = Vx t ((c, (a, t + 20)) :: l) ml := by
  unfold Vw.acqS
  rw [h, if_pos rfl, hc, incr_new hn]
theorem acqS_no {v : Vw} {k : Str} {limit a : Int} (h : v.acqSB k limit a = false) : v.acqS k limit a = v := by
  unfold Vw.acqS; rw [h]; rfl
theorem sb_of {v : Vw} {k : Str} {limit a w : Int} (hw : v.wtd k = w) : v.acqSB k limit a = (!decide (a > limit) && !decide (w + a > limit)) := by unfold Vw.acqSB; rw [hw]
theorem wtd0 {v : Vw} {k p c : Str} {n : Int} (hp : v.pk k = p) (hc : v.ck k = c) (h0 : v.n p = 0) (hn : v.n c = n) : v.wtd k = n := by
  unfold Vw.wtd; rw [hp, hc, h0, hn]; simp
theorem b_full {v : Vw} {k : Str} {limit : Int} (h0 : 0 ≤ limit) (hm : v.m k = []) : v.acqB k limit limit = true := by
  unfold Vw.acqB; rw [hm]; simp
theorem b_no {v : Vw} {k : Str} {limit : Int} (h2 : 2 ≤ limit) (hm : v.m k = List.replicate limit.toNat v.now) : v.acqB k limit 1 = false := by
  have e : (List.replicate limit.toNat v.now)[(limit - 1).toNat]? = some v.now := by
    rw [List.getElem?_replicate]; simp; omega
  unfold Vw.acqB; rw [hm, e]; simp; omega
theorem b_old {v : Vw} {k : Str} {limit u : Int} (h2 : 2 ≤ limit) (hu : u < v.now - 10) (hm : v.m k = List.replicate limit.toNat u) : v.acqB k limit limit = true := by
  have e : (List.replicate limit.toNat u)[(limit - limit).toNat]? = some u := by
    rw [List.getElem?_replicate]; simp; omega
  unfold Vw.acqB; rw [hm, e]; simp; omega
theorem gmw_new {v : Vw} {k : Str} {am : Int} {r : List Int} (h2 : 2 ≤ am) (hm : v.m k = List.replicate am.toNat v.now ++ r) (hr : ∀ u ∈ r, u < v.now - 10) : GmwV v k v.now am := by
  refine .inr ⟨am.toNat, by omega, ?_, ?_, ?_, by omega⟩
  · rw [hm, List.length_append, List.length_replicate]; omega
  · rw [hm, List.getElem?_append_left (by rw [List.length_replicate]; omega), List.getElem?_replicate]; simp; omega
  · intro i u hi
    rw [hm] at hi
    rcases Nat.lt_or_ge i am.toNat with q | q
    · rw [List.getElem?_append_left (by rw [List.length_replicate]; exact q), List.getElem?_replicate, if_pos q] at hi
      cases hi
      constructor <;> intro _ <;> omega
    · rw [List.getElem?_append_right (by rw [List.length_replicate]; exact q)] at hi
      have := hr u (List.mem_of_getElem? hi)
      constructor <;> intro _ <;> omega
theorem chain_one {t am : Int} {kA kB a0 a1 a2 b0 b1 b2 : Str} (ks : Ks t kA kB a0 a1 a2 b0 b1 b2) (h1 : 1000 ≤ t) (h2 : t < 2900) (ha : 2 ≤ am) (ha8 : am ≤ 8) :
    Ch1 (Vx t [] []) (Vx t [(b1, (am, t + 20)), (a1, (am, t + 20)), (kB, (am + 1, t + 10)), (kB, (am, t + 10)), (kA, (am + 1, t + 10)), (kA, (am, t + 10))] [(kB, List.replicate am.toNat t), (kA, List.replicate am.toNat t)]) kA kB am := by
  have qkAkB : (kA == kB) = false := beq_false_of_ne ks.kAkB
  have qkBkA : (kB == kA) = false := beq_false_of_ne ks.kAkB.symm
  have qkAa0 : (kA == a0) = false := beq_false_of_ne ks.kAa0
  have qa0kA : (a0 == kA) = false := beq_false_of_ne ks.kAa0.symm
  have qkAa1 : (kA == a1) = false := beq_false_of_ne ks.kAa1
  have qa1kA : (a1 == kA) = false := beq_false_of_ne ks.kAa1.symm
  have qkAa2 : (kA == a2) = false := beq_false_of_ne ks.kAa2
  have qa2kA : (a2 == kA) = false := beq_false_of_ne ks.kAa2.symm
  have qkAb0 : (kA == b0) = false := beq_false_of_ne ks.kAb0
  have qb0kA : (b0 == kA) = false := beq_false_of_ne ks.kAb0.symm
  have qkAb1 : (kA == b1) = false := beq_false_of_ne ks.kAb1
  have qb1kA : (b1 == kA) = false := beq_false_of_ne ks.kAb1.symm
  have qkAb2 : (kA == b2) = false := beq_false_of_ne ks.kAb2
  have qb2kA : (b2 == kA) = false := beq_false_of_ne ks.kAb2.symm
  have qkBa0 : (kB == a0) = false := beq_false_of_ne ks.kBa0
  have qa0kB : (a0 == kB) = false := beq_false_of_ne ks.kBa0.symm
  have qkBa1 : (kB == a1) = false := beq_false_of_ne ks.kBa1
  have qa1kB : (a1 == kB) = false := beq_false_of_ne ks.kBa1.symm
  have qkBa2 : (kB == a2) = false := beq_false_of_ne ks.kBa2
  have qa2kB : (a2 == kB) = false := beq_false_of_ne ks.kBa2.symm
  have qkBb0 : (kB == b0) = false := beq_false_of_ne ks.kBb0
  have qb0kB : (b0 == kB) = false := beq_false_of_ne ks.kBb0.symm
  have qkBb1 : (kB == b1) = false := beq_false_of_ne ks.kBb1
  have qb1kB : (b1 == kB) = false := beq_false_of_ne ks.kBb1.symm
  have qkBb2 : (kB == b2) = false := beq_false_of_ne ks.kBb2
  have qb2kB : (b2 == kB) = false := beq_false_of_ne ks.kBb2.symm
  have qa0a1 : (a0 == a1) = false := beq_false_of_ne ks.a0a1
  have qa1a0 : (a1 == a0) = false := beq_false_of_ne ks.a0a1.symm
  have qa0a2 : (a0 == a2) = false := beq_false_of_ne ks.a0a2
  have qa2a0 : (a2 == a0) = false := beq_false_of_ne ks.a0a2.symm
  have qa0b0 : (a0 == b0) = false := beq_false_of_ne ks.a0b0
  have qb0a0 : (b0 == a0) = false := beq_false_of_ne ks.a0b0.symm
  have qa0b1 : (a0 == b1) = false := beq_false_of_ne ks.a0b1
  have qb1a0 : (b1 == a0) = false := beq_false_of_ne ks.a0b1.symm
  have qa0b2 : (a0 == b2) = false := beq_false_of_ne ks.a0b2
  have qb2a0 : (b2 == a0) = false := beq_false_of_ne ks.a0b2.symm
  have qa1a2 : (a1 == a2) = false := beq_false_of_ne ks.a1a2
  have qa2a1 : (a2 == a1) = false := beq_false_of_ne ks.a1a2.symm
  have qa1b0 : (a1 == b0) = false := beq_false_of_ne ks.a1b0
  have qb0a1 : (b0 == a1) = false := beq_false_of_ne ks.a1b0.symm
  have qa1b1 : (a1 == b1) = false := beq_false_of_ne ks.a1b1
  have qb1a1 : (b1 == a1) = false := beq_false_of_ne ks.a1b1.symm
  have qa1b2 : (a1 == b2) = false := beq_false_of_ne ks.a1b2
  have qb2a1 : (b2 == a1) = false := beq_false_of_ne ks.a1b2.symm
  have qa2b0 : (a2 == b0) = false := beq_false_of_ne ks.a2b0
  have qb0a2 : (b0 == a2) = false := beq_false_of_ne ks.a2b0.symm
  have qa2b1 : (a2 == b1) = false := beq_false_of_ne ks.a2b1
  have qb1a2 : (b1 == a2) = false := beq_false_of_ne ks.a2b1.symm
  have qa2b2 : (a2 == b2) = false := beq_false_of_ne ks.a2b2
  have qb2a2 : (b2 == a2) = false := beq_false_of_ne ks.a2b2.symm
  have qb0b1 : (b0 == b1) = false := beq_false_of_ne ks.b0b1
  have qb1b0 : (b1 == b0) = false := beq_false_of_ne ks.b0b1.symm
  have qb0b2 : (b0 == b2) = false := beq_false_of_ne ks.b0b2
  have qb2b0 : (b2 == b0) = false := beq_false_of_ne ks.b0b2.symm
  have qb1b2 : (b1 == b2) = false := beq_false_of_ne ks.b1b2
  have qb2b1 : (b2 == b1) = false := beq_false_of_ne ks.b1b2.symm
  have n0 : (0 : Int) < am := by omega
  have lr : am.toNat ≤ 900 := by omega
  refine ⟨(Vx t [(kA, (am, t + 10))] []), (Vx t [(kA, (am + 1, t + 10)), (kA, (am, t + 10))] []), (Vx t [(kB, (am, t + 10)), (kA, (am + 1, t + 10)), (kA, (am, t + 10))] []), (Vx t [(kB, (am + 1, t + 10)), (kB, (am, t + 10)), (kA, (am + 1, t + 10)), (kA, (am, t + 10))] []), (Vx t [(kB, (am + 1, t + 10)), (kB, (am, t + 10)), (kA, (am + 1, t + 10)), (kA, (am, t + 10))] [(kA, List.replicate am.toNat t)]), (Vx t [(kB, (am + 1, t + 10)), (kB, (am, t + 10)), (kA, (am + 1, t + 10)), (kA, (am, t + 10))] [(kB, List.replicate am.toNat t), (kA, List.replicate am.toNat t)]), (Vx t [(a1, (am, t + 20)), (kB, (am + 1, t + 10)), (kB, (am, t + 10)), (kA, (am + 1, t + 10)), (kA, (am, t + 10))] [(kB, List.replicate am.toNat t), (kA, List.replicate am.toNat t)]), ?_⟩
  refine ⟨incr_new (by simp [Vx, List.lookup, qkAkB, qkBkA, qkAa0, qa0kA, qkAa1, qa1kA, qkAa2, qa2kA, qkAb0, qb0kA, qkAb1, qb1kA, qkAb2, qb2kA, qkBa0, qa0kB, qkBa1, qa1kB, qkBa2, qa2kB, qkBb0, qb0kB, qkBb1, qb1kB, qkBb2, qb2kB, qa0a1, qa1a0, qa0a2, qa2a0, qa0b0, qb0a0, qa0b1, qb1a0, qa0b2, qb2a0, qa1a2, qa2a1, qa1b0, qb0a1, qa1b1, qb1a1, qa1b2, qb2a1, qa2b0, qb0a2, qa2b1, qb1a2, qa2b2, qb2a2, qb0b1, qb1b0, qb0b2, qb2b0, qb1b2, qb2b1]), by simp [Vx, List.lookup, qkAkB, qkBkA, qkAa0, qa0kA, qkAa1, qa1kA, qkAa2, qa2kA, qkAb0, qb0kA, qkAb1, qb1kA, qkAb2, qb2kA, qkBa0, qa0kB, qkBa1, qa1kB, qkBa2, qa2kB, qkBb0, qb0kB, qkBb1, qb1kB, qkBb2, qb2kB, qa0a1, qa1a0, qa0a2, qa2a0, qa0b0, qb0a0, qa0b1, qb1a0, qa0b2, qb2a0, qa1a2, qa2a1, qa1b0, qb0a1, qa1b1, qb1a1, qa1b2, qb2a1, qa2b0, qb0a2, qa2b1, qb1a2, qa2b2, qb2a2, qb0b1, qb1b0, qb0b2, qb2b0, qb1b2, qb2b1], (incr_old (n := am) (e := t + 10) (by simp [Vx, List.lookup, qkAkB, qkBkA, qkAa0, qa0kA, qkAa1, qa1kA, qkAa2, qa2kA, qkAb0, qb0kA, qkAb1, qb1kA, qkAb2, qb2kA, qkBa0, qa0kB, qkBa1, qa1kB, qkBa2, qa2kB, qkBb0, qb0kB, qkBb1, qb1kB, qkBb2, qb2kB, qa0a1, qa1a0, qa0a2, qa2a0, qa0b0, qb0a0, qa0b1, qb1a0, qa0b2, qb2a0, qa1a2, qa2a1, qa1b0, qb0a1, qa1b1, qb1a1, qa1b2, qb2a1, qa2b0, qb0a2, qa2b1, qb1a2, qa2b2, qb2a2, qb0b1, qb1b0, qb0b2, qb2b0, qb1b2, qb2b1]) (by omega) (by simp [Vx, List.lookup, qkAkB, qkBkA, qkAa0, qa0kA, qkAa1, qa1kA, qkAa2, qa2kA, qkAb0, qb0kA, qkAb1, qb1kA, qkAb2, qb2kA, qkBa0, qa0kB, qkBa1, qa1kB, qkBa2, qa2kB, qkBb0, qb0kB, qkBb1, qb1kB, qkBb2, qb2kB, qa0a1, qa1a0, qa0a2, qa2a0, qa0b0, qb0a0, qa0b1, qb1a0, qa0b2, qb2a0, qa1a2, qa2a1, qa1b0, qb0a1, qa1b1, qb1a1, qa1b2, qb2a1, qa2b0, qb0a2, qa2b1, qb1a2, qa2b2, qb2a2, qb0b1, qb1b0, qb0b2, qb2b0, qb1b2, qb2b1])), ?_, incr_new (by simp [Vx, List.lookup, qkAkB, qkBkA, qkAa0, qa0kA, qkAa1, qa1kA, qkAa2, qa2kA, qkAb0, qb0kA, qkAb1, qb1kA, qkAb2, qb2kA, qkBa0, qa0kB, qkBa1, qa1kB, qkBa2, qa2kB, qkBb0, qb0kB, qkBb1, qb1kB, qkBb2, qb2kB, qa0a1, qa1a0, qa0a2, qa2a0, qa0b0, qb0a0, qa0b1, qb1a0, qa0b2, qb2a0, qa1a2, qa2a1, qa1b0, qb0a1, qa1b1, qb1a1, qa1b2, qb2a1, qa2b0, qb0a2, qa2b1, qb1a2, qa2b2, qb2a2, qb0b1, qb1b0, qb0b2, qb2b0, qb1b2, qb2b1]), by simp [Vx, List.lookup, qkAkB, qkBkA, qkAa0, qa0kA, qkAa1, qa1kA, qkAa2, qa2kA, qkAb0, qb0kA, qkAb1, qb1kA, qkAb2, qb2kA, qkBa0, qa0kB, qkBa1, qa1kB, qkBa2, qa2kB, qkBb0, qb0kB, qkBb1, qb1kB, qkBb2, qb2kB, qa0a1, qa1a0, qa0a2, qa2a0, qa0b0, qb0a0, qa0b1, qb1a0, qa0b2, qb2a0, qa1a2, qa2a1, qa1b0, qb0a1, qa1b1, qb1a1, qa1b2, qb2a1, qa2b0, qb0a2, qa2b1, qb1a2, qa2b2, qb2a2, qb0b1, qb1b0, qb0b2, qb2b0, qb1b2, qb2b1], (incr_old (n := am) (e := t + 10) (by simp [Vx, List.lookup, qkAkB, qkBkA, qkAa0, qa0kA, qkAa1, qa1kA, qkAa2, qa2kA, qkAb0, qb0kA, qkAb1, qb1kA, qkAb2, qb2kA, qkBa0, qa0kB, qkBa1, qa1kB, qkBa2, qa2kB, qkBb0, qb0kB, qkBb1, qb1kB, qkBb2, qb2kB, qa0a1, qa1a0, qa0a2, qa2a0, qa0b0, qb0a0, qa0b1, qb1a0, qa0b2, qb2a0, qa1a2, qa2a1, qa1b0, qb0a1, qa1b1, qb1a1, qa1b2, qb2a1, qa2b0, qb0a2, qa2b1, qb1a2, qa2b2, qb2a2, qb0b1, qb1b0, qb0b2, qb2b0, qb1b2, qb2b1]) (by omega) (by simp [Vx, List.lookup, qkAkB, qkBkA, qkAa0, qa0kA, qkAa1, qa1kA, qkAa2, qa2kA, qkAb0, qb0kA, qkAb1, qb1kA, qkAb2, qb2kA, qkBa0, qa0kB, qkBa1, qa1kB, qkBa2, qa2kB, qkBb0, qb0kB, qkBb1, qb1kB, qkBb2, qb2kB, qa0a1, qa1a0, qa0a2, qa2a0, qa0b0, qb0a0, qa0b1, qb1a0, qa0b2, qb2a0, qa1a2, qa2a1, qa1b0, qb0a1, qa1b1, qb1a1, qa1b2, qb2a1, qa2b0, qb0a2, qa2b1, qb1a2, qa2b2, qb2a2, qb0b1, qb1b0, qb0b2, qb2b0, qb1b2, qb2b1])), ?_, ?_⟩
  · have : ((Vx t [(kA, (am, t + 10))] [])).n kA = am := by simp [Vx, List.lookup, qkAkB, qkBkA, qkAa0, qa0kA, qkAa1, qa1kA, qkAa2, qa2kA, qkAb0, qb0kA, qkAb1, qb1kA, qkAb2, qb2kA, qkBa0, qa0kB, qkBa1, qa1kB, qkBa2, qa2kB, qkBb0, qb0kB, qkBb1, qb1kB, qkBb2, qb2kB, qa0a1, qa1a0, qa0a2, qa2a0, qa0b0, qb0a0, qa0b1, qb1a0, qa0b2, qb2a0, qa1a2, qa2a1, qa1b0, qb0a1, qa1b1, qb1a1, qa1b2, qb2a1, qa2b0, qb0a2, qa2b1, qb1a2, qa2b2, qb2a2, qb0b1, qb1b0, qb0b2, qb2b0, qb1b2, qb2b1]
    rw [this]; simp; omega
  · have : ((Vx t [(kB, (am, t + 10)), (kA, (am + 1, t + 10)), (kA, (am, t + 10))] [])).n kB = am := by simp [Vx, List.lookup, qkAkB, qkBkA, qkAa0, qa0kA, qkAa1, qa1kA, qkAa2, qa2kA, qkAb0, qb0kA, qkAb1, qb1kA, qkAb2, qb2kA, qkBa0, qa0kB, qkBa1, qa1kB, qkBa2, qa2kB, qkBb0, qb0kB, qkBb1, qb1kB, qkBb2, qb2kB, qa0a1, qa1a0, qa0a2, qa2a0, qa0b0, qb0a0, qa0b1, qb1a0, qa0b2, qb2a0, qa1a2, qa2a1, qa1b0, qb0a1, qa1b1, qb1a1, qa1b2, qb2a1, qa2b0, qb0a2, qa2b1, qb1a2, qa2b2, qb2a2, qb0b1, qb1b0, qb0b2, qb2b0, qb1b2, qb2b1]
    rw [this]; simp; omega
  have mA4 : ((Vx t [(kB, (am + 1, t + 10)), (kB, (am, t + 10)), (kA, (am + 1, t + 10)), (kA, (am, t + 10))] [])).m kA = [] := by simp [Vx, List.lookup, qkAkB, qkBkA, qkAa0, qa0kA, qkAa1, qa1kA, qkAa2, qa2kA, qkAb0, qb0kA, qkAb1, qb1kA, qkAb2, qb2kA, qkBa0, qa0kB, qkBa1, qa1kB, qkBa2, qa2kB, qkBb0, qb0kB, qkBb1, qb1kB, qkBb2, qb2kB, qa0a1, qa1a0, qa0a2, qa2a0, qa0b0, qb0a0, qa0b1, qb1a0, qa0b2, qb2a0, qa1a2, qa2a1, qa1b0, qb0a1, qa1b1, qb1a1, qa1b2, qb2a1, qa2b0, qb0a2, qa2b1, qb1a2, qa2b2, qb2a2, qb0b1, qb1b0, qb0b2, qb2b0, qb1b2, qb2b1]
  have mA5 : ((Vx t [(kB, (am + 1, t + 10)), (kB, (am, t + 10)), (kA, (am + 1, t + 10)), (kA, (am, t + 10))] [(kA, List.replicate am.toNat t)])).m kA = List.replicate am.toNat t := by simp [Vx, List.lookup, qkAkB, qkBkA, qkAa0, qa0kA, qkAa1, qa1kA, qkAa2, qa2kA, qkAb0, qb0kA, qkAb1, qb1kA, qkAb2, qb2kA, qkBa0, qa0kB, qkBa1, qa1kB, qkBa2, qa2kB, qkBb0, qb0kB, qkBb1, qb1kB, qkBb2, qb2kB, qa0a1, qa1a0, qa0a2, qa2a0, qa0b0, qb0a0, qa0b1, qb1a0, qa0b2, qb2a0, qa1a2, qa2a1, qa1b0, qb0a1, qa1b1, qb1a1, qa1b2, qb2a1, qa2b0, qb0a2, qa2b1, qb1a2, qa2b2, qb2a2, qb0b1, qb1b0, qb0b2, qb2b0, qb1b2, qb2b1]
  have mB5 : ((Vx t [(kB, (am + 1, t + 10)), (kB, (am, t + 10)), (kA, (am + 1, t + 10)), (kA, (am, t + 10))] [(kA, List.replicate am.toNat t)])).m kB = [] := by simp [Vx, List.lookup, qkAkB, qkBkA, qkAa0, qa0kA, qkAa1, qa1kA, qkAa2, qa2kA, qkAb0, qb0kA, qkAb1, qb1kA, qkAb2, qb2kA, qkBa0, qa0kB, qkBa1, qa1kB, qkBa2, qa2kB, qkBb0, qb0kB, qkBb1, qb1kB, qkBb2, qb2kB, qa0a1, qa1a0, qa0a2, qa2a0, qa0b0, qb0a0, qa0b1, qb1a0, qa0b2, qb2a0, qa1a2, qa2a1, qa1b0, qb0a1, qa1b1, qb1a1, qa1b2, qb2a1, qa2b0, qb0a2, qa2b1, qb1a2, qa2b2, qb2a2, qb0b1, qb1b0, qb0b2, qb2b0, qb1b2, qb2b1]
  have mB6 : ((Vx t [(kB, (am + 1, t + 10)), (kB, (am, t + 10)), (kA, (am + 1, t + 10)), (kA, (am, t + 10))] [(kB, List.replicate am.toNat t), (kA, List.replicate am.toNat t)])).m kB = List.replicate am.toNat t := by simp [Vx, List.lookup, qkAkB, qkBkA, qkAa0, qa0kA, qkAa1, qa1kA, qkAa2, qa2kA, qkAb0, qb0kA, qkAb1, qb1kA, qkAb2, qb2kA, qkBa0, qa0kB, qkBa1, qa1kB, qkBa2, qa2kB, qkBb0, qb0kB, qkBb1, qb1kB, qkBb2, qb2kB, qa0a1, qa1a0, qa0a2, qa2a0, qa0b0, qb0a0, qa0b1, qb1a0, qa0b2, qb2a0, qa1a2, qa2a1, qa1b0, qb0a1, qa1b1, qb1a1, qa1b2, qb2a1, qa2b0, qb0a2, qa2b1, qb1a2, qa2b2, qb2a2, qb0b1, qb1b0, qb0b2, qb2b0, qb1b2, qb2b1]
  have c1 := b_full (limit := am) (by omega) mA4
  have c2 := b_no (limit := am) ha mA5
  have c3 := b_full (limit := am) (by omega) mB5
  have c4 := b_no (limit := am) ha mB6
  refine ⟨(acq_yes c1 mA4).trans (by rw [List.append_nil]), c1, by rw [mA4]; simp, Vx_acq0 _ _ _ _ _ _ c2, c2, by rw [mA5, List.length_replicate]; exact lr, (acq_yes c3 mB5).trans (by rw [List.append_nil]), c3, by rw [mB5]; simp, Vx_acq0 _ _ _ _ _ _ c4, c4, by rw [mB6, List.length_replicate]; exact lr, ?_⟩
  have w6 : ((Vx t [(kB, (am + 1, t + 10)), (kB, (am, t + 10)), (kA, (am + 1, t + 10)), (kA, (am, t + 10))] [(kB, List.replicate am.toNat t), (kA, List.replicate am.toNat t)])).wtd kA = 0 := wtd0 ks.pA ks.cA (by simp [Vx, List.lookup, qkAkB, qkBkA, qkAa0, qa0kA, qkAa1, qa1kA, qkAa2, qa2kA, qkAb0, qb0kA, qkAb1, qb1kA, qkAb2, qb2kA, qkBa0, qa0kB, qkBa1, qa1kB, qkBa2, qa2kB, qkBb0, qb0kB, qkBb1, qb1kB, qkBb2, qb2kB, qa0a1, qa1a0, qa0a2, qa2a0, qa0b0, qb0a0, qa0b1, qb1a0, qa0b2, qb2a0, qa1a2, qa2a1, qa1b0, qb0a1, qa1b1, qb1a1, qa1b2, qb2a1, qa2b0, qb0a2, qa2b1, qb1a2, qa2b2, qb2a2, qb0b1, qb1b0, qb0b2, qb2b0, qb1b2, qb2b1]) (by simp [Vx, List.lookup, qkAkB, qkBkA, qkAa0, qa0kA, qkAa1, qa1kA, qkAa2, qa2kA, qkAb0, qb0kA, qkAb1, qb1kA, qkAb2, qb2kA, qkBa0, qa0kB, qkBa1, qa1kB, qkBa2, qa2kB, qkBb0, qb0kB, qkBb1, qb1kB, qkBb2, qb2kB, qa0a1, qa1a0, qa0a2, qa2a0, qa0b0, qb0a0, qa0b1, qb1a0, qa0b2, qb2a0, qa1a2, qa2a1, qa1b0, qb0a1, qa1b1, qb1a1, qa1b2, qb2a1, qa2b0, qb0a2, qa2b1, qb1a2, qa2b2, qb2a2, qb0b1, qb1b0, qb0b2, qb2b0, qb1b2, qb2b1])
  have w7 : ((Vx t [(a1, (am, t + 20)), (kB, (am + 1, t + 10)), (kB, (am, t + 10)), (kA, (am + 1, t + 10)), (kA, (am, t + 10))] [(kB, List.replicate am.toNat t), (kA, List.replicate am.toNat t)])).wtd kA = am := wtd0 ks.pA ks.cA (by simp [Vx, List.lookup, qkAkB, qkBkA, qkAa0, qa0kA, qkAa1, qa1kA, qkAa2, qa2kA, qkAb0, qb0kA, qkAb1, qb1kA, qkAb2, qb2kA, qkBa0, qa0kB, qkBa1, qa1kB, qkBa2, qa2kB, qkBb0, qb0kB, qkBb1, qb1kB, qkBb2, qb2kB, qa0a1, qa1a0, qa0a2, qa2a0, qa0b0, qb0a0, qa0b1, qb1a0, qa0b2, qb2a0, qa1a2, qa2a1, qa1b0, qb0a1, qa1b1, qb1a1, qa1b2, qb2a1, qa2b0, qb0a2, qa2b1, qb1a2, qa2b2, qb2a2, qb0b1, qb1b0, qb0b2, qb2b0, qb1b2, qb2b1]) (by simp [Vx, List.lookup, qkAkB, qkBkA, qkAa0, qa0kA, qkAa1, qa1kA, qkAa2, qa2kA, qkAb0, qb0kA, qkAb1, qb1kA, qkAb2, qb2kA, qkBa0, qa0kB, qkBa1, qa1kB, qkBa2, qa2kB, qkBb0, qb0kB, qkBb1, qb1kB, qkBb2, qb2kB, qa0a1, qa1a0, qa0a2, qa2a0, qa0b0, qb0a0, qa0b1, qb1a0, qa0b2, qb2a0, qa1a2, qa2a1, qa1b0, qb0a1, qa1b1, qb1a1, qa1b2, qb2a1, qa2b0, qb0a2, qa2b1, qb1a2, qa2b2, qb2a2, qb0b1, qb1b0, qb0b2, qb2b0, qb1b2, qb2b1])
  have w7' : ((Vx t [(a1, (am, t + 20)), (kB, (am + 1, t + 10)), (kB, (am, t + 10)), (kA, (am + 1, t + 10)), (kA, (am, t + 10))] [(kB, List.replicate am.toNat t), (kA, List.replicate am.toNat t)])).wtd kB = 0 := wtd0 ks.pB ks.cB (by simp [Vx, List.lookup, qkAkB, qkBkA, qkAa0, qa0kA, qkAa1, qa1kA, qkAa2, qa2kA, qkAb0, qb0kA, qkAb1, qb1kA, qkAb2, qb2kA, qkBa0, qa0kB, qkBa1, qa1kB, qkBa2, qa2kB, qkBb0, qb0kB, qkBb1, qb1kB, qkBb2, qb2kB, qa0a1, qa1a0, qa0a2, qa2a0, qa0b0, qb0a0, qa0b1, qb1a0, qa0b2, qb2a0, qa1a2, qa2a1, qa1b0, qb0a1, qa1b1, qb1a1, qa1b2, qb2a1, qa2b0, qb0a2, qa2b1, qb1a2, qa2b2, qb2a2, qb0b1, qb1b0, qb0b2, qb2b0, qb1b2, qb2b1]) (by simp [Vx, List.lookup, qkAkB, qkBkA, qkAa0, qa0kA, qkAa1, qa1kA, qkAa2, qa2kA, qkAb0, qb0kA, qkAb1, qb1kA, qkAb2, qb2kA, qkBa0, qa0kB, qkBa1, qa1kB, qkBa2, qa2kB, qkBb0, qb0kB, qkBb1, qb1kB, qkBb2, qb2kB, qa0a1, qa1a0, qa0a2, qa2a0, qa0b0, qb0a0, qa0b1, qb1a0, qa0b2, qb2a0, qa1a2, qa2a1, qa1b0, qb0a1, qa1b1, qb1a1, qa1b2, qb2a1, qa2b0, qb0a2, qa2b1, qb1a2, qa2b2, qb2a2, qb0b1, qb1b0, qb0b2, qb2b0, qb1b2, qb2b1])
  have w8 : ((Vx t [(b1, (am, t + 20)), (a1, (am, t + 20)), (kB, (am + 1, t + 10)), (kB, (am, t + 10)), (kA, (am + 1, t + 10)), (kA, (am, t + 10))] [(kB, List.replicate am.toNat t), (kA, List.replicate am.toNat t)])).wtd kB = am := wtd0 ks.pB ks.cB (by simp [Vx, List.lookup, qkAkB, qkBkA, qkAa0, qa0kA, qkAa1, qa1kA, qkAa2, qa2kA, qkAb0, qb0kA, qkAb1, qb1kA, qkAb2, qb2kA, qkBa0, qa0kB, qkBa1, qa1kB, qkBa2, qa2kB, qkBb0, qb0kB, qkBb1, qb1kB, qkBb2, qb2kB, qa0a1, qa1a0, qa0a2, qa2a0, qa0b0, qb0a0, qa0b1, qb1a0, qa0b2, qb2a0, qa1a2, qa2a1, qa1b0, qb0a1, qa1b1, qb1a1, qa1b2, qb2a1, qa2b0, qb0a2, qa2b1, qb1a2, qa2b2, qb2a2, qb0b1, qb1b0, qb0b2, qb2b0, qb1b2, qb2b1]) (by simp [Vx, List.lookup, qkAkB, qkBkA, qkAa0, qa0kA, qkAa1, qa1kA, qkAa2, qa2kA, qkAb0, qb0kA, qkAb1, qb1kA, qkAb2, qb2kA, qkBa0, qa0kB, qkBa1, qa1kB, qkBa2, qa2kB, qkBb0, qb0kB, qkBb1, qb1kB, qkBb2, qb2kB, qa0a1, qa1a0, qa0a2, qa2a0, qa0b0, qb0a0, qa0b1, qb1a0, qa0b2, qb2a0, qa1a2, qa2a1, qa1b0, qb0a1, qa1b1, qb1a1, qa1b2, qb2a1, qa2b0, qb0a2, qa2b1, qb1a2, qa2b2, qb2a2, qb0b1, qb1b0, qb0b2, qb2b0, qb1b2, qb2b1])
  have s1 : ((Vx t [(kB, (am + 1, t + 10)), (kB, (am, t + 10)), (kA, (am + 1, t + 10)), (kA, (am, t + 10))] [(kB, List.replicate am.toNat t), (kA, List.replicate am.toNat t)])).acqSB kA am am = true := by rw [sb_of w6]; simp
  have s2 : ((Vx t [(a1, (am, t + 20)), (kB, (am + 1, t + 10)), (kB, (am, t + 10)), (kA, (am + 1, t + 10)), (kA, (am, t + 10))] [(kB, List.replicate am.toNat t), (kA, List.replicate am.toNat t)])).acqSB kA am 1 = false := by rw [sb_of w7]; simp; omega
  have s3 : ((Vx t [(a1, (am, t + 20)), (kB, (am + 1, t + 10)), (kB, (am, t + 10)), (kA, (am + 1, t + 10)), (kA, (am, t + 10))] [(kB, List.replicate am.toNat t), (kA, List.replicate am.toNat t)])).acqSB kB am am = true := by rw [sb_of w7']; simp
  have s4 : ((Vx t [(b1, (am, t + 20)), (a1, (am, t + 20)), (kB, (am + 1, t + 10)), (kB, (am, t + 10)), (kA, (am + 1, t + 10)), (kA, (am, t + 10))] [(kB, List.replicate am.toNat t), (kA, List.replicate am.toNat t)])).acqSB kB am 1 = false := by rw [sb_of w8]; simp; omega
  refine ⟨acqS_yes s1 ks.cA (by simp [Vx, List.lookup, qkAkB, qkBkA, qkAa0, qa0kA, qkAa1, qa1kA, qkAa2, qa2kA, qkAb0, qb0kA, qkAb1, qb1kA, qkAb2, qb2kA, qkBa0, qa0kB, qkBa1, qa1kB, qkBa2, qa2kB, qkBb0, qb0kB, qkBb1, qb1kB, qkBb2, qb2kB, qa0a1, qa1a0, qa0a2, qa2a0, qa0b0, qb0a0, qa0b1, qb1a0, qa0b2, qb2a0, qa1a2, qa2a1, qa1b0, qb0a1, qa1b1, qb1a1, qa1b2, qb2a1, qa2b0, qb0a2, qa2b1, qb1a2, qa2b2, qb2a2, qb0b1, qb1b0, qb0b2, qb2b0, qb1b2, qb2b1]), s1, acqS_no s2, s2, acqS_yes s3 ks.cB (by simp [Vx, List.lookup, qkAkB, qkBkA, qkAa0, qa0kA, qkAa1, qa1kA, qkAa2, qa2kA, qkAb0, qb0kA, qkAb1, qb1kA, qkAb2, qb2kA, qkBa0, qa0kB, qkBa1, qa1kB, qkBa2, qa2kB, qkBb0, qb0kB, qkBb1, qb1kB, qkBb2, qb2kB, qa0a1, qa1a0, qa0a2, qa2a0, qa0b0, qb0a0, qa0b1, qb1a0, qa0b2, qb2a0, qa1a2, qa2a1, qa1b0, qb0a1, qa1b1, qb1a1, qa1b2, qb2a1, qa2b0, qb0a2, qa2b1, qb1a2, qa2b2, qb2a2, qb0b1, qb1b0, qb0b2, qb2b0, qb1b2, qb2b1]), s3, acqS_no s4, s4, ?_⟩
  have z0 : 0 ≤ t := by omega
  have z2 : t < 3000 := by omega
  exact ⟨z0, h1, z2, z0, h1, z2, z0, h1, z2, z0, h1, z2, z0, h1, z2, z0, h1, z2, z0, h1, z2, z0, h1, z2, z0, h1, z2⟩
theorem wtd1 {v : Vw} {k p c : Str} {n q : Int} (hp : v.pk k = p) (hc : v.ck k = c) (h0 : v.n p = q) (hf : (v.now - 10).fmod 10 = 1) (hq : 2 ≤ q) (hq8 : q ≤ 8) (hn : v.n c = n) : v.wtd k = q - 1 + n := by
  have ht : v.ttl k = 9 := by unfold Vw.ttl; rw [hp, h0, if_neg (by omega), hf]; rfl
  have e : (q * 9).fdiv 10 = q - 1 := by rw [Int.fdiv_eq_ediv_of_nonneg _ (by decide)]; omega
  unfold Vw.wtd; rw [ht, hp, hc, h0, hn, e]
theorem kd_of {v : Vw} {kA kB pA cA pB cB : Str} (hpA : v.pk kA = pA) (hcA : v.ck kA = cA) (hpB : v.pk kB = pB) (hcB : v.ck kB = cB) (x1 : kA ≠ kB) (x2 : kA ≠ pA) (x3 : kA ≠ cA) (x4 : kA ≠ pB) (x5 : kA ≠ cB) (x6 : kB ≠ pA) (x7 : kB ≠ cA) (x8 : pA ≠ pB) (x9 : pA ≠ cB) (x10 : cA ≠ pB) (x11 : cA ≠ cB) (x12 : pA ≠ cA) : Kd v kA kB := by
  subst hpA hcA hpB hcB
  exact ⟨x1, x2, x3, x4, x5, x6, x7, x8, x9, x10, x11, x12⟩
theorem chain_two {t am : Int} {kA kB a0 a1 a2 b0 b1 b2 : Str} (ks : Ks t kA kB a0 a1 a2 b0 b1 b2) (h1 : 1000 ≤ t) (h2 : t < 2900) (ha : 2 ≤ am) (ha8 : am ≤ 8) :
    Ch2 (Vx t [(b1, (am, t + 20)), (a1, (am, t + 20)), (kB, (am + 1, t + 10)), (kB, (am, t + 10)), (kA, (am + 1, t + 10)), (kA, (am, t + 10))] [(kB, List.replicate am.toNat t), (kA, List.replicate am.toNat t)]) kA kB am := by
  have qkAkB : (kA == kB) = false := beq_false_of_ne ks.kAkB
  have qkBkA : (kB == kA) = false := beq_false_of_ne ks.kAkB.symm
  have qkAa0 : (kA == a0) = false := beq_false_of_ne ks.kAa0
  have qa0kA : (a0 == kA) = false := beq_false_of_ne ks.kAa0.symm
  have qkAa1 : (kA == a1) = false := beq_false_of_ne ks.kAa1
  have qa1kA : (a1 == kA) = false := beq_false_of_ne ks.kAa1.symm
  have qkAa2 : (kA == a2) = false := beq_false_of_ne ks.kAa2
  have qa2kA : (a2 == kA) = false := beq_false_of_ne ks.kAa2.symm
  have qkAb0 : (kA == b0) = false := beq_false_of_ne ks.kAb0
  have qb0kA : (b0 == kA) = false := beq_false_of_ne ks.kAb0.symm
  have qkAb1 : (kA == b1) = false := beq_false_of_ne ks.kAb1
  have qb1kA : (b1 == kA) = false := beq_false_of_ne ks.kAb1.symm
  have qkAb2 : (kA == b2) = false := beq_false_of_ne ks.kAb2
  have qb2kA : (b2 == kA) = false := beq_false_of_ne ks.kAb2.symm
  have qkBa0 : (kB == a0) = false := beq_false_of_ne ks.kBa0
  have qa0kB : (a0 == kB) = false := beq_false_of_ne ks.kBa0.symm
  have qkBa1 : (kB == a1) = false := beq_false_of_ne ks.kBa1
  have qa1kB : (a1 == kB) = false := beq_false_of_ne ks.kBa1.symm
  have qkBa2 : (kB == a2) = false := beq_false_of_ne ks.kBa2
  have qa2kB : (a2 == kB) = false := beq_false_of_ne ks.kBa2.symm
  have qkBb0 : (kB == b0) = false := beq_false_of_ne ks.kBb0
  have qb0kB : (b0 == kB) = false := beq_false_of_ne ks.kBb0.symm
  have qkBb1 : (kB == b1) = false := beq_false_of_ne ks.kBb1
  have qb1kB : (b1 == kB) = false := beq_false_of_ne ks.kBb1.symm
  have qkBb2 : (kB == b2) = false := beq_false_of_ne ks.kBb2
  have qb2kB : (b2 == kB) = false := beq_false_of_ne ks.kBb2.symm
  have qa0a1 : (a0 == a1) = false := beq_false_of_ne ks.a0a1
  have qa1a0 : (a1 == a0) = false := beq_false_of_ne ks.a0a1.symm
  have qa0a2 : (a0 == a2) = false := beq_false_of_ne ks.a0a2
  have qa2a0 : (a2 == a0) = false := beq_false_of_ne ks.a0a2.symm
  have qa0b0 : (a0 == b0) = false := beq_false_of_ne ks.a0b0
  have qb0a0 : (b0 == a0) = false := beq_false_of_ne ks.a0b0.symm
  have qa0b1 : (a0 == b1) = false := beq_false_of_ne ks.a0b1
  have qb1a0 : (b1 == a0) = false := beq_false_of_ne ks.a0b1.symm
  have qa0b2 : (a0 == b2) = false := beq_false_of_ne ks.a0b2
  have qb2a0 : (b2 == a0) = false := beq_false_of_ne ks.a0b2.symm
  have qa1a2 : (a1 == a2) = false := beq_false_of_ne ks.a1a2
  have qa2a1 : (a2 == a1) = false := beq_false_of_ne ks.a1a2.symm
  have qa1b0 : (a1 == b0) = false := beq_false_of_ne ks.a1b0
  have qb0a1 : (b0 == a1) = false := beq_false_of_ne ks.a1b0.symm
  have qa1b1 : (a1 == b1) = false := beq_false_of_ne ks.a1b1
  have qb1a1 : (b1 == a1) = false := beq_false_of_ne ks.a1b1.symm
  have qa1b2 : (a1 == b2) = false := beq_false_of_ne ks.a1b2
  have qb2a1 : (b2 == a1) = false := beq_false_of_ne ks.a1b2.symm
  have qa2b0 : (a2 == b0) = false := beq_false_of_ne ks.a2b0
  have qb0a2 : (b0 == a2) = false := beq_false_of_ne ks.a2b0.symm
  have qa2b1 : (a2 == b1) = false := beq_false_of_ne ks.a2b1
  have qb1a2 : (b1 == a2) = false := beq_false_of_ne ks.a2b1.symm
  have qa2b2 : (a2 == b2) = false := beq_false_of_ne ks.a2b2
  have qb2a2 : (b2 == a2) = false := beq_false_of_ne ks.a2b2.symm
  have qb0b1 : (b0 == b1) = false := beq_false_of_ne ks.b0b1
  have qb1b0 : (b1 == b0) = false := beq_false_of_ne ks.b0b1.symm
  have qb0b2 : (b0 == b2) = false := beq_false_of_ne ks.b0b2
  have qb2b0 : (b2 == b0) = false := beq_false_of_ne ks.b0b2.symm
  have qb1b2 : (b1 == b2) = false := beq_false_of_ne ks.b1b2
  have qb2b1 : (b2 == b1) = false := beq_false_of_ne ks.b1b2.symm
  have E1 : ((Vx t [(b1, (am, t + 20)), (a1, (am, t + 20)), (kB, (am + 1, t + 10)), (kB, (am, t + 10)), (kA, (am + 1, t + 10)), (kA, (am, t + 10))] [(kB, List.replicate am.toNat t), (kA, List.replicate am.toNat t)])).adv 11 = (Vx (t + 11) [(b1, (am, t + 20)), (a1, (am, t + 20)), (kB, (0, t + 11)), (kB, (0, t + 11)), (kA, (0, t + 11)), (kA, (0, t + 11))] [(kB, List.replicate am.toNat t), (kA, List.replicate am.toNat t)]) := by
    rw [Vx_adv _ _ _ _ (by decide)]
    have x1 : ¬ (t + 20 ≤ t + 11) := by omega
    have x2 : t + 10 ≤ t + 11 := by omega
    simp [expire, x1, x2]
  have lr : ∀ u : Int, ((List.replicate am.toNat u).length) ≤ 900 := by intro u; rw [List.length_replicate]; omega
  have mA : ((Vx (t + 11) [(kB, (am, t + 11 + 10)), (kA, (am, t + 11 + 10)), (b1, (am, t + 20)), (a1, (am, t + 20)), (kB, (0, t + 11)), (kB, (0, t + 11)), (kA, (0, t + 11)), (kA, (0, t + 11))] [(kB, List.replicate am.toNat t), (kA, List.replicate am.toNat t)])).m kA = List.replicate am.toNat t := by simp [Vx, List.lookup, qkAkB, qkBkA, qkAa0, qa0kA, qkAa1, qa1kA, qkAa2, qa2kA, qkAb0, qb0kA, qkAb1, qb1kA, qkAb2, qb2kA, qkBa0, qa0kB, qkBa1, qa1kB, qkBa2, qa2kB, qkBb0, qb0kB, qkBb1, qb1kB, qkBb2, qb2kB, qa0a1, qa1a0, qa0a2, qa2a0, qa0b0, qb0a0, qa0b1, qb1a0, qa0b2, qb2a0, qa1a2, qa2a1, qa1b0, qb0a1, qa1b1, qb1a1, qa1b2, qb2a1, qa2b0, qb0a2, qa2b1, qb1a2, qa2b2, qb2a2, qb0b1, qb1b0, qb0b2, qb2b0, qb1b2, qb2b1]
  have mB : ((Vx (t + 11) [(kB, (am, t + 11 + 10)), (kA, (am, t + 11 + 10)), (b1, (am, t + 20)), (a1, (am, t + 20)), (kB, (0, t + 11)), (kB, (0, t + 11)), (kA, (0, t + 11)), (kA, (0, t + 11))] [(kA, List.replicate am.toNat (t + 11) ++ List.replicate am.toNat t), (kB, List.replicate am.toNat t), (kA, List.replicate am.toNat t)])).m kB = List.replicate am.toNat t := by simp [Vx, List.lookup, qkAkB, qkBkA, qkAa0, qa0kA, qkAa1, qa1kA, qkAa2, qa2kA, qkAb0, qb0kA, qkAb1, qb1kA, qkAb2, qb2kA, qkBa0, qa0kB, qkBa1, qa1kB, qkBa2, qa2kB, qkBb0, qb0kB, qkBb1, qb1kB, qkBb2, qb2kB, qa0a1, qa1a0, qa0a2, qa2a0, qa0b0, qb0a0, qa0b1, qb1a0, qa0b2, qb2a0, qa1a2, qa2a1, qa1b0, qb0a1, qa1b1, qb1a1, qa1b2, qb2a1, qa2b0, qb0a2, qa2b1, qb1a2, qa2b2, qb2a2, qb0b1, qb1b0, qb0b2, qb2b0, qb1b2, qb2b1]
  have c1 : ((Vx (t + 11) [(kB, (am, t + 11 + 10)), (kA, (am, t + 11 + 10)), (b1, (am, t + 20)), (a1, (am, t + 20)), (kB, (0, t + 11)), (kB, (0, t + 11)), (kA, (0, t + 11)), (kA, (0, t + 11))] [(kB, List.replicate am.toNat t), (kA, List.replicate am.toNat t)])).acqB kA am am = true := b_old ha (by show t < t + 11 - 10; omega) mA
  have c2 : ((Vx (t + 11) [(kB, (am, t + 11 + 10)), (kA, (am, t + 11 + 10)), (b1, (am, t + 20)), (a1, (am, t + 20)), (kB, (0, t + 11)), (kB, (0, t + 11)), (kA, (0, t + 11)), (kA, (0, t + 11))] [(kA, List.replicate am.toNat (t + 11) ++ List.replicate am.toNat t), (kB, List.replicate am.toNat t), (kA, List.replicate am.toNat t)])).acqB kB am am = true := b_old ha (by show t < t + 11 - 10; omega) mB
  have old : ∀ u ∈ List.replicate am.toNat t, u < t + 11 - 10 := by intro u hu; rw [(List.mem_replicate.mp hu).2]; omega
  have gA4 : GmwV (Vx (t + 11) [(kB, (am, t + 11 + 10)), (kA, (am, t + 11 + 10)), (b1, (am, t + 20)), (a1, (am, t + 20)), (kB, (0, t + 11)), (kB, (0, t + 11)), (kA, (0, t + 11)), (kA, (0, t + 11))] [(kA, List.replicate am.toNat (t + 11) ++ List.replicate am.toNat t), (kB, List.replicate am.toNat t), (kA, List.replicate am.toNat t)]) kA (t + 11) am := gmw_new ha (by simp [Vx, List.lookup, qkAkB, qkBkA, qkAa0, qa0kA, qkAa1, qa1kA, qkAa2, qa2kA, qkAb0, qb0kA, qkAb1, qb1kA, qkAb2, qb2kA, qkBa0, qa0kB, qkBa1, qa1kB, qkBa2, qa2kB, qkBb0, qb0kB, qkBb1, qb1kB, qkBb2, qb2kB, qa0a1, qa1a0, qa0a2, qa2a0, qa0b0, qb0a0, qa0b1, qb1a0, qa0b2, qb2a0, qa1a2, qa2a1, qa1b0, qb0a1, qa1b1, qb1a1, qa1b2, qb2a1, qa2b0, qb0a2, qa2b1, qb1a2, qa2b2, qb2a2, qb0b1, qb1b0, qb0b2, qb2b0, qb1b2, qb2b1]) old
  have gA5 : GmwV (Vx (t + 11) [(kB, (am, t + 11 + 10)), (kA, (am, t + 11 + 10)), (b1, (am, t + 20)), (a1, (am, t + 20)), (kB, (0, t + 11)), (kB, (0, t + 11)), (kA, (0, t + 11)), (kA, (0, t + 11))] [(kB, List.replicate am.toNat (t + 11) ++ List.replicate am.toNat t), (kA, List.replicate am.toNat (t + 11) ++ List.replicate am.toNat t), (kB, List.replicate am.toNat t), (kA, List.replicate am.toNat t)]) kA (t + 11) am := gmw_new ha (by simp [Vx, List.lookup, qkAkB, qkBkA, qkAa0, qa0kA, qkAa1, qa1kA, qkAa2, qa2kA, qkAb0, qb0kA, qkAb1, qb1kA, qkAb2, qb2kA, qkBa0, qa0kB, qkBa1, qa1kB, qkBa2, qa2kB, qkBb0, qb0kB, qkBb1, qb1kB, qkBb2, qb2kB, qa0a1, qa1a0, qa0a2, qa2a0, qa0b0, qb0a0, qa0b1, qb1a0, qa0b2, qb2a0, qa1a2, qa2a1, qa1b0, qb0a1, qa1b1, qb1a1, qa1b2, qb2a1, qa2b0, qb0a2, qa2b1, qb1a2, qa2b2, qb2a2, qb0b1, qb1b0, qb0b2, qb2b0, qb1b2, qb2b1]) old
  have gB5 : GmwV (Vx (t + 11) [(kB, (am, t + 11 + 10)), (kA, (am, t + 11 + 10)), (b1, (am, t + 20)), (a1, (am, t + 20)), (kB, (0, t + 11)), (kB, (0, t + 11)), (kA, (0, t + 11)), (kA, (0, t + 11))] [(kB, List.replicate am.toNat (t + 11) ++ List.replicate am.toNat t), (kA, List.replicate am.toNat (t + 11) ++ List.replicate am.toNat t), (kB, List.replicate am.toNat t), (kA, List.replicate am.toNat t)]) kB (t + 11) am := gmw_new ha (by simp [Vx, List.lookup, qkAkB, qkBkA, qkAa0, qa0kA, qkAa1, qa1kA, qkAa2, qa2kA, qkAb0, qb0kA, qkAb1, qb1kA, qkAb2, qb2kA, qkBa0, qa0kB, qkBa1, qa1kB, qkBa2, qa2kB, qkBb0, qb0kB, qkBb1, qb1kB, qkBb2, qb2kB, qa0a1, qa1a0, qa0a2, qa2a0, qa0b0, qb0a0, qa0b1, qb1a0, qa0b2, qb2a0, qa1a2, qa2a1, qa1b0, qb0a1, qa1b1, qb1a1, qa1b2, qb2a1, qa2b0, qb0a2, qa2b1, qb1a2, qa2b2, qb2a2, qb0b1, qb1b0, qb0b2, qb2b0, qb1b2, qb2b1]) old
  have gA6 : GmwV (Vx (t + 11) [(a2, (1, t + 11 + 20)), (kB, (am, t + 11 + 10)), (kA, (am, t + 11 + 10)), (b1, (am, t + 20)), (a1, (am, t + 20)), (kB, (0, t + 11)), (kB, (0, t + 11)), (kA, (0, t + 11)), (kA, (0, t + 11))] [(kB, List.replicate am.toNat (t + 11) ++ List.replicate am.toNat t), (kA, List.replicate am.toNat (t + 11) ++ List.replicate am.toNat t), (kB, List.replicate am.toNat t), (kA, List.replicate am.toNat t)]) kA (t + 11) am := gmw_new ha (by simp [Vx, List.lookup, qkAkB, qkBkA, qkAa0, qa0kA, qkAa1, qa1kA, qkAa2, qa2kA, qkAb0, qb0kA, qkAb1, qb1kA, qkAb2, qb2kA, qkBa0, qa0kB, qkBa1, qa1kB, qkBa2, qa2kB, qkBb0, qb0kB, qkBb1, qb1kB, qkBb2, qb2kB, qa0a1, qa1a0, qa0a2, qa2a0, qa0b0, qb0a0, qa0b1, qb1a0, qa0b2, qb2a0, qa1a2, qa2a1, qa1b0, qb0a1, qa1b1, qb1a1, qa1b2, qb2a1, qa2b0, qb0a2, qa2b1, qb1a2, qa2b2, qb2a2, qb0b1, qb1b0, qb0b2, qb2b0, qb1b2, qb2b1]) old
  have gB6 : GmwV (Vx (t + 11) [(a2, (1, t + 11 + 20)), (kB, (am, t + 11 + 10)), (kA, (am, t + 11 + 10)), (b1, (am, t + 20)), (a1, (am, t + 20)), (kB, (0, t + 11)), (kB, (0, t + 11)), (kA, (0, t + 11)), (kA, (0, t + 11))] [(kB, List.replicate am.toNat (t + 11) ++ List.replicate am.toNat t), (kA, List.replicate am.toNat (t + 11) ++ List.replicate am.toNat t), (kB, List.replicate am.toNat t), (kA, List.replicate am.toNat t)]) kB (t + 11) am := gmw_new ha (by simp [Vx, List.lookup, qkAkB, qkBkA, qkAa0, qa0kA, qkAa1, qa1kA, qkAa2, qa2kA, qkAb0, qb0kA, qkAb1, qb1kA, qkAb2, qb2kA, qkBa0, qa0kB, qkBa1, qa1kB, qkBa2, qa2kB, qkBb0, qb0kB, qkBb1, qb1kB, qkBb2, qb2kB, qa0a1, qa1a0, qa0a2, qa2a0, qa0b0, qb0a0, qa0b1, qb1a0, qa0b2, qb2a0, qa1a2, qa2a1, qa1b0, qb0a1, qa1b1, qb1a1, qa1b2, qb2a1, qa2b0, qb0a2, qa2b1, qb1a2, qa2b2, qb2a2, qb0b1, qb1b0, qb0b2, qb2b0, qb1b2, qb2b1]) old
  have gA7 : GmwV (Vx (t + 11) [(b2, (1, t + 11 + 20)), (a2, (1, t + 11 + 20)), (kB, (am, t + 11 + 10)), (kA, (am, t + 11 + 10)), (b1, (am, t + 20)), (a1, (am, t + 20)), (kB, (0, t + 11)), (kB, (0, t + 11)), (kA, (0, t + 11)), (kA, (0, t + 11))] [(kB, List.replicate am.toNat (t + 11) ++ List.replicate am.toNat t), (kA, List.replicate am.toNat (t + 11) ++ List.replicate am.toNat t), (kB, List.replicate am.toNat t), (kA, List.replicate am.toNat t)]) kA (t + 11) am := gmw_new ha (by simp [Vx, List.lookup, qkAkB, qkBkA, qkAa0, qa0kA, qkAa1, qa1kA, qkAa2, qa2kA, qkAb0, qb0kA, qkAb1, qb1kA, qkAb2, qb2kA, qkBa0, qa0kB, qkBa1, qa1kB, qkBa2, qa2kB, qkBb0, qb0kB, qkBb1, qb1kB, qkBb2, qb2kB, qa0a1, qa1a0, qa0a2, qa2a0, qa0b0, qb0a0, qa0b1, qb1a0, qa0b2, qb2a0, qa1a2, qa2a1, qa1b0, qb0a1, qa1b1, qb1a1, qa1b2, qb2a1, qa2b0, qb0a2, qa2b1, qb1a2, qa2b2, qb2a2, qb0b1, qb1b0, qb0b2, qb2b0, qb1b2, qb2b1]) old
  have gB7 : GmwV (Vx (t + 11) [(b2, (1, t + 11 + 20)), (a2, (1, t + 11 + 20)), (kB, (am, t + 11 + 10)), (kA, (am, t + 11 + 10)), (b1, (am, t + 20)), (a1, (am, t + 20)), (kB, (0, t + 11)), (kB, (0, t + 11)), (kA, (0, t + 11)), (kA, (0, t + 11))] [(kB, List.replicate am.toNat (t + 11) ++ List.replicate am.toNat t), (kA, List.replicate am.toNat (t + 11) ++ List.replicate am.toNat t), (kB, List.replicate am.toNat t), (kA, List.replicate am.toNat t)]) kB (t + 11) am := gmw_new ha (by simp [Vx, List.lookup, qkAkB, qkBkA, qkAa0, qa0kA, qkAa1, qa1kA, qkAa2, qa2kA, qkAb0, qb0kA, qkAb1, qb1kA, qkAb2, qb2kA, qkBa0, qa0kB, qkBa1, qa1kB, qkBa2, qa2kB, qkBb0, qb0kB, qkBb1, qb1kB, qkBb2, qb2kB, qa0a1, qa1a0, qa0a2, qa2a0, qa0b0, qb0a0, qa0b1, qb1a0, qa0b2, qb2a0, qa1a2, qa2a1, qa1b0, qb0a1, qa1b1, qb1a1, qa1b2, qb2a1, qa2b0, qb0a2, qa2b1, qb1a2, qa2b2, qb2a2, qb0b1, qb1b0, qb0b2, qb2b0, qb1b2, qb2b1]) old
  have g0A : GmwV (Vx t [(b1, (am, t + 20)), (a1, (am, t + 20)), (kB, (am + 1, t + 10)), (kB, (am, t + 10)), (kA, (am + 1, t + 10)), (kA, (am, t + 10))] [(kB, List.replicate am.toNat t), (kA, List.replicate am.toNat t)]) kA t am := gmw_new (r := []) ha (by simp [Vx, List.lookup, qkAkB, qkBkA, qkAa0, qa0kA, qkAa1, qa1kA, qkAa2, qa2kA, qkAb0, qb0kA, qkAb1, qb1kA, qkAb2, qb2kA, qkBa0, qa0kB, qkBa1, qa1kB, qkBa2, qa2kB, qkBb0, qb0kB, qkBb1, qb1kB, qkBb2, qb2kB, qa0a1, qa1a0, qa0a2, qa2a0, qa0b0, qb0a0, qa0b1, qb1a0, qa0b2, qb2a0, qa1a2, qa2a1, qa1b0, qb0a1, qa1b1, qb1a1, qa1b2, qb2a1, qa2b0, qb0a2, qa2b1, qb1a2, qa2b2, qb2a2, qb0b1, qb1b0, qb0b2, qb2b0, qb1b2, qb2b1]) (fun _ h => nomatch h)
  have g0B : GmwV (Vx t [(b1, (am, t + 20)), (a1, (am, t + 20)), (kB, (am + 1, t + 10)), (kB, (am, t + 10)), (kA, (am + 1, t + 10)), (kA, (am, t + 10))] [(kB, List.replicate am.toNat t), (kA, List.replicate am.toNat t)]) kB t am := gmw_new (r := []) ha (by simp [Vx, List.lookup, qkAkB, qkBkA, qkAa0, qa0kA, qkAa1, qa1kA, qkAa2, qa2kA, qkAb0, qb0kA, qkAb1, qb1kA, qkAb2, qb2kA, qkBa0, qa0kB, qkBa1, qa1kB, qkBa2, qa2kB, qkBb0, qb0kB, qkBb1, qb1kB, qkBb2, qb2kB, qa0a1, qa1a0, qa0a2, qa2a0, qa0b0, qb0a0, qa0b1, qb1a0, qa0b2, qb2a0, qa1a2, qa2a1, qa1b0, qb0a1, qa1b1, qb1a1, qa1b2, qb2a1, qa2b0, qb0a2, qa2b1, qb1a2, qa2b2, qb2a2, qb0b1, qb1b0, qb0b2, qb2b0, qb1b2, qb2b1]) (fun _ h => nomatch h)
  have W5 : ((Vx (t + 11) [(kB, (am, t + 11 + 10)), (kA, (am, t + 11 + 10)), (b1, (am, t + 20)), (a1, (am, t + 20)), (kB, (0, t + 11)), (kB, (0, t + 11)), (kA, (0, t + 11)), (kA, (0, t + 11))] [(kB, List.replicate am.toNat (t + 11) ++ List.replicate am.toNat t), (kA, List.replicate am.toNat (t + 11) ++ List.replicate am.toNat t), (kB, List.replicate am.toNat t), (kA, List.replicate am.toNat t)])).wtd kA = am - 1 + 0 := wtd1 ks.pA' ks.cA' (by simp [Vx, List.lookup, qkAkB, qkBkA, qkAa0, qa0kA, qkAa1, qa1kA, qkAa2, qa2kA, qkAb0, qb0kA, qkAb1, qb1kA, qkAb2, qb2kA, qkBa0, qa0kB, qkBa1, qa1kB, qkBa2, qa2kB, qkBb0, qb0kB, qkBb1, qb1kB, qkBb2, qb2kB, qa0a1, qa1a0, qa0a2, qa2a0, qa0b0, qb0a0, qa0b1, qb1a0, qa0b2, qb2a0, qa1a2, qa2a1, qa1b0, qb0a1, qa1b1, qb1a1, qa1b2, qb2a1, qa2b0, qb0a2, qa2b1, qb1a2, qa2b2, qb2a2, qb0b1, qb1b0, qb0b2, qb2b0, qb1b2, qb2b1]) ks.fm ha ha8 (by simp [Vx, List.lookup, qkAkB, qkBkA, qkAa0, qa0kA, qkAa1, qa1kA, qkAa2, qa2kA, qkAb0, qb0kA, qkAb1, qb1kA, qkAb2, qb2kA, qkBa0, qa0kB, qkBa1, qa1kB, qkBa2, qa2kB, qkBb0, qb0kB, qkBb1, qb1kB, qkBb2, qb2kB, qa0a1, qa1a0, qa0a2, qa2a0, qa0b0, qb0a0, qa0b1, qb1a0, qa0b2, qb2a0, qa1a2, qa2a1, qa1b0, qb0a1, qa1b1, qb1a1, qa1b2, qb2a1, qa2b0, qb0a2, qa2b1, qb1a2, qa2b2, qb2a2, qb0b1, qb1b0, qb0b2, qb2b0, qb1b2, qb2b1])
  have W6 : ((Vx (t + 11) [(a2, (1, t + 11 + 20)), (kB, (am, t + 11 + 10)), (kA, (am, t + 11 + 10)), (b1, (am, t + 20)), (a1, (am, t + 20)), (kB, (0, t + 11)), (kB, (0, t + 11)), (kA, (0, t + 11)), (kA, (0, t + 11))] [(kB, List.replicate am.toNat (t + 11) ++ List.replicate am.toNat t), (kA, List.replicate am.toNat (t + 11) ++ List.replicate am.toNat t), (kB, List.replicate am.toNat t), (kA, List.replicate am.toNat t)])).wtd kA = am - 1 + 1 := wtd1 ks.pA' ks.cA' (by simp [Vx, List.lookup, qkAkB, qkBkA, qkAa0, qa0kA, qkAa1, qa1kA, qkAa2, qa2kA, qkAb0, qb0kA, qkAb1, qb1kA, qkAb2, qb2kA, qkBa0, qa0kB, qkBa1, qa1kB, qkBa2, qa2kB, qkBb0, qb0kB, qkBb1, qb1kB, qkBb2, qb2kB, qa0a1, qa1a0, qa0a2, qa2a0, qa0b0, qb0a0, qa0b1, qb1a0, qa0b2, qb2a0, qa1a2, qa2a1, qa1b0, qb0a1, qa1b1, qb1a1, qa1b2, qb2a1, qa2b0, qb0a2, qa2b1, qb1a2, qa2b2, qb2a2, qb0b1, qb1b0, qb0b2, qb2b0, qb1b2, qb2b1]) ks.fm ha ha8 (by simp [Vx, List.lookup, qkAkB, qkBkA, qkAa0, qa0kA, qkAa1, qa1kA, qkAa2, qa2kA, qkAb0, qb0kA, qkAb1, qb1kA, qkAb2, qb2kA, qkBa0, qa0kB, qkBa1, qa1kB, qkBa2, qa2kB, qkBb0, qb0kB, qkBb1, qb1kB, qkBb2, qb2kB, qa0a1, qa1a0, qa0a2, qa2a0, qa0b0, qb0a0, qa0b1, qb1a0, qa0b2, qb2a0, qa1a2, qa2a1, qa1b0, qb0a1, qa1b1, qb1a1, qa1b2, qb2a1, qa2b0, qb0a2, qa2b1, qb1a2, qa2b2, qb2a2, qb0b1, qb1b0, qb0b2, qb2b0, qb1b2, qb2b1])
  have W6' : ((Vx (t + 11) [(a2, (1, t + 11 + 20)), (kB, (am, t + 11 + 10)), (kA, (am, t + 11 + 10)), (b1, (am, t + 20)), (a1, (am, t + 20)), (kB, (0, t + 11)), (kB, (0, t + 11)), (kA, (0, t + 11)), (kA, (0, t + 11))] [(kB, List.replicate am.toNat (t + 11) ++ List.replicate am.toNat t), (kA, List.replicate am.toNat (t + 11) ++ List.replicate am.toNat t), (kB, List.replicate am.toNat t), (kA, List.replicate am.toNat t)])).wtd kB = am - 1 + 0 := wtd1 ks.pB' ks.cB' (by simp [Vx, List.lookup, qkAkB, qkBkA, qkAa0, qa0kA, qkAa1, qa1kA, qkAa2, qa2kA, qkAb0, qb0kA, qkAb1, qb1kA, qkAb2, qb2kA, qkBa0, qa0kB, qkBa1, qa1kB, qkBa2, qa2kB, qkBb0, qb0kB, qkBb1, qb1kB, qkBb2, qb2kB, qa0a1, qa1a0, qa0a2, qa2a0, qa0b0, qb0a0, qa0b1, qb1a0, qa0b2, qb2a0, qa1a2, qa2a1, qa1b0, qb0a1, qa1b1, qb1a1, qa1b2, qb2a1, qa2b0, qb0a2, qa2b1, qb1a2, qa2b2, qb2a2, qb0b1, qb1b0, qb0b2, qb2b0, qb1b2, qb2b1]) ks.fm ha ha8 (by simp [Vx, List.lookup, qkAkB, qkBkA, qkAa0, qa0kA, qkAa1, qa1kA, qkAa2, qa2kA, qkAb0, qb0kA, qkAb1, qb1kA, qkAb2, qb2kA, qkBa0, qa0kB, qkBa1, qa1kB, qkBa2, qa2kB, qkBb0, qb0kB, qkBb1, qb1kB, qkBb2, qb2kB, qa0a1, qa1a0, qa0a2, qa2a0, qa0b0, qb0a0, qa0b1, qb1a0, qa0b2, qb2a0, qa1a2, qa2a1, qa1b0, qb0a1, qa1b1, qb1a1, qa1b2, qb2a1, qa2b0, qb0a2, qa2b1, qb1a2, qa2b2, qb2a2, qb0b1, qb1b0, qb0b2, qb2b0, qb1b2, qb2b1])
  have W7 : ((Vx (t + 11) [(b2, (1, t + 11 + 20)), (a2, (1, t + 11 + 20)), (kB, (am, t + 11 + 10)), (kA, (am, t + 11 + 10)), (b1, (am, t + 20)), (a1, (am, t + 20)), (kB, (0, t + 11)), (kB, (0, t + 11)), (kA, (0, t + 11)), (kA, (0, t + 11))] [(kB, List.replicate am.toNat (t + 11) ++ List.replicate am.toNat t), (kA, List.replicate am.toNat (t + 11) ++ List.replicate am.toNat t), (kB, List.replicate am.toNat t), (kA, List.replicate am.toNat t)])).wtd kB = am - 1 + 1 := wtd1 ks.pB' ks.cB' (by simp [Vx, List.lookup, qkAkB, qkBkA, qkAa0, qa0kA, qkAa1, qa1kA, qkAa2, qa2kA, qkAb0, qb0kA, qkAb1, qb1kA, qkAb2, qb2kA, qkBa0, qa0kB, qkBa1, qa1kB, qkBa2, qa2kB, qkBb0, qb0kB, qkBb1, qb1kB, qkBb2, qb2kB, qa0a1, qa1a0, qa0a2, qa2a0, qa0b0, qb0a0, qa0b1, qb1a0, qa0b2, qb2a0, qa1a2, qa2a1, qa1b0, qb0a1, qa1b1, qb1a1, qa1b2, qb2a1, qa2b0, qb0a2, qa2b1, qb1a2, qa2b2, qb2a2, qb0b1, qb1b0, qb0b2, qb2b0, qb1b2, qb2b1]) ks.fm ha ha8 (by simp [Vx, List.lookup, qkAkB, qkBkA, qkAa0, qa0kA, qkAa1, qa1kA, qkAa2, qa2kA, qkAb0, qb0kA, qkAb1, qb1kA, qkAb2, qb2kA, qkBa0, qa0kB, qkBa1, qa1kB, qkBa2, qa2kB, qkBb0, qb0kB, qkBb1, qb1kB, qkBb2, qb2kB, qa0a1, qa1a0, qa0a2, qa2a0, qa0b0, qb0a0, qa0b1, qb1a0, qa0b2, qb2a0, qa1a2, qa2a1, qa1b0, qb0a1, qa1b1, qb1a1, qa1b2, qb2a1, qa2b0, qb0a2, qa2b1, qb1a2, qa2b2, qb2a2, qb0b1, qb1b0, qb0b2, qb2b0, qb1b2, qb2b1])
  have s1 : ((Vx (t + 11) [(kB, (am, t + 11 + 10)), (kA, (am, t + 11 + 10)), (b1, (am, t + 20)), (a1, (am, t + 20)), (kB, (0, t + 11)), (kB, (0, t + 11)), (kA, (0, t + 11)), (kA, (0, t + 11))] [(kB, List.replicate am.toNat (t + 11) ++ List.replicate am.toNat t), (kA, List.replicate am.toNat (t + 11) ++ List.replicate am.toNat t), (kB, List.replicate am.toNat t), (kA, List.replicate am.toNat t)])).acqSB kA am 1 = true := by rw [sb_of W5]; simp; omega
  have s2 : ((Vx (t + 11) [(a2, (1, t + 11 + 20)), (kB, (am, t + 11 + 10)), (kA, (am, t + 11 + 10)), (b1, (am, t + 20)), (a1, (am, t + 20)), (kB, (0, t + 11)), (kB, (0, t + 11)), (kA, (0, t + 11)), (kA, (0, t + 11))] [(kB, List.replicate am.toNat (t + 11) ++ List.replicate am.toNat t), (kA, List.replicate am.toNat (t + 11) ++ List.replicate am.toNat t), (kB, List.replicate am.toNat t), (kA, List.replicate am.toNat t)])).acqSB kB am 1 = true := by rw [sb_of W6']; simp; omega
  have z0 : 0 ≤ t := by omega
  have z2 : t < 3000 := by omega
  have y0 : 0 ≤ t + 11 := by omega
  have y1 : 1000 ≤ t + 11 := by omega
  have y2 : t + 11 < 3000 := by omega
  refine ⟨(Vx (t + 11) [(b1, (am, t + 20)), (a1, (am, t + 20)), (kB, (0, t + 11)), (kB, (0, t + 11)), (kA, (0, t + 11)), (kA, (0, t + 11))] [(kB, List.replicate am.toNat t), (kA, List.replicate am.toNat t)]), (Vx (t + 11) [(kA, (am, t + 11 + 10)), (b1, (am, t + 20)), (a1, (am, t + 20)), (kB, (0, t + 11)), (kB, (0, t + 11)), (kA, (0, t + 11)), (kA, (0, t + 11))] [(kB, List.replicate am.toNat t), (kA, List.replicate am.toNat t)]), (Vx (t + 11) [(kB, (am, t + 11 + 10)), (kA, (am, t + 11 + 10)), (b1, (am, t + 20)), (a1, (am, t + 20)), (kB, (0, t + 11)), (kB, (0, t + 11)), (kA, (0, t + 11)), (kA, (0, t + 11))] [(kB, List.replicate am.toNat t), (kA, List.replicate am.toNat t)]), (Vx (t + 11) [(kB, (am, t + 11 + 10)), (kA, (am, t + 11 + 10)), (b1, (am, t + 20)), (a1, (am, t + 20)), (kB, (0, t + 11)), (kB, (0, t + 11)), (kA, (0, t + 11)), (kA, (0, t + 11))] [(kA, List.replicate am.toNat (t + 11) ++ List.replicate am.toNat t), (kB, List.replicate am.toNat t), (kA, List.replicate am.toNat t)]), (Vx (t + 11) [(kB, (am, t + 11 + 10)), (kA, (am, t + 11 + 10)), (b1, (am, t + 20)), (a1, (am, t + 20)), (kB, (0, t + 11)), (kB, (0, t + 11)), (kA, (0, t + 11)), (kA, (0, t + 11))] [(kB, List.replicate am.toNat (t + 11) ++ List.replicate am.toNat t), (kA, List.replicate am.toNat (t + 11) ++ List.replicate am.toNat t), (kB, List.replicate am.toNat t), (kA, List.replicate am.toNat t)]), (Vx (t + 11) [(a2, (1, t + 11 + 20)), (kB, (am, t + 11 + 10)), (kA, (am, t + 11 + 10)), (b1, (am, t + 20)), (a1, (am, t + 20)), (kB, (0, t + 11)), (kB, (0, t + 11)), (kA, (0, t + 11)), (kA, (0, t + 11))] [(kB, List.replicate am.toNat (t + 11) ++ List.replicate am.toNat t), (kA, List.replicate am.toNat (t + 11) ++ List.replicate am.toNat t), (kB, List.replicate am.toNat t), (kA, List.replicate am.toNat t)]), (Vx (t + 11) [(b2, (1, t + 11 + 20)), (a2, (1, t + 11 + 20)), (kB, (am, t + 11 + 10)), (kA, (am, t + 11 + 10)), (b1, (am, t + 20)), (a1, (am, t + 20)), (kB, (0, t + 11)), (kB, (0, t + 11)), (kA, (0, t + 11)), (kA, (0, t + 11))] [(kB, List.replicate am.toNat (t + 11) ++ List.replicate am.toNat t), (kA, List.replicate am.toNat (t + 11) ++ List.replicate am.toNat t), (kB, List.replicate am.toNat t), (kA, List.replicate am.toNat t)]), t + 11, am, t + 11, am, t, am, t, am, E1, z0, incr_new (by simp [Vx, List.lookup, qkAkB, qkBkA, qkAa0, qa0kA, qkAa1, qa1kA, qkAa2, qa2kA, qkAb0, qb0kA, qkAb1, qb1kA, qkAb2, qb2kA, qkBa0, qa0kB, qkBa1, qa1kB, qkBa2, qa2kB, qkBb0, qb0kB, qkBb1, qb1kB, qkBb2, qb2kB, qa0a1, qa1a0, qa0a2, qa2a0, qa0b0, qb0a0, qa0b1, qb1a0, qa0b2, qb2a0, qa1a2, qa2a1, qa1b0, qb0a1, qa1b1, qb1a1, qa1b2, qb2a1, qa2b0, qb0a2, qa2b1, qb1a2, qa2b2, qb2a2, qb0b1, qb1b0, qb0b2, qb2b0, qb1b2, qb2b1]), ?_, ?_, incr_new (by simp [Vx, List.lookup, qkAkB, qkBkA, qkAa0, qa0kA, qkAa1, qa1kA, qkAa2, qa2kA, qkAb0, qb0kA, qkAb1, qb1kA, qkAb2, qb2kA, qkBa0, qa0kB, qkBa1, qa1kB, qkBa2, qa2kB, qkBb0, qb0kB, qkBb1, qb1kB, qkBb2, qb2kB, qa0a1, qa1a0, qa0a2, qa2a0, qa0b0, qb0a0, qa0b1, qb1a0, qa0b2, qb2a0, qa1a2, qa2a1, qa1b0, qb0a1, qa1b1, qb1a1, qa1b2, qb2a1, qa2b0, qb0a2, qa2b1, qb1a2, qa2b2, qb2a2, qb0b1, qb1b0, qb0b2, qb2b0, qb1b2, qb2b1]), ?_, ?_, acq_yes c1 mA, c1, by rw [mA]; exact lr t, ?_, gA4, acq_yes c2 mB, c2, by rw [mB]; exact lr t, ?_, gB5, acqS_yes s1 ks.cA' (by simp [Vx, List.lookup, qkAkB, qkBkA, qkAa0, qa0kA, qkAa1, qa1kA, qkAa2, qa2kA, qkAb0, qb0kA, qkAb1, qb1kA, qkAb2, qb2kA, qkBa0, qa0kB, qkBa1, qa1kB, qkBa2, qa2kB, qkBb0, qb0kB, qkBb1, qb1kB, qkBb2, qb2kB, qa0a1, qa1a0, qa0a2, qa2a0, qa0b0, qb0a0, qa0b1, qb1a0, qa0b2, qb2a0, qa1a2, qa2a1, qa1b0, qb0a1, qa1b1, qb1a1, qa1b2, qb2a1, qa2b0, qb0a2, qa2b1, qb1a2, qa2b2, qb2a2, qb0b1, qb1b0, qb0b2, qb2b0, qb1b2, qb2b1]), s1, ?_, (by have e : ((Vx (t + 11) [(a2, (1, t + 11 + 20)), (kB, (am, t + 11 + 10)), (kA, (am, t + 11 + 10)), (b1, (am, t + 20)), (a1, (am, t + 20)), (kB, (0, t + 11)), (kB, (0, t + 11)), (kA, (0, t + 11)), (kA, (0, t + 11))] [(kB, List.replicate am.toNat (t + 11) ++ List.replicate am.toNat t), (kA, List.replicate am.toNat (t + 11) ++ List.replicate am.toNat t), (kB, List.replicate am.toNat t), (kA, List.replicate am.toNat t)])).n (((Vx (t + 11) [(a2, (1, t + 11 + 20)), (kB, (am, t + 11 + 10)), (kA, (am, t + 11 + 10)), (b1, (am, t + 20)), (a1, (am, t + 20)), (kB, (0, t + 11)), (kB, (0, t + 11)), (kA, (0, t + 11)), (kA, (0, t + 11))] [(kB, List.replicate am.toNat (t + 11) ++ List.replicate am.toNat t), (kA, List.replicate am.toNat (t + 11) ++ List.replicate am.toNat t), (kB, List.replicate am.toNat t), (kA, List.replicate am.toNat t)])).pk kA) = am := by { rw [show ((Vx (t + 11) [(a2, (1, t + 11 + 20)), (kB, (am, t + 11 + 10)), (kA, (am, t + 11 + 10)), (b1, (am, t + 20)), (a1, (am, t + 20)), (kB, (0, t + 11)), (kB, (0, t + 11)), (kA, (0, t + 11)), (kA, (0, t + 11))] [(kB, List.replicate am.toNat (t + 11) ++ List.replicate am.toNat t), (kA, List.replicate am.toNat (t + 11) ++ List.replicate am.toNat t), (kB, List.replicate am.toNat t), (kA, List.replicate am.toNat t)])).pk kA = a1 from ks.pA']; simp [Vx, List.lookup, qkAkB, qkBkA, qkAa0, qa0kA, qkAa1, qa1kA, qkAa2, qa2kA, qkAb0, qb0kA, qkAb1, qb1kA, qkAb2, qb2kA, qkBa0, qa0kB, qkBa1, qa1kB, qkBa2, qa2kB, qkBb0, qb0kB, qkBb1, qb1kB, qkBb2, qb2kB, qa0a1, qa1a0, qa0a2, qa2a0, qa0b0, qb0a0, qa0b1, qb1a0, qa0b2, qb2a0, qa1a2, qa2a1, qa1b0, qb0a1, qa1b1, qb1a1, qa1b2, qb2a1, qa2b0, qb0a2, qa2b1, qb1a2, qa2b2, qb2a2, qb0b1, qb1b0, qb0b2, qb2b0, qb1b2, qb2b1] }; rw [e]; omega), acqS_yes s2 ks.cB' (by simp [Vx, List.lookup, qkAkB, qkBkA, qkAa0, qa0kA, qkAa1, qa1kA, qkAa2, qa2kA, qkAb0, qb0kA, qkAb1, qb1kA, qkAb2, qb2kA, qkBa0, qa0kB, qkBa1, qa1kB, qkBa2, qa2kB, qkBb0, qb0kB, qkBb1, qb1kB, qkBb2, qb2kB, qa0a1, qa1a0, qa0a2, qa2a0, qa0b0, qb0a0, qa0b1, qb1a0, qa0b2, qb2a0, qa1a2, qa2a1, qa1b0, qb0a1, qa1b1, qb1a1, qa1b2, qb2a1, qa2b0, qb0a2, qa2b1, qb1a2, qa2b2, qb2a2, qb0b1, qb1b0, qb0b2, qb2b0, qb1b2, qb2b1]), s2, ?_, (by have e : ((Vx (t + 11) [(b2, (1, t + 11 + 20)), (a2, (1, t + 11 + 20)), (kB, (am, t + 11 + 10)), (kA, (am, t + 11 + 10)), (b1, (am, t + 20)), (a1, (am, t + 20)), (kB, (0, t + 11)), (kB, (0, t + 11)), (kA, (0, t + 11)), (kA, (0, t + 11))] [(kB, List.replicate am.toNat (t + 11) ++ List.replicate am.toNat t), (kA, List.replicate am.toNat (t + 11) ++ List.replicate am.toNat t), (kB, List.replicate am.toNat t), (kA, List.replicate am.toNat t)])).n (((Vx (t + 11) [(b2, (1, t + 11 + 20)), (a2, (1, t + 11 + 20)), (kB, (am, t + 11 + 10)), (kA, (am, t + 11 + 10)), (b1, (am, t + 20)), (a1, (am, t + 20)), (kB, (0, t + 11)), (kB, (0, t + 11)), (kA, (0, t + 11)), (kA, (0, t + 11))] [(kB, List.replicate am.toNat (t + 11) ++ List.replicate am.toNat t), (kA, List.replicate am.toNat (t + 11) ++ List.replicate am.toNat t), (kB, List.replicate am.toNat t), (kA, List.replicate am.toNat t)])).pk kB) = am := by { rw [show ((Vx (t + 11) [(b2, (1, t + 11 + 20)), (a2, (1, t + 11 + 20)), (kB, (am, t + 11 + 10)), (kA, (am, t + 11 + 10)), (b1, (am, t + 20)), (a1, (am, t + 20)), (kB, (0, t + 11)), (kB, (0, t + 11)), (kA, (0, t + 11)), (kA, (0, t + 11))] [(kB, List.replicate am.toNat (t + 11) ++ List.replicate am.toNat t), (kA, List.replicate am.toNat (t + 11) ++ List.replicate am.toNat t), (kB, List.replicate am.toNat t), (kA, List.replicate am.toNat t)])).pk kB = b1 from ks.pB']; simp [Vx, List.lookup, qkAkB, qkBkA, qkAa0, qa0kA, qkAa1, qa1kA, qkAa2, qa2kA, qkAb0, qb0kA, qkAb1, qb1kA, qkAb2, qb2kA, qkBa0, qa0kB, qkBa1, qa1kB, qkBa2, qa2kB, qkBb0, qb0kB, qkBb1, qb1kB, qkBb2, qb2kB, qa0a1, qa1a0, qa0a2, qa2a0, qa0b0, qb0a0, qa0b1, qb1a0, qa0b2, qb2a0, qa1a2, qa2a1, qa1b0, qb0a1, qa1b1, qb1a1, qa1b2, qb2a1, qa2b0, qb0a2, qa2b1, qb1a2, qa2b2, qb2a2, qb0b1, qb1b0, qb0b2, qb2b0, qb1b2, qb2b1] }; rw [e]; omega),
    kd_of ks.pA ks.cA ks.pB ks.cB ks.kAkB ks.kAa0 ks.kAa1 ks.kAb0 ks.kAb1 ks.kBa0 ks.kBa1 ks.a0b0 ks.a0b1 ks.a1b0 ks.a1b1 ks.a0a1, (by have e : ((Vx t [(b1, (am, t + 20)), (a1, (am, t + 20)), (kB, (am + 1, t + 10)), (kB, (am, t + 10)), (kA, (am + 1, t + 10)), (kA, (am, t + 10))] [(kB, List.replicate am.toNat t), (kA, List.replicate am.toNat t)])).n (((Vx t [(b1, (am, t + 20)), (a1, (am, t + 20)), (kB, (am + 1, t + 10)), (kB, (am, t + 10)), (kA, (am + 1, t + 10)), (kA, (am, t + 10))] [(kB, List.replicate am.toNat t), (kA, List.replicate am.toNat t)])).pk kA) = 0 := by { rw [show ((Vx t [(b1, (am, t + 20)), (a1, (am, t + 20)), (kB, (am + 1, t + 10)), (kB, (am, t + 10)), (kA, (am + 1, t + 10)), (kA, (am, t + 10))] [(kB, List.replicate am.toNat t), (kA, List.replicate am.toNat t)])).pk kA = a0 from ks.pA]; simp [Vx, List.lookup, qkAkB, qkBkA, qkAa0, qa0kA, qkAa1, qa1kA, qkAa2, qa2kA, qkAb0, qb0kA, qkAb1, qb1kA, qkAb2, qb2kA, qkBa0, qa0kB, qkBa1, qa1kB, qkBa2, qa2kB, qkBb0, qb0kB, qkBb1, qb1kB, qkBb2, qb2kB, qa0a1, qa1a0, qa0a2, qa2a0, qa0b0, qb0a0, qa0b1, qb1a0, qa0b2, qb2a0, qa1a2, qa2a1, qa1b0, qb0a1, qa1b1, qb1a1, qa1b2, qb2a1, qa2b0, qb0a2, qa2b1, qb1a2, qa2b2, qb2a2, qb0b1, qb1b0, qb0b2, qb2b0, qb1b2, qb2b1] }; rw [e]; omega), (by have e : ((Vx t [(b1, (am, t + 20)), (a1, (am, t + 20)), (kB, (am + 1, t + 10)), (kB, (am, t + 10)), (kA, (am + 1, t + 10)), (kA, (am, t + 10))] [(kB, List.replicate am.toNat t), (kA, List.replicate am.toNat t)])).n (((Vx t [(b1, (am, t + 20)), (a1, (am, t + 20)), (kB, (am + 1, t + 10)), (kB, (am, t + 10)), (kA, (am + 1, t + 10)), (kA, (am, t + 10))] [(kB, List.replicate am.toNat t), (kA, List.replicate am.toNat t)])).pk kB) = 0 := by { rw [show ((Vx t [(b1, (am, t + 20)), (a1, (am, t + 20)), (kB, (am + 1, t + 10)), (kB, (am, t + 10)), (kA, (am + 1, t + 10)), (kA, (am, t + 10))] [(kB, List.replicate am.toNat t), (kA, List.replicate am.toNat t)])).pk kB = b0 from ks.pB]; simp [Vx, List.lookup, qkAkB, qkBkA, qkAa0, qa0kA, qkAa1, qa1kA, qkAa2, qa2kA, qkAb0, qb0kA, qkAb1, qb1kA, qkAb2, qb2kA, qkBa0, qa0kB, qkBa1, qa1kB, qkBa2, qa2kB, qkBb0, qb0kB, qkBb1, qb1kB, qkBb2, qb2kB, qa0a1, qa1a0, qa0a2, qa2a0, qa0b0, qb0a0, qa0b1, qb1a0, qa0b2, qb2a0, qa1a2, qa2a1, qa1b0, qb0a1, qa1b1, qb1a1, qa1b2, qb2a1, qa2b0, qb0a2, qa2b1, qb1a2, qa2b2, qb2a2, qb0b1, qb1b0, qb0b2, qb2b0, qb1b2, qb2b1] }; rw [e]; omega), g0A, g0B,
    kd_of ks.pA' ks.cA' ks.pB' ks.cB' ks.kAkB ks.kAa1 ks.kAa2 ks.kAb1 ks.kAb2 ks.kBa1 ks.kBa2 ks.a1b1 ks.a1b2 ks.a2b1 ks.a2b2 ks.a1a2, (by have e : ((Vx (t + 11) [(b2, (1, t + 11 + 20)), (a2, (1, t + 11 + 20)), (kB, (am, t + 11 + 10)), (kA, (am, t + 11 + 10)), (b1, (am, t + 20)), (a1, (am, t + 20)), (kB, (0, t + 11)), (kB, (0, t + 11)), (kA, (0, t + 11)), (kA, (0, t + 11))] [(kB, List.replicate am.toNat (t + 11) ++ List.replicate am.toNat t), (kA, List.replicate am.toNat (t + 11) ++ List.replicate am.toNat t), (kB, List.replicate am.toNat t), (kA, List.replicate am.toNat t)])).n (((Vx (t + 11) [(b2, (1, t + 11 + 20)), (a2, (1, t + 11 + 20)), (kB, (am, t + 11 + 10)), (kA, (am, t + 11 + 10)), (b1, (am, t + 20)), (a1, (am, t + 20)), (kB, (0, t + 11)), (kB, (0, t + 11)), (kA, (0, t + 11)), (kA, (0, t + 11))] [(kB, List.replicate am.toNat (t + 11) ++ List.replicate am.toNat t), (kA, List.replicate am.toNat (t + 11) ++ List.replicate am.toNat t), (kB, List.replicate am.toNat t), (kA, List.replicate am.toNat t)])).pk kA) = am := by { rw [show ((Vx (t + 11) [(b2, (1, t + 11 + 20)), (a2, (1, t + 11 + 20)), (kB, (am, t + 11 + 10)), (kA, (am, t + 11 + 10)), (b1, (am, t + 20)), (a1, (am, t + 20)), (kB, (0, t + 11)), (kB, (0, t + 11)), (kA, (0, t + 11)), (kA, (0, t + 11))] [(kB, List.replicate am.toNat (t + 11) ++ List.replicate am.toNat t), (kA, List.replicate am.toNat (t + 11) ++ List.replicate am.toNat t), (kB, List.replicate am.toNat t), (kA, List.replicate am.toNat t)])).pk kA = a1 from ks.pA']; simp [Vx, List.lookup, qkAkB, qkBkA, qkAa0, qa0kA, qkAa1, qa1kA, qkAa2, qa2kA, qkAb0, qb0kA, qkAb1, qb1kA, qkAb2, qb2kA, qkBa0, qa0kB, qkBa1, qa1kB, qkBa2, qa2kB, qkBb0, qb0kB, qkBb1, qb1kB, qkBb2, qb2kB, qa0a1, qa1a0, qa0a2, qa2a0, qa0b0, qb0a0, qa0b1, qb1a0, qa0b2, qb2a0, qa1a2, qa2a1, qa1b0, qb0a1, qa1b1, qb1a1, qa1b2, qb2a1, qa2b0, qb0a2, qa2b1, qb1a2, qa2b2, qb2a2, qb0b1, qb1b0, qb0b2, qb2b0, qb1b2, qb2b1] }; rw [e]; omega), (by have e : ((Vx (t + 11) [(b2, (1, t + 11 + 20)), (a2, (1, t + 11 + 20)), (kB, (am, t + 11 + 10)), (kA, (am, t + 11 + 10)), (b1, (am, t + 20)), (a1, (am, t + 20)), (kB, (0, t + 11)), (kB, (0, t + 11)), (kA, (0, t + 11)), (kA, (0, t + 11))] [(kB, List.replicate am.toNat (t + 11) ++ List.replicate am.toNat t), (kA, List.replicate am.toNat (t + 11) ++ List.replicate am.toNat t), (kB, List.replicate am.toNat t), (kA, List.replicate am.toNat t)])).n (((Vx (t + 11) [(b2, (1, t + 11 + 20)), (a2, (1, t + 11 + 20)), (kB, (am, t + 11 + 10)), (kA, (am, t + 11 + 10)), (b1, (am, t + 20)), (a1, (am, t + 20)), (kB, (0, t + 11)), (kB, (0, t + 11)), (kA, (0, t + 11)), (kA, (0, t + 11))] [(kB, List.replicate am.toNat (t + 11) ++ List.replicate am.toNat t), (kA, List.replicate am.toNat (t + 11) ++ List.replicate am.toNat t), (kB, List.replicate am.toNat t), (kA, List.replicate am.toNat t)])).pk kB) = am := by { rw [show ((Vx (t + 11) [(b2, (1, t + 11 + 20)), (a2, (1, t + 11 + 20)), (kB, (am, t + 11 + 10)), (kA, (am, t + 11 + 10)), (b1, (am, t + 20)), (a1, (am, t + 20)), (kB, (0, t + 11)), (kB, (0, t + 11)), (kA, (0, t + 11)), (kA, (0, t + 11))] [(kB, List.replicate am.toNat (t + 11) ++ List.replicate am.toNat t), (kA, List.replicate am.toNat (t + 11) ++ List.replicate am.toNat t), (kB, List.replicate am.toNat t), (kA, List.replicate am.toNat t)])).pk kB = b1 from ks.pB']; simp [Vx, List.lookup, qkAkB, qkBkA, qkAa0, qa0kA, qkAa1, qa1kA, qkAa2, qa2kA, qkAb0, qb0kA, qkAb1, qb1kA, qkAb2, qb2kA, qkBa0, qa0kB, qkBa1, qa1kB, qkBa2, qa2kB, qkBb0, qb0kB, qkBb1, qb1kB, qkBb2, qb2kB, qa0a1, qa1a0, qa0a2, qa2a0, qa0b0, qb0a0, qa0b1, qb1a0, qa0b2, qb2a0, qa1a2, qa2a1, qa1b0, qb0a1, qa1b1, qb1a1, qa1b2, qb2a1, qa2b0, qb0a2, qa2b1, qb1a2, qa2b2, qb2a2, qb0b1, qb1b0, qb0b2, qb2b0, qb1b2, qb2b1] }; rw [e]; omega), gA7, gB7, z0, h1, z2, y0, y1, y2, y0, y1, y2, y0, y1, y2, y0, y1, y2, y0, y1, y2, y0, y1, y2, y0, y1, y2⟩
  · have : ((Vx (t + 11) [(b1, (am, t + 20)), (a1, (am, t + 20)), (kB, (0, t + 11)), (kB, (0, t + 11)), (kA, (0, t + 11)), (kA, (0, t + 11))] [(kB, List.replicate am.toNat t), (kA, List.replicate am.toNat t)])).n kA = 0 := by simp [Vx, List.lookup, qkAkB, qkBkA, qkAa0, qa0kA, qkAa1, qa1kA, qkAa2, qa2kA, qkAb0, qb0kA, qkAb1, qb1kA, qkAb2, qb2kA, qkBa0, qa0kB, qkBa1, qa1kB, qkBa2, qa2kB, qkBb0, qb0kB, qkBb1, qb1kB, qkBb2, qb2kB, qa0a1, qa1a0, qa0a2, qa2a0, qa0b0, qb0a0, qa0b1, qb1a0, qa0b2, qb2a0, qa1a2, qa2a1, qa1b0, qb0a1, qa1b1, qb1a1, qa1b2, qb2a1, qa2b0, qb0a2, qa2b1, qb1a2, qa2b2, qb2a2, qb0b1, qb1b0, qb0b2, qb2b0, qb1b2, qb2b1]
    rw [this]; simp
  · have : ((Vx (t + 11) [(kA, (am, t + 11 + 10)), (b1, (am, t + 20)), (a1, (am, t + 20)), (kB, (0, t + 11)), (kB, (0, t + 11)), (kA, (0, t + 11)), (kA, (0, t + 11))] [(kB, List.replicate am.toNat t), (kA, List.replicate am.toNat t)])).n kA = am := by simp [Vx, List.lookup, qkAkB, qkBkA, qkAa0, qa0kA, qkAa1, qa1kA, qkAa2, qa2kA, qkAb0, qb0kA, qkAb1, qb1kA, qkAb2, qb2kA, qkBa0, qa0kB, qkBa1, qa1kB, qkBa2, qa2kB, qkBb0, qb0kB, qkBb1, qb1kB, qkBb2, qb2kB, qa0a1, qa1a0, qa0a2, qa2a0, qa0b0, qb0a0, qa0b1, qb1a0, qa0b2, qb2a0, qa1a2, qa2a1, qa1b0, qb0a1, qa1b1, qb1a1, qa1b2, qb2a1, qa2b0, qb0a2, qa2b1, qb1a2, qa2b2, qb2a2, qb0b1, qb1b0, qb0b2, qb2b0, qb1b2, qb2b1]
    rw [this]; simp; omega
  · have : ((Vx (t + 11) [(kA, (am, t + 11 + 10)), (b1, (am, t + 20)), (a1, (am, t + 20)), (kB, (0, t + 11)), (kB, (0, t + 11)), (kA, (0, t + 11)), (kA, (0, t + 11))] [(kB, List.replicate am.toNat t), (kA, List.replicate am.toNat t)])).n kB = 0 := by simp [Vx, List.lookup, qkAkB, qkBkA, qkAa0, qa0kA, qkAa1, qa1kA, qkAa2, qa2kA, qkAb0, qb0kA, qkAb1, qb1kA, qkAb2, qb2kA, qkBa0, qa0kB, qkBa1, qa1kB, qkBa2, qa2kB, qkBb0, qb0kB, qkBb1, qb1kB, qkBb2, qb2kB, qa0a1, qa1a0, qa0a2, qa2a0, qa0b0, qb0a0, qa0b1, qb1a0, qa0b2, qb2a0, qa1a2, qa2a1, qa1b0, qb0a1, qa1b1, qb1a1, qa1b2, qb2a1, qa2b0, qb0a2, qa2b1, qb1a2, qa2b2, qb2a2, qb0b1, qb1b0, qb0b2, qb2b0, qb1b2, qb2b1]
    rw [this]; simp
  · have : ((Vx (t + 11) [(kB, (am, t + 11 + 10)), (kA, (am, t + 11 + 10)), (b1, (am, t + 20)), (a1, (am, t + 20)), (kB, (0, t + 11)), (kB, (0, t + 11)), (kA, (0, t + 11)), (kA, (0, t + 11))] [(kB, List.replicate am.toNat t), (kA, List.replicate am.toNat t)])).n kB = am := by simp [Vx, List.lookup, qkAkB, qkBkA, qkAa0, qa0kA, qkAa1, qa1kA, qkAa2, qa2kA, qkAb0, qb0kA, qkAb1, qb1kA, qkAb2, qb2kA, qkBa0, qa0kB, qkBa1, qa1kB, qkBa2, qa2kB, qkBb0, qb0kB, qkBb1, qb1kB, qkBb2, qb2kB, qa0a1, qa1a0, qa0a2, qa2a0, qa0b0, qb0a0, qa0b1, qb1a0, qa0b2, qb2a0, qa1a2, qa2a1, qa1b0, qb0a1, qa1b1, qb1a1, qa1b2, qb2a1, qa2b0, qb0a2, qa2b1, qb1a2, qa2b2, qb2a2, qb0b1, qb1b0, qb0b2, qb2b0, qb1b2, qb2b1]
    rw [this]; simp; omega
  · simp; omega
  · simp; omega
  · rw [W6]; simp; omega
  · rw [W7]; simp; omega
end
section
-- KeyB
def nText (i : Int) : Str := Str.ofString (toString i)
abbrev keyParts (am : Int) (ids : List Str) : List Str := ids ++ [Str.ofString (toString am), Str.ofString (toString (10 : Int)), Str.ofString "second"]
def keyOf (am : Int) (ids : List Str) : Str := Str.empty ++ Str.ofString "LIMITER" ++ Str.ofString "/" ++ Txt.join (Str.ofString "/") (keyParts am ids)
def keyA (w am : Int) : Str := keyOf am [Str.ofString "a", Str.ofString (toString w)]
def keyB (am : Int) : Str := keyOf am [Str.ofString "b"]
theorem len_a : (Str.ofString "a").length = 1 := by decide +kernel
theorem len_b : (Str.ofString "b").length = 1 := by decide +kernel
theorem len_10 : (Str.ofString (toString (10 : Int))).length = 2 := by decide +kernel
theorem len_s : (Str.ofString "second").length = 6 := by decide +kernel
theorem len_sl : (Str.ofString "/").length = 1 := by decide +kernel
theorem key_okA {w am : Int} (hw : (Str.ofString (toString w)).length ≤ 30) (ha : (Str.ofString (toString am)).length ≤ 30) :
    (([Str.ofString "a", Str.ofString (toString w), Str.ofString (toString am), Str.ofString (toString (10 : Int)), Str.ofString "second"] : List Str).map (·.length)).sum + ([Str.ofString "a", Str.ofString (toString w), Str.ofString (toString am), Str.ofString (toString (10 : Int)), Str.ofString "second"] : List Str).length * (Str.ofString "/").length ≤ 1000 := by
  simp only [List.map_cons, List.map_nil, List.sum_cons, List.sum_nil, List.length_cons, List.length_nil, len_a, len_10, len_s, len_sl]
  omega
theorem key_okB {am : Int} (ha : (Str.ofString (toString am)).length ≤ 30) :
    (([Str.ofString "b", Str.ofString (toString am), Str.ofString (toString (10 : Int)), Str.ofString "second"] : List Str).map (·.length)).sum + ([Str.ofString "b", Str.ofString (toString am), Str.ofString (toString (10 : Int)), Str.ofString "second"] : List Str).length * (Str.ofString "/").length ≤ 1000 := by
  simp only [List.map_cons, List.map_nil, List.sum_cons, List.sum_nil, List.length_cons, List.length_nil, len_b, len_10, len_s, len_sl]
  omega
theorem join_r {prog : Program} {w : World} {A : Around} {E : Value → Shared → Prop} {s : Shared} {x : Str} {t : Tok} {Q : Value → Shared → Prop} {D : Addr} {items : Array Value} {ys : List Str} (hl : s.heap.IsList D items) (hi : StrsAre items.toList ys) (hok : (ys.map (·.length)).sum + ys.length * x.length ≤ 1000)
    (h : ∀ r, r = Txt.join x ys → r.length ≤ 1000 → ∀ t' k, Q (.str r t') { s with toks := k }) : wpAny (model prog w) A (call (.builtin "str.join") [.str x t, .ref D]) Q E s := by
  refine join_list hl hi (Nat.le_trans hok (by decide)) (h _ rfl ?_)
  have h := StrLaws.join_length_le x ys
  show (PySem.Builtin.Str.glued _ _).length ≤ _
  rw [StrLaws.glued_eq_join]
  omega
theorem key_lenA {w am : Int} (hw : (Str.ofString (toString w)).length ≤ 30) (ha : (Str.ofString (toString am)).length ≤ 30) :
    (Txt.join (Str.ofString "/") [Str.ofString "a", Str.ofString (toString w), Str.ofString (toString am), Str.ofString (toString (10 : Int)), Str.ofString "second"]).length ≤ 80 := by
  have h := StrLaws.join_length_le (Str.ofString "/") [Str.ofString "a", Str.ofString (toString w), Str.ofString (toString am), Str.ofString (toString (10 : Int)), Str.ofString "second"]
  simp only [List.map_cons, List.map_nil, List.sum_cons, List.sum_nil, List.length_cons, List.length_nil, len_a, len_10, len_s, len_sl] at h
  show (PySem.Builtin.Str.glued _ _).length ≤ _
  rw [StrLaws.glued_eq_join]
  omega
theorem key_lenB {am : Int} (ha : (Str.ofString (toString am)).length ≤ 30) :
    (Txt.join (Str.ofString "/") [Str.ofString "b", Str.ofString (toString am), Str.ofString (toString (10 : Int)), Str.ofString "second"]).length ≤ 80 := by
  have h := StrLaws.join_length_le (Str.ofString "/") [Str.ofString "b", Str.ofString (toString am), Str.ofString (toString (10 : Int)), Str.ofString "second"]
  simp only [List.map_cons, List.map_nil, List.sum_cons, List.sum_nil, List.length_cons, List.length_nil, len_b, len_10, len_s, len_sl] at h
  show (PySem.Builtin.Str.glued _ _).length ≤ _
  rw [StrLaws.glued_eq_join]
  omega
theorem len_L : (Str.ofString "LIMITER").length = 7 := by decide +kernel
theorem len_e : (Str.empty).length = 0 := by decide +kernel
theorem keyA_len {w am : Int} (hw : (Str.ofString (toString w)).length ≤ 30) (ha : (Str.ofString (toString am)).length ≤ 30) : (keyA w am).length ≤ 100 := by
  have := key_lenA hw ha
  unfold keyA keyOf
  rw [Str.length_append, Str.length_append, Str.length_append, len_L, len_e, len_sl]
  show 0 + 7 + 1 + (Txt.join (Str.ofString "/") [Str.ofString "a", Str.ofString (toString w), Str.ofString (toString am), Str.ofString (toString (10 : Int)), Str.ofString "second"]).length ≤ 100
  omega
theorem keyB_len {am : Int} (ha : (Str.ofString (toString am)).length ≤ 30) : (keyB am).length ≤ 100 := by
  have := key_lenB ha
  unfold keyB keyOf
  rw [Str.length_append, Str.length_append, Str.length_append, len_L, len_e, len_sl]
  show 0 + 7 + 1 + (Txt.join (Str.ofString "/") [Str.ofString "b", Str.ofString (toString am), Str.ofString (toString (10 : Int)), Str.ofString "second"]).length ≤ 100
  omega
end
section
-- Key2
theorem lenKA : ∀ (i : Fin 5) (j : Fin 7), (keyA (i.val : Int) (2 + (j.val : Int))).length = 23 := by decide +kernel
theorem lenKB : ∀ (j : Fin 7), (keyB (2 + (j.val : Int))).length = 21 := by decide +kernel
theorem lenJ : ∀ (i : Fin 102), (Str.ofString (toString (99 + (i.val : Int)))).length = if i.val = 0 then 2 else 3 := by decide +kernel
theorem neJ1 : ∀ (i : Fin 101), Str.ofString (toString (99 + (i.val : Int))) ≠ Str.ofString (toString (99 + (i.val : Int) + 1)) := by decide +kernel
theorem neJ2 : ∀ (i : Fin 100), Str.ofString (toString (99 + (i.val : Int))) ≠ Str.ofString (toString (99 + (i.val : Int) + 2)) := by decide +kernel
theorem lenN1 : ∀ (i : Fin 9), (Str.ofString (toString (i.val : Int))).length ≤ 30 := by decide +kernel
theorem str_cancel {a b c : Str} (h : a ++ b = a ++ c) : b = c := by
  have e := congrArg Str.cps h
  have e1 : a.cps ++ b.cps = a.cps ++ c.cps := e
  have e2 := Array.append_right_inj a.cps |>.mp e1
  cases b; cases c
  exact congrArg Str.mk e2
theorem skey_len (k : Str) (j : Int) : (skey k j).length = k.length + 1 + (Str.ofString (toString j)).length := by
  unfold skey
  rw [Str.length_append, Str.length_append, Str.length_append, len_e, len_sl]
  omega
theorem skey_ne {k : Str} {i j : Int} (h : Str.ofString (toString i) ≠ Str.ofString (toString j)) : skey k i ≠ skey k j := fun e => h (str_cancel e)
theorem ks_of {q w am : Int} (hq : 0 ≤ q) (hq2 : q < 100) (hw : 0 ≤ w) (hw2 : w < 5) (ha : 2 ≤ am) (ha2 : am ≤ 8) :
    Ks (1000 + 10 * q) (keyA w am) (keyB am) (skey (keyA w am) (99 + q)) (skey (keyA w am) (99 + q + 1)) (skey (keyA w am) (99 + q + 2)) (skey (keyB am) (99 + q)) (skey (keyB am) (99 + q + 1)) (skey (keyB am) (99 + q + 2)) := by
  have e0 : (1000 + 10 * q - 10).fdiv 10 = 99 + q := by rw [Int.fdiv_eq_ediv_of_nonneg _ (by decide)]; omega
  have e1 : (1000 + 10 * q).fdiv 10 = 99 + q + 1 := by rw [Int.fdiv_eq_ediv_of_nonneg _ (by decide)]; omega
  have e2 : (1000 + 10 * q + 11 - 10).fdiv 10 = 99 + q + 1 := by rw [Int.fdiv_eq_ediv_of_nonneg _ (by decide)]; omega
  have e3 : (1000 + 10 * q + 11).fdiv 10 = 99 + q + 2 := by rw [Int.fdiv_eq_ediv_of_nonneg _ (by decide)]; omega
  have e4 : (1000 + 10 * q + 11 - 10).fmod 10 = 1 := by rw [Int.fmod_eq_emod_of_nonneg _ (by decide)]; omega
  have lA : (keyA w am).length = 23 := by
    have := lenKA ⟨w.toNat, by omega⟩ ⟨(am - 2).toNat, by omega⟩
    simp only at this
    rwa [show ((w.toNat : Nat) : Int) = w by omega, show (2 + (((am - 2).toNat : Nat) : Int)) = am by omega] at this
  have lB : (keyB am).length = 21 := by
    have := lenKB ⟨(am - 2).toNat, by omega⟩
    simp only at this
    rwa [show (2 + (((am - 2).toNat : Nat) : Int)) = am by omega] at this
  have lj : ∀ j : Int, 99 ≤ j → j < 201 → 2 ≤ (Str.ofString (toString j)).length ∧ (Str.ofString (toString j)).length ≤ 3 := by
    intro j h1 h2
    have := lenJ ⟨(j - 99).toNat, by omega⟩
    simp only at this
    rw [show (99 + (((j - 99).toNat : Nat) : Int)) = j by omega] at this
    rw [this]; split <;> omega
  have l0 := lj (99 + q) (by omega) (by omega)
  have l1 := lj (99 + q + 1) (by omega) (by omega)
  have l2 := lj (99 + q + 2) (by omega) (by omega)
  have n01 : Str.ofString (toString (99 + q)) ≠ Str.ofString (toString (99 + q + 1)) := by
    have := neJ1 ⟨q.toNat, by omega⟩
    simp only at this
    rwa [show ((q.toNat : Nat) : Int) = q by omega] at this
  have n12 : Str.ofString (toString (99 + q + 1)) ≠ Str.ofString (toString (99 + q + 2)) := by
    have := neJ1 ⟨(q + 1).toNat, by omega⟩
    simp only at this
    rwa [show (99 + (((q + 1).toNat : Nat) : Int)) = 99 + q + 1 by omega, show (99 + q + 1 + 1) = 99 + q + 2 by omega] at this
  have n02 : Str.ofString (toString (99 + q)) ≠ Str.ofString (toString (99 + q + 2)) := by
    have := neJ2 ⟨q.toNat, by omega⟩
    simp only at this
    rwa [show ((q.toNat : Nat) : Int) = q by omega] at this
  have LN : ∀ {x y : Str}, x.length ≠ y.length → x ≠ y := fun h e => h (congrArg Str.length e)
  constructor
  case pA => rw [e0]
  case cA => rw [e1]
  case pA' => rw [e2]
  case cA' => rw [e3]
  case pB => rw [e0]
  case cB => rw [e1]
  case pB' => rw [e2]
  case cB' => rw [e3]
  case fm => exact e4
  case a0a1 => exact skey_ne n01
  case a0a2 => exact skey_ne n02
  case a1a2 => exact skey_ne n12
  case b0b1 => exact skey_ne n01
  case b0b2 => exact skey_ne n02
  case b1b2 => exact skey_ne n12
  all_goals (refine LN ?_; simp only [skey_len, lA, lB]; omega)
end
section
-- LawB
section
variable {n : Nat} {prog : Program} {w : World} {A₀ A : Around} {s : Shared} {base h₀ : Heap} {outer : List Env} {L a : Addr} {m : Str → Option Value} {env : Env} {cn : Str} {cs : Scope} {ccd : Value} {need : List (Addr × Obj)} {K : Frag}
  {p : Program} {loose : List Str} {mean : ExcName → Option Value} {mg mb : Str → Option Value} {f : Addr} {args : Args} {post : Value → List (Addr × Obj) → Prop} {Q E : Value → Shared → Prop} {pos : List Value} {kw : List (Str × Value)} {q1 q2 q3 q4 q5 q6 q7 q8 : Addr × Obj}
theorem callX0 (C : Ctr n prog w K p loose mean mg mb f ⟨pos, kw⟩ need post) (B : Below A₀ base outer h₀) (F : Fr h₀ L s.heap m) (XK : K.In h₀) (N : News h₀ L s.heap (need)) (T : Top p loose mean mg mb h₀) 
    (hA : A.frames = some (env :: outer)) (hf : env.frame = some L) (hke : env.scope.kind = .function) (hh : A.handled = none) (hd : A.depth + 3 * n < recursionLimit) (hu : A.units + 40 * n < cLine)
    (k : ∀ v h' tk' news', Fr h₀ L h' m → News h₀ L h' (news') → post v news' → Q v { s with heap := h', toks := tk' }) :
    wpAny (model prog w) A (PySem.call (.ref f) pos kw) Q E s :=
  C.callX [] B F XK N T (fun q hq => nomatch hq) hA hf hke hh hd hu fun v h' tk' news' F' N' hA' hp => k v h' tk' news' F' N'  hp
theorem callT0 (C : CtrT n prog w K p loose mean mg mb f ⟨pos, kw⟩ need post) (B : Below A₀ base outer h₀) (F : Fr h₀ L s.heap m) (XK : K.In h₀) (N : News h₀ L s.heap (need)) (T : Top p loose mean mg mb h₀) 
    (XB : K.In base) (TB : Top p loose mean mg mb base) (D : KtsDicts (frs outer) h₀)
    (hA : A.frames = some (envOf cn cs L a ccd :: outer)) (hke : cs.kind = .function) (hh : A.handled = none) (hd : A.depth + 3 * n < recursionLimit) (hu : A.units + 40 * n < cLine)
    (k : ∀ v h' tk' news' g, KtsTurn (frs outer) h₀ g → Below A₀ base outer g → K.In g → Top p loose mean mg mb g → KtsDicts (frs outer) g → Fr g L h' m → News g L h' (news') → post v news' → Q v { s with heap := h', toks := tk' }) :
    wpAny (model prog w) A (PySem.call (.ref f) pos kw) Q E s :=
  C.callX [] B F XK N T (fun q hq => nomatch hq) XB TB D hA hke hh hd hu fun v h' tk' news' g T' B' X' P' D' F' N' hA' hp => k v h' tk' news' g T' B' X' P' D' F' N'  hp
theorem callX1 (C : Ctr n prog w K p loose mean mg mb f ⟨pos, kw⟩ need post) (B : Below A₀ base outer h₀) (F : Fr h₀ L s.heap m) (XK : K.In h₀) (N : News h₀ L s.heap (q1 :: need)) (T : Top p loose mean mg mb h₀) (a1 : ∀ r ∈ need, r.1 ≠ q1.1)
    (hA : A.frames = some (env :: outer)) (hf : env.frame = some L) (hke : env.scope.kind = .function) (hh : A.handled = none) (hd : A.depth + 3 * n < recursionLimit) (hu : A.units + 40 * n < cLine)
    (k : ∀ v h' tk' news', Fr h₀ L h' m → News h₀ L h' (q1 :: news') → (∀ r ∈ news', r.1 ≠ q1.1) → post v news' → Q v { s with heap := h', toks := tk' }) :
    wpAny (model prog w) A (PySem.call (.ref f) pos kw) Q E s :=
  C.callX [q1] B F XK N T (fun q hq => by rw [List.mem_singleton.mp hq]; exact a1) hA hf hke hh hd hu fun v h' tk' news' F' N' hA' hp => k v h' tk' news' F' N' (hA' _ (List.mem_cons_self)) hp
theorem callT1 (C : CtrT n prog w K p loose mean mg mb f ⟨pos, kw⟩ need post) (B : Below A₀ base outer h₀) (F : Fr h₀ L s.heap m) (XK : K.In h₀) (N : News h₀ L s.heap (q1 :: need)) (T : Top p loose mean mg mb h₀) (a1 : ∀ r ∈ need, r.1 ≠ q1.1)
    (XB : K.In base) (TB : Top p loose mean mg mb base) (D : KtsDicts (frs outer) h₀)
    (hA : A.frames = some (envOf cn cs L a ccd :: outer)) (hke : cs.kind = .function) (hh : A.handled = none) (hd : A.depth + 3 * n < recursionLimit) (hu : A.units + 40 * n < cLine)
    (k : ∀ v h' tk' news' g, KtsTurn (frs outer) h₀ g → Below A₀ base outer g → K.In g → Top p loose mean mg mb g → KtsDicts (frs outer) g → Fr g L h' m → News g L h' (q1 :: news') → (∀ r ∈ news', r.1 ≠ q1.1) → post v news' → Q v { s with heap := h', toks := tk' }) :
    wpAny (model prog w) A (PySem.call (.ref f) pos kw) Q E s :=
  C.callX [q1] B F XK N T (fun q hq => by rw [List.mem_singleton.mp hq]; exact a1) XB TB D hA hke hh hd hu fun v h' tk' news' g T' B' X' P' D' F' N' hA' hp => k v h' tk' news' g T' B' X' P' D' F' N' (hA' _ (List.mem_cons_self)) hp
theorem callX2 (C : Ctr n prog w K p loose mean mg mb f ⟨pos, kw⟩ need post) (B : Below A₀ base outer h₀) (F : Fr h₀ L s.heap m) (XK : K.In h₀) (N : News h₀ L s.heap (q1 :: q2 :: need)) (T : Top p loose mean mg mb h₀) (a1 : ∀ r ∈ need, r.1 ≠ q1.1) (a2 : ∀ r ∈ need, r.1 ≠ q2.1)
    (hA : A.frames = some (env :: outer)) (hf : env.frame = some L) (hke : env.scope.kind = .function) (hh : A.handled = none) (hd : A.depth + 3 * n < recursionLimit) (hu : A.units + 40 * n < cLine)
    (k : ∀ v h' tk' news', Fr h₀ L h' m → News h₀ L h' (q1 :: q2 :: news') → (∀ r ∈ news', r.1 ≠ q1.1) → (∀ r ∈ news', r.1 ≠ q2.1) → post v news' → Q v { s with heap := h', toks := tk' }) :
    wpAny (model prog w) A (PySem.call (.ref f) pos kw) Q E s :=
  C.callX [q1, q2] B F XK N T (fun q hq => by simp only [List.mem_cons, List.not_mem_nil, or_false] at hq; rcases hq with rfl | rfl <;> assumption) hA hf hke hh hd hu fun v h' tk' news' F' N' hA' hp => k v h' tk' news' F' N' (hA' _ (List.mem_cons_self)) (hA' _ ((.tail _ (.head _)))) hp
theorem callT2 (C : CtrT n prog w K p loose mean mg mb f ⟨pos, kw⟩ need post) (B : Below A₀ base outer h₀) (F : Fr h₀ L s.heap m) (XK : K.In h₀) (N : News h₀ L s.heap (q1 :: q2 :: need)) (T : Top p loose mean mg mb h₀) (a1 : ∀ r ∈ need, r.1 ≠ q1.1) (a2 : ∀ r ∈ need, r.1 ≠ q2.1)
    (XB : K.In base) (TB : Top p loose mean mg mb base) (D : KtsDicts (frs outer) h₀)
    (hA : A.frames = some (envOf cn cs L a ccd :: outer)) (hke : cs.kind = .function) (hh : A.handled = none) (hd : A.depth + 3 * n < recursionLimit) (hu : A.units + 40 * n < cLine)
    (k : ∀ v h' tk' news' g, KtsTurn (frs outer) h₀ g → Below A₀ base outer g → K.In g → Top p loose mean mg mb g → KtsDicts (frs outer) g → Fr g L h' m → News g L h' (q1 :: q2 :: news') → (∀ r ∈ news', r.1 ≠ q1.1) → (∀ r ∈ news', r.1 ≠ q2.1) → post v news' → Q v { s with heap := h', toks := tk' }) :
    wpAny (model prog w) A (PySem.call (.ref f) pos kw) Q E s :=
  C.callX [q1, q2] B F XK N T (fun q hq => by simp only [List.mem_cons, List.not_mem_nil, or_false] at hq; rcases hq with rfl | rfl <;> assumption) XB TB D hA hke hh hd hu fun v h' tk' news' g T' B' X' P' D' F' N' hA' hp => k v h' tk' news' g T' B' X' P' D' F' N' (hA' _ (List.mem_cons_self)) (hA' _ ((.tail _ (.head _)))) hp
theorem callX3 (C : Ctr n prog w K p loose mean mg mb f ⟨pos, kw⟩ need post) (B : Below A₀ base outer h₀) (F : Fr h₀ L s.heap m) (XK : K.In h₀) (N : News h₀ L s.heap (q1 :: q2 :: q3 :: need)) (T : Top p loose mean mg mb h₀) (a1 : ∀ r ∈ need, r.1 ≠ q1.1) (a2 : ∀ r ∈ need, r.1 ≠ q2.1) (a3 : ∀ r ∈ need, r.1 ≠ q3.1)
    (hA : A.frames = some (env :: outer)) (hf : env.frame = some L) (hke : env.scope.kind = .function) (hh : A.handled = none) (hd : A.depth + 3 * n < recursionLimit) (hu : A.units + 40 * n < cLine)
    (k : ∀ v h' tk' news', Fr h₀ L h' m → News h₀ L h' (q1 :: q2 :: q3 :: news') → (∀ r ∈ news', r.1 ≠ q1.1) → (∀ r ∈ news', r.1 ≠ q2.1) → (∀ r ∈ news', r.1 ≠ q3.1) → post v news' → Q v { s with heap := h', toks := tk' }) :
    wpAny (model prog w) A (PySem.call (.ref f) pos kw) Q E s :=
  C.callX [q1, q2, q3] B F XK N T (fun q hq => by simp only [List.mem_cons, List.not_mem_nil, or_false] at hq; rcases hq with rfl | rfl | rfl <;> assumption) hA hf hke hh hd hu fun v h' tk' news' F' N' hA' hp => k v h' tk' news' F' N' (hA' _ (List.mem_cons_self)) (hA' _ ((.tail _ (.head _)))) (hA' _ ((.tail _ (.tail _ (.head _))))) hp
theorem callT3 (C : CtrT n prog w K p loose mean mg mb f ⟨pos, kw⟩ need post) (B : Below A₀ base outer h₀) (F : Fr h₀ L s.heap m) (XK : K.In h₀) (N : News h₀ L s.heap (q1 :: q2 :: q3 :: need)) (T : Top p loose mean mg mb h₀) (a1 : ∀ r ∈ need, r.1 ≠ q1.1) (a2 : ∀ r ∈ need, r.1 ≠ q2.1) (a3 : ∀ r ∈ need, r.1 ≠ q3.1)
    (XB : K.In base) (TB : Top p loose mean mg mb base) (D : KtsDicts (frs outer) h₀)
    (hA : A.frames = some (envOf cn cs L a ccd :: outer)) (hke : cs.kind = .function) (hh : A.handled = none) (hd : A.depth + 3 * n < recursionLimit) (hu : A.units + 40 * n < cLine)
    (k : ∀ v h' tk' news' g, KtsTurn (frs outer) h₀ g → Below A₀ base outer g → K.In g → Top p loose mean mg mb g → KtsDicts (frs outer) g → Fr g L h' m → News g L h' (q1 :: q2 :: q3 :: news') → (∀ r ∈ news', r.1 ≠ q1.1) → (∀ r ∈ news', r.1 ≠ q2.1) → (∀ r ∈ news', r.1 ≠ q3.1) → post v news' → Q v { s with heap := h', toks := tk' }) :
    wpAny (model prog w) A (PySem.call (.ref f) pos kw) Q E s :=
  C.callX [q1, q2, q3] B F XK N T (fun q hq => by simp only [List.mem_cons, List.not_mem_nil, or_false] at hq; rcases hq with rfl | rfl | rfl <;> assumption) XB TB D hA hke hh hd hu fun v h' tk' news' g T' B' X' P' D' F' N' hA' hp => k v h' tk' news' g T' B' X' P' D' F' N' (hA' _ (List.mem_cons_self)) (hA' _ ((.tail _ (.head _)))) (hA' _ ((.tail _ (.tail _ (.head _))))) hp
theorem callX4 (C : Ctr n prog w K p loose mean mg mb f ⟨pos, kw⟩ need post) (B : Below A₀ base outer h₀) (F : Fr h₀ L s.heap m) (XK : K.In h₀) (N : News h₀ L s.heap (q1 :: q2 :: q3 :: q4 :: need)) (T : Top p loose mean mg mb h₀) (a1 : ∀ r ∈ need, r.1 ≠ q1.1) (a2 : ∀ r ∈ need, r.1 ≠ q2.1) (a3 : ∀ r ∈ need, r.1 ≠ q3.1) (a4 : ∀ r ∈ need, r.1 ≠ q4.1)
    (hA : A.frames = some (env :: outer)) (hf : env.frame = some L) (hke : env.scope.kind = .function) (hh : A.handled = none) (hd : A.depth + 3 * n < recursionLimit) (hu : A.units + 40 * n < cLine)
    (k : ∀ v h' tk' news', Fr h₀ L h' m → News h₀ L h' (q1 :: q2 :: q3 :: q4 :: news') → (∀ r ∈ news', r.1 ≠ q1.1) → (∀ r ∈ news', r.1 ≠ q2.1) → (∀ r ∈ news', r.1 ≠ q3.1) → (∀ r ∈ news', r.1 ≠ q4.1) → post v news' → Q v { s with heap := h', toks := tk' }) :
    wpAny (model prog w) A (PySem.call (.ref f) pos kw) Q E s :=
  C.callX [q1, q2, q3, q4] B F XK N T (fun q hq => by simp only [List.mem_cons, List.not_mem_nil, or_false] at hq; rcases hq with rfl | rfl | rfl | rfl <;> assumption) hA hf hke hh hd hu fun v h' tk' news' F' N' hA' hp => k v h' tk' news' F' N' (hA' _ (List.mem_cons_self)) (hA' _ ((.tail _ (.head _)))) (hA' _ ((.tail _ (.tail _ (.head _))))) (hA' _ ((.tail _ (.tail _ (.tail _ (.head _)))))) hp
theorem callT4 (C : CtrT n prog w K p loose mean mg mb f ⟨pos, kw⟩ need post) (B : Below A₀ base outer h₀) (F : Fr h₀ L s.heap m) (XK : K.In h₀) (N : News h₀ L s.heap (q1 :: q2 :: q3 :: q4 :: need)) (T : Top p loose mean mg mb h₀) (a1 : ∀ r ∈ need, r.1 ≠ q1.1) (a2 : ∀ r ∈ need, r.1 ≠ q2.1) (a3 : ∀ r ∈ need, r.1 ≠ q3.1) (a4 : ∀ r ∈ need, r.1 ≠ q4.1)
    (XB : K.In base) (TB : Top p loose mean mg mb base) (D : KtsDicts (frs outer) h₀)
    (hA : A.frames = some (envOf cn cs L a ccd :: outer)) (hke : cs.kind = .function) (hh : A.handled = none) (hd : A.depth + 3 * n < recursionLimit) (hu : A.units + 40 * n < cLine)
    (k : ∀ v h' tk' news' g, KtsTurn (frs outer) h₀ g → Below A₀ base outer g → K.In g → Top p loose mean mg mb g → KtsDicts (frs outer) g → Fr g L h' m → News g L h' (q1 :: q2 :: q3 :: q4 :: news') → (∀ r ∈ news', r.1 ≠ q1.1) → (∀ r ∈ news', r.1 ≠ q2.1) → (∀ r ∈ news', r.1 ≠ q3.1) → (∀ r ∈ news', r.1 ≠ q4.1) → post v news' → Q v { s with heap := h', toks := tk' }) :
    wpAny (model prog w) A (PySem.call (.ref f) pos kw) Q E s :=
  C.callX [q1, q2, q3, q4] B F XK N T (fun q hq => by simp only [List.mem_cons, List.not_mem_nil, or_false] at hq; rcases hq with rfl | rfl | rfl | rfl <;> assumption) XB TB D hA hke hh hd hu fun v h' tk' news' g T' B' X' P' D' F' N' hA' hp => k v h' tk' news' g T' B' X' P' D' F' N' (hA' _ (List.mem_cons_self)) (hA' _ ((.tail _ (.head _)))) (hA' _ ((.tail _ (.tail _ (.head _))))) (hA' _ ((.tail _ (.tail _ (.tail _ (.head _)))))) hp
theorem callX5 (C : Ctr n prog w K p loose mean mg mb f ⟨pos, kw⟩ need post) (B : Below A₀ base outer h₀) (F : Fr h₀ L s.heap m) (XK : K.In h₀) (N : News h₀ L s.heap (q1 :: q2 :: q3 :: q4 :: q5 :: need)) (T : Top p loose mean mg mb h₀) (a1 : ∀ r ∈ need, r.1 ≠ q1.1) (a2 : ∀ r ∈ need, r.1 ≠ q2.1) (a3 : ∀ r ∈ need, r.1 ≠ q3.1) (a4 : ∀ r ∈ need, r.1 ≠ q4.1) (a5 : ∀ r ∈ need, r.1 ≠ q5.1)
    (hA : A.frames = some (env :: outer)) (hf : env.frame = some L) (hke : env.scope.kind = .function) (hh : A.handled = none) (hd : A.depth + 3 * n < recursionLimit) (hu : A.units + 40 * n < cLine)
    (k : ∀ v h' tk' news', Fr h₀ L h' m → News h₀ L h' (q1 :: q2 :: q3 :: q4 :: q5 :: news') → (∀ r ∈ news', r.1 ≠ q1.1) → (∀ r ∈ news', r.1 ≠ q2.1) → (∀ r ∈ news', r.1 ≠ q3.1) → (∀ r ∈ news', r.1 ≠ q4.1) → (∀ r ∈ news', r.1 ≠ q5.1) → post v news' → Q v { s with heap := h', toks := tk' }) :
    wpAny (model prog w) A (PySem.call (.ref f) pos kw) Q E s :=
  C.callX [q1, q2, q3, q4, q5] B F XK N T (fun q hq => by simp only [List.mem_cons, List.not_mem_nil, or_false] at hq; rcases hq with rfl | rfl | rfl | rfl | rfl <;> assumption) hA hf hke hh hd hu fun v h' tk' news' F' N' hA' hp => k v h' tk' news' F' N' (hA' _ (List.mem_cons_self)) (hA' _ ((.tail _ (.head _)))) (hA' _ ((.tail _ (.tail _ (.head _))))) (hA' _ ((.tail _ (.tail _ (.tail _ (.head _)))))) (hA' _ ((.tail _ (.tail _ (.tail _ (.tail _ (.head _))))))) hp
theorem callT5 (C : CtrT n prog w K p loose mean mg mb f ⟨pos, kw⟩ need post) (B : Below A₀ base outer h₀) (F : Fr h₀ L s.heap m) (XK : K.In h₀) (N : News h₀ L s.heap (q1 :: q2 :: q3 :: q4 :: q5 :: need)) (T : Top p loose mean mg mb h₀) (a1 : ∀ r ∈ need, r.1 ≠ q1.1) (a2 : ∀ r ∈ need, r.1 ≠ q2.1) (a3 : ∀ r ∈ need, r.1 ≠ q3.1) (a4 : ∀ r ∈ need, r.1 ≠ q4.1) (a5 : ∀ r ∈ need, r.1 ≠ q5.1)
    (XB : K.In base) (TB : Top p loose mean mg mb base) (D : KtsDicts (frs outer) h₀)
    (hA : A.frames = some (envOf cn cs L a ccd :: outer)) (hke : cs.kind = .function) (hh : A.handled = none) (hd : A.depth + 3 * n < recursionLimit) (hu : A.units + 40 * n < cLine)
    (k : ∀ v h' tk' news' g, KtsTurn (frs outer) h₀ g → Below A₀ base outer g → K.In g → Top p loose mean mg mb g → KtsDicts (frs outer) g → Fr g L h' m → News g L h' (q1 :: q2 :: q3 :: q4 :: q5 :: news') → (∀ r ∈ news', r.1 ≠ q1.1) → (∀ r ∈ news', r.1 ≠ q2.1) → (∀ r ∈ news', r.1 ≠ q3.1) → (∀ r ∈ news', r.1 ≠ q4.1) → (∀ r ∈ news', r.1 ≠ q5.1) → post v news' → Q v { s with heap := h', toks := tk' }) :
    wpAny (model prog w) A (PySem.call (.ref f) pos kw) Q E s :=
  C.callX [q1, q2, q3, q4, q5] B F XK N T (fun q hq => by simp only [List.mem_cons, List.not_mem_nil, or_false] at hq; rcases hq with rfl | rfl | rfl | rfl | rfl <;> assumption) XB TB D hA hke hh hd hu fun v h' tk' news' g T' B' X' P' D' F' N' hA' hp => k v h' tk' news' g T' B' X' P' D' F' N' (hA' _ (List.mem_cons_self)) (hA' _ ((.tail _ (.head _)))) (hA' _ ((.tail _ (.tail _ (.head _))))) (hA' _ ((.tail _ (.tail _ (.tail _ (.head _)))))) (hA' _ ((.tail _ (.tail _ (.tail _ (.tail _ (.head _))))))) hp
theorem callX6 (C : Ctr n prog w K p loose mean mg mb f ⟨pos, kw⟩ need post) (B : Below A₀ base outer h₀) (F : Fr h₀ L s.heap m) (XK : K.In h₀) (N : News h₀ L s.heap (q1 :: q2 :: q3 :: q4 :: q5 :: q6 :: need)) (T : Top p loose mean mg mb h₀) (a1 : ∀ r ∈ need, r.1 ≠ q1.1) (a2 : ∀ r ∈ need, r.1 ≠ q2.1) (a3 : ∀ r ∈ need, r.1 ≠ q3.1) (a4 : ∀ r ∈ need, r.1 ≠ q4.1) (a5 : ∀ r ∈ need, r.1 ≠ q5.1) (a6 : ∀ r ∈ need, r.1 ≠ q6.1)
    (hA : A.frames = some (env :: outer)) (hf : env.frame = some L) (hke : env.scope.kind = .function) (hh : A.handled = none) (hd : A.depth + 3 * n < recursionLimit) (hu : A.units + 40 * n < cLine)
    (k : ∀ v h' tk' news', Fr h₀ L h' m → News h₀ L h' (q1 :: q2 :: q3 :: q4 :: q5 :: q6 :: news') → (∀ r ∈ news', r.1 ≠ q1.1) → (∀ r ∈ news', r.1 ≠ q2.1) → (∀ r ∈ news', r.1 ≠ q3.1) → (∀ r ∈ news', r.1 ≠ q4.1) → (∀ r ∈ news', r.1 ≠ q5.1) → (∀ r ∈ news', r.1 ≠ q6.1) → post v news' → Q v { s with heap := h', toks := tk' }) :
    wpAny (model prog w) A (PySem.call (.ref f) pos kw) Q E s :=
  C.callX [q1, q2, q3, q4, q5, q6] B F XK N T (fun q hq => by simp only [List.mem_cons, List.not_mem_nil, or_false] at hq; rcases hq with rfl | rfl | rfl | rfl | rfl | rfl <;> assumption) hA hf hke hh hd hu fun v h' tk' news' F' N' hA' hp => k v h' tk' news' F' N' (hA' _ (List.mem_cons_self)) (hA' _ ((.tail _ (.head _)))) (hA' _ ((.tail _ (.tail _ (.head _))))) (hA' _ ((.tail _ (.tail _ (.tail _ (.head _)))))) (hA' _ ((.tail _ (.tail _ (.tail _ (.tail _ (.head _))))))) (hA' _ ((.tail _ (.tail _ (.tail _ (.tail _ (.tail _ (.head _)))))))) hp
theorem callX7 (C : Ctr n prog w K p loose mean mg mb f ⟨pos, kw⟩ need post) (B : Below A₀ base outer h₀) (F : Fr h₀ L s.heap m) (XK : K.In h₀) (N : News h₀ L s.heap (q1 :: q2 :: q3 :: q4 :: q5 :: q6 :: q7 :: need)) (T : Top p loose mean mg mb h₀) (a1 : ∀ r ∈ need, r.1 ≠ q1.1) (a2 : ∀ r ∈ need, r.1 ≠ q2.1) (a3 : ∀ r ∈ need, r.1 ≠ q3.1) (a4 : ∀ r ∈ need, r.1 ≠ q4.1) (a5 : ∀ r ∈ need, r.1 ≠ q5.1) (a6 : ∀ r ∈ need, r.1 ≠ q6.1) (a7 : ∀ r ∈ need, r.1 ≠ q7.1)
    (hA : A.frames = some (env :: outer)) (hf : env.frame = some L) (hke : env.scope.kind = .function) (hh : A.handled = none) (hd : A.depth + 3 * n < recursionLimit) (hu : A.units + 40 * n < cLine)
    (k : ∀ v h' tk' news', Fr h₀ L h' m → News h₀ L h' (q1 :: q2 :: q3 :: q4 :: q5 :: q6 :: q7 :: news') → (∀ r ∈ news', r.1 ≠ q1.1) → (∀ r ∈ news', r.1 ≠ q2.1) → (∀ r ∈ news', r.1 ≠ q3.1) → (∀ r ∈ news', r.1 ≠ q4.1) → (∀ r ∈ news', r.1 ≠ q5.1) → (∀ r ∈ news', r.1 ≠ q6.1) → (∀ r ∈ news', r.1 ≠ q7.1) → post v news' → Q v { s with heap := h', toks := tk' }) :
    wpAny (model prog w) A (PySem.call (.ref f) pos kw) Q E s :=
  C.callX [q1, q2, q3, q4, q5, q6, q7] B F XK N T (fun q hq => by simp only [List.mem_cons, List.not_mem_nil, or_false] at hq; rcases hq with rfl | rfl | rfl | rfl | rfl | rfl | rfl <;> assumption) hA hf hke hh hd hu fun v h' tk' news' F' N' hA' hp => k v h' tk' news' F' N' (hA' _ (List.mem_cons_self)) (hA' _ ((.tail _ (.head _)))) (hA' _ ((.tail _ (.tail _ (.head _))))) (hA' _ ((.tail _ (.tail _ (.tail _ (.head _)))))) (hA' _ ((.tail _ (.tail _ (.tail _ (.tail _ (.head _))))))) (hA' _ ((.tail _ (.tail _ (.tail _ (.tail _ (.tail _ (.head _)))))))) (hA' _ ((.tail _ (.tail _ (.tail _ (.tail _ (.tail _ (.tail _ (.head _))))))))) hp
theorem callX8 (C : Ctr n prog w K p loose mean mg mb f ⟨pos, kw⟩ need post) (B : Below A₀ base outer h₀) (F : Fr h₀ L s.heap m) (XK : K.In h₀) (N : News h₀ L s.heap (q1 :: q2 :: q3 :: q4 :: q5 :: q6 :: q7 :: q8 :: need)) (T : Top p loose mean mg mb h₀) (a1 : ∀ r ∈ need, r.1 ≠ q1.1) (a2 : ∀ r ∈ need, r.1 ≠ q2.1) (a3 : ∀ r ∈ need, r.1 ≠ q3.1) (a4 : ∀ r ∈ need, r.1 ≠ q4.1) (a5 : ∀ r ∈ need, r.1 ≠ q5.1) (a6 : ∀ r ∈ need, r.1 ≠ q6.1) (a7 : ∀ r ∈ need, r.1 ≠ q7.1) (a8 : ∀ r ∈ need, r.1 ≠ q8.1)
    (hA : A.frames = some (env :: outer)) (hf : env.frame = some L) (hke : env.scope.kind = .function) (hh : A.handled = none) (hd : A.depth + 3 * n < recursionLimit) (hu : A.units + 40 * n < cLine)
    (k : ∀ v h' tk' news', Fr h₀ L h' m → News h₀ L h' (q1 :: q2 :: q3 :: q4 :: q5 :: q6 :: q7 :: q8 :: news') → (∀ r ∈ news', r.1 ≠ q1.1) → (∀ r ∈ news', r.1 ≠ q2.1) → (∀ r ∈ news', r.1 ≠ q3.1) → (∀ r ∈ news', r.1 ≠ q4.1) → (∀ r ∈ news', r.1 ≠ q5.1) → (∀ r ∈ news', r.1 ≠ q6.1) → (∀ r ∈ news', r.1 ≠ q7.1) → (∀ r ∈ news', r.1 ≠ q8.1) → post v news' → Q v { s with heap := h', toks := tk' }) :
    wpAny (model prog w) A (PySem.call (.ref f) pos kw) Q E s :=
  C.callX [q1, q2, q3, q4, q5, q6, q7, q8] B F XK N T (fun q hq => by simp only [List.mem_cons, List.not_mem_nil, or_false] at hq; rcases hq with rfl | rfl | rfl | rfl | rfl | rfl | rfl | rfl <;> assumption) hA hf hke hh hd hu fun v h' tk' news' F' N' hA' hp => k v h' tk' news' F' N' (hA' _ (List.mem_cons_self)) (hA' _ ((.tail _ (.head _)))) (hA' _ ((.tail _ (.tail _ (.head _))))) (hA' _ ((.tail _ (.tail _ (.tail _ (.head _)))))) (hA' _ ((.tail _ (.tail _ (.tail _ (.tail _ (.head _))))))) (hA' _ ((.tail _ (.tail _ (.tail _ (.tail _ (.tail _ (.head _)))))))) (hA' _ ((.tail _ (.tail _ (.tail _ (.tail _ (.tail _ (.tail _ (.head _))))))))) (hA' _ ((.tail _ (.tail _ (.tail _ (.tail _ (.tail _ (.tail _ (.tail _ (.head _)))))))))) hp
theorem callN0 (C : CtrT n prog w K p loose mean mg mb f ⟨pos, kw⟩ need post) (B : Below A₀ h₀ [] h₀) (F : Fr h₀ L s.heap m) (XK : K.In h₀) (N : News h₀ L s.heap (need)) (T : Top p loose mean mg mb h₀) 
    (hA : A.frames = some [env]) (hf : env.frame = some L) (hke : env.scope.kind = .function) (hh : A.handled = none) (hd : A.depth + 3 * n < recursionLimit) (hu : A.units + 40 * n < cLine)
    (k : ∀ v h' tk' news', Fr h₀ L h' m → News h₀ L h' (news') → post v news' → Q v { s with heap := h', toks := tk' }) :
    wpAny (model prog w) A (PySem.call (.ref f) pos kw) Q E s :=
  C.callN [] B F XK N T (fun q hq => nomatch hq) hA hf hke hh hd hu fun v h' tk' news' F' N' hA' hp => k v h' tk' news' F' N'  hp
theorem callN1 (C : CtrT n prog w K p loose mean mg mb f ⟨pos, kw⟩ need post) (B : Below A₀ h₀ [] h₀) (F : Fr h₀ L s.heap m) (XK : K.In h₀) (N : News h₀ L s.heap (q1 :: need)) (T : Top p loose mean mg mb h₀) (a1 : ∀ r ∈ need, r.1 ≠ q1.1)
    (hA : A.frames = some [env]) (hf : env.frame = some L) (hke : env.scope.kind = .function) (hh : A.handled = none) (hd : A.depth + 3 * n < recursionLimit) (hu : A.units + 40 * n < cLine)
    (k : ∀ v h' tk' news', Fr h₀ L h' m → News h₀ L h' (q1 :: news') → (∀ r ∈ news', r.1 ≠ q1.1) → post v news' → Q v { s with heap := h', toks := tk' }) :
    wpAny (model prog w) A (PySem.call (.ref f) pos kw) Q E s :=
  C.callN [q1] B F XK N T (fun q hq => by rw [List.mem_singleton.mp hq]; exact a1) hA hf hke hh hd hu fun v h' tk' news' F' N' hA' hp => k v h' tk' news' F' N' (hA' _ (List.mem_cons_self)) hp
theorem callN2 (C : CtrT n prog w K p loose mean mg mb f ⟨pos, kw⟩ need post) (B : Below A₀ h₀ [] h₀) (F : Fr h₀ L s.heap m) (XK : K.In h₀) (N : News h₀ L s.heap (q1 :: q2 :: need)) (T : Top p loose mean mg mb h₀) (a1 : ∀ r ∈ need, r.1 ≠ q1.1) (a2 : ∀ r ∈ need, r.1 ≠ q2.1)
    (hA : A.frames = some [env]) (hf : env.frame = some L) (hke : env.scope.kind = .function) (hh : A.handled = none) (hd : A.depth + 3 * n < recursionLimit) (hu : A.units + 40 * n < cLine)
    (k : ∀ v h' tk' news', Fr h₀ L h' m → News h₀ L h' (q1 :: q2 :: news') → (∀ r ∈ news', r.1 ≠ q1.1) → (∀ r ∈ news', r.1 ≠ q2.1) → post v news' → Q v { s with heap := h', toks := tk' }) :
    wpAny (model prog w) A (PySem.call (.ref f) pos kw) Q E s :=
  C.callN [q1, q2] B F XK N T (fun q hq => by simp only [List.mem_cons, List.not_mem_nil, or_false] at hq; rcases hq with rfl | rfl <;> assumption) hA hf hke hh hd hu fun v h' tk' news' F' N' hA' hp => k v h' tk' news' F' N' (hA' _ (List.mem_cons_self)) (hA' _ ((.tail _ (.head _)))) hp
theorem callN3 (C : CtrT n prog w K p loose mean mg mb f ⟨pos, kw⟩ need post) (B : Below A₀ h₀ [] h₀) (F : Fr h₀ L s.heap m) (XK : K.In h₀) (N : News h₀ L s.heap (q1 :: q2 :: q3 :: need)) (T : Top p loose mean mg mb h₀) (a1 : ∀ r ∈ need, r.1 ≠ q1.1) (a2 : ∀ r ∈ need, r.1 ≠ q2.1) (a3 : ∀ r ∈ need, r.1 ≠ q3.1)
    (hA : A.frames = some [env]) (hf : env.frame = some L) (hke : env.scope.kind = .function) (hh : A.handled = none) (hd : A.depth + 3 * n < recursionLimit) (hu : A.units + 40 * n < cLine)
    (k : ∀ v h' tk' news', Fr h₀ L h' m → News h₀ L h' (q1 :: q2 :: q3 :: news') → (∀ r ∈ news', r.1 ≠ q1.1) → (∀ r ∈ news', r.1 ≠ q2.1) → (∀ r ∈ news', r.1 ≠ q3.1) → post v news' → Q v { s with heap := h', toks := tk' }) :
    wpAny (model prog w) A (PySem.call (.ref f) pos kw) Q E s :=
  C.callN [q1, q2, q3] B F XK N T (fun q hq => by simp only [List.mem_cons, List.not_mem_nil, or_false] at hq; rcases hq with rfl | rfl | rfl <;> assumption) hA hf hke hh hd hu fun v h' tk' news' F' N' hA' hp => k v h' tk' news' F' N' (hA' _ (List.mem_cons_self)) (hA' _ ((.tail _ (.head _)))) (hA' _ ((.tail _ (.tail _ (.head _))))) hp
theorem callN4 (C : CtrT n prog w K p loose mean mg mb f ⟨pos, kw⟩ need post) (B : Below A₀ h₀ [] h₀) (F : Fr h₀ L s.heap m) (XK : K.In h₀) (N : News h₀ L s.heap (q1 :: q2 :: q3 :: q4 :: need)) (T : Top p loose mean mg mb h₀) (a1 : ∀ r ∈ need, r.1 ≠ q1.1) (a2 : ∀ r ∈ need, r.1 ≠ q2.1) (a3 : ∀ r ∈ need, r.1 ≠ q3.1) (a4 : ∀ r ∈ need, r.1 ≠ q4.1)
    (hA : A.frames = some [env]) (hf : env.frame = some L) (hke : env.scope.kind = .function) (hh : A.handled = none) (hd : A.depth + 3 * n < recursionLimit) (hu : A.units + 40 * n < cLine)
    (k : ∀ v h' tk' news', Fr h₀ L h' m → News h₀ L h' (q1 :: q2 :: q3 :: q4 :: news') → (∀ r ∈ news', r.1 ≠ q1.1) → (∀ r ∈ news', r.1 ≠ q2.1) → (∀ r ∈ news', r.1 ≠ q3.1) → (∀ r ∈ news', r.1 ≠ q4.1) → post v news' → Q v { s with heap := h', toks := tk' }) :
    wpAny (model prog w) A (PySem.call (.ref f) pos kw) Q E s :=
  C.callN [q1, q2, q3, q4] B F XK N T (fun q hq => by simp only [List.mem_cons, List.not_mem_nil, or_false] at hq; rcases hq with rfl | rfl | rfl | rfl <;> assumption) hA hf hke hh hd hu fun v h' tk' news' F' N' hA' hp => k v h' tk' news' F' N' (hA' _ (List.mem_cons_self)) (hA' _ ((.tail _ (.head _)))) (hA' _ ((.tail _ (.tail _ (.head _))))) (hA' _ ((.tail _ (.tail _ (.tail _ (.head _)))))) hp
theorem callN5 (C : CtrT n prog w K p loose mean mg mb f ⟨pos, kw⟩ need post) (B : Below A₀ h₀ [] h₀) (F : Fr h₀ L s.heap m) (XK : K.In h₀) (N : News h₀ L s.heap (q1 :: q2 :: q3 :: q4 :: q5 :: need)) (T : Top p loose mean mg mb h₀) (a1 : ∀ r ∈ need, r.1 ≠ q1.1) (a2 : ∀ r ∈ need, r.1 ≠ q2.1) (a3 : ∀ r ∈ need, r.1 ≠ q3.1) (a4 : ∀ r ∈ need, r.1 ≠ q4.1) (a5 : ∀ r ∈ need, r.1 ≠ q5.1)
    (hA : A.frames = some [env]) (hf : env.frame = some L) (hke : env.scope.kind = .function) (hh : A.handled = none) (hd : A.depth + 3 * n < recursionLimit) (hu : A.units + 40 * n < cLine)
    (k : ∀ v h' tk' news', Fr h₀ L h' m → News h₀ L h' (q1 :: q2 :: q3 :: q4 :: q5 :: news') → (∀ r ∈ news', r.1 ≠ q1.1) → (∀ r ∈ news', r.1 ≠ q2.1) → (∀ r ∈ news', r.1 ≠ q3.1) → (∀ r ∈ news', r.1 ≠ q4.1) → (∀ r ∈ news', r.1 ≠ q5.1) → post v news' → Q v { s with heap := h', toks := tk' }) :
    wpAny (model prog w) A (PySem.call (.ref f) pos kw) Q E s :=
  C.callN [q1, q2, q3, q4, q5] B F XK N T (fun q hq => by simp only [List.mem_cons, List.not_mem_nil, or_false] at hq; rcases hq with rfl | rfl | rfl | rfl | rfl <;> assumption) hA hf hke hh hd hu fun v h' tk' news' F' N' hA' hp => k v h' tk' news' F' N' (hA' _ (List.mem_cons_self)) (hA' _ ((.tail _ (.head _)))) (hA' _ ((.tail _ (.tail _ (.head _))))) (hA' _ ((.tail _ (.tail _ (.tail _ (.head _)))))) (hA' _ ((.tail _ (.tail _ (.tail _ (.tail _ (.head _))))))) hp
end
theorem off_lt0 {d : Addr} {l : List (Addr × Obj)} (h : ∀ p ∈ l, p.1 < d) : ∀ p ∈ l, p.1 ≠ d := fun p hp => Nat.ne_of_lt (h p hp)
theorem off_lt {d : Addr} {l : List (Addr × Obj)} (h : AllLt d l) : ∀ p ∈ l, p.1 ≠ d := fun p hp => Nat.ne_of_lt (allLt_mem h p hp)
section
variable {h₀ : Heap} {L I : Addr} {it : Obj} {rest : (Str → Option Value) → List (Addr × Obj) → Prop} {s₁ : Shared} {h' : Heap} {tk : Nat} {m' : Str → Option Value} {tl : Led} {q1 q2 q3 q4 q5 q6 q7 : Addr × Obj}
theorem unr0 (F : Fr h₀ L h' m') (N : News h₀ L h' ((I, it) :: tl))  (a0 : ∀ p ∈ tl, p.1 ≠ I) (r : rest m' (tl)) : UnrEnd h₀ L s₁ I it rest { s₁ with heap := h', toks := tk } :=
  UnrEnd.intro F N (tl) (fun p hp => by
    simp only [List.mem_cons] at hp ⊢
    rcases hp with h | h <;> simp [h]) (a0) r
theorem unr1 (F : Fr h₀ L h' m') (N : News h₀ L h' (q1 :: (I, it) :: tl)) (a1 : q1.1 ≠ I) (a0 : ∀ p ∈ tl, p.1 ≠ I) (r : rest m' (q1 :: tl)) : UnrEnd h₀ L s₁ I it rest { s₁ with heap := h', toks := tk } :=
  UnrEnd.intro F N (q1 :: tl) (fun p hp => by
    simp only [List.mem_cons] at hp ⊢
    rcases hp with h | h | h <;> simp [h]) (fun p hp => by
    simp only [List.mem_cons] at hp
    rcases hp with rfl | hp
    · exact a1
    · exact a0 p hp) r
theorem unr2 (F : Fr h₀ L h' m') (N : News h₀ L h' (q1 :: q2 :: (I, it) :: tl)) (a1 : q1.1 ≠ I) (a2 : q2.1 ≠ I) (a0 : ∀ p ∈ tl, p.1 ≠ I) (r : rest m' (q1 :: q2 :: tl)) : UnrEnd h₀ L s₁ I it rest { s₁ with heap := h', toks := tk } :=
  UnrEnd.intro F N (q1 :: q2 :: tl) (fun p hp => by
    simp only [List.mem_cons] at hp ⊢
    rcases hp with h | h | h | h <;> simp [h]) (fun p hp => by
    simp only [List.mem_cons] at hp
    rcases hp with rfl | rfl | hp
    · exact a1
    · exact a2
    · exact a0 p hp) r
theorem unr3 (F : Fr h₀ L h' m') (N : News h₀ L h' (q1 :: q2 :: q3 :: (I, it) :: tl)) (a1 : q1.1 ≠ I) (a2 : q2.1 ≠ I) (a3 : q3.1 ≠ I) (a0 : ∀ p ∈ tl, p.1 ≠ I) (r : rest m' (q1 :: q2 :: q3 :: tl)) : UnrEnd h₀ L s₁ I it rest { s₁ with heap := h', toks := tk } :=
  UnrEnd.intro F N (q1 :: q2 :: q3 :: tl) (fun p hp => by
    simp only [List.mem_cons] at hp ⊢
    rcases hp with h | h | h | h | h <;> simp [h]) (fun p hp => by
    simp only [List.mem_cons] at hp
    rcases hp with rfl | rfl | rfl | hp
    · exact a1
    · exact a2
    · exact a3
    · exact a0 p hp) r
theorem unr4 (F : Fr h₀ L h' m') (N : News h₀ L h' (q1 :: q2 :: q3 :: q4 :: (I, it) :: tl)) (a1 : q1.1 ≠ I) (a2 : q2.1 ≠ I) (a3 : q3.1 ≠ I) (a4 : q4.1 ≠ I) (a0 : ∀ p ∈ tl, p.1 ≠ I) (r : rest m' (q1 :: q2 :: q3 :: q4 :: tl)) : UnrEnd h₀ L s₁ I it rest { s₁ with heap := h', toks := tk } :=
  UnrEnd.intro F N (q1 :: q2 :: q3 :: q4 :: tl) (fun p hp => by
    simp only [List.mem_cons] at hp ⊢
    rcases hp with h | h | h | h | h | h <;> simp [h]) (fun p hp => by
    simp only [List.mem_cons] at hp
    rcases hp with rfl | rfl | rfl | rfl | hp
    · exact a1
    · exact a2
    · exact a3
    · exact a4
    · exact a0 p hp) r
theorem unr5 (F : Fr h₀ L h' m') (N : News h₀ L h' (q1 :: q2 :: q3 :: q4 :: q5 :: (I, it) :: tl)) (a1 : q1.1 ≠ I) (a2 : q2.1 ≠ I) (a3 : q3.1 ≠ I) (a4 : q4.1 ≠ I) (a5 : q5.1 ≠ I) (a0 : ∀ p ∈ tl, p.1 ≠ I) (r : rest m' (q1 :: q2 :: q3 :: q4 :: q5 :: tl)) : UnrEnd h₀ L s₁ I it rest { s₁ with heap := h', toks := tk } :=
  UnrEnd.intro F N (q1 :: q2 :: q3 :: q4 :: q5 :: tl) (fun p hp => by
    simp only [List.mem_cons] at hp ⊢
    rcases hp with h | h | h | h | h | h | h <;> simp [h]) (fun p hp => by
    simp only [List.mem_cons] at hp
    rcases hp with rfl | rfl | rfl | rfl | rfl | hp
    · exact a1
    · exact a2
    · exact a3
    · exact a4
    · exact a5
    · exact a0 p hp) r
theorem unr6 (F : Fr h₀ L h' m') (N : News h₀ L h' (q1 :: q2 :: q3 :: q4 :: q5 :: q6 :: (I, it) :: tl)) (a1 : q1.1 ≠ I) (a2 : q2.1 ≠ I) (a3 : q3.1 ≠ I) (a4 : q4.1 ≠ I) (a5 : q5.1 ≠ I) (a6 : q6.1 ≠ I) (a0 : ∀ p ∈ tl, p.1 ≠ I) (r : rest m' (q1 :: q2 :: q3 :: q4 :: q5 :: q6 :: tl)) : UnrEnd h₀ L s₁ I it rest { s₁ with heap := h', toks := tk } :=
  UnrEnd.intro F N (q1 :: q2 :: q3 :: q4 :: q5 :: q6 :: tl) (fun p hp => by
    simp only [List.mem_cons] at hp ⊢
    rcases hp with h | h | h | h | h | h | h | h <;> simp [h]) (fun p hp => by
    simp only [List.mem_cons] at hp
    rcases hp with rfl | rfl | rfl | rfl | rfl | rfl | hp
    · exact a1
    · exact a2
    · exact a3
    · exact a4
    · exact a5
    · exact a6
    · exact a0 p hp) r
end
section
variable {prog : Program} {w : World} {A : Around} {E : Value → Shared → Prop} {s : Shared} {h₀ : Heap} {L : Addr} {m : Str → Option Value} {news rest : Led} {K : Frag} {name : Str} {C lim st f it : Addr} {am : Int}
theorem method_lim {pl : Sem Bool} {Q : Value × List Value → Shared → Prop} (F : Fr h₀ L s.heap m) (X₀ : K.In h₀) (N : News h₀ L s.heap news) (H : LimAt rest C lim st) (sub : ∀ p ∈ rest, p ∈ news) (hg : plainGet K C name = true)
    (hf : findIn K (.ref C) name = some (some (.ref f))) (ht : isFn K (.ref f) = true) (hl : ∀ e t v, getL name [⟨e, .str (Str.ofString "storage") t, v⟩] = some none) (h : Q (.ref f, [.ref lim]) s) : wpAny (model prog w) A (getMethod (.ref lim) name pl) Q E s := by
  refine hideG ?_
  intro G' hG'
  obtain ⟨dl, e, t, n, a, b⟩ := H
  refine hG' ?_
  clear hG' G'
  exact method_inst F X₀ (InstAt.of_news N (sub _ a) (sub _ b)) hg hf ht (hl e t _) h
theorem amount_item {expr : Bool} {Q : Value → Shared → Prop} {attr : Option Value} (F : Fr h₀ L s.heap m) (X₀ : K.In h₀) (N : News h₀ L s.heap news) (H : ItemAt rest it am) (sub : ∀ p ∈ rest, p ∈ news) (hg : plainGet K 501 (Str.ofString "amount") = true) (hh : hasDictIn K 501 = true)
    (ha : findIn K (.ref 501) (Str.ofString "amount") = some attr) (hn : noGet K attr = true) (h : ∀ t, Q (.int am t) { s with toks := s.toks + 1 }) :
    wpAny (model prog w) A (getAttr (.ref it) (Str.ofString "amount") expr) Q E s := by
  refine hideG ?_
  intro G' hG'
  obtain ⟨dit, e1, e2, e3, t1, t2, t3, t4, t5, t6, n0, a, b⟩ := H
  refine hG' ?_
  clear hG' G'
  exact get_own F X₀ (InstAt.of_news N (sub _ a) (sub _ b)) hg hh ha hn rfl rfl (h _)
end
theorem up_trans {a b c : Led} (h : Up a b) (h' : Up b c) : Up a c := fun p hp => h' p (h p hp)
theorem StV.pushes {x : CX} {c : Cf} {v : Vw} {b : Nat} {L r : Led} (S : StV x c v b L r) (qs : Led) (h : ∀ q ∈ qs, ∀ p ∈ L, p.1 ≠ q.1) : ∃ L', StV x c v b L' (qs ++ r) ∧ ∀ p ∈ L', p ∈ qs ++ L := by
  cases S with | @mk σ S e =>
  cases S with | @mk o1 o2 o3 o5 t n rest T1 T2 T3 T4 T5 =>
  have up : ∀ p ∈ r, p ∈ qs ++ r := fun p hp => List.mem_append_right _ hp
  have ne : ∀ (d : Addr) (o : Obj), (d, o) ∈ DL c o1 o2 o3 (W.listOf #[.int σ.now t] n) o5 r → ∀ q ∈ qs, q.1 ≠ d := fun d o hm q hq e => h q hq (d, o) hm e.symm
  have al : ∀ d : Addr, (∀ p ∈ r, p.1 ≠ d) → (∀ q ∈ qs, q.1 ≠ d) → ∀ p ∈ qs ++ r, p.1 ≠ d := fun d h1 h2 p hp => (List.mem_append.mp hp).elim (h2 p) (h1 p)
  refine ⟨DL c o1 o2 o3 (W.listOf #[.int σ.now t] n) o5 (qs ++ r), .mk (.mk T1 T2 (T3.mono fun _ _ hp => hp.mono up) (T4.mono up)
    ⟨up _ T5.st, up _ T5.dst, up _ T5.fc, up _ T5.cc, up _ T5.cn, al _ T5.a1 (ne _ o1 (.head _)), al _ T5.a2 (ne _ o2 (.tail _ (.head _))), al _ T5.a3 (ne _ o3 (.tail _ (.tail _ (.head _)))), al _ T5.a4 (ne _ _ (.tail _ (.tail _ (.tail _ (.head _))))), al _ T5.a5 (ne _ o5 (.tail _ (.tail _ (.tail _ (.tail _ (.head _))))))⟩) e, fun p hp => ?_⟩
  simp only [DL, List.mem_cons, List.mem_append] at hp ⊢
  rcases hp with h | h | h | h | h | h | h <;> simp [h]
theorem EndC.push {x : CX} {c : Cf} {v : Vw} {b : Nat} {Lr r : Led} {g h' : Heap} {s : Shared} {post : Value → Led → Prop} {v0 : Value} {L : Addr} {m : Str → Option Value} {tk : Tok} (qs : Led) (F : Fr g L h' m) (N : News g L h' (qs ++ Lr)) (S : StV x c v b Lr r) (hx : ∀ q ∈ qs, ∀ p ∈ Lr, p.1 ≠ q.1)
    (hp : ∀ L', StV x c v b L' (qs ++ r) → post v0 L') : EndC g s post v0 { s with heap := h', toks := tk } := by
  obtain ⟨L', S', hs⟩ := S.pushes qs hx
  exact EndC.mk2 F N hs (hp _ S')
theorem EndC.push4 {x : CX} {c : Cf} {v : Vw} {b : Nat} {Lr r : Led} {g h' : Heap} {s : Shared} {post : Value → Led → Prop} {v0 : Value} {L : Addr} {m : Str → Option Value} {tk : Tok} {q1 q2 q3 q4 : Addr × Obj} (F : Fr g L h' m) (N : News g L h' (q1 :: q2 :: q3 :: q4 :: Lr)) (S : StV x c v b Lr r)
    (a1 : ∀ p ∈ Lr, p.1 ≠ q1.1) (a2 : ∀ p ∈ Lr, p.1 ≠ q2.1) (a3 : ∀ p ∈ Lr, p.1 ≠ q3.1) (a4 : ∀ p ∈ Lr, p.1 ≠ q4.1) (hp : ∀ L', StV x c v b L' (q1 :: q2 :: q3 :: q4 :: r) → post v0 L') : EndC g s post v0 { s with heap := h', toks := tk } :=
  EndC.push [q1, q2, q3, q4] F N S (by
    intro q hq
    simp only [List.mem_cons, List.not_mem_nil, or_false] at hq
    rcases hq with rfl | rfl | rfl | rfl <;> assumption) hp
end
section
-- RowE
def rowF (t : Told) : PyData := .tuple [.bool t.f1, .bool t.f2, .int t.fr, .int t.fq]
def rowM (t : Told) : PyData := .tuple [.bool t.m1, .bool t.m2, .int t.mr, .int t.mq]
def rowS (t : Told) : PyData := .tuple [.bool t.s1, .bool t.s2, .tuple [.int t.sr1, .int t.sr2], .int t.sq]
def toldD (t : Told) : PyData := .list [rowF t, rowM t, rowS t]
section
variable {h₀ h : Heap} {L : Addr} {news : Led}
theorem rd_F {a : Addr} {t : Told} {t1 t2 : Tok} (N : News h₀ L h news) (m : (a, tupO #[.bool t.f1, .bool t.f2, .int t.fr t1, .int t.fq t2]) ∈ news) : ∃ as, Reads h (.ref a) (rowF t) as :=
  ⟨_, .tuple (N _ m).1 rfl rfl (.cons (.bool _) (.cons (.bool _) (.cons (.int _ _) (.cons (.int _ _) .nil))))⟩
theorem rd_M {a : Addr} {t : Told} {t1 t2 : Tok} (N : News h₀ L h news) (m : (a, tupO #[.bool t.m1, .bool t.m2, .int t.mr t1, .int t.mq t2]) ∈ news) : ∃ as, Reads h (.ref a) (rowM t) as :=
  ⟨_, .tuple (N _ m).1 rfl rfl (.cons (.bool _) (.cons (.bool _) (.cons (.int _ _) (.cons (.int _ _) .nil))))⟩
theorem rd_S {a T : Addr} {t : Told} {t1 t2 t3 : Tok} (N : News h₀ L h news) (m : (a, tupO #[.bool t.s1, .bool t.s2, .ref T, .int t.sq t1]) ∈ news) (m2 : (T, tupO #[.int t.sr1 t2, .int t.sr2 t3]) ∈ news) : ∃ as, Reads h (.ref a) (rowS t) as :=
  ⟨_, .tuple (N _ m).1 rfl rfl (.cons (.bool _) (.cons (.bool _) (.cons (.tuple (N _ m2).1 rfl rfl (.cons (.int _ _) (.cons (.int _ _) .nil))) (.cons (.int _ _) .nil))))⟩
theorem rd_told {D : Addr} {t : Told} {rest : Led} (N : News h₀ L h news) (H : ToldAt rest D t) (sub : ∀ p ∈ rest, p ∈ news) : ∃ as, Reads h (.ref D) (toldD t) as := by
  refine hideG ?_
  intro G' hG'
  obtain ⟨a0, a1, a2, T, n, t1, t2, t3, t4, t5, t6, t7, h1, h2, h3, h4, h5⟩ := H
  refine hG' ?_
  clear hG' G'
  obtain ⟨_, r0⟩ := rd_F N (sub _ h2)
  obtain ⟨_, r1⟩ := rd_M N (sub _ h3)
  obtain ⟨_, r2⟩ := rd_S N (sub _ h4) (sub _ h5)
  exact ⟨_, .list (N _ (sub _ h1)).1 rfl rfl (.cons r0 (.cons r1 (.cons r2 .nil)))⟩
end
theorem eqv_rowF (t : Told) : PyData.eqv (rowF t) (rowF t) = true := by simp [rowF, PyData.eqv, PyData.eqvAll]
theorem eqv_rowM (t : Told) : PyData.eqv (rowM t) (rowM t) = true := by simp [rowM, PyData.eqv, PyData.eqvAll]
theorem eqv_rowS (t : Told) : PyData.eqv (rowS t) (rowS t) = true := by simp [rowS, PyData.eqv, PyData.eqvAll]
theorem eqv_told (t : Told) : PyData.eqv (toldD t) (toldD t) = true := by simp [toldD, PyData.eqv, PyData.eqvAll, eqv_rowF, eqv_rowM, eqv_rowS]
section
variable {prog : Program} {w : World} {A : Around} {E : Value → Shared → Prop} {s : Shared} {h₀ : Heap} {L : Addr} {news rest rest2 : Led} {Q : Value → Shared → Prop} {D D' : Addr} {t : Told}
theorem told_ne (N : News h₀ L s.heap news) (H : ToldAt rest D t) (H' : ToldAt rest2 D' t) (sub : ∀ p ∈ rest, p ∈ news) (sub2 : ∀ p ∈ rest2, p ∈ news) (hu : A.units + 64 < cLine) (h : Q (.bool false) s) :
    wpAny (model prog w) A (compareOp .NotEq (.ref D) (.ref D')) Q E s := by
  obtain ⟨_, r⟩ := rd_told N H sub
  obtain ⟨_, r'⟩ := rd_told N H' sub2
  refine ne_dataH r r' rfl rfl hu ?_
  rw [eqv_told]; exact h
theorem row_neF {a a' : Addr} {t' : Told} {t1 t2 u1 u2 : Tok} (N : News h₀ L s.heap news) (m : (a, tupO #[.bool t.f1, .bool t.f2, .int t.fr t1, .int t.fq t2]) ∈ news) (m' : (a', tupO #[.bool t'.f1, .bool t'.f2, .int t'.fr u1, .int t'.fq u2]) ∈ news) (e : rowF t = rowF t') (hu : A.units + 64 < cLine) (h : Q (.bool false) s) :
    wpAny (model prog w) A (compareOp .NotEq (.ref a) (.ref a')) Q E s := by
  obtain ⟨_, r⟩ := rd_F N m
  obtain ⟨_, r'⟩ := rd_F N m'
  rw [← e] at r'
  refine ne_dataH r r' rfl rfl hu ?_
  rw [eqv_rowF]; exact h
theorem row_neM {a a' : Addr} {t' : Told} {t1 t2 u1 u2 : Tok} (N : News h₀ L s.heap news) (m : (a, tupO #[.bool t.m1, .bool t.m2, .int t.mr t1, .int t.mq t2]) ∈ news) (m' : (a', tupO #[.bool t'.m1, .bool t'.m2, .int t'.mr u1, .int t'.mq u2]) ∈ news) (e : rowM t = rowM t') (hu : A.units + 64 < cLine) (h : Q (.bool false) s) :
    wpAny (model prog w) A (compareOp .NotEq (.ref a) (.ref a')) Q E s := by
  obtain ⟨_, r⟩ := rd_M N m
  obtain ⟨_, r'⟩ := rd_M N m'
  rw [← e] at r'
  refine ne_dataH r r' rfl rfl hu ?_
  rw [eqv_rowM]; exact h
theorem row_neS {a a' T T' : Addr} {t' : Told} {t1 t2 t3 u1 u2 u3 : Tok} (N : News h₀ L s.heap news) (m : (a, tupO #[.bool t.s1, .bool t.s2, .ref T, .int t.sq t1]) ∈ news) (m2 : (T, tupO #[.int t.sr1 t2, .int t.sr2 t3]) ∈ news) (m' : (a', tupO #[.bool t'.s1, .bool t'.s2, .ref T', .int t'.sq u1]) ∈ news) (m2' : (T', tupO #[.int t'.sr1 u2, .int t'.sr2 u3]) ∈ news) (e : rowS t = rowS t') (hu : A.units + 64 < cLine) (h : Q (.bool false) s) :
    wpAny (model prog w) A (compareOp .NotEq (.ref a) (.ref a')) Q E s := by
  obtain ⟨_, r⟩ := rd_S N m m2
  obtain ⟨_, r'⟩ := rd_S N m' m2'
  rw [← e] at r'
  refine ne_dataH r r' rfl rfl hu ?_
  rw [eqv_rowS]; exact h
end
end
section
-- LawE
/-- the statements of the def at f, whatever they are, from the k-th on -/
def Body (x : CX) (f : Addr) (k : Nat) (W : List Stmt → Scope → Prop) : Prop :=
  ∀ (o : Obj) (fd : FuncData) (body : List Stmt), List.lookup f (Mine.hd.heap_1 x.w.params) = some o → o.data = .func fd → fd.body = .stmts body → W (body.drop k) fd.scope
theorem Body.mk {x : CX} {f : Addr} {k : Nat} {W : List Stmt → Scope → Prop} {oc : Value} {od : Option Addr} {osl : Array (Option Value)} {name qual : Str} {params : Arguments} {body : List Stmt} {scope : Scope} {dV kV doc pm cdv ct : Value} {an : Option Addr}
    (ho : List.lookup f (Mine.hd.heap_1 x.w.params) = some ⟨oc, od, .func (fnOf name qual params body scope dV kV doc pm an cdv ct), osl⟩) (h : W (body.drop k) scope) : Body x f k W := by
  intro o fd body' ho' hd hb
  rw [ho] at ho'
  cases ho'
  cases hd
  cases hb
  exact h
theorem Body.use {x : CX} {f : Addr} {k : Nat} {W : List Stmt → Scope → Prop} {oc : Value} {od : Option Addr} {osl : Array (Option Value)} {name qual : Str} {params : Arguments} {body : List Stmt} {scope : Scope} {dV kV doc pm cdv ct : Value} {an : Option Addr} (B : Body x f k W)
    (ho : List.lookup f (Mine.hd.heap_1 x.w.params) = some ⟨oc, od, .func (fnOf name qual params body scope dV kV doc pm an cdv ct), osl⟩) : W (body.drop k) scope := B _ _ _ ho rfl rfl
theorem StV.clock {x : CX} {c : Cf} {v : Vw} {b : Nat} {L rest : Led} (S : StV x c v b L rest) : ∃ t n, (c.ln, W.listOf #[.int v.now t] n) ∈ L := by
  cases S with | @mk σ S e =>
  subst e
  cases S with | @mk o1 o2 o3 o5 t n rest T1 T2 T3 T4 T5 => exact ⟨t, n, .tail _ (.tail _ (.tail _ (.head _)))⟩
theorem StV.fix {x : CX} {c : Cf} {v : Vw} {b : Nat} {L rest : Led} (S : StV x c v b L rest) : Fix x c rest := by
  cases S with | @mk σ S e =>
  cases S with | mk _ _ _ _ T5 => exact T5
theorem StV.tab {x : CX} {c : Cf} {v : Vw} {b : Nat} {L rest : Led} (S : StV x c v b L rest) : ∃ p, (623, tabObj p) ∈ L := by
  cases S with | @mk σ S e =>
  cases S with | @mk o1 o2 o3 o5 t n rest T1 T2 T3 T4 T5 =>
  cases T4 with
  | none => exact ⟨_, .tail _ (.tail _ (.tail _ (.tail _ (.head _))))⟩
  | some _ _ _ => exact ⟨_, .tail _ (.tail _ (.tail _ (.tail _ (.head _))))⟩
section
variable {prog : Program} {w : World} {A : Around} {E : Value → Shared → Prop} {s : Shared} {h₀ : Heap} {L a : Addr} {m : Str → Option Value} {news : List (Addr × Obj)} {t : Tok} {rest : Led}
/-- an item of a written list of the ledger -/
theorem item_at {value slice : PySem.Expr} {i : Nat} {vs : List Value} {v : Value} {n : Nat} {Q : Value → Shared → Prop} (N : News h₀ L s.heap news) (hm : (a, W.listOf vs.toArray n) ∈ news) (hv : vs[i]? = some v) (hi : i < 1000) (h : Q v s)
    (hs : subscripted slice false (.ref a) (.int (i : Int) t) = operate [.ref a, .int (i : Int) t] (getItem (.ref a) (.int (i : Int) t)) := by with_unfolding_all rfl) :
    wpAny (model prog w) A (subscriptTail value slice (.ref a) (.int (i : Int) t)) Q E s := by
  have hl := N.isList hm
  exact tail_any hl.typeIs slot_list_getitem.lookup (wpAny_getItem_list hl (by omega) (by omega) (by simpa using hv) h) hs
end
def LawEnd (g : Heap) (s : Shared) (fl : Flow) (s' : Shared) : Prop := ∃ h' tk' L' m' news' p1 p2, fl = .ret (.bool true) ∧ s' = { s with heap := h', toks := tk' } ∧ Fr g L' h' m' ∧ News g L' h' news' ∧ (623, tabObj p1) ∈ news' ∧ (692, tabObj p2) ∈ news'
/-- what is asked of a part of the law's body: it ends, True, with all that was there still there -/
def LawG (x : CX) (fa : Addr) (g : Heap) (L : Addr) (s0 s : Shared) (body : List Stmt) (scope : Scope) : Prop :=
  wpAny (model PySem.Challenge.rw_jj0018_01.row.prog x.w) (callerA.deeper (envX (Str.ofString "law") scope L fa (.ref 694) [(Str.ofString "now", L + 1)])) (execs body (envX (Str.ofString "law") scope L fa (.ref 694) [(Str.ofString "now", L + 1)])) (LawEnd g s0) (fun _ _ => False) s
/-- the two rows' names -/
def NN (x : CX) (rest : Led) (it tA tB : Addr) (kA kB : Str) : Prop := NameAt x rest it tA kA ∧ NameAt x rest it tB kB
theorem NN.mono {x : CX} {rest rest' : Led} {it tA tB : Addr} {kA kB : Str} (h : NN x rest it tA tB kA kB) (hs : ∀ p ∈ rest, p ∈ rest') : NN x rest' it tA tB kA kB := ⟨h.1.mono hs, h.2.mono hs⟩
end
section
-- TellI
/-- what the telling leans on, of the part of the ledger that stays -/
structure TellI (x : CX) (c : Cf) (lims l0 l1 l2 it tu : Addr) (n0 : Nat) (am : Int) (key : Str) (r0 r : Led) : Prop where
  hm : (lims, W.listOf #[.ref l0, .ref l1, .ref l2] n0) ∈ r
  H0 : LimAt r 241 l0 c.st
  H1 : LimAt r 202 l1 c.st
  H2 : LimAt r 296 l2 c.st
  HI : ItemAt r it am
  HN : NameAt x r it tu key
  hu : Up r0 r
section
variable {x : CX} {c : Cf} {lims l0 l1 l2 it tu : Addr} {n0 : Nat} {am : Int} {key : Str} {r0 rest r' Ls : Led} {v v' : Vw} {b b' : Nat}
theorem TellI.mono (i : TellI x c lims l0 l1 l2 it tu n0 am key r0 rest) (hs : Up rest r') : TellI x c lims l0 l1 l2 it tu n0 am key r0 r' :=
  ⟨hs _ i.hm, i.H0.mono hs, i.H1.mono hs, i.H2.mono hs, i.HI.mono hs, i.HN.mono hs, fun p hp => hs p (i.hu p hp)⟩
theorem TellI.lmL (i : TellI x c lims l0 l1 l2 it tu n0 am key r0 rest) (S : StV x c v b Ls rest) : (lims, W.listOf #[.ref l0, .ref l1, .ref l2] n0) ∈ Ls := S.sub _ i.hm
theorem after_ts2 {Q : Value → Shared → Prop} {s : Shared} {h₀ : Heap} {L : Addr} {m : Str → Option Value} {q1 q2 : Addr × Obj} {I : Addr → Tok → Tok → Obj} (i : TellI x c lims l0 l1 l2 it tu n0 am key r0 rest)
    (k : ∀ D dx t1 t2 h' tk' Ls r', Fr h₀ L h' m → News h₀ L h' (q1 :: q2 :: Ls) → (∀ r ∈ Ls, r.1 ≠ q1.1) → (∀ r ∈ Ls, r.1 ≠ q2.1) → Up rest r' → StV x c v' b' Ls r' → TellI x c lims l0 l1 l2 it tu n0 am key r0 r' → (D, I dx t1 t2) ∈ r' → (dx, emptyDict) ∈ r' → Q (.ref D) { s with heap := h', toks := tk' }) :
    ∀ v h' tk' Ls, Fr h₀ L h' m → News h₀ L h' (q1 :: q2 :: Ls) → (∀ r ∈ Ls, r.1 ≠ q1.1) → (∀ r ∈ Ls, r.1 ≠ q2.1) → (∃ D dx t1 t2, v = .ref D ∧ ∃ r', Up rest r' ∧ ((D, I dx t1 t2) ∈ r' ∧ (dx, emptyDict) ∈ r') ∧ StV x c v' b' Ls r') → Q v { s with heap := h', toks := tk' } := by
  rintro v h' tk' Ls F N a1 a2 ⟨D, dx, t1, t2, rfl, r', hs, ⟨z1, z2⟩, S⟩
  exact k D dx t1 t2 h' tk' Ls r' F N a1 a2 hs S (i.mono hs) z1 z2
theorem after_ts3 {Q : Value → Shared → Prop} {s : Shared} {h₀ : Heap} {L : Addr} {m : Str → Option Value} {q1 q2 q3 : Addr × Obj} {I : Addr → Tok → Tok → Obj} (i : TellI x c lims l0 l1 l2 it tu n0 am key r0 rest)
    (k : ∀ D dx t1 t2 h' tk' Ls r', Fr h₀ L h' m → News h₀ L h' (q1 :: q2 :: q3 :: Ls) → (∀ r ∈ Ls, r.1 ≠ q1.1) → (∀ r ∈ Ls, r.1 ≠ q2.1) → (∀ r ∈ Ls, r.1 ≠ q3.1) → Up rest r' → StV x c v' b' Ls r' → TellI x c lims l0 l1 l2 it tu n0 am key r0 r' → (D, I dx t1 t2) ∈ r' → (dx, emptyDict) ∈ r' → Q (.ref D) { s with heap := h', toks := tk' }) :
    ∀ v h' tk' Ls, Fr h₀ L h' m → News h₀ L h' (q1 :: q2 :: q3 :: Ls) → (∀ r ∈ Ls, r.1 ≠ q1.1) → (∀ r ∈ Ls, r.1 ≠ q2.1) → (∀ r ∈ Ls, r.1 ≠ q3.1) → (∃ D dx t1 t2, v = .ref D ∧ ∃ r', Up rest r' ∧ ((D, I dx t1 t2) ∈ r' ∧ (dx, emptyDict) ∈ r') ∧ StV x c v' b' Ls r') → Q v { s with heap := h', toks := tk' } := by
  rintro v h' tk' Ls F N a1 a2 a3 ⟨D, dx, t1, t2, rfl, r', hs, ⟨z1, z2⟩, S⟩
  exact k D dx t1 t2 h' tk' Ls r' F N a1 a2 a3 hs S (i.mono hs) z1 z2
theorem after_ts4 {Q : Value → Shared → Prop} {s : Shared} {h₀ : Heap} {L : Addr} {m : Str → Option Value} {q1 q2 q3 q4 : Addr × Obj} {I : Addr → Addr → Tok → Obj} {J : Tok → Tok → Obj} (i : TellI x c lims l0 l1 l2 it tu n0 am key r0 rest)
    (k : ∀ D dx T t1 t2 t3 h' tk' Ls r', Fr h₀ L h' m → News h₀ L h' (q1 :: q2 :: q3 :: q4 :: Ls) → (∀ r ∈ Ls, r.1 ≠ q1.1) → (∀ r ∈ Ls, r.1 ≠ q2.1) → (∀ r ∈ Ls, r.1 ≠ q3.1) → (∀ r ∈ Ls, r.1 ≠ q4.1) → Up rest r' → StV x c v' b' Ls r' → TellI x c lims l0 l1 l2 it tu n0 am key r0 r' → (D, I dx T t1) ∈ r' → (dx, emptyDict) ∈ r' → (T, J t2 t3) ∈ r' → Q (.ref D) { s with heap := h', toks := tk' }) :
    ∀ v h' tk' Ls, Fr h₀ L h' m → News h₀ L h' (q1 :: q2 :: q3 :: q4 :: Ls) → (∀ r ∈ Ls, r.1 ≠ q1.1) → (∀ r ∈ Ls, r.1 ≠ q2.1) → (∀ r ∈ Ls, r.1 ≠ q3.1) → (∀ r ∈ Ls, r.1 ≠ q4.1) → (∃ D dx T t1 t2 t3, v = .ref D ∧ ∃ r', Up rest r' ∧ ((D, I dx T t1) ∈ r' ∧ (dx, emptyDict) ∈ r' ∧ (T, J t2 t3) ∈ r') ∧ StV x c v' b' Ls r') → Q v { s with heap := h', toks := tk' } := by
  rintro v h' tk' Ls F N a1 a2 a3 a4 ⟨D, dx, T, t1, t2, t3, rfl, r', hs, ⟨z1, z2, z3⟩, S⟩
  exact k D dx T t1 t2 t3 h' tk' Ls r' F N a1 a2 a3 a4 hs S (i.mono hs) z1 z2 z3
theorem after_tt2 {Q : Value → Shared → Prop} {s : Shared} {h₀ : Heap} {L : Addr} {m : Str → Option Value} {q1 q2 : Addr × Obj} {w : Value} {p1 p2 : Addr × Obj} (i : TellI x c lims l0 l1 l2 it tu n0 am key r0 rest) (z1 : p1 ∈ rest) (z2 : p2 ∈ rest)
    (k : ∀ h' tk' Ls r', Fr h₀ L h' m → News h₀ L h' (q1 :: q2 :: Ls) → (∀ r ∈ Ls, r.1 ≠ q1.1) → (∀ r ∈ Ls, r.1 ≠ q2.1) → StV x c v' b' Ls r' → TellI x c lims l0 l1 l2 it tu n0 am key r0 r' → p1 ∈ r' → p2 ∈ r' → Q w { s with heap := h', toks := tk' }) :
    ∀ v h' tk' Ls, Fr h₀ L h' m → News h₀ L h' (q1 :: q2 :: Ls) → (∀ r ∈ Ls, r.1 ≠ q1.1) → (∀ r ∈ Ls, r.1 ≠ q2.1) → (v = w ∧ ∃ r', Up rest r' ∧ StV x c v' b' Ls r') → Q v { s with heap := h', toks := tk' } := by
  rintro v h' tk' Ls F N a1 a2 ⟨rfl, r', hs, S⟩
  exact k h' tk' Ls r' F N a1 a2 S (i.mono hs) (hs _ z1) (hs _ z2)
theorem after_tt3 {Q : Value → Shared → Prop} {s : Shared} {h₀ : Heap} {L : Addr} {m : Str → Option Value} {q1 q2 q3 : Addr × Obj} {w : Value} {p1 p2 : Addr × Obj} (i : TellI x c lims l0 l1 l2 it tu n0 am key r0 rest) (z1 : p1 ∈ rest) (z2 : p2 ∈ rest)
    (k : ∀ h' tk' Ls r', Fr h₀ L h' m → News h₀ L h' (q1 :: q2 :: q3 :: Ls) → (∀ r ∈ Ls, r.1 ≠ q1.1) → (∀ r ∈ Ls, r.1 ≠ q2.1) → (∀ r ∈ Ls, r.1 ≠ q3.1) → StV x c v' b' Ls r' → TellI x c lims l0 l1 l2 it tu n0 am key r0 r' → p1 ∈ r' → p2 ∈ r' → Q w { s with heap := h', toks := tk' }) :
    ∀ v h' tk' Ls, Fr h₀ L h' m → News h₀ L h' (q1 :: q2 :: q3 :: Ls) → (∀ r ∈ Ls, r.1 ≠ q1.1) → (∀ r ∈ Ls, r.1 ≠ q2.1) → (∀ r ∈ Ls, r.1 ≠ q3.1) → (v = w ∧ ∃ r', Up rest r' ∧ StV x c v' b' Ls r') → Q v { s with heap := h', toks := tk' } := by
  rintro v h' tk' Ls F N a1 a2 a3 ⟨rfl, r', hs, S⟩
  exact k h' tk' Ls r' F N a1 a2 a3 S (i.mono hs) (hs _ z1) (hs _ z2)
theorem after_tt4 {Q : Value → Shared → Prop} {s : Shared} {h₀ : Heap} {L : Addr} {m : Str → Option Value} {q1 q2 q3 q4 : Addr × Obj} {w : Value} {p1 p2 p3 : Addr × Obj} (i : TellI x c lims l0 l1 l2 it tu n0 am key r0 rest) (z1 : p1 ∈ rest) (z2 : p2 ∈ rest) (z3 : p3 ∈ rest)
    (k : ∀ h' tk' Ls r', Fr h₀ L h' m → News h₀ L h' (q1 :: q2 :: q3 :: q4 :: Ls) → (∀ r ∈ Ls, r.1 ≠ q1.1) → (∀ r ∈ Ls, r.1 ≠ q2.1) → (∀ r ∈ Ls, r.1 ≠ q3.1) → (∀ r ∈ Ls, r.1 ≠ q4.1) → StV x c v' b' Ls r' → TellI x c lims l0 l1 l2 it tu n0 am key r0 r' → p1 ∈ r' → p2 ∈ r' → p3 ∈ r' → Q w { s with heap := h', toks := tk' }) :
    ∀ v h' tk' Ls, Fr h₀ L h' m → News h₀ L h' (q1 :: q2 :: q3 :: q4 :: Ls) → (∀ r ∈ Ls, r.1 ≠ q1.1) → (∀ r ∈ Ls, r.1 ≠ q2.1) → (∀ r ∈ Ls, r.1 ≠ q3.1) → (∀ r ∈ Ls, r.1 ≠ q4.1) → (v = w ∧ ∃ r', Up rest r' ∧ StV x c v' b' Ls r') → Q v { s with heap := h', toks := tk' } := by
  rintro v h' tk' Ls F N a1 a2 a3 a4 ⟨rfl, r', hs, S⟩
  exact k h' tk' Ls r' F N a1 a2 a3 a4 S (i.mono hs) (hs _ z1) (hs _ z2) (hs _ z3)
end
end
section
-- c_tgreset
theorem lines_c_tgreset : True := by
  k_with "my inst" => (guard_hyp mk35; first | (refine' inst_N_c_tgreset ?Nq240 ?mq240 ?m2q240; (case Nq240 => k_asm); (case mq240 => k_mem); (case m2q240 => k_mem)) | (refine' inst_K1_c_tgreset ?Xq240 ?eq240 ?dq240; (case Xq240 => k_in); (case eq240 => k_is); (case dq240 => k_is)))
  k_with "getMethod type:tuple" => (guard_hyp mk35; (k_here; k_dflt (refine' method_type ?Fq241 ?Xq241 ?tq241 ?sq241 ?eq241 ?hq241 ?_; (case Fq241 => k_asm); (case Xq241 => k_asm); (case tq241 => kernel_rfl); (case sq241 => decide +kernel); (case eq241 => k_is); (case hq241 => k_handed))))
  k_with "call type:type" => (guard_hyp mk35; (k_here; k_dflt (refine' kto_own (C := _) ?Iq242 ?_; (case Iq242 => k_extra "my inst"))))
  k_with "call builtin:issubclass" => (guard_hyp mk35; (k_here; k_dflt (refine' issub_tup ?Xq243 ?tq243 ?iq243 ?_; (case Xq243 => k_in); (case tq243 => k_is); (case iq243 => k_is))))
  k_with "call builtin:tuple.__getitem__" => (guard_hyp mk35; (k_here; k_dflt (refine' tup_item (k := _) ?Xq244 ?Iq244 ?iq244 ?kq244 ?lq244 ?_; (case Xq244 => k_in); (case Iq244 => k_extra "my inst"); (case iq244 => k_is); (case kq244 => rfl); (case lq244 => decide))))
  exact True.intro
theorem inst_K1_c_tgreset {K : Frag} {h : Heap} {x C dx : Addr} {xs : Array Value} {n : Nat} {sl : Array (Option Value)} {o : Obj} (X : K.In h) (e : K.lookup x = some ⟨.ref C, some dx, .seq xs n, sl⟩) (hd : K.lookup dx = some o) :
    PySem.W.InstAt h x ⟨.ref C, some dx, .seq xs n, sl⟩ C (some o) := ⟨X _ _ e, rfl, rfl, X _ _ hd⟩
theorem inst_N_c_tgreset {h₀ h : Heap} {L x C dx : Addr} {news : Led} {xs : Array Value} (N : News h₀ L h news) (e : (x, tupInst C dx xs) ∈ news) (e2 : (dx, emptyDict) ∈ news) :
    PySem.W.InstAt h x (tupInst C dx xs) C (some emptyDict) := ⟨(N _ e).1, rfl, rfl, (N _ e2).1⟩
theorem c_tgreset {x : CX} {L : Led} {a dx : Addr} {v1 v2 : Value} (m : (a, tupInst 132 dx #[v1, v2]) ∈ L) (m2 : (dx, emptyDict) ∈ L) :
    Ct 2 x 43 [.ref 124, .ref a, .ref 132] [] L fun v L' => L' = L ∧ v = v1 := by
  have mk35 := True.intro
  unfold Ct
  k_fill
  k_dflt (refine' ctr_enter (binds := [(Str.ofString "self", .ref 124), (Str.ofString "obj", .ref a), (Str.ofString "objtype", .ref 132)]) (mm := fun y => List.lookup y [(Str.ofString "objtype", .ref 132), (Str.ofString "obj", .ref a), (Str.ofString "self", .ref 124)]) ?k6 ?k7 ?k9 ?kB rfl ?_ ?c2 ?c3 ?c4 ?c5 ?c6; (case k6 => k_is); (case k7 => k_is); (case k9 => first | exact fun s _ => BindsTo.of_eq rfl | exact fun s hX => binds_K hX rfl (by k_is) rfl rfl rfl); (case c5 => decide); (case c6 => decide); (case kB => exact locs rfl); (case c2 => exact rfl); (case c3 => exact rfl); (case c4 => exact rfl); k_whole; intro dp un gd outer base g s L' B X T F N hdp hun; (try dsimp only [DL] at N); (try dsimp only); (try k_fold))
  k_steps
  exact EndC.mk (by k_asm) (by k_asm) ⟨rfl, rfl⟩
end
section
-- c_tgrem
theorem lines_c_tgrem : True := by
  k_with "my inst" => (guard_hyp mk36; first | (refine' inst_N_c_tgrem ?Nq245 ?mq245 ?m2q245; (case Nq245 => k_asm); (case mq245 => k_mem); (case m2q245 => k_mem)) | (refine' inst_K1_c_tgrem ?Xq245 ?eq245 ?dq245; (case Xq245 => k_in); (case eq245 => k_is); (case dq245 => k_is)))
  k_with "getMethod type:tuple" => (guard_hyp mk36; (k_here; k_dflt (refine' method_type ?Fq246 ?Xq246 ?tq246 ?sq246 ?eq246 ?hq246 ?_; (case Fq246 => k_asm); (case Xq246 => k_asm); (case tq246 => kernel_rfl); (case sq246 => decide +kernel); (case eq246 => k_is); (case hq246 => k_handed))))
  k_with "call type:type" => (guard_hyp mk36; (k_here; k_dflt (refine' kto_own (C := _) ?Iq247 ?_; (case Iq247 => k_extra "my inst"))))
  k_with "call builtin:issubclass" => (guard_hyp mk36; (k_here; k_dflt (refine' issub_tup ?Xq248 ?tq248 ?iq248 ?_; (case Xq248 => k_in); (case tq248 => k_is); (case iq248 => k_is))))
  k_with "call builtin:tuple.__getitem__" => (guard_hyp mk36; (k_here; k_dflt (refine' tup_item (k := _) ?Xq249 ?Iq249 ?iq249 ?kq249 ?lq249 ?_; (case Xq249 => k_in); (case Iq249 => k_extra "my inst"); (case iq249 => k_is); (case kq249 => rfl); (case lq249 => decide))))
  exact True.intro
theorem inst_K1_c_tgrem {K : Frag} {h : Heap} {x C dx : Addr} {xs : Array Value} {n : Nat} {sl : Array (Option Value)} {o : Obj} (X : K.In h) (e : K.lookup x = some ⟨.ref C, some dx, .seq xs n, sl⟩) (hd : K.lookup dx = some o) :
    PySem.W.InstAt h x ⟨.ref C, some dx, .seq xs n, sl⟩ C (some o) := ⟨X _ _ e, rfl, rfl, X _ _ hd⟩
theorem inst_N_c_tgrem {h₀ h : Heap} {L x C dx : Addr} {news : Led} {xs : Array Value} (N : News h₀ L h news) (e : (x, tupInst C dx xs) ∈ news) (e2 : (dx, emptyDict) ∈ news) :
    PySem.W.InstAt h x (tupInst C dx xs) C (some emptyDict) := ⟨(N _ e).1, rfl, rfl, (N _ e2).1⟩
theorem c_tgrem {x : CX} {L : Led} {a dx : Addr} {v1 v2 : Value} (m : (a, tupInst 132 dx #[v1, v2]) ∈ L) (m2 : (dx, emptyDict) ∈ L) :
    Ct 2 x 43 [.ref 127, .ref a, .ref 132] [] L fun v L' => L' = L ∧ v = v2 := by
  have mk36 := True.intro
  unfold Ct
  k_fill
  k_dflt (refine' ctr_enter (binds := [(Str.ofString "self", .ref 127), (Str.ofString "obj", .ref a), (Str.ofString "objtype", .ref 132)]) (mm := fun y => List.lookup y [(Str.ofString "objtype", .ref 132), (Str.ofString "obj", .ref a), (Str.ofString "self", .ref 127)]) ?k6 ?k7 ?k9 ?kB rfl ?_ ?c2 ?c3 ?c4 ?c5 ?c6; (case k6 => k_is); (case k7 => k_is); (case k9 => first | exact fun s _ => BindsTo.of_eq rfl | exact fun s hX => binds_K hX rfl (by k_is) rfl rfl rfl); (case c5 => decide); (case c6 => decide); (case kB => exact locs rfl); (case c2 => exact rfl); (case c3 => exact rfl); (case c4 => exact rfl); k_whole; intro dp un gd outer base g s L' B X T F N hdp hun; (try dsimp only [DL] at N); (try dsimp only); (try k_fold))
  k_steps
  exact EndC.mk (by k_asm) (by k_asm) ⟨rfl, rfl⟩
end
section
-- c_ga
theorem lines_c_ga : True := by
  k_with "my inst" => (guard_hyp mk37; first | (refine' inst4_N ?Nq250 ?mq250 ?m2q250; (case Nq250 => k_asm); (case mq250 => k_mem); (case m2q250 => k_mem)) | (refine' inst4_K1 ?Xq250 ?eq250 ?dq250; (case Xq250 => k_in); (case eq250 => k_is); (case dq250 => k_is)))
  k_with "getMethod type:tuple" => (guard_hyp mk37; (k_here; k_dflt (refine' method_type ?Fq251 ?Xq251 ?tq251 ?sq251 ?eq251 ?hq251 ?_; (case Fq251 => k_asm); (case Xq251 => k_asm); (case tq251 => kernel_rfl); (case sq251 => decide +kernel); (case eq251 => k_is); (case hq251 => k_handed))))
  k_with "call type:type" => (guard_hyp mk37; (k_here; k_dflt (refine' kto_own (C := _) ?Iq252 ?_; (case Iq252 => k_extra "my inst"))))
  k_with "call builtin:issubclass" => (guard_hyp mk37; (k_here; k_dflt (refine' issub_tup ?Xq253 ?tq253 ?iq253 ?_; (case Xq253 => k_in); (case tq253 => k_is); (case iq253 => k_is))))
  k_with "call builtin:tuple.__getitem__" => (guard_hyp mk37; (k_here; k_dflt (refine' tup_item (k := _) ?Xq254 ?Iq254 ?iq254 ?kq254 ?lq254 ?_; (case Xq254 => k_in); (case Iq254 => k_extra "my inst"); (case iq254 => k_is); (case kq254 => rfl); (case lq254 => decide))))
  k_with "no getAttr ref" => (guard_hyp mk37; (k_here; k_dflt (refine' get_tup ?Xq255 ?Iq255 ?gq255 ?kq255 (findObj_any ?f1q255 ?f2q255 ?f3q255 ?f4q255) ?iq255 ?_; (case Xq255 => k_in); (case Iq255 => k_extra "my inst"); (case gq255 => k_is); (case kq255 => k_is); (case f1q255 => k_is); (case f2q255 => k_is); (case f3q255 => k_is); (case f4q255 => k_is); (case iq255 => k_is))))
  exact True.intro
theorem inst4_K1 {K : Frag} {h : Heap} {x C dx : Addr} {xs : Array Value} {n : Nat} {sl : Array (Option Value)} {o : Obj} (X : K.In h) (e : K.lookup x = some ⟨.ref C, some dx, .seq xs n, sl⟩) (hd : K.lookup dx = some o) :
    PySem.W.InstAt h x ⟨.ref C, some dx, .seq xs n, sl⟩ C (some o) := ⟨X _ _ e, rfl, rfl, X _ _ hd⟩
theorem inst4_N {h₀ h : Heap} {L x C dx : Addr} {news : Led} {xs : Array Value} (N : News h₀ L h news) (e : (x, tupInst C dx xs) ∈ news) (e2 : (dx, emptyDict) ∈ news) :
    PySem.W.InstAt h x (tupInst C dx xs) C (some emptyDict) := ⟨(N _ e).1, rfl, rfl, (N _ e2).1⟩
theorem ga_reset {x : CX} {A₀ A : Around} {base h₀ : Heap} {outer : List Env} {env : Env} {s : Shared} {L a dx : Addr} {m : Str → Option Value} {news : Led} {v1 v2 : Value} {Q E : Value → Shared → Prop} {expr : Bool} (B : Below A₀ base outer h₀) (F : Fr h₀ L s.heap m) (X : Frag.In (Mine.hd.heap_1 x.w.params) h₀) (N : News h₀ L s.heap news) (T : Top x.p x.loose x.mean x.mg x.mb h₀)
    (m1 : (a, tupInst 132 dx #[v1, v2]) ∈ news) (m2 : (dx, emptyDict) ∈ news) (hA : A.frames = some (env :: outer)) (hf : env.frame = some L) (hke : env.scope.kind = .function) (hh : A.handled = none) (hd : A.in1.depth + 3 * 2 < recursionLimit) (hu : A.in1.units + 40 * 2 < cLine) (hhv : handedIn v1 = true)
    (h : ∀ h' tk', Fr h₀ L h' m → News h₀ L h' news → Q v1 { s with heap := h', toks := tk' }) :
    wpAny (model PySem.Challenge.rw_jj0018_01.row.prog x.w) A (getAttr (.ref a) (Str.ofString "reset_time") expr) Q E s := by
  have Xs := in_of F X
  revert X
  k_fill
  intro X
  refine' get_tup Xs (inst4_N N m1 m2) ?g ?k (findObj_any ?f1 ?f2 ?f3 ?f4) ?i ?_
  case g => k_is
  case k => k_is
  case f1 => k_is
  case f2 => k_is
  case f3 => k_is
  case f4 => k_is
  case i => k_is
  refine' Ctr.call (c_tgreset m1 m2) B F X N T hA hf hke hh hd hu ?_
  intro v' h' tk' L2' F' N' hp'
  obtain ⟨e1', e2'⟩ := hp'
  subst e1' e2'
  refine handed_on hhv ?_
  exact h h' tk' F' N'
theorem ga_rem {x : CX} {A₀ A : Around} {base h₀ : Heap} {outer : List Env} {env : Env} {s : Shared} {L a dx : Addr} {m : Str → Option Value} {news : Led} {v1 v2 : Value} {Q E : Value → Shared → Prop} {expr : Bool} (B : Below A₀ base outer h₀) (F : Fr h₀ L s.heap m) (X : Frag.In (Mine.hd.heap_1 x.w.params) h₀) (N : News h₀ L s.heap news) (T : Top x.p x.loose x.mean x.mg x.mb h₀)
    (m1 : (a, tupInst 132 dx #[v1, v2]) ∈ news) (m2 : (dx, emptyDict) ∈ news) (hA : A.frames = some (env :: outer)) (hf : env.frame = some L) (hke : env.scope.kind = .function) (hh : A.handled = none) (hd : A.in1.depth + 3 * 2 < recursionLimit) (hu : A.in1.units + 40 * 2 < cLine) (hhv : handedIn v2 = true)
    (h : ∀ h' tk', Fr h₀ L h' m → News h₀ L h' news → Q v2 { s with heap := h', toks := tk' }) :
    wpAny (model PySem.Challenge.rw_jj0018_01.row.prog x.w) A (getAttr (.ref a) (Str.ofString "remaining") expr) Q E s := by
  have Xs := in_of F X
  revert X
  k_fill
  intro X
  refine' get_tup Xs (inst4_N N m1 m2) ?g ?k (findObj_any ?f1 ?f2 ?f3 ?f4) ?i ?_
  case g => k_is
  case k => k_is
  case f1 => k_is
  case f2 => k_is
  case f3 => k_is
  case f4 => k_is
  case i => k_is
  refine' Ctr.call (c_tgrem m1 m2) B F X N T hA hf hke hh hd hu ?_
  intro v' h' tk' L2' F' N' hp'
  obtain ⟨e1', e2'⟩ := hp'
  subst e1' e2'
  refine handed_on hhv ?_
  exact h h' tk' F' N'
end
section
-- c_told
theorem lines_c_told : True := by
  k_with "my off" => (guard_hyp mk38; first | assumption | exact off_lt0 (by assumption) | exact off_lt (by assumption) | exact off_lt (And.right (by assumption)) | exact off_lt (And.right (And.right (by assumption))) | exact off_lt (And.right (And.right (And.right (by assumption)))) | exact off_lt (And.right (And.right (And.right (And.right (by assumption))))) | exact off_lt (And.right (And.right (And.right (And.right (And.right (by assumption)))))) | exact off_lt (And.right (And.right (And.right (And.right (And.right (And.right (by assumption))))))))
  k_with "my all" => (guard_hyp mk38; k_extra "my off")
  k_with "my in" => (guard_hyp mk38; first | exact StV.sub (by assumption) _ (by assumption) | (refine List.mem_cons_of_mem _ ?_; k_extra "my in"))
  k_with "my up" => (guard_hyp mk38; (intro p hp; k_extra "my in"))
  k_with "getMethod ref" => (guard_hyp mk38; (k_here; k_dflt (refine' method_lim ?Fq260 ?Xq260 ?Nq260 ?Hq260 ?subq260 ?hgq260 ?hfq260 ?htq260 ?hlq260 ?_; (case Fq260 => k_asm); (case Xq260 => k_asm); (case Nq260 => k_asm); (case Hq260 => first | exact TellI.H0 (by assumption) | exact TellI.H1 (by assumption) | exact TellI.H2 (by assumption)); (case subq260 => k_extra "my up"); (case hgq260 => k_is); (case hfq260 => k_is); (case htq260 => k_is); (case hlq260 => (intros; k_get)))))
  k_with "getAttr ref" => (guard_hyp mk38; (k_here; (with_reducible show wpAny _ _ (getAttr (Value.ref _) (Str.ofString "amount") _) _ _ _); k_dflt (refine' amount_item ?Fq261 ?Xq261 ?Nq261 ?Hq261 ?subq261 ?hgq261 ?hhq261 ?haq261 ?hnq261 ?_; (case Fq261 => k_asm); (case Xq261 => k_asm); (case Nq261 => k_asm); (case Hq261 => exact TellI.HI (by assumption)); (case subq261 => k_extra "my up"); (case hgq261 => k_is); (case hhq261 => k_is); (case haq261 => k_is); (case hnq261 => k_is)); intro t'))
  k_with "exec For Name Name cons nil" => (guard_hyp mk38; (k_here; (rename Fr _ _ _ _ => lF'); (with_unfolding_all refine' For_invVF lF' ?k1q262 ?k2q262 ?_; (case k1q262 => exact rfl); (case k2q262 => exact rfl); k_whole)))
  k_with "pyIter ref" => (guard_hyp mk38; ((with_reducible show wpAny _ _ (pyIter (Value.ref _)) (fun it s₂ => LoopAtV _ _ _ _ _ _ _ _ _ it s₂) _ _); (rename Fr _ _ _ _ => lF'); (with_unfolding_all refine' iter_listUnr (lo := W.listOf #[.ref _, .ref _, .ref _] _) (vs := [_, _, _]) ?hhq263 lF' ?Nq263 ?mq263 ?hcq263 ?hdq263 ?_; (case hhq263 => exact rfl); (case Nq263 => k_asm); (case mq263 => k_mem); (case hcq263 => exact rfl); (case hdq263 => exact rfl)); clear lF'; intro i' l1; (try k_lt l1)))
  k_with "my ne" => (guard_hyp mk38; first | (with_reducible assumption) | exact Ne.symm (by with_reducible assumption) | (refine Nat.ne_of_lt ?_; (try dsimp only); omega) | (refine Nat.ne_of_gt ?_; (try dsimp only); omega))
  k_with "getAttr ref" => (guard_hyp mk38; (k_here; (with_reducible show wpAny _ _ (getAttr (Value.ref _) (Str.ofString "reset_time") _) _ _ _); k_dflt (refine' ga_reset ?Bq265 ?Fq265 ?Xq265 ?Nq265 ?Tq265 ?m1q265 ?m2q265 rfl rfl rfl rfl ?hdq265 ?huq265 ?hhvq265 ?_; (case Nq265 => k_asm); (case m1q265 => k_extra "my dl"); (case m2q265 => k_extra "my dl"); (case hhvq265 => k_handed); (case Bq265 => k_asm); (case Fq265 => k_asm); (case Xq265 => k_asm); (case Tq265 => k_asm); (case hdq265 => k_extra "my room"); (case huq265 => k_extra "my room")); intro h' tk' F' N'; (try k_sweep)))
  k_with "getAttr ref" => (guard_hyp mk38; (k_here; (with_reducible show wpAny _ _ (getAttr (Value.ref _) (Str.ofString "remaining") _) _ _ _); k_dflt (refine' ga_rem ?Bq266 ?Fq266 ?Xq266 ?Nq266 ?Tq266 ?m1q266 ?m2q266 rfl rfl rfl rfl ?hdq266 ?huq266 ?hhvq266 ?_; (case Nq266 => k_asm); (case m1q266 => k_extra "my dl"); (case m2q266 => k_extra "my dl"); (case hhvq266 => k_handed); (case Bq266 => k_asm); (case Fq266 => k_asm); (case Xq266 => k_asm); (case Tq266 => k_asm); (case hdq266 => k_extra "my room"); (case huq266 => k_extra "my room")); intro h' tk' F' N'; (try k_sweep)))
  k_with "my offs" => (guard_hyp mk38; first | k_extra "my off" | ((refine List.forall_mem_cons.mpr ⟨?_, ?_⟩); (focus (k_extra "my ne")); k_extra "my offs"))
  k_with "UnrEnd" => (guard_hyp mk38; k_dflt (first | (refine' unr0 ?Fq268 ?Nq268  ?a0q268 ⟨?mq268, ?_⟩; (case Fq268 => k_asm); (case Nq268 => k_asm); (case a0q268 => k_extra "my offs"); (case mq268 => k_extra "my dl")) | (refine' unr1 ?Fq268 ?Nq268 ?a1q268 ?a0q268 ⟨?mq268, ?_⟩; (case Fq268 => k_asm); (case Nq268 => k_asm); (case a1q268 => k_extra "my ne"); (case a0q268 => k_extra "my offs"); (case mq268 => k_extra "my dl")) | (refine' unr2 ?Fq268 ?Nq268 ?a1q268 ?a2q268 ?a0q268 ⟨?mq268, ?_⟩; (case Fq268 => k_asm); (case Nq268 => k_asm); (case a1q268 => k_extra "my ne"); (case a2q268 => k_extra "my ne"); (case a0q268 => k_extra "my offs"); (case mq268 => k_extra "my dl")) | (refine' unr3 ?Fq268 ?Nq268 ?a1q268 ?a2q268 ?a3q268 ?a0q268 ⟨?mq268, ?_⟩; (case Fq268 => k_asm); (case Nq268 => k_asm); (case a1q268 => k_extra "my ne"); (case a2q268 => k_extra "my ne"); (case a3q268 => k_extra "my ne"); (case a0q268 => k_extra "my offs"); (case mq268 => k_extra "my dl")) | (refine' unr4 ?Fq268 ?Nq268 ?a1q268 ?a2q268 ?a3q268 ?a4q268 ?a0q268 ⟨?mq268, ?_⟩; (case Fq268 => k_asm); (case Nq268 => k_asm); (case a1q268 => k_extra "my ne"); (case a2q268 => k_extra "my ne"); (case a3q268 => k_extra "my ne"); (case a4q268 => k_extra "my ne"); (case a0q268 => k_extra "my offs"); (case mq268 => k_extra "my dl")) | (refine' unr5 ?Fq268 ?Nq268 ?a1q268 ?a2q268 ?a3q268 ?a4q268 ?a5q268 ?a0q268 ⟨?mq268, ?_⟩; (case Fq268 => k_asm); (case Nq268 => k_asm); (case a1q268 => k_extra "my ne"); (case a2q268 => k_extra "my ne"); (case a3q268 => k_extra "my ne"); (case a4q268 => k_extra "my ne"); (case a5q268 => k_extra "my ne"); (case a0q268 => k_extra "my offs"); (case mq268 => k_extra "my dl")) | (refine' unr6 ?Fq268 ?Nq268 ?a1q268 ?a2q268 ?a3q268 ?a4q268 ?a5q268 ?a6q268 ?a0q268 ⟨?mq268, ?_⟩; (case Fq268 => k_asm); (case Nq268 => k_asm); (case a1q268 => k_extra "my ne"); (case a2q268 => k_extra "my ne"); (case a3q268 => k_extra "my ne"); (case a4q268 => k_extra "my ne"); (case a5q268 => k_extra "my ne"); (case a6q268 => k_extra "my ne"); (case a0q268 => k_extra "my offs"); (case mq268 => k_extra "my dl"))))
  k_with "call ref" => (guard_hyp mk38; (k_here; (with_reducible show wpAny _ _ (call (Value.ref 238) _ _) _ _ _); (k_dflt (show wpAny _ _ (call (Value.ref 238) [_, _, _] []) _ _ _)); k_dflt (refine' callX2 (v_fstat ?X0q269 ?Sq269 ?hbq269 ?HLq269 ?HIq269 ?HNq269 ?h0q269) ?Bq269 ?Fq269 ?Xq269 ?Nq269 ?Tq269 ?a1q269 ?a2q269 rfl rfl rfl rfl ?hdq269 ?huq269 ?_; (case X0q269 => assumption); (case Sq269 => assumption); (case hbq269 => omega); (case HLq269 => first | exact TellI.H0 (by assumption) | exact TellI.H1 (by assumption) | exact TellI.H2 (by assumption)); (case HIq269 => exact TellI.HI (by assumption)); (case HNq269 => exact TellI.HN (by assumption)); (case h0q269 => assumption); (case Nq269 => k_asm); (case a1q269 => k_extra "my off"); (case a2q269 => k_extra "my off"); (case Bq269 => k_asm); (case Fq269 => k_asm); (case Xq269 => k_asm); (case Tq269 => k_asm); (case hdq269 => k_extra "my room"); (case huq269 => k_extra "my room"); refine' after_ts2 ?Izq269 ?_; (case Izq269 => assumption); intro D' dx' t1' t2' h' tk' L2' r' F' N' ap1' ap2' hs' S' I' z1' z2'); (clear hs'); (try k_sweep)))
  k_with "call ref" => (guard_hyp mk38; (k_here; (with_reducible show wpAny _ _ (call (Value.ref 229) _ _) _ _ _); (k_dflt (show wpAny _ _ (call (Value.ref 229) [_, _, _, Value.int _ _] []) _ _ _)); k_dflt (refine' callX2 (v_ftest ?X0q270 ?Sq270 ?hbq270 ?HLq270 ?HIq270 ?HNq270 ?h0q270) ?Bq270 ?Fq270 ?Xq270 ?Nq270 ?Tq270 ?a1q270 ?a2q270 rfl rfl rfl rfl ?hdq270 ?huq270 ?_; (case X0q270 => assumption); (case Sq270 => assumption); (case hbq270 => omega); (case HLq270 => first | exact TellI.H0 (by assumption) | exact TellI.H1 (by assumption) | exact TellI.H2 (by assumption)); (case HIq270 => exact TellI.HI (by assumption)); (case HNq270 => exact TellI.HN (by assumption)); (case h0q270 => assumption); (case Nq270 => k_asm); (case a1q270 => k_extra "my off"); (case a2q270 => k_extra "my off"); (case Bq270 => k_asm); (case Fq270 => k_asm); (case Xq270 => k_asm); (case Tq270 => k_asm); (case hdq270 => k_extra "my room"); (case huq270 => k_extra "my room"); refine' after_tt2 (p1 := (_, tupInst 132 _ _)) (p2 := (_, emptyDict)) ?Izq270 ?zz1q270 ?zz2q270 ?_; (case Izq270 => assumption); (case zz1q270 => assumption); (case zz2q270 => assumption); intro h' tk' L2' r' F' N' ap1' ap2' S' I' z1' z2'); (try k_sweep)))
  k_with "call ref" => (guard_hyp mk38; (k_here; (with_reducible show wpAny _ _ (call (Value.ref 199) _ _) _ _ _); (k_dflt (show wpAny _ _ (call (Value.ref 199) [_, _, _] []) _ _ _)); k_dflt (refine' callX3 (v_mstat ?X0q271 ?Sq271 ?hbq271 ?HLq271 ?HIq271 ?HNq271 ?hgq271) ?Bq271 ?Fq271 ?Xq271 ?Nq271 ?Tq271 ?a1q271 ?a2q271 ?a3q271 rfl rfl rfl rfl ?hdq271 ?huq271 ?_; (case X0q271 => assumption); (case Sq271 => assumption); (case hbq271 => omega); (case HLq271 => first | exact TellI.H0 (by assumption) | exact TellI.H1 (by assumption) | exact TellI.H2 (by assumption)); (case HIq271 => exact TellI.HI (by assumption)); (case HNq271 => exact TellI.HN (by assumption)); (case hgq271 => assumption); (case Nq271 => k_asm); (case a1q271 => k_extra "my off"); (case a2q271 => k_extra "my off"); (case a3q271 => k_extra "my off"); (case Bq271 => k_asm); (case Fq271 => k_asm); (case Xq271 => k_asm); (case Tq271 => k_asm); (case hdq271 => k_extra "my room"); (case huq271 => k_extra "my room"); refine' after_ts3 ?Izq271 ?_; (case Izq271 => assumption); intro D' dx' t1' t2' h' tk' L2' r' F' N' ap1' ap2' ap3' hs' S' I' z1' z2'); (clear hs'); (try k_sweep)))
  k_with "call ref" => (guard_hyp mk38; (k_here; (with_reducible show wpAny _ _ (call (Value.ref 190) _ _) _ _ _); (k_dflt (show wpAny _ _ (call (Value.ref 190) [_, _, _, Value.int _ _] []) _ _ _)); k_dflt (refine' callX3 (v_mtest ?X0q272 ?Sq272 ?hbq272 ?HLq272 ?HIq272 ?HNq272 ?hgq272) ?Bq272 ?Fq272 ?Xq272 ?Nq272 ?Tq272 ?a1q272 ?a2q272 ?a3q272 rfl rfl rfl rfl ?hdq272 ?huq272 ?_; (case X0q272 => assumption); (case Sq272 => assumption); (case hbq272 => omega); (case HLq272 => first | exact TellI.H0 (by assumption) | exact TellI.H1 (by assumption) | exact TellI.H2 (by assumption)); (case HIq272 => exact TellI.HI (by assumption)); (case HNq272 => exact TellI.HN (by assumption)); (case hgq272 => assumption); (case Nq272 => k_asm); (case a1q272 => k_extra "my off"); (case a2q272 => k_extra "my off"); (case a3q272 => k_extra "my off"); (case Bq272 => k_asm); (case Fq272 => k_asm); (case Xq272 => k_asm); (case Tq272 => k_asm); (case hdq272 => k_extra "my room"); (case huq272 => k_extra "my room"); refine' after_tt3 (p1 := (_, tupInst 132 _ _)) (p2 := (_, emptyDict)) ?Izq272 ?zz1q272 ?zz2q272 ?_; (case Izq272 => assumption); (case zz1q272 => assumption); (case zz2q272 => assumption); intro h' tk' L2' r' F' N' ap1' ap2' ap3' S' I' z1' z2'); (try k_sweep)))
  k_with "call ref" => (guard_hyp mk38; (k_here; (with_reducible show wpAny _ _ (call (Value.ref 284) _ _) _ _ _); (k_dflt (show wpAny _ _ (call (Value.ref 284) [_, _, _] []) _ _ _)); k_dflt (refine' callX4 (v_sstat ?X0q273 ?Sq273 ?hbq273 ?HLq273 ?HIq273 ?HNq273 ?hlq273 ?h1q273 ?h2q273 ?hvq273) ?Bq273 ?Fq273 ?Xq273 ?Nq273 ?Tq273 ?a1q273 ?a2q273 ?a3q273 ?a4q273 rfl rfl rfl rfl ?hdq273 ?huq273 ?_; (case X0q273 => assumption); (case Sq273 => assumption); (case hbq273 => omega); (case HLq273 => first | exact TellI.H0 (by assumption) | exact TellI.H1 (by assumption) | exact TellI.H2 (by assumption)); (case HIq273 => exact TellI.HI (by assumption)); (case HNq273 => exact TellI.HN (by assumption)); (case hlq273 => assumption); (case h1q273 => assumption); (case h2q273 => assumption); (case hvq273 => assumption); (case Nq273 => k_asm); (case a1q273 => k_extra "my off"); (case a2q273 => k_extra "my off"); (case a3q273 => k_extra "my off"); (case a4q273 => k_extra "my off"); (case Bq273 => k_asm); (case Fq273 => k_asm); (case Xq273 => k_asm); (case Tq273 => k_asm); (case hdq273 => k_extra "my room"); (case huq273 => k_extra "my room"); refine' after_ts4 ?Izq273 ?_; (case Izq273 => assumption); intro D' dx' T' t1' t2' t3' h' tk' L2' r' F' N' ap1' ap2' ap3' ap4' hs' S' I' z1' z2' z3'); (clear hs'); (try k_sweep)))
  k_with "call ref" => (guard_hyp mk38; (k_here; (with_reducible show wpAny _ _ (call (Value.ref 275) _ _) _ _ _); (k_dflt (show wpAny _ _ (call (Value.ref 275) [_, _, _, Value.int _ _] []) _ _ _)); k_dflt (refine' callX4 (v_stest ?X0q274 ?Sq274 ?hbq274 ?HLq274 ?HIq274 ?HNq274 ?hlq274 ?h1q274 ?h2q274 ?hvq274) ?Bq274 ?Fq274 ?Xq274 ?Nq274 ?Tq274 ?a1q274 ?a2q274 ?a3q274 ?a4q274 rfl rfl rfl rfl ?hdq274 ?huq274 ?_; (case X0q274 => assumption); (case Sq274 => assumption); (case hbq274 => omega); (case HLq274 => first | exact TellI.H0 (by assumption) | exact TellI.H1 (by assumption) | exact TellI.H2 (by assumption)); (case HIq274 => exact TellI.HI (by assumption)); (case HNq274 => exact TellI.HN (by assumption)); (case hlq274 => assumption); (case h1q274 => assumption); (case h2q274 => assumption); (case hvq274 => assumption); (case Nq274 => k_asm); (case a1q274 => k_extra "my off"); (case a2q274 => k_extra "my off"); (case a3q274 => k_extra "my off"); (case a4q274 => k_extra "my off"); (case Bq274 => k_asm); (case Fq274 => k_asm); (case Xq274 => k_asm); (case Tq274 => k_asm); (case hdq274 => k_extra "my room"); (case huq274 => k_extra "my room"); refine' after_tt4 (p1 := (_, tupInst 132 _ _)) (p2 := (_, emptyDict)) (p3 := (_, tupO #[.int _ _, .int _ _])) ?Izq274 ?zz1q274 ?zz2q274 ?zz3q274 ?_; (case Izq274 => assumption); (case zz1q274 => assumption); (case zz2q274 => assumption); (case zz3q274 => assumption); intro h' tk' L2' r' F' N' ap1' ap2' ap3' ap4' S' I' z1' z2' z3'); (try k_sweep)))
  k_with "my dl" => (guard_hyp mk38; first | (with_reducible assumption) | (with_reducible exact List.mem_cons_self) | (with_reducible exact TellI.lmL (by with_reducible assumption) (by with_reducible assumption)) | (with_reducible exact StV.sub (by with_reducible assumption) _ (by with_reducible assumption)) | (refine List.mem_cons_of_mem _ ?_; k_extra "my dl"))
  exact True.intro
theorem c_told {x : CX} {c : Cf} {v : Vw} {b : Nat} {L rest : Led} {lims l0 l1 l2 it tu : Addr} {n0 : Nat} {am st nw : Int} {key : Str} (X0 : Fixed x c) (S : StV x c v b L rest) (hb : b ≤ 600) (hm : (lims, W.listOf #[.ref l0, .ref l1, .ref l2] n0) ∈ rest) (H0 : LimAt rest 241 l0 c.st) (H1 : LimAt rest 202 l1 c.st) (H2 : LimAt rest 296 l2 c.st) (HI : ItemAt rest it am) (HN : NameAt x rest it tu key) (hlen : key.length ≤ 100) (h1 : 1000 ≤ v.now) (h2 : v.now < 3000) (hv : (v.n (v.pk key)).natAbs < 1000) (hg : GmwV v key st nw) :
    Ct 7 x 690 [.ref lims, .ref it, .ref tu] [] L fun r L' => ∃ D, r = .ref D ∧ ∃ rest', Up rest rest' ∧ ToldAt rest' D (toldV v am key st nw) ∧ StV x c v b L' rest' := by
  have mk38 := True.intro
  have h0 : 0 ≤ v.now := by omega
  have hm' := S.sub _ hm
  have I0 : TellI x c lims l0 l1 l2 it tu n0 am key rest rest := ⟨hm, H0, H1, H2, HI, HN, fun _ h => h⟩
  clear hm H0 H1 H2 HI HN
  unfold Ct
  k_fill
  k_dflt (refine' ctr_enter (binds := [(Str.ofString "limiters", .ref lims), (Str.ofString "item", .ref it), (Str.ofString "name", .ref tu)]) (mm := fun y => List.lookup y [(Str.ofString "name", .ref tu), (Str.ofString "item", .ref it), (Str.ofString "limiters", .ref lims)]) ?k6 ?k7 ?k9 ?kB rfl ?_ ?c2 ?c3 ?c4 ?c5 ?c6; (case k6 => k_is); (case k7 => k_is); (case k9 => first | exact fun s _ => BindsTo.of_eq rfl | exact fun s hX => binds_K hX rfl (by k_is) rfl rfl rfl); (case c5 => decide); (case c6 => decide); (case kB => exact locs rfl); (case c2 => exact rfl); (case c3 => exact rfl); (case c4 => exact rfl); k_whole; intro dp un gd outer base g s L' B X T F N hdp hun; (try dsimp only [DL] at N); (try dsimp only); (try k_fold))
  k_steps
  refine' EndC.push4 ?Fz ?Nz ?Sz ?az1 ?az2 ?az3 ?az4 ?hz
  case Sz => assumption
  case Fz => k_asm
  case Nz => k_asm
  case az1 => k_extra "my off"
  case az2 => k_extra "my off"
  case az3 => k_extra "my off"
  case az4 => k_extra "my off"
  case hz => exact fun L' S' => ⟨_, rfl, _, up4 (TellI.hu (by assumption)), ⟨_, _, _, _, _, _, _, _, _, _, _, _, .tail _ (.tail _ (.tail _ (.head _))), .tail _ (.tail _ (.head _)), .tail _ (.head _), .head _, .tail _ (.tail _ (.tail _ (.tail _ (by assumption))))⟩, S'⟩
end
section
-- LawF
/-- the list of limiters -/
def LL (rest : Led) (lims l0 l1 l2 : Addr) (n0 : Nat) : Prop := (lims, W.listOf #[.ref l0, .ref l1, .ref l2] n0) ∈ rest
theorem LL.mono {rest rest' : Led} {lims l0 l1 l2 : Addr} {n0 : Nat} (h : LL rest lims l0 l1 l2 n0) (hs : ∀ p ∈ rest, p ∈ rest') : LL rest' lims l0 l1 l2 n0 := hs _ h
theorem LL.get {rest rest' : Led} {lims l0 l1 l2 : Addr} {n0 : Nat} (h : LL rest lims l0 l1 l2 n0) (hs : ∀ p ∈ rest, p ∈ rest') : (lims, W.listOf #[.ref l0, .ref l1, .ref l2] n0) ∈ rest' := hs _ h
section
variable {x : CX} {c : Cf} {v v' : Vw} {b : Nat} {L rest : Led} {lims l0 l1 l2 lim it tu : Addr} {n0 : Nat} {am st nw : Int} {key : Str} {t : Told}
theorem told' (ht : toldV v am key st nw = t) (X0 : Fixed x c) (S : StV x c v b L rest) (hb : b ≤ 600) (hm : LL rest lims l0 l1 l2 n0) (H0 : LimAt rest 241 l0 c.st) (H1 : LimAt rest 202 l1 c.st) (H2 : LimAt rest 296 l2 c.st) (HI : ItemAt rest it am) (HN : NameAt x rest it tu key) (hlen : key.length ≤ 100) (h1 : 1000 ≤ v.now) (h2 : v.now < 3000) (hv : (v.n (v.pk key)).natAbs < 1000) (hg : GmwV v key st nw) :
    Ct 7 x 690 [.ref lims, .ref it, .ref tu] [] L fun r L' => ∃ D, r = .ref D ∧ ∃ rest', Up rest rest' ∧ ToldAt rest' D t ∧ StV x c v b L' rest' := by
  subst ht; exact c_told X0 S hb hm H0 H1 H2 HI HN hlen h1 h2 hv hg
theorem fclr' (hv : v.clear key = v') (X0 : Fixed x c) (S : StV x c v b L rest) (hb : b ≤ 600) (HL : LimAt rest 241 lim c.st) (HI : ItemAt rest it am) (HN : NameAt x rest it tu key) (h0 : 0 ≤ v.now) :
    Ct 5 x 158 [.ref lim, .ref it, .ref tu] [] L fun r L' => r = .none ∧ ∃ rest', Up rest rest' ∧ StV x c v' b L' rest' := by
  subst hv; exact v_fclr X0 S hb HL HI HN h0
theorem mclr' (hv : v.clear key = v') (X0 : Fixed x c) (S : StV x c v b L rest) (hb : b ≤ 600) (HL : LimAt rest 202 lim c.st) (HI : ItemAt rest it am) (HN : NameAt x rest it tu key) (h0 : 0 ≤ v.now) :
    Ct 5 x 158 [.ref lim, .ref it, .ref tu] [] L fun r L' => r = .none ∧ ∃ rest', Up rest rest' ∧ StV x c v' b L' rest' := by
  subst hv; exact v_mclr X0 S hb HL HI HN h0
theorem sclr' (hv : sclr v key = v') (X0 : Fixed x c) (S : StV x c v b L rest) (hb : b ≤ 600) (HL : LimAt rest 296 lim c.st) (HI : ItemAt rest it am) (HN : NameAt x rest it tu key) (hlen : key.length ≤ 100) (h1 : 1000 ≤ v.now) (h2 : v.now < 3000) :
    Ct 5 x 293 [.ref lim, .ref it, .ref tu] [] L fun r L' => r = .none ∧ ∃ rest', Up rest rest' ∧ StV x c v' b L' rest' := by
  subst hv; exact v_sclr X0 S hb HL HI HN hlen h1 h2
theorem reset' (hv : v.reset = v') (X0 : Fixed x c) (S : StV x c v b L rest) (hb : b ≤ 600) (h0 : 0 ≤ v.now) :
    Ct 1 x 671 [.ref c.st] [] L fun _ L' => ∃ rest', Up rest rest' ∧ StV x c v' b L' rest' := by
  subst hv; exact v_reset X0 S hb h0
end
section
variable {prog : Program} {w : World} {A : Around} {E : Value → Shared → Prop} {s : Shared} {h₀ : Heap} {L a : Addr} {m : Str → Option Value} {news : List (Addr × Obj)} {t : Tok} {rest : Led}
/-- two rows that hold the same -/
theorem row_neF2 {a' : Addr} {b1 b2 : Bool} {z1 z2 : Int} {t1 t2 u1 u2 : Tok} {Q : Value → Shared → Prop} (N : News h₀ L s.heap news) (m1 : (a, tupO #[.bool b1, .bool b2, .int z1 t1, .int z2 t2]) ∈ news) (m2 : (a', tupO #[.bool b1, .bool b2, .int z1 u1, .int z2 u2]) ∈ news) (hu : A.units + 64 < cLine) (h : Q (.bool false) s) :
    wpAny (model prog w) A (compareOp .NotEq (.ref a) (.ref a')) Q E s :=
  row_neF (t := ⟨b1, b2, z1, z2, b1, b2, 0, 0, b1, b2, 0, 0, 0⟩) (t' := ⟨b1, b2, z1, z2, b1, b2, 0, 0, b1, b2, 0, 0, 0⟩) N m1 m2 rfl hu h
theorem row_neS2 {a' T T' : Addr} {b1 b2 : Bool} {z1 z2 z3 : Int} {t1 t2 t3 u1 u2 u3 : Tok} {Q : Value → Shared → Prop} (N : News h₀ L s.heap news) (m1 : (a, tupO #[.bool b1, .bool b2, .ref T, .int z1 t1]) ∈ news) (m1' : (T, tupO #[.int z2 t2, .int z3 t3]) ∈ news) (m2 : (a', tupO #[.bool b1, .bool b2, .ref T', .int z1 u1]) ∈ news) (m2' : (T', tupO #[.int z2 u2, .int z3 u3]) ∈ news) (hu : A.units + 64 < cLine) (h : Q (.bool false) s) :
    wpAny (model prog w) A (compareOp .NotEq (.ref a) (.ref a')) Q E s :=
  row_neS (t := ⟨b1, b2, 0, 0, b1, b2, 0, 0, b1, b2, z2, z3, z1⟩) (t' := ⟨b1, b2, 0, 0, b1, b2, 0, 0, b1, b2, z2, z3, z1⟩) N m1 m1' m2 m2' rfl hu h
theorem fast_list {value slice : PySem.Expr} {z : Int} {vs : List Value} {v : Value} {n : Nat} {Q : Value → Shared → Prop} (N : News h₀ L s.heap news) (hm : (a, W.listOf vs.toArray n) ∈ news) (hz : 0 ≤ z ∧ z < 1000) (hv : vs[z.toNat]? = some v) (h : Q v s)
    (hs : subscripted slice false (.ref a) (.int z t) = operate [.ref a, .int z t] (getItem (.ref a) (.int z t)) := by with_unfolding_all rfl) :
    wpAny (model prog w) A (subscriptTail value slice (.ref a) (.int z t)) Q E s := by
  have hl := N.isList hm
  exact tail_any hl.typeIs slot_list_getitem.lookup (wpAny_getItem_list hl hz.1 (by omega) (by simpa using hv) h) hs
theorem fast_tup {value slice : PySem.Expr} {z : Int} {vs : List Value} {v : Value} {Q : Value → Shared → Prop} (N : News h₀ L s.heap news) (hm : (a, tupO vs.toArray) ∈ news) (hz : 0 ≤ z ∧ z < 1000) (hv : vs[z.toNat]? = some v) (h : Q v s)
    (hs : subscripted slice false (.ref a) (.int z t) = operate [.ref a, .int z t] (getItem (.ref a) (.int z t)) := by with_unfolding_all rfl) :
    wpAny (model prog w) A (subscriptTail value slice (.ref a) (.int z t)) Q E s := by
  have hlt : z.toNat < vs.length := by
    rcases Nat.lt_or_ge z.toNat vs.length with q | q
    · exact q
    · rw [List.getElem?_eq_none q] at hv; cases hv
  exact item_tupleT (N.isTup hm) (by omega) (by omega) (j := z.toNat) (seqIndex_of hz.1 (by omega)) hv h hs
/-- a list that a comprehension made, held against a written one -/
theorem bools_eq {a' : Addr} {n : Nat} {Q : Value → Shared → Prop} (N : News h₀ L s.heap news) (m1 : (a, LCg.lst [.bool true, .bool true, .bool true]) ∈ news) (m2 : (a', W.listOf #[.bool true, .bool true, .bool true] n) ∈ news) (hu : A.units + 64 < cLine) (h : Q (.bool true) s) :
    wpAny (model prog w) A (compareOp .Eq (.ref a) (.ref a')) Q E s := by
  have r1 : ∃ as, Reads s.heap (.ref a) (.list [.bool true, .bool true, .bool true]) as := ⟨_, .list (N _ m1).1 rfl rfl (.cons (.bool _) (.cons (.bool _) (.cons (.bool _) .nil)))⟩
  have r2 : ∃ as, Reads s.heap (.ref a') (.list [.bool true, .bool true, .bool true]) as := ⟨_, .list (N _ m2).1 rfl rfl (.cons (.bool _) (.cons (.bool _) (.cons (.bool _) .nil)))⟩
  obtain ⟨_, r1⟩ := r1
  obtain ⟨_, r2⟩ := r2
  exact eq_dataH r1 r2 rfl rfl hu h
/-- an item of a list or a tuple of the ledger, at an index that is told by a term -/
theorem item_at2 {value slice : PySem.Expr} {z : Int} (i : Nat) {vs : List Value} {v : Value} {n : Nat} {Q : Value → Shared → Prop} (N : News h₀ L s.heap news) (hz : z = (i : Int)) (hm : (a, W.listOf vs.toArray n) ∈ news) (hv : vs[i]? = some v) (hi : i < 1000) (h : Q v s)
    (hs : subscripted slice false (.ref a) (.int z t) = operate [.ref a, .int z t] (getItem (.ref a) (.int z t)) := by with_unfolding_all rfl) :
    wpAny (model prog w) A (subscriptTail value slice (.ref a) (.int z t)) Q E s := by
  subst hz
  exact item_at N hm hv hi h hs
end
theorem comp_end {h₀ : Heap} {L I C D : Addr} {m : Str → Option Value} {s₁ : Shared} {oI oC oD : Obj} {S : List (Addr × Obj) → Prop} {rest : Value → List (Addr × Obj) → Prop} {y : Value} {h' : Heap} {tk : Nat} {tl : Led}
    (F : Fr h₀ L h' m) (N : News h₀ L h' ((I, oI) :: (C, oC) :: (D, oD) :: tl)) (off : LCg.Off3 I C D tl) (hS : S tl) (r : rest y tl) : LCg.CompEnd h₀ L m s₁ I oI C oC D oD S rest y { s₁ with heap := h', toks := tk } := LCg.CompEnd.intro F N tl (fun _ h => h) off hS r
theorem LawEnd.of {x : CX} {c : Cf} {v : Vw} {b : Nat} {Ls rest : Led} {g h' : Heap} {s : Shared} {L : Addr} {m : Str → Option Value} {tk : Tok} {q1 q2 : Addr × Obj} {p : Array Value} (F : Fr g L h' m) (N : News g L h' (q1 :: q2 :: Ls)) (S : StV x c v b Ls rest) (h692 : (692, tabObj p) ∈ rest) :
    LawEnd g s (.ret (.bool true)) { s with heap := h', toks := tk } := by
  obtain ⟨pz, hpz⟩ := S.tab
  exact ⟨_, _, _, _, _, _, _, rfl, rfl, F, N, .tail _ (.tail _ hpz), .tail _ (.tail _ (S.sub _ h692))⟩
/-- the body of the def at f, known -/
def BodyAt (x : CX) (f : Addr) (body : List Stmt) (scope : Scope) : Prop := ∀ (k : Nat) (W : List Stmt → Scope → Prop), Body x f k W → W (body.drop k) scope
theorem Body.mk2 {x : CX} {f : Addr} {k : Nat} {W : List Stmt → Scope → Prop} {oc : Value} {od : Option Addr} {osl : Array (Option Value)} {name qual : Str} {params : Arguments} {body : List Stmt} {scope : Scope} {dV kV doc pm cdv ct : Value} {an : Option Addr}
    (ho : List.lookup f (Mine.hd.heap_1 x.w.params) = some ⟨oc, od, .func (fnOf name qual params body scope dV kV doc pm an cdv ct), osl⟩) (h : BodyAt x f body scope → W (body.drop k) scope) : Body x f k W :=
  Body.mk ho (h fun _ _ B => B.use ho)
theorem BodyAt.use {x : CX} {f : Addr} {k : Nat} {W : List Stmt → Scope → Prop} {body : List Stmt} {scope : Scope} {G : Prop} (hA : BodyAt x f body scope) (hg : W (body.drop k) scope → G) (hb : Body x f k W) : G := hg (hA _ _ hb)
def Same (s0 s : Shared) : Prop := ∃ h t, s = { s0 with heap := h, toks := t }
theorem news_tl {g h : Heap} {L : Addr} {q : Addr × Obj} {l : Led} (N : News g L h (q :: l)) : News g L h l := fun p hp => N p (List.mem_cons_of_mem _ hp)
theorem up_in {a b : Led} {p : Addr × Obj} (h : Up a b) (hp : p ∈ a) : p ∈ b := h p hp
theorem aft_reset (v : Vw) (k : Str) (am : Int) (h1 : 1000 ≤ v.now) (h2 : v.now < 3000) : ∃ vr, v.reset = vr ∧ 0 ≤ vr.now ∧ 1000 ≤ vr.now ∧ vr.now < 3000 ∧ (vr.n (vr.pk k)).natAbs < 1000 ∧ ∃ gs, GmwV vr k gs 0 ∧
    ∃ f2 fr fq m2 mr mq s2 sr1 sr2 sq, toldV vr am k gs 0 = ⟨true, f2, fr, fq, true, m2, mr, mq, true, s2, sr1, sr2, sq⟩ := by
  refine ⟨_, rfl, ?_, h1, h2, ?_, v.now, gmw_reset k, ?_⟩
  · show 0 ≤ v.now
    omega
  · show (0 : Int).natAbs < 1000
    decide
  · obtain ⟨q1, q2, q3⟩ := @told_reset v am k v.now
    generalize toldV v.reset am k v.now 0 = t at q1 q2 q3
    cases t
    dsimp only at q1 q2 q3
    subst q1 q2 q3
    exact ⟨_, _, _, _, _, _, _, _, _, _, rfl⟩
end
section
-- LawC
section
variable {x : CX} {c : Cf} {v v' : Vw} {b : Nat} {L rest : Led} {lim it tu : Addr} {am cost st nw : Int} {key : Str} {tc : Tok} {bb : Bool}
theorem fhit' (hv : v.incr key 10 cost = v') (hbb : decide (v.n key + cost ≤ am) = bb) (X0 : Fixed x c) (S : StV x c v b L rest) (hb : b ≤ 600) (HL : LimAt rest 241 lim c.st) (HI : ItemAt rest it am) (HN : NameAt x rest it tu key) (h0 : 0 ≤ v.now) :
    Ct 5 x 220 [.ref lim, .ref it, .ref tu, .int cost tc] [] L fun r L' => r = .bool bb ∧ ∃ rest', Up rest rest' ∧ StV x c v' (b + 1) L' rest' := by
  subst hv hbb; exact v_fhit X0 S hb HL HI HN h0
theorem mhit' (hv : v.acq key am cost = v') (hbb : v.acqB key am cost = bb) (X0 : Fixed x c) (S : StV x c v b L rest) (hb : b ≤ 600) (HL : LimAt rest 202 lim c.st) (HI : ItemAt rest it am) (HN : NameAt x rest it tu key) (h1 : 1 ≤ cost) (h2 : am ≤ 8) (hlen : (v.m key).length ≤ 900) :
    CtT 6 x 181 [.ref lim, .ref it, .ref tu, .int cost tc] [] L fun r L' => r = .bool bb ∧ ∃ rest', Up rest rest' ∧ StV x c v' (b + 2) L' rest' := by
  subst hv hbb; exact v_mhit X0 S hb HL HI HN h1 h2 hlen
theorem shit' (hv : v.acqS key am cost = v') (hbb : v.acqSB key am cost = bb) (X0 : Fixed x c) (S : StV x c v b L rest) (hb : b ≤ 600) (HL : LimAt rest 296 lim c.st) (HI : ItemAt rest it am) (HN : NameAt x rest it tu key) (hlen : key.length ≤ 100) (h1 : 1000 ≤ v.now) (h2 : v.now < 3000) :
    Ct 6 x 266 [.ref lim, .ref it, .ref tu, .int cost tc] [] L fun r L' => r = .bool bb ∧ ∃ rest', Up rest rest' ∧ StV x c v' (b + 1) L' rest' := by
  subst hv hbb; exact v_shit X0 S hb HL HI HN hlen h1 h2
theorem ftest' (hbb : decide (v.n key < am - cost + 1) = bb) (X0 : Fixed x c) (S : StV x c v b L rest) (hb : b ≤ 600) (HL : LimAt rest 241 lim c.st) (HI : ItemAt rest it am) (HN : NameAt x rest it tu key) (h0 : 0 ≤ v.now) :
    Ct 5 x 229 [.ref lim, .ref it, .ref tu, .int cost tc] [] L fun r L' => r = .bool bb ∧ ∃ rest', Up rest rest' ∧ StV x c v b L' rest' := by
  subst hbb; exact v_ftest X0 S hb HL HI HN h0
theorem mtest' (hg : GmwV v key st nw) (hbb : decide (nw ≤ am - cost) = bb) (X0 : Fixed x c) (S : StV x c v b L rest) (hb : b ≤ 600) (HL : LimAt rest 202 lim c.st) (HI : ItemAt rest it am) (HN : NameAt x rest it tu key) :
    Ct 5 x 190 [.ref lim, .ref it, .ref tu, .int cost tc] [] L fun r L' => r = .bool bb ∧ ∃ rest', Up rest rest' ∧ StV x c v b L' rest' := by
  subst hbb; exact v_mtest X0 S hb HL HI HN hg
theorem stest' (hbb : decide (v.wtd key < am - cost + 1) = bb) (X0 : Fixed x c) (S : StV x c v b L rest) (hb : b ≤ 600) (HL : LimAt rest 296 lim c.st) (HI : ItemAt rest it am) (HN : NameAt x rest it tu key) (hlen : key.length ≤ 100) (h1 : 1000 ≤ v.now) (h2 : v.now < 3000) (hv : (v.n (v.pk key)).natAbs < 1000) :
    Ct 5 x 275 [.ref lim, .ref it, .ref tu, .int cost tc] [] L fun r L' => r = .bool bb ∧ ∃ rest', Up rest rest' ∧ StV x c v b L' rest' := by
  subst hbb; exact v_stest X0 S hb HL HI HN hlen h1 h2 hv
end
section
variable {prog : Program} {w : World} {A : Around} {E : Value → Shared → Prop} {s : Shared} {g : Heap} {L : Addr} {m : Str → Option Value} {x : CX} {c : Cf} {v v' : Vw} {b : Nat} {Ls rest : Led}
theorem fast_get {a : Addr} {z : Int} {t : Tok} {vs : List Value} {u : Value} {n : Nat} {Q : Value → Shared → Prop} (N : News g L s.heap Ls) (hm : (a, W.listOf vs.toArray n) ∈ Ls) (hz : 0 ≤ z ∧ z < 1000) (hv : vs[z.toNat]? = some u) (h : Q u s) :
    wpAny (model prog w) A (getItem (.ref a) (.int z t)) Q E s :=
  wpAny_getItem_list (N.isList hm) hz.1 (by omega) (by simpa using hv) h
theorem is_lim {C C' lim lim' st st' : Addr} {rest2 : Led} {Q : Value → Shared → Prop} (N : News g L s.heap Ls) (H : LimAt rest C lim st) (H' : LimAt rest2 C' lim' st') (sub : ∀ p ∈ rest, p ∈ Ls) (sub2 : ∀ p ∈ rest2, p ∈ Ls) (hne : lim ≠ lim') (h : Q (.bool false) s) :
    wpAny (model prog w) A (compareOp .Is (.ref lim) (.ref lim')) Q E s := by
  refine hideG ?_
  intro G' hG'
  obtain ⟨dl, e, t, n, m1, _⟩ := H
  refine hG' ?_
  clear hG' G'
  obtain ⟨dl', e', t', n', m1', _⟩ := H'
  exact wpAny_is_ref_other hne (N _ (sub _ m1)).1 (N _ (sub2 _ m1')).1 (by intro z; cases z) h
theorem up_self (_ : StV x c v b Ls rest) : Up rest rest := fun _ h => h
/-- the clock is put on -/
theorem set_now {z d : Int} {t t2 : Tok} {Q : Unit → Shared → Prop} (hv : v.adv d = v') (F : Fr g L s.heap m) (N : News g L s.heap Ls) (X0 : Fixed x c) (S : StV x c v b Ls rest) (h0 : 0 ≤ v.now) (hd : 0 ≤ d) (hz : z = v.now + d)
    (h : ∀ h' Ls', Fr g L h' m → News g L h' Ls' → StV x c v' b Ls' rest → (∀ p ∈ Ls', ∃ q ∈ Ls, q.1 = p.1) → Q () { s with heap := h' }) : wpAny (model prog w) A (setItem (.ref c.ln) (.int 0 t) (.int z t2)) Q E s := by
  subst hv hz
  cases S with | @mk σ S e =>
  subst e
  cases S with | @mk o1 o2 o3 o5 t' n rest T1 T2 T3 T4 T5 =>
  have z := N (c.ln, W.listOf #[.int σ.now t'] n) (.tail _ (.tail _ (.tail _ (.head _))))
  have a : ∀ p ∈ [(c.d1, o1), (c.d2, o2), (c.d3, o3)], p.1 ≠ c.ln := by
    intro p hp
    simp only [List.mem_cons, List.not_mem_nil, or_false] at hp
    rcases hp with rfl | rfl | rfl
    · exact X0.n14
    · exact X0.n24
    · exact X0.n34
  have b' : ∀ p ∈ (623, o5) :: rest, p.1 ≠ c.ln := by
    intro p hp
    rcases List.mem_cons.mp hp with rfl | hp
    · exact X0.n45.symm
    · exact T5.a4 p hp
  have N' := ki_turn (pre := [(c.d1, o1), (c.d2, o2), (c.d3, o3)]) (post := (623, o5) :: rest) (D := c.ln) (its := #[.int σ.now t']) (its' := #[.int (σ.now + d) t2]) (n := n) (n' := n) (fun a => a.setIfInBounds (0 : Int).toNat (.int (σ.now + d) t2)) N a b' (by rfl) (by rfl)
  refine ki_setAt z.1 (by decide) (by decide) (by show (0 : Int) < 1; decide) (h _ _ (F.change (Heap.SameBut.update ..) z.2.1 z.2.2) N' (.mk (σ := { σ with now := σ.now + d }) (.mk T1 T2 T3 T4 T5) (view_adv h0 d hd)) ?_)
  intro p hp
  simp only [List.cons_append, List.nil_append, List.mem_cons] at hp
  rcases hp with rfl | rfl | rfl | rfl | rfl | hp
  · exact ⟨_, .head _, rfl⟩
  · exact ⟨_, .tail _ (.head _), rfl⟩
  · exact ⟨_, .tail _ (.tail _ (.head _)), rfl⟩
  · exact ⟨_, .tail _ (.tail _ (.tail _ (.head _))), rfl⟩
  · exact ⟨_, .tail _ (.tail _ (.tail _ (.tail _ (.head _)))), rfl⟩
  · exact ⟨p, .tail _ (.tail _ (.tail _ (.tail _ (.tail _ hp)))), rfl⟩
end
end
section
-- LawI
/-- what the law's loops lean on, of the part of the ledger that stays -/
structure LawI (x : CX) (c : Cf) (lims l0 l1 l2 it nms tA tB : Addr) (k0 k1 : Nat) (am : Int) (kA kB : Str) (p9 : Array Value) (r : Led) : Prop where
  hlm : LL r lims l0 l1 l2 k0
  hnm : (nms, W.listOf #[.ref tA, .ref tB] k1) ∈ r
  H0 : LimAt r 241 l0 c.st
  H1 : LimAt r 202 l1 c.st
  H2 : LimAt r 296 l2 c.st
  HI : ItemAt r it am
  hNN : NN x r it tA tB kA kB
  h692 : (692, tabObj p9) ∈ r
section
variable {x : CX} {c : Cf} {lims l0 l1 l2 it nms tA tB : Addr} {k0 k1 : Nat} {am : Int} {kA kB : Str} {p9 : Array Value} {rest r' Ls : Led} {v v' : Vw} {b b' : Nat}
theorem LawI.mono (i : LawI x c lims l0 l1 l2 it nms tA tB k0 k1 am kA kB p9 rest) (hs : ∀ p ∈ rest, p ∈ r') : LawI x c lims l0 l1 l2 it nms tA tB k0 k1 am kA kB p9 r' :=
  ⟨i.hlm.mono hs, hs _ i.hnm, i.H0.mono hs, i.H1.mono hs, i.H2.mono hs, i.HI.mono hs, i.hNN.mono hs, hs _ i.h692⟩
theorem LawI.lmL (i : LawI x c lims l0 l1 l2 it nms tA tB k0 k1 am kA kB p9 rest) (S : StV x c v b Ls rest) : (lims, W.listOf #[.ref l0, .ref l1, .ref l2] k0) ∈ Ls := S.sub _ i.hlm
theorem LawI.nmL (i : LawI x c lims l0 l1 l2 it nms tA tB k0 k1 am kA kB p9 rest) (S : StV x c v b Ls rest) : (nms, W.listOf #[.ref tA, .ref tB] k1) ∈ Ls := S.sub _ i.hnm
/-- behind a call of the law's loops -/
theorem after_i2 {Q : Value → Shared → Prop} {s : Shared} {h₀ : Heap} {L : Addr} {m : Str → Option Value} {w : Value} {q1 q2 : Addr × Obj} (i : LawI x c lims l0 l1 l2 it nms tA tB k0 k1 am kA kB p9 rest)
    (k : ∀ h' tk' Ls' r', Fr h₀ L h' m → News h₀ L h' (q1 :: q2 :: Ls') → (∀ r ∈ Ls', r.1 ≠ q1.1) → (∀ r ∈ Ls', r.1 ≠ q2.1) → StV x c v' b' Ls' r' → LawI x c lims l0 l1 l2 it nms tA tB k0 k1 am kA kB p9 r' → Q w { s with heap := h', toks := tk' }) :
    ∀ v h' tk' news', Fr h₀ L h' m → News h₀ L h' (q1 :: q2 :: news') → (∀ r ∈ news', r.1 ≠ q1.1) → (∀ r ∈ news', r.1 ≠ q2.1) → (v = w ∧ ∃ r', (∀ p ∈ rest, p ∈ r') ∧ StV x c v' b' news' r') → Q v { s with heap := h', toks := tk' } := by
  rintro v h' tk' Ls' F N a1 a2 ⟨rfl, r', hs, S⟩
  exact k h' tk' Ls' r' F N a1 a2 S (i.mono hs)
theorem after_i0 {Q : Value → Shared → Prop} {s : Shared} {h₀ : Heap} {L : Addr} {m : Str → Option Value} {w : Value} (i : LawI x c lims l0 l1 l2 it nms tA tB k0 k1 am kA kB p9 rest)
    (k : ∀ h' tk' Ls' r', Fr h₀ L h' m → News h₀ L h' Ls' → Up rest r' → StV x c v' b' Ls' r' → LawI x c lims l0 l1 l2 it nms tA tB k0 k1 am kA kB p9 r' → Q w { s with heap := h', toks := tk' }) :
    ∀ v h' tk' news', Fr h₀ L h' m → News h₀ L h' news' → (v = w ∧ ∃ r', (∀ p ∈ rest, p ∈ r') ∧ StV x c v' b' news' r') → Q v { s with heap := h', toks := tk' } := by
  rintro v h' tk' Ls' F N ⟨rfl, r', hs, S⟩
  exact k h' tk' Ls' r' F N hs S (i.mono hs)
/-- behind a call that tells the three rows -/
theorem after_told0 {Q : Value → Shared → Prop} {s : Shared} {h₀ : Heap} {L : Addr} {m : Str → Option Value} {t : Told} (i : LawI x c lims l0 l1 l2 it nms tA tB k0 k1 am kA kB p9 rest)
    (k : ∀ D h' tk' Ls' r', Fr h₀ L h' m → News h₀ L h' Ls' → Up rest r' → StV x c v' b' Ls' r' → LawI x c lims l0 l1 l2 it nms tA tB k0 k1 am kA kB p9 r' → ToldAt r' D t → Q (.ref D) { s with heap := h', toks := tk' }) :
    ∀ v h' tk' news', Fr h₀ L h' m → News h₀ L h' news' → (∃ D, v = .ref D ∧ ∃ r', Up rest r' ∧ ToldAt r' D t ∧ StV x c v' b' news' r') → Q v { s with heap := h', toks := tk' } := by
  rintro v h' tk' Ls' F N ⟨D, rfl, r', hs, ht, S⟩
  exact k D h' tk' Ls' r' F N hs S (i.mono hs) ht
end
end
section
-- c_lawE
theorem lines_c_lawE : True := by
  k_with "execs cons" => (guard_hyp mk39; (k_here; (with_reducible show wpAny _ _ (execs _ _) (LawEnd _ _) _ _); (try k_gentoks); (refine execs_hid1 ?_); intro Q1' hQ1'))
  k_with "call ref" => (guard_hyp mk39; (k_here; refine Stop.out ?_))
  k_with "my room" => (guard_hyp mk39; (simp only [depth_under_make, depth_under_kw, depth_in1, depth_deeper, units_in1, units_deeper, Around.mark_units]; (try dsimp only [topA, callerA]); first | omega | decide))
  k_with "my off" => (guard_hyp mk39; first | assumption | exact off_lt0 (by assumption) | exact off_lt (by assumption) | exact off_lt (And.right (by assumption)) | exact off_lt (And.right (And.right (by assumption))) | exact off_lt (And.right (And.right (And.right (by assumption)))) | exact off_lt (And.right (And.right (And.right (And.right (by assumption))))) | exact off_lt (And.right (And.right (And.right (And.right (And.right (by assumption)))))))
  k_with "my all" => (guard_hyp mk39; k_extra "my off")
  k_with "my nm" => (guard_hyp mk39; first | assumption | (refine (if_neg (by decide)).trans ?_; k_extra "my nm") | exact if_pos rfl)
  k_with "eval Name" => (guard_hyp mk39; (k_here; k_dflt (refine' nameX_L ?Fq282 ?hvq282 ?_ ?hkq282 ?hxq282; (case Fq282 => k_asm); (case hvq282 => k_extra "my nm"); (case hkq282 => exact rfl); (case hxq282 => exact rfl))))
  k_with "my off" => (guard_hyp mk39; first | assumption | exact off_lt0 (by assumption) | exact off_lt (by assumption) | exact off_lt (And.right (by assumption)) | exact off_lt (And.right (And.right (by assumption))) | exact off_lt (And.right (And.right (And.right (by assumption)))) | exact off_lt (And.right (And.right (And.right (And.right (by assumption))))) | exact off_lt (And.right (And.right (And.right (And.right (And.right (by assumption)))))) | exact off_lt (And.right (And.right (And.right (And.right (And.right (And.right (by assumption))))))))
  k_with "my all" => (guard_hyp mk39; k_extra "my off")
  k_with "my in" => (guard_hyp mk39; first | exact StV.sub (by assumption) _ (by assumption) | (refine List.mem_cons_of_mem _ ?_; k_extra "my in"))
  k_with "my up" => (guard_hyp mk39; (intro p hp; k_extra "my in"))
  k_with "getMethod ref" => (guard_hyp mk39; (k_here; k_dflt (refine' method_lim ?Fq287 ?Xq287 ?Nq287 ?Hq287 ?subq287 ?hgq287 ?hfq287 ?htq287 ?hlq287 ?_; (case Fq287 => k_asm); (case Xq287 => k_asm); (case Nq287 => k_asm); (case Hq287 => assumption); (case subq287 => k_extra "my up"); (case hgq287 => k_is); (case hfq287 => k_is); (case htq287 => k_is); (case hlq287 => (intros; k_get)))))
  k_with "getAttr ref" => (guard_hyp mk39; (k_here; (with_reducible show wpAny _ _ (getAttr (Value.ref _) (Str.ofString "amount") _) _ _ _); k_dflt (refine' amount_item ?Fq288 ?Xq288 ?Nq288 ?Hq288 ?subq288 ?hgq288 ?hhq288 ?haq288 ?hnq288 ?_; (case Fq288 => k_asm); (case Xq288 => k_asm); (case Nq288 => k_asm); (case Hq288 => assumption); (case subq288 => k_extra "my up"); (case hgq288 => k_is); (case hhq288 => k_is); (case haq288 => k_is); (case hnq288 => k_is)); intro t'))
  k_with "call ref" => (guard_hyp mk39; (k_here; (with_reducible show wpAny _ _ (call (Value.ref 690) _ _) _ _ _); (k_dflt (show wpAny _ _ (call (Value.ref 690) [_, _, _] []) _ _ _)); k_dflt (refine' callX0 (told' ?htq289 ?X0q289 ?Sq289 ?hbq289 ?hmq289 ?H0q289 ?H1q289 ?H2q289 ?HIq289 ?HNq289 ?hlenq289 ?h1q289 ?h2q289 ?hvq289 ?hgq289) ?Bq289 ?Fq289 ?Xq289 ?Nq289 ?Tq289  rfl rfl rfl rfl ?hdq289 ?huq289 ?_; (case X0q289 => assumption); (case Sq289 => assumption); (case hbq289 => omega); (case HNq289 => first | exact And.left (by assumption : NN _ _ _ _ _ _ _) | exact And.right (by assumption : NN _ _ _ _ _ _ _)); (case hmq289 => assumption); (case H0q289 => assumption); (case H1q289 => assumption); (case H2q289 => assumption); (case HIq289 => assumption); (case hlenq289 => assumption); (case h1q289 => assumption); (case h2q289 => assumption); (case hvq289 => assumption); (case hgq289 => assumption); (case htq289 => assumption); (case Nq289 => k_asm); (case Bq289 => k_asm); (case Fq289 => k_asm); (case Xq289 => k_asm); (case Tq289 => k_asm); (case hdq289 => k_extra "my room"); (case huq289 => k_extra "my room"); intro v' h' tk' L2' F' N'  hp'); (refine hideG ?_); intro G' hG'; (obtain ⟨D', e1', r', hs', t1', S'⟩ := hp'); (refine hG' ?_); (clear hG' G'); subst e1'; (have hL' := StV.sub S'); (have w0 := LimAt.mono (C := 241) (by assumption) hs'); (have w1 := LimAt.mono (C := 202) (by assumption) hs'); (have w2 := LimAt.mono (C := 296) (by assumption) hs'); (have w3 := ItemAt.mono (by assumption) hs'); (have w4 := LL.mono (by assumption) hs'); (have w5 := hs' (_, W.listOf #[.ref _, .ref _] _) (by assumption)); (have w5' := hL' _ w5); (have w4' := LL.get w4 hL'); (have n0 := NN.mono (by assumption) hs'); (obtain ⟨ct', cn', cl'⟩ := StV.clock S'); (try rw [(by assumption : Vw.now _ = Vw.now _)] at cl'); (have cf' := hL' _ (Fix.cn (StV.fix S'))); (rw [(by assumption : Cf.cn _ = _)] at cf'); (have fs' := hL' _ (Fix.st (StV.fix S'))); (have fd' := hL' _ (Fix.dst (StV.fix S'))); (have t2' := t1'); (k_dflt (obtain ⟨a0', a1', a2', aT', an', u1', u2', u3', u4', u5', u6', u7', z1', z2', z3', z4', z5'⟩ := t2')); (try dsimp only at z2' z3' z4' z5'); (have y1' := hL' _ z1'); (have y2' := hL' _ z2'); (have y3' := hL' _ z3'); (have y4' := hL' _ z4'); (have y5' := hL' _ z5'); (try k_sweep)))
  k_with "call ref" => (guard_hyp mk39; (k_here; (with_reducible show wpAny _ _ (call (Value.ref 671) _ _) _ _ _); (k_dflt (show wpAny _ _ (call (Value.ref 671) [_] []) _ _ _)); k_dflt (refine' callX0 (reset' ?hvq290 ?X0q290 ?Sq290 ?hbq290 ?h0q290) ?Bq290 ?Fq290 ?Xq290 ?Nq290 ?Tq290  rfl rfl rfl rfl ?hdq290 ?huq290 ?_; (case X0q290 => assumption); (case Sq290 => assumption); (case hbq290 => omega); (case h0q290 => assumption); (case hvq290 => assumption); (case Nq290 => k_asm); (case Bq290 => k_asm); (case Fq290 => k_asm); (case Xq290 => k_asm); (case Tq290 => k_asm); (case hdq290 => k_extra "my room"); (case huq290 => k_extra "my room"); intro v' h' tk' L2' F' N'  hp'); (refine hideG ?_); intro G' hG'; (obtain ⟨r', hs', S'⟩ := hp'); (refine hG' ?_); (clear hG' G'); (have hL' := StV.sub S'); (have w0 := LimAt.mono (C := 241) (by assumption) hs'); (have w1 := LimAt.mono (C := 202) (by assumption) hs'); (have w2 := LimAt.mono (C := 296) (by assumption) hs'); (have w3 := ItemAt.mono (by assumption) hs'); (have w4 := LL.mono (by assumption) hs'); (have w5 := hs' (_, W.listOf #[.ref _, .ref _] _) (by assumption)); (have w5' := hL' _ w5); (have w4' := LL.get w4 hL'); (have n0 := NN.mono (by assumption) hs'); (obtain ⟨ct', cn', cl'⟩ := StV.clock S'); (try rw [(by assumption : Vw.now _ = Vw.now _)] at cl'); (have cf' := hL' _ (Fix.cn (StV.fix S'))); (rw [(by assumption : Cf.cn _ = _)] at cf'); (have fs' := hL' _ (Fix.st (StV.fix S'))); (have fd' := hL' _ (Fix.dst (StV.fix S'))); (try k_sweep)))
  k_with "my offs" => (guard_hyp mk39; first | k_extra "my off" | ((refine List.forall_mem_cons.mpr ⟨?_, ?_⟩); (focus (k_extra "my ne")); k_extra "my offs"))
  k_with "UnrEnd" => (guard_hyp mk39; k_dflt (first | (refine' unr0 ?Fq292 ?Nq292  ?a0q292 ?_; (case Fq292 => k_asm); (case Nq292 => k_asm); (case a0q292 => k_extra "my offs")) | (refine' unr1 ?Fq292 ?Nq292 ?a1q292 ?a0q292 ?_; (case Fq292 => k_asm); (case Nq292 => k_asm); (case a1q292 => k_extra "my ne"); (case a0q292 => k_extra "my offs")) | (refine' unr2 ?Fq292 ?Nq292 ?a1q292 ?a2q292 ?a0q292 ?_; (case Fq292 => k_asm); (case Nq292 => k_asm); (case a1q292 => k_extra "my ne"); (case a2q292 => k_extra "my ne"); (case a0q292 => k_extra "my offs")) | (refine' unr3 ?Fq292 ?Nq292 ?a1q292 ?a2q292 ?a3q292 ?a0q292 ?_; (case Fq292 => k_asm); (case Nq292 => k_asm); (case a1q292 => k_extra "my ne"); (case a2q292 => k_extra "my ne"); (case a3q292 => k_extra "my ne"); (case a0q292 => k_extra "my offs")) | (refine' unr4 ?Fq292 ?Nq292 ?a1q292 ?a2q292 ?a3q292 ?a4q292 ?a0q292 ?_; (case Fq292 => k_asm); (case Nq292 => k_asm); (case a1q292 => k_extra "my ne"); (case a2q292 => k_extra "my ne"); (case a3q292 => k_extra "my ne"); (case a4q292 => k_extra "my ne"); (case a0q292 => k_extra "my offs")) | (refine' unr5 ?Fq292 ?Nq292 ?a1q292 ?a2q292 ?a3q292 ?a4q292 ?a5q292 ?a0q292 ?_; (case Fq292 => k_asm); (case Nq292 => k_asm); (case a1q292 => k_extra "my ne"); (case a2q292 => k_extra "my ne"); (case a3q292 => k_extra "my ne"); (case a4q292 => k_extra "my ne"); (case a5q292 => k_extra "my ne"); (case a0q292 => k_extra "my offs")) | (refine' unr6 ?Fq292 ?Nq292 ?a1q292 ?a2q292 ?a3q292 ?a4q292 ?a5q292 ?a6q292 ?a0q292 ?_; (case Fq292 => k_asm); (case Nq292 => k_asm); (case a1q292 => k_extra "my ne"); (case a2q292 => k_extra "my ne"); (case a3q292 => k_extra "my ne"); (case a4q292 => k_extra "my ne"); (case a5q292 => k_extra "my ne"); (case a6q292 => k_extra "my ne"); (case a0q292 => k_extra "my offs"))))
  k_with "my ne" => (guard_hyp mk39; first | exact Nat.ne_of_gt (And.left (by assumption)) | exact Nat.ne_of_lt (And.left (by assumption)))
  k_with "my chain" => (guard_hyp mk39; first | (with_reducible assumption) | (refine' up_in ?uzq294 ?_; (case uzq294 => with_reducible assumption); k_extra "my chain"))
  k_with "my mem" => (guard_hyp mk39; first | (with_reducible assumption) | (with_reducible exact List.mem_cons_self) | (refine' List.mem_cons_of_mem _ ?_; k_extra "my mem"))
  k_with "my deep" => (guard_hyp mk39; first | (with_reducible assumption) | (with_reducible exact List.mem_cons_self) | (refine' List.mem_cons_of_mem _ ?_; k_extra "my deep") | (refine' StV.sub ?uzq296 _ ?_; (case uzq296 => with_reducible assumption); k_extra "my chain"))
  k_with "subscriptTail" => (guard_hyp mk39; (k_here; (with_reducible show wpAny _ _ (subscriptTail _ _ (Value.ref _) (Value.int _ _)) _ _ _); (k_dflt (refine' fast_list ?Nq297 ?mq297 ?zq297 ?vq297 ?_ ?hsq297)); (case Nq297 => k_asm); (case mq297 => k_extra "my deep"); (case zq297 => decide); (case vq297 => exact rfl); (case hsq297 => with_unfolding_all rfl)))
  k_with "subscriptTail" => (guard_hyp mk39; (k_here; (with_reducible show wpAny _ _ (subscriptTail _ _ (Value.ref _) (Value.int _ _)) _ _ _); (k_dflt (refine' fast_tup ?Nq298 ?mq298 ?zq298 ?vq298 ?_ ?hsq298)); (case Nq298 => k_asm); (case mq298 => k_extra "my deep"); (case zq298 => decide); (case vq298 => exact rfl); (case hsq298 => with_unfolding_all rfl)))
  k_with "subscriptTail Name" => (guard_hyp mk39; (k_here; (with_reducible show wpAny _ _ (subscriptTail _ _ (Value.ref _) (Value.int _ _)) _ _ _); (k_dflt (refine' fast_list ?Nq299 ?mq299 ?zq299 ?vq299 ?_ ?hsq299)); (case Nq299 => k_asm); (case mq299 => k_extra "my deep"); (case zq299 => decide); (case vq299 => exact rfl); (case hsq299 => with_unfolding_all rfl)))
  k_with "subscriptTail Name" => (guard_hyp mk39; (k_here; (with_reducible show wpAny _ _ (subscriptTail _ _ (Value.ref _) (Value.int _ _)) _ _ _); (k_dflt (refine' fast_tup ?Nq300 ?mq300 ?zq300 ?vq300 ?_ ?hsq300)); (case Nq300 => k_asm); (case mq300 => k_extra "my deep"); (case zq300 => decide); (case vq300 => exact rfl); (case hsq300 => with_unfolding_all rfl)))
  k_with "subscriptTail Name Name" => (guard_hyp mk39; (k_here; (with_reducible show wpAny _ _ (subscriptTail _ _ (Value.ref _) (Value.int _ _)) _ _ _); (k_dflt (refine' fast_list ?Nq301 ?mq301 ?zq301 ?vq301 ?_ ?hsq301)); (case Nq301 => k_asm); (case mq301 => k_extra "my deep"); (case zq301 => decide); (case vq301 => exact rfl); (case hsq301 => with_unfolding_all rfl)))
  k_with "subscriptTail Name Name" => (guard_hyp mk39; (k_here; (with_reducible show wpAny _ _ (subscriptTail _ _ (Value.ref _) (Value.int _ _)) _ _ _); (k_dflt (refine' fast_tup ?Nq302 ?mq302 ?zq302 ?vq302 ?_ ?hsq302)); (case Nq302 => k_asm); (case mq302 => k_extra "my deep"); (case zq302 => decide); (case vq302 => exact rfl); (case hsq302 => with_unfolding_all rfl)))
  k_with "subscriptTail Name Constant" => (guard_hyp mk39; (k_here; (with_reducible show wpAny _ _ (subscriptTail _ _ (Value.ref _) (Value.int _ _)) _ _ _); (k_dflt (refine' fast_list ?Nq303 ?mq303 ?zq303 ?vq303 ?_ ?hsq303)); (case Nq303 => k_asm); (case mq303 => k_extra "my deep"); (case zq303 => decide); (case vq303 => exact rfl); (case hsq303 => with_unfolding_all rfl)))
  k_with "subscriptTail Name Constant" => (guard_hyp mk39; (k_here; (with_reducible show wpAny _ _ (subscriptTail _ _ (Value.ref _) (Value.int _ _)) _ _ _); (k_dflt (refine' fast_tup ?Nq304 ?mq304 ?zq304 ?vq304 ?_ ?hsq304)); (case Nq304 => k_asm); (case mq304 => k_extra "my deep"); (case zq304 => decide); (case vq304 => exact rfl); (case hsq304 => with_unfolding_all rfl)))
  k_with "subscriptTail Name Constant ref int" => (guard_hyp mk39; (k_here; (with_reducible show wpAny _ _ (subscriptTail _ _ (Value.ref _) (Value.int _ _)) _ _ _); (k_dflt (refine' fast_list ?Nq305 ?mq305 ?zq305 ?vq305 ?_ ?hsq305)); (case Nq305 => k_asm); (case mq305 => k_extra "my deep"); (case zq305 => decide); (case vq305 => exact rfl); (case hsq305 => with_unfolding_all rfl)))
  k_with "subscriptTail Name Constant ref int" => (guard_hyp mk39; (k_here; (with_reducible show wpAny _ _ (subscriptTail _ _ (Value.ref _) (Value.int _ _)) _ _ _); (k_dflt (refine' fast_tup ?Nq306 ?mq306 ?zq306 ?vq306 ?_ ?hsq306)); (case Nq306 => k_asm); (case mq306 => k_extra "my deep"); (case zq306 => decide); (case vq306 => exact rfl); (case hsq306 => with_unfolding_all rfl)))
  k_with "exec For Name Call cons nil" => (guard_hyp mk39; (k_here; (rename Fr _ _ _ _ => lF'); (with_unfolding_all refine' For_invVF lF' ?k1q307 ?k2q307 ?_; (case k1q307 => exact rfl); (case k2q307 => exact rfl); k_whole)))
  k_with "pyIter ref" => (guard_hyp mk39; ((with_reducible show wpAny _ _ (pyIter (Value.ref _)) (fun it s₂ => LoopAtV _ _ _ _ _ _ _ _ _ it s₂) _ _); k_rangeUnr))
  k_with "CompEnd" => (guard_hyp mk39; (k_dflt (refine' comp_end ?Fq309 ?Nq309 ?oq309 ?sq309 ?_; (case Fq309 => k_asm); (case Nq309 => k_asm); (case oq309 => assumption); (case sq309 => exact Or.inr ⟨_, by k_mem, rfl, _, rfl⟩))))
  k_with "compareOp Eq ref ref" => (guard_hyp mk39; (k_here; (with_reducible show wpAny _ _ (compareOp _ (Value.ref _) (Value.ref _)) _ _ _); k_dflt (refine' bools_eq ?Nq310 ?Hq310 ?H2q310 ?huq310 ?_; (case Nq310 => k_asm); (case Hq310 => k_mem); (case H2q310 => k_mem); (case huq310 => k_extra "my room"))))
  k_with "my ups" => (guard_hyp mk39; (intro p hp; k_extra "my deep"))
  k_with "compareOp NotEq ref ref" => (guard_hyp mk39; (k_here; (with_reducible show wpAny _ _ (compareOp _ (Value.ref _) (Value.ref _)) _ _ _); k_dflt (refine' told_ne ?Nq312 ?Hq312 ?H2q312 ?subq312 ?sub2q312 ?huq312 ?_; (case Nq312 => k_asm); (case Hq312 => assumption); (case H2q312 => assumption); (case subq312 => k_extra "my ups"); (case sub2q312 => k_extra "my ups"); (case huq312 => k_extra "my room"))))
  k_with "compareOp NotEq ref ref" => (guard_hyp mk39; (k_here; (with_reducible show wpAny _ _ (compareOp _ (Value.ref _) (Value.ref _)) _ _ _); k_dflt (refine' row_neS2 ?Nq313 ?Hq313 ?H2q313 ?H3q313 ?H4q313 ?huq313 ?_; (case Nq313 => k_asm); (case Hq313 => k_extra "my deep"); (case H2q313 => k_extra "my deep"); (case H3q313 => k_extra "my deep"); (case H4q313 => k_extra "my deep"); (case huq313 => k_extra "my room"))))
  k_with "compareOp NotEq ref ref" => (guard_hyp mk39; (k_here; (with_reducible show wpAny _ _ (compareOp _ (Value.ref _) (Value.ref _)) _ _ _); k_dflt (refine' row_neF2 ?Nq314 ?Hq314 ?H2q314 ?huq314 ?_; (case Nq314 => k_asm); (case Hq314 => k_extra "my deep"); (case H2q314 => k_extra "my deep"); (case huq314 => k_extra "my room"))))
  k_with "eval Name" => (guard_hyp mk39; (k_here; (with_reducible show wpAny _ _ (eval (PySem.Expr.Name (Str.ofString "now") _) (envX _ _ _ _ _ _)) _ _ _); k_dflt (refine' nameX_C ?Nq315 ?hcq315 ?hmq315 ?hdq315 ?_; (case Nq315 => k_asm); (case hcq315 => exact rfl); (case hmq315 => k_mem); (case hdq315 => assumption))))
  exact True.intro
theorem c_lawE {fa : Addr} {x : CX} {c : Cf} {v : Vw} {b : Nat} {Ls rest r0 : Led} {g : Heap} {s0 s : Shared} {L lims l0 l1 l2 it nms tA tB D : Addr} {k0 k1 : Nat} {m : Str → Option Value} {am sB nB : Int} {kA kB : Str} {p9 : Array Value} {t : Told} (hs0 : Same s0 s) (B : Below callerA g [] g) (X : Frag.In (Mine.hd.heap_1 x.w.params) g) (T : Top x.p x.loose x.mean x.mg x.mb g) (X0 : Fixed x c) (S : StV x c v b Ls rest) (hb : b ≤ 500) (F : Fr g L s.heap m) (N : News g L s.heap Ls)
    (hm1 : m (Str.ofString "limiters") = some (.ref lims)) (hm2 : m (Str.ofString "item") = some (.ref it)) (hm3 : m (Str.ofString "names") = some (.ref nms)) (hm4 : m (Str.ofString "other") = some (.ref D)) (hm5 : m (Str.ofString "store") = some (.ref c.st))
    (hlm : LL rest lims l0 l1 l2 k0) (hnm : (nms, W.listOf #[.ref tA, .ref tB] k1) ∈ rest) (H0 : LimAt rest 241 l0 c.st) (H1 : LimAt rest 202 l1 c.st) (H2 : LimAt rest 296 l2 c.st) (HI : ItemAt rest it am) (hNN : NN x rest it tA tB kA kB)
    (lenB : kB.length ≤ 100) (h1 : 1000 ≤ v.now) (h2 : v.now < 3000) (hvB : (v.n (v.pk kB)).natAbs < 1000) (gB : GmwV v kB sB nB) (h692 : (692, tabObj p9) ∈ rest) (hcn : c.cn = L + 1) (ht : toldV v am kB sB nB = t) (HT : ToldAt r0 D t) (hr0 : Up r0 rest) :
    Body x 695 14 (LawG x fa g L s0 s) := by
  have mk39 := True.intro
  have h0 : 0 ≤ v.now := by omega
  have hL := S.sub
  have hlm' := LL.get hlm hL
  have hnm' := hL _ hnm
  obtain ⟨vr, hr, h0r, h1r, h2r, hvr, gs, gr, fr1, fr2, fr3, fr4, fr5, fr6, fr7, fr8, fr9, frA, etr⟩ := aft_reset v kB am h1 h2
  obtain ⟨hz, tz, rfl⟩ := hs0
  dsimp only at F N
  unfold Body LawG
  k_fill
  refine' Body.mk2 (W := LawG x fa g L s0 { s0 with heap := hz, toks := tz }) (k := 14) ?ho ?_
  case ho => k_is
  intro hBody
  dsimp only [List.drop, LawG]
  k_steps
  (refine' LawEnd.of ?Fz ?Nz ?Sz ?hz)
  case Fz => k_asm
  case Nz => k_asm
  case Sz => assumption
  case hz => k_extra "my chain"
end
section
-- c_lawR0
theorem lines_c_lawR0 : True := by
  k_with "execs cons" => (guard_hyp mk40; (k_here; (with_reducible show wpAny _ _ (execs _ _) (LawEnd _ _) _ _); (try k_gentoks); (refine execs_hid1 ?_); intro Q1' hQ1'))
  k_with "call ref" => (guard_hyp mk40; (k_here; refine Stop.out ?_))
  k_with "my room" => (guard_hyp mk40; (simp only [depth_under_make, depth_under_kw, depth_in1, depth_deeper, units_in1, units_deeper, Around.mark_units]; (try dsimp only [topA, callerA]); first | omega | decide))
  k_with "my off" => (guard_hyp mk40; first | assumption | exact off_lt0 (by assumption) | exact off_lt (by assumption) | exact off_lt (And.right (by assumption)) | exact off_lt (And.right (And.right (by assumption))) | exact off_lt (And.right (And.right (And.right (by assumption)))) | exact off_lt (And.right (And.right (And.right (And.right (by assumption))))) | exact off_lt (And.right (And.right (And.right (And.right (And.right (by assumption)))))))
  k_with "my all" => (guard_hyp mk40; k_extra "my off")
  k_with "my nm" => (guard_hyp mk40; first | assumption | (refine (if_neg (by decide)).trans ?_; k_extra "my nm") | exact if_pos rfl)
  k_with "eval Name" => (guard_hyp mk40; (k_here; k_dflt (refine' nameX_L ?Fq322 ?hvq322 ?_ ?hkq322 ?hxq322; (case Fq322 => k_asm); (case hvq322 => k_extra "my nm"); (case hkq322 => exact rfl); (case hxq322 => exact rfl))))
  k_with "my off" => (guard_hyp mk40; first | assumption | exact off_lt0 (by assumption) | exact off_lt (by assumption) | exact off_lt (And.right (by assumption)) | exact off_lt (And.right (And.right (by assumption))) | exact off_lt (And.right (And.right (And.right (by assumption)))) | exact off_lt (And.right (And.right (And.right (And.right (by assumption))))) | exact off_lt (And.right (And.right (And.right (And.right (And.right (by assumption)))))) | exact off_lt (And.right (And.right (And.right (And.right (And.right (And.right (by assumption))))))))
  k_with "my all" => (guard_hyp mk40; k_extra "my off")
  k_with "my in" => (guard_hyp mk40; first | exact StV.sub (by assumption) _ (by assumption) | (refine List.mem_cons_of_mem _ ?_; k_extra "my in"))
  k_with "my up" => (guard_hyp mk40; (intro p hp; k_extra "my in"))
  k_with "getMethod ref" => (guard_hyp mk40; (k_here; k_dflt (refine' method_lim ?Fq327 ?Xq327 ?Nq327 ?Hq327 ?subq327 ?hgq327 ?hfq327 ?htq327 ?hlq327 ?_; (case Fq327 => k_asm); (case Xq327 => k_asm); (case Nq327 => k_asm); (case Hq327 => first | exact LawI.H0 (by assumption) | exact LawI.H1 (by assumption) | exact LawI.H2 (by assumption)); (case subq327 => k_extra "my up"); (case hgq327 => k_is); (case hfq327 => k_is); (case htq327 => k_is); (case hlq327 => (intros; k_get)))))
  k_with "getAttr ref" => (guard_hyp mk40; (k_here; (with_reducible show wpAny _ _ (getAttr (Value.ref _) (Str.ofString "amount") _) _ _ _); k_dflt (refine' amount_item ?Fq328 ?Xq328 ?Nq328 ?Hq328 ?subq328 ?hgq328 ?hhq328 ?haq328 ?hnq328 ?_; (case Fq328 => k_asm); (case Xq328 => k_asm); (case Nq328 => k_asm); (case Hq328 => exact LawI.HI (by assumption)); (case subq328 => k_extra "my up"); (case hgq328 => k_is); (case hhq328 => k_is); (case haq328 => k_is); (case hnq328 => k_is)); intro t'))
  k_with "call ref" => (guard_hyp mk40; (k_here; (with_reducible show wpAny _ _ (call (Value.ref 690) _ _) _ _ _); (k_dflt (show wpAny _ _ (call (Value.ref 690) [_, _, _] []) _ _ _)); k_dflt (refine' callX0 (told' ?htq329 ?X0q329 ?Sq329 ?hbq329 ?hmq329 ?H0q329 ?H1q329 ?H2q329 ?HIq329 ?HNq329 ?hlenq329 ?h1q329 ?h2q329 ?hvq329 ?hgq329) ?Bq329 ?Fq329 ?Xq329 ?Nq329 ?Tq329  rfl rfl rfl rfl ?hdq329 ?huq329 ?_; (case X0q329 => assumption); (case Sq329 => assumption); (case hbq329 => omega); (case HNq329 => first | exact And.left (LawI.hNN (by assumption)) | exact And.right (LawI.hNN (by assumption))); (case hmq329 => exact LawI.hlm (by assumption)); (case H0q329 => exact LawI.H0 (by assumption)); (case H1q329 => exact LawI.H1 (by assumption)); (case H2q329 => exact LawI.H2 (by assumption)); (case HIq329 => exact LawI.HI (by assumption)); (case hlenq329 => assumption); (case h1q329 => assumption); (case h2q329 => assumption); (case hvq329 => assumption); (case hgq329 => assumption); (case htq329 => assumption); (case Nq329 => k_asm); (case Bq329 => k_asm); (case Fq329 => k_asm); (case Xq329 => k_asm); (case Tq329 => k_asm); (case hdq329 => k_extra "my room"); (case huq329 => k_extra "my room"); refine' after_told0 ?Izq329 ?_; (case Izq329 => assumption); intro D' h' tk' L2' r' F' N' hs' S' I' t1'); (have t2' := t1'); (k_dflt (obtain ⟨a0', a1', a2', aT', an', u1', u2', u3', u4', u5', u6', u7', z1', z2', z3', z4', z5'⟩ := t2')); (try dsimp only at z2' z3' z4' z5'); (have hL' := StV.sub S'); (have y1' := hL' _ z1'); (have y2' := hL' _ z2'); (have y3' := hL' _ z3'); (have y4' := hL' _ z4'); (have y5' := hL' _ z5'); (obtain ⟨ct', cn', cl'⟩ := StV.clock S'); (try rw [(by assumption : Vw.now _ = Vw.now _)] at cl'); (have cf' := hL' _ (Fix.cn (StV.fix S'))); (rw [(by assumption : Cf.cn _ = _)] at cf'); (clear hL'); (try k_sweep)))
  k_with "call ref" => (guard_hyp mk40; (k_here; (with_reducible show wpAny _ _ (call (Value.ref 158) _ _) _ _ _); (k_dflt (show wpAny _ _ (call (Value.ref 158) [_, _, _] []) _ _ _)); k_dflt (refine' callX0 (fclr' ?hvq330 ?X0q330 ?Sq330 ?hbq330 ?HLq330 ?HIq330 ?HNq330 ?h0q330) ?Bq330 ?Fq330 ?Xq330 ?Nq330 ?Tq330  rfl rfl rfl rfl ?hdq330 ?huq330 ?_; (case X0q330 => assumption); (case Sq330 => assumption); (case hbq330 => omega); (case HLq330 => first | exact LawI.H0 (by assumption) | exact LawI.H1 (by assumption) | exact LawI.H2 (by assumption)); (case HIq330 => exact LawI.HI (by assumption)); (case HNq330 => first | exact And.left (LawI.hNN (by assumption)) | exact And.right (LawI.hNN (by assumption))); (case h0q330 => assumption); (case hvq330 => assumption); (case Nq330 => k_asm); (case Bq330 => k_asm); (case Fq330 => k_asm); (case Xq330 => k_asm); (case Tq330 => k_asm); (case hdq330 => k_extra "my room"); (case huq330 => k_extra "my room"); refine' after_i0 ?Izq330 ?_; (case Izq330 => assumption); intro h' tk' L2' r' F' N' hs' S' I'); (try k_sweep)))
  k_with "storeName" => (guard_hyp mk40; (k_here; (with_reducible show wpAny _ _ (storeName _ (Str.ofString "kind") (Value.int _ _)) _ _ _); rw [(by assumption : (Int.fmod _ 3 : Int) = 0)]))
  k_with "my offs" => (guard_hyp mk40; first | k_extra "my off" | ((refine List.forall_mem_cons.mpr ⟨?_, ?_⟩); (focus (k_extra "my ne")); k_extra "my offs"))
  k_with "UnrEnd" => (guard_hyp mk40; k_dflt (first | (refine' unr0 ?Fq333 ?Nq333  ?a0q333 ?_; (case Fq333 => k_asm); (case Nq333 => k_asm); (case a0q333 => k_extra "my offs")) | (refine' unr1 ?Fq333 ?Nq333 ?a1q333 ?a0q333 ?_; (case Fq333 => k_asm); (case Nq333 => k_asm); (case a1q333 => k_extra "my ne"); (case a0q333 => k_extra "my offs")) | (refine' unr2 ?Fq333 ?Nq333 ?a1q333 ?a2q333 ?a0q333 ?_; (case Fq333 => k_asm); (case Nq333 => k_asm); (case a1q333 => k_extra "my ne"); (case a2q333 => k_extra "my ne"); (case a0q333 => k_extra "my offs")) | (refine' unr3 ?Fq333 ?Nq333 ?a1q333 ?a2q333 ?a3q333 ?a0q333 ?_; (case Fq333 => k_asm); (case Nq333 => k_asm); (case a1q333 => k_extra "my ne"); (case a2q333 => k_extra "my ne"); (case a3q333 => k_extra "my ne"); (case a0q333 => k_extra "my offs")) | (refine' unr4 ?Fq333 ?Nq333 ?a1q333 ?a2q333 ?a3q333 ?a4q333 ?a0q333 ?_; (case Fq333 => k_asm); (case Nq333 => k_asm); (case a1q333 => k_extra "my ne"); (case a2q333 => k_extra "my ne"); (case a3q333 => k_extra "my ne"); (case a4q333 => k_extra "my ne"); (case a0q333 => k_extra "my offs")) | (refine' unr5 ?Fq333 ?Nq333 ?a1q333 ?a2q333 ?a3q333 ?a4q333 ?a5q333 ?a0q333 ?_; (case Fq333 => k_asm); (case Nq333 => k_asm); (case a1q333 => k_extra "my ne"); (case a2q333 => k_extra "my ne"); (case a3q333 => k_extra "my ne"); (case a4q333 => k_extra "my ne"); (case a5q333 => k_extra "my ne"); (case a0q333 => k_extra "my offs")) | (refine' unr6 ?Fq333 ?Nq333 ?a1q333 ?a2q333 ?a3q333 ?a4q333 ?a5q333 ?a6q333 ?a0q333 ?_; (case Fq333 => k_asm); (case Nq333 => k_asm); (case a1q333 => k_extra "my ne"); (case a2q333 => k_extra "my ne"); (case a3q333 => k_extra "my ne"); (case a4q333 => k_extra "my ne"); (case a5q333 => k_extra "my ne"); (case a6q333 => k_extra "my ne"); (case a0q333 => k_extra "my offs"))))
  k_with "my ne" => (guard_hyp mk40; first | exact Nat.ne_of_gt (And.left (by assumption)) | exact Nat.ne_of_lt (And.left (by assumption)))
  k_with "my chain" => (guard_hyp mk40; first | (with_reducible assumption) | (refine' up_in ?uzq335 ?_; (case uzq335 => with_reducible assumption); k_extra "my chain"))
  k_with "my mem" => (guard_hyp mk40; first | (with_reducible assumption) | (with_reducible exact List.mem_cons_self) | (refine' List.mem_cons_of_mem _ ?_; k_extra "my mem"))
  k_with "my deep" => (guard_hyp mk40; first | (with_reducible assumption) | (with_reducible exact List.mem_cons_self) | (with_reducible exact LawI.lmL (by with_reducible assumption) (by with_reducible assumption)) | (with_reducible exact LawI.nmL (by with_reducible assumption) (by with_reducible assumption)) | (refine' List.mem_cons_of_mem _ ?_; k_extra "my deep") | (refine' StV.sub ?uzq337 _ ?_; (case uzq337 => with_reducible assumption); k_extra "my chain"))
  k_with "subscriptTail" => (guard_hyp mk40; (k_here; (with_reducible show wpAny _ _ (subscriptTail _ _ (Value.ref _) (Value.int _ _)) _ _ _); (k_dflt (refine' fast_list ?Nq338 ?mq338 ?zq338 ?vq338 ?_ ?hsq338)); (case Nq338 => k_asm); (case mq338 => k_extra "my deep"); (case zq338 => decide); (case vq338 => exact rfl); (case hsq338 => with_unfolding_all rfl)))
  k_with "subscriptTail" => (guard_hyp mk40; (k_here; (with_reducible show wpAny _ _ (subscriptTail _ _ (Value.ref _) (Value.int _ _)) _ _ _); (k_dflt (refine' fast_tup ?Nq339 ?mq339 ?zq339 ?vq339 ?_ ?hsq339)); (case Nq339 => k_asm); (case mq339 => k_extra "my deep"); (case zq339 => decide); (case vq339 => exact rfl); (case hsq339 => with_unfolding_all rfl)))
  k_with "subscriptTail Name" => (guard_hyp mk40; (k_here; (with_reducible show wpAny _ _ (subscriptTail _ _ (Value.ref _) (Value.int _ _)) _ _ _); (k_dflt (refine' fast_list ?Nq340 ?mq340 ?zq340 ?vq340 ?_ ?hsq340)); (case Nq340 => k_asm); (case mq340 => k_extra "my deep"); (case zq340 => decide); (case vq340 => exact rfl); (case hsq340 => with_unfolding_all rfl)))
  k_with "subscriptTail Name" => (guard_hyp mk40; (k_here; (with_reducible show wpAny _ _ (subscriptTail _ _ (Value.ref _) (Value.int _ _)) _ _ _); (k_dflt (refine' fast_tup ?Nq341 ?mq341 ?zq341 ?vq341 ?_ ?hsq341)); (case Nq341 => k_asm); (case mq341 => k_extra "my deep"); (case zq341 => decide); (case vq341 => exact rfl); (case hsq341 => with_unfolding_all rfl)))
  k_with "subscriptTail Name Name" => (guard_hyp mk40; (k_here; (with_reducible show wpAny _ _ (subscriptTail _ _ (Value.ref _) (Value.int _ _)) _ _ _); (k_dflt (refine' fast_list ?Nq342 ?mq342 ?zq342 ?vq342 ?_ ?hsq342)); (case Nq342 => k_asm); (case mq342 => k_extra "my deep"); (case zq342 => decide); (case vq342 => exact rfl); (case hsq342 => with_unfolding_all rfl)))
  k_with "subscriptTail Name Name" => (guard_hyp mk40; (k_here; (with_reducible show wpAny _ _ (subscriptTail _ _ (Value.ref _) (Value.int _ _)) _ _ _); (k_dflt (refine' fast_tup ?Nq343 ?mq343 ?zq343 ?vq343 ?_ ?hsq343)); (case Nq343 => k_asm); (case mq343 => k_extra "my deep"); (case zq343 => decide); (case vq343 => exact rfl); (case hsq343 => with_unfolding_all rfl)))
  k_with "subscriptTail Name Constant" => (guard_hyp mk40; (k_here; (with_reducible show wpAny _ _ (subscriptTail _ _ (Value.ref _) (Value.int _ _)) _ _ _); (k_dflt (refine' fast_list ?Nq344 ?mq344 ?zq344 ?vq344 ?_ ?hsq344)); (case Nq344 => k_asm); (case mq344 => k_extra "my deep"); (case zq344 => decide); (case vq344 => exact rfl); (case hsq344 => with_unfolding_all rfl)))
  k_with "subscriptTail Name Constant" => (guard_hyp mk40; (k_here; (with_reducible show wpAny _ _ (subscriptTail _ _ (Value.ref _) (Value.int _ _)) _ _ _); (k_dflt (refine' fast_tup ?Nq345 ?mq345 ?zq345 ?vq345 ?_ ?hsq345)); (case Nq345 => k_asm); (case mq345 => k_extra "my deep"); (case zq345 => decide); (case vq345 => exact rfl); (case hsq345 => with_unfolding_all rfl)))
  k_with "subscriptTail Name Constant ref int" => (guard_hyp mk40; (k_here; (with_reducible show wpAny _ _ (subscriptTail _ _ (Value.ref _) (Value.int _ _)) _ _ _); (k_dflt (refine' fast_list ?Nq346 ?mq346 ?zq346 ?vq346 ?_ ?hsq346)); (case Nq346 => k_asm); (case mq346 => k_extra "my deep"); (case zq346 => decide); (case vq346 => exact rfl); (case hsq346 => with_unfolding_all rfl)))
  k_with "subscriptTail Name Constant ref int" => (guard_hyp mk40; (k_here; (with_reducible show wpAny _ _ (subscriptTail _ _ (Value.ref _) (Value.int _ _)) _ _ _); (k_dflt (refine' fast_tup ?Nq347 ?mq347 ?zq347 ?vq347 ?_ ?hsq347)); (case Nq347 => k_asm); (case mq347 => k_extra "my deep"); (case zq347 => decide); (case vq347 => exact rfl); (case hsq347 => with_unfolding_all rfl)))
  k_with "exec For Name Call cons nil" => (guard_hyp mk40; (k_here; (rename Fr _ _ _ _ => lF'); (with_unfolding_all refine' For_invVF lF' ?k1q348 ?k2q348 ?_; (case k1q348 => exact rfl); (case k2q348 => exact rfl); k_whole)))
  k_with "pyIter ref" => (guard_hyp mk40; ((with_reducible show wpAny _ _ (pyIter (Value.ref _)) (fun it s₂ => LoopAtV _ _ _ _ _ _ _ _ _ it s₂) _ _); k_rangeUnr))
  k_with "CompEnd" => (guard_hyp mk40; (k_dflt (refine' comp_end ?Fq350 ?Nq350 ?oq350 ?sq350 ?_; (case Fq350 => k_asm); (case Nq350 => k_asm); (case oq350 => assumption); (case sq350 => exact Or.inr ⟨_, by k_mem, rfl, _, rfl⟩))))
  k_with "compareOp Eq ref ref" => (guard_hyp mk40; (k_here; (with_reducible show wpAny _ _ (compareOp _ (Value.ref _) (Value.ref _)) _ _ _); k_dflt (refine' bools_eq ?Nq351 ?Hq351 ?H2q351 ?huq351 ?_; (case Nq351 => k_asm); (case Hq351 => k_mem); (case H2q351 => k_mem); (case huq351 => k_extra "my room"))))
  k_with "my ups" => (guard_hyp mk40; (intro p hp; k_extra "my deep"))
  k_with "compareOp NotEq ref ref" => (guard_hyp mk40; (k_here; (with_reducible show wpAny _ _ (compareOp _ (Value.ref _) (Value.ref _)) _ _ _); k_dflt (refine' told_ne ?Nq353 ?Hq353 ?H2q353 ?subq353 ?sub2q353 ?huq353 ?_; (case Nq353 => k_asm); (case Hq353 => assumption); (case H2q353 => assumption); (case subq353 => k_extra "my ups"); (case sub2q353 => k_extra "my ups"); (case huq353 => k_extra "my room"))))
  k_with "compareOp NotEq ref ref" => (guard_hyp mk40; (k_here; (with_reducible show wpAny _ _ (compareOp _ (Value.ref _) (Value.ref _)) _ _ _); k_dflt (refine' row_neS2 ?Nq354 ?Hq354 ?H2q354 ?H3q354 ?H4q354 ?huq354 ?_; (case Nq354 => k_asm); (case Hq354 => k_extra "my deep"); (case H2q354 => k_extra "my deep"); (case H3q354 => k_extra "my deep"); (case H4q354 => k_extra "my deep"); (case huq354 => k_extra "my room"))))
  k_with "compareOp NotEq ref ref" => (guard_hyp mk40; (k_here; (with_reducible show wpAny _ _ (compareOp _ (Value.ref _) (Value.ref _)) _ _ _); k_dflt (refine' row_neF2 ?Nq355 ?Hq355 ?H2q355 ?huq355 ?_; (case Nq355 => k_asm); (case Hq355 => k_extra "my deep"); (case H2q355 => k_extra "my deep"); (case huq355 => k_extra "my room"))))
  k_with "eval Name" => (guard_hyp mk40; (k_here; (with_reducible show wpAny _ _ (eval (PySem.Expr.Name (Str.ofString "now") _) (envX _ _ _ _ _ _)) _ _ _); k_dflt (refine' nameX_C ?Nq356 ?hcq356 ?hmq356 ?hdq356 ?_; (case Nq356 => k_asm); (case hcq356 => exact rfl); (case hmq356 => k_mem); (case hdq356 => assumption))))
  k_with "execs cons If cons" => (guard_hyp mk40; (k_here; (with_reducible show wpAny _ _ (execs (Stmt.If (PySem.Expr.Compare (PySem.Expr.Call _ _ _ _) _ _ _) _ _ _ :: _) _) _ _ _); (k_dflt (refine' BodyAt.use ?hAq357 ?hgq357 (c_lawE ?hs0q357 ?Bq357 ?Xq357 ?Tq357 ?X0q357 ?Sq357 ?hbq357 ?Fq357 ?Nq357 ?m1q357 ?m2q357 ?m3q357 ?m4q357 ?m5q357 ?hlmq357 ?hnmq357 ?H0q357 ?H1q357 ?H2q357 ?HIq357 ?hNNq357 ?lenBq357 ?h1q357 ?h2q357 ?hvBq357 ?gBq357 ?h692q357 ?hcnq357 ?htq357 ?HTq357 ?hr0q357); (case hAq357 => assumption); (case hgq357 => exact fun h => h); (case hs0q357 => exact ⟨_, _, rfl⟩); (case Bq357 => k_asm); (case Xq357 => k_asm); (case Tq357 => k_asm); (case X0q357 => assumption); (case Sq357 => assumption); (case hbq357 => omega); (case Fq357 => k_asm); (case Nq357 => first | k_asm | (refine' news_tl ?nzq357; (case nzq357 => k_asm))); (case m1q357 => k_extra "my nm"); (case m2q357 => k_extra "my nm"); (case m3q357 => k_extra "my nm"); (case m4q357 => k_extra "my nm"); (case m5q357 => k_extra "my nm"); (case hlmq357 => exact LawI.hlm (by assumption)); (case hnmq357 => exact LawI.hnm (by assumption)); (case H0q357 => exact LawI.H0 (by assumption)); (case H1q357 => exact LawI.H1 (by assumption)); (case H2q357 => exact LawI.H2 (by assumption)); (case HIq357 => exact LawI.HI (by assumption)); (case hNNq357 => exact LawI.hNN (by assumption)); (case lenBq357 => assumption); (case h1q357 => assumption); (case h2q357 => assumption); (case hvBq357 => assumption); (case gBq357 => assumption); (case h692q357 => exact LawI.h692 (by assumption)); (case hcnq357 => assumption); (case htq357 => assumption); (case HTq357 => assumption); (case hr0q357 => (intro p hp; k_extra "my chain"))))))
  exact True.intro
theorem c_lawR0 {fa : Addr} {x : CX} {c : Cf} {v : Vw} {b : Nat} {Ls rest : Led} {g : Heap} {s0 s : Shared} {L lims l0 l1 l2 it nms tA tB : Addr} {k0 k1 : Nat} {m : Str → Option Value} {n am sA nA sB nB : Int} {tn : Tok} {kA kB : Str} {p9 : Array Value} (hs0 : Same s0 s) (B : Below callerA g [] g) (X : Frag.In (Mine.hd.heap_1 x.w.params) g) (T : Top x.p x.loose x.mean x.mg x.mb g) (X0 : Fixed x c) (S : StV x c v b Ls rest) (hb : b ≤ 300) (F : Fr g L s.heap m) (N : News g L s.heap Ls)
    (hm1 : m (Str.ofString "limiters") = some (.ref lims)) (hm2 : m (Str.ofString "item") = some (.ref it)) (hm3 : m (Str.ofString "names") = some (.ref nms)) (hm4 : m (Str.ofString "n") = some (.int n tn)) (hm5 : m (Str.ofString "store") = some (.ref c.st))
    (hlm : LL rest lims l0 l1 l2 k0) (hnm : (nms, W.listOf #[.ref tA, .ref tB] k1) ∈ rest) (H0 : LimAt rest 241 l0 c.st) (H1 : LimAt rest 202 l1 c.st) (H2 : LimAt rest 296 l2 c.st) (HI : ItemAt rest it am) (HA : NameAt x rest it tA kA) (HB : NameAt x rest it tB kB)
    (lenA : kA.length ≤ 100) (lenB : kB.length ≤ 100) (h1 : 1000 ≤ v.now) (h2 : v.now < 3000) (ham : 2 ≤ am) (hvA : (v.n (v.pk kA)).natAbs < 1000) (hvB : (v.n (v.pk kB)).natAbs < 1000) (gA : GmwV v kA sA nA) (gB : GmwV v kB sB nB) (kd : Kd v kA kB) (h692 : (692, tabObj p9) ∈ rest) (hcn : c.cn = L + 1) (hon : c.on.data = .cell (some (.ref c.ln))) (hk : (n.fdiv 1400).fmod 3 = 0) :
    Body x 695 8 (LawG x fa g L s0 s) := by
  have mk40 := True.intro
  have h0 : 0 ≤ v.now := by omega
  have I0 : LawI x c lims l0 l1 l2 it nms tA tB k0 k1 am kA kB p9 rest := ⟨hlm, hnm, H0, H1, H2, HI, ⟨HA, HB⟩, h692⟩
  clear hlm hnm H0 H1 H2 HI HA HB h692
  obtain ⟨hz, tz, rfl⟩ := hs0
  dsimp only at F N
  unfold Body LawG
  k_fill
  refine' Body.mk2 (W := LawG x fa g L s0 { s0 with heap := hz, toks := tz }) (k := 8) ?ho ?_
  case ho => k_is
  intro hBody
  obtain ⟨v', hv', A'⟩ : ∃ v', (v.clear kA) = v' ∧ Aft v v' kA kB am sB nB v.now 0 { toldV v am kA sA nA with f1 := true, f2 := true, fr := v.now, fq := am, m1 := true, m2 := true, mr := v.now + 10, mq := am } := ⟨_, rfl, aft_clr kd ham h1 h2 hvA hvB gB⟩
  generalize eA0 : toldV v am kA sA nA = tA at A'
  obtain ⟨e', h0', h1', h2', hvA', hvB', gA', gB', eA', eB'⟩ := A'
  generalize eB0 : toldV v am kB sB nB = tB at eB'
  cases tA
  cases tB
  dsimp only at eA'
  dsimp only [List.drop, LawG]
  k_steps
  all_goals exact absurd rfl (by assumption)
end
section
-- c_lawR1
theorem lines_c_lawR1 : True := by
  k_with "execs cons" => (guard_hyp mk41; (k_here; (with_reducible show wpAny _ _ (execs _ _) (LawEnd _ _) _ _); (try k_gentoks); (refine execs_hid1 ?_); intro Q1' hQ1'))
  k_with "call ref" => (guard_hyp mk41; (k_here; refine Stop.out ?_))
  k_with "my room" => (guard_hyp mk41; (simp only [depth_under_make, depth_under_kw, depth_in1, depth_deeper, units_in1, units_deeper, Around.mark_units]; (try dsimp only [topA, callerA]); first | omega | decide))
  k_with "my off" => (guard_hyp mk41; first | assumption | exact off_lt0 (by assumption) | exact off_lt (by assumption) | exact off_lt (And.right (by assumption)) | exact off_lt (And.right (And.right (by assumption))) | exact off_lt (And.right (And.right (And.right (by assumption)))) | exact off_lt (And.right (And.right (And.right (And.right (by assumption))))) | exact off_lt (And.right (And.right (And.right (And.right (And.right (by assumption)))))))
  k_with "my all" => (guard_hyp mk41; k_extra "my off")
  k_with "my nm" => (guard_hyp mk41; first | assumption | (refine (if_neg (by decide)).trans ?_; k_extra "my nm") | exact if_pos rfl)
  k_with "eval Name" => (guard_hyp mk41; (k_here; k_dflt (refine' nameX_L ?Fq364 ?hvq364 ?_ ?hkq364 ?hxq364; (case Fq364 => k_asm); (case hvq364 => k_extra "my nm"); (case hkq364 => exact rfl); (case hxq364 => exact rfl))))
  k_with "my off" => (guard_hyp mk41; first | assumption | exact off_lt0 (by assumption) | exact off_lt (by assumption) | exact off_lt (And.right (by assumption)) | exact off_lt (And.right (And.right (by assumption))) | exact off_lt (And.right (And.right (And.right (by assumption)))) | exact off_lt (And.right (And.right (And.right (And.right (by assumption))))) | exact off_lt (And.right (And.right (And.right (And.right (And.right (by assumption)))))) | exact off_lt (And.right (And.right (And.right (And.right (And.right (And.right (by assumption))))))))
  k_with "my all" => (guard_hyp mk41; k_extra "my off")
  k_with "my in" => (guard_hyp mk41; first | exact StV.sub (by assumption) _ (by assumption) | (refine List.mem_cons_of_mem _ ?_; k_extra "my in"))
  k_with "my up" => (guard_hyp mk41; (intro p hp; k_extra "my in"))
  k_with "getMethod ref" => (guard_hyp mk41; (k_here; k_dflt (refine' method_lim ?Fq369 ?Xq369 ?Nq369 ?Hq369 ?subq369 ?hgq369 ?hfq369 ?htq369 ?hlq369 ?_; (case Fq369 => k_asm); (case Xq369 => k_asm); (case Nq369 => k_asm); (case Hq369 => first | exact LawI.H0 (by assumption) | exact LawI.H1 (by assumption) | exact LawI.H2 (by assumption)); (case subq369 => k_extra "my up"); (case hgq369 => k_is); (case hfq369 => k_is); (case htq369 => k_is); (case hlq369 => (intros; k_get)))))
  k_with "getAttr ref" => (guard_hyp mk41; (k_here; (with_reducible show wpAny _ _ (getAttr (Value.ref _) (Str.ofString "amount") _) _ _ _); k_dflt (refine' amount_item ?Fq370 ?Xq370 ?Nq370 ?Hq370 ?subq370 ?hgq370 ?hhq370 ?haq370 ?hnq370 ?_; (case Fq370 => k_asm); (case Xq370 => k_asm); (case Nq370 => k_asm); (case Hq370 => exact LawI.HI (by assumption)); (case subq370 => k_extra "my up"); (case hgq370 => k_is); (case hhq370 => k_is); (case haq370 => k_is); (case hnq370 => k_is)); intro t'))
  k_with "call ref" => (guard_hyp mk41; (k_here; (with_reducible show wpAny _ _ (call (Value.ref 690) _ _) _ _ _); (k_dflt (show wpAny _ _ (call (Value.ref 690) [_, _, _] []) _ _ _)); k_dflt (refine' callX0 (told' ?htq371 ?X0q371 ?Sq371 ?hbq371 ?hmq371 ?H0q371 ?H1q371 ?H2q371 ?HIq371 ?HNq371 ?hlenq371 ?h1q371 ?h2q371 ?hvq371 ?hgq371) ?Bq371 ?Fq371 ?Xq371 ?Nq371 ?Tq371  rfl rfl rfl rfl ?hdq371 ?huq371 ?_; (case X0q371 => assumption); (case Sq371 => assumption); (case hbq371 => omega); (case HNq371 => first | exact And.left (LawI.hNN (by assumption)) | exact And.right (LawI.hNN (by assumption))); (case hmq371 => exact LawI.hlm (by assumption)); (case H0q371 => exact LawI.H0 (by assumption)); (case H1q371 => exact LawI.H1 (by assumption)); (case H2q371 => exact LawI.H2 (by assumption)); (case HIq371 => exact LawI.HI (by assumption)); (case hlenq371 => assumption); (case h1q371 => assumption); (case h2q371 => assumption); (case hvq371 => assumption); (case hgq371 => assumption); (case htq371 => assumption); (case Nq371 => k_asm); (case Bq371 => k_asm); (case Fq371 => k_asm); (case Xq371 => k_asm); (case Tq371 => k_asm); (case hdq371 => k_extra "my room"); (case huq371 => k_extra "my room"); refine' after_told0 ?Izq371 ?_; (case Izq371 => assumption); intro D' h' tk' L2' r' F' N' hs' S' I' t1'); (have t2' := t1'); (k_dflt (obtain ⟨a0', a1', a2', aT', an', u1', u2', u3', u4', u5', u6', u7', z1', z2', z3', z4', z5'⟩ := t2')); (try dsimp only at z2' z3' z4' z5'); (have hL' := StV.sub S'); (have y1' := hL' _ z1'); (have y2' := hL' _ z2'); (have y3' := hL' _ z3'); (have y4' := hL' _ z4'); (have y5' := hL' _ z5'); (obtain ⟨ct', cn', cl'⟩ := StV.clock S'); (try rw [(by assumption : Vw.now _ = Vw.now _)] at cl'); (have cf' := hL' _ (Fix.cn (StV.fix S'))); (rw [(by assumption : Cf.cn _ = _)] at cf'); (clear hL'); (try k_sweep)))
  k_with "call ref" => (guard_hyp mk41; (k_here; (with_reducible show wpAny _ _ (call (Value.ref 158) _ _) _ _ _); (k_dflt (show wpAny _ _ (call (Value.ref 158) [_, _, _] []) _ _ _)); k_dflt (refine' callX0 (mclr' ?hvq372 ?X0q372 ?Sq372 ?hbq372 ?HLq372 ?HIq372 ?HNq372 ?h0q372) ?Bq372 ?Fq372 ?Xq372 ?Nq372 ?Tq372  rfl rfl rfl rfl ?hdq372 ?huq372 ?_; (case X0q372 => assumption); (case Sq372 => assumption); (case hbq372 => omega); (case HLq372 => first | exact LawI.H0 (by assumption) | exact LawI.H1 (by assumption) | exact LawI.H2 (by assumption)); (case HIq372 => exact LawI.HI (by assumption)); (case HNq372 => first | exact And.left (LawI.hNN (by assumption)) | exact And.right (LawI.hNN (by assumption))); (case h0q372 => assumption); (case hvq372 => assumption); (case Nq372 => k_asm); (case Bq372 => k_asm); (case Fq372 => k_asm); (case Xq372 => k_asm); (case Tq372 => k_asm); (case hdq372 => k_extra "my room"); (case huq372 => k_extra "my room"); refine' after_i0 ?Izq372 ?_; (case Izq372 => assumption); intro h' tk' L2' r' F' N' hs' S' I'); (try k_sweep)))
  k_with "storeName" => (guard_hyp mk41; (k_here; (with_reducible show wpAny _ _ (storeName _ (Str.ofString "kind") (Value.int _ _)) _ _ _); rw [(by assumption : (Int.fmod _ 3 : Int) = 1)]))
  k_with "my offs" => (guard_hyp mk41; first | k_extra "my off" | ((refine List.forall_mem_cons.mpr ⟨?_, ?_⟩); (focus (k_extra "my ne")); k_extra "my offs"))
  k_with "UnrEnd" => (guard_hyp mk41; k_dflt (first | (refine' unr0 ?Fq375 ?Nq375  ?a0q375 ?_; (case Fq375 => k_asm); (case Nq375 => k_asm); (case a0q375 => k_extra "my offs")) | (refine' unr1 ?Fq375 ?Nq375 ?a1q375 ?a0q375 ?_; (case Fq375 => k_asm); (case Nq375 => k_asm); (case a1q375 => k_extra "my ne"); (case a0q375 => k_extra "my offs")) | (refine' unr2 ?Fq375 ?Nq375 ?a1q375 ?a2q375 ?a0q375 ?_; (case Fq375 => k_asm); (case Nq375 => k_asm); (case a1q375 => k_extra "my ne"); (case a2q375 => k_extra "my ne"); (case a0q375 => k_extra "my offs")) | (refine' unr3 ?Fq375 ?Nq375 ?a1q375 ?a2q375 ?a3q375 ?a0q375 ?_; (case Fq375 => k_asm); (case Nq375 => k_asm); (case a1q375 => k_extra "my ne"); (case a2q375 => k_extra "my ne"); (case a3q375 => k_extra "my ne"); (case a0q375 => k_extra "my offs")) | (refine' unr4 ?Fq375 ?Nq375 ?a1q375 ?a2q375 ?a3q375 ?a4q375 ?a0q375 ?_; (case Fq375 => k_asm); (case Nq375 => k_asm); (case a1q375 => k_extra "my ne"); (case a2q375 => k_extra "my ne"); (case a3q375 => k_extra "my ne"); (case a4q375 => k_extra "my ne"); (case a0q375 => k_extra "my offs")) | (refine' unr5 ?Fq375 ?Nq375 ?a1q375 ?a2q375 ?a3q375 ?a4q375 ?a5q375 ?a0q375 ?_; (case Fq375 => k_asm); (case Nq375 => k_asm); (case a1q375 => k_extra "my ne"); (case a2q375 => k_extra "my ne"); (case a3q375 => k_extra "my ne"); (case a4q375 => k_extra "my ne"); (case a5q375 => k_extra "my ne"); (case a0q375 => k_extra "my offs")) | (refine' unr6 ?Fq375 ?Nq375 ?a1q375 ?a2q375 ?a3q375 ?a4q375 ?a5q375 ?a6q375 ?a0q375 ?_; (case Fq375 => k_asm); (case Nq375 => k_asm); (case a1q375 => k_extra "my ne"); (case a2q375 => k_extra "my ne"); (case a3q375 => k_extra "my ne"); (case a4q375 => k_extra "my ne"); (case a5q375 => k_extra "my ne"); (case a6q375 => k_extra "my ne"); (case a0q375 => k_extra "my offs"))))
  k_with "my ne" => (guard_hyp mk41; first | exact Nat.ne_of_gt (And.left (by assumption)) | exact Nat.ne_of_lt (And.left (by assumption)))
  k_with "my chain" => (guard_hyp mk41; first | (with_reducible assumption) | (refine' up_in ?uzq377 ?_; (case uzq377 => with_reducible assumption); k_extra "my chain"))
  k_with "my mem" => (guard_hyp mk41; first | (with_reducible assumption) | (with_reducible exact List.mem_cons_self) | (refine' List.mem_cons_of_mem _ ?_; k_extra "my mem"))
  k_with "my deep" => (guard_hyp mk41; first | (with_reducible assumption) | (with_reducible exact List.mem_cons_self) | (with_reducible exact LawI.lmL (by with_reducible assumption) (by with_reducible assumption)) | (with_reducible exact LawI.nmL (by with_reducible assumption) (by with_reducible assumption)) | (refine' List.mem_cons_of_mem _ ?_; k_extra "my deep") | (refine' StV.sub ?uzq379 _ ?_; (case uzq379 => with_reducible assumption); k_extra "my chain"))
  k_with "subscriptTail" => (guard_hyp mk41; (k_here; (with_reducible show wpAny _ _ (subscriptTail _ _ (Value.ref _) (Value.int _ _)) _ _ _); (k_dflt (refine' fast_list ?Nq380 ?mq380 ?zq380 ?vq380 ?_ ?hsq380)); (case Nq380 => k_asm); (case mq380 => k_extra "my deep"); (case zq380 => decide); (case vq380 => exact rfl); (case hsq380 => with_unfolding_all rfl)))
  k_with "subscriptTail" => (guard_hyp mk41; (k_here; (with_reducible show wpAny _ _ (subscriptTail _ _ (Value.ref _) (Value.int _ _)) _ _ _); (k_dflt (refine' fast_tup ?Nq381 ?mq381 ?zq381 ?vq381 ?_ ?hsq381)); (case Nq381 => k_asm); (case mq381 => k_extra "my deep"); (case zq381 => decide); (case vq381 => exact rfl); (case hsq381 => with_unfolding_all rfl)))
  k_with "subscriptTail Name" => (guard_hyp mk41; (k_here; (with_reducible show wpAny _ _ (subscriptTail _ _ (Value.ref _) (Value.int _ _)) _ _ _); (k_dflt (refine' fast_list ?Nq382 ?mq382 ?zq382 ?vq382 ?_ ?hsq382)); (case Nq382 => k_asm); (case mq382 => k_extra "my deep"); (case zq382 => decide); (case vq382 => exact rfl); (case hsq382 => with_unfolding_all rfl)))
  k_with "subscriptTail Name" => (guard_hyp mk41; (k_here; (with_reducible show wpAny _ _ (subscriptTail _ _ (Value.ref _) (Value.int _ _)) _ _ _); (k_dflt (refine' fast_tup ?Nq383 ?mq383 ?zq383 ?vq383 ?_ ?hsq383)); (case Nq383 => k_asm); (case mq383 => k_extra "my deep"); (case zq383 => decide); (case vq383 => exact rfl); (case hsq383 => with_unfolding_all rfl)))
  k_with "subscriptTail Name Name" => (guard_hyp mk41; (k_here; (with_reducible show wpAny _ _ (subscriptTail _ _ (Value.ref _) (Value.int _ _)) _ _ _); (k_dflt (refine' fast_list ?Nq384 ?mq384 ?zq384 ?vq384 ?_ ?hsq384)); (case Nq384 => k_asm); (case mq384 => k_extra "my deep"); (case zq384 => decide); (case vq384 => exact rfl); (case hsq384 => with_unfolding_all rfl)))
  k_with "subscriptTail Name Name" => (guard_hyp mk41; (k_here; (with_reducible show wpAny _ _ (subscriptTail _ _ (Value.ref _) (Value.int _ _)) _ _ _); (k_dflt (refine' fast_tup ?Nq385 ?mq385 ?zq385 ?vq385 ?_ ?hsq385)); (case Nq385 => k_asm); (case mq385 => k_extra "my deep"); (case zq385 => decide); (case vq385 => exact rfl); (case hsq385 => with_unfolding_all rfl)))
  k_with "subscriptTail Name Constant" => (guard_hyp mk41; (k_here; (with_reducible show wpAny _ _ (subscriptTail _ _ (Value.ref _) (Value.int _ _)) _ _ _); (k_dflt (refine' fast_list ?Nq386 ?mq386 ?zq386 ?vq386 ?_ ?hsq386)); (case Nq386 => k_asm); (case mq386 => k_extra "my deep"); (case zq386 => decide); (case vq386 => exact rfl); (case hsq386 => with_unfolding_all rfl)))
  k_with "subscriptTail Name Constant" => (guard_hyp mk41; (k_here; (with_reducible show wpAny _ _ (subscriptTail _ _ (Value.ref _) (Value.int _ _)) _ _ _); (k_dflt (refine' fast_tup ?Nq387 ?mq387 ?zq387 ?vq387 ?_ ?hsq387)); (case Nq387 => k_asm); (case mq387 => k_extra "my deep"); (case zq387 => decide); (case vq387 => exact rfl); (case hsq387 => with_unfolding_all rfl)))
  k_with "subscriptTail Name Constant ref int" => (guard_hyp mk41; (k_here; (with_reducible show wpAny _ _ (subscriptTail _ _ (Value.ref _) (Value.int _ _)) _ _ _); (k_dflt (refine' fast_list ?Nq388 ?mq388 ?zq388 ?vq388 ?_ ?hsq388)); (case Nq388 => k_asm); (case mq388 => k_extra "my deep"); (case zq388 => decide); (case vq388 => exact rfl); (case hsq388 => with_unfolding_all rfl)))
  k_with "subscriptTail Name Constant ref int" => (guard_hyp mk41; (k_here; (with_reducible show wpAny _ _ (subscriptTail _ _ (Value.ref _) (Value.int _ _)) _ _ _); (k_dflt (refine' fast_tup ?Nq389 ?mq389 ?zq389 ?vq389 ?_ ?hsq389)); (case Nq389 => k_asm); (case mq389 => k_extra "my deep"); (case zq389 => decide); (case vq389 => exact rfl); (case hsq389 => with_unfolding_all rfl)))
  k_with "exec For Name Call cons nil" => (guard_hyp mk41; (k_here; (rename Fr _ _ _ _ => lF'); (with_unfolding_all refine' For_invVF lF' ?k1q390 ?k2q390 ?_; (case k1q390 => exact rfl); (case k2q390 => exact rfl); k_whole)))
  k_with "pyIter ref" => (guard_hyp mk41; ((with_reducible show wpAny _ _ (pyIter (Value.ref _)) (fun it s₂ => LoopAtV _ _ _ _ _ _ _ _ _ it s₂) _ _); k_rangeUnr))
  k_with "CompEnd" => (guard_hyp mk41; (k_dflt (refine' comp_end ?Fq392 ?Nq392 ?oq392 ?sq392 ?_; (case Fq392 => k_asm); (case Nq392 => k_asm); (case oq392 => assumption); (case sq392 => exact Or.inr ⟨_, by k_mem, rfl, _, rfl⟩))))
  k_with "compareOp Eq ref ref" => (guard_hyp mk41; (k_here; (with_reducible show wpAny _ _ (compareOp _ (Value.ref _) (Value.ref _)) _ _ _); k_dflt (refine' bools_eq ?Nq393 ?Hq393 ?H2q393 ?huq393 ?_; (case Nq393 => k_asm); (case Hq393 => k_mem); (case H2q393 => k_mem); (case huq393 => k_extra "my room"))))
  k_with "my ups" => (guard_hyp mk41; (intro p hp; k_extra "my deep"))
  k_with "compareOp NotEq ref ref" => (guard_hyp mk41; (k_here; (with_reducible show wpAny _ _ (compareOp _ (Value.ref _) (Value.ref _)) _ _ _); k_dflt (refine' told_ne ?Nq395 ?Hq395 ?H2q395 ?subq395 ?sub2q395 ?huq395 ?_; (case Nq395 => k_asm); (case Hq395 => assumption); (case H2q395 => assumption); (case subq395 => k_extra "my ups"); (case sub2q395 => k_extra "my ups"); (case huq395 => k_extra "my room"))))
  k_with "compareOp NotEq ref ref" => (guard_hyp mk41; (k_here; (with_reducible show wpAny _ _ (compareOp _ (Value.ref _) (Value.ref _)) _ _ _); k_dflt (refine' row_neS2 ?Nq396 ?Hq396 ?H2q396 ?H3q396 ?H4q396 ?huq396 ?_; (case Nq396 => k_asm); (case Hq396 => k_extra "my deep"); (case H2q396 => k_extra "my deep"); (case H3q396 => k_extra "my deep"); (case H4q396 => k_extra "my deep"); (case huq396 => k_extra "my room"))))
  k_with "compareOp NotEq ref ref" => (guard_hyp mk41; (k_here; (with_reducible show wpAny _ _ (compareOp _ (Value.ref _) (Value.ref _)) _ _ _); k_dflt (refine' row_neF2 ?Nq397 ?Hq397 ?H2q397 ?huq397 ?_; (case Nq397 => k_asm); (case Hq397 => k_extra "my deep"); (case H2q397 => k_extra "my deep"); (case huq397 => k_extra "my room"))))
  k_with "eval Name" => (guard_hyp mk41; (k_here; (with_reducible show wpAny _ _ (eval (PySem.Expr.Name (Str.ofString "now") _) (envX _ _ _ _ _ _)) _ _ _); k_dflt (refine' nameX_C ?Nq398 ?hcq398 ?hmq398 ?hdq398 ?_; (case Nq398 => k_asm); (case hcq398 => exact rfl); (case hmq398 => k_mem); (case hdq398 => assumption))))
  k_with "execs cons If cons" => (guard_hyp mk41; (k_here; (with_reducible show wpAny _ _ (execs (Stmt.If (PySem.Expr.Compare (PySem.Expr.Call _ _ _ _) _ _ _) _ _ _ :: _) _) _ _ _); (k_dflt (refine' BodyAt.use ?hAq399 ?hgq399 (c_lawE ?hs0q399 ?Bq399 ?Xq399 ?Tq399 ?X0q399 ?Sq399 ?hbq399 ?Fq399 ?Nq399 ?m1q399 ?m2q399 ?m3q399 ?m4q399 ?m5q399 ?hlmq399 ?hnmq399 ?H0q399 ?H1q399 ?H2q399 ?HIq399 ?hNNq399 ?lenBq399 ?h1q399 ?h2q399 ?hvBq399 ?gBq399 ?h692q399 ?hcnq399 ?htq399 ?HTq399 ?hr0q399); (case hAq399 => assumption); (case hgq399 => exact fun h => h); (case hs0q399 => exact ⟨_, _, rfl⟩); (case Bq399 => k_asm); (case Xq399 => k_asm); (case Tq399 => k_asm); (case X0q399 => assumption); (case Sq399 => assumption); (case hbq399 => omega); (case Fq399 => k_asm); (case Nq399 => first | k_asm | (refine' news_tl ?nzq399; (case nzq399 => k_asm))); (case m1q399 => k_extra "my nm"); (case m2q399 => k_extra "my nm"); (case m3q399 => k_extra "my nm"); (case m4q399 => k_extra "my nm"); (case m5q399 => k_extra "my nm"); (case hlmq399 => exact LawI.hlm (by assumption)); (case hnmq399 => exact LawI.hnm (by assumption)); (case H0q399 => exact LawI.H0 (by assumption)); (case H1q399 => exact LawI.H1 (by assumption)); (case H2q399 => exact LawI.H2 (by assumption)); (case HIq399 => exact LawI.HI (by assumption)); (case hNNq399 => exact LawI.hNN (by assumption)); (case lenBq399 => assumption); (case h1q399 => assumption); (case h2q399 => assumption); (case hvBq399 => assumption); (case gBq399 => assumption); (case h692q399 => exact LawI.h692 (by assumption)); (case hcnq399 => assumption); (case htq399 => assumption); (case HTq399 => assumption); (case hr0q399 => (intro p hp; k_extra "my chain"))))))
  exact True.intro
theorem c_lawR1 {fa : Addr} {x : CX} {c : Cf} {v : Vw} {b : Nat} {Ls rest : Led} {g : Heap} {s0 s : Shared} {L lims l0 l1 l2 it nms tA tB : Addr} {k0 k1 : Nat} {m : Str → Option Value} {n am sA nA sB nB : Int} {tn : Tok} {kA kB : Str} {p9 : Array Value} (hs0 : Same s0 s) (B : Below callerA g [] g) (X : Frag.In (Mine.hd.heap_1 x.w.params) g) (T : Top x.p x.loose x.mean x.mg x.mb g) (X0 : Fixed x c) (S : StV x c v b Ls rest) (hb : b ≤ 300) (F : Fr g L s.heap m) (N : News g L s.heap Ls)
    (hm1 : m (Str.ofString "limiters") = some (.ref lims)) (hm2 : m (Str.ofString "item") = some (.ref it)) (hm3 : m (Str.ofString "names") = some (.ref nms)) (hm4 : m (Str.ofString "n") = some (.int n tn)) (hm5 : m (Str.ofString "store") = some (.ref c.st))
    (hlm : LL rest lims l0 l1 l2 k0) (hnm : (nms, W.listOf #[.ref tA, .ref tB] k1) ∈ rest) (H0 : LimAt rest 241 l0 c.st) (H1 : LimAt rest 202 l1 c.st) (H2 : LimAt rest 296 l2 c.st) (HI : ItemAt rest it am) (HA : NameAt x rest it tA kA) (HB : NameAt x rest it tB kB)
    (lenA : kA.length ≤ 100) (lenB : kB.length ≤ 100) (h1 : 1000 ≤ v.now) (h2 : v.now < 3000) (ham : 2 ≤ am) (hvA : (v.n (v.pk kA)).natAbs < 1000) (hvB : (v.n (v.pk kB)).natAbs < 1000) (gA : GmwV v kA sA nA) (gB : GmwV v kB sB nB) (kd : Kd v kA kB) (h692 : (692, tabObj p9) ∈ rest) (hcn : c.cn = L + 1) (hon : c.on.data = .cell (some (.ref c.ln))) (hk : (n.fdiv 1400).fmod 3 = 1) :
    Body x 695 8 (LawG x fa g L s0 s) := by
  have mk41 := True.intro
  have h0 : 0 ≤ v.now := by omega
  have I0 : LawI x c lims l0 l1 l2 it nms tA tB k0 k1 am kA kB p9 rest := ⟨hlm, hnm, H0, H1, H2, HI, ⟨HA, HB⟩, h692⟩
  clear hlm hnm H0 H1 H2 HI HA HB h692
  obtain ⟨hz, tz, rfl⟩ := hs0
  dsimp only at F N
  unfold Body LawG
  k_fill
  refine' Body.mk2 (W := LawG x fa g L s0 { s0 with heap := hz, toks := tz }) (k := 8) ?ho ?_
  case ho => k_is
  intro hBody
  obtain ⟨v', hv', A'⟩ : ∃ v', (v.clear kA) = v' ∧ Aft v v' kA kB am sB nB v.now 0 { toldV v am kA sA nA with f1 := true, f2 := true, fr := v.now, fq := am, m1 := true, m2 := true, mr := v.now + 10, mq := am } := ⟨_, rfl, aft_clr kd ham h1 h2 hvA hvB gB⟩
  generalize eA0 : toldV v am kA sA nA = tA at A'
  obtain ⟨e', h0', h1', h2', hvA', hvB', gA', gB', eA', eB'⟩ := A'
  generalize eB0 : toldV v am kB sB nB = tB at eB'
  cases tA
  cases tB
  dsimp only at eA'
  dsimp only [List.drop, LawG]
  k_steps
  all_goals exact absurd rfl (by assumption)
end
section
-- c_lawR2
theorem lines_c_lawR2 : True := by
  k_with "execs cons" => (guard_hyp mk42; (k_here; (with_reducible show wpAny _ _ (execs _ _) (LawEnd _ _) _ _); (try k_gentoks); (refine execs_hid1 ?_); intro Q1' hQ1'))
  k_with "call ref" => (guard_hyp mk42; (k_here; refine Stop.out ?_))
  k_with "my room" => (guard_hyp mk42; (simp only [depth_under_make, depth_under_kw, depth_in1, depth_deeper, units_in1, units_deeper, Around.mark_units]; (try dsimp only [topA, callerA]); first | omega | decide))
  k_with "my off" => (guard_hyp mk42; first | assumption | exact off_lt0 (by assumption) | exact off_lt (by assumption) | exact off_lt (And.right (by assumption)) | exact off_lt (And.right (And.right (by assumption))) | exact off_lt (And.right (And.right (And.right (by assumption)))) | exact off_lt (And.right (And.right (And.right (And.right (by assumption))))) | exact off_lt (And.right (And.right (And.right (And.right (And.right (by assumption)))))))
  k_with "my all" => (guard_hyp mk42; k_extra "my off")
  k_with "my nm" => (guard_hyp mk42; first | assumption | (refine (if_neg (by decide)).trans ?_; k_extra "my nm") | exact if_pos rfl)
  k_with "eval Name" => (guard_hyp mk42; (k_here; k_dflt (refine' nameX_L ?Fq406 ?hvq406 ?_ ?hkq406 ?hxq406; (case Fq406 => k_asm); (case hvq406 => k_extra "my nm"); (case hkq406 => exact rfl); (case hxq406 => exact rfl))))
  k_with "my off" => (guard_hyp mk42; first | assumption | exact off_lt0 (by assumption) | exact off_lt (by assumption) | exact off_lt (And.right (by assumption)) | exact off_lt (And.right (And.right (by assumption))) | exact off_lt (And.right (And.right (And.right (by assumption)))) | exact off_lt (And.right (And.right (And.right (And.right (by assumption))))) | exact off_lt (And.right (And.right (And.right (And.right (And.right (by assumption)))))) | exact off_lt (And.right (And.right (And.right (And.right (And.right (And.right (by assumption))))))))
  k_with "my all" => (guard_hyp mk42; k_extra "my off")
  k_with "my in" => (guard_hyp mk42; first | exact StV.sub (by assumption) _ (by assumption) | (refine List.mem_cons_of_mem _ ?_; k_extra "my in"))
  k_with "my up" => (guard_hyp mk42; (intro p hp; k_extra "my in"))
  k_with "getMethod ref" => (guard_hyp mk42; (k_here; k_dflt (refine' method_lim ?Fq411 ?Xq411 ?Nq411 ?Hq411 ?subq411 ?hgq411 ?hfq411 ?htq411 ?hlq411 ?_; (case Fq411 => k_asm); (case Xq411 => k_asm); (case Nq411 => k_asm); (case Hq411 => first | exact LawI.H0 (by assumption) | exact LawI.H1 (by assumption) | exact LawI.H2 (by assumption)); (case subq411 => k_extra "my up"); (case hgq411 => k_is); (case hfq411 => k_is); (case htq411 => k_is); (case hlq411 => (intros; k_get)))))
  k_with "getAttr ref" => (guard_hyp mk42; (k_here; (with_reducible show wpAny _ _ (getAttr (Value.ref _) (Str.ofString "amount") _) _ _ _); k_dflt (refine' amount_item ?Fq412 ?Xq412 ?Nq412 ?Hq412 ?subq412 ?hgq412 ?hhq412 ?haq412 ?hnq412 ?_; (case Fq412 => k_asm); (case Xq412 => k_asm); (case Nq412 => k_asm); (case Hq412 => exact LawI.HI (by assumption)); (case subq412 => k_extra "my up"); (case hgq412 => k_is); (case hhq412 => k_is); (case haq412 => k_is); (case hnq412 => k_is)); intro t'))
  k_with "call ref" => (guard_hyp mk42; (k_here; (with_reducible show wpAny _ _ (call (Value.ref 690) _ _) _ _ _); (k_dflt (show wpAny _ _ (call (Value.ref 690) [_, _, _] []) _ _ _)); k_dflt (refine' callX0 (told' ?htq413 ?X0q413 ?Sq413 ?hbq413 ?hmq413 ?H0q413 ?H1q413 ?H2q413 ?HIq413 ?HNq413 ?hlenq413 ?h1q413 ?h2q413 ?hvq413 ?hgq413) ?Bq413 ?Fq413 ?Xq413 ?Nq413 ?Tq413  rfl rfl rfl rfl ?hdq413 ?huq413 ?_; (case X0q413 => assumption); (case Sq413 => assumption); (case hbq413 => omega); (case HNq413 => first | exact And.left (LawI.hNN (by assumption)) | exact And.right (LawI.hNN (by assumption))); (case hmq413 => exact LawI.hlm (by assumption)); (case H0q413 => exact LawI.H0 (by assumption)); (case H1q413 => exact LawI.H1 (by assumption)); (case H2q413 => exact LawI.H2 (by assumption)); (case HIq413 => exact LawI.HI (by assumption)); (case hlenq413 => assumption); (case h1q413 => assumption); (case h2q413 => assumption); (case hvq413 => assumption); (case hgq413 => assumption); (case htq413 => assumption); (case Nq413 => k_asm); (case Bq413 => k_asm); (case Fq413 => k_asm); (case Xq413 => k_asm); (case Tq413 => k_asm); (case hdq413 => k_extra "my room"); (case huq413 => k_extra "my room"); refine' after_told0 ?Izq413 ?_; (case Izq413 => assumption); intro D' h' tk' L2' r' F' N' hs' S' I' t1'); (have t2' := t1'); (k_dflt (obtain ⟨a0', a1', a2', aT', an', u1', u2', u3', u4', u5', u6', u7', z1', z2', z3', z4', z5'⟩ := t2')); (try dsimp only at z2' z3' z4' z5'); (have hL' := StV.sub S'); (have y1' := hL' _ z1'); (have y2' := hL' _ z2'); (have y3' := hL' _ z3'); (have y4' := hL' _ z4'); (have y5' := hL' _ z5'); (obtain ⟨ct', cn', cl'⟩ := StV.clock S'); (try rw [(by assumption : Vw.now _ = Vw.now _)] at cl'); (have cf' := hL' _ (Fix.cn (StV.fix S'))); (rw [(by assumption : Cf.cn _ = _)] at cf'); (clear hL'); (try k_sweep)))
  k_with "call ref" => (guard_hyp mk42; (k_here; (with_reducible show wpAny _ _ (call (Value.ref 293) _ _) _ _ _); (k_dflt (show wpAny _ _ (call (Value.ref 293) [_, _, _] []) _ _ _)); k_dflt (refine' callX0 (sclr' ?hvq414 ?X0q414 ?Sq414 ?hbq414 ?HLq414 ?HIq414 ?HNq414 ?hlenq414 ?h1q414 ?h2q414) ?Bq414 ?Fq414 ?Xq414 ?Nq414 ?Tq414  rfl rfl rfl rfl ?hdq414 ?huq414 ?_; (case X0q414 => assumption); (case Sq414 => assumption); (case hbq414 => omega); (case HLq414 => first | exact LawI.H0 (by assumption) | exact LawI.H1 (by assumption) | exact LawI.H2 (by assumption)); (case HIq414 => exact LawI.HI (by assumption)); (case HNq414 => first | exact And.left (LawI.hNN (by assumption)) | exact And.right (LawI.hNN (by assumption))); (case hlenq414 => assumption); (case h1q414 => assumption); (case h2q414 => assumption); (case hvq414 => assumption); (case Nq414 => k_asm); (case Bq414 => k_asm); (case Fq414 => k_asm); (case Xq414 => k_asm); (case Tq414 => k_asm); (case hdq414 => k_extra "my room"); (case huq414 => k_extra "my room"); refine' after_i0 ?Izq414 ?_; (case Izq414 => assumption); intro h' tk' L2' r' F' N' hs' S' I'); (try k_sweep)))
  k_with "storeName" => (guard_hyp mk42; (k_here; (with_reducible show wpAny _ _ (storeName _ (Str.ofString "kind") (Value.int _ _)) _ _ _); rw [(by assumption : (Int.fmod _ 3 : Int) = 2)]))
  k_with "my offs" => (guard_hyp mk42; first | k_extra "my off" | ((refine List.forall_mem_cons.mpr ⟨?_, ?_⟩); (focus (k_extra "my ne")); k_extra "my offs"))
  k_with "UnrEnd" => (guard_hyp mk42; k_dflt (first | (refine' unr0 ?Fq417 ?Nq417  ?a0q417 ?_; (case Fq417 => k_asm); (case Nq417 => k_asm); (case a0q417 => k_extra "my offs")) | (refine' unr1 ?Fq417 ?Nq417 ?a1q417 ?a0q417 ?_; (case Fq417 => k_asm); (case Nq417 => k_asm); (case a1q417 => k_extra "my ne"); (case a0q417 => k_extra "my offs")) | (refine' unr2 ?Fq417 ?Nq417 ?a1q417 ?a2q417 ?a0q417 ?_; (case Fq417 => k_asm); (case Nq417 => k_asm); (case a1q417 => k_extra "my ne"); (case a2q417 => k_extra "my ne"); (case a0q417 => k_extra "my offs")) | (refine' unr3 ?Fq417 ?Nq417 ?a1q417 ?a2q417 ?a3q417 ?a0q417 ?_; (case Fq417 => k_asm); (case Nq417 => k_asm); (case a1q417 => k_extra "my ne"); (case a2q417 => k_extra "my ne"); (case a3q417 => k_extra "my ne"); (case a0q417 => k_extra "my offs")) | (refine' unr4 ?Fq417 ?Nq417 ?a1q417 ?a2q417 ?a3q417 ?a4q417 ?a0q417 ?_; (case Fq417 => k_asm); (case Nq417 => k_asm); (case a1q417 => k_extra "my ne"); (case a2q417 => k_extra "my ne"); (case a3q417 => k_extra "my ne"); (case a4q417 => k_extra "my ne"); (case a0q417 => k_extra "my offs")) | (refine' unr5 ?Fq417 ?Nq417 ?a1q417 ?a2q417 ?a3q417 ?a4q417 ?a5q417 ?a0q417 ?_; (case Fq417 => k_asm); (case Nq417 => k_asm); (case a1q417 => k_extra "my ne"); (case a2q417 => k_extra "my ne"); (case a3q417 => k_extra "my ne"); (case a4q417 => k_extra "my ne"); (case a5q417 => k_extra "my ne"); (case a0q417 => k_extra "my offs")) | (refine' unr6 ?Fq417 ?Nq417 ?a1q417 ?a2q417 ?a3q417 ?a4q417 ?a5q417 ?a6q417 ?a0q417 ?_; (case Fq417 => k_asm); (case Nq417 => k_asm); (case a1q417 => k_extra "my ne"); (case a2q417 => k_extra "my ne"); (case a3q417 => k_extra "my ne"); (case a4q417 => k_extra "my ne"); (case a5q417 => k_extra "my ne"); (case a6q417 => k_extra "my ne"); (case a0q417 => k_extra "my offs"))))
  k_with "my ne" => (guard_hyp mk42; first | exact Nat.ne_of_gt (And.left (by assumption)) | exact Nat.ne_of_lt (And.left (by assumption)))
  k_with "my chain" => (guard_hyp mk42; first | (with_reducible assumption) | (refine' up_in ?uzq419 ?_; (case uzq419 => with_reducible assumption); k_extra "my chain"))
  k_with "my mem" => (guard_hyp mk42; first | (with_reducible assumption) | (with_reducible exact List.mem_cons_self) | (refine' List.mem_cons_of_mem _ ?_; k_extra "my mem"))
  k_with "my deep" => (guard_hyp mk42; first | (with_reducible assumption) | (with_reducible exact List.mem_cons_self) | (with_reducible exact LawI.lmL (by with_reducible assumption) (by with_reducible assumption)) | (with_reducible exact LawI.nmL (by with_reducible assumption) (by with_reducible assumption)) | (refine' List.mem_cons_of_mem _ ?_; k_extra "my deep") | (refine' StV.sub ?uzq421 _ ?_; (case uzq421 => with_reducible assumption); k_extra "my chain"))
  k_with "subscriptTail" => (guard_hyp mk42; (k_here; (with_reducible show wpAny _ _ (subscriptTail _ _ (Value.ref _) (Value.int _ _)) _ _ _); (k_dflt (refine' fast_list ?Nq422 ?mq422 ?zq422 ?vq422 ?_ ?hsq422)); (case Nq422 => k_asm); (case mq422 => k_extra "my deep"); (case zq422 => decide); (case vq422 => exact rfl); (case hsq422 => with_unfolding_all rfl)))
  k_with "subscriptTail" => (guard_hyp mk42; (k_here; (with_reducible show wpAny _ _ (subscriptTail _ _ (Value.ref _) (Value.int _ _)) _ _ _); (k_dflt (refine' fast_tup ?Nq423 ?mq423 ?zq423 ?vq423 ?_ ?hsq423)); (case Nq423 => k_asm); (case mq423 => k_extra "my deep"); (case zq423 => decide); (case vq423 => exact rfl); (case hsq423 => with_unfolding_all rfl)))
  k_with "subscriptTail Name" => (guard_hyp mk42; (k_here; (with_reducible show wpAny _ _ (subscriptTail _ _ (Value.ref _) (Value.int _ _)) _ _ _); (k_dflt (refine' fast_list ?Nq424 ?mq424 ?zq424 ?vq424 ?_ ?hsq424)); (case Nq424 => k_asm); (case mq424 => k_extra "my deep"); (case zq424 => decide); (case vq424 => exact rfl); (case hsq424 => with_unfolding_all rfl)))
  k_with "subscriptTail Name" => (guard_hyp mk42; (k_here; (with_reducible show wpAny _ _ (subscriptTail _ _ (Value.ref _) (Value.int _ _)) _ _ _); (k_dflt (refine' fast_tup ?Nq425 ?mq425 ?zq425 ?vq425 ?_ ?hsq425)); (case Nq425 => k_asm); (case mq425 => k_extra "my deep"); (case zq425 => decide); (case vq425 => exact rfl); (case hsq425 => with_unfolding_all rfl)))
  k_with "subscriptTail Name Name" => (guard_hyp mk42; (k_here; (with_reducible show wpAny _ _ (subscriptTail _ _ (Value.ref _) (Value.int _ _)) _ _ _); (k_dflt (refine' fast_list ?Nq426 ?mq426 ?zq426 ?vq426 ?_ ?hsq426)); (case Nq426 => k_asm); (case mq426 => k_extra "my deep"); (case zq426 => decide); (case vq426 => exact rfl); (case hsq426 => with_unfolding_all rfl)))
  k_with "subscriptTail Name Name" => (guard_hyp mk42; (k_here; (with_reducible show wpAny _ _ (subscriptTail _ _ (Value.ref _) (Value.int _ _)) _ _ _); (k_dflt (refine' fast_tup ?Nq427 ?mq427 ?zq427 ?vq427 ?_ ?hsq427)); (case Nq427 => k_asm); (case mq427 => k_extra "my deep"); (case zq427 => decide); (case vq427 => exact rfl); (case hsq427 => with_unfolding_all rfl)))
  k_with "subscriptTail Name Constant" => (guard_hyp mk42; (k_here; (with_reducible show wpAny _ _ (subscriptTail _ _ (Value.ref _) (Value.int _ _)) _ _ _); (k_dflt (refine' fast_list ?Nq428 ?mq428 ?zq428 ?vq428 ?_ ?hsq428)); (case Nq428 => k_asm); (case mq428 => k_extra "my deep"); (case zq428 => decide); (case vq428 => exact rfl); (case hsq428 => with_unfolding_all rfl)))
  k_with "subscriptTail Name Constant" => (guard_hyp mk42; (k_here; (with_reducible show wpAny _ _ (subscriptTail _ _ (Value.ref _) (Value.int _ _)) _ _ _); (k_dflt (refine' fast_tup ?Nq429 ?mq429 ?zq429 ?vq429 ?_ ?hsq429)); (case Nq429 => k_asm); (case mq429 => k_extra "my deep"); (case zq429 => decide); (case vq429 => exact rfl); (case hsq429 => with_unfolding_all rfl)))
  k_with "subscriptTail Name Constant ref int" => (guard_hyp mk42; (k_here; (with_reducible show wpAny _ _ (subscriptTail _ _ (Value.ref _) (Value.int _ _)) _ _ _); (k_dflt (refine' fast_list ?Nq430 ?mq430 ?zq430 ?vq430 ?_ ?hsq430)); (case Nq430 => k_asm); (case mq430 => k_extra "my deep"); (case zq430 => decide); (case vq430 => exact rfl); (case hsq430 => with_unfolding_all rfl)))
  k_with "subscriptTail Name Constant ref int" => (guard_hyp mk42; (k_here; (with_reducible show wpAny _ _ (subscriptTail _ _ (Value.ref _) (Value.int _ _)) _ _ _); (k_dflt (refine' fast_tup ?Nq431 ?mq431 ?zq431 ?vq431 ?_ ?hsq431)); (case Nq431 => k_asm); (case mq431 => k_extra "my deep"); (case zq431 => decide); (case vq431 => exact rfl); (case hsq431 => with_unfolding_all rfl)))
  k_with "exec For Name Call cons nil" => (guard_hyp mk42; (k_here; (rename Fr _ _ _ _ => lF'); (with_unfolding_all refine' For_invVF lF' ?k1q432 ?k2q432 ?_; (case k1q432 => exact rfl); (case k2q432 => exact rfl); k_whole)))
  k_with "pyIter ref" => (guard_hyp mk42; ((with_reducible show wpAny _ _ (pyIter (Value.ref _)) (fun it s₂ => LoopAtV _ _ _ _ _ _ _ _ _ it s₂) _ _); k_rangeUnr))
  k_with "CompEnd" => (guard_hyp mk42; (k_dflt (refine' comp_end ?Fq434 ?Nq434 ?oq434 ?sq434 ?_; (case Fq434 => k_asm); (case Nq434 => k_asm); (case oq434 => assumption); (case sq434 => exact Or.inr ⟨_, by k_mem, rfl, _, rfl⟩))))
  k_with "compareOp Eq ref ref" => (guard_hyp mk42; (k_here; (with_reducible show wpAny _ _ (compareOp _ (Value.ref _) (Value.ref _)) _ _ _); k_dflt (refine' bools_eq ?Nq435 ?Hq435 ?H2q435 ?huq435 ?_; (case Nq435 => k_asm); (case Hq435 => k_mem); (case H2q435 => k_mem); (case huq435 => k_extra "my room"))))
  k_with "my ups" => (guard_hyp mk42; (intro p hp; k_extra "my deep"))
  k_with "compareOp NotEq ref ref" => (guard_hyp mk42; (k_here; (with_reducible show wpAny _ _ (compareOp _ (Value.ref _) (Value.ref _)) _ _ _); k_dflt (refine' told_ne ?Nq437 ?Hq437 ?H2q437 ?subq437 ?sub2q437 ?huq437 ?_; (case Nq437 => k_asm); (case Hq437 => assumption); (case H2q437 => assumption); (case subq437 => k_extra "my ups"); (case sub2q437 => k_extra "my ups"); (case huq437 => k_extra "my room"))))
  k_with "compareOp NotEq ref ref" => (guard_hyp mk42; (k_here; (with_reducible show wpAny _ _ (compareOp _ (Value.ref _) (Value.ref _)) _ _ _); k_dflt (refine' row_neS2 ?Nq438 ?Hq438 ?H2q438 ?H3q438 ?H4q438 ?huq438 ?_; (case Nq438 => k_asm); (case Hq438 => k_extra "my deep"); (case H2q438 => k_extra "my deep"); (case H3q438 => k_extra "my deep"); (case H4q438 => k_extra "my deep"); (case huq438 => k_extra "my room"))))
  k_with "compareOp NotEq ref ref" => (guard_hyp mk42; (k_here; (with_reducible show wpAny _ _ (compareOp _ (Value.ref _) (Value.ref _)) _ _ _); k_dflt (refine' row_neF2 ?Nq439 ?Hq439 ?H2q439 ?huq439 ?_; (case Nq439 => k_asm); (case Hq439 => k_extra "my deep"); (case H2q439 => k_extra "my deep"); (case huq439 => k_extra "my room"))))
  k_with "eval Name" => (guard_hyp mk42; (k_here; (with_reducible show wpAny _ _ (eval (PySem.Expr.Name (Str.ofString "now") _) (envX _ _ _ _ _ _)) _ _ _); k_dflt (refine' nameX_C ?Nq440 ?hcq440 ?hmq440 ?hdq440 ?_; (case Nq440 => k_asm); (case hcq440 => exact rfl); (case hmq440 => k_mem); (case hdq440 => assumption))))
  k_with "execs cons If cons" => (guard_hyp mk42; (k_here; (with_reducible show wpAny _ _ (execs (Stmt.If (PySem.Expr.Compare (PySem.Expr.Call _ _ _ _) _ _ _) _ _ _ :: _) _) _ _ _); (k_dflt (refine' BodyAt.use ?hAq441 ?hgq441 (c_lawE ?hs0q441 ?Bq441 ?Xq441 ?Tq441 ?X0q441 ?Sq441 ?hbq441 ?Fq441 ?Nq441 ?m1q441 ?m2q441 ?m3q441 ?m4q441 ?m5q441 ?hlmq441 ?hnmq441 ?H0q441 ?H1q441 ?H2q441 ?HIq441 ?hNNq441 ?lenBq441 ?h1q441 ?h2q441 ?hvBq441 ?gBq441 ?h692q441 ?hcnq441 ?htq441 ?HTq441 ?hr0q441); (case hAq441 => assumption); (case hgq441 => exact fun h => h); (case hs0q441 => exact ⟨_, _, rfl⟩); (case Bq441 => k_asm); (case Xq441 => k_asm); (case Tq441 => k_asm); (case X0q441 => assumption); (case Sq441 => assumption); (case hbq441 => omega); (case Fq441 => k_asm); (case Nq441 => first | k_asm | (refine' news_tl ?nzq441; (case nzq441 => k_asm))); (case m1q441 => k_extra "my nm"); (case m2q441 => k_extra "my nm"); (case m3q441 => k_extra "my nm"); (case m4q441 => k_extra "my nm"); (case m5q441 => k_extra "my nm"); (case hlmq441 => exact LawI.hlm (by assumption)); (case hnmq441 => exact LawI.hnm (by assumption)); (case H0q441 => exact LawI.H0 (by assumption)); (case H1q441 => exact LawI.H1 (by assumption)); (case H2q441 => exact LawI.H2 (by assumption)); (case HIq441 => exact LawI.HI (by assumption)); (case hNNq441 => exact LawI.hNN (by assumption)); (case lenBq441 => assumption); (case h1q441 => assumption); (case h2q441 => assumption); (case hvBq441 => assumption); (case gBq441 => assumption); (case h692q441 => exact LawI.h692 (by assumption)); (case hcnq441 => assumption); (case htq441 => assumption); (case HTq441 => assumption); (case hr0q441 => (intro p hp; k_extra "my chain"))))))
  exact True.intro
theorem c_lawR2 {fa : Addr} {x : CX} {c : Cf} {v : Vw} {b : Nat} {Ls rest : Led} {g : Heap} {s0 s : Shared} {L lims l0 l1 l2 it nms tA tB : Addr} {k0 k1 : Nat} {m : Str → Option Value} {n am sA nA sB nB : Int} {tn : Tok} {kA kB : Str} {p9 : Array Value} (hs0 : Same s0 s) (B : Below callerA g [] g) (X : Frag.In (Mine.hd.heap_1 x.w.params) g) (T : Top x.p x.loose x.mean x.mg x.mb g) (X0 : Fixed x c) (S : StV x c v b Ls rest) (hb : b ≤ 300) (F : Fr g L s.heap m) (N : News g L s.heap Ls)
    (hm1 : m (Str.ofString "limiters") = some (.ref lims)) (hm2 : m (Str.ofString "item") = some (.ref it)) (hm3 : m (Str.ofString "names") = some (.ref nms)) (hm4 : m (Str.ofString "n") = some (.int n tn)) (hm5 : m (Str.ofString "store") = some (.ref c.st))
    (hlm : LL rest lims l0 l1 l2 k0) (hnm : (nms, W.listOf #[.ref tA, .ref tB] k1) ∈ rest) (H0 : LimAt rest 241 l0 c.st) (H1 : LimAt rest 202 l1 c.st) (H2 : LimAt rest 296 l2 c.st) (HI : ItemAt rest it am) (HA : NameAt x rest it tA kA) (HB : NameAt x rest it tB kB)
    (lenA : kA.length ≤ 100) (lenB : kB.length ≤ 100) (h1 : 1000 ≤ v.now) (h2 : v.now < 3000) (ham : 2 ≤ am) (hvA : (v.n (v.pk kA)).natAbs < 1000) (hvB : (v.n (v.pk kB)).natAbs < 1000) (gA : GmwV v kA sA nA) (gB : GmwV v kB sB nB) (kd : Kd v kA kB) (h692 : (692, tabObj p9) ∈ rest) (hcn : c.cn = L + 1) (hon : c.on.data = .cell (some (.ref c.ln))) (hk : (n.fdiv 1400).fmod 3 = 2) :
    Body x 695 8 (LawG x fa g L s0 s) := by
  have mk42 := True.intro
  have h0 : 0 ≤ v.now := by omega
  have I0 : LawI x c lims l0 l1 l2 it nms tA tB k0 k1 am kA kB p9 rest := ⟨hlm, hnm, H0, H1, H2, HI, ⟨HA, HB⟩, h692⟩
  clear hlm hnm H0 H1 H2 HI HA HB h692
  obtain ⟨hz, tz, rfl⟩ := hs0
  dsimp only at F N
  unfold Body LawG
  k_fill
  refine' Body.mk2 (W := LawG x fa g L s0 { s0 with heap := hz, toks := tz }) (k := 8) ?ho ?_
  case ho => k_is
  intro hBody
  obtain ⟨v', hv', A'⟩ : ∃ v', (sclr v kA) = v' ∧ Aft v v' kA kB am sB nB sA nA { toldV v am kA sA nA with s1 := true, s2 := true, sr1 := v.now, sr2 := 1, sq := am } := ⟨_, rfl, aft_sclr kd ham h1 h2 hvB gA gB⟩
  generalize eA0 : toldV v am kA sA nA = tA at A'
  obtain ⟨e', h0', h1', h2', hvA', hvB', gA', gB', eA', eB'⟩ := A'
  generalize eB0 : toldV v am kB sB nB = tB at eB'
  cases tA
  cases tB
  dsimp only at eA'
  dsimp only [List.drop, LawG]
  k_steps
  all_goals exact absurd rfl (by assumption)
end
section
-- c_lawR
theorem lines_c_lawR : True := by
  k_with "execs cons" => (guard_hyp mk43; (k_here; (with_reducible show wpAny _ _ (execs _ _) (LawEnd _ _) _ _); (try k_gentoks); (refine execs_hid1 ?_); intro Q1' hQ1'))
  exact True.intro
theorem c_lawR {fa : Addr} {x : CX} {c : Cf} {v : Vw} {b : Nat} {Ls rest : Led} {g : Heap} {s0 s : Shared} {L lims l0 l1 l2 it nms tA tB : Addr} {k0 k1 : Nat} {m : Str → Option Value} {n am sA nA sB nB : Int} {tn : Tok} {kA kB : Str} {p9 : Array Value} (hs0 : Same s0 s) (B : Below callerA g [] g) (X : Frag.In (Mine.hd.heap_1 x.w.params) g) (T : Top x.p x.loose x.mean x.mg x.mb g) (X0 : Fixed x c) (S : StV x c v b Ls rest) (hb : b ≤ 300) (F : Fr g L s.heap m) (N : News g L s.heap Ls)
    (hm1 : m (Str.ofString "limiters") = some (.ref lims)) (hm2 : m (Str.ofString "item") = some (.ref it)) (hm3 : m (Str.ofString "names") = some (.ref nms)) (hm4 : m (Str.ofString "n") = some (.int n tn)) (hm5 : m (Str.ofString "store") = some (.ref c.st))
    (hlm : LL rest lims l0 l1 l2 k0) (hnm : (nms, W.listOf #[.ref tA, .ref tB] k1) ∈ rest) (H0 : LimAt rest 241 l0 c.st) (H1 : LimAt rest 202 l1 c.st) (H2 : LimAt rest 296 l2 c.st) (HI : ItemAt rest it am) (HA : NameAt x rest it tA kA) (HB : NameAt x rest it tB kB)
    (lenA : kA.length ≤ 100) (lenB : kB.length ≤ 100) (h1 : 1000 ≤ v.now) (h2 : v.now < 3000) (ham : 2 ≤ am) (hvA : (v.n (v.pk kA)).natAbs < 1000) (hvB : (v.n (v.pk kB)).natAbs < 1000) (gA : GmwV v kA sA nA) (gB : GmwV v kB sB nB) (kd : Kd v kA kB) (h692 : (692, tabObj p9) ∈ rest) (hcn : c.cn = L + 1) (hon : c.on.data = .cell (some (.ref c.ln))) :
    Body x 695 8 (LawG x fa g L s0 s) := by
  have h3 : (n.fdiv 1400).fmod 3 = 0 ∨ (n.fdiv 1400).fmod 3 = 1 ∨ (n.fdiv 1400).fmod 3 = 2 := by
    rw [Int.fmod_eq_emod_of_nonneg _ (by decide)]
    omega
  rcases h3 with h | h | h
  · exact c_lawR0 hs0 B X T X0 S hb F N hm1 hm2 hm3 hm4 hm5 hlm hnm H0 H1 H2 HI HA HB lenA lenB h1 h2 ham hvA hvB gA gB kd h692 hcn hon h
  · exact c_lawR1 hs0 B X T X0 S hb F N hm1 hm2 hm3 hm4 hm5 hlm hnm H0 H1 H2 HI HA HB lenA lenB h1 h2 ham hvA hvB gA gB kd h692 hcn hon h
  · exact c_lawR2 hs0 B X T X0 S hb F N hm1 hm2 hm3 hm4 hm5 hlm hnm H0 H1 H2 HI HA HB lenA lenB h1 h2 ham hvA hvB gA gB kd h692 hcn hon h
end
section
-- c_lawB2
theorem lines_c_lawB2 : True := by
  k_with "execs cons" => (guard_hyp mk44; (k_here; (with_reducible show wpAny _ _ (execs _ _) (LawEnd _ _) _ _); (try k_gentoks); (refine execs_hid1 ?_); intro Q1' hQ1'))
  k_with "call ref" => (guard_hyp mk44; (k_here; refine Stop.out ?_))
  k_with "my room" => (guard_hyp mk44; (simp only [depth_under_make, depth_under_kw, depth_in1, depth_deeper, units_in1, units_deeper, Around.mark_units]; (try dsimp only [topA, callerA]); first | omega | decide))
  k_with "my off" => (guard_hyp mk44; first | assumption | exact off_lt0 (by assumption) | exact off_lt (by assumption) | exact off_lt (And.right (by assumption)) | exact off_lt (And.right (And.right (by assumption))) | exact off_lt (And.right (And.right (And.right (by assumption)))) | exact off_lt (And.right (And.right (And.right (And.right (by assumption))))) | exact off_lt (And.right (And.right (And.right (And.right (And.right (by assumption)))))))
  k_with "my all" => (guard_hyp mk44; k_extra "my off")
  k_with "my nm" => (guard_hyp mk44; first | assumption | (refine (if_neg (by decide)).trans ?_; k_extra "my nm") | exact if_pos rfl)
  k_with "eval Name" => (guard_hyp mk44; (k_here; k_dflt (refine' nameX_L ?Fq449 ?hvq449 ?_ ?hkq449 ?hxq449; (case Fq449 => k_asm); (case hvq449 => k_extra "my nm"); (case hkq449 => exact rfl); (case hxq449 => exact rfl))))
  k_with "my off" => (guard_hyp mk44; first | assumption | exact off_lt0 (by assumption) | exact off_lt (by assumption) | exact off_lt (And.right (by assumption)) | exact off_lt (And.right (And.right (by assumption))) | exact off_lt (And.right (And.right (And.right (by assumption)))) | exact off_lt (And.right (And.right (And.right (And.right (by assumption))))) | exact off_lt (And.right (And.right (And.right (And.right (And.right (by assumption)))))) | exact off_lt (And.right (And.right (And.right (And.right (And.right (And.right (by assumption))))))))
  k_with "my all" => (guard_hyp mk44; k_extra "my off")
  k_with "my in" => (guard_hyp mk44; first | exact StV.sub (by assumption) _ (by assumption) | (refine List.mem_cons_of_mem _ ?_; k_extra "my in"))
  k_with "my up" => (guard_hyp mk44; (intro p hp; k_extra "my in"))
  k_with "getMethod ref" => (guard_hyp mk44; (k_here; k_dflt (refine' method_lim ?Fq454 ?Xq454 ?Nq454 ?Hq454 ?subq454 ?hgq454 ?hfq454 ?htq454 ?hlq454 ?_; (case Fq454 => k_asm); (case Xq454 => k_asm); (case Nq454 => k_asm); (case Hq454 => first | exact LawI.H0 (by assumption) | exact LawI.H1 (by assumption) | exact LawI.H2 (by assumption)); (case subq454 => k_extra "my up"); (case hgq454 => k_is); (case hfq454 => k_is); (case htq454 => k_is); (case hlq454 => (intros; k_get)))))
  k_with "getAttr ref" => (guard_hyp mk44; (k_here; (with_reducible show wpAny _ _ (getAttr (Value.ref _) (Str.ofString "amount") _) _ _ _); k_dflt (refine' amount_item ?Fq455 ?Xq455 ?Nq455 ?Hq455 ?subq455 ?hgq455 ?hhq455 ?haq455 ?hnq455 ?_; (case Fq455 => k_asm); (case Xq455 => k_asm); (case Nq455 => k_asm); (case Hq455 => exact LawI.HI (by assumption)); (case subq455 => k_extra "my up"); (case hgq455 => k_is); (case hhq455 => k_is); (case haq455 => k_is); (case hnq455 => k_is)); intro t'))
  k_with "my offs" => (guard_hyp mk44; first | k_extra "my off" | ((refine List.forall_mem_cons.mpr ⟨?_, ?_⟩); (focus (k_extra "my ne")); k_extra "my offs"))
  k_with "UnrEnd" => (guard_hyp mk44; k_dflt (first | (refine' unr0 ?Fq457 ?Nq457  ?a0q457 ⟨?mq457, ?_⟩; (case Fq457 => k_asm); (case Nq457 => k_asm); (case a0q457 => k_extra "my offs"); (case mq457 => k_extra "my deep")) | (refine' unr1 ?Fq457 ?Nq457 ?a1q457 ?a0q457 ⟨?mq457, ?_⟩; (case Fq457 => k_asm); (case Nq457 => k_asm); (case a1q457 => k_extra "my ne"); (case a0q457 => k_extra "my offs"); (case mq457 => k_extra "my deep")) | (refine' unr2 ?Fq457 ?Nq457 ?a1q457 ?a2q457 ?a0q457 ⟨?mq457, ?_⟩; (case Fq457 => k_asm); (case Nq457 => k_asm); (case a1q457 => k_extra "my ne"); (case a2q457 => k_extra "my ne"); (case a0q457 => k_extra "my offs"); (case mq457 => k_extra "my deep")) | (refine' unr3 ?Fq457 ?Nq457 ?a1q457 ?a2q457 ?a3q457 ?a0q457 ⟨?mq457, ?_⟩; (case Fq457 => k_asm); (case Nq457 => k_asm); (case a1q457 => k_extra "my ne"); (case a2q457 => k_extra "my ne"); (case a3q457 => k_extra "my ne"); (case a0q457 => k_extra "my offs"); (case mq457 => k_extra "my deep")) | (refine' unr4 ?Fq457 ?Nq457 ?a1q457 ?a2q457 ?a3q457 ?a4q457 ?a0q457 ⟨?mq457, ?_⟩; (case Fq457 => k_asm); (case Nq457 => k_asm); (case a1q457 => k_extra "my ne"); (case a2q457 => k_extra "my ne"); (case a3q457 => k_extra "my ne"); (case a4q457 => k_extra "my ne"); (case a0q457 => k_extra "my offs"); (case mq457 => k_extra "my deep")) | (refine' unr5 ?Fq457 ?Nq457 ?a1q457 ?a2q457 ?a3q457 ?a4q457 ?a5q457 ?a0q457 ⟨?mq457, ?_⟩; (case Fq457 => k_asm); (case Nq457 => k_asm); (case a1q457 => k_extra "my ne"); (case a2q457 => k_extra "my ne"); (case a3q457 => k_extra "my ne"); (case a4q457 => k_extra "my ne"); (case a5q457 => k_extra "my ne"); (case a0q457 => k_extra "my offs"); (case mq457 => k_extra "my deep")) | (refine' unr6 ?Fq457 ?Nq457 ?a1q457 ?a2q457 ?a3q457 ?a4q457 ?a5q457 ?a6q457 ?a0q457 ⟨?mq457, ?_⟩; (case Fq457 => k_asm); (case Nq457 => k_asm); (case a1q457 => k_extra "my ne"); (case a2q457 => k_extra "my ne"); (case a3q457 => k_extra "my ne"); (case a4q457 => k_extra "my ne"); (case a5q457 => k_extra "my ne"); (case a6q457 => k_extra "my ne"); (case a0q457 => k_extra "my offs"); (case mq457 => k_extra "my deep"))))
  k_with "my ne" => (guard_hyp mk44; first | exact Nat.ne_of_gt (And.left (by assumption)) | exact Nat.ne_of_lt (And.left (by assumption)))
  k_with "my chain" => (guard_hyp mk44; first | (with_reducible assumption) | (refine' up_in ?uzq459 ?_; (case uzq459 => with_reducible assumption); k_extra "my chain"))
  k_with "my mem" => (guard_hyp mk44; first | (with_reducible assumption) | (with_reducible exact List.mem_cons_self) | (refine' List.mem_cons_of_mem _ ?_; k_extra "my mem"))
  k_with "my deep" => (guard_hyp mk44; first | (with_reducible assumption) | (with_reducible exact List.mem_cons_self) | (with_reducible exact LawI.lmL (by with_reducible assumption) (by with_reducible assumption)) | (with_reducible exact LawI.nmL (by with_reducible assumption) (by with_reducible assumption)) | (refine' List.mem_cons_of_mem _ ?_; k_extra "my deep") | (refine' StV.sub ?uzq461 _ ?_; (case uzq461 => with_reducible assumption); k_extra "my chain"))
  k_with "subscriptTail" => (guard_hyp mk44; (k_here; (with_reducible show wpAny _ _ (subscriptTail _ _ (Value.ref _) (Value.int _ _)) _ _ _); (k_dflt (refine' fast_list ?Nq462 ?mq462 ?zq462 ?vq462 ?_ ?hsq462)); (case Nq462 => k_asm); (case mq462 => k_extra "my deep"); (case zq462 => decide); (case vq462 => exact rfl); (case hsq462 => with_unfolding_all rfl)))
  k_with "subscriptTail" => (guard_hyp mk44; (k_here; (with_reducible show wpAny _ _ (subscriptTail _ _ (Value.ref _) (Value.int _ _)) _ _ _); (k_dflt (refine' fast_tup ?Nq463 ?mq463 ?zq463 ?vq463 ?_ ?hsq463)); (case Nq463 => k_asm); (case mq463 => k_extra "my deep"); (case zq463 => decide); (case vq463 => exact rfl); (case hsq463 => with_unfolding_all rfl)))
  k_with "subscriptTail Name" => (guard_hyp mk44; (k_here; (with_reducible show wpAny _ _ (subscriptTail _ _ (Value.ref _) (Value.int _ _)) _ _ _); (k_dflt (refine' fast_list ?Nq464 ?mq464 ?zq464 ?vq464 ?_ ?hsq464)); (case Nq464 => k_asm); (case mq464 => k_extra "my deep"); (case zq464 => decide); (case vq464 => exact rfl); (case hsq464 => with_unfolding_all rfl)))
  k_with "subscriptTail Name" => (guard_hyp mk44; (k_here; (with_reducible show wpAny _ _ (subscriptTail _ _ (Value.ref _) (Value.int _ _)) _ _ _); (k_dflt (refine' fast_tup ?Nq465 ?mq465 ?zq465 ?vq465 ?_ ?hsq465)); (case Nq465 => k_asm); (case mq465 => k_extra "my deep"); (case zq465 => decide); (case vq465 => exact rfl); (case hsq465 => with_unfolding_all rfl)))
  k_with "subscriptTail Name Name" => (guard_hyp mk44; (k_here; (with_reducible show wpAny _ _ (subscriptTail _ _ (Value.ref _) (Value.int _ _)) _ _ _); (k_dflt (refine' fast_list ?Nq466 ?mq466 ?zq466 ?vq466 ?_ ?hsq466)); (case Nq466 => k_asm); (case mq466 => k_extra "my deep"); (case zq466 => decide); (case vq466 => exact rfl); (case hsq466 => with_unfolding_all rfl)))
  k_with "subscriptTail Name Name" => (guard_hyp mk44; (k_here; (with_reducible show wpAny _ _ (subscriptTail _ _ (Value.ref _) (Value.int _ _)) _ _ _); (k_dflt (refine' fast_tup ?Nq467 ?mq467 ?zq467 ?vq467 ?_ ?hsq467)); (case Nq467 => k_asm); (case mq467 => k_extra "my deep"); (case zq467 => decide); (case vq467 => exact rfl); (case hsq467 => with_unfolding_all rfl)))
  k_with "subscriptTail Name Constant" => (guard_hyp mk44; (k_here; (with_reducible show wpAny _ _ (subscriptTail _ _ (Value.ref _) (Value.int _ _)) _ _ _); (k_dflt (refine' fast_list ?Nq468 ?mq468 ?zq468 ?vq468 ?_ ?hsq468)); (case Nq468 => k_asm); (case mq468 => k_extra "my deep"); (case zq468 => decide); (case vq468 => exact rfl); (case hsq468 => with_unfolding_all rfl)))
  k_with "subscriptTail Name Constant" => (guard_hyp mk44; (k_here; (with_reducible show wpAny _ _ (subscriptTail _ _ (Value.ref _) (Value.int _ _)) _ _ _); (k_dflt (refine' fast_tup ?Nq469 ?mq469 ?zq469 ?vq469 ?_ ?hsq469)); (case Nq469 => k_asm); (case mq469 => k_extra "my deep"); (case zq469 => decide); (case vq469 => exact rfl); (case hsq469 => with_unfolding_all rfl)))
  k_with "subscriptTail Name Constant ref int" => (guard_hyp mk44; (k_here; (with_reducible show wpAny _ _ (subscriptTail _ _ (Value.ref _) (Value.int _ _)) _ _ _); (k_dflt (refine' fast_list ?Nq470 ?mq470 ?zq470 ?vq470 ?_ ?hsq470)); (case Nq470 => k_asm); (case mq470 => k_extra "my deep"); (case zq470 => decide); (case vq470 => exact rfl); (case hsq470 => with_unfolding_all rfl)))
  k_with "subscriptTail Name Constant ref int" => (guard_hyp mk44; (k_here; (with_reducible show wpAny _ _ (subscriptTail _ _ (Value.ref _) (Value.int _ _)) _ _ _); (k_dflt (refine' fast_tup ?Nq471 ?mq471 ?zq471 ?vq471 ?_ ?hsq471)); (case Nq471 => k_asm); (case mq471 => k_extra "my deep"); (case zq471 => decide); (case vq471 => exact rfl); (case hsq471 => with_unfolding_all rfl)))
  k_with "exec For Name Call cons nil" => (guard_hyp mk44; (k_here; (rename Fr _ _ _ _ => lF'); (with_unfolding_all refine' For_invVF lF' ?k1q472 ?k2q472 ?_; (case k1q472 => exact rfl); (case k2q472 => exact rfl); k_whole)))
  k_with "pyIter ref" => (guard_hyp mk44; ((with_reducible show wpAny _ _ (pyIter (Value.ref _)) (fun it s₂ => LoopAtV _ _ _ _ _ _ _ _ _ it s₂) _ _); k_rangeUnr))
  k_with "CompEnd" => (guard_hyp mk44; (k_dflt (refine' comp_end ?Fq474 ?Nq474 ?oq474 ?sq474 ?_; (case Fq474 => k_asm); (case Nq474 => k_asm); (case oq474 => assumption); (case sq474 => exact Or.inr ⟨_, by k_mem, rfl, _, rfl⟩))))
  k_with "compareOp Eq ref ref" => (guard_hyp mk44; (k_here; (with_reducible show wpAny _ _ (compareOp _ (Value.ref _) (Value.ref _)) _ _ _); k_dflt (refine' bools_eq ?Nq475 ?Hq475 ?H2q475 ?huq475 ?_; (case Nq475 => k_asm); (case Hq475 => k_mem); (case H2q475 => k_mem); (case huq475 => k_extra "my room"))))
  k_with "my ups" => (guard_hyp mk44; (intro p hp; k_extra "my deep"))
  k_with "compareOp NotEq ref ref" => (guard_hyp mk44; (k_here; (with_reducible show wpAny _ _ (compareOp _ (Value.ref _) (Value.ref _)) _ _ _); k_dflt (refine' told_ne ?Nq477 ?Hq477 ?H2q477 ?subq477 ?sub2q477 ?huq477 ?_; (case Nq477 => k_asm); (case Hq477 => assumption); (case H2q477 => assumption); (case subq477 => k_extra "my ups"); (case sub2q477 => k_extra "my ups"); (case huq477 => k_extra "my room"))))
  k_with "compareOp NotEq ref ref" => (guard_hyp mk44; (k_here; (with_reducible show wpAny _ _ (compareOp _ (Value.ref _) (Value.ref _)) _ _ _); k_dflt (refine' row_neS2 ?Nq478 ?Hq478 ?H2q478 ?H3q478 ?H4q478 ?huq478 ?_; (case Nq478 => k_asm); (case Hq478 => k_extra "my deep"); (case H2q478 => k_extra "my deep"); (case H3q478 => k_extra "my deep"); (case H4q478 => k_extra "my deep"); (case huq478 => k_extra "my room"))))
  k_with "compareOp NotEq ref ref" => (guard_hyp mk44; (k_here; (with_reducible show wpAny _ _ (compareOp _ (Value.ref _) (Value.ref _)) _ _ _); k_dflt (refine' row_neF2 ?Nq479 ?Hq479 ?H2q479 ?huq479 ?_; (case Nq479 => k_asm); (case Hq479 => k_extra "my deep"); (case H2q479 => k_extra "my deep"); (case huq479 => k_extra "my room"))))
  k_with "eval Name" => (guard_hyp mk44; (k_here; (with_reducible show wpAny _ _ (eval (PySem.Expr.Name (Str.ofString "now") _) (envX _ _ _ _ _ _)) _ _ _); k_dflt (refine' nameX_C ?Nq480 ?hcq480 ?hmq480 ?hdq480 ?_; (case Nq480 => k_asm); (case hcq480 => exact rfl); (case hmq480 => k_mem); (case hdq480 => assumption))))
  k_with "exec For Name Name cons nil" => (guard_hyp mk44; (k_here; (rename Fr _ _ _ _ => lF'); (with_unfolding_all refine' For_invVF lF' ?k1q481 ?k2q481 ?_; (case k1q481 => exact rfl); (case k2q481 => exact rfl); k_whole)))
  k_with "pyIter ref" => (guard_hyp mk44; ((with_reducible show wpAny _ _ (pyIter (Value.ref _)) (fun it s₂ => LoopAtV _ _ _ _ _ _ _ _ _ it s₂) _ _); (rename Fr _ _ _ _ => lF'); (with_unfolding_all refine' iter_listUnr (lo := W.listOf #[.ref _, .ref _, .ref _] _) (vs := [_, _, _]) ?hhq482 lF' ?Nq482 ?mq482 ?hcq482 ?hdq482 ?_; (case hhq482 => exact rfl); (case Nq482 => k_asm); (case mq482 => k_extra "my deep"); (case hcq482 => exact rfl); (case hdq482 => exact rfl)); clear lF'; intro i' l1; (try k_lt l1)))
  k_with "pyIter ref" => (guard_hyp mk44; ((with_reducible show wpAny _ _ (pyIter (Value.ref _)) (fun it s₂ => LoopAtV _ _ _ _ _ _ _ _ _ it s₂) _ _); (rename Fr _ _ _ _ => lF'); (with_unfolding_all refine' iter_listUnr (lo := W.listOf #[.ref _, .ref _] _) (vs := [_, _]) ?hhq483 lF' ?Nq483 ?mq483 ?hcq483 ?hdq483 ?_; (case hhq483 => exact rfl); (case Nq483 => k_asm); (case mq483 => k_extra "my deep"); (case hcq483 => exact rfl); (case hdq483 => exact rfl)); clear lF'; intro i' l1; (try k_lt l1)))
  k_with "call ref" => (guard_hyp mk44; (k_here; (with_reducible show wpAny _ _ (call (Value.ref 220) _ _) _ _ _); (k_dflt (show wpAny _ _ (call (Value.ref 220) [_, _, _, _] []) _ _ _)); k_dflt (refine' callX2 (fhit' ?hvq484 ?hbbq484 ?X0q484 ?Sq484 ?hbq484 ?HLq484 ?HIq484 ?HNq484 ?h0q484) ?Bq484 ?Fq484 ?Xq484 ?Nq484 ?Tq484 ?a1q484 ?a2q484 rfl rfl rfl rfl ?hdq484 ?huq484 ?_; (case X0q484 => assumption); (case Sq484 => assumption); (case hbq484 => omega); (case HLq484 => first | exact LawI.H0 (by assumption) | exact LawI.H1 (by assumption) | exact LawI.H2 (by assumption)); (case HIq484 => exact LawI.HI (by assumption)); (case HNq484 => first | exact And.left (LawI.hNN (by assumption)) | exact And.right (LawI.hNN (by assumption))); (case h0q484 => assumption); (case hvq484 => assumption); (case hbbq484 => assumption); (case Nq484 => k_asm); (case a1q484 => k_extra "my off"); (case a2q484 => k_extra "my off"); (case Bq484 => k_asm); (case Fq484 => k_asm); (case Xq484 => k_asm); (case Tq484 => k_asm); (case hdq484 => k_extra "my room"); (case huq484 => k_extra "my room"); refine' after_i2 ?Izq484 ?_; (case Izq484 => assumption); intro h' tk' L2' r' F' N' ap1' ap2' S' I'); (try k_sweep)))
  k_with "call ref" => (guard_hyp mk44; (k_here; (with_reducible show wpAny _ _ (call (Value.ref 181) _ _) _ _ _); (k_dflt (show wpAny _ _ (call (Value.ref 181) [_, _, _, _] []) _ _ _)); k_dflt (refine' callN2 (mhit' ?hvq485 ?hbbq485 ?X0q485 ?Sq485 ?hbq485 ?HLq485 ?HIq485 ?HNq485 ?h1q485 ?h2q485 ?hlenq485) ?Bq485 ?Fq485 ?Xq485 ?Nq485 ?Tq485 ?a1q485 ?a2q485 rfl rfl rfl rfl ?hdq485 ?huq485 ?_; (case X0q485 => assumption); (case Sq485 => assumption); (case hbq485 => omega); (case HLq485 => first | exact LawI.H0 (by assumption) | exact LawI.H1 (by assumption) | exact LawI.H2 (by assumption)); (case HIq485 => exact LawI.HI (by assumption)); (case HNq485 => first | exact And.left (LawI.hNN (by assumption)) | exact And.right (LawI.hNN (by assumption))); (case h1q485 => omega); (case h2q485 => assumption); (case hlenq485 => assumption); (case hvq485 => assumption); (case hbbq485 => assumption); (case Nq485 => k_asm); (case a1q485 => k_extra "my off"); (case a2q485 => k_extra "my off"); (case Bq485 => k_asm); (case Fq485 => k_asm); (case Xq485 => k_asm); (case Tq485 => k_asm); (case hdq485 => k_extra "my room"); (case huq485 => k_extra "my room"); refine' after_i2 ?Izq485 ?_; (case Izq485 => assumption); intro h' tk' L2' r' F' N' ap1' ap2' S' I'); (try k_sweep)))
  k_with "call ref" => (guard_hyp mk44; (k_here; (with_reducible show wpAny _ _ (call (Value.ref 266) _ _) _ _ _); (k_dflt (show wpAny _ _ (call (Value.ref 266) [_, _, _, _] []) _ _ _)); k_dflt (refine' callX2 (shit' ?hvq486 ?hbbq486 ?X0q486 ?Sq486 ?hbq486 ?HLq486 ?HIq486 ?HNq486 ?hlenq486 ?h1q486 ?h2q486) ?Bq486 ?Fq486 ?Xq486 ?Nq486 ?Tq486 ?a1q486 ?a2q486 rfl rfl rfl rfl ?hdq486 ?huq486 ?_; (case X0q486 => assumption); (case Sq486 => assumption); (case hbq486 => omega); (case HLq486 => first | exact LawI.H0 (by assumption) | exact LawI.H1 (by assumption) | exact LawI.H2 (by assumption)); (case HIq486 => exact LawI.HI (by assumption)); (case HNq486 => first | exact And.left (LawI.hNN (by assumption)) | exact And.right (LawI.hNN (by assumption))); (case hlenq486 => assumption); (case h1q486 => assumption); (case h2q486 => assumption); (case hvq486 => assumption); (case hbbq486 => assumption); (case Nq486 => k_asm); (case a1q486 => k_extra "my off"); (case a2q486 => k_extra "my off"); (case Bq486 => k_asm); (case Fq486 => k_asm); (case Xq486 => k_asm); (case Tq486 => k_asm); (case hdq486 => k_extra "my room"); (case huq486 => k_extra "my room"); refine' after_i2 ?Izq486 ?_; (case Izq486 => assumption); intro h' tk' L2' r' F' N' ap1' ap2' S' I'); (try k_sweep)))
  k_with "call ref" => (guard_hyp mk44; (k_here; (with_reducible show wpAny _ _ (call (Value.ref 229) _ _) _ _ _); (k_dflt (show wpAny _ _ (call (Value.ref 229) [_, _, _, _] []) _ _ _)); k_dflt (refine' callX2 (ftest' ?hbbq487 ?X0q487 ?Sq487 ?hbq487 ?HLq487 ?HIq487 ?HNq487 ?h0q487) ?Bq487 ?Fq487 ?Xq487 ?Nq487 ?Tq487 ?a1q487 ?a2q487 rfl rfl rfl rfl ?hdq487 ?huq487 ?_; (case X0q487 => assumption); (case Sq487 => assumption); (case hbq487 => omega); (case HLq487 => first | exact LawI.H0 (by assumption) | exact LawI.H1 (by assumption) | exact LawI.H2 (by assumption)); (case HIq487 => exact LawI.HI (by assumption)); (case HNq487 => first | exact And.left (LawI.hNN (by assumption)) | exact And.right (LawI.hNN (by assumption))); (case h0q487 => assumption); (case hbbq487 => assumption); (case Nq487 => k_asm); (case a1q487 => k_extra "my off"); (case a2q487 => k_extra "my off"); (case Bq487 => k_asm); (case Fq487 => k_asm); (case Xq487 => k_asm); (case Tq487 => k_asm); (case hdq487 => k_extra "my room"); (case huq487 => k_extra "my room"); refine' after_i2 ?Izq487 ?_; (case Izq487 => assumption); intro h' tk' L2' r' F' N' ap1' ap2' S' I'); (try k_sweep)))
  k_with "call ref" => (guard_hyp mk44; (k_here; (with_reducible show wpAny _ _ (call (Value.ref 190) _ _) _ _ _); (k_dflt (show wpAny _ _ (call (Value.ref 190) [_, _, _, _] []) _ _ _)); k_dflt (refine' callX2 (mtest' ?hgq488 ?hbbq488 ?X0q488 ?Sq488 ?hbq488 ?HLq488 ?HIq488 ?HNq488) ?Bq488 ?Fq488 ?Xq488 ?Nq488 ?Tq488 ?a1q488 ?a2q488 rfl rfl rfl rfl ?hdq488 ?huq488 ?_; (case X0q488 => assumption); (case Sq488 => assumption); (case hbq488 => omega); (case HLq488 => first | exact LawI.H0 (by assumption) | exact LawI.H1 (by assumption) | exact LawI.H2 (by assumption)); (case HIq488 => exact LawI.HI (by assumption)); (case HNq488 => first | exact And.left (LawI.hNN (by assumption)) | exact And.right (LawI.hNN (by assumption))); (case hgq488 => assumption); (case hbbq488 => assumption); (case Nq488 => k_asm); (case a1q488 => k_extra "my off"); (case a2q488 => k_extra "my off"); (case Bq488 => k_asm); (case Fq488 => k_asm); (case Xq488 => k_asm); (case Tq488 => k_asm); (case hdq488 => k_extra "my room"); (case huq488 => k_extra "my room"); refine' after_i2 ?Izq488 ?_; (case Izq488 => assumption); intro h' tk' L2' r' F' N' ap1' ap2' S' I'); (try k_sweep)))
  k_with "call ref" => (guard_hyp mk44; (k_here; (with_reducible show wpAny _ _ (call (Value.ref 275) _ _) _ _ _); (k_dflt (show wpAny _ _ (call (Value.ref 275) [_, _, _, _] []) _ _ _)); k_dflt (refine' callX2 (stest' ?hbbq489 ?X0q489 ?Sq489 ?hbq489 ?HLq489 ?HIq489 ?HNq489 ?hlenq489 ?h1q489 ?h2q489 ?hvq489) ?Bq489 ?Fq489 ?Xq489 ?Nq489 ?Tq489 ?a1q489 ?a2q489 rfl rfl rfl rfl ?hdq489 ?huq489 ?_; (case X0q489 => assumption); (case Sq489 => assumption); (case hbq489 => omega); (case HLq489 => first | exact LawI.H0 (by assumption) | exact LawI.H1 (by assumption) | exact LawI.H2 (by assumption)); (case HIq489 => exact LawI.HI (by assumption)); (case HNq489 => first | exact And.left (LawI.hNN (by assumption)) | exact And.right (LawI.hNN (by assumption))); (case hlenq489 => assumption); (case h1q489 => assumption); (case h2q489 => assumption); (case hvq489 => assumption); (case hbbq489 => assumption); (case Nq489 => k_asm); (case a1q489 => k_extra "my off"); (case a2q489 => k_extra "my off"); (case Bq489 => k_asm); (case Fq489 => k_asm); (case Xq489 => k_asm); (case Tq489 => k_asm); (case hdq489 => k_extra "my room"); (case huq489 => k_extra "my room"); refine' after_i2 ?Izq489 ?_; (case Izq489 => assumption); intro h' tk' L2' r' F' N' ap1' ap2' S' I'); (try k_sweep)))
  k_with "compareOp Is ref ref" => (guard_hyp mk44; (k_here; (with_reducible show wpAny _ _ (compareOp CmpOp.Is (Value.ref _) (Value.ref _)) _ _ _); k_dflt (refine' is_lim ?Nq490 ?Hq490 ?H2q490 ?subq490 ?sub2q490 ?neq490 ?_; (case Nq490 => k_asm); (case neq490 => assumption); (case Hq490 => first | exact LawI.H0 (by assumption) | exact LawI.H1 (by assumption) | exact LawI.H2 (by assumption)); (case H2q490 => first | exact LawI.H0 (by assumption) | exact LawI.H1 (by assumption) | exact LawI.H2 (by assumption)); (case subq490 => k_extra "my ups"); (case sub2q490 => k_extra "my ups"))))
  k_with "compareOp Is ref ref" => (guard_hyp mk44; (k_here; (with_reducible refine wpAny_is_ref_self ?_)))
  k_with "getItem" => (guard_hyp mk44; (k_here; (with_reducible show wpAny _ _ (getItem (Value.ref _) (Value.int _ _)) _ _ _); (k_dflt (refine' fast_get ?Nq492 ?mq492 ?zq492 ?vq492 ?_)); (case Nq492 => k_asm); (case mq492 => k_extra "my deep"); (case zq492 => decide); (case vq492 => exact rfl)))
  k_with "setItem ref int" => (guard_hyp mk44; (k_here; (with_reducible show wpAny _ _ (setItem (Value.ref (Cf.ln _)) (Value.int _ _) (Value.int _ _)) _ _ _); (k_dflt (refine' set_now ?hvq493 ?Fq493 ?Nq493 ?X0q493 ?Sq493 ?h0q493 ?hdq493 ?hzq493 ?_; (case X0q493 => assumption); (case Sq493 => assumption); (case Fq493 => k_asm); (case Nq493 => k_asm); (case hvq493 => assumption); (case h0q493 => assumption); (case hdq493 => decide); (case hzq493 => exact rfl))); intro h' Ls' F' N' S' hq'))
  k_with "execs cons Assign cons" => (guard_hyp mk44; (k_here; (with_reducible show wpAny _ _ (execs (Stmt.Assign [PySem.Expr.Name (Str.ofString "other") _] _ _ :: _) _) _ _ _); (k_dflt (refine' BodyAt.use ?hAq494 ?hgq494 (c_lawR ?hs0q494 ?Bq494 ?Xq494 ?Tq494 ?X0q494 ?Sq494 ?hbq494 ?Fq494 ?Nq494 ?m1q494 ?m2q494 ?m3q494 ?m4q494 ?m5q494 ?hlmq494 ?hnmq494 ?H0q494 ?H1q494 ?H2q494 ?HIq494 ?HAqq494 ?HBq494 ?lenAq494 ?lenBq494 ?h1q494 ?h2q494 ?hamq494 ?hvAq494 ?hvBq494 ?gAq494 ?gBq494 ?kdq494 ?h692q494 ?hcnq494 ?honq494); (case hAq494 => assumption); (case hgq494 => exact fun h => h); (case hs0q494 => exact ⟨_, _, rfl⟩); (case Bq494 => k_asm); (case Xq494 => k_asm); (case Tq494 => k_asm); (case X0q494 => assumption); (case Sq494 => assumption); (case hbq494 => omega); (case Fq494 => k_asm); (case Nq494 => k_asm); (case m1q494 => k_extra "my nm"); (case m2q494 => k_extra "my nm"); (case m3q494 => k_extra "my nm"); (case m4q494 => k_extra "my nm"); (case m5q494 => k_extra "my nm"); (case hlmq494 => exact LawI.hlm (by assumption)); (case hnmq494 => exact LawI.hnm (by assumption)); (case H0q494 => exact LawI.H0 (by assumption)); (case H1q494 => exact LawI.H1 (by assumption)); (case H2q494 => exact LawI.H2 (by assumption)); (case HIq494 => exact LawI.HI (by assumption)); (case HAqq494 => exact And.left (LawI.hNN (by assumption))); (case HBq494 => exact And.right (LawI.hNN (by assumption))); (case lenAq494 => assumption); (case lenBq494 => assumption); (case h1q494 => assumption); (case h2q494 => assumption); (case hamq494 => assumption); (case hvAq494 => assumption); (case hvBq494 => assumption); (case gAq494 => assumption); (case gBq494 => assumption); (case kdq494 => assumption); (case h692q494 => exact LawI.h692 (by assumption)); (case hcnq494 => assumption); (case honq494 => assumption)))))
  exact True.intro
theorem c_lawB2 {fa : Addr} {x : CX} {c : Cf} {v0 v1 v2 v3 v4 v5 v6 v7 : Vw} {b : Nat} {Ls rest : Led} {g : Heap} {s0 s : Shared} {L lims l0 l1 l2 it nms tA tB : Addr} {k0 k1 : Nat} {m : Str → Option Value} {n am sA nA sB nB rA jA rB jB : Int} {tn : Tok} {kA kB : Str} {p9 : Array Value} (hs0 : Same s0 s) (B : Below callerA g [] g) (X : Frag.In (Mine.hd.heap_1 x.w.params) g) (T : Top x.p x.loose x.mean x.mg x.mb g) (X0 : Fixed x c) (S : StV x c v0 b Ls rest) (F : Fr g L s.heap m) (N : News g L s.heap Ls)
    (hm1 : m (Str.ofString "limiters") = some (.ref lims)) (hm2 : m (Str.ofString "item") = some (.ref it)) (hm3 : m (Str.ofString "names") = some (.ref nms)) (hm4 : m (Str.ofString "n") = some (.int n tn)) (hm5 : m (Str.ofString "store") = some (.ref c.st))
    (hlm : LL rest lims l0 l1 l2 k0) (hnm : (nms, W.listOf #[.ref tA, .ref tB] k1) ∈ rest) (H0 : LimAt rest 241 l0 c.st) (H1 : LimAt rest 202 l1 c.st) (H2 : LimAt rest 296 l2 c.st) (HI : ItemAt rest it am) (hNN : NN x rest it tA tB kA kB)
    (lenA : kA.length ≤ 100) (lenB : kB.length ≤ 100) (h692 : (692, tabObj p9) ∈ rest) (hcn : c.cn = L + 1) (hon : c.on.data = .cell (some (.ref c.ln))) (ham : 2 ≤ am) (ham8 : am ≤ 8) (hb : b ≤ 200)
    (n02 : l0 ≠ l2) (n12 : l1 ≠ l2) (d1 : v0.adv 11 = v1) (a0 : 0 ≤ v0.now)
    (f1 : v1.incr kA 10 am = v2) (g1 : decide (v1.n kA + am ≤ am) = true) (t1 : decide (v2.n kA < am - am + 1) = false)
    (f2 : v2.incr kB 10 am = v3) (g2 : decide (v2.n kB + am ≤ am) = true) (t2 : decide (v3.n kB < am - am + 1) = false)
    (f3 : v3.acq kA am am = v4) (g3 : v3.acqB kA am am = true) (i3 : (v3.m kA).length ≤ 900) (t3 : decide (nA ≤ am - am) = false) (u3 : GmwV v4 kA sA nA)
    (f4 : v4.acq kB am am = v5) (g4 : v4.acqB kB am am = true) (i4 : (v4.m kB).length ≤ 900) (t4 : decide (nB ≤ am - am) = false) (u4 : GmwV v5 kB sB nB)
    (f5 : v5.acqS kA am 1 = v6) (g5 : v5.acqSB kA am 1 = true) (t5 : decide (v6.wtd kA < am - am + 1) = false) (u5 : (v6.n (v6.pk kA)).natAbs < 1000)
    (f6 : v6.acqS kB am 1 = v7) (g6 : v6.acqSB kB am 1 = true) (t6 : decide (v7.wtd kB < am - am + 1) = false) (u6 : (v7.n (v7.pk kB)).natAbs < 1000)
    (p0 : Kd v0 kA kB) (p1 : (v0.n (v0.pk kA)).natAbs < 1000) (p2 : (v0.n (v0.pk kB)).natAbs < 1000) (p3 : GmwV v0 kA rA jA) (p4 : GmwV v0 kB rB jB)
    (q0 : Kd v7 kA kB) (q1 : (v7.n (v7.pk kA)).natAbs < 1000) (q2 : (v7.n (v7.pk kB)).natAbs < 1000) (q3 : GmwV v7 kA sA nA) (q4 : GmwV v7 kB sB nB)
    (z0 : 0 ≤ v0.now) (y0 : 1000 ≤ v0.now) (x0 : v0.now < 3000)
    (z1 : 0 ≤ v1.now) (y1 : 1000 ≤ v1.now) (x1 : v1.now < 3000)
    (z2 : 0 ≤ v2.now) (y2 : 1000 ≤ v2.now) (x2 : v2.now < 3000)
    (z3 : 0 ≤ v3.now) (y3 : 1000 ≤ v3.now) (x3 : v3.now < 3000)
    (z4 : 0 ≤ v4.now) (y4 : 1000 ≤ v4.now) (x4 : v4.now < 3000)
    (z5 : 0 ≤ v5.now) (y5 : 1000 ≤ v5.now) (x5 : v5.now < 3000)
    (z6 : 0 ≤ v6.now) (y6 : 1000 ≤ v6.now) (x6 : v6.now < 3000)
    (z7 : 0 ≤ v7.now) (y7 : 1000 ≤ v7.now) (x7 : v7.now < 3000) :
    Body x 695 7 (LawG x fa g L s0 s) := by
  have mk44 := True.intro
  have I0 : LawI x c lims l0 l1 l2 it nms tA tB k0 k1 am kA kB p9 rest := ⟨hlm, hnm, H0, H1, H2, HI, hNN, h692⟩
  clear hlm hnm H0 H1 H2 HI hNN h692
  have hL := S.sub
  obtain ⟨ctz, cnz, clz⟩ := StV.clock S
  have cfz := hL _ (Fix.cn (StV.fix S))
  rw [hcn] at cfz
  clear hL
  obtain ⟨hz, tz, rfl⟩ := hs0
  dsimp only at F N
  unfold Body LawG
  k_fill
  refine' Body.mk2 (W := LawG x fa g L s0 { s0 with heap := hz, toks := tz }) (k := 7) ?ho ?_
  case ho => k_is
  intro hBody
  dsimp only [List.drop, LawG]
  k_steps
end
section
-- c_lawB2x
theorem c_lawB2x {fa : Addr} {x : CX} {c : Cf} {v0 : Vw} {b : Nat} {Ls rest : Led} {g : Heap} {s0 s : Shared} {L lims l0 l1 l2 it nms tA tB : Addr} {k0 k1 : Nat} {m : Str → Option Value} {n am : Int} {tn : Tok} {kA kB : Str} {p9 : Array Value} (hs0 : Same s0 s) (B : Below callerA g [] g) (X : Frag.In (Mine.hd.heap_1 x.w.params) g) (T : Top x.p x.loose x.mean x.mg x.mb g) (X0 : Fixed x c) (S : StV x c v0 b Ls rest) (F : Fr g L s.heap m) (N : News g L s.heap Ls)
    (hm1 : m (Str.ofString "limiters") = some (.ref lims)) (hm2 : m (Str.ofString "item") = some (.ref it)) (hm3 : m (Str.ofString "names") = some (.ref nms)) (hm4 : m (Str.ofString "n") = some (.int n tn)) (hm5 : m (Str.ofString "store") = some (.ref c.st))
    (hlm : LL rest lims l0 l1 l2 k0) (hnm : (nms, W.listOf #[.ref tA, .ref tB] k1) ∈ rest) (H0 : LimAt rest 241 l0 c.st) (H1 : LimAt rest 202 l1 c.st) (H2 : LimAt rest 296 l2 c.st) (HI : ItemAt rest it am) (hNN : NN x rest it tA tB kA kB)
    (lenA : kA.length ≤ 100) (lenB : kB.length ≤ 100) (h692 : (692, tabObj p9) ∈ rest) (hcn : c.cn = L + 1) (hon : c.on.data = .cell (some (.ref c.ln))) (ham : 2 ≤ am) (ham8 : am ≤ 8) (hb : b ≤ 200) (n02 : l0 ≠ l2) (n12 : l1 ≠ l2) (hC : Ch2 v0 kA kB am) :
    Body x 695 7 (LawG x fa g L s0 s) := by
  obtain ⟨v1, v2, v3, v4, v5, v6, v7, sA, nA, sB, nB, rA, jA, rB, jB, hQ⟩ := hC
  exact c_lawB2 hs0 B X T X0 S F N hm1 hm2 hm3 hm4 hm5 hlm hnm H0 H1 H2 HI hNN lenA lenB h692 hcn hon ham ham8 hb n02 n12 hQ.1 hQ.2.1 hQ.2.2.1 hQ.2.2.2.1 hQ.2.2.2.2.1 hQ.2.2.2.2.2.1 hQ.2.2.2.2.2.2.1 hQ.2.2.2.2.2.2.2.1 hQ.2.2.2.2.2.2.2.2.1 hQ.2.2.2.2.2.2.2.2.2.1 hQ.2.2.2.2.2.2.2.2.2.2.1 hQ.2.2.2.2.2.2.2.2.2.2.2.1 hQ.2.2.2.2.2.2.2.2.2.2.2.2.1 hQ.2.2.2.2.2.2.2.2.2.2.2.2.2.1 hQ.2.2.2.2.2.2.2.2.2.2.2.2.2.2.1 hQ.2.2.2.2.2.2.2.2.2.2.2.2.2.2.2.1 hQ.2.2.2.2.2.2.2.2.2.2.2.2.2.2.2.2.1 hQ.2.2.2.2.2.2.2.2.2.2.2.2.2.2.2.2.2.1 hQ.2.2.2.2.2.2.2.2.2.2.2.2.2.2.2.2.2.2.1 hQ.2.2.2.2.2.2.2.2.2.2.2.2.2.2.2.2.2.2.2.1 hQ.2.2.2.2.2.2.2.2.2.2.2.2.2.2.2.2.2.2.2.2.1 hQ.2.2.2.2.2.2.2.2.2.2.2.2.2.2.2.2.2.2.2.2.2.1 hQ.2.2.2.2.2.2.2.2.2.2.2.2.2.2.2.2.2.2.2.2.2.2.1 hQ.2.2.2.2.2.2.2.2.2.2.2.2.2.2.2.2.2.2.2.2.2.2.2.1 hQ.2.2.2.2.2.2.2.2.2.2.2.2.2.2.2.2.2.2.2.2.2.2.2.2.1 hQ.2.2.2.2.2.2.2.2.2.2.2.2.2.2.2.2.2.2.2.2.2.2.2.2.2.1 hQ.2.2.2.2.2.2.2.2.2.2.2.2.2.2.2.2.2.2.2.2.2.2.2.2.2.2.1 hQ.2.2.2.2.2.2.2.2.2.2.2.2.2.2.2.2.2.2.2.2.2.2.2.2.2.2.2.1 hQ.2.2.2.2.2.2.2.2.2.2.2.2.2.2.2.2.2.2.2.2.2.2.2.2.2.2.2.2.1 hQ.2.2.2.2.2.2.2.2.2.2.2.2.2.2.2.2.2.2.2.2.2.2.2.2.2.2.2.2.2.1 hQ.2.2.2.2.2.2.2.2.2.2.2.2.2.2.2.2.2.2.2.2.2.2.2.2.2.2.2.2.2.2.1 hQ.2.2.2.2.2.2.2.2.2.2.2.2.2.2.2.2.2.2.2.2.2.2.2.2.2.2.2.2.2.2.2.1 hQ.2.2.2.2.2.2.2.2.2.2.2.2.2.2.2.2.2.2.2.2.2.2.2.2.2.2.2.2.2.2.2.2.1 hQ.2.2.2.2.2.2.2.2.2.2.2.2.2.2.2.2.2.2.2.2.2.2.2.2.2.2.2.2.2.2.2.2.2.1 hQ.2.2.2.2.2.2.2.2.2.2.2.2.2.2.2.2.2.2.2.2.2.2.2.2.2.2.2.2.2.2.2.2.2.2.1 hQ.2.2.2.2.2.2.2.2.2.2.2.2.2.2.2.2.2.2.2.2.2.2.2.2.2.2.2.2.2.2.2.2.2.2.2.1 hQ.2.2.2.2.2.2.2.2.2.2.2.2.2.2.2.2.2.2.2.2.2.2.2.2.2.2.2.2.2.2.2.2.2.2.2.2.1 hQ.2.2.2.2.2.2.2.2.2.2.2.2.2.2.2.2.2.2.2.2.2.2.2.2.2.2.2.2.2.2.2.2.2.2.2.2.2.1 hQ.2.2.2.2.2.2.2.2.2.2.2.2.2.2.2.2.2.2.2.2.2.2.2.2.2.2.2.2.2.2.2.2.2.2.2.2.2.2.1 hQ.2.2.2.2.2.2.2.2.2.2.2.2.2.2.2.2.2.2.2.2.2.2.2.2.2.2.2.2.2.2.2.2.2.2.2.2.2.2.2.1 hQ.2.2.2.2.2.2.2.2.2.2.2.2.2.2.2.2.2.2.2.2.2.2.2.2.2.2.2.2.2.2.2.2.2.2.2.2.2.2.2.2.1 hQ.2.2.2.2.2.2.2.2.2.2.2.2.2.2.2.2.2.2.2.2.2.2.2.2.2.2.2.2.2.2.2.2.2.2.2.2.2.2.2.2.2.1 hQ.2.2.2.2.2.2.2.2.2.2.2.2.2.2.2.2.2.2.2.2.2.2.2.2.2.2.2.2.2.2.2.2.2.2.2.2.2.2.2.2.2.2.1 hQ.2.2.2.2.2.2.2.2.2.2.2.2.2.2.2.2.2.2.2.2.2.2.2.2.2.2.2.2.2.2.2.2.2.2.2.2.2.2.2.2.2.2.2.1 hQ.2.2.2.2.2.2.2.2.2.2.2.2.2.2.2.2.2.2.2.2.2.2.2.2.2.2.2.2.2.2.2.2.2.2.2.2.2.2.2.2.2.2.2.2.1 hQ.2.2.2.2.2.2.2.2.2.2.2.2.2.2.2.2.2.2.2.2.2.2.2.2.2.2.2.2.2.2.2.2.2.2.2.2.2.2.2.2.2.2.2.2.2.1 hQ.2.2.2.2.2.2.2.2.2.2.2.2.2.2.2.2.2.2.2.2.2.2.2.2.2.2.2.2.2.2.2.2.2.2.2.2.2.2.2.2.2.2.2.2.2.2.1 hQ.2.2.2.2.2.2.2.2.2.2.2.2.2.2.2.2.2.2.2.2.2.2.2.2.2.2.2.2.2.2.2.2.2.2.2.2.2.2.2.2.2.2.2.2.2.2.2.1 hQ.2.2.2.2.2.2.2.2.2.2.2.2.2.2.2.2.2.2.2.2.2.2.2.2.2.2.2.2.2.2.2.2.2.2.2.2.2.2.2.2.2.2.2.2.2.2.2.2.1 hQ.2.2.2.2.2.2.2.2.2.2.2.2.2.2.2.2.2.2.2.2.2.2.2.2.2.2.2.2.2.2.2.2.2.2.2.2.2.2.2.2.2.2.2.2.2.2.2.2.2.1 hQ.2.2.2.2.2.2.2.2.2.2.2.2.2.2.2.2.2.2.2.2.2.2.2.2.2.2.2.2.2.2.2.2.2.2.2.2.2.2.2.2.2.2.2.2.2.2.2.2.2.2.1 hQ.2.2.2.2.2.2.2.2.2.2.2.2.2.2.2.2.2.2.2.2.2.2.2.2.2.2.2.2.2.2.2.2.2.2.2.2.2.2.2.2.2.2.2.2.2.2.2.2.2.2.2.1 hQ.2.2.2.2.2.2.2.2.2.2.2.2.2.2.2.2.2.2.2.2.2.2.2.2.2.2.2.2.2.2.2.2.2.2.2.2.2.2.2.2.2.2.2.2.2.2.2.2.2.2.2.2.1 hQ.2.2.2.2.2.2.2.2.2.2.2.2.2.2.2.2.2.2.2.2.2.2.2.2.2.2.2.2.2.2.2.2.2.2.2.2.2.2.2.2.2.2.2.2.2.2.2.2.2.2.2.2.2.1 hQ.2.2.2.2.2.2.2.2.2.2.2.2.2.2.2.2.2.2.2.2.2.2.2.2.2.2.2.2.2.2.2.2.2.2.2.2.2.2.2.2.2.2.2.2.2.2.2.2.2.2.2.2.2.2.1 hQ.2.2.2.2.2.2.2.2.2.2.2.2.2.2.2.2.2.2.2.2.2.2.2.2.2.2.2.2.2.2.2.2.2.2.2.2.2.2.2.2.2.2.2.2.2.2.2.2.2.2.2.2.2.2.2.1 hQ.2.2.2.2.2.2.2.2.2.2.2.2.2.2.2.2.2.2.2.2.2.2.2.2.2.2.2.2.2.2.2.2.2.2.2.2.2.2.2.2.2.2.2.2.2.2.2.2.2.2.2.2.2.2.2.2.1 hQ.2.2.2.2.2.2.2.2.2.2.2.2.2.2.2.2.2.2.2.2.2.2.2.2.2.2.2.2.2.2.2.2.2.2.2.2.2.2.2.2.2.2.2.2.2.2.2.2.2.2.2.2.2.2.2.2.2.1 hQ.2.2.2.2.2.2.2.2.2.2.2.2.2.2.2.2.2.2.2.2.2.2.2.2.2.2.2.2.2.2.2.2.2.2.2.2.2.2.2.2.2.2.2.2.2.2.2.2.2.2.2.2.2.2.2.2.2.2.1 hQ.2.2.2.2.2.2.2.2.2.2.2.2.2.2.2.2.2.2.2.2.2.2.2.2.2.2.2.2.2.2.2.2.2.2.2.2.2.2.2.2.2.2.2.2.2.2.2.2.2.2.2.2.2.2.2.2.2.2.2
end
section
-- c_lawB1
theorem lines_c_lawB1 : True := by
  k_with "execs cons" => (guard_hyp mk45; (k_here; (with_reducible show wpAny _ _ (execs _ _) (LawEnd _ _) _ _); (try k_gentoks); (refine execs_hid1 ?_); intro Q1' hQ1'))
  k_with "call ref" => (guard_hyp mk45; (k_here; refine Stop.out ?_))
  k_with "my room" => (guard_hyp mk45; (simp only [depth_under_make, depth_under_kw, depth_in1, depth_deeper, units_in1, units_deeper, Around.mark_units]; (try dsimp only [topA, callerA]); first | omega | decide))
  k_with "my off" => (guard_hyp mk45; first | assumption | exact off_lt0 (by assumption) | exact off_lt (by assumption) | exact off_lt (And.right (by assumption)) | exact off_lt (And.right (And.right (by assumption))) | exact off_lt (And.right (And.right (And.right (by assumption)))) | exact off_lt (And.right (And.right (And.right (And.right (by assumption))))) | exact off_lt (And.right (And.right (And.right (And.right (And.right (by assumption)))))))
  k_with "my all" => (guard_hyp mk45; k_extra "my off")
  k_with "my nm" => (guard_hyp mk45; first | assumption | (refine (if_neg (by decide)).trans ?_; k_extra "my nm") | exact if_pos rfl)
  k_with "eval Name" => (guard_hyp mk45; (k_here; k_dflt (refine' nameX_L ?Fq501 ?hvq501 ?_ ?hkq501 ?hxq501; (case Fq501 => k_asm); (case hvq501 => k_extra "my nm"); (case hkq501 => exact rfl); (case hxq501 => exact rfl))))
  k_with "my off" => (guard_hyp mk45; first | assumption | exact off_lt0 (by assumption) | exact off_lt (by assumption) | exact off_lt (And.right (by assumption)) | exact off_lt (And.right (And.right (by assumption))) | exact off_lt (And.right (And.right (And.right (by assumption)))) | exact off_lt (And.right (And.right (And.right (And.right (by assumption))))) | exact off_lt (And.right (And.right (And.right (And.right (And.right (by assumption)))))) | exact off_lt (And.right (And.right (And.right (And.right (And.right (And.right (by assumption))))))))
  k_with "my all" => (guard_hyp mk45; k_extra "my off")
  k_with "my in" => (guard_hyp mk45; first | exact StV.sub (by assumption) _ (by assumption) | (refine List.mem_cons_of_mem _ ?_; k_extra "my in"))
  k_with "my up" => (guard_hyp mk45; (intro p hp; k_extra "my in"))
  k_with "getMethod ref" => (guard_hyp mk45; (k_here; k_dflt (refine' method_lim ?Fq506 ?Xq506 ?Nq506 ?Hq506 ?subq506 ?hgq506 ?hfq506 ?htq506 ?hlq506 ?_; (case Fq506 => k_asm); (case Xq506 => k_asm); (case Nq506 => k_asm); (case Hq506 => first | exact LawI.H0 (by assumption) | exact LawI.H1 (by assumption) | exact LawI.H2 (by assumption)); (case subq506 => k_extra "my up"); (case hgq506 => k_is); (case hfq506 => k_is); (case htq506 => k_is); (case hlq506 => (intros; k_get)))))
  k_with "getAttr ref" => (guard_hyp mk45; (k_here; (with_reducible show wpAny _ _ (getAttr (Value.ref _) (Str.ofString "amount") _) _ _ _); k_dflt (refine' amount_item ?Fq507 ?Xq507 ?Nq507 ?Hq507 ?subq507 ?hgq507 ?hhq507 ?haq507 ?hnq507 ?_; (case Fq507 => k_asm); (case Xq507 => k_asm); (case Nq507 => k_asm); (case Hq507 => exact LawI.HI (by assumption)); (case subq507 => k_extra "my up"); (case hgq507 => k_is); (case hhq507 => k_is); (case haq507 => k_is); (case hnq507 => k_is)); intro t'))
  k_with "my offs" => (guard_hyp mk45; first | k_extra "my off" | ((refine List.forall_mem_cons.mpr ⟨?_, ?_⟩); (focus (k_extra "my ne")); k_extra "my offs"))
  k_with "UnrEnd" => (guard_hyp mk45; k_dflt (first | (refine' unr0 ?Fq509 ?Nq509  ?a0q509 ⟨?mq509, ?_⟩; (case Fq509 => k_asm); (case Nq509 => k_asm); (case a0q509 => k_extra "my offs"); (case mq509 => k_extra "my deep")) | (refine' unr1 ?Fq509 ?Nq509 ?a1q509 ?a0q509 ⟨?mq509, ?_⟩; (case Fq509 => k_asm); (case Nq509 => k_asm); (case a1q509 => k_extra "my ne"); (case a0q509 => k_extra "my offs"); (case mq509 => k_extra "my deep")) | (refine' unr2 ?Fq509 ?Nq509 ?a1q509 ?a2q509 ?a0q509 ⟨?mq509, ?_⟩; (case Fq509 => k_asm); (case Nq509 => k_asm); (case a1q509 => k_extra "my ne"); (case a2q509 => k_extra "my ne"); (case a0q509 => k_extra "my offs"); (case mq509 => k_extra "my deep")) | (refine' unr3 ?Fq509 ?Nq509 ?a1q509 ?a2q509 ?a3q509 ?a0q509 ⟨?mq509, ?_⟩; (case Fq509 => k_asm); (case Nq509 => k_asm); (case a1q509 => k_extra "my ne"); (case a2q509 => k_extra "my ne"); (case a3q509 => k_extra "my ne"); (case a0q509 => k_extra "my offs"); (case mq509 => k_extra "my deep")) | (refine' unr4 ?Fq509 ?Nq509 ?a1q509 ?a2q509 ?a3q509 ?a4q509 ?a0q509 ⟨?mq509, ?_⟩; (case Fq509 => k_asm); (case Nq509 => k_asm); (case a1q509 => k_extra "my ne"); (case a2q509 => k_extra "my ne"); (case a3q509 => k_extra "my ne"); (case a4q509 => k_extra "my ne"); (case a0q509 => k_extra "my offs"); (case mq509 => k_extra "my deep")) | (refine' unr5 ?Fq509 ?Nq509 ?a1q509 ?a2q509 ?a3q509 ?a4q509 ?a5q509 ?a0q509 ⟨?mq509, ?_⟩; (case Fq509 => k_asm); (case Nq509 => k_asm); (case a1q509 => k_extra "my ne"); (case a2q509 => k_extra "my ne"); (case a3q509 => k_extra "my ne"); (case a4q509 => k_extra "my ne"); (case a5q509 => k_extra "my ne"); (case a0q509 => k_extra "my offs"); (case mq509 => k_extra "my deep")) | (refine' unr6 ?Fq509 ?Nq509 ?a1q509 ?a2q509 ?a3q509 ?a4q509 ?a5q509 ?a6q509 ?a0q509 ⟨?mq509, ?_⟩; (case Fq509 => k_asm); (case Nq509 => k_asm); (case a1q509 => k_extra "my ne"); (case a2q509 => k_extra "my ne"); (case a3q509 => k_extra "my ne"); (case a4q509 => k_extra "my ne"); (case a5q509 => k_extra "my ne"); (case a6q509 => k_extra "my ne"); (case a0q509 => k_extra "my offs"); (case mq509 => k_extra "my deep"))))
  k_with "my ne" => (guard_hyp mk45; first | exact Nat.ne_of_gt (And.left (by assumption)) | exact Nat.ne_of_lt (And.left (by assumption)))
  k_with "my chain" => (guard_hyp mk45; first | (with_reducible assumption) | (refine' up_in ?uzq511 ?_; (case uzq511 => with_reducible assumption); k_extra "my chain"))
  k_with "my mem" => (guard_hyp mk45; first | (with_reducible assumption) | (with_reducible exact List.mem_cons_self) | (refine' List.mem_cons_of_mem _ ?_; k_extra "my mem"))
  k_with "my deep" => (guard_hyp mk45; first | (with_reducible assumption) | (with_reducible exact List.mem_cons_self) | (with_reducible exact LawI.lmL (by with_reducible assumption) (by with_reducible assumption)) | (with_reducible exact LawI.nmL (by with_reducible assumption) (by with_reducible assumption)) | (refine' List.mem_cons_of_mem _ ?_; k_extra "my deep") | (refine' StV.sub ?uzq513 _ ?_; (case uzq513 => with_reducible assumption); k_extra "my chain"))
  k_with "subscriptTail" => (guard_hyp mk45; (k_here; (with_reducible show wpAny _ _ (subscriptTail _ _ (Value.ref _) (Value.int _ _)) _ _ _); (k_dflt (refine' fast_list ?Nq514 ?mq514 ?zq514 ?vq514 ?_ ?hsq514)); (case Nq514 => k_asm); (case mq514 => k_extra "my deep"); (case zq514 => decide); (case vq514 => exact rfl); (case hsq514 => with_unfolding_all rfl)))
  k_with "subscriptTail" => (guard_hyp mk45; (k_here; (with_reducible show wpAny _ _ (subscriptTail _ _ (Value.ref _) (Value.int _ _)) _ _ _); (k_dflt (refine' fast_tup ?Nq515 ?mq515 ?zq515 ?vq515 ?_ ?hsq515)); (case Nq515 => k_asm); (case mq515 => k_extra "my deep"); (case zq515 => decide); (case vq515 => exact rfl); (case hsq515 => with_unfolding_all rfl)))
  k_with "subscriptTail Name" => (guard_hyp mk45; (k_here; (with_reducible show wpAny _ _ (subscriptTail _ _ (Value.ref _) (Value.int _ _)) _ _ _); (k_dflt (refine' fast_list ?Nq516 ?mq516 ?zq516 ?vq516 ?_ ?hsq516)); (case Nq516 => k_asm); (case mq516 => k_extra "my deep"); (case zq516 => decide); (case vq516 => exact rfl); (case hsq516 => with_unfolding_all rfl)))
  k_with "subscriptTail Name" => (guard_hyp mk45; (k_here; (with_reducible show wpAny _ _ (subscriptTail _ _ (Value.ref _) (Value.int _ _)) _ _ _); (k_dflt (refine' fast_tup ?Nq517 ?mq517 ?zq517 ?vq517 ?_ ?hsq517)); (case Nq517 => k_asm); (case mq517 => k_extra "my deep"); (case zq517 => decide); (case vq517 => exact rfl); (case hsq517 => with_unfolding_all rfl)))
  k_with "subscriptTail Name Name" => (guard_hyp mk45; (k_here; (with_reducible show wpAny _ _ (subscriptTail _ _ (Value.ref _) (Value.int _ _)) _ _ _); (k_dflt (refine' fast_list ?Nq518 ?mq518 ?zq518 ?vq518 ?_ ?hsq518)); (case Nq518 => k_asm); (case mq518 => k_extra "my deep"); (case zq518 => decide); (case vq518 => exact rfl); (case hsq518 => with_unfolding_all rfl)))
  k_with "subscriptTail Name Name" => (guard_hyp mk45; (k_here; (with_reducible show wpAny _ _ (subscriptTail _ _ (Value.ref _) (Value.int _ _)) _ _ _); (k_dflt (refine' fast_tup ?Nq519 ?mq519 ?zq519 ?vq519 ?_ ?hsq519)); (case Nq519 => k_asm); (case mq519 => k_extra "my deep"); (case zq519 => decide); (case vq519 => exact rfl); (case hsq519 => with_unfolding_all rfl)))
  k_with "subscriptTail Name Constant" => (guard_hyp mk45; (k_here; (with_reducible show wpAny _ _ (subscriptTail _ _ (Value.ref _) (Value.int _ _)) _ _ _); (k_dflt (refine' fast_list ?Nq520 ?mq520 ?zq520 ?vq520 ?_ ?hsq520)); (case Nq520 => k_asm); (case mq520 => k_extra "my deep"); (case zq520 => decide); (case vq520 => exact rfl); (case hsq520 => with_unfolding_all rfl)))
  k_with "subscriptTail Name Constant" => (guard_hyp mk45; (k_here; (with_reducible show wpAny _ _ (subscriptTail _ _ (Value.ref _) (Value.int _ _)) _ _ _); (k_dflt (refine' fast_tup ?Nq521 ?mq521 ?zq521 ?vq521 ?_ ?hsq521)); (case Nq521 => k_asm); (case mq521 => k_extra "my deep"); (case zq521 => decide); (case vq521 => exact rfl); (case hsq521 => with_unfolding_all rfl)))
  k_with "subscriptTail Name Constant ref int" => (guard_hyp mk45; (k_here; (with_reducible show wpAny _ _ (subscriptTail _ _ (Value.ref _) (Value.int _ _)) _ _ _); (k_dflt (refine' fast_list ?Nq522 ?mq522 ?zq522 ?vq522 ?_ ?hsq522)); (case Nq522 => k_asm); (case mq522 => k_extra "my deep"); (case zq522 => decide); (case vq522 => exact rfl); (case hsq522 => with_unfolding_all rfl)))
  k_with "subscriptTail Name Constant ref int" => (guard_hyp mk45; (k_here; (with_reducible show wpAny _ _ (subscriptTail _ _ (Value.ref _) (Value.int _ _)) _ _ _); (k_dflt (refine' fast_tup ?Nq523 ?mq523 ?zq523 ?vq523 ?_ ?hsq523)); (case Nq523 => k_asm); (case mq523 => k_extra "my deep"); (case zq523 => decide); (case vq523 => exact rfl); (case hsq523 => with_unfolding_all rfl)))
  k_with "exec For Name Call cons nil" => (guard_hyp mk45; (k_here; (rename Fr _ _ _ _ => lF'); (with_unfolding_all refine' For_invVF lF' ?k1q524 ?k2q524 ?_; (case k1q524 => exact rfl); (case k2q524 => exact rfl); k_whole)))
  k_with "pyIter ref" => (guard_hyp mk45; ((with_reducible show wpAny _ _ (pyIter (Value.ref _)) (fun it s₂ => LoopAtV _ _ _ _ _ _ _ _ _ it s₂) _ _); k_rangeUnr))
  k_with "CompEnd" => (guard_hyp mk45; (k_dflt (refine' comp_end ?Fq526 ?Nq526 ?oq526 ?sq526 ?_; (case Fq526 => k_asm); (case Nq526 => k_asm); (case oq526 => assumption); (case sq526 => exact Or.inr ⟨_, by k_mem, rfl, _, rfl⟩))))
  k_with "compareOp Eq ref ref" => (guard_hyp mk45; (k_here; (with_reducible show wpAny _ _ (compareOp _ (Value.ref _) (Value.ref _)) _ _ _); k_dflt (refine' bools_eq ?Nq527 ?Hq527 ?H2q527 ?huq527 ?_; (case Nq527 => k_asm); (case Hq527 => k_mem); (case H2q527 => k_mem); (case huq527 => k_extra "my room"))))
  k_with "my ups" => (guard_hyp mk45; (intro p hp; k_extra "my deep"))
  k_with "compareOp NotEq ref ref" => (guard_hyp mk45; (k_here; (with_reducible show wpAny _ _ (compareOp _ (Value.ref _) (Value.ref _)) _ _ _); k_dflt (refine' told_ne ?Nq529 ?Hq529 ?H2q529 ?subq529 ?sub2q529 ?huq529 ?_; (case Nq529 => k_asm); (case Hq529 => assumption); (case H2q529 => assumption); (case subq529 => k_extra "my ups"); (case sub2q529 => k_extra "my ups"); (case huq529 => k_extra "my room"))))
  k_with "compareOp NotEq ref ref" => (guard_hyp mk45; (k_here; (with_reducible show wpAny _ _ (compareOp _ (Value.ref _) (Value.ref _)) _ _ _); k_dflt (refine' row_neS2 ?Nq530 ?Hq530 ?H2q530 ?H3q530 ?H4q530 ?huq530 ?_; (case Nq530 => k_asm); (case Hq530 => k_extra "my deep"); (case H2q530 => k_extra "my deep"); (case H3q530 => k_extra "my deep"); (case H4q530 => k_extra "my deep"); (case huq530 => k_extra "my room"))))
  k_with "compareOp NotEq ref ref" => (guard_hyp mk45; (k_here; (with_reducible show wpAny _ _ (compareOp _ (Value.ref _) (Value.ref _)) _ _ _); k_dflt (refine' row_neF2 ?Nq531 ?Hq531 ?H2q531 ?huq531 ?_; (case Nq531 => k_asm); (case Hq531 => k_extra "my deep"); (case H2q531 => k_extra "my deep"); (case huq531 => k_extra "my room"))))
  k_with "eval Name" => (guard_hyp mk45; (k_here; (with_reducible show wpAny _ _ (eval (PySem.Expr.Name (Str.ofString "now") _) (envX _ _ _ _ _ _)) _ _ _); k_dflt (refine' nameX_C ?Nq532 ?hcq532 ?hmq532 ?hdq532 ?_; (case Nq532 => k_asm); (case hcq532 => exact rfl); (case hmq532 => k_mem); (case hdq532 => assumption))))
  k_with "exec For Name Name cons nil" => (guard_hyp mk45; (k_here; (rename Fr _ _ _ _ => lF'); (with_unfolding_all refine' For_invVF lF' ?k1q533 ?k2q533 ?_; (case k1q533 => exact rfl); (case k2q533 => exact rfl); k_whole)))
  k_with "pyIter ref" => (guard_hyp mk45; ((with_reducible show wpAny _ _ (pyIter (Value.ref _)) (fun it s₂ => LoopAtV _ _ _ _ _ _ _ _ _ it s₂) _ _); (rename Fr _ _ _ _ => lF'); (with_unfolding_all refine' iter_listUnr (lo := W.listOf #[.ref _, .ref _, .ref _] _) (vs := [_, _, _]) ?hhq534 lF' ?Nq534 ?mq534 ?hcq534 ?hdq534 ?_; (case hhq534 => exact rfl); (case Nq534 => k_asm); (case mq534 => k_extra "my deep"); (case hcq534 => exact rfl); (case hdq534 => exact rfl)); clear lF'; intro i' l1; (try k_lt l1)))
  k_with "pyIter ref" => (guard_hyp mk45; ((with_reducible show wpAny _ _ (pyIter (Value.ref _)) (fun it s₂ => LoopAtV _ _ _ _ _ _ _ _ _ it s₂) _ _); (rename Fr _ _ _ _ => lF'); (with_unfolding_all refine' iter_listUnr (lo := W.listOf #[.ref _, .ref _] _) (vs := [_, _]) ?hhq535 lF' ?Nq535 ?mq535 ?hcq535 ?hdq535 ?_; (case hhq535 => exact rfl); (case Nq535 => k_asm); (case mq535 => k_extra "my deep"); (case hcq535 => exact rfl); (case hdq535 => exact rfl)); clear lF'; intro i' l1; (try k_lt l1)))
  k_with "call ref" => (guard_hyp mk45; (k_here; (with_reducible show wpAny _ _ (call (Value.ref 220) _ _) _ _ _); (k_dflt (show wpAny _ _ (call (Value.ref 220) [_, _, _, _] []) _ _ _)); k_dflt (refine' callX2 (fhit' ?hvq536 ?hbbq536 ?X0q536 ?Sq536 ?hbq536 ?HLq536 ?HIq536 ?HNq536 ?h0q536) ?Bq536 ?Fq536 ?Xq536 ?Nq536 ?Tq536 ?a1q536 ?a2q536 rfl rfl rfl rfl ?hdq536 ?huq536 ?_; (case X0q536 => assumption); (case Sq536 => assumption); (case hbq536 => omega); (case HLq536 => first | exact LawI.H0 (by assumption) | exact LawI.H1 (by assumption) | exact LawI.H2 (by assumption)); (case HIq536 => exact LawI.HI (by assumption)); (case HNq536 => first | exact And.left (LawI.hNN (by assumption)) | exact And.right (LawI.hNN (by assumption))); (case h0q536 => assumption); (case hvq536 => assumption); (case hbbq536 => assumption); (case Nq536 => k_asm); (case a1q536 => k_extra "my off"); (case a2q536 => k_extra "my off"); (case Bq536 => k_asm); (case Fq536 => k_asm); (case Xq536 => k_asm); (case Tq536 => k_asm); (case hdq536 => k_extra "my room"); (case huq536 => k_extra "my room"); refine' after_i2 ?Izq536 ?_; (case Izq536 => assumption); intro h' tk' L2' r' F' N' ap1' ap2' S' I'); (try k_sweep)))
  k_with "call ref" => (guard_hyp mk45; (k_here; (with_reducible show wpAny _ _ (call (Value.ref 181) _ _) _ _ _); (k_dflt (show wpAny _ _ (call (Value.ref 181) [_, _, _, _] []) _ _ _)); k_dflt (refine' callN2 (mhit' ?hvq537 ?hbbq537 ?X0q537 ?Sq537 ?hbq537 ?HLq537 ?HIq537 ?HNq537 ?h1q537 ?h2q537 ?hlenq537) ?Bq537 ?Fq537 ?Xq537 ?Nq537 ?Tq537 ?a1q537 ?a2q537 rfl rfl rfl rfl ?hdq537 ?huq537 ?_; (case X0q537 => assumption); (case Sq537 => assumption); (case hbq537 => omega); (case HLq537 => first | exact LawI.H0 (by assumption) | exact LawI.H1 (by assumption) | exact LawI.H2 (by assumption)); (case HIq537 => exact LawI.HI (by assumption)); (case HNq537 => first | exact And.left (LawI.hNN (by assumption)) | exact And.right (LawI.hNN (by assumption))); (case h1q537 => omega); (case h2q537 => assumption); (case hlenq537 => assumption); (case hvq537 => assumption); (case hbbq537 => assumption); (case Nq537 => k_asm); (case a1q537 => k_extra "my off"); (case a2q537 => k_extra "my off"); (case Bq537 => k_asm); (case Fq537 => k_asm); (case Xq537 => k_asm); (case Tq537 => k_asm); (case hdq537 => k_extra "my room"); (case huq537 => k_extra "my room"); refine' after_i2 ?Izq537 ?_; (case Izq537 => assumption); intro h' tk' L2' r' F' N' ap1' ap2' S' I'); (try k_sweep)))
  k_with "call ref" => (guard_hyp mk45; (k_here; (with_reducible show wpAny _ _ (call (Value.ref 266) _ _) _ _ _); (k_dflt (show wpAny _ _ (call (Value.ref 266) [_, _, _, _] []) _ _ _)); k_dflt (refine' callX2 (shit' ?hvq538 ?hbbq538 ?X0q538 ?Sq538 ?hbq538 ?HLq538 ?HIq538 ?HNq538 ?hlenq538 ?h1q538 ?h2q538) ?Bq538 ?Fq538 ?Xq538 ?Nq538 ?Tq538 ?a1q538 ?a2q538 rfl rfl rfl rfl ?hdq538 ?huq538 ?_; (case X0q538 => assumption); (case Sq538 => assumption); (case hbq538 => omega); (case HLq538 => first | exact LawI.H0 (by assumption) | exact LawI.H1 (by assumption) | exact LawI.H2 (by assumption)); (case HIq538 => exact LawI.HI (by assumption)); (case HNq538 => first | exact And.left (LawI.hNN (by assumption)) | exact And.right (LawI.hNN (by assumption))); (case hlenq538 => assumption); (case h1q538 => assumption); (case h2q538 => assumption); (case hvq538 => assumption); (case hbbq538 => assumption); (case Nq538 => k_asm); (case a1q538 => k_extra "my off"); (case a2q538 => k_extra "my off"); (case Bq538 => k_asm); (case Fq538 => k_asm); (case Xq538 => k_asm); (case Tq538 => k_asm); (case hdq538 => k_extra "my room"); (case huq538 => k_extra "my room"); refine' after_i2 ?Izq538 ?_; (case Izq538 => assumption); intro h' tk' L2' r' F' N' ap1' ap2' S' I'); (try k_sweep)))
  k_with "execs cons If cons" => (guard_hyp mk45; (k_here; (with_reducible show wpAny _ _ (execs (Stmt.If (PySem.Expr.Compare (PySem.Expr.BinOp _ _ _ _) _ _ _) _ _ _ :: _) _) _ _ _); (k_dflt (refine' BodyAt.use ?hAq539 ?hgq539 (c_lawB2x ?hs0q539 ?Bq539 ?Xq539 ?Tq539 ?X0q539 ?Sq539 ?Fq539 ?Nq539 ?m1q539 ?m2q539 ?m3q539 ?m4q539 ?m5q539 ?hlmq539 ?hnmq539 ?H0q539 ?H1q539 ?H2q539 ?HIq539 ?hNNq539 ?lenAq539 ?lenBq539 ?h692q539 ?hcnq539 ?honq539 ?hamq539 ?ham8q539 ?hbq539 ?n02q539 ?n12q539 ?hCq539); (case hAq539 => assumption); (case hgq539 => exact fun h => h); (case hs0q539 => exact ⟨_, _, rfl⟩); (case Bq539 => k_asm); (case Xq539 => k_asm); (case Tq539 => k_asm); (case X0q539 => assumption); (case Sq539 => assumption); (case Fq539 => k_asm); (case Nq539 => k_asm); (case m1q539 => k_extra "my nm"); (case m2q539 => k_extra "my nm"); (case m3q539 => k_extra "my nm"); (case m4q539 => k_extra "my nm"); (case m5q539 => k_extra "my nm"); (case hlmq539 => exact LawI.hlm (by assumption)); (case hnmq539 => exact LawI.hnm (by assumption)); (case H0q539 => exact LawI.H0 (by assumption)); (case H1q539 => exact LawI.H1 (by assumption)); (case H2q539 => exact LawI.H2 (by assumption)); (case HIq539 => exact LawI.HI (by assumption)); (case hNNq539 => exact LawI.hNN (by assumption)); (case lenAq539 => assumption); (case lenBq539 => assumption); (case h692q539 => exact LawI.h692 (by assumption)); (case hcnq539 => assumption); (case honq539 => assumption); (case hamq539 => assumption); (case ham8q539 => assumption); (case hbq539 => omega); (case n02q539 => assumption); (case n12q539 => assumption); (case hCq539 => assumption)))))
  exact True.intro
theorem c_lawB1 {fa : Addr} {x : CX} {c : Cf} {v0 v1 v2 v3 v4 v5 v6 v7 v8 : Vw} {b : Nat} {Ls rest : Led} {g : Heap} {s0 s : Shared} {L lims l0 l1 l2 it nms tA tB : Addr} {k0 k1 : Nat} {m : Str → Option Value} {n am : Int} {tn : Tok} {kA kB : Str} {p9 : Array Value} (hs0 : Same s0 s) (B : Below callerA g [] g) (X : Frag.In (Mine.hd.heap_1 x.w.params) g) (T : Top x.p x.loose x.mean x.mg x.mb g) (X0 : Fixed x c) (S : StV x c v0 b Ls rest) (F : Fr g L s.heap m) (N : News g L s.heap Ls)
    (hm1 : m (Str.ofString "limiters") = some (.ref lims)) (hm2 : m (Str.ofString "item") = some (.ref it)) (hm3 : m (Str.ofString "names") = some (.ref nms)) (hm4 : m (Str.ofString "n") = some (.int n tn)) (hm5 : m (Str.ofString "store") = some (.ref c.st))
    (hlm : LL rest lims l0 l1 l2 k0) (hnm : (nms, W.listOf #[.ref tA, .ref tB] k1) ∈ rest) (H0 : LimAt rest 241 l0 c.st) (H1 : LimAt rest 202 l1 c.st) (H2 : LimAt rest 296 l2 c.st) (HI : ItemAt rest it am) (hNN : NN x rest it tA tB kA kB)
    (lenA : kA.length ≤ 100) (lenB : kB.length ≤ 100) (h692 : (692, tabObj p9) ∈ rest) (hcn : c.cn = L + 1) (hon : c.on.data = .cell (some (.ref c.ln))) (ham : 2 ≤ am) (ham8 : am ≤ 8) (hb : b ≤ 100)
    (e0f : v0.incr kA 10 am = v1) (e1f : decide (v0.n kA + am ≤ am) = true) (e2f : v1.incr kA 10 1 = v2) (e3f : decide (v1.n kA + 1 ≤ am) = false) (e4f : v2.incr kB 10 am = v3) (e5f : decide (v2.n kB + am ≤ am) = true) (e6f : v3.incr kB 10 1 = v4) (e7f : decide (v3.n kB + 1 ≤ am) = false) (e8m : v4.acq kA am am = v5) (e9m : v4.acqB kA am am = true) (e10m : (v4.m kA).length ≤ 900) (e11m : v5.acq kA am 1 = v5) (e12m : v5.acqB kA am 1 = false) (e13m : (v5.m kA).length ≤ 900) (e14m : v5.acq kB am am = v6) (e15m : v5.acqB kB am am = true) (e16m : (v5.m kB).length ≤ 900) (e17m : v6.acq kB am 1 = v6) (e18m : v6.acqB kB am 1 = false) (e19m : (v6.m kB).length ≤ 900) (e20s : v6.acqS kA am am = v7) (e21s : v6.acqSB kA am am = true) (e22s : v7.acqS kA am 1 = v7) (e23s : v7.acqSB kA am 1 = false) (e24s : v7.acqS kB am am = v8) (e25s : v7.acqSB kB am am = true) (e26s : v8.acqS kB am 1 = v8) (e27s : v8.acqSB kB am 1 = false) (z0 : 0 ≤ v0.now) (y0 : 1000 ≤ v0.now) (x0 : v0.now < 3000) (z1 : 0 ≤ v1.now) (y1 : 1000 ≤ v1.now) (x1 : v1.now < 3000) (z2 : 0 ≤ v2.now) (y2 : 1000 ≤ v2.now) (x2 : v2.now < 3000) (z3 : 0 ≤ v3.now) (y3 : 1000 ≤ v3.now) (x3 : v3.now < 3000) (z4 : 0 ≤ v4.now) (y4 : 1000 ≤ v4.now) (x4 : v4.now < 3000) (z5 : 0 ≤ v5.now) (y5 : 1000 ≤ v5.now) (x5 : v5.now < 3000) (z6 : 0 ≤ v6.now) (y6 : 1000 ≤ v6.now) (x6 : v6.now < 3000) (z7 : 0 ≤ v7.now) (y7 : 1000 ≤ v7.now) (x7 : v7.now < 3000) (z8 : 0 ≤ v8.now) (y8 : 1000 ≤ v8.now) (x8 : v8.now < 3000) (n02 : l0 ≠ l2) (n12 : l1 ≠ l2) (hC : Ch2 v8 kA kB am) :
    Body x 695 6 (LawG x fa g L s0 s) := by
  have mk45 := True.intro
  have I0 : LawI x c lims l0 l1 l2 it nms tA tB k0 k1 am kA kB p9 rest := ⟨hlm, hnm, H0, H1, H2, HI, hNN, h692⟩
  clear hlm hnm H0 H1 H2 HI hNN h692
  obtain ⟨hz, tz, rfl⟩ := hs0
  dsimp only at F N
  unfold Body LawG
  k_fill
  refine' Body.mk2 (W := LawG x fa g L s0 { s0 with heap := hz, toks := tz }) (k := 6) ?ho ?_
  case ho => k_is
  intro hBody
  dsimp only [List.drop, LawG]
  k_steps
end
section
-- c_lawB
theorem c_lawB {v8 : Vw} {fa : Addr} {x : CX} {c : Cf} {v0 : Vw} {b : Nat} {Ls rest : Led} {g : Heap} {s0 s : Shared} {L lims l0 l1 l2 it nms tA tB : Addr} {k0 k1 : Nat} {m : Str → Option Value} {n am : Int} {tn : Tok} {kA kB : Str} {p9 : Array Value} (hs0 : Same s0 s) (B : Below callerA g [] g) (X : Frag.In (Mine.hd.heap_1 x.w.params) g) (T : Top x.p x.loose x.mean x.mg x.mb g) (X0 : Fixed x c) (S : StV x c v0 b Ls rest) (F : Fr g L s.heap m) (N : News g L s.heap Ls)
    (hm1 : m (Str.ofString "limiters") = some (.ref lims)) (hm2 : m (Str.ofString "item") = some (.ref it)) (hm3 : m (Str.ofString "names") = some (.ref nms)) (hm4 : m (Str.ofString "n") = some (.int n tn)) (hm5 : m (Str.ofString "store") = some (.ref c.st))
    (hlm : LL rest lims l0 l1 l2 k0) (hnm : (nms, W.listOf #[.ref tA, .ref tB] k1) ∈ rest) (H0 : LimAt rest 241 l0 c.st) (H1 : LimAt rest 202 l1 c.st) (H2 : LimAt rest 296 l2 c.st) (HI : ItemAt rest it am) (hNN : NN x rest it tA tB kA kB)
    (lenA : kA.length ≤ 100) (lenB : kB.length ≤ 100) (h692 : (692, tabObj p9) ∈ rest) (hcn : c.cn = L + 1) (hon : c.on.data = .cell (some (.ref c.ln))) (ham : 2 ≤ am) (ham8 : am ≤ 8) (hb : b ≤ 100) (n02 : l0 ≠ l2) (n12 : l1 ≠ l2) (hC : Ch1 v0 v8 kA kB am) (hC2 : Ch2 v8 kA kB am) :
    Body x 695 6 (LawG x fa g L s0 s) := by
  obtain ⟨v1, v2, v3, v4, v5, v6, v7, hQ⟩ := hC
  exact c_lawB1 hs0 B X T X0 S F N hm1 hm2 hm3 hm4 hm5 hlm hnm H0 H1 H2 HI hNN lenA lenB h692 hcn hon ham ham8 hb hQ.1 hQ.2.1 hQ.2.2.1 hQ.2.2.2.1 hQ.2.2.2.2.1 hQ.2.2.2.2.2.1 hQ.2.2.2.2.2.2.1 hQ.2.2.2.2.2.2.2.1 hQ.2.2.2.2.2.2.2.2.1 hQ.2.2.2.2.2.2.2.2.2.1 hQ.2.2.2.2.2.2.2.2.2.2.1 hQ.2.2.2.2.2.2.2.2.2.2.2.1 hQ.2.2.2.2.2.2.2.2.2.2.2.2.1 hQ.2.2.2.2.2.2.2.2.2.2.2.2.2.1 hQ.2.2.2.2.2.2.2.2.2.2.2.2.2.2.1 hQ.2.2.2.2.2.2.2.2.2.2.2.2.2.2.2.1 hQ.2.2.2.2.2.2.2.2.2.2.2.2.2.2.2.2.1 hQ.2.2.2.2.2.2.2.2.2.2.2.2.2.2.2.2.2.1 hQ.2.2.2.2.2.2.2.2.2.2.2.2.2.2.2.2.2.2.1 hQ.2.2.2.2.2.2.2.2.2.2.2.2.2.2.2.2.2.2.2.1 hQ.2.2.2.2.2.2.2.2.2.2.2.2.2.2.2.2.2.2.2.2.1 hQ.2.2.2.2.2.2.2.2.2.2.2.2.2.2.2.2.2.2.2.2.2.1 hQ.2.2.2.2.2.2.2.2.2.2.2.2.2.2.2.2.2.2.2.2.2.2.1 hQ.2.2.2.2.2.2.2.2.2.2.2.2.2.2.2.2.2.2.2.2.2.2.2.1 hQ.2.2.2.2.2.2.2.2.2.2.2.2.2.2.2.2.2.2.2.2.2.2.2.2.1 hQ.2.2.2.2.2.2.2.2.2.2.2.2.2.2.2.2.2.2.2.2.2.2.2.2.2.1 hQ.2.2.2.2.2.2.2.2.2.2.2.2.2.2.2.2.2.2.2.2.2.2.2.2.2.2.1 hQ.2.2.2.2.2.2.2.2.2.2.2.2.2.2.2.2.2.2.2.2.2.2.2.2.2.2.2.1 hQ.2.2.2.2.2.2.2.2.2.2.2.2.2.2.2.2.2.2.2.2.2.2.2.2.2.2.2.2.1 hQ.2.2.2.2.2.2.2.2.2.2.2.2.2.2.2.2.2.2.2.2.2.2.2.2.2.2.2.2.2.1 hQ.2.2.2.2.2.2.2.2.2.2.2.2.2.2.2.2.2.2.2.2.2.2.2.2.2.2.2.2.2.2.1 hQ.2.2.2.2.2.2.2.2.2.2.2.2.2.2.2.2.2.2.2.2.2.2.2.2.2.2.2.2.2.2.2.1 hQ.2.2.2.2.2.2.2.2.2.2.2.2.2.2.2.2.2.2.2.2.2.2.2.2.2.2.2.2.2.2.2.2.1 hQ.2.2.2.2.2.2.2.2.2.2.2.2.2.2.2.2.2.2.2.2.2.2.2.2.2.2.2.2.2.2.2.2.2.1 hQ.2.2.2.2.2.2.2.2.2.2.2.2.2.2.2.2.2.2.2.2.2.2.2.2.2.2.2.2.2.2.2.2.2.2.1 hQ.2.2.2.2.2.2.2.2.2.2.2.2.2.2.2.2.2.2.2.2.2.2.2.2.2.2.2.2.2.2.2.2.2.2.2.1 hQ.2.2.2.2.2.2.2.2.2.2.2.2.2.2.2.2.2.2.2.2.2.2.2.2.2.2.2.2.2.2.2.2.2.2.2.2.1 hQ.2.2.2.2.2.2.2.2.2.2.2.2.2.2.2.2.2.2.2.2.2.2.2.2.2.2.2.2.2.2.2.2.2.2.2.2.2.1 hQ.2.2.2.2.2.2.2.2.2.2.2.2.2.2.2.2.2.2.2.2.2.2.2.2.2.2.2.2.2.2.2.2.2.2.2.2.2.2.1 hQ.2.2.2.2.2.2.2.2.2.2.2.2.2.2.2.2.2.2.2.2.2.2.2.2.2.2.2.2.2.2.2.2.2.2.2.2.2.2.2.1 hQ.2.2.2.2.2.2.2.2.2.2.2.2.2.2.2.2.2.2.2.2.2.2.2.2.2.2.2.2.2.2.2.2.2.2.2.2.2.2.2.2.1 hQ.2.2.2.2.2.2.2.2.2.2.2.2.2.2.2.2.2.2.2.2.2.2.2.2.2.2.2.2.2.2.2.2.2.2.2.2.2.2.2.2.2.1 hQ.2.2.2.2.2.2.2.2.2.2.2.2.2.2.2.2.2.2.2.2.2.2.2.2.2.2.2.2.2.2.2.2.2.2.2.2.2.2.2.2.2.2.1 hQ.2.2.2.2.2.2.2.2.2.2.2.2.2.2.2.2.2.2.2.2.2.2.2.2.2.2.2.2.2.2.2.2.2.2.2.2.2.2.2.2.2.2.2.1 hQ.2.2.2.2.2.2.2.2.2.2.2.2.2.2.2.2.2.2.2.2.2.2.2.2.2.2.2.2.2.2.2.2.2.2.2.2.2.2.2.2.2.2.2.2.1 hQ.2.2.2.2.2.2.2.2.2.2.2.2.2.2.2.2.2.2.2.2.2.2.2.2.2.2.2.2.2.2.2.2.2.2.2.2.2.2.2.2.2.2.2.2.2.1 hQ.2.2.2.2.2.2.2.2.2.2.2.2.2.2.2.2.2.2.2.2.2.2.2.2.2.2.2.2.2.2.2.2.2.2.2.2.2.2.2.2.2.2.2.2.2.2.1 hQ.2.2.2.2.2.2.2.2.2.2.2.2.2.2.2.2.2.2.2.2.2.2.2.2.2.2.2.2.2.2.2.2.2.2.2.2.2.2.2.2.2.2.2.2.2.2.2.1 hQ.2.2.2.2.2.2.2.2.2.2.2.2.2.2.2.2.2.2.2.2.2.2.2.2.2.2.2.2.2.2.2.2.2.2.2.2.2.2.2.2.2.2.2.2.2.2.2.2.1 hQ.2.2.2.2.2.2.2.2.2.2.2.2.2.2.2.2.2.2.2.2.2.2.2.2.2.2.2.2.2.2.2.2.2.2.2.2.2.2.2.2.2.2.2.2.2.2.2.2.2.1 hQ.2.2.2.2.2.2.2.2.2.2.2.2.2.2.2.2.2.2.2.2.2.2.2.2.2.2.2.2.2.2.2.2.2.2.2.2.2.2.2.2.2.2.2.2.2.2.2.2.2.2.1 hQ.2.2.2.2.2.2.2.2.2.2.2.2.2.2.2.2.2.2.2.2.2.2.2.2.2.2.2.2.2.2.2.2.2.2.2.2.2.2.2.2.2.2.2.2.2.2.2.2.2.2.2.1 hQ.2.2.2.2.2.2.2.2.2.2.2.2.2.2.2.2.2.2.2.2.2.2.2.2.2.2.2.2.2.2.2.2.2.2.2.2.2.2.2.2.2.2.2.2.2.2.2.2.2.2.2.2.1 hQ.2.2.2.2.2.2.2.2.2.2.2.2.2.2.2.2.2.2.2.2.2.2.2.2.2.2.2.2.2.2.2.2.2.2.2.2.2.2.2.2.2.2.2.2.2.2.2.2.2.2.2.2.2.1 hQ.2.2.2.2.2.2.2.2.2.2.2.2.2.2.2.2.2.2.2.2.2.2.2.2.2.2.2.2.2.2.2.2.2.2.2.2.2.2.2.2.2.2.2.2.2.2.2.2.2.2.2.2.2.2 n02 n12 hC2
end
section
open PyProof.Rows.LCg
-- TupC
def TupAt (ax : Addr) (its : Array Value) (news : List (Addr × Obj)) : Prop := False ∨ ∃ o, (ax, o) ∈ news ∧ o.cls = .type "tuple" ∧ ∃ n, o.data = .seq its n
theorem TupAt.tup {h₀ h : Heap} {L ax : Addr} {its : Array Value} {news : List (Addr × Obj)} (x : TupAt ax its news) (N : News h₀ L h news) : h.IsTuple ax its := by
  rcases x with h | ⟨o, hm, r⟩
  · exact h.elim
  · exact ⟨o, (N _ hm).1, r⟩
section
variable {prog : Program} {w : World} {A : Around} {E : Value → Shared → Prop} {s : Shared} {h₀ : Heap} {L : Addr} {m : Str → Option Value} {env : Env}
theorem tup_st {ax I : Addr} {its : Array Value} : ∀ i (h h' : Heap) (o : Obj) (nw : List (Addr × Obj)), (h.IsTupleIter I ax i ∧ h.IsTuple ax its) → h.get? I = some o → h'.get? I = some o → (∀ b o, h₀.get? b = some o → h'.get? b = some o) → News h₀ L h' nw → TupAt ax its nw → (h'.IsTupleIter I ax i ∧ h'.IsTuple ax its) :=
  fun i h h' o nw st e e' k N S => ⟨by obtain ⟨o', q, r⟩ := st.1; rw [e] at q; cases q; exact ⟨o, e', r⟩, S.tup N⟩
def SrcT (prog : Program) (w : World) (A : Around) (h₀ : Heap) (L : Addr) (m : Str → Option Value) (env : Env) (elt : PySem.Expr) (x : Str) (scope : Scope) (cl : List (Str × Addr)) (Fin : Shared → List Value → List (Addr × Obj) → Prop) (xv : Value) (s₁ : Shared) : Prop :=
  ∃ ax its news, xv = .ref ax ∧ A.handled = none ∧ Fr h₀ L s₁.heap m ∧ News h₀ L s₁.heap news ∧ TupAt ax its news ∧ its.size ≤ sizeLine ∧
    ∀ s₂ : Shared, (∃ h, s₂ = { s₁ with heap := h }) → CompRest prog w A h₀ L m env elt x scope cl s₂ (TupAt ax its) (fun i v => its[i]? = some v) (Fin s₂) its.size 0 [] news
theorem SrcT.ledger {elt : PySem.Expr} {x : Str} {scope : Scope} {cl : List (Str × Addr)} {Fin : Shared → List Value → List (Addr × Obj) → Prop} {ax : Addr} {its : Array Value} {k : Nat} {news : List (Addr × Obj)} {s₁ : Shared}
    (hh : A.handled = none) (F : Fr h₀ L s₁.heap m) (N : News h₀ L s₁.heap news) (hm : (ax, ({ cls := .type "tuple", data := .seq its k } : Obj)) ∈ news) (hsz : its.size ≤ sizeLine)
    (h : ∀ g, CompRest prog w A h₀ L m env elt x scope cl { s₁ with heap := g } (TupAt ax its) (fun i v => its[i]? = some v) (Fin { s₁ with heap := g }) its.size 0 [] news) :
    SrcT prog w A h₀ L m env elt x scope cl Fin (.ref ax) s₁ := ⟨ax, its, news, rfl, hh, F, N, .inr ⟨_, hm, rfl, _, rfl⟩, hsz, fun _ ⟨g, e⟩ => e ▸ h g⟩
theorem ListComp_T {elt iter : PySem.Expr} {x : Str} {px : Pos} {scope : Scope} {cl : List (Str × Addr)} {pos : Pos} {Q : Value → Shared → Prop} (F₀ : Fr h₀ L s.heap m)
    (hclos : closureFor scope env = pure cl) (hcell : ∀ y ∈ scope.names, y.2 ≠ .cell) (hkind : scope.kind = .function)
    (hnames : ∀ y ∈ scope.names, y.2 = .local → scope.names.lookup y.1 = some .local) (hx : scope.names.lookup x = some .local)
    (h : wpAny (model prog w) A (eval iter env) (SrcT prog w A h₀ L m env elt x scope cl (fun s₂ => FinE h₀ L m s₂ Q)) E s)
    (hs : ∀ x, foldedSetIterable iter env x = pure x := by intro _; rfl) :
    wpAny (model prog w) A (eval (.ListComp elt [⟨.Name x px, iter, [], 0⟩] scope pos) env) Q E s := by
  rw [eval_ListComp]
  refine wpAny_comprehension_free (use := none) rfl hs hclos hkind hnames (wpAny_mono h (fun xv s₁ h₁ => ?_) fun _ _ e => e)
  obtain ⟨ax, its, news, rfl, hh, F, N, S, hsz, R⟩ := h₁
  have hl := S.tup N
  have hlt : ax < s₁.heap.objs.size := by obtain ⟨_, e, _⟩ := hl; exact Heap.lt_size e
  refine wpAny_pyIter_tuple hl ?_
  have up : ∀ b o, s₁.heap.get? b = some o → (s₁.heap.push { cls := .type "tuple_iterator", data := .fields #[.ref ax, .int 0 0] }).get? b = some o := fun b o e => Heap.get?_push_of_some _ e
  refine block_U (Walks.tuple hh s₁.heap.objs.size ax (Nat.ne_of_lt hlt) its) hsz (fun i h st => by obtain ⟨o, e, _⟩ := st.1; exact ⟨o, e⟩) tup_st hcell hkind hx ⟨⟨_, Heap.get?_push_size _ rfl, rfl, rfl⟩, hl.push _⟩ (fun b hb => ?_)
    (F.keeps up) (N.grown up) (Nat.ne_of_lt F.ns.lt) (next_is_new F) (fun p hp => Nat.ne_of_lt (Heap.lt_size (N p hp).1)) S (R _ ⟨_, rfl⟩) ?_
  · show b < (s₁.heap.push _).objs.size
    rw [Heap.size_push]
    rcases List.mem_cons.mp hb with rfl | hb
    · exact Nat.lt_succ_self _
    · rw [List.mem_singleton.mp hb]; exact Nat.lt_succ_of_lt hlt
  · intro D C h tk m' ys news' F' N' o1 hn hC₀ hD₀ hCL hDL hCD offC fin
    refine ⟨m', hn, fun h'' hs'' => fin D h'' tk (F'.change hs'' hCL hC₀) (fun p hp => ?_) o1⟩
    refine ⟨hs''.extBut _ _ ?_ (N' p hp).1, (N' p hp).2⟩
    rcases List.mem_cons.mp hp with rfl | hp
    · exact Ne.symm hCD
    · exact offC p hp
end
end
section
-- c_tgname
theorem lines_c_tgname : True := by
  k_with "my inst" => (guard_hyp mk46; first | (refine' inst_N_c_tgname ?Nq540 ?mq540 ?m2q540; (case Nq540 => k_asm); (case mq540 => k_mem); (case m2q540 => k_mem)) | (refine' inst_K1_c_tgname ?Xq540 ?eq540 ?dq540; (case Xq540 => k_in); (case eq540 => k_is); (case dq540 => k_is)))
  k_with "getMethod type:tuple" => (guard_hyp mk46; (k_here; k_dflt (refine' method_type ?Fq541 ?Xq541 ?tq541 ?sq541 ?eq541 ?hq541 ?_; (case Fq541 => k_asm); (case Xq541 => k_asm); (case tq541 => kernel_rfl); (case sq541 => decide +kernel); (case eq541 => k_is); (case hq541 => k_handed))))
  k_with "call type:type" => (guard_hyp mk46; (k_here; k_dflt (refine' kto_own (C := _) ?Iq542 ?_; (case Iq542 => k_extra "my inst"))))
  k_with "call builtin:issubclass" => (guard_hyp mk46; (k_here; k_dflt (refine' issub_tup ?Xq543 ?tq543 ?iq543 ?_; (case Xq543 => k_in); (case tq543 => k_is); (case iq543 => k_is))))
  k_with "call builtin:tuple.__getitem__" => (guard_hyp mk46; (k_here; k_dflt (refine' tup_item (k := _) ?Xq544 ?Iq544 ?iq544 ?kq544 ?lq544 ?_; (case Xq544 => k_in); (case Iq544 => k_extra "my inst"); (case iq544 => k_is); (case kq544 => rfl); (case lq544 => decide))))
  exact True.intro
theorem inst_K1_c_tgname {K : Frag} {h : Heap} {x C dx : Addr} {xs : Array Value} {n : Nat} {sl : Array (Option Value)} {o : Obj} (X : K.In h) (e : K.lookup x = some ⟨.ref C, some dx, .seq xs n, sl⟩) (hd : K.lookup dx = some o) :
    PySem.W.InstAt h x ⟨.ref C, some dx, .seq xs n, sl⟩ C (some o) := ⟨X _ _ e, rfl, rfl, X _ _ hd⟩
theorem inst_N_c_tgname {h₀ h : Heap} {L x C dx : Addr} {news : Led} {xs : Array Value} (N : News h₀ L h news) (e : (x, tupInst C dx xs) ∈ news) (e2 : (dx, emptyDict) ∈ news) :
    PySem.W.InstAt h x (tupInst C dx xs) C (some emptyDict) := ⟨(N _ e).1, rfl, rfl, (N _ e2).1⟩
theorem c_tgname {x : CX} {L : Led} :
    Ct 2 x 320 [.ref 411, .ref 498, .ref 416] [] L fun v L' => L' = L ∧ v = .str (Str.ofString "second") 899 := by
  have mk46 := True.intro
  unfold Ct
  k_fill
  k_dflt (refine' ctr_enter (binds := [(Str.ofString "self", .ref 411), (Str.ofString "obj", .ref 498), (Str.ofString "objtype", .ref 416)]) (mm := fun y => List.lookup y [(Str.ofString "objtype", .ref 416), (Str.ofString "obj", .ref 498), (Str.ofString "self", .ref 411)]) ?k6 ?k7 ?k9 ?kB rfl ?_ ?c2 ?c3 ?c4 ?c5 ?c6; (case k6 => k_is); (case k7 => k_is); (case k9 => first | exact fun s _ => BindsTo.of_eq rfl | exact fun s hX => binds_K hX rfl (by k_is) rfl rfl rfl); (case c5 => decide); (case c6 => decide); (case kB => exact locs rfl); (case c2 => exact rfl); (case c3 => exact rfl); (case c4 => exact rfl); k_whole; intro dp un gd outer base g s L' B X T F N hdp hun; (try dsimp only [DL] at N); (try dsimp only); (try k_fold))
  k_steps
  exact EndC.mk (by k_asm) (by k_asm) ⟨rfl, rfl⟩
end
section
-- c_ssi
theorem lines_c_ssi : True := by
  k_with "call type:str" => (guard_hyp mk47; (k_here; (with_reducible show wpAny _ _ (call (Value.type "str") [Value.int _ _]) _ _ _); k_dflt (refine' PySem.P.str_of_int ?aq545 ?_; (case aq545 => assumption))))
  exact True.intro
theorem c_ssi {x : CX} {L : Led} {i : Int} {t1 : Tok} (hi : i.natAbs.log2 < 1920) :
    Ct 2 x 348 [.int i t1] [] L fun v L' => L' = L ∧ ∃ t, v = .str (Str.ofString (toString i)) t := by
  have mk47 := True.intro
  unfold Ct
  k_fill
  k_dflt (refine' ctr_enter (binds := [(Str.ofString "value", .int i t1)]) (mm := fun y => List.lookup y [(Str.ofString "value", .int i t1)]) ?k6 ?k7 ?k9 ?kB rfl ?_ ?c2 ?c3 ?c4 ?c5 ?c6; (case k6 => k_is); (case k7 => k_is); (case k9 => first | exact fun s _ => BindsTo.of_eq rfl | exact fun s hX => binds_K hX rfl (by k_is) rfl rfl rfl); (case c5 => decide); (case c6 => decide); (case kB => exact locs rfl); (case c2 => exact rfl); (case c3 => exact rfl); (case c4 => exact rfl); k_whole; intro dp un gd outer base g s L' B X T F N hdp hun; (try dsimp only [DL] at N); (try dsimp only); (try k_fold))
  k_steps
  exact EndC.mk (by k_asm) (by k_asm) ⟨rfl, _, rfl⟩
end
section
-- c_sss
theorem lines_c_sss : True := by
  k_with "call type:str" => (guard_hyp mk48; (k_here; (with_reducible show wpAny _ _ (call (Value.type "str") [Value.str _ _]) _ _ _); refine PySem.P.str_of_str ?_))
  exact True.intro
theorem c_sss {x : CX} {L : Led} {i : Str} {t1 : Tok} :
    Ct 2 x 348 [.str i t1] [] L fun v L' => L' = L ∧ v = .str i t1 := by
  have mk48 := True.intro
  unfold Ct
  k_fill
  k_dflt (refine' ctr_enter (binds := [(Str.ofString "value", .str i t1)]) (mm := fun y => List.lookup y [(Str.ofString "value", .str i t1)]) ?k6 ?k7 ?k9 ?kB rfl ?_ ?c2 ?c3 ?c4 ?c5 ?c6; (case k6 => k_is); (case k7 => k_is); (case k9 => first | exact fun s _ => BindsTo.of_eq rfl | exact fun s hX => binds_K hX rfl (by k_is) rfl rfl rfl); (case c5 => decide); (case c6 => decide); (case kB => exact locs rfl); (case c2 => exact rfl); (case c3 => exact rfl); (case c4 => exact rfl); k_whole; intro dp un gd outer base g s L' B X T F N hdp hun; (try dsimp only [DL] at N); (try dsimp only); (try k_fold))
  k_steps
  exact EndC.mk (by k_asm) (by k_asm) ⟨rfl, rfl⟩
end
section
-- c_key0
theorem lines_c_key0 : True := by
  k_with "my inst" => (guard_hyp mk49; first | (refine' inst2_N_c_key0 ?Nq547 ?mq547 ?m2q547; (case Nq547 => k_asm); (case mq547 => k_mem); (case m2q547 => k_mem)) | (refine' inst2_K1_c_key0 ?Xq547 ?eq547 ?dq547; (case Xq547 => k_in); (case eq547 => k_is); (case dq547 => k_is)))
  k_with "getMethod type:tuple" => (guard_hyp mk49; (k_here; k_dflt (refine' method_type ?Fq548 ?Xq548 ?tq548 ?sq548 ?eq548 ?hq548 ?_; (case Fq548 => k_asm); (case Xq548 => k_asm); (case tq548 => kernel_rfl); (case sq548 => decide +kernel); (case eq548 => k_is); (case hq548 => k_handed))))
  k_with "call type:type" => (guard_hyp mk49; (k_here; k_dflt (refine' kto_own (C := _) ?Iq549 ?_; (case Iq549 => k_extra "my inst"))))
  k_with "call builtin:issubclass" => (guard_hyp mk49; (k_here; k_dflt (refine' issub_tup ?Xq550 ?tq550 ?iq550 ?_; (case Xq550 => k_in); (case tq550 => k_is); (case iq550 => k_is))))
  k_with "call builtin:tuple.__getitem__" => (guard_hyp mk49; (k_here; k_dflt (refine' tup_item (k := _) ?Xq551 ?Iq551 ?iq551 ?kq551 ?lq551 ?_; (case Xq551 => k_in); (case Iq551 => k_extra "my inst"); (case iq551 => k_is); (case kq551 => rfl); (case lq551 => decide))))
  k_with "getAttr ref" => (guard_hyp mk49; (k_here; k_dflt (refine' get_tup ?Xq552 ?Iq552 ?gq552 ?kq552 (findObj_any ?f1q552 ?f2q552 ?f3q552 ?f4q552) ?iq552 ?_; (case Xq552 => k_in); (case Iq552 => k_extra "my inst"); (case gq552 => k_is); (case kq552 => k_is); (case f1q552 => k_is); (case f2q552 => k_is); (case f3q552 => k_is); (case f4q552 => k_is); (case iq552 => k_is))))
  k_with "call ref" => (guard_hyp mk49; (k_here; (with_reducible show wpAny _ _ (call (Value.ref 320) [Value.ref 411, Value.ref 498, Value.ref 416] []) _ _ _); k_dflt (refine' Ctr.call c_tgname ?Bq553 ?Fq553 ?Xq553 ?Nq553 ?Tq553 rfl rfl rfl rfl ?hdq553 ?huq553 ?_; (case Nq553 => k_asm); (case Bq553 => k_asm); (case Fq553 => k_asm); (case Xq553 => k_asm); (case Tq553 => k_asm); (case hdq553 => k_extra "my room"); (case huq553 => k_extra "my room")); (refine after_e ?_); intro h' tk' F' N'; (try k_sweep); (refine handed_on rfl ?_)))
  k_with "call ref" => (guard_hyp mk49; (k_here; (with_reducible show wpAny _ _ (call (Value.ref 348) [Value.int _ _] []) _ _ _); k_dflt (refine' Ctr.call (c_ssi ?mq554) ?Bq554 ?Fq554 ?Xq554 ?Nq554 ?Tq554 rfl rfl rfl rfl ?hdq554 ?huq554 ?_; (case Nq554 => k_asm); (case mq554 => first | assumption | decide +kernel); (case Bq554 => k_asm); (case Fq554 => k_asm); (case Xq554 => k_asm); (case Tq554 => k_asm); (case hdq554 => k_extra "my room"); (case huq554 => k_extra "my room")); (refine after_t ?_); intro h' tk' t9' F' N'; (try k_sweep)))
  k_with "call ref" => (guard_hyp mk49; (k_here; (with_reducible show wpAny _ _ (call (Value.ref 348) [Value.str _ _] []) _ _ _); k_dflt (refine' Ctr.call c_sss ?Bq555 ?Fq555 ?Xq555 ?Nq555 ?Tq555 rfl rfl rfl rfl ?hdq555 ?huq555 ?_; (case Nq555 => k_asm); (case Bq555 => k_asm); (case Fq555 => k_asm); (case Xq555 => k_asm); (case Tq555 => k_asm); (case hdq555 => k_extra "my room"); (case huq555 => k_extra "my room")); (refine after_e ?_); intro h' tk' F' N'; (try k_sweep)))
  k_with "eval ListComp" => (guard_hyp mk49; (k_here; k_dflt (refine ListComp_T (F₀ := by k_asm) (by rfl) (by decide) (by rfl) (by decide) (by rfl) ?_)))
  k_with "SrcT" => (guard_hyp mk49; (k_here; k_dflt (refine SrcT.ledger (by rfl) (by k_asm) (by k_asm) (by k_mem) (by first | size_fits | exact Nat.le_of_ble_eq_true rfl) ?_; intro g'; lcg_lit)))
  k_with "CompEnd" => (guard_hyp mk49; (refine' LCg.CompEnd.intro ?Fq558 ?Nq558 _ (fun p hp => hp) ?offq558 ?Sq558 ?_; (case Nq558 => k_asm); (case Fq558 => k_asm); (case offq558 => assumption); (case Sq558 => exact .inr ⟨_, by k_mem, rfl, _, rfl⟩)))
  k_with "call builtin:str.join" => (guard_hyp mk49; (k_here; (with_reducible show wpAny _ _ (call (Value.builtin "str.join") [Value.str _ _, Value.ref _]) _ _ _); k_dflt (refine' join_r ?lq559 ?Sq559 ?okq559 ?_; (case lq559 => is_list); (case Sq559 => kct_strs); (case okq559 => first | exact key_okA (by assumption) (by assumption) | exact key_okB (by assumption))); intro r hr' hl' t' k'))
  k_with "formatField str" => (guard_hyp mk49; (k_here; refine formatField_str (hsz := by rw [sizeLine_eq]; first | decide | (refine Nat.le_trans (by assumption) ?_; decide)) ?_; intro _ _))
  exact True.intro
theorem inst2_K1_c_key0 {K : Frag} {h : Heap} {x C dx : Addr} {xs : Array Value} {n : Nat} {sl : Array (Option Value)} {o : Obj} (X : K.In h) (e : K.lookup x = some ⟨.ref C, some dx, .seq xs n, sl⟩) (hd : K.lookup dx = some o) :
    PySem.W.InstAt h x ⟨.ref C, some dx, .seq xs n, sl⟩ C (some o) := ⟨X _ _ e, rfl, rfl, X _ _ hd⟩
theorem inst2_N_c_key0 {h₀ h : Heap} {L x C dx : Addr} {news : Led} {xs : Array Value} (N : News h₀ L h news) (e : (x, tupInst C dx xs) ∈ news) (e2 : (dx, emptyDict) ∈ news) :
    PySem.W.InstAt h x (tupInst C dx xs) C (some emptyDict) := ⟨(N _ e).1, rfl, rfl, (N _ e2).1⟩
theorem c_key0 {x : CX} {L : Led} {it dit tu : Addr} {e1 e2 e3 am w : Int} {t1 t2 t3 t4 t5 t6 u1 u2 : Tok} {n0 n1 : Nat} (m1 : (it, instObj 501 dit) ∈ L) (m2 : (dit, dictOf [⟨e1, .str (Str.ofString "namespace") t1, .str (Str.ofString "LIMITER") t2⟩, ⟨e2, .str (Str.ofString "amount") t3, .int am t4⟩, ⟨e3, .str (Str.ofString "multiples") t5, .int 10 t6⟩] n0) ∈ L) (m3 : (tu, ({ cls := .type "tuple", data := .seq #[.str (Str.ofString "a") u1, .int w u2] n1 } : Obj)) ∈ L) (ha : am.natAbs.log2 < 1920) (ha2 : (Str.ofString (toString am)).length ≤ 30) (hw : w.natAbs.log2 < 1920) (hw2 : (Str.ofString (toString w)).length ≤ 30) :
    Ct 4 x 458 [.ref it, .ref tu] [] L fun v L' => L' = L ∧ ∃ t, v = .str (keyA w am) t := by
  have mk49 := True.intro
  unfold Ct
  k_fill
  k_dflt (refine' ctr_enter (binds := [(Str.ofString "self", .ref it), (Str.ofString "identifiers", .ref tu)]) (mm := fun y => List.lookup y [(Str.ofString "identifiers", .ref tu), (Str.ofString "self", .ref it)]) ?k6 ?k7 ?k9 ?kB rfl ?_ ?c2 ?c3 ?c4 ?c5 ?c6; (case k6 => k_is); (case k7 => k_is); (case k9 => first | exact fun s _ => BindsTo.of_eq rfl | exact fun s hX => binds_K hX rfl (by k_is) rfl rfl rfl); (case c5 => decide); (case c6 => decide); (case kB => exact locs rfl); (case c2 => exact rfl); (case c3 => exact rfl); (case c4 => exact rfl); k_whole; intro dp un gd outer base g s L' B X T F N hdp hun; (try dsimp only [DL] at N); (try dsimp only); (try k_fold))
  k_steps
  refine' EndC.mk2 ?F ?N ?s ⟨rfl, _, ?e⟩
  case F => k_asm
  case N => k_asm
  case s => exact fun p hp => .tail _ (.tail _ (.tail _ hp))
  case e => (subst_vars; rfl)
end
section
-- c_key1
theorem lines_c_key1 : True := by
  k_with "my inst" => (guard_hyp mk50; first | (refine' inst2_N_c_key1 ?Nq561 ?mq561 ?m2q561; (case Nq561 => k_asm); (case mq561 => k_mem); (case m2q561 => k_mem)) | (refine' inst2_K1_c_key1 ?Xq561 ?eq561 ?dq561; (case Xq561 => k_in); (case eq561 => k_is); (case dq561 => k_is)))
  k_with "getMethod type:tuple" => (guard_hyp mk50; (k_here; k_dflt (refine' method_type ?Fq562 ?Xq562 ?tq562 ?sq562 ?eq562 ?hq562 ?_; (case Fq562 => k_asm); (case Xq562 => k_asm); (case tq562 => kernel_rfl); (case sq562 => decide +kernel); (case eq562 => k_is); (case hq562 => k_handed))))
  k_with "call type:type" => (guard_hyp mk50; (k_here; k_dflt (refine' kto_own (C := _) ?Iq563 ?_; (case Iq563 => k_extra "my inst"))))
  k_with "call builtin:issubclass" => (guard_hyp mk50; (k_here; k_dflt (refine' issub_tup ?Xq564 ?tq564 ?iq564 ?_; (case Xq564 => k_in); (case tq564 => k_is); (case iq564 => k_is))))
  k_with "call builtin:tuple.__getitem__" => (guard_hyp mk50; (k_here; k_dflt (refine' tup_item (k := _) ?Xq565 ?Iq565 ?iq565 ?kq565 ?lq565 ?_; (case Xq565 => k_in); (case Iq565 => k_extra "my inst"); (case iq565 => k_is); (case kq565 => rfl); (case lq565 => decide))))
  k_with "getAttr ref" => (guard_hyp mk50; (k_here; k_dflt (refine' get_tup ?Xq566 ?Iq566 ?gq566 ?kq566 (findObj_any ?f1q566 ?f2q566 ?f3q566 ?f4q566) ?iq566 ?_; (case Xq566 => k_in); (case Iq566 => k_extra "my inst"); (case gq566 => k_is); (case kq566 => k_is); (case f1q566 => k_is); (case f2q566 => k_is); (case f3q566 => k_is); (case f4q566 => k_is); (case iq566 => k_is))))
  k_with "call ref" => (guard_hyp mk50; (k_here; (with_reducible show wpAny _ _ (call (Value.ref 320) [Value.ref 411, Value.ref 498, Value.ref 416] []) _ _ _); k_dflt (refine' Ctr.call c_tgname ?Bq567 ?Fq567 ?Xq567 ?Nq567 ?Tq567 rfl rfl rfl rfl ?hdq567 ?huq567 ?_; (case Nq567 => k_asm); (case Bq567 => k_asm); (case Fq567 => k_asm); (case Xq567 => k_asm); (case Tq567 => k_asm); (case hdq567 => k_extra "my room"); (case huq567 => k_extra "my room")); (refine after_e ?_); intro h' tk' F' N'; (try k_sweep); (refine handed_on rfl ?_)))
  k_with "call ref" => (guard_hyp mk50; (k_here; (with_reducible show wpAny _ _ (call (Value.ref 348) [Value.int _ _] []) _ _ _); k_dflt (refine' Ctr.call (c_ssi ?mq568) ?Bq568 ?Fq568 ?Xq568 ?Nq568 ?Tq568 rfl rfl rfl rfl ?hdq568 ?huq568 ?_; (case Nq568 => k_asm); (case mq568 => first | assumption | decide +kernel); (case Bq568 => k_asm); (case Fq568 => k_asm); (case Xq568 => k_asm); (case Tq568 => k_asm); (case hdq568 => k_extra "my room"); (case huq568 => k_extra "my room")); (refine after_t ?_); intro h' tk' t9' F' N'; (try k_sweep)))
  k_with "call ref" => (guard_hyp mk50; (k_here; (with_reducible show wpAny _ _ (call (Value.ref 348) [Value.str _ _] []) _ _ _); k_dflt (refine' Ctr.call c_sss ?Bq569 ?Fq569 ?Xq569 ?Nq569 ?Tq569 rfl rfl rfl rfl ?hdq569 ?huq569 ?_; (case Nq569 => k_asm); (case Bq569 => k_asm); (case Fq569 => k_asm); (case Xq569 => k_asm); (case Tq569 => k_asm); (case hdq569 => k_extra "my room"); (case huq569 => k_extra "my room")); (refine after_e ?_); intro h' tk' F' N'; (try k_sweep)))
  k_with "eval ListComp" => (guard_hyp mk50; (k_here; k_dflt (refine ListComp_T (F₀ := by k_asm) (by rfl) (by decide) (by rfl) (by decide) (by rfl) ?_)))
  k_with "SrcT" => (guard_hyp mk50; (k_here; k_dflt (refine SrcT.ledger (by rfl) (by k_asm) (by k_asm) (by k_mem) (by first | size_fits | exact Nat.le_of_ble_eq_true rfl) ?_; intro g'; lcg_lit)))
  k_with "CompEnd" => (guard_hyp mk50; (refine' LCg.CompEnd.intro ?Fq572 ?Nq572 _ (fun p hp => hp) ?offq572 ?Sq572 ?_; (case Nq572 => k_asm); (case Fq572 => k_asm); (case offq572 => assumption); (case Sq572 => exact .inr ⟨_, by k_mem, rfl, _, rfl⟩)))
  k_with "call builtin:str.join" => (guard_hyp mk50; (k_here; (with_reducible show wpAny _ _ (call (Value.builtin "str.join") [Value.str _ _, Value.ref _]) _ _ _); k_dflt (refine' join_r ?lq573 ?Sq573 ?okq573 ?_; (case lq573 => is_list); (case Sq573 => kct_strs); (case okq573 => first | exact key_okA (by assumption) (by assumption) | exact key_okB (by assumption))); intro r hr' hl' t' k'))
  k_with "formatField str" => (guard_hyp mk50; (k_here; refine formatField_str (hsz := by rw [sizeLine_eq]; first | decide | (refine Nat.le_trans (by assumption) ?_; decide)) ?_; intro _ _))
  exact True.intro
theorem inst2_K1_c_key1 {K : Frag} {h : Heap} {x C dx : Addr} {xs : Array Value} {n : Nat} {sl : Array (Option Value)} {o : Obj} (X : K.In h) (e : K.lookup x = some ⟨.ref C, some dx, .seq xs n, sl⟩) (hd : K.lookup dx = some o) :
    PySem.W.InstAt h x ⟨.ref C, some dx, .seq xs n, sl⟩ C (some o) := ⟨X _ _ e, rfl, rfl, X _ _ hd⟩
theorem inst2_N_c_key1 {h₀ h : Heap} {L x C dx : Addr} {news : Led} {xs : Array Value} (N : News h₀ L h news) (e : (x, tupInst C dx xs) ∈ news) (e2 : (dx, emptyDict) ∈ news) :
    PySem.W.InstAt h x (tupInst C dx xs) C (some emptyDict) := ⟨(N _ e).1, rfl, rfl, (N _ e2).1⟩
theorem c_key1 {x : CX} {L : Led} {it dit tu : Addr} {e1 e2 e3 am w : Int} {t1 t2 t3 t4 t5 t6 u1 u2 : Tok} {n0 n1 : Nat} (m1 : (it, instObj 501 dit) ∈ L) (m2 : (dit, dictOf [⟨e1, .str (Str.ofString "namespace") t1, .str (Str.ofString "LIMITER") t2⟩, ⟨e2, .str (Str.ofString "amount") t3, .int am t4⟩, ⟨e3, .str (Str.ofString "multiples") t5, .int 10 t6⟩] n0) ∈ L) (m3 : (tu, ({ cls := .type "tuple", data := .seq #[.str (Str.ofString "b") u1] n1 } : Obj)) ∈ L) (ha : am.natAbs.log2 < 1920) (ha2 : (Str.ofString (toString am)).length ≤ 30) :
    Ct 4 x 458 [.ref it, .ref tu] [] L fun v L' => L' = L ∧ ∃ t, v = .str (keyB am) t := by
  have mk50 := True.intro
  unfold Ct
  k_fill
  k_dflt (refine' ctr_enter (binds := [(Str.ofString "self", .ref it), (Str.ofString "identifiers", .ref tu)]) (mm := fun y => List.lookup y [(Str.ofString "identifiers", .ref tu), (Str.ofString "self", .ref it)]) ?k6 ?k7 ?k9 ?kB rfl ?_ ?c2 ?c3 ?c4 ?c5 ?c6; (case k6 => k_is); (case k7 => k_is); (case k9 => first | exact fun s _ => BindsTo.of_eq rfl | exact fun s hX => binds_K hX rfl (by k_is) rfl rfl rfl); (case c5 => decide); (case c6 => decide); (case kB => exact locs rfl); (case c2 => exact rfl); (case c3 => exact rfl); (case c4 => exact rfl); k_whole; intro dp un gd outer base g s L' B X T F N hdp hun; (try dsimp only [DL] at N); (try dsimp only); (try k_fold))
  k_steps
  refine' EndC.mk2 ?F ?N ?s ⟨rfl, _, ?e⟩
  case F => k_asm
  case N => k_asm
  case s => exact fun p hp => .tail _ (.tail _ (.tail _ hp))
  case e => (subst_vars; rfl)
end
section
-- Glue
theorem log_small {z : Int} (h0 : 0 ≤ z) (h : z < 9) : z.natAbs.log2 < 1920 := by
  have : z.natAbs < 2 ^ 4 := by omega
  rcases Nat.eq_zero_or_pos z.natAbs with q | q
  · rw [q]; decide
  · exact Nat.lt_trans ((Nat.log2_lt (by omega)).mpr this) (by decide)
theorem len_small {z : Int} (h0 : 0 ≤ z) (h : z < 9) : (Str.ofString (toString z)).length ≤ 30 := by
  have := lenN1 ⟨z.toNat, by omega⟩
  simp only at this
  rwa [show ((z.toNat : Nat) : Int) = z by omega] at this
theorem view_zero {t : Int} (h : 0 ≤ t) : view ⟨fun _ => none, fun _ => none, fun _ => none, t⟩ = Vx t [] [] := by
  refine Vw.ext' (fun y => ?_) (fun y => ?_) (fun _ => rfl) rfl
  · rw [view_n]
    show (if (0 : Int) ≤ t then (0 : Int) else 0) = 0
    split <;> rfl
  · rw [view_e (by exact h)]
    show (if (0 : Int) ≤ t then t else 0) = t
    rw [if_pos h]
/-- addresses that fall -/
inductive Dn : Nat → List Nat → Prop
  | nil {a : Nat} : Dn a []
  | cons {a b : Nat} {l : List Nat} : b < a → Dn b l → Dn a (b :: l)
theorem Dn.lt {a : Nat} {l : List Nat} (h : Dn a l) : ∀ p ∈ l, p < a := by
  induction h with
  | nil => intro p hp; cases hp
  | cons h _ ih => intro p hp; rcases List.mem_cons.mp hp with e | hp
                   · rw [e]; exact h
                   · exact Nat.lt_trans (ih p hp) h
theorem Dn.off {d : Nat} {post : List Nat} : ∀ {pre : List Nat} {a : Nat}, Dn a (pre ++ d :: post) → ∀ p ∈ pre ++ post, p ≠ d
  | [], _, .cons _ h, p, hp => Nat.ne_of_lt (h.lt p hp)
  | b :: pre, _, .cons _ h, p, hp => (List.mem_cons.mp hp).elim (fun e => Nat.ne_of_gt (e ▸ h.lt d (List.mem_append_right _ (.head _)))) fun hp => Dn.off (pre := pre) h p hp
theorem mm_of {R rest : Led} (h : R = rest) {i : Nat} {p : Addr × Obj} (e : R[i]? = some p) : p ∈ rest := h ▸ List.mem_of_getElem? e
theorem al_of {R rest : Led} {l : List Nat} (h : R = rest) (ha : R.map (·.1) = l) {d : Nat} (hd : ∀ p ∈ l, p ≠ d) : ∀ p ∈ rest, p.1 ≠ d := fun p hp => hd _ (ha ▸ List.mem_map_of_mem (h ▸ hp))
theorem sub_idx {l : Led} {R : Led} {P : Addr × Obj → Prop} (h : ∀ p ∈ R, P p) (is : List Nat) (e : is.map (R[·]?) = l.map some) : ∀ p ∈ l, P p := by
  intro p hp
  have : some p ∈ l.map some := List.mem_map_of_mem hp
  rw [← e] at this
  obtain ⟨i, _, e⟩ := List.mem_map.mp this
  exact h p (List.mem_of_getElem? e)
theorem c_glue {fa : Addr} {x : CX} {g : Heap} {s0 s : Shared} {L nms tA tB it dit lims l0 l1 l2 d0 d1 d2 q1 q2 q3 st dst f c' ln ds : Addr} {m : Str → Option Value} {n w am r : Int} {tn : Tok} {ff : FuncData} {oc on p1 p2 p3 dso : Obj} {k0 k1 n1 n2 n3 n4 n5 n6 n7 n8 : Nat} {u1 u2 u3 u4 u5 u6 u7 u8 u9 v1 v2 v3 v4 v5 v6 v7 v8 : Tok} {h1 h2 h3 h4 h5 h6 h7 h8 h9 hA : Int} {p9 : Array Value}
    (hw : n.fmod 5 = w) (ha : 2 + n.fmod 7 = am) (hr : (n.fdiv 7).fmod 100 = r) (hs0 : Same s0 s) (B : Below callerA g [] g) (X : Frag.In (Mine.hd.heap_1 x.w.params) g) (T : Top x.p x.loose x.mean x.mg x.mb g) (F : Fr g L s.heap m)
    (hm1 : m (Str.ofString "limiters") = some (.ref lims)) (hm2 : m (Str.ofString "item") = some (.ref it)) (hm3 : m (Str.ofString "names") = some (.ref nms)) (hm4 : m (Str.ofString "n") = some (.int n tn)) (hm5 : m (Str.ofString "store") = some (.ref st))
    (N : News g L s.heap [(nms, W.listOf #[.ref tA, .ref tB] k1), (tB, { cls := .type "tuple", data := .seq #[.str (Str.ofString "b") u1] n1 }), (tA, { cls := .type "tuple", data := .seq #[.str (Str.ofString "a") u2, .int w u3] n2 }),
      (it, instObj 501 dit), (dit, dictOf [⟨h1, .str (Str.ofString "namespace") u4, .str (Str.ofString "LIMITER") u5⟩, ⟨h2, .str (Str.ofString "amount") u6, .int am u7⟩, ⟨h3, .str (Str.ofString "multiples") u8, .int 10 u9⟩] n3),
      (lims, W.listOf #[.ref l0, .ref l1, .ref l2] k0), (l2, instObj 296 d2), (d2, dictOf [⟨h4, .str (Str.ofString "storage") v1, .ref st⟩] n4), (l1, instObj 202 d1), (d1, dictOf [⟨h5, .str (Str.ofString "storage") v2, .ref st⟩] n5), (l0, instObj 241 d0), (d0, dictOf [⟨h6, .str (Str.ofString "storage") v3, .ref st⟩] n6),
      (q3, p3), (q2, p2), (q1, p1), (st, instObj 674 dst),
      (dst, dictOf [⟨h7, .str (Str.ofString "clock") v4, .ref f⟩, ⟨h8, .str (Str.ofString "storage") v5, .ref q1⟩, ⟨h9, .str (Str.ofString "expirations") v6, .ref q2⟩, ⟨hA, .str (Str.ofString "events") v7, .ref q3⟩] n7),
      (f, { cls := .type "function", data := .func ff }), (c', oc), (ln, W.listOf #[.int (1000 + 10 * r) v8] n8), (ds, dso), (L + 1, on), (623, tabObj #[]), (692, tabObj p9)])
    (clk : ∀ (Lx : Led) (now : Int) (t : Tok) (k : Nat), (f, ({ cls := .type "function", data := .func ff } : Obj)) ∈ Lx → (c', oc) ∈ Lx → (L + 1, on) ∈ Lx → (ln, W.listOf #[.int now t] k) ∈ Lx → Ct 1 x f [] [] Lx fun v L' => L' = Lx ∧ ∃ t, v = .int now t)
    (hon : on.data = .cell (some (.ref ln))) (i1 : p1.IsDictOf (strKind PySem.Challenge.rw_jj0018_01.row.prog x.w) []) (i2 : p2.IsDictOf (strKind PySem.Challenge.rw_jj0018_01.row.prog x.w) []) (i3 : p3.IsDictOf (strKind PySem.Challenge.rw_jj0018_01.row.prog x.w) [])
    (y1 : (q1 == sysModules) = false) (y2 : (q2 == sysModules) = false) (y3 : (q3 == sysModules) = false)
    (o0 : @LE.le Nat _ 693 L) (o1 : @LT.lt Nat _ (L + 1) ds) (o2 : @LT.lt Nat _ ds ln) (o3 : @LT.lt Nat _ ln c') (o4 : @LT.lt Nat _ c' f) (o5 : @LT.lt Nat _ f dst) (o6 : @LT.lt Nat _ dst st) (o7 : @LT.lt Nat _ st q1) (o8 : @LT.lt Nat _ q1 q2) (o9 : @LT.lt Nat _ q2 q3) (oA : @LT.lt Nat _ q3 d0) (oB : @LT.lt Nat _ d0 l0) (oC : @LT.lt Nat _ l0 d1) (oD : @LT.lt Nat _ d1 l1) (oE : @LT.lt Nat _ l1 d2) (oF : @LT.lt Nat _ d2 l2) (oG : @LT.lt Nat _ l2 lims) (oH : @LT.lt Nat _ lims dit) (oI : @LT.lt Nat _ dit it) (oJ : @LT.lt Nat _ it tA) (oK : @LT.lt Nat _ tA tB) (oL : @LT.lt Nat _ tB nms) :
    Body x 695 6 (LawG x fa g L s0 s) := by
  have w0 : 0 ≤ w := by rw [← hw, Int.fmod_eq_emod_of_nonneg _ (by decide)]; omega
  have w1 : w < 5 := by rw [← hw, Int.fmod_eq_emod_of_nonneg _ (by decide)]; omega
  have a0 : 2 ≤ am := by rw [← ha, Int.fmod_eq_emod_of_nonneg _ (by decide)]; omega
  have a1 : am ≤ 8 := by rw [← ha, Int.fmod_eq_emod_of_nonneg _ (by decide)]; omega
  have r0 : 0 ≤ r := by rw [← hr, Int.fmod_eq_emod_of_nonneg _ (by decide)]; omega
  have r1 : r < 100 := by rw [← hr, Int.fmod_eq_emod_of_nonneg _ (by decide)]; omega
  have ks := ks_of r0 r1 w0 w1 a0 a1
  have t1 : 1000 ≤ 1000 + 10 * r := by omega
  have t2 : 1000 + 10 * r < 2900 := by omega
  have C1 := chain_one ks t1 t2 a0 a1
  have C2 := chain_two ks t1 t2 a0 a1
  let c : Cf := ⟨st, dst, q1, q2, q3, ln, f, c', L + 1, ff, oc, on, fun i => match i with | 0 => h7 | 1 => h8 | 2 => h9 | _ => hA, fun i => match i with | 0 => v4 | 1 => v5 | 2 => v6 | _ => v7, fun _ => n7⟩
  obtain ⟨rest, hR⟩ : ∃ rest : Led, ([(nms, W.listOf #[.ref tA, .ref tB] k1), (tB, { cls := .type "tuple", data := .seq #[.str (Str.ofString "b") u1] n1 }), (tA, { cls := .type "tuple", data := .seq #[.str (Str.ofString "a") u2, .int w u3] n2 }),
      (it, instObj 501 dit), (dit, dictOf [⟨h1, .str (Str.ofString "namespace") u4, .str (Str.ofString "LIMITER") u5⟩, ⟨h2, .str (Str.ofString "amount") u6, .int am u7⟩, ⟨h3, .str (Str.ofString "multiples") u8, .int 10 u9⟩] n3),
      (lims, W.listOf #[.ref l0, .ref l1, .ref l2] k0), (l2, instObj 296 d2), (d2, dictOf [⟨h4, .str (Str.ofString "storage") v1, .ref st⟩] n4), (l1, instObj 202 d1), (d1, dictOf [⟨h5, .str (Str.ofString "storage") v2, .ref st⟩] n5), (l0, instObj 241 d0), (d0, dictOf [⟨h6, .str (Str.ofString "storage") v3, .ref st⟩] n6),
      (st, instObj 674 dst), (dst, stoDict c), (f, c.fo), (c', oc), (ds, dso), (L + 1, on), (692, tabObj p9)] : Led) = rest := ⟨_, rfl⟩
  have n0 : (692 : Nat) < L + 1 := Nat.lt_succ_of_lt o0
  have e1 : st < d0 := Nat.lt_trans o7 (Nat.lt_trans o8 (Nat.lt_trans o9 oA))
  have e2 : q1 < d0 := Nat.lt_trans o8 (Nat.lt_trans o9 oA)
  have e3 : q2 < d0 := Nat.lt_trans o9 oA
  have e4 : st < q2 := Nat.lt_trans o7 o8
  have e5 : st < q3 := Nat.lt_trans e4 o9
  have e6 : ds < c' := Nat.lt_trans o2 o3
  have e7 : (623 : Nat) < ln := Nat.lt_trans (by decide) (Nat.lt_trans n0 (Nat.lt_trans o1 o2))
  have e8 : ln < q1 := Nat.lt_trans o3 (Nat.lt_trans o4 (Nat.lt_trans o5 (Nat.lt_trans o6 o7)))
  have DT : Dn st [dst, f, c', ds, L + 1, 692] := .cons o6 (.cons o5 (.cons o4 (.cons e6 (.cons o1 (.cons n0 .nil)))))
  have up : ∀ {l : List Nat}, Dn d0 l → Dn (nms + 1) (nms :: tB :: tA :: it :: dit :: lims :: l2 :: d2 :: l1 :: d1 :: l0 :: d0 :: l) := fun h => .cons (Nat.lt_succ_self _) (.cons oL (.cons oK (.cons oJ (.cons oI (.cons oH (.cons oG (.cons oF (.cons oE (.cons oD (.cons oC (.cons oB h)))))))))))
  have X0 : Fixed x c := ⟨y1, y2, y3, Nat.ne_of_lt o8, Nat.ne_of_lt (Nat.lt_trans o8 o9), Nat.ne_of_gt e8, Nat.ne_of_gt (Nat.lt_trans e7 e8), Nat.ne_of_lt o9, Nat.ne_of_gt (Nat.lt_trans e8 o8), Nat.ne_of_gt (Nat.lt_trans e7 (Nat.lt_trans e8 o8)), Nat.ne_of_gt (Nat.lt_trans e8 (Nat.lt_trans o8 o9)), Nat.ne_of_gt (Nat.lt_trans e7 (Nat.lt_trans e8 (Nat.lt_trans o8 o9))), Nat.ne_of_gt e7, clk⟩
  have AL := fun {d : Nat} => @al_of _ _ [nms, tB, tA, it, dit, lims, l2, d2, l1, d1, l0, d0, st, dst, f, c', ds, L + 1, 692] hR rfl d
  have mm := fun {i : Nat} {p : Addr × Obj} => @mm_of _ _ hR i p
  have fx : Fix x c rest := ⟨mm (i := 12) rfl, mm (i := 13) rfl, mm (i := 14) rfl, mm (i := 15) rfl, mm (i := 17) rfl,
    AL (Dn.off (pre := [nms, tB, tA, it, dit, lims, l2, d2, l1, d1, l0, d0]) (up (.cons e2 (.cons o7 DT)))),
    AL (Dn.off (pre := [nms, tB, tA, it, dit, lims, l2, d2, l1, d1, l0, d0]) (up (.cons e3 (.cons e4 DT)))),
    AL (Dn.off (pre := [nms, tB, tA, it, dit, lims, l2, d2, l1, d1, l0, d0]) (up (.cons oA (.cons e5 DT)))),
    AL (Dn.off (pre := [nms, tB, tA, it, dit, lims, l2, d2, l1, d1, l0, d0, st, dst, f, c']) (post := [ds, L + 1, 692]) (up (.cons e1 (.cons o6 (.cons o5 (.cons o4 (.cons o3 (.cons o2 (.cons o1 (.cons n0 .nil)))))))))),
    AL (Dn.off (pre := [nms, tB, tA, it, dit, lims, l2, d2, l1, d1, l0, d0, st, dst, f, c', ds, L + 1, 692]) (post := []) (up (.cons e1 (.cons o6 (.cons o5 (.cons o4 (.cons e6 (.cons o1 (.cons n0 (.cons (by decide) .nil))))))))))⟩
  have S : StV x c (Vx (1000 + 10 * r) [] []) 0 (DL c p1 p2 p3 (W.listOf #[.int (1000 + 10 * r) v8] n8) (tabObj #[]) rest) rest :=
    .mk (σ := ⟨fun _ => none, fun _ => none, fun _ => none, 1000 + 10 * r⟩) (.mk (TabR.empty i1) (TabR.empty i2) (TabR.empty i3) .none fx) (view_zero (by omega))
  have N' : News g L s.heap (DL c p1 p2 p3 (W.listOf #[.int (1000 + 10 * r) v8] n8) (tabObj #[]) rest) := by
    rw [← hR]
    exact sub_idx N [14, 13, 12, 19, 22, 0, 1, 2, 3, 4, 5, 6, 7, 8, 9, 10, 11, 15, 16, 17, 18, 20, 21, 23] rfl
  have HI : ItemAt rest it am := ⟨_, _, _, _, _, _, _, _, _, _, _, mm (i := 3) rfl, mm (i := 4) rfl⟩
  have NA : NameAt x rest it tA (keyA w am) := fun Lz hz => c_key0 (hz _ (mm (i := 3) rfl)) (hz _ (mm (i := 4) rfl)) (hz _ (mm (i := 2) rfl)) (log_small (by omega) (by omega)) (len_small (by omega) (by omega)) (log_small w0 (by omega)) (len_small w0 (by omega))
  have NB : NameAt x rest it tB (keyB am) := fun Lz hz => c_key1 (w := w) (u2 := u2) (hz _ (mm (i := 3) rfl)) (hz _ (mm (i := 4) rfl)) (hz _ (mm (i := 1) rfl)) (log_small (by omega) (by omega)) (len_small (by omega) (by omega))
  exact c_lawB hs0 B X T X0 S F N' hm1 hm2 hm3 hm4 hm5 (mm (i := 5) rfl) (mm (i := 0) rfl) ⟨_, _, _, _, mm (i := 10) rfl, mm (i := 11) rfl⟩ ⟨_, _, _, _, mm (i := 8) rfl, mm (i := 9) rfl⟩ ⟨_, _, _, _, mm (i := 6) rfl, mm (i := 7) rfl⟩ HI ⟨NA, NB⟩
    (keyA_len (len_small w0 (by omega)) (len_small (by omega) (by omega))) (keyB_len (len_small (by omega) (by omega))) (mm (i := 18) rfl) rfl hon a0 a1 (by decide) (Nat.ne_of_lt (Nat.lt_trans oC (Nat.lt_trans oD (Nat.lt_trans oE oF)))) (Nat.ne_of_lt (Nat.lt_trans oE oF)) C1 C2
end
section
-- Mk
/-- what a store's making leaves -/
inductive StI (x : CX) (fc : Addr) (L : Led) (e de : Addr) (L' : Led) : Prop
  | mk (d1 d2 d3 : Addr) (o1 o2 o3 : Obj) (h1 h2 h3 h4 : Int) (t1 t2 t3 t4 : Tok) (n : Nat)
      (eL : L' = (d3, o3) :: (d2, o2) :: (d1, o1) :: (e, instObj 674 de) :: (de, dictOf [⟨h1, .str (Str.ofString "clock") t1, .ref fc⟩, ⟨h2, .str (Str.ofString "storage") t2, .ref d1⟩, ⟨h3, .str (Str.ofString "expirations") t3, .ref d2⟩, ⟨h4, .str (Str.ofString "events") t4, .ref d3⟩] n) :: L)
      (a1 : @LT.lt Nat _ e d1) (a2 : @LT.lt Nat _ d1 d2) (a3 : @LT.lt Nat _ d2 d3) (b1 : o1.IsDictOf (strKind PySem.Challenge.rw_jj0018_01.row.prog x.w) []) (b2 : o2.IsDictOf (strKind PySem.Challenge.rw_jj0018_01.row.prog x.w) []) (b3 : o3.IsDictOf (strKind PySem.Challenge.rw_jj0018_01.row.prog x.w) []) (c1 : (d1 == sysModules) = false) (c2 : (d2 == sysModules) = false) (c3 : (d3 == sysModules) = false) : StI x fc L e de L'
/-- what an item's making leaves -/
inductive ItI (am : Int) (L : Led) (e de : Addr) (L' : Led) : Prop
  | mk (e1 e2 e3 : Int) (t1 t2 t3 t4 t5 t6 : Tok) (n0 : Nat)
      (eL : L' = (e, instObj 501 de) :: (de, dictOf [⟨e1, .str (Str.ofString "namespace") t1, .str (Str.ofString "LIMITER") t2⟩, ⟨e2, .str (Str.ofString "amount") t3, .int am t4⟩, ⟨e3, .str (Str.ofString "multiples") t5, .int 10 t6⟩] n0) :: L) : ItI am L e de L'
/-- what the limiters' making leaves -/
inductive LmI (st : Addr) (L : Led) (v : Value) (L' : Led) : Prop
  | mk (l d0 l0 d1 l1 d2 l2 : Addr) (e0 : Int) (t0 : Tok) (n0 : Nat) (e1 : Int) (t1 : Tok) (n1 : Nat) (e2 : Int) (t2 : Tok) (n2 : Nat) (ev : v = .ref l) (lt : ∀ p ∈ L, p.1 < d0)
      (eL : L' = (l, W.listOf #[.ref l0, .ref l1, .ref l2] 0) :: (l2, instObj 296 d2) :: (d2, dictOf [⟨e2, .str (Str.ofString "storage") t2, .ref st⟩] n2) :: (l1, instObj 202 d1) :: (d1, dictOf [⟨e1, .str (Str.ofString "storage") t1, .ref st⟩] n1) :: (l0, instObj 241 d0) :: (d0, dictOf [⟨e0, .str (Str.ofString "storage") t0, .ref st⟩] n0) :: L)
      (z1 : @LT.lt Nat _ d0 l0) (z2 : @LT.lt Nat _ l0 d1) (z3 : @LT.lt Nat _ d1 l1) (z4 : @LT.lt Nat _ l1 d2) (z5 : @LT.lt Nat _ d2 l2) (z6 : @LT.lt Nat _ l2 l) : LmI st L v L'
/-- an object of a class with an `__init__` of its own -/
theorem c_mk {n : Nat} {x : CX} {L : Led} {C fi : Addr} {args : List Value} {P : Addr → Addr → Led → Prop} (hm : makesIn (Mine.hd.heap_1 x.w.params) C = true) (hi : findIn (Mine.hd.heap_1 x.w.params) (.ref C) "__init__" = some (some (.ref fi))) (hf : typeIn (Mine.hd.heap_1 x.w.params) (.ref fi) = some (.type "function"))
    (hcu : (Code.builtin "type.__call__" { pos := .ref C :: args }).cUnits ≤ 30)
    (I : ∀ e de : Addr, e ≠ de → (∀ p ∈ L, p.1 ≠ de) → (∀ p ∈ L, p.1 ≠ e) → (∀ p ∈ L, p.1 < de) → Nat.succ de = e → Ct n x fi (.ref e :: args) [] ((e, instObj C de) :: (de, emptyDict) :: L) fun v L' => v = .none ∧ P e de L') :
    Ct (n + 1) x C args [] L fun v L' => ∃ e de, v = .ref e ∧ (∀ p ∈ L, p.1 < de) ∧ @LT.lt Nat _ de e ∧ P e de L' := by
  intro dp un gd outer base s R B X T N0 hd hu k
  have Xs := X.keeps fun b o e => of_hideAll _ e
  have lt : ∀ p ∈ L, p.1 < s.heap.objs.size := fun p hp => Heap.lt_size (N0 p hp)
  obtain ⟨h, g, d, t, os⟩ := s
  dsimp only at Xs lt N0
  have C0 := I (h.objs.size + 1) h.objs.size (Nat.ne_of_gt (Nat.lt_succ_self _)) (fun p hp => Nat.ne_of_lt (lt p hp)) (fun p hp => Nat.ne_of_lt (Nat.lt_succ_of_lt (lt p hp))) lt rfl
  unfold Ct at C0
  refine make_core (makes_of Xs hm) (looks_findIn Xs hi) (fun self => bind_fn Xs self hf) (.inl rfl) ?_
  have up : ∀ b o, h.get? b = some o → ((h.push emptyDict).push (instObj C h.objs.size)).get? b = some o := fun b o e => Heap.get?_push_of_some _ (Heap.get?_push_of_some _ e)
  have hx : ((h.push emptyDict).push (instObj C h.objs.size)).get? (h.objs.size + 1) = some (instObj C h.objs.size) := by heap_get
  have hdx : ((h.push emptyDict).push (instObj C h.objs.size)).get? h.objs.size = some emptyDict := by heap_get
  have st : ∀ b o, (hideAll h (L.map (·.1))).get? b = some o → (hideAll ((h.push emptyDict).push (instObj C h.objs.size)) (((h.objs.size + 1, instObj C h.objs.size) :: (h.objs.size, emptyDict) :: L).map (·.1))).get? b = some o := fun b o e => by
    have hb := Heap.lt_size (of_hideAll _ e)
    refine hideAll_get _ (up b o (of_hideAll _ e)) fun hm => ?_
    rcases List.mem_cons.mp hm with rfl | hm
    · exact absurd hb (Nat.not_lt.mpr (Nat.le_succ _))
    · rcases List.mem_cons.mp hm with rfl | hm
      · exact absurd hb (Nat.lt_irrefl _)
      · rw [hideAll_none _ hm] at e; cases e
  refine C0 (dp + 1) _ _ outer base _ _ ⟨rfl, fun b o e => st b o (B.stays b o e), B.frames.of_keeps fun b o e _ => ⟨o, st b o e, rfl⟩⟩ (X.keeps st) (T.keeps st) ?hN ?hd ?hu ?k
  case hd => omega
  case hu => (show un + _ + 40 * n < cLine; omega)
  case hN =>
    intro q hq
    rcases List.mem_cons.mp hq with rfl | hq
    · exact hx
    · rcases List.mem_cons.mp hq with rfl | hq
      · exact hdx
      · exact up _ _ (N0 q hq)
  case k =>
    intro v h' tk' L' m' news' F' N' ⟨ev, hp⟩
    subst ev
    refine ⟨rfl, k _ h' tk' L' m' _ ⟨F'.ns, fun b o e => F'.keep b o (st b o e), ?_⟩ (fun q hq => ⟨(N' q hq).1, (N' q hq).2.1, ?_⟩) ⟨_, _, rfl, lt, Nat.lt_succ_self _, hp⟩⟩
    · have := F'.above
      rw [hideAll_size, Heap.size_push, Heap.size_push] at this
      rw [hideAll_size]
      exact Nat.le_trans (Nat.le_add_right _ 2) this
    · cases e : (hideAll h (L.map (·.1))).get? q.1 with
      | none => rfl
      | some o => have := (N' q hq).2.2; rw [st _ _ e] at this; cases this
end
section
-- c_stinit
theorem lines_c_stinit : True := by
  k_with "my off" => (guard_hyp mk51; first | assumption | exact off_lt0 (by assumption) | exact off_lt (by assumption) | exact off_lt (And.right (by assumption)) | exact off_lt (And.right (And.right (by assumption))) | exact off_lt (And.right (And.right (And.right (by assumption)))) | exact off_lt (And.right (And.right (And.right (And.right (by assumption))))) | exact off_lt (And.right (And.right (And.right (And.right (And.right (by assumption)))))))
  k_with "my all" => (guard_hyp mk51; k_extra "my off")
  exact True.intro
theorem c_stinit {x : CX} {L : Led} {e de : Addr} {fc : Addr} (hne : e ≠ de) (hL : ∀ p ∈ L, p.1 ≠ de) (hL2 : ∀ p ∈ L, p.1 ≠ e) (hlt : ∀ p ∈ L, p.1 < de) (he : Nat.succ de = e) :
    Ct 1 x 569 (.ref e :: [.ref fc]) [] ((e, instObj 674 de) :: (de, emptyDict) :: L) fun v L' => v = .none ∧ StI x fc L e de L' := by
  have mk51 := True.intro
  unfold Ct
  k_fill
  k_dflt (refine' ctr_enter (binds := [(Str.ofString "self", .ref e), (Str.ofString "clock", .ref fc)]) (mm := fun y => List.lookup y [(Str.ofString "clock", .ref fc), (Str.ofString "self", .ref e)]) ?k6 ?k7 ?k9 ?kB rfl ?_ ?c2 ?c3 ?c4 ?c5 ?c6; (case k6 => k_is); (case k7 => k_is); (case k9 => first | exact fun s _ => BindsTo.of_eq rfl | exact fun s hX => binds_K hX rfl (by k_is) rfl rfl rfl); (case c5 => decide); (case c6 => decide); (case kB => exact locs rfl); (case c2 => exact rfl); (case c3 => exact rfl); (case c4 => exact rfl); k_whole; intro dp un gd outer base g s L' B X T F N hdp hun; (try dsimp only [DL] at N); (try dsimp only); (try k_fold))
  k_steps
  (refine' EndC.mk ?Fz ?Nz ⟨rfl, _, _, _, _, _, _, _, _, _, _, _, _, _, _, _, ?ez, ?q1, ?q2, ?q3, ?p1, ?p2, ?p3, ?w1, ?w2, ?w3⟩)
  case Fz => k_asm
  case Nz => k_asm
  case ez => rfl
  case q1 => omega
  case q2 => omega
  case q3 => omega
  case p1 => assumption
  case p2 => assumption
  case p3 => assumption
  case w1 => assumption
  case w2 => assumption
  case w3 => assumption
end
section
-- c_itinit
theorem lines_c_itinit : True := by
  k_with "my off" => (guard_hyp mk52; first | assumption | exact off_lt0 (by assumption) | exact off_lt (by assumption) | exact off_lt (And.right (by assumption)) | exact off_lt (And.right (And.right (by assumption))) | exact off_lt (And.right (And.right (And.right (by assumption)))) | exact off_lt (And.right (And.right (And.right (And.right (by assumption))))) | exact off_lt (And.right (And.right (And.right (And.right (And.right (by assumption)))))))
  k_with "my all" => (guard_hyp mk52; k_extra "my off")
  exact True.intro
theorem c_itinit {x : CX} {L : Led} {e de : Addr} {am : Int} {ta tb : Tok} (hne : e ≠ de) (hL : ∀ p ∈ L, p.1 ≠ de) (hL2 : ∀ p ∈ L, p.1 ≠ e) (hlt : ∀ p ∈ L, p.1 < de) (he : Nat.succ de = e) :
    Ct 1 x 434 (.ref e :: [.int am ta, .int 10 tb]) [] ((e, instObj 501 de) :: (de, emptyDict) :: L) fun v L' => v = .none ∧ ItI am L e de L' := by
  have mk52 := True.intro
  unfold Ct
  k_fill
  k_dflt (refine' ctr_enter (binds := [(Str.ofString "self", .ref e), (Str.ofString "amount", .int am ta), (Str.ofString "multiples", .int 10 tb), (Str.ofString "namespace", .str (Str.ofString "LIMITER") 803)]) (mm := fun y => List.lookup y [(Str.ofString "namespace", .str (Str.ofString "LIMITER") 803), (Str.ofString "multiples", .int 10 tb), (Str.ofString "amount", .int am ta), (Str.ofString "self", .ref e)]) ?k6 ?k7 ?k9 ?kB rfl ?_ ?c2 ?c3 ?c4 ?c5 ?c6; (case k6 => k_is); (case k7 => k_is); (case k9 => first | exact fun s _ => BindsTo.of_eq rfl | exact fun s hX => binds_K hX rfl (by k_is) rfl rfl rfl); (case c5 => decide); (case c6 => decide); (case kB => exact locs rfl); (case c2 => exact rfl); (case c3 => exact rfl); (case c4 => exact rfl); k_whole; intro dp un gd outer base g s L' B X T F N hdp hun; (try dsimp only [DL] at N); (try dsimp only); (try k_fold))
  k_steps
  (refine' EndC.mk ?Fz ?Nz ⟨rfl, _, _, _, _, _, _, _, _, _, _, ?ez⟩)
  case Fz => k_asm
  case Nz => k_asm
  case ez => rfl
end
section
-- c_linitf
theorem lines_c_linitf : True := by
  k_with "my off" => (guard_hyp mk53; first | assumption | exact off_lt0 (by assumption) | exact off_lt (by assumption) | exact off_lt (And.right (by assumption)) | exact off_lt (And.right (And.right (by assumption))) | exact off_lt (And.right (And.right (And.right (by assumption)))) | exact off_lt (And.right (And.right (And.right (And.right (by assumption))))) | exact off_lt (And.right (And.right (And.right (And.right (And.right (by assumption)))))))
  k_with "my all" => (guard_hyp mk53; k_extra "my off")
  exact True.intro
theorem c_linitf {x : CX} {L : Led} {e de : Addr} {st : Addr} (hne : e ≠ de) (hL : ∀ p ∈ L, p.1 ≠ de) (hL2 : ∀ p ∈ L, p.1 ≠ e) (hlt : ∀ p ∈ L, p.1 < de) (he : Nat.succ de = e) :
    Ct 1 x 149 (.ref e :: [.ref st]) [] ((e, instObj 241 de) :: (de, emptyDict) :: L) fun v L' => v = .none ∧ ∃ e1 t1 n0, L' = (e, instObj 241 de) :: (de, dictOf [⟨e1, .str (Str.ofString "storage") t1, .ref st⟩] n0) :: L := by
  have mk53 := True.intro
  unfold Ct
  k_fill
  k_dflt (refine' ctr_enter (binds := [(Str.ofString "self", .ref e), (Str.ofString "storage", .ref st)]) (mm := fun y => List.lookup y [(Str.ofString "storage", .ref st), (Str.ofString "self", .ref e)]) ?k6 ?k7 ?k9 ?kB rfl ?_ ?c2 ?c3 ?c4 ?c5 ?c6; (case k6 => k_is); (case k7 => k_is); (case k9 => first | exact fun s _ => BindsTo.of_eq rfl | exact fun s hX => binds_K hX rfl (by k_is) rfl rfl rfl); (case c5 => decide); (case c6 => decide); (case kB => exact locs rfl); (case c2 => exact rfl); (case c3 => exact rfl); (case c4 => exact rfl); k_whole; intro dp un gd outer base g s L' B X T F N hdp hun; (try dsimp only [DL] at N); (try dsimp only); (try k_fold))
  k_steps
  (refine' EndC.mk ?Fz ?Nz ⟨rfl, _, _, _, ?ez⟩)
  case Fz => k_asm
  case Nz => k_asm
  case ez => rfl
end
section
-- c_linitm
theorem lines_c_linitm : True := by
  k_with "my off" => (guard_hyp mk54; first | assumption | exact off_lt0 (by assumption) | exact off_lt (by assumption) | exact off_lt (And.right (by assumption)) | exact off_lt (And.right (And.right (by assumption))) | exact off_lt (And.right (And.right (And.right (by assumption)))) | exact off_lt (And.right (And.right (And.right (And.right (by assumption))))) | exact off_lt (And.right (And.right (And.right (And.right (And.right (by assumption)))))))
  k_with "my all" => (guard_hyp mk54; k_extra "my off")
  exact True.intro
theorem c_linitm {x : CX} {L : Led} {e de : Addr} {st : Addr} (hne : e ≠ de) (hL : ∀ p ∈ L, p.1 ≠ de) (hL2 : ∀ p ∈ L, p.1 ≠ e) (hlt : ∀ p ∈ L, p.1 < de) (he : Nat.succ de = e) :
    Ct 1 x 149 (.ref e :: [.ref st]) [] ((e, instObj 202 de) :: (de, emptyDict) :: L) fun v L' => v = .none ∧ ∃ e1 t1 n0, L' = (e, instObj 202 de) :: (de, dictOf [⟨e1, .str (Str.ofString "storage") t1, .ref st⟩] n0) :: L := by
  have mk54 := True.intro
  unfold Ct
  k_fill
  k_dflt (refine' ctr_enter (binds := [(Str.ofString "self", .ref e), (Str.ofString "storage", .ref st)]) (mm := fun y => List.lookup y [(Str.ofString "storage", .ref st), (Str.ofString "self", .ref e)]) ?k6 ?k7 ?k9 ?kB rfl ?_ ?c2 ?c3 ?c4 ?c5 ?c6; (case k6 => k_is); (case k7 => k_is); (case k9 => first | exact fun s _ => BindsTo.of_eq rfl | exact fun s hX => binds_K hX rfl (by k_is) rfl rfl rfl); (case c5 => decide); (case c6 => decide); (case kB => exact locs rfl); (case c2 => exact rfl); (case c3 => exact rfl); (case c4 => exact rfl); k_whole; intro dp un gd outer base g s L' B X T F N hdp hun; (try dsimp only [DL] at N); (try dsimp only); (try k_fold))
  k_steps
  (refine' EndC.mk ?Fz ?Nz ⟨rfl, _, _, _, ?ez⟩)
  case Fz => k_asm
  case Nz => k_asm
  case ez => rfl
end
section
-- c_linits
theorem lines_c_linits : True := by
  k_with "my off" => (guard_hyp mk55; first | assumption | exact off_lt0 (by assumption) | exact off_lt (by assumption) | exact off_lt (And.right (by assumption)) | exact off_lt (And.right (And.right (by assumption))) | exact off_lt (And.right (And.right (And.right (by assumption)))) | exact off_lt (And.right (And.right (And.right (And.right (by assumption))))) | exact off_lt (And.right (And.right (And.right (And.right (And.right (by assumption)))))))
  k_with "my all" => (guard_hyp mk55; k_extra "my off")
  exact True.intro
theorem c_linits {x : CX} {L : Led} {e de : Addr} {st : Addr} (hne : e ≠ de) (hL : ∀ p ∈ L, p.1 ≠ de) (hL2 : ∀ p ∈ L, p.1 ≠ e) (hlt : ∀ p ∈ L, p.1 < de) (he : Nat.succ de = e) :
    Ct 1 x 149 (.ref e :: [.ref st]) [] ((e, instObj 296 de) :: (de, emptyDict) :: L) fun v L' => v = .none ∧ ∃ e1 t1 n0, L' = (e, instObj 296 de) :: (de, dictOf [⟨e1, .str (Str.ofString "storage") t1, .ref st⟩] n0) :: L := by
  have mk55 := True.intro
  unfold Ct
  k_fill
  k_dflt (refine' ctr_enter (binds := [(Str.ofString "self", .ref e), (Str.ofString "storage", .ref st)]) (mm := fun y => List.lookup y [(Str.ofString "storage", .ref st), (Str.ofString "self", .ref e)]) ?k6 ?k7 ?k9 ?kB rfl ?_ ?c2 ?c3 ?c4 ?c5 ?c6; (case k6 => k_is); (case k7 => k_is); (case k9 => first | exact fun s _ => BindsTo.of_eq rfl | exact fun s hX => binds_K hX rfl (by k_is) rfl rfl rfl); (case c5 => decide); (case c6 => decide); (case kB => exact locs rfl); (case c2 => exact rfl); (case c3 => exact rfl); (case c4 => exact rfl); k_whole; intro dp un gd outer base g s L' B X T F N hdp hun; (try dsimp only [DL] at N); (try dsimp only); (try k_fold))
  k_steps
  (refine' EndC.mk ?Fz ?Nz ⟨rfl, _, _, _, ?ez⟩)
  case Fz => k_asm
  case Nz => k_asm
  case ez => rfl
end
section
-- c_mks
theorem c_mksto {x : CX} {L : Led} {fc : Addr} : Ct 2 x 674 [.ref fc] [] L fun v L' => ∃ e de, v = .ref e ∧ (∀ p ∈ L, p.1 < de) ∧ @LT.lt Nat _ de e ∧ StI x fc L e de L' := by
  unfold Ct
  k_fill
  refine' c_mk (fi := 569) ?hm ?hi ?hf (Nat.le_of_ble_eq_true rfl) (fun e de a b c d f => c_stinit a b c d f)
  case hm => k_is
  case hi => k_is
  case hf => k_is
theorem c_mkit {x : CX} {L : Led} {am : Int} {ta tb : Tok} : Ct 2 x 501 [.int am ta, .int 10 tb] [] L fun v L' => ∃ e de, v = .ref e ∧ (∀ p ∈ L, p.1 < de) ∧ @LT.lt Nat _ de e ∧ ItI am L e de L' := by
  unfold Ct
  k_fill
  refine' c_mk (fi := 434) ?hm ?hi ?hf (Nat.le_of_ble_eq_true rfl) (fun e de a b c d f => c_itinit a b c d f)
  case hm => k_is
  case hi => k_is
  case hf => k_is
theorem c_mkf {x : CX} {L : Led} {st : Addr} : Ct 2 x 241 [.ref st] [] L fun v L' => ∃ e de, v = .ref e ∧ (∀ p ∈ L, p.1 < de) ∧ @LT.lt Nat _ de e ∧ ∃ e1 t1 n0, L' = (e, instObj 241 de) :: (de, dictOf [⟨e1, .str (Str.ofString "storage") t1, .ref st⟩] n0) :: L := by
  unfold Ct
  k_fill
  refine' c_mk (fi := 149) ?hm ?hi ?hf (Nat.le_of_ble_eq_true rfl) (fun e de a b c d f => c_linitf a b c d f)
  case hm => k_is
  case hi => k_is
  case hf => k_is
theorem c_mkm {x : CX} {L : Led} {st : Addr} : Ct 2 x 202 [.ref st] [] L fun v L' => ∃ e de, v = .ref e ∧ (∀ p ∈ L, p.1 < de) ∧ @LT.lt Nat _ de e ∧ ∃ e1 t1 n0, L' = (e, instObj 202 de) :: (de, dictOf [⟨e1, .str (Str.ofString "storage") t1, .ref st⟩] n0) :: L := by
  unfold Ct
  k_fill
  refine' c_mk (fi := 149) ?hm ?hi ?hf (Nat.le_of_ble_eq_true rfl) (fun e de a b c d f => c_linitm a b c d f)
  case hm => k_is
  case hi => k_is
  case hf => k_is
theorem c_mks {x : CX} {L : Led} {st : Addr} : Ct 2 x 296 [.ref st] [] L fun v L' => ∃ e de, v = .ref e ∧ (∀ p ∈ L, p.1 < de) ∧ @LT.lt Nat _ de e ∧ ∃ e1 t1 n0, L' = (e, instObj 296 de) :: (de, dictOf [⟨e1, .str (Str.ofString "storage") t1, .ref st⟩] n0) :: L := by
  unfold Ct
  k_fill
  refine' c_mk (fi := 149) ?hm ?hi ?hf (Nat.le_of_ble_eq_true rfl) (fun e de a b c d f => c_linits a b c d f)
  case hm => k_is
  case hi => k_is
  case hf => k_is
end
section
-- c_limiters
theorem lines_c_limiters : True := by
  k_with "my off" => (guard_hyp mk57; first | assumption | exact off_lt0 (by assumption) | exact off_lt (by assumption) | exact off_lt (And.right (by assumption)) | exact off_lt (And.right (And.right (by assumption))) | exact off_lt (And.right (And.right (And.right (by assumption)))) | exact off_lt (And.right (And.right (And.right (And.right (by assumption))))) | exact off_lt (And.right (And.right (And.right (And.right (And.right (by assumption)))))))
  k_with "my all" => (guard_hyp mk57; k_extra "my off")
  k_with "call ref" => (guard_hyp mk57; (k_here; (with_reducible show wpAny _ _ (call (Value.ref 241) _ _) _ _ _); (k_dflt (show wpAny _ _ (call (Value.ref 241) [Value.ref _] []) _ _ _)); k_dflt (refine' Ctr.call (c_mkf) ?Bq587 ?Fq587 ?Xq587 ?Nq587 ?Tq587 rfl rfl rfl rfl ?hdq587 ?huq587 ?_; (case Nq587 => k_asm); (case Bq587 => k_asm); (case Fq587 => k_asm); (case Xq587 => k_asm); (case Tq587 => k_asm); (case hdq587 => k_extra "my room"); (case huq587 => k_extra "my room")); intro v' h' tk' L2' F' N' hp'; (refine hideG ?_); intro G' hG'; (obtain ⟨D', de', e1', l1', l2', q1', u1', n1', e2'⟩ := hp'); (refine hG' ?_); (clear hG' G'); subst e1' e2'; (try k_lt l1'); (try k_sweep)))
  k_with "call ref" => (guard_hyp mk57; (k_here; (with_reducible show wpAny _ _ (call (Value.ref 202) _ _) _ _ _); (k_dflt (show wpAny _ _ (call (Value.ref 202) [Value.ref _] []) _ _ _)); k_dflt (refine' Ctr.call (c_mkm) ?Bq588 ?Fq588 ?Xq588 ?Nq588 ?Tq588 rfl rfl rfl rfl ?hdq588 ?huq588 ?_; (case Nq588 => k_asm); (case Bq588 => k_asm); (case Fq588 => k_asm); (case Xq588 => k_asm); (case Tq588 => k_asm); (case hdq588 => k_extra "my room"); (case huq588 => k_extra "my room")); intro v' h' tk' L2' F' N' hp'; (refine hideG ?_); intro G' hG'; (obtain ⟨D', de', e1', l1', l2', q1', u1', n1', e2'⟩ := hp'); (refine hG' ?_); (clear hG' G'); subst e1' e2'; (try k_lt l1'); (try k_sweep)))
  k_with "call ref" => (guard_hyp mk57; (k_here; (with_reducible show wpAny _ _ (call (Value.ref 296) _ _) _ _ _); (k_dflt (show wpAny _ _ (call (Value.ref 296) [Value.ref _] []) _ _ _)); k_dflt (refine' Ctr.call (c_mks) ?Bq589 ?Fq589 ?Xq589 ?Nq589 ?Tq589 rfl rfl rfl rfl ?hdq589 ?huq589 ?_; (case Nq589 => k_asm); (case Bq589 => k_asm); (case Fq589 => k_asm); (case Xq589 => k_asm); (case Tq589 => k_asm); (case hdq589 => k_extra "my room"); (case huq589 => k_extra "my room")); intro v' h' tk' L2' F' N' hp'; (refine hideG ?_); intro G' hG'; (obtain ⟨D', de', e1', l1', l2', q1', u1', n1', e2'⟩ := hp'); (refine hG' ?_); (clear hG' G'); subst e1' e2'; (try k_lt l1'); (try k_sweep)))
  exact True.intro
theorem c_limiters {x : CX} {L : Led} {st : Addr} :
    Ct 4 x 683 [.ref st] [] L fun v L' => LmI st L v L' := by
  have mk57 := True.intro
  unfold Ct
  k_fill
  k_dflt (refine' ctr_enter (binds := [(Str.ofString "store", .ref st)]) (mm := fun y => List.lookup y [(Str.ofString "store", .ref st)]) ?k6 ?k7 ?k9 ?kB rfl ?_ ?c2 ?c3 ?c4 ?c5 ?c6; (case k6 => k_is); (case k7 => k_is); (case k9 => first | exact fun s _ => BindsTo.of_eq rfl | exact fun s hX => binds_K hX rfl (by k_is) rfl rfl rfl); (case c5 => decide); (case c6 => decide); (case kB => exact locs rfl); (case c2 => exact rfl); (case c3 => exact rfl); (case c4 => exact rfl); k_whole; intro dp un gd outer base g s L' B X T F N hdp hun; (try dsimp only [DL] at N); (try dsimp only); (try k_fold))
  k_steps
  (refine' EndC.mk ?Fz ?Nz (LmI.mk _ _ _ _ _ _ _ _ _ _ _ _ _ _ _ _ rfl ?lz ?ez ?q1 ?q2 ?q3 ?q4 ?q5 ?q6))
  case Fz => k_asm
  case Nz => k_asm
  case ez => rfl
  case lz => assumption
  case q1 => omega
  case q2 => omega
  case q3 => omega
  case q4 => omega
  case q5 => omega
  case q6 => omega
end
section
-- c_lawA
theorem lines_c_lawA : True := by
  k_with "execs cons" => (guard_hyp mk58; (k_here; (with_reducible show wpAny _ _ (execs _ _) (LawEnd _ _) _ _); (try k_gentoks); (refine execs_hid1 ?_); intro Q1' hQ1'))
  k_with "call ref" => (guard_hyp mk58; (k_here; refine Stop.out ?_))
  k_with "my room" => (guard_hyp mk58; (simp only [depth_under_make, depth_under_kw, depth_in1, depth_deeper, units_in1, units_deeper, Around.mark_units]; (try dsimp only [topA, callerA]); first | omega | decide))
  k_with "subscriptTail Name Constant ref int" => (guard_hyp mk58; (k_here; (with_reducible show wpAny _ _ (subscriptTail _ _ (Value.ref _) (Value.int _ _)) _ _ _); (k_dflt (refine' fast_list ?Nq593 ?mq593 ?zq593 ?vq593 ?_ ?hsq593)); (case Nq593 => k_asm); (case mq593 => with_reducible assumption); (case zq593 => decide); (case vq593 => exact rfl); (case hsq593 => with_unfolding_all rfl)))
  k_with "my nm" => (guard_hyp mk58; first | assumption | (refine (if_neg (by decide)).trans ?_; k_extra "my nm") | exact if_pos rfl)
  k_with "storeName" => (guard_hyp mk58; (k_here; (with_reducible show wpAny _ _ (storeName (envX _ _ _ _ _ _) (Str.ofString "now") _) _ _ _); k_dflt (refine' storeX_C ?Fq595 ?Nq595 ?hcq595 ?Uq595 ?hdq595 ?_; (case Fq595 => k_asm); (case Nq595 => k_asm); (case hcq595 => exact rfl); (case Uq595 => k_updF); (case hdq595 => assumption)); intro h' o' F' N' hc'; (try dsimp only at N')))
  k_with "eval Name" => (guard_hyp mk58; (k_here; (with_reducible show wpAny _ _ (eval (PySem.Expr.Name (Str.ofString "now") _) (envX _ _ _ _ _ _)) _ _ _); k_dflt (refine' nameX_C ?Nq596 ?hcq596 ?hmq596 ?hdq596 ?_; (case Nq596 => k_asm); (case hcq596 => exact rfl); (case hmq596 => k_mem); (case hdq596 => assumption))))
  k_with "my all" => (guard_hyp mk58; first | exact List.forall_mem_nil _ | ((refine List.forall_mem_cons.mpr ⟨?_, ?_⟩); (focus k_ne); k_all))
  k_with "call ref" => (guard_hyp mk58; (k_here; (with_reducible show wpAny _ _ (call (Value.ref 674) _ _) _ _ _); (k_dflt (show wpAny _ _ (call (Value.ref 674) [Value.ref _] []) _ _ _)); k_dflt (refine' Ctr.call (c_mksto) ?Bq598 ?Fq598 ?Xq598 ?Nq598 ?Tq598 rfl rfl rfl rfl ?hdq598 ?huq598 ?_; (case Nq598 => k_asm); (case Bq598 => k_asm); (case Fq598 => k_asm); (case Xq598 => k_asm); (case Tq598 => k_asm); (case hdq598 => k_extra "my room"); (case huq598 => k_extra "my room")); intro v' h' tk' L2' F' N' hp'; (refine hideG ?_); intro G' hG'; (obtain ⟨D', de', e1', l1', l2', q1', q2', q3', p1', p2', p3', w1', w2', w3', w4', u1', u2', u3', u4', n1', e2', o1', o2', o3', r1', r2', r3', y1', y2', y3'⟩ := hp'); (refine hG' ?_); (clear hG' G'); subst e1' e2'; (try k_lt l1'); (try k_sweep)))
  k_with "call ref" => (guard_hyp mk58; (k_here; (with_reducible show wpAny _ _ (call (Value.ref 501) _ _) _ _ _); (k_dflt (show wpAny _ _ (call (Value.ref 501) [Value.int _ _, Value.int 10 _] []) _ _ _)); k_dflt (refine' Ctr.call (c_mkit) ?Bq599 ?Fq599 ?Xq599 ?Nq599 ?Tq599 rfl rfl rfl rfl ?hdq599 ?huq599 ?_; (case Nq599 => k_asm); (case Bq599 => k_asm); (case Fq599 => k_asm); (case Xq599 => k_asm); (case Tq599 => k_asm); (case hdq599 => k_extra "my room"); (case huq599 => k_extra "my room")); intro v' h' tk' L2' F' N' hp'; (refine hideG ?_); intro G' hG'; (obtain ⟨D', de', e1', l1', l2', q1', q2', q3', w1', w2', w3', w4', w5', w6', n1', e2'⟩ := hp'); (refine hG' ?_); (clear hG' G'); subst e1' e2'; (try k_lt l1'); (try k_sweep)))
  k_with "call ref" => (guard_hyp mk58; (k_here; (with_reducible show wpAny _ _ (call (Value.ref 683) _ _) _ _ _); (k_dflt (show wpAny _ _ (call (Value.ref 683) [Value.ref _] []) _ _ _)); k_dflt (refine' Ctr.call (c_limiters) ?Bq600 ?Fq600 ?Xq600 ?Nq600 ?Tq600 rfl rfl rfl rfl ?hdq600 ?huq600 ?_; (case Nq600 => k_asm); (case Bq600 => k_asm); (case Fq600 => k_asm); (case Xq600 => k_asm); (case Tq600 => k_asm); (case hdq600 => k_extra "my room"); (case huq600 => k_extra "my room")); intro v' h' tk' L2' F' N' hp'; (refine hideG ?_); intro G' hG'; (obtain ⟨l', d0', l0', d1', l1', d2', l2', q0', w0', n0', q1', w1', n1', q2', w2', n2', e1', lt', e2', z1', z2', z3', z4', z5', z6'⟩ := hp'); (refine hG' ?_); (clear hG' G'); subst e1' e2'; (try k_lt lt'); (try k_sweep)))
  k_with "execs cons For cons" => (guard_hyp mk58; (k_here; refine Stop.out ?_))
  exact True.intro
theorem c_lawA {fa : Addr} {x : CX} {g : Heap} {s : Shared} {L a : Addr} {vs : List Value} {ns : List Int} {ov : Obj} (B : Below callerA g [] g) (X : Frag.In (Mine.hd.heap_1 x.w.params) g) (T : Top x.p x.loose x.mean x.mg x.mb g) (hl : g.IsList a vs.toArray) (hi : IntsAre vs ns) (hlay : (PyData.list (ns.map .int)).layable0 = true) (hlen : ¬ ((63 : Int) < (ns.length : Int))) (hov : ov.data = .cell none)
    (F : Fr g L s.heap (fun y => if y = Str.ofString "script" then some (.ref a) else none)) (N : News g L s.heap [(L + 1, ov), (623, tabObj #[]), (692, tabObj #[])]) (h7 : @LE.le Nat _ 693 L) :
    Body x 695 0 (LawG x fa g L s s) := by
  have mk58 := True.intro
  unfold Body LawG
  k_fill
  refine' Body.mk2 (W := LawG x fa g L s s) (k := 0) ?ho ?_
  case ho => k_is
  intro hBody
  have CH := codeHd_of_K (c := 627) (P := 623) X (by kernel_rfl)
  have CH2 := codeHd_of_K (c := 694) (P := 692) X (by kernel_rfl)
  dsimp only [List.drop, LawG]
  k_steps
  unfold Stop
  k_dflt (refine' BodyAt.use ?zA ?zg (c_glue ?zw1 ?zw2 ?zw3 ?zs ?zB ?zX ?zT ?zF ?zm1 ?zm2 ?zm3 ?zm4 ?zm5 ?zN ?zclk ?zhon ?zi1 ?zi2 ?zi3 ?zy1 ?zy2 ?zy3 ?zo0 ?zo1 ?zo2 ?zo3 ?zo4 ?zo5 ?zo6 ?zo7 ?zo8 ?zo9 ?zoA ?zoB ?zoC ?zoD ?zoE ?zoF ?zoG ?zoH ?zoI ?zoJ ?zoK ?zoL))
  case zA => assumption
  case zg => exact fun h => h
  case zs => exact ⟨_, _, rfl⟩
  case zB => k_asm
  case zX => k_asm
  case zT => k_asm
  case zF => k_asm
  case zN => k_asm
  case zw1 => rfl
  case zw2 => rfl
  case zw3 => rfl
  case zm1 => k_extra "my nm"
  case zm2 => k_extra "my nm"
  case zm3 => k_extra "my nm"
  case zm4 => k_extra "my nm"
  case zm5 => k_extra "my nm"
  case zhon => assumption
  case zi1 => assumption
  case zi2 => assumption
  case zi3 => assumption
  case zy1 => assumption
  case zy2 => assumption
  case zy3 => assumption
  case zo0 => first | assumption | exact And.left (by assumption)
  case zo1 => first | assumption | exact And.left (by assumption)
  case zo2 => first | assumption | exact And.left (by assumption)
  case zo3 => first | assumption | exact And.left (by assumption)
  case zo4 => first | assumption | exact And.left (by assumption)
  case zo5 => first | assumption | exact And.left (by assumption)
  case zo6 => first | assumption | exact And.left (by assumption)
  case zo7 => first | assumption | exact And.left (by assumption)
  case zo8 => first | assumption | exact And.left (by assumption)
  case zo9 => first | assumption | exact And.left (by assumption)
  case zoA => first | assumption | exact And.left (by assumption)
  case zoB => first | assumption | exact And.left (by assumption)
  case zoC => first | assumption | exact And.left (by assumption)
  case zoD => first | assumption | exact And.left (by assumption)
  case zoE => first | assumption | exact And.left (by assumption)
  case zoF => first | assumption | exact And.left (by assumption)
  case zoG => first | assumption | exact And.left (by assumption)
  case zoH => first | assumption | exact And.left (by assumption)
  case zoI => first | assumption | exact And.left (by assumption)
  case zoJ => first | assumption | exact And.left (by assumption)
  case zoK => first | assumption | exact And.left (by assumption)
  case zoL => first | assumption | exact And.left (by assumption)
  case zclk =>
    intro Lx nw tz kz m1 m2 m3 m4
    clear B
    unfold Ct
    k_fill
    k_dflt (refine' ctr_enterL (binds := []) (mm := fun y => List.lookup y []) ?k6 ?k7 ?k8 ?k8b ?k9 ?kB rfl ?_ ?c2 ?c3 ?c4 ?c5 ?c6; (case k6 => assumption); (case k7 => assumption); (case k8 => assumption); (case k8b => assumption); (case k9 => exact rfl); (case c5 => decide); (case c6 => decide); (case kB => exact locs rfl); (case c2 => exact rfl); (case c3 => exact rfl); (case c4 => exact rfl); k_whole; intro dp un gd outer base g s L' B X T F N hdp hun; (try dsimp only); (try k_fold))
    k_steps
    exact EndC.mk (by k_asm) (by k_asm) ⟨rfl, _, rfl⟩
end
end
end Mine
namespace Mine
theorem law_join {fa : Addr} {x : CX} {g : Heap} {s : Shared} {L a : Addr} {vs : List Value} {ns : List Int} {ov : Obj} {Q : Flow → Shared → Prop} {E : Value → Shared → Prop} {oc : Value} {od : Option Addr} {osl : Array (Option Value)} {name qual : Str} {params : Arguments} {body : List Stmt} {scope : Scope} {dV kV doc pm cdv ct : Value} {an : Option Addr}
    (B : Below callerA g [] g) (X : Frag.In (Mine.hd.heap_1 x.w.params) g) (T : Top x.p x.loose x.mean x.mg x.mb g) (hl : g.IsList a vs.toArray) (hi : IntsAre vs ns) (hlay : (PyData.list (ns.map .int)).layable0 = true) (hlen : ¬ ((63 : Int) < (ns.length : Int))) (hov : ov.data = .cell none)
    (F : Fr g L s.heap (fun y => if y = Str.ofString "script" then some (.ref a) else none)) (N : News g L s.heap [(L + 1, ov), (623, tabObj #[]), (692, tabObj #[])]) (h7 : @LE.le Nat _ 693 L)
    (ho : List.lookup 695 (Mine.hd.heap_1 x.w.params) = some ⟨oc, od, .func (fnOf name qual params body scope dV kV doc pm an cdv ct), osl⟩) (post : ∀ fl s', LawEnd g s fl s' → Q fl s') :
    wpAny (model PySem.Challenge.rw_jj0018_01.row.prog x.w) (callerA.deeper (envX (Str.ofString "law") scope L fa (.ref 694) [(Str.ofString "now", L + 1)])) (execs body (envX (Str.ofString "law") scope L fa (.ref 694) [(Str.ofString "now", L + 1)])) Q E s :=
  wpAny_mono (Body.use (c_lawA B X T hl hi hlay hlen hov F N h7) ho) post (fun _ _ f => f.elim)
namespace fin
theorem tw9703995961882730528 : True := trivial
theorem tw12740692763255036000 : True := trivial
theorem tw10928285183364737184 : True := trivial
theorem tw18105285910621931680 : True := trivial
theorem tw5634151482396758240 : True := trivial
theorem tw6435670951450185984 : True := trivial
theorem tw10599938827571368224 : True := trivial
theorem tw4209717502836232480 : True := trivial
theorem tw3506512066687448480 : True := trivial
theorem tw3767311804947220896 : True := trivial
theorem tw828056024939588000 : True := trivial
theorem tw4640724917100965312 : True := trivial
theorem tw17801579834951734752 : True := trivial
theorem tw14109310954907245088 : True := trivial
theorem tw2523478847598653984 : True := trivial
theorem tw13119895379190043232 : True := trivial
theorem tw15913912297419572864 : True := trivial
theorem tw17701328389417463424 : True := trivial
theorem tw799341379326975648 : True := trivial
theorem tw6515953530934532768 : True := trivial
theorem tw9757074474933493440 : True := trivial
theorem tw2516017022742817472 : True := trivial
theorem tw8656503046869711584 : True := trivial
theorem tw13718649260633737024 : True := trivial
theorem tw11325060847842403200 : True := trivial
theorem tw8058895272353334144 : True := trivial
theorem tw11298980531735778240 : True := trivial
theorem tw9883050511414546368 : True := trivial
theorem tw11192643925408225281 : True := trivial
theorem tw2204852077615127585 : True := trivial
theorem tw7522001649326652513 : True := trivial
theorem tw6220327705178566785 : True := trivial
theorem tw11293339424137598113 : True := trivial
theorem tw11575174756993882273 : True := trivial
theorem tw2885147992704089249 : True := trivial
theorem tw12487371901255815361 : True := trivial
theorem tw15153159077126877473 : True := trivial
theorem tw7249652514872940865 : True := trivial
theorem tw15566928917628492161 : True := trivial
theorem tw15815952407149668801 : True := trivial
theorem tw13582292425324344769 : True := trivial
theorem tw4443050520305737185 : True := trivial
theorem tw14838103818555229697 : True := trivial
theorem tw1545086475593560577 : True := trivial
theorem tw452842511749404161 : True := trivial
theorem tw5647864574477489665 : True := trivial
theorem tw9508293364712189505 : True := trivial
theorem tw10850621001676330593 : True := trivial
theorem tw945457799607111265 : True := trivial
theorem tw9509447333196811905 : True := trivial
theorem tw11772964195913830049 : True := trivial
theorem tw11414119711712004833 : True := trivial
theorem tw3794220679723124481 : True := trivial
theorem tw15205425988870721313 : True := trivial
theorem tw8408514402456403777 : True := trivial
theorem tw4440197508161821537 : True := trivial
theorem tw18105942590061964161 : True := trivial
theorem tw4928979718650693569 : True := trivial
theorem tw8119881530291889089 : True := trivial
theorem tw10478924771774928865 : True := trivial
theorem tw5486226609284752418 : True := trivial
theorem tw17717364068325071970 : True := trivial
theorem tw9962418760945406050 : True := trivial
theorem tw5106123347721008290 : True := trivial
theorem tw8775384921122389154 : True := trivial
theorem tw9357874355931990178 : True := trivial
theorem tw15675102808854859970 : True := trivial
theorem tw12448240930570709186 : True := trivial
theorem tw5689665320540551426 : True := trivial
theorem tw3373110491918621954 : True := trivial
theorem tw8018989035897545986 : True := trivial
theorem tw6815667921103612162 : True := trivial
theorem tw13337293482115323266 : True := trivial
theorem tw10829458402184033698 : True := trivial
theorem tw10699407837109476802 : True := trivial
theorem tw7816886789376521730 : True := trivial
theorem tw7995428538843987458 : True := trivial
theorem tw12454092890298587682 : True := trivial
theorem tw16503470079419688546 : True := trivial
theorem tw2824846461999071874 : True := trivial
theorem tw10696652717036330658 : True := trivial
theorem tw10194128795564708546 : True := trivial
theorem tw3246839028233683650 : True := trivial
theorem tw11869342324683393730 : True := trivial
theorem tw16488607150827929282 : True := trivial
theorem tw4910921440188858082 : True := trivial
theorem tw12180539936304867106 : True := trivial
theorem tw18255404467826089762 : True := trivial
theorem tw13469397999491448738 : True := trivial
theorem tw4769821431679368130 : True := trivial
theorem tw12962497063298326498 : True := trivial
theorem tw18082680734076937219 : True := trivial
theorem tw4424551920762525699 : True := trivial
theorem tw13574545013463194659 : True := trivial
theorem tw18011332887955570755 : True := trivial
theorem tw13467322939085005891 : True := trivial
theorem tw8590288500278120515 : True := trivial
theorem tw2185935427153128515 : True := trivial
theorem tw17314879045244329059 : True := trivial
theorem tw17149882997012438147 : True := trivial
theorem tw17881394067367492771 : True := trivial
theorem tw4992356995671143779 : True := trivial
theorem tw17344510285554748771 : True := trivial
theorem tw8151358987872166243 : True := trivial
theorem tw4170516301191304579 : True := trivial
theorem tw14968146878001746339 : True := trivial
theorem tw3023385222666876323 : True := trivial
theorem tw7930893340574950883 : True := trivial
theorem tw584112131590315491 : True := trivial
theorem tw9113340658982188547 : True := trivial
theorem tw17465016565071970851 : True := trivial
theorem tw13066358836101814915 : True := trivial
theorem tw16115155874713506467 : True := trivial
theorem tw5402249366112354979 : True := trivial
theorem tw11454252539852477091 : True := trivial
theorem tw3762306804915933987 : True := trivial
theorem tw4124276233288881987 : True := trivial
theorem tw15989303212955285315 : True := trivial
theorem tw11147117730913898307 : True := trivial
theorem tw2896703901015224195 : True := trivial
theorem tw12135189313929291683 : True := trivial
theorem tw16892666456041662371 : True := trivial
theorem tw1903126291601959907 : True := trivial
theorem tw11707752901727499235 : True := trivial
theorem tw11151619158091525091 : True := trivial
theorem tw8511326990415419460 : True := trivial
theorem tw6667815254911646788 : True := trivial
theorem tw8088732932480780420 : True := trivial
theorem tw7786677914034681988 : True := trivial
theorem tw11462241541112437924 : True := trivial
theorem tw16826406512741365924 : True := trivial
theorem tw9825859731914700964 : True := trivial
theorem tw17132207802985990308 : True := trivial
theorem tw14345562132136545540 : True := trivial
theorem tw6388184931127306564 : True := trivial
theorem tw15846704840505152836 : True := trivial
theorem tw12979919090201106820 : True := trivial
theorem tw10567028658651823492 : True := trivial
theorem tw8629152706101051812 : True := trivial
theorem tw16912196016219973028 : True := trivial
theorem tw10708223146118651492 : True := trivial
theorem tw11309971608317499012 : True := trivial
theorem tw2775396313129547428 : True := trivial
theorem tw2995622967998787300 : True := trivial
theorem tw6620434350048004 : True := trivial
theorem tw3302319216010004292 : True := trivial
theorem tw848606289541702500 : True := trivial
theorem tw11395320378806372228 : True := trivial
theorem tw17963964198891936676 : True := trivial
theorem tw14257018576560825284 : True := trivial
theorem tw18099640592841667524 : True := trivial
theorem tw1560641971993327685 : True := trivial
theorem tw7716820226725407877 : True := trivial
theorem tw6227736768552902789 : True := trivial
theorem tw2367325634123391141 : True := trivial
theorem tw7929640520542984453 : True := trivial
theorem tw10818889477481085253 : True := trivial
theorem tw5585719645790517573 : True := trivial
theorem tw8053913732961167717 : True := trivial
theorem tw3523348777828740581 : True := trivial
theorem tw8269367382603917829 : True := trivial
theorem tw612862322836996645 : True := trivial
theorem tw6956187926921108005 : True := trivial
theorem tw14578271805448956485 : True := trivial
theorem tw13501502787908985413 : True := trivial
theorem tw14979938633740849765 : True := trivial
theorem tw3906754673857718949 : True := trivial
theorem tw6474043946942992101 : True := trivial
theorem tw5102460946473063141 : True := trivial
theorem tw10580649940836474597 : True := trivial
theorem tw10007411396671696613 : True := trivial
theorem tw2305881189932309285 : True := trivial
theorem tw448459338275823397 : True := trivial
theorem tw7613857476909055813 : True := trivial
theorem tw13925877587632400325 : True := trivial
theorem tw7613945582906998725 : True := trivial
theorem tw11273041486466551846 : True := trivial
theorem tw12833947400113492166 : True := trivial
theorem tw10895054467252067526 : True := trivial
theorem tw16275787546110486726 : True := trivial
theorem tw14336544582882092262 : True := trivial
theorem tw3788772014149755174 : True := trivial
theorem tw12669758225909598566 : True := trivial
theorem tw17356987340757268870 : True := trivial
theorem tw1951045429614898598 : True := trivial
theorem tw3863403702602939814 : True := trivial
theorem tw17637551073024348614 : True := trivial
theorem tw7033882931294258662 : True := trivial
theorem tw2441168790927817222 : True := trivial
theorem tw13635414795387738630 : True := trivial
theorem tw15523922138108190246 : True := trivial
theorem tw3199103547748192838 : True := trivial
theorem tw17130245016438642246 : True := trivial
theorem tw605774654952010374 : True := trivial
theorem tw4924110625330727750 : True := trivial
theorem tw15069271281064182630 : True := trivial
theorem tw10807920368746810246 : True := trivial
theorem tw1209720653154232198 : True := trivial
theorem tw5978438607452443526 : True := trivial
theorem tw4171678462856256454 : True := trivial
theorem tw6872408275531757542 : True := trivial
theorem tw13295704053362595847 : True := trivial
theorem tw12741526300851653767 : True := trivial
theorem tw15019234207855213703 : True := trivial
theorem tw273201369580953799 : True := trivial
theorem tw11338875618241718471 : True := trivial
theorem tw8577089030196625639 : True := trivial
theorem tw11277597615667878183 : True := trivial
theorem tw18176387895596863783 : True := trivial
theorem tw12696600883282566439 : True := trivial
theorem tw8330952907988395303 : True := trivial
theorem tw12118000046449163591 : True := trivial
theorem tw10043950574865488231 : True := trivial
theorem tw15243534294739168615 : True := trivial
theorem tw2565351972500760935 : True := trivial
theorem tw416177051242630535 : True := trivial
theorem tw9218923581257491847 : True := trivial
theorem tw10770419977021028743 : True := trivial
theorem tw15238337123492228519 : True := trivial
theorem tw17123178472405020103 : True := trivial
theorem tw14297971457927632359 : True := trivial
theorem tw12409915417874342407 : True := trivial
theorem tw3112429581023547943 : True := trivial
theorem tw10383673109516279431 : True := trivial
theorem tw2103456241558337223 : True := trivial
theorem tw12403690455625630471 : True := trivial
theorem tw13360279666012451719 : True := trivial
theorem tw2687768774938457991 : True := trivial
theorem tw14856888987745899463 : True := trivial
theorem tw1035503724928835527 : True := trivial
theorem tw15692133788150570983 : True := trivial
theorem tw1976505206021243879 : True := trivial
theorem tw14899709244077398024 : True := trivial
theorem tw14279960228734115912 : True := trivial
theorem tw947276838399291496 : True := trivial
theorem tw12586190556516072552 : True := trivial
theorem tw7380833856163905736 : True := trivial
theorem tw17144277194182529224 : True := trivial
theorem tw14679806638718605512 : True := trivial
theorem tw12494888245299231016 : True := trivial
theorem tw11466478281803324712 : True := trivial
theorem tw2086631506510373192 : True := trivial
theorem tw8622160174418277736 : True := trivial
theorem tw6380807493870290408 : True := trivial
theorem tw4040260094072895976 : True := trivial
theorem tw6485783843944922600 : True := trivial
theorem tw12757720458447036936 : True := trivial
theorem tw2976117146107443816 : True := trivial
theorem tw14431720936831517352 : True := trivial
theorem tw1625080806587739848 : True := trivial
theorem tw11897717083992391400 : True := trivial
theorem tw15225332579556243176 : True := trivial
theorem tw6525817661751114472 : True := trivial
theorem tw15149952090015108872 : True := trivial
theorem tw8919302590299486024 : True := trivial
theorem tw3974152918291533672 : True := trivial
theorem tw428092273266315144 : True := trivial
theorem tw3125960719983571848 : True := trivial
theorem tw1105837973531982728 : True := trivial
theorem tw999798209818781672 : True := trivial
theorem tw1422313219903470601 : True := trivial
theorem tw12946824338688289833 : True := trivial
theorem tw9059937348426287209 : True := trivial
theorem tw6061592489118403721 : True := trivial
theorem tw3343445320678177929 : True := trivial
theorem tw17220895691602665673 : True := trivial
theorem tw15533503492667675913 : True := trivial
theorem tw7021976415091001641 : True := trivial
theorem tw1921165311934587177 : True := trivial
theorem tw10671828304227620169 : True := trivial
theorem tw12612204703400128841 : True := trivial
theorem tw14165584387687976329 : True := trivial
theorem tw1921391257341544841 : True := trivial
theorem tw10372454290965829033 : True := trivial
theorem tw16867096813858660809 : True := trivial
theorem tw7636574776371312073 : True := trivial
theorem tw14995081694147124713 : True := trivial
theorem tw10281396178488509929 : True := trivial
theorem tw16656299143469825513 : True := trivial
theorem tw15234240111613058569 : True := trivial
theorem tw1195334901915552329 : True := trivial
theorem tw4684940682943077961 : True := trivial
theorem tw9735714214384596553 : True := trivial
theorem tw12868640280835112553 : True := trivial
theorem tw3004984022683251337 : True := trivial
theorem tw17570709534508481193 : True := trivial
theorem tw8352470293576582857 : True := trivial
theorem tw2046393882495617769 : True := trivial
theorem tw9387745189664136937 : True := trivial
theorem tw16196181902256332553 : True := trivial
theorem tw3432132637015033673 : True := trivial
theorem tw16125780511175521129 : True := trivial
theorem tw10504543856557348713 : True := trivial
theorem tw7830629276484211593 : True := trivial
theorem tw14855157385224911753 : True := trivial
theorem tw16269368082590959529 : True := trivial
theorem tw4002333041265778665 : True := trivial
theorem tw11953781441336167498 : True := trivial
theorem tw10852849658779182186 : True := trivial
theorem tw16906536467411238026 : True := trivial
theorem tw757079261281740938 : True := trivial
theorem tw4538191230965241994 : True := trivial
theorem tw884059145510264010 : True := trivial
theorem tw7468727024169554154 : True := trivial
theorem tw16570786720924097770 : True := trivial
theorem tw6081921254191324426 : True := trivial
theorem tw8559517257967667466 : True := trivial
theorem tw13898374239775968522 : True := trivial
theorem tw14637358334870819178 : True := trivial
theorem tw10084629386211731818 : True := trivial
theorem tw12149302876761508202 : True := trivial
theorem tw1348009686575996458 : True := trivial
theorem tw5920281757701029450 : True := trivial
theorem tw4329306826757983850 : True := trivial
theorem tw6113989636485653130 : True := trivial
theorem tw2556814553914141322 : True := trivial
theorem tw4868334931027891882 : True := trivial
theorem tw4613182775407389354 : True := trivial
theorem tw4337157586716928682 : True := trivial
theorem tw2866121171748074186 : True := trivial
theorem tw10790007923984976650 : True := trivial
theorem tw12711679700452659978 : True := trivial
theorem tw14568449535678555946 : True := trivial
theorem tw17186005699333237546 : True := trivial
theorem tw14139026862911339306 : True := trivial
theorem tw17461915456910197578 : True := trivial
theorem tw4588413851689716618 : True := trivial
theorem tw10874316729293906858 : True := trivial
theorem tw14560573928864763818 : True := trivial
theorem tw2320886540369039338 : True := trivial
theorem tw12284014389350100970 : True := trivial
theorem tw14239432107786713131 : True := trivial
theorem tw5593514722818144331 : True := trivial
theorem tw3026937380112023659 : True := trivial
theorem tw10242451874928486539 : True := trivial
theorem tw13870153662132920491 : True := trivial
theorem tw857469055436470443 : True := trivial
theorem tw8399098705505230059 : True := trivial
theorem tw373065315874586923 : True := trivial
theorem tw17821466097196317003 : True := trivial
theorem tw14210890002308233579 : True := trivial
theorem tw2067723777617599883 : True := trivial
theorem tw18164189302063226315 : True := trivial
theorem tw11209750170652599755 : True := trivial
theorem tw7661832156752021035 : True := trivial
theorem tw16285329926789087883 : True := trivial
theorem tw17567850324905474699 : True := trivial
theorem tw15741700470354863883 : True := trivial
theorem tw17535827442545306379 : True := trivial
theorem tw12580147959424536363 : True := trivial
theorem tw15523924160545744683 : True := trivial
theorem tw5962627729488381771 : True := trivial
theorem tw12809788781938459499 : True := trivial
theorem tw17416127249078093707 : True := trivial
theorem tw6449190631224713292 : True := trivial
theorem tw8569027658895312972 : True := trivial
theorem tw1963134401048803436 : True := trivial
theorem tw13566729865485783148 : True := trivial
theorem tw17347454772498655404 : True := trivial
theorem tw9524518906428321964 : True := trivial
theorem tw16496857829328116044 : True := trivial
theorem tw8776770756819070316 : True := trivial
theorem tw3597285623890379148 : True := trivial
theorem tw6207176494656529804 : True := trivial
theorem tw4217414874291451276 : True := trivial
theorem tw7028063314416541132 : True := trivial
theorem tw15273852366172491244 : True := trivial
theorem tw1206694682578267724 : True := trivial
theorem tw14315063267606007404 : True := trivial
theorem tw15144710454662140524 : True := trivial
theorem tw5734618986648460908 : True := trivial
theorem tw803859442106103436 : True := trivial
theorem tw10070804522480449196 : True := trivial
theorem tw6846200578177281708 : True := trivial
theorem tw6634307039904815820 : True := trivial
theorem tw1324748791087667916 : True := trivial
theorem tw10091234832980417260 : True := trivial
theorem tw10196768644732416780 : True := trivial
theorem tw12356021495744459628 : True := trivial
theorem tw18295790063311454060 : True := trivial
theorem tw1766193274316824492 : True := trivial
theorem tw18404063521330658252 : True := trivial
theorem tw266292477781368812 : True := trivial
theorem tw12072802829135307789 : True := trivial
theorem tw13278809456085556237 : True := trivial
theorem tw17108682257543074861 : True := trivial
theorem tw12876116671307685997 : True := trivial
theorem tw7518579229450374285 : True := trivial
theorem tw4833179351181384845 : True := trivial
theorem tw8289400949097046189 : True := trivial
theorem tw295240868970151085 : True := trivial
theorem tw16942589642869331117 : True := trivial
theorem tw6848912972918003917 : True := trivial
theorem tw16109372258727991565 : True := trivial
theorem tw16497079637816224013 : True := trivial
theorem tw16530489862217454893 : True := trivial
theorem tw13093503161671486093 : True := trivial
theorem tw2617349483901765261 : True := trivial
theorem tw13217662176923290317 : True := trivial
theorem tw14021872759519490765 : True := trivial
theorem tw7845872953664198349 : True := trivial
theorem tw1202912048536075021 : True := trivial
theorem tw8075192146702601997 : True := trivial
theorem tw12213959854548171597 : True := trivial
theorem tw5011121235533021005 : True := trivial
theorem tw6531376189190222733 : True := trivial
theorem tw9001875181463519149 : True := trivial
theorem tw3029852977388229646 : True := trivial
theorem tw12292906935544458286 : True := trivial
theorem tw4950403968356008110 : True := trivial
theorem tw12557769604369416430 : True := trivial
theorem tw7022806388564383982 : True := trivial
theorem tw2304379251839397102 : True := trivial
theorem tw9913140749668108558 : True := trivial
theorem tw16593498308125037870 : True := trivial
theorem tw9436597474664901934 : True := trivial
theorem tw6381419901266130222 : True := trivial
theorem tw3752056022367304142 : True := trivial
theorem tw17830361364027725262 : True := trivial
theorem tw1213908355484861934 : True := trivial
theorem tw8614737586434602478 : True := trivial
theorem tw17656766251404061198 : True := trivial
theorem tw1982079694162106894 : True := trivial
theorem tw6566618420281934 : True := trivial
theorem tw10939691994893167182 : True := trivial
theorem tw2145012663239829070 : True := trivial
theorem tw7684487725183542926 : True := trivial
theorem tw14166196953294261902 : True := trivial
theorem tw3211687289105081006 : True := trivial
theorem tw17743408960866722510 : True := trivial
theorem tw7319501015663598286 : True := trivial
theorem tw1450881378762983150 : True := trivial
theorem tw7675655780812522254 : True := trivial
theorem tw17809232949079649038 : True := trivial
theorem tw2512408688544751470 : True := trivial
theorem tw5897612983314593646 : True := trivial
theorem tw14449560505687523246 : True := trivial
theorem tw5792265106169080782 : True := trivial
theorem tw14728723275428758510 : True := trivial
theorem tw18004827428879835118 : True := trivial
theorem tw17197158672614542318 : True := trivial
theorem tw15083174532876359662 : True := trivial
theorem tw11154830654865731599 : True := trivial
theorem tw13929302177132474383 : True := trivial
theorem tw10391319463526535247 : True := trivial
theorem tw606319199633517647 : True := trivial
theorem tw3939050589584296047 : True := trivial
theorem tw1535588207084551279 : True := trivial
theorem tw17495881415371897999 : True := trivial
theorem tw11277574374343807151 : True := trivial
theorem tw4716181948101807 : True := trivial
theorem tw2415902012162501839 : True := trivial
theorem tw11819170096642289871 : True := trivial
theorem tw2603282792292808943 : True := trivial
theorem tw7000300075881102575 : True := trivial
theorem tw15942684835789789487 : True := trivial
theorem tw16429022384663243119 : True := trivial
theorem tw3268265519342814607 : True := trivial
theorem tw2277568627679802767 : True := trivial
theorem tw6323506392446703087 : True := trivial
theorem tw2671655128345628175 : True := trivial
theorem tw17511047464938703439 : True := trivial
theorem tw12283613380358538863 : True := trivial
theorem tw10656291684629039791 : True := trivial
theorem tw10469515968555745039 : True := trivial
theorem tw17234587430967350031 : True := trivial
theorem tw13021059552284102479 : True := trivial
theorem tw4395496475954998127 : True := trivial
theorem tw4145619633490157487 : True := trivial
theorem tw14786503066443513839 : True := trivial
theorem tw3193646187698272336 : True := trivial
theorem tw7336344344812659824 : True := trivial
theorem tw3550807849831375056 : True := trivial
theorem tw6454446336052903152 : True := trivial
theorem tw7844069586390513008 : True := trivial
theorem tw11989984593139433840 : True := trivial
theorem tw1281744992317467088 : True := trivial
theorem tw423345284130997744 : True := trivial
theorem tw13790858721211988464 : True := trivial
theorem tw12996517811204074000 : True := trivial
theorem tw3222278782482380304 : True := trivial
theorem tw9221430085559818832 : True := trivial
theorem tw982560976839675504 : True := trivial
theorem tw13815853411582834384 : True := trivial
theorem tw12751662967071866640 : True := trivial
theorem tw10998343915150870288 : True := trivial
theorem tw2321816554428607280 : True := trivial
theorem tw1635022588487117616 : True := trivial
theorem tw500868675978126160 : True := trivial
theorem tw13383306551100868464 : True := trivial
theorem tw13162651487661262736 : True := trivial
theorem tw16958243865122950064 : True := trivial
theorem tw5372875611105449904 : True := trivial
theorem tw3885313090954376144 : True := trivial
theorem tw5230622158679508976 : True := trivial
theorem tw11336253725339858928 : True := trivial
theorem tw4806268862455609328 : True := trivial
theorem tw3541825141892303889 : True := trivial
theorem tw1252854909445205041 : True := trivial
theorem tw3173534031939492945 : True := trivial
theorem tw4312942655851389009 : True := trivial
theorem tw15094949803261831281 : True := trivial
theorem tw1709551657539720305 : True := trivial
theorem tw8660049834305141905 : True := trivial
theorem tw12458955589063782577 : True := trivial
theorem tw6113892759573084369 : True := trivial
theorem tw2462912638960843985 : True := trivial
theorem tw15396384818603876561 : True := trivial
theorem tw5098551885099359569 : True := trivial
theorem tw18387650150990424433 : True := trivial
theorem tw16375469754199864689 : True := trivial
theorem tw17869975865946814897 : True := trivial
theorem tw480829909506669009 : True := trivial
theorem tw5523082835119374833 : True := trivial
theorem tw15832999045522443761 : True := trivial
theorem tw220677088936066577 : True := trivial
theorem tw11750646167744613905 : True := trivial
theorem tw11414674201277728305 : True := trivial
theorem tw17911201065640838737 : True := trivial
theorem tw14667941539000003185 : True := trivial
theorem tw3404873503106905745 : True := trivial
theorem tw11346557470443003569 : True := trivial
theorem tw5266742908149448401 : True := trivial
theorem tw2218633174628956881 : True := trivial
theorem tw10393886385942881009 : True := trivial
theorem tw14075178694198228753 : True := trivial
theorem tw9659392335347125073 : True := trivial
theorem tw8013244705931419473 : True := trivial
theorem tw9508526790633795441 : True := trivial
theorem tw5320702786494000081 : True := trivial
theorem tw4652738160404261841 : True := trivial
theorem tw2656788454239962097 : True := trivial
theorem tw13203597883595413489 : True := trivial
theorem tw11587955951900863698 : True := trivial
theorem tw9722632081671974098 : True := trivial
theorem tw5679570950571409650 : True := trivial
theorem tw743781803092876562 : True := trivial
theorem tw10907391636593693970 : True := trivial
theorem tw10515829024174352722 : True := trivial
theorem tw12105171945263650130 : True := trivial
theorem tw1887099378405440850 : True := trivial
theorem tw12171577908484138354 : True := trivial
theorem tw5073790198343104882 : True := trivial
theorem tw11607805686811502034 : True := trivial
theorem tw14468091648759818802 : True := trivial
theorem tw8643116662766533202 : True := trivial
theorem tw9437242357050131058 : True := trivial
theorem tw13235901397817054834 : True := trivial
theorem tw3837020019201816242 : True := trivial
theorem tw16798467561266328274 : True := trivial
theorem tw12847644182280273618 : True := trivial
theorem tw5576714124690252594 : True := trivial
theorem tw9363291351745731410 : True := trivial
theorem tw17971676594858020690 : True := trivial
theorem tw6766580051018981234 : True := trivial
theorem tw11179249921394602866 : True := trivial
theorem tw14060254640080698258 : True := trivial
theorem tw12718612220689870738 : True := trivial
theorem tw17344254963278052338 : True := trivial
theorem tw9487260019516590291 : True := trivial
theorem tw13700621096757390547 : True := trivial
theorem tw16448676403291746579 : True := trivial
theorem tw5196160543931855155 : True := trivial
theorem tw3808604044277672275 : True := trivial
theorem tw6766378078585498003 : True := trivial
theorem tw3018758056844737939 : True := trivial
theorem tw14134379338385194387 : True := trivial
theorem tw16502652511500755 : True := trivial
theorem tw13035599975385658867 : True := trivial
theorem tw13523910257889291827 : True := trivial
theorem tw891787732878383699 : True := trivial
theorem tw17087244250289142419 : True := trivial
theorem tw4768634762848416435 : True := trivial
theorem tw17485583185531914963 : True := trivial
theorem tw11224825812204259059 : True := trivial
theorem tw16540275574145912595 : True := trivial
theorem tw17974384156558142227 : True := trivial
theorem tw3399429508193669907 : True := trivial
theorem tw17933470926392208243 : True := trivial
theorem tw4499257904209204147 : True := trivial
theorem tw14574801432027512755 : True := trivial
theorem tw3599858809825778643 : True := trivial
theorem tw7830602891274557492 : True := trivial
theorem tw3598329298470268980 : True := trivial
theorem tw1080700006314346644 : True := trivial
theorem tw15344004072050561172 : True := trivial
theorem tw7282745182861764756 : True := trivial
theorem tw744865244796547220 : True := trivial
theorem tw18373065035072037172 : True := trivial
theorem tw138543146574967220 : True := trivial
theorem tw6577878126316647860 : True := trivial
theorem tw17696989986258524660 : True := trivial
theorem tw17430205856086898164 : True := trivial
theorem tw3236217559460173300 : True := trivial
theorem tw6567050819087999508 : True := trivial
theorem tw12212933522069011988 : True := trivial
theorem tw14814673180317915700 : True := trivial
theorem tw3129228512308937268 : True := trivial
theorem tw888132650186811988 : True := trivial
theorem tw10313180648002132564 : True := trivial
theorem tw7008622114716911220 : True := trivial
theorem tw9329150127792265844 : True := trivial
theorem tw8992130219625755252 : True := trivial
theorem tw5227809002895711924 : True := trivial
theorem tw12464766053444552404 : True := trivial
theorem tw13593179597827634900 : True := trivial
theorem tw488218634404078324 : True := trivial
theorem tw16708981103961760564 : True := trivial
theorem tw8472697214298850164 : True := trivial
theorem tw9247658263007524724 : True := trivial
theorem tw13158425560686309300 : True := trivial
theorem tw3998398428148030388 : True := trivial
theorem tw7321584467024264148 : True := trivial
theorem tw6718411051458867188 : True := trivial
theorem tw418608610138435605 : True := trivial
theorem tw17719728818120068181 : True := trivial
theorem tw216489041496292469 : True := trivial
theorem tw11040825799340251285 : True := trivial
theorem tw8025084765662995669 : True := trivial
theorem tw14517287926952318261 : True := trivial
theorem tw14018533915963200917 : True := trivial
theorem tw1580780407708033493 : True := trivial
theorem tw380778119907437045 : True := trivial
theorem tw11471956102464614933 : True := trivial
theorem tw2275749259730422485 : True := trivial
theorem tw4303106303303389909 : True := trivial
theorem tw7650283484787511029 : True := trivial
theorem tw16771295499568265973 : True := trivial
theorem tw16754643870311390997 : True := trivial
theorem tw12347537446847802165 : True := trivial
theorem tw7856420140689306517 : True := trivial
theorem tw13781542876482819989 : True := trivial
theorem tw9578429878718019509 : True := trivial
theorem tw4891822661719351221 : True := trivial
theorem tw12076048789873493973 : True := trivial
theorem tw1128348596072947701 : True := trivial
theorem tw6878024787957991413 : True := trivial
theorem tw2537931557510868981 : True := trivial
theorem tw16437064521429036054 : True := trivial
theorem tw4759752924163587094 : True := trivial
theorem tw6712194924023145494 : True := trivial
theorem tw10766412916550923286 : True := trivial
theorem tw862447977868951606 : True := trivial
theorem tw13894747593318719542 : True := trivial
theorem tw10411508006071892022 : True := trivial
theorem tw1239743038759826550 : True := trivial
theorem tw8896352889252549814 : True := trivial
theorem tw9806666330580929782 : True := trivial
theorem tw4598667867955821814 : True := trivial
theorem tw4144819383078699286 : True := trivial
theorem tw7439575562449295702 : True := trivial
theorem tw4162185377826839926 : True := trivial
theorem tw783483362715066742 : True := trivial
theorem tw824797018042769846 : True := trivial
theorem tw9330868436908423606 : True := trivial
theorem tw17611727573569791414 : True := trivial
theorem tw745748316474750422 : True := trivial
theorem tw13183061134860383702 : True := trivial
theorem tw333583748066197110 : True := trivial
theorem tw6127190174262240918 : True := trivial
theorem tw17512474026176034454 : True := trivial
theorem tw15399907426655090358 : True := trivial
theorem tw7348594602126897846 : True := trivial
theorem tw3263211703599914710 : True := trivial
theorem tw3810570522144960214 : True := trivial
theorem tw10147658903529517814 : True := trivial
theorem tw2910385600587045654 : True := trivial
theorem tw3839206501371402102 : True := trivial
theorem tw14895270292469626870 : True := trivial
theorem tw9544026089342320630 : True := trivial
theorem tw6498334528663615478 : True := trivial
theorem tw187941002565524503 : True := trivial
theorem tw16625790000389398615 : True := trivial
theorem tw9297318355482256503 : True := trivial
theorem tw1397303283331804279 : True := trivial
theorem tw2316539691658765527 : True := trivial
theorem tw14111491100615862519 : True := trivial
theorem tw7267163888087337239 : True := trivial
theorem tw14178952322520976695 : True := trivial
theorem tw3810338749695602999 : True := trivial
theorem tw18195182924450695511 : True := trivial
theorem tw8383268338085895543 : True := trivial
theorem tw8668149382578428375 : True := trivial
theorem tw3683778510129048087 : True := trivial
theorem tw18087328562809068087 : True := trivial
theorem tw2377308710366028375 : True := trivial
theorem tw4306616734650971735 : True := trivial
theorem tw11024638832163780183 : True := trivial
theorem tw3738894495883498167 : True := trivial
theorem tw4302917861877037783 : True := trivial
theorem tw13199158710529813207 : True := trivial
theorem tw12977279227502587607 : True := trivial
theorem tw16192418988078311159 : True := trivial
theorem tw10751089155417173751 : True := trivial
theorem tw4218790737952374519 : True := trivial
theorem tw6532753360307331927 : True := trivial
theorem tw14658254696389335927 : True := trivial
theorem tw331587747771337591 : True := trivial
theorem tw7445452272831510455 : True := trivial
theorem tw8218151485051586519 : True := trivial
theorem tw17067295170570645592 : True := trivial
theorem tw9597861255099599992 : True := trivial
theorem tw15590172107835277464 : True := trivial
theorem tw2789213428527533208 : True := trivial
theorem tw9917203430921899224 : True := trivial
theorem tw8097654560655122648 : True := trivial
theorem tw13516622038369049944 : True := trivial
theorem tw10329872625359487480 : True := trivial
theorem tw5250828734511838712 : True := trivial
theorem tw15279137341521000952 : True := trivial
theorem tw13177410634674063896 : True := trivial
theorem tw16903924287465469464 : True := trivial
theorem tw17362494058136835672 : True := trivial
theorem tw15621619335703214680 : True := trivial
theorem tw5776136370200156792 : True := trivial
theorem tw876206183137641144 : True := trivial
theorem tw891448327626169016 : True := trivial
theorem tw8281523328739849912 : True := trivial
theorem tw5285785234609935064 : True := trivial
theorem tw9746214513668125432 : True := trivial
theorem tw4878226113927451544 : True := trivial
theorem tw12343934877155477432 : True := trivial
theorem tw17204297501091165112 : True := trivial
theorem tw11693106759165616088 : True := trivial
theorem tw12932903420030652473 : True := trivial
theorem tw16252508478716706905 : True := trivial
theorem tw15530281825414154361 : True := trivial
theorem tw8785817190682134681 : True := trivial
theorem tw5741801548637672665 : True := trivial
theorem tw2306873549167696089 : True := trivial
theorem tw8272817396058243321 : True := trivial
theorem tw17041991840579044601 : True := trivial
theorem tw5805905742469029177 : True := trivial
theorem tw18230178534529381785 : True := trivial
theorem tw3028926083550364057 : True := trivial
theorem tw6400248389586479577 : True := trivial
theorem tw10279692637995926009 : True := trivial
theorem tw12550770813317053977 : True := trivial
theorem tw3975253019698251321 : True := trivial
theorem tw1390109508276135513 : True := trivial
theorem tw5293390819737331289 : True := trivial
theorem tw4879674094562380441 : True := trivial
theorem tw6455845175183424153 : True := trivial
theorem tw17502855826952124057 : True := trivial
theorem tw14347400895652799225 : True := trivial
theorem tw8416529770105884409 : True := trivial
theorem tw17425937995043322649 : True := trivial
theorem tw8999559765510592377 : True := trivial
theorem tw16205109500356779066 : True := trivial
theorem tw13619204772191458394 : True := trivial
theorem tw4043148821406017626 : True := trivial
theorem tw18075230132384515194 : True := trivial
theorem tw1088692219920020602 : True := trivial
theorem tw2090205506522743130 : True := trivial
theorem tw6214469639950668122 : True := trivial
theorem tw7803649310394182010 : True := trivial
theorem tw9339408515151402362 : True := trivial
theorem tw12780881840741157306 : True := trivial
theorem tw5514125408013525434 : True := trivial
theorem tw12869217540446652890 : True := trivial
theorem tw7070210977369740762 : True := trivial
theorem tw12705944875615423002 : True := trivial
theorem tw13780705134512459322 : True := trivial
theorem tw4026100201820347962 : True := trivial
theorem tw8331973007464152698 : True := trivial
theorem tw13175226182763708026 : True := trivial
theorem tw18115140415614742170 : True := trivial
theorem tw12567809125941998234 : True := trivial
theorem tw12876064707754696378 : True := trivial
theorem tw16401934584784274106 : True := trivial
theorem tw10036989727400386234 : True := trivial
theorem tw12738864244801774330 : True := trivial
theorem tw9725021084223525626 : True := trivial
theorem tw15583698165555649274 : True := trivial
theorem tw13099861788286432026 : True := trivial
theorem tw15701818922362908474 : True := trivial
theorem tw13412572060209156058 : True := trivial
theorem tw17406136962360114138 : True := trivial
theorem tw6058378993454661626 : True := trivial
theorem tw16103849850496634939 : True := trivial
theorem tw8004206274103572539 : True := trivial
theorem tw5796354222422608987 : True := trivial
theorem tw1666694428299288667 : True := trivial
theorem tw10511823565363050587 : True := trivial
theorem tw13272504610945704091 : True := trivial
theorem tw6341822008880759003 : True := trivial
theorem tw4100293265295638779 : True := trivial
theorem tw4570111826955561243 : True := trivial
theorem tw10553471711426338075 : True := trivial
theorem tw10684981021144957211 : True := trivial
theorem tw807531904560671035 : True := trivial
theorem tw16554438482525722971 : True := trivial
theorem tw15216479089859931547 : True := trivial
theorem tw10170948947761517979 : True := trivial
theorem tw2021336271155450331 : True := trivial
theorem tw8465276812761224699 : True := trivial
theorem tw8924392036579600891 : True := trivial
theorem tw11039862389202566683 : True := trivial
theorem tw17164383140453370395 : True := trivial
theorem tw15564276425815640635 : True := trivial
theorem tw15201286185872193147 : True := trivial
theorem tw9839346839192117915 : True := trivial
theorem tw16908780153626456763 : True := trivial
theorem tw7055459427971326715 : True := trivial
theorem tw9712136527352899355 : True := trivial
theorem tw3008263204520378139 : True := trivial
theorem tw9445451236469955387 : True := trivial
theorem tw14943911441677524827 : True := trivial
theorem tw10234915967203826555 : True := trivial
theorem tw9997704412844104603 : True := trivial
theorem tw1713156846745171867 : True := trivial
theorem tw8947099994592609211 : True := trivial
theorem tw5555312102172926907 : True := trivial
theorem tw7130589087949165531 : True := trivial
theorem tw7692301277026442203 : True := trivial
theorem tw10875463905939285979 : True := trivial
theorem tw111200028466390044 : True := trivial
theorem tw14254621764821748828 : True := trivial
theorem tw7890596953891613788 : True := trivial
theorem tw2503846163805864124 : True := trivial
theorem tw13423622936843584764 : True := trivial
theorem tw7278507554335971580 : True := trivial
theorem tw3812028171767442716 : True := trivial
theorem tw8261031787919469916 : True := trivial
theorem tw2366236672687842684 : True := trivial
theorem tw15309079848183770524 : True := trivial
theorem tw3955986520655104412 : True := trivial
theorem tw3314143786362844604 : True := trivial
theorem tw7779959011674639804 : True := trivial
theorem tw7177338460636591580 : True := trivial
theorem tw9562769462328344092 : True := trivial
theorem tw6289197191216398940 : True := trivial
theorem tw12757126508119417436 : True := trivial
theorem tw17861066769153400444 : True := trivial
theorem tw11432402860279490204 : True := trivial
theorem tw8370555248988390076 : True := trivial
theorem tw14752907821818930876 : True := trivial
theorem tw4723787954990577340 : True := trivial
theorem tw16237762584071213788 : True := trivial
theorem tw9746901515087519452 : True := trivial
theorem tw10782327089294195420 : True := trivial
theorem tw6232080684201472732 : True := trivial
theorem tw16256441300576474876 : True := trivial
theorem tw5901363791540438844 : True := trivial
theorem tw9747544060827109212 : True := trivial
theorem tw12291753297600562012 : True := trivial
theorem tw13725586671793368924 : True := trivial
theorem tw251868834278440796 : True := trivial
theorem tw12355744275394475900 : True := trivial
theorem tw11936995450923721628 : True := trivial
theorem tw18159266103543290812 : True := trivial
theorem tw6650461044873433052 : True := trivial
theorem tw14333544728242365436 : True := trivial
theorem tw11615019562542576733 : True := trivial
theorem tw1469139661183043837 : True := trivial
theorem tw544173102793226557 : True := trivial
theorem tw6144012678527597917 : True := trivial
theorem tw3456623496861543869 : True := trivial
theorem tw520194297998822909 : True := trivial
theorem tw11061592194353771069 : True := trivial
theorem tw3680538572021651005 : True := trivial
theorem tw1012361349325877821 : True := trivial
theorem tw5115476493328737885 : True := trivial
theorem tw895571856199123645 : True := trivial
theorem tw4013537778516871869 : True := trivial
theorem tw12649782002744950493 : True := trivial
theorem tw17260493314774615805 : True := trivial
theorem tw6068950659093879613 : True := trivial
theorem tw16307707646766795581 : True := trivial
theorem tw8344675336782298973 : True := trivial
theorem tw7995362448368537469 : True := trivial
theorem tw11906472874536768445 : True := trivial
theorem tw7451905468542833597 : True := trivial
theorem tw3105451386036433885 : True := trivial
theorem tw15688172546075569117 : True := trivial
theorem tw7193555501269276637 : True := trivial
theorem tw1346022578215293949 : True := trivial
theorem tw1613116972386908190 : True := trivial
theorem tw13511959964413161566 : True := trivial
theorem tw9610726530385051774 : True := trivial
theorem tw9528985875602171006 : True := trivial
theorem tw15373703851562958014 : True := trivial
theorem tw1819255440876223710 : True := trivial
theorem tw7773504467932542270 : True := trivial
theorem tw8166985623705000286 : True := trivial
theorem tw14969715616416898430 : True := trivial
theorem tw12221555665107904926 : True := trivial
theorem tw5598441983335636414 : True := trivial
theorem tw6385529401280152062 : True := trivial
theorem tw6968583824967984638 : True := trivial
theorem tw10580198807604790814 : True := trivial
theorem tw3293696948919318046 : True := trivial
theorem tw4326780796455107134 : True := trivial
theorem tw17217429795192226366 : True := trivial
theorem tw123234157970512446 : True := trivial
theorem tw8429034201219468894 : True := trivial
theorem tw13294311002278339166 : True := trivial
theorem tw2051409578822353534 : True := trivial
theorem tw17570509445847580414 : True := trivial
theorem tw3857263333814641470 : True := trivial
theorem tw2620492485814837118 : True := trivial
theorem tw846297522682114974 : True := trivial
theorem tw7470013935711676318 : True := trivial
theorem tw11227884535216515135 : True := trivial
theorem tw4180101509539245183 : True := trivial
theorem tw12851234836949525663 : True := trivial
theorem tw12237877928780879103 : True := trivial
theorem tw17628183408451194143 : True := trivial
theorem tw11177036383054605599 : True := trivial
theorem tw7547296005191728479 : True := trivial
theorem tw6707113841082798463 : True := trivial
theorem tw13643506566155907487 : True := trivial
theorem tw17698229166291050911 : True := trivial
theorem tw4754365596532378047 : True := trivial
theorem tw2608567993692976607 : True := trivial
theorem tw14541005305830221311 : True := trivial
theorem tw9682595657389325823 : True := trivial
theorem tw17784850919643140607 : True := trivial
theorem tw16175276709679454751 : True := trivial
theorem tw15530151957754944063 : True := trivial
theorem tw3558005061807245919 : True := trivial
theorem tw2236755162388048479 : True := trivial
theorem tw2711489104339610207 : True := trivial
theorem tw16592019574015783615 : True := trivial
theorem tw1547390860169783007 : True := trivial
theorem tw12829507556594621215 : True := trivial
theorem tw6951216239237536575 : True := trivial
theorem tw3459265974087741279 : True := trivial
theorem tw14497727239971306367 : True := trivial
theorem tw9711862698833617823 : True := trivial
theorem tw2888837374417270719 : True := trivial
theorem tw15240623583426463711 : True := trivial
theorem tw16510490156224867327 : True := trivial
theorem tw8810988971174137882 : True := trivial
theorem tw6505851012808602777 : True := trivial
end fin
set_option Elab.async true in
theorem fin : PySem.Challenge.rw_jj0018_01.Holds := by
    (w_on; o_law; k_head; (case hw => w_witness2))
    k_go0
    all_goals try k_fold
    show wpAny _ (callerA.deeper (envX (Str.ofString "law") _ _ _ (.ref 694) [(Str.ofString "now", _)])) _ _ _ _
    show wpAny _ _ (execs _ (envX (Str.ofString "law") _ _ _ (.ref 694) [(Str.ofString "now", _)])) _ _ _
    refine' law_join (x := ⟨_, _, _, _, _, _⟩) ?zB ?zX ?zT ?zhl ?zhi ?zhlay ?zhlen ?zhov ?zF ?zN ?zh7 ?zho ?zpost
    case zB => assumption
    case zX => (rename Frag.In _ _ => X'; exact X')
    case zN => assumption
    case zF => assumption
    case zhl => assumption
    case zhi => assumption
    case zT => assumption
    case zhlay => assumption
    case zhlen => assumption
    case zhov => assumption
    case zho => first | k_is | exact rfl
    case zh7 => exact Nat.lt_of_lt_of_le (Nat.lt_succ_self 692) (And.right (by assumption))
    case zpost =>
      intro fl s' hE
      obtain ⟨h', tk', L', m', news', p1, p2, rfl, rfl, F2, N2, n1, n2⟩ := hE
      refine' And.intro (goodW_bool (b := true) F2 ?hgen (raisesW_false ?hn) ?hp) ⟨GrownAt.of N2 n1, GrownAt.of N2 n2, trivial⟩
      case hgen => assumption
      case hn => wrow_none_raised
      case hp => wrow_post
end Mine
theorem PySem.Challenge.cw_jj0018_01_holds : PySem.Challenge.rw_jj0018_01.Holds :=
  Mine.fin
