import PyProof.Rows.All
import Wide.All
import OpenK.AllK
import Wide.FinOn
import Lean
import PySem.Challenge.RW_pg0280_01
set_option Elab.async false
set_option linter.all false
section
open PySem PySem.W PyProof.Rows
set_option maxRecDepth 1000000
set_option maxHeartbeats 0
namespace Mine
abbrev pw := PySem.Challenge.pw_pg0280_01
def envV : Env := { scope := pw.main.scope, locals := mainNs, globals := mainNs, cells := [], code := .ref 13, frame := some 14 }
def annV : Option Value := some (.ref 6)
abbrev cV : Code := .body (behindTheImports pw) envV
abbrev qV : Pos := ⟨0, 0, 0, 0⟩
def hI (x : Int) : Int :=
  let h : Int := x.natAbs % (2 ^ 61 - 1 : Nat)
  let h := if x < 0 then -h else h
  if h == -1 then -2 else h
theorem hash_seg (w : World) : ∀ (K : Int → Sem Fin) (H : Value → Sem Fin) (gd : Bool → Bool) (lv : List Value → List Value) (heap : Heap) (gens : Array GenState) (drawn : Drawn) (toks : Nat) (os : OsState) (i : Int) (t : Nat) (pos : Pos),
   segGo treeTable pw w 11 annV 1 5 ⟨heap, gens, drawn, toks, os⟩ ⟨(pyHash (.int i t)).wrap K H gd lv, cV, pos, [topFrame qV]⟩ = some (⟨heap, gens, drawn, toks + 1, os⟩, ⟨(pyHashByItsType.reduced (hI i)).wrap K H gd lv, cV, pos, [topFrame qV]⟩) := by
  revert w
  refine byRow2 "special-get-raises" (fun w => ?_) (fun w => ?_)
  · intros; kernel_rfl
  · intros; kernel_rfl
theorem reduced_small (i : Int) (h0 : 0 ≤ i) (h1 : i < 2305843009213693951) : pyHashByItsType.reduced (hI i) = .pure i := by
  have e1 : ((i.natAbs % (2 ^ 61 - 1 : Nat) : Nat) : Int) = i := by omega
  have e : hI i = i := by
    unfold hI
    have e2 : ¬ i < 0 := by omega
    have e3 : (i == -1) = false := by simpa using (by omega : i ≠ -1)
    have e1' : ((i.natAbs : Int) % ((2 ^ 61 - 1 : Nat) : Int)) = i := by omega
    simp only [e1', if_neg e2, e3]
    rfl
  rw [e]
  unfold pyHashByItsType.reduced
  have a : (decide (-(2 ^ 63 : Int) ≤ i) && decide (i < 2 ^ 63)) = true := by simp; omega
  have b : (i == -1) = false := by simpa using (by omega : i ≠ -1)
  rw [a, b]
  rfl
/-- a piece of the text's own frame goes: x gives a in n steps -/
inductive Ev (w : World) : {α : Type} → Sem α → Nat → Shared → Pos → α → Shared → Pos → Prop
  | pure {α} (a : α) (s p) : Ev w (.pure a) 0 s p a s p
  | rule {α} {t : String} {k : Unit → Sem α} {n s p a s' p'} : Ev w (k ()) n s p a s' p' → Ev w (.rule t k) (n + 1) s p a s' p'
  | at {α} {q : Pos} {k : Unit → Sem α} {n s p a s' p'} : Ev w (k ()) n s q a s' p' → Ev w (.at q k) (n + 1) s p a s' p'
  | load {α} {ad : Addr} {pt : Option Value} {k : Obj → Sem α} {o n heap gens drawn toks os p a s' p'} : heap.get? ad = some o → Ev w (k o) n ⟨heap, gens, drawn, toks, os⟩ p a s' p' → Ev w (.load ad pt k) (n + 1) ⟨heap, gens, drawn, toks, os⟩ p a s' p'
  | update {α} {ad : Addr} {pt : Option Value} {f : Obj → Obj} {k : Unit → Sem α} {n heap gens drawn toks os p a s' p'} : Nat.ble 11 ad = true → (heap.get? ad).isSome = true →
      Ev w (k ()) n ⟨heap.update ad f, gens, drawn, toks, os⟩ p a s' p' → Ev w (.update ad pt f k) (n + 1) ⟨heap, gens, drawn, toks, os⟩ p a s' p'
  | alloc {α} {o : Obj} {k : Addr → Sem α} {n heap gens drawn toks os p a s' p'} : Ev w (k heap.objs.size) n ⟨heap.push o, gens, drawn, toks, os⟩ p a s' p' → Ev w (.alloc o k) (n + 1) ⟨heap, gens, drawn, toks, os⟩ p a s' p'
  | fresh {α} {k : Tok → Sem α} {n heap gens drawn toks os p a s' p'} : Ev w (k toks) n ⟨heap, gens, drawn, toks + 1, os⟩ p a s' p' → Ev w (.fresh k) (n + 1) ⟨heap, gens, drawn, toks, os⟩ p a s' p'
  | hash {α} {i : Int} {t : Nat} {K : Int → Sem α} {H : Value → Sem α} {gd : Bool → Bool} {lv : List Value → List Value} {n heap gens drawn toks os p a s' p'} : 0 ≤ i → i < 2305843009213693951 →
      Ev w (K i) n ⟨heap, gens, drawn, toks + 1, os⟩ p a s' p' → Ev w ((pyHash (.int i t)).wrap K H gd lv) (n + 5) ⟨heap, gens, drawn, toks, os⟩ p a s' p'
theorem Ev.wrap {w : World} {α : Type} {x : Sem α} {n s p a s₁ p₁} (h : Ev w x n s p a s₁ p₁) : ∀ {β : Type} {K : α → Sem β} {H : Value → Sem β} {gd : Bool → Bool} {lv : List Value → List Value} {m b s₂ p₂},
    Ev w (K a) m s₁ p₁ b s₂ p₂ → Ev w (x.wrap K H gd lv) (m + n) s p b s₂ p₂ := by
  induction h with
  | pure => intro _ _ _ _ _ _ _ _ _ k; exact k
  | rule _ ih => intro _ _ _ _ _ _ _ _ _ k; exact .rule (ih k)
  | «at» _ ih => intro _ _ _ _ _ _ _ _ _ k; exact .at (ih k)
  | load e _ ih => intro _ _ _ _ _ _ _ _ _ k; exact .load e (ih k)
  | update e e' _ ih => intro _ _ _ _ _ _ _ _ _ k; exact .update e e' (ih k)
  | alloc _ ih => intro _ _ _ _ _ _ _ _ _ k; exact .alloc (ih k)
  | fresh _ ih => intro _ _ _ _ _ _ _ _ _ k; exact .fresh (ih k)
  | hash e e' _ ih => intro _ _ _ _ _ _ _ _ _ k; rw [Sem.wrap_wrap]; exact .hash e e' (ih k)
theorem Ev.bind {w : World} {α β : Type} {x : Sem α} {f : α → Sem β} {n m s p a s₁ p₁ b s₂ p₂} (h : Ev w x n s p a s₁ p₁) (k : Ev w (f a) m s₁ p₁ b s₂ p₂) : Ev w (x.bind f) (m + n) s p b s₂ p₂ := by
  rw [Sem.bind_eq_wrap]; exact h.wrap k
theorem Ev.keep {w : World} {α : Type} {x : Sem α} {vs : List Value} {n s p a s₁ p₁} (h : Ev w x n s p a s₁ p₁) : Ev w (x.keep vs) n s p a s₁ p₁ := by
  rw [Sem.keep_eq_wrap, ← Nat.zero_add n]; exact h.wrap (.pure _ _ _)
theorem Ev.onRaise {w : World} {α : Type} {x : Sem α} {hh : Value → Sem Unit} {n s p a s₁ p₁} (h : Ev w x n s p a s₁ p₁) : Ev w (x.onRaise hh) n s p a s₁ p₁ := by
  rw [Sem.onRaise_eq_wrap, ← Nat.zero_add n]; exact h.wrap (.pure _ _ _)
theorem Ev.holding {w : World} {α : Type} {x : Sem α} {vs : List Value} {n s p a s₁ p₁} (h : Ev w x n s p a s₁ p₁) : Ev w (holding vs x) n s p a s₁ p₁ := by
  unfold PySem.holding
  split
  · exact h
  · exact h.keep
theorem hash_ev {w : World} {i : Int} {t : Nat} {heap gens drawn toks os p} (h0 : 0 ≤ i) (h1 : i < 2305843009213693951) : Ev w (pyHash (.int i t)) 5 ⟨heap, gens, drawn, toks, os⟩ p i ⟨heap, gens, drawn, toks + 1, os⟩ p := by
  have := Ev.hash (w := w) (t := t) (K := fun a => (.pure a : Sem Int)) (H := .raise) (gd := id) (lv := id) (heap := heap) (gens := gens) (drawn := drawn) (toks := toks) (os := os) (p := p) h0 h1 (.pure _ _ _)
  rwa [← Sem.bind_eq_wrap, show ∀ x : Sem Int, x.bind (fun a => (.pure a : Sem Int)) = x from fun x => by induction x <;> simp only [Sem.bind, *]] at this
theorem seg1 {w : World} {n : Nat} {s s₁ : Shared} {t t₁ : Thread} (he : endAt 1 t = none) (hk : stepOk 11 annV t = true) (hs : step (denote treeTable) pw w s t = .go s₁ t₁) :
    segGo treeTable pw w 11 annV 1 (n + 1) s t = segGo treeTable pw w 11 annV 1 n s₁ t₁ := by
  rw [segGo, he]
  simp only
  rw [hk]
  simp only
  rw [hs]
theorem segGo_add {w : World} : ∀ {n m : Nat} {s s' : Shared} {t t' : Thread}, segGo treeTable pw w 11 annV 1 n s t = some (s', t') → segGo treeTable pw w 11 annV 1 (m + n) s t = segGo treeTable pw w 11 annV 1 m s' t'
  | 0, m, s, s', t, t', h => by
    obtain ⟨rfl, rfl⟩ : s = s' ∧ t = t' := by simpa [segGo] using h
    rfl
  | n + 1, m, s, s', t, t', h => by
    rw [← Nat.add_assoc]
    unfold segGo at h
    rw [segGo.eq_2]
    cases he : endAt 1 t with
    | some f => rw [he] at h; cases h
    | none =>
      rw [he] at h
      cases hk : stepOk 11 annV t with
      | false => rw [hk] at h; cases h
      | true =>
        rw [hk] at h
        cases hs : step (denote treeTable) pw w s t with
        | halt o s₂ => rw [hs] at h; cases h
        | go s₂ t₂ => rw [hs] at h; exact segGo_add h
theorem Ev.seg {w : World} {α : Type} {x : Sem α} {n s p a s₁ p₁} (h : Ev w x n s p a s₁ p₁) : ∀ (K : α → Sem Fin) (H : Value → Sem Fin) (gd : Bool → Bool) (lv : List Value → List Value),
    segGo treeTable pw w 11 annV 1 n s ⟨x.wrap K H gd lv, cV, p, [topFrame qV]⟩ = some (s₁, ⟨K a, cV, p₁, [topFrame qV]⟩) := by
  induction h with
  | pure => intros; rfl
  | rule _ ih => intro K H gd lv; exact (seg1 rfl rfl rfl).trans (ih K H gd lv)
  | «at» _ ih => intro K H gd lv; exact (seg1 rfl rfl rfl).trans (ih K H gd lv)
  | load e _ ih => intro K H gd lv; exact (seg1 rfl rfl (by simp only [Sem.wrap, step, e])).trans (ih K H gd lv)
  | update e e' _ ih => intro K H gd lv; exact (seg1 rfl (by simp only [Sem.wrap, stepOk, e]; rfl) (by simp only [Sem.wrap, step, e', if_true])).trans (ih K H gd lv)
  | alloc _ ih => intro K H gd lv; exact (seg1 rfl rfl rfl).trans (ih K H gd lv)
  | fresh _ ih => intro K H gd lv; exact (seg1 rfl rfl rfl).trans (ih K H gd lv)
  | hash e e' _ ih => intro K H gd lv; rw [Sem.wrap_wrap]; refine (segGo_add (hash_seg ..)).trans ?_; rw [reduced_small _ e e']; exact ih K H gd lv
end Mine
end
section
open PySem PySem.W PyProof.Rows
set_option maxRecDepth 1000000
set_option maxHeartbeats 0
namespace Mine
def lifeV : Life := (@PySem.Life.mk [] [] [] (0 : @Nat) [] [] @Bool.false (@List.toArray @Nat []) [] (0 : @Nat) @Bool.false @Bool.false @Bool.false (0 : @Int) [(2000 : @Int), (10 : @Int), (10 : @Int)] @Bool.false (0 : @Nat) @Bool.true [] [] (0 : @Nat) @Bool.false)
abbrev hp (l : List Obj) : Heap := ⟨l.toArray, lifeV⟩
abbrev D (es : List DictEntry) (ep : Nat) : Obj := ⟨.type "dict", none, .dict es.toArray ep, #[]⟩
theorem hp_get {l : List Obj} {a : Nat} {es ep} (h : l[a]? = some (D es ep)) : (hp l).get? a = some (D es ep) := by
  unfold Heap.get?
  rw [List.getElem?_toArray, h]
theorem hp_upd (l : List Obj) (a : Nat) (f : Obj → Obj) : (hp l).update a f = hp (l.modify a f) := by
  unfold Heap.update
  simp only [hp, List.modify_toArray]
theorem hp_push (l : List Obj) (o : Obj) : (hp l).push o = hp (l ++ [o]) := by
  unfold Heap.push
  simp only [hp, List.push_toArray]
theorem mod_at (L S : List Obj) (m : Obj) (f : Obj → Obj) : (L ++ m :: S).modify L.length f = L ++ f m :: S := by
  induction L with
  | nil => rfl
  | cons x L ih => simp only [List.cons_append, List.length_cons, List.modify_succ_cons, ih]
theorem get_at (L S : List Obj) (m : Obj) : (L ++ m :: S)[L.length]? = some m := by simp
variable {w : World} {gens : Array GenState} {drawn : Drawn} {toks : Nat} {os : OsState} {p : Pos}
theorem ents_ev {l : List Obj} {a es ep pt} (h : l[a]? = some (D es ep)) : Ev w (dictEntries a pt) 1 ⟨hp l, gens, drawn, toks, os⟩ p es.toArray ⟨hp l, gens, drawn, toks, os⟩ p :=
  Ev.load (hp_get h) (.pure _ _ _)
theorem epoch_ev {l : List Obj} {a es ep pt} (h : l[a]? = some (D es ep)) : Ev w (dictEpoch a pt) 1 ⟨hp l, gens, drawn, toks, os⟩ p ep ⟨hp l, gens, drawn, toks, os⟩ p :=
  Ev.load (hp_get h) (.pure _ _ _)
theorem places_nil {es : List DictEntry} {h : Int} (hn : ∀ e ∈ es, e.hash ≠ h) : placesWithHash es.toArray.size (fun i => es.toArray[i]?.map (·.hash)) h = [] := by
  unfold placesWithHash
  rw [List.filter_eq_nil_iff]
  intro i hi
  simp only [List.getElem?_toArray]
  rcases e : es[i]? with _ | x
  · simp
  · have := hn x (List.mem_of_getElem? e)
    simpa using this
theorem find_ev {l : List Obj} {a es ep} {i : Int} {t : Nat} {h : Int} (hg : l[a]? = some (D es ep)) (hn : ∀ e ∈ es, e.hash ≠ h) :
    Ev w (dictFind a (.int i t) h) 1 ⟨hp l, gens, drawn, toks, os⟩ p none ⟨hp l, gens, drawn, toks, os⟩ p := by
  unfold dictFind
  refine Ev.holding ?_
  refine Ev.bind (m := 0) (ents_ev hg) ?_
  show Ev w _ _ _ _ _ _ _
  simp only [places_nil hn]
  exact Ev.pure _ _ _
theorem push_ev {l : List Obj} {a es ep pt} {x : DictEntry} (hg : l[a]? = some (D es ep)) (ha : Nat.ble 11 a = true) (hs : es.length < sizeLine) :
    Ev w (updateDictKeys a (·.push x) pt) 3 ⟨hp l, gens, drawn, toks, os⟩ p () ⟨hp (l.modify a fun _ => D (es ++ [x]) (ep + 1)), gens, drawn, toks, os⟩ p := by
  have hm : l.modify a (Obj.mapDictKeys (·.push x)) = l.modify a fun _ => D (es ++ [x]) (ep + 1) := by
    apply List.ext_getElem?
    intro j
    rw [List.getElem?_modify, List.getElem?_modify]
    by_cases e : a = j
    · subst e
      rw [hg]
      simp [Obj.mapDictKeys]
    · simp [e]
  have hg' : (l.modify a fun _ => D (es ++ [x]) (ep + 1))[a]? = some (D (es ++ [x]) (ep + 1)) := by
    rw [List.getElem?_modify, hg]; simp
  refine Ev.load (hp_get hg) ?_
  refine Ev.update ha (by rw [hp_get hg]; rfl) ?_
  rw [hp_upd, hm]
  refine Ev.load (hp_get hg') ?_
  have hz : ¬ ((es ++ [x]).toArray.size > sizeLine + 1) := by simp; omega
  have hpl : (D (es ++ [x]) (ep + 1)).data.pastItsLine = none := if_neg hz
  refine Ev.bind (m := 0) (n := 0) (.pure _ _ _) ?_
  rw [hpl]
  exact .pure _ _ _
theorem set_ev {P : List Obj} {es ep} {i : Int} {t : Nat} {v : Value} (h0 : 0 ≤ i) (h1 : i < 2305843009213693951) (hn : ∀ e ∈ es, e.hash ≠ i) (ha : Nat.ble 11 P.length = true) (hs : es.length < sizeLine) :
    Ev w (dictSet P.length (.int i t) v) 10 ⟨hp (P ++ [D es ep]), gens, drawn, toks, os⟩ p () ⟨hp (P ++ [D (es ++ [⟨i, .int i t, v⟩]) (ep + 1)]), gens, drawn, toks + 1, os⟩ p := by
  unfold dictSet
  refine Ev.holding ?_
  refine Ev.bind (m := 5) (hash_ev h0 h1) ?_
  unfold dictSetHashed
  refine Ev.holding ?_
  refine Ev.bind (m := 4) (find_ev (get_at P [] _) hn) ?_
  refine Ev.rule ?_
  have := push_ev (w := w) (gens := gens) (drawn := drawn) (toks := toks + 1) (os := os) (p := p) (pt := keyPart (.int i t)) (x := ⟨i, .int i t, v⟩) (get_at P [] (D es ep)) ha hs
  rwa [mod_at] at this
theorem put_ev {L S : List Obj} {es ep} {i : Int} {t : Nat} {v : Value} (hn : ∀ e ∈ es, e.hash ≠ i) (ha : Nat.ble 11 L.length = true) (hs : es.length < sizeLine) :
    Ev w (dictPut L.length i (.int i t) v) 4 ⟨hp (L ++ D es ep :: S), gens, drawn, toks, os⟩ p () ⟨hp (L ++ D (es ++ [⟨i, .int i t, v⟩]) (ep + 1) :: S), gens, drawn, toks, os⟩ p := by
  unfold dictPut
  refine Ev.bind (m := 3) (find_ev (get_at L S _) hn) ?_
  have := push_ev (w := w) (gens := gens) (drawn := drawn) (toks := toks) (os := os) (p := p) (pt := none) (x := ⟨i, .int i t, v⟩) (get_at L S (D es ep)) ha hs
  rwa [mod_at] at this
end Mine
end
section
open PySem PySem.W PyProof.Rows
namespace Mine
/-- own words for one flush of a display's gathered pairs -/
def fl (run : List (Sem Value × Sem Value)) (main : Option Addr) : Sem (Option Addr) := do
  if run.isEmpty then return main
  match main with
  | none => return some (← subDict run)
  | some d =>
    let sub ← holding [.ref d] (subDict run)
    (holding [.ref d, .ref sub] (mergeMapping d (.ref sub) false)).onRaise fun x => do let _ ← holding [.ref d, x] (runValue (.builtin "proto.let_go" {}))
    return some d
def lpE (m : Option Addr) : Sem Value := match m with
  | some d => pure (.ref d)
  | none => newDict
def lp : List (Sem Value × Sem Value) → List (Sem Value × Sem Value) → Option Addr → Sem Value
  | [], run, main => (fl run main).bind lpE
  | p :: ps, run, main => if (run ++ [p]).length == 17 then (fl (run ++ [p]) main).bind fun m => lp ps [] m else lp ps (run ++ [p]) main
theorem lp_key (body : Option (Sem Value) × Sem Value → Option Addr × List (Sem Value × Sem Value) → Sem (ForInStep (Option Addr × List (Sem Value × Sem Value))))
    (h1 : ∀ k v main run, body (some k, v) (main, run) = if ((run ++ [(k, v)]).length == 17) = true then (fl (run ++ [(k, v)]) main).bind fun m => pure (.yield (m, [])) else pure (.yield (main, run ++ [(k, v)]))) :
    ∀ (ps : List (Sem Value × Sem Value)) (main : Option Addr) (run : List (Sem Value × Sem Value)),
      (forIn (ps.map fun p => (some p.1, p.2)) (main, run) body).bind (fun s => (fl s.2 s.1).bind lpE) = lp ps run main
  | [], main, run => rfl
  | (k, v) :: ps, main, run => by
    rw [List.map_cons, List.forIn_cons, h1, lp]
    split
    · show (Sem.bind (Sem.bind _ _) _).bind _ = _
      rw [Sem.bind_assoc, Sem.bind_assoc]
      refine congrArg _ (funext fun m => ?_)
      exact lp_key body h1 ps m []
    · exact lp_key body h1 ps main (run ++ [(k, v)])
theorem dd_lp (ps : List (Sem Value × Sem Value)) : dictDisplay (ps.map fun p => (some p.1, p.2)) = lp ps [] none := by
  refine' Eq.trans ?h1 (lp_key ?body ?h2 ps none [])
  case h1 =>
    unfold dictDisplay
    exact rfl
  case h2 =>
    intro k v main run
    rfl
theorem lp_run (rest : List (Sem Value × Sem Value)) (main : Option Addr) : ∀ (c run : List (Sem Value × Sem Value)), c ≠ [] → run.length + c.length = 17 →
    lp (c ++ rest) run main = (fl (run ++ c) main).bind fun m => lp rest [] m
  | [], run, h, _ => absurd rfl h
  | [p], run, _, h => by
    have e : ((run ++ [p]).length == 17) = true := by simp only [List.length_append, List.length_cons, List.length_nil] at h ⊢; simp [h]
    rw [List.cons_append, List.nil_append, lp, if_pos e]
  | p :: p' :: c, run, _, h => by
    have e : ((run ++ [p]).length == 17) = false := by
      simp only [List.length_append, List.length_cons, List.length_nil] at h ⊢
      have : run.length + 1 ≠ 17 := by omega
      simpa using this
    rw [List.cons_append, lp, if_neg (by rw [e]; decide), lp_run rest main (p' :: c) (run ++ [p]) (by simp) (by simp only [List.length_append, List.length_cons, List.length_nil] at h ⊢; omega), List.append_assoc]
    rfl
end Mine
end
section
open PySem PySem.W PyProof.Rows
set_option maxRecDepth 1000000
set_option maxHeartbeats 0
namespace Mine
variable {w : World} {gens : Array GenState} {drawn : Drawn} {os : OsState} {p : Pos}
/-- the entries that a display's pairs leave; st tokens a pair -/
def ents (st : Nat) : List (Int × Str) → Nat → List DictEntry
  | [], _ => []
  | (i, s) :: r, t => ⟨i, .int i t, .str s (t + 1)⟩ :: ents st r (t + st)
def semP (dp : Pos) : Int × Str → Sem Value × Sem Value := fun x => (mkInt x.1, (mkText x.2).bind fun v => (standAt dp).bind fun _ => .pure v)
/-- entries of int keys in rising order, all above b -/
def Up : Int → List DictEntry → Prop
  | _, [] => True
  | b, e :: r => b < e.hash ∧ 0 ≤ e.hash ∧ e.hash < 2305843009213693951 ∧ (∃ t, e.key = .int e.hash t) ∧ Up e.hash r
def top (b : Int) : List DictEntry → Int
  | [] => b
  | e :: r => top e.hash r
theorem Up.app {b : Int} : ∀ {es fs : List DictEntry}, Up b es → Up (top b es) fs → Up b (es ++ fs)
  | [], _, _, h => h
  | _ :: _, _, q, h => And.intro q.1 (And.intro q.2.1 (And.intro q.2.2.1 (And.intro q.2.2.2.1 (q.2.2.2.2.app h))))
theorem top_app {b : Int} : ∀ {es fs : List DictEntry}, top b (es ++ fs) = top (top b es) fs
  | [], _ => rfl
  | e :: es, fs => top_app (b := e.hash) (es := es) (fs := fs)
theorem Up.le_top {b : Int} : ∀ {es : List DictEntry}, Up b es → b ≤ top b es
  | [], _ => Int.le_refl _
  | _ :: _, q => Int.le_trans (Int.le_of_lt q.1) q.2.2.2.2.le_top
theorem Up.le {b : Int} : ∀ {es : List DictEntry}, Up b es → ∀ e ∈ es, e.hash ≤ top b es
  | [], _, _, he => nomatch he
  | _ :: _, q, e, he => (List.mem_cons.mp he).elim (fun h => h ▸ q.2.2.2.2.le_top) (fun h => q.2.2.2.2.le e h)
def asc : Int → List (Int × Str) → Bool
  | _, [] => true
  | b, (i, _) :: r => decide (b < i) && (decide (0 ≤ i) && (decide (i < 2305843009213693951) && asc i r))
theorem ents_up {st : Nat} : ∀ {kv : List (Int × Str)} {b : Int} {t : Nat}, asc b kv = true → Up b (ents st kv t)
  | [], _, _, _ => trivial
  | (i, s) :: r, b, t, h => by
    simp only [asc, Bool.and_eq_true, decide_eq_true_eq] at h
    exact ⟨h.1, h.2.1, h.2.2.1, ⟨t, rfl⟩, ents_up h.2.2.2⟩
theorem ents_len {st : Nat} : ∀ {kv : List (Int × Str)} {t : Nat}, (ents st kv t).length = kv.length
  | [], _ => rfl
  | _ :: r, t => by simp only [ents, List.length_cons, ents_len]
theorem isInst_ev {l : List Obj} {a es ep} {toks : Nat} (h : l[a]? = some (D es ep)) : Ev w (isInstance (.ref a) (.type "dict")) 1 ⟨hp l, gens, drawn, toks, os⟩ p true ⟨hp l, gens, drawn, toks, os⟩ p := by
  have e : isSubtype (D es ep).cls (.type "dict") = .pure true := by kernel_rfl
  refine Ev.bind (m := 0) (n := 1) (Ev.load (hp_get h) (.pure _ _ _)) ?_
  rw [e]
  exact .pure _ _ _
theorem iter_ev {l : List Obj} {a es ep} {toks : Nat} (h : l[a]? = some (D es ep)) : Ev w (specialOf (.ref a) "__iter__") 1 ⟨hp l, gens, drawn, toks, os⟩ p (some (.builtin "dict.__iter__")) ⟨hp l, gens, drawn, toks, os⟩ p := by
  have e : typeLookup (D es ep).cls "__iter__" = .pure (some (.builtin "dict.__iter__")) := by kernel_rfl
  refine Ev.bind (m := 0) (n := 1) (Ev.load (hp_get h) (.pure _ _ _)) ?_
  rw [e]
  exact .pure _ _ _
theorem for_ev (f : Nat → PUnit → Sem (ForInStep PUnit)) (L : List Obj) (S : List Obj) (X : List DictEntry) (c : Nat) (toks : Nat)
    (hf : ∀ (es : List DictEntry) (ep j : Nat) (e : DictEntry), X[j]? = some e → (∀ x ∈ es, x.hash ≠ e.hash) → (∃ t, e.key = .int e.hash t) → es.length < sizeLine →
      Ev w (f j ()) c ⟨hp (L ++ D es ep :: S), gens, drawn, toks, os⟩ p (.yield ()) ⟨hp (L ++ D (es ++ [e]) (ep + 1) :: S), gens, drawn, toks, os⟩ p) :
    ∀ (m j : Nat) (es : List DictEntry) (ep : Nat) (b : Int), (∀ x ∈ es, x.hash ≤ b) → Up b (X.drop j) → (X.drop j).length = m → es.length + m < sizeLine →
      Ev w (forIn (List.range' j m) PUnit.unit f) (m * c) ⟨hp (L ++ D es ep :: S), gens, drawn, toks, os⟩ p () ⟨hp (L ++ D (es ++ X.drop j) (ep + m) :: S), gens, drawn, toks, os⟩ p
  | 0, j, es, ep, b, _, _, hm, _ => by
    rw [List.eq_nil_of_length_eq_zero hm, List.append_nil, Nat.zero_mul]
    exact .pure _ _ _
  | m + 1, j, es, ep, b, hb, hu, hm, hs => by
    have hj : j < X.length := by rw [List.length_drop] at hm; omega
    have hd : X.drop j = X[j] :: X.drop (j + 1) := List.drop_eq_getElem_cons hj
    rw [hd] at hu ⊢
    obtain ⟨u1, u2, u3, u4, u5⟩ := hu
    rw [List.range'_succ, List.forIn_cons, Nat.succ_mul]
    refine Ev.bind (m := m * c) (n := c) (hf es ep j X[j] (List.getElem?_eq_getElem hj) (fun x hx => by have := hb x hx; omega) u4 (by omega)) ?_
    have := for_ev f L S X c toks hf m (j + 1) (es ++ [X[j]]) (ep + 1) X[j].hash (fun x hx => by
      rcases List.mem_append.mp hx with h | h
      · have := hb x h; omega
      · rw [List.mem_singleton.mp h]; exact Int.le_refl _) u5 (by rw [List.length_drop] at hm ⊢; omega) (by simp only [List.length_append, List.length_cons, List.length_nil]; omega)
    rw [List.append_assoc, List.singleton_append, show ep + 1 + m = ep + (m + 1) by omega] at this
    exact this
theorem sys_ne {a : Nat} (ha : Nat.ble 11 a = true) : (a == sysModules) = false := by
  have h := Nat.le_of_ble_eq_true ha
  rw [beq_eq_false_iff_ne]
  rintro rfl
  exact absurd h (by decide)
theorem merge_ev {L P : List Obj} {es X : List DictEntry} {ep xp toks : Nat} {b : Int} (ha : Nat.ble 11 L.length = true) (hne : es ≠ []) (hb : ∀ x ∈ es, x.hash ≤ b) (hu : Up b X) (hs : es.length + X.length < sizeLine) :
    Ev w (mergeMapping L.length (.ref (L.length + 1 + P.length)) false) (X.length * 6 + 5) ⟨hp (L ++ D es ep :: (P ++ [D X xp])), gens, drawn, toks, os⟩ p () ⟨hp (L ++ D (es ++ X) (ep + X.length) :: (P ++ [D X xp])), gens, drawn, toks, os⟩ p := by
  have g1 : ∀ es ep, (L ++ D es ep :: (P ++ [D X xp]))[L.length]? = some (D es ep) := fun es ep => get_at L _ _
  have g2 : ∀ es ep, (L ++ D es ep :: (P ++ [D X xp]))[L.length + 1 + P.length]? = some (D X xp) := fun es ep => by
    have := get_at (L ++ D es ep :: P) [] (D X xp)
    rw [List.length_append, List.length_cons, List.append_assoc, List.cons_append] at this
    rwa [show L.length + 1 + P.length = L.length + (P.length + 1) by omega]
  unfold mergeMapping
  refine Ev.bind (m := X.length * 6 + 4) (n := 1) (isInst_ev (g2 _ _)) ?_
  show Ev w (if true = true then _ else _) _ _ _ _ _ _
  rw [if_pos rfl]
  refine Ev.bind (m := X.length * 6 + 3) (n := 1) (iter_ev (g2 _ _)) ?_
  refine Ev.bind (m := X.length * 6 + 3) (n := 0) (.pure _ _ _) ?_
  show Ev w (if (L.length + 1 + P.length == sysModules) = true then _ else _) _ _ _ _ _ _
  rw [if_neg (by rw [sys_ne (Nat.ble_eq_true_of_le (by have := Nat.le_of_ble_eq_true ha; omega))]; decide)]
  refine Ev.bind (m := X.length * 6 + 2) (n := 1) (ents_ev (g1 _ _)) ?_
  show Ev w (if es.toArray.isEmpty = true then _ else _) _ _ _ _ _ _
  rw [if_neg (by rw [List.isEmpty_toArray]; cases es with | nil => exact absurd rfl hne | cons => exact Bool.false_ne_true)]
  refine Ev.bind (m := X.length * 6 + 1) (n := 1) (ents_ev (g2 _ _)) ?_
  refine Ev.bind (m := X.length * 6) (n := 1) (epoch_ev (g2 _ _)) ?_
  rw [List.size_toArray, List.range_eq_range', ← Nat.zero_add (X.length * 6)]
  refine Ev.bind (m := 0) (n := X.length * 6) (for_ev _ L (P ++ [D X xp]) X 6 toks ?_ X.length 0 es ep b hb ?_ ?_ ?_) ?_
  · intro es ep j e hj hn ⟨t, ht⟩ hs
    refine Ev.bind (m := 5) (n := 1) (ents_ev (g2 _ _)) ?_
    rw [List.getElem?_toArray, hj]
    obtain ⟨eh, ek, ev⟩ := e
    simp only at ht hn
    subst ht
    refine Ev.bind (m := 1) (n := 4) (a := ()) (p₁ := p) (s₁ := ⟨hp (L ++ D (es ++ [⟨eh, .int eh t, ev⟩]) (ep + 1) :: (P ++ [D X xp])), gens, drawn, toks, os⟩) (Ev.holding ?_) ?_
    · show Ev w (if false = true then _ else _) _ _ _ _ _ _
      rw [if_neg (by decide)]
      exact put_ev hn ha hs
    · refine Ev.bind (m := 0) (n := 1) (epoch_ev (g2 _ _)) ?_
      show Ev w (if (xp != xp) = true then _ else _) _ _ _ _ _ _
      rw [if_neg (by simp)]
      exact .pure _ _ _
  · exact hu
  · rw [List.drop_zero]
  · exact hs
  · exact .pure _ _ _
end Mine
end
section
open PySem PySem.W PyProof.Rows
set_option maxRecDepth 1000000
set_option maxHeartbeats 0
namespace Mine
variable {w : World} {gens : Array GenState} {drawn : Drawn} {os : OsState} {dp : Pos}
theorem key_ev {heap : Heap} {toks : Nat} {i : Int} {s : Str} : Ev w (semP dp (i, s)).1 1 ⟨heap, gens, drawn, toks, os⟩ dp (.int i toks) ⟨heap, gens, drawn, toks + 1, os⟩ dp := Ev.fresh (.pure _ _ _)
theorem val_ev {heap : Heap} {toks : Nat} {i : Int} {s : Str} : Ev w (semP dp (i, s)).2 2 ⟨heap, gens, drawn, toks, os⟩ dp (.str s toks) ⟨heap, gens, drawn, toks + 1, os⟩ dp := Ev.fresh (.at (.pure _ _ _))
theorem above {es : List DictEntry} {b i : Int} (hb : ∀ x ∈ es, x.hash ≤ b) (h : b < i) : ∀ x ∈ es, x.hash ≠ i := fun x hx => by have := hb x hx; omega
theorem le_snoc {es : List DictEntry} {b i : Int} {k v : Value} (hb : ∀ x ∈ es, x.hash ≤ b) (h : b < i) : ∀ x ∈ es ++ [⟨i, k, v⟩], x.hash ≤ i := fun x hx => by
  rcases List.mem_append.mp hx with hx | hx
  · have := hb x hx; omega
  · rw [List.mem_singleton.mp hx]; exact Int.le_refl _
theorem sfor_ev (f : Sem Value × Sem Value → PUnit → Sem (ForInStep PUnit)) (P : List Obj)
    (hf : ∀ (es : List DictEntry) (ep : Nat) (i : Int) (s : Str) (toks : Nat), (∀ x ∈ es, x.hash ≠ i) → 0 ≤ i → i < 2305843009213693951 → es.length < sizeLine →
      Ev w (f (semP dp (i, s)) ()) 13 ⟨hp (P ++ [D es ep]), gens, drawn, toks, os⟩ dp (.yield ()) ⟨hp (P ++ [D (es ++ [⟨i, .int i toks, .str s (toks + 1)⟩]) (ep + 1)]), gens, drawn, toks + 3, os⟩ dp) :
    ∀ (kv : List (Int × Str)) (es : List DictEntry) (ep : Nat) (b : Int) (toks : Nat), (∀ x ∈ es, x.hash ≤ b) → asc b kv = true → es.length + kv.length < sizeLine →
      Ev w (forIn (kv.map (semP dp)) PUnit.unit f) (kv.length * 13) ⟨hp (P ++ [D es ep]), gens, drawn, toks, os⟩ dp () ⟨hp (P ++ [D (es ++ ents 3 kv toks) (ep + kv.length)]), gens, drawn, toks + kv.length * 3, os⟩ dp
  | [], es, ep, b, toks, _, _, _ => by
    rw [ents, List.append_nil]
    exact .pure _ _ _
  | (i, s) :: r, es, ep, b, toks, hb, h, hs => by
    simp only [asc, Bool.and_eq_true, decide_eq_true_eq] at h
    obtain ⟨h1, h2, h3, h4⟩ := h
    simp only [List.length_cons] at hs
    rw [List.map_cons, List.forIn_cons, List.length_cons, Nat.succ_mul]
    refine Ev.bind (m := r.length * 13) (n := 13) (hf es ep i s toks (above hb h1) h2 h3 (by omega)) ?_
    have := sfor_ev f P hf r (es ++ [⟨i, .int i toks, .str s (toks + 1)⟩]) (ep + 1) i (toks + 3) (le_snoc hb h1) h4 (by simp only [List.length_append, List.length_cons, List.length_nil]; omega)
    rw [List.append_assoc, List.singleton_append, show ep + 1 + r.length = ep + (r.length + 1) by omega, show toks + 3 + r.length * 3 = toks + (r.length + 1) * 3 by omega] at this
    exact this
theorem sub_ev {P : List Obj} {kv : List (Int × Str)} {toks : Nat} {b : Int} (ha : Nat.ble 11 P.length = true) (hl : ¬ kv.length ≤ 15) (hk : asc b kv = true) (hs : kv.length < sizeLine) :
    Ev w (subDict (kv.map (semP dp))) (kv.length * 13 + 2) ⟨hp P, gens, drawn, toks, os⟩ dp P.length ⟨hp (P ++ [D (ents 3 kv toks) kv.length]), gens, drawn, toks + kv.length * 3, os⟩ dp := by
  unfold subDict
  refine Ev.alloc ?_
  rw [hp_push, show (hp P).objs.size = P.length from List.size_toArray ..]
  show Ev w _ _ ⟨hp (P ++ [D [] 0]), gens, drawn, toks, os⟩ _ _ _ _
  rw [show kv.length * 13 + 1 = 0 + (kv.length * 13 + 1) by omega]
  refine Ev.bind (m := 0) (n := kv.length * 13 + 1) (a := ()) (Ev.holding ?_) (.pure _ _ _)
  rw [List.length_map, if_neg hl]
  refine Ev.rule ?_
  rw [← Nat.zero_add (kv.length * 13)]
  have := sfor_ev (w := w) (gens := gens) (drawn := drawn) (os := os) (dp := dp) (fun x _ => do
      let kv ← x.1
      let vv ← holding [kv] x.2
      holding [kv, vv] (dictSet P.length kv vv)
      pure (ForInStep.yield PUnit.unit)) P ?_ kv [] 0 b toks (fun _ h => nomatch h) hk (by simpa using hs)
  · rw [List.nil_append, Nat.zero_add] at this
    refine Ev.bind (m := 0 + kv.length * 13) (n := 0) (.pure _ _ _) ?_
    exact Ev.bind (m := 0) (n := kv.length * 13) this (.pure _ _ _)
  · intro es ep i s toks hn h0 h1 hs
    refine Ev.bind (m := 12) (n := 1) key_ev ?_
    refine Ev.bind (m := 10) (n := 2) (Ev.holding val_ev) ?_
    exact Ev.bind (m := 0) (n := 10) (Ev.holding (set_ev h0 h1 hn ha hs)) (.pure _ _ _)
/-- the short way -/
def vals : List (Int × Str) → Nat → List (Value × Value)
  | [], _ => []
  | (i, s) :: r, t => (.int i t, .str s (t + 1)) :: vals r (t + 2)
theorem pairs_ev {heap : Heap} : ∀ (kv : List (Int × Str)) (toks : Nat), Ev w (evalPairs (kv.map (semP dp))) (kv.length * 3) ⟨heap, gens, drawn, toks, os⟩ dp (vals kv toks) ⟨heap, gens, drawn, toks + kv.length * 2, os⟩ dp
  | [], toks => .pure _ _ _
  | (i, s) :: r, toks => by
    rw [List.map_cons, List.length_cons, Nat.succ_mul]
    refine Ev.bind (m := r.length * 3 + 2) (n := 1) key_ev ?_
    refine Ev.bind (m := r.length * 3) (n := 2) (Ev.holding val_ev) ?_
    have := pairs_ev (heap := heap) r (toks + 2)
    rw [show toks + 2 + r.length * 2 = toks + (r.length + 1) * 2 by omega] at this
    rw [← Nat.zero_add (r.length * 3)]
    exact Ev.bind (m := 0) (n := r.length * 3) (Ev.holding this) (.pure _ _ _)
theorem vfor_ev (f : Value × Value → PUnit → Sem (ForInStep PUnit)) (P : List Obj)
    (hf : ∀ (es : List DictEntry) (ep : Nat) (i : Int) (t : Nat) (v : Value) (toks : Nat), (∀ x ∈ es, x.hash ≠ i) → 0 ≤ i → i < 2305843009213693951 → es.length < sizeLine →
      Ev w (f (.int i t, v) ()) 10 ⟨hp (P ++ [D es ep]), gens, drawn, toks, os⟩ dp (.yield ()) ⟨hp (P ++ [D (es ++ [⟨i, .int i t, v⟩]) (ep + 1)]), gens, drawn, toks + 1, os⟩ dp) :
    ∀ (kv : List (Int × Str)) (es : List DictEntry) (ep : Nat) (b : Int) (t toks : Nat), (∀ x ∈ es, x.hash ≤ b) → asc b kv = true → es.length + kv.length < sizeLine →
      Ev w (forIn (vals kv t) PUnit.unit f) (kv.length * 10) ⟨hp (P ++ [D es ep]), gens, drawn, toks, os⟩ dp () ⟨hp (P ++ [D (es ++ ents 2 kv t) (ep + kv.length)]), gens, drawn, toks + kv.length, os⟩ dp
  | [], es, ep, b, t, toks, _, _, _ => by
    rw [ents, List.append_nil]
    exact .pure _ _ _
  | (i, s) :: r, es, ep, b, t, toks, hb, h, hs => by
    simp only [asc, Bool.and_eq_true, decide_eq_true_eq] at h
    obtain ⟨h1, h2, h3, h4⟩ := h
    simp only [List.length_cons] at hs
    rw [vals, List.forIn_cons, List.length_cons, Nat.succ_mul]
    refine Ev.bind (m := r.length * 10) (n := 10) (hf es ep i t (.str s (t + 1)) toks (above hb h1) h2 h3 (by omega)) ?_
    have := vfor_ev f P hf r (es ++ [⟨i, .int i t, .str s (t + 1)⟩]) (ep + 1) i (t + 2) (toks + 1) (le_snoc hb h1) h4 (by simp only [List.length_append, List.length_cons, List.length_nil]; omega)
    rw [List.append_assoc, List.singleton_append, show ep + 1 + r.length = ep + (r.length + 1) by omega, show toks + 1 + r.length = toks + (r.length + 1) by omega] at this
    exact this
theorem subS_ev {P : List Obj} {kv : List (Int × Str)} {toks : Nat} {b : Int} (ha : Nat.ble 11 P.length = true) (hl : kv.length ≤ 15) (hk : asc b kv = true) (hs : kv.length < sizeLine) :
    Ev w (subDict (kv.map (semP dp))) (kv.length * 13 + 1) ⟨hp P, gens, drawn, toks, os⟩ dp P.length ⟨hp (P ++ [D (ents 2 kv toks) kv.length]), gens, drawn, toks + kv.length * 3, os⟩ dp := by
  unfold subDict
  refine Ev.alloc ?_
  rw [hp_push, show (hp P).objs.size = P.length from List.size_toArray ..]
  show Ev w _ _ ⟨hp (P ++ [D [] 0]), gens, drawn, toks, os⟩ _ _ _ _
  rw [← Nat.zero_add (kv.length * 13)]
  refine Ev.bind (m := 0) (n := kv.length * 13) (a := ()) (Ev.holding ?_) (.pure _ _ _)
  rw [List.length_map, if_pos hl, show kv.length * 13 = kv.length * 10 + kv.length * 3 by omega]
  refine Ev.bind (pairs_ev kv toks) (Ev.holding ?_)
  rw [← Nat.zero_add (kv.length * 10)]
  have := vfor_ev (w := w) (gens := gens) (drawn := drawn) (os := os) (dp := dp) (fun x _ => do
      dictSet P.length x.1 x.2
      pure (ForInStep.yield PUnit.unit)) P ?_ kv [] 0 b toks (toks + kv.length * 2) (fun _ h => nomatch h) hk (by simpa using hs)
  · rw [List.nil_append, Nat.zero_add, show toks + kv.length * 2 + kv.length = toks + kv.length * 3 by omega] at this
    exact Ev.bind (m := 0) (n := kv.length * 10) this (.pure _ _ _)
  · intro es ep i t v toks hn h0 h1 hs
    exact Ev.bind (m := 0) (n := 10) (set_ev h0 h1 hn ha hs) (.pure _ _ _)
end Mine
end
section
open PySem PySem.W PyProof.Rows
set_option maxRecDepth 1000000
set_option maxHeartbeats 0
namespace Mine
variable {w : World} {gens : Array GenState} {drawn : Drawn} {os : OsState} {dp : Pos}
theorem fl_ev {L S : List Obj} {es X : List DictEntry} {ep n N toks toks' : Nat} {b : Int} {run : List (Sem Value × Sem Value)} (hr : run.isEmpty = false) (ha : Nat.ble 11 L.length = true) (hne : es ≠ []) (hb : ∀ x ∈ es, x.hash ≤ b) (hu : Up b X) (hX : X.length = n) (hs : es.length + n < sizeLine)
    (sub : ∀ P : List Obj, Nat.ble 11 P.length = true → Ev w (subDict run) N ⟨hp P, gens, drawn, toks, os⟩ dp P.length ⟨hp (P ++ [D X n]), gens, drawn, toks', os⟩ dp) :
    Ev w (fl run (some L.length)) (N + n * 6 + 5) ⟨hp (L ++ D es ep :: S), gens, drawn, toks, os⟩ dp (some L.length) ⟨hp (L ++ D (es ++ X) (ep + n) :: (S ++ [D X n])), gens, drawn, toks', os⟩ dp := by
  subst hX
  unfold fl
  rw [hr, if_neg Bool.false_ne_true]
  have h := sub (L ++ D es ep :: S) (Nat.ble_eq_true_of_le (by have := Nat.le_of_ble_eq_true ha; rw [List.length_append]; omega))
  rw [List.append_assoc, List.cons_append, List.length_append, List.length_cons, show L.length + (S.length + 1) = L.length + 1 + S.length by omega] at h
  rw [show N + X.length * 6 + 5 = (0 + (X.length * 6 + 5)) + N by omega]
  refine Ev.bind (Ev.holding h) ?_
  exact Ev.bind (m := 0) (n := X.length * 6 + 5) (Ev.onRaise (Ev.holding (merge_ev ha hne hb hu hs))) (.pure _ _ _)
theorem fl0_ev {L : List Obj} {X : List DictEntry} {n N toks toks' : Nat} {run : List (Sem Value × Sem Value)} (hr : run.isEmpty = false)
    (sub : Ev w (subDict run) N ⟨hp L, gens, drawn, toks, os⟩ dp L.length ⟨hp (L ++ [D X n]), gens, drawn, toks', os⟩ dp) :
    Ev w (fl run none) N ⟨hp L, gens, drawn, toks, os⟩ dp (some L.length) ⟨hp (L ++ [D X n]), gens, drawn, toks', os⟩ dp := by
  unfold fl
  rw [hr, if_neg Bool.false_ne_true]
  rw [← Nat.zero_add N]
  exact Ev.bind (m := 0) (n := N) sub (.pure _ _ _)
/-- what k whole chunks and a short one leave: the main dict's entries, the others, the tokens -/
def chunks : Nat → List (Int × Str) → List DictEntry → List Obj → Nat → List DictEntry × List Obj × Nat
  | 0, kv, es, S, t => (es ++ ents 2 kv t, S ++ [D (ents 2 kv t) kv.length], t + kv.length * 3)
  | k + 1, kv, es, S, t => chunks k (kv.drop 17) (es ++ ents 3 (kv.take 17) t) (S ++ [D (ents 3 (kv.take 17) t) 17]) (t + 51)
theorem asc_take : ∀ (n : Nat) {b : Int} {kv : List (Int × Str)}, asc b kv = true → asc b (kv.take n) = true
  | 0, _, _, _ => rfl
  | _ + 1, _, [], _ => rfl
  | n + 1, b, (i, s) :: r, h => by
    simp only [asc, Bool.and_eq_true, decide_eq_true_eq, List.take_succ_cons] at h ⊢
    exact ⟨h.1, h.2.1, h.2.2.1, asc_take n h.2.2.2⟩
theorem asc_drop {st : Nat} : ∀ (n : Nat) {b : Int} {t : Nat} {kv : List (Int × Str)}, asc b kv = true → asc (top b (ents st (kv.take n) t)) (kv.drop n) = true
  | 0, _, _, _, h => h
  | _ + 1, _, _, [], _ => rfl
  | n + 1, b, t, (i, s) :: r, h => by
    simp only [asc, Bool.and_eq_true, decide_eq_true_eq] at h
    exact asc_drop n h.2.2.2
theorem lp_short (run : List (Sem Value × Sem Value)) (main : Option Addr) : ∀ (c r : List (Sem Value × Sem Value)), r.length + c.length < 17 → lp c r main = (fl (r ++ c) main).bind lpE
  | [], r, _ => by rw [List.append_nil]; rfl
  | p :: c, r, h => by
    simp only [List.length_cons] at h
    have e : ((r ++ [p]).length == 17) = false := by
      simp only [List.length_append, List.length_cons, List.length_nil, beq_eq_false_iff_ne]; omega
    rw [lp, if_neg (by rw [e]; decide), lp_short run main c (r ++ [p]) (by simp only [List.length_append, List.length_cons, List.length_nil]; omega), List.append_assoc]
    rfl
theorem empty_map {kv : List (Int × Str)} (h : 0 < kv.length) : (kv.map (semP dp)).isEmpty = false := by
  cases kv with
  | nil => exact absurd h (by decide)
  | cons => rfl
theorem lp_ev {L : List Obj} (ha : Nat.ble 11 L.length = true) : ∀ (k r : Nat) (kv : List (Int × Str)) (es : List DictEntry) (S : List Obj) (t : Nat) (b : Int), kv.length = 17 * k + r → 0 < r → r ≤ 15 → es ≠ [] → (∀ x ∈ es, x.hash ≤ b) → asc b kv = true → es.length + kv.length < sizeLine →
    Ev w (lp (kv.map (semP dp)) [] (some L.length)) (330 * k + (19 * r + 6)) ⟨hp (L ++ D es es.length :: S), gens, drawn, t, os⟩ dp (.ref L.length)
      ⟨hp (L ++ D (chunks k kv es S t).1 (chunks k kv es S t).1.length :: (chunks k kv es S t).2.1), gens, drawn, (chunks k kv es S t).2.2, os⟩ dp
  | 0, r, kv, es, S, t, b, hk, h0, hr, hne, hb, h, hs => by
    rw [lp_short [] _ _ [] (by simp only [List.length_map, List.length_nil]; omega), List.nil_append]
    have e := fl_ev (w := w) (gens := gens) (drawn := drawn) (os := os) (dp := dp) (L := L) (S := S) (ep := es.length) (toks := t) (toks' := t + kv.length * 3) (N := kv.length * 13 + 1) (n := kv.length) (empty_map (dp := dp) (by omega : 0 < kv.length)) ha hne hb (ents_up (st := 2) (t := t) h) ents_len hs
      (fun P hP => subS_ev hP (by omega) h (by omega))
    rw [show 330 * 0 + (19 * r + 6) = 0 + (kv.length * 13 + 1 + kv.length * 6 + 5) by omega]
    refine Ev.bind e ?_
    simp only [chunks, List.length_append, ents_len]
    exact .pure _ _ _
  | k + 1, r, kv, es, S, t, b, hk, h0, hr, hne, hb, h, hs => by
    have h17 : (kv.take 17).length = 17 := by rw [List.length_take]; omega
    have hd : (kv.drop 17).length = 17 * k + r := by rw [List.length_drop]; omega
    have e := fl_ev (w := w) (gens := gens) (drawn := drawn) (os := os) (dp := dp) (L := L) (S := S) (ep := es.length) (toks := t) (toks' := t + 51) (N := 223) (n := 17) (empty_map (dp := dp) (by omega : 0 < (kv.take 17).length)) ha hne hb (ents_up (st := 3) (t := t) (asc_take 17 h)) (by rw [ents_len, h17]) (by omega)
      (fun P hP => by have := sub_ev (w := w) (gens := gens) (drawn := drawn) (os := os) (dp := dp) (toks := t) hP (by omega : ¬ (kv.take 17).length ≤ 15) (asc_take 17 h) (by rw [h17]; decide); rw [h17] at this; exact this)
    have ih := lp_ev ha k r (kv.drop 17) (es ++ ents 3 (kv.take 17) t) (S ++ [D (ents 3 (kv.take 17) t) 17]) (t + 51) (top b (ents 3 (kv.take 17) t)) hd h0 hr (by simp [hne])
      (fun x hx => by
        rcases List.mem_append.mp hx with hx | hx
        · exact Int.le_trans (hb x hx) (ents_up (st := 3) (t := t) (asc_take 17 h)).le_top
        · exact (ents_up (st := 3) (t := t) (asc_take 17 h)).le x hx) (asc_drop 17 h) (by simp only [List.length_append, ents_len, h17, hd]; omega)
    rw [show kv.map (semP dp) = (kv.take 17).map (semP dp) ++ (kv.drop 17).map (semP dp) by rw [← List.map_append, List.take_append_drop]]
    rw [lp_run _ _ _ [] (by intro c; have := congrArg List.length c; rw [List.length_map, h17] at this; exact absurd this (by decide)) (by rw [List.length_map, h17]; rfl), List.nil_append]
    rw [show 330 * (k + 1) + (19 * r + 6) = (330 * k + (19 * r + 6)) + (223 + 17 * 6 + 5) by omega]
    refine Ev.bind e ?_
    have hl : es.length + 17 = (es ++ ents 3 (kv.take 17) t).length := by rw [List.length_append, ents_len, h17]
    rw [hl]
    exact ih
end Mine
end
section
open PySem PySem.W PyProof.Rows
set_option maxRecDepth 1000000
set_option maxHeartbeats 0
namespace Mine
def stF (i : Nat) : Stmt := (pw.main.body[i]?).getD (.Pass ⟨0, 0, 0, 0⟩)
def fdP (i : Nat) : Arguments := match stF i with
  | .FunctionDef _ a _ _ _ _ _ _ _ _ => a
  | _ => ⟨[], [], none, [], [], none, []⟩
def fdB (i : Nat) : List Stmt := match stF i with
  | .FunctionDef _ _ b _ _ _ _ _ _ _ => b
  | _ => []
def fdS (i : Nat) : Scope := match stF i with
  | .FunctionDef _ _ _ _ _ _ s _ _ _ => s
  | _ => default
def stL (i n : Nat) : List Stmt := (pw.main.body.drop i).take n
def drawnV : Drawn := ⟨0, 0, 0, 0⟩
/-- the literals of a display of ints against texts -/
def kvOf : List (Option Expr) → List Expr → List (Int × Str)
  | some (.Constant (.int i) _ _) :: ks, .Constant (.str s) _ _ :: vs => (i, s) :: kvOf ks vs
  | _, _ => []
def dK (i : Nat) : List (Option Expr) := match stF i with
  | .Assign _ (.Dict ks _ _) _ => ks
  | _ => []
def dV (i : Nat) : List Expr := match stF i with
  | .Assign _ (.Dict _ vs _) _ => vs
  | _ => []
def dP (i : Nat) : Pos := match stF i with
  | .Assign _ (.Dict _ _ p) _ => p
  | _ => qV
def dQ (i : Nat) : Pos := match stF i with
  | .Assign _ _ p => p
  | _ => qV
def dT (i : Nat) : List Expr := match stF i with
  | .Assign ts _ _ => ts
  | _ => []
def dE (i : Nat) : Expr := match stF i with
  | .Assign _ e _ => e
  | _ => .Constant .none 0 qV
/-- the text keys of a display -/
def txtKeys : List (Option Expr) → List Str
  | some (.Constant (.str s) _ _) :: r => s :: txtKeys r
  | _ => []
def entT (P : Params) : List Str → List (Nat × Int × Nat) → List DictEntry
  | s :: ss, (a, v, b) :: r => ⟨PyData.keyHash P s, .str s a, .int v b⟩ :: entT P ss r
  | _, _ => []
noncomputable def bootO (i : Nat) (P : Params) : Obj := ((boot_heap P).objs[i]?).getD default
def kvs : List (Int × Str) := kvOf (dK 3) (dV 3)
noncomputable def o0_pre (P : Params) : Obj := bootO 0 P
noncomputable def o1_pre (P : Params) : Obj := bootO 1 P
noncomputable def o2_pre (P : Params) : Obj := bootO 2 P
noncomputable def o3_pre (P : Params) : Obj := bootO 3 P
noncomputable def o4_pre (P : Params) : Obj := bootO 4 P
noncomputable def o5_pre (P : Params) : Obj := bootO 5 P
noncomputable def o6_pre (P : Params) : Obj := bootO 6 P
noncomputable def o7_pre (P : Params) : Obj := bootO 7 P
noncomputable def o8_pre (P : Params) : Obj := bootO 8 P
noncomputable def o9_pre (P : Params) : Obj := bootO 9 P
noncomputable def o10_pre (P : Params) : Obj := bootO 10 P
noncomputable def o11_pre (P : Params) : Obj := (@PySem.Obj.mk (@PySem.Value.type "tuple") (@Option.none @Nat) (@PySem.Data.seq (@List.toArray @PySem.Value []) (0 : @Nat)) (@List.toArray (@Option @PySem.Value) []))
noncomputable def o12_pre (P : Params) : Obj := (@PySem.Obj.mk @PySem.Value.none (@Option.none @Nat) (@PySem.Data.fields (@List.toArray @PySem.Value [])) (@List.toArray (@Option @PySem.Value) []))
noncomputable def o13_pre (P : Params) : Obj := (@PySem.Obj.mk (@PySem.Value.type "code") (@Option.none @Nat) (@PySem.Data.fields (@List.toArray @PySem.Value [(@PySem.Value.str (⟨#[60, 109, 111, 100, 117, 108, 101, 62]⟩ : PySem.Str) (182 : @Nat)), (@PySem.Value.str (⟨#[60, 109, 111, 100, 117, 108, 101, 62]⟩ : PySem.Str) (183 : @Nat)), (@PySem.Value.str (⟨#[47, 99, 108, 97, 105, 109, 47, 99, 117, 116, 46, 112, 121]⟩ : PySem.Str) (184 : @Nat)), (@PySem.Value.int (1 : @Int) (0 : @Nat)), (@PySem.Value.int (0 : @Int) (0 : @Nat)), (@PySem.Value.int (0 : @Int) (0 : @Nat)), (@PySem.Value.int (0 : @Int) (0 : @Nat)), (@PySem.Value.int (0 : @Int) (0 : @Nat)), (@PySem.Value.ref (11 : @Nat)), (@PySem.Value.bool @Bool.false), (@PySem.Value.int (181 : @Int) (0 : @Nat)), (@PySem.Value.ref (12 : @Nat)), @PySem.Value.none, @PySem.Value.none, @PySem.Value.none, @PySem.Value.none, (@PySem.Value.int (185 : @Int) (0 : @Nat)), (@PySem.Value.int (1 : @Int) (0 : @Nat)), (@PySem.Value.str (⟨#[47, 99, 108, 97, 105, 109, 47, 99, 117, 116, 46, 112, 121]⟩ : PySem.Str) (186 : @Nat))])) (@List.toArray (@Option @PySem.Value) []))
noncomputable def o14_pre (P : Params) : Obj := (@PySem.Obj.mk (@PySem.Value.type "frame") (@Option.none @Nat) @PySem.Data.plain (@List.toArray (@Option @PySem.Value) [(@Option.some @PySem.Value (@PySem.Value.ref (13 : @Nat))), (@Option.some @PySem.Value (@PySem.Value.ref (3 : @Nat))), (@Option.some @PySem.Value (@PySem.Value.ref (3 : @Nat))), (@Option.none @PySem.Value), (@Option.some @PySem.Value (@PySem.Value.str (⟨#[95, 95, 109, 97, 105, 110, 95, 95]⟩ : PySem.Str) (164 : @Nat))), (@Option.none @PySem.Value), (@Option.some @PySem.Value (@PySem.Value.ref (0 : @Nat)))]))
noncomputable def o3_s0 (P : Params) : Obj := (@PySem.Obj.mk (@PySem.Value.type "dict") (@Option.none @Nat) (@PySem.Data.dict (@List.toArray @PySem.DictEntry [(@PySem.DictEntry.mk (@PySem.PyData.keyHash P (⟨#[95, 95, 110, 97, 109, 101, 95, 95]⟩ : PySem.Str)) (@PySem.Value.str (⟨#[95, 95, 110, 97, 109, 101, 95, 95]⟩ : PySem.Str) (165 : @Nat)) (@PySem.Value.str (⟨#[99, 112, 121, 51, 49, 51, 46, 115, 116, 114, 105, 110, 103, 112, 114, 101, 112]⟩ : PySem.Str) (187 : @Nat))), (@PySem.DictEntry.mk (@PySem.PyData.keyHash P (⟨#[95, 95, 100, 111, 99, 95, 95]⟩ : PySem.Str)) (@PySem.Value.str (⟨#[95, 95, 100, 111, 99, 95, 95]⟩ : PySem.Str) (166 : @Nat)) @PySem.Value.none), (@PySem.DictEntry.mk (@PySem.PyData.keyHash P (⟨#[95, 95, 112, 97, 99, 107, 97, 103, 101, 95, 95]⟩ : PySem.Str)) (@PySem.Value.str (⟨#[95, 95, 112, 97, 99, 107, 97, 103, 101, 95, 95]⟩ : PySem.Str) (167 : @Nat)) @PySem.Value.none), (@PySem.DictEntry.mk (@PySem.PyData.keyHash P (⟨#[95, 95, 108, 111, 97, 100, 101, 114, 95, 95]⟩ : PySem.Str)) (@PySem.Value.str (⟨#[95, 95, 108, 111, 97, 100, 101, 114, 95, 95]⟩ : PySem.Str) (168 : @Nat)) (@PySem.Value.builtin "__main__.__loader__#opaque")), (@PySem.DictEntry.mk (@PySem.PyData.keyHash P (⟨#[95, 95, 115, 112, 101, 99, 95, 95]⟩ : PySem.Str)) (@PySem.Value.str (⟨#[95, 95, 115, 112, 101, 99, 95, 95]⟩ : PySem.Str) (169 : @Nat)) @PySem.Value.none), (@PySem.DictEntry.mk (@PySem.PyData.keyHash P (⟨#[95, 95, 97, 110, 110, 111, 116, 97, 116, 105, 111, 110, 115, 95, 95]⟩ : PySem.Str)) (@PySem.Value.str (⟨#[95, 95, 97, 110, 110, 111, 116, 97, 116, 105, 111, 110, 115, 95, 95]⟩ : PySem.Str) (170 : @Nat)) (@PySem.Value.ref (6 : @Nat))), (@PySem.DictEntry.mk (@PySem.PyData.keyHash P (⟨#[95, 95, 98, 117, 105, 108, 116, 105, 110, 115, 95, 95]⟩ : PySem.Str)) (@PySem.Value.str (⟨#[95, 95, 98, 117, 105, 108, 116, 105, 110, 115, 95, 95]⟩ : PySem.Str) (171 : @Nat)) (@PySem.Value.ref (4 : @Nat))), (@PySem.DictEntry.mk (@PySem.PyData.keyHash P (⟨#[95, 95, 102, 105, 108, 101, 95, 95]⟩ : PySem.Str)) (@PySem.Value.str (⟨#[95, 95, 102, 105, 108, 101, 95, 95]⟩ : PySem.Str) (173 : @Nat)) (@PySem.Value.str (⟨#[47, 99, 108, 97, 105, 109, 47, 99, 117, 116, 46, 112, 121]⟩ : PySem.Str) (172 : @Nat))), (@PySem.DictEntry.mk (@PySem.PyData.keyHash P (⟨#[95, 95, 99, 97, 99, 104, 101, 100, 95, 95]⟩ : PySem.Str)) (@PySem.Value.str (⟨#[95, 95, 99, 97, 99, 104, 101, 100, 95, 95]⟩ : PySem.Str) (174 : @Nat)) @PySem.Value.none)]) (9 : @Nat)) (@List.toArray (@Option @PySem.Value) []))
noncomputable def o3_s1 (P : Params) : Obj := (@PySem.Obj.mk (@PySem.Value.type "dict") (@Option.none @Nat) (@PySem.Data.dict (@List.toArray @PySem.DictEntry [(@PySem.DictEntry.mk (@PySem.PyData.keyHash P (⟨#[95, 95, 110, 97, 109, 101, 95, 95]⟩ : PySem.Str)) (@PySem.Value.str (⟨#[95, 95, 110, 97, 109, 101, 95, 95]⟩ : PySem.Str) (165 : @Nat)) (@PySem.Value.str (⟨#[99, 112, 121, 51, 49, 51, 46, 115, 116, 114, 105, 110, 103, 112, 114, 101, 112]⟩ : PySem.Str) (187 : @Nat))), (@PySem.DictEntry.mk (@PySem.PyData.keyHash P (⟨#[95, 95, 100, 111, 99, 95, 95]⟩ : PySem.Str)) (@PySem.Value.str (⟨#[95, 95, 100, 111, 99, 95, 95]⟩ : PySem.Str) (166 : @Nat)) @PySem.Value.none), (@PySem.DictEntry.mk (@PySem.PyData.keyHash P (⟨#[95, 95, 112, 97, 99, 107, 97, 103, 101, 95, 95]⟩ : PySem.Str)) (@PySem.Value.str (⟨#[95, 95, 112, 97, 99, 107, 97, 103, 101, 95, 95]⟩ : PySem.Str) (167 : @Nat)) @PySem.Value.none), (@PySem.DictEntry.mk (@PySem.PyData.keyHash P (⟨#[95, 95, 108, 111, 97, 100, 101, 114, 95, 95]⟩ : PySem.Str)) (@PySem.Value.str (⟨#[95, 95, 108, 111, 97, 100, 101, 114, 95, 95]⟩ : PySem.Str) (168 : @Nat)) (@PySem.Value.builtin "__main__.__loader__#opaque")), (@PySem.DictEntry.mk (@PySem.PyData.keyHash P (⟨#[95, 95, 115, 112, 101, 99, 95, 95]⟩ : PySem.Str)) (@PySem.Value.str (⟨#[95, 95, 115, 112, 101, 99, 95, 95]⟩ : PySem.Str) (169 : @Nat)) @PySem.Value.none), (@PySem.DictEntry.mk (@PySem.PyData.keyHash P (⟨#[95, 95, 97, 110, 110, 111, 116, 97, 116, 105, 111, 110, 115, 95, 95]⟩ : PySem.Str)) (@PySem.Value.str (⟨#[95, 95, 97, 110, 110, 111, 116, 97, 116, 105, 111, 110, 115, 95, 95]⟩ : PySem.Str) (170 : @Nat)) (@PySem.Value.ref (6 : @Nat))), (@PySem.DictEntry.mk (@PySem.PyData.keyHash P (⟨#[95, 95, 98, 117, 105, 108, 116, 105, 110, 115, 95, 95]⟩ : PySem.Str)) (@PySem.Value.str (⟨#[95, 95, 98, 117, 105, 108, 116, 105, 110, 115, 95, 95]⟩ : PySem.Str) (171 : @Nat)) (@PySem.Value.ref (4 : @Nat))), (@PySem.DictEntry.mk (@PySem.PyData.keyHash P (⟨#[95, 95, 102, 105, 108, 101, 95, 95]⟩ : PySem.Str)) (@PySem.Value.str (⟨#[95, 95, 102, 105, 108, 101, 95, 95]⟩ : PySem.Str) (173 : @Nat)) (@PySem.Value.str (⟨#[47, 99, 108, 97, 105, 109, 47, 99, 117, 116, 46, 112, 121]⟩ : PySem.Str) (172 : @Nat))), (@PySem.DictEntry.mk (@PySem.PyData.keyHash P (⟨#[95, 95, 99, 97, 99, 104, 101, 100, 95, 95]⟩ : PySem.Str)) (@PySem.Value.str (⟨#[95, 95, 99, 97, 99, 104, 101, 100, 95, 95]⟩ : PySem.Str) (174 : @Nat)) @PySem.Value.none), (@PySem.DictEntry.mk (@PySem.PyData.keyHash P (⟨#[98, 49, 95, 115, 101, 116]⟩ : PySem.Str)) (@PySem.Value.str (⟨#[98, 49, 95, 115, 101, 116]⟩ : PySem.Str) (248 : @Nat)) (@PySem.Value.ref (22 : @Nat)))]) (10 : @Nat)) (@List.toArray (@Option @PySem.Value) []))
noncomputable def o15_s1 (P : Params) : Obj := (@PySem.Obj.mk (@PySem.Value.type "list") (@Option.none @Nat) (@PySem.Data.seq (@List.toArray @PySem.Value [(@PySem.Value.int (173 : @Int) (189 : @Nat)), (@PySem.Value.int (847 : @Int) (190 : @Nat)), (@PySem.Value.int (6150 : @Int) (191 : @Nat)), (@PySem.Value.int (6155 : @Int) (192 : @Nat)), (@PySem.Value.int (6156 : @Int) (193 : @Nat)), (@PySem.Value.int (6157 : @Int) (194 : @Nat)), (@PySem.Value.int (8203 : @Int) (195 : @Nat)), (@PySem.Value.int (8204 : @Int) (196 : @Nat)), (@PySem.Value.int (8205 : @Int) (197 : @Nat)), (@PySem.Value.int (8288 : @Int) (198 : @Nat)), (@PySem.Value.int (65279 : @Int) (199 : @Nat))]) (0 : @Nat)) (@List.toArray (@Option @PySem.Value) []))
noncomputable def o16_s1 (P : Params) : Obj := (@PySem.Obj.mk (@PySem.Value.type "range") (@Option.none @Nat) (@PySem.Data.fields (@List.toArray @PySem.Value [(@PySem.Value.int (65024 : @Int) (200 : @Nat)), (@PySem.Value.int (65040 : @Int) (201 : @Nat)), (@PySem.Value.int (1 : @Int) (202 : @Nat))])) (@List.toArray (@Option @PySem.Value) []))
noncomputable def o17_s1 (P : Params) : Obj := (@PySem.Obj.mk (@PySem.Value.type "list") (@Option.none @Nat) (@PySem.Data.seq (@List.toArray @PySem.Value [(@PySem.Value.int (65024 : @Int) (205 : @Nat)), (@PySem.Value.int (65025 : @Int) (206 : @Nat)), (@PySem.Value.int (65026 : @Int) (207 : @Nat)), (@PySem.Value.int (65027 : @Int) (208 : @Nat)), (@PySem.Value.int (65028 : @Int) (209 : @Nat)), (@PySem.Value.int (65029 : @Int) (210 : @Nat)), (@PySem.Value.int (65030 : @Int) (211 : @Nat)), (@PySem.Value.int (65031 : @Int) (212 : @Nat)), (@PySem.Value.int (65032 : @Int) (213 : @Nat)), (@PySem.Value.int (65033 : @Int) (214 : @Nat)), (@PySem.Value.int (65034 : @Int) (215 : @Nat)), (@PySem.Value.int (65035 : @Int) (216 : @Nat)), (@PySem.Value.int (65036 : @Int) (217 : @Nat)), (@PySem.Value.int (65037 : @Int) (218 : @Nat)), (@PySem.Value.int (65038 : @Int) (219 : @Nat)), (@PySem.Value.int (65039 : @Int) (220 : @Nat))]) (18 : @Nat)) (@List.toArray (@Option @PySem.Value) []))
noncomputable def o18_s1 (P : Params) : Obj := (@PySem.Obj.mk (@PySem.Value.type "range_iterator") (@Option.none @Nat) (@PySem.Data.fields (@List.toArray @PySem.Value [(@PySem.Value.int (65040 : @Int) (0 : @Nat)), (@PySem.Value.int (0 : @Int) (0 : @Nat)), (@PySem.Value.int (1 : @Int) (0 : @Nat))])) (@List.toArray (@Option @PySem.Value) []))
noncomputable def o19_s1 (P : Params) : Obj := (@PySem.Obj.mk (@PySem.Value.type "tuple") (@Option.none @Nat) (@PySem.Data.seq (@List.toArray @PySem.Value []) (0 : @Nat)) (@List.toArray (@Option @PySem.Value) []))
noncomputable def o20_s1 (P : Params) : Obj := (@PySem.Obj.mk (@PySem.Value.type "StopIteration") (@Option.none @Nat) (@PySem.Data.fields (@List.toArray @PySem.Value [(@PySem.Value.ref (19 : @Nat)), @PySem.Value.none, @PySem.Value.none, @PySem.Value.none, (@PySem.Value.bool @Bool.false), @PySem.Value.none])) (@List.toArray (@Option @PySem.Value) []))
noncomputable def o21_s1 (P : Params) : Obj := (@PySem.Obj.mk (@PySem.Value.type "list") (@Option.none @Nat) (@PySem.Data.seq (@List.toArray @PySem.Value [(@PySem.Value.int (173 : @Int) (189 : @Nat)), (@PySem.Value.int (847 : @Int) (190 : @Nat)), (@PySem.Value.int (6150 : @Int) (191 : @Nat)), (@PySem.Value.int (6155 : @Int) (192 : @Nat)), (@PySem.Value.int (6156 : @Int) (193 : @Nat)), (@PySem.Value.int (6157 : @Int) (194 : @Nat)), (@PySem.Value.int (8203 : @Int) (195 : @Nat)), (@PySem.Value.int (8204 : @Int) (196 : @Nat)), (@PySem.Value.int (8205 : @Int) (197 : @Nat)), (@PySem.Value.int (8288 : @Int) (198 : @Nat)), (@PySem.Value.int (65279 : @Int) (199 : @Nat)), (@PySem.Value.int (65024 : @Int) (205 : @Nat)), (@PySem.Value.int (65025 : @Int) (206 : @Nat)), (@PySem.Value.int (65026 : @Int) (207 : @Nat)), (@PySem.Value.int (65027 : @Int) (208 : @Nat)), (@PySem.Value.int (65028 : @Int) (209 : @Nat)), (@PySem.Value.int (65029 : @Int) (210 : @Nat)), (@PySem.Value.int (65030 : @Int) (211 : @Nat)), (@PySem.Value.int (65031 : @Int) (212 : @Nat)), (@PySem.Value.int (65032 : @Int) (213 : @Nat)), (@PySem.Value.int (65033 : @Int) (214 : @Nat)), (@PySem.Value.int (65034 : @Int) (215 : @Nat)), (@PySem.Value.int (65035 : @Int) (216 : @Nat)), (@PySem.Value.int (65036 : @Int) (217 : @Nat)), (@PySem.Value.int (65037 : @Int) (218 : @Nat)), (@PySem.Value.int (65038 : @Int) (219 : @Nat)), (@PySem.Value.int (65039 : @Int) (220 : @Nat))]) (0 : @Nat)) (@List.toArray (@Option @PySem.Value) []))
noncomputable def o22_s1 (P : Params) : Obj := (@PySem.Obj.mk (@PySem.Value.type "set") (@Option.none @Nat) (@PySem.Data.set (@List.toArray (@Prod @Int @PySem.Value) [(@Prod.mk @Int @PySem.Value (65024 : @Int) (@PySem.Value.int (65024 : @Int) (205 : @Nat))), (@Prod.mk @Int @PySem.Value (65025 : @Int) (@PySem.Value.int (65025 : @Int) (206 : @Nat))), (@Prod.mk @Int @PySem.Value (65026 : @Int) (@PySem.Value.int (65026 : @Int) (207 : @Nat))), (@Prod.mk @Int @PySem.Value (65027 : @Int) (@PySem.Value.int (65027 : @Int) (208 : @Nat))), (@Prod.mk @Int @PySem.Value (65028 : @Int) (@PySem.Value.int (65028 : @Int) (209 : @Nat))), (@Prod.mk @Int @PySem.Value (65029 : @Int) (@PySem.Value.int (65029 : @Int) (210 : @Nat))), (@Prod.mk @Int @PySem.Value (6150 : @Int) (@PySem.Value.int (6150 : @Int) (191 : @Nat))), (@Prod.mk @Int @PySem.Value (65030 : @Int) (@PySem.Value.int (65030 : @Int) (211 : @Nat))), (@Prod.mk @Int @PySem.Value (65031 : @Int) (@PySem.Value.int (65031 : @Int) (212 : @Nat))), (@Prod.mk @Int @PySem.Value (65032 : @Int) (@PySem.Value.int (65032 : @Int) (213 : @Nat))), (@Prod.mk @Int @PySem.Value (65033 : @Int) (@PySem.Value.int (65033 : @Int) (214 : @Nat))), (@Prod.mk @Int @PySem.Value (6155 : @Int) (@PySem.Value.int (6155 : @Int) (192 : @Nat))), (@Prod.mk @Int @PySem.Value (6156 : @Int) (@PySem.Value.int (6156 : @Int) (193 : @Nat))), (@Prod.mk @Int @PySem.Value (6157 : @Int) (@PySem.Value.int (6157 : @Int) (194 : @Nat))), (@Prod.mk @Int @PySem.Value (8203 : @Int) (@PySem.Value.int (8203 : @Int) (195 : @Nat))), (@Prod.mk @Int @PySem.Value (8204 : @Int) (@PySem.Value.int (8204 : @Int) (196 : @Nat))), (@Prod.mk @Int @PySem.Value (8205 : @Int) (@PySem.Value.int (8205 : @Int) (197 : @Nat))), (@Prod.mk @Int @PySem.Value (65034 : @Int) (@PySem.Value.int (65034 : @Int) (215 : @Nat))), (@Prod.mk @Int @PySem.Value (65035 : @Int) (@PySem.Value.int (65035 : @Int) (216 : @Nat))), (@Prod.mk @Int @PySem.Value (65036 : @Int) (@PySem.Value.int (65036 : @Int) (217 : @Nat))), (@Prod.mk @Int @PySem.Value (65037 : @Int) (@PySem.Value.int (65037 : @Int) (218 : @Nat))), (@Prod.mk @Int @PySem.Value (65038 : @Int) (@PySem.Value.int (65038 : @Int) (219 : @Nat))), (@Prod.mk @Int @PySem.Value (65039 : @Int) (@PySem.Value.int (65039 : @Int) (220 : @Nat))), (@Prod.mk @Int @PySem.Value (173 : @Int) (@PySem.Value.int (173 : @Int) (189 : @Nat))), (@Prod.mk @Int @PySem.Value (847 : @Int) (@PySem.Value.int (847 : @Int) (190 : @Nat))), (@Prod.mk @Int @PySem.Value (8288 : @Int) (@PySem.Value.int (8288 : @Int) (198 : @Nat))), (@Prod.mk @Int @PySem.Value (65279 : @Int) (@PySem.Value.int (65279 : @Int) (199 : @Nat)))]) (29 : @Nat) (@PySem.SetTable.mk (127 : @Nat) (@List.toArray @Nat [(0 : @Nat), (1 : @Nat), (2 : @Nat), (3 : @Nat), (4 : @Nat), (5 : @Nat), (6 : @Nat), (7 : @Nat), (8 : @Nat), (9 : @Nat), (10 : @Nat), (11 : @Nat), (12 : @Nat), (13 : @Nat), (14 : @Nat), (15 : @Nat), (16 : @Nat), (17 : @Nat), (18 : @Nat), (19 : @Nat), (20 : @Nat), (21 : @Nat), (22 : @Nat), (45 : @Nat), (79 : @Nat), (96 : @Nat), (127 : @Nat)]) (@List.toArray @Nat []) (0 : @Nat) (@Bool.not (@PySem.Params.followText P "set-order")) (2 : @Nat) @Bool.true)) (@List.toArray (@Option @PySem.Value) []))
noncomputable def o23_s1 (P : Params) : Obj := (@PySem.Obj.mk (@PySem.Value.type "list_iterator") (@Option.none @Nat) (@PySem.Data.fields (@List.toArray @PySem.Value [@PySem.Value.none, (@PySem.Value.int (27 : @Int) (0 : @Nat))])) (@List.toArray (@Option @PySem.Value) []))
noncomputable def o24_s1 (P : Params) : Obj := (@PySem.Obj.mk (@PySem.Value.type "tuple") (@Option.none @Nat) (@PySem.Data.seq (@List.toArray @PySem.Value []) (0 : @Nat)) (@List.toArray (@Option @PySem.Value) []))
noncomputable def o25_s1 (P : Params) : Obj := (@PySem.Obj.mk (@PySem.Value.type "StopIteration") (@Option.none @Nat) (@PySem.Data.fields (@List.toArray @PySem.Value [(@PySem.Value.ref (24 : @Nat)), @PySem.Value.none, @PySem.Value.none, @PySem.Value.none, (@PySem.Value.bool @Bool.false), @PySem.Value.none])) (@List.toArray (@Option @PySem.Value) []))
noncomputable def o3_s2 (P : Params) : Obj := (@PySem.Obj.mk (@PySem.Value.type "dict") (@Option.none @Nat) (@PySem.Data.dict (@List.toArray @PySem.DictEntry [(@PySem.DictEntry.mk (@PySem.PyData.keyHash P (⟨#[95, 95, 110, 97, 109, 101, 95, 95]⟩ : PySem.Str)) (@PySem.Value.str (⟨#[95, 95, 110, 97, 109, 101, 95, 95]⟩ : PySem.Str) (165 : @Nat)) (@PySem.Value.str (⟨#[99, 112, 121, 51, 49, 51, 46, 115, 116, 114, 105, 110, 103, 112, 114, 101, 112]⟩ : PySem.Str) (187 : @Nat))), (@PySem.DictEntry.mk (@PySem.PyData.keyHash P (⟨#[95, 95, 100, 111, 99, 95, 95]⟩ : PySem.Str)) (@PySem.Value.str (⟨#[95, 95, 100, 111, 99, 95, 95]⟩ : PySem.Str) (166 : @Nat)) @PySem.Value.none), (@PySem.DictEntry.mk (@PySem.PyData.keyHash P (⟨#[95, 95, 112, 97, 99, 107, 97, 103, 101, 95, 95]⟩ : PySem.Str)) (@PySem.Value.str (⟨#[95, 95, 112, 97, 99, 107, 97, 103, 101, 95, 95]⟩ : PySem.Str) (167 : @Nat)) @PySem.Value.none), (@PySem.DictEntry.mk (@PySem.PyData.keyHash P (⟨#[95, 95, 108, 111, 97, 100, 101, 114, 95, 95]⟩ : PySem.Str)) (@PySem.Value.str (⟨#[95, 95, 108, 111, 97, 100, 101, 114, 95, 95]⟩ : PySem.Str) (168 : @Nat)) (@PySem.Value.builtin "__main__.__loader__#opaque")), (@PySem.DictEntry.mk (@PySem.PyData.keyHash P (⟨#[95, 95, 115, 112, 101, 99, 95, 95]⟩ : PySem.Str)) (@PySem.Value.str (⟨#[95, 95, 115, 112, 101, 99, 95, 95]⟩ : PySem.Str) (169 : @Nat)) @PySem.Value.none), (@PySem.DictEntry.mk (@PySem.PyData.keyHash P (⟨#[95, 95, 97, 110, 110, 111, 116, 97, 116, 105, 111, 110, 115, 95, 95]⟩ : PySem.Str)) (@PySem.Value.str (⟨#[95, 95, 97, 110, 110, 111, 116, 97, 116, 105, 111, 110, 115, 95, 95]⟩ : PySem.Str) (170 : @Nat)) (@PySem.Value.ref (6 : @Nat))), (@PySem.DictEntry.mk (@PySem.PyData.keyHash P (⟨#[95, 95, 98, 117, 105, 108, 116, 105, 110, 115, 95, 95]⟩ : PySem.Str)) (@PySem.Value.str (⟨#[95, 95, 98, 117, 105, 108, 116, 105, 110, 115, 95, 95]⟩ : PySem.Str) (171 : @Nat)) (@PySem.Value.ref (4 : @Nat))), (@PySem.DictEntry.mk (@PySem.PyData.keyHash P (⟨#[95, 95, 102, 105, 108, 101, 95, 95]⟩ : PySem.Str)) (@PySem.Value.str (⟨#[95, 95, 102, 105, 108, 101, 95, 95]⟩ : PySem.Str) (173 : @Nat)) (@PySem.Value.str (⟨#[47, 99, 108, 97, 105, 109, 47, 99, 117, 116, 46, 112, 121]⟩ : PySem.Str) (172 : @Nat))), (@PySem.DictEntry.mk (@PySem.PyData.keyHash P (⟨#[95, 95, 99, 97, 99, 104, 101, 100, 95, 95]⟩ : PySem.Str)) (@PySem.Value.str (⟨#[95, 95, 99, 97, 99, 104, 101, 100, 95, 95]⟩ : PySem.Str) (174 : @Nat)) @PySem.Value.none), (@PySem.DictEntry.mk (@PySem.PyData.keyHash P (⟨#[98, 49, 95, 115, 101, 116]⟩ : PySem.Str)) (@PySem.Value.str (⟨#[98, 49, 95, 115, 101, 116]⟩ : PySem.Str) (248 : @Nat)) (@PySem.Value.ref (22 : @Nat))), (@PySem.DictEntry.mk (@PySem.PyData.keyHash P (⟨#[105, 110, 95, 116, 97, 98, 108, 101, 95, 98, 49]⟩ : PySem.Str)) (@PySem.Value.str (⟨#[105, 110, 95, 116, 97, 98, 108, 101, 95, 98, 49]⟩ : PySem.Str) (255 : @Nat)) (@PySem.Value.ref (32 : @Nat)))]) (11 : @Nat)) (@List.toArray (@Option @PySem.Value) []))
noncomputable def o12_s2 (P : Params) : Obj := (@PySem.Obj.mk @PySem.Value.none (@Option.none @Nat) (@PySem.Data.fields (@List.toArray @PySem.Value [(@PySem.Value.int (3 : @Int) (0 : @Nat)), (@PySem.Value.int (0 : @Int) (0 : @Nat)), (@PySem.Value.ref (31 : @Nat))])) (@List.toArray (@Option @PySem.Value) []))
noncomputable def o26_s2 (P : Params) : Obj := (@PySem.Obj.mk (@PySem.Value.type "tuple") (@Option.none @Nat) (@PySem.Data.seq (@List.toArray @PySem.Value []) (0 : @Nat)) (@List.toArray (@Option @PySem.Value) []))
noncomputable def o27_s2 (P : Params) : Obj := (@PySem.Obj.mk @PySem.Value.none (@Option.none @Nat) (@PySem.Data.fields (@List.toArray @PySem.Value [])) (@List.toArray (@Option @PySem.Value) []))
noncomputable def o28_s2 (P : Params) : Obj := (@PySem.Obj.mk (@PySem.Value.type "tuple") (@Option.none @Nat) (@PySem.Data.seq (@List.toArray @PySem.Value [(@PySem.Value.str (⟨#[99, 111, 100, 101]⟩ : PySem.Str) (252 : @Nat))]) (0 : @Nat)) (@List.toArray (@Option @PySem.Value) []))
noncomputable def o29_s2 (P : Params) : Obj := (@PySem.Obj.mk (@PySem.Value.type "tuple") (@Option.none @Nat) (@PySem.Data.seq (@List.toArray @PySem.Value []) (0 : @Nat)) (@List.toArray (@Option @PySem.Value) []))
noncomputable def o30_s2 (P : Params) : Obj := (@PySem.Obj.mk @PySem.Value.none (@Option.none @Nat) (@PySem.Data.func (@PySem.FuncData.mk (⟨#[105, 110, 95, 116, 97, 98, 108, 101, 95, 98, 49]⟩ : PySem.Str) (⟨#[105, 110, 95, 116, 97, 98, 108, 101, 95, 98, 49]⟩ : PySem.Str) (fdP 2) (@PySem.FuncBody.stmts (fdB 2)) (fdS 2) (0 : @Nat) [] @PySem.Value.none @PySem.Value.none @PySem.Value.none @PySem.Value.none (@Option.none @Nat) @PySem.Value.none @PySem.Value.none (0 : @Nat))) (@List.toArray (@Option @PySem.Value) []))
noncomputable def o31_s2 (P : Params) : Obj := (@PySem.Obj.mk (@PySem.Value.type "code") (@Option.none @Nat) (@PySem.Data.fields (@List.toArray @PySem.Value [(@PySem.Value.str (⟨#[105, 110, 95, 116, 97, 98, 108, 101, 95, 98, 49]⟩ : PySem.Str) (249 : @Nat)), (@PySem.Value.str (⟨#[105, 110, 95, 116, 97, 98, 108, 101, 95, 98, 49]⟩ : PySem.Str) (250 : @Nat)), (@PySem.Value.str (⟨#[47, 99, 108, 97, 105, 109, 47, 99, 117, 116, 46, 112, 121]⟩ : PySem.Str) (251 : @Nat)), (@PySem.Value.int (3 : @Int) (0 : @Nat)), (@PySem.Value.int (1 : @Int) (0 : @Nat)), (@PySem.Value.int (0 : @Int) (0 : @Nat)), (@PySem.Value.int (0 : @Int) (0 : @Nat)), (@PySem.Value.int (3 : @Int) (0 : @Nat)), (@PySem.Value.ref (26 : @Nat)), (@PySem.Value.bool @Bool.true), (@PySem.Value.int (181 : @Int) (0 : @Nat)), (@PySem.Value.ref (27 : @Nat)), @PySem.Value.none, (@PySem.Value.ref (28 : @Nat)), (@PySem.Value.ref (29 : @Nat)), (@PySem.Value.ref (30 : @Nat)), (@PySem.Value.int (253 : @Int) (0 : @Nat)), (@PySem.Value.int (3 : @Int) (0 : @Nat)), (@PySem.Value.str (⟨#[47, 99, 108, 97, 105, 109, 47, 99, 117, 116, 46, 112, 121]⟩ : PySem.Str) (254 : @Nat))])) (@List.toArray (@Option @PySem.Value) []))
noncomputable def o32_s2 (P : Params) : Obj := (@PySem.Obj.mk (@PySem.Value.type "function") (@Option.none @Nat) (@PySem.Data.func (@PySem.FuncData.mk (⟨#[105, 110, 95, 116, 97, 98, 108, 101, 95, 98, 49]⟩ : PySem.Str) (⟨#[105, 110, 95, 116, 97, 98, 108, 101, 95, 98, 49]⟩ : PySem.Str) (fdP 2) (@PySem.FuncBody.stmts (fdB 2)) (fdS 2) (3 : @Nat) [] @PySem.Value.none @PySem.Value.none @PySem.Value.none (@PySem.Value.str (⟨#[99, 112, 121, 51, 49, 51, 46, 115, 116, 114, 105, 110, 103, 112, 114, 101, 112]⟩ : PySem.Str) (187 : @Nat)) (@Option.none @Nat) (@PySem.Value.ref (31 : @Nat)) @PySem.Value.none (0 : @Nat))) (@List.toArray (@Option @PySem.Value) []))
noncomputable def o3_s3 (P : Params) : Obj := (@PySem.Obj.mk (@PySem.Value.type "dict") (@Option.none @Nat) (@PySem.Data.dict (@List.toArray @PySem.DictEntry [(@PySem.DictEntry.mk (@PySem.PyData.keyHash P (⟨#[95, 95, 110, 97, 109, 101, 95, 95]⟩ : PySem.Str)) (@PySem.Value.str (⟨#[95, 95, 110, 97, 109, 101, 95, 95]⟩ : PySem.Str) (165 : @Nat)) (@PySem.Value.str (⟨#[99, 112, 121, 51, 49, 51, 46, 115, 116, 114, 105, 110, 103, 112, 114, 101, 112]⟩ : PySem.Str) (187 : @Nat))), (@PySem.DictEntry.mk (@PySem.PyData.keyHash P (⟨#[95, 95, 100, 111, 99, 95, 95]⟩ : PySem.Str)) (@PySem.Value.str (⟨#[95, 95, 100, 111, 99, 95, 95]⟩ : PySem.Str) (166 : @Nat)) @PySem.Value.none), (@PySem.DictEntry.mk (@PySem.PyData.keyHash P (⟨#[95, 95, 112, 97, 99, 107, 97, 103, 101, 95, 95]⟩ : PySem.Str)) (@PySem.Value.str (⟨#[95, 95, 112, 97, 99, 107, 97, 103, 101, 95, 95]⟩ : PySem.Str) (167 : @Nat)) @PySem.Value.none), (@PySem.DictEntry.mk (@PySem.PyData.keyHash P (⟨#[95, 95, 108, 111, 97, 100, 101, 114, 95, 95]⟩ : PySem.Str)) (@PySem.Value.str (⟨#[95, 95, 108, 111, 97, 100, 101, 114, 95, 95]⟩ : PySem.Str) (168 : @Nat)) (@PySem.Value.builtin "__main__.__loader__#opaque")), (@PySem.DictEntry.mk (@PySem.PyData.keyHash P (⟨#[95, 95, 115, 112, 101, 99, 95, 95]⟩ : PySem.Str)) (@PySem.Value.str (⟨#[95, 95, 115, 112, 101, 99, 95, 95]⟩ : PySem.Str) (169 : @Nat)) @PySem.Value.none), (@PySem.DictEntry.mk (@PySem.PyData.keyHash P (⟨#[95, 95, 97, 110, 110, 111, 116, 97, 116, 105, 111, 110, 115, 95, 95]⟩ : PySem.Str)) (@PySem.Value.str (⟨#[95, 95, 97, 110, 110, 111, 116, 97, 116, 105, 111, 110, 115, 95, 95]⟩ : PySem.Str) (170 : @Nat)) (@PySem.Value.ref (6 : @Nat))), (@PySem.DictEntry.mk (@PySem.PyData.keyHash P (⟨#[95, 95, 98, 117, 105, 108, 116, 105, 110, 115, 95, 95]⟩ : PySem.Str)) (@PySem.Value.str (⟨#[95, 95, 98, 117, 105, 108, 116, 105, 110, 115, 95, 95]⟩ : PySem.Str) (171 : @Nat)) (@PySem.Value.ref (4 : @Nat))), (@PySem.DictEntry.mk (@PySem.PyData.keyHash P (⟨#[95, 95, 102, 105, 108, 101, 95, 95]⟩ : PySem.Str)) (@PySem.Value.str (⟨#[95, 95, 102, 105, 108, 101, 95, 95]⟩ : PySem.Str) (173 : @Nat)) (@PySem.Value.str (⟨#[47, 99, 108, 97, 105, 109, 47, 99, 117, 116, 46, 112, 121]⟩ : PySem.Str) (172 : @Nat))), (@PySem.DictEntry.mk (@PySem.PyData.keyHash P (⟨#[95, 95, 99, 97, 99, 104, 101, 100, 95, 95]⟩ : PySem.Str)) (@PySem.Value.str (⟨#[95, 95, 99, 97, 99, 104, 101, 100, 95, 95]⟩ : PySem.Str) (174 : @Nat)) @PySem.Value.none), (@PySem.DictEntry.mk (@PySem.PyData.keyHash P (⟨#[98, 49, 95, 115, 101, 116]⟩ : PySem.Str)) (@PySem.Value.str (⟨#[98, 49, 95, 115, 101, 116]⟩ : PySem.Str) (248 : @Nat)) (@PySem.Value.ref (22 : @Nat))), (@PySem.DictEntry.mk (@PySem.PyData.keyHash P (⟨#[105, 110, 95, 116, 97, 98, 108, 101, 95, 98, 49]⟩ : PySem.Str)) (@PySem.Value.str (⟨#[105, 110, 95, 116, 97, 98, 108, 101, 95, 98, 49]⟩ : PySem.Str) (255 : @Nat)) (@PySem.Value.ref (32 : @Nat))), (@PySem.DictEntry.mk (@PySem.PyData.keyHash P (⟨#[98, 51, 95, 101, 120, 99, 101, 112, 116, 105, 111, 110, 115]⟩ : PySem.Str)) (@PySem.Value.str (⟨#[98, 51, 95, 101, 120, 99, 101, 112, 116, 105, 111, 110, 115]⟩ : PySem.Str) (2206 : @Nat)) (@PySem.Value.ref (33 : @Nat)))]) (12 : @Nat)) (@List.toArray (@Option @PySem.Value) []))
noncomputable def o33_s3 (P : Params) : Obj := D (ents 3 (kvs.take 646) 256 ++ ents 2 (kvs.drop 646) 2194) 650
noncomputable def o34_s3 (P : Params) : Obj := D (ents 3 ((kvs.drop 17).take 17) 307) 17
noncomputable def o35_s3 (P : Params) : Obj := D (ents 3 ((kvs.drop 34).take 17) 358) 17
noncomputable def o36_s3 (P : Params) : Obj := D (ents 3 ((kvs.drop 51).take 17) 409) 17
noncomputable def o37_s3 (P : Params) : Obj := D (ents 3 ((kvs.drop 68).take 17) 460) 17
noncomputable def o38_s3 (P : Params) : Obj := D (ents 3 ((kvs.drop 85).take 17) 511) 17
noncomputable def o39_s3 (P : Params) : Obj := D (ents 3 ((kvs.drop 102).take 17) 562) 17
noncomputable def o40_s3 (P : Params) : Obj := D (ents 3 ((kvs.drop 119).take 17) 613) 17
noncomputable def o41_s3 (P : Params) : Obj := D (ents 3 ((kvs.drop 136).take 17) 664) 17
noncomputable def o42_s3 (P : Params) : Obj := D (ents 3 ((kvs.drop 153).take 17) 715) 17
noncomputable def o43_s3 (P : Params) : Obj := D (ents 3 ((kvs.drop 170).take 17) 766) 17
noncomputable def o44_s3 (P : Params) : Obj := D (ents 3 ((kvs.drop 187).take 17) 817) 17
noncomputable def o45_s3 (P : Params) : Obj := D (ents 3 ((kvs.drop 204).take 17) 868) 17
noncomputable def o46_s3 (P : Params) : Obj := D (ents 3 ((kvs.drop 221).take 17) 919) 17
noncomputable def o47_s3 (P : Params) : Obj := D (ents 3 ((kvs.drop 238).take 17) 970) 17
noncomputable def o48_s3 (P : Params) : Obj := D (ents 3 ((kvs.drop 255).take 17) 1021) 17
noncomputable def o49_s3 (P : Params) : Obj := D (ents 3 ((kvs.drop 272).take 17) 1072) 17
noncomputable def o50_s3 (P : Params) : Obj := D (ents 3 ((kvs.drop 289).take 17) 1123) 17
noncomputable def o51_s3 (P : Params) : Obj := D (ents 3 ((kvs.drop 306).take 17) 1174) 17
noncomputable def o52_s3 (P : Params) : Obj := D (ents 3 ((kvs.drop 323).take 17) 1225) 17
noncomputable def o53_s3 (P : Params) : Obj := D (ents 3 ((kvs.drop 340).take 17) 1276) 17
noncomputable def o54_s3 (P : Params) : Obj := D (ents 3 ((kvs.drop 357).take 17) 1327) 17
noncomputable def o55_s3 (P : Params) : Obj := D (ents 3 ((kvs.drop 374).take 17) 1378) 17
noncomputable def o56_s3 (P : Params) : Obj := D (ents 3 ((kvs.drop 391).take 17) 1429) 17
noncomputable def o57_s3 (P : Params) : Obj := D (ents 3 ((kvs.drop 408).take 17) 1480) 17
noncomputable def o58_s3 (P : Params) : Obj := D (ents 3 ((kvs.drop 425).take 17) 1531) 17
noncomputable def o59_s3 (P : Params) : Obj := D (ents 3 ((kvs.drop 442).take 17) 1582) 17
noncomputable def o60_s3 (P : Params) : Obj := D (ents 3 ((kvs.drop 459).take 17) 1633) 17
noncomputable def o61_s3 (P : Params) : Obj := D (ents 3 ((kvs.drop 476).take 17) 1684) 17
noncomputable def o62_s3 (P : Params) : Obj := D (ents 3 ((kvs.drop 493).take 17) 1735) 17
noncomputable def o63_s3 (P : Params) : Obj := D (ents 3 ((kvs.drop 510).take 17) 1786) 17
noncomputable def o64_s3 (P : Params) : Obj := D (ents 3 ((kvs.drop 527).take 17) 1837) 17
noncomputable def o65_s3 (P : Params) : Obj := D (ents 3 ((kvs.drop 544).take 17) 1888) 17
noncomputable def o66_s3 (P : Params) : Obj := D (ents 3 ((kvs.drop 561).take 17) 1939) 17
noncomputable def o67_s3 (P : Params) : Obj := D (ents 3 ((kvs.drop 578).take 17) 1990) 17
noncomputable def o68_s3 (P : Params) : Obj := D (ents 3 ((kvs.drop 595).take 17) 2041) 17
noncomputable def o69_s3 (P : Params) : Obj := D (ents 3 ((kvs.drop 612).take 17) 2092) 17
noncomputable def o70_s3 (P : Params) : Obj := D (ents 3 ((kvs.drop 629).take 17) 2143) 17
noncomputable def o71_s3 (P : Params) : Obj := D (ents 2 (kvs.drop 646) 2194) 4
noncomputable def o3_s45 (P : Params) : Obj := (@PySem.Obj.mk (@PySem.Value.type "dict") (@Option.none @Nat) (@PySem.Data.dict (@List.toArray @PySem.DictEntry [(@PySem.DictEntry.mk (@PySem.PyData.keyHash P (⟨#[95, 95, 110, 97, 109, 101, 95, 95]⟩ : PySem.Str)) (@PySem.Value.str (⟨#[95, 95, 110, 97, 109, 101, 95, 95]⟩ : PySem.Str) (165 : @Nat)) (@PySem.Value.str (⟨#[99, 112, 121, 51, 49, 51, 46, 116, 111, 107, 101, 110]⟩ : PySem.Str) (2215 : @Nat))), (@PySem.DictEntry.mk (@PySem.PyData.keyHash P (⟨#[95, 95, 100, 111, 99, 95, 95]⟩ : PySem.Str)) (@PySem.Value.str (⟨#[95, 95, 100, 111, 99, 95, 95]⟩ : PySem.Str) (166 : @Nat)) @PySem.Value.none), (@PySem.DictEntry.mk (@PySem.PyData.keyHash P (⟨#[95, 95, 112, 97, 99, 107, 97, 103, 101, 95, 95]⟩ : PySem.Str)) (@PySem.Value.str (⟨#[95, 95, 112, 97, 99, 107, 97, 103, 101, 95, 95]⟩ : PySem.Str) (167 : @Nat)) @PySem.Value.none), (@PySem.DictEntry.mk (@PySem.PyData.keyHash P (⟨#[95, 95, 108, 111, 97, 100, 101, 114, 95, 95]⟩ : PySem.Str)) (@PySem.Value.str (⟨#[95, 95, 108, 111, 97, 100, 101, 114, 95, 95]⟩ : PySem.Str) (168 : @Nat)) (@PySem.Value.builtin "__main__.__loader__#opaque")), (@PySem.DictEntry.mk (@PySem.PyData.keyHash P (⟨#[95, 95, 115, 112, 101, 99, 95, 95]⟩ : PySem.Str)) (@PySem.Value.str (⟨#[95, 95, 115, 112, 101, 99, 95, 95]⟩ : PySem.Str) (169 : @Nat)) @PySem.Value.none), (@PySem.DictEntry.mk (@PySem.PyData.keyHash P (⟨#[95, 95, 97, 110, 110, 111, 116, 97, 116, 105, 111, 110, 115, 95, 95]⟩ : PySem.Str)) (@PySem.Value.str (⟨#[95, 95, 97, 110, 110, 111, 116, 97, 116, 105, 111, 110, 115, 95, 95]⟩ : PySem.Str) (170 : @Nat)) (@PySem.Value.ref (6 : @Nat))), (@PySem.DictEntry.mk (@PySem.PyData.keyHash P (⟨#[95, 95, 98, 117, 105, 108, 116, 105, 110, 115, 95, 95]⟩ : PySem.Str)) (@PySem.Value.str (⟨#[95, 95, 98, 117, 105, 108, 116, 105, 110, 115, 95, 95]⟩ : PySem.Str) (171 : @Nat)) (@PySem.Value.ref (4 : @Nat))), (@PySem.DictEntry.mk (@PySem.PyData.keyHash P (⟨#[95, 95, 102, 105, 108, 101, 95, 95]⟩ : PySem.Str)) (@PySem.Value.str (⟨#[95, 95, 102, 105, 108, 101, 95, 95]⟩ : PySem.Str) (173 : @Nat)) (@PySem.Value.str (⟨#[47, 99, 108, 97, 105, 109, 47, 99, 117, 116, 46, 112, 121]⟩ : PySem.Str) (172 : @Nat))), (@PySem.DictEntry.mk (@PySem.PyData.keyHash P (⟨#[95, 95, 99, 97, 99, 104, 101, 100, 95, 95]⟩ : PySem.Str)) (@PySem.Value.str (⟨#[95, 95, 99, 97, 99, 104, 101, 100, 95, 95]⟩ : PySem.Str) (174 : @Nat)) @PySem.Value.none), (@PySem.DictEntry.mk (@PySem.PyData.keyHash P (⟨#[98, 49, 95, 115, 101, 116]⟩ : PySem.Str)) (@PySem.Value.str (⟨#[98, 49, 95, 115, 101, 116]⟩ : PySem.Str) (248 : @Nat)) (@PySem.Value.ref (22 : @Nat))), (@PySem.DictEntry.mk (@PySem.PyData.keyHash P (⟨#[105, 110, 95, 116, 97, 98, 108, 101, 95, 98, 49]⟩ : PySem.Str)) (@PySem.Value.str (⟨#[105, 110, 95, 116, 97, 98, 108, 101, 95, 98, 49]⟩ : PySem.Str) (255 : @Nat)) (@PySem.Value.ref (32 : @Nat))), (@PySem.DictEntry.mk (@PySem.PyData.keyHash P (⟨#[98, 51, 95, 101, 120, 99, 101, 112, 116, 105, 111, 110, 115]⟩ : PySem.Str)) (@PySem.Value.str (⟨#[98, 51, 95, 101, 120, 99, 101, 112, 116, 105, 111, 110, 115]⟩ : PySem.Str) (2206 : @Nat)) (@PySem.Value.ref (33 : @Nat))), (@PySem.DictEntry.mk (@PySem.PyData.keyHash P (⟨#[109, 97, 112, 95, 116, 97, 98, 108, 101, 95, 98, 51]⟩ : PySem.Str)) (@PySem.Value.str (⟨#[109, 97, 112, 95, 116, 97, 98, 108, 101, 95, 98, 51]⟩ : PySem.Str) (2214 : @Nat)) (@PySem.Value.ref (78 : @Nat))), (@PySem.DictEntry.mk (@PySem.PyData.keyHash P (⟨#[76, 80, 65, 82]⟩ : PySem.Str)) (@PySem.Value.str (⟨#[76, 80, 65, 82]⟩ : PySem.Str) (2218 : @Nat)) (@PySem.Value.int (7 : @Int) (2217 : @Nat))), (@PySem.DictEntry.mk (@PySem.PyData.keyHash P (⟨#[82, 80, 65, 82]⟩ : PySem.Str)) (@PySem.Value.str (⟨#[82, 80, 65, 82]⟩ : PySem.Str) (2220 : @Nat)) (@PySem.Value.int (8 : @Int) (2219 : @Nat))), (@PySem.DictEntry.mk (@PySem.PyData.keyHash P (⟨#[76, 83, 81, 66]⟩ : PySem.Str)) (@PySem.Value.str (⟨#[76, 83, 81, 66]⟩ : PySem.Str) (2222 : @Nat)) (@PySem.Value.int (9 : @Int) (2221 : @Nat))), (@PySem.DictEntry.mk (@PySem.PyData.keyHash P (⟨#[82, 83, 81, 66]⟩ : PySem.Str)) (@PySem.Value.str (⟨#[82, 83, 81, 66]⟩ : PySem.Str) (2224 : @Nat)) (@PySem.Value.int (10 : @Int) (2223 : @Nat))), (@PySem.DictEntry.mk (@PySem.PyData.keyHash P (⟨#[67, 79, 76, 79, 78]⟩ : PySem.Str)) (@PySem.Value.str (⟨#[67, 79, 76, 79, 78]⟩ : PySem.Str) (2226 : @Nat)) (@PySem.Value.int (11 : @Int) (2225 : @Nat))), (@PySem.DictEntry.mk (@PySem.PyData.keyHash P (⟨#[67, 79, 77, 77, 65]⟩ : PySem.Str)) (@PySem.Value.str (⟨#[67, 79, 77, 77, 65]⟩ : PySem.Str) (2228 : @Nat)) (@PySem.Value.int (12 : @Int) (2227 : @Nat))), (@PySem.DictEntry.mk (@PySem.PyData.keyHash P (⟨#[83, 69, 77, 73]⟩ : PySem.Str)) (@PySem.Value.str (⟨#[83, 69, 77, 73]⟩ : PySem.Str) (2230 : @Nat)) (@PySem.Value.int (13 : @Int) (2229 : @Nat))), (@PySem.DictEntry.mk (@PySem.PyData.keyHash P (⟨#[80, 76, 85, 83]⟩ : PySem.Str)) (@PySem.Value.str (⟨#[80, 76, 85, 83]⟩ : PySem.Str) (2232 : @Nat)) (@PySem.Value.int (14 : @Int) (2231 : @Nat))), (@PySem.DictEntry.mk (@PySem.PyData.keyHash P (⟨#[77, 73, 78, 85, 83]⟩ : PySem.Str)) (@PySem.Value.str (⟨#[77, 73, 78, 85, 83]⟩ : PySem.Str) (2234 : @Nat)) (@PySem.Value.int (15 : @Int) (2233 : @Nat))), (@PySem.DictEntry.mk (@PySem.PyData.keyHash P (⟨#[83, 84, 65, 82]⟩ : PySem.Str)) (@PySem.Value.str (⟨#[83, 84, 65, 82]⟩ : PySem.Str) (2236 : @Nat)) (@PySem.Value.int (16 : @Int) (2235 : @Nat))), (@PySem.DictEntry.mk (@PySem.PyData.keyHash P (⟨#[83, 76, 65, 83, 72]⟩ : PySem.Str)) (@PySem.Value.str (⟨#[83, 76, 65, 83, 72]⟩ : PySem.Str) (2238 : @Nat)) (@PySem.Value.int (17 : @Int) (2237 : @Nat))), (@PySem.DictEntry.mk (@PySem.PyData.keyHash P (⟨#[86, 66, 65, 82]⟩ : PySem.Str)) (@PySem.Value.str (⟨#[86, 66, 65, 82]⟩ : PySem.Str) (2240 : @Nat)) (@PySem.Value.int (18 : @Int) (2239 : @Nat))), (@PySem.DictEntry.mk (@PySem.PyData.keyHash P (⟨#[65, 77, 80, 69, 82]⟩ : PySem.Str)) (@PySem.Value.str (⟨#[65, 77, 80, 69, 82]⟩ : PySem.Str) (2242 : @Nat)) (@PySem.Value.int (19 : @Int) (2241 : @Nat))), (@PySem.DictEntry.mk (@PySem.PyData.keyHash P (⟨#[76, 69, 83, 83]⟩ : PySem.Str)) (@PySem.Value.str (⟨#[76, 69, 83, 83]⟩ : PySem.Str) (2244 : @Nat)) (@PySem.Value.int (20 : @Int) (2243 : @Nat))), (@PySem.DictEntry.mk (@PySem.PyData.keyHash P (⟨#[71, 82, 69, 65, 84, 69, 82]⟩ : PySem.Str)) (@PySem.Value.str (⟨#[71, 82, 69, 65, 84, 69, 82]⟩ : PySem.Str) (2246 : @Nat)) (@PySem.Value.int (21 : @Int) (2245 : @Nat))), (@PySem.DictEntry.mk (@PySem.PyData.keyHash P (⟨#[69, 81, 85, 65, 76]⟩ : PySem.Str)) (@PySem.Value.str (⟨#[69, 81, 85, 65, 76]⟩ : PySem.Str) (2248 : @Nat)) (@PySem.Value.int (22 : @Int) (2247 : @Nat))), (@PySem.DictEntry.mk (@PySem.PyData.keyHash P (⟨#[68, 79, 84]⟩ : PySem.Str)) (@PySem.Value.str (⟨#[68, 79, 84]⟩ : PySem.Str) (2250 : @Nat)) (@PySem.Value.int (23 : @Int) (2249 : @Nat))), (@PySem.DictEntry.mk (@PySem.PyData.keyHash P (⟨#[80, 69, 82, 67, 69, 78, 84]⟩ : PySem.Str)) (@PySem.Value.str (⟨#[80, 69, 82, 67, 69, 78, 84]⟩ : PySem.Str) (2252 : @Nat)) (@PySem.Value.int (24 : @Int) (2251 : @Nat))), (@PySem.DictEntry.mk (@PySem.PyData.keyHash P (⟨#[76, 66, 82, 65, 67, 69]⟩ : PySem.Str)) (@PySem.Value.str (⟨#[76, 66, 82, 65, 67, 69]⟩ : PySem.Str) (2254 : @Nat)) (@PySem.Value.int (25 : @Int) (2253 : @Nat))), (@PySem.DictEntry.mk (@PySem.PyData.keyHash P (⟨#[82, 66, 82, 65, 67, 69]⟩ : PySem.Str)) (@PySem.Value.str (⟨#[82, 66, 82, 65, 67, 69]⟩ : PySem.Str) (2256 : @Nat)) (@PySem.Value.int (26 : @Int) (2255 : @Nat))), (@PySem.DictEntry.mk (@PySem.PyData.keyHash P (⟨#[69, 81, 69, 81, 85, 65, 76]⟩ : PySem.Str)) (@PySem.Value.str (⟨#[69, 81, 69, 81, 85, 65, 76]⟩ : PySem.Str) (2258 : @Nat)) (@PySem.Value.int (27 : @Int) (2257 : @Nat))), (@PySem.DictEntry.mk (@PySem.PyData.keyHash P (⟨#[78, 79, 84, 69, 81, 85, 65, 76]⟩ : PySem.Str)) (@PySem.Value.str (⟨#[78, 79, 84, 69, 81, 85, 65, 76]⟩ : PySem.Str) (2260 : @Nat)) (@PySem.Value.int (28 : @Int) (2259 : @Nat))), (@PySem.DictEntry.mk (@PySem.PyData.keyHash P (⟨#[76, 69, 83, 83, 69, 81, 85, 65, 76]⟩ : PySem.Str)) (@PySem.Value.str (⟨#[76, 69, 83, 83, 69, 81, 85, 65, 76]⟩ : PySem.Str) (2262 : @Nat)) (@PySem.Value.int (29 : @Int) (2261 : @Nat))), (@PySem.DictEntry.mk (@PySem.PyData.keyHash P (⟨#[71, 82, 69, 65, 84, 69, 82, 69, 81, 85, 65, 76]⟩ : PySem.Str)) (@PySem.Value.str (⟨#[71, 82, 69, 65, 84, 69, 82, 69, 81, 85, 65, 76]⟩ : PySem.Str) (2264 : @Nat)) (@PySem.Value.int (30 : @Int) (2263 : @Nat))), (@PySem.DictEntry.mk (@PySem.PyData.keyHash P (⟨#[84, 73, 76, 68, 69]⟩ : PySem.Str)) (@PySem.Value.str (⟨#[84, 73, 76, 68, 69]⟩ : PySem.Str) (2266 : @Nat)) (@PySem.Value.int (31 : @Int) (2265 : @Nat))), (@PySem.DictEntry.mk (@PySem.PyData.keyHash P (⟨#[67, 73, 82, 67, 85, 77, 70, 76, 69, 88]⟩ : PySem.Str)) (@PySem.Value.str (⟨#[67, 73, 82, 67, 85, 77, 70, 76, 69, 88]⟩ : PySem.Str) (2268 : @Nat)) (@PySem.Value.int (32 : @Int) (2267 : @Nat))), (@PySem.DictEntry.mk (@PySem.PyData.keyHash P (⟨#[76, 69, 70, 84, 83, 72, 73, 70, 84]⟩ : PySem.Str)) (@PySem.Value.str (⟨#[76, 69, 70, 84, 83, 72, 73, 70, 84]⟩ : PySem.Str) (2270 : @Nat)) (@PySem.Value.int (33 : @Int) (2269 : @Nat))), (@PySem.DictEntry.mk (@PySem.PyData.keyHash P (⟨#[82, 73, 71, 72, 84, 83, 72, 73, 70, 84]⟩ : PySem.Str)) (@PySem.Value.str (⟨#[82, 73, 71, 72, 84, 83, 72, 73, 70, 84]⟩ : PySem.Str) (2272 : @Nat)) (@PySem.Value.int (34 : @Int) (2271 : @Nat))), (@PySem.DictEntry.mk (@PySem.PyData.keyHash P (⟨#[68, 79, 85, 66, 76, 69, 83, 84, 65, 82]⟩ : PySem.Str)) (@PySem.Value.str (⟨#[68, 79, 85, 66, 76, 69, 83, 84, 65, 82]⟩ : PySem.Str) (2274 : @Nat)) (@PySem.Value.int (35 : @Int) (2273 : @Nat))), (@PySem.DictEntry.mk (@PySem.PyData.keyHash P (⟨#[80, 76, 85, 83, 69, 81, 85, 65, 76]⟩ : PySem.Str)) (@PySem.Value.str (⟨#[80, 76, 85, 83, 69, 81, 85, 65, 76]⟩ : PySem.Str) (2276 : @Nat)) (@PySem.Value.int (36 : @Int) (2275 : @Nat))), (@PySem.DictEntry.mk (@PySem.PyData.keyHash P (⟨#[77, 73, 78, 69, 81, 85, 65, 76]⟩ : PySem.Str)) (@PySem.Value.str (⟨#[77, 73, 78, 69, 81, 85, 65, 76]⟩ : PySem.Str) (2278 : @Nat)) (@PySem.Value.int (37 : @Int) (2277 : @Nat))), (@PySem.DictEntry.mk (@PySem.PyData.keyHash P (⟨#[83, 84, 65, 82, 69, 81, 85, 65, 76]⟩ : PySem.Str)) (@PySem.Value.str (⟨#[83, 84, 65, 82, 69, 81, 85, 65, 76]⟩ : PySem.Str) (2280 : @Nat)) (@PySem.Value.int (38 : @Int) (2279 : @Nat))), (@PySem.DictEntry.mk (@PySem.PyData.keyHash P (⟨#[83, 76, 65, 83, 72, 69, 81, 85, 65, 76]⟩ : PySem.Str)) (@PySem.Value.str (⟨#[83, 76, 65, 83, 72, 69, 81, 85, 65, 76]⟩ : PySem.Str) (2282 : @Nat)) (@PySem.Value.int (39 : @Int) (2281 : @Nat))), (@PySem.DictEntry.mk (@PySem.PyData.keyHash P (⟨#[80, 69, 82, 67, 69, 78, 84, 69, 81, 85, 65, 76]⟩ : PySem.Str)) (@PySem.Value.str (⟨#[80, 69, 82, 67, 69, 78, 84, 69, 81, 85, 65, 76]⟩ : PySem.Str) (2284 : @Nat)) (@PySem.Value.int (40 : @Int) (2283 : @Nat))), (@PySem.DictEntry.mk (@PySem.PyData.keyHash P (⟨#[65, 77, 80, 69, 82, 69, 81, 85, 65, 76]⟩ : PySem.Str)) (@PySem.Value.str (⟨#[65, 77, 80, 69, 82, 69, 81, 85, 65, 76]⟩ : PySem.Str) (2286 : @Nat)) (@PySem.Value.int (41 : @Int) (2285 : @Nat))), (@PySem.DictEntry.mk (@PySem.PyData.keyHash P (⟨#[86, 66, 65, 82, 69, 81, 85, 65, 76]⟩ : PySem.Str)) (@PySem.Value.str (⟨#[86, 66, 65, 82, 69, 81, 85, 65, 76]⟩ : PySem.Str) (2288 : @Nat)) (@PySem.Value.int (42 : @Int) (2287 : @Nat))), (@PySem.DictEntry.mk (@PySem.PyData.keyHash P (⟨#[67, 73, 82, 67, 85, 77, 70, 76, 69, 88, 69, 81, 85, 65, 76]⟩ : PySem.Str)) (@PySem.Value.str (⟨#[67, 73, 82, 67, 85, 77, 70, 76, 69, 88, 69, 81, 85, 65, 76]⟩ : PySem.Str) (2290 : @Nat)) (@PySem.Value.int (43 : @Int) (2289 : @Nat))), (@PySem.DictEntry.mk (@PySem.PyData.keyHash P (⟨#[76, 69, 70, 84, 83, 72, 73, 70, 84, 69, 81, 85, 65, 76]⟩ : PySem.Str)) (@PySem.Value.str (⟨#[76, 69, 70, 84, 83, 72, 73, 70, 84, 69, 81, 85, 65, 76]⟩ : PySem.Str) (2292 : @Nat)) (@PySem.Value.int (44 : @Int) (2291 : @Nat))), (@PySem.DictEntry.mk (@PySem.PyData.keyHash P (⟨#[82, 73, 71, 72, 84, 83, 72, 73, 70, 84, 69, 81, 85, 65, 76]⟩ : PySem.Str)) (@PySem.Value.str (⟨#[82, 73, 71, 72, 84, 83, 72, 73, 70, 84, 69, 81, 85, 65, 76]⟩ : PySem.Str) (2294 : @Nat)) (@PySem.Value.int (45 : @Int) (2293 : @Nat))), (@PySem.DictEntry.mk (@PySem.PyData.keyHash P (⟨#[68, 79, 85, 66, 76, 69, 83, 84, 65, 82, 69, 81, 85, 65, 76]⟩ : PySem.Str)) (@PySem.Value.str (⟨#[68, 79, 85, 66, 76, 69, 83, 84, 65, 82, 69, 81, 85, 65, 76]⟩ : PySem.Str) (2296 : @Nat)) (@PySem.Value.int (46 : @Int) (2295 : @Nat)))]) (53 : @Nat)) (@List.toArray (@Option @PySem.Value) []))
noncomputable def o12_s45 (P : Params) : Obj := (@PySem.Obj.mk @PySem.Value.none (@Option.none @Nat) (@PySem.Data.fields (@List.toArray @PySem.Value [(@PySem.Value.int (3 : @Int) (0 : @Nat)), (@PySem.Value.int (0 : @Int) (0 : @Nat)), (@PySem.Value.ref (31 : @Nat)), (@PySem.Value.int (6 : @Int) (0 : @Nat)), (@PySem.Value.int (0 : @Int) (0 : @Nat)), (@PySem.Value.ref (77 : @Nat))])) (@List.toArray (@Option @PySem.Value) []))
noncomputable def o72_s45 (P : Params) : Obj := (@PySem.Obj.mk (@PySem.Value.type "tuple") (@Option.none @Nat) (@PySem.Data.seq (@List.toArray @PySem.Value []) (0 : @Nat)) (@List.toArray (@Option @PySem.Value) []))
noncomputable def o73_s45 (P : Params) : Obj := (@PySem.Obj.mk @PySem.Value.none (@Option.none @Nat) (@PySem.Data.fields (@List.toArray @PySem.Value [])) (@List.toArray (@Option @PySem.Value) []))
noncomputable def o74_s45 (P : Params) : Obj := (@PySem.Obj.mk (@PySem.Value.type "tuple") (@Option.none @Nat) (@PySem.Data.seq (@List.toArray @PySem.Value [(@PySem.Value.str (⟨#[99, 111, 100, 101]⟩ : PySem.Str) (2210 : @Nat)), (@PySem.Value.str (⟨#[114]⟩ : PySem.Str) (2211 : @Nat))]) (0 : @Nat)) (@List.toArray (@Option @PySem.Value) []))
noncomputable def o75_s45 (P : Params) : Obj := (@PySem.Obj.mk (@PySem.Value.type "tuple") (@Option.none @Nat) (@PySem.Data.seq (@List.toArray @PySem.Value []) (0 : @Nat)) (@List.toArray (@Option @PySem.Value) []))
noncomputable def o76_s45 (P : Params) : Obj := (@PySem.Obj.mk @PySem.Value.none (@Option.none @Nat) (@PySem.Data.func (@PySem.FuncData.mk (⟨#[109, 97, 112, 95, 116, 97, 98, 108, 101, 95, 98, 51]⟩ : PySem.Str) (⟨#[109, 97, 112, 95, 116, 97, 98, 108, 101, 95, 98, 51]⟩ : PySem.Str) (fdP 4) (@PySem.FuncBody.stmts (fdB 4)) (fdS 4) (0 : @Nat) [] @PySem.Value.none @PySem.Value.none @PySem.Value.none @PySem.Value.none (@Option.none @Nat) @PySem.Value.none @PySem.Value.none (0 : @Nat))) (@List.toArray (@Option @PySem.Value) []))
noncomputable def o77_s45 (P : Params) : Obj := (@PySem.Obj.mk (@PySem.Value.type "code") (@Option.none @Nat) (@PySem.Data.fields (@List.toArray @PySem.Value [(@PySem.Value.str (⟨#[109, 97, 112, 95, 116, 97, 98, 108, 101, 95, 98, 51]⟩ : PySem.Str) (2207 : @Nat)), (@PySem.Value.str (⟨#[109, 97, 112, 95, 116, 97, 98, 108, 101, 95, 98, 51]⟩ : PySem.Str) (2208 : @Nat)), (@PySem.Value.str (⟨#[47, 99, 108, 97, 105, 109, 47, 99, 117, 116, 46, 112, 121]⟩ : PySem.Str) (2209 : @Nat)), (@PySem.Value.int (6 : @Int) (0 : @Nat)), (@PySem.Value.int (1 : @Int) (0 : @Nat)), (@PySem.Value.int (0 : @Int) (0 : @Nat)), (@PySem.Value.int (0 : @Int) (0 : @Nat)), (@PySem.Value.int (3 : @Int) (0 : @Nat)), (@PySem.Value.ref (72 : @Nat)), (@PySem.Value.bool @Bool.true), (@PySem.Value.int (181 : @Int) (0 : @Nat)), (@PySem.Value.ref (73 : @Nat)), @PySem.Value.none, (@PySem.Value.ref (74 : @Nat)), (@PySem.Value.ref (75 : @Nat)), (@PySem.Value.ref (76 : @Nat)), (@PySem.Value.int (2212 : @Int) (0 : @Nat)), (@PySem.Value.int (6 : @Int) (0 : @Nat)), (@PySem.Value.str (⟨#[47, 99, 108, 97, 105, 109, 47, 99, 117, 116, 46, 112, 121]⟩ : PySem.Str) (2213 : @Nat))])) (@List.toArray (@Option @PySem.Value) []))
noncomputable def o78_s45 (P : Params) : Obj := (@PySem.Obj.mk (@PySem.Value.type "function") (@Option.none @Nat) (@PySem.Data.func (@PySem.FuncData.mk (⟨#[109, 97, 112, 95, 116, 97, 98, 108, 101, 95, 98, 51]⟩ : PySem.Str) (⟨#[109, 97, 112, 95, 116, 97, 98, 108, 101, 95, 98, 51]⟩ : PySem.Str) (fdP 4) (@PySem.FuncBody.stmts (fdB 4)) (fdS 4) (3 : @Nat) [] @PySem.Value.none @PySem.Value.none @PySem.Value.none (@PySem.Value.str (⟨#[99, 112, 121, 51, 49, 51, 46, 115, 116, 114, 105, 110, 103, 112, 114, 101, 112]⟩ : PySem.Str) (187 : @Nat)) (@Option.none @Nat) (@PySem.Value.ref (77 : @Nat)) @PySem.Value.none (0 : @Nat))) (@List.toArray (@Option @PySem.Value) []))
noncomputable def o3_s54 (P : Params) : Obj := (@PySem.Obj.mk (@PySem.Value.type "dict") (@Option.none @Nat) (@PySem.Data.dict (@List.toArray @PySem.DictEntry [(@PySem.DictEntry.mk (@PySem.PyData.keyHash P (⟨#[95, 95, 110, 97, 109, 101, 95, 95]⟩ : PySem.Str)) (@PySem.Value.str (⟨#[95, 95, 110, 97, 109, 101, 95, 95]⟩ : PySem.Str) (165 : @Nat)) (@PySem.Value.str (⟨#[99, 112, 121, 51, 49, 51, 46, 116, 111, 107, 101, 110]⟩ : PySem.Str) (2215 : @Nat))), (@PySem.DictEntry.mk (@PySem.PyData.keyHash P (⟨#[95, 95, 100, 111, 99, 95, 95]⟩ : PySem.Str)) (@PySem.Value.str (⟨#[95, 95, 100, 111, 99, 95, 95]⟩ : PySem.Str) (166 : @Nat)) @PySem.Value.none), (@PySem.DictEntry.mk (@PySem.PyData.keyHash P (⟨#[95, 95, 112, 97, 99, 107, 97, 103, 101, 95, 95]⟩ : PySem.Str)) (@PySem.Value.str (⟨#[95, 95, 112, 97, 99, 107, 97, 103, 101, 95, 95]⟩ : PySem.Str) (167 : @Nat)) @PySem.Value.none), (@PySem.DictEntry.mk (@PySem.PyData.keyHash P (⟨#[95, 95, 108, 111, 97, 100, 101, 114, 95, 95]⟩ : PySem.Str)) (@PySem.Value.str (⟨#[95, 95, 108, 111, 97, 100, 101, 114, 95, 95]⟩ : PySem.Str) (168 : @Nat)) (@PySem.Value.builtin "__main__.__loader__#opaque")), (@PySem.DictEntry.mk (@PySem.PyData.keyHash P (⟨#[95, 95, 115, 112, 101, 99, 95, 95]⟩ : PySem.Str)) (@PySem.Value.str (⟨#[95, 95, 115, 112, 101, 99, 95, 95]⟩ : PySem.Str) (169 : @Nat)) @PySem.Value.none), (@PySem.DictEntry.mk (@PySem.PyData.keyHash P (⟨#[95, 95, 97, 110, 110, 111, 116, 97, 116, 105, 111, 110, 115, 95, 95]⟩ : PySem.Str)) (@PySem.Value.str (⟨#[95, 95, 97, 110, 110, 111, 116, 97, 116, 105, 111, 110, 115, 95, 95]⟩ : PySem.Str) (170 : @Nat)) (@PySem.Value.ref (6 : @Nat))), (@PySem.DictEntry.mk (@PySem.PyData.keyHash P (⟨#[95, 95, 98, 117, 105, 108, 116, 105, 110, 115, 95, 95]⟩ : PySem.Str)) (@PySem.Value.str (⟨#[95, 95, 98, 117, 105, 108, 116, 105, 110, 115, 95, 95]⟩ : PySem.Str) (171 : @Nat)) (@PySem.Value.ref (4 : @Nat))), (@PySem.DictEntry.mk (@PySem.PyData.keyHash P (⟨#[95, 95, 102, 105, 108, 101, 95, 95]⟩ : PySem.Str)) (@PySem.Value.str (⟨#[95, 95, 102, 105, 108, 101, 95, 95]⟩ : PySem.Str) (173 : @Nat)) (@PySem.Value.str (⟨#[47, 99, 108, 97, 105, 109, 47, 99, 117, 116, 46, 112, 121]⟩ : PySem.Str) (172 : @Nat))), (@PySem.DictEntry.mk (@PySem.PyData.keyHash P (⟨#[95, 95, 99, 97, 99, 104, 101, 100, 95, 95]⟩ : PySem.Str)) (@PySem.Value.str (⟨#[95, 95, 99, 97, 99, 104, 101, 100, 95, 95]⟩ : PySem.Str) (174 : @Nat)) @PySem.Value.none), (@PySem.DictEntry.mk (@PySem.PyData.keyHash P (⟨#[98, 49, 95, 115, 101, 116]⟩ : PySem.Str)) (@PySem.Value.str (⟨#[98, 49, 95, 115, 101, 116]⟩ : PySem.Str) (248 : @Nat)) (@PySem.Value.ref (22 : @Nat))), (@PySem.DictEntry.mk (@PySem.PyData.keyHash P (⟨#[105, 110, 95, 116, 97, 98, 108, 101, 95, 98, 49]⟩ : PySem.Str)) (@PySem.Value.str (⟨#[105, 110, 95, 116, 97, 98, 108, 101, 95, 98, 49]⟩ : PySem.Str) (255 : @Nat)) (@PySem.Value.ref (32 : @Nat))), (@PySem.DictEntry.mk (@PySem.PyData.keyHash P (⟨#[98, 51, 95, 101, 120, 99, 101, 112, 116, 105, 111, 110, 115]⟩ : PySem.Str)) (@PySem.Value.str (⟨#[98, 51, 95, 101, 120, 99, 101, 112, 116, 105, 111, 110, 115]⟩ : PySem.Str) (2206 : @Nat)) (@PySem.Value.ref (33 : @Nat))), (@PySem.DictEntry.mk (@PySem.PyData.keyHash P (⟨#[109, 97, 112, 95, 116, 97, 98, 108, 101, 95, 98, 51]⟩ : PySem.Str)) (@PySem.Value.str (⟨#[109, 97, 112, 95, 116, 97, 98, 108, 101, 95, 98, 51]⟩ : PySem.Str) (2214 : @Nat)) (@PySem.Value.ref (78 : @Nat))), (@PySem.DictEntry.mk (@PySem.PyData.keyHash P (⟨#[76, 80, 65, 82]⟩ : PySem.Str)) (@PySem.Value.str (⟨#[76, 80, 65, 82]⟩ : PySem.Str) (2218 : @Nat)) (@PySem.Value.int (7 : @Int) (2217 : @Nat))), (@PySem.DictEntry.mk (@PySem.PyData.keyHash P (⟨#[82, 80, 65, 82]⟩ : PySem.Str)) (@PySem.Value.str (⟨#[82, 80, 65, 82]⟩ : PySem.Str) (2220 : @Nat)) (@PySem.Value.int (8 : @Int) (2219 : @Nat))), (@PySem.DictEntry.mk (@PySem.PyData.keyHash P (⟨#[76, 83, 81, 66]⟩ : PySem.Str)) (@PySem.Value.str (⟨#[76, 83, 81, 66]⟩ : PySem.Str) (2222 : @Nat)) (@PySem.Value.int (9 : @Int) (2221 : @Nat))), (@PySem.DictEntry.mk (@PySem.PyData.keyHash P (⟨#[82, 83, 81, 66]⟩ : PySem.Str)) (@PySem.Value.str (⟨#[82, 83, 81, 66]⟩ : PySem.Str) (2224 : @Nat)) (@PySem.Value.int (10 : @Int) (2223 : @Nat))), (@PySem.DictEntry.mk (@PySem.PyData.keyHash P (⟨#[67, 79, 76, 79, 78]⟩ : PySem.Str)) (@PySem.Value.str (⟨#[67, 79, 76, 79, 78]⟩ : PySem.Str) (2226 : @Nat)) (@PySem.Value.int (11 : @Int) (2225 : @Nat))), (@PySem.DictEntry.mk (@PySem.PyData.keyHash P (⟨#[67, 79, 77, 77, 65]⟩ : PySem.Str)) (@PySem.Value.str (⟨#[67, 79, 77, 77, 65]⟩ : PySem.Str) (2228 : @Nat)) (@PySem.Value.int (12 : @Int) (2227 : @Nat))), (@PySem.DictEntry.mk (@PySem.PyData.keyHash P (⟨#[83, 69, 77, 73]⟩ : PySem.Str)) (@PySem.Value.str (⟨#[83, 69, 77, 73]⟩ : PySem.Str) (2230 : @Nat)) (@PySem.Value.int (13 : @Int) (2229 : @Nat))), (@PySem.DictEntry.mk (@PySem.PyData.keyHash P (⟨#[80, 76, 85, 83]⟩ : PySem.Str)) (@PySem.Value.str (⟨#[80, 76, 85, 83]⟩ : PySem.Str) (2232 : @Nat)) (@PySem.Value.int (14 : @Int) (2231 : @Nat))), (@PySem.DictEntry.mk (@PySem.PyData.keyHash P (⟨#[77, 73, 78, 85, 83]⟩ : PySem.Str)) (@PySem.Value.str (⟨#[77, 73, 78, 85, 83]⟩ : PySem.Str) (2234 : @Nat)) (@PySem.Value.int (15 : @Int) (2233 : @Nat))), (@PySem.DictEntry.mk (@PySem.PyData.keyHash P (⟨#[83, 84, 65, 82]⟩ : PySem.Str)) (@PySem.Value.str (⟨#[83, 84, 65, 82]⟩ : PySem.Str) (2236 : @Nat)) (@PySem.Value.int (16 : @Int) (2235 : @Nat))), (@PySem.DictEntry.mk (@PySem.PyData.keyHash P (⟨#[83, 76, 65, 83, 72]⟩ : PySem.Str)) (@PySem.Value.str (⟨#[83, 76, 65, 83, 72]⟩ : PySem.Str) (2238 : @Nat)) (@PySem.Value.int (17 : @Int) (2237 : @Nat))), (@PySem.DictEntry.mk (@PySem.PyData.keyHash P (⟨#[86, 66, 65, 82]⟩ : PySem.Str)) (@PySem.Value.str (⟨#[86, 66, 65, 82]⟩ : PySem.Str) (2240 : @Nat)) (@PySem.Value.int (18 : @Int) (2239 : @Nat))), (@PySem.DictEntry.mk (@PySem.PyData.keyHash P (⟨#[65, 77, 80, 69, 82]⟩ : PySem.Str)) (@PySem.Value.str (⟨#[65, 77, 80, 69, 82]⟩ : PySem.Str) (2242 : @Nat)) (@PySem.Value.int (19 : @Int) (2241 : @Nat))), (@PySem.DictEntry.mk (@PySem.PyData.keyHash P (⟨#[76, 69, 83, 83]⟩ : PySem.Str)) (@PySem.Value.str (⟨#[76, 69, 83, 83]⟩ : PySem.Str) (2244 : @Nat)) (@PySem.Value.int (20 : @Int) (2243 : @Nat))), (@PySem.DictEntry.mk (@PySem.PyData.keyHash P (⟨#[71, 82, 69, 65, 84, 69, 82]⟩ : PySem.Str)) (@PySem.Value.str (⟨#[71, 82, 69, 65, 84, 69, 82]⟩ : PySem.Str) (2246 : @Nat)) (@PySem.Value.int (21 : @Int) (2245 : @Nat))), (@PySem.DictEntry.mk (@PySem.PyData.keyHash P (⟨#[69, 81, 85, 65, 76]⟩ : PySem.Str)) (@PySem.Value.str (⟨#[69, 81, 85, 65, 76]⟩ : PySem.Str) (2248 : @Nat)) (@PySem.Value.int (22 : @Int) (2247 : @Nat))), (@PySem.DictEntry.mk (@PySem.PyData.keyHash P (⟨#[68, 79, 84]⟩ : PySem.Str)) (@PySem.Value.str (⟨#[68, 79, 84]⟩ : PySem.Str) (2250 : @Nat)) (@PySem.Value.int (23 : @Int) (2249 : @Nat))), (@PySem.DictEntry.mk (@PySem.PyData.keyHash P (⟨#[80, 69, 82, 67, 69, 78, 84]⟩ : PySem.Str)) (@PySem.Value.str (⟨#[80, 69, 82, 67, 69, 78, 84]⟩ : PySem.Str) (2252 : @Nat)) (@PySem.Value.int (24 : @Int) (2251 : @Nat))), (@PySem.DictEntry.mk (@PySem.PyData.keyHash P (⟨#[76, 66, 82, 65, 67, 69]⟩ : PySem.Str)) (@PySem.Value.str (⟨#[76, 66, 82, 65, 67, 69]⟩ : PySem.Str) (2254 : @Nat)) (@PySem.Value.int (25 : @Int) (2253 : @Nat))), (@PySem.DictEntry.mk (@PySem.PyData.keyHash P (⟨#[82, 66, 82, 65, 67, 69]⟩ : PySem.Str)) (@PySem.Value.str (⟨#[82, 66, 82, 65, 67, 69]⟩ : PySem.Str) (2256 : @Nat)) (@PySem.Value.int (26 : @Int) (2255 : @Nat))), (@PySem.DictEntry.mk (@PySem.PyData.keyHash P (⟨#[69, 81, 69, 81, 85, 65, 76]⟩ : PySem.Str)) (@PySem.Value.str (⟨#[69, 81, 69, 81, 85, 65, 76]⟩ : PySem.Str) (2258 : @Nat)) (@PySem.Value.int (27 : @Int) (2257 : @Nat))), (@PySem.DictEntry.mk (@PySem.PyData.keyHash P (⟨#[78, 79, 84, 69, 81, 85, 65, 76]⟩ : PySem.Str)) (@PySem.Value.str (⟨#[78, 79, 84, 69, 81, 85, 65, 76]⟩ : PySem.Str) (2260 : @Nat)) (@PySem.Value.int (28 : @Int) (2259 : @Nat))), (@PySem.DictEntry.mk (@PySem.PyData.keyHash P (⟨#[76, 69, 83, 83, 69, 81, 85, 65, 76]⟩ : PySem.Str)) (@PySem.Value.str (⟨#[76, 69, 83, 83, 69, 81, 85, 65, 76]⟩ : PySem.Str) (2262 : @Nat)) (@PySem.Value.int (29 : @Int) (2261 : @Nat))), (@PySem.DictEntry.mk (@PySem.PyData.keyHash P (⟨#[71, 82, 69, 65, 84, 69, 82, 69, 81, 85, 65, 76]⟩ : PySem.Str)) (@PySem.Value.str (⟨#[71, 82, 69, 65, 84, 69, 82, 69, 81, 85, 65, 76]⟩ : PySem.Str) (2264 : @Nat)) (@PySem.Value.int (30 : @Int) (2263 : @Nat))), (@PySem.DictEntry.mk (@PySem.PyData.keyHash P (⟨#[84, 73, 76, 68, 69]⟩ : PySem.Str)) (@PySem.Value.str (⟨#[84, 73, 76, 68, 69]⟩ : PySem.Str) (2266 : @Nat)) (@PySem.Value.int (31 : @Int) (2265 : @Nat))), (@PySem.DictEntry.mk (@PySem.PyData.keyHash P (⟨#[67, 73, 82, 67, 85, 77, 70, 76, 69, 88]⟩ : PySem.Str)) (@PySem.Value.str (⟨#[67, 73, 82, 67, 85, 77, 70, 76, 69, 88]⟩ : PySem.Str) (2268 : @Nat)) (@PySem.Value.int (32 : @Int) (2267 : @Nat))), (@PySem.DictEntry.mk (@PySem.PyData.keyHash P (⟨#[76, 69, 70, 84, 83, 72, 73, 70, 84]⟩ : PySem.Str)) (@PySem.Value.str (⟨#[76, 69, 70, 84, 83, 72, 73, 70, 84]⟩ : PySem.Str) (2270 : @Nat)) (@PySem.Value.int (33 : @Int) (2269 : @Nat))), (@PySem.DictEntry.mk (@PySem.PyData.keyHash P (⟨#[82, 73, 71, 72, 84, 83, 72, 73, 70, 84]⟩ : PySem.Str)) (@PySem.Value.str (⟨#[82, 73, 71, 72, 84, 83, 72, 73, 70, 84]⟩ : PySem.Str) (2272 : @Nat)) (@PySem.Value.int (34 : @Int) (2271 : @Nat))), (@PySem.DictEntry.mk (@PySem.PyData.keyHash P (⟨#[68, 79, 85, 66, 76, 69, 83, 84, 65, 82]⟩ : PySem.Str)) (@PySem.Value.str (⟨#[68, 79, 85, 66, 76, 69, 83, 84, 65, 82]⟩ : PySem.Str) (2274 : @Nat)) (@PySem.Value.int (35 : @Int) (2273 : @Nat))), (@PySem.DictEntry.mk (@PySem.PyData.keyHash P (⟨#[80, 76, 85, 83, 69, 81, 85, 65, 76]⟩ : PySem.Str)) (@PySem.Value.str (⟨#[80, 76, 85, 83, 69, 81, 85, 65, 76]⟩ : PySem.Str) (2276 : @Nat)) (@PySem.Value.int (36 : @Int) (2275 : @Nat))), (@PySem.DictEntry.mk (@PySem.PyData.keyHash P (⟨#[77, 73, 78, 69, 81, 85, 65, 76]⟩ : PySem.Str)) (@PySem.Value.str (⟨#[77, 73, 78, 69, 81, 85, 65, 76]⟩ : PySem.Str) (2278 : @Nat)) (@PySem.Value.int (37 : @Int) (2277 : @Nat))), (@PySem.DictEntry.mk (@PySem.PyData.keyHash P (⟨#[83, 84, 65, 82, 69, 81, 85, 65, 76]⟩ : PySem.Str)) (@PySem.Value.str (⟨#[83, 84, 65, 82, 69, 81, 85, 65, 76]⟩ : PySem.Str) (2280 : @Nat)) (@PySem.Value.int (38 : @Int) (2279 : @Nat))), (@PySem.DictEntry.mk (@PySem.PyData.keyHash P (⟨#[83, 76, 65, 83, 72, 69, 81, 85, 65, 76]⟩ : PySem.Str)) (@PySem.Value.str (⟨#[83, 76, 65, 83, 72, 69, 81, 85, 65, 76]⟩ : PySem.Str) (2282 : @Nat)) (@PySem.Value.int (39 : @Int) (2281 : @Nat))), (@PySem.DictEntry.mk (@PySem.PyData.keyHash P (⟨#[80, 69, 82, 67, 69, 78, 84, 69, 81, 85, 65, 76]⟩ : PySem.Str)) (@PySem.Value.str (⟨#[80, 69, 82, 67, 69, 78, 84, 69, 81, 85, 65, 76]⟩ : PySem.Str) (2284 : @Nat)) (@PySem.Value.int (40 : @Int) (2283 : @Nat))), (@PySem.DictEntry.mk (@PySem.PyData.keyHash P (⟨#[65, 77, 80, 69, 82, 69, 81, 85, 65, 76]⟩ : PySem.Str)) (@PySem.Value.str (⟨#[65, 77, 80, 69, 82, 69, 81, 85, 65, 76]⟩ : PySem.Str) (2286 : @Nat)) (@PySem.Value.int (41 : @Int) (2285 : @Nat))), (@PySem.DictEntry.mk (@PySem.PyData.keyHash P (⟨#[86, 66, 65, 82, 69, 81, 85, 65, 76]⟩ : PySem.Str)) (@PySem.Value.str (⟨#[86, 66, 65, 82, 69, 81, 85, 65, 76]⟩ : PySem.Str) (2288 : @Nat)) (@PySem.Value.int (42 : @Int) (2287 : @Nat))), (@PySem.DictEntry.mk (@PySem.PyData.keyHash P (⟨#[67, 73, 82, 67, 85, 77, 70, 76, 69, 88, 69, 81, 85, 65, 76]⟩ : PySem.Str)) (@PySem.Value.str (⟨#[67, 73, 82, 67, 85, 77, 70, 76, 69, 88, 69, 81, 85, 65, 76]⟩ : PySem.Str) (2290 : @Nat)) (@PySem.Value.int (43 : @Int) (2289 : @Nat))), (@PySem.DictEntry.mk (@PySem.PyData.keyHash P (⟨#[76, 69, 70, 84, 83, 72, 73, 70, 84, 69, 81, 85, 65, 76]⟩ : PySem.Str)) (@PySem.Value.str (⟨#[76, 69, 70, 84, 83, 72, 73, 70, 84, 69, 81, 85, 65, 76]⟩ : PySem.Str) (2292 : @Nat)) (@PySem.Value.int (44 : @Int) (2291 : @Nat))), (@PySem.DictEntry.mk (@PySem.PyData.keyHash P (⟨#[82, 73, 71, 72, 84, 83, 72, 73, 70, 84, 69, 81, 85, 65, 76]⟩ : PySem.Str)) (@PySem.Value.str (⟨#[82, 73, 71, 72, 84, 83, 72, 73, 70, 84, 69, 81, 85, 65, 76]⟩ : PySem.Str) (2294 : @Nat)) (@PySem.Value.int (45 : @Int) (2293 : @Nat))), (@PySem.DictEntry.mk (@PySem.PyData.keyHash P (⟨#[68, 79, 85, 66, 76, 69, 83, 84, 65, 82, 69, 81, 85, 65, 76]⟩ : PySem.Str)) (@PySem.Value.str (⟨#[68, 79, 85, 66, 76, 69, 83, 84, 65, 82, 69, 81, 85, 65, 76]⟩ : PySem.Str) (2296 : @Nat)) (@PySem.Value.int (46 : @Int) (2295 : @Nat))), (@PySem.DictEntry.mk (@PySem.PyData.keyHash P (⟨#[68, 79, 85, 66, 76, 69, 83, 76, 65, 83, 72]⟩ : PySem.Str)) (@PySem.Value.str (⟨#[68, 79, 85, 66, 76, 69, 83, 76, 65, 83, 72]⟩ : PySem.Str) (2298 : @Nat)) (@PySem.Value.int (47 : @Int) (2297 : @Nat))), (@PySem.DictEntry.mk (@PySem.PyData.keyHash P (⟨#[68, 79, 85, 66, 76, 69, 83, 76, 65, 83, 72, 69, 81, 85, 65, 76]⟩ : PySem.Str)) (@PySem.Value.str (⟨#[68, 79, 85, 66, 76, 69, 83, 76, 65, 83, 72, 69, 81, 85, 65, 76]⟩ : PySem.Str) (2300 : @Nat)) (@PySem.Value.int (48 : @Int) (2299 : @Nat))), (@PySem.DictEntry.mk (@PySem.PyData.keyHash P (⟨#[65, 84]⟩ : PySem.Str)) (@PySem.Value.str (⟨#[65, 84]⟩ : PySem.Str) (2302 : @Nat)) (@PySem.Value.int (49 : @Int) (2301 : @Nat))), (@PySem.DictEntry.mk (@PySem.PyData.keyHash P (⟨#[65, 84, 69, 81, 85, 65, 76]⟩ : PySem.Str)) (@PySem.Value.str (⟨#[65, 84, 69, 81, 85, 65, 76]⟩ : PySem.Str) (2304 : @Nat)) (@PySem.Value.int (50 : @Int) (2303 : @Nat))), (@PySem.DictEntry.mk (@PySem.PyData.keyHash P (⟨#[82, 65, 82, 82, 79, 87]⟩ : PySem.Str)) (@PySem.Value.str (⟨#[82, 65, 82, 82, 79, 87]⟩ : PySem.Str) (2306 : @Nat)) (@PySem.Value.int (51 : @Int) (2305 : @Nat))), (@PySem.DictEntry.mk (@PySem.PyData.keyHash P (⟨#[69, 76, 76, 73, 80, 83, 73, 83]⟩ : PySem.Str)) (@PySem.Value.str (⟨#[69, 76, 76, 73, 80, 83, 73, 83]⟩ : PySem.Str) (2308 : @Nat)) (@PySem.Value.int (52 : @Int) (2307 : @Nat))), (@PySem.DictEntry.mk (@PySem.PyData.keyHash P (⟨#[67, 79, 76, 79, 78, 69, 81, 85, 65, 76]⟩ : PySem.Str)) (@PySem.Value.str (⟨#[67, 79, 76, 79, 78, 69, 81, 85, 65, 76]⟩ : PySem.Str) (2310 : @Nat)) (@PySem.Value.int (53 : @Int) (2309 : @Nat))), (@PySem.DictEntry.mk (@PySem.PyData.keyHash P (⟨#[69, 88, 67, 76, 65, 77, 65, 84, 73, 79, 78]⟩ : PySem.Str)) (@PySem.Value.str (⟨#[69, 88, 67, 76, 65, 77, 65, 84, 73, 79, 78]⟩ : PySem.Str) (2312 : @Nat)) (@PySem.Value.int (54 : @Int) (2311 : @Nat))), (@PySem.DictEntry.mk (@PySem.PyData.keyHash P (⟨#[78, 84, 95, 79, 70, 70, 83, 69, 84]⟩ : PySem.Str)) (@PySem.Value.str (⟨#[78, 84, 95, 79, 70, 70, 83, 69, 84]⟩ : PySem.Str) (2314 : @Nat)) (@PySem.Value.int (256 : @Int) (2313 : @Nat)))]) (62 : @Nat)) (@List.toArray (@Option @PySem.Value) []))
noncomputable def o3_s55 (P : Params) : Obj := (@PySem.Obj.mk (@PySem.Value.type "dict") (@Option.none @Nat) (@PySem.Data.dict (@List.toArray @PySem.DictEntry [(@PySem.DictEntry.mk (@PySem.PyData.keyHash P (⟨#[95, 95, 110, 97, 109, 101, 95, 95]⟩ : PySem.Str)) (@PySem.Value.str (⟨#[95, 95, 110, 97, 109, 101, 95, 95]⟩ : PySem.Str) (165 : @Nat)) (@PySem.Value.str (⟨#[99, 112, 121, 51, 49, 51, 46, 116, 111, 107, 101, 110]⟩ : PySem.Str) (2215 : @Nat))), (@PySem.DictEntry.mk (@PySem.PyData.keyHash P (⟨#[95, 95, 100, 111, 99, 95, 95]⟩ : PySem.Str)) (@PySem.Value.str (⟨#[95, 95, 100, 111, 99, 95, 95]⟩ : PySem.Str) (166 : @Nat)) @PySem.Value.none), (@PySem.DictEntry.mk (@PySem.PyData.keyHash P (⟨#[95, 95, 112, 97, 99, 107, 97, 103, 101, 95, 95]⟩ : PySem.Str)) (@PySem.Value.str (⟨#[95, 95, 112, 97, 99, 107, 97, 103, 101, 95, 95]⟩ : PySem.Str) (167 : @Nat)) @PySem.Value.none), (@PySem.DictEntry.mk (@PySem.PyData.keyHash P (⟨#[95, 95, 108, 111, 97, 100, 101, 114, 95, 95]⟩ : PySem.Str)) (@PySem.Value.str (⟨#[95, 95, 108, 111, 97, 100, 101, 114, 95, 95]⟩ : PySem.Str) (168 : @Nat)) (@PySem.Value.builtin "__main__.__loader__#opaque")), (@PySem.DictEntry.mk (@PySem.PyData.keyHash P (⟨#[95, 95, 115, 112, 101, 99, 95, 95]⟩ : PySem.Str)) (@PySem.Value.str (⟨#[95, 95, 115, 112, 101, 99, 95, 95]⟩ : PySem.Str) (169 : @Nat)) @PySem.Value.none), (@PySem.DictEntry.mk (@PySem.PyData.keyHash P (⟨#[95, 95, 97, 110, 110, 111, 116, 97, 116, 105, 111, 110, 115, 95, 95]⟩ : PySem.Str)) (@PySem.Value.str (⟨#[95, 95, 97, 110, 110, 111, 116, 97, 116, 105, 111, 110, 115, 95, 95]⟩ : PySem.Str) (170 : @Nat)) (@PySem.Value.ref (6 : @Nat))), (@PySem.DictEntry.mk (@PySem.PyData.keyHash P (⟨#[95, 95, 98, 117, 105, 108, 116, 105, 110, 115, 95, 95]⟩ : PySem.Str)) (@PySem.Value.str (⟨#[95, 95, 98, 117, 105, 108, 116, 105, 110, 115, 95, 95]⟩ : PySem.Str) (171 : @Nat)) (@PySem.Value.ref (4 : @Nat))), (@PySem.DictEntry.mk (@PySem.PyData.keyHash P (⟨#[95, 95, 102, 105, 108, 101, 95, 95]⟩ : PySem.Str)) (@PySem.Value.str (⟨#[95, 95, 102, 105, 108, 101, 95, 95]⟩ : PySem.Str) (173 : @Nat)) (@PySem.Value.str (⟨#[47, 99, 108, 97, 105, 109, 47, 99, 117, 116, 46, 112, 121]⟩ : PySem.Str) (172 : @Nat))), (@PySem.DictEntry.mk (@PySem.PyData.keyHash P (⟨#[95, 95, 99, 97, 99, 104, 101, 100, 95, 95]⟩ : PySem.Str)) (@PySem.Value.str (⟨#[95, 95, 99, 97, 99, 104, 101, 100, 95, 95]⟩ : PySem.Str) (174 : @Nat)) @PySem.Value.none), (@PySem.DictEntry.mk (@PySem.PyData.keyHash P (⟨#[98, 49, 95, 115, 101, 116]⟩ : PySem.Str)) (@PySem.Value.str (⟨#[98, 49, 95, 115, 101, 116]⟩ : PySem.Str) (248 : @Nat)) (@PySem.Value.ref (22 : @Nat))), (@PySem.DictEntry.mk (@PySem.PyData.keyHash P (⟨#[105, 110, 95, 116, 97, 98, 108, 101, 95, 98, 49]⟩ : PySem.Str)) (@PySem.Value.str (⟨#[105, 110, 95, 116, 97, 98, 108, 101, 95, 98, 49]⟩ : PySem.Str) (255 : @Nat)) (@PySem.Value.ref (32 : @Nat))), (@PySem.DictEntry.mk (@PySem.PyData.keyHash P (⟨#[98, 51, 95, 101, 120, 99, 101, 112, 116, 105, 111, 110, 115]⟩ : PySem.Str)) (@PySem.Value.str (⟨#[98, 51, 95, 101, 120, 99, 101, 112, 116, 105, 111, 110, 115]⟩ : PySem.Str) (2206 : @Nat)) (@PySem.Value.ref (33 : @Nat))), (@PySem.DictEntry.mk (@PySem.PyData.keyHash P (⟨#[109, 97, 112, 95, 116, 97, 98, 108, 101, 95, 98, 51]⟩ : PySem.Str)) (@PySem.Value.str (⟨#[109, 97, 112, 95, 116, 97, 98, 108, 101, 95, 98, 51]⟩ : PySem.Str) (2214 : @Nat)) (@PySem.Value.ref (78 : @Nat))), (@PySem.DictEntry.mk (@PySem.PyData.keyHash P (⟨#[76, 80, 65, 82]⟩ : PySem.Str)) (@PySem.Value.str (⟨#[76, 80, 65, 82]⟩ : PySem.Str) (2218 : @Nat)) (@PySem.Value.int (7 : @Int) (2217 : @Nat))), (@PySem.DictEntry.mk (@PySem.PyData.keyHash P (⟨#[82, 80, 65, 82]⟩ : PySem.Str)) (@PySem.Value.str (⟨#[82, 80, 65, 82]⟩ : PySem.Str) (2220 : @Nat)) (@PySem.Value.int (8 : @Int) (2219 : @Nat))), (@PySem.DictEntry.mk (@PySem.PyData.keyHash P (⟨#[76, 83, 81, 66]⟩ : PySem.Str)) (@PySem.Value.str (⟨#[76, 83, 81, 66]⟩ : PySem.Str) (2222 : @Nat)) (@PySem.Value.int (9 : @Int) (2221 : @Nat))), (@PySem.DictEntry.mk (@PySem.PyData.keyHash P (⟨#[82, 83, 81, 66]⟩ : PySem.Str)) (@PySem.Value.str (⟨#[82, 83, 81, 66]⟩ : PySem.Str) (2224 : @Nat)) (@PySem.Value.int (10 : @Int) (2223 : @Nat))), (@PySem.DictEntry.mk (@PySem.PyData.keyHash P (⟨#[67, 79, 76, 79, 78]⟩ : PySem.Str)) (@PySem.Value.str (⟨#[67, 79, 76, 79, 78]⟩ : PySem.Str) (2226 : @Nat)) (@PySem.Value.int (11 : @Int) (2225 : @Nat))), (@PySem.DictEntry.mk (@PySem.PyData.keyHash P (⟨#[67, 79, 77, 77, 65]⟩ : PySem.Str)) (@PySem.Value.str (⟨#[67, 79, 77, 77, 65]⟩ : PySem.Str) (2228 : @Nat)) (@PySem.Value.int (12 : @Int) (2227 : @Nat))), (@PySem.DictEntry.mk (@PySem.PyData.keyHash P (⟨#[83, 69, 77, 73]⟩ : PySem.Str)) (@PySem.Value.str (⟨#[83, 69, 77, 73]⟩ : PySem.Str) (2230 : @Nat)) (@PySem.Value.int (13 : @Int) (2229 : @Nat))), (@PySem.DictEntry.mk (@PySem.PyData.keyHash P (⟨#[80, 76, 85, 83]⟩ : PySem.Str)) (@PySem.Value.str (⟨#[80, 76, 85, 83]⟩ : PySem.Str) (2232 : @Nat)) (@PySem.Value.int (14 : @Int) (2231 : @Nat))), (@PySem.DictEntry.mk (@PySem.PyData.keyHash P (⟨#[77, 73, 78, 85, 83]⟩ : PySem.Str)) (@PySem.Value.str (⟨#[77, 73, 78, 85, 83]⟩ : PySem.Str) (2234 : @Nat)) (@PySem.Value.int (15 : @Int) (2233 : @Nat))), (@PySem.DictEntry.mk (@PySem.PyData.keyHash P (⟨#[83, 84, 65, 82]⟩ : PySem.Str)) (@PySem.Value.str (⟨#[83, 84, 65, 82]⟩ : PySem.Str) (2236 : @Nat)) (@PySem.Value.int (16 : @Int) (2235 : @Nat))), (@PySem.DictEntry.mk (@PySem.PyData.keyHash P (⟨#[83, 76, 65, 83, 72]⟩ : PySem.Str)) (@PySem.Value.str (⟨#[83, 76, 65, 83, 72]⟩ : PySem.Str) (2238 : @Nat)) (@PySem.Value.int (17 : @Int) (2237 : @Nat))), (@PySem.DictEntry.mk (@PySem.PyData.keyHash P (⟨#[86, 66, 65, 82]⟩ : PySem.Str)) (@PySem.Value.str (⟨#[86, 66, 65, 82]⟩ : PySem.Str) (2240 : @Nat)) (@PySem.Value.int (18 : @Int) (2239 : @Nat))), (@PySem.DictEntry.mk (@PySem.PyData.keyHash P (⟨#[65, 77, 80, 69, 82]⟩ : PySem.Str)) (@PySem.Value.str (⟨#[65, 77, 80, 69, 82]⟩ : PySem.Str) (2242 : @Nat)) (@PySem.Value.int (19 : @Int) (2241 : @Nat))), (@PySem.DictEntry.mk (@PySem.PyData.keyHash P (⟨#[76, 69, 83, 83]⟩ : PySem.Str)) (@PySem.Value.str (⟨#[76, 69, 83, 83]⟩ : PySem.Str) (2244 : @Nat)) (@PySem.Value.int (20 : @Int) (2243 : @Nat))), (@PySem.DictEntry.mk (@PySem.PyData.keyHash P (⟨#[71, 82, 69, 65, 84, 69, 82]⟩ : PySem.Str)) (@PySem.Value.str (⟨#[71, 82, 69, 65, 84, 69, 82]⟩ : PySem.Str) (2246 : @Nat)) (@PySem.Value.int (21 : @Int) (2245 : @Nat))), (@PySem.DictEntry.mk (@PySem.PyData.keyHash P (⟨#[69, 81, 85, 65, 76]⟩ : PySem.Str)) (@PySem.Value.str (⟨#[69, 81, 85, 65, 76]⟩ : PySem.Str) (2248 : @Nat)) (@PySem.Value.int (22 : @Int) (2247 : @Nat))), (@PySem.DictEntry.mk (@PySem.PyData.keyHash P (⟨#[68, 79, 84]⟩ : PySem.Str)) (@PySem.Value.str (⟨#[68, 79, 84]⟩ : PySem.Str) (2250 : @Nat)) (@PySem.Value.int (23 : @Int) (2249 : @Nat))), (@PySem.DictEntry.mk (@PySem.PyData.keyHash P (⟨#[80, 69, 82, 67, 69, 78, 84]⟩ : PySem.Str)) (@PySem.Value.str (⟨#[80, 69, 82, 67, 69, 78, 84]⟩ : PySem.Str) (2252 : @Nat)) (@PySem.Value.int (24 : @Int) (2251 : @Nat))), (@PySem.DictEntry.mk (@PySem.PyData.keyHash P (⟨#[76, 66, 82, 65, 67, 69]⟩ : PySem.Str)) (@PySem.Value.str (⟨#[76, 66, 82, 65, 67, 69]⟩ : PySem.Str) (2254 : @Nat)) (@PySem.Value.int (25 : @Int) (2253 : @Nat))), (@PySem.DictEntry.mk (@PySem.PyData.keyHash P (⟨#[82, 66, 82, 65, 67, 69]⟩ : PySem.Str)) (@PySem.Value.str (⟨#[82, 66, 82, 65, 67, 69]⟩ : PySem.Str) (2256 : @Nat)) (@PySem.Value.int (26 : @Int) (2255 : @Nat))), (@PySem.DictEntry.mk (@PySem.PyData.keyHash P (⟨#[69, 81, 69, 81, 85, 65, 76]⟩ : PySem.Str)) (@PySem.Value.str (⟨#[69, 81, 69, 81, 85, 65, 76]⟩ : PySem.Str) (2258 : @Nat)) (@PySem.Value.int (27 : @Int) (2257 : @Nat))), (@PySem.DictEntry.mk (@PySem.PyData.keyHash P (⟨#[78, 79, 84, 69, 81, 85, 65, 76]⟩ : PySem.Str)) (@PySem.Value.str (⟨#[78, 79, 84, 69, 81, 85, 65, 76]⟩ : PySem.Str) (2260 : @Nat)) (@PySem.Value.int (28 : @Int) (2259 : @Nat))), (@PySem.DictEntry.mk (@PySem.PyData.keyHash P (⟨#[76, 69, 83, 83, 69, 81, 85, 65, 76]⟩ : PySem.Str)) (@PySem.Value.str (⟨#[76, 69, 83, 83, 69, 81, 85, 65, 76]⟩ : PySem.Str) (2262 : @Nat)) (@PySem.Value.int (29 : @Int) (2261 : @Nat))), (@PySem.DictEntry.mk (@PySem.PyData.keyHash P (⟨#[71, 82, 69, 65, 84, 69, 82, 69, 81, 85, 65, 76]⟩ : PySem.Str)) (@PySem.Value.str (⟨#[71, 82, 69, 65, 84, 69, 82, 69, 81, 85, 65, 76]⟩ : PySem.Str) (2264 : @Nat)) (@PySem.Value.int (30 : @Int) (2263 : @Nat))), (@PySem.DictEntry.mk (@PySem.PyData.keyHash P (⟨#[84, 73, 76, 68, 69]⟩ : PySem.Str)) (@PySem.Value.str (⟨#[84, 73, 76, 68, 69]⟩ : PySem.Str) (2266 : @Nat)) (@PySem.Value.int (31 : @Int) (2265 : @Nat))), (@PySem.DictEntry.mk (@PySem.PyData.keyHash P (⟨#[67, 73, 82, 67, 85, 77, 70, 76, 69, 88]⟩ : PySem.Str)) (@PySem.Value.str (⟨#[67, 73, 82, 67, 85, 77, 70, 76, 69, 88]⟩ : PySem.Str) (2268 : @Nat)) (@PySem.Value.int (32 : @Int) (2267 : @Nat))), (@PySem.DictEntry.mk (@PySem.PyData.keyHash P (⟨#[76, 69, 70, 84, 83, 72, 73, 70, 84]⟩ : PySem.Str)) (@PySem.Value.str (⟨#[76, 69, 70, 84, 83, 72, 73, 70, 84]⟩ : PySem.Str) (2270 : @Nat)) (@PySem.Value.int (33 : @Int) (2269 : @Nat))), (@PySem.DictEntry.mk (@PySem.PyData.keyHash P (⟨#[82, 73, 71, 72, 84, 83, 72, 73, 70, 84]⟩ : PySem.Str)) (@PySem.Value.str (⟨#[82, 73, 71, 72, 84, 83, 72, 73, 70, 84]⟩ : PySem.Str) (2272 : @Nat)) (@PySem.Value.int (34 : @Int) (2271 : @Nat))), (@PySem.DictEntry.mk (@PySem.PyData.keyHash P (⟨#[68, 79, 85, 66, 76, 69, 83, 84, 65, 82]⟩ : PySem.Str)) (@PySem.Value.str (⟨#[68, 79, 85, 66, 76, 69, 83, 84, 65, 82]⟩ : PySem.Str) (2274 : @Nat)) (@PySem.Value.int (35 : @Int) (2273 : @Nat))), (@PySem.DictEntry.mk (@PySem.PyData.keyHash P (⟨#[80, 76, 85, 83, 69, 81, 85, 65, 76]⟩ : PySem.Str)) (@PySem.Value.str (⟨#[80, 76, 85, 83, 69, 81, 85, 65, 76]⟩ : PySem.Str) (2276 : @Nat)) (@PySem.Value.int (36 : @Int) (2275 : @Nat))), (@PySem.DictEntry.mk (@PySem.PyData.keyHash P (⟨#[77, 73, 78, 69, 81, 85, 65, 76]⟩ : PySem.Str)) (@PySem.Value.str (⟨#[77, 73, 78, 69, 81, 85, 65, 76]⟩ : PySem.Str) (2278 : @Nat)) (@PySem.Value.int (37 : @Int) (2277 : @Nat))), (@PySem.DictEntry.mk (@PySem.PyData.keyHash P (⟨#[83, 84, 65, 82, 69, 81, 85, 65, 76]⟩ : PySem.Str)) (@PySem.Value.str (⟨#[83, 84, 65, 82, 69, 81, 85, 65, 76]⟩ : PySem.Str) (2280 : @Nat)) (@PySem.Value.int (38 : @Int) (2279 : @Nat))), (@PySem.DictEntry.mk (@PySem.PyData.keyHash P (⟨#[83, 76, 65, 83, 72, 69, 81, 85, 65, 76]⟩ : PySem.Str)) (@PySem.Value.str (⟨#[83, 76, 65, 83, 72, 69, 81, 85, 65, 76]⟩ : PySem.Str) (2282 : @Nat)) (@PySem.Value.int (39 : @Int) (2281 : @Nat))), (@PySem.DictEntry.mk (@PySem.PyData.keyHash P (⟨#[80, 69, 82, 67, 69, 78, 84, 69, 81, 85, 65, 76]⟩ : PySem.Str)) (@PySem.Value.str (⟨#[80, 69, 82, 67, 69, 78, 84, 69, 81, 85, 65, 76]⟩ : PySem.Str) (2284 : @Nat)) (@PySem.Value.int (40 : @Int) (2283 : @Nat))), (@PySem.DictEntry.mk (@PySem.PyData.keyHash P (⟨#[65, 77, 80, 69, 82, 69, 81, 85, 65, 76]⟩ : PySem.Str)) (@PySem.Value.str (⟨#[65, 77, 80, 69, 82, 69, 81, 85, 65, 76]⟩ : PySem.Str) (2286 : @Nat)) (@PySem.Value.int (41 : @Int) (2285 : @Nat))), (@PySem.DictEntry.mk (@PySem.PyData.keyHash P (⟨#[86, 66, 65, 82, 69, 81, 85, 65, 76]⟩ : PySem.Str)) (@PySem.Value.str (⟨#[86, 66, 65, 82, 69, 81, 85, 65, 76]⟩ : PySem.Str) (2288 : @Nat)) (@PySem.Value.int (42 : @Int) (2287 : @Nat))), (@PySem.DictEntry.mk (@PySem.PyData.keyHash P (⟨#[67, 73, 82, 67, 85, 77, 70, 76, 69, 88, 69, 81, 85, 65, 76]⟩ : PySem.Str)) (@PySem.Value.str (⟨#[67, 73, 82, 67, 85, 77, 70, 76, 69, 88, 69, 81, 85, 65, 76]⟩ : PySem.Str) (2290 : @Nat)) (@PySem.Value.int (43 : @Int) (2289 : @Nat))), (@PySem.DictEntry.mk (@PySem.PyData.keyHash P (⟨#[76, 69, 70, 84, 83, 72, 73, 70, 84, 69, 81, 85, 65, 76]⟩ : PySem.Str)) (@PySem.Value.str (⟨#[76, 69, 70, 84, 83, 72, 73, 70, 84, 69, 81, 85, 65, 76]⟩ : PySem.Str) (2292 : @Nat)) (@PySem.Value.int (44 : @Int) (2291 : @Nat))), (@PySem.DictEntry.mk (@PySem.PyData.keyHash P (⟨#[82, 73, 71, 72, 84, 83, 72, 73, 70, 84, 69, 81, 85, 65, 76]⟩ : PySem.Str)) (@PySem.Value.str (⟨#[82, 73, 71, 72, 84, 83, 72, 73, 70, 84, 69, 81, 85, 65, 76]⟩ : PySem.Str) (2294 : @Nat)) (@PySem.Value.int (45 : @Int) (2293 : @Nat))), (@PySem.DictEntry.mk (@PySem.PyData.keyHash P (⟨#[68, 79, 85, 66, 76, 69, 83, 84, 65, 82, 69, 81, 85, 65, 76]⟩ : PySem.Str)) (@PySem.Value.str (⟨#[68, 79, 85, 66, 76, 69, 83, 84, 65, 82, 69, 81, 85, 65, 76]⟩ : PySem.Str) (2296 : @Nat)) (@PySem.Value.int (46 : @Int) (2295 : @Nat))), (@PySem.DictEntry.mk (@PySem.PyData.keyHash P (⟨#[68, 79, 85, 66, 76, 69, 83, 76, 65, 83, 72]⟩ : PySem.Str)) (@PySem.Value.str (⟨#[68, 79, 85, 66, 76, 69, 83, 76, 65, 83, 72]⟩ : PySem.Str) (2298 : @Nat)) (@PySem.Value.int (47 : @Int) (2297 : @Nat))), (@PySem.DictEntry.mk (@PySem.PyData.keyHash P (⟨#[68, 79, 85, 66, 76, 69, 83, 76, 65, 83, 72, 69, 81, 85, 65, 76]⟩ : PySem.Str)) (@PySem.Value.str (⟨#[68, 79, 85, 66, 76, 69, 83, 76, 65, 83, 72, 69, 81, 85, 65, 76]⟩ : PySem.Str) (2300 : @Nat)) (@PySem.Value.int (48 : @Int) (2299 : @Nat))), (@PySem.DictEntry.mk (@PySem.PyData.keyHash P (⟨#[65, 84]⟩ : PySem.Str)) (@PySem.Value.str (⟨#[65, 84]⟩ : PySem.Str) (2302 : @Nat)) (@PySem.Value.int (49 : @Int) (2301 : @Nat))), (@PySem.DictEntry.mk (@PySem.PyData.keyHash P (⟨#[65, 84, 69, 81, 85, 65, 76]⟩ : PySem.Str)) (@PySem.Value.str (⟨#[65, 84, 69, 81, 85, 65, 76]⟩ : PySem.Str) (2304 : @Nat)) (@PySem.Value.int (50 : @Int) (2303 : @Nat))), (@PySem.DictEntry.mk (@PySem.PyData.keyHash P (⟨#[82, 65, 82, 82, 79, 87]⟩ : PySem.Str)) (@PySem.Value.str (⟨#[82, 65, 82, 82, 79, 87]⟩ : PySem.Str) (2306 : @Nat)) (@PySem.Value.int (51 : @Int) (2305 : @Nat))), (@PySem.DictEntry.mk (@PySem.PyData.keyHash P (⟨#[69, 76, 76, 73, 80, 83, 73, 83]⟩ : PySem.Str)) (@PySem.Value.str (⟨#[69, 76, 76, 73, 80, 83, 73, 83]⟩ : PySem.Str) (2308 : @Nat)) (@PySem.Value.int (52 : @Int) (2307 : @Nat))), (@PySem.DictEntry.mk (@PySem.PyData.keyHash P (⟨#[67, 79, 76, 79, 78, 69, 81, 85, 65, 76]⟩ : PySem.Str)) (@PySem.Value.str (⟨#[67, 79, 76, 79, 78, 69, 81, 85, 65, 76]⟩ : PySem.Str) (2310 : @Nat)) (@PySem.Value.int (53 : @Int) (2309 : @Nat))), (@PySem.DictEntry.mk (@PySem.PyData.keyHash P (⟨#[69, 88, 67, 76, 65, 77, 65, 84, 73, 79, 78]⟩ : PySem.Str)) (@PySem.Value.str (⟨#[69, 88, 67, 76, 65, 77, 65, 84, 73, 79, 78]⟩ : PySem.Str) (2312 : @Nat)) (@PySem.Value.int (54 : @Int) (2311 : @Nat))), (@PySem.DictEntry.mk (@PySem.PyData.keyHash P (⟨#[78, 84, 95, 79, 70, 70, 83, 69, 84]⟩ : PySem.Str)) (@PySem.Value.str (⟨#[78, 84, 95, 79, 70, 70, 83, 69, 84]⟩ : PySem.Str) (2314 : @Nat)) (@PySem.Value.int (256 : @Int) (2313 : @Nat))), (@PySem.DictEntry.mk (@PySem.PyData.keyHash P (⟨#[69, 88, 65, 67, 84, 95, 84, 79, 75, 69, 78, 95, 84, 89, 80, 69, 83]⟩ : PySem.Str)) (@PySem.Value.str (⟨#[69, 88, 65, 67, 84, 95, 84, 79, 75, 69, 78, 95, 84, 89, 80, 69, 83]⟩ : PySem.Str) (2411 : @Nat)) (@PySem.Value.ref (79 : @Nat)))]) (63 : @Nat)) (@List.toArray (@Option @PySem.Value) []))
noncomputable def o79_s55 (P : Params) : Obj := D (entT P (txtKeys (dK 55)) [(2315, 54, 2311), (2317, 28, 2259), (2319, 24, 2251), (2321, 40, 2283), (2323, 19, 2241), (2325, 41, 2285), (2327, 7, 2217), (2329, 8, 2219), (2331, 16, 2235), (2333, 35, 2273), (2335, 46, 2295), (2337, 38, 2279), (2339, 14, 2231), (2341, 36, 2275), (2343, 12, 2227), (2345, 15, 2233), (2347, 37, 2277), (2349, 51, 2305), (2351, 23, 2249), (2353, 52, 2307), (2355, 17, 2237), (2357, 47, 2297), (2359, 48, 2299), (2361, 39, 2281), (2363, 11, 2225), (2365, 53, 2309), (2367, 13, 2229), (2369, 20, 2243), (2371, 33, 2269), (2373, 44, 2291), (2375, 29, 2261), (2377, 22, 2247), (2379, 27, 2257), (2381, 21, 2245), (2383, 30, 2263), (2384, 34, 2271), (2385, 45, 2293), (2386, 49, 2301), (2387, 50, 2303), (2388, 9, 2221), (2389, 10, 2223), (2390, 32, 2267), (2391, 43, 2289), (2392, 25, 2253), (2393, 18, 2239), (2394, 42, 2287), (2395, 26, 2255), (2396, 31, 2265)]) 48
noncomputable def o80_s55 (P : Params) : Obj := D (entT P (((txtKeys (dK 55)).drop 17).take 17) [(2349, 51, 2305), (2351, 23, 2249), (2353, 52, 2307), (2355, 17, 2237), (2357, 47, 2297), (2359, 48, 2299), (2361, 39, 2281), (2363, 11, 2225), (2365, 53, 2309), (2367, 13, 2229), (2369, 20, 2243), (2371, 33, 2269), (2373, 44, 2291), (2375, 29, 2261), (2377, 22, 2247), (2379, 27, 2257), (2381, 21, 2245)]) 17
noncomputable def o81_s55 (P : Params) : Obj := D (entT P ((txtKeys (dK 55)).drop 34) [(2383, 30, 2263), (2384, 34, 2271), (2385, 45, 2293), (2386, 49, 2301), (2387, 50, 2303), (2388, 9, 2221), (2389, 10, 2223), (2390, 32, 2267), (2391, 43, 2289), (2392, 25, 2253), (2393, 18, 2239), (2394, 42, 2287), (2395, 26, 2255), (2396, 31, 2265)]) 14
noncomputable def o3_s68 (P : Params) : Obj := (@PySem.Obj.mk (@PySem.Value.type "dict") (@Option.none @Nat) (@PySem.Data.dict (@List.toArray @PySem.DictEntry [(@PySem.DictEntry.mk (@PySem.PyData.keyHash P (⟨#[95, 95, 110, 97, 109, 101, 95, 95]⟩ : PySem.Str)) (@PySem.Value.str (⟨#[95, 95, 110, 97, 109, 101, 95, 95]⟩ : PySem.Str) (165 : @Nat)) (@PySem.Value.str (⟨#[108, 97, 119, 95, 112, 103, 48, 50, 56, 48, 95, 48, 49]⟩ : PySem.Str) (2419 : @Nat))), (@PySem.DictEntry.mk (@PySem.PyData.keyHash P (⟨#[95, 95, 100, 111, 99, 95, 95]⟩ : PySem.Str)) (@PySem.Value.str (⟨#[95, 95, 100, 111, 99, 95, 95]⟩ : PySem.Str) (166 : @Nat)) @PySem.Value.none), (@PySem.DictEntry.mk (@PySem.PyData.keyHash P (⟨#[95, 95, 112, 97, 99, 107, 97, 103, 101, 95, 95]⟩ : PySem.Str)) (@PySem.Value.str (⟨#[95, 95, 112, 97, 99, 107, 97, 103, 101, 95, 95]⟩ : PySem.Str) (167 : @Nat)) @PySem.Value.none), (@PySem.DictEntry.mk (@PySem.PyData.keyHash P (⟨#[95, 95, 108, 111, 97, 100, 101, 114, 95, 95]⟩ : PySem.Str)) (@PySem.Value.str (⟨#[95, 95, 108, 111, 97, 100, 101, 114, 95, 95]⟩ : PySem.Str) (168 : @Nat)) (@PySem.Value.builtin "__main__.__loader__#opaque")), (@PySem.DictEntry.mk (@PySem.PyData.keyHash P (⟨#[95, 95, 115, 112, 101, 99, 95, 95]⟩ : PySem.Str)) (@PySem.Value.str (⟨#[95, 95, 115, 112, 101, 99, 95, 95]⟩ : PySem.Str) (169 : @Nat)) @PySem.Value.none), (@PySem.DictEntry.mk (@PySem.PyData.keyHash P (⟨#[95, 95, 97, 110, 110, 111, 116, 97, 116, 105, 111, 110, 115, 95, 95]⟩ : PySem.Str)) (@PySem.Value.str (⟨#[95, 95, 97, 110, 110, 111, 116, 97, 116, 105, 111, 110, 115, 95, 95]⟩ : PySem.Str) (170 : @Nat)) (@PySem.Value.ref (6 : @Nat))), (@PySem.DictEntry.mk (@PySem.PyData.keyHash P (⟨#[95, 95, 98, 117, 105, 108, 116, 105, 110, 115, 95, 95]⟩ : PySem.Str)) (@PySem.Value.str (⟨#[95, 95, 98, 117, 105, 108, 116, 105, 110, 115, 95, 95]⟩ : PySem.Str) (171 : @Nat)) (@PySem.Value.ref (4 : @Nat))), (@PySem.DictEntry.mk (@PySem.PyData.keyHash P (⟨#[95, 95, 102, 105, 108, 101, 95, 95]⟩ : PySem.Str)) (@PySem.Value.str (⟨#[95, 95, 102, 105, 108, 101, 95, 95]⟩ : PySem.Str) (173 : @Nat)) (@PySem.Value.str (⟨#[47, 99, 108, 97, 105, 109, 47, 99, 117, 116, 46, 112, 121]⟩ : PySem.Str) (172 : @Nat))), (@PySem.DictEntry.mk (@PySem.PyData.keyHash P (⟨#[95, 95, 99, 97, 99, 104, 101, 100, 95, 95]⟩ : PySem.Str)) (@PySem.Value.str (⟨#[95, 95, 99, 97, 99, 104, 101, 100, 95, 95]⟩ : PySem.Str) (174 : @Nat)) @PySem.Value.none), (@PySem.DictEntry.mk (@PySem.PyData.keyHash P (⟨#[98, 49, 95, 115, 101, 116]⟩ : PySem.Str)) (@PySem.Value.str (⟨#[98, 49, 95, 115, 101, 116]⟩ : PySem.Str) (248 : @Nat)) (@PySem.Value.ref (22 : @Nat))), (@PySem.DictEntry.mk (@PySem.PyData.keyHash P (⟨#[105, 110, 95, 116, 97, 98, 108, 101, 95, 98, 49]⟩ : PySem.Str)) (@PySem.Value.str (⟨#[105, 110, 95, 116, 97, 98, 108, 101, 95, 98, 49]⟩ : PySem.Str) (255 : @Nat)) (@PySem.Value.ref (32 : @Nat))), (@PySem.DictEntry.mk (@PySem.PyData.keyHash P (⟨#[98, 51, 95, 101, 120, 99, 101, 112, 116, 105, 111, 110, 115]⟩ : PySem.Str)) (@PySem.Value.str (⟨#[98, 51, 95, 101, 120, 99, 101, 112, 116, 105, 111, 110, 115]⟩ : PySem.Str) (2206 : @Nat)) (@PySem.Value.ref (33 : @Nat))), (@PySem.DictEntry.mk (@PySem.PyData.keyHash P (⟨#[109, 97, 112, 95, 116, 97, 98, 108, 101, 95, 98, 51]⟩ : PySem.Str)) (@PySem.Value.str (⟨#[109, 97, 112, 95, 116, 97, 98, 108, 101, 95, 98, 51]⟩ : PySem.Str) (2214 : @Nat)) (@PySem.Value.ref (78 : @Nat))), (@PySem.DictEntry.mk (@PySem.PyData.keyHash P (⟨#[76, 80, 65, 82]⟩ : PySem.Str)) (@PySem.Value.str (⟨#[76, 80, 65, 82]⟩ : PySem.Str) (2218 : @Nat)) (@PySem.Value.int (7 : @Int) (2217 : @Nat))), (@PySem.DictEntry.mk (@PySem.PyData.keyHash P (⟨#[82, 80, 65, 82]⟩ : PySem.Str)) (@PySem.Value.str (⟨#[82, 80, 65, 82]⟩ : PySem.Str) (2220 : @Nat)) (@PySem.Value.int (8 : @Int) (2219 : @Nat))), (@PySem.DictEntry.mk (@PySem.PyData.keyHash P (⟨#[76, 83, 81, 66]⟩ : PySem.Str)) (@PySem.Value.str (⟨#[76, 83, 81, 66]⟩ : PySem.Str) (2222 : @Nat)) (@PySem.Value.int (9 : @Int) (2221 : @Nat))), (@PySem.DictEntry.mk (@PySem.PyData.keyHash P (⟨#[82, 83, 81, 66]⟩ : PySem.Str)) (@PySem.Value.str (⟨#[82, 83, 81, 66]⟩ : PySem.Str) (2224 : @Nat)) (@PySem.Value.int (10 : @Int) (2223 : @Nat))), (@PySem.DictEntry.mk (@PySem.PyData.keyHash P (⟨#[67, 79, 76, 79, 78]⟩ : PySem.Str)) (@PySem.Value.str (⟨#[67, 79, 76, 79, 78]⟩ : PySem.Str) (2226 : @Nat)) (@PySem.Value.int (11 : @Int) (2225 : @Nat))), (@PySem.DictEntry.mk (@PySem.PyData.keyHash P (⟨#[67, 79, 77, 77, 65]⟩ : PySem.Str)) (@PySem.Value.str (⟨#[67, 79, 77, 77, 65]⟩ : PySem.Str) (2228 : @Nat)) (@PySem.Value.int (12 : @Int) (2227 : @Nat))), (@PySem.DictEntry.mk (@PySem.PyData.keyHash P (⟨#[83, 69, 77, 73]⟩ : PySem.Str)) (@PySem.Value.str (⟨#[83, 69, 77, 73]⟩ : PySem.Str) (2230 : @Nat)) (@PySem.Value.int (13 : @Int) (2229 : @Nat))), (@PySem.DictEntry.mk (@PySem.PyData.keyHash P (⟨#[80, 76, 85, 83]⟩ : PySem.Str)) (@PySem.Value.str (⟨#[80, 76, 85, 83]⟩ : PySem.Str) (2232 : @Nat)) (@PySem.Value.int (14 : @Int) (2231 : @Nat))), (@PySem.DictEntry.mk (@PySem.PyData.keyHash P (⟨#[77, 73, 78, 85, 83]⟩ : PySem.Str)) (@PySem.Value.str (⟨#[77, 73, 78, 85, 83]⟩ : PySem.Str) (2234 : @Nat)) (@PySem.Value.int (15 : @Int) (2233 : @Nat))), (@PySem.DictEntry.mk (@PySem.PyData.keyHash P (⟨#[83, 84, 65, 82]⟩ : PySem.Str)) (@PySem.Value.str (⟨#[83, 84, 65, 82]⟩ : PySem.Str) (2236 : @Nat)) (@PySem.Value.int (16 : @Int) (2235 : @Nat))), (@PySem.DictEntry.mk (@PySem.PyData.keyHash P (⟨#[83, 76, 65, 83, 72]⟩ : PySem.Str)) (@PySem.Value.str (⟨#[83, 76, 65, 83, 72]⟩ : PySem.Str) (2238 : @Nat)) (@PySem.Value.int (17 : @Int) (2237 : @Nat))), (@PySem.DictEntry.mk (@PySem.PyData.keyHash P (⟨#[86, 66, 65, 82]⟩ : PySem.Str)) (@PySem.Value.str (⟨#[86, 66, 65, 82]⟩ : PySem.Str) (2240 : @Nat)) (@PySem.Value.int (18 : @Int) (2239 : @Nat))), (@PySem.DictEntry.mk (@PySem.PyData.keyHash P (⟨#[65, 77, 80, 69, 82]⟩ : PySem.Str)) (@PySem.Value.str (⟨#[65, 77, 80, 69, 82]⟩ : PySem.Str) (2242 : @Nat)) (@PySem.Value.int (19 : @Int) (2241 : @Nat))), (@PySem.DictEntry.mk (@PySem.PyData.keyHash P (⟨#[76, 69, 83, 83]⟩ : PySem.Str)) (@PySem.Value.str (⟨#[76, 69, 83, 83]⟩ : PySem.Str) (2244 : @Nat)) (@PySem.Value.int (20 : @Int) (2243 : @Nat))), (@PySem.DictEntry.mk (@PySem.PyData.keyHash P (⟨#[71, 82, 69, 65, 84, 69, 82]⟩ : PySem.Str)) (@PySem.Value.str (⟨#[71, 82, 69, 65, 84, 69, 82]⟩ : PySem.Str) (2246 : @Nat)) (@PySem.Value.int (21 : @Int) (2245 : @Nat))), (@PySem.DictEntry.mk (@PySem.PyData.keyHash P (⟨#[69, 81, 85, 65, 76]⟩ : PySem.Str)) (@PySem.Value.str (⟨#[69, 81, 85, 65, 76]⟩ : PySem.Str) (2248 : @Nat)) (@PySem.Value.int (22 : @Int) (2247 : @Nat))), (@PySem.DictEntry.mk (@PySem.PyData.keyHash P (⟨#[68, 79, 84]⟩ : PySem.Str)) (@PySem.Value.str (⟨#[68, 79, 84]⟩ : PySem.Str) (2250 : @Nat)) (@PySem.Value.int (23 : @Int) (2249 : @Nat))), (@PySem.DictEntry.mk (@PySem.PyData.keyHash P (⟨#[80, 69, 82, 67, 69, 78, 84]⟩ : PySem.Str)) (@PySem.Value.str (⟨#[80, 69, 82, 67, 69, 78, 84]⟩ : PySem.Str) (2252 : @Nat)) (@PySem.Value.int (24 : @Int) (2251 : @Nat))), (@PySem.DictEntry.mk (@PySem.PyData.keyHash P (⟨#[76, 66, 82, 65, 67, 69]⟩ : PySem.Str)) (@PySem.Value.str (⟨#[76, 66, 82, 65, 67, 69]⟩ : PySem.Str) (2254 : @Nat)) (@PySem.Value.int (25 : @Int) (2253 : @Nat))), (@PySem.DictEntry.mk (@PySem.PyData.keyHash P (⟨#[82, 66, 82, 65, 67, 69]⟩ : PySem.Str)) (@PySem.Value.str (⟨#[82, 66, 82, 65, 67, 69]⟩ : PySem.Str) (2256 : @Nat)) (@PySem.Value.int (26 : @Int) (2255 : @Nat))), (@PySem.DictEntry.mk (@PySem.PyData.keyHash P (⟨#[69, 81, 69, 81, 85, 65, 76]⟩ : PySem.Str)) (@PySem.Value.str (⟨#[69, 81, 69, 81, 85, 65, 76]⟩ : PySem.Str) (2258 : @Nat)) (@PySem.Value.int (27 : @Int) (2257 : @Nat))), (@PySem.DictEntry.mk (@PySem.PyData.keyHash P (⟨#[78, 79, 84, 69, 81, 85, 65, 76]⟩ : PySem.Str)) (@PySem.Value.str (⟨#[78, 79, 84, 69, 81, 85, 65, 76]⟩ : PySem.Str) (2260 : @Nat)) (@PySem.Value.int (28 : @Int) (2259 : @Nat))), (@PySem.DictEntry.mk (@PySem.PyData.keyHash P (⟨#[76, 69, 83, 83, 69, 81, 85, 65, 76]⟩ : PySem.Str)) (@PySem.Value.str (⟨#[76, 69, 83, 83, 69, 81, 85, 65, 76]⟩ : PySem.Str) (2262 : @Nat)) (@PySem.Value.int (29 : @Int) (2261 : @Nat))), (@PySem.DictEntry.mk (@PySem.PyData.keyHash P (⟨#[71, 82, 69, 65, 84, 69, 82, 69, 81, 85, 65, 76]⟩ : PySem.Str)) (@PySem.Value.str (⟨#[71, 82, 69, 65, 84, 69, 82, 69, 81, 85, 65, 76]⟩ : PySem.Str) (2264 : @Nat)) (@PySem.Value.int (30 : @Int) (2263 : @Nat))), (@PySem.DictEntry.mk (@PySem.PyData.keyHash P (⟨#[84, 73, 76, 68, 69]⟩ : PySem.Str)) (@PySem.Value.str (⟨#[84, 73, 76, 68, 69]⟩ : PySem.Str) (2266 : @Nat)) (@PySem.Value.int (31 : @Int) (2265 : @Nat))), (@PySem.DictEntry.mk (@PySem.PyData.keyHash P (⟨#[67, 73, 82, 67, 85, 77, 70, 76, 69, 88]⟩ : PySem.Str)) (@PySem.Value.str (⟨#[67, 73, 82, 67, 85, 77, 70, 76, 69, 88]⟩ : PySem.Str) (2268 : @Nat)) (@PySem.Value.int (32 : @Int) (2267 : @Nat))), (@PySem.DictEntry.mk (@PySem.PyData.keyHash P (⟨#[76, 69, 70, 84, 83, 72, 73, 70, 84]⟩ : PySem.Str)) (@PySem.Value.str (⟨#[76, 69, 70, 84, 83, 72, 73, 70, 84]⟩ : PySem.Str) (2270 : @Nat)) (@PySem.Value.int (33 : @Int) (2269 : @Nat))), (@PySem.DictEntry.mk (@PySem.PyData.keyHash P (⟨#[82, 73, 71, 72, 84, 83, 72, 73, 70, 84]⟩ : PySem.Str)) (@PySem.Value.str (⟨#[82, 73, 71, 72, 84, 83, 72, 73, 70, 84]⟩ : PySem.Str) (2272 : @Nat)) (@PySem.Value.int (34 : @Int) (2271 : @Nat))), (@PySem.DictEntry.mk (@PySem.PyData.keyHash P (⟨#[68, 79, 85, 66, 76, 69, 83, 84, 65, 82]⟩ : PySem.Str)) (@PySem.Value.str (⟨#[68, 79, 85, 66, 76, 69, 83, 84, 65, 82]⟩ : PySem.Str) (2274 : @Nat)) (@PySem.Value.int (35 : @Int) (2273 : @Nat))), (@PySem.DictEntry.mk (@PySem.PyData.keyHash P (⟨#[80, 76, 85, 83, 69, 81, 85, 65, 76]⟩ : PySem.Str)) (@PySem.Value.str (⟨#[80, 76, 85, 83, 69, 81, 85, 65, 76]⟩ : PySem.Str) (2276 : @Nat)) (@PySem.Value.int (36 : @Int) (2275 : @Nat))), (@PySem.DictEntry.mk (@PySem.PyData.keyHash P (⟨#[77, 73, 78, 69, 81, 85, 65, 76]⟩ : PySem.Str)) (@PySem.Value.str (⟨#[77, 73, 78, 69, 81, 85, 65, 76]⟩ : PySem.Str) (2278 : @Nat)) (@PySem.Value.int (37 : @Int) (2277 : @Nat))), (@PySem.DictEntry.mk (@PySem.PyData.keyHash P (⟨#[83, 84, 65, 82, 69, 81, 85, 65, 76]⟩ : PySem.Str)) (@PySem.Value.str (⟨#[83, 84, 65, 82, 69, 81, 85, 65, 76]⟩ : PySem.Str) (2280 : @Nat)) (@PySem.Value.int (38 : @Int) (2279 : @Nat))), (@PySem.DictEntry.mk (@PySem.PyData.keyHash P (⟨#[83, 76, 65, 83, 72, 69, 81, 85, 65, 76]⟩ : PySem.Str)) (@PySem.Value.str (⟨#[83, 76, 65, 83, 72, 69, 81, 85, 65, 76]⟩ : PySem.Str) (2282 : @Nat)) (@PySem.Value.int (39 : @Int) (2281 : @Nat))), (@PySem.DictEntry.mk (@PySem.PyData.keyHash P (⟨#[80, 69, 82, 67, 69, 78, 84, 69, 81, 85, 65, 76]⟩ : PySem.Str)) (@PySem.Value.str (⟨#[80, 69, 82, 67, 69, 78, 84, 69, 81, 85, 65, 76]⟩ : PySem.Str) (2284 : @Nat)) (@PySem.Value.int (40 : @Int) (2283 : @Nat))), (@PySem.DictEntry.mk (@PySem.PyData.keyHash P (⟨#[65, 77, 80, 69, 82, 69, 81, 85, 65, 76]⟩ : PySem.Str)) (@PySem.Value.str (⟨#[65, 77, 80, 69, 82, 69, 81, 85, 65, 76]⟩ : PySem.Str) (2286 : @Nat)) (@PySem.Value.int (41 : @Int) (2285 : @Nat))), (@PySem.DictEntry.mk (@PySem.PyData.keyHash P (⟨#[86, 66, 65, 82, 69, 81, 85, 65, 76]⟩ : PySem.Str)) (@PySem.Value.str (⟨#[86, 66, 65, 82, 69, 81, 85, 65, 76]⟩ : PySem.Str) (2288 : @Nat)) (@PySem.Value.int (42 : @Int) (2287 : @Nat))), (@PySem.DictEntry.mk (@PySem.PyData.keyHash P (⟨#[67, 73, 82, 67, 85, 77, 70, 76, 69, 88, 69, 81, 85, 65, 76]⟩ : PySem.Str)) (@PySem.Value.str (⟨#[67, 73, 82, 67, 85, 77, 70, 76, 69, 88, 69, 81, 85, 65, 76]⟩ : PySem.Str) (2290 : @Nat)) (@PySem.Value.int (43 : @Int) (2289 : @Nat))), (@PySem.DictEntry.mk (@PySem.PyData.keyHash P (⟨#[76, 69, 70, 84, 83, 72, 73, 70, 84, 69, 81, 85, 65, 76]⟩ : PySem.Str)) (@PySem.Value.str (⟨#[76, 69, 70, 84, 83, 72, 73, 70, 84, 69, 81, 85, 65, 76]⟩ : PySem.Str) (2292 : @Nat)) (@PySem.Value.int (44 : @Int) (2291 : @Nat))), (@PySem.DictEntry.mk (@PySem.PyData.keyHash P (⟨#[82, 73, 71, 72, 84, 83, 72, 73, 70, 84, 69, 81, 85, 65, 76]⟩ : PySem.Str)) (@PySem.Value.str (⟨#[82, 73, 71, 72, 84, 83, 72, 73, 70, 84, 69, 81, 85, 65, 76]⟩ : PySem.Str) (2294 : @Nat)) (@PySem.Value.int (45 : @Int) (2293 : @Nat))), (@PySem.DictEntry.mk (@PySem.PyData.keyHash P (⟨#[68, 79, 85, 66, 76, 69, 83, 84, 65, 82, 69, 81, 85, 65, 76]⟩ : PySem.Str)) (@PySem.Value.str (⟨#[68, 79, 85, 66, 76, 69, 83, 84, 65, 82, 69, 81, 85, 65, 76]⟩ : PySem.Str) (2296 : @Nat)) (@PySem.Value.int (46 : @Int) (2295 : @Nat))), (@PySem.DictEntry.mk (@PySem.PyData.keyHash P (⟨#[68, 79, 85, 66, 76, 69, 83, 76, 65, 83, 72]⟩ : PySem.Str)) (@PySem.Value.str (⟨#[68, 79, 85, 66, 76, 69, 83, 76, 65, 83, 72]⟩ : PySem.Str) (2298 : @Nat)) (@PySem.Value.int (47 : @Int) (2297 : @Nat))), (@PySem.DictEntry.mk (@PySem.PyData.keyHash P (⟨#[68, 79, 85, 66, 76, 69, 83, 76, 65, 83, 72, 69, 81, 85, 65, 76]⟩ : PySem.Str)) (@PySem.Value.str (⟨#[68, 79, 85, 66, 76, 69, 83, 76, 65, 83, 72, 69, 81, 85, 65, 76]⟩ : PySem.Str) (2300 : @Nat)) (@PySem.Value.int (48 : @Int) (2299 : @Nat))), (@PySem.DictEntry.mk (@PySem.PyData.keyHash P (⟨#[65, 84]⟩ : PySem.Str)) (@PySem.Value.str (⟨#[65, 84]⟩ : PySem.Str) (2302 : @Nat)) (@PySem.Value.int (49 : @Int) (2301 : @Nat))), (@PySem.DictEntry.mk (@PySem.PyData.keyHash P (⟨#[65, 84, 69, 81, 85, 65, 76]⟩ : PySem.Str)) (@PySem.Value.str (⟨#[65, 84, 69, 81, 85, 65, 76]⟩ : PySem.Str) (2304 : @Nat)) (@PySem.Value.int (50 : @Int) (2303 : @Nat))), (@PySem.DictEntry.mk (@PySem.PyData.keyHash P (⟨#[82, 65, 82, 82, 79, 87]⟩ : PySem.Str)) (@PySem.Value.str (⟨#[82, 65, 82, 82, 79, 87]⟩ : PySem.Str) (2306 : @Nat)) (@PySem.Value.int (51 : @Int) (2305 : @Nat))), (@PySem.DictEntry.mk (@PySem.PyData.keyHash P (⟨#[69, 76, 76, 73, 80, 83, 73, 83]⟩ : PySem.Str)) (@PySem.Value.str (⟨#[69, 76, 76, 73, 80, 83, 73, 83]⟩ : PySem.Str) (2308 : @Nat)) (@PySem.Value.int (52 : @Int) (2307 : @Nat))), (@PySem.DictEntry.mk (@PySem.PyData.keyHash P (⟨#[67, 79, 76, 79, 78, 69, 81, 85, 65, 76]⟩ : PySem.Str)) (@PySem.Value.str (⟨#[67, 79, 76, 79, 78, 69, 81, 85, 65, 76]⟩ : PySem.Str) (2310 : @Nat)) (@PySem.Value.int (53 : @Int) (2309 : @Nat))), (@PySem.DictEntry.mk (@PySem.PyData.keyHash P (⟨#[69, 88, 67, 76, 65, 77, 65, 84, 73, 79, 78]⟩ : PySem.Str)) (@PySem.Value.str (⟨#[69, 88, 67, 76, 65, 77, 65, 84, 73, 79, 78]⟩ : PySem.Str) (2312 : @Nat)) (@PySem.Value.int (54 : @Int) (2311 : @Nat))), (@PySem.DictEntry.mk (@PySem.PyData.keyHash P (⟨#[78, 84, 95, 79, 70, 70, 83, 69, 84]⟩ : PySem.Str)) (@PySem.Value.str (⟨#[78, 84, 95, 79, 70, 70, 83, 69, 84]⟩ : PySem.Str) (2314 : @Nat)) (@PySem.Value.int (256 : @Int) (2313 : @Nat))), (@PySem.DictEntry.mk (@PySem.PyData.keyHash P (⟨#[69, 88, 65, 67, 84, 95, 84, 79, 75, 69, 78, 95, 84, 89, 80, 69, 83]⟩ : PySem.Str)) (@PySem.Value.str (⟨#[69, 88, 65, 67, 84, 95, 84, 79, 75, 69, 78, 95, 84, 89, 80, 69, 83]⟩ : PySem.Str) (2411 : @Nat)) (@PySem.Value.ref (79 : @Nat))), (@PySem.DictEntry.mk (@PySem.PyData.keyHash P (⟨#[73, 83, 78, 79, 78, 84, 69, 82, 77, 73, 78, 65, 76]⟩ : PySem.Str)) (@PySem.Value.str (⟨#[73, 83, 78, 79, 78, 84, 69, 82, 77, 73, 78, 65, 76]⟩ : PySem.Str) (2418 : @Nat)) (@PySem.Value.ref (88 : @Nat))), (@PySem.DictEntry.mk (@PySem.PyData.keyHash P (⟨#[95, 108, 97, 119, 95, 111, 112, 101, 114, 97, 116, 111, 114, 115]⟩ : PySem.Str)) (@PySem.Value.str (⟨#[95, 108, 97, 119, 95, 111, 112, 101, 114, 97, 116, 111, 114, 115]⟩ : PySem.Str) (2426 : @Nat)) (@PySem.Value.ref (95 : @Nat))), (@PySem.DictEntry.mk (@PySem.PyData.keyHash P (⟨#[95, 108, 97, 119, 95, 105, 116, 101, 109]⟩ : PySem.Str)) (@PySem.Value.str (⟨#[95, 108, 97, 119, 95, 105, 116, 101, 109]⟩ : PySem.Str) (2441 : @Nat)) (@PySem.Value.ref (102 : @Nat))), (@PySem.DictEntry.mk (@PySem.PyData.keyHash P (⟨#[95, 108, 97, 119, 95, 117, 110, 115, 101, 101, 110]⟩ : PySem.Str)) (@PySem.Value.str (⟨#[95, 108, 97, 119, 95, 117, 110, 115, 101, 101, 110]⟩ : PySem.Str) (2449 : @Nat)) (@PySem.Value.ref (109 : @Nat))), (@PySem.DictEntry.mk (@PySem.PyData.keyHash P (⟨#[95, 108, 97, 119, 95, 116, 111, 108, 100]⟩ : PySem.Str)) (@PySem.Value.str (⟨#[95, 108, 97, 119, 95, 116, 111, 108, 100]⟩ : PySem.Str) (2456 : @Nat)) (@PySem.Value.ref (116 : @Nat))), (@PySem.DictEntry.mk (@PySem.PyData.keyHash P (⟨#[95, 108, 97, 119, 95, 119, 97, 121, 115]⟩ : PySem.Str)) (@PySem.Value.str (⟨#[95, 108, 97, 119, 95, 119, 97, 121, 115]⟩ : PySem.Str) (2462 : @Nat)) (@PySem.Value.ref (121 : @Nat))), (@PySem.DictEntry.mk (@PySem.PyData.keyHash P (⟨#[95, 108, 97, 119, 95, 116, 97, 98, 108, 101]⟩ : PySem.Str)) (@PySem.Value.str (⟨#[95, 108, 97, 119, 95, 116, 97, 98, 108, 101]⟩ : PySem.Str) (2468 : @Nat)) (@PySem.Value.ref (126 : @Nat))), (@PySem.DictEntry.mk (@PySem.PyData.keyHash P (⟨#[95, 108, 97, 119, 95, 114, 101, 97, 100]⟩ : PySem.Str)) (@PySem.Value.str (⟨#[95, 108, 97, 119, 95, 114, 101, 97, 100]⟩ : PySem.Str) (2478 : @Nat)) (@PySem.Value.ref (133 : @Nat))), (@PySem.DictEntry.mk (@PySem.PyData.keyHash P (⟨#[95, 108, 97, 119, 95, 116, 111, 116, 97, 108, 115]⟩ : PySem.Str)) (@PySem.Value.str (⟨#[95, 108, 97, 119, 95, 116, 111, 116, 97, 108, 115]⟩ : PySem.Str) (2490 : @Nat)) (@PySem.Value.ref (140 : @Nat))), (@PySem.DictEntry.mk (@PySem.PyData.keyHash P (⟨#[95, 108, 97, 119, 95, 119, 114, 105, 116, 116, 101, 110]⟩ : PySem.Str)) (@PySem.Value.str (⟨#[95, 108, 97, 119, 95, 119, 114, 105, 116, 116, 101, 110]⟩ : PySem.Str) (2499 : @Nat)) (@PySem.Value.ref (147 : @Nat))), (@PySem.DictEntry.mk (@PySem.PyData.keyHash P (⟨#[95, 108, 97, 119, 95, 119, 111, 114, 116, 104]⟩ : PySem.Str)) (@PySem.Value.str (⟨#[95, 108, 97, 119, 95, 119, 111, 114, 116, 104]⟩ : PySem.Str) (2515 : @Nat)) (@PySem.Value.ref (154 : @Nat))), (@PySem.DictEntry.mk (@PySem.PyData.keyHash P (⟨#[108, 97, 119]⟩ : PySem.Str)) (@PySem.Value.str (⟨#[108, 97, 119]⟩ : PySem.Str) (2521 : @Nat)) (@PySem.Value.ref (159 : @Nat)))]) (75 : @Nat)) (@List.toArray (@Option @PySem.Value) []))
noncomputable def o12_s68 (P : Params) : Obj := (@PySem.Obj.mk @PySem.Value.none (@Option.none @Nat) (@PySem.Data.fields (@List.toArray @PySem.Value [(@PySem.Value.int (3 : @Int) (0 : @Nat)), (@PySem.Value.int (0 : @Int) (0 : @Nat)), (@PySem.Value.ref (31 : @Nat)), (@PySem.Value.int (6 : @Int) (0 : @Nat)), (@PySem.Value.int (0 : @Int) (0 : @Nat)), (@PySem.Value.ref (77 : @Nat)), (@PySem.Value.int (62 : @Int) (0 : @Nat)), (@PySem.Value.int (0 : @Int) (0 : @Nat)), (@PySem.Value.ref (87 : @Nat)), (@PySem.Value.int (65 : @Int) (0 : @Nat)), (@PySem.Value.int (0 : @Int) (0 : @Nat)), (@PySem.Value.ref (94 : @Nat)), (@PySem.Value.int (67 : @Int) (0 : @Nat)), (@PySem.Value.int (0 : @Int) (0 : @Nat)), (@PySem.Value.ref (101 : @Nat)), (@PySem.Value.int (85 : @Int) (0 : @Nat)), (@PySem.Value.int (0 : @Int) (0 : @Nat)), (@PySem.Value.ref (108 : @Nat)), (@PySem.Value.int (88 : @Int) (0 : @Nat)), (@PySem.Value.int (0 : @Int) (0 : @Nat)), (@PySem.Value.ref (115 : @Nat)), (@PySem.Value.int (90 : @Int) (0 : @Nat)), (@PySem.Value.int (0 : @Int) (0 : @Nat)), (@PySem.Value.ref (120 : @Nat)), (@PySem.Value.int (98 : @Int) (0 : @Nat)), (@PySem.Value.int (0 : @Int) (0 : @Nat)), (@PySem.Value.ref (125 : @Nat)), (@PySem.Value.int (103 : @Int) (0 : @Nat)), (@PySem.Value.int (0 : @Int) (0 : @Nat)), (@PySem.Value.ref (132 : @Nat)), (@PySem.Value.int (113 : @Int) (0 : @Nat)), (@PySem.Value.int (0 : @Int) (0 : @Nat)), (@PySem.Value.ref (139 : @Nat)), (@PySem.Value.int (119 : @Int) (0 : @Nat)), (@PySem.Value.int (0 : @Int) (0 : @Nat)), (@PySem.Value.ref (146 : @Nat)), (@PySem.Value.int (124 : @Int) (0 : @Nat)), (@PySem.Value.int (0 : @Int) (0 : @Nat)), (@PySem.Value.ref (153 : @Nat)), (@PySem.Value.int (138 : @Int) (0 : @Nat)), (@PySem.Value.int (0 : @Int) (0 : @Nat)), (@PySem.Value.ref (158 : @Nat))])) (@List.toArray (@Option @PySem.Value) []))
noncomputable def o82_s68 (P : Params) : Obj := (@PySem.Obj.mk (@PySem.Value.type "tuple") (@Option.none @Nat) (@PySem.Data.seq (@List.toArray @PySem.Value []) (0 : @Nat)) (@List.toArray (@Option @PySem.Value) []))
noncomputable def o83_s68 (P : Params) : Obj := (@PySem.Obj.mk @PySem.Value.none (@Option.none @Nat) (@PySem.Data.fields (@List.toArray @PySem.Value [])) (@List.toArray (@Option @PySem.Value) []))
noncomputable def o84_s68 (P : Params) : Obj := (@PySem.Obj.mk (@PySem.Value.type "tuple") (@Option.none @Nat) (@PySem.Data.seq (@List.toArray @PySem.Value [(@PySem.Value.str (⟨#[120]⟩ : PySem.Str) (2415 : @Nat))]) (0 : @Nat)) (@List.toArray (@Option @PySem.Value) []))
noncomputable def o85_s68 (P : Params) : Obj := (@PySem.Obj.mk (@PySem.Value.type "tuple") (@Option.none @Nat) (@PySem.Data.seq (@List.toArray @PySem.Value []) (0 : @Nat)) (@List.toArray (@Option @PySem.Value) []))
noncomputable def o86_s68 (P : Params) : Obj := (@PySem.Obj.mk @PySem.Value.none (@Option.none @Nat) (@PySem.Data.func (@PySem.FuncData.mk (⟨#[73, 83, 78, 79, 78, 84, 69, 82, 77, 73, 78, 65, 76]⟩ : PySem.Str) (⟨#[73, 83, 78, 79, 78, 84, 69, 82, 77, 73, 78, 65, 76]⟩ : PySem.Str) (fdP 56) (@PySem.FuncBody.stmts (fdB 56)) (fdS 56) (0 : @Nat) [] @PySem.Value.none @PySem.Value.none @PySem.Value.none @PySem.Value.none (@Option.none @Nat) @PySem.Value.none @PySem.Value.none (0 : @Nat))) (@List.toArray (@Option @PySem.Value) []))
noncomputable def o87_s68 (P : Params) : Obj := (@PySem.Obj.mk (@PySem.Value.type "code") (@Option.none @Nat) (@PySem.Data.fields (@List.toArray @PySem.Value [(@PySem.Value.str (⟨#[73, 83, 78, 79, 78, 84, 69, 82, 77, 73, 78, 65, 76]⟩ : PySem.Str) (2412 : @Nat)), (@PySem.Value.str (⟨#[73, 83, 78, 79, 78, 84, 69, 82, 77, 73, 78, 65, 76]⟩ : PySem.Str) (2413 : @Nat)), (@PySem.Value.str (⟨#[47, 99, 108, 97, 105, 109, 47, 99, 117, 116, 46, 112, 121]⟩ : PySem.Str) (2414 : @Nat)), (@PySem.Value.int (62 : @Int) (0 : @Nat)), (@PySem.Value.int (1 : @Int) (0 : @Nat)), (@PySem.Value.int (0 : @Int) (0 : @Nat)), (@PySem.Value.int (0 : @Int) (0 : @Nat)), (@PySem.Value.int (3 : @Int) (0 : @Nat)), (@PySem.Value.ref (82 : @Nat)), (@PySem.Value.bool @Bool.true), (@PySem.Value.int (181 : @Int) (0 : @Nat)), (@PySem.Value.ref (83 : @Nat)), @PySem.Value.none, (@PySem.Value.ref (84 : @Nat)), (@PySem.Value.ref (85 : @Nat)), (@PySem.Value.ref (86 : @Nat)), (@PySem.Value.int (2416 : @Int) (0 : @Nat)), (@PySem.Value.int (62 : @Int) (0 : @Nat)), (@PySem.Value.str (⟨#[47, 99, 108, 97, 105, 109, 47, 99, 117, 116, 46, 112, 121]⟩ : PySem.Str) (2417 : @Nat))])) (@List.toArray (@Option @PySem.Value) []))
noncomputable def o88_s68 (P : Params) : Obj := (@PySem.Obj.mk (@PySem.Value.type "function") (@Option.none @Nat) (@PySem.Data.func (@PySem.FuncData.mk (⟨#[73, 83, 78, 79, 78, 84, 69, 82, 77, 73, 78, 65, 76]⟩ : PySem.Str) (⟨#[73, 83, 78, 79, 78, 84, 69, 82, 77, 73, 78, 65, 76]⟩ : PySem.Str) (fdP 56) (@PySem.FuncBody.stmts (fdB 56)) (fdS 56) (3 : @Nat) [] @PySem.Value.none @PySem.Value.none @PySem.Value.none (@PySem.Value.str (⟨#[99, 112, 121, 51, 49, 51, 46, 116, 111, 107, 101, 110]⟩ : PySem.Str) (2215 : @Nat)) (@Option.none @Nat) (@PySem.Value.ref (87 : @Nat)) @PySem.Value.none (0 : @Nat))) (@List.toArray (@Option @PySem.Value) []))
noncomputable def o89_s68 (P : Params) : Obj := (@PySem.Obj.mk (@PySem.Value.type "tuple") (@Option.none @Nat) (@PySem.Data.seq (@List.toArray @PySem.Value []) (0 : @Nat)) (@List.toArray (@Option @PySem.Value) []))
noncomputable def o90_s68 (P : Params) : Obj := (@PySem.Obj.mk @PySem.Value.none (@Option.none @Nat) (@PySem.Data.fields (@List.toArray @PySem.Value [])) (@List.toArray (@Option @PySem.Value) []))
noncomputable def o91_s68 (P : Params) : Obj := (@PySem.Obj.mk (@PySem.Value.type "tuple") (@Option.none @Nat) (@PySem.Data.seq (@List.toArray @PySem.Value []) (0 : @Nat)) (@List.toArray (@Option @PySem.Value) []))
noncomputable def o92_s68 (P : Params) : Obj := (@PySem.Obj.mk (@PySem.Value.type "tuple") (@Option.none @Nat) (@PySem.Data.seq (@List.toArray @PySem.Value []) (0 : @Nat)) (@List.toArray (@Option @PySem.Value) []))
noncomputable def o93_s68 (P : Params) : Obj := (@PySem.Obj.mk @PySem.Value.none (@Option.none @Nat) (@PySem.Data.func (@PySem.FuncData.mk (⟨#[95, 108, 97, 119, 95, 111, 112, 101, 114, 97, 116, 111, 114, 115]⟩ : PySem.Str) (⟨#[95, 108, 97, 119, 95, 111, 112, 101, 114, 97, 116, 111, 114, 115]⟩ : PySem.Str) (fdP 58) (@PySem.FuncBody.stmts (fdB 58)) (fdS 58) (0 : @Nat) [] @PySem.Value.none @PySem.Value.none @PySem.Value.none @PySem.Value.none (@Option.none @Nat) @PySem.Value.none @PySem.Value.none (0 : @Nat))) (@List.toArray (@Option @PySem.Value) []))
noncomputable def o94_s68 (P : Params) : Obj := (@PySem.Obj.mk (@PySem.Value.type "code") (@Option.none @Nat) (@PySem.Data.fields (@List.toArray @PySem.Value [(@PySem.Value.str (⟨#[95, 108, 97, 119, 95, 111, 112, 101, 114, 97, 116, 111, 114, 115]⟩ : PySem.Str) (2421 : @Nat)), (@PySem.Value.str (⟨#[95, 108, 97, 119, 95, 111, 112, 101, 114, 97, 116, 111, 114, 115]⟩ : PySem.Str) (2422 : @Nat)), (@PySem.Value.str (⟨#[47, 99, 108, 97, 105, 109, 47, 99, 117, 116, 46, 112, 121]⟩ : PySem.Str) (2423 : @Nat)), (@PySem.Value.int (65 : @Int) (0 : @Nat)), (@PySem.Value.int (0 : @Int) (0 : @Nat)), (@PySem.Value.int (0 : @Int) (0 : @Nat)), (@PySem.Value.int (0 : @Int) (0 : @Nat)), (@PySem.Value.int (3 : @Int) (0 : @Nat)), (@PySem.Value.ref (89 : @Nat)), (@PySem.Value.bool @Bool.true), (@PySem.Value.int (181 : @Int) (0 : @Nat)), (@PySem.Value.ref (90 : @Nat)), @PySem.Value.none, (@PySem.Value.ref (91 : @Nat)), (@PySem.Value.ref (92 : @Nat)), (@PySem.Value.ref (93 : @Nat)), (@PySem.Value.int (2424 : @Int) (0 : @Nat)), (@PySem.Value.int (65 : @Int) (0 : @Nat)), (@PySem.Value.str (⟨#[47, 99, 108, 97, 105, 109, 47, 99, 117, 116, 46, 112, 121]⟩ : PySem.Str) (2425 : @Nat))])) (@List.toArray (@Option @PySem.Value) []))
noncomputable def o95_s68 (P : Params) : Obj := (@PySem.Obj.mk (@PySem.Value.type "function") (@Option.none @Nat) (@PySem.Data.func (@PySem.FuncData.mk (⟨#[95, 108, 97, 119, 95, 111, 112, 101, 114, 97, 116, 111, 114, 115]⟩ : PySem.Str) (⟨#[95, 108, 97, 119, 95, 111, 112, 101, 114, 97, 116, 111, 114, 115]⟩ : PySem.Str) (fdP 58) (@PySem.FuncBody.stmts (fdB 58)) (fdS 58) (3 : @Nat) [] @PySem.Value.none @PySem.Value.none @PySem.Value.none (@PySem.Value.str (⟨#[108, 97, 119, 95, 112, 103, 48, 50, 56, 48, 95, 48, 49]⟩ : PySem.Str) (2419 : @Nat)) (@Option.none @Nat) (@PySem.Value.ref (94 : @Nat)) @PySem.Value.none (0 : @Nat))) (@List.toArray (@Option @PySem.Value) []))
noncomputable def o96_s68 (P : Params) : Obj := (@PySem.Obj.mk (@PySem.Value.type "tuple") (@Option.none @Nat) (@PySem.Data.seq (@List.toArray @PySem.Value []) (0 : @Nat)) (@List.toArray (@Option @PySem.Value) []))
noncomputable def o97_s68 (P : Params) : Obj := (@PySem.Obj.mk @PySem.Value.none (@Option.none @Nat) (@PySem.Data.fields (@List.toArray @PySem.Value [])) (@List.toArray (@Option @PySem.Value) []))
noncomputable def o98_s68 (P : Params) : Obj := (@PySem.Obj.mk (@PySem.Value.type "tuple") (@Option.none @Nat) (@PySem.Data.seq (@List.toArray @PySem.Value [(@PySem.Value.str (⟨#[120]⟩ : PySem.Str) (2430 : @Nat)), (@PySem.Value.str (⟨#[102, 105, 114, 115, 116]⟩ : PySem.Str) (2431 : @Nat)), (@PySem.Value.str (⟨#[119, 104, 105, 99, 104]⟩ : PySem.Str) (2432 : @Nat)), (@PySem.Value.str (⟨#[115, 105, 103, 110]⟩ : PySem.Str) (2433 : @Nat)), (@PySem.Value.str (⟨#[109, 101, 97, 110, 116]⟩ : PySem.Str) (2434 : @Nat)), (@PySem.Value.str (⟨#[115, 116, 97, 114, 116, 115]⟩ : PySem.Str) (2435 : @Nat)), (@PySem.Value.str (⟨#[112, 108, 97, 99, 101]⟩ : PySem.Str) (2436 : @Nat)), (@PySem.Value.str (⟨#[115, 105, 103, 110, 115]⟩ : PySem.Str) (2437 : @Nat)), (@PySem.Value.str (⟨#[98, 101, 115, 105, 100, 101]⟩ : PySem.Str) (2438 : @Nat))]) (0 : @Nat)) (@List.toArray (@Option @PySem.Value) []))
noncomputable def o99_s68 (P : Params) : Obj := (@PySem.Obj.mk (@PySem.Value.type "tuple") (@Option.none @Nat) (@PySem.Data.seq (@List.toArray @PySem.Value []) (0 : @Nat)) (@List.toArray (@Option @PySem.Value) []))
noncomputable def o100_s68 (P : Params) : Obj := (@PySem.Obj.mk @PySem.Value.none (@Option.none @Nat) (@PySem.Data.func (@PySem.FuncData.mk (⟨#[95, 108, 97, 119, 95, 105, 116, 101, 109]⟩ : PySem.Str) (⟨#[95, 108, 97, 119, 95, 105, 116, 101, 109]⟩ : PySem.Str) (fdP 59) (@PySem.FuncBody.stmts (fdB 59)) (fdS 59) (0 : @Nat) [] @PySem.Value.none @PySem.Value.none @PySem.Value.none @PySem.Value.none (@Option.none @Nat) @PySem.Value.none @PySem.Value.none (0 : @Nat))) (@List.toArray (@Option @PySem.Value) []))
noncomputable def o101_s68 (P : Params) : Obj := (@PySem.Obj.mk (@PySem.Value.type "code") (@Option.none @Nat) (@PySem.Data.fields (@List.toArray @PySem.Value [(@PySem.Value.str (⟨#[95, 108, 97, 119, 95, 105, 116, 101, 109]⟩ : PySem.Str) (2427 : @Nat)), (@PySem.Value.str (⟨#[95, 108, 97, 119, 95, 105, 116, 101, 109]⟩ : PySem.Str) (2428 : @Nat)), (@PySem.Value.str (⟨#[47, 99, 108, 97, 105, 109, 47, 99, 117, 116, 46, 112, 121]⟩ : PySem.Str) (2429 : @Nat)), (@PySem.Value.int (67 : @Int) (0 : @Nat)), (@PySem.Value.int (2 : @Int) (0 : @Nat)), (@PySem.Value.int (0 : @Int) (0 : @Nat)), (@PySem.Value.int (0 : @Int) (0 : @Nat)), (@PySem.Value.int (3 : @Int) (0 : @Nat)), (@PySem.Value.ref (96 : @Nat)), (@PySem.Value.bool @Bool.true), (@PySem.Value.int (181 : @Int) (0 : @Nat)), (@PySem.Value.ref (97 : @Nat)), @PySem.Value.none, (@PySem.Value.ref (98 : @Nat)), (@PySem.Value.ref (99 : @Nat)), (@PySem.Value.ref (100 : @Nat)), (@PySem.Value.int (2439 : @Int) (0 : @Nat)), (@PySem.Value.int (67 : @Int) (0 : @Nat)), (@PySem.Value.str (⟨#[47, 99, 108, 97, 105, 109, 47, 99, 117, 116, 46, 112, 121]⟩ : PySem.Str) (2440 : @Nat))])) (@List.toArray (@Option @PySem.Value) []))
noncomputable def o102_s68 (P : Params) : Obj := (@PySem.Obj.mk (@PySem.Value.type "function") (@Option.none @Nat) (@PySem.Data.func (@PySem.FuncData.mk (⟨#[95, 108, 97, 119, 95, 105, 116, 101, 109]⟩ : PySem.Str) (⟨#[95, 108, 97, 119, 95, 105, 116, 101, 109]⟩ : PySem.Str) (fdP 59) (@PySem.FuncBody.stmts (fdB 59)) (fdS 59) (3 : @Nat) [] @PySem.Value.none @PySem.Value.none @PySem.Value.none (@PySem.Value.str (⟨#[108, 97, 119, 95, 112, 103, 48, 50, 56, 48, 95, 48, 49]⟩ : PySem.Str) (2419 : @Nat)) (@Option.none @Nat) (@PySem.Value.ref (101 : @Nat)) @PySem.Value.none (0 : @Nat))) (@List.toArray (@Option @PySem.Value) []))
noncomputable def o103_s68 (P : Params) : Obj := (@PySem.Obj.mk (@PySem.Value.type "tuple") (@Option.none @Nat) (@PySem.Data.seq (@List.toArray @PySem.Value []) (0 : @Nat)) (@List.toArray (@Option @PySem.Value) []))
noncomputable def o104_s68 (P : Params) : Obj := (@PySem.Obj.mk @PySem.Value.none (@Option.none @Nat) (@PySem.Data.fields (@List.toArray @PySem.Value [])) (@List.toArray (@Option @PySem.Value) []))
noncomputable def o105_s68 (P : Params) : Obj := (@PySem.Obj.mk (@PySem.Value.type "tuple") (@Option.none @Nat) (@PySem.Data.seq (@List.toArray @PySem.Value [(@PySem.Value.str (⟨#[120]⟩ : PySem.Str) (2445 : @Nat)), (@PySem.Value.str (⟨#[115, 105, 103, 110, 115]⟩ : PySem.Str) (2446 : @Nat))]) (0 : @Nat)) (@List.toArray (@Option @PySem.Value) []))
noncomputable def o106_s68 (P : Params) : Obj := (@PySem.Obj.mk (@PySem.Value.type "tuple") (@Option.none @Nat) (@PySem.Data.seq (@List.toArray @PySem.Value []) (0 : @Nat)) (@List.toArray (@Option @PySem.Value) []))
noncomputable def o107_s68 (P : Params) : Obj := (@PySem.Obj.mk @PySem.Value.none (@Option.none @Nat) (@PySem.Data.func (@PySem.FuncData.mk (⟨#[95, 108, 97, 119, 95, 117, 110, 115, 101, 101, 110]⟩ : PySem.Str) (⟨#[95, 108, 97, 119, 95, 117, 110, 115, 101, 101, 110]⟩ : PySem.Str) (fdP 60) (@PySem.FuncBody.stmts (fdB 60)) (fdS 60) (0 : @Nat) [] @PySem.Value.none @PySem.Value.none @PySem.Value.none @PySem.Value.none (@Option.none @Nat) @PySem.Value.none @PySem.Value.none (0 : @Nat))) (@List.toArray (@Option @PySem.Value) []))
noncomputable def o108_s68 (P : Params) : Obj := (@PySem.Obj.mk (@PySem.Value.type "code") (@Option.none @Nat) (@PySem.Data.fields (@List.toArray @PySem.Value [(@PySem.Value.str (⟨#[95, 108, 97, 119, 95, 117, 110, 115, 101, 101, 110]⟩ : PySem.Str) (2442 : @Nat)), (@PySem.Value.str (⟨#[95, 108, 97, 119, 95, 117, 110, 115, 101, 101, 110]⟩ : PySem.Str) (2443 : @Nat)), (@PySem.Value.str (⟨#[47, 99, 108, 97, 105, 109, 47, 99, 117, 116, 46, 112, 121]⟩ : PySem.Str) (2444 : @Nat)), (@PySem.Value.int (85 : @Int) (0 : @Nat)), (@PySem.Value.int (1 : @Int) (0 : @Nat)), (@PySem.Value.int (0 : @Int) (0 : @Nat)), (@PySem.Value.int (0 : @Int) (0 : @Nat)), (@PySem.Value.int (3 : @Int) (0 : @Nat)), (@PySem.Value.ref (103 : @Nat)), (@PySem.Value.bool @Bool.true), (@PySem.Value.int (181 : @Int) (0 : @Nat)), (@PySem.Value.ref (104 : @Nat)), @PySem.Value.none, (@PySem.Value.ref (105 : @Nat)), (@PySem.Value.ref (106 : @Nat)), (@PySem.Value.ref (107 : @Nat)), (@PySem.Value.int (2447 : @Int) (0 : @Nat)), (@PySem.Value.int (85 : @Int) (0 : @Nat)), (@PySem.Value.str (⟨#[47, 99, 108, 97, 105, 109, 47, 99, 117, 116, 46, 112, 121]⟩ : PySem.Str) (2448 : @Nat))])) (@List.toArray (@Option @PySem.Value) []))
noncomputable def o109_s68 (P : Params) : Obj := (@PySem.Obj.mk (@PySem.Value.type "function") (@Option.none @Nat) (@PySem.Data.func (@PySem.FuncData.mk (⟨#[95, 108, 97, 119, 95, 117, 110, 115, 101, 101, 110]⟩ : PySem.Str) (⟨#[95, 108, 97, 119, 95, 117, 110, 115, 101, 101, 110]⟩ : PySem.Str) (fdP 60) (@PySem.FuncBody.stmts (fdB 60)) (fdS 60) (3 : @Nat) [] @PySem.Value.none @PySem.Value.none @PySem.Value.none (@PySem.Value.str (⟨#[108, 97, 119, 95, 112, 103, 48, 50, 56, 48, 95, 48, 49]⟩ : PySem.Str) (2419 : @Nat)) (@Option.none @Nat) (@PySem.Value.ref (108 : @Nat)) @PySem.Value.none (0 : @Nat))) (@List.toArray (@Option @PySem.Value) []))
noncomputable def o110_s68 (P : Params) : Obj := (@PySem.Obj.mk (@PySem.Value.type "tuple") (@Option.none @Nat) (@PySem.Data.seq (@List.toArray @PySem.Value []) (0 : @Nat)) (@List.toArray (@Option @PySem.Value) []))
noncomputable def o111_s68 (P : Params) : Obj := (@PySem.Obj.mk @PySem.Value.none (@Option.none @Nat) (@PySem.Data.fields (@List.toArray @PySem.Value [])) (@List.toArray (@Option @PySem.Value) []))
noncomputable def o112_s68 (P : Params) : Obj := (@PySem.Obj.mk (@PySem.Value.type "tuple") (@Option.none @Nat) (@PySem.Data.seq (@List.toArray @PySem.Value [(@PySem.Value.str (⟨#[115, 105, 103, 110]⟩ : PySem.Str) (2453 : @Nat))]) (0 : @Nat)) (@List.toArray (@Option @PySem.Value) []))
noncomputable def o113_s68 (P : Params) : Obj := (@PySem.Obj.mk (@PySem.Value.type "tuple") (@Option.none @Nat) (@PySem.Data.seq (@List.toArray @PySem.Value []) (0 : @Nat)) (@List.toArray (@Option @PySem.Value) []))
noncomputable def o114_s68 (P : Params) : Obj := (@PySem.Obj.mk @PySem.Value.none (@Option.none @Nat) (@PySem.Data.func (@PySem.FuncData.mk (⟨#[95, 108, 97, 119, 95, 116, 111, 108, 100]⟩ : PySem.Str) (⟨#[95, 108, 97, 119, 95, 116, 111, 108, 100]⟩ : PySem.Str) (fdP 61) (@PySem.FuncBody.stmts (fdB 61)) (fdS 61) (0 : @Nat) [] @PySem.Value.none @PySem.Value.none @PySem.Value.none @PySem.Value.none (@Option.none @Nat) @PySem.Value.none @PySem.Value.none (0 : @Nat))) (@List.toArray (@Option @PySem.Value) []))
noncomputable def o115_s68 (P : Params) : Obj := (@PySem.Obj.mk (@PySem.Value.type "code") (@Option.none @Nat) (@PySem.Data.fields (@List.toArray @PySem.Value [(@PySem.Value.str (⟨#[95, 108, 97, 119, 95, 116, 111, 108, 100]⟩ : PySem.Str) (2450 : @Nat)), (@PySem.Value.str (⟨#[95, 108, 97, 119, 95, 116, 111, 108, 100]⟩ : PySem.Str) (2451 : @Nat)), (@PySem.Value.str (⟨#[47, 99, 108, 97, 105, 109, 47, 99, 117, 116, 46, 112, 121]⟩ : PySem.Str) (2452 : @Nat)), (@PySem.Value.int (88 : @Int) (0 : @Nat)), (@PySem.Value.int (1 : @Int) (0 : @Nat)), (@PySem.Value.int (0 : @Int) (0 : @Nat)), (@PySem.Value.int (0 : @Int) (0 : @Nat)), (@PySem.Value.int (3 : @Int) (0 : @Nat)), (@PySem.Value.ref (110 : @Nat)), (@PySem.Value.bool @Bool.true), (@PySem.Value.int (181 : @Int) (0 : @Nat)), (@PySem.Value.ref (111 : @Nat)), @PySem.Value.none, (@PySem.Value.ref (112 : @Nat)), (@PySem.Value.ref (113 : @Nat)), (@PySem.Value.ref (114 : @Nat)), (@PySem.Value.int (2454 : @Int) (0 : @Nat)), (@PySem.Value.int (88 : @Int) (0 : @Nat)), (@PySem.Value.str (⟨#[47, 99, 108, 97, 105, 109, 47, 99, 117, 116, 46, 112, 121]⟩ : PySem.Str) (2455 : @Nat))])) (@List.toArray (@Option @PySem.Value) []))
noncomputable def o116_s68 (P : Params) : Obj := (@PySem.Obj.mk (@PySem.Value.type "function") (@Option.none @Nat) (@PySem.Data.func (@PySem.FuncData.mk (⟨#[95, 108, 97, 119, 95, 116, 111, 108, 100]⟩ : PySem.Str) (⟨#[95, 108, 97, 119, 95, 116, 111, 108, 100]⟩ : PySem.Str) (fdP 61) (@PySem.FuncBody.stmts (fdB 61)) (fdS 61) (3 : @Nat) [] @PySem.Value.none @PySem.Value.none @PySem.Value.none (@PySem.Value.str (⟨#[108, 97, 119, 95, 112, 103, 48, 50, 56, 48, 95, 48, 49]⟩ : PySem.Str) (2419 : @Nat)) (@Option.none @Nat) (@PySem.Value.ref (115 : @Nat)) @PySem.Value.none (0 : @Nat))) (@List.toArray (@Option @PySem.Value) []))
noncomputable def o117_s68 (P : Params) : Obj := (@PySem.Obj.mk (@PySem.Value.type "tuple") (@Option.none @Nat) (@PySem.Data.seq (@List.toArray @PySem.Value []) (0 : @Nat)) (@List.toArray (@Option @PySem.Value) []))
noncomputable def o118_s68 (P : Params) : Obj := (@PySem.Obj.mk @PySem.Value.none (@Option.none @Nat) (@PySem.Data.fields (@List.toArray @PySem.Value [])) (@List.toArray (@Option @PySem.Value) []))
noncomputable def o119_s68 (P : Params) : Obj := (@PySem.Obj.mk @PySem.Value.none (@Option.none @Nat) (@PySem.Data.func (@PySem.FuncData.mk (⟨#[95, 108, 97, 119, 95, 119, 97, 121, 115]⟩ : PySem.Str) (⟨#[95, 108, 97, 119, 95, 119, 97, 121, 115]⟩ : PySem.Str) (fdP 62) (@PySem.FuncBody.stmts (fdB 62)) (fdS 62) (0 : @Nat) [] @PySem.Value.none @PySem.Value.none @PySem.Value.none @PySem.Value.none (@Option.none @Nat) @PySem.Value.none @PySem.Value.none (0 : @Nat))) (@List.toArray (@Option @PySem.Value) []))
noncomputable def o120_s68 (P : Params) : Obj := (@PySem.Obj.mk (@PySem.Value.type "code") (@Option.none @Nat) (@PySem.Data.fields (@List.toArray @PySem.Value [(@PySem.Value.str (⟨#[95, 108, 97, 119, 95, 119, 97, 121, 115]⟩ : PySem.Str) (2457 : @Nat)), (@PySem.Value.str (⟨#[95, 108, 97, 119, 95, 119, 97, 121, 115]⟩ : PySem.Str) (2458 : @Nat)), (@PySem.Value.str (⟨#[47, 99, 108, 97, 105, 109, 47, 99, 117, 116, 46, 112, 121]⟩ : PySem.Str) (2459 : @Nat)), (@PySem.Value.int (90 : @Int) (0 : @Nat)), (@PySem.Value.int (2 : @Int) (0 : @Nat)), (@PySem.Value.int (0 : @Int) (0 : @Nat)), (@PySem.Value.int (0 : @Int) (0 : @Nat)), (@PySem.Value.int (3 : @Int) (0 : @Nat)), (@PySem.Value.ref (117 : @Nat)), (@PySem.Value.bool @Bool.true), (@PySem.Value.int (181 : @Int) (0 : @Nat)), (@PySem.Value.ref (118 : @Nat)), @PySem.Value.none, @PySem.Value.none, @PySem.Value.none, (@PySem.Value.ref (119 : @Nat)), (@PySem.Value.int (2460 : @Int) (0 : @Nat)), (@PySem.Value.int (90 : @Int) (0 : @Nat)), (@PySem.Value.str (⟨#[47, 99, 108, 97, 105, 109, 47, 99, 117, 116, 46, 112, 121]⟩ : PySem.Str) (2461 : @Nat))])) (@List.toArray (@Option @PySem.Value) []))
noncomputable def o121_s68 (P : Params) : Obj := (@PySem.Obj.mk (@PySem.Value.type "function") (@Option.none @Nat) (@PySem.Data.func (@PySem.FuncData.mk (⟨#[95, 108, 97, 119, 95, 119, 97, 121, 115]⟩ : PySem.Str) (⟨#[95, 108, 97, 119, 95, 119, 97, 121, 115]⟩ : PySem.Str) (fdP 62) (@PySem.FuncBody.stmts (fdB 62)) (fdS 62) (3 : @Nat) [] @PySem.Value.none @PySem.Value.none @PySem.Value.none (@PySem.Value.str (⟨#[108, 97, 119, 95, 112, 103, 48, 50, 56, 48, 95, 48, 49]⟩ : PySem.Str) (2419 : @Nat)) (@Option.none @Nat) (@PySem.Value.ref (120 : @Nat)) @PySem.Value.none (0 : @Nat))) (@List.toArray (@Option @PySem.Value) []))
noncomputable def o122_s68 (P : Params) : Obj := (@PySem.Obj.mk (@PySem.Value.type "tuple") (@Option.none @Nat) (@PySem.Data.seq (@List.toArray @PySem.Value []) (0 : @Nat)) (@List.toArray (@Option @PySem.Value) []))
noncomputable def o123_s68 (P : Params) : Obj := (@PySem.Obj.mk @PySem.Value.none (@Option.none @Nat) (@PySem.Data.fields (@List.toArray @PySem.Value [])) (@List.toArray (@Option @PySem.Value) []))
noncomputable def o124_s68 (P : Params) : Obj := (@PySem.Obj.mk @PySem.Value.none (@Option.none @Nat) (@PySem.Data.func (@PySem.FuncData.mk (⟨#[95, 108, 97, 119, 95, 116, 97, 98, 108, 101]⟩ : PySem.Str) (⟨#[95, 108, 97, 119, 95, 116, 97, 98, 108, 101]⟩ : PySem.Str) (fdP 58) (@PySem.FuncBody.stmts (fdB 63)) (fdS 63) (0 : @Nat) [] @PySem.Value.none @PySem.Value.none @PySem.Value.none @PySem.Value.none (@Option.none @Nat) @PySem.Value.none @PySem.Value.none (0 : @Nat))) (@List.toArray (@Option @PySem.Value) []))
noncomputable def o125_s68 (P : Params) : Obj := (@PySem.Obj.mk (@PySem.Value.type "code") (@Option.none @Nat) (@PySem.Data.fields (@List.toArray @PySem.Value [(@PySem.Value.str (⟨#[95, 108, 97, 119, 95, 116, 97, 98, 108, 101]⟩ : PySem.Str) (2463 : @Nat)), (@PySem.Value.str (⟨#[95, 108, 97, 119, 95, 116, 97, 98, 108, 101]⟩ : PySem.Str) (2464 : @Nat)), (@PySem.Value.str (⟨#[47, 99, 108, 97, 105, 109, 47, 99, 117, 116, 46, 112, 121]⟩ : PySem.Str) (2465 : @Nat)), (@PySem.Value.int (98 : @Int) (0 : @Nat)), (@PySem.Value.int (0 : @Int) (0 : @Nat)), (@PySem.Value.int (0 : @Int) (0 : @Nat)), (@PySem.Value.int (0 : @Int) (0 : @Nat)), (@PySem.Value.int (3 : @Int) (0 : @Nat)), (@PySem.Value.ref (122 : @Nat)), (@PySem.Value.bool @Bool.true), (@PySem.Value.int (181 : @Int) (0 : @Nat)), (@PySem.Value.ref (123 : @Nat)), @PySem.Value.none, @PySem.Value.none, @PySem.Value.none, (@PySem.Value.ref (124 : @Nat)), (@PySem.Value.int (2466 : @Int) (0 : @Nat)), (@PySem.Value.int (98 : @Int) (0 : @Nat)), (@PySem.Value.str (⟨#[47, 99, 108, 97, 105, 109, 47, 99, 117, 116, 46, 112, 121]⟩ : PySem.Str) (2467 : @Nat))])) (@List.toArray (@Option @PySem.Value) []))
noncomputable def o126_s68 (P : Params) : Obj := (@PySem.Obj.mk (@PySem.Value.type "function") (@Option.none @Nat) (@PySem.Data.func (@PySem.FuncData.mk (⟨#[95, 108, 97, 119, 95, 116, 97, 98, 108, 101]⟩ : PySem.Str) (⟨#[95, 108, 97, 119, 95, 116, 97, 98, 108, 101]⟩ : PySem.Str) (fdP 58) (@PySem.FuncBody.stmts (fdB 63)) (fdS 63) (3 : @Nat) [] @PySem.Value.none @PySem.Value.none @PySem.Value.none (@PySem.Value.str (⟨#[108, 97, 119, 95, 112, 103, 48, 50, 56, 48, 95, 48, 49]⟩ : PySem.Str) (2419 : @Nat)) (@Option.none @Nat) (@PySem.Value.ref (125 : @Nat)) @PySem.Value.none (0 : @Nat))) (@List.toArray (@Option @PySem.Value) []))
noncomputable def o127_s68 (P : Params) : Obj := (@PySem.Obj.mk (@PySem.Value.type "tuple") (@Option.none @Nat) (@PySem.Data.seq (@List.toArray @PySem.Value []) (0 : @Nat)) (@List.toArray (@Option @PySem.Value) []))
noncomputable def o128_s68 (P : Params) : Obj := (@PySem.Obj.mk @PySem.Value.none (@Option.none @Nat) (@PySem.Data.fields (@List.toArray @PySem.Value [])) (@List.toArray (@Option @PySem.Value) []))
noncomputable def o129_s68 (P : Params) : Obj := (@PySem.Obj.mk (@PySem.Value.type "tuple") (@Option.none @Nat) (@PySem.Data.seq (@List.toArray @PySem.Value [(@PySem.Value.str (⟨#[116, 101, 120, 116]⟩ : PySem.Str) (2472 : @Nat)), (@PySem.Value.str (⟨#[116, 97, 98, 108, 101]⟩ : PySem.Str) (2473 : @Nat)), (@PySem.Value.str (⟨#[114, 111, 119]⟩ : PySem.Str) (2474 : @Nat)), (@PySem.Value.str (⟨#[112, 105, 101, 99, 101]⟩ : PySem.Str) (2475 : @Nat))]) (0 : @Nat)) (@List.toArray (@Option @PySem.Value) []))
noncomputable def o130_s68 (P : Params) : Obj := (@PySem.Obj.mk (@PySem.Value.type "tuple") (@Option.none @Nat) (@PySem.Data.seq (@List.toArray @PySem.Value []) (0 : @Nat)) (@List.toArray (@Option @PySem.Value) []))
noncomputable def o131_s68 (P : Params) : Obj := (@PySem.Obj.mk @PySem.Value.none (@Option.none @Nat) (@PySem.Data.func (@PySem.FuncData.mk (⟨#[95, 108, 97, 119, 95, 114, 101, 97, 100]⟩ : PySem.Str) (⟨#[95, 108, 97, 119, 95, 114, 101, 97, 100]⟩ : PySem.Str) (fdP 64) (@PySem.FuncBody.stmts (fdB 64)) (fdS 64) (0 : @Nat) [] @PySem.Value.none @PySem.Value.none @PySem.Value.none @PySem.Value.none (@Option.none @Nat) @PySem.Value.none @PySem.Value.none (0 : @Nat))) (@List.toArray (@Option @PySem.Value) []))
noncomputable def o132_s68 (P : Params) : Obj := (@PySem.Obj.mk (@PySem.Value.type "code") (@Option.none @Nat) (@PySem.Data.fields (@List.toArray @PySem.Value [(@PySem.Value.str (⟨#[95, 108, 97, 119, 95, 114, 101, 97, 100]⟩ : PySem.Str) (2469 : @Nat)), (@PySem.Value.str (⟨#[95, 108, 97, 119, 95, 114, 101, 97, 100]⟩ : PySem.Str) (2470 : @Nat)), (@PySem.Value.str (⟨#[47, 99, 108, 97, 105, 109, 47, 99, 117, 116, 46, 112, 121]⟩ : PySem.Str) (2471 : @Nat)), (@PySem.Value.int (103 : @Int) (0 : @Nat)), (@PySem.Value.int (2 : @Int) (0 : @Nat)), (@PySem.Value.int (0 : @Int) (0 : @Nat)), (@PySem.Value.int (0 : @Int) (0 : @Nat)), (@PySem.Value.int (3 : @Int) (0 : @Nat)), (@PySem.Value.ref (127 : @Nat)), (@PySem.Value.bool @Bool.true), (@PySem.Value.int (181 : @Int) (0 : @Nat)), (@PySem.Value.ref (128 : @Nat)), @PySem.Value.none, (@PySem.Value.ref (129 : @Nat)), (@PySem.Value.ref (130 : @Nat)), (@PySem.Value.ref (131 : @Nat)), (@PySem.Value.int (2476 : @Int) (0 : @Nat)), (@PySem.Value.int (103 : @Int) (0 : @Nat)), (@PySem.Value.str (⟨#[47, 99, 108, 97, 105, 109, 47, 99, 117, 116, 46, 112, 121]⟩ : PySem.Str) (2477 : @Nat))])) (@List.toArray (@Option @PySem.Value) []))
noncomputable def o133_s68 (P : Params) : Obj := (@PySem.Obj.mk (@PySem.Value.type "function") (@Option.none @Nat) (@PySem.Data.func (@PySem.FuncData.mk (⟨#[95, 108, 97, 119, 95, 114, 101, 97, 100]⟩ : PySem.Str) (⟨#[95, 108, 97, 119, 95, 114, 101, 97, 100]⟩ : PySem.Str) (fdP 64) (@PySem.FuncBody.stmts (fdB 64)) (fdS 64) (3 : @Nat) [] @PySem.Value.none @PySem.Value.none @PySem.Value.none (@PySem.Value.str (⟨#[108, 97, 119, 95, 112, 103, 48, 50, 56, 48, 95, 48, 49]⟩ : PySem.Str) (2419 : @Nat)) (@Option.none @Nat) (@PySem.Value.ref (132 : @Nat)) @PySem.Value.none (0 : @Nat))) (@List.toArray (@Option @PySem.Value) []))
noncomputable def o134_s68 (P : Params) : Obj := (@PySem.Obj.mk (@PySem.Value.type "tuple") (@Option.none @Nat) (@PySem.Data.seq (@List.toArray @PySem.Value []) (0 : @Nat)) (@List.toArray (@Option @PySem.Value) []))
noncomputable def o135_s68 (P : Params) : Obj := (@PySem.Obj.mk @PySem.Value.none (@Option.none @Nat) (@PySem.Data.fields (@List.toArray @PySem.Value [])) (@List.toArray (@Option @PySem.Value) []))
noncomputable def o136_s68 (P : Params) : Obj := (@PySem.Obj.mk (@PySem.Value.type "tuple") (@Option.none @Nat) (@PySem.Data.seq (@List.toArray @PySem.Value [(@PySem.Value.str (⟨#[119, 97, 121, 115]⟩ : PySem.Str) (2482 : @Nat)), (@PySem.Value.str (⟨#[116, 97, 98, 108, 101]⟩ : PySem.Str) (2483 : @Nat)), (@PySem.Value.str (⟨#[116, 111, 116, 97, 108, 115]⟩ : PySem.Str) (2484 : @Nat)), (@PySem.Value.str (⟨#[116, 101, 120, 116]⟩ : PySem.Str) (2485 : @Nat)), (@PySem.Value.str (⟨#[119, 111, 114, 116, 104]⟩ : PySem.Str) (2486 : @Nat)), (@PySem.Value.str (⟨#[114, 111, 119]⟩ : PySem.Str) (2487 : @Nat))]) (0 : @Nat)) (@List.toArray (@Option @PySem.Value) []))
noncomputable def o137_s68 (P : Params) : Obj := (@PySem.Obj.mk (@PySem.Value.type "tuple") (@Option.none @Nat) (@PySem.Data.seq (@List.toArray @PySem.Value []) (0 : @Nat)) (@List.toArray (@Option @PySem.Value) []))
noncomputable def o138_s68 (P : Params) : Obj := (@PySem.Obj.mk @PySem.Value.none (@Option.none @Nat) (@PySem.Data.func (@PySem.FuncData.mk (⟨#[95, 108, 97, 119, 95, 116, 111, 116, 97, 108, 115]⟩ : PySem.Str) (⟨#[95, 108, 97, 119, 95, 116, 111, 116, 97, 108, 115]⟩ : PySem.Str) (fdP 65) (@PySem.FuncBody.stmts (fdB 65)) (fdS 65) (0 : @Nat) [] @PySem.Value.none @PySem.Value.none @PySem.Value.none @PySem.Value.none (@Option.none @Nat) @PySem.Value.none @PySem.Value.none (0 : @Nat))) (@List.toArray (@Option @PySem.Value) []))
noncomputable def o139_s68 (P : Params) : Obj := (@PySem.Obj.mk (@PySem.Value.type "code") (@Option.none @Nat) (@PySem.Data.fields (@List.toArray @PySem.Value [(@PySem.Value.str (⟨#[95, 108, 97, 119, 95, 116, 111, 116, 97, 108, 115]⟩ : PySem.Str) (2479 : @Nat)), (@PySem.Value.str (⟨#[95, 108, 97, 119, 95, 116, 111, 116, 97, 108, 115]⟩ : PySem.Str) (2480 : @Nat)), (@PySem.Value.str (⟨#[47, 99, 108, 97, 105, 109, 47, 99, 117, 116, 46, 112, 121]⟩ : PySem.Str) (2481 : @Nat)), (@PySem.Value.int (113 : @Int) (0 : @Nat)), (@PySem.Value.int (2 : @Int) (0 : @Nat)), (@PySem.Value.int (0 : @Int) (0 : @Nat)), (@PySem.Value.int (0 : @Int) (0 : @Nat)), (@PySem.Value.int (3 : @Int) (0 : @Nat)), (@PySem.Value.ref (134 : @Nat)), (@PySem.Value.bool @Bool.true), (@PySem.Value.int (181 : @Int) (0 : @Nat)), (@PySem.Value.ref (135 : @Nat)), @PySem.Value.none, (@PySem.Value.ref (136 : @Nat)), (@PySem.Value.ref (137 : @Nat)), (@PySem.Value.ref (138 : @Nat)), (@PySem.Value.int (2488 : @Int) (0 : @Nat)), (@PySem.Value.int (113 : @Int) (0 : @Nat)), (@PySem.Value.str (⟨#[47, 99, 108, 97, 105, 109, 47, 99, 117, 116, 46, 112, 121]⟩ : PySem.Str) (2489 : @Nat))])) (@List.toArray (@Option @PySem.Value) []))
noncomputable def o140_s68 (P : Params) : Obj := (@PySem.Obj.mk (@PySem.Value.type "function") (@Option.none @Nat) (@PySem.Data.func (@PySem.FuncData.mk (⟨#[95, 108, 97, 119, 95, 116, 111, 116, 97, 108, 115]⟩ : PySem.Str) (⟨#[95, 108, 97, 119, 95, 116, 111, 116, 97, 108, 115]⟩ : PySem.Str) (fdP 65) (@PySem.FuncBody.stmts (fdB 65)) (fdS 65) (3 : @Nat) [] @PySem.Value.none @PySem.Value.none @PySem.Value.none (@PySem.Value.str (⟨#[108, 97, 119, 95, 112, 103, 48, 50, 56, 48, 95, 48, 49]⟩ : PySem.Str) (2419 : @Nat)) (@Option.none @Nat) (@PySem.Value.ref (139 : @Nat)) @PySem.Value.none (0 : @Nat))) (@List.toArray (@Option @PySem.Value) []))
noncomputable def o141_s68 (P : Params) : Obj := (@PySem.Obj.mk (@PySem.Value.type "tuple") (@Option.none @Nat) (@PySem.Data.seq (@List.toArray @PySem.Value []) (0 : @Nat)) (@List.toArray (@Option @PySem.Value) []))
noncomputable def o142_s68 (P : Params) : Obj := (@PySem.Obj.mk @PySem.Value.none (@Option.none @Nat) (@PySem.Data.fields (@List.toArray @PySem.Value [])) (@List.toArray (@Option @PySem.Value) []))
noncomputable def o143_s68 (P : Params) : Obj := (@PySem.Obj.mk (@PySem.Value.type "tuple") (@Option.none @Nat) (@PySem.Data.seq (@List.toArray @PySem.Value [(@PySem.Value.str (⟨#[115, 121, 109, 98, 111, 108]⟩ : PySem.Str) (2494 : @Nat)), (@PySem.Value.str (⟨#[111, 112, 101, 114, 97, 116, 111, 114, 115]⟩ : PySem.Str) (2495 : @Nat)), (@PySem.Value.str (⟨#[112, 108, 97, 105, 110]⟩ : PySem.Str) (2496 : @Nat))]) (0 : @Nat)) (@List.toArray (@Option @PySem.Value) []))
noncomputable def o144_s68 (P : Params) : Obj := (@PySem.Obj.mk (@PySem.Value.type "tuple") (@Option.none @Nat) (@PySem.Data.seq (@List.toArray @PySem.Value []) (0 : @Nat)) (@List.toArray (@Option @PySem.Value) []))
noncomputable def o145_s68 (P : Params) : Obj := (@PySem.Obj.mk @PySem.Value.none (@Option.none @Nat) (@PySem.Data.func (@PySem.FuncData.mk (⟨#[95, 108, 97, 119, 95, 119, 114, 105, 116, 116, 101, 110]⟩ : PySem.Str) (⟨#[95, 108, 97, 119, 95, 119, 114, 105, 116, 116, 101, 110]⟩ : PySem.Str) (fdP 66) (@PySem.FuncBody.stmts (fdB 66)) (fdS 66) (0 : @Nat) [] @PySem.Value.none @PySem.Value.none @PySem.Value.none @PySem.Value.none (@Option.none @Nat) @PySem.Value.none @PySem.Value.none (0 : @Nat))) (@List.toArray (@Option @PySem.Value) []))
noncomputable def o146_s68 (P : Params) : Obj := (@PySem.Obj.mk (@PySem.Value.type "code") (@Option.none @Nat) (@PySem.Data.fields (@List.toArray @PySem.Value [(@PySem.Value.str (⟨#[95, 108, 97, 119, 95, 119, 114, 105, 116, 116, 101, 110]⟩ : PySem.Str) (2491 : @Nat)), (@PySem.Value.str (⟨#[95, 108, 97, 119, 95, 119, 114, 105, 116, 116, 101, 110]⟩ : PySem.Str) (2492 : @Nat)), (@PySem.Value.str (⟨#[47, 99, 108, 97, 105, 109, 47, 99, 117, 116, 46, 112, 121]⟩ : PySem.Str) (2493 : @Nat)), (@PySem.Value.int (119 : @Int) (0 : @Nat)), (@PySem.Value.int (2 : @Int) (0 : @Nat)), (@PySem.Value.int (0 : @Int) (0 : @Nat)), (@PySem.Value.int (0 : @Int) (0 : @Nat)), (@PySem.Value.int (3 : @Int) (0 : @Nat)), (@PySem.Value.ref (141 : @Nat)), (@PySem.Value.bool @Bool.true), (@PySem.Value.int (181 : @Int) (0 : @Nat)), (@PySem.Value.ref (142 : @Nat)), @PySem.Value.none, (@PySem.Value.ref (143 : @Nat)), (@PySem.Value.ref (144 : @Nat)), (@PySem.Value.ref (145 : @Nat)), (@PySem.Value.int (2497 : @Int) (0 : @Nat)), (@PySem.Value.int (119 : @Int) (0 : @Nat)), (@PySem.Value.str (⟨#[47, 99, 108, 97, 105, 109, 47, 99, 117, 116, 46, 112, 121]⟩ : PySem.Str) (2498 : @Nat))])) (@List.toArray (@Option @PySem.Value) []))
noncomputable def o147_s68 (P : Params) : Obj := (@PySem.Obj.mk (@PySem.Value.type "function") (@Option.none @Nat) (@PySem.Data.func (@PySem.FuncData.mk (⟨#[95, 108, 97, 119, 95, 119, 114, 105, 116, 116, 101, 110]⟩ : PySem.Str) (⟨#[95, 108, 97, 119, 95, 119, 114, 105, 116, 116, 101, 110]⟩ : PySem.Str) (fdP 66) (@PySem.FuncBody.stmts (fdB 66)) (fdS 66) (3 : @Nat) [] @PySem.Value.none @PySem.Value.none @PySem.Value.none (@PySem.Value.str (⟨#[108, 97, 119, 95, 112, 103, 48, 50, 56, 48, 95, 48, 49]⟩ : PySem.Str) (2419 : @Nat)) (@Option.none @Nat) (@PySem.Value.ref (146 : @Nat)) @PySem.Value.none (0 : @Nat))) (@List.toArray (@Option @PySem.Value) []))
noncomputable def o148_s68 (P : Params) : Obj := (@PySem.Obj.mk (@PySem.Value.type "tuple") (@Option.none @Nat) (@PySem.Data.seq (@List.toArray @PySem.Value []) (0 : @Nat)) (@List.toArray (@Option @PySem.Value) []))
noncomputable def o149_s68 (P : Params) : Obj := (@PySem.Obj.mk @PySem.Value.none (@Option.none @Nat) (@PySem.Data.fields (@List.toArray @PySem.Value [])) (@List.toArray (@Option @PySem.Value) []))
noncomputable def o150_s68 (P : Params) : Obj := (@PySem.Obj.mk (@PySem.Value.type "tuple") (@Option.none @Nat) (@PySem.Data.seq (@List.toArray @PySem.Value [(@PySem.Value.str (⟨#[112, 105, 101, 99, 101, 115]⟩ : PySem.Str) (2503 : @Nat)), (@PySem.Value.str (⟨#[112, 114, 105, 99, 101, 115]⟩ : PySem.Str) (2504 : @Nat)), (@PySem.Value.str (⟨#[107, 110, 111, 119, 110]⟩ : PySem.Str) (2505 : @Nat)), (@PySem.Value.str (⟨#[108, 97, 105, 100]⟩ : PySem.Str) (2506 : @Nat)), (@PySem.Value.str (⟨#[111, 117, 116]⟩ : PySem.Str) (2507 : @Nat)), (@PySem.Value.str (⟨#[97, 116]⟩ : PySem.Str) (2508 : @Nat)), (@PySem.Value.str (⟨#[107]⟩ : PySem.Str) (2509 : @Nat)), (@PySem.Value.str (⟨#[111, 110, 101]⟩ : PySem.Str) (2510 : @Nat)), (@PySem.Value.str (⟨#[116, 119, 111]⟩ : PySem.Str) (2511 : @Nat)), (@PySem.Value.str (⟨#[112, 114, 105, 99, 101]⟩ : PySem.Str) (2512 : @Nat))]) (0 : @Nat)) (@List.toArray (@Option @PySem.Value) []))
noncomputable def o151_s68 (P : Params) : Obj := (@PySem.Obj.mk (@PySem.Value.type "tuple") (@Option.none @Nat) (@PySem.Data.seq (@List.toArray @PySem.Value []) (0 : @Nat)) (@List.toArray (@Option @PySem.Value) []))
noncomputable def o152_s68 (P : Params) : Obj := (@PySem.Obj.mk @PySem.Value.none (@Option.none @Nat) (@PySem.Data.func (@PySem.FuncData.mk (⟨#[95, 108, 97, 119, 95, 119, 111, 114, 116, 104]⟩ : PySem.Str) (⟨#[95, 108, 97, 119, 95, 119, 111, 114, 116, 104]⟩ : PySem.Str) (fdP 67) (@PySem.FuncBody.stmts (fdB 67)) (fdS 67) (0 : @Nat) [] @PySem.Value.none @PySem.Value.none @PySem.Value.none @PySem.Value.none (@Option.none @Nat) @PySem.Value.none @PySem.Value.none (0 : @Nat))) (@List.toArray (@Option @PySem.Value) []))
noncomputable def o153_s68 (P : Params) : Obj := (@PySem.Obj.mk (@PySem.Value.type "code") (@Option.none @Nat) (@PySem.Data.fields (@List.toArray @PySem.Value [(@PySem.Value.str (⟨#[95, 108, 97, 119, 95, 119, 111, 114, 116, 104]⟩ : PySem.Str) (2500 : @Nat)), (@PySem.Value.str (⟨#[95, 108, 97, 119, 95, 119, 111, 114, 116, 104]⟩ : PySem.Str) (2501 : @Nat)), (@PySem.Value.str (⟨#[47, 99, 108, 97, 105, 109, 47, 99, 117, 116, 46, 112, 121]⟩ : PySem.Str) (2502 : @Nat)), (@PySem.Value.int (124 : @Int) (0 : @Nat)), (@PySem.Value.int (3 : @Int) (0 : @Nat)), (@PySem.Value.int (0 : @Int) (0 : @Nat)), (@PySem.Value.int (0 : @Int) (0 : @Nat)), (@PySem.Value.int (3 : @Int) (0 : @Nat)), (@PySem.Value.ref (148 : @Nat)), (@PySem.Value.bool @Bool.true), (@PySem.Value.int (181 : @Int) (0 : @Nat)), (@PySem.Value.ref (149 : @Nat)), @PySem.Value.none, (@PySem.Value.ref (150 : @Nat)), (@PySem.Value.ref (151 : @Nat)), (@PySem.Value.ref (152 : @Nat)), (@PySem.Value.int (2513 : @Int) (0 : @Nat)), (@PySem.Value.int (124 : @Int) (0 : @Nat)), (@PySem.Value.str (⟨#[47, 99, 108, 97, 105, 109, 47, 99, 117, 116, 46, 112, 121]⟩ : PySem.Str) (2514 : @Nat))])) (@List.toArray (@Option @PySem.Value) []))
noncomputable def o154_s68 (P : Params) : Obj := (@PySem.Obj.mk (@PySem.Value.type "function") (@Option.none @Nat) (@PySem.Data.func (@PySem.FuncData.mk (⟨#[95, 108, 97, 119, 95, 119, 111, 114, 116, 104]⟩ : PySem.Str) (⟨#[95, 108, 97, 119, 95, 119, 111, 114, 116, 104]⟩ : PySem.Str) (fdP 67) (@PySem.FuncBody.stmts (fdB 67)) (fdS 67) (3 : @Nat) [] @PySem.Value.none @PySem.Value.none @PySem.Value.none (@PySem.Value.str (⟨#[108, 97, 119, 95, 112, 103, 48, 50, 56, 48, 95, 48, 49]⟩ : PySem.Str) (2419 : @Nat)) (@Option.none @Nat) (@PySem.Value.ref (153 : @Nat)) @PySem.Value.none (0 : @Nat))) (@List.toArray (@Option @PySem.Value) []))
noncomputable def o155_s68 (P : Params) : Obj := (@PySem.Obj.mk (@PySem.Value.type "tuple") (@Option.none @Nat) (@PySem.Data.seq (@List.toArray @PySem.Value []) (0 : @Nat)) (@List.toArray (@Option @PySem.Value) []))
noncomputable def o156_s68 (P : Params) : Obj := (@PySem.Obj.mk @PySem.Value.none (@Option.none @Nat) (@PySem.Data.fields (@List.toArray @PySem.Value [])) (@List.toArray (@Option @PySem.Value) []))
noncomputable def o157_s68 (P : Params) : Obj := (@PySem.Obj.mk @PySem.Value.none (@Option.none @Nat) (@PySem.Data.func (@PySem.FuncData.mk (⟨#[108, 97, 119]⟩ : PySem.Str) (⟨#[108, 97, 119]⟩ : PySem.Str) (fdP 68) (@PySem.FuncBody.stmts (fdB 68)) (fdS 68) (0 : @Nat) [] @PySem.Value.none @PySem.Value.none @PySem.Value.none @PySem.Value.none (@Option.none @Nat) @PySem.Value.none @PySem.Value.none (0 : @Nat))) (@List.toArray (@Option @PySem.Value) []))
noncomputable def o158_s68 (P : Params) : Obj := (@PySem.Obj.mk (@PySem.Value.type "code") (@Option.none @Nat) (@PySem.Data.fields (@List.toArray @PySem.Value [(@PySem.Value.str (⟨#[108, 97, 119]⟩ : PySem.Str) (2516 : @Nat)), (@PySem.Value.str (⟨#[108, 97, 119]⟩ : PySem.Str) (2517 : @Nat)), (@PySem.Value.str (⟨#[47, 99, 108, 97, 105, 109, 47, 99, 117, 116, 46, 112, 121]⟩ : PySem.Str) (2518 : @Nat)), (@PySem.Value.int (138 : @Int) (0 : @Nat)), (@PySem.Value.int (1 : @Int) (0 : @Nat)), (@PySem.Value.int (0 : @Int) (0 : @Nat)), (@PySem.Value.int (0 : @Int) (0 : @Nat)), (@PySem.Value.int (3 : @Int) (0 : @Nat)), (@PySem.Value.ref (155 : @Nat)), (@PySem.Value.bool @Bool.true), (@PySem.Value.int (181 : @Int) (0 : @Nat)), (@PySem.Value.ref (156 : @Nat)), @PySem.Value.none, @PySem.Value.none, @PySem.Value.none, (@PySem.Value.ref (157 : @Nat)), (@PySem.Value.int (2519 : @Int) (0 : @Nat)), (@PySem.Value.int (138 : @Int) (0 : @Nat)), (@PySem.Value.str (⟨#[47, 99, 108, 97, 105, 109, 47, 99, 117, 116, 46, 112, 121]⟩ : PySem.Str) (2520 : @Nat))])) (@List.toArray (@Option @PySem.Value) []))
noncomputable def o159_s68 (P : Params) : Obj := (@PySem.Obj.mk (@PySem.Value.type "function") (@Option.none @Nat) (@PySem.Data.func (@PySem.FuncData.mk (⟨#[108, 97, 119]⟩ : PySem.Str) (⟨#[108, 97, 119]⟩ : PySem.Str) (fdP 68) (@PySem.FuncBody.stmts (fdB 68)) (fdS 68) (3 : @Nat) [] @PySem.Value.none @PySem.Value.none @PySem.Value.none (@PySem.Value.str (⟨#[108, 97, 119, 95, 112, 103, 48, 50, 56, 48, 95, 48, 49]⟩ : PySem.Str) (2419 : @Nat)) (@Option.none @Nat) (@PySem.Value.ref (158 : @Nat)) @PySem.Value.none (0 : @Nat))) (@List.toArray (@Option @PySem.Value) []))
noncomputable def t_pre (P : Params) : BT := (.node (o0_pre P) (.node (o1_pre P) (.node (o3_pre P) (.node (o7_pre P) .nil .nil) (.node (o11_pre P) .nil .nil)) (.node (o5_pre P) (.node (o9_pre P) .nil .nil) (.node (o13_pre P) .nil .nil))) (.node (o2_pre P) (.node (o4_pre P) (.node (o8_pre P) .nil .nil) (.node (o12_pre P) .nil .nil)) (.node (o6_pre P) (.node (o10_pre P) .nil .nil) (.node (o14_pre P) .nil .nil))))
noncomputable def U_pre (w : World) (os : OsState) : SharedT := ⟨t_pre w.params, 15, lifeV, #[], drawnV, 187, os⟩
noncomputable def t_block (P : Params) : BT := (.node (o0_pre P) (.node (o1_pre P) (.node (o3_pre P) (.node (o7_pre P) .nil .nil) (.node (o11_pre P) .nil .nil)) (.node (o5_pre P) (.node (o9_pre P) .nil .nil) (.node (o13_pre P) .nil .nil))) (.node (o2_pre P) (.node (o4_pre P) (.node (o8_pre P) .nil .nil) (.node (o12_pre P) .nil .nil)) (.node (o6_pre P) (.node (o10_pre P) .nil .nil) (.node (o14_pre P) .nil .nil))))
noncomputable def U_block (w : World) (os : OsState) : SharedT := ⟨t_block w.params, 15, lifeV, #[], drawnV, 187, os⟩
noncomputable def t_s0 (P : Params) : BT := (.node (o0_pre P) (.node (o1_pre P) (.node (o3_s0 P) (.node (o7_pre P) .nil .nil) (.node (o11_pre P) .nil .nil)) (.node (o5_pre P) (.node (o9_pre P) .nil .nil) (.node (o13_pre P) .nil .nil))) (.node (o2_pre P) (.node (o4_pre P) (.node (o8_pre P) .nil .nil) (.node (o12_pre P) .nil .nil)) (.node (o6_pre P) (.node (o10_pre P) .nil .nil) (.node (o14_pre P) .nil .nil))))
noncomputable def U_s0 (w : World) (os : OsState) : SharedT := ⟨t_s0 w.params, 15, lifeV, #[], drawnV, 189, os⟩
noncomputable def t_s1 (P : Params) : BT := (.node (o0_pre P) (.node (o1_pre P) (.node (o3_s1 P) (.node (o7_pre P) (.node (o15_s1 P) .nil .nil) (.node (o23_s1 P) .nil .nil)) (.node (o11_pre P) (.node (o19_s1 P) .nil .nil) .nil)) (.node (o5_pre P) (.node (o9_pre P) (.node (o17_s1 P) .nil .nil) (.node (o25_s1 P) .nil .nil)) (.node (o13_pre P) (.node (o21_s1 P) .nil .nil) .nil))) (.node (o2_pre P) (.node (o4_pre P) (.node (o8_pre P) (.node (o16_s1 P) .nil .nil) (.node (o24_s1 P) .nil .nil)) (.node (o12_pre P) (.node (o20_s1 P) .nil .nil) .nil)) (.node (o6_pre P) (.node (o10_pre P) (.node (o18_s1 P) .nil .nil) .nil) (.node (o14_pre P) (.node (o22_s1 P) .nil .nil) .nil))))
noncomputable def U_s1 (w : World) (os : OsState) : SharedT := ⟨t_s1 w.params, 26, lifeV, #[], drawnV, 249, os⟩
noncomputable def t_s2 (P : Params) : BT := (.node (o0_pre P) (.node (o1_pre P) (.node (o3_s2 P) (.node (o7_pre P) (.node (o15_s1 P) (.node (o31_s2 P) .nil .nil) .nil) (.node (o23_s1 P) .nil .nil)) (.node (o11_pre P) (.node (o19_s1 P) .nil .nil) (.node (o27_s2 P) .nil .nil))) (.node (o5_pre P) (.node (o9_pre P) (.node (o17_s1 P) .nil .nil) (.node (o25_s1 P) .nil .nil)) (.node (o13_pre P) (.node (o21_s1 P) .nil .nil) (.node (o29_s2 P) .nil .nil)))) (.node (o2_pre P) (.node (o4_pre P) (.node (o8_pre P) (.node (o16_s1 P) (.node (o32_s2 P) .nil .nil) .nil) (.node (o24_s1 P) .nil .nil)) (.node (o12_s2 P) (.node (o20_s1 P) .nil .nil) (.node (o28_s2 P) .nil .nil))) (.node (o6_pre P) (.node (o10_pre P) (.node (o18_s1 P) .nil .nil) (.node (o26_s2 P) .nil .nil)) (.node (o14_pre P) (.node (o22_s1 P) .nil .nil) (.node (o30_s2 P) .nil .nil)))))
noncomputable def U_s2 (w : World) (os : OsState) : SharedT := ⟨t_s2 w.params, 33, lifeV, #[], drawnV, 256, os⟩
noncomputable def t_s3 (P : Params) : BT := (.node (o0_pre P) (.node (o1_pre P) (.node (o3_s3 P) (.node (o7_pre P) (.node (o15_s1 P) (.node (o31_s2 P) (.node (o63_s3 P) .nil .nil) .nil) (.node (o47_s3 P) .nil .nil)) (.node (o23_s1 P) (.node (o39_s3 P) (.node (o71_s3 P) .nil .nil) .nil) (.node (o55_s3 P) .nil .nil))) (.node (o11_pre P) (.node (o19_s1 P) (.node (o35_s3 P) (.node (o67_s3 P) .nil .nil) .nil) (.node (o51_s3 P) .nil .nil)) (.node (o27_s2 P) (.node (o43_s3 P) .nil .nil) (.node (o59_s3 P) .nil .nil)))) (.node (o5_pre P) (.node (o9_pre P) (.node (o17_s1 P) (.node (o33_s3 P) (.node (o65_s3 P) .nil .nil) .nil) (.node (o49_s3 P) .nil .nil)) (.node (o25_s1 P) (.node (o41_s3 P) .nil .nil) (.node (o57_s3 P) .nil .nil))) (.node (o13_pre P) (.node (o21_s1 P) (.node (o37_s3 P) (.node (o69_s3 P) .nil .nil) .nil) (.node (o53_s3 P) .nil .nil)) (.node (o29_s2 P) (.node (o45_s3 P) .nil .nil) (.node (o61_s3 P) .nil .nil))))) (.node (o2_pre P) (.node (o4_pre P) (.node (o8_pre P) (.node (o16_s1 P) (.node (o32_s2 P) (.node (o64_s3 P) .nil .nil) .nil) (.node (o48_s3 P) .nil .nil)) (.node (o24_s1 P) (.node (o40_s3 P) .nil .nil) (.node (o56_s3 P) .nil .nil))) (.node (o12_s2 P) (.node (o20_s1 P) (.node (o36_s3 P) (.node (o68_s3 P) .nil .nil) .nil) (.node (o52_s3 P) .nil .nil)) (.node (o28_s2 P) (.node (o44_s3 P) .nil .nil) (.node (o60_s3 P) .nil .nil)))) (.node (o6_pre P) (.node (o10_pre P) (.node (o18_s1 P) (.node (o34_s3 P) (.node (o66_s3 P) .nil .nil) .nil) (.node (o50_s3 P) .nil .nil)) (.node (o26_s2 P) (.node (o42_s3 P) .nil .nil) (.node (o58_s3 P) .nil .nil))) (.node (o14_pre P) (.node (o22_s1 P) (.node (o38_s3 P) (.node (o70_s3 P) .nil .nil) .nil) (.node (o54_s3 P) .nil .nil)) (.node (o30_s2 P) (.node (o46_s3 P) .nil .nil) (.node (o62_s3 P) .nil .nil))))))
noncomputable def U_s3 (w : World) (os : OsState) : SharedT := ⟨t_s3 w.params, 72, lifeV, #[], drawnV, 2207, os⟩
noncomputable def t_s45 (P : Params) : BT := (.node (o0_pre P) (.node (o1_pre P) (.node (o3_s45 P) (.node (o7_pre P) (.node (o15_s1 P) (.node (o31_s2 P) (.node (o63_s3 P) .nil .nil) .nil) (.node (o47_s3 P) .nil .nil)) (.node (o23_s1 P) (.node (o39_s3 P) (.node (o71_s3 P) .nil .nil) .nil) (.node (o55_s3 P) .nil .nil))) (.node (o11_pre P) (.node (o19_s1 P) (.node (o35_s3 P) (.node (o67_s3 P) .nil .nil) .nil) (.node (o51_s3 P) .nil .nil)) (.node (o27_s2 P) (.node (o43_s3 P) (.node (o75_s45 P) .nil .nil) .nil) (.node (o59_s3 P) .nil .nil)))) (.node (o5_pre P) (.node (o9_pre P) (.node (o17_s1 P) (.node (o33_s3 P) (.node (o65_s3 P) .nil .nil) .nil) (.node (o49_s3 P) .nil .nil)) (.node (o25_s1 P) (.node (o41_s3 P) (.node (o73_s45 P) .nil .nil) .nil) (.node (o57_s3 P) .nil .nil))) (.node (o13_pre P) (.node (o21_s1 P) (.node (o37_s3 P) (.node (o69_s3 P) .nil .nil) .nil) (.node (o53_s3 P) .nil .nil)) (.node (o29_s2 P) (.node (o45_s3 P) (.node (o77_s45 P) .nil .nil) .nil) (.node (o61_s3 P) .nil .nil))))) (.node (o2_pre P) (.node (o4_pre P) (.node (o8_pre P) (.node (o16_s1 P) (.node (o32_s2 P) (.node (o64_s3 P) .nil .nil) .nil) (.node (o48_s3 P) .nil .nil)) (.node (o24_s1 P) (.node (o40_s3 P) (.node (o72_s45 P) .nil .nil) .nil) (.node (o56_s3 P) .nil .nil))) (.node (o12_s45 P) (.node (o20_s1 P) (.node (o36_s3 P) (.node (o68_s3 P) .nil .nil) .nil) (.node (o52_s3 P) .nil .nil)) (.node (o28_s2 P) (.node (o44_s3 P) (.node (o76_s45 P) .nil .nil) .nil) (.node (o60_s3 P) .nil .nil)))) (.node (o6_pre P) (.node (o10_pre P) (.node (o18_s1 P) (.node (o34_s3 P) (.node (o66_s3 P) .nil .nil) .nil) (.node (o50_s3 P) .nil .nil)) (.node (o26_s2 P) (.node (o42_s3 P) (.node (o74_s45 P) .nil .nil) .nil) (.node (o58_s3 P) .nil .nil))) (.node (o14_pre P) (.node (o22_s1 P) (.node (o38_s3 P) (.node (o70_s3 P) .nil .nil) .nil) (.node (o54_s3 P) .nil .nil)) (.node (o30_s2 P) (.node (o46_s3 P) (.node (o78_s45 P) .nil .nil) .nil) (.node (o62_s3 P) .nil .nil))))))
noncomputable def U_s45 (w : World) (os : OsState) : SharedT := ⟨t_s45 w.params, 79, lifeV, #[], drawnV, 2297, os⟩
noncomputable def t_s54 (P : Params) : BT := (.node (o0_pre P) (.node (o1_pre P) (.node (o3_s54 P) (.node (o7_pre P) (.node (o15_s1 P) (.node (o31_s2 P) (.node (o63_s3 P) .nil .nil) .nil) (.node (o47_s3 P) .nil .nil)) (.node (o23_s1 P) (.node (o39_s3 P) (.node (o71_s3 P) .nil .nil) .nil) (.node (o55_s3 P) .nil .nil))) (.node (o11_pre P) (.node (o19_s1 P) (.node (o35_s3 P) (.node (o67_s3 P) .nil .nil) .nil) (.node (o51_s3 P) .nil .nil)) (.node (o27_s2 P) (.node (o43_s3 P) (.node (o75_s45 P) .nil .nil) .nil) (.node (o59_s3 P) .nil .nil)))) (.node (o5_pre P) (.node (o9_pre P) (.node (o17_s1 P) (.node (o33_s3 P) (.node (o65_s3 P) .nil .nil) .nil) (.node (o49_s3 P) .nil .nil)) (.node (o25_s1 P) (.node (o41_s3 P) (.node (o73_s45 P) .nil .nil) .nil) (.node (o57_s3 P) .nil .nil))) (.node (o13_pre P) (.node (o21_s1 P) (.node (o37_s3 P) (.node (o69_s3 P) .nil .nil) .nil) (.node (o53_s3 P) .nil .nil)) (.node (o29_s2 P) (.node (o45_s3 P) (.node (o77_s45 P) .nil .nil) .nil) (.node (o61_s3 P) .nil .nil))))) (.node (o2_pre P) (.node (o4_pre P) (.node (o8_pre P) (.node (o16_s1 P) (.node (o32_s2 P) (.node (o64_s3 P) .nil .nil) .nil) (.node (o48_s3 P) .nil .nil)) (.node (o24_s1 P) (.node (o40_s3 P) (.node (o72_s45 P) .nil .nil) .nil) (.node (o56_s3 P) .nil .nil))) (.node (o12_s45 P) (.node (o20_s1 P) (.node (o36_s3 P) (.node (o68_s3 P) .nil .nil) .nil) (.node (o52_s3 P) .nil .nil)) (.node (o28_s2 P) (.node (o44_s3 P) (.node (o76_s45 P) .nil .nil) .nil) (.node (o60_s3 P) .nil .nil)))) (.node (o6_pre P) (.node (o10_pre P) (.node (o18_s1 P) (.node (o34_s3 P) (.node (o66_s3 P) .nil .nil) .nil) (.node (o50_s3 P) .nil .nil)) (.node (o26_s2 P) (.node (o42_s3 P) (.node (o74_s45 P) .nil .nil) .nil) (.node (o58_s3 P) .nil .nil))) (.node (o14_pre P) (.node (o22_s1 P) (.node (o38_s3 P) (.node (o70_s3 P) .nil .nil) .nil) (.node (o54_s3 P) .nil .nil)) (.node (o30_s2 P) (.node (o46_s3 P) (.node (o78_s45 P) .nil .nil) .nil) (.node (o62_s3 P) .nil .nil))))))
noncomputable def U_s54 (w : World) (os : OsState) : SharedT := ⟨t_s54 w.params, 79, lifeV, #[], drawnV, 2315, os⟩
noncomputable def t_s55 (P : Params) : BT := (.node (o0_pre P) (.node (o1_pre P) (.node (o3_s55 P) (.node (o7_pre P) (.node (o15_s1 P) (.node (o31_s2 P) (.node (o63_s3 P) .nil .nil) .nil) (.node (o47_s3 P) (.node (o79_s55 P) .nil .nil) .nil)) (.node (o23_s1 P) (.node (o39_s3 P) (.node (o71_s3 P) .nil .nil) .nil) (.node (o55_s3 P) .nil .nil))) (.node (o11_pre P) (.node (o19_s1 P) (.node (o35_s3 P) (.node (o67_s3 P) .nil .nil) .nil) (.node (o51_s3 P) .nil .nil)) (.node (o27_s2 P) (.node (o43_s3 P) (.node (o75_s45 P) .nil .nil) .nil) (.node (o59_s3 P) .nil .nil)))) (.node (o5_pre P) (.node (o9_pre P) (.node (o17_s1 P) (.node (o33_s3 P) (.node (o65_s3 P) .nil .nil) .nil) (.node (o49_s3 P) (.node (o81_s55 P) .nil .nil) .nil)) (.node (o25_s1 P) (.node (o41_s3 P) (.node (o73_s45 P) .nil .nil) .nil) (.node (o57_s3 P) .nil .nil))) (.node (o13_pre P) (.node (o21_s1 P) (.node (o37_s3 P) (.node (o69_s3 P) .nil .nil) .nil) (.node (o53_s3 P) .nil .nil)) (.node (o29_s2 P) (.node (o45_s3 P) (.node (o77_s45 P) .nil .nil) .nil) (.node (o61_s3 P) .nil .nil))))) (.node (o2_pre P) (.node (o4_pre P) (.node (o8_pre P) (.node (o16_s1 P) (.node (o32_s2 P) (.node (o64_s3 P) .nil .nil) .nil) (.node (o48_s3 P) (.node (o80_s55 P) .nil .nil) .nil)) (.node (o24_s1 P) (.node (o40_s3 P) (.node (o72_s45 P) .nil .nil) .nil) (.node (o56_s3 P) .nil .nil))) (.node (o12_s45 P) (.node (o20_s1 P) (.node (o36_s3 P) (.node (o68_s3 P) .nil .nil) .nil) (.node (o52_s3 P) .nil .nil)) (.node (o28_s2 P) (.node (o44_s3 P) (.node (o76_s45 P) .nil .nil) .nil) (.node (o60_s3 P) .nil .nil)))) (.node (o6_pre P) (.node (o10_pre P) (.node (o18_s1 P) (.node (o34_s3 P) (.node (o66_s3 P) .nil .nil) .nil) (.node (o50_s3 P) .nil .nil)) (.node (o26_s2 P) (.node (o42_s3 P) (.node (o74_s45 P) .nil .nil) .nil) (.node (o58_s3 P) .nil .nil))) (.node (o14_pre P) (.node (o22_s1 P) (.node (o38_s3 P) (.node (o70_s3 P) .nil .nil) .nil) (.node (o54_s3 P) .nil .nil)) (.node (o30_s2 P) (.node (o46_s3 P) (.node (o78_s45 P) .nil .nil) .nil) (.node (o62_s3 P) .nil .nil))))))
noncomputable def U_s55 (w : World) (os : OsState) : SharedT := ⟨t_s55 w.params, 82, lifeV, #[], drawnV, 2412, os⟩
noncomputable def t_s68 (P : Params) : BT := (.node (o0_pre P) (.node (o1_pre P) (.node (o3_s68 P) (.node (o7_pre P) (.node (o15_s1 P) (.node (o31_s2 P) (.node (o63_s3 P) (.node (o127_s68 P) .nil .nil) .nil) (.node (o95_s68 P) (.node (o159_s68 P) .nil .nil) .nil)) (.node (o47_s3 P) (.node (o79_s55 P) (.node (o143_s68 P) .nil .nil) .nil) (.node (o111_s68 P) .nil .nil))) (.node (o23_s1 P) (.node (o39_s3 P) (.node (o71_s3 P) (.node (o135_s68 P) .nil .nil) .nil) (.node (o103_s68 P) .nil .nil)) (.node (o55_s3 P) (.node (o87_s68 P) (.node (o151_s68 P) .nil .nil) .nil) (.node (o119_s68 P) .nil .nil)))) (.node (o11_pre P) (.node (o19_s1 P) (.node (o35_s3 P) (.node (o67_s3 P) (.node (o131_s68 P) .nil .nil) .nil) (.node (o99_s68 P) .nil .nil)) (.node (o51_s3 P) (.node (o83_s68 P) (.node (o147_s68 P) .nil .nil) .nil) (.node (o115_s68 P) .nil .nil))) (.node (o27_s2 P) (.node (o43_s3 P) (.node (o75_s45 P) (.node (o139_s68 P) .nil .nil) .nil) (.node (o107_s68 P) .nil .nil)) (.node (o59_s3 P) (.node (o91_s68 P) (.node (o155_s68 P) .nil .nil) .nil) (.node (o123_s68 P) .nil .nil))))) (.node (o5_pre P) (.node (o9_pre P) (.node (o17_s1 P) (.node (o33_s3 P) (.node (o65_s3 P) (.node (o129_s68 P) .nil .nil) .nil) (.node (o97_s68 P) .nil .nil)) (.node (o49_s3 P) (.node (o81_s55 P) (.node (o145_s68 P) .nil .nil) .nil) (.node (o113_s68 P) .nil .nil))) (.node (o25_s1 P) (.node (o41_s3 P) (.node (o73_s45 P) (.node (o137_s68 P) .nil .nil) .nil) (.node (o105_s68 P) .nil .nil)) (.node (o57_s3 P) (.node (o89_s68 P) (.node (o153_s68 P) .nil .nil) .nil) (.node (o121_s68 P) .nil .nil)))) (.node (o13_pre P) (.node (o21_s1 P) (.node (o37_s3 P) (.node (o69_s3 P) (.node (o133_s68 P) .nil .nil) .nil) (.node (o101_s68 P) .nil .nil)) (.node (o53_s3 P) (.node (o85_s68 P) (.node (o149_s68 P) .nil .nil) .nil) (.node (o117_s68 P) .nil .nil))) (.node (o29_s2 P) (.node (o45_s3 P) (.node (o77_s45 P) (.node (o141_s68 P) .nil .nil) .nil) (.node (o109_s68 P) .nil .nil)) (.node (o61_s3 P) (.node (o93_s68 P) (.node (o157_s68 P) .nil .nil) .nil) (.node (o125_s68 P) .nil .nil)))))) (.node (o2_pre P) (.node (o4_pre P) (.node (o8_pre P) (.node (o16_s1 P) (.node (o32_s2 P) (.node (o64_s3 P) (.node (o128_s68 P) .nil .nil) .nil) (.node (o96_s68 P) .nil .nil)) (.node (o48_s3 P) (.node (o80_s55 P) (.node (o144_s68 P) .nil .nil) .nil) (.node (o112_s68 P) .nil .nil))) (.node (o24_s1 P) (.node (o40_s3 P) (.node (o72_s45 P) (.node (o136_s68 P) .nil .nil) .nil) (.node (o104_s68 P) .nil .nil)) (.node (o56_s3 P) (.node (o88_s68 P) (.node (o152_s68 P) .nil .nil) .nil) (.node (o120_s68 P) .nil .nil)))) (.node (o12_s68 P) (.node (o20_s1 P) (.node (o36_s3 P) (.node (o68_s3 P) (.node (o132_s68 P) .nil .nil) .nil) (.node (o100_s68 P) .nil .nil)) (.node (o52_s3 P) (.node (o84_s68 P) (.node (o148_s68 P) .nil .nil) .nil) (.node (o116_s68 P) .nil .nil))) (.node (o28_s2 P) (.node (o44_s3 P) (.node (o76_s45 P) (.node (o140_s68 P) .nil .nil) .nil) (.node (o108_s68 P) .nil .nil)) (.node (o60_s3 P) (.node (o92_s68 P) (.node (o156_s68 P) .nil .nil) .nil) (.node (o124_s68 P) .nil .nil))))) (.node (o6_pre P) (.node (o10_pre P) (.node (o18_s1 P) (.node (o34_s3 P) (.node (o66_s3 P) (.node (o130_s68 P) .nil .nil) .nil) (.node (o98_s68 P) .nil .nil)) (.node (o50_s3 P) (.node (o82_s68 P) (.node (o146_s68 P) .nil .nil) .nil) (.node (o114_s68 P) .nil .nil))) (.node (o26_s2 P) (.node (o42_s3 P) (.node (o74_s45 P) (.node (o138_s68 P) .nil .nil) .nil) (.node (o106_s68 P) .nil .nil)) (.node (o58_s3 P) (.node (o90_s68 P) (.node (o154_s68 P) .nil .nil) .nil) (.node (o122_s68 P) .nil .nil)))) (.node (o14_pre P) (.node (o22_s1 P) (.node (o38_s3 P) (.node (o70_s3 P) (.node (o134_s68 P) .nil .nil) .nil) (.node (o102_s68 P) .nil .nil)) (.node (o54_s3 P) (.node (o86_s68 P) (.node (o150_s68 P) .nil .nil) .nil) (.node (o118_s68 P) .nil .nil))) (.node (o30_s2 P) (.node (o46_s3 P) (.node (o78_s45 P) (.node (o142_s68 P) .nil .nil) .nil) (.node (o110_s68 P) .nil .nil)) (.node (o62_s3 P) (.node (o94_s68 P) (.node (o158_s68 P) .nil .nil) .nil) (.node (o126_s68 P) .nil .nil)))))))
noncomputable def U_s68 (w : World) (os : OsState) : SharedT := ⟨t_s68 w.params, 160, lifeV, #[], drawnV, 2522, os⟩
noncomputable def t_fin (P : Params) : BT := (.node (o0_pre P) (.node (o1_pre P) (.node (o3_s68 P) (.node (o7_pre P) (.node (o15_s1 P) (.node (o31_s2 P) (.node (o63_s3 P) (.node (o127_s68 P) .nil .nil) .nil) (.node (o95_s68 P) (.node (o159_s68 P) .nil .nil) .nil)) (.node (o47_s3 P) (.node (o79_s55 P) (.node (o143_s68 P) .nil .nil) .nil) (.node (o111_s68 P) .nil .nil))) (.node (o23_s1 P) (.node (o39_s3 P) (.node (o71_s3 P) (.node (o135_s68 P) .nil .nil) .nil) (.node (o103_s68 P) .nil .nil)) (.node (o55_s3 P) (.node (o87_s68 P) (.node (o151_s68 P) .nil .nil) .nil) (.node (o119_s68 P) .nil .nil)))) (.node (o11_pre P) (.node (o19_s1 P) (.node (o35_s3 P) (.node (o67_s3 P) (.node (o131_s68 P) .nil .nil) .nil) (.node (o99_s68 P) .nil .nil)) (.node (o51_s3 P) (.node (o83_s68 P) (.node (o147_s68 P) .nil .nil) .nil) (.node (o115_s68 P) .nil .nil))) (.node (o27_s2 P) (.node (o43_s3 P) (.node (o75_s45 P) (.node (o139_s68 P) .nil .nil) .nil) (.node (o107_s68 P) .nil .nil)) (.node (o59_s3 P) (.node (o91_s68 P) (.node (o155_s68 P) .nil .nil) .nil) (.node (o123_s68 P) .nil .nil))))) (.node (o5_pre P) (.node (o9_pre P) (.node (o17_s1 P) (.node (o33_s3 P) (.node (o65_s3 P) (.node (o129_s68 P) .nil .nil) .nil) (.node (o97_s68 P) .nil .nil)) (.node (o49_s3 P) (.node (o81_s55 P) (.node (o145_s68 P) .nil .nil) .nil) (.node (o113_s68 P) .nil .nil))) (.node (o25_s1 P) (.node (o41_s3 P) (.node (o73_s45 P) (.node (o137_s68 P) .nil .nil) .nil) (.node (o105_s68 P) .nil .nil)) (.node (o57_s3 P) (.node (o89_s68 P) (.node (o153_s68 P) .nil .nil) .nil) (.node (o121_s68 P) .nil .nil)))) (.node (o13_pre P) (.node (o21_s1 P) (.node (o37_s3 P) (.node (o69_s3 P) (.node (o133_s68 P) .nil .nil) .nil) (.node (o101_s68 P) .nil .nil)) (.node (o53_s3 P) (.node (o85_s68 P) (.node (o149_s68 P) .nil .nil) .nil) (.node (o117_s68 P) .nil .nil))) (.node (o29_s2 P) (.node (o45_s3 P) (.node (o77_s45 P) (.node (o141_s68 P) .nil .nil) .nil) (.node (o109_s68 P) .nil .nil)) (.node (o61_s3 P) (.node (o93_s68 P) (.node (o157_s68 P) .nil .nil) .nil) (.node (o125_s68 P) .nil .nil)))))) (.node (o2_pre P) (.node (o4_pre P) (.node (o8_pre P) (.node (o16_s1 P) (.node (o32_s2 P) (.node (o64_s3 P) (.node (o128_s68 P) .nil .nil) .nil) (.node (o96_s68 P) .nil .nil)) (.node (o48_s3 P) (.node (o80_s55 P) (.node (o144_s68 P) .nil .nil) .nil) (.node (o112_s68 P) .nil .nil))) (.node (o24_s1 P) (.node (o40_s3 P) (.node (o72_s45 P) (.node (o136_s68 P) .nil .nil) .nil) (.node (o104_s68 P) .nil .nil)) (.node (o56_s3 P) (.node (o88_s68 P) (.node (o152_s68 P) .nil .nil) .nil) (.node (o120_s68 P) .nil .nil)))) (.node (o12_s68 P) (.node (o20_s1 P) (.node (o36_s3 P) (.node (o68_s3 P) (.node (o132_s68 P) .nil .nil) .nil) (.node (o100_s68 P) .nil .nil)) (.node (o52_s3 P) (.node (o84_s68 P) (.node (o148_s68 P) .nil .nil) .nil) (.node (o116_s68 P) .nil .nil))) (.node (o28_s2 P) (.node (o44_s3 P) (.node (o76_s45 P) (.node (o140_s68 P) .nil .nil) .nil) (.node (o108_s68 P) .nil .nil)) (.node (o60_s3 P) (.node (o92_s68 P) (.node (o156_s68 P) .nil .nil) .nil) (.node (o124_s68 P) .nil .nil))))) (.node (o6_pre P) (.node (o10_pre P) (.node (o18_s1 P) (.node (o34_s3 P) (.node (o66_s3 P) (.node (o130_s68 P) .nil .nil) .nil) (.node (o98_s68 P) .nil .nil)) (.node (o50_s3 P) (.node (o82_s68 P) (.node (o146_s68 P) .nil .nil) .nil) (.node (o114_s68 P) .nil .nil))) (.node (o26_s2 P) (.node (o42_s3 P) (.node (o74_s45 P) (.node (o138_s68 P) .nil .nil) .nil) (.node (o106_s68 P) .nil .nil)) (.node (o58_s3 P) (.node (o90_s68 P) (.node (o154_s68 P) .nil .nil) .nil) (.node (o122_s68 P) .nil .nil)))) (.node (o14_pre P) (.node (o22_s1 P) (.node (o38_s3 P) (.node (o70_s3 P) (.node (o134_s68 P) .nil .nil) .nil) (.node (o102_s68 P) .nil .nil)) (.node (o54_s3 P) (.node (o86_s68 P) (.node (o150_s68 P) .nil .nil) .nil) (.node (o118_s68 P) .nil .nil))) (.node (o30_s2 P) (.node (o46_s3 P) (.node (o78_s45 P) (.node (o142_s68 P) .nil .nil) .nil) (.node (o110_s68 P) .nil .nil)) (.node (o62_s3 P) (.node (o94_s68 P) (.node (o158_s68 P) .nil .nil) .nil) (.node (o126_s68 P) .nil .nil)))))))
noncomputable def U_fin (w : World) (os : OsState) : SharedT := ⟨t_fin w.params, 160, lifeV, #[], drawnV, 2522, os⟩
noncomputable def t_c38 (P : Params) : BT := (.node (o0_pre P) (.node (o1_pre P) (.node (o3_s2 P) (.node (o7_pre P) (.node (o15_s1 P) (.node (o31_s2 P) (.node (o63_s3 P) .nil .nil) .nil) (.node (o47_s3 P) .nil .nil)) (.node (o23_s1 P) (.node (o39_s3 P) (.node (o71_s3 P) .nil .nil) .nil) (.node (o55_s3 P) .nil .nil))) (.node (o11_pre P) (.node (o19_s1 P) (.node (o35_s3 P) (.node (o67_s3 P) .nil .nil) .nil) (.node (o51_s3 P) .nil .nil)) (.node (o27_s2 P) (.node (o43_s3 P) .nil .nil) (.node (o59_s3 P) .nil .nil)))) (.node (o5_pre P) (.node (o9_pre P) (.node (o17_s1 P) (.node (o33_s3 P) (.node (o65_s3 P) .nil .nil) .nil) (.node (o49_s3 P) .nil .nil)) (.node (o25_s1 P) (.node (o41_s3 P) .nil .nil) (.node (o57_s3 P) .nil .nil))) (.node (o13_pre P) (.node (o21_s1 P) (.node (o37_s3 P) (.node (o69_s3 P) .nil .nil) .nil) (.node (o53_s3 P) .nil .nil)) (.node (o29_s2 P) (.node (o45_s3 P) .nil .nil) (.node (o61_s3 P) .nil .nil))))) (.node (o2_pre P) (.node (o4_pre P) (.node (o8_pre P) (.node (o16_s1 P) (.node (o32_s2 P) (.node (o64_s3 P) .nil .nil) .nil) (.node (o48_s3 P) .nil .nil)) (.node (o24_s1 P) (.node (o40_s3 P) .nil .nil) (.node (o56_s3 P) .nil .nil))) (.node (o12_s2 P) (.node (o20_s1 P) (.node (o36_s3 P) (.node (o68_s3 P) .nil .nil) .nil) (.node (o52_s3 P) .nil .nil)) (.node (o28_s2 P) (.node (o44_s3 P) .nil .nil) (.node (o60_s3 P) .nil .nil)))) (.node (o6_pre P) (.node (o10_pre P) (.node (o18_s1 P) (.node (o34_s3 P) (.node (o66_s3 P) .nil .nil) .nil) (.node (o50_s3 P) .nil .nil)) (.node (o26_s2 P) (.node (o42_s3 P) .nil .nil) (.node (o58_s3 P) .nil .nil))) (.node (o14_pre P) (.node (o22_s1 P) (.node (o38_s3 P) (.node (o70_s3 P) .nil .nil) .nil) (.node (o54_s3 P) .nil .nil)) (.node (o30_s2 P) (.node (o46_s3 P) .nil .nil) (.node (o62_s3 P) .nil .nil))))))
noncomputable def U_c38 (w : World) (os : OsState) : SharedT := ⟨t_c38 w.params, 72, lifeV, #[], drawnV, 2206, os⟩
end Mine
end
section
open PySem PySem.W PyProof.Rows
set_option maxRecDepth 1000000
set_option maxHeartbeats 0
namespace Mine
theorem kv_len : kvs.length = 650 := by kernel_rfl
theorem kv_asc : asc (-1) kvs = true := by kernel_rfl
theorem items_eq (env : Env) (dp : Pos) : ∀ (ks : List (Option Expr)) (vs : List Expr), (kvOf ks vs).length = ks.length →
    (evalEachOpt ks env).zip ((evalEach vs env).map fun v => do let x ← v; standAt dp; pure x) = ((kvOf ks vs).map (semP dp)).map fun p => (some p.1, p.2)
  | [], vs, _ => by cases vs <;> rfl
  | k :: ks, vs, h => by
    unfold kvOf at h ⊢
    split at h
    · rename_i i _ _ ks' s _ _ vs' e1
      obtain ⟨rfl, rfl⟩ := List.cons.inj e1
      have ih := items_eq env dp ks vs' (by simpa using h)
      show _ :: _ = _ :: _
      rw [← ih]
      rfl
    · simp at h
def post3 (v : Value) : Sem Flow := (swappedStores (dT 3) (dE 3) envV).bind fun sw => assignStores envV v sw ((assignEach (dT 3) envV).map (·.2))
def end3 (f : Flow) : Sem Flow := match f with | .next => execs [] envV | f => pure f
theorem st3_eq : execs (stL 3 1) envV = .at (dQ 3) fun _ => .at (dP 3) fun _ => ((dictDisplay ((evalEachOpt (dK 3) envV).zip ((evalEach (dV 3) envV).map fun v => do let x ← v; standAt (dP 3); pure x))).bind post3).bind end3 := by kernel_rfl
end Mine
end
section
open PySem PySem.W PyProof.Rows
set_option maxRecDepth 1000000
set_option maxHeartbeats 0
namespace Mine
noncomputable def L2 (P : Params) : List Obj := (t_s2 P).list 33
def fin3 : List DictEntry × List Obj × Nat := chunks 37 (kvs.drop 17) (ents 3 (kvs.take 17) 256) [] 307
theorem L2_len (P : Params) : (L2 P).length = 33 := by
  unfold L2 BT.list
  rw [List.length_map, List.length_range]
theorem heap3 (P : Params) : hp (L2 P ++ D fin3.1 fin3.1.length :: fin3.2.1) = absHeap (t_c38 P) 72 lifeV := by
  have e : L2 P ++ D fin3.1 fin3.1.length :: fin3.2.1 = (t_c38 P).list 72 := by kernel_rfl
  rw [e]
  rfl
theorem toks3 : fin3.2.2 = 2206 := by kernel_rfl
theorem disp_ev (w : World) (os : OsState) : Ev w (dictDisplay ((evalEachOpt (dK 3) envV).zip ((evalEach (dV 3) envV).map fun v => do let x ← v; standAt (dP 3); pure x))) 12515 ⟨hp (L2 w.params), #[], drawnV, 256, os⟩ (dP 3) (.ref 33) (U_c38 w os).abs (dP 3) := by
  rw [items_eq envV (dP 3) (dK 3) (dV 3) (by kernel_rfl), dd_lp]
  show Ev w (lp (kvs.map (semP (dP 3))) [] none) _ _ _ _ _ _
  have h17 : (kvs.take 17).length = 17 := by rw [List.length_take, kv_len]; rfl
  have hd : (kvs.drop 17).length = 17 * 37 + 4 := by rw [List.length_drop, kv_len]
  have ha : Nat.ble 11 (L2 w.params).length = true := by rw [L2_len]; rfl
  have e0 := fl0_ev (w := w) (gens := #[]) (drawn := drawnV) (os := os) (dp := dP 3) (L := L2 w.params) (empty_map (dp := dP 3) (by omega : 0 < (kvs.take 17).length))
    (sub_ev (toks := 256) ha (by omega : ¬ (kvs.take 17).length ≤ 15) (asc_take 17 kv_asc) (by rw [h17]; decide))
  rw [h17] at e0
  have e1 := lp_ev (w := w) (gens := #[]) (drawn := drawnV) (os := os) (dp := dP 3) ha 37 4 (kvs.drop 17) (ents 3 (kvs.take 17) 256) [] 307 (top (-1) (ents 3 (kvs.take 17) 256)) hd (by decide) (by decide)
    (by intro c; have := congrArg List.length c; rw [ents_len, h17] at this; exact absurd this (by decide))
    (fun x hx => (ents_up (st := 3) (t := 256) (asc_take 17 kv_asc)).le x hx) (asc_drop 17 kv_asc) (by rw [ents_len, h17, hd]; decide)
  rw [show ((ents 3 (kvs.take 17) 256).length) = 17 by rw [ents_len, h17]] at e1
  change Ev w _ _ _ _ _ ⟨hp (L2 w.params ++ D fin3.1 fin3.1.length :: fin3.2.1), _, _, fin3.2.2, _⟩ _ at e1
  rw [heap3, toks3, L2_len] at e1
  rw [show kvs.map (semP (dP 3)) = (kvs.take 17).map (semP (dP 3)) ++ (kvs.drop 17).map (semP (dP 3)) by rw [← List.map_append, List.take_append_drop]]
  rw [lp_run _ _ _ [] (by intro c; have := congrArg List.length c; rw [List.length_map, h17] at this; exact absurd this (by decide)) (by rw [List.length_map, h17]; rfl), List.nil_append]
  rw [L2_len] at e0
  exact Ev.bind e0 e1
end Mine
end
section
open PySem PySem.W PyProof.Rows
set_option maxRecDepth 1000000
set_option maxHeartbeats 0
namespace Mine
theorem g3e (w : World) : (fun os => segRunT treeTable pw w 11 annV 1 10 (U_c38 w os) ⟨((post3 (.ref 33)).bind end3).wrap doneF deadEnd id id, cV, dP 3, [topFrame qV]⟩) = fun os => some (Flow.next, U_s3 w os, cV, (@PySem.Pos.mk (5 : @Nat) (0 : @Nat) (5 : @Nat) (13 : @Nat))) := by
  rw [Fast.te10110043849684766642, Fast.te14364793385576792824]
  kernel_rfl
theorem g3 (w : World) (os : OsState) : segRun treeTable pw w 11 annV 1 12527 (U_s2 w os).abs (piecesOf (stL 3 1) envV cV (@PySem.Pos.mk (3 : @Nat) (0 : @Nat) (4 : @Nat) (30 : @Nat)) [topFrame qV]) = some (Flow.next, (U_s3 w os).abs, cV, (@PySem.Pos.mk (5 : @Nat) (0 : @Nat) (5 : @Nat) (13 : @Nat))) := by
  have h := disp_ev w os
  have e : Ev w (.at (dQ 3) fun _ => .at (dP 3) fun _ => dictDisplay ((evalEachOpt (dK 3) envV).zip ((evalEach (dV 3) envV).map fun v => do let x ← v; standAt (dP 3); pure x))) 12517 (U_s2 w os).abs (@PySem.Pos.mk (3 : @Nat) (0 : @Nat) (4 : @Nat) (30 : @Nat)) (.ref 33) (U_c38 w os).abs (dP 3) := .at (.at h)
  have s := e.seg (fun v => ((post3 v).bind end3).wrap doneF deadEnd id id) deadEnd id id
  have k := segRun_of (congrFun (g3e w) os)
  have := seg_go s k
  unfold piecesOf
  rw [st3_eq, show ∀ x : Sem Value, ((Sem.at (dQ 3) fun _ => .at (dP 3) fun _ => (x.bind post3).bind end3).wrap doneF deadEnd id id : Sem Fin) = (Sem.at (dQ 3) fun _ => .at (dP 3) fun _ => x).wrap (fun v => ((post3 v).bind end3).wrap doneF deadEnd id id) deadEnd id id from fun x => by
    simp only [Sem.wrap, Sem.bind_eq_wrap, Sem.wrap_wrap]
    rfl]
  exact this
end Mine
end
section
open PySem PySem.W PyProof.Rows
set_option maxRecDepth 1000000
set_option maxHeartbeats 0
namespace Mine
theorem g0 (w : World) : (fun os => segRunT treeTable pw w 11 annV 1 10 (U_block w os) (piecesOf (stL 0 1) envV cV qV [topFrame qV])) = fun os => some (Flow.next, U_s0 w os, cV, (@PySem.Pos.mk (1 : @Nat) (0 : @Nat) (1 : @Nat) (8 : @Nat))) := by
  rw [Fast.te10110043849684766642]; kernel_rfl
theorem g2 (w : World) : (fun os => segRunT treeTable pw w 11 annV 1 30 (U_s1 w os) (piecesOf (stL 2 1) envV cV (@PySem.Pos.mk (2 : @Nat) (0 : @Nat) (2 : @Nat) (6 : @Nat)) [topFrame qV])) = fun os => some (Flow.next, U_s2 w os, cV, (@PySem.Pos.mk (3 : @Nat) (0 : @Nat) (4 : @Nat) (30 : @Nat))) := by
  rw [Fast.te10110043849684766642]; kernel_rfl
theorem g4 (w : World) : (fun os => segRunT treeTable pw w 11 annV 1 400 (U_s3 w os) (piecesOf (stL 4 42) envV cV (@PySem.Pos.mk (5 : @Nat) (0 : @Nat) (5 : @Nat) (13 : @Nat)) [topFrame qV])) = fun os => some (Flow.next, U_s45 w os, cV, (@PySem.Pos.mk (51 : @Nat) (0 : @Nat) (51 : @Nat) (15 : @Nat))) := by
  rw [Fast.te10110043849684766642]; kernel_rfl
theorem g46 (w : World) : (fun os => segRunT treeTable pw w 11 annV 1 82 (U_s45 w os) (piecesOf (stL 46 9) envV cV (@PySem.Pos.mk (51 : @Nat) (0 : @Nat) (51 : @Nat) (15 : @Nat)) [topFrame qV])) = fun os => some (Flow.next, U_s54 w os, cV, (@PySem.Pos.mk (60 : @Nat) (0 : @Nat) (60 : @Nat) (9 : @Nat))) := by
  rw [Fast.te10110043849684766642]; kernel_rfl
theorem g56 (w : World) : (fun os => segRunT treeTable pw w 11 annV 1 376 (U_s55 w os) (piecesOf (stL 56 13) envV cV (@PySem.Pos.mk (61 : @Nat) (0 : @Nat) (61 : @Nat) (17 : @Nat)) [topFrame qV])) = fun os => some (Flow.next, U_s68 w os, cV, (@PySem.Pos.mk (138 : @Nat) (0 : @Nat) (150 : @Nat) (15 : @Nat))) := by
  rw [Fast.te10110043849684766642]; kernel_rfl
theorem g55 (w : World) : (fun os => segRunT treeTable pw w 11 annV 1 979 (U_s54 w os) (piecesOf (stL 55 1) envV cV (@PySem.Pos.mk (60 : @Nat) (0 : @Nat) (60 : @Nat) (9 : @Nat)) [topFrame qV])) = fun os => some (Flow.next, U_s55 w os, cV, (@PySem.Pos.mk (61 : @Nat) (0 : @Nat) (61 : @Nat) (17 : @Nat))) := by
  revert w
  refine byRow2 "special-get-raises" (fun w => ?_) (fun w => ?_)
  · rw [Fast.te10110043849684766642]; kernel_rfl
  · rw [Fast.te10110043849684766642]; kernel_rfl
theorem g1 (w : World) : (fun os => segRunT treeTable pw w 11 annV 1 999 (U_s0 w os) (piecesOf (stL 1 1) envV cV (@PySem.Pos.mk (1 : @Nat) (0 : @Nat) (1 : @Nat) (8 : @Nat)) [topFrame qV])) = fun os => some (Flow.next, U_s1 w os, cV, (@PySem.Pos.mk (2 : @Nat) (0 : @Nat) (2 : @Nat) (6 : @Nat))) := by
  revert w
  refine byRow2 "special-get-raises" (fun w => ?_) (fun w => ?_)
  · revert w
    refine byRow2 "set-order" (P := fun w => (fun os => segRunT treeTable pw (w.withFollow "special-get-raises" false) 11 annV 1 999 (U_s0 (w.withFollow "special-get-raises" false) os) (piecesOf (stL 1 1) envV cV (@PySem.Pos.mk (1 : @Nat) (0 : @Nat) (1 : @Nat) (8 : @Nat)) [topFrame qV])) = fun os => some (Flow.next, U_s1 (w.withFollow "special-get-raises" false) os, cV, (@PySem.Pos.mk (2 : @Nat) (0 : @Nat) (2 : @Nat) (6 : @Nat)))) (fun w => ?_) (fun w => ?_)
    · rw [Fast.te10110043849684766642, Fast.te14364793385576792824]; kernel_rfl
    · rw [Fast.te10110043849684766642, Fast.te14364793385576792824]; kernel_rfl
  · revert w
    refine byRow2 "set-order" (P := fun w => (fun os => segRunT treeTable pw (w.withFollow "special-get-raises" true) 11 annV 1 999 (U_s0 (w.withFollow "special-get-raises" true) os) (piecesOf (stL 1 1) envV cV (@PySem.Pos.mk (1 : @Nat) (0 : @Nat) (1 : @Nat) (8 : @Nat)) [topFrame qV])) = fun os => some (Flow.next, U_s1 (w.withFollow "special-get-raises" true) os, cV, (@PySem.Pos.mk (2 : @Nat) (0 : @Nat) (2 : @Nat) (6 : @Nat)))) (fun w => ?_) (fun w => ?_)
    · rw [Fast.te10110043849684766642, Fast.te14364793385576792824]; kernel_rfl
    · rw [Fast.te10110043849684766642, Fast.te14364793385576792824]; kernel_rfl
theorem fin1 (w : World) : (fun os => topRun treeTable pw w 11 annV 2 (U_s68 w os).abs ⟨doneF .next, cV, (@PySem.Pos.mk (138 : @Nat) (0 : @Nat) (150 : @Nat) (15 : @Nat)), [topFrame qV]⟩) = fun os => some (U_fin w os).abs := by
  rw [Fast.te14082659384304107361]; kernel_rfl
theorem block1 (w : World) : (fun os => segRun treeTable pw w 11 annV 1 1 (U_block w os).abs (blockOf (behindTheImports pw) envV cV qV [topFrame qV])) = fun os => some (.next, (U_block w os).abs, cV, qV) := by
  rw [Fast.te14374325043358763698]; kernel_rfl
theorem pre1 (w : World) : (fun os => topGo treeTable pw w 11 annV 12 ⟨boot_heap w.params, #[], boot_drawn, boot_toks, os⟩ (topStub pw)) = fun os => some ((U_pre w os).abs, ⟨denote treeTable cV, cV, qV, [topFrame qV]⟩) := by
  kernel_rfl
end Mine
end
section
open PySem PySem.W PyProof.Rows
set_option maxRecDepth 1000000
set_option maxHeartbeats 0
namespace Mine
theorem top_body : behindTheImports pw = stL 0 1 ++ (stL 1 1 ++ (stL 2 1 ++ (stL 3 1 ++ (stL 4 42 ++ (stL 46 9 ++ (stL 55 1 ++ (stL 56 13 ++ []))))))) := by kernel_rfl
theorem top_run (w : World) (os : OsState) : topRun treeTable pw w 11 annV (12 + (1 + (10 + (999 + (30 + (12527 + (400 + (82 + (979 + (376 + 2)))))))))) ⟨boot_heap w.params, #[], boot_drawn, boot_toks, os⟩ (topStub pw) = some (U_fin w os).abs := by
  have k := piece_nil (env := envV) (congrFun (fin1 w) os)
  have k := piece_app (segRun_of (congrFun (g56 w) os)) k
  have k := piece_app (segRun_of (congrFun (g55 w) os)) k
  have k := piece_app (segRun_of (congrFun (g46 w) os)) k
  have k := piece_app (segRun_of (congrFun (g4 w) os)) k
  have k := piece_app (g3 w os) k
  have k := piece_app (segRun_of (congrFun (g2 w) os)) k
  have k := piece_app (segRun_of (congrFun (g1 w) os)) k
  have k := piece_app (segRun_of (congrFun (g0 w) os)) k
  rw [← top_body] at k
  have k := piece_block (congrFun (block1 w) os) k
  exact go_top (congrFun (pre1 w) os) k
end Mine
end
section
open PySem PySem.W PyProof.Rows
set_option maxRecDepth 1000000
set_option maxHeartbeats 0
namespace Mine
noncomputable def K (P : Params) : Frag := (nat_lit 0, o0_pre P) :: (nat_lit 1, o1_pre P) :: (nat_lit 2, o2_pre P) :: (nat_lit 3, o3_s68 P) :: (nat_lit 4, o4_pre P) :: (nat_lit 5, o5_pre P) :: (nat_lit 6, o6_pre P) :: (nat_lit 7, o7_pre P) :: (nat_lit 9, o9_pre P) :: (nat_lit 10, o10_pre P) :: (nat_lit 11, o11_pre P) :: (nat_lit 13, o13_pre P) :: (nat_lit 14, o14_pre P) :: (nat_lit 15, o15_s1 P) :: (nat_lit 16, o16_s1 P) :: (nat_lit 17, o17_s1 P) :: (nat_lit 18, o18_s1 P) :: (nat_lit 19, o19_s1 P) :: (nat_lit 20, o20_s1 P) :: (nat_lit 21, o21_s1 P) :: (nat_lit 22, o22_s1 P) :: (nat_lit 23, o23_s1 P) :: (nat_lit 24, o24_s1 P) :: (nat_lit 25, o25_s1 P) :: (nat_lit 26, o26_s2 P) :: (nat_lit 28, o28_s2 P) :: (nat_lit 29, o29_s2 P) :: (nat_lit 31, o31_s2 P) :: (nat_lit 32, o32_s2 P) :: (nat_lit 33, o33_s3 P) :: (nat_lit 34, o34_s3 P) :: (nat_lit 35, o35_s3 P) :: (nat_lit 36, o36_s3 P) :: (nat_lit 37, o37_s3 P) :: (nat_lit 38, o38_s3 P) :: (nat_lit 39, o39_s3 P) :: (nat_lit 40, o40_s3 P) :: (nat_lit 41, o41_s3 P) :: (nat_lit 42, o42_s3 P) :: (nat_lit 43, o43_s3 P) :: (nat_lit 44, o44_s3 P) :: (nat_lit 45, o45_s3 P) :: (nat_lit 46, o46_s3 P) :: (nat_lit 47, o47_s3 P) :: (nat_lit 48, o48_s3 P) :: (nat_lit 49, o49_s3 P) :: (nat_lit 50, o50_s3 P) :: (nat_lit 51, o51_s3 P) :: (nat_lit 52, o52_s3 P) :: (nat_lit 53, o53_s3 P) :: (nat_lit 54, o54_s3 P) :: (nat_lit 55, o55_s3 P) :: (nat_lit 56, o56_s3 P) :: (nat_lit 57, o57_s3 P) :: (nat_lit 58, o58_s3 P) :: (nat_lit 59, o59_s3 P) :: (nat_lit 60, o60_s3 P) :: (nat_lit 61, o61_s3 P) :: (nat_lit 62, o62_s3 P) :: (nat_lit 63, o63_s3 P) :: (nat_lit 64, o64_s3 P) :: (nat_lit 65, o65_s3 P) :: (nat_lit 66, o66_s3 P) :: (nat_lit 67, o67_s3 P) :: (nat_lit 68, o68_s3 P) :: (nat_lit 69, o69_s3 P) :: (nat_lit 70, o70_s3 P) :: (nat_lit 71, o71_s3 P) :: (nat_lit 72, o72_s45 P) :: (nat_lit 74, o74_s45 P) :: (nat_lit 75, o75_s45 P) :: (nat_lit 77, o77_s45 P) :: (nat_lit 78, o78_s45 P) :: (nat_lit 79, o79_s55 P) :: (nat_lit 80, o80_s55 P) :: (nat_lit 81, o81_s55 P) :: (nat_lit 82, o82_s68 P) :: (nat_lit 84, o84_s68 P) :: (nat_lit 85, o85_s68 P) :: (nat_lit 87, o87_s68 P) :: (nat_lit 88, o88_s68 P) :: (nat_lit 89, o89_s68 P) :: (nat_lit 91, o91_s68 P) :: (nat_lit 92, o92_s68 P) :: (nat_lit 94, o94_s68 P) :: (nat_lit 95, o95_s68 P) :: (nat_lit 96, o96_s68 P) :: (nat_lit 98, o98_s68 P) :: (nat_lit 99, o99_s68 P) :: (nat_lit 101, o101_s68 P) :: (nat_lit 102, o102_s68 P) :: (nat_lit 103, o103_s68 P) :: (nat_lit 105, o105_s68 P) :: (nat_lit 106, o106_s68 P) :: (nat_lit 108, o108_s68 P) :: (nat_lit 109, o109_s68 P) :: (nat_lit 110, o110_s68 P) :: (nat_lit 112, o112_s68 P) :: (nat_lit 113, o113_s68 P) :: (nat_lit 115, o115_s68 P) :: (nat_lit 116, o116_s68 P) :: (nat_lit 117, o117_s68 P) :: (nat_lit 120, o120_s68 P) :: (nat_lit 121, o121_s68 P) :: (nat_lit 122, o122_s68 P) :: (nat_lit 125, o125_s68 P) :: (nat_lit 126, o126_s68 P) :: (nat_lit 127, o127_s68 P) :: (nat_lit 129, o129_s68 P) :: (nat_lit 130, o130_s68 P) :: (nat_lit 132, o132_s68 P) :: (nat_lit 133, o133_s68 P) :: (nat_lit 134, o134_s68 P) :: (nat_lit 136, o136_s68 P) :: (nat_lit 137, o137_s68 P) :: (nat_lit 139, o139_s68 P) :: (nat_lit 140, o140_s68 P) :: (nat_lit 141, o141_s68 P) :: (nat_lit 143, o143_s68 P) :: (nat_lit 144, o144_s68 P) :: (nat_lit 146, o146_s68 P) :: (nat_lit 147, o147_s68 P) :: (nat_lit 148, o148_s68 P) :: (nat_lit 150, o150_s68 P) :: (nat_lit 151, o151_s68 P) :: (nat_lit 153, o153_s68 P) :: (nat_lit 154, o154_s68 P) :: (nat_lit 155, o155_s68 P) :: (nat_lit 158, o158_s68 P) :: (nat_lit 159, o159_s68 P) :: []
end Mine
end
section
open PySem PySem.W PyProof.Rows
set_option maxRecDepth 1000000
set_option maxHeartbeats 0
namespace Mine
def KA : List Addr := [nat_lit 0, nat_lit 1, nat_lit 2, nat_lit 3, nat_lit 4, nat_lit 5, nat_lit 6, nat_lit 7, nat_lit 9, nat_lit 10, nat_lit 11, nat_lit 13, nat_lit 14, nat_lit 15, nat_lit 16, nat_lit 17, nat_lit 18, nat_lit 19, nat_lit 20, nat_lit 21, nat_lit 22, nat_lit 23, nat_lit 24, nat_lit 25, nat_lit 26, nat_lit 28, nat_lit 29, nat_lit 31, nat_lit 32, nat_lit 33, nat_lit 34, nat_lit 35, nat_lit 36, nat_lit 37, nat_lit 38, nat_lit 39, nat_lit 40, nat_lit 41, nat_lit 42, nat_lit 43, nat_lit 44, nat_lit 45, nat_lit 46, nat_lit 47, nat_lit 48, nat_lit 49, nat_lit 50, nat_lit 51, nat_lit 52, nat_lit 53, nat_lit 54, nat_lit 55, nat_lit 56, nat_lit 57, nat_lit 58, nat_lit 59, nat_lit 60, nat_lit 61, nat_lit 62, nat_lit 63, nat_lit 64, nat_lit 65, nat_lit 66, nat_lit 67, nat_lit 68, nat_lit 69, nat_lit 70, nat_lit 71, nat_lit 72, nat_lit 74, nat_lit 75, nat_lit 77, nat_lit 78, nat_lit 79, nat_lit 80, nat_lit 81, nat_lit 82, nat_lit 84, nat_lit 85, nat_lit 87, nat_lit 88, nat_lit 89, nat_lit 91, nat_lit 92, nat_lit 94, nat_lit 95, nat_lit 96, nat_lit 98, nat_lit 99, nat_lit 101, nat_lit 102, nat_lit 103, nat_lit 105, nat_lit 106, nat_lit 108, nat_lit 109, nat_lit 110, nat_lit 112, nat_lit 113, nat_lit 115, nat_lit 116, nat_lit 117, nat_lit 120, nat_lit 121, nat_lit 122, nat_lit 125, nat_lit 126, nat_lit 127, nat_lit 129, nat_lit 130, nat_lit 132, nat_lit 133, nat_lit 134, nat_lit 136, nat_lit 137, nat_lit 139, nat_lit 140, nat_lit 141, nat_lit 143, nat_lit 144, nat_lit 146, nat_lit 147, nat_lit 148, nat_lit 150, nat_lit 151, nat_lit 153, nat_lit 154, nat_lit 155, nat_lit 158, nat_lit 159]
noncomputable abbrev HV : Hook := kHook K KA (fun _ => by kernel_rfl)
def qv : Program := { pw with main := { pw.main with body := stL 1 4 ++ (stL 6 51 ++ stL 58 11) } }
def looseV : List Str := ["b1_set", "b3_exceptions", "EXACT_TOKEN_TYPES"]
abbrev XtV : Shared → Bool := fun s => xlAt qv [] s && recOk [] s
theorem look_a (w : World) (os : OsState) : (staticsOk (importedModules pw.main.body) (boot_heap w.params) (absHeap (t_fin w.params) 160 lifeV) && namesBound pw (absHeap (t_fin w.params) 160 lifeV) && gensDone ⟨absHeap (t_fin w.params) 160 lifeV, #[], drawnV, 2522, os⟩ && laidKept (boot_heap w.params) (absHeap (t_fin w.params) 160 lifeV)) = true := by
  kernel_rfl
theorem look_c (w : World) (os : OsState) : HV.obs ⟨absHeap (t_fin w.params) 160 lifeV, #[], drawnV, 2522, os⟩ = HV.val w := by
  kernel_rfl
theorem size0 (w : World) : ((boot_heap w.params).isNs mainGlobals && (#[] : Array GenState).size == 0, (boot_heap w.params).objs.size, (boot_heap w.params).nsMap mainGlobals "__annotations__") = (true, 11, annV) := by
  kernel_rfl
theorem open0 : ∀ w : World, (fencedOpening treeTable pw w 30912).map (fun s => (s.heap, s.gens, s.drawn, s.toks)) = some (boot_heap w.params, Array.mk [], boot_drawn, boot_toks) := boot_open (p := pw) (N := 30912) (by kernel_rfl) (by decide) (fun s => by kernel_rfl)
end Mine
end
section
open PySem PySem.W PyProof.Rows
set_option maxRecDepth 1000000
set_option maxHeartbeats 0
namespace Mine
theorem look_seen (w : World) (os : OsState) : seen ((recsOf qv).map (·.name)) (ownsOf qv) [] { (⟨(absHeap (t_fin w.params) 160 lifeV), #[], drawnV, 2522, os⟩ : Shared) with gens := #[] } = expectedOf qv := by
  kernel_rfl
theorem look_blt (w : World) (os : OsState) : (⟨(absHeap (t_fin w.params) 160 lifeV), #[], drawnV, 2522, os⟩ : Shared).heap.bltView = bltViewBooted := by
  kernel_rfl
theorem look_keys (w : World) (os : OsState) : (⟨(absHeap (t_fin w.params) 160 lifeV), #[], drawnV, 2522, os⟩ : Shared).heap.keysOk (looseW qv looseV) ((recsOf qv).map (·.name)) ((litsOf qv).map (·.1)) ((clssOf qv (looseW qv looseV)).map (·.name)) = true := by
  kernel_rfl
theorem look_acc (w : World) (os : OsState) : (⟨(absHeap (t_fin w.params) 160 lifeV), #[], drawnV, 2522, os⟩ : Shared).heap.accountedOkI (importedModules pw.main.body) = true := by
  kernel_rfl
theorem look_ns1 (w : World) (os : OsState) : (⟨(absHeap (t_fin w.params) 160 lifeV), #[], drawnV, 2522, os⟩ : Shared).heap.isNs mainGlobals = true := by
  kernel_rfl
theorem look_ns2 (w : World) (os : OsState) : (⟨(absHeap (t_fin w.params) 160 lifeV), #[], drawnV, 2522, os⟩ : Shared).heap.isNs builtinsNs = true := by
  kernel_rfl
theorem look_xt (w : World) (os : OsState) : XtV ⟨(absHeap (t_fin w.params) 160 lifeV), #[], drawnV, 2522, os⟩ = true := by
  kernel_rfl
theorem look_tabs (w : World) (os : OsState) : tabsOk qv ⟨(absHeap (t_fin w.params) 160 lifeV), #[], drawnV, 2522, os⟩ = true := by
  kernel_rfl
theorem look_pin (w : World) (os : OsState) : pinSeenD qv (drecsOf qv) ⟨(absHeap (t_fin w.params) 160 lifeV), #[], drawnV, 2522, os⟩ = pinGoodD (drecsOf qv) := by
  kernel_rfl
theorem look_pe (w : World) (os : OsState) : plainSeenE qv (looseW qv looseV) ⟨(absHeap (t_fin w.params) 160 lifeV), #[], drawnV, 2522, os⟩ = plainGoodE qv (looseW qv looseV) := by
  kernel_rfl
theorem look_pd (w : World) (os : OsState) : plainSeenD qv looseV ⟨(absHeap (t_fin w.params) 160 lifeV), #[], drawnV, 2522, os⟩ = plainGoodD qv looseV := by
  kernel_rfl
theorem look_wide (w : World) (os : OsState) : wideSeen qv ⟨(absHeap (t_fin w.params) 160 lifeV), #[], drawnV, 2522, os⟩ = wideGood qv := by
  kernel_rfl
theorem look_cls (w : World) (os : OsState) : clsSeenW qv looseV ⟨(absHeap (t_fin w.params) 160 lifeV), #[], drawnV, 2522, os⟩ = clsGoodW qv looseV := by
  kernel_rfl
open PySem.Spec in
def ascP : Int → List (PyData × PyData) → Bool
  | _, [] => true
  | b, (.int i, _) :: r => decide (b < i) && ascP i r
  | _, _ => false
open PySem.Spec in
theorem no_key {j : Int} : ∀ {D : List (PyData × PyData)} {b : Int}, ascP b D = true → j ≤ b → hasIntKey j D = false
  | [], _, _, _ => rfl
  | (.int i, _) :: r, b, h, hj => by
    simp only [ascP, Bool.and_eq_true, decide_eq_true_eq] at h
    have e : (i == j) = false := beq_eq_false_iff_ne.mpr (by omega)
    rw [hasIntKey, e, Bool.false_or]
    exact no_key h.2 (by omega)
  | (.none, _) :: _, _, h, _ | (.bool _, _) :: _, _, h, _ | (.str _, _) :: _, _, h, _ | (.list _, _) :: _, _, h, _ | (.tuple _, _) :: _, _, h, _ | (.dict _, _) :: _, _, h, _ => by simp [ascP] at h
open PySem.Spec in
theorem apart_asc : ∀ {D : List (PyData × PyData)} {b : Int}, ascP b D = true → keysApartInt D = true
  | [], _, _ => rfl
  | (.int i, _) :: r, b, h => by
    simp only [ascP, Bool.and_eq_true, decide_eq_true_eq] at h
    rw [keysApartInt, no_key h.2 (Int.le_refl _), apart_asc h.2]
    rfl
  | (.none, _) :: _, _, h | (.bool _, _) :: _, _, h | (.str _, _) :: _, _, h | (.list _, _) :: _, _, h | (.tuple _, _) :: _, _, h | (.dict _, _) :: _, _, h => by simp [ascP] at h
def D3 := (topPairs? (dK 3) (dV 3)).getD []
theorem tab_ok {h : Heap} {x : Str} {a : Addr} {es : List DictEntry} {ep : Nat} {D' : List (PyData × PyData)} (e1 : h.nsMap mainGlobals x = some (.ref a)) (e2 : h.get? a = some (D es ep)) (e3 : entriesAreInt es D' = true) (e4 : keysApartInt D' = true) (e5 : (a != sysModules) = true) : h.tabIntOk x D' = true := by
  unfold Heap.tabIntOk
  rw [e1]
  simp only
  rw [e2]
  simp only [e3, e4, e5]
  rfl
theorem tables_ok {q : Program} {h : Heap} {x₀ : Str} {D' : List (PyData × PyData)} (t1 : tupIntsOf q x₀ = none) (t2 : tupStrsOf q x₀ = none) (t3 : tabIntOf q x₀ = some D') (t4 : h.tabIntOk x₀ D' = true)
    (hA : ((valNames q).all fun x => x == x₀ || ((match tupIntsOf q x with | some ns => h.tupIntsOk x ns | none => true) &&
      (match tupStrsOf q x with | some ss => h.tupStrsOk x ss | none => true) && (match tabIntOf q x with | some D => h.tabIntOk x D | none => true))) = true) : tablesOk q h = true := by
  unfold tablesOk
  rw [List.all_eq_true] at hA ⊢
  intro x hx
  have k := hA x hx
  by_cases e : x = x₀
  · subst e
    simp only [t1, t2, t3, t4]
    rfl
  · rw [beq_eq_false_iff_ne.mpr e, Bool.false_or] at k
    exact k
theorem tb_1 : tupIntsOf qv "b3_exceptions" = none := by kernel_rfl
theorem tb_2 : tupStrsOf qv "b3_exceptions" = none := by kernel_rfl
theorem tb_3 : tabIntOf qv "b3_exceptions" = some D3 := by kernel_rfl
theorem tb_4 (w : World) : Heap.nsMap (absHeap (t_fin w.params) 160 lifeV) mainGlobals "b3_exceptions" = some (.ref 33) := by kernel_rfl
theorem tb_5 (w : World) : Heap.get? (absHeap (t_fin w.params) 160 lifeV) 33 = some (D (ents 3 (kvs.take 646) 256 ++ ents 2 (kvs.drop 646) 2194) 650) := by kernel_rfl
theorem tb_6 : entriesAreInt (ents 3 (kvs.take 646) 256 ++ ents 2 (kvs.drop 646) 2194) D3 = true := by kernel_rfl
theorem tb_7 : keysApartInt D3 = true := apart_asc (b := -1) (by kernel_rfl)
theorem tb_8 (w : World) : ((valNames qv).all fun x => x == "b3_exceptions" || ((match tupIntsOf qv x with | some ns => Heap.tupIntsOk (absHeap (t_fin w.params) 160 lifeV) x ns | none => true) &&
    (match tupStrsOf qv x with | some ss => Heap.tupStrsOk (absHeap (t_fin w.params) 160 lifeV) x ss | none => true) && (match tabIntOf qv x with | some D => Heap.tabIntOk (absHeap (t_fin w.params) 160 lifeV) x D | none => true))) = true := by kernel_rfl
theorem look_tb (w : World) : tablesOk qv (absHeap (t_fin w.params) 160 lifeV) = true := tables_ok tb_1 tb_2 tb_3 (tab_ok (tb_4 w) (tb_5 w) tb_6 tb_7 (by decide)) (tb_8 w)
theorem look_k (w : World) (os : OsState) : ((⟨(absHeap (t_fin w.params) 160 lifeV), #[], drawnV, 2522, os⟩ : Shared).heap.keysOk (looseW qv looseV) ((recsOf qv).map (·.name)) ((litsOf qv).map (·.1)) ((clssOf qv (looseW qv looseV)).map (·.name)) && (⟨(absHeap (t_fin w.params) 160 lifeV), #[], drawnV, 2522, os⟩ : Shared).heap.accountedOkI (importedModules pw.main.body) && (⟨(absHeap (t_fin w.params) 160 lifeV), #[], drawnV, 2522, os⟩ : Shared).heap.isNs mainGlobals && (⟨(absHeap (t_fin w.params) 160 lifeV), #[], drawnV, 2522, os⟩ : Shared).heap.isNs builtinsNs && tablesOk qv (⟨(absHeap (t_fin w.params) 160 lifeV), #[], drawnV, 2522, os⟩ : Shared).heap && XtV ⟨(absHeap (t_fin w.params) 160 lifeV), #[], drawnV, 2522, os⟩ && (if true then (⟨(absHeap (t_fin w.params) 160 lifeV), #[], drawnV, 2522, os⟩ : Shared).gens.size == 0 else !leftWithCleanup (⟨(absHeap (t_fin w.params) 160 lifeV), #[], drawnV, 2522, os⟩ : Shared).gens)) = true := by
  rw [look_keys w os, look_acc w os, look_ns1 w os, look_ns2 w os, look_tb w, look_xt w os]
  rfl
theorem look_b (w : World) (os : OsState) : openSeen qv looseV (importedModules pw.main.body) XtV true ⟨(absHeap (t_fin w.params) 160 lifeV), #[], drawnV, 2522, os⟩ = openGood qv looseV :=
  looks_pair (look_seen w os) (looks_pair (look_blt w os) (looks_pair (look_k w os) (looks_pair (look_tabs w os) (looks_pair (look_pin w os) (looks_pair (look_pe w os) (looks_pair (look_pd w os) (looks_pair (look_wide w os) (look_cls w os))))))))
theorem left0 : LeftO pw qv looseV XtV HV.obs HV.val 30912 :=
  LeftO.of_pieces (H₀ := boot_heap) (H₁ := fun P => absHeap (t_fin P) 160 lifeV) (gs₀ := #[]) (gs₁ := #[]) (d₀ := boot_drawn) (d₁ := drawnV) (k₀ := boot_toks) (k₁ := 2522) (m₀ := 11) (ann := annV) open0 size0 top_run (by decide)
    (fun w => funext fun os => looks_pair (look_a w os) (looks_pair (look_b w os) (look_c w os)))
end Mine
end
section
open PySem PySem.W PyProof.Rows
set_option maxRecDepth 100000
set_option maxHeartbeats 8000000
namespace Mine
local macro_rules | `(tactic| walk_at $s:str) => `(tactic| k_extra $s)
theorem hooks5 : True := by
  k_with_none
  trivial

/-- what a call of the text's def at f gives back: a value and new objects on the ledger -/
def Spec (w : World) (f : Addr) (vs : List Value) (news : List (Addr × Obj)) (d u : Nat) (Post : Value → List (Addr × Obj) → Prop) : Prop :=
  ∀ (p : Program) (loose : List Str) (mean : ExcName → Option Value) (mg mb : Str → Option Value)
    (dp un : Nat) (gd : Option (List Code)) (cn : Str) (cs : Scope) (a : Addr) (ccd : Value) (cl : List (Str × Addr)) (outer : List Env) (A₀ : Around) (base h₀ : Heap) (L : Addr) (m : Str → Option Value) (s : Shared) (Q E : Value → Shared → Prop),
    Below A₀ base outer h₀ → Fr h₀ L s.heap m → (K w.params).In h₀ → News h₀ L s.heap news → Top p loose mean mg mb h₀ → cs.kind = .function →
    dp + d < recursionLimit → un + u < cLine →
    (∀ (v : Value) (new : List (Addr × Obj)) (h' : Heap) (tk' : Nat), Post v new → Fr h₀ L h' m → News h₀ L h' (new ++ news) → Q v { s with heap := h', toks := tk' }) →
      wpAny (model PySem.Challenge.rw_pg0280_01.prog w) (ktrTop dp un gd cn cs L a ccd cl outer) (call (.ref f) vs) Q E s

/-! ## the set b1_set -/
def b1L : List Int := [65024, 65025, 65026, 65027, 65028, 65029, 6150, 65030, 65031, 65032, 65033, 6155, 6156, 6157, 8203, 8204, 8205, 65034, 65035, 65036, 65037, 65038, 65039, 173, 847, 8288, 65279]
def chkSet : List (Int × Value) → List Int → Bool
  | [], [] => true
  | (h, .int i _) :: es, k :: r => decide (h = hashInt k) && decide (i = k) && chkSet es r
  | _, _ => false
theorem chkSet_spec (prog : Program) (w : World) : ∀ {es : List (Int × Value)} {ks : List Int}, chkSet es ks = true →
    ElemsOf (intKind prog w) es ∧ (∀ k, k ∈ ks ↔ ∃ e ∈ es, (intKind prog w).is k e.2 = true)
  | [], [], _ => ⟨(fun _ h => nomatch h), fun k => ⟨(fun h => nomatch h), (fun ⟨_, h, _⟩ => nomatch h)⟩⟩
  | (h, v) :: es, [], e => by cases v <;> simp [chkSet] at e
  | [], _ :: _, e => by simp [chkSet] at e
  | (h, v) :: es, k :: r, e => by
    cases v <;> simp only [chkSet, Bool.and_eq_true, decide_eq_true_eq, Bool.false_eq_true, and_false, false_and] at e
    rename_i i t
    obtain ⟨⟨rfl, rfl⟩, e⟩ := e
    obtain ⟨a, b⟩ := chkSet_spec prog w e
    refine ⟨?_, fun k => ?_⟩
    · intro x hx
      rcases List.mem_cons.mp hx with rfl | hx
      · exact ⟨⟨i, by simp [intKind, Value.isInt], rfl⟩, rfl⟩
      · exact a x hx
    · rw [List.mem_cons, b k]
      constructor
      · rintro (rfl | ⟨x, hx, hy⟩)
        · exact ⟨_, .head _, by simp [intKind, Value.isInt]⟩
        · exact ⟨x, .tail _ hx, hy⟩
      · rintro ⟨x, hx, hy⟩
        rcases List.mem_cons.mp hx with rfl | hx
        · left
          simp [intKind, Value.isInt] at hy
          exact hy.symm
        · exact .inr ⟨x, hx, hy⟩
theorem setOf_chk {prog : Program} {w : World} {h : Heap} {a : Addr} {es : Array (Int × Value)} {ep : Nat} {t : SetTable} (ks : List Int)
    (ho : h.get? a = some ⟨.type "set", none, .set es ep t, #[]⟩) (hc : chkSet es.toList ks = true) (hs : es.size < scanBound) (hf : t.fits es.size = true) :
    h.SetOf (intKind prog w) a (fun k => decide (k ∈ ks)) es.size := by
  obtain ⟨a, b⟩ := chkSet_spec prog w hc
  exact ⟨_, es, ep, t, ho, ⟨rfl, rfl, rfl⟩, rfl, a, fun k => by rw [decide_eq_true_eq]; exact b k, hs, hf, rfl⟩
theorem b1_setOf (w : World) {h : Heap} (X : (K w.params).In h) : h.SetOf (intKind PySem.Challenge.rw_pg0280_01.prog w) 22 (fun k => decide (k ∈ b1L)) 27 :=
  setOf_chk b1L (X 22 _ rfl) (by decide +kernel) (by decide +kernel) rfl

def inB1 (c : Nat) : Bool := decide ((c : Int) ∈ b1L)
theorem in_b1 {w : World} {A : Around} {h₀ : Heap} {L : Addr} {m : Str → Option Value} {s : Shared} {c : Nat} {t : Tok} {Q E : Value → Shared → Prop} (F : Fr h₀ L s.heap m) (X : (K w.params).In h₀)
    (h : Q (.bool (inB1 c)) { s with toks := s.toks + 1 }) : wpAny (model PySem.Challenge.rw_pg0280_01.prog w) A (compareOp .In (.int (c : Int) t) (.ref 22)) Q E s :=
  wpAny_inSet_of (knd := intKind PySem.Challenge.rw_pg0280_01.prog w) (k := (c : Int)) (by simp [intKind, Value.isInt]) rfl (b1_setOf w (X.keeps F.keep)) h

theorem hook1 : True := by
  k_with "call builtin:ord" => ((refine P.ord_of_char ?_))
  trivial
theorem hook2 : True := by
  k_with "compareOp In" => ((k_here; (with_reducible show wpAny _ _ (compareOp CmpOp.In (Value.int _ _) (Value.ref 22)) _ _ _); (refine in_b1 (by k_asm) (by k_asm) ?_)))
  trivial

theorem Spec.use {w : World} {f : Addr} {vs : List Value} {news : List (Addr × Obj)} {d u : Nat} {Post : Value → List (Addr × Obj) → Prop} (S : Spec w f vs news d u Post)
    {p : Program} {loose : List Str} {mean : ExcName → Option Value} {mg mb : Str → Option Value}
    {dp un : Nat} {gd : Option (List Code)} {cn : Str} {cs : Scope} {a : Addr} {ccd : Value} {cl : List (Str × Addr)} {outer : List Env} {A₀ : Around} {base h₀ : Heap} {L : Addr} {m : Str → Option Value} {s : Shared} {Q E : Value → Shared → Prop}
    (B : Below A₀ base outer h₀) (F : Fr h₀ L s.heap m) (X : (K w.params).In h₀) (N : News h₀ L s.heap news) (T : Top p loose mean mg mb h₀) (hk : cs.kind = .function) (hd : dp + d < recursionLimit) (hu : un + u < cLine)
    (h : ∀ (v : Value) (new : List (Addr × Obj)) (h' : Heap) (tk' : Nat), Post v new → Fr h₀ L h' m → News h₀ L h' (new ++ news) → Q v { s with heap := h', toks := tk' }) :
    wpAny (model PySem.Challenge.rw_pg0280_01.prog w) (ktrTop dp un gd cn cs L a ccd cl outer) (call (.ref f) vs) Q E s :=
  S p loose mean mg mb dp un gd cn cs a ccd cl outer A₀ base h₀ L m s Q E B F X N T hk hd hu h

theorem Spec.use0 {w : World} {f : Addr} {vs : List Value} {news : List (Addr × Obj)} {d u : Nat} {val : Value} (S : Spec w f vs news d u (fun v new => v = val ∧ new = []))
    {p : Program} {loose : List Str} {mean : ExcName → Option Value} {mg mb : Str → Option Value}
    {dp un : Nat} {gd : Option (List Code)} {cn : Str} {cs : Scope} {a : Addr} {ccd : Value} {cl : List (Str × Addr)} {outer : List Env} {A₀ : Around} {base h₀ : Heap} {L : Addr} {m : Str → Option Value} {s : Shared} {Q E : Value → Shared → Prop}
    (B : Below A₀ base outer h₀) (F : Fr h₀ L s.heap m) (X : (K w.params).In h₀) (N : News h₀ L s.heap news) (T : Top p loose mean mg mb h₀) (hk : cs.kind = .function) (hd : dp + d < recursionLimit) (hu : un + u < cLine)
    (h : ∀ (h' : Heap) (tk' : Nat), Fr h₀ L h' m → News h₀ L h' news → Q val { s with heap := h', toks := tk' }) :
    wpAny (model PySem.Challenge.rw_pg0280_01.prog w) (ktrTop dp un gd cn cs L a ccd cl outer) (call (.ref f) vs) Q E s :=
  S.use B F X N T hk hd hu fun v new h' tk' P F' N' => by obtain ⟨rfl, rfl⟩ := P; exact h h' tk' F' N'
theorem Spec.useT {w : World} {f : Addr} {vs : List Value} {news : List (Addr × Obj)} {d u : Nat} {val : Tok → Value} (S : Spec w f vs news d u (fun v new => (∃ t, v = val t) ∧ new = []))
    {p : Program} {loose : List Str} {mean : ExcName → Option Value} {mg mb : Str → Option Value}
    {dp un : Nat} {gd : Option (List Code)} {cn : Str} {cs : Scope} {a : Addr} {ccd : Value} {cl : List (Str × Addr)} {outer : List Env} {A₀ : Around} {base h₀ : Heap} {L : Addr} {m : Str → Option Value} {s : Shared} {Q E : Value → Shared → Prop}
    (B : Below A₀ base outer h₀) (F : Fr h₀ L s.heap m) (X : (K w.params).In h₀) (N : News h₀ L s.heap news) (T : Top p loose mean mg mb h₀) (hk : cs.kind = .function) (hd : dp + d < recursionLimit) (hu : un + u < cLine)
    (h : ∀ (t : Tok) (h' : Heap) (tk' : Nat), Fr h₀ L h' m → News h₀ L h' news → Q (val t) { s with heap := h', toks := tk' }) :
    wpAny (model PySem.Challenge.rw_pg0280_01.prog w) (ktrTop dp un gd cn cs L a ccd cl outer) (call (.ref f) vs) Q E s :=
  S.use B F X N T hk hd hu fun v new h' tk' P F' N' => by obtain ⟨⟨t, rfl⟩, rfl⟩ := P; exact h t h' tk' F' N'

theorem inB1_spec (w : World) (c : Nat) (t : Tok) (news : List (Addr × Obj)) : Spec w 32 [.str ⟨#[c]⟩ t] news 1 8 (fun v new => v = .bool (inB1 c) ∧ new = []) := by
  unfold Spec
  k_fill
  intros
  rename_i hret
  refine wpAny_call ?_
  k_dflt cell_enter
  k_steps
  all_goals exact hret _ [] _ _ ⟨rfl, rfl⟩ (by assumption) (by assumption)

/-! ## the table b3_exceptions -/
def b3Of : Stmt → List (Int × Str)
  | .Assign _ (.Dict ks vs _) _ => (ks.zip vs).filterMap fun kv => match kv with
    | (some (.Constant (.int k) _ _), .Constant (.str x) _ _) => some (k, x)
    | _ => none
  | _ => []
def b3P : List (Int × Str) := b3Of ((PySem.Challenge.pw_pg0280_01.main.body[3]?).getD (.Pass ⟨0, 0, 0, 0⟩))
def litI : Value → Option Int
  | .int i _ => some i
  | _ => none
def litS : Value → Option Str
  | .str y _ => some y
  | _ => none
theorem litI_some {v : Value} {i : Int} (h : litI v = some i) : ∃ t, v = .int i t := by
  unfold litI at h
  split at h
  · exact ⟨_, by rw [Option.some.inj h]⟩
  · cases h
theorem litS_some {v : Value} {x : Str} (h : litS v = some x) : ∃ t, v = .str x t := by
  unfold litS at h
  split at h
  · exact ⟨_, by rw [Option.some.inj h]⟩
  · cases h
def chkTab : List DictEntry → List (Int × Str) → Bool
  | [], [] => true
  | e :: es, p :: r => decide (e.hash = hashInt p.1) && (decide (litI e.key = some p.1) && (decide (litS e.val = some p.2) && chkTab es r))
  | _, _ => false
def ascend : List Int → Bool
  | [] => true
  | [_] => true
  | a :: b :: r => decide (a < b) && ascend (b :: r)
theorem ascend_lt : ∀ {l : List Int} {a : Int}, ascend (a :: l) = true → ∀ b ∈ l, a < b
  | [], _, _, _, hb => nomatch hb
  | c :: r, a, h, b, hb => by
    simp only [ascend, Bool.and_eq_true, decide_eq_true_eq] at h
    rcases List.mem_cons.mp hb with rfl | hb
    · exact h.1
    · exact Int.lt_trans h.1 (ascend_lt h.2 b hb)
theorem ascend_nodup : ∀ {l : List Int}, ascend l = true → l.Nodup
  | [], _ => List.nodup_nil
  | a :: l, h => by
    refine List.nodup_cons.mpr ⟨fun hm => Int.lt_irrefl a (ascend_lt h a hm), ascend_nodup ?_⟩
    cases l with
    | nil => rfl
    | cons b r => simp only [ascend, Bool.and_eq_true, decide_eq_true_eq] at h; exact h.2
def valsAs : List DictEntry → List (Int × Str) → List (Int × Value)
  | e :: es, (k, _) :: r => (k, e.val) :: valsAs es r
  | _, _ => []
def pyOf (l : List (Int × Str)) : List (PyData × PyData) := l.map fun p => (.int p.1, .str p.2)
theorem chkTab_spec (prog : Program) (w : World) : ∀ {es : List DictEntry} {l : List (Int × Str)}, chkTab es l = true →
    (∀ e ∈ es, ∃ k, (intKind prog w).is k e.key = true ∧ e.hash = (intKind prog w).hash k) ∧ PySem.Pairs (intKind prog w) es (valsAs es l) ∧ (valsAs es l).map (·.1) = l.map (·.1) ∧ PyProof.V.FlatPairs PyData.int (valsAs es l) (pyOf l)
  | [], [], _ => ⟨(fun _ h => nomatch h), PySem.Pairs.nil, rfl, PyProof.V.FlatPairs.nil⟩
  | _ :: _, [], e => nomatch e
  | [], _ :: _, e => nomatch e
  | x :: es, p :: r, e => by
    simp only [chkTab, Bool.and_eq_true, decide_eq_true_eq] at e
    have e1 := e.1
    obtain ⟨t, e2⟩ := litI_some e.2.1
    obtain ⟨t', e3⟩ := litS_some e.2.2.1
    have q := chkTab_spec prog w e.2.2.2
    have e4 : (intKind prog w).is p.1 x.key = true := by rw [e2]; simp [intKind, Value.isInt]
    refine ⟨?_, ?_, ?_, ?_⟩
    · intro z hz
      rcases List.mem_cons.mp hz with h | hz
      · rw [h]; exact ⟨p.1, e4, e1⟩
      · exact q.1 z hz
    · exact PySem.Pairs.cons e4 rfl q.2.1
    · show p.1 :: (valsAs es r).map (·.1) = p.1 :: r.map (·.1)
      rw [q.2.2.1]
    · exact PyProof.V.FlatPairs.cons (by rw [e3]; exact PyProof.V.Flat.str _ _) q.2.2.2

theorem tab_chk {prog : Program} {w : World} {h : Heap} {a : Addr} {es : Array DictEntry} {ep : Nat} (l : List (Int × Str)) (ho : h.get? a = some ⟨.type "dict", none, .dict es ep, #[]⟩) (lo : (a == sysModules) = false)
    (hc : chkTab es.toList l = true) (hn : ascend (l.map (·.1)) = true) : TabAt (intKind prog w) PyData.int h a (pyOf l) := by
  obtain ⟨a, b, c, d⟩ := chkTab_spec prog w hc
  exact ⟨lo, _, ⟨_, es, ep, ho, ⟨rfl, rfl, rfl⟩, rfl, (fun e he => a e (Array.mem_toList_iff.mpr he)), b, by rw [c]; exact ascend_nodup hn⟩, d⟩
theorem tab33 (w : World) {h : Heap} (X : (K w.params).In h) : TabAt (intKind PySem.Challenge.rw_pg0280_01.prog w) PyData.int h 33 (pyOf b3P) :=
  tab_chk b3P (X 33 _ rfl) rfl (by kernel_rfl) (by kernel_rfl)
/-- what map_table_b3 gives for one sign -/
def b3 (c : Nat) : Str := match Spec.lookup (.int (c : Int)) (pyOf b3P) with
  | some (.str x) => x
  | _ => Txt.lower ⟨#[c]⟩

theorem lookup_pyOf (k : Int) : ∀ l : List (Int × Str), Spec.lookup (.int k) (pyOf l) = none ∨ ∃ x, Spec.lookup (.int k) (pyOf l) = some (.str x)
  | [] => .inl rfl
  | p :: r => by
    show (if Spec.same (.int p.1) (.int k) then some (PyData.str p.2) else Spec.lookup (.int k) (pyOf r)) = none ∨ ∃ x, (if Spec.same (.int p.1) (.int k) then some (PyData.str p.2) else Spec.lookup (.int k) (pyOf r)) = some (.str x)
    split
    · exact .inr ⟨_, rfl⟩
    · exact lookup_pyOf k r
theorem get33 {w : World} {A : Around} {h₀ : Heap} {L : Addr} {m : Str → Option Value} {s : Shared} {c : Int} {t : Tok} {Q E : Value → Shared → Prop} (F : Fr h₀ L s.heap m) (X : (K w.params).In h₀)
    (h1 : ∀ x t', Spec.lookup (.int c) (pyOf b3P) = some (.str x) → Q (.str x t') { s with toks := s.toks + 1 }) (h2 : Spec.lookup (.int c) (pyOf b3P) = none → Q .none { s with toks := s.toks + 1 }) :
    wpAny (model PySem.Challenge.rw_pg0280_01.prog w) A (call (.builtin "dict.get") [.ref 33, .int c t]) Q E s := by
  refine call_get1_intTab (tab33 w (X.keeps F.keep)) fun v hv => ?_
  rcases lookup_pyOf c b3P with e | ⟨x, e⟩
  · rw [e] at hv
    rw [PyProof.V.Flat.none_inv hv]
    exact h2 e
  · rw [e] at hv
    obtain ⟨t', rfl⟩ := PyProof.V.Flat.str_inv hv
    exact h1 x t' e

theorem hook3 : True := by
  k_with "getMethod ref" => ((k_here; (with_reducible show wpAny _ _ (getMethod (Value.ref 33) _ _) _ _ _); (refine getMethod_intTab_get (tab33 _ (Frag.In.keeps (by k_asm) (Fr.keep (by k_asm)))) ?_)))
  trivial
theorem hook4 : True := by
  k_with "call builtin:dict.get" => ((k_here; (with_reducible show wpAny _ _ (call (Value.builtin "dict.get") [Value.ref 33, _]) _ _ _); (refine get33 (by k_asm) (by k_asm) ?_ ?_ <;> intros)))
  trivial
theorem hook5 : True := by
  k_with "call builtin:str.lower" => ((refine SCL.lower (by show (1 : Nat) ≤ 5592405; decide) ?_; intro _))
  trivial
theorem b3_spec (w : World) (c : Nat) (t : Tok) (news : List (Addr × Obj)) : Spec w 78 [.str ⟨#[c]⟩ t] news 1 8 (fun v new => (∃ t', v = .str (b3 c) t') ∧ new = []) := by
  unfold Spec
  k_fill
  intros
  rename_i hret
  refine wpAny_call ?_
  k_dflt cell_enter
  k_steps
  · have e := ‹Spec.lookup (.int (c : Int)) (pyOf b3P) = some (.str _)›
    exact hret _ [] _ _ ⟨⟨_, by rw [b3, e]⟩, rfl⟩ (by assumption) (by assumption)
  · have e := ‹Spec.lookup (.int (c : Int)) (pyOf b3P) = none›
    exact hret _ [] _ _ ⟨⟨_, by rw [b3, e]⟩, rfl⟩ (by assumption) (by assumption)
end Mine
end
section
open PySem PySem.W PyProof.Rows
set_option maxRecDepth 100000
set_option maxHeartbeats 8000000
namespace Mine
local macro_rules | `(tactic| walk_at $s:str) => `(tactic| k_extra $s)
theorem hooks8 : True := by
  k_with_none
  trivial
/-- what _law_told gives for one sign -/
def told (c : Nat) : Str := if inB1 c = true then Str.ofString "\n" else b3 c

theorem hook6 : True := by
  k_with "call ref" => ((k_here; (with_reducible show wpAny _ _ (call (Value.ref 32) _) _ _ _); k_dflt (refine' Spec.use0 (inB1_spec _ _ _ _) ?Bq6 ?Fq6 ?Xq6 ?Nq6 ?Tq6 ?Kq6 ?dq6 ?uq6 ?_; (case Bq6 => k_asm); (case Fq6 => k_asm); (case Xq6 => k_asm); (case Nq6 => k_asm); (case Tq6 => k_asm); (case Kq6 => first | exact rfl | assumption); (case dq6 => ktr_room); (case uq6 => ktr_units)); (intro h9qz tk9qz F9qz N9qz)))
  trivial
theorem hook7 : True := by
  k_with "call ref" => ((k_here; (with_reducible show wpAny _ _ (call (Value.ref 78) _) _ _ _); k_dflt (refine' Spec.useT (b3_spec _ _ _ _) ?Bq7 ?Fq7 ?Xq7 ?Nq7 ?Tq7 ?Kq7 ?dq7 ?uq7 ?_; (case Bq7 => k_asm); (case Fq7 => k_asm); (case Xq7 => k_asm); (case Nq7 => k_asm); (case Tq7 => k_asm); (case Kq7 => first | exact rfl | assumption); (case dq7 => ktr_room); (case uq7 => ktr_units)); (intro t9qz h9qz tk9qz F9qz N9qz)))
  trivial

theorem told_spec (w : World) (c : Nat) (t : Tok) (news : List (Addr × Obj)) : Spec w 116 [.str ⟨#[c]⟩ t] news 2 16 (fun v new => (∃ t', v = .str (told c) t') ∧ new = []) := by
  unfold Spec
  k_fill
  intros
  rename_i hret
  refine wpAny_call ?_
  k_dflt cell_enter
  k_steps
  · have e := ‹inB1 c = true›
    exact hret _ [] _ _ ⟨⟨_, by rw [told, if_pos e]⟩, rfl⟩ (by assumption) (by assumption)
  · have e := ‹inB1 c = false›
    exact hret _ [] _ _ ⟨⟨_, by rw [told, e]; rfl⟩, rfl⟩ (by assumption) (by assumption)
theorem nonterm_spec (w : World) (x : Int) (t : Tok) (news : List (Addr × Obj)) : Spec w 88 [.int x t] news 1 8 (fun v new => v = .bool (decide (256 ≤ x)) ∧ new = []) := by
  unfold Spec
  k_fill
  intros
  rename_i hret
  refine wpAny_call ?_
  k_dflt cell_enter
  k_steps
  all_goals exact hret _ [] _ _ ⟨rfl, rfl⟩ (by assumption) (by assumption)

theorem add_lists_at {prog : Program} {w : World} {A : Around} {E : Value → Shared → Prop} {s : Shared} {h₀ : Heap} {L : Addr} {m : Str → Option Value} {news : List (Addr × Obj)} {l b : Addr} {vs ws : List Value} {Q : Value → Shared → Prop} (F : Fr h₀ L s.heap m) (N : News h₀ L s.heap news) (hl : s.heap.IsList l vs.toArray) (hb : s.heap.IsList b ws.toArray)
    (hsz : vs.length + ws.length ≤ sizeLine)
    (h : ∀ d h', Fr h₀ L h' m → News h₀ L h' ((d, listOf (vs ++ ws).toArray 0) :: news) → (∀ p ∈ news, p.1 < d) → h'.IsList d (vs ++ ws).toArray → Q (.ref d) { s with heap := h' }) :
    wpAny (model prog w) A (binaryOp .Add (.ref l) (.ref b)) Q E s :=
  add_lists (hsz := hsz) F N hl hb fun h' F' N' => h _ h' F' N' (fun p hp => Heap.lt_size (N p hp).1) (N'.isList (.head _))

theorem hook8 : True := by
  k_with "binaryOp Add" => ((k_here; (with_reducible show wpAny _ _ (binaryOp _ (Value.ref _) (Value.ref _)) _ _ _); k_dflt (refine' add_lists_at ?Fq8 ?Nq8 ?lq8 ?bq8 ?zq8 ?_; (case Fq8 => k_asm); (case Nq8 => k_asm); (case lq8 => first | assumption | exact News.isList (by k_asm) (by k_mem)); (case bq8 => first | assumption | exact News.isList (by k_asm) (by k_mem)); (case zq8 => (have hI9qz := IntsAre.length (IntsAre.ofCarried (by assumption))); (simp only [List.length_append, List.length_cons, List.length_nil, hI9qz]; decide)); intro dpqz hpqz Fpqz Npqz l1qz hl9qz; (try k_lt l1qz))))
  trivial

theorem news_tail {h₀ h : Heap} {L : Addr} {p : Addr × Obj} {l : List (Addr × Obj)} (N : News h₀ L h (p :: l)) : News h₀ L h l := fun q hq => N q (.tail _ hq)
theorem item_ints {prog : Program} {w : World} {A : Around} {E : Value → Shared → Prop} {s : Shared} {l : Addr} {vs : List Value} {ns : List Int} {k : Int} {u : Tok} {value slice : PySem.Expr} {Q : Value → Shared → Prop} (hl : s.heap.IsList l vs.toArray) (hi : IntsAre vs ns)
    (h0 : 0 ≤ k) (hk : k < (ns.length : Int)) (hm : (ns.length : Int) < 2 ^ 63) (h : ∀ n t, ns[k.toNat]? = some n → Q (.int n t) s)
    (hs : subscripted slice false (.ref l) (.int k u) = operate [.ref l, .int k u] (getItem (.ref l) (.int k u)) := by with_unfolding_all rfl) :
    wpAny (model prog w) A (subscriptTail value slice (.ref l) (.int k u)) Q E s := by
  have hlt : k.toNat < ns.length := by omega
  obtain ⟨t, hx⟩ := hi.get k.toNat _ (List.getElem?_eq_getElem hlt)
  exact tail_any hl.typeIs slot_list_getitem.lookup (wpAny_getItem_list hl h0 (by omega) (by simpa using hx) (h _ t (List.getElem?_eq_getElem hlt))) hs

theorem news_skip {h₀ h : Heap} {L : Addr} {p q : Addr × Obj} {l : List (Addr × Obj)} (N : News h₀ L h (p :: q :: l)) : News h₀ L h (p :: l) := fun x hx => by
  rcases List.mem_cons.mp hx with rfl | hx
  · exact N _ (.head _)
  · exact N _ (.tail _ (.tail _ hx))
theorem of_allLt {d : Addr} : ∀ {l : List (Addr × Obj)}, AllLt d l → ∀ p ∈ l, p.1 < d
  | [], _, _, h => nomatch h
  | _ :: _, h, p, hp => by
    rcases List.mem_cons.mp hp with rfl | hp
    · exact h.1
    · exact of_allLt h.2 p hp
theorem item_strs {prog : Program} {w : World} {A : Around} {E : Value → Shared → Prop} {s : Shared} {l : Addr} {vs : List Value} {ns : List Str} {k : Int} {u : Tok} {value slice : PySem.Expr} {Q : Value → Shared → Prop} (hl : s.heap.IsList l vs.toArray) (hi : StrsAre vs ns)
    (h0 : 0 ≤ k) (hk : k < (ns.length : Int)) (hm : (ns.length : Int) < 2 ^ 63) (h : ∀ t, Q (.str (ns.getD k.toNat Str.empty) t) s)
    (hs : subscripted slice false (.ref l) (.int k u) = operate [.ref l, .int k u] (getItem (.ref l) (.int k u)) := by with_unfolding_all rfl) :
    wpAny (model prog w) A (subscriptTail value slice (.ref l) (.int k u)) Q E s := by
  have hlt : k.toNat < ns.length := by omega
  obtain ⟨t, hx⟩ := hi.get k.toNat _ (List.getElem?_eq_getElem hlt)
  have e : ns.getD k.toNat Str.empty = ns[k.toNat] := by simp [List.getD, hlt]
  exact tail_any hl.typeIs slot_list_getitem.lookup (wpAny_getItem_list hl h0 (by omega) (by simpa using hx) (e ▸ h t)) hs

theorem unseen_spec (w : World) (x : Int) (t : Tok) (news : List (Addr × Obj)) : Spec w 109 [.int x t] news 1 8 (fun v new => (∃ c t', v = .str ⟨#[c]⟩ t' ∧ inB1 c = true)) := by
  unfold Spec
  k_fill
  intros
  rename_i hret
  refine wpAny_call ?_
  k_dflt cell_enter
  k_steps
  have hI := IntsAre.ofCarried ‹CarriedAll _ (List.map PyData.int (rangeInts 65024 1 ((65040 : Int) - 65024).toNat))›
  have hr : 0 ≤ (x.fdiv 480).fmod 27 := by rw [Int.fmod_eq_emod_of_nonneg _ (by decide)]; exact Int.emod_nonneg _ (by decide)
  have hr2 : (x.fdiv 480).fmod 27 < 27 := by rw [Int.fmod_eq_emod_of_nonneg _ (by decide)]; exact Int.emod_lt_of_pos _ (by decide)
  dsimp only
  refine item_ints (News.isList (by k_asm) (.head _)) (IntsAre.cons _ _ (IntsAre.cons _ _ (IntsAre.cons _ _ (IntsAre.cons _ _ (IntsAre.cons _ _ (IntsAre.cons _ _ (IntsAre.cons _ _ (IntsAre.cons _ _ (IntsAre.cons _ _ (IntsAre.cons _ _ (IntsAre.append hI (IntsAre.cons _ _ IntsAre.nil)))))))))))) hr hr2 (by decide) ?_
  intro n tn hn
  have hb : ∀ n ∈ (173 :: 847 :: 6150 :: 6155 :: 6156 :: 6157 :: 8203 :: 8204 :: 8205 :: 8288 :: (rangeInts 65024 1 ((65040 : Int) - 65024).toNat ++ [65279]) : List Int), 0 ≤ n ∧ n ≤ 1114111 ∧ inB1 n.toNat = true := by decide +kernel
  obtain ⟨n0, n1, n2⟩ := hb n (List.mem_of_getElem? hn)
  k_steps
  rename News _ _ _ (_ :: _) => kN9
  exact hret _ [] _ _ ⟨_, _, rfl, n2⟩ (by assumption) (news_tail (news_tail (news_tail (news_tail kN9))))
end Mine
end
section
open PySem PySem.W PyProof.Rows
set_option maxRecDepth 100000
set_option maxHeartbeats 20000000
namespace Mine
/-- the texts that an item may mean, as code points -/
def opSigns : List Nat := [46, 42, 61, 60, 47, 62, 45, 33, 43, 37, 38, 124, 94, 64, 58, 40, 41, 91, 93, 123, 125, 44, 59, 126]
def besideL : List Nat := [172, 174, 846, 848, 6149, 6151, 6154, 6158, 8202, 8206, 8287, 8289, 65023, 65040, 65278, 65280]
def ligL : List (List Nat) := [[102, 102], [102, 105], [102, 108], [102, 102, 105], [102, 102, 108], [115, 116]]
def plainL (first : Bool) : List (List Nat) := opSigns.map (fun c => [c]) ++ [102, 105, 108, 115, 116].map (fun c => [c]) ++ besideL.map (fun c => [c]) ++ ligL ++ (if first then [[99, 111, 46]] else [])
/-- the sign c is told as the text p, and p is one that an item may mean -/
def itemOk (first : Bool) (c : Nat) (p : Str) : Bool := decide (told c = p) && (plainL first).contains p.cps.toList
def tup2 (a b : Value) : Obj := { cls := .type "tuple", data := .seq #[a, b] }

theorem fmod_nn (a : Int) {b : Int} (h : 0 < b) : 0 ≤ a.fmod b := by rw [Int.fmod_eq_emod_of_nonneg _ (Int.le_of_lt h)]; exact Int.emod_nonneg _ (by omega)
theorem fmod_ltp (a : Int) {b : Int} (h : 0 < b) : a.fmod b < b := by rw [Int.fmod_eq_emod_of_nonneg _ (Int.le_of_lt h)]; exact Int.emod_lt_of_pos _ h
theorem fmod_nat (a : Int) (b : Nat) (h : 0 < b) : ∃ k : Nat, k < b ∧ a.fmod (b : Int) = (k : Int) := by
  have h1 := fmod_nn a (b := (b : Int)) (by omega)
  have h2 := fmod_ltp a (b := (b : Int)) (by omega)
  exact ⟨(a.fmod b).toNat, by omega, by omega⟩

theorem leaf0 : ∀ b, ∀ k < 24, ∃ c, Txt.item (Str.ofString ".*=</>-!+%&|^@:()[]{},;~") ((k : Nat) : Int) = ⟨#[c]⟩ ∧ itemOk b c (Txt.item (Str.ofString ".*=</>-!+%&|^@:()[]{},;~") ((k : Nat) : Int)) = true := by
  intro b k hk
  refine ⟨_, rfl, ?_⟩
  revert b k
  decide +kernel
theorem leaf1 : ∀ b, ∀ k < 5, ∃ c, Txt.item (Str.ofString "filst") ((k : Nat) : Int) = ⟨#[c]⟩ ∧ itemOk b c (Txt.item (Str.ofString "filst") ((k : Nat) : Int)) = true := by
  intro b k hk
  refine ⟨_, rfl, ?_⟩
  revert b k
  decide +kernel
def startsL : List Int := [65, 119808, 119860, 119912, 120016, 120172, 120224, 120276, 120328, 120380, 120432]
theorem leaf2 : ∀ b, ∀ j < 11, ∀ k < 5, 0 ≤ startsL.getD j 0 + ([102, 105, 108, 115, 116] : List Int).getD k 0 - 97 ∧ startsL.getD j 0 + ([102, 105, 108, 115, 116] : List Int).getD k 0 - 97 ≤ 1114111 ∧
    itemOk b (startsL.getD j 0 + ([102, 105, 108, 115, 116] : List Int).getD k 0 - 97).toNat (Txt.item (Str.ofString "filst") ((k : Nat) : Int)) = true := by
  decide +kernel
theorem leaf3 : ∀ k < 8, 0 ≤ ([64256, 64257, 64258, 64259, 64260, 64261, 64262, 13255] : List Int).getD k 0 ∧ ([64256, 64257, 64258, 64259, 64260, 64261, 64262, 13255] : List Int).getD k 0 ≤ 1114111 ∧
    itemOk true (([64256, 64257, 64258, 64259, 64260, 64261, 64262, 13255] : List Int).getD k 0).toNat (([Str.ofString "ff", Str.ofString "fi", Str.ofString "fl", Str.ofString "ffi", Str.ofString "ffl", Str.ofString "st", Str.ofString "st", Str.ofString "co."] : List Str).getD k Str.empty) = true := by
  decide +kernel
theorem leaf4 : ∀ k < 7, 0 ≤ ([64256, 64257, 64258, 64259, 64260, 64261, 64262, 13255] : List Int).getD k 0 ∧ ([64256, 64257, 64258, 64259, 64260, 64261, 64262, 13255] : List Int).getD k 0 ≤ 1114111 ∧
    itemOk false (([64256, 64257, 64258, 64259, 64260, 64261, 64262, 13255] : List Int).getD k 0).toNat (([Str.ofString "ff", Str.ofString "fi", Str.ofString "fl", Str.ofString "ffi", Str.ofString "ffl", Str.ofString "st", Str.ofString "st", Str.ofString "co."] : List Str).getD k Str.empty) = true := by
  decide +kernel
theorem leaf5 : ∀ b, ∀ k < 16, 0 ≤ ([172, 174, 846, 848, 6149, 6151, 6154, 6158, 8202, 8206, 8287, 8289, 65023, 65040, 65278, 65280] : List Int).getD k 0 ∧ ([172, 174, 846, 848, 6149, 6151, 6154, 6158, 8202, 8206, 8287, 8289, 65023, 65040, 65278, 65280] : List Int).getD k 0 ≤ 1114111 ∧
    itemOk b (([172, 174, 846, 848, 6149, 6151, 6154, 6158, 8202, 8206, 8287, 8289, 65023, 65040, 65278, 65280] : List Int).getD k 0).toNat ⟨#[(([172, 174, 846, 848, 6149, 6151, 6154, 6158, 8202, 8206, 8287, 8289, 65023, 65040, 65278, 65280] : List Int).getD k 0).toNat]⟩ = true := by
  decide +kernel

theorem item_spec (w : World) (x : Int) (b : Bool) (t : Tok) (news : List (Addr × Obj)) : Spec w 102 [.int x t, .bool b] news 1 8
    (fun v new => ∃ d c p t1 t2, v = .ref d ∧ new = [(d, tup2 (.str ⟨#[c]⟩ t1) (.str p t2))] ∧ itemOk b c p = true ∧ ∀ q ∈ news, q.1 < d) := by
  unfold Spec
  k_fill
  intros
  rename_i hret
  refine wpAny_call ?_
  k_dflt cell_enter
  k_steps
  · obtain ⟨k, hk, e⟩ := fmod_nat ((x.fdiv 4).fmod 120) 24 (by decide)
    have e' : ((x.fdiv 4).fmod 120).fmod 24 = (k : Int) := e
    obtain ⟨c, hc, ho⟩ := leaf0 b k hk
    rename News _ _ _ (_ :: _) => kN9
    rw [e', hc] at kN9
    rw [hc] at ho
    exact hret _ [_] _ _ ⟨_, _, _, _, _, rfl, rfl, ho, by assumption⟩ (by assumption) kN9
  · obtain ⟨k, hk, e⟩ := fmod_nat ((x.fdiv 4).fmod 120) 5 (by decide)
    have e' : ((x.fdiv 4).fmod 120).fmod 5 = (k : Int) := e
    obtain ⟨c, hc, ho⟩ := leaf1 b k hk
    rename News _ _ _ (_ :: _) => kN9
    rw [e', hc] at kN9
    rw [hc] at ho
    exact hret _ [_] _ _ ⟨_, _, _, _, _, rfl, rfl, ho, by assumption⟩ (by assumption) kN9
  · obtain ⟨j, hj, ej⟩ := fmod_nat (((x.fdiv 4).fmod 120).fdiv 5) 12 (by decide)
    have ej' : (((x.fdiv 4).fmod 120).fdiv 5).fmod 12 = (j : Int) := ej
    have hj0 := ‹(((x.fdiv 4).fmod 120).fdiv 5).fmod 12 ≠ 0›
    obtain ⟨k, hk, e⟩ := fmod_nat ((x.fdiv 4).fmod 120) 5 (by decide)
    have e' : ((x.fdiv 4).fmod 120).fmod 5 = (k : Int) := e
    have e1 : ((((x.fdiv 4).fmod 120).fdiv 5).fmod 12 - 1).toNat = j - 1 := by omega
    have e2 : (((x.fdiv 4).fmod 120).fmod 5).toNat = k := by omega
    have q := leaf2 b (j - 1) (by omega) k hk
    have hh : 0 ≤ ([65, 119808, 119860, 119912, 120016, 120172, 120224, 120276, 120328, 120380, 120432] : List Int).getD ((((x.fdiv 4).fmod 120).fdiv 5).fmod 12 - 1).toNat 0 + ([102, 105, 108, 115, 116] : List Int).getD (((x.fdiv 4).fmod 120).fmod 5).toNat 0 - 97 ∧
        ([65, 119808, 119860, 119912, 120016, 120172, 120224, 120276, 120328, 120380, 120432] : List Int).getD ((((x.fdiv 4).fmod 120).fdiv 5).fmod 12 - 1).toNat 0 + ([102, 105, 108, 115, 116] : List Int).getD (((x.fdiv 4).fmod 120).fmod 5).toNat 0 - 97 ≤ 1114111 ∧
        itemOk b (([65, 119808, 119860, 119912, 120016, 120172, 120224, 120276, 120328, 120380, 120432] : List Int).getD ((((x.fdiv 4).fmod 120).fdiv 5).fmod 12 - 1).toNat 0 + ([102, 105, 108, 115, 116] : List Int).getD (((x.fdiv 4).fmod 120).fmod 5).toNat 0 - 97).toNat (Txt.item (Str.ofString "filst") (((x.fdiv 4).fmod 120).fmod 5)) = true := by
      rw [e1, e2, e']; exact q
    refine chr_of_range hh.1 hh.2.1 ?_
    k_steps
    rename News _ _ _ (_ :: _) => kN9
    exact hret _ [_] _ _ ⟨_, _, _, _, _, rfl, rfl, hh.2.2, of_allLt (And.right (by assumption))⟩ (by assumption) (news_skip kN9)
  · obtain ⟨k, hk, e⟩ := fmod_nat ((x.fdiv 4).fmod 120) 8 (by decide)
    have e' : ((x.fdiv 4).fmod 120).fmod 8 = (k : Int) := e
    have e2 : (((x.fdiv 4).fmod 120).fmod 8).toNat = k := by omega
    have q := leaf3 k hk
    have hh : 0 ≤ ([64256, 64257, 64258, 64259, 64260, 64261, 64262, 13255] : List Int).getD (((x.fdiv 4).fmod 120).fmod 8).toNat 0 ∧ ([64256, 64257, 64258, 64259, 64260, 64261, 64262, 13255] : List Int).getD (((x.fdiv 4).fmod 120).fmod 8).toNat 0 ≤ 1114111 := by
      rw [e2]; exact ⟨q.1, q.2.1⟩
    refine chr_of_range hh.1 hh.2 ?_
    k_steps
    dsimp only
    refine item_strs (News.isList (by k_asm) (.head _)) (.cons _ _ (.cons _ _ (.cons _ _ (.cons _ _ (.cons _ _ (.cons _ _ (.cons _ _ (.cons _ _ .nil)))))))) (by omega) (by rw [e']; exact Int.ofNat_lt.mpr hk) (by decide) ?_
    intro t9
    k_steps
    rename News _ _ _ (_ :: _) => kN9
    have ho := q.2.2
    rw [← e2] at ho
    have hb := ‹b = true›
    subst hb
    exact hret _ [_] _ _ ⟨_, _, _, _, _, rfl, rfl, ho, of_allLt (And.right (And.right (by assumption)))⟩ (by assumption) (news_skip (news_skip kN9))
  · obtain ⟨k, hk, e⟩ := fmod_nat ((x.fdiv 4).fmod 120) 7 (by decide)
    have e' : ((x.fdiv 4).fmod 120).fmod 7 = (k : Int) := e
    have e2 : (((x.fdiv 4).fmod 120).fmod 7).toNat = k := by omega
    have q := leaf4 k hk
    have hh : 0 ≤ ([64256, 64257, 64258, 64259, 64260, 64261, 64262, 13255] : List Int).getD (((x.fdiv 4).fmod 120).fmod 7).toNat 0 ∧ ([64256, 64257, 64258, 64259, 64260, 64261, 64262, 13255] : List Int).getD (((x.fdiv 4).fmod 120).fmod 7).toNat 0 ≤ 1114111 := by
      rw [e2]; exact ⟨q.1, q.2.1⟩
    refine chr_of_range hh.1 hh.2 ?_
    k_steps
    dsimp only
    refine item_strs (News.isList (by k_asm) (.head _)) (.cons _ _ (.cons _ _ (.cons _ _ (.cons _ _ (.cons _ _ (.cons _ _ (.cons _ _ (.cons _ _ .nil)))))))) (by omega) (by rw [e']; exact Int.ofNat_lt.mpr (Nat.lt_trans hk (by decide))) (by decide) ?_
    intro t9
    k_steps
    rename News _ _ _ (_ :: _) => kN9
    have ho := q.2.2
    rw [← e2] at ho
    have hb := ‹b = false›
    subst hb
    exact hret _ [_] _ _ ⟨_, _, _, _, _, rfl, rfl, ho, of_allLt (And.right (And.right (by assumption)))⟩ (by assumption) (news_skip (news_skip kN9))
  · obtain ⟨k, hk, e⟩ := fmod_nat ((x.fdiv 4).fmod 120) 16 (by decide)
    have e' : ((x.fdiv 4).fmod 120).fmod 16 = (k : Int) := e
    have e2 : (((x.fdiv 4).fmod 120).fmod 16).toNat = k := by omega
    have q := leaf5 b k hk
    rw [← e2] at q
    refine chr_of_range q.1 q.2.1 ?_
    k_steps
    rename News _ _ _ (_ :: _) => kN9
    exact hret _ [_] _ _ ⟨_, _, _, _, _, rfl, rfl, q.2.2, of_allLt (And.right (by assumption))⟩ (by assumption) (news_skip kN9)
end Mine
end
section
open PySem PySem.W PyProof.Rows
set_option maxRecDepth 100000
set_option maxHeartbeats 20000000
namespace Mine
local macro_rules | `(tactic| walk_at $s:str) => `(tactic| k_extra $s)
theorem hooks11 : True := by
  k_with_none
  trivial
/-- Python's operators in their order, as code points -/
def opsC : List (List Nat) := [[40], [41], [91], [93], [58], [44], [59], [43], [45], [42], [47], [124], [38], [60], [62], [61], [46], [37], [123], [125], [61, 61], [33, 61], [60, 61], [62, 61], [126], [94], [60, 60], [62, 62], [42, 42], [43, 61], [45, 61], [42, 61], [47, 61], [37, 61], [38, 61], [124, 61], [94, 61], [60, 60, 61], [62, 62, 61], [42, 42, 61], [47, 47], [47, 47, 61], [64], [64, 61], [45, 62], [46, 46, 46], [58, 61], [33]]
def opsL : List Str := opsC.map fun l => ⟨l.toArray⟩
theorem words_ops : Txt.words (Str.ofString "( ) [ ] : , ; + - * / | & < > = . % { } == != <= >= ~ ^ << >> ** += -= *= /= %= &= |= ^= <<= >>= **= // //= @ @= -> ... := !") = opsL := by decide +kernel
theorem ops_spec (w : World) (news : List (Addr × Obj)) : Spec w 95 [] news 1 8
    (fun v new => ∃ d us, v = .ref d ∧ new = [(d, listOf us.toArray 0)] ∧ StrsAre us opsL ∧ ∀ q ∈ news, q.1 < d) := by
  unfold Spec
  k_fill
  intros
  rename_i hret
  refine wpAny_call ?_
  k_dflt cell_enter
  k_steps
  have hw := ‹List.map (fun x : Str × Tok => x.1) _ = Txt.words _›
  have hs := ‹StrsAre (strValues _) _›
  rw [hw, words_ops] at hs
  rename News _ _ _ (_ :: _) => kN9
  exact hret _ [_] _ _ ⟨_, _, rfl, rfl, hs, by assumption⟩ (by assumption) kN9

/-- what _law_written gives for a symbol -/
def written (c : Nat) : Str := if 256 ≤ c then (if (opsL.any fun x => x == b3 (c - 157)) = true then Str.ofString "?" else b3 (c - 157)) else if 208 ≤ c then opsL.getD (c - 208) Str.empty else Str.ofString "?"

theorem hook9 : True := by
  k_with "call ref" => ((k_here; (with_reducible show wpAny _ _ (call (Value.ref 88) _) _ _ _); k_dflt (refine' Spec.use0 (nonterm_spec _ _ _ _) ?Bq9 ?Fq9 ?Xq9 ?Nq9 ?Tq9 ?Kq9 ?dq9 ?uq9 ?_; (case Bq9 => k_asm); (case Fq9 => k_asm); (case Xq9 => k_asm); (case Nq9 => k_asm); (case Tq9 => k_asm); (case Kq9 => first | exact rfl | assumption); (case dq9 => ktr_room); (case uq9 => ktr_units)); (intro h9qz tk9qz F9qz N9qz)))
  trivial
theorem hook10 : True := by
  k_with "call ref" => ((k_here; (with_reducible show wpAny _ _ (call (Value.ref 78) _) _ _ _); k_dflt (refine' Spec.useT (b3_spec _ _ _ _) ?Bq10 ?Fq10 ?Xq10 ?Nq10 ?Tq10 ?Kq10 ?dq10 ?uq10 ?_; (case Bq10 => k_asm); (case Fq10 => k_asm); (case Xq10 => k_asm); (case Nq10 => k_asm); (case Tq10 => k_asm); (case Kq10 => first | exact rfl | assumption); (case dq10 => ktr_room); (case uq10 => ktr_units)); (intro t9qz h9qz tk9qz F9qz N9qz)))
  trivial
theorem hook11 : True := by
  k_with "call builtin:chr" => ((refine chr_of_range (by omega) (by omega) ?_))
  trivial

theorem written_spec (w : World) (c : Nat) (hc : c ≤ 1114000) (t : Tok) (o : Addr) (us : List Value) (n : Nat) (news : List (Addr × Obj)) (hu : StrsAre us opsL) : Spec w 147 [.int (c : Int) t, .ref o] ((o, PySem.W.listOf us.toArray n) :: news) 2 16 (fun v new => (∃ t', v = .str (written c) t') ∧ new = []) := by
  unfold Spec
  k_fill
  intros
  rename_i hret
  refine wpAny_call ?_
  k_dflt cell_enter
  k_steps
  · have e : ((c : Int) - 157).toNat = c - 157 := by omega
    have h1 := ‹(256 : Int) ≤ (c : Int)›
    have h2 := ‹(opsL.any fun x => x == b3 ((c : Int) - 157).toNat) = true›
    rw [e] at h2
    exact hret _ [] _ _ ⟨⟨_, by rw [written, if_pos (by omega), if_pos h2]⟩, rfl⟩ (by assumption) (by assumption)
  · have e : ((c : Int) - 157).toNat = c - 157 := by omega
    have h1 := ‹(256 : Int) ≤ (c : Int)›
    have h2 := ‹(opsL.any fun x => x == b3 ((c : Int) - 157).toNat) = false›
    rw [e] at h2
    exact hret _ [] _ _ ⟨⟨_, by rw [written, if_pos (by omega), if_neg (by rw [h2]; decide), e]⟩, rfl⟩ (by assumption) (by assumption)
  · have h1 := ‹¬ (256 : Int) ≤ (c : Int)›
    have h2 := ‹(208 : Int) ≤ (c : Int)›
    have hl : opsL.length = 48 := by decide +kernel
    dsimp only
    refine item_strs (News.isList (by k_asm) (.head _)) hu (by omega) (by rw [hl]; omega) (by rw [hl]; decide) ?_
    intro t9
    have e : ((c : Int) - 208).toNat = c - 208 := by omega
    rw [e]
    k_steps
    exact hret _ [] _ _ ⟨⟨_, by rw [written, if_neg (by omega), if_pos (by omega)]⟩, rfl⟩ (by assumption) (by assumption)
  · have h1 := ‹¬ (256 : Int) ≤ (c : Int)›
    have h2 := ‹¬ (208 : Int) ≤ (c : Int)›
    exact hret _ [] _ _ ⟨⟨_, by rw [written, if_neg (by omega), if_neg (by omega)]⟩, rfl⟩ (by assumption) (by assumption)
end Mine
end
section
open PySem PySem.W PyProof.Rows
namespace Mine
/-! ## the reading, over lists of code points -/
/-- the table of _law_table: the texts that a ligature is folded to, and Python's operators -/
def tabL : List (List Nat × Nat) := [([102, 102], 64413), ([102, 105], 64414), ([102, 108], 64415), ([102, 102, 105], 64416), ([102, 102, 108], 64417), ([115, 116], 64419), ([33], 255), ([33, 61], 229), ([37], 225), ([37, 61], 241), ([38], 220), ([38, 61], 242), ([40], 208), ([41], 209), ([42], 217), ([42, 42], 236), ([42, 42, 61], 247), ([42, 61], 239), ([43], 215), ([43, 61], 237), ([44], 213), ([45], 216), ([45, 61], 238), ([45, 62], 252), ([46], 224), ([46, 46, 46], 253), ([47], 218), ([47, 47], 248), ([47, 47, 61], 249), ([47, 61], 240), ([58], 212), ([58, 61], 254), ([59], 214), ([60], 221), ([60, 60], 234), ([60, 60, 61], 245), ([60, 61], 230), ([61], 223), ([61, 61], 228), ([62], 222), ([62, 61], 231), ([62, 62], 235), ([62, 62, 61], 246), ([64], 250), ([64, 61], 251), ([91], 210), ([93], 211), ([94], 233), ([94, 61], 244), ([123], 226), ([124], 219), ([124, 61], 243), ([125], 227), ([126], 232)]
def lookT (p : List Nat) : Option Nat := (tabL.find? fun e => e.1 == p).map (·.2)
def tabD : List (PyData × PyData) := tabL.map fun e => (.str ⟨e.1.toArray⟩, .int (e.2 : Int))
theorem lookT_of (x : Str) : ∀ l : List (List Nat × Nat), Spec.lookup (.str x) (l.map fun e => (PyData.str ⟨e.1.toArray⟩, PyData.int (e.2 : Int))) = ((l.find? fun e => e.1 == x.cps.toList).map (·.2)).map fun n : Nat => PyData.int (n : Int)
  | [] => rfl
  | e :: r => by
    show (if Spec.same (.str ⟨e.1.toArray⟩) (.str x) then some (PyData.int (e.2 : Int)) else Spec.lookup (.str x) (r.map fun e => (PyData.str ⟨e.1.toArray⟩, PyData.int (e.2 : Int)))) = _
    have q : Spec.same (.str ⟨e.1.toArray⟩) (.str x) = (e.1 == x.cps.toList) := by
      show decide ((⟨e.1.toArray⟩ : Str) = x) = _
      by_cases h : e.1 = x.cps.toList
      · rw [h]; simp
      · have : ¬ (⟨e.1.toArray⟩ : Str) = x := fun e' => h (by rw [← e'])
        simp [this, h]
    rw [q, List.find?_cons]
    cases h : (e.1 == x.cps.toList) with
    | true => rfl
    | false => simpa using lookT_of x r
theorem lookup_tabD (x : Str) : Spec.lookup (.str x) tabD = (lookT x.cps.toList).map fun n : Nat => PyData.int (n : Int) := lookT_of x tabL
theorem lookT_le {p : List Nat} {n : Nat} (h : lookT p = some n) : n ≤ 64419 := by
  unfold lookT at h
  obtain ⟨e, he, rfl⟩ := Option.map_eq_some_iff.mp h
  have hm := List.mem_of_find?_eq_some he
  revert hm
  generalize e = e'
  revert e'
  decide +kernel

def shrinkF : Nat → List Nat → List Nat
  | 0, p => p
  | n + 1, p => if p.length ≤ 1 ∨ (lookT p).isSome = true then p else shrinkF n p.dropLast
def shrink (p : List Nat) : List Nat := shrinkF p.length p
theorem shrink_stop {p : List Nat} (h : p.length ≤ 1 ∨ (lookT p).isSome = true) : shrink p = p := by
  unfold shrink
  cases e : p.length with
  | zero => rfl
  | succ n => unfold shrinkF; rw [if_pos h]
theorem shrink_more {p : List Nat} (h1 : 1 < p.length) (h2 : (lookT p).isSome = false) : shrink p = shrink p.dropLast := by
  unfold shrink
  cases e : p.length with
  | zero => omega
  | succ n =>
    have : p.dropLast.length = n := by rw [List.length_dropLast, e]; rfl
    rw [this]
    rw [show shrinkF (n + 1) p = if p.length ≤ 1 ∨ (lookT p).isSome = true then p else shrinkF n p.dropLast from rfl]
    rw [if_neg]
    rintro (h | h)
    · omega
    · rw [h2] at h; cases h
theorem shrink_len : ∀ (p : List Nat), p ≠ [] → 1 ≤ (shrink p).length ∧ (shrink p).length ≤ p.length := by
  intro p
  generalize hn : p.length = n
  induction n generalizing p with
  | zero => intro h; exact absurd (List.eq_nil_of_length_eq_zero hn) h
  | succ n ih =>
    intro h
    by_cases h1 : p.length ≤ 1 ∨ (lookT p).isSome = true
    · rw [shrink_stop h1]; omega
    · have a : 1 < p.length := by omega
      have b : (lookT p).isSome = false := by
        cases q : (lookT p).isSome with
        | true => exact absurd (.inr q) h1
        | false => rfl
      have hl : p.dropLast.length = n := by rw [List.length_dropLast, hn]; rfl
      rw [shrink_more a b]
      have := ih p.dropLast hl (by intro e; rw [e] at hl; simp at hl; omega)
      omega
def pieceOf (t : List Nat) : List Nat := shrink (t.take 3)
theorem pieceOf_len {t : List Nat} (h : t ≠ []) : 1 ≤ (pieceOf t).length ∧ (pieceOf t).length ≤ t.length := by
  have h3 : t.take 3 ≠ [] := by cases t with | nil => exact absurd rfl h | cons a r => simp
  have := shrink_len _ h3
  have hl : (t.take 3).length ≤ t.length := by rw [List.length_take]; omega
  unfold pieceOf
  omega
def symOf (p : List Nat) : Nat := match lookT p with
  | some n => n
  | none => p.headD 0 + 157
def readF : Nat → List Nat → List Nat
  | 0, _ => []
  | n + 1, t => if t = [] then [] else (if pieceOf t = [10] then [] else [symOf (pieceOf t)]) ++ readF n (t.drop (pieceOf t).length)
def readL (t : List Nat) : List Nat := readF t.length t
theorem readF_eq : ∀ (n : Nat) (t : List Nat), t.length ≤ n → readF n t = readL t := by
  have key : ∀ (k : Nat) (t : List Nat), t.length ≤ k → ∀ n m, t.length ≤ n → t.length ≤ m → readF n t = readF m t := by
    intro k
    induction k with
    | zero =>
      intro t ht n m _ _
      have : t = [] := List.eq_nil_of_length_eq_zero (by omega)
      subst this
      cases n <;> cases m <;> simp [readF]
    | succ k ih =>
      intro t ht n m hn hm
      by_cases e : t = []
      · subst e; cases n <;> cases m <;> simp [readF]
      · cases n with
        | zero => exact absurd (List.eq_nil_of_length_eq_zero (by omega)) e
        | succ n =>
          cases m with
          | zero => exact absurd (List.eq_nil_of_length_eq_zero (by omega)) e
          | succ m =>
            have hp := pieceOf_len e
            have hd : (t.drop (pieceOf t).length).length = t.length - (pieceOf t).length := List.length_drop
            unfold readF
            rw [if_neg e, if_neg e, ih (t.drop (pieceOf t).length) (by omega) n m (by omega) (by omega)]
  intro n t h
  exact key n t h n t.length h (Nat.le_refl _)
theorem readL_nil : readL [] = [] := rfl
theorem readL_step {t : List Nat} (h : t ≠ []) : readL t = (if pieceOf t = [10] then [] else [symOf (pieceOf t)]) ++ readL (t.drop (pieceOf t).length) := by
  have hp := pieceOf_len h
  unfold readL
  cases e : t.length with
  | zero => exact absurd (List.eq_nil_of_length_eq_zero e) h
  | succ n =>
    rw [show readF (n + 1) t = if t = [] then [] else (if pieceOf t = [10] then [] else [symOf (pieceOf t)]) ++ readF n (t.drop (pieceOf t).length) from rfl, if_neg h]
    rw [readF_eq n _ (by rw [List.length_drop]; omega)]
    rfl

/-! ## slices -/
theorem slice_take {x : Str} {j : Int} (h0 : 0 ≤ j) : (Txt.slice x none (some j)).cps.toList = x.cps.toList.take j.toNat := by
  by_cases h : j ≤ x.cps.toList.length
  · show (StrLaws.sliceText x none (some j)).cps.toList = _
    rw [StrLaws.sliceText_to ⟨h0, h⟩]
    simp
  · have hl : (x.length : Int) ≤ j := by have : x.length = x.cps.toList.length := by simp [Str.length]
                                         omega
    rw [slice_to_beyond hl]
    show (StrLaws.sliceText x none (some (x.length : Int))).cps.toList = _
    rw [StrLaws.sliceText_to ⟨by omega, by simp [Str.length]⟩]
    have h2 : x.cps.toList.length ≤ j.toNat := by omega
    rw [List.take_of_length_le h2]
    simp [Str.length]
    exact List.take_of_length_le (by simp)
theorem slice3 (x : Str) : (Txt.slice x none (some 3)).cps.toList = x.cps.toList.take 3 := slice_take (by decide)
theorem slice_init {x : Str} (h : 1 ≤ x.length) : (Txt.slice x none (some (-1))).cps.toList = x.cps.toList.dropLast := by
  show (StrLaws.sliceText x none (some (-1))).cps.toList = _
  rw [StrLaws.sliceText_to_neg (by decide) (by omega)]
  rw [List.dropLast_eq_take]
  simp [Str.length]
  congr 1
  omega
theorem slice_drop {x : Str} {k : Nat} (h : k ≤ x.length) : (Txt.slice x (some (k : Int)) none).cps.toList = x.cps.toList.drop k := by
  show (StrLaws.sliceText x (some (k : Int)) none).cps.toList = _
  rw [StrLaws.sliceText_from ⟨by omega, by simp [Str.length] at h ⊢; omega⟩]
  simp
  exact List.take_of_length_le (by simp)
theorem len_toList (x : Str) : x.cps.toList.length = x.length := by simp [Str.length]
end Mine
end
section
open PySem PySem.W PyProof.Rows PyProof.Rows.LCg
set_option maxRecDepth 100000
set_option maxHeartbeats 20000000
namespace Mine
/-! ## a dict comprehension over a range, by an invariant -/
def DEnd {prog : Program} {w : World} {K : Type} [DecidableEq K] (knd : KeyKind prog w K) (h₀ : Heap) (L : Addr) (m : Str → Option Value) (s : Shared) (Led : List (Addr × Obj)) (J : List (K × Value) → Prop) (kvs : List (K × Value)) (kv vv : Value) (s₅ : Shared) : Prop :=
  ∃ k h' tk, s₅ = { s with heap := h', toks := tk } ∧ knd.is k kv = true ∧ J (stored kvs k vv) ∧ Fr h₀ L h' m ∧ News h₀ L h' Led
section
variable {prog : Program} {w : World} {A : Around} {E : Value → Shared → Prop} {s : Shared} {h₀ : Heap} {L : Addr} {m : Str → Option Value} {env : Env}
theorem block_D {K : Type} [DecidableEq K] {knd : KeyKind prog w K} {kx vx iter : Expr} {x : Str} {px : Pos} {scope : Scope} {cl : List (Str × Addr)} {pos : Pos} {s₂ : Shared} {I : Addr} {n : Nat} {P : Nat → Value → Prop} {St : Nat → Heap → Prop} {news : List (Addr × Obj)}
    (J : Nat → List (K × Value) → Prop) {RR : Value → Addr → Result → Shared → Prop}
    (W : Walks prog w A I [I] [I] n P St) (hsz : n ≤ sizeLine) (hIo : ∀ i h, St i h → ∃ o, h.get? I = some o)
    (hSt : ∀ i h h' o, St i h → h.get? I = some o → h'.get? I = some o → St i h')
    (hcell : ∀ y ∈ scope.names, y.2 ≠ .cell) (hkind : scope.kind = .function) (hx : scope.names.lookup x = some .local) (hst : St 0 s₂.heap) (hIlt : I < s₂.heap.objs.size)
    (F : Fr h₀ L s₂.heap m) (N : News h₀ L s₂.heap news) (hIL : L ≠ I) (hI₀ : h₀.get? I = none) (off : ∀ p ∈ news, p.1 ≠ I) (hj : J 0 []) (hJl : ∀ i kvs, J i kvs → kvs.length ≤ i)
    (turn : ∀ i v I oI C oC D oD m₂ h tk kvs (E' : Value → Shared → Prop), i < n → P i v → J i kvs → oD.IsDictOf knd kvs → NsObj oC m₂ → m₂ x = some v → Fr h₀ L h m → News h₀ L h ((I, oI) :: (C, oC) :: (D, oD) :: news) → Off3 I C D news → ((@Ne Nat I C) ∧ (@Ne Nat I D) ∧ (@Ne Nat C D)) →
      wpAny (model prog w) A (eval kx (compEnvC scope cl C env)) (fun kv s₄ => wpAny (model prog w) A (eval vx (compEnvC scope cl C env)) (fun vv s₅ =>
        DEnd knd h₀ L m { s₂ with heap := h, toks := tk } ((I, oI) :: (C, oC) :: (D, oD) :: news) (J (i + 1)) kvs kv vv s₅) E' s₄) E' { s₂ with heap := h, toks := tk })
    (hRR : ∀ D C h tk m' oD kvs, Fr h₀ L h m → News h₀ L h ((D, oD) :: news) → Off1 D news → h.Ns C m' → h₀.get? C = none → h₀.get? D = none → C ≠ L → D ≠ L → C ≠ D → (∀ p ∈ news, p.1 ≠ C) → J n kvs → oD.IsDictOf knd kvs → RR (.ref D) C (.ok .next) { s₂ with heap := h, toks := tk }) :
    wpAny (model prog w) A newDict (fun acc s₃ => wpAny (model prog w) A (newFunctionEnv scope env.globals cl [] env.qual none .none (some env)) (fun cenv s₄ =>
      codeAny (model prog w) A (.compStart (.DictComp kx vx [⟨.Name x px, iter, [], 0⟩] scope pos) 0 (.ref I) acc { cenv with scope := relabel scope env }) (RR acc cenv.locals) s₄) E s₃) E s₂ := by
  refine wpAny_newObj_type (wpAny_newFunctionEnv hcell (by intro y hy; simp at hy) (fun h₁ hns₁ hsb₁ => ?_) hkind)
  dsimp only at hns₁ hsb₁ ⊢
  have hnew : (s₂.heap.push { cls := .type "dict", dict := none, data := .dict #[] }).DictOf knd s₂.heap.objs.size [] := Heap.DictOf.new s₂.heap
  generalize hH2 : s₂.heap.push { cls := .type "dict", dict := none, data := .dict #[] } = H2 at hns₁ hsb₁ hnew ⊢
  have hC : H2.objs.size = s₂.heap.objs.size + 1 := by rw [← hH2, Heap.size_push]
  have hDC : s₂.heap.objs.size ≠ H2.objs.size := by rw [hC]; exact Nat.ne_of_lt (Nat.lt_succ_self _)
  have below : ∀ b, b < s₂.heap.objs.size → b ≠ H2.objs.size ∧ b ≠ s₂.heap.objs.size := fun b hb => ⟨by rw [hC]; exact Nat.ne_of_lt (Nat.lt_succ_of_lt hb), Nat.ne_of_lt hb⟩
  have hDf : s₂.heap.objs.size ∉ [I] := fun hm => Nat.lt_irrefl _ ((List.mem_singleton.mp hm) ▸ hIlt)
  have hCf : H2.objs.size ∉ [I] := fun hm => by have := (List.mem_singleton.mp hm) ▸ hIlt; rw [hC] at this; exact Nat.lt_irrefl _ (Nat.lt_of_succ_lt this)
  have old : ∀ b o, s₂.heap.get? b = some o → h₁.get? b = some o := fun b o e => hsb₁.extBut b o (below b (Heap.lt_size e)).1 (Heap.get?_push_of_some _ (hH2 ▸ Heap.get?_push_of_some _ e))
  have hacc : h₁.DictOf knd s₂.heap.objs.size [] := hnew.at fun o e => hsb₁.extBut _ _ hDC (Heap.get?_push_of_some _ e)
  obtain ⟨oD₁, heD₁, hoD₁⟩ := Heap.dictOf_iff.mp hacc
  have hst₁ : St 0 h₁ := W.frame _ _ _ hst fun b _ o e => old b o e
  have fresh : ∀ a, s₂.heap.objs.size ≤ a → s₂.heap.get? a = none := fun a ha => by
    cases e : s₂.heap.get? a with
    | none => rfl
    | some o' => exact absurd (Heap.lt_size e) (Nat.not_lt.mpr ha)
  have fresh₀ : ∀ a, s₂.heap.objs.size ≤ a → h₀.get? a = none := fun a ha => by
    cases e : h₀.get? a with
    | none => rfl
    | some o' => have := F.keep a o' e; rw [fresh a ha] at this; cases this
  have hD₀ : h₀.get? s₂.heap.objs.size = none := fresh₀ _ (Nat.le_refl _)
  have hC₀ : h₀.get? H2.objs.size = none := fresh₀ _ (by rw [hC]; exact Nat.le_succ _)
  have hLlt : L < s₂.heap.objs.size := F.ns.lt
  have hDL : s₂.heap.objs.size ≠ L := Ne.symm (below L hLlt).2
  have hCL : H2.objs.size ≠ L := Ne.symm (below L hLlt).1
  have hCI : I ≠ H2.objs.size := (below I hIlt).1
  have hDI : I ≠ s₂.heap.objs.size := (below I hIlt).2
  have off₀ : Off3 I H2.objs.size s₂.heap.objs.size news := Off3.of fun p hp => ⟨off p hp, (below _ (Heap.lt_size (N p hp).1)).1, (below _ (Heap.lt_size (N p hp).1)).2⟩
  have off3 := off₀.mem
  have loop : ∀ s₃ : Shared, s₃ = { s₂ with heap := h₁, toks := s₂.toks + ([] : List (Str × Value)).length } →
      codeAny (model prog w) A (.compLoop (.DictComp kx vx [⟨.Name x px, iter, [], 0⟩] scope pos) 0 (.ref I) (.ref s₂.heap.objs.size) (compEnvC scope cl H2.objs.size env))
        (RR (.ref s₂.heap.objs.size) H2.objs.size) s₃ := by
    rintro s₃ rfl
    refine codeAny_compLoop_testsD
      (fun k s' => ∃ h' tk i m' oD kvs, s' = { s₂ with heap := h', toks := tk } ∧ i ≤ n ∧ k = n + 1 - i ∧ J i kvs ∧ oD.IsDictOf knd kvs ∧ St i h' ∧ Fr h₀ L h' m ∧ h'.Ns H2.objs.size m' ∧ News h₀ L h' ((s₂.heap.objs.size, oD) :: news)) ?_ (n + 1)
      ⟨h₁, _, 0, _, oD₁, [], rfl, Nat.zero_le _, rfl, hj, hoD₁, hst₁, F.keeps old, hns₁, fun p hp => ?_⟩
    · rintro k s' ⟨h', tk, i, m', oD, kvs, rfl, hi, rfl, hJ, hoD, hst', F', hn', N'⟩
      by_cases hlt : i < n
      · refine W.item i _ _ _ hlt hst' fun v h₂ tk₂ hPv hst₂ hk₂ => ?_
        refine wpAny_assign_Name (wpAny_storeName_local (lookup_relabel_local hx) (hn'.at' fun o e => hk₂ _ o (by simpa using Ne.symm hCI) e) (fun h₃ hn₃ hs₃ => ?_) (by simp [compEnvC, relabel, hkind]))
        refine wpAny_tests_nil ?_
        simp only [if_true]
        have hst₃ : St (i + 1) h₃ := W.frame _ _ _ hst₂ fun b hb o e => hs₃.extBut b o (fun q => hCf (by have q' : b = H2.objs.size := q; rw [← q']; exact hb)) e
        obtain ⟨oI, heI⟩ := hIo _ _ hst₃
        obtain ⟨oC, heC, hoC⟩ := ns_obj hn₃
        have F₃ : Fr h₀ L h₃ m := (fr_but F' hk₂ hIL hI₀).change hs₃ hCL hC₀
        have N₂ : News h₀ L h₂ ((s₂.heap.objs.size, oD) :: news) := news_but N' hk₂ fun p hp => by
          rcases List.mem_cons.mp hp with rfl | hp
          · exact Ne.symm hDI
          · exact (off3 p hp).1
        have N₃ : News h₀ L h₃ ((I, oI) :: (H2.objs.size, oC) :: (s₂.heap.objs.size, oD) :: news) := fun p hp => by
          rcases List.mem_cons.mp hp with rfl | hp
          · exact ⟨heI, Ne.symm hIL, hI₀⟩
          · rcases List.mem_cons.mp hp with rfl | hp
            · exact ⟨heC, hCL, hC₀⟩
            · have z := N₂ p hp
              refine ⟨hs₃.extBut _ _ ?_ z.1, z.2⟩
              rcases List.mem_cons.mp hp with rfl | hp
              · exact hDC
              · exact (off3 p hp).2.1
        refine wpAny_mono (turn i v I oI H2.objs.size oC s₂.heap.objs.size oD _ h₃ _ kvs _ hlt hPv hJ hoD hoC (by simp) F₃ N₃ off₀ ⟨hCI, hDI, Ne.symm hDC⟩) (fun kv s₄ h₄ => wpAny_mono h₄ (fun vv s₅ h₅ => ?_) fun _ _ e => e) fun _ _ e => e
        obtain ⟨k, h₄, tk₄, rfl, hkey, hJ', F₄, N₄⟩ := h₅
        have zI := (N₄ (I, oI) List.mem_cons_self).1
        have zC := (N₄ (H2.objs.size, oC) (List.mem_cons_of_mem _ List.mem_cons_self)).1
        have zD := (N₄ (s₂.heap.objs.size, oD) (List.mem_cons_of_mem _ (List.mem_cons_of_mem _ List.mem_cons_self))).1
        have N₄' : News h₀ L h₄ news := fun p hp => N₄ p (List.mem_cons_of_mem _ (List.mem_cons_of_mem _ (List.mem_cons_of_mem _ hp)))
        have hst₄ : St (i + 1) h₄ := hSt _ _ _ _ hst₃ heI zI
        refine wpAny_dictSet_pairs (hsz := Nat.le_trans (hJl _ _ hJ) (Nat.le_trans hi hsz)) hkey (Heap.dictOf_iff.mpr ⟨oD, zD, hoD⟩) fun h₅ hD₅ hs₅ => ?_
        obtain ⟨oD₅, heD₅, hoD₅⟩ := Heap.dictOf_iff.mp hD₅
        refine ⟨n + 1 - (i + 1), by omega, h₅, _, i + 1, _, oD₅, _, rfl, hlt, rfl, hJ', hoD₅, W.frame _ _ _ hst₄ fun b hb o e => hs₅.extBut b o (fun q => hDf (q ▸ hb)) e, F₄.change hs₅ hDL hD₀,
          (hoC.ns zC).sameBut hs₅ (Ne.symm hDC), fun p hp => ?_⟩
        rcases List.mem_cons.mp hp with rfl | hp
        · exact ⟨heD₅, hDL, hD₀⟩
        · exact ⟨hs₅.extBut _ _ (off3 p hp).2.2 (N₄' p hp).1, (N₄' p hp).2⟩
      · obtain rfl : i = n := Nat.le_antisymm hi (Nat.not_lt.mp hlt)
        refine W.done _ _ _ hst' fun h₂ tk₂ hk₂ => ?_
        exact hRR _ _ h₂ tk₂ _ oD kvs (fr_but F' hk₂ hIL hI₀) (news_but N' hk₂ fun p hp => by
          rcases List.mem_cons.mp hp with rfl | hp
          · exact Ne.symm hDI
          · exact (off3 p hp).1) off₀.one (hn'.at' fun o e => hk₂ _ o (by simpa using Ne.symm hCI) e) hC₀ hD₀ hCL hDL (Ne.symm hDC) (fun p hp => (off3 p hp).2.1) hJ hoD
    · rcases List.mem_cons.mp hp with rfl | hp
      · exact ⟨heD₁, hDL, hD₀⟩
      · exact ⟨old _ _ (N p hp).1, (N p hp).2⟩
  exact codeAny_compStart_dict (loop _ rfl) (W.self 0 _ _ _ hst₁ (loop _ rfl))

/-- what the iterable must come to: a range, the turns and what follows -/
def DSrc {prog : Program} {w : World} {K : Type} [DecidableEq K] (knd : KeyKind prog w K) (A : Around) (h₀ : Heap) (L : Addr) (m : Str → Option Value) (env : Env) (kx vx : Expr) (x : Str) (scope : Scope) (cl : List (Str × Addr)) (y : Str) (Q : Flow → Shared → Prop) (xv : Value) (s₁ : Shared) : Prop :=
  ∃ r a b t u v n news, ∃ J : Nat → List (K × Value) → Prop, xv = .ref r ∧ A.handled = none ∧ Fr h₀ L s₁.heap m ∧ News h₀ L s₁.heap news ∧ IsRange s₁.heap r a b 1 t u v ∧ Builtin.Range.small a b 1 = true ∧ Builtin.Range.rangeSize a b 1 = ((n : Nat) : Int) ∧ n ≤ sizeLine ∧ J 0 [] ∧ (∀ i kvs, J i kvs → kvs.length ≤ i) ∧
    (∀ i v I oI C oC D oD m₂ h tk kvs (E' : Value → Shared → Prop), i < n → (∃ t, v = .int (a + (i : Int)) t) → J i kvs → oD.IsDictOf knd kvs → NsObj oC m₂ → m₂ x = some v → Fr h₀ L h m → News h₀ L h ((I, oI) :: (C, oC) :: (D, oD) :: news) → Off3 I C D news → ((@Ne Nat I C) ∧ (@Ne Nat I D) ∧ (@Ne Nat C D)) →
      wpAny (model prog w) A (eval kx (compEnvC scope cl C env)) (fun kv s₄ => wpAny (model prog w) A (eval vx (compEnvC scope cl C env)) (fun vv s₅ =>
        DEnd knd h₀ L m { s₁ with heap := h, toks := tk } ((I, oI) :: (C, oC) :: (D, oD) :: news) (J (i + 1)) kvs kv vv s₅) E' s₄) E' { s₁ with heap := h, toks := tk }) ∧
    ∀ D h tk oD kvs, Off1 D news → Fr h₀ L h (fun z => if z = y then some (.ref D) else m z) → News h₀ L h ((D, oD) :: news) → J n kvs → oD.IsDictOf knd kvs → Q .next { s₁ with heap := h, toks := tk }
theorem DSrc.intro {K : Type} [DecidableEq K] {knd : KeyKind prog w K} {kx vx : Expr} {x y : Str} {scope : Scope} {cl : List (Str × Addr)} {Q : Flow → Shared → Prop} {r : Addr} {a b : Int} {t u v : Tok} {news : List (Addr × Obj)} {s₁ : Shared} (J : Nat → List (K × Value) → Prop) (n : Nat)
    (hh : A.handled = none) (F : Fr h₀ L s₁.heap m) (N : News h₀ L s₁.heap news) (hr : IsRange s₁.heap r a b 1 t u v) (hsm : Builtin.Range.small a b 1 = true) (hn : Builtin.Range.rangeSize a b 1 = ((n : Nat) : Int)) (hsz : n ≤ sizeLine) (hj : J 0 []) (hJl : ∀ i kvs, J i kvs → kvs.length ≤ i)
    (turn : ∀ i v I oI C oC D oD m₂ h tk kvs (E' : Value → Shared → Prop), i < n → (∃ t, v = .int (a + (i : Int)) t) → J i kvs → oD.IsDictOf knd kvs → NsObj oC m₂ → m₂ x = some v → Fr h₀ L h m → News h₀ L h ((I, oI) :: (C, oC) :: (D, oD) :: news) → Off3 I C D news → ((@Ne Nat I C) ∧ (@Ne Nat I D) ∧ (@Ne Nat C D)) →
      wpAny (model prog w) A (eval kx (compEnvC scope cl C env)) (fun kv s₄ => wpAny (model prog w) A (eval vx (compEnvC scope cl C env)) (fun vv s₅ =>
        DEnd knd h₀ L m { s₁ with heap := h, toks := tk } ((I, oI) :: (C, oC) :: (D, oD) :: news) (J (i + 1)) kvs kv vv s₅) E' s₄) E' { s₁ with heap := h, toks := tk })
    (fin : ∀ D h tk oD kvs, Off1 D news → Fr h₀ L h (fun z => if z = y then some (.ref D) else m z) → News h₀ L h ((D, oD) :: news) → J n kvs → oD.IsDictOf knd kvs → Q .next { s₁ with heap := h, toks := tk }) :
    DSrc knd A h₀ L m env kx vx x scope cl y Q (.ref r) s₁ := ⟨r, a, b, t, u, v, n, news, J, rfl, hh, F, N, hr, hsm, hn, hsz, hj, hJl, turn, fin⟩
theorem Assign_DictComp_U {K : Type} [DecidableEq K] (knd : KeyKind prog w K) {kx vx iter : Expr} {x y : Str} {px py : Pos} {scope : Scope} {cl : List (Str × Addr)} {pos spos : Pos} {Q : Flow → Shared → Prop} (F₀ : Fr h₀ L s.heap m) (hLe : env.locals = L)
    (hsw : swapsWith (.DictComp kx vx [⟨.Name x px, iter, [], 0⟩] scope pos) (some (.Name y py)) spos.line env = pure true)
    (hclos : closureFor scope env = pure cl) (hcell : ∀ z ∈ scope.names, z.2 ≠ .cell) (hkind : scope.kind = .function)
    (hnames : ∀ z ∈ scope.names, z.2 = .local → scope.names.lookup z.1 = some .local) (hx : scope.names.lookup x = some .local)
    (hy : env.kindOf y = some .local) (hp : (env.scope.kind == .class || (env.scope.kind == .module && env.locals != env.globals)) = false)
    (h : wpAny (model prog w) A (eval iter env) (DSrc knd A h₀ L m env kx vx x scope cl y Q) E s)
    (hs : ∀ x, foldedSetIterable iter env x = pure x := by intro _; rfl) :
    wpAny (model prog w) A (exec (.Assign [.Name y py] (.DictComp kx vx [⟨.Name x px, iter, [], 0⟩] scope pos) spos) env) Q E s := by
  subst hLe
  rw [exec_Assign_Name_used _ _ _ _ hsw]
  refine wpAny_bind (wpAny_standAt (wpAny_bind ?_))
  show wpAny _ A (do let _ ← comprehension (.DictComp kx vx [⟨.Name x px, iter, [], 0⟩] scope pos) scope env _ newDict false (eval iter env) (some (assign (.Name y py) env))) _ _ s
  refine wpAny_bind (wpAny_mono (wpAny_comprehension_free (use := some (assign (.Name y py) env)) (Q := fun _ s' => Q .next s') rfl hs hclos hkind hnames
    (wpAny_mono h (fun xv s₁ h₁ => ?_) fun _ _ e => e)) (fun _ s' hq => wpAny_pure (wpAny_pure hq)) fun _ _ e => e)
  obtain ⟨r, a, b, t, u, v, n, news, J, rfl, hh, F, N, hr, hsm, hn, hsz, hj, hJl, turn, fin⟩ := h₁
  refine wpAny_pyIter_range hr hsm ?_
  refine block_D J (range_walks hh a n) hsz (fun i h st => ⟨_, st⟩) (fun i h h' o st e e' => by
      have st' : h.get? s₁.heap.objs.size = some _ := st
      show h'.get? s₁.heap.objs.size = some _
      rw [e', ← e]; exact st') hcell hkind hx (by show IsRangeIter _ _ _ _ _; rw [hn]; simpa using Heap.get?_push_size _ rfl) (by show s₁.heap.objs.size < (s₁.heap.push _).objs.size; rw [Heap.size_push]; exact Nat.lt_succ_self _)
    (F.keeps fun _ _ e => Heap.get?_push_of_some _ e) (N.grown fun _ _ e => Heap.get?_push_of_some _ e) (Nat.ne_of_lt F.ns.lt) (next_is_new F) (fun p hp => Nat.ne_of_lt (Heap.lt_size (N p hp).1)) hj hJl turn ?_
  intro D C h tk m' oD kvs F' N' o1 hn' hC₀ hD₀ hCL hDL hCD offC hJ hoD
  show wpAny _ A (assign (.Name y py) env (.ref D)) _ _ _
  refine wpAny_assign_Name (wpAny_storeName_local hy F'.ns (fun h₂ hn₂ hs₂ => ?_) hp)
  have hL₀ : h₀.get? env.locals = none := Heap.get?_none_of_le F'.above
  have F₂ : Fr h₀ env.locals h₂ (fun z => if z = y then some (.ref D) else m z) := ⟨hn₂, fun b o e => hs₂.extBut b o (fun q => by rw [q, hL₀] at e; cases e) (F'.keep b o e), F'.above⟩
  refine ⟨m', hn'.sameBut hs₂ hCL, fun h'' hs'' => fin D h'' _ oD kvs o1 (F₂.change hs'' hCL hC₀) (fun p hp => ?_) hJ hoD⟩
  have z : h₂.get? p.1 = some p.2 := hs₂.extBut _ _ (N' p hp).2.1 (N' p hp).1
  refine ⟨hs''.extBut _ _ ?_ z, (N' p hp).2⟩
  rcases List.mem_cons.mp hp with rfl | hp
  · exact Ne.symm hCD
  · exact offC p hp
end
end Mine
end
section
open PySem PySem.W PyProof.Rows PyProof.Rows.LCg
set_option maxRecDepth 100000
set_option maxHeartbeats 20000000
namespace Mine
/-! ## a list comprehension with two clauses -/
theorem compTurn_two0 (elt t0 i0 t1 i1 : Expr) (scope : Scope) (pos : Pos) (it acc : Value) (env : Env) :
    compTurn (.ListComp elt [⟨t0, i0, [], 0⟩, ⟨t1, i1, [], 0⟩] scope pos) 0 it acc env = (standAt i0.pos >>= fun _ => pyNext it >>= fun r => match r with
      | none => pure (.done .next)
      | some v => letOwnedTupleGo t0 it v >>= fun _ => assign t0 env v >>= fun _ =>
        eval i1 env >>= fun x => standAt i1.pos >>= fun _ => foldedSetIterable i1 env x >>= fun x => holding [x] (pyIter x) >>= fun it' =>
          runOwn (.compStart (.ListComp elt [⟨t0, i0, [], 0⟩, ⟨t1, i1, [], 0⟩] scope pos) 1 it' acc env) env >>= fun _ =>
          again (.compLoop (.ListComp elt [⟨t0, i0, [], 0⟩, ⟨t1, i1, [], 0⟩] scope pos) 0 it acc env)) := by rfl
theorem compTurn_two1 (elt t0 i0 t1 i1 : Expr) (scope : Scope) (pos : Pos) (it acc : Value) (env : Env) :
    compTurn (.ListComp elt [⟨t0, i0, [], 0⟩, ⟨t1, i1, [], 0⟩] scope pos) 1 it acc env = (standAt i1.pos >>= fun _ => pyNext it >>= fun r => match r with
      | none => pure (.done .next)
      | some v => letOwnedTupleGo t1 it v >>= fun _ => assign t1 env v >>= fun _ =>
        (eval elt env >>= fun x => call (.builtin "list.append") [acc, x] >>= fun _ => pure ()) >>= fun _ =>
          again (.compLoop (.ListComp elt [⟨t0, i0, [], 0⟩, ⟨t1, i1, [], 0⟩] scope pos) 1 it acc env)) := by rfl
section
variable {prog : Program} {w : World} {A : Around} {E : Value → Shared → Prop} {R : Result → Shared → Prop} {s : Shared}
theorem codeAny_compStart_two1 {elt t0 i0 t1 i1 : Expr} {scope : Scope} {pos : Pos} {it acc : Value} {env : Env}
    (h0 : codeAny (model prog w) A (.compLoop (.ListComp elt [⟨t0, i0, [], 0⟩, ⟨t1, i1, [], 0⟩] scope pos) 1 it acc env) R s)
    (h : wpAny (model prog w) A (pyIter it) (fun it' s' => codeAny (model prog w) A (.compLoop (.ListComp elt [⟨t0, i0, [], 0⟩, ⟨t1, i1, [], 0⟩] scope pos) 1 it' acc env) R s')
      (notedBy (model prog w) A env fun x s' => R (.error x) s') s) :
    codeAny (model prog w) A (.compStart (.ListComp elt [⟨t0, i0, [], 0⟩, ⟨t1, i1, [], 0⟩] scope pos) 1 it acc env) R s := by
  refine codeAny_of_tree ?_
  show wpAny _ _ ((compStart (.ListComp elt [⟨t0, i0, [], 0⟩, ⟨t1, i1, [], 0⟩] scope pos) 1 it acc env).onRaise (fun x => do noteFrame x env; standAt theWindowsPlace)) _ _ s
  refine wpAny_notedAt ?_
  unfold compStart
  show wpAny _ _ (ask >>= _) _ _ s
  refine wpAny_bind (wpAny_askSetting (wpAny_ite ?_))
  split
  · first
      | exact wpAny_bind (wpAny_pure (wpAny_pure (And.intro rfl h0)))
      | exact wpAny_pure (And.intro rfl h0)
  · first
      | exact wpAny_bind (wpAny_rule (wpAny_bind (wpAny_standAt (wpAny_bind (wpAny_mono h (fun it' s' h' => wpAny_pure (And.intro rfl h')) fun _ _ x => x)))))
      | (refine wpAny_bind (wpAny_rule ?_); show wpAny _ _ (standAt i1.pos >>= _) _ _ s; exact wpAny_bind (wpAny_standAt (wpAny_bind (wpAny_mono h (fun it' s' h' => wpAny_pure (And.intro rfl h')) fun _ _ x => x))))

theorem codeAny_two0 {elt t0 i0 t1 i1 : Expr} {scope : Scope} {pos : Pos} {it acc : Value} {env : Env} (I : Nat → Shared → Prop)
    (turn : ∀ n s, I n s → wpAny (model prog w) A (pyNext it) (fun r s₁ => match r with
      | none => R (.ok .next) s₁
      | some v => wpAny (model prog w) A (letOwnedTupleGo t0 it v) (fun _ s₁' => wpAny (model prog w) A (assign t0 env v) (fun _ s₂ =>
          wpAny (model prog w) A (eval i1 env) (fun xv s₃ => wpAny (model prog w) A (pyIter xv) (fun it' s₄ =>
            codeAny (model prog w) A (.compStart (.ListComp elt [⟨t0, i0, [], 0⟩, ⟨t1, i1, [], 0⟩] scope pos) 1 it' acc env)
              (fun r s₅ => match r with | .ok _ => ∃ m, m < n ∧ I m s₅ | .error e => cameBackBy (model prog w) A env (notedBy (model prog w) A env fun e s' => R (.error e) s') e s₅) s₄)
            (notedBy (model prog w) A env fun e s' => R (.error e) s') s₃) (notedBy (model prog w) A env fun e s' => R (.error e) s') s₂)
          (notedBy (model prog w) A env fun e s' => R (.error e) s') s₁') (notedBy (model prog w) A env fun e s' => R (.error e) s') s₁) (notedBy (model prog w) A env fun e s' => R (.error e) s') s)
    (n : Nat) (h : I n s) (hs : ∀ x, foldedSetIterable i1 env x = pure x := by intro _; rfl) :
    codeAny (model prog w) A (.compLoop (.ListComp elt [⟨t0, i0, [], 0⟩, ⟨t1, i1, [], 0⟩] scope pos) 0 it acc env) R s := by
  refine codeAny_loop rfl I (fun n s hI => ?_) n h
  show wpAny _ _ ((compTurn (.ListComp elt [⟨t0, i0, [], 0⟩, ⟨t1, i1, [], 0⟩] scope pos) 0 it acc env).onRaise (fun x => do noteFrame x env; theTreesLotGoes x)) _ _ s
  refine wpAny_noted ?_
  rw [compTurn_two0]
  refine wpAny_bind (wpAny_standAt (wpAny_bind (wpAny_mono (turn n s hI) (fun r s₁ h₁ => ?_) fun _ _ h' => h')))
  cases r with
  | none => exact wpAny_pure h₁
  | some v =>
    refine wpAny_bind (wpAny_mono h₁ (fun _ s₁' h₁' => ?_) fun _ _ h' => h')
    refine wpAny_bind (wpAny_mono h₁' (fun _ s₂ h₂ => ?_) fun _ _ h' => h')
    refine wpAny_bind (wpAny_mono h₂ (fun xv s₃ h₃ => ?_) fun _ _ h' => h')
    refine wpAny_bind (wpAny_standAt (wpAny_bind (wpAny_of_eq (hs xv) (wpAny_bind (wpAny_holding (wpAny_mono h₃ (fun it' s₄ h₄ => ?_) fun _ _ h' => h'))))))
    refine wpAny_bind (wpAny_runOwn (h := none) ?_)
    refine codeAny_mono h₄ fun r s₅ h₅ => ?_
    cases r with
    | ok f => exact wpAny_pure ⟨rfl, h₅⟩
    | error e => exact h₅

theorem codeAny_two1 {elt t0 i0 t1 i1 : Expr} {scope : Scope} {pos : Pos} {it acc : Value} {env : Env} (I : Nat → Shared → Prop)
    (turn : ∀ n s, I n s → wpAny (model prog w) A (pyNext it) (fun r s₁ => match r with
      | none => R (.ok .next) s₁
      | some v => wpAny (model prog w) A (letOwnedTupleGo t1 it v) (fun _ s₁' => wpAny (model prog w) A (assign t1 env v) (fun _ s₂ => wpAny (model prog w) A (eval elt env) (fun x s₃ =>
          wpAny (model prog w) A (call (.builtin "list.append") [acc, x]) (fun _ s₄ => ∃ m, m < n ∧ I m s₄) (notedBy (model prog w) A env fun e s' => R (.error e) s') s₃)
          (notedBy (model prog w) A env fun e s' => R (.error e) s') s₂) (notedBy (model prog w) A env fun e s' => R (.error e) s') s₁') (notedBy (model prog w) A env fun e s' => R (.error e) s') s₁) (notedBy (model prog w) A env fun e s' => R (.error e) s') s)
    (n : Nat) (h : I n s) :
    codeAny (model prog w) A (.compLoop (.ListComp elt [⟨t0, i0, [], 0⟩, ⟨t1, i1, [], 0⟩] scope pos) 1 it acc env) R s := by
  refine codeAny_loop rfl I (fun n s hI => ?_) n h
  show wpAny _ _ ((compTurn (.ListComp elt [⟨t0, i0, [], 0⟩, ⟨t1, i1, [], 0⟩] scope pos) 1 it acc env).onRaise (fun x => do noteFrame x env; theTreesLotGoes x)) _ _ s
  refine wpAny_noted ?_
  rw [compTurn_two1]
  refine wpAny_bind (wpAny_standAt (wpAny_bind (wpAny_mono (turn n s hI) (fun r s₁ h₁ => ?_) fun _ _ h' => h')))
  cases r with
  | none => exact wpAny_pure h₁
  | some v =>
    refine wpAny_bind (wpAny_mono h₁ (fun _ s₁' h₁' => ?_) fun _ _ h' => h')
    refine wpAny_bind (wpAny_mono h₁' (fun _ s₂ h₂ => ?_) fun _ _ h' => h')
    exact wpAny_bind (wpAny_bind (wpAny_mono h₂ (fun x s₃ h₃ => wpAny_bind (wpAny_mono h₃ (fun _ s₄ h₄ => wpAny_pure (wpAny_pure ⟨rfl, h₄⟩)) fun _ _ h' => h')) fun _ _ h' => h'))
end
def tupO (a b : Value) (n : Nat) : Obj := { cls := .type "tuple", data := .seq #[a, b] n }
/-- what one turn of the inner clause makes: one new object, appended -/
def NEnd (h₀ : Heap) (L : Addr) (m : Str → Option Value) (s : Shared) (Led : List (Addr × Obj)) (K : Addr → Obj → Prop) (yv : Value) (s' : Shared) : Prop :=
  ∃ Y oY h' tk, yv = .ref Y ∧ s' = { s with heap := h', toks := tk } ∧ Fr h₀ L h' m ∧ News h₀ L h' ((Y, oY) :: Led) ∧ (∀ p ∈ Led, p.1 ≠ Y) ∧ K Y oY
section
variable {prog : Program} {w : World} {A : Around} {E : Value → Shared → Prop} {s : Shared} {h₀ : Heap} {L : Addr} {m : Str → Option Value} {env : Env}
theorem inner_N {elt t0 i0 i1 : Expr} {x x₂ y y₂ : Str} {py py₂ tp : Pos} {tk0 : Nat} {scope : Scope} {cl : List (Str × Addr)} {pos : Pos} {s₄ : Shared} {T I C D : Addr} {oI : Obj} {items : Array Value} {nt : Nat} {v₁ v₂ : Value} {hp : Heap}
    (J1 : Nat → List Value → List (Addr × Obj) → Prop) {R : Result → Shared → Prop} {ys : List Value} {newsM : List (Addr × Obj)} {m' : Str → Option Value}
    (hh : A.handled = none) (hkind : scope.kind = .function) (hy : scope.names.lookup y = some .local) (hy₂ : scope.names.lookup y₂ = some .local) (hyy : x ≠ y ∧ x ≠ y₂ ∧ x₂ ≠ y ∧ x₂ ≠ y₂ ∧ y ≠ y₂)
    (hs₄ : s₄.heap = hp.push { cls := .type "tuple_iterator", data := .fields #[.ref T, .int 0 0] })
    (F : Fr h₀ L hp m) (hn : hp.Ns C m') (hm₁ : m' x = some v₁) (hm₂ : m' x₂ = some v₂) (N : News h₀ L hp ((I, oI) :: (D, lst ys) :: newsM)) (hC₀ : h₀.get? C = none) (hCL : C ≠ L)
    (hne : (@Ne Nat I C) ∧ (@Ne Nat I D) ∧ (@Ne Nat C D)) (off : Off3 I C D newsM) (hT : ∀ j ys nw, J1 j ys nw → (T, ({ cls := .type "tuple", data := .seq items nt } : Obj)) ∈ nw) (hj : J1 0 ys newsM) (hl : ∀ j ys nw, J1 j ys nw → ys.length ≤ sizeLine)
    (turn : ∀ j v ys nw, items[j]? = some v → J1 j ys nw → ∃ (t : Addr) (a b : Value) (n : Nat), v = .ref t ∧ (t, tupO a b n) ∈ nw ∧
      ∀ I1 oI1 oC m₃ h tk (E' : Value → Shared → Prop), NsObj oC m₃ → m₃ x = some v₁ → m₃ x₂ = some v₂ → m₃ y = some a → m₃ y₂ = some b → Fr h₀ L h m → News h₀ L h ((I1, oI1) :: (I, oI) :: (C, oC) :: (D, lst ys) :: nw) →
        wpAny (model prog w) A (eval elt (compEnvC scope cl C env)) (NEnd h₀ L m { s₄ with heap := h, toks := tk } ((I1, oI1) :: (I, oI) :: (C, oC) :: (D, lst ys) :: nw) (fun Y oY => J1 (j + 1) (ys ++ [.ref Y]) ((Y, oY) :: nw))) E' { s₄ with heap := h, toks := tk })
    (hR : ∀ h tk m' ys nw, Fr h₀ L h m → h.Ns C m' → News h₀ L h ((I, oI) :: (D, lst ys) :: nw) → Off3 I C D nw → J1 items.size ys nw → R (.ok .next) { s₄ with heap := h, toks := tk }) :
    codeAny (model prog w) A (.compStart (.ListComp elt [⟨t0, i0, [], 0⟩, ⟨.Tuple [.Name y py, .Name y₂ py₂] tk0 tp, i1, [], 0⟩] scope pos) 1 (.ref hp.objs.size) (.ref D) (compEnvC scope cl C env)) R s₄ := by
  have hTm := hT _ _ _ hj
  have hTg : hp.get? T = some _ := (N _ (.tail _ (.tail _ hTm))).1
  have hne' : T ≠ hp.objs.size := Nat.ne_of_lt (Heap.lt_size hTg)
  have W := Walks.tuple (prog := prog) (w := w) hh hp.objs.size T hne' items
  have hI1f : ∀ {b o}, hp.get? b = some o → b ≠ hp.objs.size := fun e => Nat.ne_of_lt (Heap.lt_size e)
  have hLlt : L < hp.objs.size := F.ns.lt
  have hI1L : hp.objs.size ≠ L := Ne.symm (Nat.ne_of_lt hLlt)
  have hI1₀ : h₀.get? hp.objs.size = none := by
    cases e : h₀.get? hp.objs.size with
    | none => rfl
    | some o => exact absurd rfl (hI1f (F.keep _ _ e))
  have hCI1 : C ≠ hp.objs.size := by obtain ⟨o, _, _, e, _⟩ := hn; exact hI1f e
  have loop : ∀ s₅ : Shared, s₅ = s₄ → codeAny (model prog w) A (.compLoop (.ListComp elt [⟨t0, i0, [], 0⟩, ⟨.Tuple [.Name y py, .Name y₂ py₂] tk0 tp, i1, [], 0⟩] scope pos) 1 (.ref hp.objs.size) (.ref D) (compEnvC scope cl C env)) R s₅ := by
    intro s₅ hs₅
    rw [hs₅]
    refine codeAny_two1
      (fun k s' => ∃ h' tk j ys m' nw, s' = { s₄ with heap := h', toks := tk } ∧ j ≤ items.size ∧ k = items.size + 1 - j ∧ (h'.IsTupleIter hp.objs.size T j ∧ h'.IsTuple T items) ∧ Fr h₀ L h' m ∧ h'.Ns C m' ∧ m' x = some v₁ ∧ m' x₂ = some v₂ ∧
        News h₀ L h' ((I, oI) :: (D, lst ys) :: nw) ∧ Off3 I C D nw ∧ (∀ p ∈ (I, oI) :: (D, lst ys) :: nw, p.1 ≠ hp.objs.size) ∧ J1 j ys nw) ?_ (items.size + 1) ?_
    · rintro k s' ⟨h', tk, j, ys, m', nw, rfl, hj', rfl, hst, F', hn', h1, h2, N', off', offI, hJ⟩
      by_cases hlt : j < items.size
      · refine W.item j _ _ _ hlt hst fun v h₂ tk₂ hPv hst₂ hk₂ => ?_
        obtain ⟨t, a, b, n, rfl, hmt, tr⟩ := turn j v ys nw hPv hJ
        have off3 := off'.mem
        have keep₂ : ∀ c o, c ≠ hp.objs.size → h'.get? c = some o → h₂.get? c = some o := fun c o hc e => hk₂ c o (by simpa using hc) e
        have hnp : ∀ p ∈ (I, oI) :: (D, lst ys) :: nw, p.1 ≠ hp.objs.size := offI
        have N₂ : News h₀ L h₂ ((I, oI) :: (D, lst ys) :: nw) := fun p hp' => ⟨keep₂ _ _ (hnp p hp') (N' p hp').1, (N' p hp').2⟩
        have ht : h₂.IsTuple t #[a, b] := ⟨_, (N₂ _ (.tail _ (.tail _ hmt))).1, rfl, n, rfl⟩
        refine letGo_tupleiter hst₂.1 ?_
        refine kcp_assign (hh := hh) (ht := ht) (lookup_relabel_local hy) (lookup_relabel_local hy₂) (by simp [compEnvC, relabel, hkind]) (hn'.at' fun o e => keep₂ _ o hCI1 e) fun h₃ tk₃ hn₃ hk₃ => ?_
        have hn₃' : h₃.Ns C _ := hn₃
        have keep₃ : ∀ c o, c ≠ C → h₂.get? c = some o → h₃.get? c = some o := hk₃
        have F₃ : Fr h₀ L h₃ m := by
          have F₂ : Fr h₀ L h₂ m := ⟨F'.ns.at' fun o e => keep₂ _ o (Ne.symm hI1L) e, fun c o e => keep₂ c o (fun q => by rw [q, hI1₀] at e; cases e) (F'.keep c o e), F'.above⟩
          exact ⟨F₂.ns.at' fun o e => keep₃ _ o (Ne.symm hCL) e, fun c o e => keep₃ c o (fun q => by rw [q, hC₀] at e; cases e) (F₂.keep c o e), F₂.above⟩
        obtain ⟨oC, heC, hoC⟩ := ns_obj hn₃'
        obtain ⟨oI1, heI1, hI1c⟩ := hst₂.1
        have heI1' : h₃.get? hp.objs.size = some oI1 := keep₃ _ _ (Ne.symm hCI1) heI1
        have hIC : ∀ p ∈ (I, oI) :: (D, lst ys) :: nw, p.1 ≠ C := fun p hp' => by
          rcases List.mem_cons.mp hp' with rfl | hp'
          · exact hne.1
          · rcases List.mem_cons.mp hp' with rfl | hp'
            · exact Ne.symm hne.2.2
            · exact (off3 p hp').2.1
        have N₃ : News h₀ L h₃ ((hp.objs.size, oI1) :: (I, oI) :: (C, oC) :: (D, lst ys) :: nw) := fun p hp' => by
          rcases List.mem_cons.mp hp' with rfl | hp'
          · exact ⟨heI1', hI1L, hI1₀⟩
          · rcases List.mem_cons.mp hp' with rfl | hp'
            · exact ⟨keep₃ _ _ hne.1 (N₂ _ (.head _)).1, (N₂ _ (.head _)).2⟩
            · rcases List.mem_cons.mp hp' with rfl | hp'
              · exact ⟨heC, hCL, hC₀⟩
              · have z := N₂ p (.tail _ hp')
                exact ⟨keep₃ _ _ (hIC p (.tail _ hp')) z.1, z.2⟩
        obtain ⟨q1, q2, q3, q4, q5⟩ := hyy
        refine wpAny_mono (tr hp.objs.size oI1 oC _ h₃ _ _ hoC (by simp [q1, q2, h1]) (by simp [q3, q4, h2]) (by simp [q5]) (by simp) F₃ N₃) (fun yv s₆ h₆ => ?_) fun _ _ e => e
        obtain ⟨Y, oY, h₄, tk₄, rfl, rfl, F₄, N₄, offY, hJ'⟩ := h₆
        have zD := (N₄ (D, lst ys) (.tail _ (.tail _ (.tail _ (.tail _ (.head _)))))).1
        have zC := (N₄ (C, oC) (.tail _ (.tail _ (.tail _ (.head _))))).1
        have zI1 := (N₄ (hp.objs.size, oI1) (.tail _ (.head _))).1
        have hD₀ := (N₄ (D, lst ys) (.tail _ (.tail _ (.tail _ (.tail _ (.head _)))))).2
        refine append_at (hsz := by show ys.toArray.size ≤ sizeLine; rw [List.size_toArray]; exact hl _ _ _ hJ) zD fun h₅ hs₅' hD₅ => ?_
        have hDI1 : D ≠ hp.objs.size := offI (D, lst ys) (.tail _ (.head _))
        have hN₅ : ∀ p ∈ (I, oI) :: (Y, oY) :: nw, p ∈ (Y, oY) :: (hp.objs.size, oI1) :: (I, oI) :: (C, oC) :: (D, lst ys) :: nw ∧ p.1 ≠ D := fun p hp' => by
          rcases List.mem_cons.mp hp' with rfl | hp'
          · exact ⟨.tail _ (.tail _ (.head _)), hne.2.1⟩
          · rcases List.mem_cons.mp hp' with rfl | hp'
            · exact ⟨.head _, Ne.symm (offY (D, lst ys) (.tail _ (.tail _ (.tail _ (.head _)))))⟩
            · exact ⟨.tail _ (.tail _ (.tail _ (.tail _ (.tail _ hp')))), (off3 p hp').2.2⟩
        have keep₅ : ∀ p ∈ (I, oI) :: (Y, oY) :: nw, h₅.get? p.1 = some p.2 ∧ p.1 ≠ L ∧ h₀.get? p.1 = none := fun p hp' => ⟨hs₅'.extBut _ _ (hN₅ p hp').2 (N₄ p (hN₅ p hp').1).1, (N₄ p (hN₅ p hp').1).2⟩
        refine ⟨items.size + 1 - (j + 1), by omega, h₅, _, j + 1, ys ++ [.ref Y], _, (Y, oY) :: nw, rfl, hlt, rfl, ?_, F₄.change hs₅' hD₀.1 hD₀.2, (hoC.ns zC).sameBut hs₅' hne.2.2, by simp [q1, q2, h1], by simp [q3, q4, h2], ?_, ?_, ?_, hJ'⟩
        · have hm5 := hT _ _ _ hJ'
          refine ⟨⟨oI1, hs₅'.extBut _ _ (Ne.symm hDI1) zI1, hI1c⟩, ⟨_, (keep₅ _ (.tail _ hm5)).1, rfl, nt, rfl⟩⟩
        · intro p hp'
          rcases List.mem_cons.mp hp' with rfl | hp'
          · exact keep₅ _ (.head _)
          · rcases List.mem_cons.mp hp' with rfl | hp'
            · exact ⟨hD₅.trans (congrArg some (lst_snoc ys (.ref Y))), hD₀⟩
            · exact keep₅ p (.tail _ hp')
        · exact ⟨⟨Ne.symm (offY (I, oI) (.tail _ (.head _))), Ne.symm (offY (C, oC) (.tail _ (.tail _ (.head _)))), Ne.symm (offY (D, lst ys) (.tail _ (.tail _ (.tail _ (.head _)))))⟩, off'⟩
        · intro p hp'
          rcases List.mem_cons.mp hp' with rfl | hp'
          · exact offI _ (.head _)
          · rcases List.mem_cons.mp hp' with rfl | hp'
            · exact hDI1
            · rcases List.mem_cons.mp hp' with rfl | hp'
              · exact Ne.symm (offY (hp.objs.size, oI1) (.head _))
              · exact offI p (.tail _ (.tail _ hp'))
      · obtain rfl : j = items.size := Nat.le_antisymm hj' (Nat.not_lt.mp hlt)
        refine W.done _ _ _ hst fun h₂ tk₂ hk₂ => ?_
        have keep₂ : ∀ c o, c ≠ hp.objs.size → h'.get? c = some o → h₂.get? c = some o := fun c o hc e => hk₂ c o (by simpa using hc) e
        exact hR h₂ tk₂ m' ys nw ⟨F'.ns.at' fun o e => keep₂ _ o (Ne.symm hI1L) e, fun c o e => keep₂ c o (fun q => by rw [q, hI1₀] at e; cases e) (F'.keep c o e), F'.above⟩ (hn'.at' fun o e => keep₂ _ o hCI1 e)
          (fun p hp' => ⟨keep₂ _ _ (offI p hp') (N' p hp').1, (N' p hp').2⟩) off' hJ
    · have up : ∀ c o, hp.get? c = some o → s₄.heap.get? c = some o := fun c o e => by rw [hs₄]; exact Heap.get?_push_of_some _ e
      exact ⟨s₄.heap, s₄.toks, 0, ys, m', newsM, rfl, Nat.zero_le _, rfl, ⟨⟨_, by rw [hs₄]; exact Heap.get?_push_size _ rfl, rfl, rfl⟩, ⟨_, up _ _ hTg, rfl, nt, rfl⟩⟩, F.keeps up, hn.at' fun o e => up _ o e, hm₁, hm₂, fun p hp' => ⟨up _ _ (N p hp').1, (N p hp').2⟩, off, fun p hp' => hI1f (N p hp').1, hj⟩
  exact codeAny_compStart_two1 (loop _ rfl) (W.self 0 _ _ _ ⟨⟨_, by rw [hs₄]; exact Heap.get?_push_size _ rfl, rfl, rfl⟩, ⟨_, by rw [hs₄]; exact Heap.get?_push_of_some _ hTg, rfl, nt, rfl⟩⟩ (loop _ rfl))

/-- what the inner iterable comes to: a tuple of pairs, its turns, and what they leave -/
def NMid (prog : Program) (w : World) (A : Around) (h₀ : Heap) (L : Addr) (m : Str → Option Value) (env : Env) (elt : Expr) (x x₂ y y₂ : Str) (scope : Scope) (cl : List (Str × Addr)) (v₁ v₂ : Value) (s : Shared) (I : Addr) (oI : Obj) (C : Addr) (oC : Obj) (D : Addr) (ys : List Value) (Jn : List Value → List (Addr × Obj) → Prop) (xv : Value) (s' : Shared) : Prop :=
  ∃ (T : Addr) (items : Array Value) (nt : Nat) (nw' : List (Addr × Obj)) (J1 : Nat → List Value → List (Addr × Obj) → Prop) (h' : Heap) (tk : Nat),
    xv = .ref T ∧ s' = { s with heap := h', toks := tk } ∧ Fr h₀ L h' m ∧ News h₀ L h' ((I, oI) :: (C, oC) :: (D, lst ys) :: nw') ∧ Off3 I C D nw' ∧
    (∀ j ys nw, J1 j ys nw → (T, ({ cls := .type "tuple", data := .seq items nt } : Obj)) ∈ nw) ∧ J1 0 ys nw' ∧ (∀ j ys nw, J1 j ys nw → ys.length ≤ sizeLine) ∧
    (∀ j v ys nw, items[j]? = some v → J1 j ys nw → ∃ (t : Addr) (a b : Value) (n : Nat), v = .ref t ∧ (t, tupO a b n) ∈ nw ∧
      ∀ I1 oI1 oC m₃ h tk (E' : Value → Shared → Prop), NsObj oC m₃ → m₃ x = some v₁ → m₃ x₂ = some v₂ → m₃ y = some a → m₃ y₂ = some b → Fr h₀ L h m → News h₀ L h ((I1, oI1) :: (I, oI) :: (C, oC) :: (D, lst ys) :: nw) →
        wpAny (model prog w) A (eval elt (compEnvC scope cl C env)) (NEnd h₀ L m { s with heap := h, toks := tk } ((I1, oI1) :: (I, oI) :: (C, oC) :: (D, lst ys) :: nw) (fun Y oY => J1 (j + 1) (ys ++ [.ref Y]) ((Y, oY) :: nw))) E' { s with heap := h, toks := tk }) ∧
    ∀ ys nw, J1 items.size ys nw → Jn ys nw

theorem block_N {elt i0 i1 : Expr} {x x₂ y y₂ : Str} {px px₂ tp0 py py₂ tp : Pos} {tk0 tk1 : Nat} {scope : Scope} {cl : List (Str × Addr)} {pos : Pos} {s₂ : Shared} {ax : Addr} {its : Array Value} {nn : Nat} {hp : Heap} {news : List (Addr × Obj)}
    (J : Nat → List Value → List (Addr × Obj) → Prop) {RR : Value → Addr → Result → Shared → Prop}
    (hh : A.handled = none) (hcell : ∀ y ∈ scope.names, y.2 ≠ .cell) (hkind : scope.kind = .function) (hx : scope.names.lookup x = some .local) (hx₂ : scope.names.lookup x₂ = some .local) (hy : scope.names.lookup y = some .local) (hy₂ : scope.names.lookup y₂ = some .local)
    (hxx : x ≠ x₂) (hyy : x ≠ y ∧ x ≠ y₂ ∧ x₂ ≠ y ∧ x₂ ≠ y₂ ∧ y ≠ y₂)
    (hs₂ : s₂.heap = hp.push { cls := .type "list_iterator", data := .fields #[.ref ax, .int 0 0] })
    (F : Fr h₀ L hp m) (N : News h₀ L hp news) (hJs : ∀ i ys nw, J i ys nw → (ax, ({ cls := .type "list", data := .seq its nn } : Obj)) ∈ nw) (hj : J 0 [] news)
    (turn : ∀ i v ys nw, its[i]? = some v → J i ys nw → ∃ (t : Addr) (v₁ v₂ : Value) (n : Nat), v = .ref t ∧ (t, tupO v₁ v₂ n) ∈ nw ∧
      ∀ I oI C oC D m₂ h tk (E' : Value → Shared → Prop), NsObj oC m₂ → m₂ x = some v₁ → m₂ x₂ = some v₂ → Fr h₀ L h m → News h₀ L h ((I, oI) :: (C, oC) :: (D, lst ys) :: nw) → Off3 I C D nw → ((@Ne Nat I C) ∧ (@Ne Nat I D) ∧ (@Ne Nat C D)) →
        wpAny (model prog w) A (eval i1 (compEnvC scope cl C env)) (NMid prog w A h₀ L m env elt x x₂ y y₂ scope cl v₁ v₂ { s₂ with heap := h, toks := tk } I oI C oC D ys (J (i + 1))) E' { s₂ with heap := h, toks := tk })
    (hRR : ∀ D C h tk m' ys nw, Fr h₀ L h m → News h₀ L h ((D, lst ys) :: nw) → Off1 D nw → h.Ns C m' → h₀.get? C = none → h₀.get? D = none → C ≠ L → D ≠ L → C ≠ D → (∀ p ∈ nw, p.1 ≠ C) → J its.size ys nw → RR (.ref D) C (.ok .next) { s₂ with heap := h, toks := tk })
    (hs : ∀ (env : Env) x, foldedSetIterable i1 env x = pure x) :
    wpAny (model prog w) A (newList []) (fun acc s₃ => wpAny (model prog w) A (newFunctionEnv scope env.globals cl [] env.qual none .none (some env)) (fun cenv s₄ =>
      codeAny (model prog w) A (.compStart (.ListComp elt [⟨.Tuple [.Name x px, .Name x₂ px₂] tk1 tp0, i0, [], 0⟩, ⟨.Tuple [.Name y py, .Name y₂ py₂] tk0 tp, i1, [], 0⟩] scope pos) 0 (.ref hp.objs.size) acc { cenv with scope := relabel scope env }) (RR acc cenv.locals) s₄) E s₃) E s₂ := by
  have hAg : hp.get? ax = some _ := (N _ (hJs _ _ _ hj)).1
  have hAI : ax ≠ hp.objs.size := Nat.ne_of_lt (Heap.lt_size hAg)
  have W := Walks.list (prog := prog) (w := w) hh hp.objs.size ax hAI its
  generalize hI : hp.objs.size = I at W hAI ⊢
  have hI1f : ∀ {b o}, hp.get? b = some o → b ≠ I := fun e => hI ▸ Nat.ne_of_lt (Heap.lt_size e)
  have upP : ∀ c o, hp.get? c = some o → s₂.heap.get? c = some o := fun c o e => by rw [hs₂]; exact Heap.get?_push_of_some _ e
  have hIs : s₂.heap.IsListIter I ax 0 := ⟨_, by rw [hs₂, ← hI]; exact Heap.get?_push_size _ rfl, rfl, rfl⟩
  have hsz₂ : s₂.heap.objs.size = I + 1 := by rw [hs₂, Heap.size_push, hI]
  have hI₀ : h₀.get? I = none := by
    cases e : h₀.get? I with
    | none => rfl
    | some o => exact absurd rfl (hI1f (F.keep _ _ e))
  have hIL : L ≠ I := hI ▸ Nat.ne_of_lt F.ns.lt
  replace F : Fr h₀ L s₂.heap m := F.keeps upP
  have offI : ∀ p ∈ news, p.1 ≠ I := fun p hp' => hI1f (N p hp').1
  replace N : News h₀ L s₂.heap news := fun p hp' => ⟨upP _ _ (N p hp').1, (N p hp').2⟩
  refine wpAny_newObj_type (wpAny_newFunctionEnv hcell (by intro y hy; simp at hy) (fun h₁ hns₁ hsb₁ => ?_) hkind)
  dsimp only at hns₁ hsb₁ ⊢
  generalize hH2 : s₂.heap.push { cls := .type "list", dict := none, data := .seq ([] : List Value).toArray } = H2 at hns₁ hsb₁ ⊢
  have hC : H2.objs.size = s₂.heap.objs.size + 1 := by rw [← hH2, Heap.size_push]
  have hDC : s₂.heap.objs.size ≠ H2.objs.size := by rw [hC]; exact Nat.ne_of_lt (Nat.lt_succ_self _)
  have below : ∀ b, b < s₂.heap.objs.size → b ≠ H2.objs.size ∧ b ≠ s₂.heap.objs.size := fun b hb => ⟨by rw [hC]; exact Nat.ne_of_lt (Nat.lt_succ_of_lt hb), Nat.ne_of_lt hb⟩
  have hIlt : I < s₂.heap.objs.size := by rw [hsz₂]; exact Nat.lt_succ_self _
  have old : ∀ b o, s₂.heap.get? b = some o → h₁.get? b = some o := fun b o e => hsb₁.extBut b o (below b (Heap.lt_size e)).1 (Heap.get?_push_of_some _ (hH2 ▸ Heap.get?_push_of_some _ e))
  have hacc : h₁.get? s₂.heap.objs.size = some (lst []) := hsb₁.extBut _ _ hDC (Heap.get?_push_of_some _ (hH2 ▸ Heap.get?_push_size _ rfl))
  have fresh : ∀ a, s₂.heap.objs.size ≤ a → s₂.heap.get? a = none := fun a ha => by
    cases e : s₂.heap.get? a with
    | none => rfl
    | some o' => exact absurd (Heap.lt_size e) (Nat.not_lt.mpr ha)
  have fresh₀ : ∀ a, s₂.heap.objs.size ≤ a → h₀.get? a = none := fun a ha => by
    cases e : h₀.get? a with
    | none => rfl
    | some o' => have := F.keep a o' e; rw [fresh a ha] at this; cases this
  have hD₀ : h₀.get? s₂.heap.objs.size = none := fresh₀ _ (Nat.le_refl _)
  have hC₀ : h₀.get? H2.objs.size = none := fresh₀ _ (by rw [hC]; exact Nat.le_succ _)
  have hLlt : L < s₂.heap.objs.size := F.ns.lt
  have hDL : s₂.heap.objs.size ≠ L := Ne.symm (below L hLlt).2
  have hCL : H2.objs.size ≠ L := Ne.symm (below L hLlt).1
  have hCI : I ≠ H2.objs.size := (below I hIlt).1
  have hDI : I ≠ s₂.heap.objs.size := (below I hIlt).2
  have off₀ : Off3 I H2.objs.size s₂.heap.objs.size news := Off3.of fun p hp => ⟨offI p hp, (below _ (Heap.lt_size (N p hp).1)).1, (below _ (Heap.lt_size (N p hp).1)).2⟩
  have hst₁ : h₁.IsListIter I ax 0 ∧ h₁.IsList ax its := ⟨hIs.at fun o e => old _ _ e, ⟨_, old _ _ (N _ (hJs _ _ _ hj)).1, rfl, nn, rfl⟩⟩
  have loop : ∀ s₃ : Shared, s₃ = { s₂ with heap := h₁, toks := s₂.toks + ([] : List (Str × Value)).length } →
      codeAny (model prog w) A (.compLoop (.ListComp elt [⟨.Tuple [.Name x px, .Name x₂ px₂] tk1 tp0, i0, [], 0⟩, ⟨.Tuple [.Name y py, .Name y₂ py₂] tk0 tp, i1, [], 0⟩] scope pos) 0 (.ref I) (.ref s₂.heap.objs.size) (compEnvC scope cl H2.objs.size env))
        (RR (.ref s₂.heap.objs.size) H2.objs.size) s₃ := by
    rintro s₃ rfl
    refine codeAny_two0
      (fun k s' => ∃ h' tk i ys m' nw, s' = { s₂ with heap := h', toks := tk } ∧ i ≤ its.size ∧ k = its.size + 1 - i ∧ (h'.IsListIter I ax i ∧ h'.IsList ax its) ∧ Fr h₀ L h' m ∧ h'.Ns H2.objs.size m' ∧ News h₀ L h' ((s₂.heap.objs.size, lst ys) :: nw) ∧
        Off3 I H2.objs.size s₂.heap.objs.size nw ∧ J i ys nw) ?_ (its.size + 1)
      ⟨h₁, _, 0, [], _, news, rfl, Nat.zero_le _, rfl, hst₁, F.keeps old, hns₁, fun p hp => ?_, off₀, hj⟩ (hs _)
    · rintro k s' ⟨h', tk, i, ys, m', nw, rfl, hi, rfl, hst', F', hn', N', off', hJ⟩
      by_cases hlt : i < its.size
      · refine W.item i _ _ _ hlt hst' fun v h₂ tk₂ hPv hst₂ hk₂ => ?_
        obtain ⟨t, v₁, v₂, nt, rfl, hmt, tr⟩ := turn i v ys nw hPv hJ
        have off3 := off'.mem
        have N₂ : News h₀ L h₂ ((s₂.heap.objs.size, lst ys) :: nw) := news_but N' hk₂ fun p hp => by
          rcases List.mem_cons.mp hp with rfl | hp
          · exact Ne.symm hDI
          · exact (off3 p hp).1
        have ht : h₂.IsTuple t #[v₁, v₂] := ⟨_, (N₂ _ (.tail _ hmt)).1, rfl, nt, rfl⟩
        refine letGo_listiter hst₂.1 ?_
        refine kcp_assign (hh := hh) (ht := ht) (lookup_relabel_local hx) (lookup_relabel_local hx₂) (by simp [compEnvC, relabel, hkind]) (hn'.at' fun o e => hk₂ _ o (by simpa using Ne.symm hCI) e) fun h₃ tk₃ hn₃ hk₃ => ?_
        have keep₃ : ∀ c o, c ≠ H2.objs.size → h₂.get? c = some o → h₃.get? c = some o := hk₃
        have hn₃' : h₃.Ns H2.objs.size _ := hn₃
        have F₂ := fr_but F' hk₂ hIL hI₀
        have F₃ : Fr h₀ L h₃ m := ⟨F₂.ns.at' fun o e => keep₃ _ o (Ne.symm hCL) e, fun c o e => keep₃ c o (fun q => by rw [q, hC₀] at e; cases e) (F₂.keep c o e), F₂.above⟩
        obtain ⟨oC, heC, hoC⟩ := ns_obj hn₃'
        obtain ⟨oI, heI, hIc⟩ := hst₂.1
        have heI' : h₃.get? I = some oI := keep₃ _ _ hCI heI
        have N₃ : News h₀ L h₃ ((I, oI) :: (H2.objs.size, oC) :: (s₂.heap.objs.size, lst ys) :: nw) := fun p hp => by
          rcases List.mem_cons.mp hp with rfl | hp
          · exact ⟨heI', Ne.symm hIL, hI₀⟩
          · rcases List.mem_cons.mp hp with rfl | hp
            · exact ⟨heC, hCL, hC₀⟩
            · have z := N₂ p hp
              refine ⟨keep₃ _ _ ?_ z.1, z.2⟩
              rcases List.mem_cons.mp hp with rfl | hp
              · exact hDC
              · exact (off3 p hp).2.1
        refine wpAny_mono (tr I oI H2.objs.size oC s₂.heap.objs.size _ h₃ _ _ hoC (by simp [hxx]) (by simp) F₃ N₃ off' ⟨hCI, hDI, Ne.symm hDC⟩) (fun xv s₄ h₄ => ?_) fun _ _ e => e
        obtain ⟨T, items, nT, nw', J1, h₄, tk₄, rfl, rfl, F₄, N₄, off₄, hT, hJ1, hl, tr1, fin1⟩ := h₄
        have hTt : h₄.IsTuple T items := ⟨_, (N₄ _ (.tail _ (.tail _ (.tail _ (hT _ _ _ hJ1))))).1, rfl, nT, rfl⟩
        refine wpAny_pyIter_tuple hTt ?_
        have zC := (N₄ (H2.objs.size, oC) (.tail _ (.head _))).1
        refine inner_N (hp := h₄) J1 (oI := oI) (I := I) (newsM := nw') (ys := ys) hh hkind hy hy₂ hyy rfl F₄ (hoC.ns zC) (by simp [hxx]) (by simp) (fun p hp => N₄ p ((List.mem_cons.mp hp).elim (fun e => e ▸ .head _) fun h => .tail _ (.tail _ h))) hC₀ hCL ⟨hCI, hDI, Ne.symm hDC⟩ off₄ hT hJ1 hl tr1 ?_
        intro h₅ tk₅ m₅ ys₅ nw₅ F₅ hn₅ N₅ off₅ hJ₅
        have hJn := fin1 _ _ hJ₅
        refine ⟨its.size + 1 - (i + 1), by omega, h₅, tk₅, i + 1, ys₅, m₅, nw₅, rfl, hlt, rfl, ⟨⟨oI, (N₅ _ (.head _)).1, hIc⟩, ⟨_, (N₅ _ (.tail _ (.tail _ (hJs _ _ _ hJn)))).1, rfl, nn, rfl⟩⟩, F₅, hn₅, fun p hp => N₅ p (.tail _ hp), off₅, hJn⟩
      · obtain rfl : i = its.size := Nat.le_antisymm hi (Nat.not_lt.mp hlt)
        refine W.done _ _ _ hst' fun h₂ tk₂ hk₂ => ?_
        have off3 := off'.mem
        exact hRR _ _ h₂ tk₂ _ ys nw (fr_but F' hk₂ hIL hI₀) (news_but N' hk₂ fun p hp => by
          rcases List.mem_cons.mp hp with rfl | hp
          · exact Ne.symm hDI
          · exact (off3 p hp).1) off'.one (hn'.at' fun o e => hk₂ _ o (by simpa using Ne.symm hCI) e) hC₀ hD₀ hCL hDL (Ne.symm hDC) (fun p hp => (off3 p hp).2.1) hJ
    · rcases List.mem_cons.mp hp with rfl | hp
      · exact ⟨hacc, hDL, hD₀⟩
      · exact ⟨old _ _ (N p hp).1, (N p hp).2⟩
  exact codeAny_compStart_list (loop _ rfl) (W.self 0 _ _ _ hst₁ (loop _ rfl))

def NSrc (prog : Program) (w : World) (A : Around) (h₀ : Heap) (L : Addr) (m : Str → Option Value) (env : Env) (elt i1 : Expr) (x x₂ y y₂ : Str) (scope : Scope) (cl : List (Str × Addr)) (z : Str) (Q : Flow → Shared → Prop) (xv : Value) (s₁ : Shared) : Prop :=
  ∃ ax its nn news, ∃ J : Nat → List Value → List (Addr × Obj) → Prop, xv = .ref ax ∧ A.handled = none ∧ Fr h₀ L s₁.heap m ∧ News h₀ L s₁.heap news ∧ (∀ i ys nw, J i ys nw → (ax, ({ cls := .type "list", data := .seq its nn } : Obj)) ∈ nw) ∧ J 0 [] news ∧
    (∀ i v ys nw, its[i]? = some v → J i ys nw → ∃ (t : Addr) (v₁ v₂ : Value) (n : Nat), v = .ref t ∧ (t, tupO v₁ v₂ n) ∈ nw ∧
      ∀ I oI C oC D m₂ h tk (E' : Value → Shared → Prop), NsObj oC m₂ → m₂ x = some v₁ → m₂ x₂ = some v₂ → Fr h₀ L h m → News h₀ L h ((I, oI) :: (C, oC) :: (D, lst ys) :: nw) → Off3 I C D nw → ((@Ne Nat I C) ∧ (@Ne Nat I D) ∧ (@Ne Nat C D)) →
        wpAny (model prog w) A (eval i1 (compEnvC scope cl C env)) (NMid prog w A h₀ L m env elt x x₂ y y₂ scope cl v₁ v₂ { s₁ with heap := h, toks := tk } I oI C oC D ys (J (i + 1))) E' { s₁ with heap := h, toks := tk }) ∧
    ∀ D h tk ys nw, Fr h₀ L h (fun u => if u = z then some (.ref D) else m u) → News h₀ L h ((D, lst ys) :: nw) → Off1 D nw → J its.size ys nw → Q .next { s₁ with heap := h, toks := tk }
theorem NSrc.intro {elt i1 : Expr} {x x₂ y y₂ z : Str} {scope : Scope} {cl : List (Str × Addr)} {Q : Flow → Shared → Prop} {ax : Addr} {its : Array Value} {nn : Nat} {news : List (Addr × Obj)} {s₁ : Shared} (J : Nat → List Value → List (Addr × Obj) → Prop)
    (hh : A.handled = none) (F : Fr h₀ L s₁.heap m) (N : News h₀ L s₁.heap news) (hJs : ∀ i ys nw, J i ys nw → (ax, ({ cls := .type "list", data := .seq its nn } : Obj)) ∈ nw) (hj : J 0 [] news)
    (turn : ∀ i v ys nw, its[i]? = some v → J i ys nw → ∃ (t : Addr) (v₁ v₂ : Value) (n : Nat), v = .ref t ∧ (t, tupO v₁ v₂ n) ∈ nw ∧
      ∀ I oI C oC D m₂ h tk (E' : Value → Shared → Prop), NsObj oC m₂ → m₂ x = some v₁ → m₂ x₂ = some v₂ → Fr h₀ L h m → News h₀ L h ((I, oI) :: (C, oC) :: (D, lst ys) :: nw) → Off3 I C D nw → ((@Ne Nat I C) ∧ (@Ne Nat I D) ∧ (@Ne Nat C D)) →
        wpAny (model prog w) A (eval i1 (compEnvC scope cl C env)) (NMid prog w A h₀ L m env elt x x₂ y y₂ scope cl v₁ v₂ { s₁ with heap := h, toks := tk } I oI C oC D ys (J (i + 1))) E' { s₁ with heap := h, toks := tk })
    (fin : ∀ D h tk ys nw, Fr h₀ L h (fun u => if u = z then some (.ref D) else m u) → News h₀ L h ((D, lst ys) :: nw) → Off1 D nw → J its.size ys nw → Q .next { s₁ with heap := h, toks := tk }) :
    NSrc prog w A h₀ L m env elt i1 x x₂ y y₂ scope cl z Q (.ref ax) s₁ := ⟨ax, its, nn, news, J, rfl, hh, F, N, hJs, hj, turn, fin⟩
theorem Assign_ListComp_N {elt i0 i1 : Expr} {x x₂ y y₂ z : Str} {px px₂ tp0 py py₂ tp pz : Pos} {tk0 tk1 : Nat} {scope : Scope} {cl : List (Str × Addr)} {pos spos : Pos} {Q : Flow → Shared → Prop} (F₀ : Fr h₀ L s.heap m) (hLe : env.locals = L)
    (hsw : swapsWith (.ListComp elt [⟨.Tuple [.Name x px, .Name x₂ px₂] tk1 tp0, i0, [], 0⟩, ⟨.Tuple [.Name y py, .Name y₂ py₂] tk0 tp, i1, [], 0⟩] scope pos) (some (.Name z pz)) spos.line env = pure true)
    (hclos : closureFor scope env = pure cl) (hcell : ∀ z ∈ scope.names, z.2 ≠ .cell) (hkind : scope.kind = .function)
    (hnames : ∀ z ∈ scope.names, z.2 = .local → scope.names.lookup z.1 = some .local) (hx : scope.names.lookup x = some .local) (hx₂ : scope.names.lookup x₂ = some .local) (hy : scope.names.lookup y = some .local) (hy₂ : scope.names.lookup y₂ = some .local)
    (hxx : x ≠ x₂) (hyy : x ≠ y ∧ x ≠ y₂ ∧ x₂ ≠ y ∧ x₂ ≠ y₂ ∧ y ≠ y₂)
    (hz : env.kindOf z = some .local) (hp : (env.scope.kind == .class || (env.scope.kind == .module && env.locals != env.globals)) = false)
    (h : wpAny (model prog w) A (eval i0 env) (NSrc prog w A h₀ L m env elt i1 x x₂ y y₂ scope cl z Q) E s)
    (hs : ∀ x, foldedSetIterable i0 env x = pure x := by intro _; rfl) (hs1 : ∀ (env : Env) x, foldedSetIterable i1 env x = pure x := by intro _ _; rfl) :
    wpAny (model prog w) A (exec (.Assign [.Name z pz] (.ListComp elt [⟨.Tuple [.Name x px, .Name x₂ px₂] tk1 tp0, i0, [], 0⟩, ⟨.Tuple [.Name y py, .Name y₂ py₂] tk0 tp, i1, [], 0⟩] scope pos) spos) env) Q E s := by
  subst hLe
  rw [exec_Assign_Name_used _ _ _ _ hsw]
  refine wpAny_bind (wpAny_standAt (wpAny_bind ?_))
  show wpAny _ A (do let _ ← comprehension (.ListComp elt [⟨.Tuple [.Name x px, .Name x₂ px₂] tk1 tp0, i0, [], 0⟩, ⟨.Tuple [.Name y py, .Name y₂ py₂] tk0 tp, i1, [], 0⟩] scope pos) scope env _ (newList []) false (eval i0 env) (some (assign (.Name z pz) env))) _ _ s
  refine wpAny_bind (wpAny_mono (wpAny_comprehension_free (use := some (assign (.Name z pz) env)) (Q := fun _ s' => Q .next s') rfl hs hclos hkind hnames
    (wpAny_mono h (fun xv s₁ h₁ => ?_) fun _ _ e => e)) (fun _ s' hq => wpAny_pure (wpAny_pure hq)) fun _ _ e => e)
  obtain ⟨ax, its, nn, news, J, rfl, hh, F, N, hJs, hj, turn, fin⟩ := h₁
  have hl : s₁.heap.IsList ax its := ⟨_, (N _ (hJs _ _ _ hj)).1, rfl, nn, rfl⟩
  refine wpAny_pyIter_list hl ?_
  refine block_N (hp := s₁.heap) J hh hcell hkind hx hx₂ hy hy₂ hxx hyy rfl F N hJs hj turn ?_ hs1
  intro D C h tk m' ys nw F' N' o1 hn hC₀ hD₀ hCL hDL hCD offC hJ
  show wpAny _ A (assign (.Name z pz) env (.ref D)) _ _ _
  refine wpAny_assign_Name (wpAny_storeName_local hz F'.ns (fun h₂ hn₂ hs₂ => ?_) hp)
  have hL₀ : h₀.get? env.locals = none := Heap.get?_none_of_le F'.above
  have F₂ : Fr h₀ env.locals h₂ (fun u => if u = z then some (.ref D) else m u) := ⟨hn₂, fun b o e => hs₂.extBut b o (fun q => by rw [q, hL₀] at e; cases e) (F'.keep b o e), F'.above⟩
  refine ⟨m', hn.sameBut hs₂ hCL, fun h'' hs'' => fin D h'' _ ys nw (F₂.change hs'' hCL hC₀) (fun p hp => ?_) o1 hJ⟩
  have q : h₂.get? p.1 = some p.2 := hs₂.extBut _ _ (N' p hp).2.1 (N' p hp).1
  refine ⟨hs''.extBut _ _ ?_ q, (N' p hp).2⟩
  rcases List.mem_cons.mp hp with rfl | hp
  · exact Ne.symm hCD
  · exact offC p hp
end
end Mine
end
section
open PySem PySem.W PyProof.Rows
set_option maxRecDepth 100000
set_option maxHeartbeats 20000000
namespace Mine
/-! ## set(a list of texts) -/
/-- what stands among the first i texts -/
def among (ss : List Str) (i : Nat) (x : Str) : Bool := (ss.take i).any (· == x)
theorem among_succ {ss : List Str} {i : Nat} {y : Str} (h : ss[i]? = some y) (x : Str) : among ss (i + 1) x = (among ss i x || decide (x = y)) := by
  unfold among
  rw [List.take_add_one, h, List.any_append]
  congr 1
  show ((y == x) || false) = decide (x = y)
  by_cases e : x = y
  · subst e; simp
  · have e' : (y == x) = false := by simpa using fun q : y = x => e q.symm
    simp [e, e']
section
variable {prog : Program} {w : World} {A : Around} {R : Result → Shared → Prop} {I : Addr} {fp wr : List Addr} {G : Array GenState → Array GenState → Prop} {P : Nat → Value → Prop} {St : Nat → Shared → Prop}
/-- the loop that fills a set from an iterator over texts -/
theorem fill_strs (ss : List Str) (W : WalksS prog w A.in1 I fp wr G ss.length P St) (T : Addr) (hT : T ∉ fp) (hP : ∀ i v, P i v → ∃ y t, ss[i]? = some y ∧ v = .str y t) (hb : ss.length + 1 < scanBound) :
    ∀ (k i : Nat) (s : Shared), ss.length - i = k → i ≤ ss.length → St i s → (∃ c, c ≤ i ∧ s.heap.SetOf (PySem.strKind prog w) T (among ss i) c) →
      (∀ s', Moved (T :: wr) G s s' → (∃ c, c ≤ ss.length ∧ s'.heap.SetOf (PySem.strKind prog w) T (among ss ss.length) c) → R (.ok (.ret .none)) s') →
      codeAny (model prog w) A (.builtin "set.update.loop" ⟨[.ref T, .ref I], []⟩) R s
  | 0, i, s, hk, hi, hst, hS, hR => by
    obtain rfl : i = ss.length := by omega
    refine codeAny_builtin PyProof.Rows.F.entry_set_update_loop ?_
    rw [Around.under_plainId PyProof.Rows.F.plain_set_update_loop _]
    show wpAny _ A.in1 (pyNext (.ref I) >>= _) _ _ s
    refine wpAny_bind (W.done s _ _ hst fun s' hm => ?_)
    obtain ⟨c, hc, o, es, ep, t, ho, rest⟩ := hS
    exact wpAny_pure (hR s' (hm.mono fun b hb => List.mem_cons_of_mem _ hb) ⟨c, hc, o, es, ep, t, hm.heap T _ (fun h => hT (W.sub _ h)) ho, rest⟩)
  | k + 1, i, s, hk, hi, hst, hS, hR => by
    have hlt : i < ss.length := by omega
    refine codeAny_builtin PyProof.Rows.F.entry_set_update_loop ?_
    rw [Around.under_plainId PyProof.Rows.F.plain_set_update_loop _]
    show wpAny _ A.in1 (pyNext (.ref I) >>= _) _ _ s
    refine wpAny_bind (W.item i s _ _ hlt hst fun v s' hv hst' hm => ?_)
    obtain ⟨y, t, hy, rfl⟩ := hP i v hv
    obtain ⟨c, hc, o, es, ep, tb, ho, rest⟩ := hS
    have hS' : s'.heap.SetOf (PySem.strKind prog w) T (among ss i) c := ⟨o, es, ep, tb, hm.heap T _ (fun h => hT (W.sub _ h)) ho, rest⟩
    show wpAny _ A.in1 (holding [Value.str y t] (setAdd T (.str y t)) >>= _) _ _ s'
    refine wpAny_bind (wpAny_holding ?_)
    unfold setAdd
    refine wpAny_holding (wpAny_bind ((PySem.strKind prog w).pyHash (k := y) (strKind_is _ _ _ _) ?_))
    refine wpAny_setAddHashed_of (knd := PySem.strKind prog w) (s := { s' with toks := s'.toks + 1 }) (strKind_is _ _ _ _) rfl hS' (by omega) fun h' hsb hS2 => ?_
    have hS3 : ∃ c', c' ≤ i + 1 ∧ h'.SetOf (PySem.strKind prog w) T (among ss (i + 1)) c' :=
      ⟨if among ss i y then c else c + 1, by split <;> omega, SetOf_congr hS2 (fun x => by rw [among_succ hy]) rfl⟩
    refine wpAny_pure ⟨plainId_quiet PyProof.Rows.F.plain_set_update_loop _, fill_strs ss W T hT hP hb k (i + 1) _ (by omega) hlt (W.frame _ s' _ _ hst' (Nat.le_succ _) fun b hb o e => ?_) hS3 fun s'' hm'' hS'' => ?_⟩
    · rw [hsb.2 b (fun h : b = T => hT (by rw [← h]; exact hb))]; exact e
    · refine hR s'' (Moved.trans W.gtrans ((hm.mono fun b hb => List.mem_cons_of_mem _ hb).then_heap (Nat.le_succ _) fun b o hb e => ?_) hm'') hS''
      rw [hsb.2 b (fun h : b = T => hb (by rw [h]; exact List.mem_cons_self))]; exact e
end
section
variable {prog : Program} {w : World} {A : Around} {E : Value → Shared → Prop} {s : Shared}
set_option maxHeartbeats 8000000 in
theorem call_set_strs {l : Addr} {vs : List Value} {ss : List Str} {Q : Value → Shared → Prop} (hh : A.handled = none) (hl : s.heap.IsList l vs.toArray) (hs : StrsAre vs ss) (hb : ss.length + 1 < scanBound)
    (h : ∀ (h' : Heap) (tk : Nat), (∃ c, c ≤ ss.length ∧ h'.SetOf (PySem.strKind prog w) s.heap.objs.size (among ss ss.length) c) → (∀ b o, b < s.heap.objs.size → s.heap.get? b = some o → h'.get? b = some o) → Q (.ref s.heap.objs.size) { s with heap := h', toks := tk }) :
    wpAny (model prog w) A (call (.type "set") [.ref l]) Q E s := by
  obtain ⟨c, tl, hmro⟩ := PySem.F.called_set.mro
  have hmade := PySem.F.called_set.made
  have hsub := PySem.F.called_set.sub
  refine wpAny_call (codeAny_of_tree ?_)
  show wpAny _ _ (callAny (.type "set") _) _ _ _
  refine wpAny_pure ⟨Code.quiet_builtin _ (by decide +kernel), codeAny_builtin PySem.F.entry_type_call ?_⟩
  rw [Around.under_plain (weight_type_call_type "set" [.ref l] []) rfl]
  have h1 := PySem.F.called_set.notType
  have h2 := PySem.F.called_set.canCreate
  have hct := PySem.F.typeCall_set_1 (.ref l)
  repeat (any_goals (first | assumption | wp_step))
  generalize hN : s.heap.objs.size = N at h ⊢
  refine codeAny_mono (code_set_new_1 (.ref l) (E := E) (Q₁ := fun obj s₁ => ∃ led : Bool, obj = .ref N ∧ s₁ = { s with heap := s.heap.push { cls := .type "set", dict := none, data := .set #[] 0 (.fresh 0 0 led) } }) fun led => ⟨led, by rw [hN], rfl⟩) fun r s₁ hr => ?_
  cases r with
  | error e => exact hr
  | ok fl =>
    cases fl with
    | ret obj =>
      obtain ⟨led, rfl, rfl⟩ := hr
      have hS : (s.heap.push { cls := .type "set", dict := none, data := .set #[] 0 (.fresh 0 0 led) }).get? N = some { cls := .type "set", dict := none, data := .set #[] 0 (.fresh 0 0 led) } := hN ▸ Heap.get?_push_size _ rfl
      have hT : Shared.TypeIs { s with heap := s.heap.push { cls := .type "set", dict := none, data := .set #[] 0 (.fresh 0 0 led) } } (.ref N) "set" := ⟨_, hS, rfl⟩
      have hli := PySem.F.called_set.init.lookup
      have hbi := PySem.F.called_set.init.bind (.ref N)
      repeat (any_goals (first | assumption | wp_step))
      refine codeAny_mono (codeAny_call_builtin (R := wants (fun r s₂ => r = .none ∧ ∃ h' tk, s₂ = { s with heap := h', toks := tk } ∧ (∃ c, c ≤ ss.length ∧ h'.SetOf (PySem.strKind prog w) N (among ss ss.length) c) ∧
          (∀ b o, b < N → s.heap.get? b = some o → h'.get? b = some o)) E) PySem.F.called_set.init.plain PySem.F.entry_set_init (check_set_init_1 hT ?_)) fun r₂ s₂ hr₂ => ?_
      · obtain ⟨ol, hol, hcl, nl, hdl⟩ := hl
        obtain ⟨ocls, odict, odata, oslots⟩ := ol
        simp only at hcl hdl
        subst hcl; subst hdl
        have hol' : (s.heap.push { cls := .type "set", dict := none, data := .set #[] 0 (.fresh 0 0 led) }).get? l = some { cls := .type "list", dict := odict, data := .seq vs.toArray nl, slots := oslots } := Heap.get?_push_of_some _ hol
        have hsls := PySem.F.sub_list_set
        have hslf := PySem.F.sub_list_frozenset
        have hne : (Value.type "list" == Value.type "dict") = false := by decide
        have hl1 : (s.heap.push { cls := .type "set", dict := none, data := .set #[] 0 (.fresh 0 0 led) }).IsList l vs.toArray := ⟨_, hol', rfl, nl, rfl⟩
        unfold Builtin.«set.__init__» noKeywords Builtin.Frozenset.updateFrom
        generalize hPI : pyIter = PI
        wp_walk
        subst hPI
        refine wpAny_pyIter_list hl1 (wpAny_bind (wpAny_runValue ?_))
        have hlS : l < N := hN ▸ Heap.lt_size hol
        have hz : (s.heap.push { cls := .type "set", dict := none, data := .set #[] 0 (.fresh 0 0 led) }).objs.size = N + 1 := by rw [Heap.size_push, hN]
        have hlen : vs.toArray.size = ss.length := by rw [List.size_toArray]; exact hs.len_eq
        have W := (Walks.list (prog := prog) (w := w) (A := A.in1.in1.in1) (by simp [hh]) (s.heap.push { cls := .type "set", dict := none, data := .set #[] 0 (.fresh 0 0 led) }).objs.size l (by rw [hz]; exact Nat.ne_of_lt (Nat.lt_succ_of_lt hlS)) vs.toArray).toS
        rw [hlen] at W
        refine fill_strs ss W N (by rw [hz]; simp only [List.mem_cons, List.not_mem_nil, or_false, not_or]; exact ⟨Nat.ne_of_lt (Nat.lt_succ_self _), Nat.ne_of_gt hlS⟩)
          (fun i v hv => ?_) hb ss.length 0 _ (by omega) (Nat.zero_le _) ⟨⟨_, Heap.get?_push_size _ rfl, rfl, rfl⟩, hl1.push _⟩ ⟨0, Nat.le_refl _, ?_⟩ ?_
        · obtain ⟨y, t, e, hy⟩ := hs.item i v (by simpa using hv)
          exact ⟨y, t, hy, e⟩
        · exact SetOf_congr ((setObjOf_fresh (knd := PySem.strKind prog w) led).setOf (Heap.get?_push_of_some _ hS) (by unfold scanBound; omega)) (fun _ => rfl) rfl
        · intro s' hm hS'
          obtain ⟨h', g', d', tk', os'⟩ := s'
          obtain rfl : g' = s.gens := hm.gens
          obtain rfl : d' = s.drawn := hm.drawn
          obtain rfl : os' = s.os := hm.os
          show wpAny _ _ _ _ _ _
          refine wpAny_pure ?_
          show wpAny _ _ (ret Value.none) _ _ _
          refine wpAny_pure ⟨rfl, h', tk', rfl, hS', fun b o hb e => ?_⟩
          refine hm.heap b o ?_ (Heap.get?_push_of_some _ (Heap.get?_push_of_some _ e))
          rw [hz]
          simp only [List.mem_cons, List.not_mem_nil, or_false, not_or]
          exact ⟨Nat.ne_of_lt hb, Nat.ne_of_lt (Nat.lt_succ_of_lt hb)⟩
      · cases r₂ with
        | error e => exact hr₂
        | ok fl₂ =>
          cases fl₂ with
          | ret r =>
            obtain ⟨rfl, h', tk, rfl, hS', hk'⟩ := hr₂
            repeat (any_goals (first | assumption | wp_step))
            exact h _ _ hS' hk'
          | _ => exact hr₂.elim
    | _ => exact hr.elim
theorem set_strs_at {h₀ : Heap} {L : Addr} {m : Str → Option Value} {news : List (Addr × Obj)} {l : Addr} {vs : List Value} {ss : List Str} {Q : Value → Shared → Prop} (F : Fr h₀ L s.heap m) (N : News h₀ L s.heap news) (hh : A.handled = none) (hl : s.heap.IsList l vs.toArray) (hs : StrsAre vs ss) (hb : ss.length + 1 < scanBound)
    (h : ∀ D h' (tk : Nat) o c, Fr h₀ L h' m → News h₀ L h' ((D, o) :: news) → (∀ p ∈ news, p.1 < D) → o.SetObjOf (PySem.strKind prog w) (among ss ss.length) c → c < scanBound → Q (.ref D) { s with heap := h', toks := tk }) :
    wpAny (model prog w) A (call (.type "set") [.ref l]) Q E s := by
  refine call_set_strs hh hl hs hb fun h' tk hS hk => ?_
  obtain ⟨c, hc, hS⟩ := hS
  obtain ⟨o, ho, hso⟩ := hS.objOf
  have hLlt : L < s.heap.objs.size := F.ns.lt
  refine h _ h' tk o c ⟨F.ns.at' fun o' e => hk L o' hLlt e, fun b o' e => hk b o' (Heap.lt_size (F.keep b o' e)) (F.keep b o' e), F.above⟩ (fun p hp => ?_) (fun p hp => Heap.lt_size (N p hp).1) hso (by omega)
  rcases List.mem_cons.mp hp with rfl | hp
  · exact ⟨ho, Nat.ne_of_gt hLlt, next_is_new F⟩
  · exact ⟨hk _ _ (Heap.lt_size (N p hp).1) (N p hp).1, (N p hp).2⟩
end
end Mine
end
section
open PySem PySem.W PyProof.Rows
namespace Mine
/-! ## the pure law: reading as pieces, and the sum over all ways -/
theorem tab_facts : ∀ e ∈ tabL, (10 ∉ e.1) ∧ (e.1.length = 1 ∨ e.1.length = 2 ∨ e.1.length = 3) ∧ (e.1.head? = some 46 → e.1 = [46] ∨ e.1 = [46, 46, 46]) ∧
    (e.1.length = 3 → (lookT (e.1.take 2)).isSome = true ∨ e.1 = [46, 46, 46]) := by decide +kernel
theorem lookT_mem {p : List Nat} (h : (lookT p).isSome = true) : ∃ e ∈ tabL, e.1 = p := by
  unfold lookT at h
  rw [Option.isSome_map] at h
  obtain ⟨e, he⟩ := Option.isSome_iff_exists.mp h
  exact ⟨e, List.mem_of_find?_eq_some he, by simpa using List.find?_some he⟩
theorem look_facts {p : List Nat} (h : (lookT p).isSome = true) : (10 ∉ p) ∧ (p.length = 1 ∨ p.length = 2 ∨ p.length = 3) ∧ (p.head? = some 46 → p = [46] ∨ p = [46, 46, 46]) ∧
    (p.length = 3 → (lookT (p.take 2)).isSome = true ∨ p = [46, 46, 46]) := by
  obtain ⟨e, he, rfl⟩ := lookT_mem h
  exact tab_facts e he
theorem no10 {p : List Nat} (h : 10 ∈ p) : (lookT p).isSome = false := by
  cases e : (lookT p).isSome with
  | false => rfl
  | true => exact absurd h (look_facts e).1
theorem no4 {p : List Nat} (h : 4 ≤ p.length) : (lookT p).isSome = false := by
  cases e : (lookT p).isSome with
  | false => rfl
  | true => have := (look_facts e).2.1; omega
theorem dots3 : (lookT [46, 46, 46]).isSome = true := by decide +kernel
theorem dot2 (d : Nat) : (lookT [46, d]).isSome = false := by
  cases e : (lookT [46, d]).isSome with
  | false => rfl
  | true => rcases (look_facts e).2.2.1 rfl with h | h <;> simp at h
theorem t3 {c d e : Nat} (h : (lookT [c, d, e]).isSome = true) : (lookT [c, d]).isSome = true ∨ (c = 46 ∧ d = 46 ∧ e = 46) := by
  rcases (look_facts h).2.2.2 rfl with h | h
  · exact .inl h
  · right; simpa using h

theorem piece1 (c : Nat) : pieceOf [c] = [c] := shrink_stop (.inl (by simp))
theorem piece2 (c d : Nat) : pieceOf [c, d] = if (lookT [c, d]).isSome = true then [c, d] else [c] := by
  unfold pieceOf
  show shrink [c, d] = _
  split
  · exact shrink_stop (.inr (by assumption))
  · rename_i h
    rw [shrink_more (by simp) (by simpa using h)]
    exact shrink_stop (.inl (by simp))
theorem piece3 (c d e : Nat) (y : List Nat) : pieceOf (c :: d :: e :: y) = if (lookT [c, d, e]).isSome = true then [c, d, e] else if (lookT [c, d]).isSome = true then [c, d] else [c] := by
  unfold pieceOf
  show shrink [c, d, e] = _
  split
  · exact shrink_stop (.inr (by assumption))
  · rename_i h
    rw [shrink_more (by simp) (by simpa using h)]
    show shrink [c, d] = _
    split
    · exact shrink_stop (.inr (by assumption))
    · rename_i h
      rw [shrink_more (by simp) (by simpa using h)]
      exact shrink_stop (.inl (by simp))
/-- no longer piece: the sign alone -/
theorem piece_one {c d : Nat} {y : List Nat} (h2 : (lookT [c, d]).isSome = false) (h3 : ¬ (c = 46 ∧ d = 46 ∧ y.head? = some 46)) : pieceOf (c :: d :: y) = [c] := by
  cases y with
  | nil => rw [piece2, h2]; simp
  | cons e y =>
    rw [piece3, h2]
    cases q : (lookT [c, d, e]).isSome with
    | false => simp
    | true =>
      rcases t3 q with h | ⟨rfl, rfl, rfl⟩
      · rw [h2] at h; cases h
      · exact absurd ⟨rfl, rfl, rfl⟩ h3
theorem piece_nl (c : Nat) (y : List Nat) : pieceOf (c :: 10 :: y) = [c] :=
  piece_one (no10 (by simp)) (by rintro ⟨_, h, _⟩; cases h)
theorem piece_nl0 (y : List Nat) : pieceOf (10 :: y) = [10] := by
  cases y with
  | nil => exact piece1 10
  | cons d y => exact piece_one (no10 (by simp)) (by rintro ⟨h, _⟩; cases h)
/-- two signs in the table: the piece is longer than one -/
theorem piece_two {c d : Nat} {y : List Nat} (h2 : (lookT [c, d]).isSome = true) : pieceOf (c :: d :: y) ≠ [c] := by
  cases y with
  | nil => rw [piece2, h2]; simp
  | cons e y => rw [piece3, h2]; simp only [if_true]; split <;> simp
theorem piece_pair {c d : Nat} {y : List Nat} (h2 : (lookT [c, d]).isSome = true) (h3 : ∀ e, y.head? = some e → (lookT [c, d, e]).isSome = false) : pieceOf (c :: d :: y) = [c, d] := by
  cases y with
  | nil => rw [piece2, h2]; simp
  | cons e y => rw [piece3, h2, h3 e rfl]; simp
theorem piece_trip {c d e : Nat} {y : List Nat} (h3 : (lookT [c, d, e]).isSome = true) : pieceOf (c :: d :: e :: y) = [c, d, e] := by rw [piece3, h3]; simp

def readP (t : List Nat) : List (List Nat) := if h : t = [] then [] else (if pieceOf t = [10] then [] else [pieceOf t]) ++ readP (t.drop (pieceOf t).length)
termination_by t.length
decreasing_by
  have := pieceOf_len h
  rw [List.length_drop]; omega
theorem readP_nil : readP [] = [] := by rw [readP]; simp
theorem readP_step {t : List Nat} (h : t ≠ []) : readP t = (if pieceOf t = [10] then [] else [pieceOf t]) ++ readP (t.drop (pieceOf t).length) := by
  rw [readP]; simp [h]
theorem readL_P : ∀ (n : Nat) (t : List Nat), t.length ≤ n → readL t = (readP t).map symOf := by
  intro n
  induction n with
  | zero => intro t h; have : t = [] := List.eq_nil_of_length_eq_zero (by omega)
            subst this; rw [readL_nil, readP_nil]; rfl
  | succ n ih =>
    intro t h
    by_cases e : t = []
    · subst e; rw [readL_nil, readP_nil]; rfl
    · rw [readL_step e, readP_step e, List.map_append, ih _ (by rw [List.length_drop]; have := pieceOf_len e; omega)]
      split <;> rfl
theorem readP_nl (y : List Nat) : readP (10 :: y) = readP y := by
  rw [readP_step (by simp), piece_nl0]; simp
theorem readP_one {c : Nat} {y p : List Nat} (h : pieceOf (c :: y) = p) (hp : p ≠ [10]) : readP (c :: y) = p :: readP ((c :: y).drop p.length) := by
  rw [readP_step (by simp), h, if_neg hp]; rfl

def ind (P : List (List Nat)) (y : List Nat) : Int := if readP y = P then 1 else 0
theorem ind_cons {c : Nat} {y p : List Nat} {P : List (List Nat)} (h : pieceOf (c :: y) = p) (hp : p ≠ [10]) : ind (p :: P) (c :: y) = ind P ((c :: y).drop p.length) := by
  unfold ind
  rw [readP_one h hp]
  simp
theorem ind_ne {c : Nat} {y p q : List Nat} {P : List (List Nat)} (h : pieceOf (c :: y) = q) (hq : q ≠ [10]) (hpq : q ≠ p) : ind (p :: P) (c :: y) = 0 := by
  unfold ind
  rw [readP_one h hq]
  simp [hpq]
theorem ind_nl (P : List (List Nat)) (y : List Nat) : ind P (10 :: y) = ind P y := by unfold ind; rw [readP_nl]

def sumM : List (Int × Nat) → (List Nat → Int) → Int
  | [], f => f []
  | (p, c) :: r, f => sumM r (fun y => f (c :: y)) + p * sumM r (fun y => f (10 :: c :: y))
theorem sumM_zero : ∀ (r : List (Int × Nat)) (f : List Nat → Int), (∀ y, f y = 0) → sumM r f = 0
  | [], f, h => h []
  | (p, c) :: r, f, h => by
    show sumM r (fun y => f (c :: y)) + p * sumM r (fun y => f (10 :: c :: y)) = 0
    rw [sumM_zero r _ (fun y => h _), sumM_zero r _ (fun y => h _)]; simp
theorem sumM_congr (r : List (Int × Nat)) {f g : List Nat → Int} (h : ∀ y, f y = g y) : sumM r f = sumM r g := by
  have : f = g := funext h
  rw [this]

/-! ## what the pieces tell -/
def must (one two : List Nat) : Bool := (lookT (one ++ two.take 1)).isSome || (one == [46] && two == [46, 46, 46])
def xy : List (List Nat) → List (Int × Nat) → Int × Int
  | [], _ => (1, 1)
  | [_], _ => (1, 1)
  | one :: two :: r, L =>
    if one ++ two = [46, 46] then (((L.drop one.length).headD (0, 0)).1 * (xy (two :: r) (L.drop one.length)).1 + (xy (two :: r) (L.drop one.length)).2, ((L.drop one.length).headD (0, 0)).1 * (xy (two :: r) (L.drop one.length)).1)
    else if must one two = true then (((L.drop one.length).headD (0, 0)).1 * (xy (two :: r) (L.drop one.length)).1, ((L.drop one.length).headD (0, 0)).1 * (xy (two :: r) (L.drop one.length)).1)
    else ((1 + ((L.drop one.length).headD (0, 0)).1) * (xy (two :: r) (L.drop one.length)).1, (1 + ((L.drop one.length).headD (0, 0)).1) * (xy (two :: r) (L.drop one.length)).1)
def OkPiece (p : List Nat) : Prop := (∃ c, p = [c] ∧ c ≠ 10) ∨ (lookT p).isSome = true
theorem OkPiece.shape {p : List Nat} (h : OkPiece p) : (∃ c, p = [c] ∧ c ≠ 10) ∨ (∃ c d, p = [c, d] ∧ (lookT [c, d]).isSome = true ∧ c ≠ 10 ∧ d ≠ 10) ∨ ∃ c d e, p = [c, d, e] ∧ (lookT [c, d, e]).isSome = true ∧ c ≠ 10 ∧ d ≠ 10 ∧ e ≠ 10 := by
  rcases h with h | h
  · exact .inl h
  · have f := look_facts h
    match p, h, f with
    | [], h, f => have := f.2.1; simp at this
    | [c], h, f => exact .inl ⟨c, rfl, fun e => f.1 (by simp [e])⟩
    | [c, d], h, f => exact .inr (.inl ⟨c, d, rfl, h, fun e => f.1 (by simp [e]), fun e => f.1 (by simp [e])⟩)
    | [c, d, e], h, f => exact .inr (.inr ⟨c, d, e, rfl, h, fun e => f.1 (by simp [e]), fun e => f.1 (by simp [e]), fun e => f.1 (by simp [e])⟩)
    | _ :: _ :: _ :: _ :: _, h, f => have := f.2.1; simp at this
theorem OkPiece.dot {p : List Nat} (h : OkPiece p) (hd : p.head? = some 46) : p = [46] ∨ p = [46, 46, 46] := by
  rcases h with ⟨c, rfl, _⟩ | h
  · left; simpa using hd
  · exact (look_facts h).2.2.1 hd
end Mine
end
section
open PySem PySem.W PyProof.Rows
namespace Mine
theorem xy_dots {r : List (List Nat)} {L : List (Int × Nat)} : xy ([46] :: [46] :: r) L =
    (((L.drop 1).headD (0, 0)).1 * (xy ([46] :: r) (L.drop 1)).1 + (xy ([46] :: r) (L.drop 1)).2, ((L.drop 1).headD (0, 0)).1 * (xy ([46] :: r) (L.drop 1)).1) := by
  rw [xy]; rfl
theorem xy_must {one two : List Nat} {r : List (List Nat)} {L : List (Int × Nat)} (h1 : one ++ two ≠ [46, 46]) (h2 : must one two = true) : xy (one :: two :: r) L =
    (((L.drop one.length).headD (0, 0)).1 * (xy (two :: r) (L.drop one.length)).1, ((L.drop one.length).headD (0, 0)).1 * (xy (two :: r) (L.drop one.length)).1) := by
  rw [xy, if_neg h1, if_pos h2]
theorem xy_free {one two : List Nat} {r : List (List Nat)} {L : List (Int × Nat)} (h1 : one ++ two ≠ [46, 46]) (h2 : must one two = false) : xy (one :: two :: r) L =
    ((1 + ((L.drop one.length).headD (0, 0)).1) * (xy (two :: r) (L.drop one.length)).1, (1 + ((L.drop one.length).headD (0, 0)).1) * (xy (two :: r) (L.drop one.length)).1) := by
  rw [xy, if_neg h1, if_neg (by rw [h2]; decide)]

/-- the sum over all ways that are read as P: text begins with its first sign, no sign laid ahead -/
theorem sum_read : ∀ (P : List (List Nat)), P ≠ [] → (∀ p ∈ P, OkPiece p) → ∀ (p : Int) (c : Nat) (r : List (Int × Nat)), ((p, c) :: r).map (·.2) = P.flatten →
    sumM r (fun y => ind P (c :: y)) = (xy P ((p, c) :: r)).1 ∧
    (P.head? = some [46] → sumM r (fun y => if y.head? = some 46 then 0 else ind P (c :: y)) = (xy P ((p, c) :: r)).2)
  | [], h, _, _, _, _, _ => absurd rfl h
  | [one], _, ok, p, c, r, hL => by
    rw [show xy [one] ((p, c) :: r) = (1, 1) from by rw [xy]]
    rw [List.flatten_cons, List.flatten_nil, List.append_nil, List.map_cons] at hL
    rcases (ok one (by simp)).shape with ⟨c', rfl, hc⟩ | ⟨c', d, rfl, ht, hc, hd⟩ | ⟨c', d, e, rfl, ht, hc, hd, he⟩
    · injection hL with h1 h2
      dsimp only at h1
      subst h1
      have : r = [] := by simpa using h2
      subst this
      have q : ind [[c]] [c] = 1 := by rw [ind_cons (piece1 c) (by simpa using hc)]; show (if readP [] = [] then (1 : Int) else 0) = 1; rw [readP_nil]; rfl
      refine ⟨q, fun _ => ?_⟩
      show (if ([] : List Nat).head? = some 46 then 0 else ind [[c]] [c]) = 1
      simp [q]
    · injection hL with h1 h2
      dsimp only at h1
      subst h1
      match r, h2 with
      | [(pd, d')], h2 =>
        have : d' = d := by simpa using h2
        subst this
        refine ⟨?_, fun h => by simp at h⟩
        show ind [[c, d']] [c, d'] + pd * ind [[c, d']] [c, 10, d'] = 1
        rw [ind_cons (by rw [piece2, ht]; simp) (by simp), ind_ne (piece_nl c [d']) (by simpa using hc) (by simp)]
        show (if readP [] = [] then (1 : Int) else 0) + _ = 1
        rw [readP_nil]; simp
    · injection hL with h1 h2
      dsimp only at h1
      subst h1
      match r, h2 with
      | [(pd, d'), (pe, e')], h2 =>
        obtain ⟨rfl, rfl⟩ : d' = d ∧ e' = e := by simpa using h2
        refine ⟨?_, fun h => by simp at h⟩
        show (ind [[c, d', e']] [c, d', e'] + pe * ind [[c, d', e']] [c, d', 10, e']) + pd * (ind [[c, d', e']] [c, 10, d', e'] + pe * ind [[c, d', e']] [c, 10, d', 10, e']) = 1
        have q : pieceOf (c :: d' :: 10 :: [e']) ≠ [c, d', e'] ∧ pieceOf (c :: d' :: 10 :: [e']) ≠ [10] := by
          rw [piece3, no10 (by simp : 10 ∈ [c, d', 10])]
          simp only [Bool.false_eq_true, if_false]
          split
          · simp
          · simpa using hc
        rw [ind_cons (piece_trip ht) (by simp), ind_ne rfl q.2 q.1, ind_ne (piece_nl c _) (by simpa using hc) (by simp), ind_ne (piece_nl c _) (by simpa using hc) (by simp)]
        show (if readP [] = [] then (1 : Int) else 0) + _ + _ = 1
        rw [readP_nil]; simp
  | one :: two :: P, _, ok, p, c, r, hL => by
    have ok2 : ∀ q ∈ two :: P, OkPiece q := fun q hq => ok q (.tail _ hq)
    have IH := sum_read (two :: P) (by simp) ok2
    rw [List.flatten_cons, List.map_cons] at hL
    have htwo : ∃ c' t', two = c' :: t' ∧ c' ≠ 10 := by
      rcases (ok2 two (.head _)).shape with ⟨c', rfl, hc⟩ | ⟨c', d, rfl, ht, hc, hd⟩ | ⟨c', d, e, rfl, ht, hc, hd, he⟩
      · exact ⟨c', [], rfl, hc⟩
      · exact ⟨c', [d], rfl, hc⟩
      · exact ⟨c', [d, e], rfl, hc⟩
    obtain ⟨c₂, t₂, h₂, hc₂⟩ := htwo
    rcases (ok one (by simp)).shape with ⟨c', rfl, hc⟩ | ⟨c', d, rfl, ht, hc, hd⟩ | ⟨c', d, e, rfl, ht, hc, hd, he⟩
    · -- one sign
      have h1 : c = c' := by simpa using (List.cons.inj hL).1
      subst h1
      have hr : r.map (·.2) = (two :: P).flatten := (List.cons.inj hL).2
      match r, hr with
      | [], hr => rw [h₂] at hr; simp at hr
      | (q, c'') :: r, hr =>
        have h3 : c'' = c₂ := by rw [h₂] at hr; simpa using (List.cons.inj hr).1
        subst h3
        obtain ⟨I1, I2⟩ := IH q c'' r hr
        have hnl : ∀ y, ind ([c] :: two :: P) (c :: 10 :: c'' :: y) = ind (two :: P) (c'' :: y) := fun y => by
          rw [ind_cons (piece_nl c _) (by simpa using hc)]
          show ind (two :: P) (10 :: c'' :: y) = _
          rw [ind_nl]
        have eL : List.drop ([c] : List Nat).length ((p, c) :: (q, c'') :: r) = (q, c'') :: r := rfl
        by_cases hdd : c = 46 ∧ c'' = 46
        · obtain ⟨rfl, rfl⟩ := hdd
          rcases (ok2 two (.head _)).dot (by rw [h₂]; rfl) with rfl | rfl
          · -- two points
            rw [xy_dots]
            have I2 := I2 rfl
            have e1 : List.drop 1 ((p, 46) :: (q, 46) :: r) = (q, 46) :: r := rfl
            rw [e1]
            refine ⟨?_, fun _ => ?_⟩
            · show sumM r (fun y => ind ([46] :: [46] :: P) (46 :: 46 :: y)) + q * sumM r (fun y => ind ([46] :: [46] :: P) (46 :: 10 :: 46 :: y)) = q * (xy ([46] :: P) ((q, 46) :: r)).1 + (xy ([46] :: P) ((q, 46) :: r)).2
              rw [← I1, ← I2, Int.add_comm]
              congr 1
              · congr 1
                exact sumM_congr r hnl
              · refine sumM_congr r fun y => ?_
                by_cases hy : y.head? = some 46
                · rw [if_pos hy]
                  cases y with
                  | nil => cases hy
                  | cons e y =>
                    have : e = 46 := by simpa using hy
                    subst this
                    exact ind_ne (piece_trip dots3) (by simp) (by simp)
                · rw [if_neg hy, ind_cons (piece_one (dot2 46) (fun h => hy h.2.2)) (by simp)]
                  rfl
            · show sumM r (fun y => if (46 :: y).head? = some 46 then 0 else ind ([46] :: [46] :: P) (46 :: 46 :: y)) + q * sumM r (fun y => if (10 :: 46 :: y).head? = some 46 then 0 else ind ([46] :: [46] :: P) (46 :: 10 :: 46 :: y)) = q * (xy ([46] :: P) ((q, 46) :: r)).1
              rw [sumM_zero r _ (fun y => by simp), ← I1, Int.zero_add]
              congr 1
              refine sumM_congr r fun y => ?_
              rw [← hnl y]
              simp
          · -- a point and three
            rw [xy_must (by decide) (by decide +kernel), eL]
            have z : ∀ y, ind ([46] :: [46, 46, 46] :: P) (46 :: 46 :: y) = 0 := fun y => by
              by_cases hy : y.head? = some 46
              · cases y with
                | nil => cases hy
                | cons e y =>
                  have : e = 46 := by simpa using hy
                  subst this
                  exact ind_ne (piece_trip dots3) (by simp) (by simp)
              · rw [ind_cons (piece_one (dot2 46) (fun h => hy h.2.2)) (by simp)]
                show ind ([46, 46, 46] :: P) (46 :: y) = 0
                refine ind_ne (q := [46]) ?_ (by simp) (by simp)
                cases y with
                | nil => exact piece1 46
                | cons e y => exact piece_one (dot2 e) (fun h => hy (by simp [h.2.1]))
            refine ⟨?_, fun _ => ?_⟩
            · show sumM r (fun y => ind ([46] :: [46, 46, 46] :: P) (46 :: 46 :: y)) + q * sumM r (fun y => ind ([46] :: [46, 46, 46] :: P) (46 :: 10 :: 46 :: y)) = q * (xy ([46, 46, 46] :: P) ((q, 46) :: r)).1
              rw [sumM_zero r _ z, Int.zero_add, ← I1]
              congr 1
              exact sumM_congr r hnl
            · show sumM r (fun y => if (46 :: y).head? = some 46 then 0 else ind ([46] :: [46, 46, 46] :: P) (46 :: 46 :: y)) + q * sumM r (fun y => if (10 :: 46 :: y).head? = some 46 then 0 else ind ([46] :: [46, 46, 46] :: P) (46 :: 10 :: 46 :: y)) = q * (xy ([46, 46, 46] :: P) ((q, 46) :: r)).1
              rw [sumM_zero r _ (fun y => by simp), ← I1, Int.zero_add]
              congr 1
              refine sumM_congr r fun y => ?_
              rw [← hnl y]
              simp
        · have hne : ([c] : List Nat) ++ two ≠ [46, 46] := by
            rw [h₂]
            intro e
            exact hdd (by simp at e; exact ⟨e.1, e.2.1⟩)
          have hm : must [c] two = (lookT [c, c'']).isSome := by
            unfold must
            rw [h₂]
            show ((lookT [c, c'']).isSome || ([c] == [46] && (c'' :: t₂) == [46, 46, 46])) = _
            cases hb : ([c] == [46] && (c'' :: t₂) == [46, 46, 46]) with
            | false => simp
            | true => simp at hb; exact absurd ⟨hb.1, hb.2.1⟩ hdd
          cases h2 : (lookT [c, c'']).isSome with
          | true =>
            rw [xy_must hne (hm.trans h2), eL]
            have z : ∀ y, ind ([c] :: two :: P) (c :: c'' :: y) = 0 := fun y => by
              have := piece_two (y := y) h2
              refine ind_ne rfl ?_ this
              intro e
              cases y with
              | nil => rw [piece2, h2] at e; simp at e
              | cons e' y => rw [piece3, h2] at e; simp only [if_true] at e; split at e <;> simp at e
            refine ⟨?_, fun h => ?_⟩
            · show sumM r (fun y => ind ([c] :: two :: P) (c :: c'' :: y)) + q * sumM r (fun y => ind ([c] :: two :: P) (c :: 10 :: c'' :: y)) = q * (xy (two :: P) ((q, c'') :: r)).1
              rw [sumM_zero r _ z, Int.zero_add, ← I1]
              congr 1
              exact sumM_congr r hnl
            · have : c = 46 := by simpa using h
              subst this
              rw [dot2] at h2
              cases h2
          | false =>
            rw [xy_free hne (hm.trans h2), eL]
            have z : ∀ y, ind ([c] :: two :: P) (c :: c'' :: y) = ind (two :: P) (c'' :: y) := fun y =>
              ind_cons (piece_one h2 (fun h => hdd ⟨h.1, h.2.1⟩)) (by simpa using hc)
            refine ⟨?_, fun h => ?_⟩
            · show sumM r (fun y => ind ([c] :: two :: P) (c :: c'' :: y)) + q * sumM r (fun y => ind ([c] :: two :: P) (c :: 10 :: c'' :: y)) = (1 + q) * (xy (two :: P) ((q, c'') :: r)).1
              rw [sumM_congr r z, sumM_congr r hnl, I1, Int.add_mul, Int.one_mul]
            · have : c = 46 := by simpa using h
              subst this
              have hn : c'' ≠ 46 := fun e => hdd ⟨rfl, e⟩
              show sumM r (fun y => if (c'' :: y).head? = some 46 then 0 else ind ([46] :: two :: P) (46 :: c'' :: y)) + q * sumM r (fun y => if (10 :: c'' :: y).head? = some 46 then 0 else ind ([46] :: two :: P) (46 :: 10 :: c'' :: y)) = (1 + q) * (xy (two :: P) ((q, c'') :: r)).1
              have e1 : ∀ y, (if (c'' :: y).head? = some 46 then 0 else ind ([46] :: two :: P) (46 :: c'' :: y)) = ind (two :: P) (c'' :: y) := fun y => by
                rw [if_neg (by simpa using hn), z]
              have e2 : ∀ y, (if (10 :: c'' :: y).head? = some 46 then 0 else ind ([46] :: two :: P) (46 :: 10 :: c'' :: y)) = ind (two :: P) (c'' :: y) := fun y => by
                rw [if_neg (by simp), hnl]
              rw [sumM_congr r e1, sumM_congr r e2, I1, Int.add_mul, Int.one_mul]
    · -- two signs
      have h1 : c = c' := by simpa using (List.cons.inj hL).1
      subst h1
      have hr : r.map (·.2) = d :: (two :: P).flatten := (List.cons.inj hL).2
      match r, hr with
      | [(_, _)], hr => rw [h₂] at hr; simp at hr
      | (pd, d') :: (q, c'') :: r, hr =>
        obtain ⟨h5, hr2⟩ := List.cons.inj hr
        dsimp only at h5
        subst h5
        have h3 : c'' = c₂ := by rw [h₂] at hr2; simpa using (List.cons.inj hr2).1
        subst h3
        obtain ⟨I1, _⟩ := IH q c'' r hr2
        have eL : List.drop ([c, d'] : List Nat).length ((p, c) :: (pd, d') :: (q, c'') :: r) = (q, c'') :: r := rfl
        have hne : ([c, d'] : List Nat) ++ two ≠ [46, 46] := by rw [h₂]; simp
        have hm : must [c, d'] two = (lookT [c, d', c'']).isSome := by
          unfold must
          rw [h₂]
          show ((lookT [c, d', c'']).isSome || ([c, d'] == [46] && _)) = _
          rw [show ([c, d'] == [46]) = false from by simp]
          simp
        have z0 : ∀ y, ind ([c, d'] :: two :: P) (c :: 10 :: y) = 0 := fun y => ind_ne (piece_nl c y) (by simpa using hc) (by simp)
        have hnl : ∀ y, ind ([c, d'] :: two :: P) (c :: d' :: 10 :: c'' :: y) = ind (two :: P) (c'' :: y) := fun y => by
          rw [ind_cons (piece_pair ht (fun e he => by cases he; exact no10 (by simp))) (by simp)]
          show ind (two :: P) (10 :: c'' :: y) = _
          rw [ind_nl]
        have goal : sumM ((pd, d') :: (q, c'') :: r) (fun y => ind ([c, d'] :: two :: P) (c :: y)) = sumM r (fun y => ind ([c, d'] :: two :: P) (c :: d' :: c'' :: y)) + q * sumM r (fun y => ind (two :: P) (c'' :: y)) := by
          show (sumM r (fun y => ind ([c, d'] :: two :: P) (c :: d' :: c'' :: y)) + q * sumM r (fun y => ind ([c, d'] :: two :: P) (c :: d' :: 10 :: c'' :: y))) + pd * (sumM r (fun y => ind ([c, d'] :: two :: P) (c :: 10 :: d' :: c'' :: y)) + q * sumM r (fun y => ind ([c, d'] :: two :: P) (c :: 10 :: d' :: 10 :: c'' :: y))) = _
          rw [sumM_zero r (fun y => ind ([c, d'] :: two :: P) (c :: 10 :: d' :: c'' :: y)) (fun y => z0 _), sumM_zero r (fun y => ind ([c, d'] :: two :: P) (c :: 10 :: d' :: 10 :: c'' :: y)) (fun y => z0 _), sumM_congr r hnl]
          simp
        refine ⟨?_, fun h => by simp at h⟩
        rw [goal, I1]
        cases h2 : (lookT [c, d', c'']).isSome with
        | true =>
          rw [xy_must hne (hm.trans h2), eL, sumM_zero r _ (fun y => ind_ne (piece_trip h2) (by simp) (by simp)), Int.zero_add]
          rfl
        | false =>
          rw [xy_free hne (hm.trans h2), eL, sumM_congr r (fun y => ind_cons (piece_pair (y := c'' :: y) ht (fun e he => by cases he; exact h2)) (by simp))]
          show sumM r (fun y => ind (two :: P) (c'' :: y)) + _ = (1 + q) * _
          rw [I1, Int.add_mul, Int.one_mul]
    · -- three signs
      have h1 : c = c' := by simpa using (List.cons.inj hL).1
      subst h1
      have hr : r.map (·.2) = d :: e :: (two :: P).flatten := (List.cons.inj hL).2
      match r, hr with
      | [(_, _), (_, _)], hr => rw [h₂] at hr; simp at hr
      | (pd, d') :: (pe, e') :: (q, c'') :: r, hr =>
        obtain ⟨h5, hr1⟩ := List.cons.inj hr
        obtain ⟨h6, hr2⟩ := List.cons.inj hr1
        dsimp only at h5 h6
        subst h5 h6
        have h3 : c'' = c₂ := by rw [h₂] at hr2; simpa using (List.cons.inj hr2).1
        subst h3
        obtain ⟨I1, _⟩ := IH q c'' r hr2
        have eL : List.drop ([c, d', e'] : List Nat).length ((p, c) :: (pd, d') :: (pe, e') :: (q, c'') :: r) = (q, c'') :: r := rfl
        have hne : ([c, d', e'] : List Nat) ++ two ≠ [46, 46] := by simp
        have hm : must [c, d', e'] two = false := by
          unfold must
          rw [no4 (by rw [h₂]; simp), show ([c, d', e'] == [46]) = false from by simp]
          rfl
        have z0 : ∀ y, ind ([c, d', e'] :: two :: P) (c :: 10 :: y) = 0 := fun y => ind_ne (piece_nl c y) (by simpa using hc) (by simp)
        have z1 : ∀ y, ind ([c, d', e'] :: two :: P) (c :: d' :: 10 :: y) = 0 := fun y => by
          have q : pieceOf (c :: d' :: 10 :: y) ≠ [c, d', e'] ∧ pieceOf (c :: d' :: 10 :: y) ≠ [10] := by
            rw [piece3, no10 (by simp : 10 ∈ [c, d', 10])]
            simp only [Bool.false_eq_true, if_false]
            split
            · simp
            · simpa using hc
          exact ind_ne rfl q.2 q.1
        have h4 : ∀ y, ind ([c, d', e'] :: two :: P) (c :: d' :: e' :: y) = ind (two :: P) y := fun y => ind_cons (piece_trip ht) (by simp)
        refine ⟨?_, fun h => by simp at h⟩
        rw [xy_free hne hm, eL]
        show ((sumM r (fun y => ind ([c, d', e'] :: two :: P) (c :: d' :: e' :: c'' :: y)) + q * sumM r (fun y => ind ([c, d', e'] :: two :: P) (c :: d' :: e' :: 10 :: c'' :: y))) +
            pe * (sumM r (fun y => ind ([c, d', e'] :: two :: P) (c :: d' :: 10 :: e' :: c'' :: y)) + q * sumM r (fun y => ind ([c, d', e'] :: two :: P) (c :: d' :: 10 :: e' :: 10 :: c'' :: y)))) +
            pd * ((sumM r (fun y => ind ([c, d', e'] :: two :: P) (c :: 10 :: d' :: e' :: c'' :: y)) + q * sumM r (fun y => ind ([c, d', e'] :: two :: P) (c :: 10 :: d' :: e' :: 10 :: c'' :: y))) +
            pe * (sumM r (fun y => ind ([c, d', e'] :: two :: P) (c :: 10 :: d' :: 10 :: e' :: c'' :: y)) + q * sumM r (fun y => ind ([c, d', e'] :: two :: P) (c :: 10 :: d' :: 10 :: e' :: 10 :: c'' :: y)))) = _
        simp only [z0, z1, h4, ind_nl]
        rw [sumM_zero r (fun _ => 0) (fun _ => rfl), I1, Int.add_mul, Int.one_mul]
        simp
end Mine
end
section
open PySem PySem.W PyProof.Rows
set_option maxRecDepth 100000
set_option maxHeartbeats 20000000
namespace Mine
local macro_rules | `(tactic| walk_at $s:str) => `(tactic| k_extra $s)
theorem hooks15 : True := by
  k_with_none
  trivial
/-- the outer loop's word: what is read of the text x so far -/
def RdP (x text row : Str) : Prop := row.cps.toList ++ readL text.cps.toList = readL x.cps.toList ∧ text.length + row.length ≤ 100 ∧ ∀ c ∈ text.cps.toList, c ≤ 70000
/-- the inner loop's word -/
def PcP (text piece : Str) : Prop := shrink piece.cps.toList = pieceOf text.cps.toList ∧ 1 ≤ piece.length ∧ piece.length ≤ text.length ∧ (∀ c ∈ piece.cps.toList, c ≤ 70000)

theorem RdP.start {x : Str} {t : Str} (ht : t = Str.ofString "") (h : x.length ≤ 100) (hc : ∀ c ∈ x.cps.toList, c ≤ 70000) : RdP x x t := by
  subst ht
  refine ⟨by simp [show (Str.ofString "").cps = #[] from by decide +kernel], by rw [show (Str.ofString "").length = 0 from by decide +kernel]; omega, hc⟩
theorem PcP.start {x text row : Str} (h : RdP x text row) (hn : (text != Str.ofString "") = true) : PcP text (Txt.slice text none (some 3)) := by
  have h1 : 1 ≤ text.length := by
    apply Nat.pos_of_ne_zero
    intro e
    have : text = Str.ofString "" := by
      apply Str.ext'
      rw [show (Str.ofString "").cps = #[] from by decide +kernel]
      exact Array.eq_empty_of_size_eq_zero e
    rw [this] at hn
    simp at hn
  have hs := slice3 text
  have hl : (Txt.slice text none (some 3)).length = min 3 text.length := by rw [← len_toList, hs, List.length_take, len_toList]
  refine ⟨by rw [hs]; rfl, by omega, by omega, fun c hc => ?_⟩
  rw [hs] at hc
  exact h.2.2 c (List.mem_of_mem_take hc)
theorem PcP.more {text piece : Str} (h : PcP text piece) (h1 : (1 : Int) < (piece.length : Int)) (h2 : (Spec.lookup (PyData.str piece) tabD).isSome = false) : PcP text (Txt.slice piece none (some (-1))) := by
  have hl : (Txt.slice piece none (some (-1))).length = piece.length - 1 := by rw [← len_toList, slice_init h.2.1, List.length_dropLast, len_toList]
  rw [lookup_tabD, Option.isSome_map] at h2
  have h0 := len_toList piece
  refine ⟨by rw [slice_init h.2.1, ← h.1, shrink_more (by omega) h2], by omega, by have := h.2.2.1; omega, fun c hc => ?_⟩
  rw [slice_init h.2.1] at hc
  exact h.2.2.2 c (List.dropLast_subset _ hc)
theorem PcP.less {text piece : Str} (h : PcP text piece) : (Txt.slice piece none (some (-1))).length < piece.length := by
  have hl : (Txt.slice piece none (some (-1))).length = piece.length - 1 := by rw [← len_toList, slice_init h.2.1, List.length_dropLast, len_toList]
  have := h.2.1
  omega
theorem PcP.done {text piece : Str} (h : PcP text piece) (hd : ¬ (1 : Int) < (piece.length : Int) ∨ (Spec.lookup (PyData.str piece) tabD).isSome = true) : piece.cps.toList = pieceOf text.cps.toList := by
  rw [← h.1]
  refine (shrink_stop ?_).symm
  rcases hd with hd | hd
  · left; rw [len_toList]; omega
  · right; rw [lookup_tabD, Option.isSome_map] at hd; exact hd
theorem RdP.less {text piece : Str} (h : PcP text piece) : (Txt.slice text (some (piece.length : Int)) none).length < text.length := by
  have hl : (Txt.slice text (some (piece.length : Int)) none).length = text.length - piece.length := by rw [← len_toList, slice_drop h.2.2.1, List.length_drop, len_toList]
  have := h.2.1
  have := h.2.2.1
  omega
theorem RdP.skip {x text row piece : Str} (hr : RdP x text row) (h : PcP text piece) (hd : piece.cps.toList = pieceOf text.cps.toList) (hs : piece.cps.toList = [10]) : RdP x (Txt.slice text (some (piece.length : Int)) none) row := by
  have hl : (Txt.slice text (some (piece.length : Int)) none).length = text.length - piece.length := by rw [← len_toList, slice_drop h.2.2.1, List.length_drop, len_toList]
  have hne : text.cps.toList ≠ [] := by intro e; have := congrArg List.length e; rw [len_toList] at this; have := h.2.1; have := h.2.2.1; simp at *; omega
  refine ⟨?_, by have := hr.2.1; omega, fun c hc => ?_⟩
  · rw [slice_drop h.2.2.1, ← hr.1, readL_step hne, ← hd, if_pos hs, List.nil_append, len_toList]
  · rw [slice_drop h.2.2.1] at hc
    exact hr.2.2 c (List.mem_of_mem_drop hc)
theorem RdP.take {x text row piece : Str} (hr : RdP x text row) (h : PcP text piece) (hd : piece.cps.toList = pieceOf text.cps.toList) (hs : piece.cps.toList ≠ [10]) {n : Nat} (hn : symOf piece.cps.toList = n) :
    RdP x (Txt.slice text (some (piece.length : Int)) none) (row ++ ⟨#[n]⟩) := by
  have hl : (Txt.slice text (some (piece.length : Int)) none).length = text.length - piece.length := by rw [← len_toList, slice_drop h.2.2.1, List.length_drop, len_toList]
  have hne : text.cps.toList ≠ [] := by intro e; have := congrArg List.length e; rw [len_toList] at this; have := h.2.1; have := h.2.2.1; simp at *; omega
  have e : (row ++ (⟨#[n]⟩ : Str)).cps.toList = row.cps.toList ++ [n] := by
    rw [Str.cps_append]; simp
  have el : (row ++ (⟨#[n]⟩ : Str)).length = row.length + 1 := by rw [← len_toList, e, List.length_append, len_toList]; rfl
  refine ⟨?_, by have := hr.2.1; have := h.2.1; have := h.2.2.1; omega, fun c hc => ?_⟩
  · rw [slice_drop h.2.2.1, ← hr.1, readL_step hne, ← hd, if_neg hs, len_toList, e, hn, List.append_assoc]
  · rw [slice_drop h.2.2.1] at hc
    exact hr.2.2 c (List.mem_of_mem_drop hc)
theorem ne_nl {piece : Str} (h : (piece != Str.ofString "\n") = true) : piece.cps.toList ≠ [10] := by
  intro e
  have : piece = Str.ofString "\n" := by
    rw [show Str.ofString "\n" = ⟨#[10]⟩ from by decide +kernel]
    apply Str.ext'
    rw [← Array.toList_inj, e]
  rw [this] at h
  simp at h
theorem eq_nl {piece : Str} (h : (piece != Str.ofString "\n") = false) : piece.cps.toList = [10] := by
  have : piece = Str.ofString "\n" := by simpa using h
  rw [this, show Str.ofString "\n" = ⟨#[10]⟩ from by decide +kernel]
theorem sym_some {p : List Nat} {n : Nat} (h : lookT p = some n) : symOf p = n := by unfold symOf; rw [h]
theorem sym_none {piece : Str} (h : (Spec.lookup (PyData.str piece) tabD).isSome = false) : symOf piece.cps.toList = ((piece.cps.getD 0 0 : Nat) + 157 : Int).toNat := by
  rw [lookup_tabD, Option.isSome_map] at h
  have e : lookT piece.cps.toList = none := by simpa using h
  unfold symOf
  rw [e]
  have : piece.cps.getD 0 0 = piece.cps.toList.headD 0 := by
    cases piece with | mk cps => cases cps with | mk l => cases l <;> rfl
  rw [this]
  show piece.cps.toList.headD 0 + 157 = (((piece.cps.toList.headD 0 : Nat) : Int) + 157).toNat
  omega
theorem head_le {text piece : Str} (h : PcP text piece) : ((piece.cps.getD 0 0 : Nat) : Int) + 157 ≤ 1114111 := by
  have : piece.cps.getD 0 0 = piece.cps.toList.headD 0 := by
    cases piece with | mk cps => cases cps with | mk l => cases l <;> rfl
  rw [this]
  have hl := h.2.1
  rw [← len_toList] at hl
  have h2 := h.2.2.2
  cases e : piece.cps.toList with
  | nil => rw [e] at hl; simp at hl
  | cons a r => rw [e] at h2; have := h2 a (.head _); show ((a : Nat) : Int) + 157 ≤ _; omega
theorem get_tabD {D : List (PyData × PyData)} (hDD : D = tabD) {prog : Program} {w : World} {A : Around} {E : Value → Shared → Prop} {s : Shared} {h₀ : Heap} {L : Addr} {news : List (Addr × Obj)} {d : Addr} {o : Obj} {kvs : List (Str × Value)} {x : Str} {u : Tok} {Q : Value → Shared → Prop}
    (N : News h₀ L s.heap news) (hm : (d, o) ∈ news) (lo : (d == sysModules) = false) (ho : o.IsDictOf (strKind prog w) kvs) (hD : PyProof.V.FlatPairs PyData.str kvs D)
    (hs : (Spec.lookup (PyData.str x) D).isSome = true) (h : ∀ n t, lookT x.cps.toList = some n → Q (.int (n : Int) t) { s with toks := s.toks + 1 }) :
    wpAny (model prog w) A (getItem (.ref d) (.str x u)) Q E s := by
  subst hDD
  have T : TabAt (strKind prog w) PyData.str s.heap d tabD := ⟨lo, kvs, Heap.dictOf_iff.mpr ⟨o, (N _ hm).1, ho⟩, hD⟩
  obtain ⟨lo, kvs, hd, hf⟩ := T
  rw [lookup_tabD, Option.isSome_map] at hs
  obtain ⟨n, hn⟩ := Option.isSome_iff_exists.mp hs
  have hl : Spec.lookup (PyData.str x) tabD = some (.int (n : Int)) := by rw [lookup_tabD, hn]; rfl
  obtain ⟨v, hv, hfl⟩ := hf.of_lookup PyProof.V.same_str hl
  obtain ⟨t, rfl⟩ := PyProof.V.Flat.int_inv hfl
  exact wpAny_getItem_of (strKind_is prog w x u) hd.mapOf hv (h n t hn)

theorem hook12 : True := by
  k_with "exec While" => (((with_reducible show wpAny _ _ (exec (Stmt.While (Expr.Compare _ _ _ _) _ _ _) _) _ _ _); k_extra "while1"))
  trivial
theorem hook13 : True := by
  k_with "exec While" => (((with_reducible show wpAny _ _ (exec (Stmt.While (Expr.BoolOp _ _ _) _ _ _) _) _ _ _); k_extra "while2"))
  trivial
theorem hook14 : True := by
  k_with "getItem" => ((k_here; (with_reducible show wpAny _ _ (getItem (Value.ref _) (Value.str _ _)) _ _ _); (refine get_tabD (by assumption) (by k_asm) (List.Mem.head _) (by assumption) (by assumption) (by assumption) (by assumption) ?_); (intro n9qz t9qz hn9qz)))
  trivial
theorem hook15 : True := by
  k_with "call builtin:chr" => (first | (refine chr_of_range (by omega) (by (have q9qz := lookT_le (by assumption)); omega) ?_) | (refine chr_of_range (by omega) (head_le (by assumption)) ?_))
  trivial
theorem RdP.start' {x t : Str} (ht : t = Str.ofString "") (h : x.length ≤ 100) (hc : ∀ c ∈ x.cps.toList, c ≤ 70000) : RdP x x t ∧ x.length + t.length ≤ 100 := ⟨RdP.start ht h hc, (RdP.start ht h hc).2.1⟩
theorem PcP.start' {x text row : Str} (h : RdP x text row) (hn : (text != Str.ofString "") = true) : PcP text (Txt.slice text none (some 3)) ∧ (Txt.slice text none (some 3)).length ≤ 100 ∧ 1 ≤ (Txt.slice text none (some 3)).length :=
  ⟨PcP.start h hn, Nat.le_trans (PcP.start h hn).2.2.1 (by have := h.2.1; omega), (PcP.start h hn).2.1⟩
theorem PcP.more' {D : List (PyData × PyData)} (hDD : D = tabD) {x text row piece : Str} (hr : RdP x text row) (h : PcP text piece) (h1 : (1 : Int) < (piece.length : Int)) (h2 : (Spec.lookup (PyData.str piece) D).isSome = false) : PcP text (Txt.slice piece none (some (-1))) ∧ (Txt.slice piece none (some (-1))).length ≤ 100 ∧ 1 ≤ (Txt.slice piece none (some (-1))).length := by
  subst hDD
  exact ⟨PcP.more h h1 h2, Nat.le_trans (PcP.more h h1 h2).2.2.1 (by have := hr.2.1; omega), (PcP.more h h1 h2).2.1⟩
theorem RdP.skip' {D : List (PyData × PyData)} (hDD : D = tabD) {x text row piece : Str} (hr : RdP x text row) (h : PcP text piece) (hd : ¬ (1 : Int) < (piece.length : Int) ∨ (Spec.lookup (PyData.str piece) D).isSome = true) (hs : (piece != Str.ofString "\n") = false) :
    RdP x (Txt.slice text (some (piece.length : Int)) none) row ∧ (Txt.slice text (some (piece.length : Int)) none).length + row.length ≤ 100 := by
  subst hDD
  exact ⟨hr.skip h (h.done hd) (eq_nl hs), (hr.skip h (h.done hd) (eq_nl hs)).2.1⟩
theorem RdP.take1 {D : List (PyData × PyData)} (hDD : D = tabD) {x text row piece : Str} (hr : RdP x text row) (h : PcP text piece) (hd : ¬ (1 : Int) < (piece.length : Int) ∨ (Spec.lookup (PyData.str piece) D).isSome = true) (hs : (piece != Str.ofString "\n") = true) {n : Nat} (hn : lookT piece.cps.toList = some n) :
    RdP x (Txt.slice text (some (piece.length : Int)) none) (row ++ ⟨#[(n : Int).toNat]⟩) ∧ (Txt.slice text (some (piece.length : Int)) none).length + (row ++ (⟨#[(n : Int).toNat]⟩ : Str)).length ≤ 100 := by
  subst hDD
  have q := hr.take h (h.done hd) (ne_nl hs) (sym_some hn)
  exact ⟨q, q.2.1⟩
theorem RdP.take2 {D : List (PyData × PyData)} (hDD : D = tabD) {x text row piece : Str} (hr : RdP x text row) (h : PcP text piece) (hd : ¬ (1 : Int) < (piece.length : Int) ∨ (Spec.lookup (PyData.str piece) D).isSome = true) (hs : (piece != Str.ofString "\n") = true) (hn : (Spec.lookup (PyData.str piece) D).isSome = false) :
    RdP x (Txt.slice text (some (piece.length : Int)) none) (row ++ ⟨#[((piece.cps.getD 0 0 : Nat) + 157 : Int).toNat]⟩) ∧ (Txt.slice text (some (piece.length : Int)) none).length + (row ++ (⟨#[((piece.cps.getD 0 0 : Nat) + 157 : Int).toNat]⟩ : Str)).length ≤ 100 := by
  subst hDD
  have q := hr.take h (h.done hd) (ne_nl hs) (sym_none hn)
  exact ⟨q, q.2.1⟩
theorem RdP.done {x text row : Str} (h : RdP x text row) (hn : (text != Str.ofString "") = false) : row = ⟨(readL x.cps.toList).toArray⟩ := by
  have e : text = Str.ofString "" := by simpa using hn
  have := h.1
  rw [e, show (Str.ofString "").cps.toList = [] from by decide +kernel, readL_nil, List.append_nil] at this
  apply Str.ext'
  rw [← Array.toList_inj, this]
abbrev RdP.theText {x text row : Str} (_ : RdP x text row) : Str := text
theorem read_specD (w : World) (x : Str) (t : Tok) (d : Addr) (o : Obj) (kvs : List (Str × Value)) (D : List (PyData × PyData)) (hDD : D = tabD) (news : List (Addr × Obj)) (lo : (d == sysModules) = false) (hx : x.length ≤ 100) (hc : ∀ c ∈ x.cps.toList, c ≤ 70000)
    (ho : o.IsDictOf (strKind PySem.Challenge.rw_pg0280_01.prog w) kvs) (hD : PyProof.V.FlatPairs PyData.str kvs D) : Spec w 133 [.str x t, .ref d] ((d, o) :: news) 2 16 (fun v new => (∃ t', v = .str ⟨(readL x.cps.toList).toArray⟩ t') ∧ new = []) := by
  unfold Spec
  k_fill
  intros
  rename_i hret
  refine wpAny_call ?_
  k_dflt cell_enter
  k_with "while1" => k_while (fun _ text row => RdP x text row ∧ text.length + row.length ≤ 100) (fun _ text _ => text.length) "text" "row"
  k_with "while2" => (rename RdP _ _ _ => hRd; k_while (fun _ piece => PcP (RdP.theText hRd) piece ∧ piece.length ≤ 100 ∧ 1 ≤ piece.length) (fun _ piece => piece.length) "piece")
  k_with "state" => first
    | exact RdP.start' rfl hx hc
    | exact PcP.start' (by assumption) (by assumption)
    | exact PcP.more' hDD (by assumption) (by assumption) (by assumption) (by assumption)
    | exact RdP.skip' hDD (by assumption) (by assumption) (.inl (by assumption)) (by assumption)
    | exact RdP.skip' hDD (by assumption) (by assumption) (.inr (by assumption)) (by assumption)
    | exact RdP.take1 hDD (by assumption) (by assumption) (.inl (by assumption)) (by assumption) (by assumption)
    | exact RdP.take1 hDD (by assumption) (by assumption) (.inr (by assumption)) (by assumption) (by assumption)
    | exact RdP.take2 hDD (by assumption) (by assumption) (.inl (by assumption)) (by assumption) (by assumption)
    | exact RdP.take2 hDD (by assumption) (by assumption) (.inr (by assumption)) (by assumption) (by assumption)
  k_with "measure" => first
    | exact PcP.less (by assumption)
    | exact RdP.less (by assumption)
  k_steps
  rename RdP _ _ _ => hRd
  have e := hRd.done (by assumption)
  exact hret _ [] _ _ ⟨⟨_, by rw [e]⟩, rfl⟩ (by assumption) (by assumption)
theorem read_spec (w : World) (x : Str) (t : Tok) (d : Addr) (o : Obj) (kvs : List (Str × Value)) (news : List (Addr × Obj)) (lo : (d == sysModules) = false) (hx : x.length ≤ 100) (hc : ∀ c ∈ x.cps.toList, c ≤ 70000)
    (ho : o.IsDictOf (strKind PySem.Challenge.rw_pg0280_01.prog w) kvs) (hD : PyProof.V.FlatPairs PyData.str kvs tabD) : Spec w 133 [.str x t, .ref d] ((d, o) :: news) 2 16 (fun v new => (∃ t', v = .str ⟨(readL x.cps.toList).toArray⟩ t') ∧ new = []) :=
  read_specD w x t d o kvs tabD rfl news lo hx hc ho hD
end Mine
end
section
open PySem PySem.W PyProof.Rows
set_option maxRecDepth 100000
set_option maxHeartbeats 20000000
namespace Mine
local macro_rules | `(tactic| walk_at $s:str) => `(tactic| k_extra $s)
theorem hooks24 : True := by
  k_with_none
  trivial
/-! ## _law_worth -/
def prOf (D : List (PyData × PyData)) (k : Int) : Int := match Spec.lookup (.int k) D with
  | some (.int v) => v
  | _ => 0
def woStep (pr : Int → Int) (S : Str → Bool) (one two : Str) (l o a : Int) : Int × Int :=
  if (one ++ two == Str.ofString "..") = true then (pr (a + one.length) * (l + o), l)
  else if S (one ++ Txt.slice two none (some 1)) = true then (pr (a + one.length) * (l + o), 0)
  else if (one == Str.ofString ".") = true ∧ (two == Str.ofString "...") = true then (pr (a + one.length) * (l + o), 0)
  else ((1 + pr (a + one.length)) * (l + o), 0)
def worthS (pr : Int → Int) (S : Str → Bool) : List Str → Int → Int → Int → Int
  | [], l, o, _ => l + o
  | [_], l, o, _ => l + o
  | one :: two :: r, l, o, a => worthS pr S (two :: r) (woStep pr S one two l o a).1 (woStep pr S one two l o a).2 (a + one.length)
/-- the loop's word -/
def WoP (pr : Int → Int) (S : Str → Bool) (ss : List Str) (pre : List Int) (l o a : Int) : Prop := worthS pr S (ss.drop pre.length) l o a = worthS pr S ss 1 0 0

theorem get2_D {prog : Program} {w : World} {A : Around} {E : Value → Shared → Prop} {s : Shared} {h₀ : Heap} {L : Addr} {news : List (Addr × Obj)} {d : Addr} {o : Obj} {kvs : List (Int × Value)} {D : List (PyData × PyData)} {k : Int} {u z : Tok} {Q : Value → Shared → Prop}
    (N : News h₀ L s.heap news) (hm : (d, o) ∈ news) (lo : (d == sysModules) = false) (ho : o.IsDictOf (intKind prog w) kvs) (hD : PyProof.V.FlatPairs PyData.int kvs D)
    (hi : ∀ k, Spec.lookup (.int k) D = none ∨ ∃ v, Spec.lookup (.int k) D = some (.int v) ∧ 0 ≤ v ∧ v ≤ 12)
    (h : ∀ t, 0 ≤ prOf D k → prOf D k ≤ 12 → Q (.int (prOf D k) t) { s with toks := s.toks + 1 }) :
    wpAny (model prog w) A (call (.builtin "dict.get") [.ref d, .int k u, .int 0 z]) Q E s := by
  have T : TabAt (intKind prog w) PyData.int s.heap d D := ⟨lo, kvs, Heap.dictOf_iff.mpr ⟨o, (N _ hm).1, ho⟩, hD⟩
  refine call_get2_intTab T (PyProof.V.Flat.int 0 z) fun v hv => ?_
  rcases hi k with e | ⟨x, e, h0, h1⟩
  · rw [e] at hv
    obtain ⟨t, rfl⟩ := PyProof.V.Flat.int_inv hv
    have q : prOf D k = 0 := by unfold prOf; rw [e]
    rw [← q]
    exact h t (by omega) (by omega)
  · rw [e] at hv
    obtain ⟨t, rfl⟩ := PyProof.V.Flat.int_inv hv
    have q : prOf D k = x := by unfold prOf; rw [e]
    rw [← q]
    exact h t (by omega) (by omega)
theorem getMethod_D {prog : Program} {w : World} {A : Around} {E : Value → Shared → Prop} {s : Shared} {h₀ : Heap} {L : Addr} {news : List (Addr × Obj)} {d : Addr} {o : Obj} {kvs : List (Int × Value)} {D : List (PyData × PyData)} {pl : Sem Bool} {Q : Value × List Value → Shared → Prop}
    (N : News h₀ L s.heap news) (hm : (d, o) ∈ news) (lo : (d == sysModules) = false) (ho : o.IsDictOf (intKind prog w) kvs) (hD : PyProof.V.FlatPairs PyData.int kvs D)
    (h : Q (.builtin "dict.get", [.ref d]) s) : wpAny (model prog w) A (getMethod (.ref d) "get" pl) Q E s :=
  getMethod_intTab_get (D := D) ⟨lo, kvs, Heap.dictOf_iff.mpr ⟨o, (N _ hm).1, ho⟩, hD⟩ h

theorem getD_len {ss : List Str} (h : ∀ x ∈ ss, x.length ≤ 100) (i : Nat) : (ss.getD i Str.empty).length ≤ 100 := by
  by_cases hi : i < ss.length
  · have e : ss.getD i Str.empty = ss[i] := by simp [List.getD, hi]
    rw [e]; exact h _ (List.getElem_mem hi)
  · have e : ss.getD i Str.empty = Str.empty := by simp [List.getD, hi]
    rw [e]; exact Nat.zero_le _
theorem cut_fits {ss : List Str} (h : ∀ x ∈ ss, x.length ≤ 100) (i : Nat) : (ss.getD i Str.empty).length ≤ sizeLine := Nat.le_trans (getD_len h i) (Nat.le_of_ble_eq_true rfl)
theorem got_int {D : List (PyData × PyData)} {k : Int} {v : Value} (hi : ∀ k, Spec.lookup (.int k) D = none ∨ ∃ v, Spec.lookup (.int k) D = some (.int v) ∧ 0 ≤ v ∧ v ≤ 12)
    (hv : PyProof.V.Flat v ((Spec.lookup (.int k) D).getD (.int 0))) : ∃ t, v = .int (prOf D k) t ∧ 0 ≤ prOf D k ∧ prOf D k ≤ 12 := by
  rcases hi k with e | ⟨x, e, h0, h1⟩
  · rw [e] at hv
    obtain ⟨t, rfl⟩ := PyProof.V.Flat.int_inv hv
    have q : prOf D k = 0 := by unfold prOf; rw [e]
    exact ⟨t, by rw [q], by omega, by omega⟩
  · rw [e] at hv
    obtain ⟨t, rfl⟩ := PyProof.V.Flat.int_inv hv
    have q : prOf D k = x := by unfold prOf; rw [e]
    exact ⟨t, by rw [q], by omega, by omega⟩
theorem bits_small {x : Int} (h0 : 0 ≤ x) (h1 : x ≤ 13) : Builtin.Int.intBits x ≤ 64 := by
  unfold Builtin.Int.intBits
  split
  · omega
  · rename_i h
    have hn : x.natAbs ≠ 0 := by intro e; apply h; simpa using e
    have : x.natAbs.log2 < 4 := (Nat.log2_lt hn).mpr (by omega)
    omega
theorem mul_sm {prog : Program} {w : World} {A : Around} {E : Value → Shared → Prop} {s : Shared} {a b : Int} {t u : Tok} {Q : Value → Shared → Prop} (h0 : 0 ≤ a) (h1 : a ≤ 12) (h : Q (.int (a * b) s.toks) { s with toks := s.toks + 1 }) :
    wpAny (model prog w) A (binaryOp .Mult (.int a t) (.int b u)) Q E s := P.mul_int h (IntMulOk.of_left (bits_small h0 (by omega)))
theorem mul_sm1 {prog : Program} {w : World} {A : Around} {E : Value → Shared → Prop} {s : Shared} {a b : Int} {t u : Tok} {Q : Value → Shared → Prop} (h0 : 0 ≤ a) (h1 : a ≤ 12) (h : Q (.int ((1 + a) * b) s.toks) { s with toks := s.toks + 1 }) :
    wpAny (model prog w) A (binaryOp .Mult (.int (1 + a) t) (.int b u)) Q E s := P.mul_int h (IntMulOk.of_left (bits_small (by omega) (by omega)))
theorem hook16 : True := by
  k_with "binaryOp Mult int int" => ((k_here; first | refine mul_sm1 (by assumption) (by assumption) ?_ | refine mul_sm (by assumption) (by assumption) ?_))
  trivial
theorem hook17 : True := by
  k_with "subscriptTail" => ((k_here; (with_reducible show wpAny _ _ (subscriptTail _ (Expr.Slice none (some _) none _) (Value.str _ _) (Value.ref _)) _ _ _); (with_reducible rename Fr _ _ _ _ => Fpqz); (with_reducible rename News _ _ _ _ => Npqz); (refine slice_strN_ns (hsz := cut_fits (by assumption) _) (s := ⟨_, _, _, _, _⟩) Fpqz Npqz ?_); intro _ _ _ _ _))
  trivial
theorem hook18 : True := by
  k_with "pyIter ref" => (k_extra "for1")
  trivial
theorem hook19 : True := by
  k_with "getMethod ref" => ((k_here; (refine getMethod_D (by k_asm) (by k_mem) (by assumption) (by assumption) (by assumption) ?_)))
  trivial
theorem hook20 : True := by
  k_with "call builtin:dict.get" => ((k_here; k_dflt (refine' call_get2_intTab ?k1q20 ?k2q20 ?_; (case k1q20 => k_tabat); (case k2q20 => k_flat); intro v9qz hv9qz); (obtain ⟨t9qz, q9qz, p0qz, p1qz⟩ := got_int (by assumption) hv9qz); subst q9qz))
  trivial

theorem len_getD {ss : List Str} (h : ∀ x ∈ ss, x.length ≤ 100) {prog : Program} {w : World} {A : Around} {E : Value → Shared → Prop} {s : Shared} {i : Nat} {t : Tok} {Q : Value → Shared → Prop}
    (hq : (ss.getD i Str.empty).length ≤ 100 → Q (.int (ss.getD i Str.empty).length (s.toks + 1)) { s with toks := s.toks + 1 + 1 }) : wpAny (model prog w) A (call (.builtin "len") [.str (ss.getD i Str.empty) t]) Q E s :=
  P.len_str (by have := getD_len h i; omega) (hq (getD_len h i))
theorem in_set {prog : Program} {w : World} {A : Around} {E : Value → Shared → Prop} {s : Shared} {h₀ : Heap} {L : Addr} {news : List (Addr × Obj)} {d : Addr} {o : Obj} {S : Str → Bool} {nS : Nat} {x : Str} {t : Tok} {Q : Value → Shared → Prop}
    (hS : o.SetObjOf (strKind prog w) S nS) (hb : nS < scanBound) (N : News h₀ L s.heap news) (hm : (d, o) ∈ news)
    (h : Q (.bool (S x)) { s with toks := s.toks + 1 }) : wpAny (model prog w) A (compareOp .In (.str x t) (.ref d)) Q E s :=
  wpAny_inSet_of (strKind_is prog w x t) rfl (hS.setOf (N _ hm).1 hb) h
theorem add_gg {ss : List Str} (h : ∀ x ∈ ss, x.length ≤ 100) (i j : Nat) : (ss.getD i Str.empty).length + (ss.getD j Str.empty).length ≤ 16777216 := by
  have := getD_len h i; have := getD_len h j; omega
theorem add_gs {ss : List Str} (h : ∀ x ∈ ss, x.length ≤ 100) (i j : Nat) : (ss.getD i Str.empty).length + (Txt.slice (ss.getD j Str.empty) none (some 1)).length ≤ 16777216 := by
  have := getD_len h i; have := getD_len h j
  have e : (Txt.slice (ss.getD j Str.empty) none (some 1)).length ≤ (ss.getD j Str.empty).length := by
    rw [← len_toList, slice_take (by decide), List.length_take, len_toList]; omega
  omega
theorem hook21 : True := by
  k_with "binaryOp Add str str" => ((k_here; first | (refine KOpn.add (add_gg (by assumption) _ _) ?_; intro _ _ _) | (refine KOpn.add (add_gs (by assumption) _ _) ?_; intro _ _ _)))
  trivial
theorem hook22 : True := by
  k_with "call builtin:len" => ((k_here; (refine len_getD (by assumption) ?_); intro l9qz))
  trivial
theorem hook23 : True := by
  k_with "compareOp In str ref" => ((k_here; (refine in_set (by assumption) (by assumption) (by k_asm) (by k_mem) ?_)))
  trivial

theorem WoP.start (pr : Int → Int) (S : Str → Bool) (ss : List Str) : WoP pr S ss [] 1 0 0 := rfl
theorem WoP.next {pr : Int → Int} {S : Str → Bool} {ss : List Str} {pre : List Int} {l o a k : Int} (h : WoP pr S ss pre l o a) (hk : k = 1 + (pre.length : Int)) (hl : pre.length < ((ss.length : Int) - 1).toNat) :
    WoP pr S ss (pre ++ [k]) (woStep pr S (ss.getD (k - 1).toNat Str.empty) (ss.getD k.toNat Str.empty) l o a).1 (woStep pr S (ss.getD (k - 1).toNat Str.empty) (ss.getD k.toNat Str.empty) l o a).2 (a + (ss.getD (k - 1).toNat Str.empty).length) := by
  unfold WoP at h ⊢
  have e1 : (k - 1).toNat = pre.length := by omega
  have e2 : k.toNat = pre.length + 1 := by omega
  have h1 : pre.length < ss.length := by omega
  have h2 : pre.length + 1 < ss.length := by omega
  rw [e1, e2, List.length_append, List.length_singleton]
  rw [← h, List.drop_eq_getElem_cons h1, List.drop_eq_getElem_cons h2]
  have g1 : ss.getD pre.length Str.empty = ss[pre.length] := by simp [List.getD, h1]
  have g2 : ss.getD (pre.length + 1) Str.empty = ss[pre.length + 1] := by simp [List.getD, h2]
  rw [g1, g2]
  rfl
theorem WoP.fin {pr : Int → Int} {S : Str → Bool} {ss : List Str} {n : Nat} {l o a : Int} (h : WoP pr S ss (rangeKs 1 n) l o a) (hn : n = ((ss.length : Int) - 1).toNat) : worthS pr S ss 1 0 0 = l + o := by
  unfold WoP at h
  rw [← h, rangeKs_length, hn]
  have : (ss.drop ((ss.length : Int) - 1).toNat).length ≤ 1 := by rw [List.length_drop]; omega
  match he : ss.drop ((ss.length : Int) - 1).toNat with
  | [] => rfl
  | [_] => rfl
  | _ :: _ :: _ => rw [he] at this; simp at this
section
variable {pr : Int → Int} {S : Str → Bool} {ss : List Str} {pre : List Int} {l o a k : Int}
theorem WoP.stepA (h : WoP pr S ss pre l o a) (hk : k = 1 + (pre.length : Int)) (hl : pre.length < ((ss.length : Int) - 1).toNat) (c1 : (ss.getD (k - 1).toNat Str.empty ++ ss.getD k.toNat Str.empty == Str.ofString "..") = true) :
    WoP pr S ss (pre ++ [k]) (pr (a + (ss.getD (k - 1).toNat Str.empty).length) * (l + o)) l (a + (ss.getD (k - 1).toNat Str.empty).length) := by
  have q := h.next hk hl
  unfold woStep at q
  rw [if_pos c1] at q
  exact q
theorem WoP.stepB (h : WoP pr S ss pre l o a) (hk : k = 1 + (pre.length : Int)) (hl : pre.length < ((ss.length : Int) - 1).toNat) (c1 : (ss.getD (k - 1).toNat Str.empty ++ ss.getD k.toNat Str.empty == Str.ofString "..") = false)
    (c2 : S (ss.getD (k - 1).toNat Str.empty ++ Txt.slice (ss.getD k.toNat Str.empty) none (some 1)) = true) :
    WoP pr S ss (pre ++ [k]) (pr (a + (ss.getD (k - 1).toNat Str.empty).length) * (l + o)) 0 (a + (ss.getD (k - 1).toNat Str.empty).length) := by
  have q := h.next hk hl
  unfold woStep at q
  rw [if_neg (by rw [c1]; decide), if_pos c2] at q
  exact q
theorem WoP.stepC (h : WoP pr S ss pre l o a) (hk : k = 1 + (pre.length : Int)) (hl : pre.length < ((ss.length : Int) - 1).toNat) (c1 : (ss.getD (k - 1).toNat Str.empty ++ ss.getD k.toNat Str.empty == Str.ofString "..") = false)
    (c2 : S (ss.getD (k - 1).toNat Str.empty ++ Txt.slice (ss.getD k.toNat Str.empty) none (some 1)) = false) (c3 : (ss.getD (k - 1).toNat Str.empty == Str.ofString ".") = true) (c4 : (ss.getD k.toNat Str.empty == Str.ofString "...") = true) :
    WoP pr S ss (pre ++ [k]) (pr (a + (ss.getD (k - 1).toNat Str.empty).length) * (l + o)) 0 (a + (ss.getD (k - 1).toNat Str.empty).length) := by
  have q := h.next hk hl
  unfold woStep at q
  rw [if_neg (by rw [c1]; decide), if_neg (by rw [c2]; decide), if_pos ⟨c3, c4⟩] at q
  exact q
theorem WoP.stepD (h : WoP pr S ss pre l o a) (hk : k = 1 + (pre.length : Int)) (hl : pre.length < ((ss.length : Int) - 1).toNat) (c1 : (ss.getD (k - 1).toNat Str.empty ++ ss.getD k.toNat Str.empty == Str.ofString "..") = false)
    (c2 : S (ss.getD (k - 1).toNat Str.empty ++ Txt.slice (ss.getD k.toNat Str.empty) none (some 1)) = false) (c3 : (ss.getD (k - 1).toNat Str.empty == Str.ofString ".") = false ∨ (ss.getD k.toNat Str.empty == Str.ofString "...") = false) :
    WoP pr S ss (pre ++ [k]) ((1 + pr (a + (ss.getD (k - 1).toNat Str.empty).length)) * (l + o)) 0 (a + (ss.getD (k - 1).toNat Str.empty).length) := by
  have q := h.next hk hl
  unfold woStep at q
  rw [if_neg (by rw [c1]; decide), if_neg (by rw [c2]; decide), if_neg (by rintro ⟨h1, h2⟩; rcases c3 with c | c <;> simp_all)] at q
  exact q
end
theorem hook24 : True := by
  k_with "InvEndN" => (((dsimp only [envOf]); (rename News _ _ _ _ => nEpqz); (try simp only [List.push_toArray] at nEpqz); (first
  | refine' kst_end (Prod.mk _ (Prod.mk _ (Prod.mk _ (Prod.mk _ (Prod.mk _ (Prod.mk _ (Prod.mk _ _))))))) ?Fq24 ?Nq24 ?aq24 ?bq24 ?cq24 ?dq24 ?eq24 ?fq24 ?gq24
  | refine' kst_end (Prod.mk _ (Prod.mk _ (Prod.mk _ (Prod.mk _ (Prod.mk _ _))))) ?Fq24 ?Nq24 ?aq24 ?bq24 ?cq24 ?dq24 ?eq24 ?fq24 ?gq24
  | refine' kst_end (Prod.mk _ (Prod.mk _ (Prod.mk _ _))) ?Fq24 ?Nq24 ?aq24 ?bq24 ?cq24 ?dq24 ?eq24 ?fq24 ?gq24
  | refine' kst_end (Prod.mk _ _) ?Fq24 ?Nq24 ?aq24 ?bq24 ?cq24 ?dq24 ?eq24 ?fq24 ?gq24); (case Fq24 => assumption); (case Nq24 => exact nEpqz); (case aq24 => first | kst_in | kst_inAny); (case bq24 => intro pqz hpqz; with_unfolding_all repeat (first | assumption | exact List.mem_append.mpr (.inr hpqz) | refine List.Mem.tail _ ?_)); (case cq24 => rfl); (case dq24 => kst_facts); (case eq24 => kst_all); (case fq24 => kst_same); (case gq24 => kst_p)))
  trivial
theorem worth_spec (w : World) (l d e : Addr) (us : List Value) (ss : List Str) (n : Nat) (o so : Obj) (kvs : List (Int × Value)) (D : List (PyData × PyData)) (S : Str → Bool) (nS : Nat) (news : List (Addr × Obj)) (lo : (d == sysModules) = false)
    (hu : StrsAre us ss) (hn : ss.length ≤ 100) (hss : ∀ x ∈ ss, x.length ≤ 100) (ho : o.IsDictOf (intKind PySem.Challenge.rw_pg0280_01.prog w) kvs) (hD : PyProof.V.FlatPairs PyData.int kvs D)
    (hi : ∀ k, Spec.lookup (.int k) D = none ∨ ∃ v, Spec.lookup (.int k) D = some (.int v) ∧ 0 ≤ v ∧ v ≤ 12)
    (hS : so.SetObjOf (strKind PySem.Challenge.rw_pg0280_01.prog w) S nS) (hb : nS < scanBound) :
    Spec w 154 [.ref l, .ref d, .ref e] ((l, PySem.W.listOf us.toArray n) :: (d, o) :: (e, so) :: news) 2 16 (fun v new => (∃ t', v = .int (worthS (prOf D) S ss 1 0 0) t') ∧ new = []) := by
  unfold Spec
  k_fill
  intros
  rename_i hret
  refine wpAny_call ?_
  k_dflt cell_enter
  k_with "for1" => k_state (fun pre laid out at_ => WoP (prOf D) S ss pre laid out at_) "laid" "out" "at"
  k_with "state" => first
    | exact WoP.start _ _ _
    | exact WoP.stepA (by assumption) (by assumption) (by assumption) (by assumption)
    | exact WoP.stepB (by assumption) (by assumption) (by assumption) (by assumption) (by assumption)
    | exact WoP.stepC (by assumption) (by assumption) (by assumption) (by assumption) (by assumption) (by assumption) (by assumption)
    | exact WoP.stepD (by assumption) (by assumption) (by assumption) (by assumption) (by assumption) (.inl (by assumption))
    | exact WoP.stepD (by assumption) (by assumption) (by assumption) (by assumption) (by assumption) (.inr (by assumption))
  k_steps
  rename WoP _ _ _ _ _ _ _ => hW
  have e := hW.fin rfl
  rename News _ _ _ (_ :: _) => kN9
  exact hret _ [] _ _ ⟨⟨_, by rw [e]⟩, rfl⟩ (by assumption) (news_tail kN9)
end Mine
end
section
open PySem PySem.W PyProof.Rows
set_option maxRecDepth 100000
set_option maxHeartbeats 20000000
namespace Mine
/-! ## for loops over a list or a dict, any target, by an invariant -/
section
variable {prog : Program} {w : World} {A : Around} {E : Value → Shared → Prop} {s : Shared} {env : Env} {h₀ : Heap} {target : PySem.Expr} {body : List Stmt} {Q : Flow → Shared → Prop}
theorem loopT {I ax : Addr} {n : Nat} {P : Nat → Value → Prop} {St : Nat → Heap → Prop} {m₀ : Str → Option Value} {news : List (Addr × Obj)} {hp : Heap} {tk0 : Nat}
    (W : Walks prog w A I [I, ax] [I] n P St) (hgo : ∀ i v (s : Shared) (Q : Unit → Shared → Prop) (E : Value → Shared → Prop), St i s.heap → Q () s → wpAny (model prog w) A (letOwnedTupleGo target (.ref I) v) Q E s)
    (J : Nat → (Str → Option Value) → List (Addr × Obj) → Prop) (hIe : ∀ i h, St i h → ∃ o, h.get? I = some o)
    (hI : h₀.get? I = none) (hIL : env.locals ≠ I) (haL : env.locals ≠ ax) (hax : (∃ o, h₀.get? ax = some o) ∨ ∃ o, ∀ i m nx, J i m nx → (ax, o) ∈ nx)
    (hnI : ∀ p ∈ news, p.1 ≠ I) (hst : St 0 hp) (F : Fr h₀ env.locals hp m₀) (N : News h₀ env.locals hp news) (hj : J 0 m₀ news)
    (turn : ∀ i v m₁ news₁ h tk own, i < n → P i v → OwnOff own (news₁.map (·.1)) → J i m₁ news₁ → Fr h₀ env.locals h m₁ → News h₀ env.locals h (news₁ ++ own) →
      wpAny (model prog w) A (assign target env v) (fun _ s₃ => wpAny (model prog w) A (execs body env) (InvPostG h₀ env.locals (J (i + 1)) own { s with heap := h, toks := tk } Q) E s₃) E { s with heap := h, toks := tk })
    (done : ∀ m₁ news₁ h tk, J n m₁ news₁ → Fr h₀ env.locals h m₁ → News h₀ env.locals h news₁ → Q .next { s with heap := h, toks := tk }) :
    TurnsAt prog w A h₀ env target body Q E (.ref I) { s with heap := hp, toks := tk0 } := by
  refine ⟨I, _, _, n, _, _, St, m₀, news, J, rfl, KTurns.ofWalks W hgo, ?_, ?_, ?_, hst, F, N, hj, ?_, ?_⟩
  · intro hm
    rcases List.mem_cons.mp hm with e | hm
    · exact hIL e
    · exact haL (List.mem_singleton.mp hm)
  · intro b hb
    rw [List.mem_singleton.mp hb]
    exact hI
  · intro p hp hb
    exact hnI p hp (List.mem_singleton.mp hb)
  · intro i v m₁ news₁ h₁ tk₁ own hin hP hJ hoff hown hget hfp hst F₁ N₁
    obtain ⟨oI, hoI⟩ := hIe _ _ hst
    have hIown : (I, oI) ∈ own.filter fun p => decide (p.1 = I) := List.mem_filter.mpr ⟨hfp _ (List.mem_cons.mpr (.inl rfl)) hI _ hoI, by simp⟩
    have hsep : OwnOff (own.filter fun p => decide (p.1 = I)) (news₁.map (·.1)) := by
      intro p hp b hb e
      obtain ⟨q, hq, rfl⟩ := List.mem_map.mp hb
      have h1 : p.1 = I := by simpa using (List.mem_filter.mp hp).2
      exact hoff q hq (List.mem_singleton.mpr (e ▸ h1))
    have N₂ : News h₀ env.locals h₁ (news₁ ++ own.filter fun p => decide (p.1 = I)) := fun p hp => N₁ p ((List.mem_append.mp hp).elim (fun h => List.mem_append.mpr (.inr h)) fun h => List.mem_append.mpr (.inl ((List.mem_filter.mp h).1)))
    have fin : ∀ s₄, InvEndG h₀ env.locals (J (i + 1)) (own.filter fun p => decide (p.1 = I)) { s with heap := h₁, toks := tk₁ } s₄ →
        LoopStepU h₀ env.locals [I] own (J (i + 1)) { s with heap := h₁, toks := tk₁ } .next s₄ := by
      rintro s₄ ⟨h', tk, m', news', nx, e, F', N', hn, ho, ha, hm⟩
      refine ⟨rfl, h', tk, m', nx, e, F', fun p hp => ?_, fun p hp hq => ?_, hm⟩
      · rcases List.mem_append.mp hp with h | h
        · by_cases hpI : p.1 = I
          · exact N' p (ho p (List.mem_filter.mpr ⟨h, by simpa using hpI⟩))
          · have h1 : p.1 = ax := by
              rcases List.mem_cons.mp (hown p h) with h2 | h2
              · exact absurd h2 hpI
              · exact List.mem_singleton.mp h2
            rcases hax with ⟨o, ho'⟩ | ⟨o, ho'⟩
            · have h4 : h₀.get? p.1 = none := (N₁ _ (List.mem_append_left _ h)).2.2
              rw [h1, ho'] at h4
              exact nomatch h4
            · have h2 : h₁.get? p.1 = some p.2 := hget p h
              have h3 : h₁.get? ax = some o := (N₁ _ (List.mem_append_right _ (ho' _ _ _ hJ))).1
              rw [h1, h3] at h2
              have h5 : p = (ax, o) := Prod.ext h1 (Option.some.inj h2).symm
              rw [h5]
              exact N' _ (hn _ (ho' _ _ _ hm))
        · exact N' p (hn p h)
      · exact ha _ hIown p.1 (List.mem_map.mpr ⟨p, hp, rfl⟩) (List.mem_singleton.mp hq).symm
    refine wpAny_mono (turn i v m₁ news₁ h₁ tk₁ _ hin hP hsep hJ F₁ N₂) (fun _ s₃ h₃ => wpAny_mono h₃ (fun f s₄ p => ?_) fun _ _ e => e) fun _ _ e => e
    cases f with
    | ret v => exact .ret p
    | brk => exact .brk p
    | next => exact .next (fin _ p)
    | cont => exact .cont (fin _ p)
  · rintro h' tk m' news' F' N' _ hJ
    exact done m' news' h' tk hJ F' N'

theorem loop_list {l : Addr} {vs : List Value} {nn : Nat} {m₀ : Str → Option Value} {news : List (Addr × Obj)} (J : Nat → (Str → Option Value) → List (Addr × Obj) → Prop)
    (hh : A.handled = none) (hJl : ∀ i m nx, J i m nx → (l, listOf vs.toArray nn) ∈ nx) (F : Fr h₀ env.locals s.heap m₀) (N : News h₀ env.locals s.heap news) (hj : J 0 m₀ news)
    (turn : ∀ i v m₁ news₁ h tk own, vs[i]? = some v → OwnOff own (news₁.map (·.1)) → J i m₁ news₁ → Fr h₀ env.locals h m₁ → News h₀ env.locals h (news₁ ++ own) →
      wpAny (model prog w) A (assign target env v) (fun _ s₃ => wpAny (model prog w) A (execs body env) (InvPostG h₀ env.locals (J (i + 1)) own { s with heap := h, toks := tk } Q) E s₃) E { s with heap := h, toks := tk })
    (done : ∀ m₁ news₁ h tk, J vs.length m₁ news₁ → Fr h₀ env.locals h m₁ → News h₀ env.locals h news₁ → Q .next { s with heap := h, toks := tk }) :
    wpAny (model prog w) A (pyIter (.ref l)) (fun it s₂ => TurnsAt prog w A h₀ env target body Q E it s₂) E s := by
  have hN := N _ (hJl _ _ _ hj)
  have hls : s.heap.IsList l vs.toArray := ⟨_, hN.1, rfl, nn, rfl⟩
  have hne : l ≠ s.heap.objs.size := Nat.ne_of_lt (Heap.lt_size hN.1)
  refine wpAny_pyIter_list hls ?_
  refine loopT (tk0 := s.toks) (Walks.list (prog := prog) (w := w) hh s.heap.objs.size l hne vs.toArray) (fun i v s Q E st q => letGo_listiter st.1 q) J (fun i h st => ?_) (next_is_new F) (fun e => absurd F.ns.lt (e ▸ Nat.lt_irrefl _)) (fun e => hN.2.1 e.symm) (.inr ⟨_, hJl⟩)
    (fun p hp e => absurd (Heap.lt_size (N p hp).1) (e ▸ Nat.lt_irrefl _)) ⟨⟨_, Heap.get?_push_size _ rfl, rfl, rfl⟩, hls.at fun o e => Heap.get?_push_of_some _ e⟩ (F.push _) (fun p hp => ⟨Heap.get?_push_of_some _ (N p hp).1, (N p hp).2⟩) hj ?_ ?_
  · obtain ⟨it, hit, _⟩ := st.1
    exact ⟨it, hit⟩
  · intro i v m₁ news₁ h tk own hi hP
    exact turn i v m₁ news₁ h tk own (by simpa using hP)
  · intro m₁ news₁ h tk hJ
    exact done m₁ news₁ h tk (by simpa using hJ)

theorem loop_dict {K : Type} [DecidableEq K] {knd : KeyKind prog w K} {d : Addr} {kvs : List (K × Value)} {m₀ : Str → Option Value} {news : List (Addr × Obj)} (J : Nat → (Str → Option Value) → List (Addr × Obj) → Prop)
    (hh : A.handled = none) (lo : (d == sysModules) = false) (hd : s.heap.DictOf knd d kvs) (hdL : env.locals ≠ d) (hJd : (∃ o, h₀.get? d = some o) ∨ ∃ o, ∀ i m nx, J i m nx → (d, o) ∈ nx) (F : Fr h₀ env.locals s.heap m₀) (N : News h₀ env.locals s.heap news) (hj : J 0 m₀ news)
    (turn : ∀ i v m₁ news₁ h tk own, (∃ k x, kvs[i]? = some (k, x) ∧ knd.is k v = true) → OwnOff own (news₁.map (·.1)) → J i m₁ news₁ → Fr h₀ env.locals h m₁ → News h₀ env.locals h (news₁ ++ own) →
      wpAny (model prog w) A (assign target env v) (fun _ s₃ => wpAny (model prog w) A (execs body env) (InvPostG h₀ env.locals (J (i + 1)) own { s with heap := h, toks := tk } Q) E s₃) E { s with heap := h, toks := tk })
    (done : ∀ m₁ news₁ h tk, J kvs.length m₁ news₁ → Fr h₀ env.locals h m₁ → News h₀ env.locals h news₁ → Q .next { s with heap := h, toks := tk }) :
    wpAny (model prog w) A (pyIter (.ref d)) (fun it s₂ => TurnsAt prog w A h₀ env target body Q E it s₂) E s := by
  obtain ⟨ep, hat⟩ := hd.dictAt
  have hne : d ≠ s.heap.objs.size := Nat.ne_of_lt hat.lt_size
  refine wpAny_pyIter_dict lo hat ?_
  refine loopT (tk0 := s.toks) (Walks.dictKeys (knd := knd) hh s.heap.objs.size d hne kvs ep) (fun i v s Q E st q => letGo_keyiter st.1 q) J (fun i h st => ?_) (next_is_new F) (fun e => absurd F.ns.lt (e ▸ Nat.lt_irrefl _)) hdL hJd
    (fun p hp e => absurd (Heap.lt_size (N p hp).1) (e ▸ Nat.lt_irrefl _)) ⟨⟨_, Heap.get?_push_size _ rfl, rfl, rfl⟩, hat.push _⟩ (F.push _) (fun p hp => ⟨Heap.get?_push_of_some _ (N p hp).1, (N p hp).2⟩) hj ?_ ?_
  · obtain ⟨oi, g, _⟩ := st.1
    exact ⟨_, g⟩
  · intro i v m₁ news₁ h tk own hi hP
    exact turn i v m₁ news₁ h tk own hP
  · exact done
end
end Mine
end
section
open PySem PySem.W PyProof.Rows
set_option maxRecDepth 100000
set_option maxHeartbeats 20000000
namespace Mine
local macro_rules | `(tactic| walk_at $s:str) => `(tactic| k_extra $s)
theorem hooks28 : True := by
  k_with_none
  trivial
theorem news_cons {h₀ h : Heap} {L : Addr} {news : List (Addr × Obj)} {q : Addr × Obj} (N : News h₀ L h news) (hq : q ∈ news) : News h₀ L h (q :: news) := fun p hp => by
  rcases List.mem_cons.mp hp with rfl | hp
  · exact N _ hq
  · exact N _ hp
theorem Spec.useT1 {w : World} {f : Addr} {vs : List Value} {news : List (Addr × Obj)} {q : Addr × Obj} {d u : Nat} {val : Tok → Value} (S : Spec w f vs (q :: news) d u (fun v new => (∃ t, v = val t) ∧ new = []))
    {p : Program} {loose : List Str} {mean : ExcName → Option Value} {mg mb : Str → Option Value}
    {dp un : Nat} {gd : Option (List Code)} {cn : Str} {cs : Scope} {a : Addr} {ccd : Value} {cl : List (Str × Addr)} {outer : List Env} {A₀ : Around} {base h₀ : Heap} {L : Addr} {m : Str → Option Value} {s : Shared} {Q E : Value → Shared → Prop}
    (B : Below A₀ base outer h₀) (F : Fr h₀ L s.heap m) (X : (K w.params).In h₀) (N : News h₀ L s.heap news) (hq : q ∈ news) (T : Top p loose mean mg mb h₀) (hk : cs.kind = .function) (hd : dp + d < recursionLimit) (hu : un + u < cLine)
    (h : ∀ (t : Tok) (h' : Heap) (tk' : Nat), Fr h₀ L h' m → News h₀ L h' news → Q (val t) { s with heap := h', toks := tk' }) :
    wpAny (model PySem.Challenge.rw_pg0280_01.prog w) (ktrTop dp un gd cn cs L a ccd cl outer) (call (.ref f) vs) Q E s :=
  S.useT B F X (news_cons N hq) T hk hd hu fun t h' tk' F' N' => h t h' tk' F' (fun p hp => N' p (.tail _ hp))
theorem fr_stored {h₀ h : Heap} {L : Addr} {m m₀ : Str → Option Value} {stored : List Str} (hm : ∀ z, stored.contains z = false → m z = m₀ z) (F : Fr h₀ L h m) : Fr h₀ L h (fun z => if stored.contains z then m z else m₀ z) := by
  have e : m = fun z => if stored.contains z then m z else m₀ z := by
    funext z
    cases hz : stored.contains z with
    | true => rfl
    | false => rw [hm z hz]; rfl
  rw [← e]
  exact F
/-! ## _law_totals -/
def rd (x : Str) : Str := ⟨(readL x.cps.toList).toArray⟩
def totS (c : List (Str × Int)) (p : Str × Int) : List (Str × Int) := kdpPut c (rd p.1) (kdpLook c (rd p.1) 0 + p.2)
def totL (ws : List (Str × Int)) : List (Str × Int) := ws.foldl totS []
theorem totL_snoc {ws : List (Str × Int)} {i : Nat} {x : Str} {y : Int} (h : ws[i]? = some (x, y)) : totL (ws.take (i + 1)) = kdpPut (totL (ws.take i)) (rd x) (kdpLook (totL (ws.take i)) (rd x) 0 + y) := by
  have : ws.take (i + 1) = ws.take i ++ [(x, y)] := by rw [List.take_add_one, h]; rfl
  rw [this]
  unfold totL
  rw [List.foldl_append]
  rfl
def WaysAre (base : List (Addr × Obj)) (vs : List Value) (ws : List (Str × Int)) : Prop := vs.length = ws.length ∧ ∀ (i : Nat) (v : Value), vs[i]? = some v → ∃ (x : Str) (y : Int) (a : Addr) (t u : Tok), ws[i]? = some (x, y) ∧ v = Value.ref a ∧ (a, tup2 (.str x t) (.int y u)) ∈ base
def totJ (prog : Program) (w : World) (ws : List (Str × Int)) (T : Addr) (base : List (Addr × Obj)) (m₀ : Str → Option Value) (i : Nat) (m : Str → Option Value) (nx : List (Addr × Obj)) : Prop :=
  ∃ o' kvs', nx = (T, o') :: base ∧ o'.IsDictOf (strKind prog w) kvs' ∧ PyProof.V.FlatPairs PyData.str kvs' (kdpD (totL (ws.take i))) ∧ ∀ z, [Str.ofString "text", Str.ofString "worth", Str.ofString "row"].contains z = false → m z = m₀ z

theorem hook25 : True := by
  k_with "exec For Tuple Name cons nil" => ((k_here; (rename Fr _ _ _ _ => lFpqz); (with_unfolding_all refine' For_turns lFpqz ?_); k_whole))
  trivial
theorem hook26 : True := by
  k_with "call ref" => ((k_here; (with_reducible show wpAny _ _ (call (Value.ref 133) _) _ _ _); k_dflt (refine' Spec.useT1 (read_spec _ _ _ _ _ _ _ ?loq26 ?hxq26 ?hcq26 ?hoq26 ?hDq26) ?Bq26 ?Fq26 ?Xq26 ?Nq26 ?qq26 ?Tq26 ?Kq26 ?dq26 ?uq26 ?_; (case loq26 => assumption); (case Bq26 => k_asm); (case Fq26 => k_asm); (case Xq26 => k_asm); (case Nq26 => k_asm); (case qq26 => k_mem); (case Tq26 => k_asm); (case Kq26 => first | exact rfl | assumption); (case hxq26 => assumption); (case hcq26 => assumption); (case hoq26 => assumption); (case hDq26 => assumption); (case dq26 => ktr_room); (case uq26 => ktr_units)); (intro t9qz h9qz tk9qz F9qz N9qz)))
  trivial
theorem hook27 : True := by
  k_with "pyIter ref" => (k_extra "for1")
  trivial

theorem totJ.mem {prog : Program} {w : World} {ws : List (Str × Int)} {T l : Addr} {lo : Obj} {base : List (Addr × Obj)} {m₀ : Str → Option Value} : ∀ i m nx, totJ prog w ws T ((l, lo) :: base) m₀ i m nx → (l, lo) ∈ nx := by
  rintro i m nx ⟨o', kvs', rfl, _⟩
  exact .tail _ (.head _)
theorem totJ.start {prog : Program} {w : World} {ws : List (Str × Int)} {T : Addr} {o' : Obj} {base : List (Addr × Obj)} {m : Str → Option Value} (hd : o'.IsDictOf (strKind prog w) []) : totJ prog w ws T base m 0 m ((T, o') :: base) :=
  ⟨o', [], rfl, hd, by show PyProof.V.FlatPairs PyData.str [] []; exact .nil, fun _ _ => rfl⟩
theorem upd_ok {T l d : Addr} {a b c : Obj} {news own : List (Addr × Obj)} (l9 : l < T ∧ d < T ∧ AllLt T news) (h : OwnOff own (((T, a) :: (l, b) :: (d, c) :: news).map (·.1))) : ∀ p ∈ ((l, b) :: (d, c) :: news) ++ own, p.1 ≠ T := by
  intro p hp
  rcases List.mem_append.mp hp with hp | hp
  · rcases List.mem_cons.mp hp with rfl | hp
    · exact Nat.ne_of_lt l9.1
    · rcases List.mem_cons.mp hp with rfl | hp
      · exact Nat.ne_of_lt l9.2.1
      · exact Nat.ne_of_lt (of_allLt l9.2.2 p hp)
  · exact h p hp T (.head _)
theorem totS_len (c : List (Str × Int)) (p : Str × Int) : (totS c p).length ≤ c.length + 1 := kdpPut_len _ _ _
theorem totF_len : ∀ (ws c : List (Str × Int)), (ws.foldl totS c).length ≤ c.length + ws.length
  | [], c => Nat.le_refl _
  | p :: r, c => Nat.le_trans (totF_len r (totS c p)) (by have := totS_len c p; simp only [List.length_cons]; omega)
theorem totL_len (ws : List (Str × Int)) (i : Nat) (h : ws.length ≤ 100) : (totL (ws.take i)).length ≤ 16777216 := by
  have h1 := totF_len (ws.take i) []
  have h2 : (ws.take i).length ≤ ws.length := by rw [List.length_take]; omega
  unfold totL
  simp only [List.length_nil] at h1
  omega
theorem hook28 : True := by
  k_with "setItem ref str" => ((k_here; (with_reducible show wpAny _ _ (setItem (Value.ref _) (Value.str _ _) (Value.int _ _)) _ _ _); (refine' kdp_setItem ?Fq28 ?Nq28 (UpdF.head ?Uq28) ?dq28 ?fq28 ?zq28 ?_; (case Fq28 => k_asm); (case Nq28 => k_asm); (case Uq28 => assumption); (case dq28 => assumption); (case fq28 => assumption); (case zq28 => assumption)); intro hpqz opqz kvspqz Fpqz Npqz hdpqz hfpqz; (try dsimp only at Npqz)))
  trivial
theorem totJ.fin {prog : Program} {w : World} {ws : List (Str × Int)} {T L : Addr} {o₁ o' : Obj} {kvs' : List (Str × Value)} {base own : List (Addr × Obj)} {m₀ m' : Str → Option Value} {i : Nat} {x : Str} {y : Int} {h₀ h' : Heap} {s₁ : Shared} {tk : Nat}
    (kF : Fr h₀ L h' m') (kN : News h₀ L h' ((T, o') :: (base ++ own))) (kd : o'.IsDictOf (strKind prog w) kvs') (kf : PyProof.V.FlatPairs PyData.str kvs' (kdpD (kdpPut (totL (ws.take i)) (rd x) (kdpLook (totL (ws.take i)) (rd x) 0 + y))))
    (hxy : ws[i]? = some (x, y)) (hm : ∀ z, [Str.ofString "text", Str.ofString "worth", Str.ofString "row"].contains z = false → m' z = m₀ z) (hOff : OwnOff own (((T, o₁) :: base).map (·.1))) :
    InvEndG h₀ L (totJ prog w ws T base m₀ (i + 1)) own s₁ { s₁ with heap := h', toks := tk } :=
  InvEndG.intro (nx := (T, o') :: base) kF kN ⟨_, _, rfl, kd, by rw [totL_snoc hxy]; exact kf, hm⟩ hOff
    (fun p hp => (List.mem_cons.mp hp).elim (fun e => e ▸ .head _) fun h => .tail _ (List.mem_append_left _ h)) (fun p hp => .tail _ (List.mem_append_right _ hp))
theorem totals_spec (w : World) (l d : Addr) (vs : List Value) (ws : List (Str × Int)) (n : Nat) (o : Obj) (kvs : List (Str × Value)) (news : List (Addr × Obj)) (lo : (d == sysModules) = false)
    (hw : WaysAre news vs ws) (hn : ws.length ≤ 100) (hx : ∀ p ∈ ws, p.1.length ≤ 100) (hc : ∀ p ∈ ws, ∀ c ∈ p.1.cps.toList, c ≤ 70000)
    (ho : o.IsDictOf (strKind PySem.Challenge.rw_pg0280_01.prog w) kvs) (hD : PyProof.V.FlatPairs PyData.str kvs tabD) :
    Spec w 140 [.ref l, .ref d] ((l, PySem.W.listOf vs.toArray n) :: (d, o) :: news) 4 32 (fun v new => ∃ (T : Addr) (o' : Obj) (kvs' : List (Str × Value)), v = Value.ref T ∧ new = [(T, o')] ∧ o'.IsDictOf (strKind PySem.Challenge.rw_pg0280_01.prog w) kvs' ∧ PyProof.V.FlatPairs PyData.str kvs' (kdpD (totL ws))) := by
  unfold Spec
  k_fill
  intros
  rename_i hret
  refine wpAny_call ?_
  k_dflt cell_enter
  k_with "for1" => (
    rename News _ _ _ _ => lN9; rename Fr _ _ _ _ => lF9; rename _ ∧ _ ∧ AllLt _ _ => l9
    with_unfolding_all refine loop_list (totJ _ w ws _ _ _) rfl totJ.mem lF9 lN9 (totJ.start (by assumption)) ?_ ?_
    clear lN9 lF9
    intro i9 v9 m9 nx9 h9 tk9 own9 hv9 hOff hJ F9 N9
    obtain ⟨o9, kvs9, rfl, hd9, hf9, hm9⟩ := hJ
    obtain ⟨x9, y9, a9, t9, u9, hxy, rfl, hmem⟩ := hw.2 i9 v9 hv9
    replace F9 := fr_stored hm9 F9
    have hx9 : x9.length ≤ 100 := hx _ (List.mem_of_getElem? hxy)
    have hc9 : ∀ c ∈ x9.cps.toList, c ≤ 70000 := hc _ (List.mem_of_getElem? hxy)
    have hT9 : h9.IsTuple a9 #[.str x9 t9, .int y9 u9] := News.isTup (items := #[.str x9 t9, .int y9 u9]) N9 (List.mem_append_left _ (.tail _ (.tail _ (.tail _ hmem))))
    rw [List.cons_append] at N9
    have hU9 := upd_ok l9 hOff
    have hz9 := totL_len ws i9 hn
    rotate_left
    intro m9 nx9 h9 tk9 hJ F9 N9
    obtain ⟨o9, kvs9, rfl, hd9, hf9, hm9⟩ := hJ
    replace F9 := fr_stored hm9 F9
    rotate_left)
  k_steps
  · rename PyProof.V.FlatPairs _ _ _ => kf; rename Obj.IsDictOf _ _ _ => kd; rename Fr _ _ _ _ => kF; rename News _ _ _ _ => kN
    refine totJ.fin kF kN kd kf hxy ?_ hOff
    intro z hz
    have h1 : z ≠ Str.ofString "text" := by rintro rfl; revert hz; decide
    have h2 : z ≠ Str.ofString "worth" := by rintro rfl; revert hz; decide
    have h3 : z ≠ Str.ofString "row" := by rintro rfl; revert hz; decide
    simp only [h1, h2, h3, hz, if_false, Bool.false_eq_true]
  · refine hret _ [_] _ _ ⟨_, _, _, rfl, rfl, hd9, ?_⟩ (by assumption) (by assumption)
    rw [hw.1, List.take_length] at hf9
    exact hf9
end Mine
end
section
open PySem PySem.W PyProof.Rows
set_option maxRecDepth 100000
set_option maxHeartbeats 20000000
namespace Mine
local macro_rules | `(tactic| walk_at $s:str) => `(tactic| k_extra $s)
theorem hooks36 : True := by
  k_with_none
  trivial
/-! ## _law_table -/
def etP : List (Str × Int) := (tabL.drop 6).map fun e => (⟨e.1.toArray⟩, (e.2 : Int) - 201)
def TabS (P : Params) : List DictEntry → List (Str × Int) → Prop
  | [], [] => True
  | e :: es, p :: r => (∃ t t', e.key = .str p.1 t ∧ e.val = .int p.2 t' ∧ e.hash = PyData.keyHash P p.1) ∧ TabS P es r
  | _, _ => False
def valsS : List DictEntry → List (Str × Int) → List (Str × Value)
  | e :: es, p :: r => (p.1, e.val) :: valsS es r
  | _, _ => []
theorem tabS_spec (prog : Program) (w : World) : ∀ {es : List DictEntry} {l : List (Str × Int)}, TabS w.params es l →
    (∀ e ∈ es, ∃ k, (strKind prog w).is k e.key = true ∧ e.hash = (strKind prog w).hash k) ∧ PySem.Pairs (strKind prog w) es (valsS es l) ∧ (valsS es l).map (·.1) = l.map (·.1) ∧ PyProof.V.FlatPairs PyData.str (valsS es l) (kdpD l)
  | [], [], _ => ⟨(fun _ h => nomatch h), PySem.Pairs.nil, rfl, PyProof.V.FlatPairs.nil⟩
  | _ :: _, [], e => e.elim
  | [], _ :: _, e => e.elim
  | ⟨h, k, v⟩ :: es, p :: r, e => by
    obtain ⟨⟨t, t', e1, e2, e3⟩, e⟩ := e
    dsimp only at e1 e2 e3
    subst e1 e2 e3
    obtain ⟨a, b, c, d⟩ := tabS_spec prog w e
    refine ⟨?_, ?_, ?_, ?_⟩
    · intro z hz
      rcases List.mem_cons.mp hz with rfl | hz
      · exact ⟨p.1, strKind_is prog w p.1 t, rfl⟩
      · exact a z hz
    · exact PySem.Pairs.cons (strKind_is prog w p.1 t) rfl b
    · simp [valsS, c]
    · exact PyProof.V.FlatPairs.cons (PyProof.V.Flat.int _ _) d
theorem tab79 (w : World) {h : Heap} (X : (K w.params).In h) : ∃ kvs, h.DictOf (strKind PySem.Challenge.rw_pg0280_01.prog w) 79 kvs ∧ PyProof.V.FlatPairs PyData.str kvs (kdpD etP) := by
  have q : ∃ es ep, h.get? 79 = some ⟨.type "dict", none, .dict es ep, #[]⟩ ∧ TabS w.params es.toList etP := by
    refine ⟨_, _, X 79 _ rfl, ?_⟩
    repeat (first | exact True.intro | refine And.intro ⟨_, _, rfl, rfl, rfl⟩ ?_)
  obtain ⟨es, ep, ho, hT⟩ := q
  obtain ⟨a, b, c, d⟩ := tabS_spec PySem.Challenge.rw_pg0280_01.prog w hT
  exact ⟨_, ⟨_, es, ep, ho, ⟨rfl, rfl, rfl⟩, rfl, (fun e he => a e (Array.mem_toList_iff.mpr he)), b, by rw [c]; decide +kernel⟩, d⟩
theorem etP_look : ∀ p ∈ etP, kdpHas etP p.1 = true ∧ kdpLook etP p.1 0 = p.2 := by decide +kernel
def lig (i : Nat) : List (Str × Int) := (List.range i).foldl (fun c j => kdpPut c (b3 (64256 + j)) (64413 + j)) []
theorem lig_succ (i : Nat) : lig (i + 1) = kdpPut (lig i) (b3 (64256 + i)) (64413 + i) := by
  unfold lig
  rw [List.range_succ, List.foldl_append]
  rfl
def tbl (i : Nat) : List (Str × Int) := (etP.take i).foldl (fun c p => kdpPut c p.1 (p.2 + 201)) (lig 7)
theorem tbl_succ {i : Nat} {p : Str × Int} (h : etP[i]? = some p) : tbl (i + 1) = kdpPut (tbl i) p.1 (p.2 + 201) := by
  unfold tbl
  have : etP.take (i + 1) = etP.take i ++ [p] := by rw [List.take_add_one, h]; rfl
  rw [this, List.foldl_append]
  rfl
theorem tbl_all : kdpD (tbl etP.length) = tabD := by
  have : tbl etP.length = tabL.map fun e => ((⟨e.1.toArray⟩ : Str), (e.2 : Int)) := by decide +kernel
  rw [this]
  unfold kdpD tabD
  rw [List.map_map]
  rfl
def ligJ (prog : Program) (w : World) (i : Nat) (kvs : List (Str × Value)) : Prop := kvs.length ≤ i ∧ PyProof.V.FlatPairs PyData.str kvs (kdpD (lig i))
def tblJ (prog : Program) (w : World) (T : Addr) (base : List (Addr × Obj)) (m₀ : Str → Option Value) (i : Nat) (m : Str → Option Value) (nx : List (Addr × Obj)) : Prop :=
  ∃ o' kvs', nx = (T, o') :: base ∧ o'.IsDictOf (strKind prog w) kvs' ∧ PyProof.V.FlatPairs PyData.str kvs' (kdpD (tbl i)) ∧ ∀ z, [Str.ofString "piece"].contains z = false → m z = m₀ z
theorem hook29 : True := by
  k_with "call ref" => ((k_here; (with_reducible show wpAny _ _ (call (Value.ref 78) _) _ _ _); k_dflt (refine' Spec.useT (b3_spec _ _ _ _) ?Bq29 ?Fq29 ?Xq29 ?Nq29 ?Tq29 ?Kq29 ?dq29 ?uq29 ?_; (case Bq29 => k_asm); (case Fq29 => k_asm); (case Xq29 => k_asm); (case Nq29 => k_asm); (case Tq29 => k_asm); (case Kq29 => first | exact rfl | assumption); (case dq29 => ktr_room); (case uq29 => ktr_units)); (intro t9qz h9qz tk9qz F9qz N9qz)))
  trivial
theorem hook30 : True := by
  k_with "call builtin:chr" => ((refine chr_of_range (by omega) (by omega) ?_))
  trivial
theorem hook31 : True := by
  k_with "exec Assign cons DictComp" => ((k_here; k_dflt (refine Assign_DictComp_U (strKind _ _) (F₀ := by k_asm) (by rfl) (by with_unfolding_all rfl) (by rfl) (by decide) (by rfl) (by decide) (by rfl) (by rfl) (by rfl) ?_)))
  trivial
theorem hook32 : True := by
  k_with "DSrc" => (k_extra "dsrc")
  trivial
theorem hook33 : True := by
  k_with "exec For Name Name cons nil" => ((k_here; (rename Fr _ _ _ _ => lFpqz); (with_unfolding_all refine' For_turns lFpqz ?_); k_whole))
  trivial
theorem hook34 : True := by
  k_with "pyIter ref" => (k_extra "for1")
  trivial
theorem tbl_zero : tbl 0 = lig 7 := by unfold tbl; rw [List.take_zero, List.foldl_nil]
theorem tblJ.start {prog : Program} {w : World} {T : Addr} {o : Obj} {kvs : List (Str × Value)} {base : List (Addr × Obj)} {m : Str → Option Value} (hd : o.IsDictOf (strKind prog w) kvs) (hf : PyProof.V.FlatPairs PyData.str kvs (kdpD (lig 7))) : tblJ prog w T base m 0 m ((T, o) :: base) :=
  ⟨o, kvs, rfl, hd, by rw [tbl_zero]; exact hf, fun _ _ => rfl⟩
theorem fr_ne {h₀ h : Heap} {L a : Addr} {m : Str → Option Value} {o : Obj} (F : Fr h₀ L h m) (e : h₀.get? a = some o) : L ≠ a := fun q => absurd (Heap.lt_size e) (Nat.not_lt.mpr (q ▸ F.above))
theorem tab79T (w : World) {h : Heap} (X : (K w.params).In h) : StrTab PySem.Challenge.rw_pg0280_01.prog w h 79 (kdpD etP) := by
  obtain ⟨kvs, hd, hf⟩ := tab79 w X
  exact ⟨rfl, kvs, hd, hf⟩
theorem et_at {kvs : List (Str × Value)} {i : Nat} {k : Str} {x : Value} (hf : PyProof.V.FlatPairs PyData.str kvs (kdpD etP)) (h : kvs[i]? = some (k, x)) : ∃ n, etP[i]? = some (k, n) := by
  obtain ⟨dv, hD, _⟩ := hf.at h
  unfold kdpD at hD
  rw [List.getElem?_map] at hD
  cases e : etP[i]? with
  | none => rw [e] at hD; cases hD
  | some p => rw [e] at hD; injection hD with hD; injection hD with h1 h2; injection h1 with h1; subst h1; exact ⟨p.2, rfl⟩
theorem et_at2 {i : Nat} {k : Str} (h : ∃ n, etP[i]? = some (k, n)) : kdpHas etP k = true ∧ tbl (i + 1) = kdpPut (tbl i) k (kdpLook etP k 0 + 201) := by
  obtain ⟨n, h⟩ := h
  obtain ⟨a, b⟩ := etP_look _ (List.mem_of_getElem? h)
  refine ⟨a, ?_⟩
  rw [tbl_succ h]
  dsimp only at b ⊢
  rw [b]
theorem fold_len {α : Type} (f : List (Str × Int) → α → List (Str × Int)) (hf : ∀ c a, (f c a).length ≤ c.length + 1) : ∀ (l : List α) (c : List (Str × Int)), (l.foldl f c).length ≤ c.length + l.length
  | [], c => Nat.le_refl _
  | a :: r, c => Nat.le_trans (fold_len f hf r (f c a)) (by have := hf c a; simp only [List.length_cons]; omega)
theorem lig_len (i : Nat) : (lig i).length ≤ i := by
  have := fold_len (fun (c : List (Str × Int)) (j : Nat) => kdpPut c (b3 (64256 + j)) (64413 + j)) (fun c a => kdpPut_len _ _ _) (List.range i) []
  rw [List.length_range, List.length_nil, Nat.zero_add] at this
  exact this
theorem tbl_len (i : Nat) : (tbl i).length ≤ 16777216 := by
  have h1 := fold_len (fun (c : List (Str × Int)) (p : Str × Int) => kdpPut c p.1 (p.2 + 201)) (fun c a => kdpPut_len _ _ _) (etP.take i) (lig 7)
  have h2 := lig_len 7
  have h3 : (etP.take i).length ≤ 48 := by rw [List.length_take]; have : etP.length = 48 := by decide +kernel
                                           omega
  exact Nat.le_trans h1 (by omega)
theorem off1_mem {D : Addr} : ∀ (l : List (Addr × Obj)), LCg.Off1 D l → ∀ p ∈ l, p.1 ≠ D
  | [], _, _, hp => absurd hp (List.not_mem_nil)
  | q :: r, h, p, hp => (List.mem_cons.mp hp).elim (fun e => e ▸ h.1) (fun hp => off1_mem r h.2 p hp)
theorem upd_ok1 {T : Addr} {a : Obj} {news own : List (Addr × Obj)} (l9 : LCg.Off1 T news) (h : OwnOff own (((T, a) :: news).map (·.1))) : ∀ p ∈ news ++ own, p.1 ≠ T := by
  intro p hp
  rcases List.mem_append.mp hp with hp | hp
  · exact off1_mem _ l9 p hp
  · exact h p hp T (.head _)
theorem hook35 : True := by
  k_with "setItem ref str" => ((k_here; (with_reducible show wpAny _ _ (setItem (Value.ref _) (Value.str _ _) (Value.int _ _)) _ _ _); (refine' kdp_setItem ?Fq35 ?Nq35 (UpdF.head ?Uq35) ?dq35 ?fq35 ?zq35 ?_; (case Fq35 => k_asm); (case Nq35 => k_asm); (case Uq35 => assumption); (case dq35 => assumption); (case fq35 => assumption); (case zq35 => assumption)); intro hpqz opqz kvspqz Fpqz Npqz hdpqz hfpqz; (try dsimp only at Npqz)))
  trivial
theorem hook36 : True := by
  k_with "subscriptTail" => ((k_here; (with_reducible show wpAny _ _ (subscriptTail _ _ (Value.ref 79) (Value.str _ _)) _ _ _); (refine kdp_item (tab79T _ (Frag.In.keeps (by k_asm) (Fr.keep (by k_asm)))) (by assumption) ?_); intro t9qz))
  trivial
theorem lig_step {prog : Program} {w : World} {i : Nat} {kvs : List (Str × Value)} {t : Tok} (h : ligJ prog w i kvs) : ligJ prog w (i + 1) (stored kvs (b3 (64256 + (i : Int)).toNat) (.int (64256 + (i : Int) + 157) t)) := by
  have e1 : (64256 + (i : Int)).toNat = 64256 + i := by omega
  have e2 : (64256 + (i : Int) + 157) = 64413 + (i : Int) := by omega
  rw [e1, e2]
  refine ⟨Nat.le_trans (stored_length_le _ _ _) (Nat.succ_le_succ h.1), ?_⟩
  rw [lig_succ, ← kdpD_put]
  exact PyProof.V.FlatPairs.stored PyProof.V.same_str h.2 _ (PyProof.V.Flat.int _ _)
theorem tblJ.fin {prog : Program} {w : World} {T L : Addr} {o₁ o' : Obj} {kvs' : List (Str × Value)} {base own : List (Addr × Obj)} {m₀ m' : Str → Option Value} {i : Nat} {k : Str} {h₀ h' : Heap} {s₁ : Shared} {tk : Nat}
    (kF : Fr h₀ L h' m') (kN : News h₀ L h' ((T, o') :: (base ++ own))) (kd : o'.IsDictOf (strKind prog w) kvs') (kf : PyProof.V.FlatPairs PyData.str kvs' (kdpD (kdpPut (tbl i) k (kdpLook etP k 0 + 201))))
    (hp : ∃ n, etP[i]? = some (k, n)) (hm : ∀ z, [Str.ofString "piece"].contains z = false → m' z = m₀ z) (hOff : OwnOff own (((T, o₁) :: base).map (·.1))) :
    InvEndG h₀ L (tblJ prog w T base m₀ (i + 1)) own s₁ { s₁ with heap := h', toks := tk } :=
  InvEndG.intro (nx := (T, o') :: base) kF kN ⟨_, _, rfl, kd, by rw [(et_at2 hp).2]; exact kf, hm⟩ hOff
    (fun p hp => (List.mem_cons.mp hp).elim (fun e => e ▸ .head _) fun h => .tail _ (List.mem_append_left _ h)) (fun p hp => .tail _ (List.mem_append_right _ hp))
theorem fresh_mod {w : World} {h₀ h : Heap} {L D : Addr} {o : Obj} {news : List (Addr × Obj)} (X : (K w.params).In h₀) (N : News h₀ L h ((D, o) :: news)) : (D == sysModules) = false := by
  have e := (N _ (.head _)).2.2
  cases q : (D == sysModules) with
  | false => rfl
  | true =>
    have q' : D = sysModules := by simpa using q
    subst q'
    rw [X sysModules _ rfl] at e
    cases e
theorem table_spec (w : World) (news : List (Addr × Obj)) :
    Spec w 126 [] news 4 32 (fun v new => ∃ (T : Addr) (o' : Obj) (kvs' : List (Str × Value)), v = Value.ref T ∧ new = [(T, o')] ∧ (T == sysModules) = false ∧ o'.IsDictOf (strKind PySem.Challenge.rw_pg0280_01.prog w) kvs' ∧ PyProof.V.FlatPairs PyData.str kvs' tabD) := by
  unfold Spec
  k_fill
  intros
  rename_i hret
  refine wpAny_call ?_
  k_dflt cell_enter
  k_with "dsrc" => (
    rename News _ _ _ _ => lN9; rename Fr _ _ _ _ => lF9; rename IsRange _ _ _ _ _ _ _ _ => lR9
    with_unfolding_all refine DSrc.intro (ligJ PySem.Challenge.rw_pg0280_01.prog w) 7 rfl lF9 lN9 lR9 (by decide) (by decide) (Nat.le_of_ble_eq_true rfl) ⟨Nat.le_refl 0, .nil⟩ (fun _ _ h => h.1) ?_ ?_
    clear lN9 lF9
    intro i9 v9 I9 oI9 C9 oC9 D9 oD9 m9 h9 tk9 kvs9 E9 hi9 hv9 hJ9 hd9 hC9 hx9 F9 N9 off9 ne9
    obtain ⟨t9, rfl⟩ := hv9
    rotate_left
    intro D9 h9 tk9 oD9 kvs9 o1 F9 N9 hJ9 hd9
    obtain ⟨hl9, hf9⟩ := hJ9
    rotate_left)
  k_with "for1" => (
    rename News _ _ _ _ => lN9; rename Fr _ _ _ _ => lF9; rename Frag.In _ _ => X9
    obtain ⟨kvs79, hd79, hf79⟩ := tab79 w (Frag.In.keeps X9 lF9.keep)
    with_unfolding_all refine loop_dict (knd := strKind PySem.Challenge.rw_pg0280_01.prog w) (tblJ PySem.Challenge.rw_pg0280_01.prog w _ _ _) rfl rfl hd79 (fr_ne lF9 (X9 79 _ rfl)) (.inl ⟨_, X9 79 _ rfl⟩) lF9 lN9 (tblJ.start hd9 hf9) ?_ ?_
    clear lN9 lF9 hd9 hf9
    intro i9 v9 m9 nx9 h9 tk9 own9 hv9 hOff hJ F9 N9
    obtain ⟨o9, kvs9, rfl, hd9, hf9, hm9⟩ := hJ
    obtain ⟨k9, x9, hk9, hv9⟩ := hv9
    obtain ⟨t9, rfl⟩ := Value.isStrOf_shape hv9
    replace F9 := fr_stored hm9 F9
    rw [List.cons_append] at N9
    have hp9 := et_at hf79 hk9
    have hh9 := (et_at2 hp9).1
    have hU9 := upd_ok1 o1 hOff
    have hz9 := tbl_len i9
    rotate_left
    intro m9 nx9 h9 tk9 hJ F9 N9
    obtain ⟨o9, kvs9, rfl, hd9, hf9, hm9⟩ := hJ
    replace F9 := fr_stored hm9 F9
    rotate_left)
  k_steps
  · exact ⟨_, _, _, rfl, strKind_is _ _ _ _, lig_step hJ9, by assumption, by assumption⟩
  · rename PyProof.V.FlatPairs _ _ _ => kf; rename Obj.IsDictOf _ _ _ => kd; rename Fr _ _ _ _ => kF; rename News _ _ _ _ => kN
    refine tblJ.fin kF kN kd kf hp9 ?_ hOff
    intro z hz
    have h1 : z ≠ Str.ofString "piece" := by rintro rfl; revert hz; decide
    simp only [h1, hz, if_false, Bool.false_eq_true]
  · refine hret _ [_] _ _ ⟨_, _, _, rfl, rfl, fresh_mod (w := w) (by assumption) N9, hd9, ?_⟩ (by assumption) (by assumption)
    have e : kvs79.length = etP.length := by
      have := hf79.length
      rw [kdpD_length] at this
      exact this.symm
    rw [e, tbl_all] at hf9
    exact hf9
end Mine
end
section
open PySem PySem.W PyProof.Rows
set_option maxRecDepth 100000
set_option maxHeartbeats 20000000
namespace Mine
local macro_rules | `(tactic| walk_at $s:str) => `(tactic| k_extra $s)
theorem hooks42 : True := by
  k_with_none
  trivial
/-! ## a for loop over a range, any target, by an invariant -/
section
variable {prog : Program} {w : World} {A : Around} {E : Value → Shared → Prop} {s : Shared} {env : Env} {h₀ : Heap} {target : PySem.Expr} {body : List Stmt} {Q : Flow → Shared → Prop}
theorem loop_range {r : Addr} {a b : Int} {t u v : Tok} {n : Nat} {m₀ : Str → Option Value} {news : List (Addr × Obj)}
    (J : Nat → (Str → Option Value) → List (Addr × Obj) → Prop) (hh : A.handled = none) (hr : IsRange s.heap r a b 1 t u v) (hsm : Builtin.Range.small a b 1 = true) (hn : Builtin.Range.rangeSize a b 1 = ((n : Nat) : Int))
    (hgo : ∀ i v (s' : Shared) (Q : Unit → Shared → Prop) (E : Value → Shared → Prop), IsRangeIter s'.heap s.heap.objs.size (a + (i : Nat) * 1) ((n : Int) - (i : Nat)) 1 → Q () s' → wpAny (model prog w) A (letOwnedTupleGo target (.ref s.heap.objs.size) v) Q E s')
    (F : Fr h₀ env.locals s.heap m₀) (N : News h₀ env.locals s.heap news) (hj : J 0 m₀ news)
    (turn : ∀ i v m₁ news₁ h tk own, i < n → (∃ t, v = .int (a + (i : Int)) t) → OwnOff own (news₁.map (·.1)) → J i m₁ news₁ → Fr h₀ env.locals h m₁ → News h₀ env.locals h (news₁ ++ own) →
      wpAny (model prog w) A (assign target env v) (fun _ s₃ => wpAny (model prog w) A (execs body env) (InvPostG h₀ env.locals (J (i + 1)) own { s with heap := h, toks := tk } Q) E s₃) E { s with heap := h, toks := tk })
    (done : ∀ m₁ news₁ h tk, J n m₁ news₁ → Fr h₀ env.locals h m₁ → News h₀ env.locals h news₁ → Q .next { s with heap := h, toks := tk }) :
    wpAny (model prog w) A (pyIter (.ref r)) (fun it s₂ => TurnsAt prog w A h₀ env target body Q E it s₂) E s := by
  refine wpAny_pyIter_range hr hsm ?_
  have W := LCg.range_walks (prog := prog) (w := w) (I := s.heap.objs.size) hh a n
  generalize hI : s.heap.objs.size = I at W hgo ⊢
  have hI0 : h₀.get? I = none := hI ▸ next_is_new F
  refine ⟨I, _, _, n, _, _, _, m₀, news, J, rfl, KTurns.ofWalks W (fun i v s' Q E st q => hgo i v s' Q E st q), ?_, ?_, ?_, ?_, F.keeps fun _ _ e => Heap.get?_push_of_some _ e, N.grown fun _ _ e => Heap.get?_push_of_some _ e, hj, ?_, ?_⟩
  · intro hm
    have := List.mem_singleton.mp hm
    exact absurd F.ns.lt (by rw [this, ← hI]; exact Nat.lt_irrefl _)
  · intro b hb
    rw [List.mem_singleton.mp hb]
    exact hI0
  · intro p hp hb
    have := List.mem_singleton.mp hb
    exact absurd (Heap.lt_size (N p hp).1) (by rw [this, ← hI]; exact Nat.lt_irrefl _)
  · show IsRangeIter _ _ _ _ _
    rw [hn, ← hI]
    simpa using Heap.get?_push_size _ rfl
  · intro i v m₁ news₁ h₁ tk₁ own hin hP hJ hoff hown hget hfp hst F₁ N₁
    have hoI : h₁.get? I = some _ := hst
    have hIown := hfp _ (List.mem_singleton.mpr rfl) hI0 _ hoI
    have hsep : OwnOff own (news₁.map (·.1)) := by
      intro p hp b hb e
      obtain ⟨q, hq, rfl⟩ := List.mem_map.mp hb
      have h1 : p.1 = I := List.mem_singleton.mp (hown p hp)
      exact hoff q hq (List.mem_singleton.mpr (e ▸ h1))
    have N₂ : News h₀ env.locals h₁ (news₁ ++ own) := fun p hp => N₁ p ((List.mem_append.mp hp).elim (fun h => List.mem_append.mpr (.inr h)) fun h => List.mem_append.mpr (.inl h))
    have fin : ∀ s₄, InvEndG h₀ env.locals (J (i + 1)) own { s with heap := h₁, toks := tk₁ } s₄ →
        LoopStepU h₀ env.locals [I] own (J (i + 1)) { s with heap := h₁, toks := tk₁ } .next s₄ := by
      rintro s₄ ⟨h', tk, m', news', nx, e, F', N', hn, ho, ha, hm⟩
      refine ⟨rfl, h', tk, m', nx, e, F', fun p hp => ?_, fun p hp hq => ?_, hm⟩
      · rcases List.mem_append.mp hp with h | h
        · exact N' p (ho p h)
        · exact N' p (hn p h)
      · exact ha _ hIown p.1 (List.mem_map.mpr ⟨p, hp, rfl⟩) (List.mem_singleton.mp hq).symm
    refine wpAny_mono (turn i v m₁ news₁ h₁ tk₁ _ hin hP hsep hJ F₁ N₂) (fun _ s₃ h₃ => wpAny_mono h₃ (fun f s₄ p => ?_) fun _ _ e => e) fun _ _ e => e
    cases f with
    | ret v => exact .ret p
    | brk => exact .brk p
    | next => exact .next (fin _ p)
    | cont => exact .cont (fin _ p)
  · rintro h' tk m' news' F' N' _ hJ
    exact done m' news' h' tk hJ F' N'
end
/-! ## _law_ways -/
def ItemsAre (base : List (Addr × Obj)) (vs : List Value) (cs : List (Nat × Str)) : Prop := vs.length = cs.length ∧ ∀ (i : Nat) (v : Value), vs[i]? = some v → ∃ (c : Nat) (p : Str) (a : Addr) (t u : Tok), cs[i]? = some (c, p) ∧ v = Value.ref a ∧ (a, tup2 (.str ⟨#[c]⟩ t) (.str p u)) ∈ base
def cAt (cs : List (Nat × Str)) (i : Nat) : Nat := (cs.getD i (0, Str.empty)).1
theorem item_items {prog : Program} {w : World} {A : Around} {E : Value → Shared → Prop} {s : Shared} {h₀ : Heap} {L : Addr} {led base : List (Addr × Obj)} {l : Addr} {vs : List Value} {cs : List (Nat × Str)} {n : Nat} {k : Int} {u : Tok} {value slice : PySem.Expr} {Q : Value → Shared → Prop}
    (hi : ItemsAre base vs cs) (N : News h₀ L s.heap led) (hm : (l, listOf vs.toArray n) ∈ led) (hb : ∀ p ∈ base, p ∈ led) (h0 : 0 ≤ k) (hk : k < (cs.length : Int)) (hsz : cs.length ≤ 100)
    (h : ∀ a t u' p, s.heap.IsTuple a #[.str ⟨#[cAt cs k.toNat]⟩ t, .str p u'] → Q (.ref a) s)
    (hs : subscripted slice false (.ref l) (.int k u) = operate [.ref l, .int k u] (getItem (.ref l) (.int k u)) := by with_unfolding_all rfl) :
    wpAny (model prog w) A (subscriptTail value slice (.ref l) (.int k u)) Q E s := by
  have hl : s.heap.IsList l vs.toArray := News.isList N hm
  have hlt : k.toNat < vs.length := by rw [hi.1]; omega
  obtain ⟨c, p, a, t, u', hc, hv, hmem⟩ := hi.2 k.toNat _ (List.getElem?_eq_getElem hlt)
  have e : cAt cs k.toNat = c := by unfold cAt; rw [List.getD_eq_getElem?_getD, hc]; rfl
  refine tail_any hl.typeIs slot_list_getitem.lookup (wpAny_getItem_list hl h0 (by omega) (x := .ref a) (by rw [← hv]; simp [hlt]) (h a t u' p ?_)) hs
  rw [e]
  exact News.isTup (items := #[.str ⟨#[c]⟩ t, .str p u']) N (hb _ hmem)
theorem len_items {prog : Program} {w : World} {A : Around} {E : Value → Shared → Prop} {s : Shared} {h₀ : Heap} {L : Addr} {led base : List (Addr × Obj)} {l : Addr} {vs : List Value} {cs : List (Nat × Str)} {n : Nat} {Q : Value → Shared → Prop}
    (hi : ItemsAre base vs cs) (N : News h₀ L s.heap led) (hm : (l, listOf vs.toArray n) ∈ led) (hsz : cs.length ≤ 100) (h : Q (.int (cs.length : Int) (s.toks + 1)) { s with toks := s.toks + 1 + 1 }) :
    wpAny (model prog w) A (call (.builtin "len") [.ref l]) Q E s := by
  have e : vs.toArray.size = cs.length := by rw [List.size_toArray, hi.1]
  refine PySem.Calls.call_len_list (News.isList N hm) (by rw [e]; omega) ?_
  rw [e]
  exact h
theorem hook37 : True := by
  k_with "call builtin:len" => ((k_here; (with_reducible show wpAny _ _ (call (Value.builtin _) [Value.ref _]) _ _ _); (refine len_items (by assumption) (by k_asm) (by k_mem) (by assumption) ?_)))
  trivial
theorem pair_fst {prog : Program} {w : World} {A : Around} {E : Value → Shared → Prop} {s : Shared} {a : Addr} {x y : Value} {u : Tok} {value slice : PySem.Expr} {Q : Value → Shared → Prop} (T : s.heap.IsTuple a #[x, y]) (h : Q x s)
    (hs : subscripted slice false (.ref a) (.int 0 u) = operate [.ref a, .int 0 u] (getItem (.ref a) (.int 0 u)) := by with_unfolding_all rfl) :
    wpAny (model prog w) A (subscriptTail value slice (.ref a) (.int 0 u)) Q E s :=
  item_tupleT T (by decide) (by decide) (j := 0) rfl rfl h hs
theorem hook38 : True := by
  k_with "exec For Name Call cons nil" => ((k_here; (rename Fr _ _ _ _ => lFpqz); (with_unfolding_all refine' For_turns lFpqz ?_); k_whole))
  trivial
theorem hook39 : True := by
  k_with "pyIter ref" => (k_extra "for1")
  trivial
theorem hook40 : True := by
  k_with "subscriptTail" => ((k_here; (with_reducible show wpAny _ _ (subscriptTail _ _ (Value.ref _) (Value.int _ _)) _ _ _); (refine item_items (by assumption) (by k_asm) (by k_mem) (by intro p9qz h9qz; repeat (first | exact h9qz | exact List.mem_append_left _ h9qz | exact List.mem_append_right _ h9qz | refine List.Mem.tail _ ?_)) (by omega) (by omega) (by assumption) ?_); intro a9qz t9qz u9qz p9qz hT9qz))
  trivial
theorem hook41 : True := by
  k_with "subscriptTail" => ((k_here; (with_reducible show wpAny _ _ (subscriptTail _ _ (Value.ref _) (Value.int 0 _)) _ _ _); (refine pair_fst (by assumption) ?_)))
  trivial
theorem hook42 : True := by
  k_with "call ref" => ((k_here; (with_reducible show wpAny _ _ (call (Value.ref 116) _) _ _ _); k_dflt (refine' Spec.useT (told_spec _ _ _ _) ?Bq42 ?Fq42 ?Xq42 ?Nq42 ?Tq42 ?Kq42 ?dq42 ?uq42 ?_; (case Bq42 => k_asm); (case Fq42 => k_asm); (case Xq42 => k_asm); (case Nq42 => k_asm); (case Tq42 => k_asm); (case Kq42 => first | exact rfl | assumption); (case dq42 => ktr_room); (case uq42 => ktr_units)); (intro t9qz h9qz tk9qz F9qz N9qz)))
  trivial
theorem Spec.useU {w : World} {f : Addr} {vs : List Value} {news : List (Addr × Obj)} {d u : Nat} (S : Spec w f vs news d u (fun v new => (∃ c t', v = .str ⟨#[c]⟩ t' ∧ inB1 c = true)))
    {p : Program} {loose : List Str} {mean : ExcName → Option Value} {mg mb : Str → Option Value}
    {dp un : Nat} {gd : Option (List Code)} {cn : Str} {cs : Scope} {a : Addr} {ccd : Value} {cl : List (Str × Addr)} {outer : List Env} {A₀ : Around} {base h₀ : Heap} {L : Addr} {m : Str → Option Value} {s : Shared} {Q E : Value → Shared → Prop}
    (B : Below A₀ base outer h₀) (F : Fr h₀ L s.heap m) (X : (K w.params).In h₀) (N : News h₀ L s.heap news) (T : Top p loose mean mg mb h₀) (hk : cs.kind = .function) (hd : dp + d < recursionLimit) (hu : un + u < cLine)
    (h : ∀ (c : Nat) (t : Tok) (h' : Heap) (tk' : Nat), told c = Str.ofString "\n" → Fr h₀ L h' m → News h₀ L h' news → Q (.str ⟨#[c]⟩ t) { s with heap := h', toks := tk' }) :
    wpAny (model PySem.Challenge.rw_pg0280_01.prog w) (ktrTop dp un gd cn cs L a ccd cl outer) (call (.ref f) vs) Q E s :=
  S.use B F X N T hk hd hu fun v new h' tk' P F' N' => by
    obtain ⟨c, t, rfl, hc⟩ := P
    exact h c t h' tk' (by unfold told; rw [if_pos hc]) F' (fun p hp => N' p (List.mem_append_right _ hp))
def wayStep (ws : List (Str × Int)) (mark sign : Str) (price : Int) : List (Str × Int) := ws.flatMap fun p => [(p.1 ++ Str.ofString "" ++ sign, p.2 * 1), (p.1 ++ mark ++ sign, p.2 * price)]
def wayL (xs : List Int) (cs : List (Nat × Str)) : Nat → List (Str × Int)
  | 0 => [(told (cAt cs 0), 1)]
  | k + 1 => wayStep (wayL xs cs k) (Str.ofString "\n") (told (cAt cs (k + 1))) (2 + (xs.getD k 0).fmod 11)
/-- the outer loop's invariant -/
def wayJ (xs : List Int) (cs : List (Nat × Str)) (L' : Addr) (b1 b2 : Addr × Obj) (news : List (Addr × Obj)) (m₀ : Str → Option Value) (i : Nat) (m : Str → Option Value) (nx : List (Addr × Obj)) : Prop :=
  ∃ (Wa : Addr) (vs : List Value) (n : Nat) (objs : List (Addr × Obj)) (o1 o2 o3 : Obj) (d1 d2 d3 : Option Value), nx = (Wa, listOf vs.toArray n) :: (L' + 1 + 1 + 1, o1) :: (L' + 1 + 1, o2) :: (L' + 1, o3) :: b1 :: b2 :: (objs ++ news) ∧
    o1.data = .cell d1 ∧ o2.data = .cell d2 ∧ o3.data = .cell d3 ∧ ((@Ne Nat Wa (L' + 1)) ∧ (@Ne Nat Wa (L' + 1 + 1)) ∧ (@Ne Nat Wa (L' + 1 + 1 + 1))) ∧ (∀ p ∈ objs, @LT.lt Nat _ (L' + 1 + 1 + 1) p.1) ∧ WaysAre objs vs (wayL xs cs i) ∧ m (Str.ofString "ways") = some (.ref Wa) ∧
    ∀ z, [Str.ofString "ways", Str.ofString "k"].contains z = false → m z = m₀ z
theorem cells3 {cm : Str → Option Value} {n1 n2 n3 : Str} {c1 c2 c3 : Addr} {cells : List (Addr × Obj)} (x : CellsAre cm [(n1, c1), (n2, c2), (n3, c3)] cells) :
    ∃ o1 o2 o3 d1 d2 d3, cells = [(c1, o1), (c2, o2), (c3, o3)] ∧ o1.data = .cell d1 ∧ o2.data = .cell d2 ∧ o3.data = .cell d3 := by
  obtain ⟨o1, o2, o3, e, h1, h2, h3⟩ := CellsAre.three x
  exact ⟨o1, o2, o3, _, _, _, e, h1, h2, h3⟩
theorem wayJ.start {xs : List Int} {cs : List (Nat × Str)} {L' : Addr} {b1 b2 : Addr × Obj} {news : List (Addr × Obj)} {m₀ : Str → Option Value} {Wa D : Addr} {n : Nat} {t u : Tok} {o1 o2 o3 : Obj} {d1 d2 d3 : Option Value}
    (h1 : o1.data = .cell d1) (h2 : o2.data = .cell d2) (h3 : o3.data = .cell d3) (hW : @LT.lt Nat _ (L' + 1 + 1 + 1) Wa) (hD : @LT.lt Nat _ (L' + 1 + 1 + 1) D) (hm : m₀ (Str.ofString "ways") = some (.ref Wa)) :
    wayJ xs cs L' b1 b2 news m₀ 0 m₀ ((Wa, listOf #[.ref D] n) :: (L' + 1 + 1 + 1, o1) :: (L' + 1 + 1, o2) :: (L' + 1, o3) :: b1 :: b2 :: ([(D, tup2 (.str (told (cAt cs 0)) t) (.int 1 u))] ++ news)) := by
  refine ⟨Wa, [.ref D], n, _, o1, o2, o3, d1, d2, d3, rfl, h1, h2, h3, ⟨by omega, by omega, by omega⟩, ?_, ⟨rfl, ?_⟩, hm, fun _ _ => rfl⟩
  · intro p hp
    rw [List.mem_singleton.mp hp]
    exact hD
  · intro i v hv
    match i, hv with
    | 0, hv => exact ⟨_, _, _, t, u, rfl, (Option.some.inj hv).symm, .head _⟩
theorem fr_ways {h₀ h : Heap} {L : Addr} {m m₀ : Str → Option Value} {v : Option Value} (hw : m (Str.ofString "ways") = v) (hm : ∀ z, [Str.ofString "ways", Str.ofString "k"].contains z = false → m z = m₀ z) (F : Fr h₀ L h m) :
    Fr h₀ L h (fun z => if z = Str.ofString "ways" then v else if z = Str.ofString "k" then m z else m₀ z) := by
  have e : m = fun z => if z = Str.ofString "ways" then v else if z = Str.ofString "k" then m z else m₀ z := by
    funext z
    by_cases h1 : z = Str.ofString "ways"
    · rw [if_pos h1, h1, hw]
    · rw [if_neg h1]
      by_cases h2 : z = Str.ofString "k"
      · rw [if_pos h2]
      · rw [if_neg h2]
        refine hm z ?_
        simp [List.contains_cons, h1, h2]
  rw [← e]
  exact F
theorem news_way {h₀ h : Heap} {L : Addr} {a d c3 c2 c1 b1 b2 : Addr × Obj} {news : List (Addr × Obj)} (N : News h₀ L h (a :: d :: c3 :: c2 :: c1 :: b1 :: b2 :: news)) : News h₀ L h (a :: c3 :: c2 :: c1 :: b1 :: b2 :: ([d] ++ news)) := fun p hp => N p (by
  simp only [List.mem_cons, List.mem_append, List.not_mem_nil, or_false] at hp ⊢
  rcases hp with h | h | h | h | h | h | h | h <;> simp [h])
theorem way_off {L' l e Wa : Addr} {a b c1 c2 c3 w : Obj} {objs news own : List (Addr × Obj)} (hl : @LT.lt Nat _ l L' ∧ @LT.lt Nat _ e L' ∧ AllLt L' news) (ho : ∀ p ∈ objs, @LT.lt Nat _ (L' + 1 + 1 + 1) p.1)
    (hOff : OwnOff own (((Wa, w) :: (L' + 1 + 1 + 1, c3) :: (L' + 1 + 1, c2) :: (L' + 1, c1) :: (l, a) :: (e, b) :: (objs ++ news)).map (·.1))) :
    (∀ p ∈ (l, a) :: (e, b) :: (objs ++ news ++ own), p.1 ≠ L' + 1) ∧ (∀ p ∈ (l, a) :: (e, b) :: (objs ++ news ++ own), p.1 ≠ L' + 1 + 1) ∧ ∀ p ∈ (l, a) :: (e, b) :: (objs ++ news ++ own), p.1 ≠ L' + 1 + 1 + 1 := by
  have q : ∀ p ∈ (l, a) :: (e, b) :: (objs ++ news ++ own), p.1 < L' ∨ L' + 1 + 1 + 1 < p.1 ∨ p ∈ own := by
    intro p hp
    simp only [List.mem_cons, List.mem_append] at hp
    rcases hp with rfl | rfl | (h | h) | h
    · exact .inl hl.1
    · exact .inl hl.2.1
    · exact .inr (.inl (ho p h))
    · exact .inl (of_allLt hl.2.2 p h)
    · exact .inr (.inr h)
  refine ⟨fun p hp => ?_, fun p hp => ?_, fun p hp => ?_⟩ <;> rcases q p hp with h | h | h
  · exact Nat.ne_of_lt (Nat.lt_succ_of_lt h)
  · exact Nat.ne_of_gt (Nat.lt_of_succ_lt (Nat.lt_of_succ_lt h))
  · exact hOff p h _ (by simp)
  · exact Nat.ne_of_lt (Nat.lt_succ_of_lt (Nat.lt_succ_of_lt h))
  · exact Nat.ne_of_gt (Nat.lt_of_succ_lt h)
  · exact hOff p h _ (by simp)
  · exact Nat.ne_of_lt (Nat.lt_succ_of_lt (Nat.lt_succ_of_lt (Nat.lt_succ_of_lt h)))
  · exact Nat.ne_of_gt h
  · exact hOff p h _ (by simp)
theorem WaysAre.snoc {base : List (Addr × Obj)} {vs : List Value} {ws : List (Str × Int)} (h : WaysAre base vs ws) {x : Str} {y : Int} {Y : Addr} {t u : Tok} : WaysAre ((Y, tup2 (.str x t) (.int y u)) :: base) (vs ++ [.ref Y]) (ws ++ [(x, y)]) := by
  refine ⟨by simp [h.1], fun i v hv => ?_⟩
  by_cases hi : i < vs.length
  · rw [List.getElem?_append_left hi] at hv
    obtain ⟨x', y', a, t', u', e, rfl, hm⟩ := h.2 i v hv
    exact ⟨x', y', a, t', u', by rw [List.getElem?_append_left (h.1 ▸ hi)]; exact e, rfl, .tail _ hm⟩
  · have hi' : i = vs.length := by
      have := (List.getElem?_eq_some_iff.mp hv).1
      simp at this
      omega
    subst hi'
    refine ⟨x, y, Y, t, u, by rw [h.1]; simp, ?_, .head _⟩
    simpa using hv.symm
theorem WaysAre.mono {base base' : List (Addr × Obj)} {vs : List Value} {ws : List (Str × Int)} (h : WaysAre base vs ws) (hb : ∀ p ∈ base, p ∈ base') : WaysAre base' vs ws :=
  ⟨h.1, fun i v hv => by obtain ⟨x, y, a, t, u, e, e', hm⟩ := h.2 i v hv; exact ⟨x, y, a, t, u, e, e', hb _ hm⟩⟩
/-- the comprehension's word: new objects above the ledger, and what they tell so far -/
def wJ (Led : List (Addr × Obj)) (ws : List (Str × Int)) (ys : List Value) (nw : List (Addr × Obj)) : Prop := ∃ nu, nw = nu ++ Led ∧ WaysAre nu ys ws ∧ ∀ p ∈ nu, AllLt p.1 Led
theorem wJ.start {Led : List (Addr × Obj)} : wJ Led [] [] Led := ⟨[], rfl, ⟨rfl, fun i v hv => by simp at hv⟩, fun _ h => nomatch h⟩
theorem wJ.grow {Led : List (Addr × Obj)} {ws : List (Str × Int)} {ys : List Value} {nw : List (Addr × Obj)} (h : wJ Led ws ys nw) {p : Addr × Obj} (hp : AllLt p.1 Led) : wJ Led ws ys (p :: nw) := by
  obtain ⟨nu, rfl, a, b⟩ := h
  refine ⟨p :: nu, rfl, a.mono fun _ h => .tail _ h, fun q hq => ?_⟩
  rcases List.mem_cons.mp hq with rfl | hq
  · exact hp
  · exact b q hq
theorem wJ.snoc {Led : List (Addr × Obj)} {ws : List (Str × Int)} {ys : List Value} {nw : List (Addr × Obj)} (h : wJ Led ws ys nw) {x : Str} {y : Int} {Y : Addr} {t u : Tok} (hp : AllLt Y Led) : wJ Led (ws ++ [(x, y)]) (ys ++ [.ref Y]) ((Y, tup2 (.str x t) (.int y u)) :: nw) := by
  obtain ⟨nu, rfl, a, b⟩ := h
  refine ⟨_ :: nu, rfl, a.snoc, fun q hq => ?_⟩
  rcases List.mem_cons.mp hq with rfl | hq
  · exact hp
  · exact b q hq
theorem allLt_right {d : Addr} : ∀ {l r : List (Addr × Obj)}, AllLt d (l ++ r) → AllLt d r
  | [], _, h => h
  | _ :: l, _, h => allLt_right (l := l) h.2
theorem off1_mem' {D : Addr} : ∀ (l : List (Addr × Obj)), LCg.Off1 D l → ∀ p ∈ l, p.1 ≠ D
  | [], _, _, hp => absurd hp (List.not_mem_nil)
  | q :: r, h, p, hp => (List.mem_cons.mp hp).elim (fun e => e ▸ h.1) (fun hp => off1_mem' r h.2 p hp)
theorem wJ.len {Led : List (Addr × Obj)} {ws : List (Str × Int)} {ys : List Value} {nw : List (Addr × Obj)} (h : wJ Led ws ys nw) : ys.length = ws.length := by
  obtain ⟨_, _, a, _⟩ := h
  exact a.1
theorem wayStep_take {ws : List (Str × Int)} {i : Nat} {x : Str} {y : Int} (h : ws[i]? = some (x, y)) (mark sign : Str) (price : Int) :
    wayStep (ws.take (i + 1)) mark sign price = wayStep (ws.take i) mark sign price ++ [(x ++ Str.ofString "" ++ sign, y * 1)] ++ [(x ++ mark ++ sign, y * price)] := by
  have : ws.take (i + 1) = ws.take i ++ [(x, y)] := by rw [List.take_add_one, h]; rfl
  rw [this]
  unfold wayStep
  rw [List.flatMap_append]
  simp
theorem wayStep_len (ws : List (Str × Int)) (mark sign : Str) (price : Int) : (wayStep ws mark sign price).length = 2 * ws.length := by
  unfold wayStep
  induction ws with
  | nil => rfl
  | cons a r ih => rw [List.flatMap_cons, List.length_append, ih]; simp only [List.length_cons, List.length_nil]; omega
theorem wayL_len (xs : List Int) (cs : List (Nat × Str)) : ∀ k, (wayL xs cs k).length = 2 ^ k
  | 0 => rfl
  | k + 1 => by rw [wayL, wayStep_len, wayL_len xs cs k, Nat.pow_succ, Nat.mul_comm]
theorem len_append (x y : Str) : (x ++ y).length = x.length + y.length := by
  rw [← len_toList, Str.cps_append]; simp [Str.length]
theorem wayL_short (xs : List Int) {cs : List (Nat × Str)} (hc : ∀ i, (told (cAt cs i)).length ≤ 3) : ∀ k, ∀ p ∈ wayL xs cs k, p.1.length ≤ 4 * (k + 1)
  | 0, p, hp => by
    rw [wayL, List.mem_singleton] at hp
    rw [hp]
    have := hc 0
    show (told (cAt cs 0)).length ≤ _
    omega
  | k + 1, p, hp => by
    rw [wayL] at hp
    unfold wayStep at hp
    obtain ⟨q, hq, hp⟩ := List.mem_flatMap.mp hp
    have h1 := wayL_short xs hc k q hq
    have h2 := hc (k + 1)
    have e0 : (Str.ofString "").length = 0 := by decide +kernel
    have e1 : (Str.ofString "\n").length = 1 := by decide +kernel
    simp only [List.mem_cons, List.not_mem_nil, or_false] at hp
    rcases hp with rfl | rfl <;> simp only [len_append, e0, e1] <;> omega
theorem wayStep_nil (mark sign : Str) (price : Int) (ws : List (Str × Int)) : wayStep (ws.take 0) mark sign price = [] := by rw [List.take_zero]; rfl
section
variable {prog : Program} {w : World} {A : Around} {h₀ : Heap} {L : Addr} {m : Str → Option Value} {env : Env}
theorem NSrc.wj {elt i1 : Expr} {x x₂ y y₂ z : Str} {scope : Scope} {cl : List (Str × Addr)} {Q : Flow → Shared → Prop} {ax : Addr} {its : Array Value} {nn : Nat} {news : List (Addr × Obj)} {s₁ : Shared} (wsf : Nat → List (Str × Int))
    (hh : A.handled = none) (F : Fr h₀ L s₁.heap m) (N : News h₀ L s₁.heap news) (hax : (ax, ({ cls := .type "list", data := .seq its nn } : Obj)) ∈ news) (h0 : wsf 0 = [])
    (turn : ∀ i v ys nw, its[i]? = some v → wJ news (wsf i) ys nw → ∃ (t : Addr) (v₁ v₂ : Value) (n : Nat), v = .ref t ∧ (t, tupO v₁ v₂ n) ∈ nw ∧
      ∀ I oI C oC D m₂ h tk (E' : Value → Shared → Prop), LCg.NsObj oC m₂ → m₂ x = some v₁ → m₂ x₂ = some v₂ → Fr h₀ L h m → News h₀ L h ((I, oI) :: (C, oC) :: (D, LCg.lst ys) :: nw) → LCg.Off3 I C D nw → ((@Ne Nat I C) ∧ (@Ne Nat I D) ∧ (@Ne Nat C D)) →
        wpAny (model prog w) A (eval i1 (compEnvC scope cl C env)) (NMid prog w A h₀ L m env elt x x₂ y y₂ scope cl v₁ v₂ { s₁ with heap := h, toks := tk } I oI C oC D ys (wJ news (wsf (i + 1)))) E' { s₁ with heap := h, toks := tk })
    (fin : ∀ D h tk ys nw, Fr h₀ L h (fun u => if u = z then some (.ref D) else m u) → News h₀ L h ((D, LCg.lst ys) :: nw) → LCg.Off1 D nw → wJ news (wsf its.size) ys nw → Q .next { s₁ with heap := h, toks := tk }) :
    NSrc prog w A h₀ L m env elt i1 x x₂ y y₂ scope cl z Q (.ref ax) s₁ :=
  NSrc.intro (fun i ys nw => wJ news (wsf i) ys nw) hh F N (fun i ys nw hJ => by obtain ⟨nu, rfl, _⟩ := hJ; exact List.mem_append_right _ hax) (h0.symm ▸ wJ.start) turn fin
theorem NEnd.mono {h₀ : Heap} {L : Addr} {m : Str → Option Value} {s : Shared} {Led : List (Addr × Obj)} {K K' : Addr → Obj → Prop} {yv : Value} {s' : Shared} (h : NEnd h₀ L m s Led K yv s') (hk : ∀ Y oY, K Y oY → K' Y oY) : NEnd h₀ L m s Led K' yv s' := by
  obtain ⟨Y, oY, h', tk, a, b, c, d, e, f⟩ := h
  exact ⟨Y, oY, h', tk, a, b, c, d, e, hk _ _ f⟩
theorem NMid.two {elt : Expr} {x x₂ y y₂ : Str} {scope : Scope} {cl : List (Str × Addr)} {s s' : Shared} {h' : Heap} {tk' : Nat} {T T1 T2 I C D : Addr} {oI oC : Obj} {ys : List Value} {nw Led : List (Addr × Obj)} {ws : List (Str × Int)}  {e0 e1 : Str} {p0 p1 : Int} {t0 u0 t1 u1 : Tok} {x8 sgn : Str} {y8 : Int} {t8 u8 : Tok}
    (ws1 : List (Str × Int)) (hs' : s' = { s with heap := h', toks := tk' }) (F : Fr h₀ L h' m)
    (N : News h₀ L h' ((T, ({ cls := .type "tuple", data := .seq #[.ref T1, .ref T2] } : Obj)) :: (T2, tup2 (.str e1 t1) (.int p1 u1)) :: (T1, tup2 (.str e0 t0) (.int p0 u0)) :: (I, oI) :: (C, oC) :: (D, LCg.lst ys) :: nw))
    (off : LCg.Off3 I C D nw) (q0 : (@LT.lt Nat _ I T) ∧ (@LT.lt Nat _ C T) ∧ (@LT.lt Nat _ D T) ∧ AllLt T Led) (q1 : (@LT.lt Nat _ I T1) ∧ (@LT.lt Nat _ C T1) ∧ (@LT.lt Nat _ D T1) ∧ AllLt T1 Led) (q2 : (@LT.lt Nat _ I T2) ∧ (@LT.lt Nat _ C T2) ∧ (@LT.lt Nat _ D T2) ∧ AllLt T2 Led)
    (hJ : wJ Led ws ys nw) (hlen : ws.length + 2 ≤ 16777216) (hws1 : ws1 = ws ++ [(x8 ++ e0 ++ sgn, y8 * p0)] ++ [(x8 ++ e1 ++ sgn, y8 * p1)])
    (turn : ∀ (ee : Str) (pp : Int) (te ue : Tok) (ys : List Value) (nw : List (Addr × Obj)) (ws' : List (Str × Int)), (ee = e0 ∧ pp = p0 ∨ ee = e1 ∧ pp = p1) → wJ Led ws' ys nw →
      ∀ I1 oI1 oC m₃ h tk (E' : Value → Shared → Prop), LCg.NsObj oC m₃ → m₃ x = some (.str x8 t8) → m₃ x₂ = some (.int y8 u8) → m₃ y = some (.str ee te) → m₃ y₂ = some (.int pp ue) → Fr h₀ L h m → News h₀ L h ((I1, oI1) :: (I, oI) :: (C, oC) :: (D, LCg.lst ys) :: nw) →
        wpAny (model prog w) A (eval elt (compEnvC scope cl C env)) (NEnd h₀ L m { s with heap := h, toks := tk } ((I1, oI1) :: (I, oI) :: (C, oC) :: (D, LCg.lst ys) :: nw) (fun Y oY => (∃ t u, oY = tup2 (.str (x8 ++ ee ++ sgn) t) (.int (y8 * pp) u)) ∧ AllLt Y Led)) E' { s with heap := h, toks := tk }) :
    NMid prog w A h₀ L m env elt x x₂ y y₂ scope cl (.str x8 t8) (.int y8 u8) s I oI C oC D ys (wJ Led ws1) (.ref T) s' := by
  subst hs'
  have hsz : (16777216 : Nat) = sizeLine := by rw [sizeLine_eq]
  refine ⟨T, #[.ref T1, .ref T2], 0, (T, ({ cls := .type "tuple", data := .seq #[.ref T1, .ref T2] } : Obj)) :: (T2, tup2 (.str e1 t1) (.int p1 u1)) :: (T1, tup2 (.str e0 t0) (.int p0 u0)) :: nw,
    (fun j ys nw' => wJ Led (ws ++ ([(x8 ++ e0 ++ sgn, y8 * p0), (x8 ++ e1 ++ sgn, y8 * p1)] : List (Str × Int)).take j) ys nw' ∧ (T, ({ cls := .type "tuple", data := .seq #[.ref T1, .ref T2] } : Obj)) ∈ nw' ∧ (T1, tup2 (.str e0 t0) (.int p0 u0)) ∈ nw' ∧ (T2, tup2 (.str e1 t1) (.int p1 u1)) ∈ nw'), h', tk', rfl, rfl, F, ?_, ?_, ?_, ?_, ?_, ?_, ?_⟩
  · intro p hp
    refine N p ?_
    simp only [List.mem_cons] at hp ⊢
    rcases hp with h | h | h | h | h | h | h <;> simp [h]
  · refine ⟨⟨Nat.ne_of_gt q0.1, Nat.ne_of_gt q0.2.1, Nat.ne_of_gt q0.2.2.1⟩, ⟨Nat.ne_of_gt q2.1, Nat.ne_of_gt q2.2.1, Nat.ne_of_gt q2.2.2.1⟩, ⟨Nat.ne_of_gt q1.1, Nat.ne_of_gt q1.2.1, Nat.ne_of_gt q1.2.2.1⟩, off⟩
  · rintro j ys nw' ⟨_, a, _, _⟩
    exact a
  · refine ⟨?_, .head _, .tail _ (.tail _ (.head _)), .tail _ (.head _)⟩
    rw [List.take_zero, List.append_nil]
    exact ((hJ.grow q1.2.2.2).grow q2.2.2.2).grow q0.2.2.2
  · rintro j ys nw' ⟨a, _⟩
    have := a.len
    have h2 : (List.take j ([(x8 ++ e0 ++ sgn, y8 * p0), (x8 ++ e1 ++ sgn, y8 * p1)] : List (Str × Int))).length ≤ 2 := by rw [List.length_take]; simp only [List.length_cons, List.length_nil]; omega
    rw [List.length_append] at this
    omega
  · rintro j v ys nw' hv ⟨a, b, c, d⟩
    match j, hv with
    | 0, hv =>
      obtain rfl : Value.ref T1 = v := Option.some.inj hv
      refine ⟨T1, .str e0 t0, .int p0 u0, 0, rfl, c, ?_⟩
      intro I1 oI1 oC m₃ h tk E' g1 g2 g3 g4 g5 g6 g7
      refine wpAny_mono (turn e0 p0 t0 u0 ys nw' _ (.inl ⟨rfl, rfl⟩) a I1 oI1 oC m₃ h tk E' g1 g2 g3 g4 g5 g6 g7) (fun yv s₃ h₃ => h₃.mono ?_) fun _ _ e => e
      rintro Y oY ⟨⟨t, u, rfl⟩, hlo⟩
      refine ⟨?_, .tail _ b, .tail _ c, .tail _ d⟩
      have := a.snoc (x := x8 ++ e0 ++ sgn) (y := y8 * p0) (t := t) (u := u) hlo
      simpa using this
    | 1, hv =>
      obtain rfl : Value.ref T2 = v := Option.some.inj hv
      refine ⟨T2, .str e1 t1, .int p1 u1, 0, rfl, d, ?_⟩
      intro I1 oI1 oC m₃ h tk E' g1 g2 g3 g4 g5 g6 g7
      refine wpAny_mono (turn e1 p1 t1 u1 ys nw' _ (.inr ⟨rfl, rfl⟩) a I1 oI1 oC m₃ h tk E' g1 g2 g3 g4 g5 g6 g7) (fun yv s₃ h₃ => h₃.mono ?_) fun _ _ e => e
      rintro Y oY ⟨⟨t, u, rfl⟩, hlo⟩
      refine ⟨?_, .tail _ b, .tail _ c, .tail _ d⟩
      have := a.snoc (x := x8 ++ e1 ++ sgn) (y := y8 * p1) (t := t) (u := u) hlo
      simpa using this
  · rintro ys nw' ⟨a, _⟩
    rw [hws1]
    have : ([(x8 ++ e0 ++ sgn, y8 * p0), (x8 ++ e1 ++ sgn, y8 * p1)] : List (Str × Int)).take (#[Value.ref T1, Value.ref T2] : Array Value).size = [(x8 ++ e0 ++ sgn, y8 * p0), (x8 ++ e1 ++ sgn, y8 * p1)] := rfl
    rw [this] at a
    simpa using a
end
theorem wayJ.fin {xs : List Int} {cs : List (Nat × Str)} {L' D Wa : Addr} {b1 b2 : Addr × Obj} {news objs own nw : List (Addr × Obj)} {m₀ m' : Str → Option Value} {i : Nat} {ys : List Value} {g h' : Heap} {s₁ : Shared} {tk : Nat} {o1 o2 o3 c1 c2 c3 wo wo' : Obj} {d1 d2 d3 : Option Value} {ws : List (Str × Int)}
    (kF : Fr g L' h' m') (kN : News g L' h' ((D, LCg.lst ys) :: nw)) (off : LCg.Off1 D nw) (hJ : wJ ((Wa, wo) :: (L' + 1 + 1 + 1, o1) :: (L' + 1 + 1, o2) :: (L' + 1, o3) :: b1 :: b2 :: (objs ++ news ++ own)) ws ys nw) (hws : ws = wayL xs cs (i + 1))
    (h1 : o1.data = .cell d1) (h2 : o2.data = .cell d2) (h3 : o3.data = .cell d3) (hm : m' (Str.ofString "ways") = some (.ref D)) (hmz : ∀ z, [Str.ofString "ways", Str.ofString "k"].contains z = false → m' z = m₀ z)
    (hOff : OwnOff own (((Wa, wo') :: (L' + 1 + 1 + 1, c3) :: (L' + 1 + 1, c2) :: (L' + 1, c1) :: b1 :: b2 :: (objs ++ news)).map (·.1))) :
    InvEndG g L' (wayJ xs cs L' b1 b2 news m₀ (i + 1)) own s₁ { s₁ with heap := h', toks := tk } := by
  subst hws
  obtain ⟨nu, rfl, hw, hlt⟩ := hJ
  have hoff := off1_mem' _ off
  refine InvEndG.intro (nx := (D, LCg.lst ys) :: (L' + 1 + 1 + 1, o1) :: (L' + 1 + 1, o2) :: (L' + 1, o3) :: b1 :: b2 :: (nu ++ news)) kF kN ⟨D, ys, _, nu, o1, o2, o3, d1, d2, d3, rfl, h1, h2, h3, ?_, ?_, hw, hm, hmz⟩ ?_ ?_ ?_
  · refine ⟨Ne.symm (hoff (L' + 1, o3) ?_), Ne.symm (hoff (L' + 1 + 1, o2) ?_), Ne.symm (hoff (L' + 1 + 1 + 1, o1) ?_)⟩ <;> simp
  · intro p hp
    exact of_allLt (hlt p hp) (L' + 1 + 1 + 1, o1) (.tail _ (.head _))
  · intro p hp b hb
    simp only [List.map_cons, List.map_append, List.mem_cons, List.mem_append] at hb
    have q : ∀ b, b ∈ (((Wa, wo') :: (L' + 1 + 1 + 1, c3) :: (L' + 1 + 1, c2) :: (L' + 1, c1) :: b1 :: b2 :: (objs ++ news)).map (·.1)) → p.1 ≠ b := hOff p hp
    rcases hb with rfl | rfl | rfl | rfl | rfl | rfl | hb | hb
    · exact hoff p (by simp [hp])
    · exact q _ (by simp)
    · exact q _ (by simp)
    · exact q _ (by simp)
    · exact q _ (by simp)
    · exact q _ (by simp)
    · obtain ⟨r, hr, rfl⟩ := List.mem_map.mp hb
      exact Nat.ne_of_lt (of_allLt (hlt r hr) p (by simp [hp]))
    · exact q _ (by simp only [List.map_cons, List.map_append, List.mem_cons, List.mem_append, hb, or_true])
  · intro p hp
    simp only [List.mem_cons, List.mem_append] at hp ⊢
    rcases hp with h | h | h | h | h | h | h | h <;> simp [h]
  · intro p hp
    simp only [List.mem_cons, List.mem_append, hp, or_true]
theorem bits_sm {x : Int} (h0 : 0 ≤ x) (h1 : x ≤ 13) : Builtin.Int.intBits x ≤ 64 := by
  unfold Builtin.Int.intBits
  split
  · omega
  · rename_i h
    have hn : x.natAbs ≠ 0 := by intro e; apply h; simpa using e
    have : x.natAbs.log2 < 4 := (Nat.log2_lt hn).mpr (by omega)
    omega
theorem bits_12 {x : Int} (h0 : 0 ≤ x) (h1 : x ≤ 13) : Builtin.Int.intBits x ≤ 64 := bits_sm h0 h1
theorem mul_right_sm {prog : Program} {w : World} {A : Around} {E : Value → Shared → Prop} {s : Shared} {a b : Int} {t u : Tok} {Q : Value → Shared → Prop} (h0 : 0 ≤ b) (h1 : b ≤ 13) (h : Q (.int (a * b) s.toks) { s with toks := s.toks + 1 }) :
    wpAny (model prog w) A (binaryOp .Mult (.int a t) (.int b u)) Q E s := P.mul_int h (IntMulOk.of_right (bits_12 h0 h1))
end Mine
end
section
open PySem PySem.W PyProof.Rows
set_option maxRecDepth 100000
set_option maxHeartbeats 20000000
namespace Mine
local macro_rules | `(tactic| walk_at $s:str) => `(tactic| k_extra $s)
theorem hooks55 : True := by
  k_with_none
  trivial
theorem told_nl (w : World) (c : Nat) (hc : told c = Str.ofString "\n") (t : Tok) (news : List (Addr × Obj)) : Spec w 116 [.str ⟨#[c]⟩ t] news 2 16 (fun v new => (∃ t', v = .str (Str.ofString "\n") t') ∧ new = []) := hc ▸ told_spec w c t news
theorem ne_allLt4 {d a1 a2 a3 a4 : Addr} {o1 o2 o3 o4 : Obj} {l : List (Addr × Obj)} (h : (@LT.lt Nat _ a1 d) ∧ (@LT.lt Nat _ a2 d) ∧ (@LT.lt Nat _ a3 d) ∧ (@LT.lt Nat _ a4 d) ∧ AllLt d l) : ∀ p ∈ (a1, o1) :: (a2, o2) :: (a3, o3) :: (a4, o4) :: l, p.1 ≠ d :=
  fun p hp => Nat.ne_of_lt (of_allLt (l := (a1, o1) :: (a2, o2) :: (a3, o3) :: (a4, o4) :: l) ⟨h.1, h.2.1, h.2.2.1, h.2.2.2.1, h.2.2.2.2⟩ p hp)
local macro_rules | `(tactic| k_mem) => `(tactic| (refine List.mem_append_right _ ?_; k_mem))
local macro_rules | `(tactic| k_all) => `(tactic| assumption)
theorem hook43 : True := by
  k_with "call builtin:len" => ((k_here; (with_reducible show wpAny _ _ (call (Value.builtin _) [Value.ref _]) _ _ _); (refine len_items (by assumption) (by k_asm) (by k_mem) (by assumption) ?_)))
  trivial
theorem hook44 : True := by
  k_with "exec For Name Call cons nil" => ((k_here; (rename Fr _ _ _ _ => lFpqz); (with_unfolding_all refine' For_turns lFpqz ?_); k_whole))
  trivial
theorem hook45 : True := by
  k_with "pyIter ref" => (k_extra "for1")
  trivial
theorem hook46 : True := by
  k_with "NSrc" => (k_extra "nsrc")
  trivial
theorem hook47 : True := by
  k_with "NMid" => (k_extra "nmid")
  trivial
theorem hook48 : True := by
  k_with "subscriptTail" => ((k_here; (with_reducible show wpAny _ _ (subscriptTail _ _ (Value.ref _) (Value.int _ _)) _ _ _); (refine item_items (by assumption) (by k_asm) (by k_mem) (by intro p9qz h9qz; simp only [List.mem_cons, List.mem_append, h9qz, true_or, or_true]) (by omega) (by omega) (by assumption) ?_); intro a9qz t9qz u9qz p9qz hT9qz))
  trivial
theorem hook49 : True := by
  k_with "subscriptTail" => ((k_here; (with_reducible show wpAny _ _ (subscriptTail _ _ (Value.ref _) (Value.int _ _)) _ _ _); (refine item_ints (News.isList (by k_asm) (by k_mem)) (by assumption) (by omega) (by omega) (by omega) ?_); intro n9qz t9qz hn9qz))
  trivial
theorem hook50 : True := by
  k_with "subscriptTail" => ((k_here; (with_reducible show wpAny _ _ (subscriptTail _ _ (Value.ref _) (Value.int 0 _)) _ _ _); (refine pair_fst (by assumption) ?_)))
  trivial
theorem hook51 : True := by
  k_with "call ref" => ((k_here; (with_reducible show wpAny _ _ (call (Value.ref 116) _) _ _ _); k_dflt (first | (refine' Spec.useT (told_nl _ _ ?nlq51 _ _) ?Bq51 ?Fq51 ?Xq51 ?Nq51 ?Tq51 ?Kq51 ?dq51 ?uq51 ?_; (case nlq51 => assumption); (case Bq51 => k_asm); (case Fq51 => k_asm); (case Xq51 => k_asm); (case Nq51 => k_asm); (case Tq51 => k_asm); (case Kq51 => first | exact rfl | assumption); (case dq51 => ktr_room); (case uq51 => ktr_units)) | (refine' Spec.useT (told_spec _ _ _ _) ?Bq51 ?Fq51 ?Xq51 ?Nq51 ?Tq51 ?Kq51 ?dq51 ?uq51 ?_; (case Bq51 => k_asm); (case Fq51 => k_asm); (case Xq51 => k_asm); (case Nq51 => k_asm); (case Tq51 => k_asm); (case Kq51 => first | exact rfl | assumption); (case dq51 => ktr_room); (case uq51 => ktr_units))); (intro t9qz h9qz tk9qz F9qz N9qz)))
  trivial
theorem hook52 : True := by
  k_with "call ref" => ((k_here; (with_reducible show wpAny _ _ (call (Value.ref 109) _) _ _ _); k_dflt (refine' Spec.useU (unseen_spec _ _ _ _) ?Bq52 ?Fq52 ?Xq52 ?Nq52 ?Tq52 ?Kq52 ?dq52 ?uq52 ?_; (case Bq52 => k_asm); (case Fq52 => k_asm); (case Xq52 => k_asm); (case Nq52 => k_asm); (case Tq52 => k_asm); (case Kq52 => first | exact rfl | assumption); (case dq52 => ktr_room); (case uq52 => ktr_units)); (intro c9qz t9qz h9qz tk9qz hc9qz F9qz N9qz)))
  trivial
theorem hook53 : True := by
  k_with "binaryOp Add str str" => ((k_here; refine KOpn.add (Nat.le_trans (Nat.add_le_add (by assumption) (by assumption)) (by decide)) ?_; intro _ _ _))
  trivial
theorem hook54 : True := by
  k_with "binaryOp Mult int int" => ((k_here; refine mul_right_sm (by assumption) (by assumption) ?_))
  trivial
theorem hook55 : True := by
  k_with "exec Assign cons ListComp" => ((k_here; k_dflt (refine Assign_ListComp_N (F₀ := by k_asm) (by rfl) (by with_unfolding_all rfl) (by with_unfolding_all rfl) (by decide) (by rfl) (by decide) (by rfl) (by rfl) (by rfl) (by rfl) (by decide) (by decide) (by rfl) (by rfl) ?_)))
  trivial
theorem ways_spec (w : World) (l e : Addr) (us vs : List Value) (xs : List Int) (cs : List (Nat × Str)) (n n' : Nat) (news : List (Addr × Obj)) (hx : IntsAre us xs) (hi : ItemsAre news vs cs) (hc1 : 1 ≤ (cs.length : Int)) (hc6 : cs.length ≤ 6) (hxc : cs.length ≤ xs.length + 1) (hx2 : xs.length ≤ 100) (hct : ∀ i, (told (cAt cs i)).length ≤ 3) :
    Spec w 121 [.ref l, .ref e] ((l, PySem.W.listOf us.toArray n) :: (e, PySem.W.listOf vs.toArray n') :: news) 4 32 (fun v new => ∃ (Wa : Addr) (ys : List Value) (m : Nat) (objs : List (Addr × Obj)), v = .ref Wa ∧ new = (Wa, listOf ys.toArray m) :: objs ∧ WaysAre objs ys (wayL xs cs (cs.length - 1))) := by
  have hc2 : cs.length ≤ 100 := by omega
  unfold Spec
  k_fill
  intros
  rename_i hret
  refine wpAny_call ?_
  k_dflt (refine' code_defC ?k1 ?k2 ?k3 ?k4 ?k5 ?kA ?kF ?kK ?k6 ?k7 ?k8 ?k9 ?kB ?kD ?_ ?c2 ?c3 ?c4; (case kA => exact rfl); (case kF => exact rfl); (case kK => assumption); (case k1 => k_asm); (case k2 => k_asm); (case k3 => k_asm); (case k4 => k_asm); (case k5 => k_asm); (case k6 => k_is); (case k7 => k_is); (case k8 => ktr_room); (case k9 => exact BindsTo.of_eq rfl); (case kB => exact rfl); (case kD => decide +kernel); (case c2 => exact rfl); (case c3 => exact rfl); (case c4 => exact rfl); k_whole; intro g' L' h' tk' cells' FG' F' N' Y' B' X' T' l1; (try k_lt l1); obtain ⟨oA, oB, oC, dA, dB, dC, rfl, hdA, hdB, hdC⟩ := cells3 Y'; clear Y'; (try simp only [List.cons_append, List.nil_append] at N'); (try dsimp only); (try k_lift B'); (try k_fold))
  k_with "for1" => (
    rename News _ _ _ _ => lN9; rename Fr _ _ _ _ => lF9; rename IsRange _ _ _ _ _ _ _ _ => lR9
    with_unfolding_all refine loop_range (n := cs.length - 1) (wayJ xs cs L' _ _ news _) rfl lR9 (small_one (by omega) (by omega) (by omega) (by omega)) (by rw [rangeSize_nat]; omega) (fun _ _ _ _ _ _ q => wpAny_pure q) lF9 (news_way lN9) (wayJ.start hdA hdB hdC (by omega) (by omega) rfl) ?_ ?_
    clear lN9 lF9 lR9 hdA hdB hdC
    intro i9 v9 m9 nx9 h9 tk9 own9 hi9 hv9 hOff hJ F9 N9
    obtain ⟨t9, rfl⟩ := hv9
    obtain ⟨Wa9, vs9, n9, objs9, o1, o2, o3, d1, d2, d3, rfl, hd1, hd2, hd3, hWa, hob, hws, hmw, hm9⟩ := hJ
    replace F9 := fr_ways hmw hm9 F9
    obtain ⟨f1, f2, f3⟩ := way_off l1 hob hOff
    simp only [List.cons_append] at N9
    rotate_left
    intro m9 nx9 h9 tk9 hJ F9 N9
    obtain ⟨Wa9, vs9, n9, objs9, o1, o2, o3, d1, d2, d3, rfl, hd1, hd2, hd3, hWa, hob, hws, hmw, hm9⟩ := hJ
    replace F9 := fr_ways hmw hm9 F9
    rotate_left)
  k_with "nsrc" => (
    rename News _ _ _ _ => lN9; rename Fr _ _ _ _ => lF9
    refine NSrc.wj (fun i => wayStep ((wayL xs cs i9).take i) (Str.ofString "\n") (told (cAt cs (1 + (i9 : Int)).toNat)) (2 + (xs.getD (1 + (i9 : Int) - 1).toNat 0).fmod 11)) rfl lF9 lN9 (.head _) (wayStep_nil _ _ _ _) ?_ ?_
    clear lN9 lF9
    intro i8 v8 ys8 nw8 hv8 hJ8
    obtain ⟨x8, y8, a8, t8, u8, hxy8, rfl, hmem8⟩ := hws.2 i8 v8 (by simpa using hv8)
    have hJ8' := hJ8
    obtain ⟨nu8, rfl, hnu8, hlo8⟩ := hJ8'
    refine ⟨a8, _, _, 0, rfl, List.mem_append_right _ (.tail _ (.tail _ (.tail _ (.tail _ (.tail _ (.tail _ (List.mem_append_left _ (List.mem_append_left _ hmem8)))))))), ?_⟩
    intro I8 oI8 C8 oC8 D8 m8 h8 tk8 E8 hC8 hx8 hy8 F8 N8 off8 ne8
    rotate_left
    intro D8 h8 tk8 ys8 nw8 F8 N8 off8 hJ8
    rotate_left)
  k_steps
  · rename News _ _ _ _ => lN7; rename Fr _ _ _ _ => lF7
    rename _ ∧ _ ∧ _ ∧ _ ∧ _ ∧ AllLt _ _ => lT0
    rename _ ∧ _ ∧ _ ∧ _ ∧ AllLt _ _ => lT2
    rename _ ∧ _ ∧ _ ∧ AllLt _ _ => lT1
    have hlen : (wayStep ((wayL xs cs i9).take i8) (Str.ofString "\n") (told (cAt cs (1 + (i9 : Int)).toNat)) (2 + (xs.getD (1 + (i9 : Int) - 1).toNat 0).fmod 11)).length + 2 ≤ 16777216 := by
      rw [wayStep_len, List.length_take, wayL_len]
      have : 2 ^ i9 ≤ 2 ^ 5 := Nat.pow_le_pow_right (by decide) (by omega)
      omega
    refine NMid.two _ rfl lF7 lN7 off8 ⟨lT0.2.2.1, lT0.2.2.2.1, lT0.2.2.2.2.1, allLt_right lT0.2.2.2.2.2⟩ ⟨lT1.1, lT1.2.1, lT1.2.2.1, allLt_right lT1.2.2.2⟩ ⟨lT2.2.1, lT2.2.2.1, lT2.2.2.2.1, allLt_right lT2.2.2.2.2⟩ hJ8 hlen (wayStep_take hxy8 _ _ _) ?_
    clear lN7 lF7 lT0 lT1 lT2
    intro ee7 pp7 te7 ue7 ys7 nw7 ws7 hep7 hJ7 I7 oI7 oC7 m7 h7 tk7 E7 hC7 ht7 hw7 hb7 hm7 F7 N7
    obtain ⟨nu7, rfl, _, _⟩ := hJ7
    have e0 : (Str.ofString "").length ≤ 1 := by decide +kernel
    have e1 : (Str.ofString "\n").length ≤ 1 := by decide +kernel
    have hq1 : x8.length ≤ 404 := by have := wayL_short xs hct i9 _ (List.mem_of_getElem? hxy8); dsimp only at this; omega
    have hq2 : ee7.length ≤ 1 := by rcases hep7 with ⟨rfl, _⟩ | ⟨rfl, _⟩ <;> assumption
    have hq3 : (x8 ++ ee7).length ≤ 405 := by rw [len_append]; omega
    have hq4 := hct (1 + (i9 : Int)).toNat
    have hm0 := fmod_nn (xs.getD (1 + (i9 : Int) - 1).toNat 0) (b := 11) (by decide)
    have hm1 := fmod_ltp (xs.getD (1 + (i9 : Int) - 1).toNat 0) (b := 11) (by decide)
    have hq5 : 0 ≤ pp7 := by rcases hep7 with ⟨_, rfl⟩ | ⟨_, rfl⟩ <;> omega
    have hq6 : pp7 ≤ 13 := by rcases hep7 with ⟨_, rfl⟩ | ⟨_, rfl⟩ <;> omega
    k_steps
    rename News _ _ _ _ => lN6; rename Fr _ _ _ _ => lF6
    rename _ ∧ _ ∧ _ ∧ _ ∧ AllLt _ _ => lY
    exact ⟨_, _, _, _, rfl, rfl, lF6, lN6, ne_allLt4 lY, ⟨_, _, rfl⟩, allLt_right lY.2.2.2.2⟩
  · have e1 : (1 + (i9 : Int)).toNat = i9 + 1 := by omega
    have e2 : (1 + (i9 : Int) - 1).toNat = i9 := by omega
    refine wayJ.fin F8 N8 off8 hJ8 ?_ (by assumption) (by assumption) (by assumption) rfl ?_ hOff
    · have e3 : vs9.toArray.size = (wayL xs cs i9).length := by rw [List.size_toArray, hws.1]
      rw [e3, List.take_length, e1, e2]
      rfl
    · intro z hz
      have h1 : z ≠ Str.ofString "ways" := by rintro rfl; revert hz; decide
      have h2 : z ≠ Str.ofString "k" := by rintro rfl; revert hz; decide
      first
        | (simp only [h1, h2, if_false]; done)
        | (simp only [h1, h2, if_false]; rfl)
  · rename News _ _ _ _ => lN6; rename Fr _ _ _ _ => lF6
    refine hret _ ((Wa9, listOf vs9.toArray n9) :: objs9) _ _ ⟨Wa9, vs9, n9, objs9, rfl, rfl, hws⟩ lF6 fun p hp => lN6 p ?_
    simp only [List.mem_cons, List.mem_append, List.cons_append] at hp ⊢
    rcases hp with h | h | h | h | h <;> simp [h]
end Mine
end
section
open PySem PySem.W PyProof.Rows PyProof.Rows.LCg PyProof.Rows.LCp
set_option maxRecDepth 100000
set_option maxHeartbeats 20000000
namespace Mine
/-! ## comprehensions of one clause, by an invariant -/
section
variable {prog : Program} {w : World} {A : Around} {E : Value → Shared → Prop} {s : Shared} {h₀ : Heap} {L : Addr} {m : Str → Option Value} {env : Env}
theorem rest_inv {elt : Expr} {x : Str} {scope : Scope} {cl : List (Str × Addr)} {S : List (Addr × Obj) → Prop} {P : Nat → Value → Prop} {Fin : List Value → List (Addr × Obj) → Prop} (n : Nat) (J : Nat → List Value → List (Addr × Obj) → Prop)
    (turn : ∀ i v ys nw, i < n → P i v → J i ys nw → ∀ I oI C oC D m₂ h tk (E' : Value → Shared → Prop), NsObj oC m₂ → m₂ x = some v → Fr h₀ L h m → News h₀ L h ((I, oI) :: (C, oC) :: (D, lst ys) :: nw) → Off3 I C D nw → ((@Ne Nat I C) ∧ (@Ne Nat I D) ∧ (@Ne Nat C D)) →
      wpAny (model prog w) A (eval elt (compEnvC scope cl C env)) (CompEnd h₀ L m { s with heap := h, toks := tk } I oI C oC D (lst ys) S (fun y nw' => J (i + 1) (ys ++ [y]) nw')) E' { s with heap := h, toks := tk })
    (fin : ∀ ys nw, J n ys nw → Fin ys nw) : ∀ k i ys nw, i + k = n → J i ys nw → CompRest prog w A h₀ L m env elt x scope cl s S P Fin k i ys nw
  | 0, i, ys, nw, hn, hJ => CompRest.zero (fin _ _ (by have : i = n := by omega
                                                       exact this ▸ hJ))
  | k + 1, i, ys, nw, hn, hJ => CompRest.succ fun v I oI C oC D m₂ h tk E' hP hC hx F N off ne =>
      wpAny_mono (turn i v ys nw (by omega) hP hJ I oI C oC D m₂ h tk E' hC hx F N off ne) (fun y s₂ h₂ => by
        obtain ⟨h', tk', nw', a, b, c, d, e, f⟩ := h₂
        exact ⟨h', tk', nw', a, b, c, d, e, rest_inv n J turn fin k (i + 1) _ _ (by omega) f⟩) fun _ _ e => e
theorem restP_inv {elt : Expr} {x x₂ : Str} {scope : Scope} {cl : List (Str × Addr)} {S : List (Addr × Obj) → Prop} {P : Nat → Value → Prop} {Fin : List Value → List (Addr × Obj) → Prop} (n : Nat) (J : Nat → List Value → List (Addr × Obj) → Prop)
    (turn : ∀ i v ys nw, i < n → P i v → J i ys nw → ∃ (t : Addr) (ot : Obj) (v₁ v₂ : Value) (nt : Nat), v = .ref t ∧ (t, ot) ∈ nw ∧ ot.cls = .type "tuple" ∧ ot.data = .seq #[v₁, v₂] nt ∧
      ∀ I oI C oC D m₂ h tk (E' : Value → Shared → Prop), NsObj oC m₂ → m₂ x = some v₁ → m₂ x₂ = some v₂ → Fr h₀ L h m → News h₀ L h ((I, oI) :: (C, oC) :: (D, lst ys) :: nw) → Off3 I C D nw → ((@Ne Nat I C) ∧ (@Ne Nat I D) ∧ (@Ne Nat C D)) →
      wpAny (model prog w) A (eval elt (compEnvC scope cl C env)) (CompEnd h₀ L m { s with heap := h, toks := tk } I oI C oC D (lst ys) S (fun y nw' => J (i + 1) (ys ++ [y]) nw')) E' { s with heap := h, toks := tk })
    (fin : ∀ ys nw, J n ys nw → Fin ys nw) : ∀ k i ys nw, i + k = n → J i ys nw → CompRestP prog w A h₀ L m env elt x x₂ scope cl s S P Fin k i ys nw
  | 0, i, ys, nw, hn, hJ => CompRestP.zero (fin _ _ (by have : i = n := by omega
                                                        exact this ▸ hJ))
  | k + 1, i, ys, nw, hn, hJ => CompRestP.succ fun v hP => by
      obtain ⟨t, ot, v₁, v₂, nt, a, b, c, d, tr⟩ := turn i v ys nw (by omega) hP hJ
      exact ⟨t, ot, v₁, v₂, nt, a, b, c, d, fun I oI C oC D m₂ h tk E' hC hx hx2 F N off ne =>
        wpAny_mono (tr I oI C oC D m₂ h tk E' hC hx hx2 F N off ne) (fun y s₂ h₂ => by
          obtain ⟨h', tk', nw', a, b, c, d, e, f⟩ := h₂
          exact ⟨h', tk', nw', a, b, c, d, e, restP_inv n J turn fin k (i + 1) _ _ (by omega) f⟩) fun _ _ e => e⟩
theorem strsAre_snoc {vs : List Value} {ss : List Str} (h : StrsAre vs ss) (x : Str) (t : Tok) : StrsAre (vs ++ [.str x t]) (ss ++ [x]) := StrsAre.append' h (.cons x t .nil)
/-- [plain for sign, plain in items] -/
theorem srcP_plains {x x₂ : Str} {px : Pos} {scope : Scope} {cl : List (Str × Addr)} {Fin : Shared → List Value → List (Addr × Obj) → Prop} {ax : Addr} {vs : List Value} {cs : List (Nat × Str)} {k : Nat} {base news : List (Addr × Obj)} {s₁ : Shared}
    (hh : A.handled = none) (F : Fr h₀ L s₁.heap m) (N : News h₀ L s₁.heap news) (hm : (ax, ({ cls := .type "list", data := .seq vs.toArray k } : Obj)) ∈ news) (hi : ItemsAre base vs cs) (hb : ∀ p ∈ base, p ∈ news) (hsz : cs.length ≤ 100)
    (fin : ∀ g ys, StrsAre ys (cs.map (·.2)) → Fin { s₁ with heap := g } ys news)
    (hk : ∀ C, (compEnvC scope cl C env).scope.kind = .function := by intro _; rfl) (hl : ∀ C, (compEnvC scope cl C env).kindOf x₂ = some .local := by intro _; rfl) (hd : (x₂ == ("__debug__" : Str)) = false := by decide) :
    SrcLP prog w A h₀ L m env (.Name x₂ px) x x₂ scope cl Fin (.ref ax) s₁ := by
  have hs : vs.toArray.size = cs.length := by rw [List.size_toArray, hi.1]
  refine SrcLP.ledger hh F N hm (by rw [hs]; exact Nat.le_trans hsz (Nat.le_of_ble_eq_true rfl)) fun g => ?_
  refine restP_inv vs.toArray.size (fun i ys nw => nw = news ∧ StrsAre ys ((cs.map (·.2)).take i)) (fun i v ys nw hin hP hJ => ?_) (fun ys nw hJ => ?_) _ 0 [] news (by omega) ⟨rfl, by rw [List.take_zero]; exact .nil⟩
  · obtain ⟨rfl, hJ⟩ := hJ
    obtain ⟨c, p, a, t, u, hc, rfl, hmem⟩ := hi.2 i v (by simpa using hP)
    refine ⟨a, _, _, _, _, rfl, hb _ hmem, rfl, rfl, ?_⟩
    intro I oI C oC D m₂ h tk E' hC hx hx2 F' N' off ne
    refine LCgL.ld_own N' (.tail _ (.head _)) hC hx2 ?_ (hk C) (hl C) hd
    refine ⟨h, tk, nw, rfl, F', N', off, .inr ⟨_, hm, rfl, _, rfl⟩, rfl, ?_⟩
    have e : (cs.map (·.2)).take (i + 1) = (cs.map (·.2)).take i ++ [p] := by
      rw [List.take_add_one, List.getElem?_map, hc]; rfl
    rw [e]
    exact strsAre_snoc hJ p u
  · obtain ⟨rfl, hJ⟩ := hJ
    rw [hs, List.take_of_length_le (by rw [List.length_map]; exact Nat.le_refl _)] at hJ
    exact fin g ys hJ
end
theorem strs_values : ∀ {vs : List Value} {ss : List Str}, StrsAre vs ss → ∃ l : List (Str × Tok), vs = strValues l ∧ l.map (·.1) = ss
  | _, _, .nil => ⟨[], rfl, rfl⟩
  | _, _, .cons x t h => by
    obtain ⟨l, rfl, rfl⟩ := strs_values h
    exact ⟨(x, t) :: l, rfl, rfl⟩
/-- the texts glued -/
def catL (ss : List Str) : Str := ⟨(ss.map fun s => s.cps.toList).flatten.toArray⟩
theorem foldl_cps : ∀ (ss : List Str) (a : Array Nat), (ss.foldl (fun acc p => acc ++ Str.empty.cps ++ p.cps) a).toList = a.toList ++ (ss.map fun s => s.cps.toList).flatten
  | [], a => by simp
  | x :: r, a => by
    rw [List.foldl_cons, foldl_cps r]
    have : Str.empty.cps = #[] := rfl
    rw [this]
    simp
theorem join_cat (ss : List Str) : Txt.join (Str.ofString "") ss = catL ss := by
  have e : Str.ofString "" = Str.empty := by decide +kernel
  rw [e]
  apply Str.ext'
  rw [← Array.toList_inj]
  show ((ss.drop 1).foldl (fun acc p => acc ++ Str.empty.cps ++ p.cps) (ss.headD Str.empty).cps).toList = ((ss.map fun s => s.cps.toList).flatten.toArray).toList
  rw [foldl_cps]
  cases ss with
  | nil => rfl
  | cons a r => simp
theorem cat_len (ss : List Str) : (catL ss).length = (ss.map (·.length)).sum := by
  rw [← len_toList]
  show (((ss.map fun s => s.cps.toList).flatten.toArray).toList).length = _
  rw [List.toList_toArray, List.length_flatten, List.map_map]
  rfl
theorem foldl_len : ∀ (ss : List Str) (a : Nat), (ss.foldl (fun acc (p : Str) => acc + p.length + 0) a) = a + (ss.map (·.length)).sum
  | [], a => by simp
  | x :: r, a => by rw [List.foldl_cons, foldl_len r, List.map_cons, List.sum_cons]; omega
theorem join_ok {ss : List Str} (h : (ss.map (·.length)).sum ≤ 1000) : JoinOk (Str.ofString "") ss = true := by
  have e : (Str.ofString "").length = 0 := by decide +kernel
  unfold JoinOk
  rw [e, ← Array.foldl_toList]
  rw [foldl_len]
  have : Builtin.Str.tooLong (0 + (ss.map (·.length)).sum) = false := by
    have hz : sizeLine = 16777216 := sizeLine_eq
    unfold Builtin.Str.tooLong
    simp
    omega
  rw [this]; rfl
theorem call_join {prog : Program} {w : World} {A : Around} {E : Value → Shared → Prop} {s : Shared} {t : Tok} {Q : Value → Shared → Prop} {D : Addr} {vs : List Value} {ss : List Str} (hl : s.heap.IsList D vs.toArray) (hs : StrsAre vs ss) (hok : (ss.map (·.length)).sum ≤ 1000)
    (hq : ∀ t' k, Q (.str (catL ss) t') { s with toks := k }) : wpAny (model prog w) A (call (.builtin "str.join") [.str (Str.ofString "") t, .ref D]) Q E s := by
  obtain ⟨l, rfl, e⟩ := strs_values hs
  refine SC.join hl e (join_ok hok) fun t' k => ?_
  rw [join_cat]
  exact hq t' k
/-! ## the items -/
/-- what the comprehension of the items has made so far -/
def itJ (Led : List (Addr × Obj)) (i : Nat) (ys : List Value) (nw : List (Addr × Obj)) : Prop := ∃ nu cs, nw = nu ++ Led ∧ cs.length = i ∧ ItemsAre nu ys cs ∧ (∀ j c p, cs[j]? = some (c, p) → itemOk (decide (j = 0)) c p = true) ∧ ∀ q ∈ nu, AllLt q.1 Led
theorem ItemsAre.snoc {base : List (Addr × Obj)} {vs : List Value} {cs : List (Nat × Str)} (h : ItemsAre base vs cs) {c : Nat} {p : Str} {Y : Addr} {t u : Tok} : ItemsAre ((Y, tup2 (.str ⟨#[c]⟩ t) (.str p u)) :: base) (vs ++ [.ref Y]) (cs ++ [(c, p)]) := by
  refine ⟨by simp [h.1], fun i v hv => ?_⟩
  by_cases hi : i < vs.length
  · rw [List.getElem?_append_left hi] at hv
    obtain ⟨c', p', a, t', u', e, rfl, hm⟩ := h.2 i v hv
    exact ⟨c', p', a, t', u', by rw [List.getElem?_append_left (h.1 ▸ hi)]; exact e, rfl, .tail _ hm⟩
  · have hi' : i = vs.length := by
      have := (List.getElem?_eq_some_iff.mp hv).1
      simp at this
      omega
    subst hi'
    refine ⟨c, p, Y, t, u, by rw [h.1]; simp, ?_, .head _⟩
    simpa using hv.symm
theorem itJ.start {Led : List (Addr × Obj)} : itJ Led 0 [] Led := ⟨[], [], rfl, rfl, ⟨rfl, fun i v hv => by simp at hv⟩, fun j c p h => by simp at h, fun _ h => nomatch h⟩
theorem itJ.snoc {Led nw : List (Addr × Obj)} {i : Nat} {ys : List Value} (h : itJ Led i ys nw) {Y : Addr} {c : Nat} {p : Str} {t u : Tok} (ho : itemOk (decide (i = 0)) c p = true) (hlt : ∀ q ∈ nw, q.1 < Y) : itJ Led (i + 1) (ys ++ [.ref Y]) ((Y, tup2 (.str ⟨#[c]⟩ t) (.str p u)) :: nw) := by
  obtain ⟨nu, cs, rfl, hl, hi, hok, hL⟩ := h
  refine ⟨_ :: nu, cs ++ [(c, p)], rfl, by rw [List.length_append, hl]; rfl, hi.snoc, fun j c' p' hj => ?_, fun q hq => ?_⟩
  · by_cases hj' : j < cs.length
    · rw [List.getElem?_append_left hj'] at hj
      exact hok j c' p' hj
    · have hi' : j = cs.length := by
        have := (List.getElem?_eq_some_iff.mp hj).1
        simp at this
        omega
      subst hi'
      simp at hj
      obtain ⟨rfl, rfl⟩ := hj
      rw [hl]
      exact ho
  · rcases List.mem_cons.mp hq with rfl | hq
    · exact allLt_of fun q hq => hlt q (List.mem_append_right _ hq)
    · exact hL q hq
section
variable {prog : Program} {w : World} {A : Around} {E : Value → Shared → Prop} {s : Shared} {h₀ : Heap} {L : Addr} {m : Str → Option Value} {env : Env}
theorem src_items {elt : Expr} {x : Str} {scope : Scope} {cl : List (Str × Addr)} {Fin : Shared → List Value → List (Addr × Obj) → Prop} {r : Addr} {t u v : Tok} {n : Nat} {b : Int} {news : List (Addr × Obj)} {s₁ : Shared}
    (hh : A.handled = none) (F : Fr h₀ L s₁.heap m) (N : News h₀ L s₁.heap news) (hr : IsRange s₁.heap r 0 b 1 t u v) (hb : b = ((n : Nat) : Int)) (hsz : n ≤ 100)
    (turn : ∀ i t ys nw, i < n → itJ news i ys nw → ∀ I oI C oC D m₂ h tk (E' : Value → Shared → Prop), NsObj oC m₂ → m₂ x = some (.int (0 + (i : Int)) t) → Fr h₀ L h m → News h₀ L h ((I, oI) :: (C, oC) :: (D, lst ys) :: nw) → Off3 I C D nw → ((@Ne Nat I C) ∧ (@Ne Nat I D) ∧ (@Ne Nat C D)) →
      wpAny (model prog w) A (eval elt (compEnvC scope cl C env)) (CompEnd h₀ L m { s₁ with heap := h, toks := tk } I oI C oC D (lst ys) (fun _ => True) (fun y nw' => itJ news (i + 1) (ys ++ [y]) nw')) E' { s₁ with heap := h, toks := tk })
    (fin : ∀ g ys nw, itJ news n ys nw → Fin { s₁ with heap := g } ys nw) :
    CompSrc prog w A h₀ L m env elt x scope cl Fin (.ref r) s₁ := by
  subst hb
  refine CompSrc.range hh F N hr (small_one (by omega) (by omega) (by omega) (by omega)) (by rw [rangeSize_nat]; omega) (Nat.le_trans hsz (Nat.le_of_ble_eq_true rfl)) fun g => ?_
  refine rest_inv n (itJ news) (fun i v ys nw hin hP hJ I oI C oC D m₂ h tk E' hC hx F' N' off ne => ?_) (fun ys nw hJ => fin g ys nw hJ) _ 0 [] news (by omega) itJ.start
  obtain ⟨t, rfl⟩ := hP
  exact turn i t ys nw hin hJ I oI C oC D m₂ h tk E' hC hx F' N' off ne
end
theorem len_ints {prog : Program} {w : World} {A : Around} {E : Value → Shared → Prop} {s : Shared} {h₀ : Heap} {L : Addr} {led : List (Addr × Obj)} {l : Addr} {vs : List Value} {ns : List Int} {n : Nat} {Q : Value → Shared → Prop}
    (hi : IntsAre vs ns) (N : News h₀ L s.heap led) (hm : (l, listOf vs.toArray n) ∈ led) (hsz : ns.length ≤ 100) (h : Q (.int (ns.length : Int) (s.toks + 1)) { s with toks := s.toks + 1 + 1 }) :
    wpAny (model prog w) A (call (.builtin "len") [.ref l]) Q E s := by
  have e : vs.toArray.size = ns.length := by rw [List.size_toArray, hi.length]
  refine PySem.Calls.call_len_list (News.isList N hm) (by rw [e]; omega) ?_
  rw [e]
  exact h
theorem plainL_facts : ∀ b, ∀ p ∈ plainL b, 1 ≤ p.length ∧ p.length ≤ 3 ∧ ∀ c ∈ p, c ≤ 70000 ∧ c ≠ 10 := by decide +kernel
theorem itemOk_facts {b : Bool} {c : Nat} {p : Str} (h : itemOk b c p = true) : told c = p ∧ p.cps.toList ∈ plainL b ∧ 1 ≤ p.length ∧ p.length ≤ 3 := by
  unfold itemOk at h
  rw [Bool.and_eq_true, decide_eq_true_eq] at h
  have hm : p.cps.toList ∈ plainL b := by simpa using h.2
  have f := plainL_facts b _ hm
  rw [len_toList] at f
  exact ⟨h.1, hm, f.1, f.2.1⟩
def ItemsOk (cs : List (Nat × Str)) : Prop := ∀ j c p, cs[j]? = some (c, p) → itemOk (decide (j = 0)) c p = true
theorem told0 : (told 0).length ≤ 3 := by decide +kernel
theorem ItemsOk.told {cs : List (Nat × Str)} (h : ItemsOk cs) (i : Nat) : (told (cAt cs i)).length ≤ 3 := by
  unfold cAt
  rw [List.getD_eq_getElem?_getD]
  cases e : cs[i]? with
  | none => exact told0
  | some q =>
    have f := itemOk_facts (h i q.1 q.2 e)
    show (Mine.told q.1).length ≤ 3
    rw [f.1]
    exact f.2.2.2
theorem ItemsOk.mem {cs : List (Nat × Str)} (h : ItemsOk cs) : ∀ q ∈ cs, q.2.length ≤ 3 := by
  intro q hq
  obtain ⟨i, hi⟩ := List.mem_iff_getElem?.mp hq
  exact (itemOk_facts (h i q.1 q.2 hi)).2.2.2
theorem sum_le3 : ∀ {cs : List (Nat × Str)}, (∀ q ∈ cs, q.2.length ≤ 3) → ((cs.map (·.2)).map (·.length)).sum ≤ 3 * cs.length
  | [], _ => Nat.le_refl _
  | q :: r, h => by
    have := sum_le3 (cs := r) fun q hq => h q (.tail _ hq)
    have h1 := h q (.head _)
    simp only [List.map_cons, List.sum_cons, List.length_cons]
    omega
theorem ItemsOk.sum {cs : List (Nat × Str)} (h : ItemsOk cs) (hl : cs.length ≤ 6) (k : Nat) : (((cs.take k).map (·.2)).map (·.length)).sum ≤ 1000 := by
  have := sum_le3 (cs := cs.take k) fun q hq => h.mem q (List.mem_of_mem_take hq)
  rw [List.length_take] at this
  omega
theorem ItemsOk.sum' {cs : List (Nat × Str)} (h : ItemsOk cs) (hl : cs.length ≤ 6) : ((cs.map (·.2)).map (·.length)).sum ≤ 1000 := by
  have := sum_le3 (cs := cs) h.mem
  omega
theorem items_end {h₀ h' : Heap} {L : Addr} {m : Str → Option Value} {s : Shared} {I C D Y : Addr} {oI oC : Obj} {ys : List Value} {nw Led : List (Addr × Obj)} {i c : Nat} {p : Str} {t u : Tok} {tk : Nat}
    (F : Fr h₀ L h' m) (N : News h₀ L h' ((Y, tup2 (.str ⟨#[c]⟩ t) (.str p u)) :: (I, oI) :: (C, oC) :: (D, lst ys) :: nw)) (hlt : ∀ q ∈ (I, oI) :: (C, oC) :: (D, lst ys) :: nw, q.1 < Y) (off : Off3 I C D nw) (hJ : itJ Led i ys nw) (ho : itemOk (0 + (i : Int) == 0) c p = true) :
    CompEnd h₀ L m s I oI C oC D (lst ys) (fun _ => True) (fun y nw' => itJ Led (i + 1) (ys ++ [y]) nw') (.ref Y) { s with heap := h', toks := tk } := by
  refine ⟨h', tk, (Y, tup2 (.str ⟨#[c]⟩ t) (.str p u)) :: nw, rfl, F, fun p hp => N p ?_, ⟨⟨Ne.symm (Nat.ne_of_lt (hlt (I, oI) (.head _))), Ne.symm (Nat.ne_of_lt (hlt (C, oC) (.tail _ (.head _)))), Ne.symm (Nat.ne_of_lt (hlt (D, lst ys) (.tail _ (.tail _ (.head _)))))⟩, off⟩, True.intro, hJ.snoc ?_ fun q hq => hlt q (.tail _ (.tail _ (.tail _ hq)))⟩
  · simp only [List.mem_cons] at hp ⊢
    rcases hp with h | h | h | h | h <;> simp [h]
  · have e : (0 + (i : Int) == 0) = decide (i = 0) := by
      by_cases h : i = 0
      · subst h; rfl
      · rw [decide_eq_false h]
        simpa using h
    rw [← e]
    exact ho
theorem items_done {h₀ h : Heap} {L D : Addr} {f c3 c2 c1 : Addr × Obj} {n : Nat} {ys : List Value} {nw : List (Addr × Obj)} (N : News h₀ L h ((D, lst ys) :: nw)) (hJ : itJ [f, c3, c2, c1] n ys nw) (off : Off1 D nw) :
    ∃ nu cs, cs.length = n ∧ ItemsAre nu ys cs ∧ ItemsOk cs ∧ News h₀ L h ((D, listOf ys.toArray ys.length) :: f :: c3 :: c2 :: c1 :: nu) ∧ (∀ q ∈ nu, q.1 ≠ c2.1) ∧ (∀ q ∈ nu, q.1 ≠ c3.1) ∧ (@Ne Nat D c2.1) ∧ (@Ne Nat D c3.1) := by
  obtain ⟨nu, cs, rfl, hl, hi, hok, hL⟩ := hJ
  have o := off1_mem' _ off
  refine ⟨nu, cs, hl, hi, hok, fun p hp => N p ?_, fun q hq => Ne.symm (Nat.ne_of_lt (hL q hq).2.2.1), fun q hq => Ne.symm (Nat.ne_of_lt (hL q hq).2.1), Ne.symm (o c2 ?_), Ne.symm (o c3 ?_)⟩
  · simp only [List.mem_cons, List.mem_append, List.not_mem_nil, or_false] at hp ⊢
    rcases hp with h | h | h | h | h | h <;> simp [h]
  · simp
  · simp
/-! ## slices of a list, any values; the prices -/
theorem pick_upto (vs : List Value) {y : Int} (h : 0 ≤ y) : slicePick vs.toArray none (some y) none = (vs.take y.toNat).toArray := by
  have e : sliceBounds none (some y) none vs.toArray.size = (((0 : Nat) : Int), ((min y.toNat vs.toArray.size : Nat) : Int), 1) := by
    simp only [sliceBounds, Option.getD_none, show (1 : Int) > 0 by decide, if_true, if_neg (show ¬ (y < 0) by omega)]
    congr 1
    congr 1
    omega
  rw [kmk_pick_nat _ e]
  show ((vs.drop 0).take (min y.toNat vs.toArray.size - 0)).toArray = _
  rw [List.drop_zero, Nat.sub_zero, List.size_toArray, kmk_take_min]
theorem ItemsAre.take {base : List (Addr × Obj)} {vs : List Value} {cs : List (Nat × Str)} (h : ItemsAre base vs cs) (k : Nat) : ItemsAre base (vs.take k) (cs.take k) := by
  refine ⟨by rw [List.length_take, List.length_take, h.1], fun i v hv => ?_⟩
  have hi : i < k := by
    have := (List.getElem?_eq_some_iff.mp hv).1
    rw [List.length_take] at this
    omega
  rw [List.getElem?_take_of_lt hi] at hv
  obtain ⟨c, p, a, t, u, e, e', hm⟩ := h.2 i v hv
  exact ⟨c, p, a, t, u, by rw [List.getElem?_take_of_lt hi]; exact e, e', hm⟩
/-- the length of the first k items' texts -/
def prKey (cs : List (Nat × Str)) (k : Nat) : Int := ((catL ((cs.take k).map (·.2))).length : Int)
def prL (cs : List (Nat × Str)) (fs : List Int) (i : Nat) : List (Int × Int) := (List.range i).foldl (fun c j => kdfPut c (prKey cs (j + 1)) (2 + (fs.getD j 0).fmod 11)) []
theorem prL_succ (cs : List (Nat × Str)) (fs : List Int) (i : Nat) : prL cs fs (i + 1) = kdfPut (prL cs fs i) (prKey cs (i + 1)) (2 + (fs.getD i 0).fmod 11) := by
  unfold prL
  rw [List.range_succ, List.foldl_append]
  rfl
def prJ (cs : List (Nat × Str)) (fs : List Int) (i : Nat) (kvs : List (Int × Value)) : Prop := kvs.length ≤ i ∧ PyProof.V.FlatPairs PyData.int kvs (kdfD (prL cs fs i))
theorem prJ.start (cs : List (Nat × Str)) (fs : List Int) : prJ cs fs 0 [] := ⟨Nat.le_refl _, .nil⟩
theorem prJ.step {cs : List (Nat × Str)} {fs : List Int} {i : Nat} {kvs : List (Int × Value)} (h : prJ cs fs i kvs) {k v : Int} {t : Tok} (hk : k = prKey cs (i + 1)) (hv : v = 2 + (fs.getD i 0).fmod 11) : prJ cs fs (i + 1) (stored kvs k (.int v t)) := by
  subst hk hv
  refine ⟨Nat.le_trans (stored_length_le _ _ _) (Nat.succ_le_succ h.1), ?_⟩
  rw [prL_succ, ← kdfD_put]
  exact PyProof.V.FlatPairs.stored PyProof.V.same_int h.2 _ (PyProof.V.Flat.int _ _)
end Mine
end
section
open PySem PySem.W PyProof.Rows PyProof.Rows.LCg
set_option maxRecDepth 100000
set_option maxHeartbeats 20000000
namespace Mine
/-! ## a list comprehension over the signs of a text, each made a text -/
section
variable {prog : Program} {w : World} {A : Around} {E : Value → Shared → Prop} {s : Shared} {h₀ : Heap} {L : Addr} {m : Str → Option Value} {env : Env}
theorem strIter_walks (hh : A.handled = none) (I : Addr) (x : Str) (t : Tok) : Walks prog w A I [I] [I] x.cps.size (SignAt x) (fun i h => h.IsStrIter I (strIterType x) x t i) := by
  cases ha : x.cps.all (· < 128)
  · have e : strIterType x = "str_iterator" := by unfold strIterType; rw [ha]; rfl
    rw [e]; exact Walks.strWide hh I x t
  · have e : strIterType x = "str_ascii_iterator" := by unfold strIterType; rw [ha]; rfl
    rw [e]; exact Walks.strAscii hh I x t
def PEnd (h₀ : Heap) (L : Addr) (m : Str → Option Value) (s : Shared) (led : List (Addr × Obj)) (r : Str) (y : Value) (s' : Shared) : Prop := ∃ h' tk t, y = .str r t ∧ s' = { s with heap := h', toks := tk } ∧ Fr h₀ L h' m ∧ News h₀ L h' led
def PSrc (prog : Program) (w : World) (A : Around) (h₀ : Heap) (L : Addr) (m : Str → Option Value) (env : Env) (elt : Expr) (x : Str) (scope : Scope) (cl : List (Str × Addr)) (y : Str) (Q : Flow → Shared → Prop) (xv : Value) (s₁ : Shared) : Prop :=
  ∃ tx t news, ∃ g : Nat → Str, xv = .str tx t ∧ A.handled = none ∧ Fr h₀ L s₁.heap m ∧ News h₀ L s₁.heap news ∧ tx.cps.size ≤ 16777216 ∧
    (∀ c u I oI C oC D m₂ ys h tk (E' : Value → Shared → Prop), c ∈ tx.cps.toList → NsObj oC m₂ → m₂ x = some (.str ⟨#[c]⟩ u) → Fr h₀ L h m → News h₀ L h ((I, oI) :: (C, oC) :: (D, lst ys) :: news) →
      wpAny (model prog w) A (eval elt (compEnvC scope cl C env)) (PEnd h₀ L m { s₁ with heap := h, toks := tk } ((I, oI) :: (C, oC) :: (D, lst ys) :: news) (g c)) E' { s₁ with heap := h, toks := tk }) ∧
    ∀ D h tk ys, Fr h₀ L h (fun z => if z = y then some (.ref D) else m z) → News h₀ L h ((D, lst ys) :: news) → Off1 D news → StrsAre ys (tx.cps.toList.map g) → Q .next { s₁ with heap := h, toks := tk }
theorem Assign_ListComp_S {elt iter : Expr} {x y : Str} {px py : Pos} {scope : Scope} {cl : List (Str × Addr)} {pos spos : Pos} {Q : Flow → Shared → Prop} (F₀ : Fr h₀ L s.heap m) (hLe : env.locals = L)
    (hsw : swapsWith (.ListComp elt [⟨.Name x px, iter, [], 0⟩] scope pos) (some (.Name y py)) spos.line env = pure true)
    (hclos : closureFor scope env = pure cl) (hcell : ∀ z ∈ scope.names, z.2 ≠ .cell) (hkind : scope.kind = .function)
    (hnames : ∀ z ∈ scope.names, z.2 = .local → scope.names.lookup z.1 = some .local) (hx : scope.names.lookup x = some .local)
    (hy : env.kindOf y = some .local) (hp : (env.scope.kind == .class || (env.scope.kind == .module && env.locals != env.globals)) = false)
    (h : wpAny (model prog w) A (eval iter env) (PSrc prog w A h₀ L m env elt x scope cl y Q) E s)
    (hs : ∀ x, foldedSetIterable iter env x = pure x := by intro _; rfl) :
    wpAny (model prog w) A (exec (.Assign [.Name y py] (.ListComp elt [⟨.Name x px, iter, [], 0⟩] scope pos) spos) env) Q E s := by
  subst hLe
  rw [exec_Assign_Name_used _ _ _ _ hsw]
  refine wpAny_bind (wpAny_standAt (wpAny_bind ?_))
  show wpAny _ A (do let _ ← comprehension (.ListComp elt [⟨.Name x px, iter, [], 0⟩] scope pos) scope env _ (newList []) false (eval iter env) (some (assign (.Name y py) env))) _ _ s
  refine wpAny_bind (wpAny_mono (wpAny_comprehension_free (use := some (assign (.Name y py) env)) (Q := fun _ s' => Q .next s') rfl hs hclos hkind hnames
    (wpAny_mono h (fun xv s₁ h₁ => ?_) fun _ _ e => e)) (fun _ s' hq => wpAny_pure (wpAny_pure hq)) fun _ _ e => e)
  obtain ⟨tx, t, news, g, rfl, hh, F, N, hsz, turn, fin⟩ := h₁
  refine wpAny_pyIter_strU ?_
  refine block_U (S := fun _ => True) (Fin := fun ys nw => nw = news ∧ StrsAre ys (tx.cps.toList.map g)) (strIter_walks hh s₁.heap.objs.size tx t) (by rw [sizeLine_eq]; exact hsz) (fun i h st => ⟨_, st.choose_spec.1⟩) (fun i h h' o nw st e e' _ _ _ => ?_) hcell hkind hx
    ⟨_, Heap.get?_push_size _ rfl, rfl, rfl⟩ (fun b hb => ?_) (F.keeps fun _ _ e => Heap.get?_push_of_some _ e) (N.grown fun _ _ e => Heap.get?_push_of_some _ e) (Nat.ne_of_lt F.ns.lt) (next_is_new F)
    (fun p hp => Nat.ne_of_lt (Heap.lt_size (N p hp).1)) True.intro ?_ ?_
  · obtain ⟨o', q, r⟩ := st
    rw [e] at q
    cases q
    exact ⟨o, e', r⟩
  · rw [List.mem_singleton.mp hb]
    show s₁.heap.objs.size < (s₁.heap.push _).objs.size
    rw [Heap.size_push]; exact Nat.lt_succ_self _
  · refine rest_inv tx.cps.size (fun i ys nw => nw = news ∧ StrsAre ys ((tx.cps.toList.map g).take i)) (fun i v ys nw hin hP hJ I oI C oC D m₂ h tk E' hC hx' F' N' off ne => ?_) (fun ys nw hJ => ?_) _ 0 [] news (by omega) ⟨rfl, by rw [List.take_zero]; exact .nil⟩
    · obtain ⟨rfl, hJ⟩ := hJ
      obtain ⟨c, u, hc, rfl⟩ := hP
      have hc' : tx.cps.toList[i]? = some c := by rw [Array.getElem?_toList]; exact hc
      refine wpAny_mono (turn c u I oI C oC D m₂ ys h tk E' (List.mem_of_getElem? hc') hC hx' F' N') (fun yv s₂ h₂ => ?_) fun _ _ e => e
      obtain ⟨h', tk', t', rfl, rfl, F₂, N₂⟩ := h₂
      refine ⟨h', tk', nw, rfl, F₂, N₂, off, True.intro, rfl, ?_⟩
      have e : (tx.cps.toList.map g).take (i + 1) = (tx.cps.toList.map g).take i ++ [g c] := by rw [List.take_add_one, List.getElem?_map, hc']; rfl
      rw [e]
      exact strsAre_snoc hJ _ _
    · refine ⟨hJ.1, ?_⟩
      have := hJ.2
      rwa [List.take_of_length_le (by rw [List.length_map]; simp)] at this
  · intro D C h tk m' ys nw F' N' o1 hn' hC₀ hD₀ hCL hDL hCD offC hJ
    obtain ⟨rfl, hJ⟩ := hJ
    show wpAny _ A (assign (.Name y py) env (.ref D)) _ _ _
    refine wpAny_assign_Name (wpAny_storeName_local hy F'.ns (fun h₂ hn₂ hs₂ => ?_) hp)
    have hL₀ : h₀.get? env.locals = none := Heap.get?_none_of_le F'.above
    have F₂ : Fr h₀ env.locals h₂ (fun z => if z = y then some (.ref D) else m z) := ⟨hn₂, fun b o e => hs₂.extBut b o (fun q => by rw [q, hL₀] at e; cases e) (F'.keep b o e), F'.above⟩
    refine ⟨m', hn'.sameBut hs₂ hCL, fun h'' hs'' => fin D h'' _ ys (F₂.change hs'' hCL hC₀) (fun p hp => ?_) o1 hJ⟩
    have z : h₂.get? p.1 = some p.2 := hs₂.extBut _ _ (N' p hp).2.1 (N' p hp).1
    refine ⟨hs''.extBut _ _ ?_ z, (N' p hp).2⟩
    rcases List.mem_cons.mp hp with rfl | hp
    · exact Ne.symm hCD
    · exact offC p hp
end
/-! ## small steps of law -/
theorem slice_items {prog : Program} {w : World} {A : Around} {E : Value → Shared → Prop} {s : Shared} {h₀ : Heap} {L l : Addr} {m : Str → Option Value} {news base : List (Addr × Obj)} {value slice : PySem.Expr} {vs : List Value} {cs : List (Nat × Str)} {n : Nat} {y : Int} {t : Tok} {Q : Value → Shared → Prop}
    (F : Fr h₀ L s.heap m) (N : News h₀ L s.heap news) (hm : (l, PySem.W.listOf vs.toArray n) ∈ news) (hi : ItemsAre base vs cs) (hok : ItemsOk cs) (hl : cs.length ≤ 6) (h0 : 0 ≤ y)
    (h : ∀ D h', Fr h₀ L h' m → News h₀ L h' ((D, PySem.W.listOf (vs.take y.toNat).toArray 0) :: news) → (∀ p ∈ news, p.1 < D) → ItemsAre base (vs.take y.toNat) (cs.take y.toNat) → (cs.take y.toNat).length ≤ 100 → (((cs.take y.toNat).map (·.2)).map (·.length)).sum ≤ 1000 → Q (.ref D) { s with heap := h' })
    (hs : subscripted slice false (.ref l) (.ref s.heap.objs.size) = operate [.ref s.heap.objs.size, .ref l] (getItem (.ref l) (.ref s.heap.objs.size)) := by with_unfolding_all rfl) (ht : ∀ r, letTemporaryGo value (.ref l) r = pure () := by intro _; rfl) :
    wpAny (model prog w) A (subscriptTail value slice (.ref l) (.ref s.heap.objs.size)) Q E { s with heap := s.heap.push { cls := .type "slice", data := .fields #[.none, .int y t, .none] } } := by
  refine kmk_slice F N (News.isList N hm) .none (.int y t) (fun D h' F' N' l1 => ?_) hs ht (by rw [List.size_toArray, hi.1]; exact Nat.le_trans hl (Nat.le_of_ble_eq_true rfl))
  rw [pick_upto vs h0] at N'
  exact h D h' F' N' l1 (hi.take _) (by rw [List.length_take]; omega) (hok.sum hl _)
theorem len_cat {prog : Program} {w : World} {A : Around} {E : Value → Shared → Prop} {s : Shared} {ss : List Str} {t : Tok} {Q : Value → Shared → Prop} (hs : (ss.map (·.length)).sum ≤ 1000) (h : Q (.int ((catL ss).length : Int) (s.toks + 1)) { s with toks := s.toks + 1 + 1 }) :
    wpAny (model prog w) A (call (.builtin "len") [.str (catL ss) t]) Q E s := P.len_str (by rw [cat_len]; omega) h
theorem news_drop2 {h₀ h : Heap} {L : Addr} {a b : Addr × Obj} {r : List (Addr × Obj)} (N : News h₀ L h (a :: b :: r)) : News h₀ L h (a :: r) := fun p hp => N p (by
  rcases List.mem_cons.mp hp with rfl | hp
  · exact .head _
  · exact .tail _ (.tail _ hp))
def ligS : List Str := [Str.ofString "ff", Str.ofString "fi", Str.ofString "fl", Str.ofString "ffi", Str.ofString "ffl", Str.ofString "st"]
theorem strs_lig {us : List Value} (h : StrsAre us opsL) (t1 t2 t3 t4 t5 t6 : Tok) : StrsAre (us ++ [.str (Str.ofString "ff") t1, .str (Str.ofString "fi") t2, .str (Str.ofString "fl") t3, .str (Str.ofString "ffi") t4, .str (Str.ofString "ffl") t5, .str (Str.ofString "st") t6]) (opsL ++ ligS) :=
  StrsAre.append' h (.cons _ _ (.cons _ _ (.cons _ _ (.cons _ _ (.cons _ _ (.cons _ _ .nil))))))
end Mine
end
section
open PySem PySem.W PyProof.Rows
set_option maxRecDepth 100000
namespace Mine
/-! ## the pure law, the rest: over lists of code points -/
def blk (q : Int) : List Nat → List (Int × Nat)
  | [] => []
  | c :: r => (q, c) :: r.map fun d => (0, d)
def fullT (tx : Nat → List Nat) (q : Nat → Int) : Nat → List (Int × Nat)
  | 0 => blk 0 (tx 0)
  | k + 1 => fullT tx q k ++ blk (q k) (tx (k + 1))
def wW (tx : Nat → List Nat) (q : Nat → Int) : Nat → List (List Nat × Int)
  | 0 => [(tx 0, 1)]
  | k + 1 => (wW tx q k).flatMap fun p => [(p.1 ++ tx (k + 1), p.2 * 1), (p.1 ++ 10 :: tx (k + 1), p.2 * q k)]
def sumS (ws : List (List Nat × Int)) (g : List Nat → Int) : Int := (ws.map fun p => p.2 * g p.1).sum
theorem blk_snd (q : Int) (t : List Nat) : (blk q t).map (·.2) = t := by
  cases t with
  | nil => rfl
  | cons c r => simp [blk, Function.comp_def]
theorem sumM_append : ∀ (r B : List (Int × Nat)) (f : List Nat → Int), sumM (r ++ B) f = sumM r fun y => sumM B fun z => f (y ++ z)
  | [], B, f => rfl
  | (p, c) :: r, B, f => by
    show sumM (r ++ B) (fun y => f (c :: y)) + p * sumM (r ++ B) (fun y => f (10 :: c :: y)) = _
    rw [sumM_append r B, sumM_append r B]
    rfl
theorem sumM_zeros : ∀ (r : List Nat) (f : List Nat → Int), sumM (r.map fun d => ((0 : Int), d)) f = f r
  | [], f => rfl
  | d :: r, f => by
    show sumM (r.map fun d => ((0 : Int), d)) (fun y => f (d :: y)) + 0 * _ = _
    rw [sumM_zeros r]
    simp
theorem sumM_blk (q : Int) {t : List Nat} (h : t ≠ []) (f : List Nat → Int) : sumM (blk q t) f = f t + q * f (10 :: t) := by
  cases t with
  | nil => exact absurd rfl h
  | cons c r =>
    show sumM (r.map fun d => ((0 : Int), d)) (fun y => f (c :: y)) + q * sumM (r.map fun d => ((0 : Int), d)) (fun y => f (10 :: c :: y)) = _
    rw [sumM_zeros, sumM_zeros]
theorem sumM_add : ∀ (r : List (Int × Nat)) (f g : List Nat → Int), sumM r (fun y => f y + g y) = sumM r f + sumM r g
  | [], f, g => rfl
  | (p, c) :: r, f, g => by
    show sumM r (fun y => f (c :: y) + g (c :: y)) + p * sumM r (fun y => f (10 :: c :: y) + g (10 :: c :: y)) = _
    rw [sumM_add r, sumM_add r, Int.mul_add]
    show _ = (sumM r (fun y => f (c :: y)) + p * sumM r (fun y => f (10 :: c :: y))) + (sumM r (fun y => g (c :: y)) + p * sumM r (fun y => g (10 :: c :: y)))
    omega
theorem sumS_flat (q : Int) (t : List Nat) (g : List Nat → Int) : ∀ ws : List (List Nat × Int), sumS (ws.flatMap fun p => [(p.1 ++ t, p.2 * 1), (p.1 ++ 10 :: t, p.2 * q)]) g = sumS ws fun x => g (x ++ t) + q * g (x ++ 10 :: t)
  | [] => rfl
  | p :: r => by
    have ih := sumS_flat q t g r
    unfold sumS at ih ⊢
    rw [List.flatMap_cons, List.map_append, List.sum_append, ih, List.map_cons, List.sum_cons]
    congr 1
    simp only [List.map_cons, List.map_nil, List.sum_cons, List.sum_nil, Int.mul_one, Int.add_zero, Int.mul_add, Int.mul_assoc]
theorem fullT_ne (tx : Nat → List Nat) (q : Nat → Int) (h0 : tx 0 ≠ []) : ∀ k, ∃ c r, fullT tx q k = (0, c) :: r
  | 0 => by
    cases e : tx 0 with
    | nil => exact absurd e h0
    | cons c r => exact ⟨c, _, by rw [fullT, e]; rfl⟩
  | k + 1 => by
    obtain ⟨c, r, e⟩ := fullT_ne tx q h0 k
    exact ⟨c, r ++ blk (q k) (tx (k + 1)), by rw [fullT, e]; rfl⟩
/-- the sum over all ways, as sumM over the text's places -/
theorem sumS_full (tx : Nat → List Nat) (q : Nat → Int) (n : Nat) (hne : ∀ j ≤ n, tx j ≠ []) : ∀ k ≤ n, ∀ (g : List Nat → Int) c r, fullT tx q k = (0, c) :: r → sumS (wW tx q k) g = sumM r fun y => g (c :: y)
  | 0, _, g, c, r, e => by
    rw [fullT] at e
    cases e0 : tx 0 with
    | nil => exact absurd e0 (hne 0 (Nat.zero_le _))
    | cons d s =>
      rw [e0] at e
      obtain ⟨h1, h2⟩ := List.cons.inj e
      have h3 : d = c := (Prod.mk.inj h1).2
      subst h3 h2
      rw [sumM_zeros]
      show ((wW tx q 0).map fun p => p.2 * g p.1).sum = _
      rw [wW, e0]
      simp
  | k + 1, hk, g, c, r, e => by
    obtain ⟨c', r', e'⟩ := fullT_ne tx q (hne 0 (Nat.zero_le _)) k
    rw [fullT, e', List.cons_append] at e
    obtain ⟨h1, h2⟩ := List.cons.inj e
    have h3 : c' = c := (Prod.mk.inj h1).2
    subst h3 h2
    rw [sumM_append, wW, sumS_flat, sumS_full tx q n hne k (by omega) _ c' r' e']
    refine sumM_congr r' fun y => ?_
    rw [sumM_blk _ (hne _ hk)]
    rfl
/-! ## the texts that come up -/
theorem wW_filter (tx : Nat → List Nat) (q : Nat → Int) (n : Nat) (h10 : ∀ j ≤ n, 10 ∉ tx j) : ∀ k ≤ n, ∀ p ∈ wW tx q k, p.1.filter (· != 10) = (fullT tx q k).map (·.2)
  | 0, _, p, hp => by
    rw [wW, List.mem_singleton] at hp
    subst hp
    rw [fullT, blk_snd]
    exact List.filter_eq_self.mpr fun a ha => by simpa using fun e : a = 10 => h10 0 (Nat.zero_le _) (e ▸ ha)
  | k + 1, hk, p, hp => by
    rw [wW] at hp
    obtain ⟨r, hr, hp⟩ := List.mem_flatMap.mp hp
    have ih := wW_filter tx q n h10 k (by omega) r hr
    have ht : (tx (k + 1)).filter (· != 10) = tx (k + 1) := List.filter_eq_self.mpr fun a ha => by simpa using fun e : a = 10 => h10 (k + 1) hk (e ▸ ha)
    rw [fullT, List.map_append, blk_snd, ← ih]
    simp only [List.mem_cons, List.not_mem_nil, or_false] at hp
    rcases hp with rfl | rfl
    · rw [List.filter_append, ht]
    · rw [List.filter_append, List.filter_cons, ht]; simp
theorem piece_pre {t : List Nat} (h : t ≠ []) : pieceOf t <+: t := by
  match t, h with
  | [c], _ => rw [piece1]; exact List.prefix_refl _
  | [c, d], _ =>
    rw [piece2]
    split
    · exact List.prefix_refl _
    · exact ⟨[d], rfl⟩
  | c :: d :: e :: y, _ =>
    rw [piece3]
    split
    · exact ⟨y, rfl⟩
    · split
      · exact ⟨e :: y, rfl⟩
      · exact ⟨d :: e :: y, rfl⟩
theorem one_ok (c : Nat) : ([c] : List Nat) = [10] ∨ OkPiece [c] := by
  by_cases e : c = 10
  · left; rw [e]
  · exact .inr (.inl ⟨c, rfl, e⟩)
theorem piece_ok {t : List Nat} (h : t ≠ []) : pieceOf t = [10] ∨ OkPiece (pieceOf t) := by
  match t, h with
  | [c], _ => rw [piece1]; exact one_ok c
  | [c, d], _ =>
    rw [piece2]
    split
    · exact .inr (.inr (by assumption))
    · exact one_ok c
  | c :: d :: e :: y, _ =>
    rw [piece3]
    split
    · exact .inr (.inr (by assumption))
    · split
      · exact .inr (.inr (by assumption))
      · exact one_ok c
theorem ok_no10 {p : List Nat} (h : OkPiece p) : 10 ∉ p := by
  rcases h with ⟨c, rfl, hc⟩ | h
  · simpa using fun e : 10 = c => hc e.symm
  · exact (look_facts h).1
theorem readP_facts : ∀ (n : Nat) (t : List Nat), t.length ≤ n → (∀ p ∈ readP t, OkPiece p) ∧ (readP t).flatten = t.filter (· != 10) := by
  intro n
  induction n with
  | zero =>
    intro t h
    have : t = [] := List.eq_nil_of_length_eq_zero (by omega)
    subst this
    rw [readP_nil]
    exact ⟨fun _ h => absurd h List.not_mem_nil, rfl⟩
  | succ n ih =>
    intro t h
    by_cases e : t = []
    · subst e
      rw [readP_nil]
      exact ⟨fun _ h => absurd h List.not_mem_nil, rfl⟩
    · have hl := pieceOf_len e
      obtain ⟨i1, i2⟩ := ih (t.drop (pieceOf t).length) (by rw [List.length_drop]; omega)
      rw [readP_step e]
      obtain ⟨s, hs⟩ := piece_pre e
      have hd : t.drop (pieceOf t).length = s := by
        have := congrArg (List.drop (pieceOf t).length) hs
        rw [List.drop_left] at this
        exact this.symm
      rw [hd] at i1 i2 ⊢
      rcases piece_ok e with hp | hp
      · rw [if_pos hp, List.nil_append]
        refine ⟨i1, ?_⟩
        conv => rhs; rw [← hs, hp]
        rw [i2, List.filter_append]
        rfl
      · have hn : pieceOf t ≠ [10] := fun e => ok_no10 hp (by rw [e]; simp)
        rw [if_neg hn]
        refine ⟨fun p h => ?_, ?_⟩
        · rcases List.mem_append.mp h with h | h
          · rw [List.mem_singleton.mp h]; exact hp
          · exact i1 p h
        · conv => rhs; rw [← hs]
          rw [List.flatten_append, i2, List.filter_append]
          congr 1
          rw [List.flatten_cons, List.flatten_nil, List.append_nil]
          exact (List.filter_eq_self.mpr fun a ha => by simpa using fun e : a = 10 => ok_no10 hp (e ▸ ha)).symm
end Mine
end
section
open PySem PySem.W PyProof.Rows
set_option maxRecDepth 100000
set_option maxHeartbeats 20000000
namespace Mine
/-! ## contracts at a caller whose ledger is longer -/
section
variable {w : World} {f : Addr} {vs : List Value} {news : List (Addr × Obj)} {q q2 q3 : Addr × Obj} {d u : Nat} {Post : Value → List (Addr × Obj) → Prop} {val : Tok → Value}
    {p : Program} {loose : List Str} {mean : ExcName → Option Value} {mg mb : Str → Option Value}
    {dp un : Nat} {gd : Option (List Code)} {cn : Str} {cs : Scope} {a : Addr} {ccd : Value} {cl : List (Str × Addr)} {outer : List Env} {A₀ : Around} {base h₀ : Heap} {L : Addr} {m : Str → Option Value} {s : Shared} {Q E : Value → Shared → Prop}
theorem Spec.use2 (S : Spec w f vs (q :: q2 :: news) d u Post)
    (B : Below A₀ base outer h₀) (F : Fr h₀ L s.heap m) (X : (K w.params).In h₀) (N : News h₀ L s.heap news) (hq : q ∈ news) (hq2 : q2 ∈ news) (T : Top p loose mean mg mb h₀) (hk : cs.kind = .function) (hd : dp + d < recursionLimit) (hu : un + u < cLine)
    (h : ∀ (v : Value) (new : List (Addr × Obj)) (h' : Heap) (tk' : Nat), Post v new → Fr h₀ L h' m → News h₀ L h' (new ++ news) → Q v { s with heap := h', toks := tk' }) :
    wpAny (model PySem.Challenge.rw_pg0280_01.prog w) (ktrTop dp un gd cn cs L a ccd cl outer) (call (.ref f) vs) Q E s :=
  S.use B F X (news_cons (news_cons N hq2) (.tail _ hq)) T hk hd hu fun v new h' tk' P F' N' => h v new h' tk' P F' fun p hp => N' p ((List.mem_append.mp hp).elim (List.mem_append_left _) fun h => List.mem_append_right _ (.tail _ (.tail _ h)))
theorem Spec.useT3 (S : Spec w f vs (q :: q2 :: q3 :: news) d u (fun v new => (∃ t, v = val t) ∧ new = []))
    (B : Below A₀ base outer h₀) (F : Fr h₀ L s.heap m) (X : (K w.params).In h₀) (N : News h₀ L s.heap news) (hq : q ∈ news) (hq2 : q2 ∈ news) (hq3 : q3 ∈ news) (T : Top p loose mean mg mb h₀) (hk : cs.kind = .function) (hd : dp + d < recursionLimit) (hu : un + u < cLine)
    (h : ∀ (t : Tok) (h' : Heap) (tk' : Nat), Fr h₀ L h' m → News h₀ L h' news → Q (val t) { s with heap := h', toks := tk' }) :
    wpAny (model PySem.Challenge.rw_pg0280_01.prog w) (ktrTop dp un gd cn cs L a ccd cl outer) (call (.ref f) vs) Q E s :=
  S.useT B F X (news_cons (news_cons (news_cons N hq3) (.tail _ hq2)) (.tail _ (.tail _ hq))) T hk hd hu fun t h' tk' F' N' => h t h' tk' F' fun p hp => N' p (.tail _ (.tail _ (.tail _ hp)))
end
theorem ItemsAre.mono {base base' : List (Addr × Obj)} {vs : List Value} {cs : List (Nat × Str)} (h : ItemsAre base vs cs) (hb : ∀ p ∈ base, p ∈ base') : ItemsAre base' vs cs :=
  ⟨h.1, fun i v hv => by obtain ⟨c, p, a, t, u, e, e', hm⟩ := h.2 i v hv; exact ⟨c, p, a, t, u, e, e', hb _ hm⟩⟩
section
variable {prog : Program} {w : World} {A : Around} {E : Value → Shared → Prop} {s : Shared} {env : Env} {h₀ : Heap} {target : PySem.Expr} {body : List Stmt} {Q : Flow → Shared → Prop}
/-- a loop over a dict's keys that leaves the ledger as it stands -/
def keepJ (stored : List Str) (m₀ : Str → Option Value) (news : List (Addr × Obj)) (m : Str → Option Value) (nx : List (Addr × Obj)) : Prop := nx = news ∧ ∀ z, stored.contains z = false → m z = m₀ z
theorem loop_dictC {K : Type} [DecidableEq K] {knd : KeyKind prog w K} {d : Addr} {o : Obj} {kvs : List (K × Value)} {m₀ : Str → Option Value} {news : List (Addr × Obj)} (stored : List Str)
    (hh : A.handled = none) (lo : (d == sysModules) = false) (hm : (d, o) ∈ news) (ho : o.IsDictOf knd kvs) (F : Fr h₀ env.locals s.heap m₀) (N : News h₀ env.locals s.heap news)
    (turn : ∀ (i : Nat) (v : Value) (m₁ : Str → Option Value) (h : Heap) (tk : Nat) (own : List (Addr × Obj)), (∃ k x, kvs[i]? = some (k, x) ∧ knd.is k v = true) → OwnOff own (news.map (·.1)) → Fr h₀ env.locals h (fun z => if stored.contains z then m₁ z else m₀ z) → News h₀ env.locals h (news ++ own) →
      wpAny (model prog w) A (assign target env v) (fun _ s₃ => wpAny (model prog w) A (execs body env) (InvPostG h₀ env.locals (keepJ stored m₀ news) own { s with heap := h, toks := tk } Q) E s₃) E { s with heap := h, toks := tk })
    (done : ∀ (m₁ : Str → Option Value) (h : Heap) (tk : Nat), Fr h₀ env.locals h (fun z => if stored.contains z then m₁ z else m₀ z) → News h₀ env.locals h news → Q .next { s with heap := h, toks := tk }) :
    wpAny (model prog w) A (pyIter (.ref d)) (fun it s₂ => TurnsAt prog w A h₀ env target body Q E it s₂) E s := by
  refine loop_dict (knd := knd) (fun _ => keepJ stored m₀ news) hh lo (Heap.dictOf_iff.mpr ⟨o, (N _ hm).1, ho⟩) (fun e => (N _ hm).2.1 e.symm) (.inr ⟨o, fun i m nx h => h.1 ▸ hm⟩) F N ⟨rfl, fun _ _ => rfl⟩ ?_ ?_
  · rintro i v m₁ nx h tk own hv hoff ⟨rfl, hz⟩ F' N'
    exact turn i v m₁ h tk own hv hoff (fr_stored hz F') N'
  · rintro m₁ nx h tk ⟨rfl, hz⟩ F' N'
    exact done m₁ h tk (fr_stored hz F') N'
end
theorem keepJ.fin {h₀ h' : Heap} {L : Addr} {stored : List Str} {m₀ m' : Str → Option Value} {news all own : List (Addr × Obj)} {s₁ : Shared} {tk : Nat} (F : Fr h₀ L h' m') (N : News h₀ L h' all) (hm : ∀ z, stored.contains z = false → m' z = m₀ z) (hOff : OwnOff own (news.map (·.1)))
    (h1 : ∀ p ∈ news ++ own, p ∈ all) : InvEndG h₀ L (keepJ stored m₀ news) own s₁ { s₁ with heap := h', toks := tk } :=
  InvEndG.intro (nx := news) F N ⟨rfl, hm⟩ hOff (fun p hp => h1 p (List.mem_append_left _ hp)) (fun p hp => h1 p (List.mem_append_right _ hp))
theorem key_at {kvs : List (Str × Value)} {c : List (Str × Int)} {i : Nat} {k : Str} {x : Value} (hf : PyProof.V.FlatPairs PyData.str kvs (kdpD c)) (h : kvs[i]? = some (k, x)) : kdpHas c k = true := by
  obtain ⟨dv, hD, _⟩ := hf.at h
  unfold kdpD at hD
  rw [List.getElem?_map] at hD
  cases e : c[i]? with
  | none => rw [e] at hD; cases hD
  | some p =>
    rw [e] at hD
    injection hD with hD; injection hD with h1 h2; injection h1 with h1
    unfold kdpHas
    rw [List.any_eq_true]
    exact ⟨p, List.mem_of_getElem? e, decide_eq_true h1⟩
/-! ## the pure law, as law asks for it -/
theorem prices_small (cs : List (Nat × Str)) (fs : List Int) : ∀ n k, Spec.lookup (.int k) (kdfD (prL cs fs n)) = none ∨ ∃ v, Spec.lookup (.int k) (kdfD (prL cs fs n)) = some (.int v) ∧ 0 ≤ v ∧ v ≤ 12 := by
  have key : ∀ n, ∀ p ∈ prL cs fs n, 0 ≤ p.2 ∧ p.2 ≤ 12 := by
    intro n
    induction n with
    | zero => intro p hp; unfold prL at hp; simp at hp
    | succ n ih =>
      intro p hp
      rw [prL_succ] at hp
      have h0 := fmod_nn (fs.getD n 0) (b := 11) (by decide)
      have h1 := fmod_ltp (fs.getD n 0) (b := 11) (by decide)
      unfold kdfPut at hp
      split at hp
      · obtain ⟨q, hq, rfl⟩ := List.mem_map.mp hp
        split
        · exact ⟨by show (0 : Int) ≤ 2 + _; omega, by show 2 + (fs.getD n 0).fmod 11 ≤ 12; omega⟩
        · exact ih q hq
      · rcases List.mem_append.mp hp with hp | hp
        · exact ih p hp
        · rw [List.mem_singleton.mp hp]
          exact ⟨by show (0 : Int) ≤ 2 + _; omega, by show 2 + (fs.getD n 0).fmod 11 ≤ 12; omega⟩
  intro n k
  rw [kdfD_lookup]
  cases e : (prL cs fs n).find? fun p => decide (p.1 = k) with
  | none => exact .inl rfl
  | some p => exact .inr ⟨p.2, rfl, key n p (List.mem_of_find?_eq_some e)⟩
theorem ItemsOk.chars {cs : List (Nat × Str)} (h : ItemsOk cs) (i : Nat) : ∀ c ∈ (Mine.told (cAt cs i)).cps.toList, c ≤ 70000 := by
  unfold cAt
  rw [List.getD_eq_getElem?_getD]
  cases e : cs[i]? with
  | none => exact (by decide +kernel : ∀ c ∈ (Mine.told 0).cps.toList, c ≤ 70000)
  | some q =>
    have f := itemOk_facts (h i q.1 q.2 e)
    show ∀ c ∈ (Mine.told q.1).cps.toList, c ≤ 70000
    rw [f.1]
    intro c hc
    exact ((plainL_facts _ _ f.2.1).2.2 c hc).1
theorem cps_app (x y : Str) : (x ++ y).cps.toList = x.cps.toList ++ y.cps.toList := by rw [Str.cps_append]; simp
theorem wayL_chars (xs : List Int) {cs : List (Nat × Str)} (hc : ∀ i, ∀ c ∈ (told (cAt cs i)).cps.toList, c ≤ 70000) : ∀ k, ∀ p ∈ wayL xs cs k, ∀ c ∈ p.1.cps.toList, c ≤ 70000
  | 0, p, hp => by
    rw [wayL, List.mem_singleton] at hp
    rw [hp]
    exact hc 0
  | k + 1, p, hp => by
    rw [wayL] at hp
    unfold wayStep at hp
    obtain ⟨q, hq, hp⟩ := List.mem_flatMap.mp hp
    have h1 := wayL_chars xs hc k q hq
    have h2 := hc (k + 1)
    have e0 : ∀ c ∈ (Str.ofString "").cps.toList, c ≤ 70000 := by decide +kernel
    have e1 : ∀ c ∈ (Str.ofString "\n").cps.toList, c ≤ 70000 := by decide +kernel
    simp only [List.mem_cons, List.not_mem_nil, or_false] at hp
    intro c hc'
    rcases hp with rfl | rfl <;> simp only [cps_app, List.mem_append] at hc' <;> rcases hc' with (h | h) | h
    · exact h1 c h
    · exact e0 c h
    · exact h2 c h
    · exact h1 c h
    · exact e1 c h
    · exact h2 c h
theorem ways_facts (fs : List Int) {cs : List (Nat × Str)} (hok : ItemsOk cs) (h1 : 1 ≤ cs.length) (h6 : cs.length ≤ 6) :
    (wayL fs cs (cs.length - 1)).length ≤ 100 ∧ (∀ p ∈ wayL fs cs (cs.length - 1), p.1.length ≤ 100) ∧ ∀ p ∈ wayL fs cs (cs.length - 1), ∀ c ∈ p.1.cps.toList, c ≤ 70000 := by
  refine ⟨?_, fun p hp => ?_, wayL_chars fs hok.chars _⟩
  · rw [wayL_len]
    have : 2 ^ (cs.length - 1) ≤ 2 ^ 5 := Nat.pow_le_pow_right (by decide) (by omega)
    omega
  · have := wayL_short fs hok.told _ p hp
    omega
def lawS : List Str := opsL ++ ligS
end Mine
end
section
open PySem PySem.W PyProof.Rows
set_option maxRecDepth 100000
namespace Mine
/-! ## looks into a table that a put has changed -/
section
variable {K : Type} [DecidableEq K]
theorem find_keep (k j : K) (v : Int) (h : j ≠ k) : ∀ c : List (K × Int), ((c.map fun p => if decide (p.1 = k) = true then (p.1, v) else p).find? fun p => decide (p.1 = j)) = c.find? fun p => decide (p.1 = j)
  | [] => rfl
  | p :: r => by
    rw [List.map_cons, List.find?_cons, List.find?_cons, find_keep k j v h r]
    by_cases e : p.1 = k
    · have e' : ¬ p.1 = j := fun q => h (q.symm.trans e)
      rw [if_pos (decide_eq_true e), decide_eq_false e']
    · rw [if_neg (by simpa using e)]
theorem find_new (k : K) (v : Int) : ∀ c : List (K × Int), (c.any fun p => decide (p.1 = k)) = true → (((c.map fun p => if decide (p.1 = k) = true then (p.1, v) else p).find? fun p => decide (p.1 = k)).map (·.2)) = some v
  | [], h => by simp at h
  | p :: r, h => by
    rw [List.map_cons, List.find?_cons]
    by_cases e : p.1 = k
    · rw [if_pos (decide_eq_true e), decide_eq_true (show (p.1, v).1 = k from e)]
      rfl
    · rw [if_neg (by simpa using e), decide_eq_false e]
      refine find_new k v r ?_
      rw [List.any_cons, decide_eq_false e] at h
      simpa using h
theorem look_put (k j : K) (v : Int) (c : List (K × Int)) :
    ((((if c.any (fun p => decide (p.1 = k)) then c.map (fun p => if decide (p.1 = k) then (p.1, v) else p) else c ++ [(k, v)]).find? fun p => decide (p.1 = j)).map (·.2)).getD 0) = if j = k then v else ((c.find? fun p => decide (p.1 = j)).map (·.2)).getD 0 := by
  by_cases ha : (c.any fun p => decide (p.1 = k)) = true
  · rw [if_pos ha]
    by_cases h : j = k
    · subst h
      rw [if_pos rfl, find_new j v c ha]
      rfl
    · rw [if_neg h, find_keep k j v h]
  · rw [if_neg ha, List.find?_append]
    by_cases h : j = k
    · subst h
      have hn : (c.find? fun p => decide (p.1 = j)) = none := by
        rw [List.find?_eq_none]
        intro p hp
        intro e
        exact ha (List.any_eq_true.mpr ⟨p, hp, e⟩)
      rw [if_pos rfl, hn]
      simp
    · rw [if_neg h]
      cases e : (c.find? fun p => decide (p.1 = j)) with
      | some p => simp
      | none =>
        have : ¬ k = j := fun q => h q.symm
        simp [this]
end
theorem kdpLook_put (c : List (Str × Int)) (k j : Str) (v : Int) : kdpLook (kdpPut c k v) j 0 = if j = k then v else kdpLook c j 0 := look_put k j v c
theorem kdfLook_put (c : List (Int × Int)) (k j : Int) (v : Int) : kdfLook (kdfPut c k v) j 0 = if j = k then v else kdfLook c j 0 := look_put k j v c
/-! ## the totals as a sum -/
def lst2 (p : Str × Int) : List Nat × Int := (p.1.cps.toList, p.2)
theorem tot_look (row : Str) : ∀ (ws : List (Str × Int)) (c : List (Str × Int)), kdpLook (ws.foldl totS c) row 0 = kdpLook c row 0 + sumS (ws.map lst2) fun x => if readL x = row.cps.toList then 1 else 0
  | [], c => by simp [sumS]
  | p :: r, c => by
    rw [List.foldl_cons, tot_look row r]
    unfold totS
    rw [kdpLook_put]
    have e : (row = rd p.1) ↔ (readL p.1.cps.toList = row.cps.toList) := by
      constructor
      · intro h; rw [h]; rfl
      · intro h
        apply Str.ext'
        rw [← Array.toList_inj, ← h]
        rfl
    have hs : sumS ((p :: r).map lst2) (fun x => if readL x = row.cps.toList then 1 else 0) = p.2 * (if readL p.1.cps.toList = row.cps.toList then 1 else 0) + sumS (r.map lst2) fun x => if readL x = row.cps.toList then 1 else 0 := by
      unfold sumS
      rw [List.map_cons, List.map_cons, List.sum_cons]
      rfl
    rw [hs]
    by_cases h : row = rd p.1
    · rw [if_pos h, if_pos (e.mp h), ← h]; omega
    · rw [if_neg h, if_neg (fun q => h (e.mpr q))]; omega
theorem tot_has (row : Str) : ∀ (ws : List (Str × Int)) (c : List (Str × Int)), kdpHas (ws.foldl totS c) row = true → kdpHas c row = true ∨ ∃ p ∈ ws, row = rd p.1
  | [], c, h => .inl h
  | p :: r, c, h => by
    rw [List.foldl_cons] at h
    rcases tot_has row r _ h with h | ⟨q, hq, e⟩
    · unfold totS at h
      rw [kdpHas_put, Bool.or_eq_true, decide_eq_true_eq] at h
      rcases h with h | h
      · exact .inr ⟨p, .head _, h⟩
      · exact .inl h
    · exact .inr ⟨q, .tail _ hq, e⟩
/-! ## the items' texts -/
def txOf (cs : List (Nat × Str)) (j : Nat) : List Nat := (told (cAt cs j)).cps.toList
def qOf (fs : List Int) (k : Nat) : Int := 2 + (fs.getD k 0).fmod 11
theorem nl_cps : (Str.ofString "\n").cps.toList = [10] := by decide +kernel
theorem em_cps : (Str.ofString "").cps.toList = [] := by decide +kernel
theorem wayL_wW (fs : List Int) (cs : List (Nat × Str)) : ∀ k, (wayL fs cs k).map lst2 = wW (txOf cs) (qOf fs) k
  | 0 => rfl
  | k + 1 => by
    rw [wayL, wW, ← wayL_wW fs cs k]
    unfold wayStep
    generalize wayL fs cs k = ws
    induction ws with
    | nil => rfl
    | cons p r ih =>
      rw [List.flatMap_cons, List.map_append, ih]
      show _ = List.flatMap _ (lst2 p :: List.map lst2 r)
      rw [List.flatMap_cons]
      congr 1
      simp only [List.map_cons, List.map_nil, lst2, cps_app, nl_cps, em_cps, List.append_nil, List.append_assoc, List.singleton_append, txOf, qOf]
def alphaL : List Nat := (plainL true).flatten
theorem alpha_all : ∀ b, ∀ p ∈ plainL b, ∀ c ∈ p, c ∈ alphaL := by decide +kernel
theorem item_at {cs : List (Nat × Str)} (hok : ItemsOk cs) {j : Nat} (hj : j < cs.length) : told (cAt cs j) = cs[j].2 ∧ txOf cs j ∈ plainL (decide (j = 0)) := by
  have f := itemOk_facts (hok j cs[j].1 cs[j].2 (List.getElem?_eq_getElem hj))
  have e : cAt cs j = cs[j].1 := by unfold cAt; simp [List.getD, hj]
  have e2 : told (cAt cs j) = cs[j].2 := by rw [e]; exact f.1
  exact ⟨e2, by unfold txOf; rw [e2]; exact f.2.1⟩
/-! ## symbols written out again -/
def toStr (p : List Nat) : Str := ⟨p.toArray⟩
theorem back_tab : ∀ e ∈ tabL, written (symOf e.1) = toStr e.1 := by decide +kernel
theorem back_one : ∀ c ∈ alphaL, written (symOf [c]) = toStr [c] := by decide +kernel
theorem back {p : List Nat} (h : OkPiece p) (ha : ∀ c ∈ p, c ∈ alphaL) : written (symOf p) = toStr p := by
  rcases h with ⟨c, rfl, _⟩ | h
  · exact back_one c (ha c (by simp))
  · obtain ⟨e, he, rfl⟩ := lookT_mem h
    exact back_tab e he
theorem toStr_inj {p q : List Nat} (h : toStr p = toStr q) : p = q := by
  have := congrArg (fun s : Str => s.cps.toList) h
  simpa [toStr] using this
end Mine
end
section
open PySem PySem.W PyProof.Rows
set_option maxRecDepth 100000
namespace Mine
/-! ## the prices at their places -/
def prAt (L : List (Int × Nat)) (i : Nat) : Int := (L[i]?.getD (0, 0)).1
theorem blk_at {q : Int} {t : List Nat} (h : t ≠ []) (i : Nat) : prAt (blk q t) i = if i = 0 then q else 0 := by
  cases t with
  | nil => exact absurd rfl h
  | cons c r =>
    cases i with
    | zero => rfl
    | succ i =>
      unfold prAt blk
      rw [List.getElem?_cons_succ, List.getElem?_map]
      cases r[i]? <;> rfl
theorem prAt_left {A B : List (Int × Nat)} {i : Nat} (h : i < A.length) : prAt (A ++ B) i = prAt A i := by unfold prAt; rw [List.getElem?_append_left h]
theorem prAt_right {A B : List (Int × Nat)} {i : Nat} (h : A.length ≤ i) : prAt (A ++ B) i = prAt B (i - A.length) := by unfold prAt; rw [List.getElem?_append_right h]
theorem blk_len (q : Int) (t : List Nat) : (blk q t).length = t.length := by rw [← List.length_map (f := (·.2)), blk_snd]
theorem prKey_succ {cs : List (Nat × Str)} (hok : ItemsOk cs) {k : Nat} (hk : k < cs.length) : prKey cs (k + 1) = prKey cs k + ((txOf cs k).length : Int) := by
  unfold prKey
  rw [cat_len, cat_len, List.take_add_one, List.getElem?_eq_getElem hk]
  simp only [Option.toList, List.map_append, List.sum_append, List.map_cons, List.map_nil, List.sum_cons, List.sum_nil]
  have : (txOf cs k).length = cs[k].2.length := by unfold txOf; rw [(item_at hok hk).1, len_toList]
  rw [this]
  omega
theorem full_len {cs : List (Nat × Str)} (hok : ItemsOk cs) (q : Nat → Int) : ∀ k, k < cs.length → ((fullT (txOf cs) q k).length : Int) = prKey cs (k + 1)
  | 0, hk => by
    rw [prKey_succ hok hk, fullT, blk_len]
    have : prKey cs 0 = 0 := by unfold prKey; rw [cat_len]; simp
    omega
  | k + 1, hk => by
    rw [prKey_succ hok hk, fullT, List.length_append, blk_len, ← full_len hok q k (by omega)]
    omega
theorem price_at {cs : List (Nat × Str)} (fs : List Int) (hok : ItemsOk cs) (hne : ∀ j < cs.length, txOf cs j ≠ []) : ∀ k, k < cs.length →
    (∀ i : Nat, i < (fullT (txOf cs) (qOf fs) k).length → kdfLook (prL cs fs k) (i : Int) 0 = prAt (fullT (txOf cs) (qOf fs) k) i) ∧ ∀ i : Nat, (fullT (txOf cs) (qOf fs) k).length ≤ i → kdfLook (prL cs fs k) (i : Int) 0 = 0
  | 0, hk => by
    refine ⟨fun i hi => ?_, fun i _ => rfl⟩
    rw [fullT, blk_at (hne 0 hk)]
    split <;> rfl
  | k + 1, hk => by
    obtain ⟨h1, h2⟩ := price_at fs hok hne k (by omega)
    have hl := full_len hok (qOf fs) k (by omega)
    have ht : 0 < (txOf cs (k + 1)).length := List.length_pos_iff.mpr (hne _ hk)
    have hb := blk_len (qOf fs k) (txOf cs (k + 1))
    refine ⟨fun i hi => ?_, fun i hi => ?_⟩
    · rw [prL_succ, kdfLook_put, fullT]
      by_cases e : (i : Int) = prKey cs (k + 1)
      · rw [if_pos e, prAt_right (by omega), blk_at (hne _ hk), if_pos (by omega)]
        rfl
      · rw [if_neg e]
        by_cases e2 : i < (fullT (txOf cs) (qOf fs) k).length
        · rw [prAt_left e2, h1 i e2]
        · rw [prAt_right (by omega), blk_at (hne _ hk), if_neg (by omega), h2 i (by omega)]
    · rw [fullT, List.length_append] at hi
      rw [prL_succ, kdfLook_put, if_neg (by omega), h2 i (by omega)]
/-! ## what the pieces tell, against _law_worth -/
theorem toStr_len (p : List Nat) : (toStr p).length = p.length := by rw [← len_toList]; rfl
theorem eq_str {x : Str} {l : List Nat} {t : String} (ht : (Str.ofString t).cps.toList = l) : (x == Str.ofString t) = decide (x.cps.toList = l) := by
  by_cases h : x = Str.ofString t
  · subst h; simp [ht]
  · have h' : ¬ x.cps.toList = l := fun e => h (by apply Str.ext'; rw [← Array.toList_inj, e, ht])
    rw [decide_eq_false h']
    simpa using h
theorem dots2 : (Str.ofString "..").cps.toList = [46, 46] := by decide +kernel
theorem dots1 : (Str.ofString ".").cps.toList = [46] := by decide +kernel
theorem dots3' : (Str.ofString "...").cps.toList = [46, 46, 46] := by decide +kernel
theorem worth_xy (pr : Int → Int) (S : Str → Bool) (hS : ∀ x, S x = (lookT x.cps.toList).isSome) : ∀ (P : List (List Nat)), P ≠ [] → (∀ p ∈ P, p ≠ []) → ∀ (L : List (Int × Nat)) (a l o : Int), L.length = P.flatten.length →
    (∀ i : Nat, i < L.length → pr (a + i) = prAt L i) → worthS pr S (P.map toStr) l o a = l * (xy P L).1 + o * (xy P L).2
  | [], h, _, _, _, _, _, _, _ => absurd rfl h
  | [one], _, _, L, a, l, o, _, _ => by
    rw [show xy [one] L = (1, 1) from by rw [xy]]
    show l + o = _
    omega
  | one :: two :: r, _, hp, L, a, l, o, hL, hpr => by
    have h2 : two ≠ [] := hp two (by simp)
    have hl2 : 0 < two.length := List.length_pos_iff.mpr h2
    rw [List.flatten_cons, List.flatten_cons, List.length_append, List.length_append] at hL
    have ih := worth_xy pr S hS (two :: r) (by simp) (fun p h => hp p (.tail _ h)) (L.drop one.length)
    have hq : ((L.drop one.length).headD (0, 0)).1 = pr (a + one.length) := by
      rw [hpr one.length (by omega)]
      unfold prAt
      congr 1
      rw [List.headD_eq_head?_getD, List.head?_drop]
    have hl : (L.drop one.length).length = (two :: r).flatten.length := by rw [List.length_drop, List.flatten_cons, List.length_append]; omega
    have hpr' : ∀ i : Nat, i < (L.drop one.length).length → pr (a + one.length + i) = prAt (L.drop one.length) i := by
      intro i hi
      rw [List.length_drop] at hi
      have := hpr (one.length + i) (by omega)
      unfold prAt at this ⊢
      rw [List.getElem?_drop, ← this]
      congr 1
      omega
    show worthS pr S (toStr two :: r.map toStr) (woStep pr S (toStr one) (toStr two) l o a).1 (woStep pr S (toStr one) (toStr two) l o a).2 (a + (toStr one).length) = _
    rw [toStr_len]
    have hw := ih (a + one.length) (woStep pr S (toStr one) (toStr two) l o a).1 (woStep pr S (toStr one) (toStr two) l o a).2 hl hpr'
    rw [List.map_cons] at hw
    rw [hw]
    have c1 : (toStr one ++ toStr two == Str.ofString "..") = decide (one ++ two = [46, 46]) := by rw [eq_str dots2, cps_app]; rfl
    have c2 : S (toStr one ++ Txt.slice (toStr two) none (some 1)) = (lookT (one ++ two.take 1)).isSome := by
      rw [hS, cps_app, slice_take (by decide)]; rfl
    have c3 : (toStr one == Str.ofString ".") = decide (one = [46]) := by rw [eq_str dots1]; rfl
    have c4 : (toStr two == Str.ofString "...") = decide (two = [46, 46, 46]) := by rw [eq_str dots3']; rfl
    generalize hX : (xy (two :: r) (L.drop one.length)).1 = X
    generalize hY : (xy (two :: r) (L.drop one.length)).2 = Y
    by_cases e1 : one ++ two = [46, 46]
    · have hxy : xy (one :: two :: r) L = (pr (a + one.length) * X + Y, pr (a + one.length) * X) := by rw [xy, if_pos e1, hq, hX, hY]
      rw [hxy]
      unfold woStep
      rw [c1, decide_eq_true e1, if_pos rfl, toStr_len]
      simp only [Int.mul_add, Int.add_mul, Int.mul_assoc, Int.mul_comm, Int.mul_left_comm]
      omega
    · by_cases e2 : must one two = true
      · have hxy : xy (one :: two :: r) L = (pr (a + one.length) * X, pr (a + one.length) * X) := by rw [xy, if_neg e1, if_pos e2, hq, hX]
        have hw2 : woStep pr S (toStr one) (toStr two) l o a = (pr (a + one.length) * (l + o), 0) := by
          unfold woStep
          rw [c1, decide_eq_false e1, if_neg (by decide), c2, c3, c4, toStr_len]
          unfold must at e2
          rw [Bool.or_eq_true, Bool.and_eq_true] at e2
          split
          · rfl
          · rename_i hn
            rcases e2 with e2 | e2
            · exact absurd e2 hn
            · rw [if_pos ⟨by simpa using e2.1, by simpa using e2.2⟩]
        rw [hxy, hw2]
        simp only [Int.mul_add, Int.add_mul, Int.mul_assoc, Int.mul_comm, Int.mul_left_comm]
        omega
      · have hxy : xy (one :: two :: r) L = ((1 + pr (a + one.length)) * X, (1 + pr (a + one.length)) * X) := by rw [xy, if_neg e1, if_neg e2, hq, hX]
        have hw2 : woStep pr S (toStr one) (toStr two) l o a = ((1 + pr (a + one.length)) * (l + o), 0) := by
          unfold woStep
          rw [c1, decide_eq_false e1, if_neg (by decide), c2, c3, c4, toStr_len]
          unfold must at e2
          rw [Bool.or_eq_true, Bool.and_eq_true, not_or] at e2
          rw [if_neg e2.1, if_neg (fun h => e2.2 ⟨by simpa using h.1, by simpa using h.2⟩)]
        rw [hxy, hw2]
        simp only [Int.mul_add, Int.add_mul, Int.mul_assoc, Int.mul_comm, Int.mul_left_comm, Int.mul_one, Int.one_mul]
        omega
theorem known1 : ∀ s ∈ lawS, (lookT s.cps.toList).isSome = true := by decide +kernel
theorem known2 : ∀ e ∈ tabL, toStr e.1 ∈ lawS := by decide +kernel
theorem known_is (x : Str) : among lawS lawS.length x = (lookT x.cps.toList).isSome := by
  unfold among
  rw [List.take_length]
  cases h : (lookT x.cps.toList).isSome with
  | true =>
    obtain ⟨e, he, h⟩ := lookT_mem h
    have hx : toStr e.1 = x := by apply Str.ext'; rw [← Array.toList_inj, ← h]; rfl
    exact List.any_eq_true.mpr ⟨x, hx ▸ known2 e he, by simp⟩
  | false =>
    rw [Bool.eq_false_iff]
    intro q
    obtain ⟨s, hs, e⟩ := List.any_eq_true.mp q
    have : s = x := by simpa using e
    subst this
    rw [known1 s hs] at h
    cases h
/-! ## the join -/
theorem sumS_congr {ws : List (List Nat × Int)} {f g : List Nat → Int} (h : ∀ p ∈ ws, f p.1 = g p.1) : sumS ws f = sumS ws g := by
  unfold sumS
  congr 1
  exact List.map_congr_left fun p hp => by rw [h p hp]
theorem full_alpha {tx : Nat → List Nat} (q : Nat → Int) (n : Nat) (h : ∀ j ≤ n, ∀ c ∈ tx j, c ∈ alphaL) : ∀ k ≤ n, ∀ c ∈ (fullT tx q k).map (·.2), c ∈ alphaL
  | 0, _, c, hc => by rw [fullT, blk_snd] at hc; exact h 0 (Nat.zero_le _) c hc
  | k + 1, hk, c, hc => by
    rw [fullT, List.map_append, blk_snd, List.mem_append] at hc
    rcases hc with hc | hc
    · exact full_alpha q n h k (by omega) c hc
    · exact h (k + 1) hk c hc
theorem full_cat {cs : List (Nat × Str)} (hok : ItemsOk cs) (q : Nat → Int) : ∀ k, k < cs.length → (fullT (txOf cs) q k).map (·.2) = (((cs.take (k + 1)).map (·.2)).map fun s => s.cps.toList).flatten
  | 0, hk => by
    rw [fullT, blk_snd, List.take_add_one, List.getElem?_eq_getElem hk]
    unfold txOf
    rw [(item_at hok hk).1]
    simp
  | k + 1, hk => by
    have e : cs.take (k + 1 + 1) = cs.take (k + 1) ++ [cs[k + 1]] := by rw [List.take_add_one, List.getElem?_eq_getElem hk]; rfl
    rw [fullT, List.map_append, blk_snd, full_cat hok q k (by omega), e, List.map_append, List.map_append, List.flatten_append]
    unfold txOf
    rw [(item_at hok hk).1]
    congr 1
    show _ = [cs[k + 1].2.cps.toList].flatten
    simp
theorem alpha_le : ∀ c ∈ alphaL, c ≤ 70000 := by decide +kernel
theorem flat_len : ∀ P : List (List Nat), (∀ p ∈ P, p ≠ []) → P.length ≤ P.flatten.length
  | [], _ => Nat.le_refl _
  | p :: r, h => by
    have := flat_len r fun q hq => h q (.tail _ hq)
    have h1 : 0 < p.length := List.length_pos_iff.mpr (h p (.head _))
    rw [List.flatten_cons, List.length_append, List.length_cons]
    omega
theorem OkPiece.len {p : List Nat} (h : OkPiece p) : 1 ≤ p.length ∧ p.length ≤ 3 := by
  rcases h.shape with ⟨c, rfl, _⟩ | ⟨c, d, rfl, _⟩ | ⟨c, d, e, rfl, _⟩ <;> simp
theorem law_pure (fs : List Int) {cs : List (Nat × Str)} (hok : ItemsOk cs) (h1 : 1 ≤ cs.length) (h6 : cs.length ≤ 6) {row : Str} (hr : kdpHas (totL (wayL fs cs (cs.length - 1))) row = true) :
    catL (row.cps.toList.map written) = catL (cs.map (·.2)) ∧
    kdpLook (totL (wayL fs cs (cs.length - 1))) row 0 = worthS (prOf (kdfD (prL cs fs (cs.length - 1)))) (among lawS lawS.length) (row.cps.toList.map written) 1 0 0 ∧
    (row.cps.toList.map written).length ≤ 100 ∧ (∀ x ∈ row.cps.toList.map written, x.length ≤ 100) ∧ (∀ c ∈ row.cps.toList, c ≤ 1114000) ∧ ((row.cps.toList.map written).map (·.length)).sum ≤ 1000 := by
  obtain ⟨n, hn⟩ : ∃ n, n = cs.length - 1 := ⟨_, rfl⟩
  rw [← hn] at hr ⊢
  have hj : ∀ j ≤ n, txOf cs j ∈ plainL (decide (j = 0)) := fun j hj => (item_at hok (by omega)).2
  have hf : ∀ j ≤ n, txOf cs j ≠ [] ∧ 10 ∉ txOf cs j ∧ ∀ c ∈ txOf cs j, c ∈ alphaL := fun j h => by
    have f := plainL_facts _ _ (hj j h)
    exact ⟨fun e => by rw [e] at f; simp at f, fun q => (f.2.2 10 q).2 rfl, alpha_all _ _ (hj j h)⟩
  have hfil := wW_filter (txOf cs) (qOf fs) n (fun j h => (hf j h).2.1) n (Nat.le_refl _)
  have hal := full_alpha (tx := txOf cs) (qOf fs) n (fun j h => (hf j h).2.2) n (Nat.le_refl _)
  -- every way's text: its pieces
  have hx : ∀ x ∈ (wW (txOf cs) (qOf fs) n).map (·.1), (∀ p ∈ readP x, OkPiece p) ∧ (readP x).flatten = (fullT (txOf cs) (qOf fs) n).map (·.2) ∧ (readP x).map (fun p => written (symOf p)) = (readP x).map toStr := by
    intro x hx
    obtain ⟨p, hp, rfl⟩ := List.mem_map.mp hx
    obtain ⟨a, b⟩ := readP_facts _ p.1 (Nat.le_refl _)
    rw [hfil p hp] at b
    refine ⟨a, b, List.map_congr_left fun q hq => back (a q hq) fun c hc => hal c ?_⟩
    rw [← b]
    exact List.mem_flatten.mpr ⟨q, hq, hc⟩
  obtain ⟨p0, hp0, hrow⟩ := (tot_has row _ [] hr).resolve_left (by simp [kdpHas])
  have hm0 : p0.1.cps.toList ∈ (wW (txOf cs) (qOf fs) n).map (·.1) := by
    rw [← wayL_wW, List.map_map]
    exact List.mem_map.mpr ⟨p0, hp0, rfl⟩
  obtain ⟨ok0, fl0, wr0⟩ := hx _ hm0
  generalize hP : readP p0.1.cps.toList = P at ok0 fl0 wr0
  have hrl : row.cps.toList = P.map symOf := by
    rw [hrow]
    show readL p0.1.cps.toList = _
    rw [readL_P _ _ (Nat.le_refl _), hP]
  have hw : row.cps.toList.map written = P.map toStr := by
    rw [hrl, List.map_map]
    exact wr0
  have hPne : ∀ p ∈ P, p ≠ [] := fun p h e => by have := (ok0 p h).len; rw [e] at this; simp at this
  obtain ⟨c, r, hfull⟩ := fullT_ne (txOf cs) (qOf fs) (hf 0 (Nat.zero_le _)).1 n
  have hP0 : P ≠ [] := by
    intro e
    rw [e, hfull] at fl0
    simp at fl0
  have hcat : catL (P.map toStr) = catL (cs.map (·.2)) := by
    unfold catL
    have e1 : ((P.map toStr).map fun s => s.cps.toList) = P := by
      rw [List.map_map]
      conv => rhs; rw [← List.map_id P]
      exact List.map_congr_left fun p _ => rfl
    rw [e1, fl0, full_cat hok (qOf fs) n (by omega), List.take_of_length_le (by omega)]
  have hsum : (((P.map toStr).map (·.length)).sum) ≤ 18 := by
    rw [← cat_len, hcat, cat_len]
    have := sum_le3 (cs := cs) hok.mem
    omega
  have hflen : P.flatten.length ≤ 18 := by
    have : P.flatten.length = ((P.map toStr).map (·.length)).sum := by
      rw [List.length_flatten, List.map_map]
      rfl
    omega
  rw [hw]
  refine ⟨hcat, ?_, ?_, ?_, ?_, by omega⟩
  · have hL : (fullT (txOf cs) (qOf fs) n).length = P.flatten.length := by rw [fl0, List.length_map]
    have hpr : ∀ i : Nat, i < (fullT (txOf cs) (qOf fs) n).length → prOf (kdfD (prL cs fs n)) (0 + i) = prAt (fullT (txOf cs) (qOf fs) n) i := by
      intro i hi
      rw [← (price_at fs hok (fun j h => (hf j (by omega)).1) n (by omega)).1 i hi, Int.zero_add]
      unfold prOf kdfLook
      rw [kdfD_lookup]
      cases (prL cs fs n).find? fun p => decide (p.1 = (i : Int)) <;> rfl
    rw [worth_xy _ _ known_is P hP0 hPne _ 0 1 0 hL hpr, Int.one_mul, Int.zero_mul, Int.add_zero]
    unfold totL
    rw [tot_look row _ [], wayL_wW]
    have hz : kdpLook [] row 0 = 0 := rfl
    rw [hz, Int.zero_add]
    rw [sumS_congr (g := ind P) (fun p hp => ?_)]
    · rw [sumS_full (txOf cs) (qOf fs) n (fun j h => (hf j h).1) n (Nat.le_refl _) (ind P) c r hfull]
      rw [hfull] at fl0 ⊢
      exact (sum_read P hP0 ok0 0 c r fl0.symm).1
    · obtain ⟨a, b, e⟩ := hx p.1 (List.mem_map.mpr ⟨p, hp, rfl⟩)
      unfold ind
      have q : (readL p.1 = row.cps.toList) ↔ readP p.1 = P := by
        rw [readL_P _ _ (Nat.le_refl _), hrl]
        constructor
        · intro h
          have h2 := congrArg (List.map written) h
          rw [List.map_map, List.map_map] at h2
          have h3 : (readP p.1).map toStr = P.map toStr := e.symm.trans (h2.trans wr0)
          exact List.map_inj_right (fun _ _ => toStr_inj) |>.mp h3
        · intro h; rw [h]
      by_cases h : readP p.1 = P
      · rw [if_pos (q.mpr h), if_pos h]
      · rw [if_neg (fun h' => h (q.mp h')), if_neg h]
  · rw [List.length_map]
    have := flat_len P hPne
    omega
  · intro x hx
    obtain ⟨p, hp, rfl⟩ := List.mem_map.mp hx
    rw [toStr_len]
    have := (ok0 p hp).len
    omega
  · intro d hd
    rw [hrl] at hd
    obtain ⟨p, hp, rfl⟩ := List.mem_map.mp hd
    unfold symOf
    cases e : lookT p with
    | some m => have := lookT_le e; show m ≤ _; omega
    | none =>
      show p.headD 0 + 157 ≤ _
      cases p with
      | nil => show 0 + 157 ≤ _; omega
      | cons a s =>
        have := alpha_le a (hal a (by rw [← fl0]; exact List.mem_flatten.mpr ⟨_, hp, by simp⟩))
        show a + 157 ≤ _
        omega
end Mine
end
section
open PySem PySem.W PyProof.Rows
set_option maxRecDepth 100000
set_option maxHeartbeats 20000000
namespace Mine
local macro_rules | `(tactic| walk_at $s:str) => `(tactic| k_extra $s)
theorem hooks87 : True := by
  k_with_none
  trivial
theorem hook56 : True := by
  k_with "eval ListComp" => ((k_here; k_extra "lc"))
  trivial


local macro_rules | `(tactic| k_mem) => `(tactic| (refine List.mem_append_right _ ?_; k_mem))
local macro_rules | `(tactic| k_all) => `(tactic| assumption)
theorem hook57 : True := by
  k_with "exec Assign" => ((k_here; (with_reducible show wpAny _ _ (exec (Stmt.Assign [Expr.Name (Str.ofString "items") _] _ _) _) _ _ _); k_extra "items"))
  trivial
theorem hook58 : True := by
  k_with "subscriptTail Name Slice ref ref" => ((k_here; (with_reducible show wpAny _ _ (subscriptTail _ (PySem.Expr.Slice _ _ none _) (Value.ref _) (Value.ref _)) _ _ _); k_dflt (refine' kmk_slice_ints ?Fq58 ?Nq58 ?lq58 ?pq58 ?qq58 ?iq58 ?mq58 ?cq58 ?_ ?sq58 ?tq58 ?zq58; (case Fq58 => k_asm); (case Nq58 => k_asm); (case lq58 => kmk_list); (case pq58 => kmk_part); (case qq58 => kmk_part); (case iq58 => l_ints); (case mq58 => first | exact kmk_from (by l_ints) (Int.natCast_nonneg _) | kmk_nums); (case cq58 => kmk_len); (case sq58 => with_unfolding_all rfl); (case tq58 => kmk_pure); (case zq58 => kmk_size)); intro Dpqz wspqz hpqz Fpqz Npqz l1qz hIpqz hCpqz hLpqz; (try simp only [Int.reduceToNat] at hIpqz hCpqz hLpqz); (try k_lt l1qz); (try k_sweep)))
  trivial
theorem hook59 : True := by
  k_with "eval ListComp" => ((k_here; (with_reducible show wpAny _ _ (eval (PySem.Expr.ListComp (PySem.Expr.Call _ _ _ _) _ _ _) _) _ _ _); k_dflt (refine LCg.ListComp_U (F₀ := by k_asm) (by with_unfolding_all rfl) (by decide) (by rfl) (by decide) (by rfl) ?_)))
  trivial
theorem hook60 : True := by
  k_with "eval ListComp" => ((k_here; (with_reducible show wpAny _ _ (eval (PySem.Expr.ListComp (PySem.Expr.Name _ _) _ _ _) _) _ _ _); k_dflt (refine LCp.ListComp_P (F₀ := by k_asm) (by with_unfolding_all rfl) (by decide) (by rfl) (by decide) (by rfl) (by rfl) (by decide) ?_)))
  trivial
theorem hook61 : True := by
  k_with "SrcLP" => ((k_here; k_dflt (refine srcP_plains rfl (by k_asm) (by k_asm) (by k_mem) (by assumption) (by intro p9qz h9qz; simp only [List.mem_cons, List.mem_append, h9qz, true_or, or_true]) (by first | assumption | omega) ?_; intro g9qz ys9qz hy9qz; unfold LCg.FinE; intro D9qz h9qz tk9qz F9qz N9qz off9qz)))
  trivial
theorem hook62 : True := by
  k_with "call builtin:str.join" => ((k_here; k_dflt (refine call_join (News.isList (by k_asm) (by k_mem)) (by assumption) (by assumption) ?_; intro t9qz k9qz)))
  trivial
theorem hook63 : True := by
  k_with "CompEnd" => ((k_dflt (refine items_end (by k_asm) (by k_asm) (by assumption) (by assumption) (by assumption) (by assumption))))
  trivial
theorem hook64 : True := by
  k_with "exec Assign cons DictComp" => ((k_here; k_dflt (refine Assign_DictComp_U (intKind _ _) (F₀ := by k_asm) (by rfl) (by with_unfolding_all rfl) (by with_unfolding_all rfl) (by decide) (by rfl) (by decide) (by rfl) (by rfl) (by rfl) ?_)))
  trivial
theorem hook65 : True := by
  k_with "DSrc" => ((k_dflt (k_extra "dsrc")))
  trivial
theorem hook66 : True := by
  k_with "subscriptTail Name Slice ref ref" => ((k_here; (with_reducible show wpAny _ _ (subscriptTail _ (PySem.Expr.Slice none (some _) none _) (Value.ref _) (Value.ref _)) _ _ _); k_dflt (refine slice_items (by k_asm) (by k_asm) (by k_mem) (by assumption) (by assumption) (by omega) (by omega) ?_); intro Dpqz hpqz Fpqz Npqz l1qz hi4qz hl4qz hs4qz; (try k_sweep)))
  trivial
theorem hook67 : True := by
  k_with "call builtin:len" => ((k_here; (with_reducible show wpAny _ _ (call (Value.builtin _) [Value.str _ _]) _ _ _); (refine len_cat (by assumption) ?_)))
  trivial
theorem hook68 : True := by
  k_with "call builtin:len" => ((k_here; (with_reducible show wpAny _ _ (call (Value.builtin _) [Value.ref _]) _ _ _); (refine len_items (by assumption) (by k_asm) (by k_mem) (by omega) ?_)))
  trivial
theorem hook69 : True := by
  k_with "call ref" => ((k_here; (with_reducible show wpAny _ _ (call (Value.ref 95) _) _ _ _); k_dflt (refine' Spec.use (ops_spec _ _) ?Bq69 ?Fq69 ?Xq69 ?Nq69 ?Tq69 ?Kq69 ?dq69 ?uq69 ?_; (case Bq69 => k_asm); (case Fq69 => k_asm); (case Xq69 => k_asm); (case Nq69 => k_asm); (case Tq69 => k_asm); (case Kq69 => first | exact rfl | assumption); (case dq69 => ktr_room); (case uq69 => ktr_units); intro v4qz new4qz h4qz tk4qz P4qz F4qz N4qz; obtain ⟨d4qz, us4qz, e4qz, f4qz, hs4qz, hlt4qz⟩ := P4qz; subst e4qz f4qz; (try simp only [List.cons_append, List.nil_append] at N4qz); (have l4qz := hlt4qz); (try k_lt l4qz))))
  trivial
theorem hook70 : True := by
  k_with "binaryOp Add ref ref" => ((k_here; (have hlen9qz := StrsAre.len_eq (by assumption : StrsAre _ opsL)); k_dflt (refine' add_lists_at ?Fq70 ?Nq70 ?lq70 ?bq70 ?zq70 ?_; (case Fq70 => k_asm); (case Nq70 => k_asm); (case lq70 => exact News.isList (by k_asm) (by k_mem)); (case bq70 => exact News.isList (by k_asm) (by k_mem)); (case zq70 => rw [hlen9qz]; show opsL.length + 6 ≤ sizeLine; decide +kernel)); intro dpqz hpqz Fpqz Npqz l1qz hl9qz; (try k_lt l1qz); (try k_sweep)))
  trivial
theorem hook71 : True := by
  k_with "call type:set" => ((k_here; k_dflt (refine' set_strs_at ?Fq71 ?Nq71 ?hq71 ?lq71 ?sq71 ?bq71 ?_; (case Fq71 => k_asm); (case Nq71 => k_asm); (case hq71 => exact rfl); (case lq71 => exact News.isList (by k_asm) (by k_mem)); (case sq71 => exact strs_lig (by assumption) _ _ _ _ _ _); (case bq71 => decide +kernel)); intro d4qz h4qz tk4qz o4qz c4qz F4qz N4qz l4qz hS4qz hc4qz; (try k_lt l4qz)))
  trivial
theorem hook72 : True := by
  k_with "call ref" => ((k_here; (with_reducible show wpAny _ _ (call (Value.ref 121) _) _ _ _); k_dflt (refine' Spec.use2 (ways_spec _ _ _ _ _ _ _ _ _ _ ?hxq72 ?hiq72 ?hc1q72 ?hc6q72 ?hxcq72 ?hx2q72 ?hctq72) ?Bq72 ?Fq72 ?Xq72 ?Nq72 ?q1q72 ?q2q72 ?Tq72 ?Kq72 ?dq72 ?uq72 ?_; (case Nq72 => k_asm); (case q1q72 => k_mem); (case q2q72 => k_mem); (case hxq72 => assumption); (case hiq72 => exact ItemsAre.mono (by assumption) (by intro p9qz h9qz; simp only [List.mem_cons, List.mem_append, h9qz, true_or, or_true])); (case hctq72 => assumption); (case hc1q72 => omega); (case hc6q72 => omega); (case hxcq72 => omega); (case hx2q72 => omega); (case Bq72 => k_asm); (case Fq72 => k_asm); (case Xq72 => k_asm); (case Tq72 => k_asm); (case Kq72 => first | exact rfl | assumption); (case dq72 => ktr_room); (case uq72 => ktr_units); intro v4qz new4qz h4qz tk4qz P4qz F4qz N4qz; obtain ⟨d4qz, ws4qz, m4qz, ob4qz, e4qz, f4qz, hw4qz⟩ := P4qz; subst e4qz f4qz; (try simp only [List.cons_append, List.nil_append] at N4qz))))
  trivial
theorem hook73 : True := by
  k_with "call ref" => ((k_here; (with_reducible show wpAny _ _ (call (Value.ref 126) _) _ _ _); k_dflt (refine' Spec.use (table_spec _ _) ?Bq73 ?Fq73 ?Xq73 ?Nq73 ?Tq73 ?Kq73 ?dq73 ?uq73 ?_; (case Bq73 => k_asm); (case Fq73 => k_asm); (case Xq73 => k_asm); (case Nq73 => k_asm); (case Tq73 => k_asm); (case Kq73 => first | exact rfl | assumption); (case dq73 => ktr_room); (case uq73 => ktr_units); intro v4qz new4qz h4qz tk4qz P4qz F4qz N4qz; obtain ⟨d4qz, o4qz, kv4qz, e4qz, f4qz, lo4qz, hd4qz, hf4qz⟩ := P4qz; subst e4qz f4qz; (try simp only [List.cons_append, List.nil_append] at N4qz))))
  trivial
theorem hook74 : True := by
  k_with "call ref" => ((k_here; (with_reducible show wpAny _ _ (call (Value.ref 140) _) _ _ _); k_dflt (refine' Spec.use2 (totals_spec _ _ _ _ _ _ _ _ _ ?loq74 ?hwq74 ?hnq74 ?hxq74 ?hcq74 ?hoq74 ?hDq74) ?Bq74 ?Fq74 ?Xq74 ?Nq74 ?q1q74 ?q2q74 ?Tq74 ?Kq74 ?dq74 ?uq74 ?_; (case Nq74 => k_asm); (case q1q74 => k_mem); (case q2q74 => k_mem); (case loq74 => assumption); (case hwq74 => exact WaysAre.mono (by assumption) (by intro p9qz h9qz; simp only [List.mem_cons, List.mem_append, h9qz, true_or, or_true])); (case hnq74 => assumption); (case hxq74 => assumption); (case hcq74 => assumption); (case hoq74 => assumption); (case hDq74 => assumption); (case Bq74 => k_asm); (case Fq74 => k_asm); (case Xq74 => k_asm); (case Tq74 => k_asm); (case Kq74 => first | exact rfl | assumption); (case dq74 => ktr_room); (case uq74 => ktr_units); intro v4qz new4qz h4qz tk4qz P4qz F4qz N4qz; obtain ⟨d4qz, o4qz, kv4qz, e4qz, f4qz, hd4qz, hf4qz⟩ := P4qz; subst e4qz f4qz; (try simp only [List.cons_append, List.nil_append] at N4qz); (have lo4qz := fresh_mod (w := _) (by assumption) N4qz))))
  trivial
theorem hook75 : True := by
  k_with "exec For Name Name cons nil" => ((k_here; (rename Fr _ _ _ _ => lFpqz); (with_unfolding_all refine' For_turns lFpqz ?_); k_whole))
  trivial
theorem hook76 : True := by
  k_with "pyIter ref" => (k_extra "for1")
  trivial
theorem hook77 : True := by
  k_with "exec Assign cons ListComp" => ((k_here; (with_reducible show wpAny _ _ (exec (Stmt.Assign [PySem.Expr.Name (Str.ofString "pieces") _] _ _) _) _ _ _); k_dflt (refine Assign_ListComp_S (F₀ := by k_asm) (by rfl) (by with_unfolding_all rfl) (by with_unfolding_all rfl) (by decide) (by rfl) (by decide) (by rfl) (by rfl) (by rfl) ?_)))
  trivial
theorem hook78 : True := by
  k_with "PSrc" => ((k_dflt (k_extra "psrc")))
  trivial
theorem hook79 : True := by
  k_with "PEnd" => ((k_dflt (exact ⟨_, _, _, rfl, rfl, by k_asm, by k_asm⟩)))
  trivial
theorem hook80 : True := by
  k_with "call builtin:ord" => ((refine P.ord_of_char ?_))
  trivial
theorem hook81 : True := by
  k_with "call ref" => ((k_here; (with_reducible show wpAny _ _ (call (Value.ref 147) _) _ _ _); k_dflt (refine' Spec.useT1 (written_spec _ _ ?hcq81 _ _ _ _ _ ?huq81) ?Bq81 ?Fq81 ?Xq81 ?Nq81 ?q1q81 ?Tq81 ?Kq81 ?dq81 ?uq81 ?_; (case Nq81 => k_asm); (case q1q81 => k_mem); (case hcq81 => assumption); (case huq81 => assumption); (case Bq81 => k_asm); (case Fq81 => k_asm); (case Xq81 => k_asm); (case Tq81 => k_asm); (case Kq81 => first | exact rfl | assumption); (case dq81 => ktr_room); (case uq81 => ktr_units); intro t4qz h4qz tk4qz F4qz N4qz)))
  trivial
theorem hook82 : True := by
  k_with "call ref" => ((k_here; (with_reducible show wpAny _ _ (call (Value.ref 154) _) _ _ _); k_dflt (refine' Spec.useT3 (worth_spec _ _ _ _ _ _ _ _ _ _ _ _ _ _ ?loq82 ?huq82 ?hnq82 ?hssq82 ?hoq82 ?hDq82 ?hiq82 ?hSq82 ?hbq82) ?Bq82 ?Fq82 ?Xq82 ?Nq82 ?q1q82 ?q2q82 ?q3q82 ?Tq82 ?Kq82 ?dq82 ?uq82 ?_; (case Nq82 => k_asm); (case q1q82 => k_mem); (case q2q82 => k_mem); (case q3q82 => k_mem); (case loq82 => assumption); (case huq82 => assumption); (case hnq82 => assumption); (case hssq82 => assumption); (case hoq82 => assumption); (case hDq82 => assumption); (case hiq82 => exact prices_small _ _ _); (case hSq82 => assumption); (case hbq82 => assumption); (case Bq82 => k_asm); (case Fq82 => k_asm); (case Xq82 => k_asm); (case Tq82 => k_asm); (case Kq82 => first | exact rfl | assumption); (case dq82 => ktr_room); (case uq82 => ktr_units); intro t4qz h4qz tk4qz F4qz N4qz)))
  trivial
theorem hook83 : True := by
  k_with "subscriptTail" => ((k_here; (with_reducible show wpAny _ _ (subscriptTail _ _ (Value.ref _) (Value.str _ _)) _ _ _); (refine kdp_item (by k_dflt k_tabat) (by assumption) ?_); intro t9qz))
  trivial
theorem hook84 : True := by
  k_with "CompSrc" => ((k_dflt (k_extra "csrc")))
  trivial
theorem hook85 : True := by
  k_with "call builtin:len" => ((k_here; (with_reducible show wpAny _ _ (call (Value.builtin _) [Value.ref _]) _ _ _); (refine len_ints (by assumption) (by k_asm) (by k_mem) (by omega) ?_)))
  trivial
theorem hook86 : True := by
  k_with "subscriptTail" => ((k_here; (with_reducible show wpAny _ _ (subscriptTail _ _ (Value.ref _) (Value.int _ _)) _ _ _); (refine item_ints (News.isList (by k_asm) (by k_mem)) (by assumption) (by omega) (by omega) (by omega) ?_); intro n9qz t9qz hn9qz))
  trivial
theorem hook87 : True := by
  k_with "call ref" => ((k_here; (with_reducible show wpAny _ _ (call (Value.ref 102) _) _ _ _); k_dflt (refine' Spec.use (item_spec _ _ _ _ _) ?Bq87 ?Fq87 ?Xq87 ?Nq87 ?Tq87 ?Kq87 ?dq87 ?uq87 ?_; (case Bq87 => k_asm); (case Fq87 => k_asm); (case Xq87 => k_asm); (case Nq87 => k_asm); (case Tq87 => k_asm); (case Kq87 => first | exact rfl | assumption); (case dq87 => ktr_room); (case uq87 => ktr_units); intro v4qz new4qz h4qz tk4qz P4qz F4qz N4qz; obtain ⟨d4qz, c4qz, p4qz, t4qz, u4qz, e4qz, f4qz, hok4qz, hlt4qz⟩ := P4qz; subst e4qz f4qz; (try simp only [List.cons_append, List.nil_append] at N4qz))))
  trivial
theorem news_few {h₀ h : Heap} {L : Addr} {a b c d e f g : Addr × Obj} (N : News h₀ L h [a, b, c, d, e, f, g]) : News h₀ L h [a, e, f, g] := fun p hp => N p (by
  simp only [List.mem_cons, List.not_mem_nil, or_false] at hp ⊢
  rcases hp with h | h | h | h <;> simp [h])
theorem law_prune {h₀ h : Heap} {L : Addr} {tot tab way kn l2 l1 op pr it fe c3 c2 c1 : Addr × Obj} {ob nu : List (Addr × Obj)} (N : News h₀ L h (tot :: tab :: way :: (ob ++ (kn :: l2 :: l1 :: op :: pr :: it :: fe :: c3 :: c2 :: c1 :: nu)))) : News h₀ L h [tot, c3, op, pr, kn] := fun p hp => N p (by
  simp only [List.mem_cons, List.not_mem_nil, or_false, List.mem_append] at hp ⊢
  rcases hp with h | h | h | h | h <;> simp [h])
theorem law_enter {prog : Program} {w : World} {s : Shared} {R : Result → Shared → Prop} {KK : Frag} {p : Program} {loose : List Str} {mean : ExcName → Option Value} {mg mb : Str → Option Value} {name : Str} {params : Arguments} {body : List Stmt} {scope : Scope} {doc pm cdv oc : Value} {od : Option Addr} {osl : Array (Option Value)} {f : Addr} {args : List Value} {binds : List (Str × Value)}
    (X₀ : KK.In s.heap) (T : Top p loose mean mg mb s.heap) (ho : KK.lookup f = some ⟨oc, od, .func (Calls.docDef name params body scope pm cdv doc), osl⟩) (hcd : codeIn KK cdv name = true)
    (hbind : bindArgs (Calls.docDef name params body scope pm cdv doc) ⟨args, []⟩ = pure binds) (hkind : (binds.all fun y => scope.names.lookup y.1 == some .local || scope.names.lookup y.1 == some .cell) = true)
    (hnd : ((cellsFrom 0 scope.names []).map (·.1)).Nodup)
    (h : ∀ L' h₁ tk cells, Fr s.heap L' h₁ (bindL (envOfC name scope L' f cdv).kindOf binds fun _ => none) → News s.heap L' h₁ cells →
      CellsAre (bindC (envOfC name scope L' f cdv).kindOf binds fun _ => none) (cellsFrom (L' + 1) scope.names []) cells → Below callerA s.heap [] s.heap →
      wpAny (model prog w) (callerA.deeper (envOfC name scope L' f cdv)) (execs body (envOfC name scope L' f cdv))
        (fun f s' => R (.ok (.ret (match f with | .ret v => v | _ => .none))) s')
        (fun e s' => wpAny (model prog w) (callerA.deeper (envOfC name scope L' f cdv)) (leaving (envOfC name scope L' f cdv) e)
          (fun _ s'' => R (.error e) s'') (fun e' s'' => R (.error e') s'') s')
        { s with heap := h₁, toks := tk })
    (hco : scope.isCoroutine = false := by rfl) (hgen : scope.isGenerator = false := by rfl) (hk : scope.kind = .function := by rfl) :
    codeAny (model prog w) callerA (.call (.ref f) ⟨args, []⟩) R s :=
  call_cellsN (by decide) (X₀ _ _ ho) rfl T.nolimit (codeRec_of X₀ hcd) hbind (kindsX hkind _) hnd (fun h₁ tk cells F N Y => h _ h₁ tk cells F N Y (below_caller _)) hco hgen hk
theorem law_call (w : World) : ∀ (p : Program) (loose : List Str) (mean : ExcName → Option Value) (mg mb : Str → Option Value) (l : Addr) (vs : List Value) (xs : List Int) (s : Shared) (R : Result → Shared → Prop),
    (K w.params).In s.heap → Top p loose mean mg mb s.heap → s.heap.IsList l vs.toArray → IntsAre vs xs → (xs.length : Int) ≤ 63 →
    (∀ h' tk', (∀ b o, s.heap.get? b = some o → h'.get? b = some o) → R (.ok (.ret (.bool true))) { s with heap := h', toks := tk' }) →
    codeAny (model PySem.Challenge.rw_pg0280_01.prog w) callerA (.call (.ref 159) ⟨[.ref l], []⟩) R s := by
  k_fill
  intro p loose mean mg mb l vs xs s R X T hl hI h63 hret
  refine' law_enter X T ?k6 ?k7 ?k9 ?kB ?kD ?_ ?c2 ?c3 ?c4; (case k6 => k_is); (case k7 => k_is); (case k9 => exact rfl); (case kB => exact rfl); (case kD => decide +kernel); (case c2 => exact rfl); (case c3 => exact rfl); (case c4 => exact rfl)
  intro L' h' tk' cells' F' N' Y' B'
  obtain ⟨oA, oB, oC, dA, dB, dC, rfl, hdA, hdB, hdC⟩ := cells3 Y'
  clear Y'
  have F9 : Fr s.heap L' h' (fun y => if y = Str.ofString "script" then some (.ref l) else none) := by with_unfolding_all exact F'
  clear F'
  k_with "items" => (
    rename IntsAre _ (List.take 6 xs ++ _) => hfew
    obtain ⟨fs, hfs⟩ : ∃ fs, fs = List.take 6 xs ++ List.drop ((xs.length : Int)).toNat [12030, 3840, 12480, 3401, 6] := ⟨_, rfl⟩
    have hf5 : 5 ≤ fs.length := by rw [hfs, List.length_append, List.length_take, List.length_drop]; simp only [List.length_cons, List.length_nil]; omega
    have hf6 : fs.length ≤ 6 := by rw [hfs, List.length_append, List.length_take, List.length_drop]; simp only [List.length_cons, List.length_nil]; omega
    rw [← hfs] at hfew
    clear hfs
    rename News _ _ _ _ => N9
    have N8 := news_few N9
    clear N9)
  k_with "csrc" => (
    rename News _ _ _ _ => lN9; rename Fr _ _ _ _ => lF9; rename IsRange _ _ _ _ _ _ _ _ => lR9
    refine src_items rfl lF9 lN9 lR9 rfl (by omega) ?_ ?_
    clear lN9 lF9
    intro i9 t9 ys9 nw9 hi9 hJ9 I9 oI9 C9 oC9 D9 m9 h9 tk9 E9 hC9 hx9 F9 N9 off9 ne9
    have hJ8 := hJ9
    obtain ⟨nu9, cs9, rfl, hcl9, hit9, hok9, hL9⟩ := hJ8
    rotate_left
    clear lN9 lF9
    intro g9 ys9 nw9 hJ9
    unfold LCg.FinE
    intro D9 h9 tk9 F9 N9 off9
    obtain ⟨nu9, cs9, hcl9, hit9, hok9, N8, hnu9, hnu8, hDe9, hDe8⟩ := items_done N9 hJ9 off9
    clear N9 hJ9 off9
    have hct9 := hok9.told
    have hs9 := hok9.sum (by omega)
    have hs8 := hok9.sum' (by omega)
    have hcl6 : cs9.length ≤ 6 := by omega
    have hcl1 : 1 ≤ cs9.length := by omega
    obtain ⟨hwf1, hwf2, hwf3⟩ := ways_facts fs hok9 hcl1 hcl6
    dsimp only at hnu9 hnu8 hDe9 hDe8
    rotate_left)
  k_with "dsrc" => (
    rename News _ _ _ _ => lN9; rename Fr _ _ _ _ => lF9; rename IsRange _ _ _ _ _ _ _ _ => lR7
    refine DSrc.intro (prJ cs9 fs) (cs9.length - 1) rfl lF9 lN9 lR7 (small_one (by omega) (by omega) (by omega) (by omega)) (by rw [rangeSize_nat]; omega) (Nat.le_trans (by omega : cs9.length - 1 ≤ 6) (Nat.le_of_ble_eq_true rfl)) (prJ.start _ _) (fun _ _ h => h.1) ?_ ?_
    clear lN9 lF9 lR7
    intro i7 v7 I7 oI7 C7 oC7 D7 oD7 m7 h7 tk7 kvs7 E7 hi7 hv7 hJ7 hd7 hC7 hx7 F7 N7 off7 ne7
    obtain ⟨t7, hv7⟩ := hv7
    subst hv7
    rotate_left
    clear lN9 lF9 lR7
    intro D7 h7 tk7 oD7 kvs7 o7 F7 N7 hJ7 hd7
    replace N7 := news_drop2 N7
    obtain ⟨hl7, hf7⟩ := hJ7
    have lo7 := fresh_mod (w := w) X N7
    simp only [LCg.Off1] at o7
    rotate_left)
  k_with "for1" => (
    rename News _ _ _ _ => lN5; rename Fr _ _ _ _ => lF5
    have lN6 := law_prune lN5
    with_unfolding_all refine loop_dictC (knd := strKind PySem.Challenge.rw_pg0280_01.prog w) [Str.ofString "row", Str.ofString "pieces"] rfl (by assumption) (.head _) (by assumption) lF5 lN6 ?_ ?_
    clear lN5 lF5 lN6
    intro i5 v5 m5 h5 tk5 own5 hv5 hOff5 F5 N5
    obtain ⟨k5, x5, hk5, hv5⟩ := hv5
    obtain ⟨t5, hv5⟩ := Value.isStrOf_shape hv5
    subst hv5
    have hkey5 := key_at (by assumption) hk5
    obtain ⟨hp1, hp2, hp3, hp4, hp5, hp6⟩ := law_pure fs hok9 hcl1 hcl6 hkey5
    have hp7 : k5.cps.size ≤ 16777216 := by rw [List.length_map, Array.length_toList] at hp3; omega
    replace N5 : News s.heap L' h5 _ := N5
    replace F5 : Fr s.heap L' h5 _ := F5
    simp only [List.cons_append, List.nil_append] at N5
    rotate_left
    intro m5 h5 tk5 F5 N5
    replace N5 : News s.heap L' h5 _ := N5
    replace F5 : Fr s.heap L' h5 _ := F5
    rotate_left)
  k_with "psrc" => (
    rename News _ _ _ _ => lN5; rename Fr _ _ _ _ => lF5
    refine ⟨_, _, _, written, rfl, rfl, lF5, lN5, hp7, ?_, ?_⟩
    clear lN5 lF5
    intro c3 u3 I3 oI3 C3 oC3 D3 m3 ys3 h3 tk3 E3 hc3 hC3 hx3 F3 N3
    have hc2 := hp5 c3 hc3
    rotate_left
    clear lN5 lF5
    intro D3 h3 tk3 ys3 F3 N3 off3 hs3
    rotate_left)
  k_steps
  · have e1 : (1 + (i7 : Int)).toNat = i7 + 1 := by omega
    have e2 : (1 + (i7 : Int) - 1).toNat = i7 := by omega
    rename News _ _ _ _ => lN; rename Fr _ _ _ _ => lF
    refine ⟨_, _, _, rfl, intKind_is _ _ _ _, prJ.step hJ7 ?_ ?_, lF, fun p hp => lN p (.tail _ (.tail _ hp))⟩
    · rw [e1]; rfl
    · rw [e2]
  · exfalso
    have q := ‹(catL (List.map written k5.cps.toList) != catL (List.map (fun x => x.snd) cs9)) = true›
    rw [hp1] at q
    simp at q
  · rename kdpLook _ _ _ ≠ _ => q
    exact absurd hp2 q
  · rename News _ _ _ _ => lN; rename Fr _ _ _ _ => lF
    refine keepJ.fin lF lN ?_ hOff5 fun p hp => .tail _ hp
    intro z hz
    have h1 : z ≠ Str.ofString "row" := by rintro rfl; revert hz; decide
    have h2 : z ≠ Str.ofString "pieces" := by rintro rfl; revert hz; decide
    simp only [h1, h2, hz, if_false, Bool.false_eq_true]
  · exact hret _ _ F5.keep
end Mine
end
section
open PySem PySem.W PyProof.Rows
set_option maxRecDepth 100000
set_option maxHeartbeats 20000000
namespace Mine
/-- the looks at the law, each by a kernel check of its own -/
theorem lw : PySem.Challenge.rw_pg0280_01.wellSaid = true := by
  unfold OpenLaw.wellSaid OpenRow.wellSaid OpenRow.partSaid looksOpen
  with_reducible repeat' refine look_both ?_ ?_
  all_goals decide +kernel
end Mine
end
open PySem PySem.W PyProof.Rows
set_option maxRecDepth 100000
set_option maxHeartbeats 20000000
theorem PySem.Challenge.cw_pg0280_01_holds : PySem.Challenge.rw_pg0280_01.Holds := by
  w_on
  refine holds_law Mine.lw fun said => ?_
  refine holds_open (q := Mine.qv) (loose := Mine.looseV) (Xt := Mine.XtV) (XP := XL Mine.qv []) (Yf := Mine.HV.obs) (Ya := Mine.HV.val) (YP := Mine.HV.says) (N := 30912) Mine.left0 (Hook.of Mine.HV) (Hook.keeps Mine.HV) (fun s e => xl_of s (Bool.and_eq_true_iff.mp e).1) XL.keeps (by rfl) (by rfl) (by rfl) (fun s e => recFacts_of (Bool.and_eq_true_iff.mp e).2) (by rfl) (by assumption) (by decide +kernel) ⟨rfl, rfl, rfl, rfl, rfl, by decide +kernel⟩ ?hw ?hc
  case hw => w_witness2
  case hc =>
  delta Mine.HV
  k_fill
  intro w s₀ s₁ mg mb G Y fa o pm cd doc dV kV ho hd hcd hD hmg hg args vals as hpre hlay hrd hwl hlo
  have KX := kIn_of Y
  have X := (Ground.X G).1
  have V := (Ground.X G).2
  refine Ground.open G ?_
  intro T B D TE TW
  clear ho hd hcd hD
  have hfa : Value.ref fa = Value.ref 159 := Option.some.inj (hmg.symm.trans (mg_of KX (Top.g T) (by k_is)))
  have hfa' : fa = 159 := by injection hfa
  subst hfa'
  clear hfa hmg
  wrow_args hpre hlay hrd hwl hlo
  refine enter_call ?_
  refine codeAny_mono ?_ (fun _ _ g => GoodW.toG g)
  refine Mine.law_call w _ _ _ _ _ _ _ _ s₁ _ KX T (by assumption) (by assumption) (by omega) ?_
  intro h' tk' hk
  refine ⟨.inl ⟨.bool true, .bool true, [], rfl, ?_, .bool true, ?_, unshared_nil⟩, hk, rfl, hg⟩
  · first | exact raisesW_false (by wrow_none_raised) | (intro cls; rfl)
  · first | rfl | exact postW_of (by wrow_shape) (by wtm_val) (by rfl)
