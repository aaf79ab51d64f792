import PyProof.Rows.All
import Wide.All
import OpenK.AllK
import Wide.FinOn
import PySem.Challenge.RW_rl0135_01
set_option Elab.async false
set_option maxRecDepth 100000
set_option maxHeartbeats 0
set_option linter.unusedVariables false
set_option linter.all false
section
open PySem PySem.W PyProof.Rows
namespace Mine
noncomputable def okStep (b : Nat) (t : Thread) : Bool := !t.loud && match t.cur with
  | .raise _ => !(t.stack.length == b)
  | .yield .. | .resume .. => false
  | _ => true
noncomputable def goK (den : Code → Sem Fin) (p : Program) (w : World) (b : Nat) : Nat → Shared → Thread → Option (Flow × Shared)
  | 0, _, _ => none
  | n + 1, s, t => match endAt b t with
    | some f => some (f, s)
    | none => match okStep b t with
      | false => none
      | true => match stepK den p w s t with
        | .go s' t' => goK den p w b n s' t'
        | .halt _ _ => none
theorem stepK_suffix {den : Code → Sem Fin} {p : Program} {w : World} {s s' : Shared} {t : Sem Fin} {c : Code} {q : Pos} {pre base : List Frame} {t' : Thread}
    (he : endAt base.length ⟨t, c, q, pre ++ base⟩ = none) (hk : okStep base.length ⟨t, c, q, pre ++ base⟩ = true)
    (h : stepK den p w s ⟨t, c, q, pre ++ base⟩ = .go s' t') : ∃ pre', t'.stack = pre' ++ base := by
  obtain ⟨heap, gens, drawn, toks, os⟩ := s
  have hk2 := (Bool.and_eq_true_iff.mp hk).2
  dsimp only at hk2
  cases t with
  | pure f =>
    cases f with
    | done f =>
      cases pre with
      | nil => simp [endAt] at he
      | cons F pre => cases F <;> (simp only [stepK, step, List.cons_append, Step.go.injEq] at h; obtain ⟨_, rfl⟩ := h; exact ⟨pre, rfl⟩)
    | again c' => simp only [stepK, Step.go.injEq] at h; obtain ⟨_, rfl⟩ := h; exact ⟨pre, rfl⟩
  | raise e =>
    cases pre with
    | nil => simp at hk2
    | cons F pre => cases F <;> (simp only [stepK, step, List.cons_append, Step.go.injEq] at h; obtain ⟨_, rfl⟩ := h; exact ⟨pre, rfl⟩)
  | unsupported | register | fork | await => simp only [stepK, step] at h; cases h
  | finish e => simp only [stepK, step] at h; split at h <;> cases h
  | rule | «at» | alloc | loadIfAlive | point | fresh | ask | newGen | thread | os | stack | handled => simp only [stepK, step, Step.go.injEq] at h; obtain ⟨_, rfl⟩ := h; exact ⟨pre, rfl⟩
  | call c' hd g l k => simp only [stepK, Step.go.injEq] at h; obtain ⟨_, rfl⟩ := h; exact ⟨.ret k hd g l c q [] :: pre, rfl⟩
  | load a q' k =>
    simp only [stepK, step] at h
    split at h
    · cases h; exact ⟨pre, rfl⟩
    · cases h
  | update a q' f k =>
    simp only [stepK, step] at h
    split at h
    · cases h; exact ⟨pre, rfl⟩
    · cases h
  | choose src n k =>
    simp only [stepK, step] at h
    split at h
    · cases h
    · cases h; exact ⟨pre, rfl⟩
  | genState g k =>
    simp only [stepK, step] at h
    split at h
    · cases h
    · cases h; exact ⟨pre, rfl⟩
  | resume g r l k => exact absurd hk2 Bool.false_ne_true
  | «yield» v g0 l kk => exact absurd hk2 Bool.false_ne_true
theorem goK_reach {M : Model} {base : List Frame} : ∀ (n : Nat) (s : Shared) (t : Sem Fin) (c : Code) (q : Pos) (pre : List Frame) (f : Flow) (s' : Shared),
    goK M.den M.prog M.w base.length n s ⟨t, c, q, pre ++ base⟩ = some (f, s') → Reach M base s t c q pre s' (.ret (.ok f))
  | 0, _, _, _, _, _, _, _, h => by simp [goK] at h
  | n + 1, s, t, c, q, pre, f, s', h => by
    unfold goK at h
    cases he : endAt base.length ⟨t, c, q, pre ++ base⟩ with
    | some g =>
      rw [he] at h
      obtain ⟨rfl, rfl⟩ : g = f ∧ s = s' := by simpa using h
      have hl : (pre ++ base).length = base.length := by
        cases hb : ((pre ++ base).length == base.length) with
        | true => simpa using hb
        | false => simp only [endAt, hb] at he; cases he
      have hp : pre = [] := by
        cases pre with
        | nil => rfl
        | cons F pre => exfalso; simp at hl; lia
      subst hp
      have ht : t = .pure (.done g) := by
        cases t with
        | pure x => cases x with
          | done x => simp [endAt] at he; subst he; rfl
          | again x => simp [endAt] at he
        | _ => simp [endAt] at he
      exact .exit ⟨ht, rfl⟩
    | none =>
      rw [he] at h
      cases hk : okStep base.length ⟨t, c, q, pre ++ base⟩ with
      | false => rw [hk] at h; cases h
      | true =>
        rw [hk] at h
        cases hs : stepK M.den M.prog M.w s ⟨t, c, q, pre ++ base⟩ with
        | halt o s₂ => rw [hs] at h; cases h
        | go s₂ t₂ =>
          rw [hs] at h
          obtain ⟨pre₂, e⟩ := stepK_suffix he hk hs
          obtain ⟨t₃, c₃, q₃, st₃⟩ := t₂
          obtain rfl : st₃ = pre₂ ++ base := e
          have hl : Thread.loud ⟨t, c, q, pre ++ base⟩ = false := by
            have := (Bool.and_eq_true_iff.mp hk).1
            simpa using this
          exact .step (by rw [Model.step_quiet M hl]; exact hs) (goK_reach n s₂ t₃ c₃ q₃ pre₂ f s' h)
theorem wp_of_goK {α : Type} {M : Model} {base : List Frame} {c : Code} {m : Sem α} {enc : α → Flow} {n : Nat} {p : Pos} {s s' : Shared} {f : Flow} {Q : α → Pos → Shared → Prop} {E : Value → Pos → Shared → Prop}
    (h : goK M.den M.prog M.w base.length n s ⟨m.bind fun a => .pure (.done (enc a)), c, p, base⟩ = some (f, s')) (hQ : ∀ a p', enc a = f → Q a p' s') :
    Sem.wp M (Ctx.of c base) m Q E p s := by
  have r := goK_reach n s (m.bind fun a => .pure (.done (enc a))) c p [] f s' h
  have w := (wp_iff_reach (M := M) (base := base) (c := c) (m.bind fun a => .pure (.done (enc a))) (fun r s'' => r = .ok f ∧ s'' = s') p s).mpr ⟨_, _, r, rfl, rfl⟩
  rw [Sem.wp_bind] at w
  refine Sem.wp_mono M (Ctx.of c base) m (fun a p' s'' hw => ?_) (fun e p' s'' hw => ?_) p s w
  · rw [Sem.wp_pure] at hw
    obtain ⟨h1, h2⟩ := hw
    subst h2
    exact hQ a p' (Except.ok.inj h1)
  · exact absurd hw.1 (fun e => by cases e)
theorem wp_execs_append (M : Model) (Γ : Ctx) (env : Env) (rest : List Stmt) (Q : Flow → Pos → Shared → Prop) (E : Value → Pos → Shared → Prop) : ∀ (l : List Stmt) (p : Pos) (s : Shared),
    Sem.wp M Γ (execs l env) (fun f p' s' => match f with | .next => Sem.wp M Γ (execs rest env) Q E p' s' | f => Q f p' s') E p s → Sem.wp M Γ (execs (l ++ rest) env) Q E p s
  | [], p, s, h => by
    have h' : Sem.wp M Γ (Pure.pure Flow.next : Sem Flow) (fun f p' s' => match f with | .next => Sem.wp M Γ (execs rest env) Q E p' s' | f => Q f p' s') E p s := by
      simpa [execs] using h
    rw [Sem.wp_pure'] at h'
    exact h'
  | st :: l, p, s, h => by
    rw [List.cons_append]
    simp only [execs, Sem.wp_bind'] at h ⊢
    refine Sem.wp_mono M Γ _ (fun f p' s' hf => ?_) (fun _ _ _ x => x) p s h
    cases f with
    | next => exact wp_execs_append M Γ env rest Q E l p' s' hf
    | brk => exact hf
    | cont => exact hf
    | ret v => exact hf
end Mine
end
section
open PySem PySem.W PyProof.Rows
namespace Mine
noncomputable abbrev SV := Sem Value
noncomputable def flushD (run : List (SV × SV)) (main : Option Addr) : Sem (Option Addr) := do
  if run.isEmpty then return main
  match main with
  | none => return some (← subDict run)
  | some d =>
    let sub ← holding [.ref d] (subDict run)
    (holding [.ref d, .ref sub] (mergeMapping d (.ref sub) false)).onRaise fun x => do let _ ← holding [.ref d, x] (runValue (.builtin "proto.let_go" {}))
    return some d
noncomputable def dispGo : List (SV × SV) → List (SV × SV) → Option Addr → Sem Value
  | [], run, main => do
    match ← flushD run main with
    | some d => pure (.ref d)
    | none => newDict
  | (k, v) :: rest, run, main =>
    if (run ++ [(k, v)]).length == 17 then do
      let main ← flushD (run ++ [(k, v)]) main
      dispGo rest [] main
    else dispGo rest (run ++ [(k, v)]) main
theorem display_go (items : List (SV × SV)) : dictDisplay (items.map fun p => (some p.1, p.2)) = dispGo items [] none := by
  unfold dictDisplay
  dsimp only
  suffices H : ∀ (its run : List (SV × SV)) (main : Option Addr), (forIn (its.map fun p => ((some p.1 : Option (Sem Value)), p.2)) ((main, run) : Option Addr × List (SV × SV)) _ >>= _) = dispGo its run main from H items [] none
  intro its
  induction its with
  | nil => intro run main; rw [List.map_nil, List.forIn_nil, pure_bind]; rfl
  | cons x its ih =>
    intro run main
    obtain ⟨k, v⟩ := x
    rw [List.map_cons, List.forIn_cons]
    dsimp only
    rw [dispGo]
    by_cases hc : ((run ++ [(k, v)]).length == 17) = true
    · rw [if_pos hc, if_pos hc]
      simp only [bind_assoc, pure_bind]
      exact congrArg (fun z => flushD (run ++ [(k, v)]) main >>= z) (funext fun m => ih [] m)
    · rw [if_neg hc, if_neg hc]
      simp only [pure_bind]
      exact ih (run ++ [(k, v)]) main
/-! exact rules -/
noncomputable def mkH (l : List Obj) (lf : Life) : Heap := ⟨l.toArray, lf⟩
theorem mkH_get {a b : List Obj} {o : Obj} {lf : Life} (hf : o.isFreed = false) : (mkH (a ++ o :: b) lf).get? a.length = some o := by
  have e : (mkH (a ++ o :: b) lf).objs[a.length]? = some o := by simp [mkH]
  unfold Heap.get?
  rw [e]
  obtain ⟨c, d, dt, sl⟩ := o
  cases dt <;> first | rfl | (cases hf)
theorem mkH_update {a b : List Obj} {o : Obj} {lf : Life} (f : Obj → Obj) : (mkH (a ++ o :: b) lf).update a.length f = mkH (a ++ f o :: b) lf := by
  show Heap.mk _ _ = Heap.mk _ _
  congr 1
  apply Array.ext_getElem?
  intro i
  rw [Array.getElem?_modify]
  simp only [List.getElem?_toArray]
  rcases Nat.lt_trichotomy i a.length with h | h | h
  · rw [List.getElem?_append_left h, List.getElem?_append_left h]; simp [Nat.ne_of_gt h]
  · subst h; simp
  · rw [List.getElem?_append_right (Nat.le_of_lt h), List.getElem?_append_right (Nat.le_of_lt h)]
    obtain ⟨k, hk⟩ : ∃ k, i - a.length = k + 1 := ⟨i - a.length - 1, by lia⟩
    rw [hk]; simp [Nat.ne_of_lt h]
theorem mkH_push {l : List Obj} {lf : Life} (o : Obj) : (mkH l lf).push o = mkH (l ++ [o]) lf := by
  show Heap.mk _ _ = Heap.mk _ _
  congr 1
  simp
theorem mkH_size {l : List Obj} {lf : Life} : (mkH l lf).objs.size = l.length := by simp [mkH]
noncomputable def ent (r : Int × Nat × Value) : DictEntry := ⟨r.1, .int r.1 r.2.1, r.2.2⟩
noncomputable def dObj (R : List (Int × Nat × Value)) : Obj := { cls := .type "dict", data := .dict (R.map ent).toArray R.length }
noncomputable def rawL : Nat → List (Int × Str) → List (Int × Nat × Value)
  | _, [] => []
  | t, x :: r => (x.1, t, .str x.2 (t + 1)) :: rawL (t + 3) r
noncomputable def rawS : Nat → List (Int × Str) → List (Int × Nat × Value)
  | _, [] => []
  | t, x :: r => (x.1, t, .str x.2 (t + 1)) :: rawS (t + 2) r
theorem rawL_keys : ∀ (t : Nat) (l : List (Int × Str)), (rawL t l).map (·.1) = l.map (·.1)
  | _, [] => rfl
  | t, x :: r => by simp [rawL, rawL_keys]
theorem rawS_keys : ∀ (t : Nat) (l : List (Int × Str)), (rawS t l).map (·.1) = l.map (·.1)
  | _, [] => rfl
  | t, x :: r => by simp [rawS, rawS_keys]
theorem rawL_length (t : Nat) (l : List (Int × Str)) : (rawL t l).length = l.length := by
  have := congrArg List.length (rawL_keys t l); simpa using this
theorem rawS_length (t : Nat) (l : List (Int × Str)) : (rawS t l).length = l.length := by
  have := congrArg List.length (rawS_keys t l); simpa using this
noncomputable def KeyOk (ks : List Int) : Prop := ks.Pairwise (· < ·) ∧ ∀ k ∈ ks, 0 ≤ k ∧ k < 1000000
theorem hashInt_small {k : Int} (h : 0 ≤ k ∧ k < 1000000) : hashInt k = k := by
  have e : rawHash k = k := by
    simp only [rawHash]
    have : (k.natAbs : Int) % ((2 ^ 61 - 1 : Nat) : Int) = k := by
      have hc : ((2 ^ 61 - 1 : Nat) : Int) = 2305843009213693951 := by decide
      rw [hc, Int.emod_eq_of_lt (by lia) (by lia)]; lia
    have hn : (k == -1) = false := by rw [beq_eq_false_iff_ne]; lia
    simp only [this, if_neg (show ¬ k < 0 by lia), hn]
    rfl
  unfold hashInt
  rw [e]
  have : (k == -1) = false := by rw [beq_eq_false_iff_ne]; lia
  rw [this]; rfl
section
variable {prog : Program} {w : World} {A : Around} {E : Value → Shared → Prop} {s : Shared}
theorem keys_int {R : List (Int × Nat × Value)} (h : ∀ k ∈ R.map (·.1), 0 ≤ k ∧ k < 1000000) : IntKeys (R.map ent).toArray := by
  intro e he
  simp only [List.mem_toArray, List.mem_map] at he
  obtain ⟨r, hr, rfl⟩ := he
  exact ⟨r.1, r.2.1, rfl, (hashInt_small (h _ (List.mem_map_of_mem hr))).symm⟩
theorem find_none {R : List (Int × Nat × Value)} {k : Int} (h : k ∉ R.map (·.1)) : ((R.map ent).toArray.findIdx? fun e => Value.isInt k e.key) = none := by
  rw [List.findIdx?_toArray, List.findIdx?_eq_none_iff]
  intro e he
  obtain ⟨r, hr, rfl⟩ := List.mem_map.mp he
  show (r.1 == k) = false
  rw [beq_eq_false_iff_ne]
  intro e
  exact h (e ▸ List.mem_map_of_mem hr)
theorem put_exact {H B : List Obj} {lf : Life} {R : List (Int × Nat × Value)} {k : Int} {t : Tok} {v : Value} {Q : Unit → Shared → Prop} (part : Option Value)
    (hh : s.heap = mkH (H ++ dObj R :: B) lf) (hR : R.length < 100000)
    (hQ : Q () { s with heap := mkH (H ++ dObj (R ++ [(k, t, v)]) :: B) lf }) :
    wpAny (model prog w) A (updateDictKeys H.length (·.push ⟨k, .int k t, v⟩) part) Q E s := by
  have ho : s.heap.get? H.length = some (dObj R) := by rw [hh]; exact mkH_get rfl
  refine wpAny_updateDictKeys (hz := by simp only [List.size_toArray, List.length_map]; rw [sizeLine_eq]; lia) ho rfl ?_
  rw [hh, mkH_update]
  have e : Obj.mapDictKeys (·.push ⟨k, .int k t, v⟩) (dObj R) = dObj (R ++ [(k, t, v)]) := by
    simp [dObj, Obj.mapDictKeys, ent]
  rw [e]; exact hQ
theorem dictPut_exact {H B : List Obj} {lf : Life} {R : List (Int × Nat × Value)} {k : Int} {t : Tok} {v : Value} {Q : Unit → Shared → Prop}
    (hh : s.heap = mkH (H ++ dObj R :: B) lf) (hR : R.length < 100000) (hk : ∀ k ∈ R.map (·.1), 0 ≤ k ∧ k < 1000000) (hk1 : 0 ≤ k ∧ k < 1000000) (hn : k ∉ R.map (·.1))
    (hQ : Q () { s with heap := mkH (H ++ dObj (R ++ [(k, t, v)]) :: B) lf }) :
    wpAny (model prog w) A (dictPut H.length k (.int k t) v) Q E s := by
  have ho : s.heap.get? H.length = some (dObj R) := by rw [hh]; exact mkH_get rfl
  unfold dictPut
  have hs := hashInt_small hk1
  refine wpAny_bind ?_
  have := wpAny_dictFind_int (prog := prog) (w := w) (A := A) (E := E) (s := s) (d := H.length) (o := dObj R) (k := k) (t := t) (Q := fun r s₁ => wpAny (model prog w) A (match r with | some i => updateDict H.length (·.modify i fun e => { e with val := v }) | none => updateDictKeys H.length (·.push ⟨k, .int k t, v⟩)) Q E s₁) ho rfl (keys_int hk) (by
    rw [find_none hn]
    exact put_exact none hh hR hQ)
  rw [hs] at this
  exact this
theorem dictSet_exact {H B : List Obj} {lf : Life} {R : List (Int × Nat × Value)} {k : Int} {t : Tok} {v : Value} {Q : Unit → Shared → Prop}
    (hh : s.heap = mkH (H ++ dObj R :: B) lf) (hR : R.length < 100000) (hk : ∀ k ∈ R.map (·.1), 0 ≤ k ∧ k < 1000000) (hk1 : 0 ≤ k ∧ k < 1000000) (hn : k ∉ R.map (·.1))
    (hQ : Q () { s with heap := mkH (H ++ dObj (R ++ [(k, t, v)]) :: B) lf, toks := s.toks + 1 }) :
    wpAny (model prog w) A (dictSet H.length (.int k t) v) Q E s := by
  unfold dictSet
  refine wpAny_holding ?_
  refine wpAny_bind (wpAny_pyHash_int ?_)
  unfold dictSetHashed
  refine wpAny_holding ?_
  refine wpAny_bind ?_
  refine wpAny_dictFind_int (s := { s with toks := s.toks + 1 }) (d := H.length) (o := dObj R) (by rw [hh]; exact mkH_get rfl) rfl (keys_int hk) ?_
  rw [find_none hn, hashInt_small hk1]
  exact wpAny_bind (wpAny_rule (put_exact _ hh hR hQ))
noncomputable def vc (pos : Pos) (x : Str) : SV := do let v ← mkText x; standAt pos; pure v
noncomputable def pairsS (pos : Pos) (l : List (Int × Str)) : List (SV × SV) := l.map fun x => (mkInt x.1, vc pos x.2)
theorem KeyOk.head {ks : List Int} {k : Int} {r : List Int} (h : KeyOk (ks ++ k :: r)) : (∀ k ∈ ks, 0 ≤ k ∧ k < 1000000) ∧ (0 ≤ k ∧ k < 1000000) ∧ k ∉ ks := by
  refine ⟨fun x hx => h.2 x (by simp [hx]), h.2 k (by simp), fun hm => ?_⟩
  have := (List.pairwise_append.mp h.1).2.2 k hm k (by simp)
  lia
theorem KeyOk.shift {ks : List Int} {k : Int} {r : List Int} (h : KeyOk (ks ++ k :: r)) : KeyOk ((ks ++ [k]) ++ r) := by simpa using h
theorem fill_long {H B : List Obj} {lf : Life} {pos : Pos} : ∀ (l : List (Int × Str)) (R : List (Int × Nat × Value)) (s : Shared) (Q : PUnit → Shared → Prop), s.heap = mkH (H ++ dObj R :: B) lf → R.length + l.length < 100000 → KeyOk (R.map (·.1) ++ l.map (·.1)) →
    Q PUnit.unit { s with heap := mkH (H ++ dObj (R ++ rawL s.toks l) :: B) lf, toks := s.toks + 3 * l.length } →
    wpAny (model prog w) A (forIn (pairsS pos l) PUnit.unit fun (x : SV × SV) (_ : PUnit) => (do
      let kv ← x.1
      let vv ← holding [kv] x.2
      holding [kv, vv] (dictSet H.length kv vv)
      pure (ForInStep.yield PUnit.unit) : Sem (ForInStep PUnit))) Q E s
  | [], R, s, Q, hh, _, _, hQ => by
    show wpAny _ _ (forIn [] _ _) Q E s
    rw [List.forIn_nil]
    refine wpAny_pure ?_
    have : ({ s with heap := mkH (H ++ dObj (R ++ rawL s.toks []) :: B) lf, toks := s.toks + 3 * ([] : List (Int × Str)).length } : Shared) = s := by
      simp [rawL, ← hh]
    rw [this] at hQ; exact hQ
  | x :: l, R, s, Q, hh, hl, hk, hQ => by
    rw [List.map_cons] at hk
    obtain ⟨h1, h2, h3⟩ := hk.head
    rw [List.length_cons] at hl
    show wpAny _ _ (forIn ((mkInt x.1, vc pos x.2) :: pairsS pos l) _ _) Q E s
    rw [List.forIn_cons]
    refine wpAny_bind (wpAny_bind ?_)
    unfold mkInt
    refine wpAny_bind (wpAny_fresh (wpAny_pure ?_))
    refine wpAny_bind (wpAny_holding ?_)
    unfold vc mkText
    refine wpAny_bind (wpAny_bind (wpAny_fresh (wpAny_pure (wpAny_bind (wpAny_standAt (wpAny_pure ?_))))))
    refine wpAny_bind (wpAny_holding (dictSet_exact (R := R) (H := H) (B := B) (lf := lf) hh (by lia) h1 h2 h3 (wpAny_pure ?_)))
    refine fill_long l (R ++ [(x.1, s.toks, .str x.2 (s.toks + 1))]) _ Q rfl (by simp; lia) (by rw [List.map_append]; exact hk.shift) ?_
    have e : R ++ [(x.1, s.toks, Value.str x.2 (s.toks + 1))] ++ rawL (s.toks + 1 + 1 + 1) l = R ++ rawL s.toks (x :: l) := by
      rw [List.append_assoc]; rfl
    have e2 : s.toks + 1 + 1 + 1 + 3 * l.length = s.toks + 3 * (x :: l).length := by rw [List.length_cons]; lia
    dsimp only
    rw [e, e2]; exact hQ
theorem sub_long {H : List Obj} {lf : Life} {pos : Pos} {l : List (Int × Str)} {Q : Addr → Shared → Prop} (hh : s.heap = mkH H lf) (hl : 15 < l.length) (hl2 : l.length < 100000) (hk : KeyOk (l.map (·.1)))
    (hQ : Q H.length { s with heap := mkH (H ++ [dObj (rawL s.toks l)]) lf, toks := s.toks + 3 * l.length }) :
    wpAny (model prog w) A (subDict (pairsS pos l)) Q E s := by
  unfold subDict
  refine wpAny_bind (wpAny_alloc ?_)
  have hs : s.heap.objs.size = H.length := by rw [hh, mkH_size]
  rw [hs]
  refine wpAny_bind (wpAny_holding ?_)
  rw [if_neg (by simp [pairsS]; lia)]
  refine wpAny_bind (wpAny_rule ?_)
  refine wpAny_bind (fill_long (H := H) (B := []) (lf := lf) l [] _ _ (by rw [hh, mkH_push]; rfl) (by simpa using hl2) (by simpa using hk) (wpAny_pure (wpAny_pure ?_)))
  exact hQ
theorem eval_short {pos : Pos} : ∀ (l : List (Int × Str)) (s : Shared) (Q : List (Value × Value) → Shared → Prop),
    Q ((rawS s.toks l).map fun r => (.int r.1 r.2.1, r.2.2)) { s with toks := s.toks + 2 * l.length } → wpAny (model prog w) A (evalPairs (pairsS pos l)) Q E s
  | [], s, Q, h => evalPairs_nil h
  | x :: l, s, Q, h => by
    refine evalPairs_cons ?_
    unfold mkInt
    refine wpAny_bind (wpAny_fresh (wpAny_pure ?_))
    unfold vc mkText
    refine (wpAny_bind (wpAny_bind (wpAny_fresh (wpAny_pure (wpAny_bind (wpAny_standAt (wpAny_pure ?_)))))))
    refine eval_short l _ _ ?_
    have e2 : s.toks + 1 + 1 + 2 * l.length = s.toks + 2 * (x :: l).length := by rw [List.length_cons]; lia
    dsimp only
    rw [e2]; exact h
theorem fill_short {H B : List Obj} {lf : Life} : ∀ (l R : List (Int × Nat × Value)) (s : Shared) (Q : PUnit → Shared → Prop), s.heap = mkH (H ++ dObj R :: B) lf → R.length + l.length < 100000 → KeyOk (R.map (·.1) ++ l.map (·.1)) →
    Q PUnit.unit { s with heap := mkH (H ++ dObj (R ++ l) :: B) lf, toks := s.toks + l.length } →
    wpAny (model prog w) A (forIn (l.map fun r => ((Value.int r.1 r.2.1, r.2.2) : Value × Value)) PUnit.unit fun (x : Value × Value) (_ : PUnit) => (do
      dictSet H.length x.1 x.2
      pure (ForInStep.yield PUnit.unit) : Sem (ForInStep PUnit))) Q E s
  | [], R, s, Q, hh, _, _, hQ => by
    rw [List.map_nil, List.forIn_nil]
    refine wpAny_pure ?_
    have : ({ s with heap := mkH (H ++ dObj (R ++ []) :: B) lf, toks := s.toks + ([] : List (Int × Nat × Value)).length } : Shared) = s := by
      simp [← hh]
    rw [this] at hQ; exact hQ
  | x :: l, R, s, Q, hh, hl, hk, hQ => by
    rw [List.map_cons] at hk
    obtain ⟨h1, h2, h3⟩ := hk.head
    rw [List.length_cons] at hl
    rw [List.map_cons, List.forIn_cons]
    refine wpAny_bind (wpAny_bind (dictSet_exact (R := R) (H := H) (B := B) (lf := lf) hh (by lia) h1 h2 h3 (wpAny_pure ?_)))
    refine fill_short l (R ++ [x]) _ Q rfl (by simp; lia) (by rw [List.map_append]; exact hk.shift) ?_
    have e : R ++ [x] ++ l = R ++ x :: l := by simp
    have e2 : s.toks + 1 + l.length = s.toks + (x :: l).length := by rw [List.length_cons]; lia
    dsimp only
    rw [e, e2]; exact hQ
theorem sub_short {H : List Obj} {lf : Life} {pos : Pos} {l : List (Int × Str)} {Q : Addr → Shared → Prop} (hh : s.heap = mkH H lf) (hl : l.length ≤ 15) (hk : KeyOk (l.map (·.1)))
    (hQ : Q H.length { s with heap := mkH (H ++ [dObj (rawS s.toks l)]) lf, toks := s.toks + 3 * l.length }) :
    wpAny (model prog w) A (subDict (pairsS pos l)) Q E s := by
  unfold subDict
  refine wpAny_bind (wpAny_alloc ?_)
  have hs : s.heap.objs.size = H.length := by rw [hh, mkH_size]
  rw [hs]
  refine wpAny_bind (wpAny_holding ?_)
  rw [if_pos (by simp [pairsS]; lia)]
  refine wpAny_bind (eval_short l _ _ (wpAny_holding ?_))
  refine wpAny_bind (fill_short (H := H) (B := []) (lf := lf) (rawS s.toks l) [] _ _ (by show s.heap.push _ = _; rw [hh, mkH_push]; rfl) (by simp [rawS_length]; lia) (by simpa [rawS_keys] using hk) (wpAny_pure (wpAny_pure ?_)))
  have e : s.toks + 2 * l.length + (rawS s.toks l).length = s.toks + 3 * l.length := by rw [rawS_length]; lia
  dsimp only
  rw [e]; exact hQ
theorem merge_exact {H B : List Obj} {lf : Life} {R R2 : List (Int × Nat × Value)} {Q : Unit → Shared → Prop} (hh : s.heap = mkH (H ++ dObj R :: (B ++ [dObj R2])) lf) (hb : 10 < H.length) (hl : R.length + R2.length < 100000)
    (hk : KeyOk (R.map (·.1) ++ R2.map (·.1))) (h0 : R ≠ [])
    (hQ : Q () { s with heap := mkH (H ++ dObj (R ++ R2) :: (B ++ [dObj R2])) lf }) :
    wpAny (model prog w) A (mergeMapping H.length (.ref (H.length + 1 + B.length)) false) Q E s := by
  have ga : ∀ R', (mkH (H ++ dObj R' :: (B ++ [dObj R2])) lf).get? (H.length + 1 + B.length) = some (dObj R2) := fun R' => by
    have : H ++ dObj R' :: (B ++ [dObj R2]) = (H ++ dObj R' :: B) ++ dObj R2 :: [] := by simp
    rw [this]
    have e : H.length + 1 + B.length = (H ++ dObj R' :: B).length := by simp; lia
    rw [e]
    exact mkH_get rfl
  have gd : ∀ R', (mkH (H ++ dObj R' :: (B ++ [dObj R2])) lf).get? H.length = some (dObj R') := fun R' => mkH_get rfl
  have ty : s.TypeIs (.ref (H.length + 1 + B.length)) "dict" := ⟨dObj R2, by rw [hh]; exact ga R, rfl⟩
  unfold mergeMapping
  refine wpAny_bind (wpAny_isInstance ty isSubtype_dict_dict ?_)
  rw [if_pos rfl]
  refine wpAny_bind (wpAny_specialOf ty F.slot_dict_iter.lookup (wpAny_bind (wpAny_pure ?_)))
  simp only [beq_self_eq_true]
  rw [if_neg (show ¬ ((H.length + 1 + B.length == sysModules) = true) by rw [beq_iff_eq]; show ¬ (H.length + 1 + B.length = 1); lia)]
  refine wpAny_bind (wpAny_dictEntries (o := dObj R) (by rw [hh]; exact gd R) rfl ?_)
  rw [if_neg (by cases R with | nil => exact absurd rfl h0 | cons => simp)]
  refine wpAny_bind (wpAny_dictEntries (o := dObj R2) (by rw [hh]; exact ga R) rfl ?_)
  refine wpAny_bind (wpAny_dictEpoch (o := dObj R2) (by rw [hh]; exact ga R) rfl ?_)
  refine wpAny_bind ?_
  rw [List.size_toArray, List.length_map, List.range_eq_range']
  suffices L : ∀ (rest dn : List (Int × Nat × Value)) (s : Shared), R2 = dn ++ rest → s.heap = mkH (H ++ dObj (R ++ dn) :: (B ++ [dObj R2])) lf →
      (Q () { s with heap := mkH (H ++ dObj (R ++ R2) :: (B ++ [dObj R2])) lf }) → wpAny (model prog w) A (forIn (List.range' dn.length rest.length) PUnit.unit _) (fun _ s' => wpAny (model prog w) A (pure ()) Q E s') E s from
    L R2 [] s rfl (by simpa using hh) hQ
  intro rest
  induction rest with
  | nil =>
    intro dn s he hs hq
    rw [List.length_nil, List.range'_zero, List.forIn_nil]
    refine wpAny_pure (wpAny_pure ?_)
    have : ({ s with heap := mkH (H ++ dObj (R ++ R2) :: (B ++ [dObj R2])) lf } : Shared) = s := by
      rw [List.append_nil] at he; subst he; rw [← hs]
    rw [this] at hq; exact hq
  | cons x rest ih =>
    intro dn s he hs hq
    rw [List.length_cons, List.range'_succ, List.forIn_cons]
    refine wpAny_bind ?_
    refine wpAny_bind (wpAny_dictEntries (o := dObj R2) (by rw [hs]; exact ga _) rfl ?_)
    have hx : (R2.map ent).toArray[dn.length]? = some (ent x) := by
      rw [he]; simp
    rw [hx]
    have hk' : KeyOk ((R ++ dn).map (·.1) ++ x.1 :: rest.map (·.1)) := by
      rw [he] at hk; simpa using hk
    obtain ⟨h1, h2, h3⟩ := hk'.head
    refine wpAny_bind (wpAny_holding ?_)
    rw [if_neg (by exact Bool.false_ne_true)]
    have hlen : R2.length = dn.length + (rest.length + 1) := by rw [he]; simp
    refine dictPut_exact (H := H) (B := B ++ [dObj R2]) (lf := lf) (R := R ++ dn) hs (by rw [List.length_append]; lia) h1 h2 h3 ?_
    refine wpAny_bind (wpAny_dictEpoch (o := dObj R2) (ga _) rfl ?_)
    rw [if_neg (by simp)]
    refine wpAny_pure ?_
    have e1 : dn.length + 1 = (dn ++ [x]).length := by simp
    have e2 : R ++ dn ++ [((ent x).hash, x.2.1, (ent x).val)] = R ++ (dn ++ [x]) := by simp [ent]
    dsimp only
    rw [e1, e2]
    exact ih (dn ++ [x]) _ (by rw [he]; simp) rfl hq
theorem dispGo_fill : ∀ (a run rest : List (SV × SV)) (main : Option Addr), a ≠ [] → run.length + a.length = 17 → dispGo (a ++ rest) run main = (flushD (run ++ a) main >>= fun m => dispGo rest [] m)
  | [], _, _, _, h, _ => absurd rfl h
  | [x], run, rest, main, _, hl => by
    obtain ⟨k, v⟩ := x
    show dispGo ((k, v) :: rest) run main = _
    rw [dispGo, if_pos (by simp at hl ⊢; lia)]
  | x :: y :: a, run, rest, main, _, hl => by
    obtain ⟨k, v⟩ := x
    show dispGo ((k, v) :: ((y :: a) ++ rest)) run main = _
    rw [dispGo, if_neg (by simp at hl ⊢; lia), dispGo_fill (y :: a) (run ++ [(k, v)]) rest main (by simp) (by simp at hl ⊢; lia)]
    simp
theorem dispGo_last : ∀ (a run : List (SV × SV)) (main : Option Addr), run.length + a.length < 17 → dispGo a run main = (flushD (run ++ a) main >>= fun m => match m with | some d => pure (.ref d) | none => newDict)
  | [], run, main, _ => by rw [dispGo, List.append_nil]
  | x :: a, run, main, hl => by
    obtain ⟨k, v⟩ := x
    rw [dispGo, if_neg (by simp at hl ⊢; lia), dispGo_last a (run ++ [(k, v)]) main (by simp at hl ⊢; lia)]
    simp
theorem pairsS_append (pos : Pos) (a b : List (Int × Str)) : pairsS pos (a ++ b) = pairsS pos a ++ pairsS pos b := by simp [pairsS]
theorem flush_first {H : List Obj} {lf : Life} {pos : Pos} {l : List (Int × Str)} {Q : Option Addr → Shared → Prop} (hh : s.heap = mkH H lf) (hl : l.length = 17) (hk : KeyOk (l.map (·.1)))
    (hQ : Q (some H.length) { s with heap := mkH (H ++ [dObj (rawL s.toks l)]) lf, toks := s.toks + 51 }) : wpAny (model prog w) A (flushD (pairsS pos l) none) Q E s := by
  unfold flushD
  rw [if_neg (by cases l with | nil => simp at hl | cons => simp [pairsS])]
  refine wpAny_bind (sub_long hh (by lia) (by lia) hk (wpAny_pure ?_))
  rw [hl]; exact hQ
theorem flush_long {H B : List Obj} {lf : Life} {R : List (Int × Nat × Value)} {pos : Pos} {l : List (Int × Str)} {Q : Option Addr → Shared → Prop} (hh : s.heap = mkH (H ++ dObj R :: B) lf) (hb : 10 < H.length) (hl : l.length = 17) (hR : R.length < 50000) (h0 : R ≠ [])
    (hk : KeyOk (R.map (·.1) ++ l.map (·.1)))
    (hQ : Q (some H.length) { s with heap := mkH (H ++ dObj (R ++ rawL s.toks l) :: (B ++ [dObj (rawL s.toks l)])) lf, toks := s.toks + 51 }) : wpAny (model prog w) A (flushD (pairsS pos l) (some H.length)) Q E s := by
  unfold flushD
  rw [if_neg (by cases l with | nil => simp at hl | cons => simp [pairsS])]
  have hk2 : KeyOk (l.map (·.1)) := ⟨(List.pairwise_append.mp hk.1).2.1, fun k hx => hk.2 k (List.mem_append_right _ hx)⟩
  refine wpAny_bind (wpAny_holding (sub_long (H := H ++ dObj R :: B) hh (by lia) (by lia) hk2 ?_))
  have e : (H ++ dObj R :: B).length = H.length + 1 + B.length := by simp; lia
  rw [e]
  refine wpAny_bind (wpAny_onRaise (wpAny_holding (merge_exact (H := H) (B := B) (lf := lf) (R := R) (R2 := rawL s.toks l) (by simp) hb (by rw [rawL_length]; lia) (by rw [rawL_keys]; exact hk) h0 (wpAny_pure ?_))))
  dsimp only
  rw [hl]; exact hQ
theorem flush_short {H B : List Obj} {lf : Life} {R : List (Int × Nat × Value)} {pos : Pos} {l : List (Int × Str)} {Q : Option Addr → Shared → Prop} (hh : s.heap = mkH (H ++ dObj R :: B) lf) (hb : 10 < H.length) (hl : l.length ≤ 15) (hl0 : l ≠ []) (hR : R.length < 50000) (h0 : R ≠ [])
    (hk : KeyOk (R.map (·.1) ++ l.map (·.1)))
    (hQ : Q (some H.length) { s with heap := mkH (H ++ dObj (R ++ rawS s.toks l) :: (B ++ [dObj (rawS s.toks l)])) lf, toks := s.toks + 3 * l.length }) : wpAny (model prog w) A (flushD (pairsS pos l) (some H.length)) Q E s := by
  unfold flushD
  rw [if_neg (by cases l with | nil => exact absurd rfl hl0 | cons => simp [pairsS])]
  have hk2 : KeyOk (l.map (·.1)) := ⟨(List.pairwise_append.mp hk.1).2.1, fun k hx => hk.2 k (List.mem_append_right _ hx)⟩
  refine wpAny_bind (wpAny_holding (sub_short (H := H ++ dObj R :: B) hh hl hk2 ?_))
  have e : (H ++ dObj R :: B).length = H.length + 1 + B.length := by simp; lia
  rw [e]
  refine wpAny_bind (wpAny_onRaise (wpAny_holding (merge_exact (H := H) (B := B) (lf := lf) (R := R) (R2 := rawS s.toks l) (by simp) hb (by rw [rawS_length]; lia) (by rw [rawS_keys]; exact hk) h0 (wpAny_pure ?_))))
  exact hQ
noncomputable def rawG : Nat → List (List (Int × Str)) → List (Int × Str) → List (Int × Nat × Value)
  | t, [], last => rawS t last
  | t, g :: gs, last => rawL t g ++ rawG (t + 51) gs last
noncomputable def subsG : Nat → List (List (Int × Str)) → List (Int × Str) → List Obj
  | t, [], last => [dObj (rawS t last)]
  | t, g :: gs, last => dObj (rawL t g) :: subsG (t + 51) gs last
theorem disp_groups {H : List Obj} {lf : Life} {pos : Pos} {last : List (Int × Str)} (hb : 10 < H.length) (hl : last.length ≤ 15) (hl0 : last ≠ []) : ∀ (gs : List (List (Int × Str))) (B : List Obj) (R : List (Int × Nat × Value)) (s : Shared) (Q : Value → Shared → Prop),
    s.heap = mkH (H ++ dObj R :: B) lf → (∀ g ∈ gs, g.length = 17) → R.length + 17 * gs.length < 40000 → R ≠ [] → KeyOk (R.map (·.1) ++ (gs.flatten ++ last).map (·.1)) →
    Q (.ref H.length) { s with heap := mkH (H ++ dObj (R ++ rawG s.toks gs last) :: (B ++ subsG s.toks gs last)) lf, toks := s.toks + (51 * gs.length + 3 * last.length) } →
    wpAny (model prog w) A (dispGo (pairsS pos (gs.flatten ++ last)) [] (some H.length)) Q E s
  | [], B, R, s, Q, hh, hg, hR, h0, hk, hQ => by
    show wpAny _ _ (dispGo (pairsS pos last) [] (some H.length)) Q E s
    rw [dispGo_last (pairsS pos last) [] (some H.length) (by simp [pairsS]; lia), List.nil_append]
    refine wpAny_bind (flush_short hh hb hl hl0 (by lia) h0 hk (wpAny_pure ?_))
    have e : s.toks + 3 * last.length = s.toks + (51 * ([] : List (List (Int × Str))).length + 3 * last.length) := by simp
    rw [e]; exact hQ
  | g :: gs, B, R, s, Q, hh, hg, hR, h0, hk, hQ => by
    have hgl : g.length = 17 := hg g (.head _)
    rw [List.flatten_cons, List.append_assoc, pairsS_append, dispGo_fill (pairsS pos g) [] _ (some H.length) (by cases g with | nil => simp at hgl | cons => simp [pairsS]) (by simp [pairsS]; exact hgl), List.nil_append]
    rw [List.flatten_cons, List.append_assoc, List.map_append, ← List.append_assoc] at hk
    have hk1 : KeyOk (R.map (·.1) ++ g.map (·.1)) := ⟨(List.pairwise_append.mp hk.1).1, fun k hx => hk.2 k (List.mem_append_left _ hx)⟩
    simp only [List.length_cons] at hR
    refine wpAny_bind (flush_long hh hb hgl (by lia) h0 hk1 ?_)
    refine disp_groups hb hl hl0 gs (B ++ [dObj (rawL s.toks g)]) (R ++ rawL s.toks g) _ Q rfl (fun g' hg' => hg g' (.tail _ hg')) (by rw [List.length_append, rawL_length, hgl]; lia) (by simp [h0]) (by rw [List.map_append, rawL_keys]; exact hk) ?_
    have e1 : R ++ rawL s.toks g ++ rawG (s.toks + 51) gs last = R ++ rawG s.toks (g :: gs) last := by rw [List.append_assoc]; rfl
    have e2 : B ++ [dObj (rawL s.toks g)] ++ subsG (s.toks + 51) gs last = B ++ subsG s.toks (g :: gs) last := by rw [List.append_assoc]; rfl
    have e3 : s.toks + 51 + (51 * gs.length + 3 * last.length) = s.toks + (51 * (g :: gs).length + 3 * last.length) := by rw [List.length_cons]; lia
    dsimp only
    rw [e1, e2, e3]; exact hQ
theorem disp_all {H : List Obj} {lf : Life} {pos : Pos} {last g : List (Int × Str)} {gs : List (List (Int × Str))} {Q : Value → Shared → Prop} (hb : 10 < H.length) (hl : last.length ≤ 15) (hl0 : last ≠ [])
    (hh : s.heap = mkH H lf) (hgl : g.length = 17) (hg : ∀ g ∈ gs, g.length = 17) (hR : gs.length < 1000) (hk : KeyOk ((g ++ (gs.flatten ++ last)).map (·.1)))
    (hQ : Q (.ref H.length) { s with heap := mkH (H ++ dObj (rawG s.toks (g :: gs) last) :: subsG (s.toks + 51) gs last) lf, toks := s.toks + (51 * (gs.length + 1) + 3 * last.length) }) :
    wpAny (model prog w) A (dictDisplay ((pairsS pos (g ++ (gs.flatten ++ last))).map fun p => (some p.1, p.2))) Q E s := by
  rw [display_go, pairsS_append, dispGo_fill (pairsS pos g) [] _ none (by cases g with | nil => simp at hgl | cons => simp [pairsS]) (by simp [pairsS]; exact hgl), List.nil_append]
  rw [List.map_append] at hk
  have hk1 : KeyOk (g.map (·.1)) := ⟨(List.pairwise_append.mp hk.1).1, fun k hx => hk.2 k (List.mem_append_left _ hx)⟩
  refine wpAny_bind (flush_first hh hgl hk1 ?_)
  refine disp_groups hb hl hl0 gs [] (rawL s.toks g) _ Q rfl hg (by rw [rawL_length]; lia) (by intro e; have := congrArg List.length e; rw [rawL_length] at this; simp at this; subst this; simp at hgl) (by rw [rawL_keys]; exact hk) ?_
  have e3 : s.toks + 51 + (51 * gs.length + 3 * last.length) = s.toks + (51 * (gs.length + 1) + 3 * last.length) := by lia
  dsimp only
  rw [e3]; exact hQ
end
end Mine
end
section
open PySem PySem.W PyProof.Rows
namespace Mine
noncomputable abbrev ofS (s : String) : Str := Str.ofString s
noncomputable abbrev PW : Program := PySem.Challenge.pw_rl0135_01
noncomputable def bodyL : List Stmt := PySem.Challenge.pw_rl0135_01.main.body
@[irreducible] noncomputable def stN (i : Nat) : Stmt := (bodyL[i]?).getD (.Pass ⟨0, 0, 0, 0⟩)
noncomputable def clsBody : Option Stmt → List Stmt
  | some (.ClassDef _ _ _ b _ _ _ _ _ _ _) => b
  | _ => []
noncomputable def fdAt : Option Stmt → Option (Arguments × List Stmt × Scope)
  | some (.FunctionDef _ a b _ _ _ sc _ _ _) => some (a, b, sc)
  | _ => none
@[reducible] noncomputable def lF0 : Arguments × List Stmt × Scope := (⟨_, rfl⟩ : { x // fdAt (bodyL[0]?) = some x }).1
@[reducible] noncomputable def lF5 : Arguments × List Stmt × Scope := (⟨_, rfl⟩ : { x // fdAt (bodyL[5]?) = some x }).1
@[reducible] noncomputable def lF6 : Arguments × List Stmt × Scope := (⟨_, rfl⟩ : { x // fdAt (bodyL[6]?) = some x }).1
@[reducible] noncomputable def lF7 : Arguments × List Stmt × Scope := (⟨_, rfl⟩ : { x // fdAt (bodyL[7]?) = some x }).1
@[reducible] noncomputable def lF8 : Arguments × List Stmt × Scope := (⟨_, rfl⟩ : { x // fdAt (bodyL[8]?) = some x }).1
@[reducible] noncomputable def lF9 : Arguments × List Stmt × Scope := (⟨_, rfl⟩ : { x // fdAt (bodyL[9]?) = some x }).1
@[reducible] noncomputable def lF10 : Arguments × List Stmt × Scope := (⟨_, rfl⟩ : { x // fdAt (bodyL[10]?) = some x }).1
@[reducible] noncomputable def lF13 : Arguments × List Stmt × Scope := (⟨_, rfl⟩ : { x // fdAt (bodyL[13]?) = some x }).1
@[reducible] noncomputable def lF15 : Arguments × List Stmt × Scope := (⟨_, rfl⟩ : { x // fdAt (bodyL[15]?) = some x }).1
@[reducible] noncomputable def lF17 : Arguments × List Stmt × Scope := (⟨_, rfl⟩ : { x // fdAt (bodyL[17]?) = some x }).1
@[reducible] noncomputable def lF18 : Arguments × List Stmt × Scope := (⟨_, rfl⟩ : { x // fdAt (bodyL[18]?) = some x }).1
@[reducible] noncomputable def lF19 : Arguments × List Stmt × Scope := (⟨_, rfl⟩ : { x // fdAt (bodyL[19]?) = some x }).1
@[reducible] noncomputable def lF20 : Arguments × List Stmt × Scope := (⟨_, rfl⟩ : { x // fdAt (bodyL[20]?) = some x }).1
@[reducible] noncomputable def lF21 : Arguments × List Stmt × Scope := (⟨_, rfl⟩ : { x // fdAt (bodyL[21]?) = some x }).1
@[reducible] noncomputable def lF22 : Arguments × List Stmt × Scope := (⟨_, rfl⟩ : { x // fdAt (bodyL[22]?) = some x }).1
@[reducible] noncomputable def lM1 : Arguments × List Stmt × Scope := (⟨_, rfl⟩ : { x // fdAt ((clsBody (bodyL[2]?))[1]?) = some x }).1
@[reducible] noncomputable def lM2 : Arguments × List Stmt × Scope := (⟨_, rfl⟩ : { x // fdAt ((clsBody (bodyL[2]?))[2]?) = some x }).1
@[reducible] noncomputable def lM3 : Arguments × List Stmt × Scope := (⟨_, rfl⟩ : { x // fdAt ((clsBody (bodyL[2]?))[3]?) = some x }).1
@[reducible] noncomputable def lM4 : Arguments × List Stmt × Scope := (⟨_, rfl⟩ : { x // fdAt ((clsBody (bodyL[2]?))[4]?) = some x }).1
@[reducible] noncomputable def lM5 : Arguments × List Stmt × Scope := (⟨_, rfl⟩ : { x // fdAt ((clsBody (bodyL[2]?))[5]?) = some x }).1
@[reducible] noncomputable def lM6 : Arguments × List Stmt × Scope := (⟨_, rfl⟩ : { x // fdAt ((clsBody (bodyL[2]?))[6]?) = some x }).1
@[reducible] noncomputable def lM7 : Arguments × List Stmt × Scope := (⟨_, rfl⟩ : { x // fdAt ((clsBody (bodyL[2]?))[7]?) = some x }).1
noncomputable def o3 (P : Params) : Obj := ⟨.type "dict", none, .dict #[⟨PyData.keyHash P (ofS "__name__"), .str (ofS "__name__") 165, .str (ofS "law_rl0135_01") 2402⟩, ⟨PyData.keyHash P (ofS "__doc__"), .str (ofS "__doc__") 166, .none⟩, ⟨PyData.keyHash P (ofS "__package__"), .str (ofS "__package__") 167, .none⟩, ⟨PyData.keyHash P (ofS "__loader__"), .str (ofS "__loader__") 168, .builtin "__main__.__loader__#opaque"⟩, ⟨PyData.keyHash P (ofS "__spec__"), .str (ofS "__spec__") 169, .none⟩, ⟨PyData.keyHash P (ofS "__annotations__"), .str (ofS "__annotations__") 170, .ref 6⟩, ⟨PyData.keyHash P (ofS "__builtins__"), .str (ofS "__builtins__") 171, .ref 4⟩, ⟨PyData.keyHash P (ofS "__file__"), .str (ofS "__file__") 173, .str (ofS "/claim/cut.py") 172⟩, ⟨PyData.keyHash P (ofS "__cached__"), .str (ofS "__cached__") 174, .none⟩, ⟨PyData.keyHash P (ofS "_wall"), .str (ofS "_wall") 193, .ref 21⟩, ⟨PyData.keyHash P (ofS "Whitespace"), .str (ofS "Whitespace") 291, .ref 83⟩, ⟨PyData.keyHash P (ofS "_DIV_LIMIT"), .str (ofS "_DIV_LIMIT") 295, .int 4000 294⟩, ⟨PyData.keyHash P (ofS "_div2n1n"), .str (ofS "_div2n1n") 312, .ref 94⟩, ⟨PyData.keyHash P (ofS "_div3n2n"), .str (ofS "_div3n2n") 326, .ref 101⟩, ⟨PyData.keyHash P (ofS "_int2digits"), .str (ofS "_int2digits") 337, .ref 108⟩, ⟨PyData.keyHash P (ofS "_digits2int"), .str (ofS "_digits2int") 348, .ref 115⟩, ⟨PyData.keyHash P (ofS "_divmod_pos"), .str (ofS "_divmod_pos") 363, .ref 122⟩, ⟨PyData.keyHash P (ofS "int_divmod"), .str (ofS "int_divmod") 373, .ref 129⟩, ⟨PyData.keyHash P (ofS "b1_set"), .str (ofS "b1_set") 435, .ref 137⟩, ⟨PyData.keyHash P (ofS "in_table_b1"), .str (ofS "in_table_b1") 442, .ref 147⟩, ⟨PyData.keyHash P (ofS "b3_exceptions"), .str (ofS "b3_exceptions") 2393, .ref 148⟩, ⟨PyData.keyHash P (ofS "map_table_b3"), .str (ofS "map_table_b3") 2401, .ref 193⟩, ⟨PyData.keyHash P (ofS "_law_sign"), .str (ofS "_law_sign") 2417, .ref 200⟩, ⟨PyData.keyHash P (ofS "_law_books"), .str (ofS "_law_books") 2427, .ref 207⟩, ⟨PyData.keyHash P (ofS "_law_walk"), .str (ofS "_law_walk") 2438, .ref 214⟩, ⟨PyData.keyHash P (ofS "_law_told"), .str (ofS "_law_told") 2450, .ref 221⟩, ⟨PyData.keyHash P (ofS "_law_counts"), .str (ofS "_law_counts") 2462, .ref 228⟩, ⟨PyData.keyHash P (ofS "law"), .str (ofS "law") 2468, .ref 233⟩] 28, #[]⟩
noncomputable def c3 (P : Params) : Obj := ⟨.type "dict", none, .dict #[⟨PyData.keyHash P (ofS "__name__"), .str (ofS "__name__") 165, .str (ofS "cpy313.stringprep") 374⟩, ⟨PyData.keyHash P (ofS "__doc__"), .str (ofS "__doc__") 166, .none⟩, ⟨PyData.keyHash P (ofS "__package__"), .str (ofS "__package__") 167, .none⟩, ⟨PyData.keyHash P (ofS "__loader__"), .str (ofS "__loader__") 168, .builtin "__main__.__loader__#opaque"⟩, ⟨PyData.keyHash P (ofS "__spec__"), .str (ofS "__spec__") 169, .none⟩, ⟨PyData.keyHash P (ofS "__annotations__"), .str (ofS "__annotations__") 170, .ref 6⟩, ⟨PyData.keyHash P (ofS "__builtins__"), .str (ofS "__builtins__") 171, .ref 4⟩, ⟨PyData.keyHash P (ofS "__file__"), .str (ofS "__file__") 173, .str (ofS "/claim/cut.py") 172⟩, ⟨PyData.keyHash P (ofS "__cached__"), .str (ofS "__cached__") 174, .none⟩, ⟨PyData.keyHash P (ofS "_wall"), .str (ofS "_wall") 193, .ref 21⟩, ⟨PyData.keyHash P (ofS "Whitespace"), .str (ofS "Whitespace") 291, .ref 83⟩, ⟨PyData.keyHash P (ofS "_DIV_LIMIT"), .str (ofS "_DIV_LIMIT") 295, .int 4000 294⟩, ⟨PyData.keyHash P (ofS "_div2n1n"), .str (ofS "_div2n1n") 312, .ref 94⟩, ⟨PyData.keyHash P (ofS "_div3n2n"), .str (ofS "_div3n2n") 326, .ref 101⟩, ⟨PyData.keyHash P (ofS "_int2digits"), .str (ofS "_int2digits") 337, .ref 108⟩, ⟨PyData.keyHash P (ofS "_digits2int"), .str (ofS "_digits2int") 348, .ref 115⟩, ⟨PyData.keyHash P (ofS "_divmod_pos"), .str (ofS "_divmod_pos") 363, .ref 122⟩, ⟨PyData.keyHash P (ofS "int_divmod"), .str (ofS "int_divmod") 373, .ref 129⟩, ⟨PyData.keyHash P (ofS "b1_set"), .str (ofS "b1_set") 435, .ref 137⟩, ⟨PyData.keyHash P (ofS "in_table_b1"), .str (ofS "in_table_b1") 442, .ref 147⟩, ⟨PyData.keyHash P (ofS "b3_exceptions"), .str (ofS "b3_exceptions") 2393, .ref 148⟩] 21, #[]⟩
noncomputable def a3 (P : Params) : Obj := ⟨.type "dict", none, .dict #[⟨PyData.keyHash P (ofS "__name__"), .str (ofS "__name__") 165, .str (ofS "cpy313.stringprep") 374⟩, ⟨PyData.keyHash P (ofS "__doc__"), .str (ofS "__doc__") 166, .none⟩, ⟨PyData.keyHash P (ofS "__package__"), .str (ofS "__package__") 167, .none⟩, ⟨PyData.keyHash P (ofS "__loader__"), .str (ofS "__loader__") 168, .builtin "__main__.__loader__#opaque"⟩, ⟨PyData.keyHash P (ofS "__spec__"), .str (ofS "__spec__") 169, .none⟩, ⟨PyData.keyHash P (ofS "__annotations__"), .str (ofS "__annotations__") 170, .ref 6⟩, ⟨PyData.keyHash P (ofS "__builtins__"), .str (ofS "__builtins__") 171, .ref 4⟩, ⟨PyData.keyHash P (ofS "__file__"), .str (ofS "__file__") 173, .str (ofS "/claim/cut.py") 172⟩, ⟨PyData.keyHash P (ofS "__cached__"), .str (ofS "__cached__") 174, .none⟩, ⟨PyData.keyHash P (ofS "_wall"), .str (ofS "_wall") 193, .ref 21⟩, ⟨PyData.keyHash P (ofS "Whitespace"), .str (ofS "Whitespace") 291, .ref 83⟩, ⟨PyData.keyHash P (ofS "_DIV_LIMIT"), .str (ofS "_DIV_LIMIT") 295, .int 4000 294⟩, ⟨PyData.keyHash P (ofS "_div2n1n"), .str (ofS "_div2n1n") 312, .ref 94⟩, ⟨PyData.keyHash P (ofS "_div3n2n"), .str (ofS "_div3n2n") 326, .ref 101⟩, ⟨PyData.keyHash P (ofS "_int2digits"), .str (ofS "_int2digits") 337, .ref 108⟩, ⟨PyData.keyHash P (ofS "_digits2int"), .str (ofS "_digits2int") 348, .ref 115⟩, ⟨PyData.keyHash P (ofS "_divmod_pos"), .str (ofS "_divmod_pos") 363, .ref 122⟩, ⟨PyData.keyHash P (ofS "int_divmod"), .str (ofS "int_divmod") 373, .ref 129⟩, ⟨PyData.keyHash P (ofS "b1_set"), .str (ofS "b1_set") 435, .ref 137⟩, ⟨PyData.keyHash P (ofS "in_table_b1"), .str (ofS "in_table_b1") 442, .ref 147⟩] 20, #[]⟩
noncomputable def o11 (P : Params) : Obj := ⟨.type "tuple", none, .seq #[] 0, #[]⟩
noncomputable def o12 (P : Params) : Obj := ⟨.none, none, .fields #[.int 1 0, .int 0 0, .ref 20, .int 5 0, .int 0 0, .ref 27, .int 54 0, .int 0 0, .ref 93, .int 70 0, .int 0 0, .ref 100, .int 80 0, .int 0 0, .ref 107, .int 96 0, .int 0 0, .ref 114, .int 105 0, .int 0 0, .ref 121, .int 116 0, .int 0 0, .ref 128, .int 129 0, .int 0 0, .ref 146, .int 132 0, .int 0 0, .ref 192, .int 138 0, .int 0 0, .ref 199, .int 153 0, .int 0 0, .ref 206, .int 158 0, .int 0 0, .ref 213, .int 166 0, .int 0 0, .ref 220, .int 176 0, .int 0 0, .ref 227, .int 183 0, .int 0 0, .ref 232], #[]⟩
noncomputable def p12 (P : Params) : Obj := ⟨.none, none, .fields #[], #[]⟩
noncomputable def a12 (P : Params) : Obj := ⟨.none, none, .fields #[.int 1 0, .int 0 0, .ref 20, .int 5 0, .int 0 0, .ref 27, .int 54 0, .int 0 0, .ref 93, .int 70 0, .int 0 0, .ref 100, .int 80 0, .int 0 0, .ref 107, .int 96 0, .int 0 0, .ref 114, .int 105 0, .int 0 0, .ref 121, .int 116 0, .int 0 0, .ref 128, .int 129 0, .int 0 0, .ref 146], #[]⟩
noncomputable def o13 (P : Params) : Obj := ⟨.type "code", none, .fields #[.str (ofS "<module>") 182, .str (ofS "<module>") 183, .str (ofS "/claim/cut.py") 184, .int 1 0, .int 0 0, .int 0 0, .int 0 0, .int 0 0, .ref 11, .bool false, .int 181 0, .ref 12, .none, .none, .none, .none, .int 185 0, .int 1 0, .str (ofS "/claim/cut.py") 186], #[]⟩
noncomputable def o14 (P : Params) : Obj := ⟨.type "frame", none, .plain, #[some (.ref 13), some (.ref 3), some (.ref 3), .none, some (.str (ofS "__main__") 164), .none, some (.ref 0)]⟩
noncomputable def o15 (P : Params) : Obj := ⟨.type "tuple", none, .seq #[] 0, #[]⟩
noncomputable def o16 (P : Params) : Obj := ⟨.none, none, .fields #[], #[]⟩
noncomputable def o17 (P : Params) : Obj := ⟨.type "tuple", none, .seq #[.str (ofS "k") 190] 0, #[]⟩
noncomputable def o18 (P : Params) : Obj := ⟨.type "tuple", none, .seq #[] 0, #[]⟩
noncomputable def o19 (P : Params) : Obj := ⟨.none, none, .func { name := (ofS "_wall"), qualname := (ofS "_wall"), params := lF0.1, body := .stmts lF0.2.1, scope := lF0.2.2, globals := 0, closure := [], defaults := .none, kwdefaults := .none, doc := .none, pyModule := .none, annotations := none, code := .none, closureTuple := .none, builtins := 0 }, #[]⟩
noncomputable def o20 (P : Params) : Obj := ⟨.type "code", none, .fields #[.str (ofS "_wall") 187, .str (ofS "_wall") 188, .str (ofS "/claim/cut.py") 189, .int 1 0, .int 1 0, .int 0 0, .int 0 0, .int 3 0, .ref 15, .bool true, .int 181 0, .ref 16, .none, .ref 17, .ref 18, .ref 19, .int 191 0, .int 1 0, .str (ofS "/claim/cut.py") 192], #[]⟩
noncomputable def o21 (P : Params) : Obj := ⟨.type "function", none, .func { name := (ofS "_wall"), qualname := (ofS "_wall"), params := lF0.1, body := .stmts lF0.2.1, scope := lF0.2.2, globals := 3, closure := [], defaults := .none, kwdefaults := .none, doc := .none, pyModule := .str (ofS "__main__") 164, annotations := none, code := .ref 20, closureTuple := .none, builtins := 0 }, #[]⟩
noncomputable def o22 (P : Params) : Obj := ⟨.type "tuple", none, .seq #[] 0, #[]⟩
noncomputable def o23 (P : Params) : Obj := ⟨.type "builtin_function_or_method", none, .fields #[.builtin "type.__prepare__", .type "type"], #[]⟩
noncomputable def o24 (P : Params) : Obj := ⟨.type "dict", none, .dict #[⟨PyData.keyHash P (ofS "__module__"), .str (ofS "__module__") 203, .str (ofS "cpy313.tabnanny") 194⟩, ⟨PyData.keyHash P (ofS "__qualname__"), .str (ofS "__qualname__") 205, .str (ofS "Whitespace") 204⟩, ⟨PyData.keyHash P (ofS "__firstlineno__"), .str (ofS "__firstlineno__") 207, .int 5 206⟩, ⟨PyData.keyHash P (ofS "S"), .str (ofS "S") 211, .str (ofS " ") 209⟩, ⟨PyData.keyHash P (ofS "T"), .str (ofS "T") 212, .str (ofS "\t") 210⟩, ⟨PyData.keyHash P (ofS "__init__"), .str (ofS "__init__") 227, .ref 38⟩, ⟨PyData.keyHash P (ofS "longest_run_of_spaces"), .str (ofS "longest_run_of_spaces") 234, .ref 45⟩, ⟨PyData.keyHash P (ofS "indent_level"), .str (ofS "indent_level") 246, .ref 52⟩, ⟨PyData.keyHash P (ofS "equal"), .str (ofS "equal") 254, .ref 59⟩, ⟨PyData.keyHash P (ofS "not_equal_witness"), .str (ofS "not_equal_witness") 262, .ref 66⟩, ⟨PyData.keyHash P (ofS "less"), .str (ofS "less") 270, .ref 73⟩, ⟨PyData.keyHash P (ofS "not_less_witness"), .str (ofS "not_less_witness") 278, .ref 80⟩, ⟨PyData.keyHash P (ofS "__static_attributes__"), .str (ofS "__static_attributes__") 284, .ref 81⟩] 13, #[]⟩
noncomputable def o25 (P : Params) : Obj := ⟨.type "tuple", none, .seq #[] 0, #[]⟩
noncomputable def o26 (P : Params) : Obj := ⟨.none, none, .fields #[.int 8 0, .int 4 0, .ref 37, .int 31 0, .int 4 0, .ref 44, .int 34 0, .int 4 0, .ref 51, .int 41 0, .int 4 0, .ref 58, .int 44 0, .int 4 0, .ref 65, .int 47 0, .int 4 0, .ref 72, .int 50 0, .int 4 0, .ref 79], #[]⟩
noncomputable def o27 (P : Params) : Obj := ⟨.type "code", none, .fields #[.str (ofS "Whitespace") 198, .str (ofS "Whitespace") 199, .str (ofS "/claim/cut.py") 200, .int 5 0, .int 0 0, .int 0 0, .int 0 0, .int 0 0, .ref 25, .bool false, .int 181 0, .ref 26, .none, .none, .none, .none, .int 201 0, .int 5 0, .str (ofS "/claim/cut.py") 202], #[]⟩
noncomputable def o28 (P : Params) : Obj := ⟨.type "frame", none, .plain, #[some (.ref 27), some (.ref 3), some (.ref 24), .none, some (.str (ofS "cpy313.tabnanny") 194), .none, some (.ref 0)]⟩
noncomputable def o29 (P : Params) : Obj := ⟨.type "str_ascii_iterator", none, .fields #[.none, .int 2 0], #[]⟩
noncomputable def o30 (P : Params) : Obj := ⟨.type "tuple", none, .seq #[] 0, #[]⟩
noncomputable def o31 (P : Params) : Obj := ⟨.type "StopIteration", none, .fields #[.ref 30, .none, .none, .none, .bool false, .none], #[]⟩
noncomputable def o32 (P : Params) : Obj := ⟨.type "tuple", none, .seq #[] 0, #[]⟩
noncomputable def o33 (P : Params) : Obj := ⟨.none, none, .fields #[], #[]⟩
noncomputable def o34 (P : Params) : Obj := ⟨.type "tuple", none, .seq #[.str (ofS "self") 216, .str (ofS "ws") 217, .str (ofS "S") 218, .str (ofS "T") 219, .str (ofS "count") 220, .str (ofS "b") 221, .str (ofS "n") 222, .str (ofS "nt") 223, .str (ofS "ch") 224] 0, #[]⟩
noncomputable def o35 (P : Params) : Obj := ⟨.type "tuple", none, .seq #[] 0, #[]⟩
noncomputable def o36 (P : Params) : Obj := ⟨.none, none, .func { name := (ofS "__init__"), qualname := (ofS "Whitespace.__init__"), params := lM1.1, body := .stmts lM1.2.1, scope := lM1.2.2, globals := 0, closure := [], defaults := .none, kwdefaults := .none, doc := .none, pyModule := .none, annotations := none, code := .none, closureTuple := .none, builtins := 0 }, #[]⟩
noncomputable def o37 (P : Params) : Obj := ⟨.type "code", none, .fields #[.str (ofS "__init__") 213, .str (ofS "Whitespace.__init__") 214, .str (ofS "/claim/cut.py") 215, .int 8 0, .int 2 0, .int 0 0, .int 0 0, .int 3 0, .ref 32, .bool true, .int 181 0, .ref 33, .none, .ref 34, .ref 35, .ref 36, .int 225 0, .int 8 0, .str (ofS "/claim/cut.py") 226], #[]⟩
noncomputable def o38 (P : Params) : Obj := ⟨.type "function", none, .func { name := (ofS "__init__"), qualname := (ofS "Whitespace.__init__"), params := lM1.1, body := .stmts lM1.2.1, scope := lM1.2.2, globals := 3, closure := [], defaults := .none, kwdefaults := .none, doc := .none, pyModule := .str (ofS "cpy313.tabnanny") 194, annotations := none, code := .ref 37, closureTuple := .none, builtins := 0 }, #[]⟩
noncomputable def o39 (P : Params) : Obj := ⟨.type "tuple", none, .seq #[] 0, #[]⟩
noncomputable def o40 (P : Params) : Obj := ⟨.none, none, .fields #[], #[]⟩
noncomputable def o41 (P : Params) : Obj := ⟨.type "tuple", none, .seq #[.str (ofS "self") 231] 0, #[]⟩
noncomputable def o42 (P : Params) : Obj := ⟨.type "tuple", none, .seq #[] 0, #[]⟩
noncomputable def o43 (P : Params) : Obj := ⟨.none, none, .func { name := (ofS "longest_run_of_spaces"), qualname := (ofS "Whitespace.longest_run_of_spaces"), params := lM2.1, body := .stmts lM2.2.1, scope := lM2.2.2, globals := 0, closure := [], defaults := .none, kwdefaults := .none, doc := .none, pyModule := .none, annotations := none, code := .none, closureTuple := .none, builtins := 0 }, #[]⟩
noncomputable def o44 (P : Params) : Obj := ⟨.type "code", none, .fields #[.str (ofS "longest_run_of_spaces") 228, .str (ofS "Whitespace.longest_run_of_spaces") 229, .str (ofS "/claim/cut.py") 230, .int 31 0, .int 1 0, .int 0 0, .int 0 0, .int 3 0, .ref 39, .bool true, .int 181 0, .ref 40, .none, .ref 41, .ref 42, .ref 43, .int 232 0, .int 31 0, .str (ofS "/claim/cut.py") 233], #[]⟩
noncomputable def o45 (P : Params) : Obj := ⟨.type "function", none, .func { name := (ofS "longest_run_of_spaces"), qualname := (ofS "Whitespace.longest_run_of_spaces"), params := lM2.1, body := .stmts lM2.2.1, scope := lM2.2.2, globals := 3, closure := [], defaults := .none, kwdefaults := .none, doc := .none, pyModule := .str (ofS "cpy313.tabnanny") 194, annotations := none, code := .ref 44, closureTuple := .none, builtins := 0 }, #[]⟩
noncomputable def o46 (P : Params) : Obj := ⟨.type "tuple", none, .seq #[] 0, #[]⟩
noncomputable def o47 (P : Params) : Obj := ⟨.none, none, .fields #[], #[]⟩
noncomputable def o48 (P : Params) : Obj := ⟨.type "tuple", none, .seq #[.str (ofS "self") 238, .str (ofS "tabsize") 239, .str (ofS "count") 240, .str (ofS "trailing") 241, .str (ofS "il") 242, .str (ofS "i") 243] 0, #[]⟩
noncomputable def o49 (P : Params) : Obj := ⟨.type "tuple", none, .seq #[] 0, #[]⟩
noncomputable def o50 (P : Params) : Obj := ⟨.none, none, .func { name := (ofS "indent_level"), qualname := (ofS "Whitespace.indent_level"), params := lM3.1, body := .stmts lM3.2.1, scope := lM3.2.2, globals := 0, closure := [], defaults := .none, kwdefaults := .none, doc := .none, pyModule := .none, annotations := none, code := .none, closureTuple := .none, builtins := 0 }, #[]⟩
noncomputable def o51 (P : Params) : Obj := ⟨.type "code", none, .fields #[.str (ofS "indent_level") 235, .str (ofS "Whitespace.indent_level") 236, .str (ofS "/claim/cut.py") 237, .int 34 0, .int 2 0, .int 0 0, .int 0 0, .int 3 0, .ref 46, .bool true, .int 181 0, .ref 47, .none, .ref 48, .ref 49, .ref 50, .int 244 0, .int 34 0, .str (ofS "/claim/cut.py") 245], #[]⟩
noncomputable def o52 (P : Params) : Obj := ⟨.type "function", none, .func { name := (ofS "indent_level"), qualname := (ofS "Whitespace.indent_level"), params := lM3.1, body := .stmts lM3.2.1, scope := lM3.2.2, globals := 3, closure := [], defaults := .none, kwdefaults := .none, doc := .none, pyModule := .str (ofS "cpy313.tabnanny") 194, annotations := none, code := .ref 51, closureTuple := .none, builtins := 0 }, #[]⟩
noncomputable def o53 (P : Params) : Obj := ⟨.type "tuple", none, .seq #[] 0, #[]⟩
noncomputable def o54 (P : Params) : Obj := ⟨.none, none, .fields #[], #[]⟩
noncomputable def o55 (P : Params) : Obj := ⟨.type "tuple", none, .seq #[.str (ofS "self") 250, .str (ofS "other") 251] 0, #[]⟩
noncomputable def o56 (P : Params) : Obj := ⟨.type "tuple", none, .seq #[] 0, #[]⟩
noncomputable def o57 (P : Params) : Obj := ⟨.none, none, .func { name := (ofS "equal"), qualname := (ofS "Whitespace.equal"), params := lM4.1, body := .stmts lM4.2.1, scope := lM4.2.2, globals := 0, closure := [], defaults := .none, kwdefaults := .none, doc := .none, pyModule := .none, annotations := none, code := .none, closureTuple := .none, builtins := 0 }, #[]⟩
noncomputable def o58 (P : Params) : Obj := ⟨.type "code", none, .fields #[.str (ofS "equal") 247, .str (ofS "Whitespace.equal") 248, .str (ofS "/claim/cut.py") 249, .int 41 0, .int 2 0, .int 0 0, .int 0 0, .int 3 0, .ref 53, .bool true, .int 181 0, .ref 54, .none, .ref 55, .ref 56, .ref 57, .int 252 0, .int 41 0, .str (ofS "/claim/cut.py") 253], #[]⟩
noncomputable def o59 (P : Params) : Obj := ⟨.type "function", none, .func { name := (ofS "equal"), qualname := (ofS "Whitespace.equal"), params := lM4.1, body := .stmts lM4.2.1, scope := lM4.2.2, globals := 3, closure := [], defaults := .none, kwdefaults := .none, doc := .none, pyModule := .str (ofS "cpy313.tabnanny") 194, annotations := none, code := .ref 58, closureTuple := .none, builtins := 0 }, #[]⟩
noncomputable def o60 (P : Params) : Obj := ⟨.type "tuple", none, .seq #[] 0, #[]⟩
noncomputable def o61 (P : Params) : Obj := ⟨.none, none, .fields #[], #[]⟩
noncomputable def o62 (P : Params) : Obj := ⟨.type "tuple", none, .seq #[.str (ofS "self") 258, .str (ofS "other") 259] 0, #[]⟩
noncomputable def o63 (P : Params) : Obj := ⟨.type "tuple", none, .seq #[] 0, #[]⟩
noncomputable def o64 (P : Params) : Obj := ⟨.none, none, .func { name := (ofS "not_equal_witness"), qualname := (ofS "Whitespace.not_equal_witness"), params := lM5.1, body := .stmts lM5.2.1, scope := lM5.2.2, globals := 0, closure := [], defaults := .none, kwdefaults := .none, doc := .none, pyModule := .none, annotations := none, code := .none, closureTuple := .none, builtins := 0 }, #[]⟩
noncomputable def o65 (P : Params) : Obj := ⟨.type "code", none, .fields #[.str (ofS "not_equal_witness") 255, .str (ofS "Whitespace.not_equal_witness") 256, .str (ofS "/claim/cut.py") 257, .int 44 0, .int 2 0, .int 0 0, .int 0 0, .int 3 0, .ref 60, .bool true, .int 181 0, .ref 61, .none, .ref 62, .ref 63, .ref 64, .int 260 0, .int 44 0, .str (ofS "/claim/cut.py") 261], #[]⟩
noncomputable def o66 (P : Params) : Obj := ⟨.type "function", none, .func { name := (ofS "not_equal_witness"), qualname := (ofS "Whitespace.not_equal_witness"), params := lM5.1, body := .stmts lM5.2.1, scope := lM5.2.2, globals := 3, closure := [], defaults := .none, kwdefaults := .none, doc := .none, pyModule := .str (ofS "cpy313.tabnanny") 194, annotations := none, code := .ref 65, closureTuple := .none, builtins := 0 }, #[]⟩
noncomputable def o67 (P : Params) : Obj := ⟨.type "tuple", none, .seq #[] 0, #[]⟩
noncomputable def o68 (P : Params) : Obj := ⟨.none, none, .fields #[], #[]⟩
noncomputable def o69 (P : Params) : Obj := ⟨.type "tuple", none, .seq #[.str (ofS "self") 266, .str (ofS "other") 267] 0, #[]⟩
noncomputable def o70 (P : Params) : Obj := ⟨.type "tuple", none, .seq #[] 0, #[]⟩
noncomputable def o71 (P : Params) : Obj := ⟨.none, none, .func { name := (ofS "less"), qualname := (ofS "Whitespace.less"), params := lM6.1, body := .stmts lM6.2.1, scope := lM6.2.2, globals := 0, closure := [], defaults := .none, kwdefaults := .none, doc := .none, pyModule := .none, annotations := none, code := .none, closureTuple := .none, builtins := 0 }, #[]⟩
noncomputable def o72 (P : Params) : Obj := ⟨.type "code", none, .fields #[.str (ofS "less") 263, .str (ofS "Whitespace.less") 264, .str (ofS "/claim/cut.py") 265, .int 47 0, .int 2 0, .int 0 0, .int 0 0, .int 3 0, .ref 67, .bool true, .int 181 0, .ref 68, .none, .ref 69, .ref 70, .ref 71, .int 268 0, .int 47 0, .str (ofS "/claim/cut.py") 269], #[]⟩
noncomputable def o73 (P : Params) : Obj := ⟨.type "function", none, .func { name := (ofS "less"), qualname := (ofS "Whitespace.less"), params := lM6.1, body := .stmts lM6.2.1, scope := lM6.2.2, globals := 3, closure := [], defaults := .none, kwdefaults := .none, doc := .none, pyModule := .str (ofS "cpy313.tabnanny") 194, annotations := none, code := .ref 72, closureTuple := .none, builtins := 0 }, #[]⟩
noncomputable def o74 (P : Params) : Obj := ⟨.type "tuple", none, .seq #[] 0, #[]⟩
noncomputable def o75 (P : Params) : Obj := ⟨.none, none, .fields #[], #[]⟩
noncomputable def o76 (P : Params) : Obj := ⟨.type "tuple", none, .seq #[.str (ofS "self") 274, .str (ofS "other") 275] 0, #[]⟩
noncomputable def o77 (P : Params) : Obj := ⟨.type "tuple", none, .seq #[] 0, #[]⟩
noncomputable def o78 (P : Params) : Obj := ⟨.none, none, .func { name := (ofS "not_less_witness"), qualname := (ofS "Whitespace.not_less_witness"), params := lM7.1, body := .stmts lM7.2.1, scope := lM7.2.2, globals := 0, closure := [], defaults := .none, kwdefaults := .none, doc := .none, pyModule := .none, annotations := none, code := .none, closureTuple := .none, builtins := 0 }, #[]⟩
noncomputable def o79 (P : Params) : Obj := ⟨.type "code", none, .fields #[.str (ofS "not_less_witness") 271, .str (ofS "Whitespace.not_less_witness") 272, .str (ofS "/claim/cut.py") 273, .int 50 0, .int 2 0, .int 0 0, .int 0 0, .int 3 0, .ref 74, .bool true, .int 181 0, .ref 75, .none, .ref 76, .ref 77, .ref 78, .int 276 0, .int 50 0, .str (ofS "/claim/cut.py") 277], #[]⟩
noncomputable def o80 (P : Params) : Obj := ⟨.type "function", none, .func { name := (ofS "not_less_witness"), qualname := (ofS "Whitespace.not_less_witness"), params := lM7.1, body := .stmts lM7.2.1, scope := lM7.2.2, globals := 3, closure := [], defaults := .none, kwdefaults := .none, doc := .none, pyModule := .str (ofS "cpy313.tabnanny") 194, annotations := none, code := .ref 79, closureTuple := .none, builtins := 0 }, #[]⟩
noncomputable def o81 (P : Params) : Obj := ⟨.type "tuple", none, .seq #[.str (ofS "is_simple") 279, .str (ofS "n") 280, .str (ofS "norm") 281, .str (ofS "nt") 282, .str (ofS "raw") 283] 0, #[]⟩
noncomputable def o82 (P : Params) : Obj := ⟨.type "dict", none, .dict #[⟨PyData.keyHash P (ofS "__module__"), .str (ofS "__module__") 203, .str (ofS "cpy313.tabnanny") 194⟩, ⟨PyData.keyHash P (ofS "__firstlineno__"), .str (ofS "__firstlineno__") 207, .int 5 206⟩, ⟨PyData.keyHash P (ofS "S"), .str (ofS "S") 211, .str (ofS " ") 209⟩, ⟨PyData.keyHash P (ofS "T"), .str (ofS "T") 212, .str (ofS "\t") 210⟩, ⟨PyData.keyHash P (ofS "__init__"), .str (ofS "__init__") 227, .ref 38⟩, ⟨PyData.keyHash P (ofS "longest_run_of_spaces"), .str (ofS "longest_run_of_spaces") 234, .ref 45⟩, ⟨PyData.keyHash P (ofS "indent_level"), .str (ofS "indent_level") 246, .ref 52⟩, ⟨PyData.keyHash P (ofS "equal"), .str (ofS "equal") 254, .ref 59⟩, ⟨PyData.keyHash P (ofS "not_equal_witness"), .str (ofS "not_equal_witness") 262, .ref 66⟩, ⟨PyData.keyHash P (ofS "less"), .str (ofS "less") 270, .ref 73⟩, ⟨PyData.keyHash P (ofS "not_less_witness"), .str (ofS "not_less_witness") 278, .ref 80⟩, ⟨PyData.keyHash P (ofS "__static_attributes__"), .str (ofS "__static_attributes__") 284, .ref 81⟩, ⟨PyData.keyHash P (ofS "__dict__"), .str (ofS "__dict__") 286, .ref 84⟩, ⟨PyData.keyHash P (ofS "__weakref__"), .str (ofS "__weakref__") 288, .ref 85⟩, ⟨PyData.keyHash P (ofS "__doc__"), .str (ofS "__doc__") 289, .none⟩] 4, #[]⟩
noncomputable def o83 (P : Params) : Obj := ⟨.type "type", none, .cls { name := (ofS "Whitespace"), bases := [.type "object"], mro := [.ref 83, .type "object"], ns := 82, qualname := (ofS "Whitespace"), hasDict := true, slotNames := [], subclasses := [], abstract := false, collection := none, hasDel := false }, #[.none, .none, some (.str (ofS "Whitespace") 196), some (.str (ofS "Whitespace") 204), some (.builtin "object.__new__"), some (.bool true)]⟩
noncomputable def o84 (P : Params) : Obj := ⟨.type "getset_descriptor", none, .fields #[.str (ofS "__dict__") 285, .ref 83, .builtin "function.__dict__", .builtin "function.__dict__#set"], #[]⟩
noncomputable def o85 (P : Params) : Obj := ⟨.type "getset_descriptor", none, .fields #[.str (ofS "__weakref__") 287, .ref 83, .builtin "ExceptionGroup.__weakref__", .none], #[]⟩
noncomputable def o86 (P : Params) : Obj := ⟨.type "super", none, .fields #[.ref 83, .ref 83, .ref 83], #[]⟩
noncomputable def o87 (P : Params) : Obj := ⟨.type "builtin_function_or_method", none, .fields #[.builtin "object.__init_subclass__", .ref 83], #[]⟩
noncomputable def o88 (P : Params) : Obj := ⟨.type "tuple", none, .seq #[] 0, #[]⟩
noncomputable def o89 (P : Params) : Obj := ⟨.none, none, .fields #[], #[]⟩
noncomputable def o90 (P : Params) : Obj := ⟨.type "tuple", none, .seq #[.str (ofS "a") 299, .str (ofS "b") 300, .str (ofS "n") 301, .str (ofS "pad") 302, .str (ofS "half_n") 303, .str (ofS "mask") 304, .str (ofS "b1") 305, .str (ofS "b2") 306, .str (ofS "q1") 307, .str (ofS "r") 308, .str (ofS "q2") 309] 0, #[]⟩
noncomputable def o91 (P : Params) : Obj := ⟨.type "tuple", none, .seq #[] 0, #[]⟩
noncomputable def o92 (P : Params) : Obj := ⟨.none, none, .func { name := (ofS "_div2n1n"), qualname := (ofS "_div2n1n"), params := lF5.1, body := .stmts lF5.2.1, scope := lF5.2.2, globals := 0, closure := [], defaults := .none, kwdefaults := .none, doc := .none, pyModule := .none, annotations := none, code := .none, closureTuple := .none, builtins := 0 }, #[]⟩
noncomputable def o93 (P : Params) : Obj := ⟨.type "code", none, .fields #[.str (ofS "_div2n1n") 296, .str (ofS "_div2n1n") 297, .str (ofS "/claim/cut.py") 298, .int 54 0, .int 3 0, .int 0 0, .int 0 0, .int 3 0, .ref 88, .bool true, .int 181 0, .ref 89, .none, .ref 90, .ref 91, .ref 92, .int 310 0, .int 54 0, .str (ofS "/claim/cut.py") 311], #[]⟩
noncomputable def o94 (P : Params) : Obj := ⟨.type "function", none, .func { name := (ofS "_div2n1n"), qualname := (ofS "_div2n1n"), params := lF5.1, body := .stmts lF5.2.1, scope := lF5.2.2, globals := 3, closure := [], defaults := .none, kwdefaults := .none, doc := .none, pyModule := .str (ofS "cpy313._pylong") 292, annotations := none, code := .ref 93, closureTuple := .none, builtins := 0 }, #[]⟩
noncomputable def o95 (P : Params) : Obj := ⟨.type "tuple", none, .seq #[] 0, #[]⟩
noncomputable def o96 (P : Params) : Obj := ⟨.none, none, .fields #[], #[]⟩
noncomputable def o97 (P : Params) : Obj := ⟨.type "tuple", none, .seq #[.str (ofS "a12") 316, .str (ofS "a3") 317, .str (ofS "b") 318, .str (ofS "b1") 319, .str (ofS "b2") 320, .str (ofS "n") 321, .str (ofS "q") 322, .str (ofS "r") 323] 0, #[]⟩
noncomputable def o98 (P : Params) : Obj := ⟨.type "tuple", none, .seq #[] 0, #[]⟩
noncomputable def o99 (P : Params) : Obj := ⟨.none, none, .func { name := (ofS "_div3n2n"), qualname := (ofS "_div3n2n"), params := lF6.1, body := .stmts lF6.2.1, scope := lF6.2.2, globals := 0, closure := [], defaults := .none, kwdefaults := .none, doc := .none, pyModule := .none, annotations := none, code := .none, closureTuple := .none, builtins := 0 }, #[]⟩
noncomputable def o100 (P : Params) : Obj := ⟨.type "code", none, .fields #[.str (ofS "_div3n2n") 313, .str (ofS "_div3n2n") 314, .str (ofS "/claim/cut.py") 315, .int 70 0, .int 6 0, .int 0 0, .int 0 0, .int 3 0, .ref 95, .bool true, .int 181 0, .ref 96, .none, .ref 97, .ref 98, .ref 99, .int 324 0, .int 70 0, .str (ofS "/claim/cut.py") 325], #[]⟩
noncomputable def o101 (P : Params) : Obj := ⟨.type "function", none, .func { name := (ofS "_div3n2n"), qualname := (ofS "_div3n2n"), params := lF6.1, body := .stmts lF6.2.1, scope := lF6.2.2, globals := 3, closure := [], defaults := .none, kwdefaults := .none, doc := .none, pyModule := .str (ofS "cpy313._pylong") 292, annotations := none, code := .ref 100, closureTuple := .none, builtins := 0 }, #[]⟩
noncomputable def o102 (P : Params) : Obj := ⟨.type "tuple", none, .seq #[] 0, #[]⟩
noncomputable def o103 (P : Params) : Obj := ⟨.none, none, .fields #[], #[]⟩
noncomputable def o104 (P : Params) : Obj := ⟨.type "tuple", none, .seq #[.str (ofS "a") 330, .str (ofS "n") 331] 0, #[]⟩
noncomputable def o105 (P : Params) : Obj := ⟨.type "tuple", none, .seq #[.str (ofS "n") 332, .str (ofS "a_digits") 333, .str (ofS "inner") 334] 0, #[]⟩
noncomputable def o106 (P : Params) : Obj := ⟨.none, none, .func { name := (ofS "_int2digits"), qualname := (ofS "_int2digits"), params := lF7.1, body := .stmts lF7.2.1, scope := lF7.2.2, globals := 0, closure := [], defaults := .none, kwdefaults := .none, doc := .none, pyModule := .none, annotations := none, code := .none, closureTuple := .none, builtins := 0 }, #[]⟩
noncomputable def o107 (P : Params) : Obj := ⟨.type "code", none, .fields #[.str (ofS "_int2digits") 327, .str (ofS "_int2digits") 328, .str (ofS "/claim/cut.py") 329, .int 80 0, .int 2 0, .int 0 0, .int 0 0, .int 3 0, .ref 102, .bool true, .int 181 0, .ref 103, .none, .ref 104, .ref 105, .ref 106, .int 335 0, .int 80 0, .str (ofS "/claim/cut.py") 336], #[]⟩
noncomputable def o108 (P : Params) : Obj := ⟨.type "function", none, .func { name := (ofS "_int2digits"), qualname := (ofS "_int2digits"), params := lF7.1, body := .stmts lF7.2.1, scope := lF7.2.2, globals := 3, closure := [], defaults := .none, kwdefaults := .none, doc := .none, pyModule := .str (ofS "cpy313._pylong") 292, annotations := none, code := .ref 107, closureTuple := .none, builtins := 0 }, #[]⟩
noncomputable def o109 (P : Params) : Obj := ⟨.type "tuple", none, .seq #[] 0, #[]⟩
noncomputable def o110 (P : Params) : Obj := ⟨.none, none, .fields #[], #[]⟩
noncomputable def o111 (P : Params) : Obj := ⟨.type "tuple", none, .seq #[.str (ofS "digits") 341, .str (ofS "n") 342] 0, #[]⟩
noncomputable def o112 (P : Params) : Obj := ⟨.type "tuple", none, .seq #[.str (ofS "digits") 343, .str (ofS "n") 344, .str (ofS "inner") 345] 0, #[]⟩
noncomputable def o113 (P : Params) : Obj := ⟨.none, none, .func { name := (ofS "_digits2int"), qualname := (ofS "_digits2int"), params := lF8.1, body := .stmts lF8.2.1, scope := lF8.2.2, globals := 0, closure := [], defaults := .none, kwdefaults := .none, doc := .none, pyModule := .none, annotations := none, code := .none, closureTuple := .none, builtins := 0 }, #[]⟩
noncomputable def o114 (P : Params) : Obj := ⟨.type "code", none, .fields #[.str (ofS "_digits2int") 338, .str (ofS "_digits2int") 339, .str (ofS "/claim/cut.py") 340, .int 96 0, .int 2 0, .int 0 0, .int 0 0, .int 3 0, .ref 109, .bool true, .int 181 0, .ref 110, .none, .ref 111, .ref 112, .ref 113, .int 346 0, .int 96 0, .str (ofS "/claim/cut.py") 347], #[]⟩
noncomputable def o115 (P : Params) : Obj := ⟨.type "function", none, .func { name := (ofS "_digits2int"), qualname := (ofS "_digits2int"), params := lF8.1, body := .stmts lF8.2.1, scope := lF8.2.2, globals := 3, closure := [], defaults := .none, kwdefaults := .none, doc := .none, pyModule := .str (ofS "cpy313._pylong") 292, annotations := none, code := .ref 114, closureTuple := .none, builtins := 0 }, #[]⟩
noncomputable def o116 (P : Params) : Obj := ⟨.type "tuple", none, .seq #[] 0, #[]⟩
noncomputable def o117 (P : Params) : Obj := ⟨.none, none, .fields #[], #[]⟩
noncomputable def o118 (P : Params) : Obj := ⟨.type "tuple", none, .seq #[.str (ofS "a") 352, .str (ofS "b") 353, .str (ofS "n") 354, .str (ofS "a_digits") 355, .str (ofS "r") 356, .str (ofS "q_digits") 357, .str (ofS "a_digit") 358, .str (ofS "q_digit") 359, .str (ofS "q") 360] 0, #[]⟩
noncomputable def o119 (P : Params) : Obj := ⟨.type "tuple", none, .seq #[] 0, #[]⟩
noncomputable def o120 (P : Params) : Obj := ⟨.none, none, .func { name := (ofS "_divmod_pos"), qualname := (ofS "_divmod_pos"), params := lF9.1, body := .stmts lF9.2.1, scope := lF9.2.2, globals := 0, closure := [], defaults := .none, kwdefaults := .none, doc := .none, pyModule := .none, annotations := none, code := .none, closureTuple := .none, builtins := 0 }, #[]⟩
noncomputable def o121 (P : Params) : Obj := ⟨.type "code", none, .fields #[.str (ofS "_divmod_pos") 349, .str (ofS "_divmod_pos") 350, .str (ofS "/claim/cut.py") 351, .int 105 0, .int 2 0, .int 0 0, .int 0 0, .int 3 0, .ref 116, .bool true, .int 181 0, .ref 117, .none, .ref 118, .ref 119, .ref 120, .int 361 0, .int 105 0, .str (ofS "/claim/cut.py") 362], #[]⟩
noncomputable def o122 (P : Params) : Obj := ⟨.type "function", none, .func { name := (ofS "_divmod_pos"), qualname := (ofS "_divmod_pos"), params := lF9.1, body := .stmts lF9.2.1, scope := lF9.2.2, globals := 3, closure := [], defaults := .none, kwdefaults := .none, doc := .none, pyModule := .str (ofS "cpy313._pylong") 292, annotations := none, code := .ref 121, closureTuple := .none, builtins := 0 }, #[]⟩
noncomputable def o123 (P : Params) : Obj := ⟨.type "tuple", none, .seq #[] 0, #[]⟩
noncomputable def o124 (P : Params) : Obj := ⟨.none, none, .fields #[], #[]⟩
noncomputable def o125 (P : Params) : Obj := ⟨.type "tuple", none, .seq #[.str (ofS "a") 367, .str (ofS "b") 368, .str (ofS "q") 369, .str (ofS "r") 370] 0, #[]⟩
noncomputable def o126 (P : Params) : Obj := ⟨.type "tuple", none, .seq #[] 0, #[]⟩
noncomputable def o127 (P : Params) : Obj := ⟨.none, none, .func { name := (ofS "int_divmod"), qualname := (ofS "int_divmod"), params := lF10.1, body := .stmts lF10.2.1, scope := lF10.2.2, globals := 0, closure := [], defaults := .none, kwdefaults := .none, doc := .none, pyModule := .none, annotations := none, code := .none, closureTuple := .none, builtins := 0 }, #[]⟩
noncomputable def o128 (P : Params) : Obj := ⟨.type "code", none, .fields #[.str (ofS "int_divmod") 364, .str (ofS "int_divmod") 365, .str (ofS "/claim/cut.py") 366, .int 116 0, .int 2 0, .int 0 0, .int 0 0, .int 3 0, .ref 123, .bool true, .int 181 0, .ref 124, .none, .ref 125, .ref 126, .ref 127, .int 371 0, .int 116 0, .str (ofS "/claim/cut.py") 372], #[]⟩
noncomputable def o129 (P : Params) : Obj := ⟨.type "function", none, .func { name := (ofS "int_divmod"), qualname := (ofS "int_divmod"), params := lF10.1, body := .stmts lF10.2.1, scope := lF10.2.2, globals := 3, closure := [], defaults := .none, kwdefaults := .none, doc := .none, pyModule := .str (ofS "cpy313._pylong") 292, annotations := none, code := .ref 128, closureTuple := .none, builtins := 0 }, #[]⟩
noncomputable def o130 (P : Params) : Obj := ⟨.type "list", none, .seq #[.int 173 376, .int 847 377, .int 6150 378, .int 6155 379, .int 6156 380, .int 6157 381, .int 8203 382, .int 8204 383, .int 8205 384, .int 8288 385, .int 65279 386] 0, #[]⟩
noncomputable def o131 (P : Params) : Obj := ⟨.type "range", none, .fields #[.int 65024 387, .int 65040 388, .int 1 389], #[]⟩
noncomputable def o132 (P : Params) : Obj := ⟨.type "list", none, .seq #[.int 65024 392, .int 65025 393, .int 65026 394, .int 65027 395, .int 65028 396, .int 65029 397, .int 65030 398, .int 65031 399, .int 65032 400, .int 65033 401, .int 65034 402, .int 65035 403, .int 65036 404, .int 65037 405, .int 65038 406, .int 65039 407] 18, #[]⟩
noncomputable def o133 (P : Params) : Obj := ⟨.type "range_iterator", none, .fields #[.int 65040 0, .int 0 0, .int 1 0], #[]⟩
noncomputable def o134 (P : Params) : Obj := ⟨.type "tuple", none, .seq #[] 0, #[]⟩
noncomputable def o135 (P : Params) : Obj := ⟨.type "StopIteration", none, .fields #[.ref 134, .none, .none, .none, .bool false, .none], #[]⟩
noncomputable def o136 (P : Params) : Obj := ⟨.type "list", none, .seq #[.int 173 376, .int 847 377, .int 6150 378, .int 6155 379, .int 6156 380, .int 6157 381, .int 8203 382, .int 8204 383, .int 8205 384, .int 8288 385, .int 65279 386, .int 65024 392, .int 65025 393, .int 65026 394, .int 65027 395, .int 65028 396, .int 65029 397, .int 65030 398, .int 65031 399, .int 65032 400, .int 65033 401, .int 65034 402, .int 65035 403, .int 65036 404, .int 65037 405, .int 65038 406, .int 65039 407] 0, #[]⟩
noncomputable def o137 (P : Params) : Obj := ⟨.type "set", none, .set #[(65024, .int 65024 392), (65025, .int 65025 393), (65026, .int 65026 394), (65027, .int 65027 395), (65028, .int 65028 396), (65029, .int 65029 397), (6150, .int 6150 378), (65030, .int 65030 398), (65031, .int 65031 399), (65032, .int 65032 400), (65033, .int 65033 401), (6155, .int 6155 379), (6156, .int 6156 380), (6157, .int 6157 381), (8203, .int 8203 382), (8204, .int 8204 383), (8205, .int 8205 384), (65034, .int 65034 402), (65035, .int 65035 403), (65036, .int 65036 404), (65037, .int 65037 405), (65038, .int 65038 406), (65039, .int 65039 407), (173, .int 173 376), (847, .int 847 377), (8288, .int 8288 385), (65279, .int 65279 386)] 29 { mask := 127, place := #[0, 1, 2, 3, 4, 5, 6, 7, 8, 9, 10, 11, 12, 13, 14, 15, 16, 17, 18, 19, 20, 21, 22, 45, 79, 96, 127], dummies := #[], finger := 0, led := !P.followText "set-order", moves := 2, plain := true }, #[]⟩
noncomputable def o138 (P : Params) : Obj := ⟨.type "list_iterator", none, .fields #[.none, .int 27 0], #[]⟩
noncomputable def o139 (P : Params) : Obj := ⟨.type "tuple", none, .seq #[] 0, #[]⟩
noncomputable def o140 (P : Params) : Obj := ⟨.type "StopIteration", none, .fields #[.ref 139, .none, .none, .none, .bool false, .none], #[]⟩
noncomputable def o141 (P : Params) : Obj := ⟨.type "tuple", none, .seq #[] 0, #[]⟩
noncomputable def o142 (P : Params) : Obj := ⟨.none, none, .fields #[], #[]⟩
noncomputable def o143 (P : Params) : Obj := ⟨.type "tuple", none, .seq #[.str (ofS "code") 439] 0, #[]⟩
noncomputable def o144 (P : Params) : Obj := ⟨.type "tuple", none, .seq #[] 0, #[]⟩
noncomputable def o145 (P : Params) : Obj := ⟨.none, none, .func { name := (ofS "in_table_b1"), qualname := (ofS "in_table_b1"), params := lF13.1, body := .stmts lF13.2.1, scope := lF13.2.2, globals := 0, closure := [], defaults := .none, kwdefaults := .none, doc := .none, pyModule := .none, annotations := none, code := .none, closureTuple := .none, builtins := 0 }, #[]⟩
noncomputable def o146 (P : Params) : Obj := ⟨.type "code", none, .fields #[.str (ofS "in_table_b1") 436, .str (ofS "in_table_b1") 437, .str (ofS "/claim/cut.py") 438, .int 129 0, .int 1 0, .int 0 0, .int 0 0, .int 3 0, .ref 141, .bool true, .int 181 0, .ref 142, .none, .ref 143, .ref 144, .ref 145, .int 440 0, .int 129 0, .str (ofS "/claim/cut.py") 441], #[]⟩
noncomputable def o147 (P : Params) : Obj := ⟨.type "function", none, .func { name := (ofS "in_table_b1"), qualname := (ofS "in_table_b1"), params := lF13.1, body := .stmts lF13.2.1, scope := lF13.2.2, globals := 3, closure := [], defaults := .none, kwdefaults := .none, doc := .none, pyModule := .str (ofS "cpy313.stringprep") 374, annotations := none, code := .ref 146, closureTuple := .none, builtins := 0 }, #[]⟩
noncomputable def o187 (P : Params) : Obj := ⟨.type "tuple", none, .seq #[] 0, #[]⟩
noncomputable def o188 (P : Params) : Obj := ⟨.none, none, .fields #[], #[]⟩
noncomputable def o189 (P : Params) : Obj := ⟨.type "tuple", none, .seq #[.str (ofS "code") 2397, .str (ofS "r") 2398] 0, #[]⟩
noncomputable def o190 (P : Params) : Obj := ⟨.type "tuple", none, .seq #[] 0, #[]⟩
noncomputable def o191 (P : Params) : Obj := ⟨.none, none, .func { name := (ofS "map_table_b3"), qualname := (ofS "map_table_b3"), params := lF15.1, body := .stmts lF15.2.1, scope := lF15.2.2, globals := 0, closure := [], defaults := .none, kwdefaults := .none, doc := .none, pyModule := .none, annotations := none, code := .none, closureTuple := .none, builtins := 0 }, #[]⟩
noncomputable def o192 (P : Params) : Obj := ⟨.type "code", none, .fields #[.str (ofS "map_table_b3") 2394, .str (ofS "map_table_b3") 2395, .str (ofS "/claim/cut.py") 2396, .int 132 0, .int 1 0, .int 0 0, .int 0 0, .int 3 0, .ref 187, .bool true, .int 181 0, .ref 188, .none, .ref 189, .ref 190, .ref 191, .int 2399 0, .int 132 0, .str (ofS "/claim/cut.py") 2400], #[]⟩
noncomputable def o193 (P : Params) : Obj := ⟨.type "function", none, .func { name := (ofS "map_table_b3"), qualname := (ofS "map_table_b3"), params := lF15.1, body := .stmts lF15.2.1, scope := lF15.2.2, globals := 3, closure := [], defaults := .none, kwdefaults := .none, doc := .none, pyModule := .str (ofS "cpy313.stringprep") 374, annotations := none, code := .ref 192, closureTuple := .none, builtins := 0 }, #[]⟩
noncomputable def o194 (P : Params) : Obj := ⟨.type "tuple", none, .seq #[] 0, #[]⟩
noncomputable def o195 (P : Params) : Obj := ⟨.none, none, .fields #[], #[]⟩
noncomputable def o196 (P : Params) : Obj := ⟨.type "tuple", none, .seq #[.str (ofS "number") 2407, .str (ofS "family") 2408, .str (ofS "kind") 2409, .str (ofS "which") 2410, .str (ofS "small") 2411, .str (ofS "alphabet") 2412, .str (ofS "double") 2413, .str (ofS "codes") 2414] 0, #[]⟩
noncomputable def o197 (P : Params) : Obj := ⟨.type "tuple", none, .seq #[] 0, #[]⟩
noncomputable def o198 (P : Params) : Obj := ⟨.none, none, .func { name := (ofS "_law_sign"), qualname := (ofS "_law_sign"), params := lF17.1, body := .stmts lF17.2.1, scope := lF17.2.2, globals := 0, closure := [], defaults := .none, kwdefaults := .none, doc := .none, pyModule := .none, annotations := none, code := .none, closureTuple := .none, builtins := 0 }, #[]⟩
noncomputable def o199 (P : Params) : Obj := ⟨.type "code", none, .fields #[.str (ofS "_law_sign") 2404, .str (ofS "_law_sign") 2405, .str (ofS "/claim/cut.py") 2406, .int 138 0, .int 2 0, .int 0 0, .int 0 0, .int 3 0, .ref 194, .bool true, .int 181 0, .ref 195, .none, .ref 196, .ref 197, .ref 198, .int 2415 0, .int 138 0, .str (ofS "/claim/cut.py") 2416], #[]⟩
noncomputable def o200 (P : Params) : Obj := ⟨.type "function", none, .func { name := (ofS "_law_sign"), qualname := (ofS "_law_sign"), params := lF17.1, body := .stmts lF17.2.1, scope := lF17.2.2, globals := 3, closure := [], defaults := .none, kwdefaults := .none, doc := .none, pyModule := .str (ofS "law_rl0135_01") 2402, annotations := none, code := .ref 199, closureTuple := .none, builtins := 0 }, #[]⟩
noncomputable def o201 (P : Params) : Obj := ⟨.type "tuple", none, .seq #[] 0, #[]⟩
noncomputable def o202 (P : Params) : Obj := ⟨.none, none, .fields #[], #[]⟩
noncomputable def o203 (P : Params) : Obj := ⟨.type "tuple", none, .seq #[.str (ofS "one") 2421, .str (ofS "two") 2422, .str (ofS "books") 2423, .str (ofS "letters") 2424] 0, #[]⟩
noncomputable def o204 (P : Params) : Obj := ⟨.type "tuple", none, .seq #[] 0, #[]⟩
noncomputable def o205 (P : Params) : Obj := ⟨.none, none, .func { name := (ofS "_law_books"), qualname := (ofS "_law_books"), params := lF18.1, body := .stmts lF18.2.1, scope := lF18.2.2, globals := 0, closure := [], defaults := .none, kwdefaults := .none, doc := .none, pyModule := .none, annotations := none, code := .none, closureTuple := .none, builtins := 0 }, #[]⟩
noncomputable def o206 (P : Params) : Obj := ⟨.type "code", none, .fields #[.str (ofS "_law_books") 2418, .str (ofS "_law_books") 2419, .str (ofS "/claim/cut.py") 2420, .int 153 0, .int 2 0, .int 0 0, .int 0 0, .int 3 0, .ref 201, .bool true, .int 181 0, .ref 202, .none, .ref 203, .ref 204, .ref 205, .int 2425 0, .int 153 0, .str (ofS "/claim/cut.py") 2426], #[]⟩
noncomputable def o207 (P : Params) : Obj := ⟨.type "function", none, .func { name := (ofS "_law_books"), qualname := (ofS "_law_books"), params := lF18.1, body := .stmts lF18.2.1, scope := lF18.2.2, globals := 3, closure := [], defaults := .none, kwdefaults := .none, doc := .none, pyModule := .str (ofS "law_rl0135_01") 2402, annotations := none, code := .ref 206, closureTuple := .none, builtins := 0 }, #[]⟩
noncomputable def o208 (P : Params) : Obj := ⟨.type "tuple", none, .seq #[] 0, #[]⟩
noncomputable def o209 (P : Params) : Obj := ⟨.none, none, .fields #[], #[]⟩
noncomputable def o210 (P : Params) : Obj := ⟨.type "tuple", none, .seq #[.str (ofS "lead") 2431, .str (ofS "size") 2432, .str (ofS "stops") 2433, .str (ofS "behind") 2434, .str (ofS "sign") 2435] 0, #[]⟩
noncomputable def o211 (P : Params) : Obj := ⟨.type "tuple", none, .seq #[] 0, #[]⟩
noncomputable def o212 (P : Params) : Obj := ⟨.none, none, .func { name := (ofS "_law_walk"), qualname := (ofS "_law_walk"), params := lF19.1, body := .stmts lF19.2.1, scope := lF19.2.2, globals := 0, closure := [], defaults := .none, kwdefaults := .none, doc := .none, pyModule := .none, annotations := none, code := .none, closureTuple := .none, builtins := 0 }, #[]⟩
noncomputable def o213 (P : Params) : Obj := ⟨.type "code", none, .fields #[.str (ofS "_law_walk") 2428, .str (ofS "_law_walk") 2429, .str (ofS "/claim/cut.py") 2430, .int 158 0, .int 2 0, .int 0 0, .int 0 0, .int 3 0, .ref 208, .bool true, .int 181 0, .ref 209, .none, .ref 210, .ref 211, .ref 212, .int 2436 0, .int 158 0, .str (ofS "/claim/cut.py") 2437], #[]⟩
noncomputable def o214 (P : Params) : Obj := ⟨.type "function", none, .func { name := (ofS "_law_walk"), qualname := (ofS "_law_walk"), params := lF19.1, body := .stmts lF19.2.1, scope := lF19.2.2, globals := 3, closure := [], defaults := .none, kwdefaults := .none, doc := .none, pyModule := .str (ofS "law_rl0135_01") 2402, annotations := none, code := .ref 213, closureTuple := .none, builtins := 0 }, #[]⟩
noncomputable def o215 (P : Params) : Obj := ⟨.type "tuple", none, .seq #[] 0, #[]⟩
noncomputable def o216 (P : Params) : Obj := ⟨.none, none, .fields #[], #[]⟩
noncomputable def o217 (P : Params) : Obj := ⟨.type "tuple", none, .seq #[.str (ofS "books") 2442, .str (ofS "column") 2443, .str (ofS "size") 2444, .str (ofS "back") 2445, .str (ofS "sign") 2446, .str (ofS "quotient") 2447] 0, #[]⟩
noncomputable def o218 (P : Params) : Obj := ⟨.type "tuple", none, .seq #[] 0, #[]⟩
noncomputable def o219 (P : Params) : Obj := ⟨.none, none, .func { name := (ofS "_law_told"), qualname := (ofS "_law_told"), params := lF20.1, body := .stmts lF20.2.1, scope := lF20.2.2, globals := 0, closure := [], defaults := .none, kwdefaults := .none, doc := .none, pyModule := .none, annotations := none, code := .none, closureTuple := .none, builtins := 0 }, #[]⟩
noncomputable def o220 (P : Params) : Obj := ⟨.type "code", none, .fields #[.str (ofS "_law_told") 2439, .str (ofS "_law_told") 2440, .str (ofS "/claim/cut.py") 2441, .int 166 0, .int 3 0, .int 0 0, .int 0 0, .int 3 0, .ref 215, .bool true, .int 181 0, .ref 216, .none, .ref 217, .ref 218, .ref 219, .int 2448 0, .int 166 0, .str (ofS "/claim/cut.py") 2449], #[]⟩
noncomputable def o221 (P : Params) : Obj := ⟨.type "function", none, .func { name := (ofS "_law_told"), qualname := (ofS "_law_told"), params := lF20.1, body := .stmts lF20.2.1, scope := lF20.2.2, globals := 3, closure := [], defaults := .none, kwdefaults := .none, doc := .none, pyModule := .str (ofS "law_rl0135_01") 2402, annotations := none, code := .ref 220, closureTuple := .none, builtins := 0 }, #[]⟩
noncomputable def o222 (P : Params) : Obj := ⟨.type "tuple", none, .seq #[] 0, #[]⟩
noncomputable def o223 (P : Params) : Obj := ⟨.none, none, .fields #[], #[]⟩
noncomputable def o224 (P : Params) : Obj := ⟨.type "tuple", none, .seq #[.str (ofS "letters") 2454, .str (ofS "kinds") 2455, .str (ofS "counts") 2456, .str (ofS "much") 2457, .str (ofS "twos") 2458, .str (ofS "ones") 2459] 0, #[]⟩
noncomputable def o225 (P : Params) : Obj := ⟨.type "tuple", none, .seq #[] 0, #[]⟩
noncomputable def o226 (P : Params) : Obj := ⟨.none, none, .func { name := (ofS "_law_counts"), qualname := (ofS "_law_counts"), params := lF21.1, body := .stmts lF21.2.1, scope := lF21.2.2, globals := 0, closure := [], defaults := .none, kwdefaults := .none, doc := .none, pyModule := .none, annotations := none, code := .none, closureTuple := .none, builtins := 0 }, #[]⟩
noncomputable def o227 (P : Params) : Obj := ⟨.type "code", none, .fields #[.str (ofS "_law_counts") 2451, .str (ofS "_law_counts") 2452, .str (ofS "/claim/cut.py") 2453, .int 176 0, .int 2 0, .int 0 0, .int 0 0, .int 3 0, .ref 222, .bool true, .int 181 0, .ref 223, .none, .ref 224, .ref 225, .ref 226, .int 2460 0, .int 176 0, .str (ofS "/claim/cut.py") 2461], #[]⟩
noncomputable def o228 (P : Params) : Obj := ⟨.type "function", none, .func { name := (ofS "_law_counts"), qualname := (ofS "_law_counts"), params := lF21.1, body := .stmts lF21.2.1, scope := lF21.2.2, globals := 3, closure := [], defaults := .none, kwdefaults := .none, doc := .none, pyModule := .str (ofS "law_rl0135_01") 2402, annotations := none, code := .ref 227, closureTuple := .none, builtins := 0 }, #[]⟩
noncomputable def o229 (P : Params) : Obj := ⟨.type "tuple", none, .seq #[] 0, #[]⟩
noncomputable def o230 (P : Params) : Obj := ⟨.none, none, .fields #[], #[]⟩
noncomputable def o231 (P : Params) : Obj := ⟨.none, none, .func { name := (ofS "law"), qualname := (ofS "law"), params := lF22.1, body := .stmts lF22.2.1, scope := lF22.2.2, globals := 0, closure := [], defaults := .none, kwdefaults := .none, doc := .none, pyModule := .none, annotations := none, code := .none, closureTuple := .none, builtins := 0 }, #[]⟩
noncomputable def o232 (P : Params) : Obj := ⟨.type "code", none, .fields #[.str (ofS "law") 2463, .str (ofS "law") 2464, .str (ofS "/claim/cut.py") 2465, .int 183 0, .int 1 0, .int 0 0, .int 0 0, .int 3 0, .ref 229, .bool true, .int 181 0, .ref 230, .none, .none, .none, .ref 231, .int 2466 0, .int 183 0, .str (ofS "/claim/cut.py") 2467], #[]⟩
noncomputable def o233 (P : Params) : Obj := ⟨.type "function", none, .func { name := (ofS "law"), qualname := (ofS "law"), params := lF22.1, body := .stmts lF22.2.1, scope := lF22.2.2, globals := 3, closure := [], defaults := .none, kwdefaults := .none, doc := .none, pyModule := .str (ofS "law_rl0135_01") 2402, annotations := none, code := .ref 232, closureTuple := .none, builtins := 0 }, #[]⟩
@[irreducible] noncomputable def L14 (P : Params) : List Obj := [boot_o_0 P, boot_o_1 P, boot_o_2 P, a3 P, boot_o_4 P, boot_o_5 P, boot_o_6 P, boot_o_7 P, boot_o_8 P, boot_o_9 P, boot_o_10 P, o11 P, a12 P, o13 P, o14 P, o15 P, o16 P, o17 P, o18 P, o19 P, o20 P, o21 P, o22 P, o23 P, o24 P, o25 P, o26 P, o27 P, o28 P, o29 P, o30 P, o31 P, o32 P, o33 P, o34 P, o35 P, o36 P, o37 P, o38 P, o39 P, o40 P, o41 P, o42 P, o43 P, o44 P, o45 P, o46 P, o47 P, o48 P, o49 P, o50 P, o51 P, o52 P, o53 P, o54 P, o55 P, o56 P, o57 P, o58 P, o59 P, o60 P, o61 P, o62 P, o63 P, o64 P, o65 P, o66 P, o67 P, o68 P, o69 P, o70 P, o71 P, o72 P, o73 P, o74 P, o75 P, o76 P, o77 P, o78 P, o79 P, o80 P, o81 P, o82 P, o83 P, o84 P, o85 P, o86 P, o87 P, o88 P, o89 P, o90 P, o91 P, o92 P, o93 P, o94 P, o95 P, o96 P, o97 P, o98 P, o99 P, o100 P, o101 P, o102 P, o103 P, o104 P, o105 P, o106 P, o107 P, o108 P, o109 P, o110 P, o111 P, o112 P, o113 P, o114 P, o115 P, o116 P, o117 P, o118 P, o119 P, o120 P, o121 P, o122 P, o123 P, o124 P, o125 P, o126 P, o127 P, o128 P, o129 P, o130 P, o131 P, o132 P, o133 P, o134 P, o135 P, o136 P, o137 P, o138 P, o139 P, o140 P, o141 P, o142 P, o143 P, o144 P, o145 P, o146 P, o147 P]
@[irreducible] noncomputable def LP (P : Params) : List Obj := [boot_o_0 P, boot_o_1 P, boot_o_2 P, boot_o_3 P, boot_o_4 P, boot_o_5 P, boot_o_6 P, boot_o_7 P, boot_o_8 P, boot_o_9 P, boot_o_10 P, o11 P, p12 P, o13 P, o14 P]
@[irreducible] noncomputable def L15 (P : Params) (ob : Obj) (sub : Nat → Obj) : List Obj := [boot_o_0 P, boot_o_1 P, boot_o_2 P, c3 P, boot_o_4 P, boot_o_5 P, boot_o_6 P, boot_o_7 P, boot_o_8 P, boot_o_9 P, boot_o_10 P, o11 P, a12 P, o13 P, o14 P, o15 P, o16 P, o17 P, o18 P, o19 P, o20 P, o21 P, o22 P, o23 P, o24 P, o25 P, o26 P, o27 P, o28 P, o29 P, o30 P, o31 P, o32 P, o33 P, o34 P, o35 P, o36 P, o37 P, o38 P, o39 P, o40 P, o41 P, o42 P, o43 P, o44 P, o45 P, o46 P, o47 P, o48 P, o49 P, o50 P, o51 P, o52 P, o53 P, o54 P, o55 P, o56 P, o57 P, o58 P, o59 P, o60 P, o61 P, o62 P, o63 P, o64 P, o65 P, o66 P, o67 P, o68 P, o69 P, o70 P, o71 P, o72 P, o73 P, o74 P, o75 P, o76 P, o77 P, o78 P, o79 P, o80 P, o81 P, o82 P, o83 P, o84 P, o85 P, o86 P, o87 P, o88 P, o89 P, o90 P, o91 P, o92 P, o93 P, o94 P, o95 P, o96 P, o97 P, o98 P, o99 P, o100 P, o101 P, o102 P, o103 P, o104 P, o105 P, o106 P, o107 P, o108 P, o109 P, o110 P, o111 P, o112 P, o113 P, o114 P, o115 P, o116 P, o117 P, o118 P, o119 P, o120 P, o121 P, o122 P, o123 P, o124 P, o125 P, o126 P, o127 P, o128 P, o129 P, o130 P, o131 P, o132 P, o133 P, o134 P, o135 P, o136 P, o137 P, o138 P, o139 P, o140 P, o141 P, o142 P, o143 P, o144 P, o145 P, o146 P, o147 P, ob, sub 0, sub 1, sub 2, sub 3, sub 4, sub 5, sub 6, sub 7, sub 8, sub 9, sub 10, sub 11, sub 12, sub 13, sub 14, sub 15, sub 16, sub 17, sub 18, sub 19, sub 20, sub 21, sub 22, sub 23, sub 24, sub 25, sub 26, sub 27, sub 28, sub 29, sub 30, sub 31, sub 32, sub 33, sub 34, sub 35, sub 36, sub 37]
@[irreducible] noncomputable def LF (P : Params) (ob : Obj) (sub : Nat → Obj) : List Obj := [boot_o_0 P, boot_o_1 P, boot_o_2 P, o3 P, boot_o_4 P, boot_o_5 P, boot_o_6 P, boot_o_7 P, boot_o_8 P, boot_o_9 P, boot_o_10 P, o11 P, o12 P, o13 P, o14 P, o15 P, o16 P, o17 P, o18 P, o19 P, o20 P, o21 P, o22 P, o23 P, o24 P, o25 P, o26 P, o27 P, o28 P, o29 P, o30 P, o31 P, o32 P, o33 P, o34 P, o35 P, o36 P, o37 P, o38 P, o39 P, o40 P, o41 P, o42 P, o43 P, o44 P, o45 P, o46 P, o47 P, o48 P, o49 P, o50 P, o51 P, o52 P, o53 P, o54 P, o55 P, o56 P, o57 P, o58 P, o59 P, o60 P, o61 P, o62 P, o63 P, o64 P, o65 P, o66 P, o67 P, o68 P, o69 P, o70 P, o71 P, o72 P, o73 P, o74 P, o75 P, o76 P, o77 P, o78 P, o79 P, o80 P, o81 P, o82 P, o83 P, o84 P, o85 P, o86 P, o87 P, o88 P, o89 P, o90 P, o91 P, o92 P, o93 P, o94 P, o95 P, o96 P, o97 P, o98 P, o99 P, o100 P, o101 P, o102 P, o103 P, o104 P, o105 P, o106 P, o107 P, o108 P, o109 P, o110 P, o111 P, o112 P, o113 P, o114 P, o115 P, o116 P, o117 P, o118 P, o119 P, o120 P, o121 P, o122 P, o123 P, o124 P, o125 P, o126 P, o127 P, o128 P, o129 P, o130 P, o131 P, o132 P, o133 P, o134 P, o135 P, o136 P, o137 P, o138 P, o139 P, o140 P, o141 P, o142 P, o143 P, o144 P, o145 P, o146 P, o147 P, ob, sub 0, sub 1, sub 2, sub 3, sub 4, sub 5, sub 6, sub 7, sub 8, sub 9, sub 10, sub 11, sub 12, sub 13, sub 14, sub 15, sub 16, sub 17, sub 18, sub 19, sub 20, sub 21, sub 22, sub 23, sub 24, sub 25, sub 26, sub 27, sub 28, sub 29, sub 30, sub 31, sub 32, sub 33, sub 34, sub 35, sub 36, sub 37, o187 P, o188 P, o189 P, o190 P, o191 P, o192 P, o193 P, o194 P, o195 P, o196 P, o197 P, o198 P, o199 P, o200 P, o201 P, o202 P, o203 P, o204 P, o205 P, o206 P, o207 P, o208 P, o209 P, o210 P, o211 P, o212 P, o213 P, o214 P, o215 P, o216 P, o217 P, o218 P, o219 P, o220 P, o221 P, o222 P, o223 P, o224 P, o225 P, o226 P, o227 P, o228 P, o229 P, o230 P, o231 P, o232 P, o233 P]
@[irreducible] noncomputable def env0 : Env := { scope := PySem.Challenge.pw_rl0135_01.main.scope, locals := mainNs, globals := mainNs, cells := [], code := .ref 13, frame := some 14 }
@[irreducible] noncomputable def c0 : Code := .body (behindTheImports PySem.Challenge.pw_rl0135_01) env0
noncomputable def base0 (p : Pos) : List Frame := [.ret (fun _ => .unsupported "") none false [] (.builtin "claim.caller" {}) p []]
@[irreducible] noncomputable def stA : List Stmt := bodyL.take 12
@[irreducible] noncomputable def stB : List Stmt := (bodyL.take 14).drop 12
noncomputable def h3m (P : Params) : Obj := match (a3 P).data with
  | .dict es _ => { a3 P with data := .dict (es.extract 0 18) 18 }
  | _ => a3 P
noncomputable def h12m (P : Params) : Obj := match (a12 P).data with
  | .fields vs => { a12 P with data := .fields (vs.extract 0 24) }
  | _ => a12 P
@[irreducible] noncomputable def L12 (P : Params) : List Obj := ((((L14 P).take 130).set 3 (h3m P)).set 12 (h12m P))
@[irreducible] noncomputable def stE : List Stmt := bodyL.drop 15
noncomputable abbrev dQ : Code → Sem Fin := PySem.W.Fast.tw11892475500146522536 PySem.W.Fast.tw14364793385576792824
theorem dQ_eq : denote table = dQ := by rw [table_eq_tree, PySem.W.Fast.te11892475500146522536, PySem.W.Fast.te14364793385576792824]
noncomputable abbrev xQ : List Stmt → Env → Sem Flow := PySem.W.Fast.tw12563942051412417395
theorem xQ_eq : execs = xQ := PySem.W.Fast.te12563942051412417395
end Mine
end
section
open PySem PySem.W PyProof.Rows
namespace Mine
theorem runE (w : World) (os : OsState) (p p0 : Pos) (ob : Obj) (sub : Nat → Obj) : goK dQ PySem.Challenge.pw_rl0135_01 w 1 400 ⟨mkH (L15 w.params ob sub) {}, #[], {}, 2394, os⟩ ⟨(xQ stE env0).bind fun a => .pure (.done a), c0, p, base0 p0⟩ = some (.next, ⟨mkH (LF w.params ob sub) {}, #[], {}, 2469, os⟩) := by
  kernel_rfl
noncomputable abbrev RunA (w : World) : Prop := (fun (os : OsState) (p p0 : Pos) => goK dQ PySem.Challenge.pw_rl0135_01 w 1 1900 ⟨mkH (LP w.params) {}, #[], {}, 187, os⟩ ⟨(xQ stA env0).bind fun a => .pure (.done a), c0, p, base0 p0⟩) = fun os _ _ => some (.next, ⟨mkH (L12 w.params) {}, #[], {}, 376, os⟩)
theorem runA_f (w : World) : RunA (w.withFollow "special-get-raises" false) := by
  kernel_rfl
theorem runA_t (w : World) : RunA (w.withFollow "special-get-raises" true) := by
  kernel_rfl
theorem runA (w : World) : RunA w := byRow2 "special-get-raises" (P := RunA) runA_f runA_t w
noncomputable abbrev RunB (w : World) : Prop := (fun (os : OsState) (p p0 : Pos) => goK dQ PySem.Challenge.pw_rl0135_01 w 1 1900 ⟨mkH (L12 w.params) {}, #[], {}, 376, os⟩ ⟨(xQ stB env0).bind fun a => .pure (.done a), c0, p, base0 p0⟩) = fun os _ _ => some (.next, ⟨mkH (L14 w.params) {}, #[], {}, 443, os⟩)
theorem runB_f (w : World) : RunB (w.withFollow "special-get-raises" false) := by
  kernel_rfl
theorem runB_t (w : World) : RunB (w.withFollow "special-get-raises" true) := by
  kernel_rfl
theorem runB (w : World) : RunB w := byRow2 "special-get-raises" (P := RunB) runB_f runB_t w
theorem runP1 (w : World) (os : OsState) (p : Pos) : goK dQ PySem.Challenge.pw_rl0135_01 w 0 40 ⟨boot_heap w.params, #[], boot_drawn, boot_toks, os⟩ ⟨(moduleCode PySem.Challenge.pw_rl0135_01.main).bind fun a => .pure (.done (.ret a)), .builtin "claim.caller" {}, p, []⟩ = some (.ret (.ref 13), ⟨mkH ((LP w.params).take 14) {}, #[], {}, 187, os⟩) := by
  kernel_rfl
theorem runP2 (w : World) (os : OsState) (p : Pos) : goK dQ PySem.Challenge.pw_rl0135_01 w 0 40 ⟨mkH ((LP w.params).take 14) {}, #[], {}, 187, os⟩ ⟨(newBodyFrame (.ref 13) mainNs mainNs).bind fun a => .pure (.done (.ret (.ref a))), .builtin "claim.caller" {}, p, []⟩ = some (.ret (.ref 14), ⟨mkH (LP w.params) {}, #[], {}, 187, os⟩) := by
  kernel_rfl
theorem runS (w : World) (os : OsState) (p p0 : Pos) (ob : Obj) (sub : Nat → Obj) : goK dQ PySem.Challenge.pw_rl0135_01 w 1 40 ⟨mkH (L14 w.params ++ ob :: [sub 0, sub 1, sub 2, sub 3, sub 4, sub 5, sub 6, sub 7, sub 8, sub 9, sub 10, sub 11, sub 12, sub 13, sub 14, sub 15, sub 16, sub 17, sub 18, sub 19, sub 20, sub 21, sub 22, sub 23, sub 24, sub 25, sub 26, sub 27, sub 28, sub 29, sub 30, sub 31, sub 32, sub 33, sub 34, sub 35, sub 36, sub 37]) {}, #[], {}, 2393, os⟩ ⟨(storeName env0 (ofS "b3_exceptions") (.ref 148)).bind fun _ => .pure (.done .next), c0, p, base0 p0⟩ = some (.next, ⟨mkH (L15 w.params ob sub) {}, #[], {}, 2394, os⟩) := by
  kernel_rfl
end Mine
end
section
open PySem PySem.W PyProof.Rows
namespace Mine
@[irreducible] noncomputable def dKeys : Stmt → List (Option Expr)
  | .Assign _ (.Dict ks _ _) _ => ks
  | _ => []
@[irreducible] noncomputable def dVals : Stmt → List Expr
  | .Assign _ (.Dict _ vs _) _ => vs
  | _ => []
@[irreducible] noncomputable def pairsOf : List (Option Expr) → List Expr → List (Int × Str)
  | some (.Constant (.int k) _ _) :: ks, .Constant (.str x) _ _ :: vs => (k, x) :: pairsOf ks vs
  | _, _ => []
noncomputable def dPos : Pos := ⟨131, 16, 131, 8704⟩
@[irreducible] noncomputable def b3L : List (Int × Str) := pairsOf (dKeys (stN 14)) (dVals (stN 14))
@[irreducible] noncomputable def g0 : List (Int × Str) := b3L.take 17
@[irreducible] noncomputable def gsL : List (List (Int × Str)) := (List.range 37).map fun i => (b3L.drop (17 + 17 * i)).take 17
@[irreducible] noncomputable def lastL : List (Int × Str) := b3L.drop 646
theorem b3_split : b3L = g0 ++ (gsL.flatten ++ lastL) := by kernel_rfl
theorem b3_len : b3L.length = 650 := by kernel_rfl
@[irreducible] noncomputable def b3Raw : List (Int × Nat × Value) := rawG 443 (g0 :: gsL) lastL
@[irreducible] noncomputable def b3Subs : List Obj := subsG 494 gsL lastL
@[irreducible] noncomputable def subF (i : Nat) : Obj := (b3Subs[i]?).getD default
theorem subs_eq : b3Subs = [subF 0, subF 1, subF 2, subF 3, subF 4, subF 5, subF 6, subF 7, subF 8, subF 9, subF 10, subF 11, subF 12, subF 13, subF 14, subF 15, subF 16, subF 17, subF 18, subF 19, subF 20, subF 21, subF 22, subF 23, subF 24, subF 25, subF 26, subF 27, subF 28, subF 29, subF 30, subF 31, subF 32, subF 33, subF 34, subF 35, subF 36, subF 37] := by kernel_rfl
theorem st14 : stN 14 = .Assign [.Name (ofS "b3_exceptions") ⟨131, 0, 131, 13⟩] (.Dict (dKeys (stN 14)) (dVals (stN 14)) dPos) ⟨131, 0, 131, 8704⟩ := by kernel_rfl
noncomputable def sortedB : List Int → Bool
  | a :: b :: r => decide (a < b) && sortedB (b :: r)
  | _ => true
theorem sortedB_pairwise : ∀ (l : List Int), sortedB l = true → l.Pairwise (· < ·)
  | [], _ => .nil
  | [a], _ => by simp
  | a :: b :: r, h => by
    obtain ⟨h1, h2⟩ := Bool.and_eq_true_iff.mp h
    have ih := sortedB_pairwise (b :: r) h2
    refine List.pairwise_cons.mpr ⟨fun x hx => ?_, ih⟩
    have hab := of_decide_eq_true h1
    rcases List.mem_cons.mp hx with rfl | hx
    · exact hab
    · exact Int.lt_trans hab ((List.pairwise_cons.mp ih).1 x hx)
theorem b3_keys : KeyOk (b3L.map (·.1)) := by
  refine ⟨sortedB_pairwise _ (by kernel_rfl), fun k hk => ?_⟩
  have h : ((b3L.map (·.1)).all fun k => decide (0 ≤ k) && decide (k < 1000000)) = true := by kernel_rfl
  have := List.all_eq_true.mp h k hk
  simpa using this
theorem b3_items : (evalEachOpt (dKeys (stN 14)) env0).zip ((evalEach (dVals (stN 14)) env0).map fun v => do let x ← v; standAt dPos; pure x) = (pairsS dPos b3L).map fun p => (some p.1, p.2) := by kernel_rfl
noncomputable def A0 : Around := { handled := none, depth := 100000, frames := none, guards := none, units := 100000 }
theorem in0 (p : Pos) : (Ctx.of c0 (base0 p)).In A0 :=
  ⟨rfl, by show frameCount [(Code.builtin "claim.caller" {}, p)] + c0.weight ≤ 100000; rw [frameCount_cons]; decide +kernel, fun l hl => (by cases hl), fun g hg => (by cases hg), by show (Ctx.of c0 (base0 default)).units ≤ 100000; decide +kernel⟩
theorem wp_b3 {w : World} {os : OsState} {p p0 : Pos} {Q : Flow → Pos → Shared → Prop} {E : Value → Pos → Shared → Prop} (hQ : ∀ p, Q .next p ⟨mkH (L15 w.params (dObj b3Raw) subF) {}, #[], {}, 2394, os⟩) :
    Sem.wp (model PW w) (Ctx.of c0 (base0 p0)) (exec (stN 14) env0) Q E p ⟨mkH (L14 w.params) {}, #[], {}, 443, os⟩ := by
  rw [st14]
  have hs : swapsWith (.Dict (dKeys (stN 14)) (dVals (stN 14)) dPos) (some (.Name (ofS "b3_exceptions") ⟨131, 0, 131, 13⟩)) (Pos.mk 131 0 131 8704).line env0 = pure false := by kernel_rfl
  rw [exec_Assign_Name env0 _ _ _ _ hs]
  simp only [Sem.wp_bind', Sem.wp_cmd_standAt, Sem.wp_bindName, Sem.wp_pure']
  have h14 : (L14 w.params).length = 148 := by kernel_rfl
  have hl1 : gsL.length = 37 := by kernel_rfl
  have hl2 : lastL.length = 4 := by kernel_rfl
  have D : wpAny (model PW w) A0 (eval (.Dict (dKeys (stN 14)) (dVals (stN 14)) dPos) env0) (fun v s' => v = .ref 148 ∧ s' = ⟨mkH (L14 w.params ++ dObj b3Raw :: b3Subs) {}, #[], {}, 2393, os⟩) (fun _ _ => False) ⟨mkH (L14 w.params) {}, #[], {}, 443, os⟩ := by
    rw [arm_eval_Dict, b3_items, b3_split]
    refine wpAny_bind (wpAny_standAt ?_)
    refine disp_all (H := L14 w.params) (lf := {}) (by rw [h14]; lia) (by rw [hl2]; lia) (by intro e; rw [e] at hl2; cases hl2) rfl (by kernel_rfl) ?_ (by rw [hl1]; lia) ?_ ?_
    · have : (gsL.all fun g => g.length == 17) = true := by kernel_rfl
      intro g hg
      simpa using List.all_eq_true.mp this g hg
    · rw [← b3_split]; exact b3_keys
    · refine ⟨by rw [h14], ?_⟩
      rw [hl1, hl2]
      unfold b3Raw b3Subs
      rfl
  refine Sem.wp_mono _ _ _ (fun v p' s' h => ?_) (fun _ _ _ x => x.elim) _ _ (D _ _ (in0 p0))
  obtain ⟨rfl, rfl⟩ := h
  rw [subs_eq]
  exact wp_of_goK (M := model PW w) (enc := fun _ => Flow.next) (f := .next) (by show goK (denote table) _ _ _ _ _ _ = _; rw [dQ_eq]; exact runS w os _ p0 _ _) (fun a p' _ => hQ p')
end Mine
end
section
open PySem PySem.W PyProof.Rows
namespace Mine
noncomputable def SF (w : World) (os : OsState) : Shared := ⟨mkH (LF w.params (dObj b3Raw) subF) {}, #[], {}, 2469, os⟩
noncomputable def S0 (w : World) (os : OsState) : Shared := ⟨boot_heap w.params, #[], boot_drawn, boot_toks, os⟩
theorem body_split : behindTheImports PW = stA ++ (stB ++ stN 14 :: stE) := by kernel_rfl
theorem den_body (w : World) : (model PW w).den c0 = (do blockStart (behindTheImports PW) env0; return .done (← (execs (behindTheImports PW) env0).onRaise (leaving env0)) : Sem Fin) := by
  unfold c0; rfl
theorem block_nil : blockStart (behindTheImports PW) env0 = pure () := by kernel_rfl
theorem goA (w : World) (os : OsState) (p p0 : Pos) : goK (denote table) PW w 1 1900 ⟨mkH (LP w.params) {}, #[], {}, 187, os⟩ ⟨(execs stA env0).bind fun a => .pure (.done a), c0, p, base0 p0⟩ = some (.next, ⟨mkH (L12 w.params) {}, #[], {}, 376, os⟩) := by
  rw [dQ_eq, xQ_eq]; exact congrFun (congrFun (congrFun (runA w) os) p) p0
theorem goB (w : World) (os : OsState) (p p0 : Pos) : goK (denote table) PW w 1 1900 ⟨mkH (L12 w.params) {}, #[], {}, 376, os⟩ ⟨(execs stB env0).bind fun a => .pure (.done a), c0, p, base0 p0⟩ = some (.next, ⟨mkH (L14 w.params) {}, #[], {}, 443, os⟩) := by
  rw [dQ_eq, xQ_eq]; exact congrFun (congrFun (congrFun (runB w) os) p) p0
theorem goE (w : World) (os : OsState) (p p0 : Pos) (ob : Obj) (sub : Nat → Obj) : goK (denote table) PW w 1 400 ⟨mkH (L15 w.params ob sub) {}, #[], {}, 2394, os⟩ ⟨(execs stE env0).bind fun a => .pure (.done a), c0, p, base0 p0⟩ = some (.next, ⟨mkH (LF w.params ob sub) {}, #[], {}, 2469, os⟩) := by
  rw [dQ_eq, xQ_eq]; exact runE w os p p0 ob sub
theorem wp_body (w : World) (os : OsState) (p p0 : Pos) : Sem.wp (model PW w) (Ctx.of c0 (base0 p0)) (execs (behindTheImports PW) env0) (fun f _ s => f = .next ∧ s = SF w os) (fun _ _ _ => False) p ⟨mkH (LP w.params) {}, #[], {}, 187, os⟩ := by
  rw [body_split]
  refine wp_execs_append _ _ _ _ _ _ _ _ _ ?_
  refine wp_of_goK (M := model PW w) (enc := fun a => a) (goA w os p p0) (fun a p' e => ?_)
  subst e
  refine wp_execs_append _ _ _ _ _ _ _ _ _ ?_
  refine wp_of_goK (M := model PW w) (enc := fun a => a) (goB w os p' p0) (fun a p' e => ?_)
  subst e
  show Sem.wp _ _ (execs ([stN 14] ++ stE) env0) _ _ _ _
  refine wp_execs_append _ _ _ _ _ _ _ _ _ ?_
  have e1 : execs [stN 14] env0 = (do match ← exec (stN 14) env0 with | .next => execs [] env0 | f => pure f) := by rw [execs]; rfl
  rw [e1, Sem.wp_bind']
  refine wp_b3 fun p => ?_
  simp only [execs, Sem.wp_pure']
  refine wp_of_goK (M := model PW w) (enc := fun a => a) (goE w os p p0 _ _) (fun a p' e => ?_)
  subst e
  exact ⟨rfl, rfl⟩
theorem enter0 (p : Pos) : (Ctx.of (.builtin "claim.caller" {}) []).enter c0 none p = Ctx.of c0 (base0 p) := rfl
theorem topWp (w : World) (os : OsState) (p : Pos) : Sem.wp (model PW w) (Ctx.of (.builtin "claim.caller" {}) []) (topStub PW).cur (fun fin _ s => fin = .done (.ret .none) ∧ s = SF w os) (fun _ _ _ => False) p (S0 w os) := by
  have e : (topStub PW).cur = (do let code ← moduleCode PW.main; let frame ← newBodyFrame code mainNs mainNs; let _ ← run (.body (behindTheImports PW) { scope := PW.main.scope, locals := mainNs, globals := mainNs, cells := [], code, frame := some frame }); ret .none) := rfl
  rw [e]
  rw [Sem.wp_bind']
  refine wp_of_goK (M := model PW w) (base := []) (enc := fun a => .ret a) (by show goK (denote table) _ _ _ _ _ _ = _; rw [dQ_eq]; exact runP1 w os p) (fun a p1 h => ?_)
  obtain rfl : a = .ref 13 := by injection h
  rw [Sem.wp_bind']
  refine wp_of_goK (M := model PW w) (base := []) (enc := fun a => .ret (.ref a)) (by show goK (denote table) _ _ _ _ _ _ = _; rw [dQ_eq]; exact runP2 w os p1) (fun a p2 h => ?_)
  obtain rfl : a = 14 := by injection h with h; injection h
  rw [Sem.wp_bind', Sem.wp_run]
  have hc : Code.body (behindTheImports PW) { scope := PW.main.scope, locals := mainNs, globals := mainNs, cells := [], code := .ref 13, frame := some 14 } = c0 := by unfold c0 env0; rfl
  rw [hc, enter0, wpCode_iff_wp]
  show Sem.wp _ _ ((model PW w).den c0) _ _ _ _
  rw [den_body, block_nil]
  simp only [Sem.wp_bind', Sem.wp_pure', Sem.wp_onRaise]
  refine Sem.wp_mono _ _ _ (fun f p' s h => ?_) (fun _ _ _ x => x.elim) _ _ (wp_body w os p2 p2)
  obtain ⟨rfl, rfl⟩ := h
  exact ⟨rfl, rfl⟩
end Mine
end
section
open PySem PySem.W PyProof.Rows
namespace Mine
noncomputable def qV : Program := view PySem.Challenge.pw_rl0135_01 [0, 2, 4, 5, 6, 7, 8, 9, 10, 12, 13, 14, 15, 17, 18, 19, 20, 21, 22]
noncomputable def looseL : List Str := [ofS "Whitespace", ofS "b1_set", ofS "b3_exceptions"]
noncomputable def KF (P : Params) : Frag := (nat_lit 2, boot_o_2 P) :: (nat_lit 3, o3 P) :: (nat_lit 15, o15 P) :: (nat_lit 17, o17 P) :: (nat_lit 18, o18 P) :: (nat_lit 20, o20 P) :: (nat_lit 21, o21 P) :: (nat_lit 32, o32 P) :: (nat_lit 34, o34 P) :: (nat_lit 35, o35 P) :: (nat_lit 37, o37 P) :: (nat_lit 38, o38 P) :: (nat_lit 39, o39 P) :: (nat_lit 41, o41 P) :: (nat_lit 42, o42 P) :: (nat_lit 44, o44 P) :: (nat_lit 45, o45 P) :: (nat_lit 46, o46 P) :: (nat_lit 48, o48 P) :: (nat_lit 49, o49 P) :: (nat_lit 51, o51 P) :: (nat_lit 52, o52 P) :: (nat_lit 53, o53 P) :: (nat_lit 55, o55 P) :: (nat_lit 56, o56 P) :: (nat_lit 58, o58 P) :: (nat_lit 59, o59 P) :: (nat_lit 60, o60 P) :: (nat_lit 62, o62 P) :: (nat_lit 63, o63 P) :: (nat_lit 65, o65 P) :: (nat_lit 66, o66 P) :: (nat_lit 67, o67 P) :: (nat_lit 69, o69 P) :: (nat_lit 70, o70 P) :: (nat_lit 72, o72 P) :: (nat_lit 73, o73 P) :: (nat_lit 74, o74 P) :: (nat_lit 76, o76 P) :: (nat_lit 77, o77 P) :: (nat_lit 79, o79 P) :: (nat_lit 80, o80 P) :: (nat_lit 81, o81 P) :: (nat_lit 82, o82 P) :: (nat_lit 83, o83 P) :: (nat_lit 84, o84 P) :: (nat_lit 85, o85 P) :: (nat_lit 88, o88 P) :: (nat_lit 90, o90 P) :: (nat_lit 91, o91 P) :: (nat_lit 93, o93 P) :: (nat_lit 94, o94 P) :: (nat_lit 95, o95 P) :: (nat_lit 97, o97 P) :: (nat_lit 98, o98 P) :: (nat_lit 100, o100 P) :: (nat_lit 101, o101 P) :: (nat_lit 102, o102 P) :: (nat_lit 104, o104 P) :: (nat_lit 105, o105 P) :: (nat_lit 107, o107 P) :: (nat_lit 108, o108 P) :: (nat_lit 109, o109 P) :: (nat_lit 111, o111 P) :: (nat_lit 112, o112 P) :: (nat_lit 114, o114 P) :: (nat_lit 115, o115 P) :: (nat_lit 116, o116 P) :: (nat_lit 118, o118 P) :: (nat_lit 119, o119 P) :: (nat_lit 121, o121 P) :: (nat_lit 122, o122 P) :: (nat_lit 123, o123 P) :: (nat_lit 125, o125 P) :: (nat_lit 126, o126 P) :: (nat_lit 128, o128 P) :: (nat_lit 129, o129 P) :: (nat_lit 137, o137 P) :: (nat_lit 141, o141 P) :: (nat_lit 143, o143 P) :: (nat_lit 144, o144 P) :: (nat_lit 146, o146 P) :: (nat_lit 147, o147 P) :: (nat_lit 148, dObj b3Raw) :: (nat_lit 187, o187 P) :: (nat_lit 189, o189 P) :: (nat_lit 190, o190 P) :: (nat_lit 192, o192 P) :: (nat_lit 193, o193 P) :: (nat_lit 194, o194 P) :: (nat_lit 196, o196 P) :: (nat_lit 197, o197 P) :: (nat_lit 199, o199 P) :: (nat_lit 200, o200 P) :: (nat_lit 201, o201 P) :: (nat_lit 203, o203 P) :: (nat_lit 204, o204 P) :: (nat_lit 206, o206 P) :: (nat_lit 207, o207 P) :: (nat_lit 208, o208 P) :: (nat_lit 210, o210 P) :: (nat_lit 211, o211 P) :: (nat_lit 213, o213 P) :: (nat_lit 214, o214 P) :: (nat_lit 215, o215 P) :: (nat_lit 217, o217 P) :: (nat_lit 218, o218 P) :: (nat_lit 220, o220 P) :: (nat_lit 221, o221 P) :: (nat_lit 222, o222 P) :: (nat_lit 224, o224 P) :: (nat_lit 225, o225 P) :: (nat_lit 227, o227 P) :: (nat_lit 228, o228 P) :: (nat_lit 229, o229 P) :: (nat_lit 232, o232 P) :: (nat_lit 233, o233 P) :: []
noncomputable def kAddrs : List Addr := [2, 3, 15, 17, 18, 20, 21, 32, 34, 35, 37, 38, 39, 41, 42, 44, 45, 46, 48, 49, 51, 52, 53, 55, 56, 58, 59, 60, 62, 63, 65, 66, 67, 69, 70, 72, 73, 74, 76, 77, 79, 80, 81, 82, 83, 84, 85, 88, 90, 91, 93, 94, 95, 97, 98, 100, 101, 102, 104, 105, 107, 108, 109, 111, 112, 114, 115, 116, 118, 119, 121, 122, 123, 125, 126, 128, 129, 137, 141, 143, 144, 146, 147, 148, 187, 189, 190, 192, 193, 194, 196, 197, 199, 200, 201, 203, 204, 206, 207, 208, 210, 211, 213, 214, 215, 217, 218, 220, 221, 222, 224, 225, 227, 228, 229, 232, 233]
theorem kAddrs_eq (P : Params) : kAddrs = (KF P).map (·.1) := by kernel_rfl
theorem kf_in (w : World) (os : OsState) : kAddrs.map (SF w os).heap.get? = (KF w.params).map fun p => some p.2 := by kernel_rfl
noncomputable def D3 : List (PyData × PyData) := b3L.map fun p => (.int p.1, .str p.2)
theorem no_key {k : Int} : ∀ {l : List (Int × Str)}, (∀ a ∈ l, k < a.1) → hasIntKey k (l.map fun p => (.int p.1, .str p.2)) = false
  | [], _ => rfl
  | a :: l, h => by
    show ((a.1 == k) || hasIntKey k (l.map fun p => (.int p.1, .str p.2))) = false
    rw [no_key fun b hb => h b (.tail _ hb), Bool.or_false, beq_eq_false_iff_ne]
    exact (Int.ne_of_lt (h a (.head _))).symm
theorem apart_map : ∀ {l : List (Int × Str)}, (l.map (·.1)).Pairwise (· < ·) → keysApartInt (l.map fun p => (.int p.1, .str p.2)) = true
  | [], _ => rfl
  | a :: l, h => by
    obtain ⟨h1, h2⟩ := List.pairwise_cons.mp h
    show (!hasIntKey a.1 (l.map fun p => (.int p.1, .str p.2)) && keysApartInt (l.map fun p => (.int p.1, .str p.2))) = true
    rw [no_key fun b hb => h1 _ (List.mem_map_of_mem hb), apart_map h2]
    rfl
theorem d3_apart : keysApartInt D3 = true := apart_map b3_keys.1
theorem d3_tab : tabIntOf qV (ofS "b3_exceptions") = some D3 := by kernel_rfl
theorem sf_tab3 (w : World) (os : OsState) : (SF w os).heap.tabIntOk (ofS "b3_exceptions") D3 = true := by
  unfold Heap.tabIntOk
  rw [d3_apart]
  kernel_rfl
theorem val_split : valNames qV = [ofS "_DIV_LIMIT", ofS "b1_set", ofS "b3_exceptions"] := by kernel_rfl
theorem sf_tabs (w : World) (os : OsState) : tablesOk qV (SF w os).heap = true := by
  unfold tablesOk
  rw [val_split, List.all_cons, List.all_cons, List.all_cons, d3_tab]
  dsimp only
  rw [sf_tab3]
  kernel_rfl
theorem mods0 : importedModules PySem.Challenge.pw_rl0135_01.main.body = [] := by kernel_rfl
theorem sf_seen (w : World) (os : OsState) : openSeen qV looseL (importedModules PySem.Challenge.pw_rl0135_01.main.body) (fun s => xlAt qV [] s) true (SF w os) = openGood qV looseL := by
  unfold openSeen
  rw [mods0, sf_tabs]
  kernel_rfl
theorem sf_chains : chainsOk qV = true := by kernel_rfl
theorem sf_rest (w : World) (os : OsState) : (staticsOk (importedModules PySem.Challenge.pw_rl0135_01.main.body) (S0 w os).heap (SF w os).heap && namesBound PySem.Challenge.pw_rl0135_01 (SF w os).heap && gensDone (SF w os) && laidKept (S0 w os).heap (SF w os).heap) = true := by kernel_rfl
end Mine
end
section
open PySem PySem.W PyProof.Rows
namespace Mine
theorem runN_last {den : Code → Sem Fin} {p : Program} {w : World} {o : Outcome} {s' : Shared} : ∀ (n : Nat) (s : Shared) (t : Thread), runN den p w n s t = .halted o s' → ∃ k s₁ t₁, runN den p w k s t = .running s₁ t₁ ∧ step den p w s₁ t₁ = .halt o s'
  | 0, _, _, h => by cases h
  | n + 1, s, t, h => by
    simp only [runN] at h
    cases hs : step den p w s t with
    | go s₂ t₂ =>
      rw [hs] at h
      obtain ⟨k, s₁, t₁, h1, h2⟩ := runN_last n s₂ t₂ h
      exact ⟨k + 1, s₁, t₁, by simp only [runN, hs]; exact h1, h2⟩
    | halt o' s₂ =>
      rw [hs] at h
      cases h
      exact ⟨0, s, t, rfl, hs⟩
theorem halt_through {den : Code → Sem Fin} {p : Program} {w : World} {f : Flow} {s s' : Shared} {t : Thread} (h : step den p w s t = .halt (.done f) s') : through t = true := by
  obtain ⟨heap, gens, drawn, toks, os⟩ := s
  obtain ⟨cur, code, pos, stack⟩ := t
  cases cur with
  | pure x =>
    cases x with
    | done g =>
      cases stack with
      | nil => rfl
      | cons F st => cases F <;> (simp only [step] at h; cases h)
    | again c => simp only [step] at h; cases h
  | raise e =>
    cases stack with
    | nil => simp only [step, finish] at h; split at h <;> cases h
    | cons F st => cases F <;> (simp only [step] at h; cases h)
  | _ => simp only [step, finish] at h <;> (repeat' split at h) <;> first | cases h | (simp_all; done)
theorem asleep0 (w : World) (os : OsState) : (S0 w os).asleep := ⟨rfl, rfl⟩
theorem top_run (w : World) (os : OsState) : ∃ n t, schedN (denote table) PW w n (.single (S0 w os) (topStub PW)) = .running (.single (SF w os) t) ∧ through t = true := by
  have W := topWp w os default
  have W2 : Sem.wp (model PW w) ⟨.builtin "claim.caller" {}, none, none, [], none⟩ (topStub PW).cur (Sem.finPost (model PW w) ⟨.builtin "claim.caller" {}, none, none, [], none⟩ fun r s' => (r = .ok (.ret .none) ∧ s' = SF w os) ∧ leftWithCleanup s'.gens = false)
      (fun e _ s' => ((.error e : Result) = .ok (.ret .none) ∧ s' = SF w os) ∧ leftWithCleanup s'.gens = false) default (S0 w os) := by
    refine Sem.wp_mono _ _ _ (fun fin p' s' h => ?_) (fun _ _ _ x => x.elim) _ _ W
    obtain ⟨rfl, rfl⟩ := h
    exact ⟨⟨rfl, rfl⟩, by show leftWithCleanup (#[] : Array GenState) = false; simp [leftWithCleanup]⟩
  obtain ⟨n, r, s', hn, rfl, rfl⟩ := (wp_iff_halts (M := model PW w) (topStub PW).cur (fun r s' => r = .ok (.ret .none) ∧ s' = SF w os) default (S0 w os)).mp W2
  have hn' : runNI (denote table) PW w n (S0 w os) (topStub PW) = .halted (.done (.ret .none)) (SF w os) := hn
  obtain ⟨s'', hr, hf, hc⟩ := runNI_real (denote table) PW w hn' rfl
  have hs : s'' = SF w os := Shared.eq_of_forget_eq hf rfl
  subst hs
  have hne : ∀ k s₂, runN (denote table) PW w k (S0 w os) (topStub PW) ≠ .halted (.unsupported "lifetime:generator-with-cleanup-left-suspended") s₂ := by
    intro k s₂ hk
    have a := runN_mono (denote table) PW w n k (S0 w os) (topStub PW) _ _ hr
    have b := runN_mono (denote table) PW w k n (S0 w os) (topStub PW) _ s₂ hk
    rw [Nat.add_comm, b] at a
    injection a with a1 _
    cases a1
  obtain ⟨k, s₁, t₁, h1, h2⟩ := runN_last n _ _ hr
  have e : s₁ = SF w os := (step_halt_same (denote table) PW w _ _ _ _ h2).symm
  subst e
  exact ⟨k, t₁, (schedN_eq_runN (denote table) PW w _ _ (asleep0 w os) ⟨hc, hne⟩ k).trans (congrArg Run.lift h1), halt_through h2⟩
theorem sf_old (w : World) (os : OsState) : ∀ b o, (S0 w os).heap.get? b = some o → ¬ theTopsOwn (S0 w os).heap b → (SF w os).heap.get? b = some o := by
  intro b o h hn
  have hlt : b < 11 := by
    have e : (S0 w os).heap.objs.size = 11 := by kernel_rfl
    exact Nat.lt_of_lt_of_le (Heap.lt_size h) (Nat.le_of_eq e)
  have hb : b ≠ 3 := fun e => hn (.inl e)
  rw [← h]
  have key : ∀ i, (i ≠ 3 → i < 11 → (SF w os).heap.get? i = (S0 w os).heap.get? i) := by
    intro i h3 hi
    match i, h3, hi with
    | 0, _, _ => kernel_rfl
    | 1, _, _ => kernel_rfl
    | 2, _, _ => kernel_rfl
    | 3, h, _ => exact absurd rfl h
    | 4, _, _ => kernel_rfl
    | 5, _, _ => kernel_rfl
    | 6, _, _ => kernel_rfl
    | 7, _, _ => kernel_rfl
    | 8, _, _ => kernel_rfl
    | 9, _, _ => kernel_rfl
    | 10, _, _ => kernel_rfl
    | n + 11, _, h => exact absurd h (Nat.not_lt.mpr (Nat.le_add_left 11 n))
  exact key b hb hlt
theorem sf_ground (w : World) (os : OsState) : Ground qV looseL [] (XL qV []) w (SF w os) ((SF w os).heap.nsMap mainGlobals) ((SF w os).heap.nsMap builtinsNs) (SF w os).heap ∧ (if true then (SF w os).gens.size == 0 else !leftWithCleanup (SF w os).gens) = true ∧ (SF w os).heap.isNs mainGlobals = true ∧
      staticsAccountedI (SF w os).heap (importedModules PySem.Challenge.pw_rl0135_01.main.body) ∧ keysAreStrs (SF w os).heap mainNs ∧ builtinsAsBooted (SF w os).heap ∧ builtinsGlobalAsBooted (SF w os).heap := ground_of_open (w := w) (s := SF w os) (XP := XL qV []) (fun s e => xl_of s e) sf_chains (sf_seen w os)
theorem top_ran (w : World) (os : OsState) : TopRan PW w (S0 w os) (SF w os) := by
  obtain ⟨G, g0, g1, g2, g3, g4, g5⟩ := sf_ground w os
  have hs := sf_rest w os
  obtain ⟨hs, hlk⟩ := Bool.and_eq_true_iff.mp hs
  obtain ⟨hs, hgd⟩ := Bool.and_eq_true_iff.mp hs
  obtain ⟨hs, hnb⟩ := Bool.and_eq_true_iff.mp hs
  exact ⟨top_run w os, rfl, Shared.rest_eq rfl, sf_old w os, g2, statics_of_ok hs, g3, g4, g5, gens_of_done hgd, names_of_bound hnb, laid_of_kept hlk⟩
theorem opening_eq : opening PW = plainProg PW.main.scope.names := by kernel_rfl
theorem fence_eq (s : Shared) : fenceModules? PW s = some s := by kernel_rfl
theorem behind (w : World) : (∃ s, AfterRun (opening PW) w s) ∧ ∀ s, AfterRun (opening PW) w s → ∃ s₀, fenceModules? PW s = some s₀ ∧ s₀.gens = #[] ∧ ∃ s₁, TopRan PW w s₀ s₁ ∧ s₁.asleep ∧ s₁.gens = #[] ∧ s₁.heap.isNs mainGlobals = true ∧
      Ground qV looseL [] (XL qV []) w s₁ (s₁.heap.nsMap mainGlobals) (s₁.heap.nsMap builtinsNs) s₁.heap ∧ InK KF w s₁.heap := by
  have hb := boot_open (N := 1000) opening_eq (by rfl) fence_eq w
  rw [← table_eq_tree] at hb
  obtain ⟨s₀, h1, e⟩ := Option.map_eq_some_iff.mp hb
  obtain ⟨s, h4, h5⟩ := Option.bind_eq_some_iff.mp h1
  have A := AfterImport.of_importEnds h4
  refine ⟨⟨s, A⟩, fun s' hs' => ?_⟩
  obtain rfl : s' = s := AfterImport.unique hs' A
  obtain ⟨h, g, d, k, os⟩ := s₀
  obtain ⟨rfl, rfl, rfl, rfl⟩ : h = boot_heap w.params ∧ g = Array.mk [] ∧ d = boot_drawn ∧ k = boot_toks := by simpa using e
  refine ⟨S0 w os, h5, rfl, SF w os, top_ran w os, ⟨rfl, rfl⟩, rfl, (sf_ground w os).2.2.1, (sf_ground w os).1, ?_⟩
  exact InK.of kAddrs_eq w (SF w os) (kf_in w os)
end Mine
end
section
open PySem PySem.W PyProof.Rows PySem.Calls
namespace Mine
abbrev RL : OpenRow := PySem.Challenge.rw_rl0135_01.row
theorem rl_ok : (chainsOk qV && opensWell RL.prog && (frees RL.toRowW && RL.within.isEmpty)) = true := by kernel_rfl
theorem holdsH {d : DefRec} {kwd : List (Str × Expr)} (hdef : defOf qV RL.name = some (d, kwd)) (hp : RL.prog.theDef RL.name = some (d.params, d.body, d.scope)) (hk : kwWritten? d.params.kwonlyargs d.params.kw_defaults = some kwd)
    (k1 : RL.wellSaid = true) (hb : RL.prog.bare) (hw : RL.toRowW.promised)
    (call : WalkO qV looseL (XL qV []) (kHook KF kAddrs kAddrs_eq).says RL.toRowW d kwd fun f vs => PySem.call f vs) : RL.Holds := by
  obtain ⟨ok, k5⟩ := Bool.and_eq_true_iff.mp rl_ok
  obtain ⟨hch, o1⟩ := Bool.and_eq_true_iff.mp ok
  obtain ⟨k5, k6⟩ := Bool.and_eq_true_iff.mp k5
  obtain ⟨hsame, hu, ha, hap, hm⟩ := frees_parts k5
  have hrec : RL.toRowW.records = [] := rfl
  refine ⟨k1, hw, ⟨hb, o1, rfl⟩, hw.witness, fun w => ⟨(behind w).1, fun s' hs' => ?_⟩⟩
  obtain ⟨s₀, hf, hg0, s, hT, hz, hgens, hg, G0, y⟩ := (behind w).2 s' hs'
  have RF : RecFacts RL.toRowW.records s.heap := recFacts_nil hrec
  refine ⟨s₀, hf, hg0, s, hT, fun n hn => ?_, RF.1, RF.2.1, ?_⟩
  · obtain rfl : n = RL.name := by
      have : n ∈ [RL.name] := hn
      simpa using this
    exact pinned_of_view hg G0 hdef hp hk
  have G : Ground qV looseL RL.toRowW.records (XL qV []) w s _ _ s.heap := RF.ground G0
  refine ClaimW.callFrom_of_specG (c := RL.toRowW.claim) (tree := fun vs => do match ← nsGet mainNs RL.name with
      | some f => do ret (← PySem.call f vs)
      | none => unsupported "claim.caller:no-such-global") hz hgens fun args hpre hlay ord hord => ?_
  obtain ⟨⟨vs, s₁⟩, hlaid⟩ := Option.isSome_iff_exists.mp (layAllW_isSome (P := w.params) (ord := ord) G.has args RL.toRowW.args s (pre_splitW hpre).1)
  have keeps := layAllW_keeps _ _ _ hlaid
  have hal := layAllW_rest _ _ _ hlaid
  obtain ⟨as, hrd, hin, hold⟩ := reads_layAllW hord _ _ _ hlaid hlay s₁.heap (fun _ _ e => e)
  have L : Laid RL.toRowW.records w s s₁ args vs as := ⟨⟨ord, hord, hlaid⟩, hrd, hin, hold, keeps, hal.1.trans hgens, hal.2.2.1⟩
  have G₁ := G.keeps XL.keeps keeps
  obtain ⟨a, o, pm, cd, doc, dV, kV, h1, h2, h3, h4, h5⟩ := G₁.fn hdef
  have h := call w s s₁ _ _ G₁ (InK.keeps w _ _ y keeps) a o pm cd doc dV kV h2 h3 h4 h5 (defOf_name hdef ▸ h1) L.gens args vs as hpre hlay L.reads L.well (L.low G.low)
  have hi := ident_freeW hu ha hap
  have hwi : RL.toRowW.claim.within = [] := List.isEmpty_iff.mp k6
  refine ⟨vs, s₁, hlaid, ?_⟩
  refine wpAny_bind (wpAny_nsGet G₁.T.g ?_)
  rw [h1]
  refine wpAny_bind (wpAny_mono h (fun v s' g => wpAny_pure ⟨_, rfl, ?_⟩) fun e s' g => ?_)
  · have z := g.laid (c := RL.toRowW.claim) hsame hwi hi L
    exact ⟨z.1, z.2.1, z.2.2, fun q => by cases q⟩
  · have z := g.laid (c := RL.toRowW.claim) hsame hwi hi L
    exact ⟨z.1, z.2.1, z.2.2, fun q => by cases q⟩
end Mine
end
section
open PySem PySem.W PyProof.Rows
namespace Mine
noncomputable abbrev arn (dp un : Nat) (gd : Option (List Code)) (outer : List Env) : Around := { handled := none, depth := dp, frames := some outer, guards := gd, units := un }
noncomputable abbrev Keeps (h h' : Heap) : Prop := ∀ b o, h.get? b = some o → h'.get? b = some o
noncomputable def looseA : List Str := looseW qV looseL ++ List.map (fun x => x.name) (recsOf qV) ++ List.map (fun x => x.fst) (litsOf qV) ++ List.map (fun x => x.name) (clssOf qV (looseW qV looseL))
noncomputable abbrev TopM (mean : ExcName → Option Value) (mg mb : Str → Option Value) (h : Heap) : Prop := Top topProg looseA mean mg mb h
theorem enterP {w : World} {A : Around} {K : Frag} {R : Result → Shared → Prop} {s : Shared} {name qual : Str} {params : Arguments} {body : List Stmt} {scope : Scope} {dV kV doc pm cdv ct oc : Value} {an od : Option Addr} {osl : Array (Option Value)} {f : Addr} {args : Args} {binds : List (Str × Value)}
    (X : K.In s.heap) (hlim : s.heap.NoLimit) (ho : K.lookup f = some ⟨oc, od, .func (fnOf name qual params body scope dV kV doc pm an cdv ct), osl⟩) (hcd : codeIn K cdv qual = true) (hroom : A.depth < recursionLimit)
    (hbind : BindsTo s (fnOf name qual params body scope dV kV doc pm an cdv ct) args binds) (hloc : ∀ y ∈ binds, scope.names.lookup y.1 = some .local)
    (h : ∀ L' h₁, Fr s.heap L' h₁ (fun y => binds.reverse.lookup y) → News s.heap L' h₁ [] →
      wpAny (model PW w) (A.deeper (envOf qual scope L' f cdv)) (execs body (envOf qual scope L' f cdv))
        (fun fl s' => R (.ok (.ret (match fl with | .ret v => v | _ => .none))) s')
        (fun e s' => wpAny (model PW w) (A.deeper (envOf qual scope L' f cdv)) (leaving (envOf qual scope L' f cdv) e) (fun _ s'' => R (.error e) s'') (fun e' s'' => R (.error e') s'') s')
        { s with heap := h₁, toks := s.toks + binds.length })
    (hcell : ∀ x ∈ scope.names, x.2 ≠ .cell) (hco : scope.isCoroutine = false) (hgen : scope.isGenerator = false) (hk : scope.kind = .function) : codeAny (model PW w) A (.call (.ref f) args) R s :=
  codeAny_call_def (fd := fnOf name qual params body scope dV kV doc pm an cdv ct) (body := body) (binds := binds) hroom (X _ _ ho) rfl hlim (codeRec_of X hcd) rfl hbind hcell hloc
    (fun h₁ hns hk₁ => h s.heap.objs.size h₁ ⟨hns, hk₁, Nat.le_refl _⟩ News.nil) hco hgen hk
end Mine
end
section
open PySem PySem.W PyProof.Rows PySem.Calls
namespace Mine
theorem fr_hid {s : Shared} {hid : List (Addr × Obj)} {h₁ : Heap} {m : Str → Option Value} (H : ∀ p ∈ hid, s.heap.get? p.1 = some p.2) (hns : h₁.Ns s.heap.objs.size m) (hk : Keeps s.heap h₁) :
    Fr (hideAll s.heap (hid.map (·.1))) s.heap.objs.size h₁ m ∧ News (hideAll s.heap (hid.map (·.1))) s.heap.objs.size h₁ hid :=
  ⟨⟨hns, fun b o e => hk b o (of_hideAll _ e), Nat.le_of_eq (hideAll_size _ _)⟩,
    fun p hp => ⟨hk _ _ (H p hp), Nat.ne_of_lt (Heap.lt_size (H p hp)), hideAll_none _ (List.mem_map_of_mem hp)⟩⟩
theorem ground_hid {h₀ h : Heap} {hid : List (Addr × Obj)} (K0 : Keeps h₀ h) (H0 : ∀ p ∈ hid, h₀.get? p.1 = none) : Keeps h₀ (hideAll h (hid.map (·.1))) := fun b o e =>
  hideAll_get _ (K0 b o e) fun q => by
    obtain ⟨p, hp, rfl⟩ := List.mem_map.mp q
    rw [H0 p hp] at e; cases e
section
variable {w : World} {A : Around} {K : Frag} {R : Result → Shared → Prop} {s : Shared} {name qual : Str} {params : Arguments} {body : List Stmt} {scope : Scope} {dV kV doc pm cdv ct oc : Value} {an od : Option Addr} {osl : Array (Option Value)} {f : Addr} {args : Args} {binds : List (Str × Value)} {hid : List (Addr × Obj)} {h₀ : Heap}
/-- a def of the top, with things of the heap laid aside -/
theorem enterG (X : K.In h₀) (K0 : Keeps h₀ s.heap) (hlim : h₀.NoLimit) (H : ∀ p ∈ hid, s.heap.get? p.1 = some p.2)
    (ho : K.lookup f = some ⟨oc, od, .func (fnOf name qual params body scope dV kV doc pm an cdv ct), osl⟩) (hcd : codeIn K cdv qual = true) (hroom : A.depth < recursionLimit)
    (hbind : BindsTo s (fnOf name qual params body scope dV kV doc pm an cdv ct) args binds) (hloc : ∀ y ∈ binds, scope.names.lookup y.1 = some .local)
    (h : ∀ L' h₁, Fr (hideAll s.heap (hid.map (·.1))) L' h₁ (fun y => binds.reverse.lookup y) → News (hideAll s.heap (hid.map (·.1))) L' h₁ hid → (∀ p ∈ hid, p.1 < L') → (∀ b, @LE.le Nat _ L' b → s.heap.get? b = none) →
      wpAny (model PW w) (A.deeper (envOf qual scope L' f cdv)) (execs body (envOf qual scope L' f cdv))
        (fun fl s' => R (.ok (.ret (match fl with | .ret v => v | _ => .none))) s')
        (fun e s' => wpAny (model PW w) (A.deeper (envOf qual scope L' f cdv)) (leaving (envOf qual scope L' f cdv) e) (fun _ s'' => R (.error e) s'') (fun e' s'' => R (.error e') s'') s')
        { s with heap := h₁, toks := s.toks + binds.length })
    (hcell : ∀ x ∈ scope.names, x.2 ≠ .cell) (hco : scope.isCoroutine = false) (hgen : scope.isGenerator = false) (hk : scope.kind = .function) : codeAny (model PW w) A (.call (.ref f) args) R s :=
  codeAny_call_def (fd := fnOf name qual params body scope dV kV doc pm an cdv ct) (body := body) (binds := binds) hroom (X.keeps K0 _ _ ho) rfl (hlim.keeps K0) (codeRec_of (X.keeps K0) hcd) rfl hbind hcell hloc
    (fun h₁ hns hk₁ => h s.heap.objs.size h₁ (fr_hid H hns hk₁).1 (fr_hid H hns hk₁).2 (fun p hp => Heap.lt_size (H p hp)) (fun b hb => Heap.get?_none_of_le hb)) hco hgen hk
/-- a def made in a call -/
theorem enterX {cl : List (Str × Addr)} {fo : Obj} (K0 : Keeps h₀ s.heap) (hlim : h₀.NoLimit) (H : ∀ p ∈ hid, s.heap.get? p.1 = some p.2)
    (ho : s.heap.get? f = some fo) (hd : fo.data = .func (fnX name qual params body scope cl dV kV doc pm an cdv ct)) (hcd : s.heap.CodeRec cdv qual) (hroom : A.depth < recursionLimit)
    (hbind : BindsTo s (fnX name qual params body scope cl dV kV doc pm an cdv ct) args binds) (hloc : ∀ y ∈ binds, scope.names.lookup y.1 = some .local)
    (h : ∀ L' h₁, Fr (hideAll s.heap (hid.map (·.1))) L' h₁ (fun y => binds.reverse.lookup y) → News (hideAll s.heap (hid.map (·.1))) L' h₁ hid → (∀ p ∈ hid, p.1 < L') → (∀ b, @LE.le Nat _ L' b → s.heap.get? b = none) →
      wpAny (model PW w) (A.deeper (envX qual scope L' f cdv cl)) (execs body (envX qual scope L' f cdv cl))
        (fun fl s' => R (.ok (.ret (match fl with | .ret v => v | _ => .none))) s')
        (fun e s' => wpAny (model PW w) (A.deeper (envX qual scope L' f cdv cl)) (leaving (envX qual scope L' f cdv cl) e) (fun _ s'' => R (.error e) s'') (fun e' s'' => R (.error e') s'') s')
        { s with heap := h₁, toks := s.toks + binds.length })
    (hcell : ∀ x ∈ scope.names, x.2 ≠ .cell) (hco : scope.isCoroutine = false) (hgen : scope.isGenerator = false) (hk : scope.kind = .function) : codeAny (model PW w) A (.call (.ref f) args) R s :=
  codeAny_call_def (fd := fnX name qual params body scope cl dV kV doc pm an cdv ct) (body := body) (binds := binds) hroom ho hd (hlim.keeps K0) hcd rfl hbind hcell hloc
    (fun h₁ hns hk₁ => h s.heap.objs.size h₁ (fr_hid H hns hk₁).1 (fr_hid H hns hk₁).2 (fun p hp => Heap.lt_size (H p hp)) (fun b hb => Heap.get?_none_of_le hb)) hco hgen hk
/-- a def of the top that has cells -/
theorem enterC (X : K.In h₀) (K0 : Keeps h₀ s.heap) (hlim : h₀.NoLimit) (H : ∀ p ∈ hid, s.heap.get? p.1 = some p.2)
    (ho : K.lookup f = some ⟨oc, od, .func (fnOf name qual params body scope dV kV doc pm an cdv ct), osl⟩) (hcd : codeIn K cdv qual = true) (hroom : A.depth < recursionLimit)
    (hbind : BindsTo s (fnOf name qual params body scope dV kV doc pm an cdv ct) args binds)
    (hkind : (binds.all fun y => scope.names.lookup y.1 == some .local || scope.names.lookup y.1 == some .cell) = true)
    (hnd : ((cellsFrom 0 scope.names []).map (·.1)).Nodup)
    (h : ∀ L' h₁ tk cells, Fr (hideAll s.heap (hid.map (·.1))) L' h₁ (bindL (envOfC qual scope L' f cdv).kindOf binds fun _ => none) → News (hideAll s.heap (hid.map (·.1))) L' h₁ (cells ++ hid) →
      CellsAre (bindC (envOfC qual scope L' f cdv).kindOf binds fun _ => none) (cellsFrom (L' + 1) scope.names []) cells → (∀ p ∈ hid, p.1 < L') → (∀ b, @LE.le Nat _ L' b → s.heap.get? b = none) →
      wpAny (model PW w) (A.deeper (envOfC qual scope L' f cdv)) (execs body (envOfC qual scope L' f cdv))
        (fun fl s' => R (.ok (.ret (match fl with | .ret v => v | _ => .none))) s')
        (fun e s' => wpAny (model PW w) (A.deeper (envOfC qual scope L' f cdv)) (leaving (envOfC qual scope L' f cdv) e) (fun _ s'' => R (.error e) s'') (fun e' s'' => R (.error e') s'') s')
        { s with heap := h₁, toks := tk })
    (hco : scope.isCoroutine = false) (hgen : scope.isGenerator = false) (hk : scope.kind = .function) : codeAny (model PW w) A (.call (.ref f) args) R s := by
  refine codeAny_call_function hroom (X.keeps K0 _ _ ho) rfl hco hgen rfl (codeRec_of (X.keeps K0) hcd) (hbind _ _ _ _ ?_)
  refine wpAny_newFunctionEnv_cells hk (kindsX hkind _) fun env' he s' x => ?_
  subst he
  refine ⟨(hlim.keeps K0).keeps x.toInCall.keep, codeAny_func ?_⟩
  obtain ⟨h₁, tk, rfl, _⟩ := x.done
  have hk₁ := x.toInCall.keep
  obtain ⟨cells, NC, Y⟩ := Cl.news (h₀ := s.heap) (Nat.le_refl _) fun n c hm => ⟨x.cell n c (lookup_of_mem_nodup (cellsFrom_names scope.names 0 (s.heap.objs.size + 1) [] [] rfl ▸ hnd) hm), x.above n c hm⟩
  have FN := fr_hid H x.toInCall.ns hk₁
  refine h s.heap.objs.size h₁ tk cells FN.1 (fun p hp => ?_) Y (fun p hp => Heap.lt_size (H p hp)) (fun b hb => Heap.get?_none_of_le hb)
  rcases List.mem_append.mp hp with hp | hp
  · refine ⟨(NC p hp).1, (NC p hp).2.1, ?_⟩
    cases q : (hideAll s.heap (hid.map (·.1))).get? p.1 with
    | none => rfl
    | some o => have := of_hideAll _ q; rw [(NC p hp).2.2] at this; cases this
  · exact FN.2 p hp
end
/-- what a call that changes the one object d leaves -/
theorem fr_but {h₀ h h' : Heap} {L d : Addr} {m : Str → Option Value} {news : List (Addr × Obj)} {o : Obj} (F : Fr h₀ L h m) (N : News h₀ L h news) (hd : (d, o) ∈ news) (hk : ∀ b o, b ≠ d → h.get? b = some o → h'.get? b = some o) : Fr h₀ L h' m := by
  obtain ⟨⟨oL, es, ep, hL, r⟩, k, a⟩ := F
  have n := N _ hd
  exact ⟨⟨oL, es, ep, hk _ _ (Ne.symm n.2.1) hL, r⟩, fun b o e => hk b o (fun q => by rw [q] at e; rw [n.2.2] at e; cases e) (k b o e), a⟩
theorem news_but {h₀ h h' : Heap} {L d : Addr} {o o' : Obj} {pre post : List (Addr × Obj)} (N : News h₀ L h (pre ++ (d, o) :: post)) (h1 : ∀ p ∈ pre, p.1 ≠ d) (h2 : ∀ p ∈ post, p.1 ≠ d) (hk : ∀ b o, b ≠ d → h.get? b = some o → h'.get? b = some o) (hd : h'.get? d = some o') :
    News h₀ L h' (pre ++ (d, o') :: post) := by
  intro p hp
  have nd := N (d, o) (List.mem_append_right _ (.head _))
  rcases List.mem_append.mp hp with hp | hp
  · have n := N p (List.mem_append_left _ hp); exact ⟨hk _ _ (h1 p hp) n.1, n.2⟩
  · rcases List.mem_cons.mp hp with rfl | hp
    · exact ⟨hd, nd.2⟩
    · have n := N p (List.mem_append_right _ (.tail _ hp)); exact ⟨hk _ _ (h2 p hp) n.1, n.2⟩
end Mine
end
section
namespace Mine
/-! digits -/
noncomputable def digs (B : Int) : Nat → Int → List Int
  | 0, _ => []
  | k + 1, x => x % B :: digs B k (x / B)
theorem digs_length (B : Int) : ∀ k x, (digs B k x).length = k
  | 0, _ => rfl
  | k + 1, x => by simp [digs, digs_length]
theorem digs_split (B : Int) (hB : 0 < B) : ∀ (j k : Nat) (x : Int), 0 ≤ x → digs B (j + k) x = digs B j (x % B ^ j) ++ digs B k (x / B ^ j)
  | 0, k, x, hx => by simp [digs]
  | j + 1, k, x, hx => by
    have e : j + 1 + k = (j + k) + 1 := by lia
    have hp : 0 < B ^ j := Int.pow_pos hB
    rw [e, digs, digs_split B hB j k (x / B) (Int.ediv_nonneg hx (Int.le_of_lt hB)), digs]
    have h1 : x % B ^ (j + 1) % B = x % B := Int.emod_emod_of_dvd x ⟨B ^ j, by rw [Int.pow_succ, Int.mul_comm]⟩
    have h3 : x / B ^ (j + 1) = x / B / B ^ j := by
      rw [Int.pow_succ, Int.mul_comm (B ^ j) B]
      have := Int.ediv_ediv (x := x) (y := B) (z := B ^ j)
      rw [if_neg (by lia)] at this
      lia
    have h2 : x % B ^ (j + 1) / B = x / B % B ^ j := by
      rw [Int.emod_def x (B ^ (j + 1)), h3, Int.emod_def (x / B) (B ^ j), Int.pow_succ]
      have e : x - B ^ j * B * (x / B / B ^ j) = x + B * -(B ^ j * (x / B / B ^ j)) := by grind
      rw [e, Int.add_mul_ediv_left _ _ (Int.ne_of_gt hB)]
      lia
    rw [h1, h2, h3]; rfl
noncomputable def splice (ns : List Int) (a : Nat) (ds : List Int) : List Int := ns.take a ++ ds ++ ns.drop (a + ds.length)
theorem splice_length {ns : List Int} {a : Nat} {ds : List Int} (h : a + ds.length ≤ ns.length) : (splice ns a ds).length = ns.length := by simp [splice]; lia
theorem splice_one {ns : List Int} {a : Nat} {x : Int} (h : a < ns.length) : splice ns a [x] = ns.set a x := by
  unfold splice
  rw [List.set_eq_take_append_cons_drop, if_pos h]
  simp
theorem splice_two {ns : List Int} {a : Nat} {d1 d2 : List Int} (h : a + d1.length + d2.length ≤ ns.length) : splice (splice ns a d1) (a + d1.length) d2 = splice ns a (d1 ++ d2) := by
  unfold splice
  have e1 : ns.take a ++ d1 ++ ns.drop (a + d1.length) = (ns.take a ++ d1) ++ ns.drop (a + d1.length) := rfl
  have hl : (ns.take a ++ d1).length = a + d1.length := by simp; lia
  rw [List.take_append_of_le_length (by lia), List.take_of_length_le (by lia), List.drop_append, hl, List.drop_of_length_le (by lia)]
  simp only [List.nil_append, List.append_assoc, List.length_append, List.drop_drop]
  congr 4
  lia
/-- the number that digits say -/
noncomputable def undig (B : Int) : List Int → Int
  | [] => 0
  | d :: r => d + B * undig B r
theorem undig_append (B : Int) : ∀ (a b : List Int), undig B (a ++ b) = undig B a + B ^ a.length * undig B b
  | [], b => by simp [undig]
  | d :: r, b => by
    simp only [List.cons_append, undig, undig_append B r b, List.length_cons, Int.pow_succ]
    grind
theorem undig_digs (B : Int) (hB : 0 < B) : ∀ (k : Nat) (x : Int), 0 ≤ x → x < B ^ k → undig B (digs B k x) = x
  | 0, x, h0, h1 => by simp at h1; simp [digs, undig]; lia
  | k + 1, x, h0, h1 => by
    have h2 : x / B < B ^ k := Int.ediv_lt_of_lt_mul hB (by rw [← Int.pow_succ]; exact h1)
    rw [digs, undig, undig_digs B hB k _ (Int.ediv_nonneg h0 (Int.le_of_lt hB)) h2]
    have := Int.emod_add_mul_ediv x B
    lia
end Mine
end
section
open PySem PySem.W PyProof.Rows PySem.Calls
namespace Mine
section
variable {prog : Program} {w : World} {A : Around} {E : Value → Shared → Prop} {s : Shared} {Q : Value → Shared → Prop} {a b n : Int} {t u : Tok}
open Builtin.Int (intBits)
theorem r_rshift (hn : 0 ≤ n) (h : ∀ y tk, y = a / 2 ^ n.toNat → Q (.int y tk) { s with toks := s.toks + 1 }) : wpAny (model prog w) A (binaryOp .RShift (.int a t) (.int n u)) Q E s :=
  rshift_int hn (h _ _ (Int.fdiv_eq_ediv_of_nonneg _ (Int.le_of_lt (Int.pow_pos (by decide)))))
theorem r_lshift {m : Nat} (hn : 0 ≤ n) (hm : intBits a ≤ m) (hb : (m : Int) + n ≤ 134217728) (h : ∀ y tk, y = a * 2 ^ n.toNat → Q (.int y tk) { s with toks := s.toks + 1 }) : wpAny (model prog w) A (binaryOp .LShift (.int a t) (.int n u)) Q E s :=
  lshift_int hn (by have : (2 : Int) ^ 27 = 134217728 := by decide
                    lia) (h _ _ rfl)
theorem xor_low {x : Int} (hx : 0 ≤ x) (k : Nat) : Builtin.bitXor x (x / 2 ^ k * 2 ^ k) = x % 2 ^ k := by
  obtain ⟨m, rfl⟩ : ∃ m : Nat, x = m := ⟨x.toNat, by lia⟩
  have e : ((m : Int) / 2 ^ k * 2 ^ k) = ((m / 2 ^ k * 2 ^ k : Nat) : Int) := by simp
  rw [e, bitXor_and, bitAnd_pp (by lia) (by lia)]
  simp only [Int.toNat_natCast]
  have h2 : m &&& (m / 2 ^ k * 2 ^ k) = m / 2 ^ k * 2 ^ k := by
    apply Nat.eq_of_testBit_eq
    intro i
    rw [Nat.testBit_and, ← Nat.shiftLeft_eq, ← Nat.shiftRight_eq_div_pow, Nat.testBit_shiftLeft, Nat.testBit_shiftRight]
    by_cases hi : k ≤ i
    · have : k + (i - k) = i := by lia
      rw [this]; simp [hi]
    · simp [hi]
  rw [h2]
  have h3 := Nat.div_add_mod m (2 ^ k)
  have h4 : ((m % 2 ^ k : Nat) : Int) = (m : Int) % 2 ^ k := by simp
  rw [← h4, Nat.mul_comm (m / 2 ^ k)]
  lia
theorem r_half {L R K : Int} (h0 : L < R) (h1 : ¬ L + 1 = R) (h2 : R - L ≤ 2 * K) (h : ∀ y tk, L < y → y < R → y - L ≤ K → R - y ≤ K → Q (.int y tk) { s with toks := s.toks + 1 }) : wpAny (model prog w) A (binaryOp .RShift (.int (L + R) t) (.int 1 u)) Q E s :=
  r_rshift (by decide) fun y tk hy => by
    have e : (2 : Int) ^ (1 : Int).toNat = 2 := rfl
    rw [e] at hy
    exact h y tk (by lia) (by lia) (by lia) (by lia)
theorem r_xor2 {k : Nat} {v : Int} (hb : b = v * 2 ^ k) (hv : v = a / 2 ^ k) (hx : 0 ≤ a) (h : ∀ y tk, y = a % 2 ^ k → Q (.int y tk) { s with toks := s.toks + 1 }) : wpAny (model prog w) A (binaryOp .BitXor (.int a t) (.int b u)) Q E s :=
  xor_int (h _ _ (by rw [hb, hv, xor_low hx]))
theorem r_xor {k : Nat} (hx : 0 ≤ a) (hb : b = a / 2 ^ k * 2 ^ k) (h : ∀ y tk, y = a % 2 ^ k → Q (.int y tk) { s with toks := s.toks + 1 }) : wpAny (model prog w) A (binaryOp .BitXor (.int a t) (.int b u)) Q E s :=
  xor_int (h _ _ (by rw [hb, xor_low hx]))
theorem r_mul {len : Int} (hb : len * n ≤ 1000000) (h0 : 0 ≤ a) (h1 : a ≤ len) (hn : 0 ≤ n) (hn2 : n ≤ 8000) (h : ∀ y tk, y = a * n → 0 ≤ y ∧ y ≤ 1000000 → Q (.int y tk) { s with toks := s.toks + 1 }) : wpAny (model prog w) A (binaryOp .Mult (.int a t) (.int n u)) Q E s :=
  mul_int (h _ _ rfl ⟨Int.mul_nonneg h0 hn, Int.le_trans (Int.mul_le_mul_of_nonneg_right h1 hn) hb⟩) (IntMulOk.of_right (PySem.intBits_le_64 (by lia) (by lia)))
end
@[reducible] noncomputable def nI : Arguments × List Stmt × Scope := (⟨_, rfl⟩ : { x // fdAt (lF7.2.1[1]?) = some x }).1
noncomputable abbrev innerL (d f cI cA cN : Addr) (oI oA oN : Obj) (vs : List Value) (nn : Nat) (qual : Str) (doc pm : Value) (c' : Addr) (ctv : Value) : List (Addr × Obj) :=
  [(d, W.listOf vs.toArray nn), (f, fnMade (ofS "inner") qual nI.1 nI.2.1 nI.2.2 [(ofS "n", cN), (ofS "inner", cI), (ofS "a_digits", cA)] doc pm c' ctv), (cI, oI), (cA, oA), (cN, oN)]
noncomputable def InnerAt (w : World) (mean : ExcName → Option Value) (mg mb : Str → Option Value) (n : Int) (k : Nat) : Prop :=
  ∀ (dp un : Nat) (gd : Option (List Code)) (outer : List Env) (h₀ : Heap) (s : Shared) (Q E : Value → Shared → Prop) (d f cI cA cN : Addr) (oI oA oN : Obj) (vs : List Value) (ns : List Int) (nn : Nat) (qual : Str) (doc pm : Value) (c' : Addr) (ctv : Value)
    (x L R : Int) (tx tL tR tn : Tok),
    (KF w.params).In h₀ → TopM mean mg mb h₀ → CodeHd h₀ 107 103 → Keeps h₀ s.heap → dp + k + 2 < recursionLimit → un + 3 * k + 8 < cLine → s.heap.CodeRec (.ref c') qual →
    (∀ p ∈ innerL d f cI cA cN oI oA oN vs nn qual doc pm c' ctv, s.heap.get? p.1 = some p.2) → (∀ p ∈ innerL d f cI cA cN oI oA oN vs nn qual doc pm c' ctv, h₀.get? p.1 = none) →
    oI.data = .cell (some (.ref f)) → oA.data = .cell (some (.ref d)) → oN.data = .cell (some (.int n tn)) → (@LT.lt Nat _ cN d ∧ @LT.lt Nat _ cA d ∧ @LT.lt Nat _ cI d ∧ @LT.lt Nat _ d f) →
    IntsAre vs ns → 0 ≤ L → L < R → R ≤ (ns.length : Int) → (ns.length : Int) * n ≤ 1000000 → R - L ≤ 2 ^ k → 0 ≤ x → x < (2 ^ n.toNat) ^ (R - L).toNat →
    (∀ h' tk' vs' ns' nn', (∀ b o, b ≠ d → s.heap.get? b = some o → h'.get? b = some o) → h'.get? d = some (W.listOf vs'.toArray nn') → IntsAre vs' ns' → ns' = splice ns L.toNat (digs (2 ^ n.toNat) (R - L).toNat x) → Q .none { s with heap := h', toks := tk' }) →
    wpAny (model PW w) (arn dp un gd outer) (call (.ref f) [.int x tx, .int L tL, .int R tR]) Q E s
theorem inner_call {w : World} {mean : ExcName → Option Value} {mg mb : Str → Option Value} {n : Int} {k : Nat} (I : InnerAt w mean mg mb n k)
    {dp un : Nat} {gd : Option (List Code)} {outer : List Env} {g : Heap} {Lx : Addr} {m : Str → Option Value} {s : Shared} {Q E : Value → Shared → Prop} {d f cI cA cN : Addr} {oI oA oN : Obj} {vs : List Value} {ns : List Int} {nn : Nat} {qual : Str} {doc pm : Value} {c' : Addr} {ctv : Value}
    {x L R : Int} {tx tL tR tn : Tok} (F : Fr g Lx s.heap m) (N : News g Lx s.heap (innerL d f cI cA cN oI oA oN vs nn qual doc pm c' ctv))
    (X : (KF w.params).In g) (T : TopM mean mg mb g) (C : CodeHd g 107 103) (hdp : dp + k + 2 < recursionLimit) (hun : un + 3 * k + 8 < cLine) (hq : g.CodeRec (.ref c') qual)
    (dI : oI.data = .cell (some (.ref f))) (dA : oA.data = .cell (some (.ref d))) (dN : oN.data = .cell (some (.int n tn))) (ho : @LT.lt Nat _ cN d ∧ @LT.lt Nat _ cA d ∧ @LT.lt Nat _ cI d ∧ @LT.lt Nat _ d f)
    (hi : IntsAre vs ns) (hL : 0 ≤ L) (hLR : L < R) (hR : R ≤ (ns.length : Int)) (hbig : (ns.length : Int) * n ≤ 1000000) (hk : R - L ≤ 2 ^ k) (hx : 0 ≤ x) (hx2 : x < (2 ^ n.toNat) ^ (R - L).toNat)
    (h : ∀ h' tk' vs' ns' nn', Fr g Lx h' m → News g Lx h' (innerL d f cI cA cN oI oA oN vs' nn' qual doc pm c' ctv) → IntsAre vs' ns' → ns' = splice ns L.toNat (digs (2 ^ n.toNat) (R - L).toNat x) → ns'.length = ns.length → Q .none { s with heap := h', toks := tk' }) :
    wpAny (model PW w) (arn dp un gd outer) (call (.ref f) [.int x tx, .int L tL, .int R tR]) Q E s := by
  obtain ⟨o1, o2, o3, o4⟩ := ho
  refine I dp un gd outer g s Q E d f cI cA cN oI oA oN vs ns nn qual doc pm c' ctv x L R tx tL tR tn X T C F.keep hdp hun (hq.keeps F.keep) (fun p hp => (N p hp).1) (fun p hp => (N p hp).2.2) dI dA dN ⟨o1, o2, o3, o4⟩ hi hL hLR hR hbig hk hx hx2 fun h' tk' vs' ns' nn' hk' hd' hi' hs' => ?_
  refine h h' tk' vs' ns' nn' (fr_but F N (List.mem_cons_self ..) hk') ?_ hi' hs' (by rw [hs', splice_length (by rw [digs_length]; lia)])
  refine news_but (pre := []) N (fun p hp => nomatch hp) (fun p hp => ?_) hk' hd'
  simp only [List.mem_cons, List.not_mem_nil, or_false] at hp
  rcases hp with rfl | rfl | rfl | rfl
  · exact Nat.ne_of_gt o4
  · exact Nat.ne_of_lt o3
  · exact Nat.ne_of_lt o2
  · exact Nat.ne_of_lt o1
end Mine
end
section
open PySem PySem.W PyProof.Rows PySem.Calls
namespace Mine
theorem rl_facts {L R k : Int} (h : L < R) (h1 : ¬ L + 1 = R) (h2 : R - L ≤ 2 * k) {M : Int} (hm : M = (L + R) / 2) : L < M ∧ M < R ∧ M - L ≤ k ∧ R - M ≤ k := by lia
theorem pow_bits {x : Int} {n : Int} {j : Nat} {len : Int} (hn : 0 ≤ n) (hx : 0 ≤ x) (h : x < (2 ^ n.toNat) ^ j) (hj : (j : Int) ≤ len) (hb : len * n ≤ 1000000) : Builtin.Int.intBits x ≤ 1000000 := by
  rw [intBits_le_iff]
  have h1 : ((x.natAbs : Nat) : Int) < ((2 ^ 1000000 : Nat) : Int) := by
    have e : ((x.natAbs : Nat) : Int) = x := by lia
    rw [e]
    refine Int.lt_of_lt_of_le h ?_
    rw [← Int.pow_mul]
    have : n.toNat * j ≤ 1000000 := by
      have h3 : (j : Int) * n ≤ 1000000 := Int.le_trans (Int.mul_le_mul_of_nonneg_right hj hn) hb
      have h4 : ((n.toNat * j : Nat) : Int) = (j : Int) * n := by
        rw [Int.natCast_mul, Int.toNat_of_nonneg hn, Int.mul_comm]
      lia
    have h5 : (2 : Nat) ^ (n.toNat * j) ≤ 2 ^ 1000000 := Nat.pow_le_pow_right (by decide) this
    have h6 : ((2 ^ (n.toNat * j) : Nat) : Int) = (2 : Int) ^ (n.toNat * j) := by simp
    rw [← h6]
    exact Int.ofNat_le.mpr h5
  exact Int.ofNat_lt.mp h1
theorem len_bnd {l : Nat} {n : Int} (hn : 2 ≤ n) (h : (l : Int) * n ≤ 1000000) : (l : Int) ≤ 1000000 := by
  have h1 : (l : Int) * 1 ≤ (l : Int) * n := Int.mul_le_mul_of_nonneg_left (by lia) (by lia)
  lia
theorem keeps_but {h g h' : Heap} {L' d : Addr} {o₁ o₂ : Obj} {rest : List (Addr × Obj)} {m : Str → Option Value} (F : Fr g L' h' m) (N : News g L' h' ((d, o₂) :: rest)) (H : ∀ p ∈ (d, o₁) :: rest, h.get? p.1 = some p.2)
    (hg : ∀ b o, b ∉ ((d, o₁) :: rest).map (·.1) → h.get? b = some o → g.get? b = some o) : ∀ b o, b ≠ d → h.get? b = some o → h'.get? b = some o := by
  intro b o hb e
  by_cases hm : b ∈ rest.map (·.1)
  · obtain ⟨p, hp, rfl⟩ := List.mem_map.mp hm
    have := H p (.tail _ hp)
    rw [e] at this
    cases this
    exact (N p (.tail _ hp)).1
  · exact F.keep _ _ (hg b o (fun q => (List.mem_cons.mp q).elim hb hm) e)
theorem inner_end0 {ns ns' : List Int} {L R x n : Int} (hL : 0 ≤ L) (hRL : L + 1 = R) (hR : R ≤ (ns.length : Int)) (hx : 0 ≤ x) (hx2 : x < (2 ^ n.toNat) ^ (R - L).toNat) (e : ns' = ns.set L.toNat x) : ns' = splice ns L.toNat (digs (2 ^ n.toNat) (R - L).toNat x) := by
  have h1 : (R - L).toNat = 1 := by lia
  rw [h1] at hx2 ⊢
  rw [Int.pow_succ, Int.pow_zero, Int.one_mul] at hx2
  have : digs (2 ^ n.toNat) 1 x = [x] := by
    show [x % 2 ^ n.toNat] = [x]
    rw [Int.emod_eq_of_lt hx hx2]
  rw [this, splice_one (by lia), e]
theorem inner_end {ns n1 n2 : List Int} {L R M x n sh up lo : Int} (hn : 0 ≤ n) (hL : 0 ≤ L) (hLM : L < M) (hMR : M < R) (hR : R ≤ (ns.length : Int)) (hx : 0 ≤ x) (hs : sh = (M - L) * n) (hu : up = x / 2 ^ sh.toNat) (hl : lo = x % 2 ^ sh.toNat)
    (e1 : n1 = splice ns L.toNat (digs (2 ^ n.toNat) (M - L).toNat lo)) (e2 : n2 = splice n1 M.toNat (digs (2 ^ n.toNat) (R - M).toNat up)) : n2 = splice ns L.toNat (digs (2 ^ n.toNat) (R - L).toNat x) := by
  have hp : (2 : Int) ^ sh.toNat = (2 ^ n.toNat) ^ (M - L).toNat := by
    rw [← Int.pow_mul]
    congr 1
    rw [hs]
    have : ((n.toNat * (M - L).toNat : Nat) : Int) = (M - L) * n := by
      rw [Int.natCast_mul, Int.toNat_of_nonneg hn, Int.toNat_of_nonneg (by lia), Int.mul_comm]
    lia
  rw [hp] at hu hl
  have h1 : (R - L).toNat = (M - L).toNat + (R - M).toNat := by lia
  have h2 : M.toNat = L.toNat + (digs (2 ^ n.toNat) (M - L).toNat lo).length := by rw [digs_length]; lia
  rw [e2, e1, h2, splice_two (by rw [digs_length, digs_length]; lia), h1, digs_split _ (Int.pow_pos (by decide)) _ _ _ hx, hu, hl]
theorem inner_up {L R M x n sh : Int} (hn : 0 ≤ n) (hLM : L < M) (hMR : M < R) (hx : 0 ≤ x) (hx2 : x < (2 ^ n.toNat) ^ (R - L).toNat) (hs : sh = (M - L) * n) :
    (0 ≤ x % 2 ^ sh.toNat ∧ x % 2 ^ sh.toNat < (2 ^ n.toNat) ^ (M - L).toNat) ∧ (0 ≤ x / 2 ^ sh.toNat ∧ x / 2 ^ sh.toNat < (2 ^ n.toNat) ^ (R - M).toNat) := by
  have hp : (2 : Int) ^ sh.toNat = (2 ^ n.toNat) ^ (M - L).toNat := by
    rw [← Int.pow_mul]
    congr 1
    rw [hs]
    have : ((n.toNat * (M - L).toNat : Nat) : Int) = (M - L) * n := by
      rw [Int.natCast_mul, Int.toNat_of_nonneg hn, Int.toNat_of_nonneg (by lia), Int.mul_comm]
    lia
  have h0 : (0 : Int) < 2 ^ sh.toNat := Int.pow_pos (by decide)
  refine ⟨⟨Int.emod_nonneg _ (Int.ne_of_gt h0), hp ▸ Int.emod_lt_of_pos _ h0⟩, Int.ediv_nonneg hx (Int.le_of_lt h0), ?_⟩
  refine Int.ediv_lt_of_lt_mul h0 ?_
  rw [hp, ← Int.pow_add]
  have h1 : (R - M).toNat + (M - L).toNat = (R - L).toNat := by lia
  rw [h1]; exact hx2
theorem code_ghost {h g : Heap} {c' d f cI cA cN : Addr} {oI oA oN : Obj} {vs : List Value} {nn : Nat} {qual : Str} {doc pm ctv v1 v2 v3 : Value} (hq : h.CodeRec (.ref c') qual)
    (hg : ∀ b o, b ∉ (innerL d f cI cA cN oI oA oN vs nn qual doc pm c' ctv).map (·.1) → h.get? b = some o → g.get? b = some o)
    (H : ∀ p ∈ innerL d f cI cA cN oI oA oN vs nn qual doc pm c' ctv, h.get? p.1 = some p.2) (dI : oI.data = .cell (some v1)) (dA : oA.data = .cell (some v2)) (dN : oN.data = .cell (some v3)) : g.CodeRec (.ref c') qual := by
  obtain ⟨c, oc, vs', t, e, ho, hd, hv⟩ := hq
  cases e
  refine ⟨c', oc, vs', t, rfl, hg c' oc (fun q => ?_) ho, hd, hv⟩
  obtain ⟨p, hp, e⟩ := List.mem_map.mp q
  have h2 := H p hp
  rw [e, ho] at h2
  cases h2
  simp only [List.mem_cons, List.not_mem_nil, or_false] at hp
  rcases hp with rfl | rfl | rfl | rfl | rfl
  · cases hd
  · cases hd
  · rw [dI] at hd; cases hd
  · rw [dA] at hd; cases hd
  · rw [dN] at hd; cases hd
theorem inner_zero (w : World) (mean : ExcName → Option Value) (mg mb : Str → Option Value) (n : Int) (hn : 2 ≤ n ∧ n ≤ 8000) : InnerAt w mean mg mb n 0 := by
  intro dp un gd outer h₀ s Q E d f cI cA cN oI oA oN vs ns nn qual doc pm c' ctv x L R tx tL tR tn X T C1 K0 hdp hun hq H H0 dI dA dN hord hi hL hLR hR hbig hk hx hx2 hret
  have hfill : PySem.Challenge.rw_rl0135_01 = PySem.Challenge.rw_rl0135_01 ∧ KF = KF := by k_fill; exact ⟨rfl, rfl⟩
  clear hfill
  w_on
  k_with_none
  refine wpAny_call ?_
  k_dflt (refine' enterX (h₀ := h₀) (hid := innerL d f cI cA cN oI oA oN vs nn qual doc pm c' ctv) ?kK ?k5 ?kH ?k6 ?k6b ?k7 ?k8 ?k9 ?kB ?_ ?c2 ?c3 ?c4 ?c5; (case kK => k_asm); (case k5 => exact T.nolimit); (case kH => exact H); (case k6 => exact H _ (.tail _ (.head _))); (case k6b => exact rfl); (case k7 => exact hq); (case k8 => (show dp < _; lia)); (case k9 => exact BindsTo.of_eq rfl); (case kB => exact locs rfl); (case c2 => decide); (case c3 => exact rfl); (case c4 => exact rfl); (case c5 => exact rfl))
  intro L' h₁ F' N' hlt hfr
  obtain ⟨g, hg⟩ : ∃ g, hideAll s.heap ((innerL d f cI cA cN oI oA oN vs nn qual doc pm c' ctv).map (·.1)) = g := ⟨_, rfl⟩
  have KG : Keeps h₀ g := hg ▸ ground_hid K0 H0
  have hgn : ∀ b o, b ∉ (innerL d f cI cA cN oI oA oN vs nn qual doc pm c' ctv).map (·.1) → s.heap.get? b = some o → g.get? b = some o := fun b o hb e => hg ▸ hideAll_get _ e hb
  rw [hg] at F' N'
  have X' := X.keeps KG
  have T' := T.keeps KG
  have C1' := C1.keeps KG
  clear X T C1
  have l1 : @LT.lt Nat _ d L' ∧ @LT.lt Nat _ f L' := ⟨hlt _ (.head _), hlt _ (.tail _ (.head _))⟩
  have hlen : (ns.length : Int) ≤ 1000000 := len_bnd hn.1 hbig
  have hRL : L + 1 = R := by have : (2 : Int) ^ 0 = 1 := rfl; lia
  obtain ⟨o1, o2, o3, o4⟩ := hord
  (try dsimp only)
  (try k_fold)
  repeat' (first | ((with_reducible show wpAny _ _ (binaryOp Operator.RShift (Value.int _ _) (Value.int _ _)) _ _ _); (with_reducible refine r_rshift (by lia) ?_); intro _ _ _) | (k_unfold; (try dsimp only)) | (k_end; kc_close) | (walk1; (try dsimp only)) | (dsimp only; walk1; (try dsimp only)) | (leave1; (try dsimp only)) | fail "no step")
  all_goals (first | (exfalso; lia) | skip)
  rename News _ _ _ _ => nE
  rename Fr _ _ _ _ => fE
  rename IntsAre _ (List.set _ _ _) => iE
  exact hret _ _ _ _ _ (keeps_but fE nE H hgn) (nE _ (.head _)).1 iE (inner_end0 hL hRL hR hx hx2 rfl)
theorem lo_ok {L R M x n sh lo : Int} (hl : lo = x % 2 ^ sh.toNat) (hs : sh = (M - L) * n) (hx2 : x < (2 ^ n.toNat) ^ (R - L).toNat) (hn : 0 ≤ n) (hLM : L < M) (hMR : M < R) (hx : 0 ≤ x) : 0 ≤ lo ∧ lo < (2 ^ n.toNat) ^ (M - L).toNat := by
  subst hl; exact (inner_up hn hLM hMR hx hx2 hs).1
theorem up_ok {L R M x n sh up : Int} (hl : up = x / 2 ^ sh.toNat) (hs : sh = (M - L) * n) (hx2 : x < (2 ^ n.toNat) ^ (R - L).toNat) (hn : 0 ≤ n) (hLM : L < M) (hMR : M < R) (hx : 0 ≤ x) : 0 ≤ up ∧ up < (2 ^ n.toNat) ^ (R - M).toNat := by
  subst hl; exact (inner_up hn hLM hMR hx hx2 hs).2
theorem up_bits {x y : Int} {k m : Nat} (hy : y = x / 2 ^ k) (hx : 0 ≤ x) (h : Builtin.Int.intBits x ≤ m) : Builtin.Int.intBits y ≤ m := by
  refine intBits_le_of_natAbs ?_ h
  have h0 : (0 : Int) < 2 ^ k := Int.pow_pos (by decide)
  have h1 : 0 ≤ y := hy ▸ Int.ediv_nonneg hx (Int.le_of_lt h0)
  have h2 : y ≤ x := hy ▸ Int.ediv_le_self _ hx
  lia
theorem inner_succ (w : World) (mean : ExcName → Option Value) (mg mb : Str → Option Value) (n : Int) (hn : 2 ≤ n ∧ n ≤ 8000) (k : Nat) (ih : InnerAt w mean mg mb n k) : InnerAt w mean mg mb n (k + 1) := by
  intro dp un gd outer h₀ s Q E d f cI cA cN oI oA oN vs ns nn qual doc pm c' ctv x L R tx tL tR tn X T C1 K0 hdp hun hq H H0 dI dA dN hord hi hL hLR hR hbig hk hx hx2 hret
  have hfill : PySem.Challenge.rw_rl0135_01 = PySem.Challenge.rw_rl0135_01 ∧ KF = KF := by k_fill; exact ⟨rfl, rfl⟩
  clear hfill
  w_on
  k_with_none
  refine wpAny_call ?_
  k_dflt (refine' enterX (h₀ := h₀) (hid := innerL d f cI cA cN oI oA oN vs nn qual doc pm c' ctv) ?kK ?k5 ?kH ?k6 ?k6b ?k7 ?k8 ?k9 ?kB ?_ ?c2 ?c3 ?c4 ?c5; (case kK => k_asm); (case k5 => exact T.nolimit); (case kH => exact H); (case k6 => exact H _ (.tail _ (.head _))); (case k6b => exact rfl); (case k7 => exact hq); (case k8 => (show dp < _; lia)); (case k9 => exact BindsTo.of_eq rfl); (case kB => exact locs rfl); (case c2 => decide); (case c3 => exact rfl); (case c4 => exact rfl); (case c5 => exact rfl))
  intro L' h₁ F' N' hlt hfr
  obtain ⟨g, hg⟩ : ∃ g, hideAll s.heap ((innerL d f cI cA cN oI oA oN vs nn qual doc pm c' ctv).map (·.1)) = g := ⟨_, rfl⟩
  have KG : Keeps h₀ g := hg ▸ ground_hid K0 H0
  have hgn : ∀ b o, b ∉ (innerL d f cI cA cN oI oA oN vs nn qual doc pm c' ctv).map (·.1) → s.heap.get? b = some o → g.get? b = some o := fun b o hb e => hg ▸ hideAll_get _ e hb
  rw [hg] at F' N'
  have X' := X.keeps KG
  have T' := T.keeps KG
  have C1' := C1.keeps KG
  clear X T C1
  have l1 : @LT.lt Nat _ d L' ∧ @LT.lt Nat _ f L' := ⟨hlt _ (.head _), hlt _ (.tail _ (.head _))⟩
  have hlen : (ns.length : Int) ≤ 1000000 := len_bnd hn.1 hbig
  have hq' : g.CodeRec (.ref c') qual := code_ghost hq hgn H dI dA dN
  have hxb := pow_bits (by lia) hx hx2 (len := (ns.length : Int)) (by lia) hbig
  have hk2 : R - L ≤ 2 * 2 ^ k := by rw [Int.pow_succ] at hk; lia
  obtain ⟨o1, o2, o3, o4⟩ := hord
  (try dsimp only)
  (try k_fold)
  repeat' (first | ((with_reducible show wpAny _ _ (binaryOp Operator.RShift (Value.int _ _) (Value.int _ _)) _ _ _); first | ((with_reducible refine r_half ‹_› ‹_› ‹_› ?_); intro _ _ _ _ _ _) | ((with_reducible refine r_rshift (by lia) ?_); intro _ _ _)) | ((with_reducible show wpAny _ _ (call (Value.ref _) _) _ _ _); (rename InnerAt _ _ _ _ _ _ => ih9); (rename Fr _ _ _ _ => fE9); (rename News _ _ _ _ => nE9); (rename IntsAre _ _ => iE9); (refine inner_call ih9 fE9 nE9 ‹_› ‹_› ‹_› (by dsimp only [arn]; lia) (by dsimp only [arn]; lia) ‹_› ‹_› ‹_› ‹_› (⟨‹_›, ‹_›, ‹_›, ‹_›⟩) iE9 (by lia) (by lia) (by lia) (by first | assumption | ((rename List.length _ = List.length _ => el9); rw [el9]; assumption)) (by lia) (by first | exact (lo_ok ‹_› ‹_› ‹_› (by lia) (by lia) (by lia) ‹_›).1 | exact (up_ok ‹_› ‹_› ‹_› (by lia) (by lia) (by lia) ‹_›).1) (by first | exact (lo_ok ‹_› ‹_› ‹_› (by lia) (by lia) (by lia) ‹_›).2 | exact (up_ok ‹_› ‹_› ‹_› (by lia) (by lia) (by lia) ‹_›).2) ?_); intro _ _ _ _ _ _ _ _ _ _) | ((with_reducible show wpAny _ _ (binaryOp Operator.BitXor (Value.int _ _) (Value.int _ _)) _ _ _); (refine r_xor2 ‹_› ‹_› ‹_› ?_); intro _ _ _) | ((with_reducible show wpAny _ _ (binaryOp Operator.LShift (Value.int _ _) (Value.int _ _)) _ _ _); (refine r_lshift (m := 1000000) (by lia) (up_bits ‹_› ‹_› ‹_›) (by lia) ?_); intro _ _ _) | ((with_reducible show wpAny _ _ (binaryOp Operator.Mult (Value.int _ _) (Value.int _ _)) _ _ _); (refine r_mul ‹_› (by lia) (by lia) (by lia) (by lia) ?_); intro _ _ _ _) | (k_unfold; (try dsimp only)) | (k_end; kc_close) | (walk1; (try dsimp only)) | (dsimp only; walk1; (try dsimp only)) | (leave1; (try dsimp only)) | fail "no step")
  · rename News _ _ _ _ => nE
    rename Fr _ _ _ _ => fE
    rename IntsAre _ (List.set _ _ _) => iE
    exact hret _ _ _ _ _ (keeps_but fE nE H hgn) (nE _ (.head _)).1 iE (inner_end0 hL (by assumption) hR hx hx2 rfl)
  · rename News _ _ _ _ => nE
    rename Fr _ _ _ _ => fE
    rename IntsAre _ _ => iE
    exact hret _ _ _ _ _ (keeps_but fE nE H hgn) (nE _ (.head _)).1 iE (inner_end (by lia) hL (by assumption) (by assumption) hR hx (by assumption) (by assumption) (by assumption) (by assumption) (by assumption))
theorem inner_all (w : World) (mean : ExcName → Option Value) (mg mb : Str → Option Value) (n : Int) (hn : 2 ≤ n ∧ n ≤ 8000) : ∀ k, InnerAt w mean mg mb n k
  | 0 => inner_zero w mean mg mb n hn
  | k + 1 => inner_succ w mean mg mb n hn k (inner_all w mean mg mb n hn k)
end Mine
end
section
open PySem PySem.W PyProof.Rows PySem.Calls
namespace Mine
/-- a code table: empty, or filled by the one def -/
noncomputable def TabP (ln cl : Int) (qual : Str) (ps : Array Value) (cs : List (Addr × Obj)) : Prop :=
  (ps = #[] ∧ cs = []) ∨ ∃ c oc vs t, ps = #[rawInt ln, rawInt cl, .ref c] ∧ cs = [(c, oc)] ∧ oc.data = .fields vs ∧ vs[1]? = some (.str qual t)
theorem inner_callN {w : World} {mean : ExcName → Option Value} {mg mb : Str → Option Value} {n : Int} {k : Nat} (I : InnerAt w mean mg mb n k)
    {dp un : Nat} {gd : Option (List Code)} {outer : List Env} {g : Heap} {Lx : Addr} {m : Str → Option Value} {s : Shared} {Q E : Value → Shared → Prop} {d f cI cA cN : Addr} {oI oA oN : Obj} {vs : List Value} {ns : List Int} {nn : Nat} {qual : Str} {doc pm : Value} {c' : Addr} {ctv : Value}
    {x L R : Int} {tx tL tR tn : Tok} {news : List (Addr × Obj)} {G : Obj → List (Addr × Obj)} {oc : Obj} {vq : Array Value} {tq : Tok} (F : Fr g Lx s.heap m) (N : News g Lx s.heap news) (U : UpdF d (W.listOf vs.toArray nn) news G)
    (mf : (f, fnMade (ofS "inner") qual nI.1 nI.2.1 nI.2.2 [(ofS "n", cN), (ofS "inner", cI), (ofS "a_digits", cA)] doc pm c' ctv) ∈ news) (mI : (cI, oI) ∈ news) (mA : (cA, oA) ∈ news) (mN : (cN, oN) ∈ news) (mc : (c', oc) ∈ news)
    (hd : oc.data = .fields vq) (hv : vq[1]? = some (.str qual tq))
    (X : (KF w.params).In g) (T : TopM mean mg mb g) (C : CodeHd g 107 103) (hdp : dp + k + 2 < recursionLimit) (hun : un + 3 * k + 8 < cLine)
    (dI : oI.data = .cell (some (.ref f))) (dA : oA.data = .cell (some (.ref d))) (dN : oN.data = .cell (some (.int n tn))) (o1 : @LT.lt Nat _ cN d) (o2 : @LT.lt Nat _ cA d) (o3 : @LT.lt Nat _ cI d) (o4 : @LT.lt Nat _ d f)
    (hi : IntsAre vs ns) (hL : 0 ≤ L) (hLR : L < R) (hR : R ≤ (ns.length : Int)) (hbig : (ns.length : Int) * n ≤ 1000000) (hk : R - L ≤ 2 ^ k) (hx : 0 ≤ x) (hx2 : x < (2 ^ n.toNat) ^ (R - L).toNat)
    (h : ∀ h' tk' vs' ns' nn', Fr g Lx h' m → News g Lx h' (G (W.listOf vs'.toArray nn')) → IntsAre vs' ns' → ns' = splice ns L.toNat (digs (2 ^ n.toNat) (R - L).toNat x) → Q .none { s with heap := h', toks := tk' }) :
    wpAny (model PW w) (arn dp un gd outer) (call (.ref f) [.int x tx, .int L tL, .int R tR]) Q E s := by
  obtain ⟨own, rest, rfl, hgr, h1, h2⟩ := U.split
  have md := N (d, W.listOf vs.toArray nn) (List.mem_append_right _ (.head _))
  have hall : ∀ p ∈ innerL d f cI cA cN oI oA oN vs nn qual doc pm c' ctv, s.heap.get? p.1 = some p.2 ∧ g.get? p.1 = none := by
    intro p hp
    simp only [List.mem_cons, List.not_mem_nil, or_false] at hp
    rcases hp with rfl | rfl | rfl | rfl | rfl
    · exact ⟨md.1, md.2.2⟩
    · exact ⟨(N _ mf).1, (N _ mf).2.2⟩
    · exact ⟨(N _ mI).1, (N _ mI).2.2⟩
    · exact ⟨(N _ mA).1, (N _ mA).2.2⟩
    · exact ⟨(N _ mN).1, (N _ mN).2.2⟩
  refine I dp un gd outer g s Q E d f cI cA cN oI oA oN vs ns nn qual doc pm c' ctv x L R tx tL tR tn X T C F.keep hdp hun ⟨c', oc, vq, tq, rfl, (N _ mc).1, hd, hv⟩ (fun p hp => (hall p hp).1) (fun p hp => (hall p hp).2) dI dA dN ⟨o1, o2, o3, o4⟩ hi hL hLR hR hbig hk hx hx2 fun h' tk' vs' ns' nn' hk' hd' hi' hs' => ?_
  exact h h' tk' vs' ns' nn' (fr_but F N (List.mem_append_right _ (.head _)) hk') (by rw [hgr]; exact news_but N h1 h2 hk' hd') hi' hs'
theorem splice_all {ns ds : List Int} (h : ds.length = ns.length) : splice ns 0 ds = ds := by
  unfold splice
  rw [Nat.zero_add, h, List.drop_of_length_le (Nat.le_refl _)]
  simp
theorem i2d_cnt {a n : Int} (hn : 2 ≤ n ∧ n ≤ 8000) (hb : Builtin.Int.intBits a ≤ 90000) : 0 ≤ ((Builtin.Int.intBits a : Int) + n - 1).fdiv n ∧ ((Builtin.Int.intBits a : Int) + n - 1).fdiv n ≤ 100000 ∧ ((Builtin.Int.intBits a : Int) + n - 1).fdiv n * n ≤ 1000000 ∧ (Builtin.Int.intBits a : Int) ≤ ((Builtin.Int.intBits a : Int) + n - 1).fdiv n * n := by
  rw [Int.fdiv_eq_ediv_of_nonneg _ (by lia)]
  generalize hz : (Builtin.Int.intBits a : Int) + n - 1 = z
  have h0 : 0 ≤ z / n := Int.ediv_nonneg (by lia) (by lia)
  have h1 := Int.emod_add_mul_ediv z n
  have h2 := Int.emod_nonneg z (show n ≠ 0 by lia)
  have h3 := Int.emod_lt_of_pos z (show 0 < n by lia)
  rw [Int.mul_comm n] at h1
  have h4 : z / n * 1 ≤ z / n * n := Int.mul_le_mul_of_nonneg_left (by lia) h0
  refine ⟨h0, by lia, by lia, by lia⟩
theorem i2d_lt {a n K : Int} (hn : 0 ≤ n) (ha : 0 ≤ a) (hK : 0 ≤ K) (h : (Builtin.Int.intBits a : Int) ≤ K * n) : a < (2 ^ n.toNat) ^ K.toNat := by
  have h1 : a.natAbs < 2 ^ Builtin.Int.intBits a := intBits_le_iff.mp (Nat.le_refl _)
  have h2 : Builtin.Int.intBits a ≤ n.toNat * K.toNat := by
    have : ((n.toNat * K.toNat : Nat) : Int) = K * n := by rw [Int.natCast_mul, Int.toNat_of_nonneg hn, Int.toNat_of_nonneg hK, Int.mul_comm]
    lia
  have h3 : a.natAbs < 2 ^ (n.toNat * K.toNat) := Nat.lt_of_lt_of_le h1 (Nat.pow_le_pow_right (by decide) h2)
  rw [← Int.pow_mul]
  have h4 : ((2 ^ (n.toNat * K.toNat) : Nat) : Int) = (2 : Int) ^ (n.toNat * K.toNat) := by simp
  rw [← h4]
  lia
theorem i2d_zero {n : Int} (hn : 2 ≤ n ∧ n ≤ 8000) : ((Builtin.Int.intBits 0 : Int) + n - 1).fdiv n = 0 := by
  rw [Int.fdiv_eq_ediv_of_nonneg _ (by lia)]
  have : Builtin.Int.intBits 0 = 0 := by decide
  rw [this]
  exact Int.ediv_eq_zero_of_lt (by lia) (by lia)
theorem i2d_pos {a K n : Int} (ha : a ≠ 0) (hK : 0 ≤ K) (h : (Builtin.Int.intBits a : Int) ≤ K * n) : 1 ≤ K := by
  have h1 : Builtin.Int.intBits a ≠ 0 := by
    intro e
    have := (intBits_le_iff (m := 0) (x := a)).mp (by lia)
    lia
  by_cases h2 : K = 0
  · subst h2; rw [Int.zero_mul] at h; lia
  · lia
theorem i2d_fin {ns ns' : List Int} {K a B : Int} {n1 : Nat} (h1 : ns.length = n1) (h2 : (n1 : Int) = K) (e : ns' = splice ns (0 : Int).toNat (digs B ((n1 : Int) - 0).toNat a)) : ns' = digs B K.toNat a := by
  rw [e, ← h2]
  have : ((n1 : Int) - 0).toNat = n1 := by lia
  rw [this, Int.toNat_natCast]
  exact splice_all (by rw [digs_length, h1])
end Mine
end
section
open PySem PySem.W PyProof.Rows PySem.Calls
namespace Mine
noncomputable def qual1 : Str := qualnameIn (envOfC (ofS "_int2digits") lF7.2.2 0 108 (.ref 107)) (ofS "inner") (ofS "inner")
theorem keeps_tab {h g h' : Heap} {L' P : Addr} {o₁ : Obj} {cs : List (Addr × Obj)} {m : Str → Option Value} (F : Fr g L' h' m) (H : ∀ p ∈ (P, o₁) :: cs, h.get? p.1 = some p.2) (H' : ∀ p ∈ cs, h'.get? p.1 = some p.2)
    (hg : ∀ b o, b ∉ ((P, o₁) :: cs).map (·.1) → h.get? b = some o → g.get? b = some o) : ∀ b o, b ≠ P → h.get? b = some o → h'.get? b = some o := by
  intro b o hb e
  by_cases hm : b ∈ cs.map (·.1)
  · obtain ⟨p, hp, rfl⟩ := List.mem_map.mp hm
    have := H p (.tail _ hp)
    rw [e] at this
    cases this
    exact H' p hp
  · exact F.keep _ _ (hg b o (fun q => (List.mem_cons.mp q).elim hb hm) e)
theorem C_i2d_miss (w : World) (mean : ExcName → Option Value) (mg mb : Str → Option Value) (dp un : Nat) (gd : Option (List Code)) (outer : List Env) (h₀ : Heap) (s : Shared) (Q E : Value → Shared → Prop)
    (a n : Int) (t1 t2 : Tok) (ha : 0 ≤ a) (hn : 2 ≤ n ∧ n ≤ 8000) (hb : Builtin.Int.intBits a ≤ 90000) (hK128 : ((Builtin.Int.intBits a : Int) + n - 1).fdiv n ≤ 128)
    (X : (KF w.params).In h₀) (T : TopM mean mg mb h₀) (C1 : CodeHd h₀ 107 103) (K0 : Keeps h₀ s.heap) (hdp : dp + 20 < recursionLimit) (hun : un + 60 < cLine)
    (hP : ∀ p ∈ [((103 : Addr), tabObj #[])], s.heap.get? p.1 = some p.2) (hP0 : ∀ p ∈ [((103 : Addr), tabObj #[])], h₀.get? p.1 = none)
    (hret : ∀ (r : Addr) h' tk' vs ns nn ps cs, (∀ b o, b ≠ 103 → s.heap.get? b = some o → h'.get? b = some o) → s.heap.get? r = none → h'.get? r = some (W.listOf vs.toArray nn) → IntsAre vs ns → ns = digs (2 ^ n.toNat) (((Builtin.Int.intBits a : Int) + n - 1).fdiv n).toNat a →
      TabP 83 4 qual1 ps cs → h'.get? 103 = some (tabObj ps) → (∀ p ∈ cs, h'.get? p.1 = some p.2 ∧ s.heap.get? p.1 = none) → Q (.ref r) { s with heap := h', toks := tk' }) :
    wpAny (model PW w) (arn dp un gd outer) (call (.ref 108) [.int a t1, .int n t2]) Q E s := by
  have hfill : PySem.Challenge.rw_rl0135_01 = PySem.Challenge.rw_rl0135_01 ∧ KF = KF := by k_fill; exact ⟨rfl, rfl⟩
  clear hfill
  w_on
  k_with_none
  refine wpAny_call ?_
  k_dflt (refine' enterC (h₀ := h₀) (hid := [((103 : Addr), tabObj #[])]) ?k3 ?kK ?k5 ?kH ?k6 ?k7 ?k8 ?k9 ?kB ?kN ?_ ?c2 ?c3 ?c4; (case k3 => k_asm); (case kK => k_asm); (case k5 => exact T.nolimit); (case kH => exact hP); (case k6 => k_is); (case k7 => k_is); (case k8 => (show dp < _; lia)); (case k9 => exact BindsTo.of_eq rfl); (case kB => exact rfl); (case kN => decide +kernel); (case c2 => exact rfl); (case c3 => exact rfl); (case c4 => exact rfl))
  intro L' h₁ tk cells F' N' CA hlt hfr
  obtain ⟨g, hg⟩ : ∃ g, hideAll s.heap (List.map (fun x => x.fst) [((103 : Addr), tabObj #[])]) = g := ⟨_, rfl⟩
  have KG : Keeps h₀ g := hg ▸ ground_hid K0 hP0
  have hgn : ∀ b o, b ∉ ([((103 : Addr), tabObj #[])]).map (·.1) → s.heap.get? b = some o → g.get? b = some o := fun b o hb e => hg ▸ hideAll_get _ e hb
  rw [hg] at F' N'
  have X' := X.keeps KG
  have T' := T.keeps KG
  have C1' := C1.keeps KG
  clear X T C1 hg
  have l1 : @LT.lt Nat _ 103 L' := hlt _ (.head _)
  obtain ⟨q1, q2, q3, q4⟩ := i2d_cnt hn hb
  have ih := inner_all w mean mg mb n hn
  k_cells CA
  (try simp only [List.cons_append, List.nil_append] at N')
  (try dsimp only)
  (try k_fold)
  repeat' (first | (k_unfold; (try dsimp only)) | (k_end; kc_close) | (walk1; (try dsimp only)) | (dsimp only; walk1; (try dsimp only)) | (leave1; (try dsimp only)) | fail "no step")
  · (rename Fr _ _ _ _ => fE9); (rename News _ _ _ _ => nE9); (rename IntsAre _ _ => iE9); (rename (List.flatten _).length = _ => e1'); (rename 0 ≤ _ → _ = _ => e3')
    rename ¬ a = 0 => ha0
    have hK1 := i2d_pos ha0 q1 q4
    have e4 := (e3' q1).trans (Int.one_mul _)
    refine' inner_callN (ih 7) fE9 nE9 ?U ?mf ?mI ?mA ?mN ?mc ?hd ?hv X' T' C1' ?dp ?un ?dI ?dA ?dN ?o1 ?o2 ?o3 ?o4 iE9 ?hL ?hLR ?hR ?hbig ?hk ha ?hx2 ?_
    case mf => k_mem
    case mI => k_mem
    case mA => k_mem
    case mN => k_mem
    case dA => assumption
    case U => k_updF
    case mc => k_mem
    case hd => assumption
    case hv => assumption
    case dp => (dsimp only [arn]; lia)
    case un => (dsimp only [arn]; lia)
    case dI => assumption
    case dN => assumption
    case o1 => lia
    case o2 => lia
    case o3 => lia
    case o4 => lia
    case hL => exact Int.le_refl _
    case hLR => lia
    case hR => rw [e1']; exact Int.le_refl _
    case hbig => rw [e1', e4]; exact q3
    case hk => (show _ ≤ (128 : Int)); lia
    case hx2 => rw [e4, Int.sub_zero]; exact i2d_lt (by lia) ha q1 q4
    intro h' tk' vs' ns' nn' F' N' I' e'
    (try dsimp only at N')
    repeat' (first | (k_unfold; (try dsimp only)) | (k_end; kc_close) | (walk1; (try dsimp only)) | (dsimp only; walk1; (try dsimp only)) | (leave1; (try dsimp only)) | fail "no step")
    rename News _ _ _ _ => nE
    rename Fr _ _ _ _ => fE
    rename IntsAre _ _ => iE
    show Q _ _
    refine hret _ _ _ _ _ _ _ _ (keeps_tab (cs := []) fE hP (fun _ h => nomatch h) hgn) (hfr _ (Nat.le_of_lt (by lia))) (nE.get (by k_mem)) iE (i2d_fin e1' e4 e') (.inr ⟨_, _, _, _, rfl, rfl, by assumption, by assumption⟩) (nE.get (by k_mem)) (fun p hp => by rw [List.mem_singleton.mp hp]; exact ⟨(nE.get (by k_mem)), hfr _ (Nat.le_of_lt (by lia))⟩)
  · rename News _ _ _ _ => nE
    rename Fr _ _ _ _ => fE
    rename IntsAre _ _ => iE
    rename a = 0 => ha0
    show Q _ _
    refine hret _ _ _ _ _ _ _ _ (keeps_tab (cs := []) fE hP (fun _ h => nomatch h) hgn) (hfr _ (Nat.le_of_lt (by lia))) (nE.get (by k_mem)) iE (by subst ha0; rw [i2d_zero hn]; rfl) (.inr ⟨_, _, _, _, rfl, rfl, by assumption, by assumption⟩) (nE.get (by k_mem)) (fun p hp => by rw [List.mem_singleton.mp hp]; exact ⟨(nE.get (by k_mem)), hfr _ (Nat.le_of_lt (by lia))⟩)
end Mine
end
section
open PySem PySem.W PyProof.Rows PySem.Calls
namespace Mine
theorem C_i2d_hit (w : World) (mean : ExcName → Option Value) (mg mb : Str → Option Value) (dp un : Nat) (gd : Option (List Code)) (outer : List Env) (h₀ : Heap) (s : Shared) (Q E : Value → Shared → Prop)
    (c : Addr) (oc : Obj) (vq : Array Value) (tq : Tok) (hcd : oc.data = .fields vq) (hcv : vq[1]? = some (.str qual1 tq))
    (a n : Int) (t1 t2 : Tok) (ha : 0 ≤ a) (hn : 2 ≤ n ∧ n ≤ 8000) (hb : Builtin.Int.intBits a ≤ 90000) (hK128 : ((Builtin.Int.intBits a : Int) + n - 1).fdiv n ≤ 128)
    (X : (KF w.params).In h₀) (T : TopM mean mg mb h₀) (C1 : CodeHd h₀ 107 103) (K0 : Keeps h₀ s.heap) (hdp : dp + 20 < recursionLimit) (hun : un + 60 < cLine)
    (hP : ∀ p ∈ [((103 : Addr), tabObj #[rawInt 83, rawInt 4, .ref c]), (c, oc)], s.heap.get? p.1 = some p.2) (hP0 : ∀ p ∈ [((103 : Addr), tabObj #[rawInt 83, rawInt 4, .ref c]), (c, oc)], h₀.get? p.1 = none)
    (hret : ∀ (r : Addr) h' tk' vs ns nn ps cs, (∀ b o, b ≠ 103 → s.heap.get? b = some o → h'.get? b = some o) → s.heap.get? r = none → h'.get? r = some (W.listOf vs.toArray nn) → IntsAre vs ns → ns = digs (2 ^ n.toNat) (((Builtin.Int.intBits a : Int) + n - 1).fdiv n).toNat a →
      TabP 83 4 qual1 ps cs → h'.get? 103 = some (tabObj ps) → (∀ p ∈ cs, h'.get? p.1 = some p.2 ∧ (p ∈ [(c, oc)] ∨ s.heap.get? p.1 = none)) → Q (.ref r) { s with heap := h', toks := tk' }) :
    wpAny (model PW w) (arn dp un gd outer) (call (.ref 108) [.int a t1, .int n t2]) Q E s := by
  have hfill : PySem.Challenge.rw_rl0135_01 = PySem.Challenge.rw_rl0135_01 ∧ KF = KF := by k_fill; exact ⟨rfl, rfl⟩
  clear hfill
  w_on
  k_with_none
  refine wpAny_call ?_
  k_dflt (refine' enterC (h₀ := h₀) (hid := [((103 : Addr), tabObj #[rawInt 83, rawInt 4, .ref c]), (c, oc)]) ?k3 ?kK ?k5 ?kH ?k6 ?k7 ?k8 ?k9 ?kB ?kN ?_ ?c2 ?c3 ?c4; (case k3 => k_asm); (case kK => k_asm); (case k5 => exact T.nolimit); (case kH => exact hP); (case k6 => k_is); (case k7 => k_is); (case k8 => (show dp < _; lia)); (case k9 => exact BindsTo.of_eq rfl); (case kB => exact rfl); (case kN => decide +kernel); (case c2 => exact rfl); (case c3 => exact rfl); (case c4 => exact rfl))
  intro L' h₁ tk cells F' N' CA hlt hfr
  obtain ⟨g, hg⟩ : ∃ g, hideAll s.heap (List.map (fun x => x.fst) [((103 : Addr), tabObj #[rawInt 83, rawInt 4, .ref c]), (c, oc)]) = g := ⟨_, rfl⟩
  have KG : Keeps h₀ g := hg ▸ ground_hid K0 hP0
  have hgn : ∀ b o, b ∉ ([((103 : Addr), tabObj #[rawInt 83, rawInt 4, .ref c]), (c, oc)]).map (·.1) → s.heap.get? b = some o → g.get? b = some o := fun b o hb e => hg ▸ hideAll_get _ e hb
  rw [hg] at F' N'
  have X' := X.keeps KG
  have T' := T.keeps KG
  have C1' := C1.keeps KG
  clear X T C1 hg
  have l1 : @LT.lt Nat _ 103 L' ∧ @LT.lt Nat _ c L' := ⟨hlt _ (.head _), hlt _ (.tail _ (.head _))⟩
  have hcv' : vq[1]? = some (.str (qualnameIn (envOfC (ofS "_int2digits") lF7.2.2 L' 108 (.ref 107)) (Str.ofString "inner") (Str.ofString "inner")) tq) := hcv
  obtain ⟨q1, q2, q3, q4⟩ := i2d_cnt hn hb
  have ih := inner_all w mean mg mb n hn
  k_cells CA
  (try simp only [List.cons_append, List.nil_append] at N')
  (try dsimp only)
  (try k_fold)
  repeat' (first | (k_unfold; (try dsimp only)) | (k_end; kc_close) | (walk1; (try dsimp only)) | (dsimp only; walk1; (try dsimp only)) | (leave1; (try dsimp only)) | fail "no step")
  · (rename Fr _ _ _ _ => fE9); (rename News _ _ _ _ => nE9); (rename IntsAre _ _ => iE9); (rename (List.flatten _).length = _ => e1'); (rename 0 ≤ _ → _ = _ => e3')
    rename ¬ a = 0 => ha0
    have hK1 := i2d_pos ha0 q1 q4
    have e4 := (e3' q1).trans (Int.one_mul _)
    refine' inner_callN (ih 7) fE9 nE9 ?U ?mf ?mI ?mA ?mN ?mc ?hd ?hv X' T' C1' ?dp ?un ?dI ?dA ?dN ?o1 ?o2 ?o3 ?o4 iE9 ?hL ?hLR ?hR ?hbig ?hk ha ?hx2 ?_
    case mf => k_mem
    case mI => k_mem
    case mA => k_mem
    case mN => k_mem
    case dA => assumption
    case U => k_updF
    case mc => k_mem
    case hd => assumption
    case hv => assumption
    case dp => (dsimp only [arn]; lia)
    case un => (dsimp only [arn]; lia)
    case dI => assumption
    case dN => assumption
    case o1 => lia
    case o2 => lia
    case o3 => lia
    case o4 => lia
    case hL => exact Int.le_refl _
    case hLR => lia
    case hR => rw [e1']; exact Int.le_refl _
    case hbig => rw [e1', e4]; exact q3
    case hk => (show _ ≤ (128 : Int)); lia
    case hx2 => rw [e4, Int.sub_zero]; exact i2d_lt (by lia) ha q1 q4
    intro h' tk' vs' ns' nn' F' N' I' e'
    (try dsimp only at N')
    repeat' (first | (k_unfold; (try dsimp only)) | (k_end; kc_close) | (walk1; (try dsimp only)) | (dsimp only; walk1; (try dsimp only)) | (leave1; (try dsimp only)) | fail "no step")
    rename News _ _ _ _ => nE
    rename Fr _ _ _ _ => fE
    rename IntsAre _ _ => iE
    show Q _ _
    refine hret _ _ _ _ _ _ _ _ (keeps_tab (cs := [(c, oc)]) fE hP (fun p hp => by rw [List.mem_singleton.mp hp]; exact nE.get (by k_mem)) hgn) (hfr _ (Nat.le_of_lt (by lia))) (nE.get (by k_mem)) iE (i2d_fin e1' e4 e') (.inr ⟨_, _, _, _, rfl, rfl, hcd, hcv⟩) (nE.get (by k_mem)) (fun p hp => by rw [List.mem_singleton.mp hp]; exact ⟨(nE.get (by k_mem)), .inl (.head _)⟩)
  · rename News _ _ _ _ => nE
    rename Fr _ _ _ _ => fE
    rename IntsAre _ _ => iE
    rename a = 0 => ha0
    show Q _ _
    refine hret _ _ _ _ _ _ _ _ (keeps_tab (cs := [(c, oc)]) fE hP (fun p hp => by rw [List.mem_singleton.mp hp]; exact nE.get (by k_mem)) hgn) (hfr _ (Nat.le_of_lt (by lia))) (nE.get (by k_mem)) iE (by subst ha0; rw [i2d_zero hn]; rfl) (.inr ⟨_, _, _, _, rfl, rfl, hcd, hcv⟩) (nE.get (by k_mem)) (fun p hp => by rw [List.mem_singleton.mp hp]; exact ⟨(nE.get (by k_mem)), .inl (.head _)⟩)
theorem C_i2d (w : World) (mean : ExcName → Option Value) (mg mb : Str → Option Value) (dp un : Nat) (gd : Option (List Code)) (outer : List Env) (h₀ : Heap) (s : Shared) (Q E : Value → Shared → Prop)
    (ps0 : Array Value) (cs0 : List (Addr × Obj)) (hT : TabP 83 4 qual1 ps0 cs0)
    (a n : Int) (t1 t2 : Tok) (ha : 0 ≤ a) (hn : 2 ≤ n ∧ n ≤ 8000) (hb : Builtin.Int.intBits a ≤ 90000) (hK128 : ((Builtin.Int.intBits a : Int) + n - 1).fdiv n ≤ 128)
    (X : (KF w.params).In h₀) (T : TopM mean mg mb h₀) (C1 : CodeHd h₀ 107 103) (K0 : Keeps h₀ s.heap) (hdp : dp + 20 < recursionLimit) (hun : un + 60 < cLine)
    (hP : s.heap.get? 103 = some (tabObj ps0)) (hP0 : h₀.get? 103 = none) (hC : ∀ p ∈ cs0, s.heap.get? p.1 = some p.2 ∧ h₀.get? p.1 = none)
    (hret : ∀ (r : Addr) h' tk' vs ns nn ps cs, (∀ b o, b ≠ 103 → s.heap.get? b = some o → h'.get? b = some o) → s.heap.get? r = none → h'.get? r = some (W.listOf vs.toArray nn) → IntsAre vs ns → ns = digs (2 ^ n.toNat) (((Builtin.Int.intBits a : Int) + n - 1).fdiv n).toNat a →
      TabP 83 4 qual1 ps cs → h'.get? 103 = some (tabObj ps) → (∀ p ∈ cs, h'.get? p.1 = some p.2 ∧ (p ∈ cs0 ∨ s.heap.get? p.1 = none)) → Q (.ref r) { s with heap := h', toks := tk' }) :
    wpAny (model PW w) (arn dp un gd outer) (call (.ref 108) [.int a t1, .int n t2]) Q E s := by
  rcases hT with ⟨rfl, rfl⟩ | ⟨c, oc, vq, tq, rfl, rfl, hcd, hcv⟩
  · refine C_i2d_miss w mean mg mb dp un gd outer h₀ s Q E a n t1 t2 ha hn hb hK128 X T C1 K0 hdp hun (fun p hp => by rw [List.mem_singleton.mp hp]; exact hP) (fun p hp => by rw [List.mem_singleton.mp hp]; exact hP0) fun r h' tk' vs ns nn ps cs k1 k2 k3 k4 k5 k6 k7 k8 => ?_
    exact hret r h' tk' vs ns nn ps cs k1 k2 k3 k4 k5 k6 k7 fun p hp => ⟨(k8 p hp).1, .inr (k8 p hp).2⟩
  · have hc := hC _ (.head _)
    refine C_i2d_hit w mean mg mb dp un gd outer h₀ s Q E c oc vq tq hcd hcv a n t1 t2 ha hn hb hK128 X T C1 K0 hdp hun (fun p hp => ?_) (fun p hp => ?_) hret
    · rcases List.mem_cons.mp hp with rfl | hp
      · exact hP
      · rw [List.mem_singleton.mp hp]; exact hc.1
    · rcases List.mem_cons.mp hp with rfl | hp
      · exact hP0
      · rw [List.mem_singleton.mp hp]; exact hc.2
end Mine
end
section
namespace Mine
theorem undig_bnd {B : Int} (hB : 0 < B) : ∀ {l : List Int}, (∀ d ∈ l, 0 ≤ d ∧ d < B) → 0 ≤ undig B l ∧ undig B l < B ^ l.length
  | [], _ => by simp [undig]
  | d :: r, h => by
    obtain ⟨h1, h2⟩ := undig_bnd hB (l := r) fun x hx => h x (.tail _ hx)
    obtain ⟨h3, h4⟩ := h d (.head _)
    have h5 : 0 ≤ B * undig B r := Int.mul_nonneg (Int.le_of_lt hB) h1
    have h6 : B * (undig B r + 1) ≤ B * B ^ r.length := Int.mul_le_mul_of_nonneg_left h2 (Int.le_of_lt hB)
    rw [Int.mul_add, Int.mul_one] at h6
    simp only [undig, List.length_cons, Int.pow_succ]
    rw [Int.mul_comm (B ^ r.length)]
    exact ⟨by lia, by lia⟩
noncomputable def slice (ns : List Int) (L R : Int) : List Int := (ns.drop L.toNat).take (R - L).toNat
theorem slice_length {ns : List Int} {L R : Int} (h0 : 0 ≤ L) (h1 : L ≤ R) (h2 : R ≤ (ns.length : Int)) : (slice ns L R).length = (R - L).toNat := by
  simp [slice]; lia
theorem slice_split {ns : List Int} {L M R : Int} (h0 : 0 ≤ L) (h1 : L ≤ M) (h2 : M ≤ R) : slice ns L R = slice ns L M ++ slice ns M R := by
  unfold slice
  have e1 : (R - L).toNat = (M - L).toNat + (R - M).toNat := by lia
  have e2 : M.toNat = L.toNat + (M - L).toNat := by lia
  rw [e1, List.take_add, List.drop_drop, e2]
theorem slice_one {ns : List Int} {L R : Int} (h0 : 0 ≤ L) (h1 : L + 1 = R) (h2 : R ≤ (ns.length : Int)) : slice ns L R = [ns.getD L.toNat 0] := by
  unfold slice
  have e : (R - L).toNat = 1 := by lia
  have hl : L.toNat < ns.length := by lia
  rw [e, List.drop_eq_getElem_cons hl]
  rw [List.getD_eq_getElem?_getD, List.getElem?_eq_getElem hl]
  rfl
theorem slice_all {ns : List Int} : slice ns 0 (ns.length : Int) = ns := by simp [slice]
theorem mem_slice {ns : List Int} {L R d : Int} (h : d ∈ slice ns L R) : d ∈ ns := List.mem_of_mem_drop (List.mem_of_mem_take h)
end Mine
end
section
open PySem PySem.W PyProof.Rows PySem.Calls
namespace Mine
theorem fr_keeps {h₀ h h' : Heap} {L : Addr} {m : Str → Option Value} (F : Fr h₀ L h m) (hk : Keeps h h') : Fr h₀ L h' m := ⟨F.ns.keeps hk, fun b o e => hk b o (F.keep b o e), F.above⟩
theorem news_keeps {h₀ h h' : Heap} {L : Addr} {news : List (Addr × Obj)} (N : News h₀ L h news) (hk : Keeps h h') : News h₀ L h' news := fun p hp => ⟨hk _ _ (N p hp).1, (N p hp).2⟩
@[reducible] noncomputable def nD : Arguments × List Stmt × Scope := (⟨_, rfl⟩ : { x // fdAt (lF8.2.1[0]?) = some x }).1
noncomputable abbrev innerLD (d f cI cA cN : Addr) (oI oA oN : Obj) (vs : List Value) (nn : Nat) (qual : Str) (doc pm : Value) (c' : Addr) (ctv : Value) : List (Addr × Obj) :=
  [(d, W.listOf vs.toArray nn), (f, fnMade (ofS "inner") qual nD.1 nD.2.1 nD.2.2 [(ofS "n", cN), (ofS "inner", cI), (ofS "digits", cA)] doc pm c' ctv), (cI, oI), (cA, oA), (cN, oN)]
noncomputable def InnerD (w : World) (mean : ExcName → Option Value) (mg mb : Str → Option Value) (n : Int) (k : Nat) : Prop :=
  ∀ (dp un : Nat) (gd : Option (List Code)) (outer : List Env) (h₀ : Heap) (s : Shared) (Q E : Value → Shared → Prop) (d f cI cA cN : Addr) (oI oA oN : Obj) (vs : List Value) (ns : List Int) (nn : Nat) (qual : Str) (doc pm : Value) (c' : Addr) (ctv : Value)
    (L R : Int) (tL tR tn : Tok),
    (KF w.params).In h₀ → TopM mean mg mb h₀ → CodeHd h₀ 114 110 → Keeps h₀ s.heap → dp + k + 2 < recursionLimit → un + 3 * k + 8 < cLine → s.heap.CodeRec (.ref c') qual →
    (∀ p ∈ innerLD d f cI cA cN oI oA oN vs nn qual doc pm c' ctv, s.heap.get? p.1 = some p.2) → (∀ p ∈ innerLD d f cI cA cN oI oA oN vs nn qual doc pm c' ctv, h₀.get? p.1 = none) →
    oI.data = .cell (some (.ref f)) → oA.data = .cell (some (.ref d)) → oN.data = .cell (some (.int n tn)) →
    IntsAre vs ns → 0 ≤ L → L < R → R ≤ (ns.length : Int) → (ns.length : Int) * n ≤ 1000000 → R - L ≤ 2 ^ k → (∀ d ∈ ns, 0 ≤ d ∧ d < 2 ^ n.toNat) →
    (∀ h' tk' y t, Keeps s.heap h' → y = undig (2 ^ n.toNat) (slice ns L R) → Q (.int y t) { s with heap := h', toks := tk' }) →
    wpAny (model PW w) (arn dp un gd outer) (call (.ref f) [.int L tL, .int R tR]) Q E s
theorem undig_bits {n L R : Int} {ns : List Int} (hn : 0 ≤ n) (hL : 0 ≤ L) (hLR : L ≤ R) (hR : R ≤ (ns.length : Int)) (hbig : (ns.length : Int) * n ≤ 1000000) (hd : ∀ d ∈ ns, 0 ≤ d ∧ d < 2 ^ n.toNat) :
    0 ≤ undig (2 ^ n.toNat) (slice ns L R) ∧ Builtin.Int.intBits (undig (2 ^ n.toNat) (slice ns L R)) ≤ 1000000 := by
  have h1 := undig_bnd (B := 2 ^ n.toNat) (Int.pow_pos (by decide)) (l := slice ns L R) fun d hd' => hd d (mem_slice hd')
  rw [slice_length hL hLR hR] at h1
  exact ⟨h1.1, pow_bits hn h1.1 h1.2 (len := (ns.length : Int)) (by lia) hbig⟩
theorem inner_callD {w : World} {mean : ExcName → Option Value} {mg mb : Str → Option Value} {n : Int} {k : Nat} (I : InnerD w mean mg mb n k)
    {dp un : Nat} {gd : Option (List Code)} {outer : List Env} {g : Heap} {Lx : Addr} {m : Str → Option Value} {s : Shared} {Q E : Value → Shared → Prop} {d f cI cA cN : Addr} {oI oA oN : Obj} {vs : List Value} {ns : List Int} {nn : Nat} {qual : Str} {doc pm : Value} {c' : Addr} {ctv : Value}
    {L R : Int} {tL tR tn : Tok} {news : List (Addr × Obj)} (F : Fr g Lx s.heap m) (N : News g Lx s.heap news)
    (mf : (f, fnMade (ofS "inner") qual nD.1 nD.2.1 nD.2.2 [(ofS "n", cN), (ofS "inner", cI), (ofS "digits", cA)] doc pm c' ctv) ∈ news) (mI : (cI, oI) ∈ news) (mA : (cA, oA) ∈ news) (mN : (cN, oN) ∈ news)
    (dI : oI.data = .cell (some (.ref f))) (dA : oA.data = .cell (some (.ref d))) (dN : oN.data = .cell (some (.int n tn))) (mD : (d, W.listOf vs.toArray nn) ∈ news)
    (X : (KF w.params).In g) (T : TopM mean mg mb g) (C : CodeHd g 114 110) (hdp : dp + k + 2 < recursionLimit) (hun : un + 3 * k + 8 < cLine) (hq : s.heap.CodeRec (.ref c') qual)
    (hi : IntsAre vs ns) (hL : 0 ≤ L) (hLR : L < R) (hR : R ≤ (ns.length : Int)) (hbig : (ns.length : Int) * n ≤ 1000000) (hk : R - L ≤ 2 ^ k) (hd : ∀ d ∈ ns, 0 ≤ d ∧ d < 2 ^ n.toNat) (hn : 0 ≤ n)
    (h : ∀ h' tk' y t, Fr g Lx h' m → News g Lx h' news → y = undig (2 ^ n.toNat) (slice ns L R) → 0 ≤ y → Builtin.Int.intBits y ≤ 1000000 → Q (.int y t) { s with heap := h', toks := tk' }) :
    wpAny (model PW w) (arn dp un gd outer) (call (.ref f) [.int L tL, .int R tR]) Q E s := by
  have hall : ∀ p ∈ innerLD d f cI cA cN oI oA oN vs nn qual doc pm c' ctv, p ∈ news := by
    intro p hp
    simp only [List.mem_cons, List.not_mem_nil, or_false] at hp
    rcases hp with rfl | rfl | rfl | rfl | rfl
    · exact mD
    · exact mf
    · exact mI
    · exact mA
    · exact mN
  obtain ⟨b1, b2⟩ := undig_bits hn hL (Int.le_of_lt hLR) hR hbig hd
  refine I dp un gd outer g s Q E d f cI cA cN oI oA oN vs ns nn qual doc pm c' ctv L R tL tR tn X T C F.keep hdp hun hq (fun p hp => (N p (hall p hp)).1) (fun p hp => (N p (hall p hp)).2.2) dI dA dN hi hL hLR hR hbig hk hd fun h' tk' y t hk' hy => ?_
  subst hy
  exact h h' tk' _ t (fr_keeps F hk') (news_keeps N hk') rfl b1 b2
theorem keeps_all {h g h' : Heap} {L' : Addr} {hid : List (Addr × Obj)} {m : Str → Option Value} (F : Fr g L' h' m) (N : News g L' h' hid) (H : ∀ p ∈ hid, h.get? p.1 = some p.2)
    (hg : ∀ b o, b ∉ hid.map (·.1) → h.get? b = some o → g.get? b = some o) : Keeps h h' := by
  intro b o e
  by_cases hm : b ∈ hid.map (·.1)
  · obtain ⟨p, hp, rfl⟩ := List.mem_map.mp hm
    have := H p hp
    rw [e] at this
    cases this
    exact (N p hp).1
  · exact F.keep _ _ (hg b o hm e)
theorem code_ghostD {h g : Heap} {c' d f cI cA cN : Addr} {oI oA oN : Obj} {vs : List Value} {nn : Nat} {qual : Str} {doc pm ctv v1 v2 v3 : Value} (hq : h.CodeRec (.ref c') qual)
    (hg : ∀ b o, b ∉ (innerLD d f cI cA cN oI oA oN vs nn qual doc pm c' ctv).map (·.1) → h.get? b = some o → g.get? b = some o)
    (H : ∀ p ∈ innerLD d f cI cA cN oI oA oN vs nn qual doc pm c' ctv, h.get? p.1 = some p.2) (dI : oI.data = .cell (some v1)) (dA : oA.data = .cell (some v2)) (dN : oN.data = .cell (some v3)) : g.CodeRec (.ref c') qual := by
  obtain ⟨c, oc, vs', t, e, ho, hd, hv⟩ := hq
  cases e
  refine ⟨c', oc, vs', t, rfl, hg c' oc (fun q => ?_) ho, hd, hv⟩
  obtain ⟨p, hp, e⟩ := List.mem_map.mp q
  have h2 := H p hp
  rw [e, ho] at h2
  cases h2
  simp only [List.mem_cons, List.not_mem_nil, or_false] at hp
  rcases hp with rfl | rfl | rfl | rfl | rfl
  · cases hd
  · cases hd
  · rw [dI] at hd; cases hd
  · rw [dA] at hd; cases hd
  · rw [dN] at hd; cases hd
theorem d2i_end {ns : List Int} {L M R n sh up u2 lo : Int} (hn : 0 ≤ n) (hL : 0 ≤ L) (hLM : L < M) (hMR : M < R) (hR : R ≤ (ns.length : Int)) (hs : sh = (M - L) * n) (h1 : up = undig (2 ^ n.toNat) (slice ns M R)) (h2 : u2 = up * 2 ^ sh.toNat) (h3 : lo = undig (2 ^ n.toNat) (slice ns L M)) : u2 + lo = undig (2 ^ n.toNat) (slice ns L R) := by
  have hp : (2 : Int) ^ sh.toNat = (2 ^ n.toNat) ^ (M - L).toNat := by
    rw [← Int.pow_mul]
    congr 1
    rw [hs]
    have : ((n.toNat * (M - L).toNat : Nat) : Int) = (M - L) * n := by
      rw [Int.natCast_mul, Int.toNat_of_nonneg hn, Int.toNat_of_nonneg (by lia), Int.mul_comm]
    lia
  rw [slice_split hL (Int.le_of_lt hLM) (Int.le_of_lt hMR), undig_append, slice_length hL (Int.le_of_lt hLM) (by lia), h2, h1, h3, hp, Int.mul_comm (undig _ (slice ns M R)), Int.add_comm]
theorem innerD_zero (w : World) (mean : ExcName → Option Value) (mg mb : Str → Option Value) (n : Int) (hn : 2 ≤ n ∧ n ≤ 8000) : InnerD w mean mg mb n 0 := by
  intro dp un gd outer h₀ s Q E d f cI cA cN oI oA oN vs ns nn qual doc pm c' ctv L R tL tR tn X T C1 K0 hdp hun hq H H0 dI dA dN hi hL hLR hR hbig hk hd hret
  have hfill : PySem.Challenge.rw_rl0135_01 = PySem.Challenge.rw_rl0135_01 ∧ KF = KF := by k_fill; exact ⟨rfl, rfl⟩
  clear hfill
  w_on
  k_with_none
  refine wpAny_call ?_
  k_dflt (refine' enterX (h₀ := h₀) (hid := innerLD d f cI cA cN oI oA oN vs nn qual doc pm c' ctv) ?kK ?k5 ?kH ?k6 ?k6b ?k7 ?k8 ?k9 ?kB ?_ ?c2 ?c3 ?c4 ?c5; (case kK => k_asm); (case k5 => exact T.nolimit); (case kH => exact H); (case k6 => exact H _ (.tail _ (.head _))); (case k6b => exact rfl); (case k7 => exact hq); (case k8 => (show dp < _; lia)); (case k9 => exact BindsTo.of_eq rfl); (case kB => exact locs rfl); (case c2 => decide); (case c3 => exact rfl); (case c4 => exact rfl); (case c5 => exact rfl))
  intro L' h₁ F' N' hlt hfr
  obtain ⟨g, hg⟩ : ∃ g, hideAll s.heap ((innerLD d f cI cA cN oI oA oN vs nn qual doc pm c' ctv).map (·.1)) = g := ⟨_, rfl⟩
  have KG : Keeps h₀ g := hg ▸ ground_hid K0 H0
  have hgn : ∀ b o, b ∉ (innerLD d f cI cA cN oI oA oN vs nn qual doc pm c' ctv).map (·.1) → s.heap.get? b = some o → g.get? b = some o := fun b o hb e => hg ▸ hideAll_get _ e hb
  rw [hg] at F' N'
  have X' := X.keeps KG
  have T' := T.keeps KG
  have C1' := C1.keeps KG
  clear X T C1
  have hlen : (ns.length : Int) ≤ 1000000 := len_bnd hn.1 hbig
  have hRL : L + 1 = R := by have : (2 : Int) ^ 0 = 1 := rfl; lia
  (try dsimp only)
  (try k_fold)
  repeat' (first | ((with_reducible show wpAny _ _ (call (Value.ref _) _) _ _ _); (rename InnerD _ _ _ _ _ _ => ih9); (rename Fr _ _ _ _ => fE9); (rename News _ _ _ _ => nE9); (refine inner_callD ih9 fE9 nE9 (by k_mem) (by k_mem) (by k_mem) (by k_mem) ‹_› ‹_› ‹_› (by k_mem) ‹_› ‹_› ‹_› (by dsimp only [arn]; lia) (by dsimp only [arn]; lia) (Heap.CodeRec.keeps ‹_› (Fr.keep fE9)) ‹_› (by lia) (by lia) (by lia) ‹_› (by lia) ‹_› (by lia) ?_); intro _ _ _ _ _ _ _ _ _) | ((with_reducible show wpAny _ _ (binaryOp Operator.LShift (Value.int _ _) (Value.int _ _)) _ _ _); (refine r_lshift (m := 1000000) (by lia) ‹_› (by lia) ?_); intro _ _ _) | ((with_reducible show wpAny _ _ (binaryOp Operator.Mult (Value.int _ _) (Value.int _ _)) _ _ _); (refine r_mul ‹_› (by lia) (by lia) (by lia) (by lia) ?_); intro _ _ _ _) | ((with_reducible show wpAny _ _ (binaryOp Operator.RShift (Value.int _ _) (Value.int _ _)) _ _ _); (refine r_half ‹_› ‹_› ‹_› ?_); intro _ _ _ _ _ _) | (k_unfold; (try dsimp only)) | (k_end; kc_close) | (walk1; (try dsimp only)) | (dsimp only; walk1; (try dsimp only)) | (leave1; (try dsimp only)) | fail "no step")
  all_goals (first | (exfalso; lia) | skip)
  rename News _ _ _ _ => nE
  rename Fr _ _ _ _ => fE
  exact hret _ _ _ _ (keeps_all fE nE H hgn) (by rw [slice_one hL hRL hR]; simp [undig])
theorem innerD_succ (w : World) (mean : ExcName → Option Value) (mg mb : Str → Option Value) (n : Int) (hn : 2 ≤ n ∧ n ≤ 8000) (k : Nat) (ih : InnerD w mean mg mb n k) : InnerD w mean mg mb n (k + 1) := by
  intro dp un gd outer h₀ s Q E d f cI cA cN oI oA oN vs ns nn qual doc pm c' ctv L R tL tR tn X T C1 K0 hdp hun hq H H0 dI dA dN hi hL hLR hR hbig hk hd hret
  have hfill : PySem.Challenge.rw_rl0135_01 = PySem.Challenge.rw_rl0135_01 ∧ KF = KF := by k_fill; exact ⟨rfl, rfl⟩
  clear hfill
  w_on
  k_with_none
  refine wpAny_call ?_
  k_dflt (refine' enterX (h₀ := h₀) (hid := innerLD d f cI cA cN oI oA oN vs nn qual doc pm c' ctv) ?kK ?k5 ?kH ?k6 ?k6b ?k7 ?k8 ?k9 ?kB ?_ ?c2 ?c3 ?c4 ?c5; (case kK => k_asm); (case k5 => exact T.nolimit); (case kH => exact H); (case k6 => exact H _ (.tail _ (.head _))); (case k6b => exact rfl); (case k7 => exact hq); (case k8 => (show dp < _; lia)); (case k9 => exact BindsTo.of_eq rfl); (case kB => exact locs rfl); (case c2 => decide); (case c3 => exact rfl); (case c4 => exact rfl); (case c5 => exact rfl))
  intro L' h₁ F' N' hlt hfr
  obtain ⟨g, hg⟩ : ∃ g, hideAll s.heap ((innerLD d f cI cA cN oI oA oN vs nn qual doc pm c' ctv).map (·.1)) = g := ⟨_, rfl⟩
  have KG : Keeps h₀ g := hg ▸ ground_hid K0 H0
  have hgn : ∀ b o, b ∉ (innerLD d f cI cA cN oI oA oN vs nn qual doc pm c' ctv).map (·.1) → s.heap.get? b = some o → g.get? b = some o := fun b o hb e => hg ▸ hideAll_get _ e hb
  rw [hg] at F' N'
  have X' := X.keeps KG
  have T' := T.keeps KG
  have C1' := C1.keeps KG
  clear X T C1
  have hlen : (ns.length : Int) ≤ 1000000 := len_bnd hn.1 hbig
  have hq' : g.CodeRec (.ref c') qual := code_ghostD hq hgn H dI dA dN
  have hk2 : R - L ≤ 2 * 2 ^ k := by rw [Int.pow_succ] at hk; lia
  clear hq
  (try dsimp only)
  (try k_fold)
  repeat' (first | ((with_reducible show wpAny _ _ (call (Value.ref _) _) _ _ _); (rename InnerD _ _ _ _ _ _ => ih9); (rename Fr _ _ _ _ => fE9); (rename News _ _ _ _ => nE9); (refine inner_callD ih9 fE9 nE9 (by k_mem) (by k_mem) (by k_mem) (by k_mem) ‹_› ‹_› ‹_› (by k_mem) ‹_› ‹_› ‹_› (by dsimp only [arn]; lia) (by dsimp only [arn]; lia) (Heap.CodeRec.keeps ‹_› (Fr.keep fE9)) ‹_› (by lia) (by lia) (by lia) ‹_› (by lia) ‹_› (by lia) ?_); intro _ _ _ _ _ _ _ _ _) | ((with_reducible show wpAny _ _ (binaryOp Operator.LShift (Value.int _ _) (Value.int _ _)) _ _ _); (refine r_lshift (m := 1000000) (by lia) ‹_› (by lia) ?_); intro _ _ _) | ((with_reducible show wpAny _ _ (binaryOp Operator.Mult (Value.int _ _) (Value.int _ _)) _ _ _); (refine r_mul ‹_› (by lia) (by lia) (by lia) (by lia) ?_); intro _ _ _ _) | ((with_reducible show wpAny _ _ (binaryOp Operator.RShift (Value.int _ _) (Value.int _ _)) _ _ _); (refine r_half ‹_› ‹_› ‹_› ?_); intro _ _ _ _ _ _) | (k_unfold; (try dsimp only)) | (k_end; kc_close) | (walk1; (try dsimp only)) | (dsimp only; walk1; (try dsimp only)) | (leave1; (try dsimp only)) | fail "no step")
  · rename News _ _ _ _ => nE
    rename Fr _ _ _ _ => fE
    rename L + 1 = R => hRL
    exact hret _ _ _ _ (keeps_all fE nE H hgn) (by rw [slice_one hL hRL hR]; simp [undig])
  · rename News _ _ _ _ => nE
    rename Fr _ _ _ _ => fE
    exact hret _ _ _ _ (keeps_all fE nE H hgn) (d2i_end (by lia) hL (by assumption) (by assumption) hR (by assumption) (by assumption) (by assumption) (by assumption))
theorem innerD_all (w : World) (mean : ExcName → Option Value) (mg mb : Str → Option Value) (n : Int) (hn : 2 ≤ n ∧ n ≤ 8000) : ∀ k, InnerD w mean mg mb n k
  | 0 => innerD_zero w mean mg mb n hn
  | k + 1 => innerD_succ w mean mg mb n hn k (innerD_all w mean mg mb n hn k)
end Mine
end
section
open PySem PySem.W PyProof.Rows PySem.Calls
namespace Mine
noncomputable def qual2 : Str := qualnameIn (envOfC (ofS "_digits2int") lF8.2.2 0 115 (.ref 114)) (ofS "inner") (ofS "inner")
theorem d2i_nil {B : Int} {ns : List Int} (h : ns.length = 0) : (0 : Int) = undig B ns := by
  rw [List.length_eq_zero_iff.mp h]; rfl
theorem C_d2i_miss (w : World) (mean : ExcName → Option Value) (mg mb : Str → Option Value) (dp un : Nat) (gd : Option (List Code)) (outer : List Env) (h₀ : Heap) (s : Shared) (Q E : Value → Shared → Prop)
    (d : Addr) (vs : List Value) (ns : List Int) (nn : Nat) (n : Int) (t2 : Tok) (hn : 2 ≤ n ∧ n ≤ 8000) (hi : IntsAre vs ns) (hbig : (ns.length : Int) * n ≤ 1000000) (hK128 : ns.length ≤ 128) (hd : ∀ d ∈ ns, 0 ≤ d ∧ d < 2 ^ n.toNat)
    (X : (KF w.params).In h₀) (T : TopM mean mg mb h₀) (C1 : CodeHd h₀ 114 110) (K0 : Keeps h₀ s.heap) (hdp : dp + 20 < recursionLimit) (hun : un + 60 < cLine)
    (hP : ∀ p ∈ [((110 : Addr), tabObj #[]), (d, W.listOf vs.toArray nn)], s.heap.get? p.1 = some p.2) (hP0 : ∀ p ∈ [((110 : Addr), tabObj #[]), (d, W.listOf vs.toArray nn)], h₀.get? p.1 = none)
    (hret : ∀ h' tk' y t ps cs, (∀ b o, b ≠ 110 → s.heap.get? b = some o → h'.get? b = some o) → y = undig (2 ^ n.toNat) ns →
      TabP 98 4 qual2 ps cs → h'.get? 110 = some (tabObj ps) → (∀ p ∈ cs, h'.get? p.1 = some p.2 ∧ s.heap.get? p.1 = none) → Q (.int y t) { s with heap := h', toks := tk' }) :
    wpAny (model PW w) (arn dp un gd outer) (call (.ref 115) [.ref d, .int n t2]) Q E s := by
  have hfill : PySem.Challenge.rw_rl0135_01 = PySem.Challenge.rw_rl0135_01 ∧ KF = KF := by k_fill; exact ⟨rfl, rfl⟩
  clear hfill
  w_on
  k_with_none
  refine wpAny_call ?_
  k_dflt (refine' enterC (h₀ := h₀) (hid := [((110 : Addr), tabObj #[]), (d, W.listOf vs.toArray nn)]) ?k3 ?kK ?k5 ?kH ?k6 ?k7 ?k8 ?k9 ?kB ?kN ?_ ?c2 ?c3 ?c4; (case k3 => k_asm); (case kK => k_asm); (case k5 => exact T.nolimit); (case kH => exact hP); (case k6 => k_is); (case k7 => k_is); (case k8 => (show dp < _; lia)); (case k9 => exact BindsTo.of_eq rfl); (case kB => exact rfl); (case kN => decide +kernel); (case c2 => exact rfl); (case c3 => exact rfl); (case c4 => exact rfl))
  intro L' h₁ tk cells F' N' CA hlt hfr
  obtain ⟨g, hg⟩ : ∃ g, hideAll s.heap (List.map (fun x => x.fst) [((110 : Addr), tabObj #[]), (d, W.listOf vs.toArray nn)]) = g := ⟨_, rfl⟩
  have KG : Keeps h₀ g := hg ▸ ground_hid K0 hP0
  have hgn : ∀ b o, b ∉ ([((110 : Addr), tabObj #[]), (d, W.listOf vs.toArray nn)]).map (·.1) → s.heap.get? b = some o → g.get? b = some o := fun b o hb e => hg ▸ hideAll_get _ e hb
  rw [hg] at F' N'
  have X' := X.keeps KG
  have T' := T.keeps KG
  have C1' := C1.keeps KG
  clear X T C1 hg
  have l1 : @LT.lt Nat _ 110 L' ∧ @LT.lt Nat _ d L' := ⟨hlt _ (.head _), hlt _ (.tail _ (.head _))⟩
  have hvl := IntsAre.length hi
  have hdn : @LT.lt Nat _ d 110 ∨ @LT.lt Nat _ 110 d := Nat.lt_or_gt_of_ne fun q => by
    have e1 := hP (110, _) (.head _)
    have e2 := hP (d, W.listOf vs.toArray nn) (by exact .tail _ (.head _))
    dsimp only at e1 e2
    rw [q, e1] at e2
    cases e2
  have ih := innerD_all w mean mg mb n hn
  k_cells CA
  (try simp only [List.cons_append, List.nil_append] at N')
  (try dsimp only)
  (try k_fold)
  repeat' (first | (k_unfold; (try dsimp only)) | (k_end; kc_close) | (walk1; (try dsimp only)) | (dsimp only; walk1; (try dsimp only)) | (leave1; (try dsimp only)) | fail "no step")
  · (rename Fr _ _ _ _ => fE9); (rename News _ _ _ _ => nE9)
    have hpos : (0 : Int) < (ns.length : Int) := by first | lia | (simp at *; lia)
    refine' inner_callD (ih 7) fE9 nE9 ?mf ?mI ?mA ?mN ?dI ?dA ?dN ?mD X' T' C1' ?dp ?un ?hq hi (Int.le_refl _) hpos (Int.le_refl _) hbig ?hk hd (by lia) ?_
    case mf => k_mem
    case mI => k_mem
    case mA => k_mem
    case mN => k_mem
    case dI => assumption
    case dA => assumption
    case dN => assumption
    case mD => k_mem
    case dp => (dsimp only [arn]; lia)
    case un => (dsimp only [arn]; lia)
    case hq => exact codeRec_news nE9 (by k_mem) (by assumption) (by assumption)
    case hk => (show _ ≤ (128 : Int)); lia
    intro h' tk' y t F' N' y1 y2 y3
    rw [slice_all] at y1
    (try dsimp only at N')
    repeat' (first | (k_unfold; (try dsimp only)) | (k_end; kc_close) | (walk1; (try dsimp only)) | (dsimp only; walk1; (try dsimp only)) | (leave1; (try dsimp only)) | fail "no step")
    rename News _ _ _ _ => nE
    rename Fr _ _ _ _ => fE
    (show Q _ _)
    refine hret _ _ _ _ _ _ (keeps_tab (cs := [(d, W.listOf vs.toArray nn)]) fE hP (fun p hp => by rw [List.mem_singleton.mp hp]; exact nE.get (by k_mem)) hgn) y1 (.inr ⟨_, _, _, _, rfl, rfl, by assumption, by assumption⟩) (nE.get (by k_mem)) (fun p hp => by rw [List.mem_singleton.mp hp]; exact ⟨nE.get (by k_mem), hfr _ (Nat.le_of_lt (by lia))⟩)
  · rename News _ _ _ _ => nE
    rename Fr _ _ _ _ => fE
    (show Q _ _)
    refine hret _ _ _ _ _ _ (keeps_tab (cs := [(d, W.listOf vs.toArray nn)]) fE hP (fun p hp => by rw [List.mem_singleton.mp hp]; exact nE.get (by k_mem)) hgn) (d2i_nil (by first | lia | (simp at *; lia))) (.inr ⟨_, _, _, _, rfl, rfl, by assumption, by assumption⟩) (nE.get (by k_mem)) (fun p hp => by rw [List.mem_singleton.mp hp]; exact ⟨nE.get (by k_mem), hfr _ (Nat.le_of_lt (by lia))⟩)
theorem C_d2i_hit (w : World) (mean : ExcName → Option Value) (mg mb : Str → Option Value) (dp un : Nat) (gd : Option (List Code)) (outer : List Env) (h₀ : Heap) (s : Shared) (Q E : Value → Shared → Prop)
    (c : Addr) (oc : Obj) (vq : Array Value) (tq : Tok) (hcd : oc.data = .fields vq) (hcv : vq[1]? = some (.str qual2 tq))
    (d : Addr) (vs : List Value) (ns : List Int) (nn : Nat) (n : Int) (t2 : Tok) (hn : 2 ≤ n ∧ n ≤ 8000) (hi : IntsAre vs ns) (hbig : (ns.length : Int) * n ≤ 1000000) (hK128 : ns.length ≤ 128) (hd : ∀ d ∈ ns, 0 ≤ d ∧ d < 2 ^ n.toNat)
    (X : (KF w.params).In h₀) (T : TopM mean mg mb h₀) (C1 : CodeHd h₀ 114 110) (K0 : Keeps h₀ s.heap) (hdp : dp + 20 < recursionLimit) (hun : un + 60 < cLine)
    (hP : ∀ p ∈ [((110 : Addr), tabObj #[rawInt 98, rawInt 4, .ref c]), (c, oc), (d, W.listOf vs.toArray nn)], s.heap.get? p.1 = some p.2) (hP0 : ∀ p ∈ [((110 : Addr), tabObj #[rawInt 98, rawInt 4, .ref c]), (c, oc), (d, W.listOf vs.toArray nn)], h₀.get? p.1 = none)
    (hret : ∀ h' tk' y t ps cs, (∀ b o, b ≠ 110 → s.heap.get? b = some o → h'.get? b = some o) → y = undig (2 ^ n.toNat) ns →
      TabP 98 4 qual2 ps cs → h'.get? 110 = some (tabObj ps) → (∀ p ∈ cs, h'.get? p.1 = some p.2 ∧ (p ∈ [(c, oc)] ∨ s.heap.get? p.1 = none)) → Q (.int y t) { s with heap := h', toks := tk' }) :
    wpAny (model PW w) (arn dp un gd outer) (call (.ref 115) [.ref d, .int n t2]) Q E s := by
  have hfill : PySem.Challenge.rw_rl0135_01 = PySem.Challenge.rw_rl0135_01 ∧ KF = KF := by k_fill; exact ⟨rfl, rfl⟩
  clear hfill
  w_on
  k_with_none
  refine wpAny_call ?_
  k_dflt (refine' enterC (h₀ := h₀) (hid := [((110 : Addr), tabObj #[rawInt 98, rawInt 4, .ref c]), (c, oc), (d, W.listOf vs.toArray nn)]) ?k3 ?kK ?k5 ?kH ?k6 ?k7 ?k8 ?k9 ?kB ?kN ?_ ?c2 ?c3 ?c4; (case k3 => k_asm); (case kK => k_asm); (case k5 => exact T.nolimit); (case kH => exact hP); (case k6 => k_is); (case k7 => k_is); (case k8 => (show dp < _; lia)); (case k9 => exact BindsTo.of_eq rfl); (case kB => exact rfl); (case kN => decide +kernel); (case c2 => exact rfl); (case c3 => exact rfl); (case c4 => exact rfl))
  intro L' h₁ tk cells F' N' CA hlt hfr
  obtain ⟨g, hg⟩ : ∃ g, hideAll s.heap (List.map (fun x => x.fst) [((110 : Addr), tabObj #[rawInt 98, rawInt 4, .ref c]), (c, oc), (d, W.listOf vs.toArray nn)]) = g := ⟨_, rfl⟩
  have KG : Keeps h₀ g := hg ▸ ground_hid K0 hP0
  have hgn : ∀ b o, b ∉ ([((110 : Addr), tabObj #[rawInt 98, rawInt 4, .ref c]), (c, oc), (d, W.listOf vs.toArray nn)]).map (·.1) → s.heap.get? b = some o → g.get? b = some o := fun b o hb e => hg ▸ hideAll_get _ e hb
  rw [hg] at F' N'
  have X' := X.keeps KG
  have T' := T.keeps KG
  have C1' := C1.keeps KG
  clear X T C1 hg
  have l1 : @LT.lt Nat _ 110 L' ∧ @LT.lt Nat _ c L' ∧ @LT.lt Nat _ d L' := ⟨hlt _ (.head _), hlt _ (.tail _ (.head _)), hlt _ (.tail _ (.tail _ (.head _)))⟩
  have hcv' : vq[1]? = some (.str (qualnameIn (envOfC (ofS "_digits2int") lF8.2.2 L' 115 (.ref 114)) (Str.ofString "inner") (Str.ofString "inner")) tq) := hcv
  have hvl := IntsAre.length hi
  have hdn : @LT.lt Nat _ d 110 ∨ @LT.lt Nat _ 110 d := Nat.lt_or_gt_of_ne fun q => by
    have e1 := hP (110, _) (.head _)
    have e2 := hP (d, W.listOf vs.toArray nn) (by exact .tail _ (.tail _ (.head _)))
    dsimp only at e1 e2
    rw [q, e1] at e2
    cases e2
  have ih := innerD_all w mean mg mb n hn
  k_cells CA
  (try simp only [List.cons_append, List.nil_append] at N')
  (try dsimp only)
  (try k_fold)
  repeat' (first | (k_unfold; (try dsimp only)) | (k_end; kc_close) | (walk1; (try dsimp only)) | (dsimp only; walk1; (try dsimp only)) | (leave1; (try dsimp only)) | fail "no step")
  · (rename Fr _ _ _ _ => fE9); (rename News _ _ _ _ => nE9)
    have hpos : (0 : Int) < (ns.length : Int) := by first | lia | (simp at *; lia)
    refine' inner_callD (ih 7) fE9 nE9 ?mf ?mI ?mA ?mN ?dI ?dA ?dN ?mD X' T' C1' ?dp ?un ?hq hi (Int.le_refl _) hpos (Int.le_refl _) hbig ?hk hd (by lia) ?_
    case mf => k_mem
    case mI => k_mem
    case mA => k_mem
    case mN => k_mem
    case dI => assumption
    case dA => assumption
    case dN => assumption
    case mD => k_mem
    case dp => (dsimp only [arn]; lia)
    case un => (dsimp only [arn]; lia)
    case hq => exact codeRec_news nE9 (by k_mem) (by assumption) (by assumption)
    case hk => (show _ ≤ (128 : Int)); lia
    intro h' tk' y t F' N' y1 y2 y3
    rw [slice_all] at y1
    (try dsimp only at N')
    repeat' (first | (k_unfold; (try dsimp only)) | (k_end; kc_close) | (walk1; (try dsimp only)) | (dsimp only; walk1; (try dsimp only)) | (leave1; (try dsimp only)) | fail "no step")
    rename News _ _ _ _ => nE
    rename Fr _ _ _ _ => fE
    (show Q _ _)
    refine hret _ _ _ _ _ _ (keeps_tab (cs := [(c, oc), (d, W.listOf vs.toArray nn)]) fE hP (fun p hp => by rcases List.mem_cons.mp hp with rfl | hp; exact nE.get (by k_mem); rw [List.mem_singleton.mp hp]; exact nE.get (by k_mem)) hgn) y1 (.inr ⟨_, _, _, _, rfl, rfl, hcd, hcv⟩) (nE.get (by k_mem)) (fun p hp => by rw [List.mem_singleton.mp hp]; exact ⟨nE.get (by k_mem), .inl (.head _)⟩)
  · rename News _ _ _ _ => nE
    rename Fr _ _ _ _ => fE
    (show Q _ _)
    refine hret _ _ _ _ _ _ (keeps_tab (cs := [(c, oc), (d, W.listOf vs.toArray nn)]) fE hP (fun p hp => by rcases List.mem_cons.mp hp with rfl | hp; exact nE.get (by k_mem); rw [List.mem_singleton.mp hp]; exact nE.get (by k_mem)) hgn) (d2i_nil (by first | lia | (simp at *; lia))) (.inr ⟨_, _, _, _, rfl, rfl, hcd, hcv⟩) (nE.get (by k_mem)) (fun p hp => by rw [List.mem_singleton.mp hp]; exact ⟨nE.get (by k_mem), .inl (.head _)⟩)
theorem C_d2i (w : World) (mean : ExcName → Option Value) (mg mb : Str → Option Value) (dp un : Nat) (gd : Option (List Code)) (outer : List Env) (h₀ : Heap) (s : Shared) (Q E : Value → Shared → Prop)
    (ps0 : Array Value) (cs0 : List (Addr × Obj)) (hT : TabP 98 4 qual2 ps0 cs0)
    (d : Addr) (vs : List Value) (ns : List Int) (nn : Nat) (n : Int) (t2 : Tok) (hn : 2 ≤ n ∧ n ≤ 8000) (hi : IntsAre vs ns) (hbig : (ns.length : Int) * n ≤ 1000000) (hK128 : ns.length ≤ 128) (hd : ∀ d ∈ ns, 0 ≤ d ∧ d < 2 ^ n.toNat)
    (X : (KF w.params).In h₀) (T : TopM mean mg mb h₀) (C1 : CodeHd h₀ 114 110) (K0 : Keeps h₀ s.heap) (hdp : dp + 20 < recursionLimit) (hun : un + 60 < cLine)
    (hP : s.heap.get? 110 = some (tabObj ps0)) (hP0 : h₀.get? 110 = none) (hC : ∀ p ∈ cs0, s.heap.get? p.1 = some p.2 ∧ h₀.get? p.1 = none) (hD : s.heap.get? d = some (W.listOf vs.toArray nn)) (hD0 : h₀.get? d = none)
    (hret : ∀ h' tk' y t ps cs, (∀ b o, b ≠ 110 → s.heap.get? b = some o → h'.get? b = some o) → y = undig (2 ^ n.toNat) ns →
      TabP 98 4 qual2 ps cs → h'.get? 110 = some (tabObj ps) → (∀ p ∈ cs, h'.get? p.1 = some p.2 ∧ (p ∈ cs0 ∨ s.heap.get? p.1 = none)) → Q (.int y t) { s with heap := h', toks := tk' }) :
    wpAny (model PW w) (arn dp un gd outer) (call (.ref 115) [.ref d, .int n t2]) Q E s := by
  rcases hT with ⟨rfl, rfl⟩ | ⟨c, oc, vq, tq, rfl, rfl, hcd, hcv⟩
  · refine C_d2i_miss w mean mg mb dp un gd outer h₀ s Q E d vs ns nn n t2 hn hi hbig hK128 hd X T C1 K0 hdp hun (fun p hp => ?_) (fun p hp => ?_) fun h' tk' y t ps cs k1 k2 k3 k4 k5 => hret h' tk' y t ps cs k1 k2 k3 k4 fun p hp => ⟨(k5 p hp).1, .inr (k5 p hp).2⟩
    · rcases List.mem_cons.mp hp with rfl | hp
      · exact hP
      · rw [List.mem_singleton.mp hp]; exact hD
    · rcases List.mem_cons.mp hp with rfl | hp
      · exact hP0
      · rw [List.mem_singleton.mp hp]; exact hD0
  · have hc := hC _ (.head _)
    refine C_d2i_hit w mean mg mb dp un gd outer h₀ s Q E c oc vq tq hcd hcv d vs ns nn n t2 hn hi hbig hK128 hd X T C1 K0 hdp hun (fun p hp => ?_) (fun p hp => ?_) hret
    · rcases List.mem_cons.mp hp with rfl | hp
      · exact hP
      · rcases List.mem_cons.mp hp with rfl | hp
        · exact hc.1
        · rw [List.mem_singleton.mp hp]; exact hD
    · rcases List.mem_cons.mp hp with rfl | hp
      · exact hP0
      · rcases List.mem_cons.mp hp with rfl | hp
        · exact hc.2
        · rw [List.mem_singleton.mp hp]; exact hD0
end Mine
end
section
open PySem PySem.W PyProof.Rows PySem.Calls
namespace Mine
theorem noPy {a b : Int} (h : Builtin.Int.intBits b ≤ 9000) : Builtin.divisionGoesByPylong a b = false := by
  unfold Builtin.divisionGoesByPylong
  have h1 : ¬ ((if (b == 0) = true then 0 else b.natAbs.log2 / 30 + 1) > 300) := by
    unfold Builtin.Int.intBits at h
    split at h
    · rename_i e; rw [if_pos e]; lia
    · rename_i e; rw [if_neg e]; lia
  simp only [decide_eq_false h1, Bool.false_and]
noncomputable abbrev tup2 (q r : Int) (u1 u2 : Tok) : Obj := { cls := .type "tuple", data := .seq #[.int q u1, .int r u2] }
theorem C_21b (w : World) (mean : ExcName → Option Value) (mg mb : Str → Option Value) (dp un : Nat) (gd : Option (List Code)) (outer : List Env) (s : Shared) (Q E : Value → Shared → Prop)
    (a b n : Int) (t1 t2 t3 : Tok) (ha : 0 ≤ a) (hb : 0 < b) (hbb : Builtin.Int.intBits b ≤ 9000) (hn : (Builtin.Int.intBits a : Int) - n ≤ 4000)
    (X : (KF w.params).In s.heap) (T : TopM mean mg mb s.heap) (hdp : dp < recursionLimit) (hun : un + 8 < cLine)
    (hret : ∀ (q r : Int) u1 u2 (t : Addr) h' tk', Keeps s.heap h' → s.heap.get? t = none → h'.get? t = some (tup2 q r u1 u2) → q = a / b → r = a % b → Q (.ref t) { s with heap := h', toks := tk' }) :
    wpAny (model PW w) (arn dp un gd outer) (call (.ref 94) [.int a t1, .int b t2, .int n t3]) Q E s := by
  have hfill : PySem.Challenge.rw_rl0135_01 = PySem.Challenge.rw_rl0135_01 ∧ KF = KF := by k_fill; exact ⟨rfl, rfl⟩
  clear hfill
  w_on
  k_with_none
  refine wpAny_call ?_
  k_dflt (refine' enterP ?k3 ?k5 ?k6 ?k7 ?k8 ?k9 ?kB ?_ ?c5 ?c2 ?c3 ?c4; (case k3 => k_asm); (case k5 => exact T.nolimit); (case k6 => k_is); (case k7 => k_is); (case k8 => exact hdp); (case k9 => exact BindsTo.of_eq rfl); (case kB => exact locs rfl); (case c5 => decide); (case c2 => exact rfl); (case c3 => exact rfl); (case c4 => exact rfl))
  intro L' h' F' N'
  (try dsimp only)
  (try k_fold)
  repeat' (first | (k_unfold; (try dsimp only)) | (k_end; kc_close) | (walk1; (try dsimp only)) | (dsimp only; walk1; (try dsimp only)) | (leave1; (try dsimp only)) | fail "no step")
  refine divmod_N F' N' (by lia) ?_ (.inl (noPy hbb))
  intro h2 F2 N2
  repeat' (first | (k_unfold; (try dsimp only)) | (k_end; kc_close) | (walk1; (try dsimp only)) | (dsimp only; walk1; (try dsimp only)) | (leave1; (try dsimp only)) | fail "no step")
  rename News _ _ _ _ => nE
  rename Fr _ _ _ _ => fE
  refine hret _ _ _ _ _ _ _ (Fr.keep fE) (nE.fresh (List.mem_cons_self ..)) (nE.get (List.mem_cons_self ..)) (Int.fdiv_eq_ediv_of_nonneg _ (Int.le_of_lt hb)) (Int.fmod_eq_emod_of_nonneg _ (Int.le_of_lt hb))
end Mine
end
section
open PySem PySem.W PyProof.Rows PySem.Calls
namespace Mine
structure W32 (A b q r : Int) : Prop where
  e : q * b + r = A
  h : r < b
theorem W32.turn {A b q r : Int} (h : W32 A b q r) (hr : r < 0) : W32 A b (q - 1) (r + b) := ⟨by have := h.e; rw [Int.sub_mul, Int.one_mul]; lia, by lia⟩
theorem bits_lt {x : Int} {m : Nat} (h0 : 0 ≤ x) (h : x < 2 ^ m) : Builtin.Int.intBits x ≤ m := by
  rw [intBits_le_iff]
  have h1 : ((x.natAbs : Nat) : Int) < ((2 ^ m : Nat) : Int) := by
    have e : ((x.natAbs : Nat) : Int) = x := by lia
    have e2 : ((2 ^ m : Nat) : Int) = (2 : Int) ^ m := by simp
    rw [e, e2]; exact h
  exact Int.ofNat_lt.mp h1
theorem bits_lt' {x : Int} {m k : Nat} (h0 : 0 ≤ x) (h : x < 2 ^ m) (hm : m ≤ k) : Builtin.Int.intBits x ≤ k := Nat.le_trans (bits_lt h0 h) hm
section
variable {prog : Program} {w : World} {A : Around} {E : Value → Shared → Prop} {s : Shared} {Q : Value → Shared → Prop} {a b n : Int} {t u : Tok}
theorem r_or {k : Nat} {v : Int} (ha : a = v * 2 ^ k) (hv : 0 ≤ v) (hb : 0 ≤ b) (hb2 : b < 2 ^ k) (h : ∀ y tk, y = v * 2 ^ k + b → Q (.int y tk) { s with toks := s.toks + 1 }) : wpAny (model prog w) A (binaryOp .BitOr (.int a t) (.int b u)) Q E s := by
  refine or_int (h _ _ ?_)
  obtain ⟨m, rfl⟩ : ∃ m : Nat, v = m := ⟨v.toNat, by lia⟩
  obtain ⟨c, rfl⟩ : ∃ c : Nat, b = c := ⟨b.toNat, by lia⟩
  have h1 : c < 2 ^ k := by
    have e2 : ((2 ^ k : Nat) : Int) = (2 : Int) ^ k := by simp
    rw [← e2] at hb2; exact Int.ofNat_lt.mp hb2
  have e : a = ((m * 2 ^ k : Nat) : Int) := by rw [ha]; simp
  rw [e, bitOr_and, bitAnd_pp (by lia) (by lia)]
  simp only [Int.toNat_natCast]
  have h2 : m * 2 ^ k &&& c = 0 := by
    apply Nat.eq_of_testBit_eq
    intro i
    rw [Nat.testBit_and, ← Nat.shiftLeft_eq, Nat.testBit_shiftLeft, Nat.zero_testBit]
    by_cases hi : k ≤ i
    · have : c.testBit i = false := Nat.testBit_lt_two_pow (Nat.lt_of_lt_of_le h1 (Nat.pow_le_pow_right (by decide) hi))
      rw [this, Bool.and_false]
    · simp [hi]
  rw [h2]
  simp
theorem r_and {k : Nat} (ha : 0 ≤ a) (hb : b = 2 ^ k - 1) (h : ∀ y tk, y = a % 2 ^ k → Q (.int y tk) { s with toks := s.toks + 1 }) : wpAny (model prog w) A (binaryOp .BitAnd (.int a t) (.int b u)) Q E s := by
  refine and_int (h _ _ ?_)
  obtain ⟨m, rfl⟩ : ∃ m : Nat, a = m := ⟨a.toNat, by lia⟩
  have hp : 0 < 2 ^ k := Nat.two_pow_pos k
  have e : b = ((2 ^ k - 1 : Nat) : Int) := by
    rw [hb, Int.ofNat_sub hp]; simp
  rw [e, bitAnd_pp (by lia) (by lia)]
  simp only [Int.toNat_natCast]
  rw [Nat.and_two_pow_sub_one_eq_mod]
  simp
end
noncomputable def Apart (t : Addr) : List (Addr × Obj) → Prop
  | [] => True
  | p :: r => (@LT.lt Nat _ p.1 t ∨ @LT.lt Nat _ t p.1) ∧ Apart t r
theorem apart_of {h₀ h : Heap} {L t : Addr} (ht : h.get? t = none) : ∀ {news : List (Addr × Obj)}, News h₀ L h news → Apart t news
  | [], _ => trivial
  | p :: r, N => ⟨Nat.lt_or_gt_of_ne (fun q => by
    have := (N p (.head _)).1
    rw [q, ht] at this
    cases this), apart_of ht fun q hq => N q (.tail _ hq)⟩
theorem news_add {h₀ h h' : Heap} {L t : Addr} {o : Obj} {m : Str → Option Value} {news : List (Addr × Obj)} (F : Fr h₀ L h m) (N : News h₀ L h news) (hk : Keeps h h') (ht : h.get? t = none) (hg : h'.get? t = some o) : News h₀ L h' ((t, o) :: news) := by
  intro p hp
  rcases List.mem_cons.mp hp with rfl | hp
  · refine ⟨hg, fun q => ?_, ?_⟩
    · obtain ⟨oL, es, ep, hL, _⟩ := F.ns
      rw [← q, ht] at hL; cases hL
    · cases e : h₀.get? t with
      | none => rfl
      | some o => have := F.keep _ _ e; rw [ht] at this; cases this
  · exact news_keeps N hk p hp
theorem call_21b {w : World} {mean : ExcName → Option Value} {mg mb : Str → Option Value} {dp un : Nat} {gd : Option (List Code)} {outer : List Env} {g : Heap} {L : Addr} {m : Str → Option Value} {news : List (Addr × Obj)} {s : Shared} {Q E : Value → Shared → Prop}
    {a b n : Int} {t1 t2 t3 : Tok} (F : Fr g L s.heap m) (N : News g L s.heap news) (X : (KF w.params).In g) (T : TopM mean mg mb g) (ha : 0 ≤ a) (hb : 0 < b) (hbb : Builtin.Int.intBits b ≤ 9000) (hn : (Builtin.Int.intBits a : Int) - n ≤ 4000) (hdp : dp < recursionLimit) (hun : un + 8 < cLine)
    (h : ∀ (q r : Int) u1 u2 (t : Addr) h' tk', Fr g L h' m → News g L h' ((t, tup2 q r u1 u2) :: news) → Apart t news → q = a / b → r = a % b → Q (.ref t) { s with heap := h', toks := tk' }) :
    wpAny (model PW w) (arn dp un gd outer) (call (.ref 94) [.int a t1, .int b t2, .int n t3]) Q E s :=
  C_21b w mean mg mb dp un gd outer s Q E a b n t1 t2 t3 ha hb hbb hn (X.keeps F.keep) (T.keeps F.keep) hdp hun fun q r u1 u2 t h' tk' hk ht hg hq hr =>
    h q r u1 u2 t h' tk' (fr_keeps F hk) (news_add F N hk ht hg) (apart_of ht N) hq hr
theorem r1_ok {a12 b1 n y0 y : Int} (hn : 1 ≤ n ∧ n ≤ 4000) (hb1 : 0 < b1 ∧ b1 < 2 ^ n.toNat) (h0 : y0 = a12 / 2 ^ n.toNat) (hc : y0 = b1) (hy : y = b1 * 2 ^ n.toNat) : 0 ≤ a12 - y + b1 ∧ Builtin.Int.intBits (a12 - y + b1) ≤ 8010 := by
  have hp : (0 : Int) < 2 ^ n.toNat := Int.pow_pos (by decide)
  have h1 := Int.emod_add_mul_ediv a12 (2 ^ n.toNat)
  have h2 := Int.emod_nonneg a12 (Int.ne_of_gt hp)
  have h3 := Int.emod_lt_of_pos a12 hp
  rw [← h0, hc, Int.mul_comm, ← hy] at h1
  refine ⟨by lia, bits_lt' (m := n.toNat + 1) (by lia) (by rw [Int.pow_succ]; lia) (by lia)⟩
theorem q1_bits {n y : Int} (hn : 1 ≤ n ∧ n ≤ 4000) (hy : y = 1 * 2 ^ n.toNat) : Builtin.Int.intBits (y - 1) ≤ 8010 := by
  have hp : (0 : Int) < 2 ^ n.toNat := Int.pow_pos (by decide)
  exact bits_lt' (m := n.toNat) (by lia) (by lia) (by lia)
theorem q2_bits {a b q : Int} (hq : q = a / b) (ha : 0 ≤ a) (hb : 0 < b) (h : Builtin.Int.intBits a ≤ 8010) : Builtin.Int.intBits q ≤ 8010 := by
  refine intBits_le_of_natAbs ?_ h
  have h1 : 0 ≤ q := hq ▸ Int.ediv_nonneg ha (Int.le_of_lt hb)
  have h2 : q ≤ a := hq ▸ Int.ediv_le_self _ ha
  lia
theorem r2_ok {a b r : Int} (hr : r = a % b) (hb : 0 < b) (hbb : Builtin.Int.intBits b ≤ 8010) : 0 ≤ r ∧ Builtin.Int.intBits r ≤ 8010 := by
  have h1 := Int.emod_nonneg a (Int.ne_of_gt hb)
  have h2 := Int.emod_lt_of_pos a hb
  exact ⟨hr ▸ h1, intBits_le_of_natAbs (by rw [hr]; lia) hbb⟩
theorem W32.start1 {a12 a3 b b1 b2 n y y1 z : Int} (hb : b = b1 * 2 ^ n.toNat + b2) (ha : 0 ≤ a12 ∧ a12 < b) (ha3 : 0 ≤ a3 ∧ a3 < 2 ^ n.toNat) (hy1 : y1 = 1 * 2 ^ n.toNat) (hy : y = b1 * 2 ^ n.toNat) (hz : z = (a12 - y + b1) * 2 ^ n.toNat + a3) :
    W32 (a12 * 2 ^ n.toNat + a3) b (y1 - 1) (z - (y1 - 1) * b2) := by
  generalize (2 : Int) ^ n.toNat = P at *
  have e : (y1 - 1) * b + (z - (y1 - 1) * b2) = a12 * P + a3 := by subst hz hy hy1 hb; grind
  refine ⟨e, ?_⟩
  have h1 : a12 * P ≤ (b - 1) * P := Int.mul_le_mul_of_nonneg_right (by lia) (by lia)
  have h2 : (y1 - 1) * b = P * b - b := by subst hy1; grind
  have h3 : (b - 1) * P = P * b - P := by grind
  lia
theorem W32.start2 {a12 a3 b b1 b2 n q r z : Int} (hb : b = b1 * 2 ^ n.toNat + b2) (hb2 : 0 ≤ b2 ∧ b2 < 2 ^ n.toNat) (hb1 : 0 < b1 ∧ b1 < 2 ^ n.toNat) (ha : 0 ≤ a12 ∧ a12 < b) (ha3 : 0 ≤ a3 ∧ a3 < 2 ^ n.toNat) (hq : q = a12 / b1) (hr : r = a12 % b1) (hz : z = r * 2 ^ n.toNat + a3) :
    W32 (a12 * 2 ^ n.toNat + a3) b q (z - q * b2) := by
  have h0 := Int.emod_add_mul_ediv a12 b1
  have h1 := Int.emod_lt_of_pos a12 hb1.1
  have hq0 : 0 ≤ q := hq ▸ Int.ediv_nonneg ha.1 (Int.le_of_lt hb1.1)
  rw [← hq, ← hr] at h0
  rw [← hr] at h1
  generalize (2 : Int) ^ n.toNat = P at *
  have e : q * b + (z - q * b2) = a12 * P + a3 := by subst hz hb; grind
  refine ⟨e, ?_⟩
  have h2 : r * P ≤ (b1 - 1) * P := Int.mul_le_mul_of_nonneg_right (by lia) (by lia)
  have h3 : (b1 - 1) * P = b1 * P - P := by grind
  have h4 : 0 ≤ q * b2 := Int.mul_nonneg hq0 hb2.1
  lia
theorem W32.fin {A b q r : Int} (h : W32 A b q r) (hr : ¬ r < 0) : q = A / b ∧ r = A % b := by
  obtain ⟨e, h2⟩ := h
  have h3 : A = r + b * q := by rw [Int.mul_comm b q]; lia
  have h4 : 0 < b := by lia
  constructor
  · rw [h3, Int.add_mul_ediv_left _ _ (Int.ne_of_gt h4), Int.ediv_eq_zero_of_lt (by lia) h2]; lia
  · rw [h3, Int.add_mul_emod_self_left, Int.emod_eq_of_lt (by lia) h2]
theorem C_32 (w : World) (mean : ExcName → Option Value) (mg mb : Str → Option Value) (dp un : Nat) (gd : Option (List Code)) (outer : List Env) (s : Shared) (Q E : Value → Shared → Prop)
    (a12 a3 b b1 b2 n : Int) (t1 t2 t3 t4 t5 t6 : Tok) (hn : 1 ≤ n ∧ n ≤ 4000) (hb : b = b1 * 2 ^ n.toNat + b2) (hb2 : 0 ≤ b2 ∧ b2 < 2 ^ n.toNat) (hb1 : 0 < b1 ∧ b1 < 2 ^ n.toNat) (ha : 0 ≤ a12 ∧ a12 < b) (ha3 : 0 ≤ a3 ∧ a3 < 2 ^ n.toNat)
    (X : (KF w.params).In s.heap) (T : TopM mean mg mb s.heap) (hdp : dp + 1 < recursionLimit) (hun : un + 18 < cLine)
    (hret : ∀ (q r : Int) u1 u2 (t : Addr) h' tk', Keeps s.heap h' → s.heap.get? t = none → h'.get? t = some (tup2 q r u1 u2) → q = (a12 * 2 ^ n.toNat + a3) / b → r = (a12 * 2 ^ n.toNat + a3) % b → Q (.ref t) { s with heap := h', toks := tk' }) :
    wpAny (model PW w) (arn dp un gd outer) (call (.ref 101) [.int a12 t1, .int a3 t2, .int b t3, .int b1 t4, .int b2 t5, .int n t6]) Q E s := by
  have hfill : PySem.Challenge.rw_rl0135_01 = PySem.Challenge.rw_rl0135_01 ∧ KF = KF := by k_fill; exact ⟨rfl, rfl⟩
  clear hfill
  w_on
  k_with_none
  have hb1b : Builtin.Int.intBits b1 ≤ 8010 := bits_lt' (Int.le_of_lt hb1.1) hb1.2 (by lia)
  have hb2b : Builtin.Int.intBits b2 ≤ 8010 := bits_lt' hb2.1 hb2.2 (by lia)
  have hbb : b < 2 ^ (n.toNat + n.toNat) := by
    rw [Int.pow_add, hb]
    have h1 : b1 * 2 ^ n.toNat ≤ (2 ^ n.toNat - 1) * 2 ^ n.toNat := Int.mul_le_mul_of_nonneg_right (by lia) (by lia)
    rw [Int.sub_mul, Int.one_mul] at h1
    lia
  have hab : Builtin.Int.intBits a12 ≤ n.toNat + n.toNat := bits_lt ha.1 (Int.lt_trans ha.2 hbb)
  have hab2 : Builtin.Int.intBits a12 ≤ 8010 := Nat.le_trans hab (by lia)
  have hbp : 0 < b := by lia
  k_with "exec While Compare cons nil" => k_while (fun script q r => W32 (a12 * 2 ^ n.toNat + a3) b q r) (fun script q r => (-r).toNat) "q" "r"
  k_with "state" => first | exact W32.turn (by assumption) (by assumption) | exact W32.start1 (by assumption) (by assumption) (by assumption) (by assumption) (by assumption) (by assumption) | exact W32.start2 (by assumption) (by assumption) (by assumption) (by assumption) (by assumption) (by assumption) (by assumption) (by assumption)
  refine wpAny_call ?_
  k_dflt (refine' enterP ?k3 ?k5 ?k6 ?k7 ?k8 ?k9 ?kB ?_ ?c5 ?c2 ?c3 ?c4; (case k3 => k_asm); (case k5 => exact T.nolimit); (case k6 => k_is); (case k7 => k_is); (case k8 => (show dp < _; lia)); (case k9 => exact BindsTo.of_eq rfl); (case kB => exact locs rfl); (case c5 => decide); (case c2 => exact rfl); (case c3 => exact rfl); (case c4 => exact rfl))
  intro L' h' F' N'
  (try dsimp only)
  (try k_fold)
  repeat' (first | ((with_reducible show wpAny _ _ (binaryOp Operator.Mult (Value.int _ _) (Value.int _ _)) _ _ _); refine mul_int ?_ (by exact IntMulOk.of_le (m := 8010) (n := 8010) (by first | exact q1_bits ‹_› ‹_› | exact q2_bits ‹_› (by lia) (by lia) ‹_›) ‹_› (by decide))) | ((with_reducible show wpAny _ _ (inplaceOp Operator.Mult (Value.int _ _) (Value.int _ _)) _ _ _); refine imul_int ?_ (by exact IntMulOk.of_le (m := 8010) (n := 8010) (by first | exact q1_bits ‹_› ‹_› | exact q2_bits ‹_› (by lia) (by lia) ‹_›) ‹_› (by decide))) | ((with_reducible show wpAny _ _ (call (Value.ref _) _) _ _ _); (rename Fr _ _ _ _ => fE9); (rename News _ _ _ _ => nE9); (refine call_21b fE9 nE9 ‹_› ‹_› (by lia) (by lia) (by refine Nat.le_trans ‹_› ?_; decide) (by lia) (by dsimp only [arn]; lia) (by dsimp only [arn]; lia) ?_); intro _ _ _ _ _ _ _ _ _ _ _ _) | ((with_reducible show wpAny _ _ (binaryOp Operator.BitOr (Value.int _ _) (Value.int _ _)) _ _ _); (refine r_or ‹_› (by first | exact (r1_ok ‹_› ‹_› ‹_› ‹_› ‹_›).1 | exact (r2_ok ‹_› (by lia) ‹_›).1) (by lia) (by lia) ?_); intro _ _ _) | ((with_reducible show wpAny _ _ (binaryOp Operator.LShift (Value.int _ _) (Value.int _ _)) _ _ _); (refine r_lshift (m := 8010) (by lia) (by first | assumption | decide | exact (r1_ok ‹_› ‹_› ‹_› ‹_› ‹_›).2 | exact (r2_ok ‹_› (by lia) ‹_›).2) (by lia) ?_); intro _ _ _) | ((with_reducible show wpAny _ _ (binaryOp Operator.RShift (Value.int _ _) (Value.int _ _)) _ _ _); (refine r_rshift (by lia) ?_); intro _ _ _) | (k_unfold; (try dsimp only)) | (k_end; kc_close) | (walk1; (try dsimp only)) | (dsimp only; walk1; (try dsimp only)) | (leave1; (try dsimp only)) | fail "no step")
  all_goals
    rename News _ _ _ _ => nE
    rename Fr _ _ _ _ => fE
    rename W32 _ _ _ _ => hW
    have hf := W32.fin hW (by assumption)
    exact hret _ _ _ _ _ _ _ (Fr.keep fE) (nE.fresh (List.mem_cons_self ..)) (nE.get (List.mem_cons_self ..)) hf.1 hf.2
end Mine
end
section
open PySem PySem.W PyProof.Rows PySem.Calls
namespace Mine
section
variable {prog : Program} {w : World} {A : Around} {E : Value → Shared → Prop} {s : Shared} {Q : Value → Shared → Prop} {a b n : Int} {t u : Tok}
theorem r_rshift1 (h : ∀ y tk, y = a / 2 → Q (.int y tk) { s with toks := s.toks + 1 }) : wpAny (model prog w) A (binaryOp .RShift (.int a t) (.int 1 u)) Q E s :=
  r_rshift (by decide) fun y tk hy => h y tk (by rw [hy]; rfl)
theorem r_irshift1 (h : ∀ y tk, y = a / 2 → Q (.int y tk) { s with toks := s.toks + 1 }) : wpAny (model prog w) A (inplaceOp .RShift (.int a t) (.int 1 u)) Q E s :=
  irshift_int (by decide) (h _ _ (Int.fdiv_eq_ediv_of_nonneg _ (by decide)))
theorem r_ilshift1 {m : Nat} (hm : Builtin.Int.intBits a ≤ m) (hb : m ≤ 134217720) (h : ∀ y tk, y = a * 2 → Q (.int y tk) { s with toks := s.toks + 1 }) : wpAny (model prog w) A (inplaceOp .LShift (.int a t) (.int 1 u)) Q E s :=
  ilshift_int (by decide) (by have : (2 : Int) ^ 27 = 134217728 := by decide
                              lia) (h _ _ rfl)
theorem r_and1 {c : Int} (hc : a % 2 = c) (h : ∀ tk, Q (.int c tk) { s with toks := s.toks + 1 }) : wpAny (model prog w) A (binaryOp .BitAnd (.int a t) (.int 1 u)) Q E s :=
  and_int (by rw [bitAnd_m1, hc]; exact h _)
theorem r_and2 {k : Nat} {v : Int} (hv : v = 1 * 2 ^ k) (ha : 0 ≤ a) (h : ∀ y tk, y = a % 2 ^ k → Q (.int y tk) { s with toks := s.toks + 1 }) : wpAny (model prog w) A (binaryOp .BitAnd (.int a t) (.int (v - 1) u)) Q E s :=
  r_and ha (by rw [hv, Int.one_mul]) h
end
theorem call_32 {w : World} {mean : ExcName → Option Value} {mg mb : Str → Option Value} {dp un : Nat} {gd : Option (List Code)} {outer : List Env} {g : Heap} {L : Addr} {m : Str → Option Value} {news : List (Addr × Obj)} {s : Shared} {Q E : Value → Shared → Prop}
    {a12 a3 b b1 b2 n : Int} {t1 t2 t3 t4 t5 t6 : Tok} (F : Fr g L s.heap m) (N : News g L s.heap news) (X : (KF w.params).In g) (T : TopM mean mg mb g) (hn : 1 ≤ n ∧ n ≤ 4000) (hb : b = b1 * 2 ^ n.toNat + b2) (hb2 : 0 ≤ b2 ∧ b2 < 2 ^ n.toNat) (hb1 : 0 < b1 ∧ b1 < 2 ^ n.toNat) (ha : 0 ≤ a12 ∧ a12 < b) (ha3 : 0 ≤ a3 ∧ a3 < 2 ^ n.toNat)
    (hdp : dp + 1 < recursionLimit) (hun : un + 18 < cLine)
    (h : ∀ (q r : Int) u1 u2 (t : Addr) h' tk', Fr g L h' m → News g L h' ((t, tup2 q r u1 u2) :: news) → Apart t news → q = (a12 * 2 ^ n.toNat + a3) / b → r = (a12 * 2 ^ n.toNat + a3) % b → Q (.ref t) { s with heap := h', toks := tk' }) :
    wpAny (model PW w) (arn dp un gd outer) (call (.ref 101) [.int a12 t1, .int a3 t2, .int b t3, .int b1 t4, .int b2 t5, .int n t6]) Q E s :=
  C_32 w mean mg mb dp un gd outer s Q E a12 a3 b b1 b2 n t1 t2 t3 t4 t5 t6 hn hb hb2 hb1 ha ha3 (X.keeps F.keep) (T.keeps F.keep) hdp hun fun q r u1 u2 t h' tk' hk ht hg hq hr =>
    h q r u1 u2 t h' tk' (fr_keeps F hk) (news_add F N hk ht hg) (apart_of ht N) hq hr
theorem d1 {b b1 b2 P : Int} (h1 : b1 = b / P) (h2 : b2 = b % P) : b = b1 * P + b2 := by
  have := Int.emod_add_mul_ediv b P
  rw [h1, h2, Int.mul_comm]; lia
theorem d2 {b b2 : Int} {k : Nat} (h2 : b2 = b % 2 ^ k) : 0 ≤ b2 ∧ b2 < 2 ^ k := by
  have hp : (0 : Int) < 2 ^ k := Int.pow_pos (by decide)
  subst h2
  exact ⟨Int.emod_nonneg _ (Int.ne_of_gt hp), Int.emod_lt_of_pos _ hp⟩
theorem pow_two {n h : Int} (h0 : 0 ≤ h) (hn : n = h + h) : (2 : Int) ^ n.toNat = 2 ^ h.toNat * 2 ^ h.toNat := by
  rw [← Int.pow_add]; congr 1; lia
theorem d3 {b b1 n h : Int} (h1 : b1 = b / 2 ^ h.toNat) (h0 : 1 ≤ h) (hn : n = h + h) (hlo : 2 ^ (n.toNat - 1) ≤ b) (hhi : b < 2 ^ n.toNat) : 0 < b1 ∧ b1 < 2 ^ h.toNat := by
  have hp : (0 : Int) < 2 ^ h.toNat := Int.pow_pos (by decide)
  have e : (2 : Int) ^ (n.toNat - 1) = 2 ^ h.toNat * 2 ^ (h.toNat - 1) := by rw [← Int.pow_add]; congr 1; lia
  have hq : (0 : Int) < 2 ^ (h.toNat - 1) := Int.pow_pos (by decide)
  subst h1
  constructor
  · have : (2 : Int) ^ (h.toNat - 1) ≤ b / 2 ^ h.toNat := by
      rw [e, Int.mul_comm] at hlo
      exact Int.le_ediv_of_mul_le hp hlo
    lia
  · rw [pow_two (by lia) hn] at hhi
    exact Int.ediv_lt_of_lt_mul hp hhi
theorem d4 {a a12 b n : Int} (h1 : a12 = a / 2 ^ n.toNat) (ha : 0 ≤ a) (hlt : a < b * 2 ^ n.toNat) : 0 ≤ a12 ∧ a12 < b := by
  have hp : (0 : Int) < 2 ^ n.toNat := Int.pow_pos (by decide)
  subst h1
  exact ⟨Int.ediv_nonneg ha (Int.le_of_lt hp), Int.ediv_lt_of_lt_mul hp hlt⟩
theorem d4r {x r b : Int} (h : r = x % b) (hb : 0 < b) : 0 ≤ r ∧ r < b := by
  subst h
  exact ⟨Int.emod_nonneg _ (Int.ne_of_gt hb), Int.emod_lt_of_pos _ hb⟩
/-- the two steps together -/
theorem d_fin {a b n h a12 x a3 a4 q1 r1 q2 r2 : Int} (h0 : 0 ≤ h) (hn : n = h + h) (ha : 0 ≤ a) (hb : 0 < b) (hlt : a < b * 2 ^ n.toNat) (e1 : a12 = a / 2 ^ n.toNat) (e2 : x = a / 2 ^ h.toNat) (e3 : a3 = x % 2 ^ h.toNat) (e4 : a4 = a % 2 ^ h.toNat)
    (f1 : q1 = (a12 * 2 ^ h.toNat + a3) / b) (f2 : r1 = (a12 * 2 ^ h.toNat + a3) % b) (f3 : q2 = (r1 * 2 ^ h.toNat + a4) / b) (f4 : r2 = (r1 * 2 ^ h.toNat + a4) % b) :
    q1 * 2 ^ h.toNat + q2 = a / b ∧ r2 = a % b ∧ (0 ≤ q1 ∧ q1 < 2 ^ h.toNat) ∧ (0 ≤ q2 ∧ q2 < 2 ^ h.toNat) := by
  have hp : (0 : Int) < 2 ^ h.toNat := Int.pow_pos (by decide)
  rw [pow_two h0 hn] at e1 hlt
  generalize (2 : Int) ^ h.toNat = P at *
  have g1 : a12 = a / P / P := by rw [e1, Int.ediv_ediv_of_nonneg (Int.le_of_lt hp)]
  have g2 := Int.emod_add_mul_ediv x P
  have g3 : a12 * P + a3 = x := by rw [g1, e3, ← e2, Int.mul_comm]; lia
  have g4 := Int.emod_add_mul_ediv a P
  rw [← e2, ← e4] at g4
  rw [g3] at f1 f2
  have g5 := Int.emod_add_mul_ediv x b
  rw [← f1, ← f2] at g5
  have hr1 := d4r f2 hb
  have ha4 : 0 ≤ a4 ∧ a4 < P := by subst e4; exact ⟨Int.emod_nonneg _ (Int.ne_of_gt hp), Int.emod_lt_of_pos _ hp⟩
  have g6 := Int.emod_add_mul_ediv (r1 * P + a4) b
  rw [← f3, ← f4] at g6
  have hr2 := d4r f4 hb
  have k0 : 0 ≤ r1 * P := Int.mul_nonneg hr1.1 (Int.le_of_lt hp)
  have g7 : a = r2 + b * (q1 * P + q2) := by
    have : a = a4 + P * (r1 + b * q1) := by rw [g5]; lia
    rw [this]
    have : a4 + P * (r1 + b * q1) = (r1 * P + a4) + b * (q1 * P) := by grind
    rw [this, ← g6]
    grind
  have k1 : q2 < P := by
    rw [f3]
    refine Int.ediv_lt_of_lt_mul hb ?_
    have : r1 * P ≤ (b - 1) * P := Int.mul_le_mul_of_nonneg_right (by lia) (Int.le_of_lt hp)
    rw [Int.sub_mul, Int.one_mul] at this
    rw [Int.mul_comm P b]
    lia
  have k2 : 0 ≤ q2 := f3 ▸ Int.ediv_nonneg (by lia) (Int.le_of_lt hb)
  have k3 : 0 ≤ x := e2 ▸ Int.ediv_nonneg ha (Int.le_of_lt hp)
  have k4 : 0 ≤ q1 := f1 ▸ Int.ediv_nonneg k3 (Int.le_of_lt hb)
  have k5 : q1 < P := by
    rw [f1]
    refine Int.ediv_lt_of_lt_mul hb ?_
    rw [e2]
    refine Int.ediv_lt_of_lt_mul hp ?_
    rw [Int.mul_comm P b, Int.mul_assoc]; exact hlt
  refine ⟨?_, ?_, ⟨k4, k5⟩, ⟨k2, k1⟩⟩
  · rw [g7, Int.add_mul_ediv_left _ _ (Int.ne_of_gt hb), Int.ediv_eq_zero_of_lt hr2.1 hr2.2]; lia
  · rw [g7, Int.add_mul_emod_self_left, Int.emod_eq_of_lt hr2.1 hr2.2]
theorem odd_fin {a b a' b' q r r' : Int} (ha : a' = a * 2) (hb : b' = b * 2) (hq : q = a' / b') (hr : r = a' % b') (hr' : r' = r / 2) : q = a / b ∧ r' = a % b := by
  subst ha hb hq hr hr'
  constructor
  · rw [Int.mul_ediv_mul_of_pos_left _ _ (by decide)]
  · rw [Int.mul_comm a 2, Int.mul_comm b 2, Int.mul_emod_mul_of_pos _ _ (by decide), Int.mul_ediv_cancel_left _ (by decide)]
theorem div_nn {y a : Int} {k : Nat} (h : y = a / 2 ^ k) (ha : 0 ≤ a) : 0 ≤ y := h ▸ Int.ediv_nonneg ha (Int.le_of_lt (Int.pow_pos (by decide)))
theorem C_21e (w : World) (mean : ExcName → Option Value) (mg mb : Str → Option Value) (dp un : Nat) (gd : Option (List Code)) (outer : List Env) (s : Shared) (Q E : Value → Shared → Prop)
    (a b n : Int) (t1 t2 t3 : Tok) (ha : 0 ≤ a) (hn : 2 ≤ n ∧ n ≤ 7990) (hpar : n % 2 = 0) (hlo : 2 ^ (n.toNat - 1) ≤ b) (hhi : b < 2 ^ n.toNat) (hlt : a < b * 2 ^ n.toNat) (hlim : ¬ (Builtin.Int.intBits a : Int) - n ≤ 4000) (hab : Builtin.Int.intBits a ≤ 100000) (hbb : Builtin.Int.intBits b ≤ 100000)
    (X : (KF w.params).In s.heap) (T : TopM mean mg mb s.heap) (hdp : dp + 2 < recursionLimit) (hun : un + 28 < cLine)
    (hret : ∀ (q r : Int) u1 u2 (t : Addr) h' tk', Keeps s.heap h' → s.heap.get? t = none → h'.get? t = some (tup2 q r u1 u2) → q = a / b → r = a % b → Q (.ref t) { s with heap := h', toks := tk' }) :
    wpAny (model PW w) (arn dp un gd outer) (call (.ref 94) [.int a t1, .int b t2, .int n t3]) Q E s := by
  have hfill : PySem.Challenge.rw_rl0135_01 = PySem.Challenge.rw_rl0135_01 ∧ KF = KF := by k_fill; exact ⟨rfl, rfl⟩
  clear hfill
  w_on
  k_with_none
  have hbpos : 0 < b := Int.lt_of_lt_of_le (Int.pow_pos (by decide)) hlo
  refine wpAny_call ?_
  k_dflt (refine' enterP ?k3 ?k5 ?k6 ?k7 ?k8 ?k9 ?kB ?_ ?c5 ?c2 ?c3 ?c4; (case k3 => k_asm); (case k5 => exact T.nolimit); (case k6 => k_is); (case k7 => k_is); (case k8 => (show dp < _; lia)); (case k9 => exact BindsTo.of_eq rfl); (case kB => exact locs rfl); (case c5 => decide); (case c2 => exact rfl); (case c3 => exact rfl); (case c4 => exact rfl))
  intro L' h' F' N'
  (try dsimp only)
  (try k_fold)
  repeat' (first | ((with_reducible show wpAny _ _ (binaryOp Operator.RShift (Value.int _ _) (Value.int _ _)) _ _ _); first | (with_reducible refine r_rshift1 ?_; intro _ _ _) | (with_reducible refine r_rshift (by lia) ?_; intro _ _ _)) | ((with_reducible show wpAny _ _ (binaryOp Operator.BitAnd (Value.int _ _) (Value.int _ _)) _ _ _); first | ((with_reducible refine r_and1 ‹_› ?_); intro _) | ((with_reducible refine r_and2 ‹_› (by first | lia | exact div_nn ‹_› (by lia)) ?_); intro _ _ _)) | ((with_reducible show wpAny _ _ (binaryOp Operator.BitOr (Value.int _ _) (Value.int _ _)) _ _ _); (refine r_or ‹_› (by lia) (by lia) (by lia) ?_); intro _ _ _) | ((with_reducible show wpAny _ _ (binaryOp Operator.LShift (Value.int _ _) (Value.int _ _)) _ _ _); (refine r_lshift (m := 8010) (by lia) (by first | decide | assumption) (by lia) ?_); intro _ _ _) | ((with_reducible show wpAny _ _ (inplaceOp Operator.LShift (Value.int _ _) (Value.int _ _)) _ _ _); (refine r_ilshift1 (m := 100000) ‹_› (by decide) ?_); intro _ _ _) | ((with_reducible show wpAny _ _ (inplaceOp Operator.RShift (Value.int _ _) (Value.int _ _)) _ _ _); (refine r_irshift1 ?_; intro _ _ _)) | (k_unfold; (try dsimp only)) | (k_end; kc_close) | (walk1; (try dsimp only)) | (dsimp only; walk1; (try dsimp only)) | (leave1; (try dsimp only)) | fail "no step")
  all_goals (first | (exfalso; lia) | skip)
  (rename Fr _ _ _ _ => fE9); (rename News _ _ _ _ => nE9)
  rename _ = (n) / 2 => hh
  have hh2 : n = ((n) / 2) + ((n) / 2) := by lia
  rw [← hh] at hh2
  refine' call_32 fE9 nE9 X T ⟨by lia, by lia⟩ (d1 (by assumption) (by assumption)) (d2 (by assumption)) (d3 (by assumption) (by lia) hh2 hlo hhi) (d4 (by assumption) (by lia) hlt) (d2 (by assumption)) ?dp ?un ?_
  case dp => (dsimp only [arn]; lia)
  case un => (dsimp only [arn]; lia)
  intro q1 r1 u1 u2 tA hA tkA F2 N2 A2 hq1 hr1
  repeat' (first | ((with_reducible show wpAny _ _ (binaryOp Operator.RShift (Value.int _ _) (Value.int _ _)) _ _ _); first | (with_reducible refine r_rshift1 ?_; intro _ _ _) | (with_reducible refine r_rshift (by lia) ?_; intro _ _ _)) | ((with_reducible show wpAny _ _ (binaryOp Operator.BitAnd (Value.int _ _) (Value.int _ _)) _ _ _); first | ((with_reducible refine r_and1 ‹_› ?_); intro _) | ((with_reducible refine r_and2 ‹_› (by first | lia | exact div_nn ‹_› (by lia)) ?_); intro _ _ _)) | ((with_reducible show wpAny _ _ (binaryOp Operator.BitOr (Value.int _ _) (Value.int _ _)) _ _ _); (refine r_or ‹_› (by lia) (by lia) (by lia) ?_); intro _ _ _) | ((with_reducible show wpAny _ _ (binaryOp Operator.LShift (Value.int _ _) (Value.int _ _)) _ _ _); (refine r_lshift (m := 8010) (by lia) (by first | decide | assumption) (by lia) ?_); intro _ _ _) | ((with_reducible show wpAny _ _ (inplaceOp Operator.LShift (Value.int _ _) (Value.int _ _)) _ _ _); (refine r_ilshift1 (m := 100000) ‹_› (by decide) ?_); intro _ _ _) | ((with_reducible show wpAny _ _ (inplaceOp Operator.RShift (Value.int _ _) (Value.int _ _)) _ _ _); (refine r_irshift1 ?_; intro _ _ _)) | (k_unfold; (try dsimp only)) | (k_end; kc_close) | (walk1; (try dsimp only)) | (dsimp only; walk1; (try dsimp only)) | (leave1; (try dsimp only)) | fail "no step")
  all_goals (first | (exfalso; lia) | skip)
  (rename Fr _ _ _ _ => fE9); (rename News _ _ _ _ => nE9)
  refine' call_32 fE9 nE9 X T ⟨by lia, by lia⟩ (d1 (by assumption) (by assumption)) (d2 (by assumption)) (d3 (by assumption) (by lia) hh2 hlo hhi) (d4r hr1 (by lia)) (d2 (by assumption)) ?dp ?un ?_
  case dp => (dsimp only [arn]; lia)
  case un => (dsimp only [arn]; lia)
  intro q2 r2 u3 u4 tB hB tkB F3 N3 A3 hq2 hr2
  obtain ⟨k1, k2, k3, k4⟩ := d_fin (by lia) hh2 (by lia) (by lia) hlt (by assumption) (by assumption) (by assumption) (by assumption) hq1 hr1 hq2 hr2
  have k5 := bits_lt' (k := 8010) k3.1 k3.2 (by lia)
  repeat' (first | ((with_reducible show wpAny _ _ (binaryOp Operator.RShift (Value.int _ _) (Value.int _ _)) _ _ _); first | (with_reducible refine r_rshift1 ?_; intro _ _ _) | (with_reducible refine r_rshift (by lia) ?_; intro _ _ _)) | ((with_reducible show wpAny _ _ (binaryOp Operator.BitAnd (Value.int _ _) (Value.int _ _)) _ _ _); first | ((with_reducible refine r_and1 ‹_› ?_); intro _) | ((with_reducible refine r_and2 ‹_› (by first | lia | exact div_nn ‹_› (by lia)) ?_); intro _ _ _)) | ((with_reducible show wpAny _ _ (binaryOp Operator.BitOr (Value.int _ _) (Value.int _ _)) _ _ _); (refine r_or ‹_› (by lia) (by lia) (by lia) ?_); intro _ _ _) | ((with_reducible show wpAny _ _ (binaryOp Operator.LShift (Value.int _ _) (Value.int _ _)) _ _ _); (refine r_lshift (m := 8010) (by lia) (by first | decide | assumption) (by lia) ?_); intro _ _ _) | ((with_reducible show wpAny _ _ (inplaceOp Operator.LShift (Value.int _ _) (Value.int _ _)) _ _ _); (refine r_ilshift1 (m := 100000) ‹_› (by decide) ?_); intro _ _ _) | ((with_reducible show wpAny _ _ (inplaceOp Operator.RShift (Value.int _ _) (Value.int _ _)) _ _ _); (refine r_irshift1 ?_; intro _ _ _)) | (k_unfold; (try dsimp only)) | (k_end; kc_close) | (walk1; (try dsimp only)) | (dsimp only; walk1; (try dsimp only)) | (leave1; (try dsimp only)) | fail "no step")
  all_goals (first | (exfalso; lia) | skip)
  (rename News _ _ _ _ => nE); (rename Fr _ _ _ _ => fE)
  rename _ = q1 * _ + q2 => hyf
  exact hret _ _ _ _ _ _ _ (Fr.keep fE) (nE.fresh (List.mem_cons_self ..)) (nE.get (List.mem_cons_self ..)) (hyf.trans k1) k2
theorem C_21o (w : World) (mean : ExcName → Option Value) (mg mb : Str → Option Value) (dp un : Nat) (gd : Option (List Code)) (outer : List Env) (s : Shared) (Q E : Value → Shared → Prop)
    (a b n : Int) (t1 t2 t3 : Tok) (ha : 0 ≤ a) (hn : 2 ≤ n ∧ n ≤ 7990) (hpar : n % 2 = 1) (hlo : 2 ^ (n.toNat - 1) ≤ b) (hhi : b < 2 ^ n.toNat) (hlt : a < b * 2 ^ n.toNat) (hlim : ¬ (Builtin.Int.intBits a : Int) - n ≤ 4000) (hab : Builtin.Int.intBits a ≤ 100000) (hbb : Builtin.Int.intBits b ≤ 100000)
    (X : (KF w.params).In s.heap) (T : TopM mean mg mb s.heap) (hdp : dp + 2 < recursionLimit) (hun : un + 28 < cLine)
    (hret : ∀ (q r : Int) u1 u2 (t : Addr) h' tk', Keeps s.heap h' → s.heap.get? t = none → h'.get? t = some (tup2 q r u1 u2) → q = a / b → r = a % b → Q (.ref t) { s with heap := h', toks := tk' }) :
    wpAny (model PW w) (arn dp un gd outer) (call (.ref 94) [.int a t1, .int b t2, .int n t3]) Q E s := by
  have hfill : PySem.Challenge.rw_rl0135_01 = PySem.Challenge.rw_rl0135_01 ∧ KF = KF := by k_fill; exact ⟨rfl, rfl⟩
  clear hfill
  w_on
  k_with_none
  have hbpos : 0 < b := Int.lt_of_lt_of_le (Int.pow_pos (by decide)) hlo
  have F1 : ∀ b', b' = b * 2 → 2 ^ ((n + 1).toNat - 1) ≤ b' ∧ b' < 2 ^ (n + 1).toNat := fun b' hb' => by
    have e1 : (n + 1).toNat - 1 = (n.toNat - 1) + 1 := by lia
    have e2 : (n + 1).toNat = n.toNat + 1 := by lia
    rw [e1, e2, Int.pow_succ, Int.pow_succ]
    lia
  have F2 : ∀ a' b', a' = a * 2 → b' = b * 2 → a' < b' * 2 ^ (n + 1).toNat := fun a' b' ha' hb' => by
    have e2 : (n + 1).toNat = n.toNat + 1 := by lia
    rw [e2, Int.pow_succ, ha', hb']
    have hp : (0 : Int) < 2 ^ n.toNat := Int.pow_pos (by decide)
    have h1 : 0 ≤ b * 2 ^ n.toNat := Int.mul_nonneg (by lia) (Int.le_of_lt hp)
    have h2 : b * 2 * (2 ^ n.toNat * 2) = b * 2 ^ n.toNat * 4 := by grind
    rw [h2]
    lia
  refine wpAny_call ?_
  k_dflt (refine' enterP ?k3 ?k5 ?k6 ?k7 ?k8 ?k9 ?kB ?_ ?c5 ?c2 ?c3 ?c4; (case k3 => k_asm); (case k5 => exact T.nolimit); (case k6 => k_is); (case k7 => k_is); (case k8 => (show dp < _; lia)); (case k9 => exact BindsTo.of_eq rfl); (case kB => exact locs rfl); (case c5 => decide); (case c2 => exact rfl); (case c3 => exact rfl); (case c4 => exact rfl))
  intro L' h' F' N'
  (try dsimp only)
  (try k_fold)
  repeat' (first | ((with_reducible show wpAny _ _ (binaryOp Operator.RShift (Value.int _ _) (Value.int _ _)) _ _ _); first | (with_reducible refine r_rshift1 ?_; intro _ _ _) | (with_reducible refine r_rshift (by lia) ?_; intro _ _ _)) | ((with_reducible show wpAny _ _ (binaryOp Operator.BitAnd (Value.int _ _) (Value.int _ _)) _ _ _); first | ((with_reducible refine r_and1 ‹_› ?_); intro _) | ((with_reducible refine r_and2 ‹_› (by first | lia | exact div_nn ‹_› (by lia)) ?_); intro _ _ _)) | ((with_reducible show wpAny _ _ (binaryOp Operator.BitOr (Value.int _ _) (Value.int _ _)) _ _ _); (refine r_or ‹_› (by lia) (by lia) (by lia) ?_); intro _ _ _) | ((with_reducible show wpAny _ _ (binaryOp Operator.LShift (Value.int _ _) (Value.int _ _)) _ _ _); (refine r_lshift (m := 8010) (by lia) (by first | decide | assumption) (by lia) ?_); intro _ _ _) | ((with_reducible show wpAny _ _ (inplaceOp Operator.LShift (Value.int _ _) (Value.int _ _)) _ _ _); (refine r_ilshift1 (m := 100000) ‹_› (by decide) ?_); intro _ _ _) | ((with_reducible show wpAny _ _ (inplaceOp Operator.RShift (Value.int _ _) (Value.int _ _)) _ _ _); (refine r_irshift1 ?_; intro _ _ _)) | (k_unfold; (try dsimp only)) | (k_end; kc_close) | (walk1; (try dsimp only)) | (dsimp only; walk1; (try dsimp only)) | (leave1; (try dsimp only)) | fail "no step")
  all_goals (first | (exfalso; lia) | skip)
  (rename Fr _ _ _ _ => fE9); (rename News _ _ _ _ => nE9)
  rename _ = (n + 1) / 2 => hh
  rename _ = a * 2 => ea
  rename _ = b * 2 => eb
  have hh2 : n + 1 = ((n + 1) / 2) + ((n + 1) / 2) := by lia
  rw [← hh] at hh2
  refine' call_32 fE9 nE9 X T ⟨by lia, by lia⟩ (d1 (by assumption) (by assumption)) (d2 (by assumption)) (d3 (by assumption) (by lia) hh2 (F1 _ eb).1 (F1 _ eb).2) (d4 (by assumption) (by lia) (F2 _ _ ea eb)) (d2 (by assumption)) ?dp ?un ?_
  case dp => (dsimp only [arn]; lia)
  case un => (dsimp only [arn]; lia)
  intro q1 r1 u1 u2 tA hA tkA F2 N2 A2 hq1 hr1
  repeat' (first | ((with_reducible show wpAny _ _ (binaryOp Operator.RShift (Value.int _ _) (Value.int _ _)) _ _ _); first | (with_reducible refine r_rshift1 ?_; intro _ _ _) | (with_reducible refine r_rshift (by lia) ?_; intro _ _ _)) | ((with_reducible show wpAny _ _ (binaryOp Operator.BitAnd (Value.int _ _) (Value.int _ _)) _ _ _); first | ((with_reducible refine r_and1 ‹_› ?_); intro _) | ((with_reducible refine r_and2 ‹_› (by first | lia | exact div_nn ‹_› (by lia)) ?_); intro _ _ _)) | ((with_reducible show wpAny _ _ (binaryOp Operator.BitOr (Value.int _ _) (Value.int _ _)) _ _ _); (refine r_or ‹_› (by lia) (by lia) (by lia) ?_); intro _ _ _) | ((with_reducible show wpAny _ _ (binaryOp Operator.LShift (Value.int _ _) (Value.int _ _)) _ _ _); (refine r_lshift (m := 8010) (by lia) (by first | decide | assumption) (by lia) ?_); intro _ _ _) | ((with_reducible show wpAny _ _ (inplaceOp Operator.LShift (Value.int _ _) (Value.int _ _)) _ _ _); (refine r_ilshift1 (m := 100000) ‹_› (by decide) ?_); intro _ _ _) | ((with_reducible show wpAny _ _ (inplaceOp Operator.RShift (Value.int _ _) (Value.int _ _)) _ _ _); (refine r_irshift1 ?_; intro _ _ _)) | (k_unfold; (try dsimp only)) | (k_end; kc_close) | (walk1; (try dsimp only)) | (dsimp only; walk1; (try dsimp only)) | (leave1; (try dsimp only)) | fail "no step")
  all_goals (first | (exfalso; lia) | skip)
  (rename Fr _ _ _ _ => fE9); (rename News _ _ _ _ => nE9)
  refine' call_32 fE9 nE9 X T ⟨by lia, by lia⟩ (d1 (by assumption) (by assumption)) (d2 (by assumption)) (d3 (by assumption) (by lia) hh2 (F1 _ eb).1 (F1 _ eb).2) (d4r hr1 (by lia)) (d2 (by assumption)) ?dp ?un ?_
  case dp => (dsimp only [arn]; lia)
  case un => (dsimp only [arn]; lia)
  intro q2 r2 u3 u4 tB hB tkB F3 N3 A3 hq2 hr2
  obtain ⟨k1, k2, k3, k4⟩ := d_fin (by lia) hh2 (by lia) (by lia) (F2 _ _ ea eb) (by assumption) (by assumption) (by assumption) (by assumption) hq1 hr1 hq2 hr2
  have k5 := bits_lt' (k := 8010) k3.1 k3.2 (by lia)
  repeat' (first | ((with_reducible show wpAny _ _ (binaryOp Operator.RShift (Value.int _ _) (Value.int _ _)) _ _ _); first | (with_reducible refine r_rshift1 ?_; intro _ _ _) | (with_reducible refine r_rshift (by lia) ?_; intro _ _ _)) | ((with_reducible show wpAny _ _ (binaryOp Operator.BitAnd (Value.int _ _) (Value.int _ _)) _ _ _); first | ((with_reducible refine r_and1 ‹_› ?_); intro _) | ((with_reducible refine r_and2 ‹_› (by first | lia | exact div_nn ‹_› (by lia)) ?_); intro _ _ _)) | ((with_reducible show wpAny _ _ (binaryOp Operator.BitOr (Value.int _ _) (Value.int _ _)) _ _ _); (refine r_or ‹_› (by lia) (by lia) (by lia) ?_); intro _ _ _) | ((with_reducible show wpAny _ _ (binaryOp Operator.LShift (Value.int _ _) (Value.int _ _)) _ _ _); (refine r_lshift (m := 8010) (by lia) (by first | decide | assumption) (by lia) ?_); intro _ _ _) | ((with_reducible show wpAny _ _ (inplaceOp Operator.LShift (Value.int _ _) (Value.int _ _)) _ _ _); (refine r_ilshift1 (m := 100000) ‹_› (by decide) ?_); intro _ _ _) | ((with_reducible show wpAny _ _ (inplaceOp Operator.RShift (Value.int _ _) (Value.int _ _)) _ _ _); (refine r_irshift1 ?_; intro _ _ _)) | (k_unfold; (try dsimp only)) | (k_end; kc_close) | (walk1; (try dsimp only)) | (dsimp only; walk1; (try dsimp only)) | (leave1; (try dsimp only)) | fail "no step")
  all_goals (first | (exfalso; lia) | skip)
  (rename News _ _ _ _ => nE); (rename Fr _ _ _ _ => fE)
  rename _ = q1 * _ + q2 => hyf
  exact hret _ _ _ _ _ _ _ (Fr.keep fE) (nE.fresh (List.mem_cons_self ..)) (nE.get (List.mem_cons_self ..)) (odd_fin ea eb (hyf.trans k1) k2 (by assumption)).1 (odd_fin ea eb (hyf.trans k1) k2 (by assumption)).2
end Mine
end
section
open PySem PySem.W PyProof.Rows PySem.Calls
namespace Mine
/-! the two code tables, at the level of the heap and in a frame's ledger -/
structure Gr (w : World) (mean : ExcName → Option Value) (mg mb : Str → Option Value) (G0 : Heap) : Prop where
  X : (KF w.params).In G0
  T : TopM mean mg mb G0
  C1 : CodeHd G0 107 103
  C2 : CodeHd G0 114 110
  n1 : G0.get? 103 = none
  n2 : G0.get? 110 = none
noncomputable def CodeO (qual : Str) (oc : Obj) : Prop := ∃ vs t, oc.data = .fields vs ∧ vs[1]? = some (.str qual t)
noncomputable def T1H (ln cl : Int) (qual : Str) (P : Addr) (G0 h : Heap) : Prop := ∃ ps, h.get? P = some (tabObj ps) ∧ (ps = #[] ∨ ∃ c oc, ps = #[rawInt ln, rawInt cl, .ref c] ∧ h.get? c = some oc ∧ CodeO qual oc ∧ G0.get? c = none)
structure TH (G0 h : Heap) : Prop where
  a : T1H 83 4 qual1 103 G0 h
  b : T1H 98 4 qual2 110 G0 h
noncomputable abbrev KeepsT (h h' : Heap) : Prop := ∀ b o, b ≠ 103 → b ≠ 110 → h.get? b = some o → h'.get? b = some o
theorem code_ne {qual : Str} {oc : Obj} {ps : Array Value} (h : CodeO qual oc) (hp : ps = #[] ∨ ∃ (a b : Int) (c : Addr), ps = #[rawInt a, rawInt b, .ref c]) : oc ≠ tabObj ps := by
  rintro rfl
  obtain ⟨vs, t, h1, h2⟩ := h
  cases h1
  rcases hp with rfl | ⟨a, b, c, rfl⟩
  · cases h2
  · cases h2
theorem T1H.shape {ln cl : Int} {qual : Str} {P : Addr} {G0 h : Heap} (x : T1H ln cl qual P G0 h) : ∃ ps, h.get? P = some (tabObj ps) ∧ (ps = #[] ∨ ∃ (a b : Int) (c : Addr), ps = #[rawInt a, rawInt b, .ref c]) := by
  obtain ⟨ps, h1, h2 | ⟨c, oc, h2, _⟩⟩ := x
  · exact ⟨ps, h1, .inl h2⟩
  · exact ⟨ps, h1, .inr ⟨_, _, _, h2⟩⟩
theorem TH.code_apart {G0 h : Heap} (x : TH G0 h) {qual : Str} {oc : Obj} {c : Addr} (hc : h.get? c = some oc) (hq : CodeO qual oc) : c ≠ 103 ∧ c ≠ 110 := by
  obtain ⟨p1, a1, a2⟩ := x.a.shape
  obtain ⟨p2, b1, b2⟩ := x.b.shape
  exact ⟨fun q => by rw [q, a1] at hc; cases hc; exact code_ne hq a2 rfl, fun q => by rw [q, b1] at hc; cases hc; exact code_ne hq b2 rfl⟩
theorem keepsT_trans {a b c : Heap} (h1 : KeepsT a b) (h2 : KeepsT b c) : KeepsT a c := fun x o n1 n2 e => h2 x o n1 n2 (h1 x o n1 n2 e)
theorem C_i2dH (w : World) (mean : ExcName → Option Value) (mg mb : Str → Option Value) (dp un : Nat) (gd : Option (List Code)) (outer : List Env) (G0 : Heap) (s : Shared) (Q E : Value → Shared → Prop)
    (a n : Int) (t1 t2 : Tok) (ha : 0 ≤ a) (hn : 2 ≤ n ∧ n ≤ 8000) (hb : Builtin.Int.intBits a ≤ 90000) (hK128 : ((Builtin.Int.intBits a : Int) + n - 1).fdiv n ≤ 128)
    (G : Gr w mean mg mb G0) (K0 : Keeps G0 s.heap) (H : TH G0 s.heap) (hdp : dp + 20 < recursionLimit) (hun : un + 60 < cLine)
    (hret : ∀ (r : Addr) h' tk' vs ns nn, KeepsT s.heap h' → TH G0 h' → s.heap.get? r = none → h'.get? r = some (W.listOf vs.toArray nn) → IntsAre vs ns → ns = digs (2 ^ n.toNat) (((Builtin.Int.intBits a : Int) + n - 1).fdiv n).toNat a → Q (.ref r) { s with heap := h', toks := tk' }) :
    wpAny (model PW w) (arn dp un gd outer) (call (.ref 108) [.int a t1, .int n t2]) Q E s := by
  obtain ⟨ps0, hg1, hps⟩ := H.a
  have key : ∀ cs0, TabP 83 4 qual1 ps0 cs0 → (∀ p ∈ cs0, s.heap.get? p.1 = some p.2 ∧ G0.get? p.1 = none) → wpAny (model PW w) (arn dp un gd outer) (call (.ref 108) [.int a t1, .int n t2]) Q E s := by
    intro cs0 hT hC
    refine C_i2d w mean mg mb dp un gd outer G0 s Q E ps0 cs0 hT a n t1 t2 ha hn hb hK128 G.X G.T G.C1 K0 hdp hun hg1 G.n1 hC fun r h' tk' vs ns nn ps cs k1 k2 k3 k4 k5 k6 k7 k8 => ?_
    refine hret r h' tk' vs ns nn (fun b o n1 n2 e => k1 b o n1 e) ⟨⟨ps, k7, ?_⟩, ?_⟩ k2 k3 k4 k5
    · rcases k6 with ⟨rfl, _⟩ | ⟨c, oc, vq, t, rfl, rfl, h1, h2⟩
      · exact .inl rfl
      · have h3 := k8 _ (.head _)
        refine .inr ⟨c, oc, rfl, h3.1, ⟨vq, t, h1, h2⟩, ?_⟩
        rcases h3.2 with h4 | h4
        · exact (hC _ h4).2
        · cases e : G0.get? c with
          | none => rfl
          | some o => have := K0 _ _ e; rw [h4] at this; cases this
    · obtain ⟨p2, g2, hp2⟩ := H.b
      refine ⟨p2, k1 _ _ (by decide) g2, ?_⟩
      rcases hp2 with rfl | ⟨c, oc, rfl, h1, h2, h3⟩
      · exact .inl rfl
      · exact .inr ⟨c, oc, rfl, k1 _ _ (H.code_apart h1 h2).1 h1, h2, h3⟩
  rcases hps with rfl | ⟨c, oc, rfl, h1, ⟨vq, t, h2, h3⟩, h4⟩
  · exact key [] (.inl ⟨rfl, rfl⟩) (fun p hp => nomatch hp)
  · exact key [(c, oc)] (.inr ⟨c, oc, vq, t, rfl, rfl, h2, h3⟩) (fun p hp => by rw [List.mem_singleton.mp hp]; exact ⟨h1, h4⟩)
theorem C_d2iH (w : World) (mean : ExcName → Option Value) (mg mb : Str → Option Value) (dp un : Nat) (gd : Option (List Code)) (outer : List Env) (G0 : Heap) (s : Shared) (Q E : Value → Shared → Prop)
    (d : Addr) (vs : List Value) (ns : List Int) (nn : Nat) (n : Int) (t2 : Tok) (hn : 2 ≤ n ∧ n ≤ 8000) (hi : IntsAre vs ns) (hbig : (ns.length : Int) * n ≤ 1000000) (hK128 : ns.length ≤ 128) (hd : ∀ d ∈ ns, 0 ≤ d ∧ d < 2 ^ n.toNat)
    (G : Gr w mean mg mb G0) (K0 : Keeps G0 s.heap) (H : TH G0 s.heap) (hdp : dp + 20 < recursionLimit) (hun : un + 60 < cLine) (hD : s.heap.get? d = some (W.listOf vs.toArray nn)) (hD0 : G0.get? d = none)
    (hret : ∀ h' tk' y t, KeepsT s.heap h' → TH G0 h' → y = undig (2 ^ n.toNat) ns → Q (.int y t) { s with heap := h', toks := tk' }) :
    wpAny (model PW w) (arn dp un gd outer) (call (.ref 115) [.ref d, .int n t2]) Q E s := by
  obtain ⟨ps0, hg1, hps⟩ := H.b
  have key : ∀ cs0, TabP 98 4 qual2 ps0 cs0 → (∀ p ∈ cs0, s.heap.get? p.1 = some p.2 ∧ G0.get? p.1 = none) → wpAny (model PW w) (arn dp un gd outer) (call (.ref 115) [.ref d, .int n t2]) Q E s := by
    intro cs0 hT hC
    refine C_d2i w mean mg mb dp un gd outer G0 s Q E ps0 cs0 hT d vs ns nn n t2 hn hi hbig hK128 hd G.X G.T G.C2 K0 hdp hun hg1 G.n2 hC hD hD0 fun h' tk' y t ps cs k1 k5 k6 k7 k8 => ?_
    refine hret h' tk' y t (fun b o n1 n2 e => k1 b o n2 e) ⟨?_, ⟨ps, k7, ?_⟩⟩ k5
    · obtain ⟨p2, g2, hp2⟩ := H.a
      refine ⟨p2, k1 _ _ (by decide) g2, ?_⟩
      rcases hp2 with rfl | ⟨c, oc, rfl, h1, h2, h3⟩
      · exact .inl rfl
      · exact .inr ⟨c, oc, rfl, k1 _ _ (H.code_apart h1 h2).2 h1, h2, h3⟩
    · rcases k6 with ⟨rfl, _⟩ | ⟨c, oc, vq, t, rfl, rfl, h1, h2⟩
      · exact .inl rfl
      · have h3 := k8 _ (.head _)
        refine .inr ⟨c, oc, rfl, h3.1, ⟨vq, t, h1, h2⟩, ?_⟩
        rcases h3.2 with h4 | h4
        · exact (hC _ h4).2
        · cases e : G0.get? c with
          | none => rfl
          | some o => have := K0 _ _ e; rw [h4] at this; cases this
  rcases hps with rfl | ⟨c, oc, rfl, h1, ⟨vq, t, h2, h3⟩, h4⟩
  · exact key [] (.inl ⟨rfl, rfl⟩) (fun p hp => nomatch hp)
  · exact key [(c, oc)] (.inr ⟨c, oc, vq, t, rfl, rfl, h2, h3⟩) (fun p hp => by rw [List.mem_singleton.mp hp]; exact ⟨h1, h4⟩)
/-! in a ledger -/
noncomputable def T1L (ln cl : Int) (qual : Str) (ps : Array Value) (G0 g : Heap) (ex : List (Addr × Obj)) : Prop := ps = #[] ∨ ∃ c oc, ps = #[rawInt ln, rawInt cl, .ref c] ∧ ((c, oc) ∈ ex ∨ g.get? c = some oc) ∧ CodeO qual oc ∧ G0.get? c = none
noncomputable def TL (G0 g : Heap) (tl : List (Addr × Obj)) : Prop := ∃ ps1 ps2 ex, tl = (103, tabObj ps1) :: (110, tabObj ps2) :: ex ∧ T1L 83 4 qual1 ps1 G0 g ex ∧ T1L 98 4 qual2 ps2 G0 g ex ∧ ∀ p ∈ ex, ∃ vs, p.2.data = .fields vs
theorem TL.fields {G0 g : Heap} {tl : List (Addr × Obj)} (x : TL G0 g tl) : ∀ p ∈ tl, ∃ vs, p.2.data = .fields vs := by
  obtain ⟨ps1, ps2, ex, rfl, _, _, h⟩ := x
  intro p hp
  rcases List.mem_cons.mp hp with rfl | hp
  · exact ⟨_, rfl⟩
  · rcases List.mem_cons.mp hp with rfl | hp
    · exact ⟨_, rfl⟩
    · exact h p hp
theorem TL.th {G0 g h : Heap} {L : Addr} {m : Str → Option Value} {news tl : List (Addr × Obj)} (x : TL G0 g tl) (F : Fr g L h m) (N : News g L h news) (hs : ∀ p ∈ tl, p ∈ news) : TH G0 h := by
  obtain ⟨ps1, ps2, ex, rfl, h1, h2, _⟩ := x
  refine ⟨⟨ps1, (N _ (hs _ (.head _))).1, ?_⟩, ⟨ps2, (N _ (hs _ (.tail _ (.head _)))).1, ?_⟩⟩
  · rcases h1 with h | ⟨c, oc, e1, e2, e3, e4⟩
    · exact .inl h
    · exact .inr ⟨c, oc, e1, e2.elim (fun q => (N _ (hs _ (.tail _ (.tail _ q)))).1) (fun q => F.keep _ _ q), e3, e4⟩
  · rcases h2 with h | ⟨c, oc, e1, e2, e3, e4⟩
    · exact .inl h
    · exact .inr ⟨c, oc, e1, e2.elim (fun q => (N _ (hs _ (.tail _ (.tail _ q)))).1) (fun q => F.keep _ _ q), e3, e4⟩
noncomputable def NoTab (o : Obj) : Prop := ∀ vs, o.data ≠ .fields vs
theorem notab_apart {G0 h : Heap} (x : TH G0 h) {o : Obj} {c : Addr} (hc : h.get? c = some o) (hq : NoTab o) : c ≠ 103 ∧ c ≠ 110 := by
  obtain ⟨p1, a1, _⟩ := x.a.shape
  obtain ⟨p2, b1, _⟩ := x.b.shape
  exact ⟨fun q => by rw [q, a1] at hc; cases hc; exact hq _ rfl, fun q => by rw [q, b1] at hc; cases hc; exact hq _ rfl⟩
theorem TL.after {G0 g h h' : Heap} {L : Addr} {m : Str → Option Value} {vis tl : List (Addr × Obj)} (x : TL G0 g tl) (F : Fr g L h m) (N : News g L h (vis ++ tl)) (hv : ∀ p ∈ vis, NoTab p.2) (hk : KeepsT h h') (H' : TH G0 h') :
    Fr g L h' m ∧ ∃ tl', TL G0 g tl' ∧ News g L h' (vis ++ tl') := by
  have H := x.th F N (fun p hp => List.mem_append_right _ hp)
  obtain ⟨ps1, ps2, ex, rfl, h1, h2, _⟩ := x
  have n1 := N (103, tabObj ps1) (List.mem_append_right _ (.head _))
  have n2 := N (110, tabObj ps2) (List.mem_append_right _ (.tail _ (.head _)))
  have hg : ∀ b o, g.get? b = some o → h'.get? b = some o := fun b o e => hk b o (fun q => by rw [q, n1.2.2] at e; cases e) (fun q => by rw [q, n2.2.2] at e; cases e) (F.keep b o e)
  obtain ⟨oL, es, ep, hL, hLd, r⟩ := F.ns
  have hL' := hk _ _ n1.2.1.symm n2.2.1.symm hL
  have F' : Fr g L h' m := ⟨⟨oL, es, ep, hL', hLd, r⟩, hg, F.above⟩
  refine ⟨F', ?_⟩
  obtain ⟨q1, a1, b1⟩ := H'.a
  obtain ⟨q2, a2, b2⟩ := H'.b
  have code : ∀ c oc qual, h'.get? c = some oc → CodeO qual oc → ∃ e : List (Addr × Obj), (∀ p ∈ e, (h'.get? p.1 = some p.2 ∧ p.1 ≠ L ∧ g.get? p.1 = none) ∧ ∃ vs, p.2.data = .fields vs) ∧ ((c, oc) ∈ e ∨ g.get? c = some oc) := by
    intro c oc qual hc hq
    cases e : g.get? c with
    | some o =>
      have := hg _ _ e
      rw [hc] at this
      cases this
      exact ⟨[], (fun p hp => nomatch hp), .inr rfl⟩
    | none =>
      refine ⟨[(c, oc)], fun p hp => ?_, .inl (.head _)⟩
      rw [List.mem_singleton.mp hp]
      obtain ⟨vs, t, hd, _⟩ := hq
      refine ⟨⟨hc, fun q => ?_, e⟩, ⟨vs, hd⟩⟩
      dsimp only at q
      rw [q, hL'] at hc
      cases hc
      rw [hLd] at hd
      cases hd
  have E1 : ∃ e : List (Addr × Obj), (∀ p ∈ e, (h'.get? p.1 = some p.2 ∧ p.1 ≠ L ∧ g.get? p.1 = none) ∧ ∃ vs, p.2.data = .fields vs) ∧ T1L 83 4 qual1 q1 G0 g e := by
    rcases b1 with h | ⟨c, oc, e1, e2, e3, e4⟩
    · exact ⟨[], (fun p hp => nomatch hp), .inl h⟩
    · obtain ⟨e, he, hm⟩ := code c oc _ e2 e3
      exact ⟨e, he, .inr ⟨c, oc, e1, hm, e3, e4⟩⟩
  have E2 : ∃ e : List (Addr × Obj), (∀ p ∈ e, (h'.get? p.1 = some p.2 ∧ p.1 ≠ L ∧ g.get? p.1 = none) ∧ ∃ vs, p.2.data = .fields vs) ∧ T1L 98 4 qual2 q2 G0 g e := by
    rcases b2 with h | ⟨c, oc, e1, e2, e3, e4⟩
    · exact ⟨[], (fun p hp => nomatch hp), .inl h⟩
    · obtain ⟨e, he, hm⟩ := code c oc _ e2 e3
      exact ⟨e, he, .inr ⟨c, oc, e1, hm, e3, e4⟩⟩
  obtain ⟨e1, he1, t1⟩ := E1
  obtain ⟨e2, he2, t2⟩ := E2
  have mono : ∀ {ln cl : Int} {qual : Str} {ps : Array Value} {a b : List (Addr × Obj)}, T1L ln cl qual ps G0 g a → (∀ p ∈ a, p ∈ b) → T1L ln cl qual ps G0 g b := by
    intro ln cl qual ps a b h hs
    rcases h with h | ⟨c, oc, k1, k2, k3, k4⟩
    · exact .inl h
    · exact .inr ⟨c, oc, k1, k2.imp (hs _) id, k3, k4⟩
  refine ⟨_, ⟨q1, q2, e1 ++ e2, rfl, mono t1 (fun p hp => List.mem_append_left _ hp), mono t2 (fun p hp => List.mem_append_right _ hp), fun p hp => (List.mem_append.mp hp).elim (fun q => (he1 p q).2) (fun q => (he2 p q).2)⟩, fun p hp => ?_⟩
  rcases List.mem_append.mp hp with hp | hp
  · have n := N p (List.mem_append_left _ hp)
    have ap := notab_apart H n.1 (hv p hp)
    exact ⟨hk _ _ ap.1 ap.2 n.1, n.2⟩
  · rcases List.mem_cons.mp hp with rfl | hp
    · exact ⟨a1, n1.2⟩
    · rcases List.mem_cons.mp hp with rfl | hp
      · exact ⟨a2, n2.2⟩
      · rcases List.mem_append.mp hp with hp | hp
        · exact (he1 p hp).1
        · exact (he2 p hp).1
/-- at a def's entry -/
theorem TL.entry {G0 h : Heap} (H : TH G0 h) : ∃ ps1 ps2, (∀ p ∈ [((103 : Addr), tabObj ps1), (110, tabObj ps2)], h.get? p.1 = some p.2) ∧
    ∀ g, (∀ b o, b ∉ [((103 : Addr), tabObj ps1), (110, tabObj ps2)].map (·.1) → h.get? b = some o → g.get? b = some o) → TL G0 g [((103 : Addr), tabObj ps1), (110, tabObj ps2)] := by
  obtain ⟨ps1, a1, b1⟩ := H.a
  obtain ⟨ps2, a2, b2⟩ := H.b
  refine ⟨ps1, ps2, fun p hp => ?_, fun g hg => ⟨ps1, ps2, [], rfl, ?_, ?_, fun p hp => nomatch hp⟩⟩
  · rcases List.mem_cons.mp hp with rfl | hp
    · exact a1
    · rw [List.mem_singleton.mp hp]; exact a2
  · rcases b1 with h | ⟨c, oc, e1, e2, e3, e4⟩
    · exact .inl h
    · have ap := H.code_apart e2 e3
      exact .inr ⟨c, oc, e1, .inr (hg _ _ (by simp only [List.map_cons, List.map_nil, List.mem_cons, List.not_mem_nil, or_false]; rintro (q | q); exact ap.1 q; exact ap.2 q) e2), e3, e4⟩
  · rcases b2 with h | ⟨c, oc, e1, e2, e3, e4⟩
    · exact .inl h
    · have ap := H.code_apart e2 e3
      exact .inr ⟨c, oc, e1, .inr (hg _ _ (by simp only [List.map_cons, List.map_nil, List.mem_cons, List.not_mem_nil, or_false]; rintro (q | q); exact ap.1 q; exact ap.2 q) e2), e3, e4⟩
end Mine
end
section
open PySem PySem.W PyProof.Rows PySem.Calls
namespace Mine
theorem listOf_nf (xs : Array Value) (n : Nat) : ∀ vs, (W.listOf xs n).data ≠ .fields vs := by
  intro vs h
  cases h
theorem apart_app {t : Addr} {b : List (Addr × Obj)} (h2 : Apart t b) : ∀ {a : List (Addr × Obj)}, Apart t a → Apart t (a ++ b) := by
  intro a
  induction a with
  | nil => intro _; exact h2
  | cons p r ih => intro h; exact ⟨h.1, ih h.2⟩
theorem apart_fields {h : Heap} {t : Addr} {o : Obj} (h3 : h.get? t = some o) (h4 : ∀ vs, o.data ≠ .fields vs) {l : List (Addr × Obj)} : (∀ p ∈ l, h.get? p.1 = some p.2) → (∀ p ∈ l, ∃ vs, p.2.data = .fields vs) → Apart t l := by
  induction l with
  | nil => intro _ _; exact trivial
  | cons p r ih =>
    intro h1 h2
    refine ⟨Nat.lt_or_gt_of_ne (fun q => ?_), ih (fun q hq => h1 q (List.mem_cons_of_mem _ hq)) (fun q hq => h2 q (List.mem_cons_of_mem _ hq))⟩
    have e := h1 p (List.mem_cons_self ..)
    have q' : p.1 = t := q
    rw [q', h3] at e
    obtain ⟨vs, hv⟩ := h2 p (List.mem_cons_self ..)
    rw [← Option.some.inj e] at hv
    exact h4 _ hv
theorem Apart.ne {t : Addr} {l : List (Addr × Obj)} : Apart t l → ∀ p ∈ l, p.1 ≠ t := by
  induction l with
  | nil => intro _ p hp; cases hp
  | cons q r ih =>
    intro h p hp
    rcases List.mem_cons.mp hp with rfl | hp
    · intro e
      exact h.1.elim (fun z => Nat.ne_of_lt z e) (fun z => Nat.ne_of_gt z e)
    · exact ih h.2 p hp
theorem allLt_ne {t : Addr} {l : List (Addr × Obj)} : AllLt t l → ∀ p ∈ l, p.1 ≠ t := by
  induction l with
  | nil => intro _ p hp; cases hp
  | cons q r ih =>
    intro h p hp
    rcases List.mem_cons.mp hp with rfl | hp
    · exact Nat.ne_of_lt h.1
    · exact ih h.2 p hp
section
variable {w : World} {mean : ExcName → Option Value} {mg mb : Str → Option Value} {dp un : Nat} {gd : Option (List Code)} {outer : List Env} {G0 g : Heap} {L : Addr} {m : Str → Option Value} {vis tl : List (Addr × Obj)} {s : Shared} {Q E : Value → Shared → Prop}
theorem kg_none {G0 g : Heap} (KG : Keeps G0 g) {a : Addr} (h : g.get? a = none) : G0.get? a = none := by
  cases e : G0.get? a with
  | none => rfl
  | some o => have := KG _ _ e; rw [h] at this; cases this
theorem new_add {h h' : Heap} {r : Addr} {o : Obj} {news' : List (Addr × Obj)} (F : Fr g L h m) (F' : Fr g L h' m) (N' : News g L h' news') (hr : h.get? r = none) (hg : h'.get? r = some o) : News g L h' ((r, o) :: news') := by
  intro p hp
  rcases List.mem_cons.mp hp with rfl | hp
  · refine ⟨hg, fun q => ?_, ?_⟩
    · obtain ⟨oL, es, ep, hL, _⟩ := F.ns
      rw [← q, hr] at hL; cases hL
    · cases e : g.get? r with
      | none => rfl
      | some o => have := F.keep _ _ e; rw [hr] at this; cases this
  · exact N' p hp
theorem call_i2dF (G : Gr w mean mg mb G0) (KG : Keeps G0 g) (hTL : TL G0 g tl) (F : Fr g L s.heap m) (N : News g L s.heap (vis ++ tl)) (hv : ∀ p ∈ vis, NoTab p.2) {a n : Int} {t1 t2 : Tok} (ha : 0 ≤ a) (hn : 2 ≤ n ∧ n ≤ 8000) (hb : Builtin.Int.intBits a ≤ 90000) (hK128 : ((Builtin.Int.intBits a : Int) + n - 1).fdiv n ≤ 128)
    (hdp : dp + 20 < recursionLimit) (hun : un + 60 < cLine)
    (h : ∀ (r : Addr) h' tk' vs ns nn tl', Fr g L h' m → TL G0 g tl' → News g L h' ((r, W.listOf vs.toArray nn) :: (vis ++ tl')) → Apart r (vis ++ tl') → IntsAre vs ns → ns = digs (2 ^ n.toNat) (((Builtin.Int.intBits a : Int) + n - 1).fdiv n).toNat a → Q (.ref r) { s with heap := h', toks := tk' }) :
    wpAny (model PW w) (arn dp un gd outer) (call (.ref 108) [.int a t1, .int n t2]) Q E s := by
  refine C_i2dH w mean mg mb dp un gd outer G0 s Q E a n t1 t2 ha hn hb hK128 G (fun b o e => F.keep _ _ (KG _ _ e)) (hTL.th F N fun p hp => List.mem_append_right _ hp) hdp hun fun r h' tk' vs ns nn hk H' hr hg hi hd => ?_
  obtain ⟨F', tl', hTL', N'⟩ := hTL.after F N hv hk H'
  exact h r h' tk' vs ns nn tl' F' hTL' (new_add F F' N' hr hg) (apart_app (apart_fields hg (listOf_nf _ _) (fun p hp => (N' p (List.mem_append_right _ hp)).1) hTL'.fields) (apart_of hr fun p hp => N p (List.mem_append_left _ hp))) hi hd
theorem call_d2iF (G : Gr w mean mg mb G0) (KG : Keeps G0 g) (hTL : TL G0 g tl) (F : Fr g L s.heap m) (N : News g L s.heap (vis ++ tl)) (hv : ∀ p ∈ vis, NoTab p.2) {d : Addr} {vs : List Value} {ns : List Int} {nn : Nat} {n : Int} {t2 : Tok} (hm : (d, W.listOf vs.toArray nn) ∈ vis) (hn : 2 ≤ n ∧ n ≤ 8000) (hi : IntsAre vs ns) (hbig : (ns.length : Int) * n ≤ 1000000) (hK128 : ns.length ≤ 128) (hd : ∀ d ∈ ns, 0 ≤ d ∧ d < 2 ^ n.toNat)
    (hdp : dp + 20 < recursionLimit) (hun : un + 60 < cLine)
    (h : ∀ h' tk' y t tl', Fr g L h' m → TL G0 g tl' → News g L h' (vis ++ tl') → y = undig (2 ^ n.toNat) ns → Q (.int y t) { s with heap := h', toks := tk' }) :
    wpAny (model PW w) (arn dp un gd outer) (call (.ref 115) [.ref d, .int n t2]) Q E s := by
  have nd := N _ (List.mem_append_left _ hm)
  refine C_d2iH w mean mg mb dp un gd outer G0 s Q E d vs ns nn n t2 hn hi hbig hK128 hd G (fun b o e => F.keep _ _ (KG _ _ e)) (hTL.th F N fun p hp => List.mem_append_right _ hp) hdp hun nd.1 (kg_none KG nd.2.2) fun h' tk' y t hk H' hy => ?_
  obtain ⟨F', tl', hTL', N'⟩ := hTL.after F N hv hk H'
  exact h h' tk' y t tl' F' hTL' N' hy
end
/-- _div2n1n, whatever the sizes -/
theorem C_21 (w : World) (mean : ExcName → Option Value) (mg mb : Str → Option Value) (dp un : Nat) (gd : Option (List Code)) (outer : List Env) (s : Shared) (Q E : Value → Shared → Prop)
    (a b n : Int) (t1 t2 t3 : Tok) (ha : 0 ≤ a) (hn : 2 ≤ n ∧ n ≤ 7990) (hlo : 2 ^ (n.toNat - 1) ≤ b) (hhi : b < 2 ^ n.toNat) (hlt : a < b * 2 ^ n.toNat)
    (X : (KF w.params).In s.heap) (T : TopM mean mg mb s.heap) (hdp : dp + 2 < recursionLimit) (hun : un + 28 < cLine)
    (hret : ∀ (q r : Int) u1 u2 (t : Addr) h' tk', Keeps s.heap h' → s.heap.get? t = none → h'.get? t = some (tup2 q r u1 u2) → q = a / b → r = a % b → Q (.ref t) { s with heap := h', toks := tk' }) :
    wpAny (model PW w) (arn dp un gd outer) (call (.ref 94) [.int a t1, .int b t2, .int n t3]) Q E s := by
  have hb : 0 < b := Int.lt_of_lt_of_le (Int.pow_pos (by decide)) hlo
  have hbb := bits_lt' (k := 9000) (Int.le_of_lt hb) hhi (by lia)
  have hab : Builtin.Int.intBits a ≤ 100000 := by
    refine bits_lt' (m := n.toNat + n.toNat) ha ?_ (by lia)
    rw [Int.pow_add]
    refine Int.lt_of_lt_of_le hlt (Int.mul_le_mul_of_nonneg_right (Int.le_of_lt hhi) (Int.le_of_lt (Int.pow_pos (by decide))))
  by_cases hlim : (Builtin.Int.intBits a : Int) - n ≤ 4000
  · exact C_21b w mean mg mb dp un gd outer s Q E a b n t1 t2 t3 ha hb hbb hlim X T (by lia) (by lia) hret
  · by_cases hp : n % 2 = 0
    · exact C_21e w mean mg mb dp un gd outer s Q E a b n t1 t2 t3 ha hn hp hlo hhi hlt hlim hab (Nat.le_trans hbb (by decide)) X T hdp hun hret
    · exact C_21o w mean mg mb dp un gd outer s Q E a b n t1 t2 t3 ha hn (by lia) hlo hhi hlt hlim hab (Nat.le_trans hbb (by decide)) X T hdp hun hret
theorem call_21 {w : World} {mean : ExcName → Option Value} {mg mb : Str → Option Value} {dp un : Nat} {gd : Option (List Code)} {outer : List Env} {g : Heap} {L : Addr} {m : Str → Option Value} {news : List (Addr × Obj)} {s : Shared} {Q E : Value → Shared → Prop}
    {a b n : Int} {t1 t2 t3 : Tok} (F : Fr g L s.heap m) (N : News g L s.heap news) (X : (KF w.params).In g) (T : TopM mean mg mb g) (ha : 0 ≤ a) (hn : 2 ≤ n ∧ n ≤ 7990) (hlo : 2 ^ (n.toNat - 1) ≤ b) (hhi : b < 2 ^ n.toNat) (hlt : a < b * 2 ^ n.toNat) (hdp : dp + 2 < recursionLimit) (hun : un + 28 < cLine)
    (h : ∀ (q r : Int) u1 u2 (t : Addr) h' tk', Fr g L h' m → News g L h' ((t, tup2 q r u1 u2) :: news) → Apart t news → q = a / b → r = a % b → Q (.ref t) { s with heap := h', toks := tk' }) :
    wpAny (model PW w) (arn dp un gd outer) (call (.ref 94) [.int a t1, .int b t2, .int n t3]) Q E s :=
  C_21 w mean mg mb dp un gd outer s Q E a b n t1 t2 t3 ha hn hlo hhi hlt (X.keeps F.keep) (T.keeps F.keep) hdp hun fun q r u1 u2 t h' tk' hk ht hg hq hr =>
    h q r u1 u2 t h' tk' (fr_keeps F hk) (news_add F N hk ht hg) (apart_of ht N) hq hr
/-- a loop over a list backward -/
theorem kst_rev {prog : Program} {w : World} {A : Around} {E : Value → Shared → Prop} {s : Shared} {env : Env} {h₀ : Heap} {x : Str} {body : List Stmt} {Q : Flow → Shared → Prop} {σ : Type} {I l : Addr} {vs : List Value} {ns : List Int} {nn : Nat} {m₀ : Str → Option Value}
    (Led : σ → List (Addr × Obj)) (ps : σ → List (Str × Value)) (Facts : σ → Prop) (stored : List Str) (P : List Int → σ → Prop) (c₀ : σ)
    (hh : A.handled = none) (F : Fr h₀ env.locals s.heap m₀) (NI : News h₀ env.locals s.heap [(I, revObj l ((vs.length : Int) - 1)), (l, W.listOf vs.toArray nn)]) (N : News h₀ env.locals s.heap (Led c₀)) (hoff : ∀ p ∈ Led c₀, p.1 ≠ I ∧ p.1 ≠ l) (hne : l ≠ I) (hi : IntsAre vs ns)
    (hf : Facts c₀) (hk : ∀ p ∈ ps c₀, m₀ p.1 = some p.2) (hp : P [] c₀)
    (turn : ∀ (c : σ) pre post n t (u : Str → Option Value) h tk own, ns.reverse = pre ++ n :: post → OwnOff own ((Led c₀).map (·.1)) → (Led c).map (·.1) = (Led c₀).map (·.1) → Facts c → P pre c →
      Fr h₀ env.locals h (fun y => if y = x then some (.int n t) else kstB (fun z => if stored.contains z then u z else m₀ z) (ps c) y) → News h₀ env.locals h (Led c ++ own) →
      wpAny (model prog w) A (execs body env) (InvPostN h₀ env.locals (KstS Led ps Facts x stored m₀ P (pre ++ [n])) own ((Led c₀).map (·.1)) { s with heap := h, toks := tk } Q) E { s with heap := h, toks := tk })
    (done : ∀ (c : σ) (u : Str → Option Value) h tk, Facts c → P ns.reverse c → Fr h₀ env.locals h (fun y => if y = x then u y else kstB (fun z => if stored.contains z then u z else m₀ z) (ps c) y) → News h₀ env.locals h (Led c) → Q .next { s with heap := h, toks := tk }) :
    wpAny (model prog w) A (pyIter (.ref I)) (fun it s₂ => LoopAtV prog w A h₀ env x body Q E it s₂) E s := by
  have nI := NI _ (.head _)
  have nl := NI _ (.tail _ (.head _))
  have hit : s.heap.IsRevIter I l ((vs.length : Int) - 1) := ⟨_, nI.1, rfl, rfl⟩
  refine wpAny_pyIter_revIter hit ?_
  have W := Walks.listRev (prog := prog) (w := w) hh I l hne vs.toArray
  have hlen : vs.toArray.size = ns.length := by simp [hi.length]
  have hl : s.heap.IsList l vs.toArray := ⟨_, nl.1, rfl, _, rfl⟩
  refine loop_invN (fun i m nx => KstS Led ps Facts x stored m₀ P (ns.reverse.take i) m nx) W ?_ ?_ ?_ ?_ ⟨Nat.zero_le _, ?_, hl⟩ F N ⟨c₀, rfl, hf, hk, fun _ _ _ _ => rfl, by simpa using hp⟩ ?_ ?_
  · intro hm
    rcases List.mem_cons.mp hm with e | hm
    · exact nI.2.1 e.symm
    · exact nl.2.1 (List.mem_singleton.mp hm).symm
  · intro b hb
    rw [List.mem_singleton.mp hb]
    exact nI.2.2
  · intro p hp hI
    exact (hoff p hp).1 (List.mem_singleton.mp hI)
  · intro p hp hI
    rcases List.mem_cons.mp hI with e | hI
    · exact (hoff p hp).1 e
    · exact (hoff p hp).2 (List.mem_singleton.mp hI)
  · have e : (vs.toArray.size : Int) - 1 - ((0 : Nat) : Int) = (vs.length : Int) - 1 := by simp
    rw [e]; exact hit
  · rintro i v m₁ nx h tk own hin hv hadr hoff' ⟨c, rfl, hf', h1, h2, hp'⟩ F₁ N₁
    rw [hlen] at hin hv
    have hx : ∃ t, v = .int (ns.reverse[i]'(by simpa using hin)) t := by
      obtain ⟨t, hx⟩ := hi.get (ns.length - 1 - i) (ns[ns.length - 1 - i]'(by lia)) (by rw [List.getElem?_eq_getElem])
      have : vs.toArray[ns.length - 1 - i]? = vs[ns.length - 1 - i]? := by simp
      rw [this, hx] at hv
      refine ⟨t, ?_⟩
      rw [← Option.some.inj hv, List.getElem_reverse]
    obtain ⟨t, rfl⟩ := hx
    have hlt' : i < ns.reverse.length := by simpa using hin
    have hs : ns.reverse.take (i + 1) = ns.reverse.take i ++ [ns.reverse[i]] := by simp [List.take_add_one, List.getElem?_eq_getElem hlt']
    have e : ns.reverse = ns.reverse.take i ++ ns.reverse[i] :: ns.reverse.drop (i + 1) := by
      have ht := List.take_append_drop (i + 1) ns.reverse
      rw [hs, List.append_assoc] at ht
      exact ht.symm
    rw [hs]
    exact turn c _ _ _ t m₁ h tk own e hoff' hadr hf' hp' (kst_fr h1 h2 F₁) N₁
  · rintro m₁ nx h tk ⟨c, rfl, hf', h1, h2, hp'⟩ F₁ N₁
    rw [hlen, List.take_of_length_le (by simp)] at hp'
    exact done c m₁ h tk hf' hp' (kst_frOut h1 h2 F₁) N₁
end Mine
end
section
open PySem PySem.W PyProof.Rows PySem.Calls PySem.Spec
open PyProof.Rows.LCg (NsObj ns_obj Off3 Off1 SrcAt lst lst_snoc)
namespace Mine
section
variable {prog : Program} {w : World} {A : Around} {E : Value → Shared → Prop} {R : Result → Shared → Prop} {s : Shared} {h₀ : Heap} {L : Addr} {m : Str → Option Value} {env : Env}
noncomputable abbrev trip (x1 x2 x3 : Str) (p1 p2 p3 : Pos) (tc : Nat) (tp : Pos) : PySem.Expr := .Tuple [.Name x1 p1, .Name x2 p2, .Name x3 p3] tc tp
/-- the names of a tuple of three, given in the room of a comprehension -/
theorem bind3 {x1 x2 x3 : Str} {p1 p2 p3 : Pos} {tc} {tp : Pos} {scope : Scope} {cl : List (Str × Addr)} {C I l t : Addr} {j : Nat} {v1 v2 v3 : Value} {m' : Str → Option Value} {Q : Unit → Shared → Prop}
    (hh : A.handled = none) (hkind : scope.kind = .function) (hx1 : scope.names.lookup x1 = some .local) (hx2 : scope.names.lookup x2 = some .local) (hx3 : scope.names.lookup x3 = some .local) (n12 : x1 ≠ x2) (n13 : x1 ≠ x3) (n23 : x2 ≠ x3)
    (hit : s.heap.IsListIter I l j) (ht : IsTup s.heap t #[v1, v2, v3]) (hn : s.heap.Ns C m')
    (hQ : ∀ h₃ m₂ tk, h₃.Ns C m₂ → m₂ x1 = some v1 → m₂ x2 = some v2 → m₂ x3 = some v3 → (∀ b o, b ≠ C → s.heap.get? b = some o → h₃.get? b = some o) → Q () { s with heap := h₃, toks := tk }) :
    wpAny (model prog w) A (letOwnedTupleGo (trip x1 x2 x3 p1 p2 p3 tc tp) (.ref I) (.ref t)) (fun _ s' => wpAny (model prog w) A (assign (trip x1 x2 x3 p1 p2 p3 tc tp) (compEnvC scope cl C env) (.ref t)) Q E s') E s := by
  refine wpAny_letOwnedTupleGo_listiter hit ?_
  refine assign_Tuple_tuple hh ht rfl rfl fun h₅ he => ?_
  have old : ∀ b o, s.heap.get? b = some o → h₅.get? b = some o := fun b o e => he b o (Nat.ne_of_lt (Heap.lt_size e)) e
  refine assignInOrder_cons (wpAny_assign_Name (wpAny_storeName_local (lookup_relabel_local hx1) (hn.at' fun o e => old _ o e) (fun h₆ hn₆ hs₆ => ?_) (by simp [compEnvC, relabel, hkind])))
  refine assignInOrder_cons (wpAny_assign_Name (wpAny_storeName_local (lookup_relabel_local hx2) hn₆ (fun h₇ hn₇ hs₇ => ?_) (by simp [compEnvC, relabel, hkind])))
  refine assignInOrder_cons (wpAny_assign_Name (wpAny_storeName_local (lookup_relabel_local hx3) hn₇ (fun h₈ hn₈ hs₈ => ?_) (by simp [compEnvC, relabel, hkind])))
  refine assignInOrder_nil ?_
  exact hQ h₈ _ _ hn₈ (by simp [n12, n13]) (by simp [n23]) (by simp) fun b o hb e => hs₈.extBut b o hb (hs₇.extBut b o hb (hs₆.extBut b o hb (old b o e)))
/-- the loop of a comprehension, for any way to end a turn -/
theorem loop3 {ce target : PySem.Expr} {ifs : List PySem.Expr} {ip : Pos} {it acc : Value} {cenv : Env} {fin : Sem Unit} (Inv : Nat → Shared → Prop)
    (hq : (Code.compLoop ce 0 it acc cenv).quiet = true) (hun : A.under (.compLoop ce 0 it acc cenv) = A)
    (hden : (model prog w).den (.compLoop ce 0 it acc cenv) = (compTurn ce 0 it acc cenv).onRaise (fun x => do noteFrame x cenv; theTreesLotGoes x))
    (hct : compTurn ce 0 it acc cenv = (do
      standAt ip
      match ← pyNext it with
      | none => pure (.done .next)
      | some v =>
        letOwnedTupleGo target it v
        assign target cenv v
        let mut ok := true
        for c in ifs do
          if ok then ok ← isTrue c cenv (eval c cenv)
        if ok then
          fin
        again (.compLoop ce 0 it acc cenv)))
    (turn : ∀ n s, Inv n s → wpAny (model prog w) A (pyNext it) (fun r s₁ => match r with
      | none => R (.ok .next) s₁
      | some v => wpAny (model prog w) A (letOwnedTupleGo target it v) (fun _ s₁' => wpAny (model prog w) A (assign target cenv v) (fun _ s₂ =>
          wpAny (model prog w) A (forIn ifs true fun c r => if r = true then do let ok ← isTrue c cenv (eval c cenv); pure (ForInStep.yield ok) else pure (ForInStep.yield r)) (fun ok s₃ =>
            if ok = true then wpAny (model prog w) A fin (fun _ s₄ => ∃ m, m < n ∧ Inv m s₄) (notedBy (model prog w) A cenv fun e s' => R (.error e) s') s₃
            else ∃ m, m < n ∧ Inv m s₃) (notedBy (model prog w) A cenv fun e s' => R (.error e) s') s₂) (notedBy (model prog w) A cenv fun e s' => R (.error e) s') s₁') (notedBy (model prog w) A cenv fun e s' => R (.error e) s') s₁) (notedBy (model prog w) A cenv fun e s' => R (.error e) s') s)
    (n : Nat) (h : Inv n s) : codeAny (model prog w) A (.compLoop ce 0 it acc cenv) R s := by
  refine codeAny_loop hq Inv (fun n s hI => ?_) n h
  rw [hun, hden]
  refine wpAny_noted ?_
  rw [hct]
  refine wpAny_bind (wpAny_standAt (wpAny_bind (wpAny_mono (turn n s hI) (fun r s₁ h₁ => ?_) fun _ _ h' => h')))
  cases r with
  | none => exact wpAny_pure h₁
  | some v =>
    refine wpAny_bind (wpAny_mono h₁ (fun _ s₁' h₁' => ?_) fun _ _ h' => h')
    refine wpAny_bind (wpAny_mono h₁' (fun _ s₂ h₂ => wpAny_bind (wpAny_mono h₂ (fun ok s₃ h₃ => ?_) fun _ _ h' => h')) fun _ _ h' => h')
    cases ok with
    | false => exact wpAny_pure ⟨rfl, h₃⟩
    | true => exact wpAny_bind (wpAny_mono h₃ (fun _ s₄ h₄ => wpAny_pure ⟨rfl, h₄⟩) fun _ _ h' => h')
/-- what a turn leaves: the room's things, those of the caller, and the sum so far -/
noncomputable def TurnEnd {σ : Type} (AccIs : σ → Obj → Prop) (J : Nat → σ → List (Addr × Obj) → Prop) (h₀ : Heap) (L : Addr) (m : Str → Option Value) (s₁ : Shared) (I : Addr) (oI : Obj) (C : Addr) (oC : Obj) (D : Addr) (i : Nat) (s₂ : Shared) : Prop :=
  ∃ h' tk nw st o, s₂ = { s₁ with heap := h', toks := tk } ∧ Fr h₀ L h' m ∧ News h₀ L h' ((I, oI) :: (C, oC) :: (D, o) :: nw) ∧ Off3 I C D nw ∧ AccIs st o ∧ J i st nw
/-- the turns of a comprehension over a list of tuples of three -/
theorem walk3 {σ : Type} {AccIs : σ → Obj → Prop} {J : Nat → σ → List (Addr × Obj) → Prop} {ce : PySem.Expr} {x1 x2 x3 : Str} {p1 p2 p3 : Pos} {tc} {tp ip : Pos} {ifs : List PySem.Expr} {scope : Scope} {cl : List (Str × Addr)} {I C D ax : Addr} {its : Array Value} {fin : Sem Unit} {st0 : σ} {o0 : Obj} {news : List (Addr × Obj)} {m0 : Str → Option Value}
    (hq : (Code.compLoop ce 0 (.ref I) (.ref D) (compEnvC scope cl C env)).quiet = true) (hun : A.under (.compLoop ce 0 (.ref I) (.ref D) (compEnvC scope cl C env)) = A)
    (hden : (model prog w).den (.compLoop ce 0 (.ref I) (.ref D) (compEnvC scope cl C env)) = (compTurn ce 0 (.ref I) (.ref D) (compEnvC scope cl C env)).onRaise (fun x => do noteFrame x (compEnvC scope cl C env); theTreesLotGoes x))
    (hct : compTurn ce 0 (.ref I) (.ref D) (compEnvC scope cl C env) = (do
      standAt ip
      match ← pyNext (.ref I) with
      | none => pure (.done .next)
      | some v =>
        letOwnedTupleGo (trip x1 x2 x3 p1 p2 p3 tc tp) (.ref I) v
        assign (trip x1 x2 x3 p1 p2 p3 tc tp) (compEnvC scope cl C env) v
        let mut ok := true
        for c in ifs do
          if ok then ok ← isTrue c (compEnvC scope cl C env) (eval c (compEnvC scope cl C env))
        if ok then
          fin
        again (.compLoop ce 0 (.ref I) (.ref D) (compEnvC scope cl C env))))
    (hh : A.handled = none) (hkind : scope.kind = .function) (hx1 : scope.names.lookup x1 = some .local) (hx2 : scope.names.lookup x2 = some .local) (hx3 : scope.names.lookup x3 = some .local) (n12 : x1 ≠ x2) (n13 : x1 ≠ x3) (n23 : x2 ≠ x3)
    (hCI : C ≠ I) (hDI : D ≠ I) (hDC : D ≠ C) (hIL : L ≠ I) (hCL : C ≠ L) (hI₀ : h₀.get? I = none) (hC₀ : h₀.get? C = none) (hax : ax ≠ I)
    (hit : s.heap.IsListIter I ax 0) (hn : s.heap.Ns C m0) (F : Fr h₀ L s.heap m) (N : News h₀ L s.heap ((D, o0) :: news)) (off : Off3 I C D news) (hacc : AccIs st0 o0) (hJ : J 0 st0 news)
    (src : ∀ i st nw, J i st nw → SrcAt h₀ ax its nw)
    (tup : ∀ i st nw v, J i st nw → its[i]? = some v → ∃ t v1 v2 v3 k, v = .ref t ∧ (t, ({ cls := .type "tuple", data := .seq #[v1, v2, v3] k } : Obj)) ∈ nw ∧
      ∀ oI oC o m₂ h tk E', NsObj oC m₂ → m₂ x1 = some v1 → m₂ x2 = some v2 → m₂ x3 = some v3 → Fr h₀ L h m → News h₀ L h ((I, oI) :: (C, oC) :: (D, o) :: nw) → Off3 I C D nw → AccIs st o → oI.cls = .type "list_iterator" →
        wpAny (model prog w) A (forIn ifs true fun c r => if r = true then do let ok ← isTrue c (compEnvC scope cl C env) (eval c (compEnvC scope cl C env)); pure (ForInStep.yield ok) else pure (ForInStep.yield r)) (fun ok s₃ =>
            if ok = true then wpAny (model prog w) A fin (fun _ s₄ => TurnEnd AccIs J h₀ L m { s with heap := h, toks := tk } I oI C oC D (i + 1) s₄) E' s₃
            else TurnEnd AccIs J h₀ L m { s with heap := h, toks := tk } I oI C oC D (i + 1) s₃) E' { s with heap := h, toks := tk })
    (hend : ∀ h tk m' st nw o, Fr h₀ L h m → News h₀ L h ((D, o) :: nw) → Off3 I C D nw → h.Ns C m' → AccIs st o → J its.size st nw → R (.ok .next) { s with heap := h, toks := tk }) :
    codeAny (model prog w) A (.compLoop ce 0 (.ref I) (.ref D) (compEnvC scope cl C env)) R s := by
  have W := Walks.list (prog := prog) (w := w) hh I ax hax its
  refine loop3 (fun k s' => ∃ h' tk i st o m' nw, s' = { s with heap := h', toks := tk } ∧ i ≤ its.size ∧ k = its.size + 1 - i ∧ h'.IsListIter I ax i ∧ Fr h₀ L h' m ∧ h'.Ns C m' ∧ News h₀ L h' ((D, o) :: nw) ∧ Off3 I C D nw ∧ AccIs st o ∧ J i st nw)
    hq hun hden hct ?_ (its.size + 1) ⟨_, _, 0, st0, o0, m0, news, rfl, Nat.zero_le _, rfl, hit, F, hn, N, off, hacc, hJ⟩
  rintro k s' ⟨h', tk, i, st, o, m', nw, rfl, hi, rfl, hit', F', hn', N', off', hacc', J'⟩
  have Sx := (src _ _ _ J')
  have hl : h'.IsList ax its := Sx.list F'.keep fun p hp => N' p (List.mem_cons_of_mem _ hp)
  have off3 := off'.mem
  by_cases hlt : i < its.size
  · refine W.item i _ _ _ hlt ⟨hit', hl⟩ fun v h₂ tk₂ hv hst₂ hk₂ => ?_
    obtain ⟨t, v1, v2, v3, kt, rfl, hmt, turn⟩ := tup i st nw v J' hv
    have N₂ : News h₀ L h₂ ((D, o) :: nw) := LCg.news_but N' hk₂ fun p hp => by
      rcases List.mem_cons.mp hp with rfl | hp
      · exact hDI
      · exact (off3 p hp).1
    have F₂ := LCg.fr_but F' hk₂ hIL hI₀
    have hn₂ : h₂.Ns C m' := hn'.at' fun o e => hk₂ _ o (by simpa using hCI) e
    refine bind3 hh hkind hx1 hx2 hx3 n12 n13 n23 hst₂.1 ⟨_, (N₂ _ (List.mem_cons_of_mem _ hmt)).1, rfl, kt, rfl⟩ hn₂ fun h₃ m₂ tk₃ hn₃ e1 e2 e3 hk₃ => ?_
    obtain ⟨oC, heC, hoC⟩ := ns_obj hn₃
    obtain ⟨oI, heI, hcI, hdI⟩ := hst₂.1
    have keepL : L ≠ C := Ne.symm hCL
    have F₃ : Fr h₀ L h₃ m := ⟨F₂.ns.at' fun o e => hk₃ _ o keepL e, fun b o e => hk₃ b o (fun q => by rw [q, hC₀] at e; cases e) (F₂.keep b o e), F₂.above⟩
    have N₃ : News h₀ L h₃ ((I, oI) :: (C, oC) :: (D, o) :: nw) := fun p hp => by
      rcases List.mem_cons.mp hp with rfl | hp
      · exact ⟨hk₃ _ _ (Ne.symm hCI) heI, Ne.symm hIL, hI₀⟩
      rcases List.mem_cons.mp hp with rfl | hp
      · exact ⟨heC, hCL, hC₀⟩
      · have z := N₂ p hp
        refine ⟨hk₃ _ _ ?_ z.1, z.2⟩
        rcases List.mem_cons.mp hp with rfl | hp
        · exact hDC
        · exact (off3 p hp).2.1
    have fin : ∀ s₄, TurnEnd AccIs J h₀ L m { s with heap := h₃, toks := tk₃ } I oI C oC D (i + 1) s₄ → ∃ k', k' < its.size + 1 - i ∧ ∃ h' tk i st o m' nw, s₄ = { s with heap := h', toks := tk } ∧ i ≤ its.size ∧ k' = its.size + 1 - i ∧ h'.IsListIter I ax i ∧ Fr h₀ L h' m ∧ h'.Ns C m' ∧ News h₀ L h' ((D, o) :: nw) ∧ Off3 I C D nw ∧ AccIs st o ∧ J i st nw := by
      rintro s₄ ⟨h₄, tk₄, nw₄, st₄, o₄, rfl, F₄, N₄, off₄, ha₄, J₄⟩
      refine ⟨its.size + 1 - (i + 1), by lia, h₄, tk₄, i + 1, st₄, o₄, m₂, nw₄, rfl, hlt, rfl, ⟨oI, (N₄ _ (.head _)).1, hcI, hdI⟩, F₄, hoC.ns (N₄ _ (.tail _ (.head _))).1, fun p hp => N₄ p (.tail _ (.tail _ hp)), off₄, ha₄, J₄⟩
    refine wpAny_mono (turn oI oC o m₂ h₃ tk₃ _ hoC e1 e2 e3 F₃ N₃ off' hacc' hcI) (fun ok s₃ h₃' => ?_) fun _ _ e => e
    cases ok with
    | true =>
      simp only [if_true] at h₃' ⊢
      exact wpAny_mono h₃' (fun _ s₄ h₄ => fin s₄ h₄) fun _ _ e => e
    | false =>
      simp only [Bool.false_eq_true, if_false] at h₃' ⊢
      exact fin _ h₃'
  · obtain rfl : i = its.size := Nat.le_antisymm hi (Nat.not_lt.mp hlt)
    refine W.done _ _ _ ⟨hit', hl⟩ fun h₂ tk₂ hk₂ => ?_
    exact hend h₂ tk₂ m' st nw o (LCg.fr_but F' hk₂ hIL hI₀) (LCg.news_but N' hk₂ fun p hp => by
      rcases List.mem_cons.mp hp with rfl | hp
      · exact hDI
      · exact (off3 p hp).1) off' (hn'.at' fun o e => hk₂ _ o (by simpa using hCI) e) hacc' J'
end
end Mine
end
section
open PySem PySem.W PyProof.Rows PySem.Calls PySem.Spec
open PyProof.Rows.LCg (NsObj ns_obj Off3 Off1 SrcAt lst lst_snoc)
namespace Mine
section
variable {prog : Program} {w : World} {A : Around} {E : Value → Shared → Prop} {R : Result → Shared → Prop} {s : Shared} {h₀ : Heap} {L : Addr} {m : Str → Option Value} {env : Env}
/-- what one turn does -/
noncomputable def Turn3 {σ : Type} (AccIs : σ → Obj → Prop) (J : Nat → σ → List (Addr × Obj) → Prop) (prog : Program) (w : World) (A : Around) (h₀ : Heap) (L : Addr) (m : Str → Option Value) (env : Env) (scope : Scope) (cl : List (Str × Addr)) (x1 x2 x3 : Str) (ifs : List PySem.Expr) (fin : Addr → Env → Sem Unit) (its : Array Value) (s : Shared) : Prop :=
  ∀ I C D i st nw v, I ≠ L → C ≠ L → D ≠ L → C ≠ I → D ≠ I → D ≠ C → J i st nw → its[i]? = some v → ∃ t v1 v2 v3 k, v = .ref t ∧ (t, ({ cls := .type "tuple", data := .seq #[v1, v2, v3] k } : Obj)) ∈ nw ∧
      ∀ oI oC o m₂ h tk E', NsObj oC m₂ → m₂ x1 = some v1 → m₂ x2 = some v2 → m₂ x3 = some v3 → Fr h₀ L h m → News h₀ L h ((I, oI) :: (C, oC) :: (D, o) :: nw) → Off3 I C D nw → AccIs st o → oI.cls = .type "list_iterator" →
        wpAny (model prog w) A (forIn ifs true fun c r => if r = true then do let ok ← isTrue c (compEnvC scope cl C env) (eval c (compEnvC scope cl C env)); pure (ForInStep.yield ok) else pure (ForInStep.yield r)) (fun ok s₃ =>
            if ok = true then wpAny (model prog w) A (fin D (compEnvC scope cl C env)) (fun _ s₄ => TurnEnd AccIs J h₀ L m { s with heap := h, toks := tk } I oI C oC D (i + 1) s₄) E' s₃
            else TurnEnd AccIs J h₀ L m { s with heap := h, toks := tk } I oI C oC D (i + 1) s₃) E' { s with heap := h, toks := tk }
theorem block3 {σ : Type} {AccIs : σ → Obj → Prop} {J : Nat → σ → List (Addr × Obj) → Prop} {ce : PySem.Expr} {x1 x2 x3 : Str} {p1 p2 p3 : Pos} {tc} {tp ip : Pos} {ifs : List PySem.Expr} {scope : Scope} {cl : List (Str × Addr)} {ax : Addr} {its : Array Value} {fin : Addr → Env → Sem Unit} {st0 : σ} {o0 : Obj} {news : List (Addr × Obj)} {newAcc : Sem Value} {RR : Value → Addr → Result → Shared → Prop}
    (hq : ∀ I D C, (Code.compLoop ce 0 (.ref I) (.ref D) (compEnvC scope cl C env)).quiet = true) (hun : ∀ I D C, A.under (.compLoop ce 0 (.ref I) (.ref D) (compEnvC scope cl C env)) = A)
    (hden : ∀ I D C, (model prog w).den (.compLoop ce 0 (.ref I) (.ref D) (compEnvC scope cl C env)) = (compTurn ce 0 (.ref I) (.ref D) (compEnvC scope cl C env)).onRaise (fun x => do noteFrame x (compEnvC scope cl C env); theTreesLotGoes x))
    (hct : ∀ I D C, compTurn ce 0 (.ref I) (.ref D) (compEnvC scope cl C env) = (do
      standAt ip
      match ← pyNext (.ref I) with
      | none => pure (.done .next)
      | some v =>
        letOwnedTupleGo (trip x1 x2 x3 p1 p2 p3 tc tp) (.ref I) v
        assign (trip x1 x2 x3 p1 p2 p3 tc tp) (compEnvC scope cl C env) v
        let mut ok := true
        for c in ifs do
          if ok then ok ← isTrue c (compEnvC scope cl C env) (eval c (compEnvC scope cl C env))
        if ok then
          fin D (compEnvC scope cl C env)
        again (.compLoop ce 0 (.ref I) (.ref D) (compEnvC scope cl C env))))
    (hnew : ∀ (s : Shared) (Q : Value → Shared → Prop), Q (.ref s.heap.objs.size) { s with heap := s.heap.push o0 } → wpAny (model prog w) A newAcc Q E s) (ho0 : o0.isFreed = false)
    (hstart : ∀ (it acc : Value) (cenv : Env) (R : Result → Shared → Prop) (s : Shared), codeAny (model prog w) A (.compLoop ce 0 it acc cenv) R s → wpAny (model prog w) A (pyIter it) (fun it' s' => codeAny (model prog w) A (.compLoop ce 0 it' acc cenv) R s') (notedBy (model prog w) A cenv fun x s' => R (.error x) s') s → codeAny (model prog w) A (.compStart ce 0 it acc cenv) R s)
    (hcell : ∀ y ∈ scope.names, y.2 ≠ .cell) (hh : A.handled = none) (hkind : scope.kind = .function) (hx1 : scope.names.lookup x1 = some .local) (hx2 : scope.names.lookup x2 = some .local) (hx3 : scope.names.lookup x3 = some .local) (n12 : x1 ≠ x2) (n13 : x1 ≠ x3) (n23 : x2 ≠ x3)
    (F : Fr h₀ L s.heap m) (N : News h₀ L s.heap news) (hacc : AccIs st0 o0) (hJ : J 0 st0 news) (src : ∀ i st nw, J i st nw → SrcAt h₀ ax its nw)
    (turn : Turn3 AccIs J prog w A h₀ L m env scope cl x1 x2 x3 ifs fin its s)
    (hend : ∀ C D h tk m' st nw o, Fr h₀ L h m → News h₀ L h ((D, o) :: nw) → (∀ p ∈ nw, p.1 ≠ C ∧ p.1 ≠ D) → h₀.get? C = none → C ≠ L → D ≠ C → h.Ns C m' → AccIs st o → J its.size st nw → (D == sysModules) = false → RR (.ref D) C (.ok .next) { s with heap := h, toks := tk }) :
    wpAny (model prog w) A (pyIter (.ref ax)) (fun it s₂ => wpAny (model prog w) A newAcc (fun acc s₃ => wpAny (model prog w) A (newFunctionEnv scope env.globals cl [] env.qual none .none (some env)) (fun cenv s₄ =>
      codeAny (model prog w) A (.compStart ce 0 it acc { cenv with scope := relabel scope env }) (RR acc cenv.locals) s₄) E s₃) E s₂) E s := by
  have hl : s.heap.IsList ax its := (src _ _ _ hJ).list F.keep N
  have hlt : ax < s.heap.objs.size := by obtain ⟨_, e, _⟩ := hl; exact Heap.lt_size e
  refine wpAny_pyIter_list hl (hnew _ _ (wpAny_newFunctionEnv hcell (by intro y hy; simp at hy) (fun h₁ hns₁ hsb₁ => ?_) hkind))
  dsimp only at hns₁ hsb₁ ⊢
  obtain ⟨I, hI⟩ : ∃ I, I = s.heap.objs.size := ⟨_, rfl⟩
  obtain ⟨H1, hH1⟩ : ∃ H, H = s.heap.push { cls := .type "list_iterator", data := .fields #[.ref ax, .int 0 0] } := ⟨_, rfl⟩
  obtain ⟨D, hD⟩ : ∃ D, D = H1.objs.size := ⟨_, rfl⟩
  obtain ⟨H2, hH2⟩ : ∃ H, H = H1.push o0 := ⟨_, rfl⟩
  obtain ⟨C, hC⟩ : ∃ C, C = H2.objs.size := ⟨_, rfl⟩
  rw [← hI]
  rw [← hH1] at hns₁ hsb₁ ⊢
  rw [← hH2] at hns₁ hsb₁ ⊢
  rw [← hD]
  rw [← hC] at hns₁ hsb₁ ⊢
  have eD : D = I + 1 := by rw [hD, hH1, Heap.size_push, hI]
  have eC : C = I + 2 := by rw [hC, hH2, Heap.size_push, ← hD, eD]
  have lL : L < I := hI ▸ F.ns.lt
  have aI : ax < I := hI ▸ hlt
  have ltI : ∀ b o, s.heap.get? b = some o → b < I := fun b o e => hI ▸ Heap.lt_size e
  have fresh : ∀ a, I ≤ a → h₀.get? a = none := fun a ha => by
    cases e : h₀.get? a with
    | none => rfl
    | some o' => exact absurd (ltI _ _ (F.keep a o' e)) (Nat.not_lt.mpr ha)
  have old1 : ∀ b o, s.heap.get? b = some o → H1.get? b = some o := fun b o e => hH1 ▸ Heap.get?_push_of_some _ e
  have old2 : ∀ b o, H1.get? b = some o → H2.get? b = some o := fun b o e => hH2 ▸ Heap.get?_push_of_some _ e
  have old : ∀ b o, s.heap.get? b = some o → h₁.get? b = some o := fun b o e => hsb₁.extBut b o (Nat.ne_of_lt (Nat.lt_trans (ltI b o e) (show @LT.lt Nat _ I C by lia))) (Heap.get?_push_of_some _ (old2 b o (old1 b o e)))
  have nCI : C ≠ I := Nat.ne_of_gt (show @LT.lt Nat _ I C by lia)
  have nDI : D ≠ I := Nat.ne_of_gt (show @LT.lt Nat _ I D by lia)
  have nDC : D ≠ C := Nat.ne_of_lt (show @LT.lt Nat _ D C by lia)
  have nIL : I ≠ L := Nat.ne_of_gt lL
  have nCL : C ≠ L := Nat.ne_of_gt (Nat.lt_trans lL (show @LT.lt Nat _ I C by lia))
  have nDL : D ≠ L := Nat.ne_of_gt (Nat.lt_trans lL (show @LT.lt Nat _ I D by lia))
  have gI : h₁.get? I = some { cls := .type "list_iterator", data := .fields #[.ref ax, .int 0 0] } := hsb₁.extBut _ _ (Ne.symm nCI) (Heap.get?_push_of_some _ (old2 _ _ (by rw [hI, hH1]; exact Heap.get?_push_size _ rfl)))
  have gD : h₁.get? D = some o0 := hsb₁.extBut _ _ nDC (Heap.get?_push_of_some _ (by rw [hH2, hD]; exact Heap.get?_push_size _ ho0))
  have F1 : Fr h₀ L h₁ m := F.keeps old
  have N1 : News h₀ L h₁ ((D, o0) :: news) := fun p hp => by
    rcases List.mem_cons.mp hp with rfl | hp
    · exact ⟨gD, nDL, fresh _ (by lia)⟩
    · exact ⟨old _ _ (N p hp).1, (N p hp).2⟩
  have off : Off3 I C D news := Off3.of fun p hp => by
    have := ltI _ _ (N p hp).1
    exact ⟨Nat.ne_of_lt this, Nat.ne_of_lt (Nat.lt_trans this (show @LT.lt Nat _ I C by lia)), Nat.ne_of_lt (Nat.lt_trans this (show @LT.lt Nat _ I D by lia))⟩
  have loop : ∀ s₃ : Shared, (∃ tk, s₃ = { s with heap := h₁, toks := tk }) → codeAny (model prog w) A (.compLoop ce 0 (.ref I) (.ref D) (compEnvC scope cl C env)) (RR (.ref D) C) s₃ := by
    rintro s₃ ⟨tk, rfl⟩
    refine walk3 (AccIs := AccIs) (J := J) (fin := fin D (compEnvC scope cl C env)) (its := its) (ax := ax) (m0 := _) (h₀ := h₀) (L := L) (m := m) (st0 := st0) (o0 := o0) (news := news) (s := { s with heap := h₁, toks := tk }) (hq I D C) (hun I D C) (hden I D C) (hct I D C) hh hkind hx1 hx2 hx3 n12 n13 n23 nCI nDI nDC (Ne.symm nIL) nCL (fresh _ (by lia)) (fresh _ (by lia)) (Nat.ne_of_lt aI)
      ⟨_, gI, rfl, rfl⟩ hns₁ F1 N1 off hacc hJ src (fun i st nw v hj hv => turn I C D i st nw v nIL nCL nDL nCI nDI nDC hj hv) ?_
    intro h tk m' st nw o F' N' off' hn' ha' hj'
    exact hend C D h tk m' st nw o F' N' (fun p hp => ⟨(off'.mem p hp).2.1, (off'.mem p hp).2.2⟩) (fresh _ (by lia)) nCL nDC hn' ha' hj' (beq_eq_false_iff_ne.mpr (by intro q; have q2 : D = 1 := q; have z : @LT.lt Nat _ L I := lL; lia))
  refine hstart _ _ _ _ _ (loop _ ⟨_, rfl⟩) ?_
  exact wpAny_pyIter_listiter (l := ax) (i := 0) ⟨_, gI, rfl, rfl⟩ (loop _ ⟨_, rfl⟩)
end
end Mine
end
section
open PySem PySem.W PyProof.Rows PySem.Calls PySem.Spec
open PyProof.Rows.LCg (NsObj ns_obj Off3 Off1 SrcAt lst lst_snoc)
namespace Mine
section
variable {prog : Program} {w : World} {A : Around} {E : Value → Shared → Prop} {R : Result → Shared → Prop} {s : Shared} {h₀ : Heap} {L : Addr} {m : Str → Option Value} {env : Env}
/-- what a turn leaves behind, the sum still as it was -/
noncomputable def Left3 {σ : Type} (J : Nat → σ → List (Addr × Obj) → Prop) (h₀ : Heap) (L : Addr) (m : Str → Option Value) (s₁ : Shared) (I : Addr) (oI : Obj) (C : Addr) (oC : Obj) (D : Addr) (o : Obj) (i : Nat) (st : σ) (s₂ : Shared) : Prop :=
  ∃ h' tk nw, s₂ = { s₁ with heap := h', toks := tk } ∧ Fr h₀ L h' m ∧ News h₀ L h' ((I, oI) :: (C, oC) :: (D, o) :: nw) ∧ Off3 I C D nw ∧ J i st nw
noncomputable def TurnL (J : Nat → List Value → List (Addr × Obj) → Prop) (prog : Program) (w : World) (A : Around) (h₀ : Heap) (L : Addr) (m : Str → Option Value) (env : Env) (scope : Scope) (cl : List (Str × Addr)) (x1 x2 x3 : Str) (ifs : List PySem.Expr) (elt : PySem.Expr) (its : Array Value) (s : Shared) : Prop :=
  ∀ I C D i st nw v, I ≠ L → C ≠ L → D ≠ L → C ≠ I → D ≠ I → D ≠ C → J i st nw → its[i]? = some v → ∃ t v1 v2 v3 k, v = .ref t ∧ (t, ({ cls := .type "tuple", data := .seq #[v1, v2, v3] k } : Obj)) ∈ nw ∧
      ∀ oI oC m₂ h tk E', NsObj oC m₂ → m₂ x1 = some v1 → m₂ x2 = some v2 → m₂ x3 = some v3 → Fr h₀ L h m → News h₀ L h ((I, oI) :: (C, oC) :: (D, lst st) :: nw) → Off3 I C D nw → oI.cls = .type "list_iterator" →
        wpAny (model prog w) A (forIn ifs true fun c r => if r = true then do let ok ← isTrue c (compEnvC scope cl C env) (eval c (compEnvC scope cl C env)); pure (ForInStep.yield ok) else pure (ForInStep.yield r)) (fun ok s₃ =>
            if ok = true then wpAny (model prog w) A (eval elt (compEnvC scope cl C env)) (fun y s₄ => Left3 J h₀ L m { s with heap := h, toks := tk } I oI C oC D (lst st) (i + 1) (st ++ [y]) s₄) E' s₃
            else Left3 J h₀ L m { s with heap := h, toks := tk } I oI C oC D (lst st) (i + 1) st s₃) E' { s with heap := h, toks := tk }
theorem turnL {J : Nat → List Value → List (Addr × Obj) → Prop} {scope : Scope} {cl : List (Str × Addr)} {x1 x2 x3 : Str} {ifs : List PySem.Expr} {elt : PySem.Expr} {its : Array Value} (hlen : ∀ i st nw, J i st nw → st.length ≤ 1000) (hL : h₀.get? L = none)
    (T : TurnL J prog w A h₀ L m env scope cl x1 x2 x3 ifs elt its s) :
    Turn3 (fun st o => o = lst st) J prog w A h₀ L m env scope cl x1 x2 x3 ifs (fun D env => (do let _ ← call (.builtin "list.append") [.ref D, ← eval elt env])) its s := by
  intro I C D i st nw v a1 a2 a3 a4 a5 a6 hj hv
  obtain ⟨t, v1, v2, v3, k, rfl, hm, T'⟩ := T I C D i st nw v a1 a2 a3 a4 a5 a6 hj hv
  refine ⟨t, v1, v2, v3, k, rfl, hm, ?_⟩
  rintro oI oC o m₂ h tk E' b1 b2 b3 b4 F N off rfl bI
  refine wpAny_mono (T' oI oC m₂ h tk E' b1 b2 b3 b4 F N off bI) (fun ok s₃ h₃ => ?_) fun _ _ e => e
  cases ok with
  | false =>
    simp only [Bool.false_eq_true, if_false] at h₃ ⊢
    obtain ⟨h', tk', nw', rfl, F', N', off', J'⟩ := h₃
    exact ⟨h', tk', nw', st, lst st, rfl, F', N', off', rfl, J'⟩
  | true =>
    simp only [if_true] at h₃ ⊢
    refine wpAny_bind (wpAny_mono h₃ (fun y s₄ h₄ => ?_) fun _ _ e => e)
    obtain ⟨h', tk', nw', rfl, F', N', off', J'⟩ := h₄
    have nD := N' (D, lst st) (.tail _ (.tail _ (.head _)))
    refine wpAny_bind (append_at (hsz := by show st.toArray.size ≤ sizeLine; rw [List.size_toArray, sizeLine_eq]; have := hlen _ _ _ hj; lia) nD.1 fun h5 hs5 hD5 => wpAny_pure ?_)
    refine ⟨h5, tk', nw', st ++ [y], lst (st ++ [y]), rfl, F'.change hs5 nD.2.1 nD.2.2, fun p hp => ?_, off', rfl, J'⟩
    rcases List.mem_cons.mp hp with rfl | hp
    · exact ⟨hs5.extBut _ _ (Ne.symm a5) (N' _ (.head _)).1, (N' _ (.head _)).2⟩
    rcases List.mem_cons.mp hp with rfl | hp
    · exact ⟨hs5.extBut _ _ (Ne.symm a6) (N' _ (.tail _ (.head _))).1, (N' _ (.tail _ (.head _))).2⟩
    rcases List.mem_cons.mp hp with rfl | hp
    · exact ⟨hD5.trans (congrArg some (lst_snoc st y)), nD.2⟩
    · have z := N' p (.tail _ (.tail _ (.tail _ hp)))
      exact ⟨hs5.extBut _ _ (off'.mem p hp).2.2 z.1, z.2⟩
theorem compPost_end {use : Option (Value → Sem Unit)} {Q : Value → Shared → Prop} {C D : Addr} {h : Heap} {tk : Nat} {m' : Str → Option Value} {nw : List (Addr × Obj)} {o : Obj} (hu : use = none)
    (F : Fr h₀ L h m) (N : News h₀ L h ((D, o) :: nw)) (off : ∀ p ∈ nw, p.1 ≠ C ∧ p.1 ≠ D) (hC : h₀.get? C = none) (hCL : C ≠ L) (hDC : D ≠ C) (hn : h.Ns C m') (Qd : ∀ h', Fr h₀ L h' m → News h₀ L h' ((D, o) :: nw) → Q (.ref D) { s with heap := h', toks := tk }) :
    compPost (model prog w) A E use Q (.ref D) C (.ok .next) { s with heap := h, toks := tk } := by
  subst hu
  refine ⟨m', hn, fun h'' hs'' => Qd h'' (F.change hs'' hCL hC) fun p hp => ?_⟩
  refine ⟨hs''.extBut _ _ ?_ (N p hp).1, (N p hp).2⟩
  rcases List.mem_cons.mp hp with rfl | hp
  · exact hDC
  · exact (off p hp).1
/-- where the turns run: the list, its tuples, and the end -/
noncomputable def Src3 (T : (J : Nat → List Value → List (Addr × Obj) → Prop) → (its : Array Value) → Prop) (h₀ : Heap) (L : Addr) (m : Str → Option Value) (s : Shared) (Fin : Addr → List Value → List (Addr × Obj) → Heap → Nat → Prop) (xv : Value) (s₁ : Shared) : Prop :=
  ∃ ax its news h tk J, xv = .ref ax ∧ s₁ = { s with heap := h, toks := tk } ∧ Fr h₀ L h m ∧ News h₀ L h news ∧ J 0 [] news ∧ (∀ i st nw, J i st nw → SrcAt h₀ ax its nw) ∧ (∀ i st nw, J i st nw → st.length ≤ 1000) ∧ T J its ∧
    ∀ D st nw h tk, J its.size st nw → (∀ p ∈ nw, p.1 ≠ D) → Fin D st nw h tk
theorem fr_none {h : Heap} (F : Fr h₀ L h m) : h₀.get? L = none := Heap.get?_none_of_le F.above
theorem ListComp_3 {elt iter : PySem.Expr} {x1 x2 x3 : Str} {p1 p2 p3 : Pos} {tc} {tp : Pos} {ifs : List PySem.Expr} {scope : Scope} {cl : List (Str × Addr)} {pos : Pos} {Q : Value → Shared → Prop}
    (hcl : closureFor scope env = pure cl) (hcell : ∀ y ∈ scope.names, y.2 ≠ .cell) (hh : A.handled = none) (hkind : scope.kind = .function) (hnames : ∀ y ∈ scope.names, y.2 = .local → scope.names.lookup y.1 = some .local)
    (hx1 : scope.names.lookup x1 = some .local) (hx2 : scope.names.lookup x2 = some .local) (hx3 : scope.names.lookup x3 = some .local) (n12 : x1 ≠ x2) (n13 : x1 ≠ x3) (n23 : x2 ≠ x3)
    (h : wpAny (model prog w) A (eval iter env) (Src3 (fun J its => ∀ h tk, TurnL J prog w A h₀ L m env scope cl x1 x2 x3 ifs elt its { s with heap := h, toks := tk }) h₀ L m s (fun D st nw h tk => Fr h₀ L h m → News h₀ L h ((D, lst st) :: nw) → Q (.ref D) { s with heap := h, toks := tk })) E s)
    (hs : ∀ x, foldedSetIterable iter env x = pure x := by intro _; rfl)
    (hun : ∀ c : Value × Value × Env, A.under (.compLoop (.ListComp elt [⟨trip x1 x2 x3 p1 p2 p3 tc tp, iter, ifs, 0⟩] scope pos) 0 c.1 c.2.1 c.2.2) = A := by intro _; rfl) :
    wpAny (model prog w) A (eval (.ListComp elt [⟨trip x1 x2 x3 p1 p2 p3 tc tp, iter, ifs, 0⟩] scope pos) env) Q E s := by
  rw [eval_ListComp]
  refine wpAny_comprehension_free (use := none) rfl hs hcl hkind hnames (wpAny_mono h (fun xv s₁ h₁ => ?_) fun _ _ e => e)
  obtain ⟨ax, its, news, h, tk, J, rfl, rfl, F, N, hJ, src, hlen, T, fin⟩ := h₁
  refine block3 (s := { s with heap := h, toks := tk }) (AccIs := fun st o => o = lst st) (J := J) (o0 := lst []) (st0 := []) (its := its) (news := news) (h₀ := h₀) (L := L) (m := m) (RR := fun acc C => compPost (model prog w) A E none Q acc C) (fun _ _ _ => rfl) (fun I D C => hun (Value.ref I, Value.ref D, _)) (fun _ _ _ => rfl) (fun I D C => compTurn_list ..) (fun s' Q' hq => wpAny_newObj_type hq) rfl
    (fun it acc cenv R s h0 h => codeAny_compStart_list h0 h) hcell hh hkind hx1 hx2 hx3 n12 n13 n23 F N rfl hJ src (turnL hlen (fr_none F) (T h tk)) ?_
  intro C D h' tk' m' st nw o F' N' off hC hCL hDC hn hst hj _
  subst hst
  exact compPost_end rfl F' N' off hC hCL hDC hn fun h'' F'' N'' => fin D st nw h'' tk' hj (fun p hp => (off p hp).2) F'' N''
theorem Assign_ListComp_3 {elt iter : PySem.Expr} {x1 x2 x3 y : Str} {p1 p2 p3 py : Pos} {tc} {tp : Pos} {ifs : List PySem.Expr} {scope : Scope} {cl : List (Str × Addr)} {pos spos : Pos} {Q : Flow → Shared → Prop} (hLe : env.locals = L)
    (hsw : swapsWith (.ListComp elt [⟨trip x1 x2 x3 p1 p2 p3 tc tp, iter, ifs, 0⟩] scope pos) (some (.Name y py)) spos.line env = pure true)
    (hcl : closureFor scope env = pure cl) (hcell : ∀ y ∈ scope.names, y.2 ≠ .cell) (hh : A.handled = none) (hkind : scope.kind = .function) (hnames : ∀ y ∈ scope.names, y.2 = .local → scope.names.lookup y.1 = some .local)
    (hx1 : scope.names.lookup x1 = some .local) (hx2 : scope.names.lookup x2 = some .local) (hx3 : scope.names.lookup x3 = some .local) (n12 : x1 ≠ x2) (n13 : x1 ≠ x3) (n23 : x2 ≠ x3)
    (hy : env.kindOf y = some .local) (hp : (env.scope.kind == .class || (env.scope.kind == .module && env.locals != env.globals)) = false)
    (h : wpAny (model prog w) A (eval iter env) (Src3 (fun J its => ∀ h tk, TurnL J prog w A h₀ L m env scope cl x1 x2 x3 ifs elt its { s with heap := h, toks := tk }) h₀ L m s (fun D st nw h tk => Fr h₀ L h (fun z => if z = y then some (.ref D) else m z) → News h₀ L h ((D, lst st) :: nw) → Q .next { s with heap := h, toks := tk })) E s)
    (hs : ∀ x, foldedSetIterable iter env x = pure x := by intro _; rfl)
    (hun : ∀ c : Value × Value × Env, A.under (.compLoop (.ListComp elt [⟨trip x1 x2 x3 p1 p2 p3 tc tp, iter, ifs, 0⟩] scope pos) 0 c.1 c.2.1 c.2.2) = A := by intro _; rfl) :
    wpAny (model prog w) A (exec (.Assign [.Name y py] (.ListComp elt [⟨trip x1 x2 x3 p1 p2 p3 tc tp, iter, ifs, 0⟩] scope pos) spos) env) Q E s := by
  subst hLe
  rw [exec_Assign_Name_used _ _ _ _ hsw]
  refine wpAny_bind (wpAny_standAt (wpAny_bind ?_))
  show wpAny _ A (do let _ ← comprehension (.ListComp elt [⟨trip x1 x2 x3 p1 p2 p3 tc tp, iter, ifs, 0⟩] scope pos) scope env _ (newList []) false (eval iter env) (some (assign (.Name y py) env))) _ _ s
  refine wpAny_bind (wpAny_mono (wpAny_comprehension_free (use := some (assign (.Name y py) env)) (Q := fun _ s' => Q .next s') rfl hs hcl hkind hnames
    (wpAny_mono h (fun xv s₁ h₁ => ?_) fun _ _ e => e)) (fun _ s' hq => wpAny_pure (wpAny_pure hq)) fun _ _ e => e)
  obtain ⟨ax, its, news, h, tk, J, rfl, rfl, F, N, hJ, src, hlen, T, fin⟩ := h₁
  refine block3 (s := { s with heap := h, toks := tk }) (AccIs := fun st o => o = lst st) (J := J) (o0 := lst []) (st0 := []) (its := its) (news := news) (h₀ := h₀) (L := env.locals) (m := m) (RR := fun acc C => compPost (model prog w) A E (some (assign (.Name y py) env)) (fun _ s' => Q .next s') acc C) (fun _ _ _ => rfl) (fun I D C => hun (Value.ref I, Value.ref D, _)) (fun _ _ _ => rfl) (fun I D C => compTurn_list ..) (fun s' Q' hq => wpAny_newObj_type hq) rfl
    (fun it acc cenv R s h0 h => codeAny_compStart_list h0 h) hcell hh hkind hx1 hx2 hx3 n12 n13 n23 F N rfl hJ src (turnL hlen (fr_none F) (T h tk)) ?_
  intro C D h' tk' m' st nw o F' N' off hC hCL hDC hn hst hj _
  subst hst
  show wpAny _ A (assign (.Name y py) env (.ref D)) _ _ _
  refine wpAny_assign_Name (wpAny_storeName_local hy F'.ns (fun h₂ hn₂ hs₂ => ?_) hp)
  have hL₀ : h₀.get? env.locals = none := fr_none F'
  have F₂ : Fr h₀ env.locals h₂ (fun z => if z = y then some (.ref D) else m z) := ⟨hn₂, fun b o e => hs₂.extBut b o (fun q => by rw [q, hL₀] at e; cases e) (F'.keep b o e), F'.above⟩
  refine ⟨m', hn.sameBut hs₂ hCL, fun h'' hs'' => fin D st nw h'' _ hj (fun p hp => (off p hp).2) (F₂.change hs'' hCL hC) fun p hp => ?_⟩
  have z : h₂.get? p.1 = some p.2 := hs₂.extBut _ _ (N' p hp).2.1 (N' p hp).1
  refine ⟨hs''.extBut _ _ ?_ z, (N' p hp).2⟩
  rcases List.mem_cons.mp hp with rfl | hp
  · exact hDC
  · exact (off p hp).1
end
end Mine
end
section
open PySem PySem.W PyProof.Rows PySem.Calls PySem.Spec
open PyProof.Rows.LCg (NsObj ns_obj Off3 Off1 SrcAt lst lst_snoc)
namespace Mine
section
variable {prog : Program} {w : World} {A : Around} {E : Value → Shared → Prop} {R : Result → Shared → Prop} {s : Shared} {h₀ : Heap} {L : Addr} {m : Str → Option Value} {env : Env}
noncomputable def TurnD (J : Nat → List (Str × Value) → List (Addr × Obj) → Prop) (prog : Program) (w : World) (A : Around) (h₀ : Heap) (L : Addr) (m : Str → Option Value) (env : Env) (scope : Scope) (cl : List (Str × Addr)) (x1 x2 x3 : Str) (ifs : List PySem.Expr) (kx vx : PySem.Expr) (its : Array Value) (s : Shared) : Prop :=
  ∀ I C D i st nw v, I ≠ L → C ≠ L → D ≠ L → C ≠ I → D ≠ I → D ≠ C → J i st nw → its[i]? = some v → ∃ t v1 v2 v3 k, v = .ref t ∧ (t, ({ cls := .type "tuple", data := .seq #[v1, v2, v3] k } : Obj)) ∈ nw ∧
      ∀ oI oC o m₂ h tk E', NsObj oC m₂ → m₂ x1 = some v1 → m₂ x2 = some v2 → m₂ x3 = some v3 → Fr h₀ L h m → News h₀ L h ((I, oI) :: (C, oC) :: (D, o) :: nw) → Off3 I C D nw → oI.cls = .type "list_iterator" →
        wpAny (model prog w) A (forIn ifs true fun c r => if r = true then do let ok ← isTrue c (compEnvC scope cl C env) (eval c (compEnvC scope cl C env)); pure (ForInStep.yield ok) else pure (ForInStep.yield r)) (fun ok s₃ =>
            if ok = true then wpAny (model prog w) A (eval kx (compEnvC scope cl C env)) (fun kv s₄ => wpAny (model prog w) A (eval vx (compEnvC scope cl C env)) (fun vv s₅ => ∃ k, (strKind prog w).is k kv = true ∧ Left3 J h₀ L m { s with heap := h, toks := tk } I oI C oC D o (i + 1) (stored st k vv) s₅) E' s₄) E' s₃
            else Left3 J h₀ L m { s with heap := h, toks := tk } I oI C oC D o (i + 1) st s₃) E' { s with heap := h, toks := tk }
theorem turnD {J : Nat → List (Str × Value) → List (Addr × Obj) → Prop} {scope : Scope} {cl : List (Str × Addr)} {x1 x2 x3 : Str} {ifs : List PySem.Expr} {kx vx : PySem.Expr} {its : Array Value} {sp : Pos} (hlen : ∀ i st nw, J i st nw → st.length ≤ 1000)
    (T : TurnD J prog w A h₀ L m env scope cl x1 x2 x3 ifs kx vx its s) :
    Turn3 (fun st o => o.IsDictOf (strKind prog w) st) J prog w A h₀ L m env scope cl x1 x2 x3 ifs (fun D env => (do
            let kv ← eval kx env
            let vv ← holding [kv] (eval vx env)
            standAt sp
            holding [kv, vv] (dictSet D kv vv))) its s := by
  intro I C D i st nw v a1 a2 a3 a4 a5 a6 hj hv
  obtain ⟨t, v1, v2, v3, k, rfl, hm, T'⟩ := T I C D i st nw v a1 a2 a3 a4 a5 a6 hj hv
  refine ⟨t, v1, v2, v3, k, rfl, hm, ?_⟩
  rintro oI oC o m₂ h tk E' b1 b2 b3 b4 F N off ho bI
  refine wpAny_mono (T' oI oC o m₂ h tk E' b1 b2 b3 b4 F N off bI) (fun ok s₃ h₃ => ?_) fun _ _ e => e
  cases ok with
  | false =>
    simp only [Bool.false_eq_true, if_false] at h₃ ⊢
    obtain ⟨h', tk', nw', rfl, F', N', off', J'⟩ := h₃
    exact ⟨h', tk', nw', st, o, rfl, F', N', off', ho, J'⟩
  | true =>
    simp only [if_true] at h₃ ⊢
    refine wpAny_bind (wpAny_mono h₃ (fun kv s₄ h₄ => wpAny_bind (wpAny_holding (wpAny_mono h₄ (fun vv s₅ h₅ => wpAny_bind (wpAny_standAt (wpAny_holding ?_))) fun _ _ h' => h'))) fun _ _ e => e)
    obtain ⟨k, hk, h', tk', nw', rfl, F', N', off', J'⟩ := h₅
    have nD := N' (D, o) (.tail _ (.tail _ (.head _)))
    refine wpAny_dictSet_pairs (hsz := by rw [sizeLine_eq]; have := hlen _ _ _ hj; lia) hk (Heap.dictOf_iff.mpr ⟨o, nD.1, ho⟩) fun h5 hd5 hs5 => ?_
    obtain ⟨o5, ho5, hd5⟩ := Heap.dictOf_iff.mp hd5
    refine ⟨h5, _, nw', stored st k vv, o5, rfl, F'.change hs5 nD.2.1 nD.2.2, fun p hp => ?_, off', hd5, J'⟩
    rcases List.mem_cons.mp hp with rfl | hp
    · exact ⟨hs5.extBut _ _ (Ne.symm a5) (N' _ (.head _)).1, (N' _ (.head _)).2⟩
    rcases List.mem_cons.mp hp with rfl | hp
    · exact ⟨hs5.extBut _ _ (Ne.symm a6) (N' _ (.tail _ (.head _))).1, (N' _ (.tail _ (.head _))).2⟩
    rcases List.mem_cons.mp hp with rfl | hp
    · exact ⟨ho5, nD.2⟩
    · have z := N' p (.tail _ (.tail _ (.tail _ hp)))
      exact ⟨hs5.extBut _ _ (off'.mem p hp).2.2 z.1, z.2⟩
noncomputable def SrcD3 (prog : Program) (w : World) (T : (J : Nat → List (Str × Value) → List (Addr × Obj) → Prop) → (its : Array Value) → Prop) (h₀ : Heap) (L : Addr) (m : Str → Option Value) (s : Shared) (Fin : Addr → Obj → List (Str × Value) → List (Addr × Obj) → Heap → Nat → Prop) (xv : Value) (s₁ : Shared) : Prop :=
  ∃ ax its news h tk J, xv = .ref ax ∧ s₁ = { s with heap := h, toks := tk } ∧ Fr h₀ L h m ∧ News h₀ L h news ∧ J 0 [] news ∧ (∀ i st nw, J i st nw → SrcAt h₀ ax its nw) ∧ (∀ i st nw, J i st nw → st.length ≤ 1000) ∧ T J its ∧
    ∀ D o st nw h tk, J its.size st nw → o.IsDictOf (strKind prog w) st → (∀ p ∈ nw, p.1 ≠ D) → (D == sysModules) = false → Fin D o st nw h tk
theorem Assign_DictComp_3 {kx vx iter : PySem.Expr} {x1 x2 x3 y : Str} {p1 p2 p3 py : Pos} {tc} {tp : Pos} {ifs : List PySem.Expr} {scope : Scope} {cl : List (Str × Addr)} {pos spos : Pos} {Q : Flow → Shared → Prop} (hLe : env.locals = L)
    (hsw : swapsWith (.DictComp kx vx [⟨trip x1 x2 x3 p1 p2 p3 tc tp, iter, ifs, 0⟩] scope pos) (some (.Name y py)) spos.line env = pure true)
    (hcl : closureFor scope env = pure cl) (hcell : ∀ y ∈ scope.names, y.2 ≠ .cell) (hh : A.handled = none) (hkind : scope.kind = .function) (hnames : ∀ y ∈ scope.names, y.2 = .local → scope.names.lookup y.1 = some .local)
    (hx1 : scope.names.lookup x1 = some .local) (hx2 : scope.names.lookup x2 = some .local) (hx3 : scope.names.lookup x3 = some .local) (n12 : x1 ≠ x2) (n13 : x1 ≠ x3) (n23 : x2 ≠ x3)
    (hy : env.kindOf y = some .local) (hp : (env.scope.kind == .class || (env.scope.kind == .module && env.locals != env.globals)) = false)
    (h : wpAny (model prog w) A (eval iter env) (SrcD3 prog w (fun J its => ∀ h tk, TurnD J prog w A h₀ L m env scope cl x1 x2 x3 ifs kx vx its { s with heap := h, toks := tk }) h₀ L m s (fun D o st nw h tk => Fr h₀ L h (fun z => if z = y then some (.ref D) else m z) → News h₀ L h ((D, o) :: nw) → Q .next { s with heap := h, toks := tk })) E s)
    (hs : ∀ x, foldedSetIterable iter env x = pure x := by intro _; rfl)
    (hun : ∀ c : Value × Value × Env, A.under (.compLoop (.DictComp kx vx [⟨trip x1 x2 x3 p1 p2 p3 tc tp, iter, ifs, 0⟩] scope pos) 0 c.1 c.2.1 c.2.2) = A := by intro _; rfl) :
    wpAny (model prog w) A (exec (.Assign [.Name y py] (.DictComp kx vx [⟨trip x1 x2 x3 p1 p2 p3 tc tp, iter, ifs, 0⟩] scope pos) spos) env) Q E s := by
  subst hLe
  rw [exec_Assign_Name_used _ _ _ _ hsw]
  refine wpAny_bind (wpAny_standAt (wpAny_bind ?_))
  show wpAny _ A (do let _ ← comprehension (.DictComp kx vx [⟨trip x1 x2 x3 p1 p2 p3 tc tp, iter, ifs, 0⟩] scope pos) scope env _ newDict false (eval iter env) (some (assign (.Name y py) env))) _ _ s
  refine wpAny_bind (wpAny_mono (wpAny_comprehension_free (use := some (assign (.Name y py) env)) (Q := fun _ s' => Q .next s') rfl hs hcl hkind hnames
    (wpAny_mono h (fun xv s₁ h₁ => ?_) fun _ _ e => e)) (fun _ s' hq => wpAny_pure (wpAny_pure hq)) fun _ _ e => e)
  obtain ⟨ax, its, news, h, tk, J, rfl, rfl, F, N, hJ, src, hlen, T, fin⟩ := h₁
  refine block3 (s := { s with heap := h, toks := tk }) (AccIs := fun st o => o.IsDictOf (strKind prog w) st) (J := J) (o0 := { cls := .type "dict", dict := none, data := .dict #[] }) (st0 := []) (its := its) (news := news) (h₀ := h₀) (L := env.locals) (m := m) (RR := fun acc C => compPost (model prog w) A E (some (assign (.Name y py) env)) (fun _ s' => Q .next s') acc C) (fun _ _ _ => rfl) (fun I D C => hun (Value.ref I, Value.ref D, _)) (fun _ _ _ => rfl) (fun I D C => compTurn_dict ..) (fun s' Q' hq => wpAny_newObj_type hq) rfl
    (fun it acc cenv R s h0 h => codeAny_compStart_dict h0 h) hcell hh hkind hx1 hx2 hx3 n12 n13 n23 F N ?_ hJ src (turnD hlen (T h tk)) ?_
  · obtain ⟨o, ho, hd⟩ := Heap.dictOf_iff.mp (Heap.DictOf.new (knd := strKind prog w) h)
    rw [Heap.get?_push_size _ rfl] at ho
    exact Option.some.inj ho ▸ hd
  intro C D h' tk' m' st nw o F' N' off hC hCL hDC hn hst hj hDs
  show wpAny _ A (assign (.Name y py) env (.ref D)) _ _ _
  refine wpAny_assign_Name (wpAny_storeName_local hy F'.ns (fun h₂ hn₂ hs₂ => ?_) hp)
  have hL₀ : h₀.get? env.locals = none := fr_none F'
  have F₂ : Fr h₀ env.locals h₂ (fun z => if z = y then some (.ref D) else m z) := ⟨hn₂, fun b o e => hs₂.extBut b o (fun q => by rw [q, hL₀] at e; cases e) (F'.keep b o e), F'.above⟩
  refine ⟨m', hn.sameBut hs₂ hCL, fun h'' hs'' => fin D o st nw h'' _ hj hst (fun p hp => (off p hp).2) hDs (F₂.change hs'' hCL hC) fun p hp => ?_⟩
  have z : h₂.get? p.1 = some p.2 := hs₂.extBut _ _ (N' p hp).2.1 (N' p hp).1
  refine ⟨hs''.extBut _ _ ?_ z, (N' p hp).2⟩
  rcases List.mem_cons.mp hp with rfl | hp
  · exact hDC
  · exact (off p hp).1
end
end Mine
end
section
open PySem PySem.W PyProof.Rows PyProof.V PySem.Calls
namespace Mine
/-! table B.1 -/
noncomputable def b1L : List Int := [173, 847, 6150, 6155, 6156, 6157, 8203, 8204, 8205, 8288, 65279, 65024, 65025, 65026, 65027, 65028, 65029, 65030, 65031, 65032, 65033, 65034, 65035, 65036, 65037, 65038, 65039]
noncomputable def o137E : Obj → Array (Int × Value)
  | ⟨_, _, .set es _ _, _⟩ => es
  | _ => #[]
noncomputable def o137T : Obj → SetTable
  | ⟨_, _, .set _ _ t, _⟩ => t
  | _ => default
noncomputable def o137N : Obj → Nat
  | ⟨_, _, .set _ n _, _⟩ => n
  | _ => default
noncomputable def elemOk (e : Int × Value) : Bool := match e.2 with | .int k t => e.1 == hashInt k && (Value.int k t).scannable && b1L.contains k | _ => false
theorem b1_elems (P : Params) : ((o137E (o137 P)).toList.all elemOk) = true := by kernel_rfl
theorem b1_all (P : Params) : (b1L.all fun k => (o137E (o137 P)).toList.any fun e => Value.isInt k e.2) = true := by kernel_rfl
theorem b1_data (P : Params) : (o137 P).data = .set (o137E (o137 P)) (o137N (o137 P)) (o137T (o137 P)) := by rfl
theorem b1_size (P : Params) : (o137E (o137 P)).size = 27 := by kernel_rfl
theorem b1_fits (P : Params) : (o137T (o137 P)).fits 27 = true := by kernel_rfl
theorem b1_obj (P : Params) (prog : Program) (w : World) : (o137 P).SetObjOf (PySem.intKind prog w) (fun k => b1L.contains k) 27 := by
  refine ⟨⟨rfl, rfl, rfl⟩, _, _, _, b1_data P, fun e he => ?_, fun k => ?_, b1_size P, by rw [b1_size]; exact b1_fits P⟩
  · have h := List.all_eq_true.mp (b1_elems P) e he
    obtain ⟨x, v⟩ := e
    unfold elemOk at h
    split at h
    · rename_i k t hv
      dsimp only at hv
      subst hv
      simp only [Bool.and_eq_true, beq_iff_eq] at h
      exact ⟨⟨k, intKind_is _ _ _ _, h.1.1⟩, h.1.2⟩
    · cases h
  · constructor
    · intro h
      have h2 := List.all_eq_true.mp (b1_all P) k (by simpa using h)
      obtain ⟨e, he, hk⟩ := List.any_eq_true.mp h2
      exact ⟨e, he, hk⟩
    · rintro ⟨e, he, hk⟩
      have h := List.all_eq_true.mp (b1_elems P) e he
      obtain ⟨x, v⟩ := e
      unfold elemOk at h
      split at h
      · rename_i k' t hv
        dsimp only at hv
        subst hv
        simp only [Bool.and_eq_true, beq_iff_eq] at h
        have hk' : Value.isInt k (.int k' t) = true := hk
        have : k' = k := by simpa [Value.isInt] using hk'
        rw [← this]
        simpa using h.2
      · cases h
theorem b1_in {w : World} {A : Around} {E : Value → Shared → Prop} {s : Shared} {P : Params} {k : Int} {t : Tok} {Q : Value → Shared → Prop} {h₀ : Heap} {L : Addr} {m : Str → Option Value} (X : (KF P).In h₀) (F : Fr h₀ L s.heap m) (h : Q (.bool (b1L.contains k)) { s with toks := s.toks + 1 }) :
    wpAny (model PW w) A (compareOp .In (.int k t) (.ref 137)) Q E s :=
  wpAny_inSet_of (intKind_is _ _ _ _) rfl ((b1_obj P PW w).setOf ((X.keeps F.keep) 137 (o137 P) rfl) (by decide)) h
theorem C_b1 (w : World) (mean : ExcName → Option Value) (mg mb : Str → Option Value) (dp un : Nat) (gd : Option (List Code)) (outer : List Env) (s : Shared) (Q E : Value → Shared → Prop)
    (c : Nat) (t1 : Tok)
    (X : (KF w.params).In s.heap) (T : TopM mean mg mb s.heap) (hdp : dp < recursionLimit) (hun : un + 8 < cLine)
    (hret : ∀ h' tk', Keeps s.heap h' → Q (.bool (b1L.contains (c : Int))) { s with heap := h', toks := tk' }) :
    wpAny (model PW w) (arn dp un gd outer) (call (.ref 147) [.str ({ cps := #[c] } : Str) t1]) Q E s := by
  have hfill : PySem.Challenge.rw_rl0135_01 = PySem.Challenge.rw_rl0135_01 ∧ KF = KF := by k_fill; exact ⟨rfl, rfl⟩
  clear hfill
  w_on
  k_with_none
  refine wpAny_call ?_
  k_dflt (refine' enterP ?k3 ?k5 ?k6 ?k7 ?k8 ?k9 ?kB ?_ ?c5 ?c2 ?c3 ?c4; (case k3 => k_asm); (case k5 => exact T.nolimit); (case k6 => k_is); (case k7 => k_is); (case k8 => exact hdp); (case k9 => exact BindsTo.of_eq rfl); (case kB => exact locs rfl); (case c5 => decide); (case c2 => exact rfl); (case c3 => exact rfl); (case c4 => exact rfl))
  intro L' h' F' N'
  (try dsimp only)
  (try k_fold)
  repeat' (first | ((with_reducible show wpAny _ _ (compareOp _ _ (Value.ref 137)) _ _ _); refine b1_in (by k_asm) (by k_asm) ?_) | (k_unfold; (try dsimp only)) | (k_end; kc_close) | (walk1; (try dsimp only)) | (dsimp only; walk1; (try dsimp only)) | (leave1; (try dsimp only)) | fail "no step")
  exact hret _ _ (Fr.keep (by assumption))
end Mine
end
section
open PySem PySem.W PyProof.Rows PyProof.V PySem.Calls
namespace Mine
noncomputable def alL : List Int := [0, 1, 2, 4, 7, 8, 9, 10, 11, 12]
noncomputable def nbL : List Int := [172, 174, 846, 848, 6149, 6151, 6154, 6158, 8202, 8206, 8287, 8289, 65023, 65040, 65278, 65280]
noncomputable def smallC (f : Nat) : Nat := [115, 107, 102].getD f 0
noncomputable def longC (f : Nat) : Nat := [383, 8490, 8497].getD f 0
noncomputable def dblC (f : Nat) : Nat := [223, 13261, 64256].getD f 0
noncomputable def ligC (f : Nat) : Nat := [64262, 13188, 64257].getD f 0
noncomputable def ligX (f : Nat) : Str := [({ cps := #[115, 116] } : Str), { cps := #[107, 97] }, { cps := #[102, 105] }].getD f { cps := #[] }
noncomputable def menuL (f : Nat) : List (Nat × Bool × Str) :=
  (smallC f, false, { cps := #[smallC f] }) :: (smallC f - 32, false, { cps := #[smallC f] }) :: (longC f, false, { cps := #[smallC f] }) :: (dblC f, false, { cps := #[smallC f, smallC f] }) ::
    (ligC f, false, ligX f) :: ((alL.map fun (a : Int) => ((119711 + 52 * a + (smallC f : Int)).toNat, false, ({ cps := #[smallC f] } : Str))) ++ ((b1L.map fun (c : Int) => (c.toNat, true, ({ cps := #[c.toNat] } : Str))) ++ (nbL.map fun (c : Int) => (c.toNat, false, ({ cps := #[c.toNat] } : Str)))))
theorem getD_all {p : Int → Prop} {l : List Int} (h : ∀ x ∈ l, p x) {n : Nat} (hn : n < l.length) : p (l.getD n 0) := by
  rw [List.getD_eq_getElem?_getD, List.getElem?_eq_getElem hn]
  exact h _ (List.getElem_mem _)
theorem al_bnd (i : Int) (h : 0 ≤ i ∧ i < 10) : 0 ≤ alL.getD i.toNat 0 ∧ alL.getD i.toNat 0 ≤ 12 := getD_all (p := fun x => 0 ≤ x ∧ x ≤ 12) (by decide) (by show _ < 10; lia)
theorem nb_bnd (i : Int) (h : 0 ≤ i ∧ i < 16) : 0 ≤ nbL.getD i.toNat 0 ∧ nbL.getD i.toNat 0 ≤ 65280 := getD_all (p := fun x => 0 ≤ x ∧ x ≤ 65280) (by decide) (by show _ < 16; lia)
theorem b1_bnd (i : Int) (h : 0 ≤ i ∧ i < 27) : 0 ≤ b1L.getD i.toNat 0 ∧ b1L.getD i.toNat 0 ≤ 65280 := getD_all (p := fun x => 0 ≤ x ∧ x ≤ 65280) (by decide) (by show _ < 27; lia)
theorem getD_mem {l : List Int} {n : Nat} (hn : n < l.length) : l.getD n 0 ∈ l := getD_all (p := fun x => x ∈ l) (fun _ h => h) hn
theorem al_menu {f : Nat} {i : Int} {z : Int} (h : 0 ≤ i ∧ i < 10) (hz : z = smallC f) : ((119711 + 52 * alL.getD i.toNat 0 + z).toNat, false, ({ cps := #[smallC f] } : Str)) ∈ menuL f := by
  subst hz
  simp only [menuL, List.mem_cons, List.mem_append, List.mem_map]
  exact .inr (.inr (.inr (.inr (.inr (.inl ⟨_, getD_mem (l := alL) (by show _ < 10; lia), rfl⟩)))))
theorem b1_menu {f : Nat} {i : Int} (h : 0 ≤ i ∧ i < 27) : ((b1L.getD i.toNat 0).toNat, true, ({ cps := #[(b1L.getD i.toNat 0).toNat] } : Str)) ∈ menuL f := by
  simp only [menuL, List.mem_cons, List.mem_append, List.mem_map]
  exact .inr (.inr (.inr (.inr (.inr (.inr (.inl ⟨_, getD_mem (l := b1L) (by show _ < 27; lia), rfl⟩))))))
theorem nb_menu {f : Nat} {i : Int} (h : 0 ≤ i ∧ i < 16) : ((nbL.getD i.toNat 0).toNat, false, ({ cps := #[(nbL.getD i.toNat 0).toNat] } : Str)) ∈ menuL f := by
  simp only [menuL, List.mem_cons, List.mem_append, List.mem_map]
  exact .inr (.inr (.inr (.inr (.inr (.inr (.inr ⟨_, getD_mem (l := nbL) (by show _ < 16; lia), rfl⟩))))))
theorem item_ints {prog : Program} {w : World} {A : Around} {E : Value → Shared → Prop} {s : Shared} {value slice : PySem.Expr} {l : Addr} {items : Array Value} {ns : List Int} {k : Int} {u : Tok} {Q : Value → Shared → Prop}
    (hl : s.heap.IsList l items) (hi : IntsAre items.toList ns) (h0 : 0 ≤ k) (hlt : k < ns.length) (hbig : ns.length ≤ 1000) (h : ∀ t, Q (.int (ns.getD k.toNat 0) t) s)
    (hs : subscripted slice false (.ref l) (.int k u) = operate [.ref l, .int k u] (getItem (.ref l) (.int k u)) := by with_unfolding_all rfl) :
    wpAny (model prog w) A (subscriptTail value slice (.ref l) (.int k u)) Q E s := by
  have hx : ∀ {vs : List Value} {ns : List Int}, IntsAre vs ns → ∀ n, n < ns.length → ∃ t, vs[n]? = some (.int (ns.getD n 0) t) := by
    intro vs ns hi
    induction hi with
    | nil => intro n hn; cases hn
    | cons m t _ ih =>
      intro n hn
      cases n with
      | zero => exact ⟨t, rfl⟩
      | succ n => obtain ⟨t', e⟩ := ih n (Nat.lt_of_succ_lt_succ hn); exact ⟨t', by simpa using e⟩
  obtain ⟨t, e⟩ := hx hi k.toNat (by lia)
  exact tail_any hl.typeIs slot_list_getitem.lookup (wpAny_getItem_list hl h0 (by lia) (by simpa using e) (h t)) hs
theorem fm_bnd (n : Int) (m : Int) (h : 0 < m) : 0 ≤ n.fmod m ∧ n.fmod m < m := ⟨Int.fmod_nonneg_of_pos n h, Int.fmod_lt_of_pos n h⟩
theorem t_itemB {prog : Program} {w : World} {A : Around} {E : Value → Shared → Prop} {s : Shared} {h₀ : Heap} {L t : Addr} {news : List (Addr × Obj)} {vs : List Value} {ns : List Int} {value slice : PySem.Expr} {k : Int} {u : Tok} {Q : Value → Shared → Prop} (B : Int) (N : News h₀ L s.heap news) (hm : (t, ({ cls := .type "tuple", data := .seq vs.toArray } : Obj)) ∈ news) (hi : IntsAre vs ns) (h0 : 0 ≤ k) (h1 : k < ns.length) (hl : ns.length ≤ 60) (hb : ∀ x ∈ ns, 0 ≤ x ∧ x ≤ B)
    (h : ∀ c tk, c = ns.getD k.toNat 0 → 0 ≤ c ∧ c ≤ B → Q (.int c tk) s)
    (hs : subscripted slice false (.ref t) (.int k u) = operate [.ref t, .int k u] (getItem (.ref t) (.int k u)) := by with_unfolding_all rfl) : wpAny (model prog w) A (subscriptTail value slice (.ref t) (.int k u)) Q E s := by
  have hx : ∃ tk, vs[k.toNat]? = some (.int (ns.getD k.toNat 0) tk) := by
    obtain ⟨tk, e⟩ := hi.get k.toNat (ns[k.toNat]'(by lia)) (by rw [List.getElem?_eq_getElem])
    exact ⟨tk, by rw [e, List.getD_eq_getElem?_getD, List.getElem?_eq_getElem (by lia)]; rfl⟩
  obtain ⟨tk, e⟩ := hx
  have hvl := hi.length
  exact item_tupleT (l := vs) (j := k.toNat) ⟨_, N.get hm, rfl, _, rfl⟩ (by lia) (by lia) (by
    unfold seqIndex?
    dsimp only
    rw [if_neg (show ¬ k < 0 by lia), if_pos (by simp only [Bool.and_eq_true, decide_eq_true_eq]; lia)]) e (h _ tk rfl (getD_all (p := fun x => 0 ≤ x ∧ x ≤ B) hb (by lia))) hs
theorem item_intsB {prog : Program} {w : World} {A : Around} {E : Value → Shared → Prop} {s : Shared} {value slice : PySem.Expr} {l : Addr} {items : Array Value} {ns : List Int} {k : Int} {u : Tok} {Q : Value → Shared → Prop} (B : Int)
    (hl : s.heap.IsList l items) (hi : IntsAre items.toList ns) (h0 : 0 ≤ k) (hlt : k < ns.length) (hbig : ns.length ≤ 1000) (hb : ∀ x ∈ ns, 0 ≤ x ∧ x ≤ B) (h : ∀ c t, c = ns.getD k.toNat 0 → 0 ≤ c ∧ c ≤ B → Q (.int c t) s)
    (hs : subscripted slice false (.ref l) (.int k u) = operate [.ref l, .int k u] (getItem (.ref l) (.int k u)) := by with_unfolding_all rfl) :
    wpAny (model prog w) A (subscriptTail value slice (.ref l) (.int k u)) Q E s :=
  item_ints hl hi h0 hlt hbig (fun t => h _ t rfl (getD_all (p := fun x => 0 ≤ x ∧ x ≤ B) hb (by lia))) hs
theorem strs3 {prog : Program} {w : World} {A : Around} {E : Value → Shared → Prop} {s : Shared} {h₀ : Heap} {L t : Addr} {news : List (Addr × Obj)} {f : Nat} {x0 x1 x2 : Str} {t0 t1 t2 : Tok} {value slice : PySem.Expr} {u : Tok} {Q : Value → Shared → Prop} (hf : f = 0 ∨ f = 1 ∨ f = 2) (N : News h₀ L s.heap news)
    (hm : (t, ({ cls := .type "tuple", data := .seq #[.str x0 t0, .str x1 t1, .str x2 t2] } : Obj)) ∈ news) (h : ∀ tk, Q (.str ([x0, x1, x2].getD f x0) tk) s)
    (hs : subscripted slice false (.ref t) (.int f u) = operate [.ref t, .int f u] (getItem (.ref t) (.int f u)) := by with_unfolding_all rfl) : wpAny (model prog w) A (subscriptTail value slice (.ref t) (.int f u)) Q E s := by
  rcases hf with rfl | rfl | rfl
  · exact item_tupleT (l := [.str x0 t0, .str x1 t1, .str x2 t2]) (j := 0) ⟨_, N.get hm, rfl, _, rfl⟩ (by decide) (by decide) (by rfl) rfl (h t0) hs
  · exact item_tupleT (l := [.str x0 t0, .str x1 t1, .str x2 t2]) (j := 1) ⟨_, N.get hm, rfl, _, rfl⟩ (by decide) (by decide) (by rfl) rfl (h t1) hs
  · exact item_tupleT (l := [.str x0 t0, .str x1 t1, .str x2 t2]) (j := 2) ⟨_, N.get hm, rfl, _, rfl⟩ (by decide) (by decide) (by rfl) rfl (h t2) hs
theorem sub_skf {prog : Program} {w : World} {A : Around} {E : Value → Shared → Prop} {s : Shared} {f : Nat} {t u : Tok} {value slice : PySem.Expr} {Q : Value → Shared → Prop} (hf : f = 0 ∨ f = 1 ∨ f = 2) (h : ∀ tk k, Q (.str ({ cps := #[smallC f] } : Str) tk) { s with toks := k })
    (hs : subscripted slice false (.str (Str.ofString "skf") t) (.int f u) = operate [.str (Str.ofString "skf") t, .int f u] (getItem (.str (Str.ofString "skf") t) (.int f u)))
    (ht : ∀ r, letTemporaryGo value (.str (Str.ofString "skf") t) r = pure ()) :
    wpAny (model prog w) A (subscriptTail value slice (.str (Str.ofString "skf") t) (.int f u)) Q E s := by
  have hl : (Str.ofString "skf").length = 3 := by decide +kernel
  refine item_str (by rcases hf with rfl | rfl | rfl <;> decide +kernel) (by rw [hl]; lia) (by rw [hl]; lia) (fun _ => ?_) hs ht
  have e : Txt.item (Str.ofString "skf") (f : Int) = { cps := #[smallC f] } := by rcases hf with rfl | rfl | rfl <;> decide +kernel
  rw [e]; exact h _ _
theorem small_bnd {f : Nat} (hf : f = 0 ∨ f = 1 ∨ f = 2) : 102 ≤ smallC f ∧ smallC f ≤ 115 := by rcases hf with rfl | rfl | rfl <;> decide
theorem sign_menu {f : Nat} {number c al lg db : Int} (hf : f = 0 ∨ f = 1 ∨ f = 2) (hk : 0 ≤ number.fmod 9 ∧ number.fmod 9 < 6) (hal : al = alL.getD ((number.fdiv 9).fmod 10).toNat 0) (hlg : lg = [383, 8490, 8497].getD (f : Int).toNat 0) (hdb : db = [223, 13261, 64256].getD (f : Int).toNat 0)
    (hc : c = [(smallC f : Int), (smallC f : Int) - 32, 119711 + 52 * al + (smallC f : Int), lg, db, db].getD (number.fmod 9).toNat 0) :
    (c.toNat, false, Txt.mul ({ cps := #[smallC f] } : Str) (1 + (number.fmod 9).fdiv 4)) ∈ menuL f := by
  have m1 : Txt.mul ({ cps := #[smallC f] } : Str) (1 + 0) = { cps := #[smallC f] } := by rfl
  have m2 : Txt.mul ({ cps := #[smallC f] } : Str) (1 + 1) = { cps := #[smallC f, smallC f] } := by rfl
  have hs := small_bnd hf
  have hdb' : db.toNat = dblC f := by subst hdb; rcases hf with rfl | rfl | rfl <;> rfl
  have hlg' : lg.toNat = longC f := by subst hlg; rcases hf with rfl | rfl | rfl <;> rfl
  have h6 : number.fmod 9 = 0 ∨ number.fmod 9 = 1 ∨ number.fmod 9 = 2 ∨ number.fmod 9 = 3 ∨ number.fmod 9 = 4 ∨ number.fmod 9 = 5 := by lia
  rcases h6 with h | h | h | h | h | h <;> rw [h] at hc ⊢
  · rw [show (0 : Int).fdiv 4 = 0 by decide, m1, show c.toNat = smallC f by rw [hc]; show (smallC f : Int).toNat = _; lia]
    exact .head _
  · rw [show (1 : Int).fdiv 4 = 0 by decide, m1, show c.toNat = smallC f - 32 by rw [hc]; show ((smallC f : Int) - 32).toNat = _; lia]
    exact .tail _ (.head _)
  · rw [show (2 : Int).fdiv 4 = 0 by decide, m1, hc, hal]
    exact al_menu (i := (number.fdiv 9).fmod 10) (fm_bnd _ _ (by decide)) rfl
  · rw [show (3 : Int).fdiv 4 = 0 by decide, m1, show c.toNat = longC f by rw [hc]; exact hlg']
    exact .tail _ (.tail _ (.head _))
  · rw [show (4 : Int).fdiv 4 = 1 by decide, m2, show c.toNat = dblC f by rw [hc]; exact hdb']
    exact .tail _ (.tail _ (.tail _ (.head _)))
  · rw [show (5 : Int).fdiv 4 = 1 by decide, m2, show c.toNat = dblC f by rw [hc]; exact hdb']
    exact .tail _ (.tail _ (.tail _ (.head _)))
noncomputable abbrev Trip := Nat × Bool × Str
noncomputable abbrev triO (e : Trip) (u1 u2 : Tok) : Obj := { cls := .type "tuple", data := .seq #[.str ({ cps := #[e.1] } : Str) u1, .bool e.2.1, .str e.2.2 u2] }
theorem eSt : Str.ofString "st" = { cps := #[115, 116] } := by decide +kernel
theorem eKa : Str.ofString "ka" = { cps := #[107, 97] } := by decide +kernel
theorem eFi : Str.ofString "fi" = { cps := #[102, 105] } := by decide +kernel
theorem C_sign (w : World) (mean : ExcName → Option Value) (mg mb : Str → Option Value) (dp un : Nat) (gd : Option (List Code)) (outer : List Env) (s : Shared) (Q E : Value → Shared → Prop)
    (f : Nat) (hf : f = 0 ∨ f = 1 ∨ f = 2) (number : Int) (t1 t2 : Tok) (X : (KF w.params).In s.heap) (T : TopM mean mg mb s.heap) (hdp : dp < recursionLimit) (hun : un + 8 < cLine)
    (hret : ∀ (e : Trip) (u1 u2 : Tok) (a : Addr) (h' : Heap) (tk' : Nat), e ∈ menuL f → Keeps s.heap h' → s.heap.get? a = none → h'.get? a = some (triO e u1 u2) → Q (.ref a) { s with heap := h', toks := tk' }) :
    wpAny (model PW w) (arn dp un gd outer) (call (.ref 200) [.int number t1, .int f t2]) Q E s := by
  have hfill : PySem.Challenge.rw_rl0135_01 = PySem.Challenge.rw_rl0135_01 ∧ KF = KF := by k_fill; exact ⟨rfl, rfl⟩
  clear hfill
  have hD := fm_bnd number 9 (by decide)
  have hE := fm_bnd (number.fdiv 9) 17 (by decide)
  have hE27 := fm_bnd (number.fdiv 9) 27 (by decide)
  have hE10 := fm_bnd (number.fdiv 9) 10 (by decide)
  have hS := small_bnd hf
  have hf3 : f < 3 := by lia
  w_on
  k_with_none
  refine wpAny_call ?_
  k_dflt (refine' enterP ?k3 ?k5 ?k6 ?k7 ?k8 ?k9 ?kB ?_ ?c5 ?c2 ?c3 ?c4; (case k3 => k_asm); (case k5 => exact T.nolimit); (case k6 => k_is); (case k7 => k_is); (case k8 => exact hdp); (case k9 => exact BindsTo.of_eq rfl); (case kB => exact locs rfl); (case c5 => decide); (case c2 => exact rfl); (case c3 => exact rfl); (case c4 => exact rfl))
  intro L' h' F' N'
  (try dsimp only)
  (try k_fold)
  have hBB : (number.fdiv 9).fmod 17 ≠ 16 → 0 ≤ nbL.getD ((number.fdiv 9).fmod 17).toNat 0 ∧ nbL.getD ((number.fdiv 9).fmod 17).toNat 0 ≤ 65280 := fun h => nb_bnd _ (by have := fm_bnd (number.fdiv 9) 17 (by decide); lia)
  unfold nbL at hBB
  iterate 77 (first | ((with_reducible show wpAny _ _ (binaryOp Operator.Mult (Value.str _ _) (Value.int _ _)) _ _ _); refine SB.mul (mulOk_of 1 2 (by show 1 ≤ 1; decide) (by first | lia | (rw [Int.fdiv_eq_ediv_of_nonneg _ (by decide)]; lia)) (by first | lia | (rw [Int.fdiv_eq_ediv_of_nonneg _ (by decide)]; lia)) (by decide) (by decide)) ?_; intro _ _) | ((with_reducible show wpAny _ _ (subscriptTail _ _ (Value.str _ _) (Value.int _ _)) _ _ _); refine sub_skf ‹_› ?_ (by with_unfolding_all rfl) (by intro _; with_unfolding_all rfl); intro _ _) | ((with_reducible show wpAny _ _ (call (Value.builtin "chr") [Value.int _ _]) _ _ _); (refine chr_of_range (by lia) (by lia) ?_)) | (walk1; (try dsimp only)) | (dsimp only; walk1; (try dsimp only)))
  (rename News _ _ _ _ => nE9)
  refine' t_itemB 12 nE9 ?m ?i ?h0 ?h1 ?hl ?hb ?_ ?hs
  case m => k_mem
  case i => exact .cons _ _ (.cons _ _ (.cons _ _ (.cons _ _ (.cons _ _ (.cons _ _ (.cons _ _ (.cons _ _ (.cons _ _ (.cons _ _ .nil)))))))))
  case h0 => lia
  case h1 => (show _ < ((10 : Nat) : Int); lia)
  case hl => decide
  case hb => decide
  case hs => with_unfolding_all rfl
  intro al tal hal bal
  iterate 15 (first | ((with_reducible show wpAny _ _ (binaryOp Operator.Mult (Value.str _ _) (Value.int _ _)) _ _ _); refine SB.mul (mulOk_of 1 2 (by show 1 ≤ 1; decide) (by first | lia | (rw [Int.fdiv_eq_ediv_of_nonneg _ (by decide)]; lia)) (by first | lia | (rw [Int.fdiv_eq_ediv_of_nonneg _ (by decide)]; lia)) (by decide) (by decide)) ?_; intro _ _) | ((with_reducible show wpAny _ _ (subscriptTail _ _ (Value.str _ _) (Value.int _ _)) _ _ _); refine sub_skf ‹_› ?_ (by with_unfolding_all rfl) (by intro _; with_unfolding_all rfl); intro _ _) | ((with_reducible show wpAny _ _ (call (Value.builtin "chr") [Value.int _ _]) _ _ _); (refine chr_of_range (by lia) (by lia) ?_)) | (walk1; (try dsimp only)) | (dsimp only; walk1; (try dsimp only)))
  (rename News _ _ _ _ => nE9)
  refine' t_itemB 200000 nE9 ?m ?i ?h0 ?h1 ?hl ?hb ?_ ?hs
  case m => k_mem
  case i => exact .cons _ _ (.cons _ _ (.cons _ _ .nil))
  case h0 => lia
  case h1 => (show _ < ((3 : Nat) : Int); lia)
  case hl => decide
  case hb => decide
  case hs => with_unfolding_all rfl
  intro db tdb hcdb hbdb
  iterate 35 (first | ((with_reducible show wpAny _ _ (binaryOp Operator.Mult (Value.str _ _) (Value.int _ _)) _ _ _); refine SB.mul (mulOk_of 1 2 (by show 1 ≤ 1; decide) (by first | lia | (rw [Int.fdiv_eq_ediv_of_nonneg _ (by decide)]; lia)) (by first | lia | (rw [Int.fdiv_eq_ediv_of_nonneg _ (by decide)]; lia)) (by decide) (by decide)) ?_; intro _ _) | ((with_reducible show wpAny _ _ (subscriptTail _ _ (Value.str _ _) (Value.int _ _)) _ _ _); refine sub_skf ‹_› ?_ (by with_unfolding_all rfl) (by intro _; with_unfolding_all rfl); intro _ _) | ((with_reducible show wpAny _ _ (call (Value.builtin "chr") [Value.int _ _]) _ _ _); (refine chr_of_range (by lia) (by lia) ?_)) | (walk1; (try dsimp only)) | (dsimp only; walk1; (try dsimp only)))
  (rename News _ _ _ _ => nE9)
  refine' t_itemB 200000 nE9 ?m ?i ?h0 ?h1 ?hl ?hb ?_ ?hs
  case m => k_mem
  case i => exact .cons _ _ (.cons _ _ (.cons _ _ .nil))
  case h0 => lia
  case h1 => (show _ < ((3 : Nat) : Int); lia)
  case hl => decide
  case hb => decide
  case hs => with_unfolding_all rfl
  intro lg tlg hclg hblg
  iterate 19 (first | ((with_reducible show wpAny _ _ (binaryOp Operator.Mult (Value.str _ _) (Value.int _ _)) _ _ _); refine SB.mul (mulOk_of 1 2 (by show 1 ≤ 1; decide) (by first | lia | (rw [Int.fdiv_eq_ediv_of_nonneg _ (by decide)]; lia)) (by first | lia | (rw [Int.fdiv_eq_ediv_of_nonneg _ (by decide)]; lia)) (by decide) (by decide)) ?_; intro _ _) | ((with_reducible show wpAny _ _ (subscriptTail _ _ (Value.str _ _) (Value.int _ _)) _ _ _); refine sub_skf ‹_› ?_ (by with_unfolding_all rfl) (by intro _; with_unfolding_all rfl); intro _ _) | ((with_reducible show wpAny _ _ (call (Value.builtin "chr") [Value.int _ _]) _ _ _); (refine chr_of_range (by lia) (by lia) ?_)) | (walk1; (try dsimp only)) | (dsimp only; walk1; (try dsimp only)))
  (rename News _ _ _ _ => nE9)
  refine' t_itemB 200000 nE9 ?m ?i ?h0 ?h1 ?hl ?hb ?_ ?hs
  case m => k_mem
  case i => exact .cons _ _ (.cons _ _ (.cons _ _ (.cons _ _ (.cons _ _ (.cons _ _ .nil)))))
  case h0 => lia
  case h1 => (show _ < ((6 : Nat) : Int); lia)
  case hl => (show 6 ≤ 60; decide)
  case hb => (intro x hx; simp only [List.mem_cons, List.not_mem_nil, or_false] at hx; lia)
  case hs => with_unfolding_all rfl
  intro c tc hc bc
  iterate 24 (try first | ((with_reducible show wpAny _ _ (binaryOp Operator.Mult (Value.str _ _) (Value.int _ _)) _ _ _); refine SB.mul (mulOk_of 1 2 (by show 1 ≤ 1; decide) (by first | lia | (rw [Int.fdiv_eq_ediv_of_nonneg _ (by decide)]; lia)) (by first | lia | (rw [Int.fdiv_eq_ediv_of_nonneg _ (by decide)]; lia)) (by decide) (by decide)) ?_; intro _ _) | ((with_reducible show wpAny _ _ (subscriptTail _ _ (Value.str _ _) (Value.int _ _)) _ _ _); refine sub_skf ‹_› ?_ (by with_unfolding_all rfl) (by intro _; with_unfolding_all rfl); intro _ _) | ((with_reducible show wpAny _ _ (call (Value.builtin "chr") [Value.int _ _]) _ _ _); (refine chr_of_range (by lia) (by lia) ?_)) | (walk1; (try dsimp only)) | (dsimp only; walk1; (try dsimp only)))
  (rename News _ _ _ _ => nE); (rename Fr _ _ _ _ => fE)
  exact hret (c.toNat, false, Txt.mul ({ cps := #[smallC f] } : Str) (1 + (number.fmod 9).fdiv 4)) _ _ _ _ _ (sign_menu hf ⟨by lia, by lia⟩ hal hclg hcdb hc) (Fr.keep fE) (nE.fresh (List.mem_cons_self ..)) (nE.get (List.mem_cons_self ..))
  have hC := b1_bnd ((number.fdiv 9).fmod 27) (fm_bnd _ _ (by decide))
  have hL : 0 ≤ [(64262 : Int), 13188, 64257].getD (f : Int).toNat 0 ∧ [(64262 : Int), 13188, 64257].getD (f : Int).toNat 0 ≤ 200000 := by rcases hf with rfl | rfl | rfl <;> decide
  repeat' (first | ((with_reducible show wpAny _ _ (binaryOp Operator.Add (Value.ref _) (Value.ref _)) _ _ _); (rename CarriedAll _ _ => hc9); (rename Heap.IsList _ _ _ => hl9); (rename News _ _ _ _ => nE9); (rename Fr _ _ _ _ => fE9); (refine add_lists_ints (ns := b1L.take 11) (ms := b1L.drop 11) fE9 nE9 (nE9.isList (List.mem_cons_self ..)) hl9 (.cons _ _ (.cons _ _ (.cons _ _ (.cons _ _ (.cons _ _ (.cons _ _ (.cons _ _ (.cons _ _ (.cons _ _ (.cons _ _ (.cons _ _ .nil))))))))))) (CarriedAll.intsOf (f := fun x => x) hc9) ?_ (by decide)); intro h' F' N' I'; (rw [List.take_append_drop] at I')) | ((with_reducible show wpAny _ _ (binaryOp Operator.Mult (Value.str _ _) (Value.int _ _)) _ _ _); refine SB.mul (mulOk_of 1 2 (by show 1 ≤ 1; decide) (by first | lia | (rw [Int.fdiv_eq_ediv_of_nonneg _ (by decide)]; lia)) (by first | lia | (rw [Int.fdiv_eq_ediv_of_nonneg _ (by decide)]; lia)) (by decide) (by decide)) ?_; intro _ _) | ((with_reducible show wpAny _ _ (subscriptTail _ _ (Value.str _ _) (Value.int _ _)) _ _ _); refine sub_skf ‹_› ?_ (by with_unfolding_all rfl) (by intro _; with_unfolding_all rfl); intro _ _) | ((with_reducible show wpAny _ _ (call (Value.builtin "chr") [Value.int _ _]) _ _ _); (refine chr_of_range (by lia) (by lia) ?_)) | (k_unfold; (try dsimp only)) | (k_end; kc_close) | (walk1; (try dsimp only)) | (dsimp only; walk1; (try dsimp only)) | (leave1; (try dsimp only)) | fail "no step")
  all_goals (rename News _ _ _ _ => nE; rename Fr _ _ _ _ => fE)
  · exact hret (_, true, _) _ _ _ _ _ (b1_menu hE27) (Fr.keep fE) (nE.fresh (List.mem_cons_self ..)) (nE.get (List.mem_cons_self ..))
  · rcases hf with rfl | rfl | rfl <;> first
      | (exfalso; lia)
      | (simp only [eSt, eKa, eFi] at nE; exact hret (ligC _, false, ligX _) _ _ _ _ _ (.tail _ (.tail _ (.tail _ (.tail _ (.head _))))) (Fr.keep fE) (nE.fresh (List.mem_cons_self ..)) (nE.get (List.mem_cons_self ..)))
  · rcases hf with rfl | rfl | rfl <;> first
      | (exfalso; lia)
      | (simp only [eSt, eKa, eFi] at nE; exact hret (ligC _, false, ligX _) _ _ _ _ _ (.tail _ (.tail _ (.tail _ (.tail _ (.head _))))) (Fr.keep fE) (nE.fresh (List.mem_cons_self ..)) (nE.get (List.mem_cons_self ..)))
  · rcases hf with rfl | rfl | rfl <;> first
      | (exfalso; lia)
      | (simp only [eSt, eKa, eFi] at nE; exact hret (ligC _, false, ligX _) _ _ _ _ _ (.tail _ (.tail _ (.tail _ (.tail _ (.head _))))) (Fr.keep fE) (nE.fresh (List.mem_cons_self ..)) (nE.get (List.mem_cons_self ..)))
  · exact hret (_, false, _) _ _ _ _ _ (nb_menu ⟨hE.1, by lia⟩) (Fr.keep fE) (nE.fresh (List.mem_cons_self ..)) (nE.get (List.mem_cons_self ..))
end Mine
end
section
open PySem PySem.W PyProof.Rows PySem.Calls PySem.Spec
namespace Mine
@[reducible] noncomputable def lS0 : Stmt := (⟨_, rfl⟩ : { x // lF22.2.1[0]? = some x }).1
@[reducible] noncomputable def lS1 : Stmt := (⟨_, rfl⟩ : { x // lF22.2.1[1]? = some x }).1
@[reducible] noncomputable def lS2 : Stmt := (⟨_, rfl⟩ : { x // lF22.2.1[2]? = some x }).1
@[reducible] noncomputable def lS3 : Stmt := (⟨_, rfl⟩ : { x // lF22.2.1[3]? = some x }).1
@[reducible] noncomputable def lS4 : Stmt := (⟨_, rfl⟩ : { x // lF22.2.1[4]? = some x }).1
@[reducible] noncomputable def lS5 : Stmt := (⟨_, rfl⟩ : { x // lF22.2.1[5]? = some x }).1
@[reducible] noncomputable def lS6 : Stmt := (⟨_, rfl⟩ : { x // lF22.2.1[6]? = some x }).1
@[reducible] noncomputable def lS7 : Stmt := (⟨_, rfl⟩ : { x // lF22.2.1[7]? = some x }).1
@[reducible] noncomputable def lS8 : Stmt := (⟨_, rfl⟩ : { x // lF22.2.1[8]? = some x }).1
@[reducible] noncomputable def lS9 : Stmt := (⟨_, rfl⟩ : { x // lF22.2.1[9]? = some x }).1
@[reducible] noncomputable def lS10 : Stmt := (⟨_, rfl⟩ : { x // lF22.2.1[10]? = some x }).1
@[reducible] noncomputable def lS11 : Stmt := (⟨_, rfl⟩ : { x // lF22.2.1[11]? = some x }).1
@[reducible] noncomputable def lS12 : Stmt := (⟨_, rfl⟩ : { x // lF22.2.1[12]? = some x }).1
@[reducible] noncomputable def lS13 : Stmt := (⟨_, rfl⟩ : { x // lF22.2.1[13]? = some x }).1
noncomputable abbrev lawE (L a : Addr) (cd : Value) : Env := envOfC (Str.ofString "law") lF22.2.2 L a cd
theorem lS_all : lF22.2.1 = [lS0, lS1, lS2, lS3, lS4, lS5, lS6, lS7, lS8, lS9, lS10, lS11, lS12, lS13] := rfl
theorem lcells (L : Addr) : cellsFrom (L + 1) lF22.2.2.names [] = [(Str.ofString "letter", L + 1 + 1), (Str.ofString "family", L + 1)] := by rfl
theorem law_0 (w : World) (mean : ExcName → Option Value) (mg mb : Str → Option Value) (dp un : Nat) (gd : Option (List Code)) (outer : List Env) (g : Heap) (L a : Addr) (cd : Value) (m : Str → Option Value) (rest : List (Addr × Obj)) (s : Shared) (Q : Flow → Shared → Prop) (E : Value → Shared → Prop)
    (oA oB : Obj) (ax : Addr) (vs : List Value) (ns : List Int) (hl : g.IsList ax vs.toArray) (hi : IntsAre vs ns) (hlen : ns.length ≤ 63)
    (d1 : oA.data = .cell none) (d2 : oB.data = .cell none) (hr1 : ∀ p ∈ rest, p.1 ≠ L + 1)
    (F : Fr g L s.heap (fun z => if z = Str.ofString "script" then some (.ref ax) else m z)) (N : News g L s.heap ((L + 1 + 1, oA) :: (L + 1, oB) :: rest)) (X : (KF w.params).In g) (T : TopM mean mg mb g) (hdp : dp + 10 < recursionLimit) (hun : un + 60 < cLine)
    (hret : ∀ t o' h' tk', o'.data = .cell (some (.int ((ns.sum.fdiv 3).fmod 3) t)) → Fr g L h' (fun z => if z = Str.ofString "script" then some (.ref ax) else m z) → News g L h' ((L + 1 + 1, oA) :: (L + 1, o') :: rest) → Q .next { s with heap := h', toks := tk' }) :
    wpAny (model PW w) (arn dp un gd outer) (exec lS0 (lawE L a cd)) Q E s := by
  have hfill : PySem.Challenge.rw_rl0135_01 = PySem.Challenge.rw_rl0135_01 ∧ KF = KF := by k_fill; exact ⟨rfl, rfl⟩
  clear hfill
  w_on
  k_with_none
  have hvl := IntsAre.length hi
  k_steps
  (rename Fr _ _ _ _ => fE); (rename News _ _ _ _ => nE)
  refine stCN (own := [(L + 1 + 1, oA)]) (rest := rest) fE nE (by rfl) d2 (fun p hp => ?_) hr1 fun h' o' F2 N2 e => hret _ _ _ _ e F2 N2
  rw [List.mem_singleton.mp hp]
  exact Nat.ne_of_gt (Nat.lt_succ_self _)
end Mine
end
section
open PySem PySem.W PyProof.Rows PySem.Calls PySem.Spec
namespace Mine
theorem law_1 (w : World) (mean : ExcName → Option Value) (mg mb : Str → Option Value) (dp un : Nat) (gd : Option (List Code)) (outer : List Env) (g : Heap) (L a : Addr) (cd : Value) (m : Str → Option Value) (rest : List (Addr × Obj)) (s : Shared) (Q : Flow → Shared → Prop) (E : Value → Shared → Prop)
    (oA oB : Obj) (f : Nat) (tf : Tok) (hf : f = 0 ∨ f = 1 ∨ f = 2)
    (d1 : oA.data = .cell none) (d2 : oB.data = .cell (some (.int f tf))) (hr1 : ∀ p ∈ rest, p.1 ≠ L + 1 + 1)
    (F : Fr g L s.heap m) (N : News g L s.heap ((L + 1 + 1, oA) :: (L + 1, oB) :: rest)) (X : (KF w.params).In g) (T : TopM mean mg mb g) (hdp : dp + 10 < recursionLimit) (hun : un + 60 < cLine)
    (hret : ∀ t1 t2 o' h' tk' (Y Z : Str), Y = { cps := #[smallC f] } → Z = { cps := #[dblC f] } → o'.data = .cell (some (.str Y t1)) → Fr g L h' (fun z => if z = Str.ofString "double" then some (.str Z t2) else m z) → News g L h' ((L + 1 + 1, o') :: (L + 1, oB) :: rest) → Q .next { s with heap := h', toks := tk' }) :
    wpAny (model PW w) (arn dp un gd outer) (exec lS1 (lawE L a cd)) Q E s := by
  have hfill : PySem.Challenge.rw_rl0135_01 = PySem.Challenge.rw_rl0135_01 ∧ KF = KF := by k_fill; exact ⟨rfl, rfl⟩
  clear hfill
  w_on
  k_with_none
  rcases hf with rfl | rfl | rfl <;> k_steps
  all_goals
    (rename Fr _ _ _ _ => fE); (rename News _ _ _ _ => nE)
    have nE2 : News g L _ ((L + 1 + 1, oA) :: (L + 1, oB) :: rest) := fun p hp => nE p (by repeat (first | with_reducible exact hp | apply List.mem_cons_of_mem))
    clear nE
    refine stCN (c := L + 1 + 1) (o := oA) (own := ([] : List (Addr × Obj))) (rest := (L + 1, oB) :: rest) fE nE2 (by rfl) d1 (fun p hp => by cases hp) ?_ ?_
    · intro p hp
      rcases List.mem_cons.mp hp with rfl | hp
      · exact Nat.ne_of_lt (Nat.lt_succ_self _)
      · exact hr1 p hp
    intro h' o' F2 N2 e
    clear fE nE2
    k_steps
    (rename Fr _ _ _ _ => fE); (rename News _ _ _ _ => nE)
    refine hret _ _ _ _ _ _ _ ?_ ?_ e fE nE
    · decide +kernel
    · decide +kernel
end Mine
end
section
open PySem PySem.W PyProof.Rows PySem.Calls PySem.Spec
open PyProof.Rows.LCg (NsObj ns_obj Off3 Off1 SrcAt lst lst_snoc)
namespace Mine
/-- tuples of three in a ledger -/
inductive Trips (nw : List (Addr × Obj)) : List Value → List Trip → Prop where
  | nil : Trips nw [] []
  | cons {t : Addr} {e : Trip} {u1 u2 : Tok} {rs : List Value} {es : List Trip} : (t, triO e u1 u2) ∈ nw → Trips nw rs es → Trips nw (.ref t :: rs) (e :: es)
theorem Trips.mono {a b : List (Addr × Obj)} {rs : List Value} {es : List Trip} (h : Trips a rs es) (hs : ∀ p ∈ a, p ∈ b) : Trips b rs es := by
  induction h with
  | nil => exact .nil
  | cons hm _ ih => exact .cons (hs _ hm) ih
theorem Trips.append {a : List (Addr × Obj)} {rs qs : List Value} {es fs : List Trip} (h : Trips a rs es) (h2 : Trips a qs fs) : Trips a (rs ++ qs) (es ++ fs) := by
  induction h with
  | nil => exact h2
  | cons hm _ ih => exact .cons hm ih
theorem Trips.length {a : List (Addr × Obj)} {rs : List Value} {es : List Trip} (h : Trips a rs es) : rs.length = es.length := by
  induction h with
  | nil => rfl
  | cons _ _ ih => simp [ih]
theorem Trips.get {a : List (Addr × Obj)} {rs : List Value} {es : List Trip} (h : Trips a rs es) : ∀ {i : Nat} {v : Value}, rs[i]? = some v → ∃ t e u1 u2, v = .ref t ∧ es[i]? = some e ∧ (t, triO e u1 u2) ∈ a := by
  induction h with
  | nil => intro i v hv; cases hv
  | cons hm _ ih =>
    intro i v hv
    cases i with
    | zero => exact ⟨_, _, _, _, (Option.some.inj hv).symm, rfl, hm⟩
    | succ i => exact ih (by simpa using hv)
theorem Trips.take {a : List (Addr × Obj)} {rs : List Value} {es : List Trip} (h : Trips a rs es) : ∀ n, Trips a (rs.take n) (es.take n) := by
  induction h with
  | nil => intro n; simpa using Trips.nil
  | cons hm _ ih =>
    intro n
    cases n with
    | zero => exact .nil
    | succ n => exact .cons hm (ih n)
section
open PyProof.Rows.LCg
variable {prog : Program} {w : World} {A : Around} {h₀ : Heap} {L : Addr} {m : Str → Option Value} {env : Env}
theorem compEnd_mono {s₁ : Shared} {I C D : Addr} {oI oC oD : Obj} {S : List (Addr × Obj) → Prop} {r1 r2 : Value → List (Addr × Obj) → Prop} {y : Value} {s₂ : Shared} (h : CompEnd h₀ L m s₁ I oI C oC D oD S r1 y s₂) (hr : ∀ y nw, r1 y nw → r2 y nw) : CompEnd h₀ L m s₁ I oI C oC D oD S r2 y s₂ := by
  obtain ⟨h', tk, nw, rfl, F, N, off, hS, r⟩ := h
  exact ⟨h', tk, nw, rfl, F, N, off, hS, hr _ _ r⟩
/-- the turns of a list comprehension, by an invariant -/
theorem rest_ind {elt : PySem.Expr} {x : Str} {scope : Scope} {cl : List (Str × Addr)} {s : Shared} {S : List (Addr × Obj) → Prop} {P : Nat → Value → Prop} {Fin : List Value → List (Addr × Obj) → Prop} {n : Nat} (J : Nat → List Value → List (Addr × Obj) → Prop)
    (turn : ∀ i ys news, i < n → J i ys news → ∀ v I oI C oC D m₂ h tk (E' : Value → Shared → Prop), P i v → NsObj oC m₂ → m₂ x = some v → Fr h₀ L h m → News h₀ L h ((I, oI) :: (C, oC) :: (D, lst ys) :: news) → Off3 I C D news → ((@Ne Nat I C) ∧ (@Ne Nat I D) ∧ (@Ne Nat C D)) →
      wpAny (model prog w) A (eval elt (compEnvC scope cl C env)) (CompEnd h₀ L m { s with heap := h, toks := tk } I oI C oC D (lst ys) S (fun y news' => J (i + 1) (ys ++ [y]) news')) E' { s with heap := h, toks := tk })
    (fin : ∀ ys news, J n ys news → Fin ys news) : ∀ (k i : Nat) (ys : List Value) (news : List (Addr × Obj)), i + k = n → J i ys news → CompRest prog w A h₀ L m env elt x scope cl s S P Fin k i ys news
  | 0, i, ys, news, hi, hj => CompRest.zero (fin _ _ (by rw [← hi]; exact hj))
  | k + 1, i, ys, news, hi, hj => CompRest.succ fun v I oI C oC D m₂ h tk E' hP hC hx F N off ne =>
    wpAny_mono (turn i ys news (by lia) hj v I oI C oC D m₂ h tk E' hP hC hx F N off ne) (fun _ _ hc => compEnd_mono hc fun y nw hJ => rest_ind J turn fin k (i + 1) (ys ++ [y]) nw (by lia) hJ) fun _ _ e => e
end
end Mine
end
section
open PySem PySem.W PyProof.Rows PySem.Calls PySem.Spec
open PyProof.Rows.LCg (NsObj ns_obj Off3 Off1 SrcAt lst lst_snoc)
namespace Mine
theorem len_one (c : Nat) : ({ cps := #[c] } : Str).length ≤ 1 := by show 1 ≤ 1; decide
theorem mul_two (a : Nat) : Txt.mul ({ cps := #[a] } : Str) 2 = { cps := #[a, a] } := by rfl
theorem law_3 (w : World) (mean : ExcName → Option Value) (mg mb : Str → Option Value) (dp un : Nat) (gd : Option (List Code)) (outer : List Env) (g : Heap) (L a : Addr) (cd : Value) (m : Str → Option Value) (rest : List (Addr × Obj)) (s : Shared) (Q : Flow → Shared → Prop) (E : Value → Shared → Prop)
    (oA oB : Obj) (f : Nat) (tf tA t2 : Tok) (hf : f = 0 ∨ f = 1 ∨ f = 2) (d1 : oA.data = .cell (some (.str ({ cps := #[smallC f] } : Str) tA))) (d2 : oB.data = .cell (some (.int f tf)))
    (B : Addr) (c : Nat) (us : List Value) (ks : List Int) (hi : IntsAre us ks) (hlen : ks.length = 9)
    (F : Fr g L s.heap (fun z => if z = Str.ofString "numbers" then some (.ref B) else if z = Str.ofString "double" then some (.str ({ cps := #[dblC f] } : Str) t2) else m z)) (N : News g L s.heap ((L + 1 + 1, oA) :: (L + 1, oB) :: (B, W.listOf us.toArray c) :: rest)) (X : (KF w.params).In g) (T : TopM mean mg mb g) (hdp : dp + 10 < recursionLimit) (hun : un + 60 < cLine)
    (hret : ∀ D c9 ys es nw h' tk', Trips nw ys es → es.length = 11 → (∀ e ∈ es, e ∈ menuL f) → es.drop 9 = [(smallC f, false, { cps := #[smallC f] }), (dblC f, false, { cps := #[smallC f, smallC f] })] → (∀ p ∈ (L + 1 + 1, oA) :: (L + 1, oB) :: (B, W.listOf us.toArray c) :: rest, p ∈ nw) →
      Fr g L h' (fun z => if z = Str.ofString "drawn" then some (.ref D) else if z = Str.ofString "numbers" then some (.ref B) else if z = Str.ofString "double" then some (.str ({ cps := #[dblC f] } : Str) t2) else m z) → News g L h' ((D, W.listOf ys.toArray c9) :: nw) → Q .next { s with heap := h', toks := tk' }) :
    wpAny (model PW w) (arn dp un gd outer) (exec lS3 (lawE L a cd)) Q E s := by
  have hfill : PySem.Challenge.rw_rl0135_01 = PySem.Challenge.rw_rl0135_01 ∧ KF = KF := by k_fill; exact ⟨rfl, rfl⟩
  clear hfill
  w_on
  k_with_none
  have hvl := IntsAre.length hi
  iterate 4 (first | ((with_reducible show wpAny _ _ (binaryOp Operator.Add (Value.ref _) (Value.ref _)) _ _ _); (rename News _ _ _ _ => nE9); (rename Fr _ _ _ _ => fE9); refine add_arrays fE9 nE9 (nE9.isList ?a) (nE9.isList ?b) ?_ ?c; (case a => k_mem); (case b => k_mem); (case c => (rw [sizeLine_eq]; simp only [List.size_toArray, List.length_cons, List.length_nil]; lia)); intro _ _ _) | ((with_reducible show wpAny _ _ (binaryOp Operator.Mult (Value.str _ _) (Value.int _ _)) _ _ _); refine SB.mul (mulOk_of 1 2 (len_one _) (by decide) (by decide) (by decide) (by decide)) ?_; intro _ _; rw [mul_two]) | walk1 | (dsimp only; walk1))
  refine LCg.CompSrc.ledger (by rfl) (by k_asm) (by k_asm) (by k_mem) (by rw [List.size_toArray, hvl, hlen, sizeLine_eq]; lia) ?_
  intro g'
  have hsz : us.toArray.size = 9 := by rw [List.size_toArray, hvl, hlen]
  rw [hsz]
  refine rest_ind (fun i ys nw => ∃ es, Trips nw ys es ∧ es.length = i ∧ (∀ e ∈ es, e ∈ menuL f) ∧ ∀ p ∈ (L + 1 + 1, oA) :: (L + 1, oB) :: (B, W.listOf us.toArray c) :: rest, p ∈ nw) ?turn ?fin 9 0 _ _ (Nat.zero_add 9) ⟨[], .nil, rfl, (by intro e h; cases h), fun _ h => h⟩
  case turn =>
    rintro i ys nw hi9 ⟨es, hT, hel, hem, hsub⟩ v I oI C oC D m₂ h tk E' hP hC hx F' N' off ne
    obtain ⟨k, hk⟩ : ∃ k, ks[i]? = some k := ⟨ks[i]'(by lia), List.getElem?_eq_getElem (by lia)⟩
    obtain ⟨tv, hv⟩ := hi.get i k hk
    have hv2 : us.toArray[i]? = some v := hP
    rw [List.getElem?_toArray, hv] at hv2
    obtain rfl := Option.some.inj hv2
    clear F N hret
    have nB : (L + 1, oB) ∈ nw := hsub _ (.tail _ (.head _))
    have N2 : News g L h ((L + 1, oB) :: (I, oI) :: (C, oC) :: (D, lst ys) :: nw) := fun p hp => by
      rcases List.mem_cons.mp hp with rfl | hp
      · exact N' _ (.tail _ (.tail _ (.tail _ nB)))
      · exact N' _ hp
    clear N'
    iterate 9 (first | ((with_reducible show wpAny _ _ (binaryOp Operator.Add (Value.ref _) (Value.ref _)) _ _ _); (rename News _ _ _ _ => nE9); (rename Fr _ _ _ _ => fE9); refine add_arrays fE9 nE9 (nE9.isList ?a) (nE9.isList ?b) ?_ ?c; (case a => k_mem); (case b => k_mem); (case c => (rw [sizeLine_eq]; simp only [List.size_toArray, List.length_cons, List.length_nil]; lia)); intro _ _ _) | ((with_reducible show wpAny _ _ (binaryOp Operator.Mult (Value.str _ _) (Value.int _ _)) _ _ _); refine SB.mul (mulOk_of 1 2 (len_one _) (by decide) (by decide) (by decide) (by decide)) ?_; intro _ _; rw [mul_two]) | walk1 | (dsimp only; walk1))
    refine ⟨X.keeps F'.keep, ?_⟩
    refine C_sign w mean mg mb dp un gd outer _ _ _ f hf _ _ _ (X.keeps F'.keep) (T.keeps F'.keep) (by lia) (by lia) ?_
    intro e u1 u2 a9 h9 tk9 he hk9 ha9 hg9
    have F9 : Fr g L h9 _ := F'.keeps hk9
    have N9 := news_add F' N2 hk9 ha9 hg9
    have old : ∀ p ∈ nw, (I, oI) ≠ p → True := fun _ _ _ => trivial
    refine ⟨h9, tk9, (a9, triO e u1 u2) :: nw, rfl, F9, fun p hp => N9 p ?_, ⟨⟨?_, ?_, ?_⟩, off⟩, .inr ⟨_, .tail _ (hsub _ (.tail _ (.tail _ (.head _)))), rfl, _, rfl⟩, es ++ [e], (hT.mono fun p hp => .tail _ hp).append (.cons (.head _) .nil), by simp [hel], ?_, fun p hp => .tail _ (hsub p hp)⟩
    · rcases List.mem_cons.mp hp with rfl | hp
      · exact .tail _ (.tail _ (.head _))
      rcases List.mem_cons.mp hp with rfl | hp
      · exact .tail _ (.tail _ (.tail _ (.head _)))
      rcases List.mem_cons.mp hp with rfl | hp
      · exact .tail _ (.tail _ (.tail _ (.tail _ (.head _))))
      rcases List.mem_cons.mp hp with rfl | hp
      · exact .head _
      · exact .tail _ (.tail _ (.tail _ (.tail _ (.tail _ hp))))
    · intro q; have z := (N2 _ (.tail _ (.head _))).1; rw [← q] at z; exact absurd (ha9.symm.trans z) (by intro e; cases e)
    · intro q; have z := (N2 _ (.tail _ (.tail _ (.head _)))).1; rw [← q] at z; exact absurd (ha9.symm.trans z) (by intro e; cases e)
    · intro q; have z := (N2 _ (.tail _ (.tail _ (.tail _ (.head _))))).1; rw [← q] at z; exact absurd (ha9.symm.trans z) (by intro e; cases e)
    · intro e' he'
      rcases List.mem_append.mp he' with he' | he'
      · exact hem e' he'
      · rw [List.mem_singleton.mp he']; exact he
  case fin =>
    rintro ys nw ⟨es, hT, hel, hem, hsub⟩
    intro D h tk F' N' o1
    clear F N
    have nA : (L + 1 + 1, oA) ∈ nw := hsub _ (.head _)
    have N2 : News g L h ((L + 1 + 1, oA) :: (D, lst ys) :: nw) := fun p hp => by
      rcases List.mem_cons.mp hp with rfl | hp
      · exact N' _ (.tail _ nA)
      · exact N' _ hp
    clear N'
    have hyl : ys.length = 9 := by rw [hT.length, hel]
    iterate 28 (first | ((with_reducible show wpAny _ _ (binaryOp Operator.Add (Value.ref _) (Value.ref _)) _ _ _); (rename News _ _ _ _ => nE9); (rename Fr _ _ _ _ => fE9); refine add_arrays fE9 nE9 (nE9.isList ?a) (nE9.isList ?b) ?_ ?c; (case a => k_mem); (case b => k_mem); (case c => (rw [sizeLine_eq]; simp only [List.size_toArray, List.length_cons, List.length_nil]; lia)); intro _ _ _) | ((with_reducible show wpAny _ _ (binaryOp Operator.Mult (Value.str _ _) (Value.int _ _)) _ _ _); refine SB.mul (mulOk_of 1 2 (len_one _) (by decide) (by decide) (by decide) (by decide)) ?_; intro _ _; rw [mul_two]) | walk1 | (dsimp only; walk1))
    (rename Fr _ _ _ _ => fE); (rename News _ _ _ _ => nE)
    show Q Flow.next { s with heap := _, toks := _ }
    refine hret _ _ _ (es ++ [(smallC f, false, { cps := #[smallC f] }), (dblC f, false, { cps := #[smallC f, smallC f] })]) _ _ _ ?_ ?_ ?_ ?_ ?_ fE nE
    · refine (hT.mono fun p hp => .tail _ (.tail _ (.tail _ (.tail _ (.tail _ hp))))).append (.cons (.tail _ (.tail _ (.head _))) (.cons (.tail _ (.head _)) .nil))
    · simp [hel]
    · intro e he
      rcases List.mem_append.mp he with he | he
      · exact hem e he
      · unfold menuL
        rcases List.mem_cons.mp he with rfl | he
        · exact .head _
        · rw [List.mem_singleton.mp he]; exact .tail _ (.tail _ (.tail _ (.head _)))
    · rw [List.drop_append_of_le_length (by lia), List.drop_of_length_le (by lia), List.nil_append]
    · exact fun p hp => .tail _ (.tail _ (.tail _ (.tail _ (.tail _ (hsub p hp)))))
end Mine
end
section
open PySem PySem.W PyProof.Rows PyProof.V PySem.Calls
namespace Mine
/-! table B.3 -/
noncomputable def b3Get (k : Int) : Option Value := findBy Value.isInt (b3Raw.map ent).toArray k
theorem b3Raw_ok : (b3Raw.all fun r => decide (0 ≤ r.1) && decide (r.1 < 1000000) && (match r.2.2 with | .str _ _ => true | _ => false)) = true := by kernel_rfl
theorem b3_map {P : Params} {prog : Program} {w : World} {h : Heap} (X : (KF P).In h) : h.MapOf (PySem.intKind prog w) 148 b3Get := by
  refine ⟨dObj b3Raw, (b3Raw.map ent).toArray, b3Raw.length, X 148 _ rfl, ⟨rfl, rfl, rfl⟩, rfl, fun e he => ?_, fun k => rfl⟩
  have hk : ∀ k ∈ b3Raw.map (·.1), 0 ≤ k ∧ k < 1000000 := by
    intro k hk
    obtain ⟨r, hr, rfl⟩ := List.mem_map.mp hk
    have := List.all_eq_true.mp b3Raw_ok r hr
    simp only [Bool.and_eq_true, decide_eq_true_eq] at this
    exact this.1
  obtain ⟨k, t, e1, e2⟩ := keys_int hk e he
  exact ⟨k, by rw [e1]; exact intKind_is _ _ _ _, e2⟩
theorem b3_str {k : Int} {v : Value} (h : b3Get k = some v) : ∃ x t, v = .str x t := by
  obtain ⟨e, he, rfl⟩ := Option.map_eq_some_iff.mp h
  have hm : e ∈ b3Raw.map ent := by
    have := Array.mem_of_find?_eq_some he
    simpa using this
  obtain ⟨r, hr, rfl⟩ := List.mem_map.mp hm
  have := List.all_eq_true.mp b3Raw_ok r hr
  simp only [Bool.and_eq_true] at this
  have h2 := this.2
  show ∃ x t, r.2.2 = .str x t
  split at h2
  · rename_i x t hv; exact ⟨x, t, hv⟩
  · cases h2
section
variable {w : World} {A : Around} {E : Value → Shared → Prop} {s : Shared} {P : Params} {h₀ : Heap} {L : Addr} {m : Str → Option Value}
theorem b3_meth {pl : Sem Bool} {Q : Value × List Value → Shared → Prop} (X : (KF P).In h₀) (F : Fr h₀ L s.heap m) (h : Q (.builtin "dict.get", [.ref 148]) s) : wpAny (model PW w) A (getMethod (.ref 148) "get" pl) Q E s :=
  getMethod_builtin (b3_map (prog := PW) (w := w) (X.keeps F.keep)).typeIs PySem.F.plainAttrs_dict PySem.F.slot_dict_get PySem.F.type_dict_get (b3_map (prog := PW) (w := w) (X.keeps F.keep)).noDict h
theorem b3_get {k : Int} {t : Tok} {Q : Value → Shared → Prop} (X : (KF P).In h₀) (F : Fr h₀ L s.heap m) (h : Q ((b3Get k).getD .none) { s with toks := s.toks + 1 }) : wpAny (model PW w) A (call (.builtin "dict.get") [.ref 148, .int k t]) Q E s :=
  have hm := b3_map (prog := PW) (w := w) (X.keeps F.keep)
  call_meetsIn PySem.F.slot_dict_get hm.typeIs PySem.F.entry_dict_get (PySem.F.args_dict_get_2 _ _) (meets_dict_get (PySem.intKind PW w) 148 (intKind_is _ _ _ _) (by decide)) ⟨_, hm, h⟩
end
theorem len1 (c : Nat) : ({ cps := #[c] } : Str).length ≤ 5592405 := by show 1 ≤ _; decide
theorem C_b3 (w : World) (mean : ExcName → Option Value) (mg mb : Str → Option Value) (dp un : Nat) (gd : Option (List Code)) (outer : List Env) (s : Shared) (Q E : Value → Shared → Prop)
    (c : Nat) (t1 : Tok) (x : Str) (t2 : Tok) (hx : b3Get (c : Int) = some (.str x t2))
    (X : (KF w.params).In s.heap) (T : TopM mean mg mb s.heap) (hdp : dp < recursionLimit) (hun : un + 8 < cLine)
    (hret : ∀ t h' tk', Keeps s.heap h' → Q (.str x t) { s with heap := h', toks := tk' }) :
    wpAny (model PW w) (arn dp un gd outer) (call (.ref 193) [.str ({ cps := #[c] } : Str) t1]) Q E s := by
  have hfill : PySem.Challenge.rw_rl0135_01 = PySem.Challenge.rw_rl0135_01 ∧ KF = KF := by k_fill; exact ⟨rfl, rfl⟩
  clear hfill
  w_on
  k_with_none
  refine wpAny_call ?_
  k_dflt (refine' enterP ?k3 ?k5 ?k6 ?k7 ?k8 ?k9 ?kB ?_ ?c5 ?c2 ?c3 ?c4; (case k3 => k_asm); (case k5 => exact T.nolimit); (case k6 => k_is); (case k7 => k_is); (case k8 => exact hdp); (case k9 => exact BindsTo.of_eq rfl); (case kB => exact locs rfl); (case c5 => decide); (case c2 => exact rfl); (case c3 => exact rfl); (case c4 => exact rfl))
  intro L' h' F' N'
  (try dsimp only)
  (try k_fold)
  repeat' (first | ((with_reducible show wpAny _ _ (call (Value.builtin "str.lower") _) _ _ _); (try dsimp only); (refine SCL.lower (len1 _) ?_); intro _) | ((with_reducible show wpAny _ _ (call (Value.builtin "dict.get") [Value.ref 148, Value.int _ _]) _ _ _); refine b3_get (by k_asm) (by k_asm) ?_; (rename b3Get _ = _ => hB9); (try simp only [hB9, Option.getD_some, Option.getD_none])) | ((with_reducible show wpAny _ _ (getMethod (Value.ref 148) _ _) _ _ _); refine b3_meth (by k_asm) (by k_asm) ?_) | (k_unfold; (try dsimp only)) | (k_end; kc_close) | (walk1; (try dsimp only)) | (dsimp only; walk1; (try dsimp only)) | (leave1; (try dsimp only)) | fail "no step")
  exact hret _ _ _ (Fr.keep (by assumption))
theorem C_b3n (w : World) (mean : ExcName → Option Value) (mg mb : Str → Option Value) (dp un : Nat) (gd : Option (List Code)) (outer : List Env) (s : Shared) (Q E : Value → Shared → Prop)
    (c : Nat) (t1 : Tok) (hx : b3Get (c : Int) = none)
    (X : (KF w.params).In s.heap) (T : TopM mean mg mb s.heap) (hdp : dp < recursionLimit) (hun : un + 8 < cLine)
    (hret : ∀ t h' tk', Keeps s.heap h' → Q (.str (Txt.lower ({ cps := #[c] } : Str)) t) { s with heap := h', toks := tk' }) :
    wpAny (model PW w) (arn dp un gd outer) (call (.ref 193) [.str ({ cps := #[c] } : Str) t1]) Q E s := by
  have hfill : PySem.Challenge.rw_rl0135_01 = PySem.Challenge.rw_rl0135_01 ∧ KF = KF := by k_fill; exact ⟨rfl, rfl⟩
  clear hfill
  w_on
  k_with_none
  refine wpAny_call ?_
  k_dflt (refine' enterP ?k3 ?k5 ?k6 ?k7 ?k8 ?k9 ?kB ?_ ?c5 ?c2 ?c3 ?c4; (case k3 => k_asm); (case k5 => exact T.nolimit); (case k6 => k_is); (case k7 => k_is); (case k8 => exact hdp); (case k9 => exact BindsTo.of_eq rfl); (case kB => exact locs rfl); (case c5 => decide); (case c2 => exact rfl); (case c3 => exact rfl); (case c4 => exact rfl))
  intro L' h' F' N'
  (try dsimp only)
  (try k_fold)
  repeat' (first | ((with_reducible show wpAny _ _ (call (Value.builtin "str.lower") _) _ _ _); (try dsimp only); (refine SCL.lower (len1 _) ?_); intro _) | ((with_reducible show wpAny _ _ (call (Value.builtin "dict.get") [Value.ref 148, Value.int _ _]) _ _ _); refine b3_get (by k_asm) (by k_asm) ?_; (rename b3Get _ = _ => hB9); (try simp only [hB9, Option.getD_some, Option.getD_none])) | ((with_reducible show wpAny _ _ (getMethod (Value.ref 148) _ _) _ _ _); refine b3_meth (by k_asm) (by k_asm) ?_) | (k_unfold; (try dsimp only)) | (k_end; kc_close) | (walk1; (try dsimp only)) | (dsimp only; walk1; (try dsimp only)) | (leave1; (try dsimp only)) | fail "no step")
  exact hret _ _ _ (Fr.keep (by assumption))
end Mine
end
section
open PySem PySem.W PyProof.Rows PySem.Calls PySem.Spec
namespace Mine
/-! the menu of signs, through both tables -/
noncomputable def b3K : List Nat := [181, 223, 304, 329, 383, 496, 837, 890, 912, 944, 962, 976, 977, 978, 979, 980, 981, 982, 1008, 1009, 1010, 1013, 1415, 7830, 7831, 7832, 7833, 7834, 7835, 8016, 8018, 8020, 8022, 8064, 8065, 8066, 8067, 8068, 8069, 8070, 8071, 8072, 8073, 8074, 8075, 8076, 8077, 8078, 8079, 8080, 8081, 8082, 8083, 8084, 8085, 8086, 8087, 8088, 8089, 8090, 8091, 8092, 8093, 8094, 8095, 8096, 8097, 8098, 8099, 8100, 8101, 8102, 8103, 8104, 8105, 8106, 8107, 8108, 8109, 8110, 8111, 8114, 8115, 8116, 8118, 8119, 8124, 8126, 8130, 8131, 8132, 8134, 8135, 8140, 8146, 8147, 8150, 8151, 8162, 8163, 8164, 8166, 8167, 8178, 8179, 8180, 8182, 8183, 8188, 8360, 8450, 8451, 8455, 8457, 8459, 8460, 8461, 8464, 8465, 8466, 8469, 8470, 8473, 8474, 8475, 8476, 8477, 8480, 8481, 8482, 8484, 8488, 8492, 8493, 8496, 8497, 8499, 8510, 8511, 8517, 13169, 13171, 13173, 13184, 13185, 13186, 13187, 13188, 13189, 13190, 13191, 13194, 13195, 13196, 13200, 13201, 13202, 13203, 13204, 13225, 13226, 13227, 13228, 13236, 13237, 13238, 13239, 13240, 13241, 13242, 13243, 13244, 13245, 13246, 13247, 13248, 13249, 13251, 13254, 13255, 13256, 13257, 13259, 13261, 13262, 13271, 13273, 13274, 13276, 13277, 64256, 64257, 64258, 64259, 64260, 64261, 64262, 64275, 64276, 64277, 64278, 64279, 119808, 119809, 119810, 119811, 119812, 119813, 119814, 119815, 119816, 119817, 119818, 119819, 119820, 119821, 119822, 119823, 119824, 119825, 119826, 119827, 119828, 119829, 119830, 119831, 119832, 119833, 119860, 119861, 119862, 119863, 119864, 119865, 119866, 119867, 119868, 119869, 119870, 119871, 119872, 119873, 119874, 119875, 119876, 119877, 119878, 119879, 119880, 119881, 119882, 119883, 119884, 119885, 119912, 119913, 119914, 119915, 119916, 119917, 119918, 119919, 119920, 119921, 119922, 119923, 119924, 119925, 119926, 119927, 119928, 119929, 119930, 119931, 119932, 119933, 119934, 119935, 119936, 119937, 119964, 119966, 119967, 119970, 119973, 119974, 119977, 119978, 119979, 119980, 119982, 119983, 119984, 119985, 119986, 119987, 119988, 119989, 120016, 120017, 120018, 120019, 120020, 120021, 120022, 120023, 120024, 120025, 120026, 120027, 120028, 120029, 120030, 120031, 120032, 120033, 120034, 120035, 120036, 120037, 120038, 120039, 120040, 120041, 120068, 120069, 120071, 120072, 120073, 120074, 120077, 120078, 120079, 120080, 120081, 120082, 120083, 120084, 120086, 120087, 120088, 120089, 120090, 120091, 120092, 120120, 120121, 120123, 120124, 120125, 120126, 120128, 120129, 120130, 120131, 120132, 120134, 120138, 120139, 120140, 120141, 120142, 120143, 120144, 120172, 120173, 120174, 120175, 120176, 120177, 120178, 120179, 120180, 120181, 120182, 120183, 120184, 120185, 120186, 120187, 120188, 120189, 120190, 120191, 120192, 120193, 120194, 120195, 120196, 120197, 120224, 120225, 120226, 120227, 120228, 120229, 120230, 120231, 120232, 120233, 120234, 120235, 120236, 120237, 120238, 120239, 120240, 120241, 120242, 120243, 120244, 120245, 120246, 120247, 120248, 120249, 120276, 120277, 120278, 120279, 120280, 120281, 120282, 120283, 120284, 120285, 120286, 120287, 120288, 120289, 120290, 120291, 120292, 120293, 120294, 120295, 120296, 120297, 120298, 120299, 120300, 120301, 120328, 120329, 120330, 120331, 120332, 120333, 120334, 120335, 120336, 120337, 120338, 120339, 120340, 120341, 120342, 120343, 120344, 120345, 120346, 120347, 120348, 120349, 120350, 120351, 120352, 120353, 120380, 120381, 120382, 120383, 120384, 120385, 120386, 120387, 120388, 120389, 120390, 120391, 120392, 120393, 120394, 120395, 120396, 120397, 120398, 120399, 120400, 120401, 120402, 120403, 120404, 120405, 120432, 120433, 120434, 120435, 120436, 120437, 120438, 120439, 120440, 120441, 120442, 120443, 120444, 120445, 120446, 120447, 120448, 120449, 120450, 120451, 120452, 120453, 120454, 120455, 120456, 120457, 120488, 120489, 120490, 120491, 120492, 120493, 120494, 120495, 120496, 120497, 120498, 120499, 120500, 120501, 120502, 120503, 120504, 120505, 120506, 120507, 120508, 120509, 120510, 120511, 120512, 120531, 120546, 120547, 120548, 120549, 120550, 120551, 120552, 120553, 120554, 120555, 120556, 120557, 120558, 120559, 120560, 120561, 120562, 120563, 120564, 120565, 120566, 120567, 120568, 120569, 120570, 120589, 120604, 120605, 120606, 120607, 120608, 120609, 120610, 120611, 120612, 120613, 120614, 120615, 120616, 120617, 120618, 120619, 120620, 120621, 120622, 120623, 120624, 120625, 120626, 120627, 120628, 120647, 120662, 120663, 120664, 120665, 120666, 120667, 120668, 120669, 120670, 120671, 120672, 120673, 120674, 120675, 120676, 120677, 120678, 120679, 120680, 120681, 120682, 120683, 120684, 120685, 120686, 120705, 120720, 120721, 120722, 120723, 120724, 120725, 120726, 120727, 120728, 120729, 120730, 120731, 120732, 120733, 120734, 120735, 120736, 120737, 120738, 120739, 120740, 120741, 120742, 120743, 120744, 120763]
noncomputable def b3H : List (Nat × Str) := [(223, { cps := #[115, 115] }), (383, { cps := #[115] }), (8497, { cps := #[102] }), (13188, { cps := #[107, 97] }), (13261, { cps := #[107, 107] }), (64256, { cps := #[102, 102] }), (64257, { cps := #[102, 105] }), (64262, { cps := #[115, 116] }), (119813, { cps := #[102] }), (119818, { cps := #[107] }), (119826, { cps := #[115] }), (119865, { cps := #[102] }), (119870, { cps := #[107] }), (119878, { cps := #[115] }), (119917, { cps := #[102] }), (119922, { cps := #[107] }), (119930, { cps := #[115] }), (120021, { cps := #[102] }), (120026, { cps := #[107] }), (120034, { cps := #[115] }), (120177, { cps := #[102] }), (120182, { cps := #[107] }), (120190, { cps := #[115] }), (120229, { cps := #[102] }), (120234, { cps := #[107] }), (120242, { cps := #[115] }), (120281, { cps := #[102] }), (120286, { cps := #[107] }), (120294, { cps := #[115] }), (120333, { cps := #[102] }), (120338, { cps := #[107] }), (120346, { cps := #[115] }), (120385, { cps := #[102] }), (120390, { cps := #[107] }), (120398, { cps := #[115] }), (120437, { cps := #[102] }), (120442, { cps := #[107] }), (120450, { cps := #[115] })]
noncomputable def keysAre : List (Int × Nat × Value) → List Nat → Bool
  | [], [] => true
  | r :: l, k :: ks => match r.1 with
    | .ofNat n => match Nat.beq n k with | true => keysAre l ks | false => false
    | .negSucc _ => false
  | _, _ => false
noncomputable def ascend : List Nat → Bool
  | a :: b :: r => Nat.blt a b && ascend (b :: r)
  | _ => true
noncomputable def hitsAre : List (Int × Nat × Value) → List (Nat × Str) → Bool
  | _, [] => true
  | [], _ :: _ => false
  | r :: l, h :: hs => match r.1 with
    | .ofNat n => match Nat.beq n h.1 with
      | true => (match r.2.2 with | .str x _ => x == h.2 | _ => false) && hitsAre l hs
      | false => hitsAre l (h :: hs)
    | .negSucc _ => false
noncomputable def noneOf (q : Nat) : List Nat → Bool
  | [] => true
  | k :: r => match Nat.beq k q with | true => false | false => noneOf q r
theorem keys_ok : keysAre b3Raw b3K = true := by kernel_rfl
theorem hits_ok : hitsAre b3Raw b3H = true := by kernel_rfl
theorem asc_ok : ascend b3K = true := by kernel_rfl
theorem keysAre_map : ∀ {R : List (Int × Nat × Value)} {ks : List Nat}, keysAre R ks = true → R.map (·.1) = ks.map fun (n : Nat) => (n : Int)
  | [], [], _ => rfl
  | [], _ :: _, h => by cases h
  | _ :: _, [], h => by cases h
  | (.ofNat n, t, v) :: l, k :: ks, h => by
    simp only [keysAre] at h
    split at h
    · rename_i e
      rw [List.map_cons, List.map_cons, keysAre_map h, Nat.eq_of_beq_eq_true e]; rfl
    · cases h
  | (.negSucc n, t, v) :: l, k :: ks, h => by simp [keysAre] at h
theorem ascend_lt : ∀ {ks : List Nat}, ascend ks = true → ks.Pairwise (· < ·)
  | [], _ => .nil
  | [a], _ => by simp
  | a :: b :: r, h => by
    simp only [ascend, Bool.and_eq_true] at h
    have ih := ascend_lt h.2
    have hab : a < b := by have h0 := h.1; simp [Nat.blt] at h0; lia
    refine List.Pairwise.cons (fun c hc => ?_) ih
    rcases List.mem_cons.mp hc with rfl | hc
    · exact hab
    · exact Nat.lt_trans hab ((List.pairwise_cons.mp ih).1 c hc)
theorem hits_mem : ∀ {R : List (Int × Nat × Value)} {hs : List (Nat × Str)}, hitsAre R hs = true → ∀ p ∈ hs, ∃ t u, ((p.1 : Int), t, Value.str p.2 u) ∈ R
  | _, [], _, p, hp => by cases hp
  | [], _ :: _, h, _, _ => by cases h
  | (.ofNat n, t, v) :: l, q :: hs, h, p, hp => by
    simp only [hitsAre] at h
    split at h
    · rename_i e
      rw [Bool.and_eq_true] at h
      rcases List.mem_cons.mp hp with rfl | hp
      · have h1 := h.1
        split at h1
        · rename_i x u
          refine ⟨t, u, ?_⟩
          rw [← (beq_iff_eq.mp h1), ← Nat.eq_of_beq_eq_true e]
          exact .head _
        · cases h1
      · obtain ⟨t', u', hm⟩ := hits_mem h.2 p hp
        exact ⟨t', u', .tail _ hm⟩
    · obtain ⟨t', u', hm⟩ := hits_mem h p hp
      exact ⟨t', u', .tail _ hm⟩
  | (.negSucc n, t, v) :: l, q :: hs, h, p, hp => by simp [hitsAre] at h
theorem find_mem : ∀ {R : List (Int × Nat × Value)}, (R.map (·.1)).Nodup → ∀ {k : Int} {t : Nat} {v : Value}, (k, t, v) ∈ R → (R.map ent).find? (fun e => Value.isInt k e.key) = some (ent (k, t, v))
  | [], _, _, _, _, h => by cases h
  | r :: l, hn, k, t, v, h => by
    rw [List.map_cons, List.find?_cons]
    rcases List.mem_cons.mp h with rfl | h
    · have : Value.isInt k (ent (k, t, v)).key = true := by simp [ent, Value.isInt]
      rw [this]
    · have hne : Value.isInt k (ent r).key = false := by
        simp only [ent, Value.isInt, beq_eq_false_iff_ne]
        intro e
        have := (List.nodup_cons.mp hn).1
        exact this (List.mem_map.mpr ⟨_, h, e.symm⟩)
      rw [hne]
      exact find_mem (List.nodup_cons.mp hn).2 h
theorem find_no : ∀ {R : List (Int × Nat × Value)} {k : Int}, k ∉ R.map (·.1) → (R.map ent).find? (fun e => Value.isInt k e.key) = none
  | [], _, _ => rfl
  | r :: l, k, h => by
    rw [List.map_cons, List.mem_cons, not_or] at h
    rw [List.map_cons, List.find?_cons]
    have hne : Value.isInt k (ent r).key = false := by
      simp only [ent, Value.isInt, beq_eq_false_iff_ne]
      exact fun e => h.1 e.symm
    rw [hne]
    exact find_no h.2
theorem b3_find (k : Int) : b3Get k = ((b3Raw.map ent).find? fun e => Value.isInt k e.key).map (·.val) := by
  unfold b3Get findBy
  rw [List.find?_toArray]
theorem b3_hit {p : Nat × Str} (h : p ∈ b3H) : ∃ u, b3Get (p.1 : Int) = some (.str p.2 u) := by
  obtain ⟨t, u, hm⟩ := hits_mem hits_ok p h
  refine ⟨u, ?_⟩
  have hn : (b3Raw.map (·.1)).Nodup := by
    rw [keysAre_map keys_ok]
    refine List.Pairwise.map _ (fun a b (hab : a < b) => ?_) (ascend_lt asc_ok)
    lia
  rw [b3_find, find_mem hn hm]; rfl
theorem noneOf_mem : ∀ {ks : List Nat} {q : Nat}, noneOf q ks = true → q ∉ ks
  | [], _, _ => by simp
  | k :: r, q, h => by
    simp only [noneOf] at h
    split at h
    · cases h
    · rename_i e
      rw [List.mem_cons, not_or]
      exact ⟨fun x => by rw [x] at e; simp at e, noneOf_mem h⟩
theorem b3_none {q : Nat} (h : noneOf q b3K = true) : b3Get (q : Int) = none := by
  rw [b3_find, find_no, Option.map_none]
  rw [keysAre_map keys_ok, List.mem_map]
  rintro ⟨n, hn, e⟩
  have : n = q := by lia
  exact noneOf_mem h (this ▸ hn)
noncomputable def b3B (e : Nat × Bool × Str) : Bool := b3H.contains (e.1, e.2.2) || (noneOf e.1 b3K && Txt.lower ({ cps := #[e.1] } : Str) == e.2.2)
theorem b3B_ok {e : Nat × Bool × Str} (h : b3B e = true) : (∃ u, b3Get (e.1 : Int) = some (.str e.2.2 u)) ∨ (b3Get (e.1 : Int) = none ∧ Txt.lower ({ cps := #[e.1] } : Str) = e.2.2) := by
  unfold b3B at h
  rw [Bool.or_eq_true, Bool.and_eq_true] at h
  rcases h with h | h
  · exact .inl (b3_hit (p := (e.1, e.2.2)) (by simpa using h))
  · exact .inr ⟨b3_none h.1, beq_iff_eq.mp h.2⟩
noncomputable def cmL : List (Nat × Bool × Str) := (b1L.map fun (c : Int) => (c.toNat, true, ({ cps := #[c.toNat] } : Str))) ++ (nbL.map fun (c : Int) => (c.toNat, false, ({ cps := #[c.toNat] } : Str)))
noncomputable def owL (f : Nat) : List (Nat × Bool × Str) :=
  (smallC f, false, { cps := #[smallC f] }) :: (smallC f - 32, false, { cps := #[smallC f] }) :: (longC f, false, { cps := #[smallC f] }) :: (dblC f, false, { cps := #[smallC f, smallC f] }) ::
    (ligC f, false, ligX f) :: (alL.map fun (a : Int) => ((119711 + 52 * a + (smallC f : Int)).toNat, false, ({ cps := #[smallC f] } : Str)))
theorem menu_split (f : Nat) : menuL f = owL f ++ cmL := by simp [menuL, owL, cmL]
theorem cm_b3 : (cmL.all b3B) = true := by kernel_rfl
theorem ow_b3_0 : ((owL 0).all b3B) = true := by kernel_rfl
theorem ow_b3_1 : ((owL 1).all b3B) = true := by kernel_rfl
theorem ow_b3_2 : ((owL 2).all b3B) = true := by kernel_rfl
/-- what else is so of each sign -/
noncomputable def foldP (f : Nat) (x : Str) : Str := if x == Txt.mul ({ cps := #[smallC f] } : Str) x.length then Txt.mul ({ cps := #[32] } : Str) x.length else { cps := #[9] }
noncomputable def pieceB (x : Str) : Bool := x.cps.toList == [32] || x.cps.toList == [32, 32] || x.cps.toList == [9]
noncomputable def etcB (f : Nat) (e : Nat × Bool × Str) : Bool :=
  (b1L.contains (e.1 : Int) == e.2.1) && Nat.blt e.1 1114112 && PyData.strOk ({ cps := #[e.1] } : Str) && PyData.strOk e.2.2 && Nat.ble e.2.2.length 2 && (e.2.1 || (pieceB (foldP f e.2.2) && (!(e.2.2 == ({ cps := #[smallC f, smallC f] } : Str)) || Nat.beq e.1 (dblC f))))
theorem etc_0 : ((menuL 0).all (etcB 0)) = true := by kernel_rfl
theorem etc_1 : ((menuL 1).all (etcB 1)) = true := by kernel_rfl
theorem etc_2 : ((menuL 2).all (etcB 2)) = true := by kernel_rfl
theorem menu_b3 {f : Nat} (hf : f = 0 ∨ f = 1 ∨ f = 2) {e : Nat × Bool × Str} (h : e ∈ menuL f) : (∃ u, b3Get (e.1 : Int) = some (.str e.2.2 u)) ∨ (b3Get (e.1 : Int) = none ∧ Txt.lower ({ cps := #[e.1] } : Str) = e.2.2) := by
  rw [menu_split] at h
  refine b3B_ok ?_
  rcases List.mem_append.mp h with h | h
  · rcases hf with rfl | rfl | rfl
    · exact List.all_eq_true.mp ow_b3_0 e h
    · exact List.all_eq_true.mp ow_b3_1 e h
    · exact List.all_eq_true.mp ow_b3_2 e h
  · exact List.all_eq_true.mp cm_b3 e h
theorem menu_etc {f : Nat} (hf : f = 0 ∨ f = 1 ∨ f = 2) {e : Nat × Bool × Str} (h : e ∈ menuL f) : b1L.contains (e.1 : Int) = e.2.1 ∧ PyData.strOk ({ cps := #[e.1] } : Str) = true ∧ PyData.strOk e.2.2 = true ∧ e.2.2.length ≤ 2 ∧ (e.2.1 = false → pieceB (foldP f e.2.2) = true ∧ (e.2.2 = ({ cps := #[smallC f, smallC f] } : Str) → e.1 = dblC f)) := by
  have key : etcB f e = true := by
    rcases hf with rfl | rfl | rfl
    · exact List.all_eq_true.mp etc_0 e h
    · exact List.all_eq_true.mp etc_1 e h
    · exact List.all_eq_true.mp etc_2 e h
  unfold etcB at key
  simp only [Bool.and_eq_true] at key
  obtain ⟨⟨⟨⟨⟨k1, k2⟩, k3⟩, k4⟩, k5⟩, k6⟩ := key
  refine ⟨beq_iff_eq.mp k1, k3, k4, Nat.le_of_ble_eq_true k5, fun hn => ?_⟩
  rw [hn, Bool.false_or, Bool.and_eq_true] at k6
  refine ⟨k6.1, fun hx => ?_⟩
  have k7 := k6.2
  rw [hx] at k7
  exact Nat.eq_of_beq_eq_true (by simpa using k7)
end Mine
end
section
open PySem PySem.W PyProof.Rows PySem.Calls PySem.Spec
open PyProof.Rows.LCg (NsObj ns_obj Off3 Off1 SrcAt lst lst_snoc)
namespace Mine
theorem C_b3a (w : World) (mean : ExcName → Option Value) (mg mb : Str → Option Value) (dp un : Nat) (gd : Option (List Code)) (outer : List Env) (s : Shared) (Q E : Value → Shared → Prop)
    {f : Nat} (hf : f = 0 ∨ f = 1 ∨ f = 2) {e : Trip} (he : e ∈ menuL f) (t1 : Tok) (X : (KF w.params).In s.heap) (T : TopM mean mg mb s.heap) (hdp : dp < recursionLimit) (hun : un + 8 < cLine)
    (hret : ∀ t h' tk', Keeps s.heap h' → Q (.str e.2.2 t) { s with heap := h', toks := tk' }) :
    wpAny (model PW w) (arn dp un gd outer) (call (.ref 193) [.str ({ cps := #[e.1] } : Str) t1]) Q E s := by
  rcases menu_b3 hf he with ⟨u, h⟩ | ⟨h1, h2⟩
  · exact C_b3 w mean mg mb dp un gd outer s Q E e.1 t1 e.2.2 u h X T hdp hun hret
  · refine C_b3n w mean mg mb dp un gd outer s Q E e.1 t1 h1 X T hdp hun ?_
    rw [h2]; exact hret
theorem left3_new {σ : Type} {J : Nat → σ → List (Addr × Obj) → Prop} {g h' : Heap} {L t I C D : Addr} {m : Str → Option Value} {s₁ : Shared} {o oI oC oD : Obj} {nw : List (Addr × Obj)} {i : Nat} {st : σ} {tk : Nat} {R : Prop}
    (F : Fr g L h' m) (N : News g L h' ((t, o) :: (I, oI) :: (C, oC) :: (D, oD) :: nw)) (l : I < t ∧ C < t ∧ D < t ∧ R) (off : Off3 I C D nw) (hJ : J i st ((t, o) :: nw)) : Left3 J g L m s₁ I oI C oC D oD i st { s₁ with heap := h', toks := tk } := by
  refine ⟨h', tk, (t, o) :: nw, rfl, F, fun p hp => N p ?_, ⟨⟨Nat.ne_of_gt l.1, Nat.ne_of_gt l.2.1, Nat.ne_of_gt l.2.2.1⟩, off⟩, hJ⟩
  rcases List.mem_cons.mp hp with rfl | hp
  · exact .tail _ (.head _)
  rcases List.mem_cons.mp hp with rfl | hp
  · exact .tail _ (.tail _ (.head _))
  rcases List.mem_cons.mp hp with rfl | hp
  · exact .tail _ (.tail _ (.tail _ (.head _)))
  rcases List.mem_cons.mp hp with rfl | hp
  · exact .head _
  · exact .tail _ (.tail _ (.tail _ (.tail _ hp)))
theorem left3_same {σ : Type} {J : Nat → σ → List (Addr × Obj) → Prop} {g h' : Heap} {L I C D : Addr} {m : Str → Option Value} {s₁ : Shared} {oI oC oD : Obj} {nw : List (Addr × Obj)} {i : Nat} {st : σ} {tk : Nat}
    (F : Fr g L h' m) (N : News g L h' ((I, oI) :: (C, oC) :: (D, oD) :: nw)) (off : Off3 I C D nw) (hJ : J i st nw) : Left3 J g L m s₁ I oI C oC D oD i st { s₁ with heap := h', toks := tk } :=
  ⟨h', tk, nw, rfl, F, N, off, hJ⟩
theorem law_4 (w : World) (mean : ExcName → Option Value) (mg mb : Str → Option Value) (dp un : Nat) (gd : Option (List Code)) (outer : List Env) (g : Heap) (L a : Addr) (cd : Value) (m : Str → Option Value) (nw0 : List (Addr × Obj)) (s : Shared) (Q : Flow → Shared → Prop) (E : Value → Shared → Prop)
    (f : Nat) (hf : f = 0 ∨ f = 1 ∨ f = 2) (D : Addr) (c : Nat) (ys : List Value) (es : List Trip) (hT : Trips nw0 ys es) (hlen : es.length = 11) (hem : ∀ e ∈ es, e ∈ menuL f)
    (F : Fr g L s.heap (fun z => if z = Str.ofString "drawn" then some (.ref D) else m z)) (N : News g L s.heap ((D, W.listOf ys.toArray c) :: nw0)) (X : (KF w.params).In g) (T : TopM mean mg mb g) (hdp : dp + 10 < recursionLimit) (hun : un + 60 < cLine)
    (hret : ∀ D2 c2 zs nw h' tk', Trips nw zs es → (∀ p ∈ (D, W.listOf ys.toArray c) :: nw0, p ∈ nw) →
      Fr g L h' (fun z => if z = Str.ofString "told" then some (.ref D2) else if z = Str.ofString "drawn" then some (.ref D) else m z) → News g L h' ((D2, W.listOf zs.toArray c2) :: nw) → Q .next { s with heap := h', toks := tk' }) :
    wpAny (model PW w) (arn dp un gd outer) (exec lS4 (lawE L a cd)) Q E s := by
  have hfill : PySem.Challenge.rw_rl0135_01 = PySem.Challenge.rw_rl0135_01 ∧ KF = KF := by k_fill; exact ⟨rfl, rfl⟩
  clear hfill
  w_on
  k_with_none
  have hyl := hT.length
  refine Assign_ListComp_3 (L := L) (h₀ := g) (m := fun z => if z = Str.ofString "drawn" then some (.ref D) else m z) (by rfl) (by with_unfolding_all rfl) (by with_unfolding_all rfl) (by decide) (by rfl) (by rfl) (by decide) (by rfl) (by rfl) (by rfl) (by decide) (by decide) (by decide) (by rfl) (by rfl) ?_
  iterate 1 (first | walk1 | (dsimp only; walk1))
  refine ⟨D, ys.toArray, (D, W.listOf ys.toArray c) :: nw0, _, _, fun i st nw => Trips nw st (es.take i) ∧ ∀ p ∈ (D, W.listOf ys.toArray c) :: nw0, p ∈ nw, rfl, rfl, F, N, ⟨.nil, fun _ h => h⟩, ?src, ?len, ?turn, ?fin⟩
  case src => exact fun i st nw h => .inr ⟨_, h.2 _ (.head _), rfl, _, rfl⟩
  case len => intro i st nw h; rw [h.1.length, List.length_take]; lia
  case fin =>
    intro D2 st nw h tk hJ hne F2 N2
    have hsz : ys.toArray.size = 11 := by rw [List.size_toArray, hyl, hlen]
    rw [hsz, List.take_of_length_le (by lia)] at hJ
    exact hret _ _ _ _ _ _ hJ.1 hJ.2 F2 N2
  case turn =>
    intro h0 tk0
    rintro I C D2 i st nw v nI nC nD nCI nDI nDC ⟨hT2, hsub⟩ hv
    rw [List.getElem?_toArray] at hv
    obtain ⟨t, e, u1, u2, rfl, hei, hmt⟩ := hT.get hv
    have he := hem e (List.mem_of_getElem? hei)
    refine ⟨t, _, _, _, 0, rfl, hsub _ (.tail _ hmt), ?_⟩
    intro oI oC m₂ h tk E' hC hx1 hx2 hx3 F' N' off hcI
    clear F N hret
    obtain ⟨b1, _⟩ := menu_etc hf he
    iterate 13 (first | walk1 | (dsimp only; walk1))
    refine ⟨X.keeps F'.keep, ?_⟩
    refine C_b1 w mean mg mb dp un gd outer _ _ _ e.1 _ (X.keeps F'.keep) (T.keeps F'.keep) (by lia) (by lia) ?_
    intro h1 tk1 hk1
    rw [b1]
    have F1 := F'.keeps hk1
    have N1 := N'.grown hk1
    clear F' N'
    iterate 8 (first | walk1 | (dsimp only; walk1))
    refine ⟨X.keeps F1.keep, ?_⟩
    refine C_b3a w mean mg mb dp un gd outer _ _ _ hf he _ (X.keeps F1.keep) (T.keeps F1.keep) (by lia) (by lia) ?_
    intro t3 h2 tk2 hk2
    have F2 := F1.keeps hk2
    have N2 := N1.grown hk2
    clear F1 N1
    (first | walk1 | (dsimp only; walk1) | (dsimp only [qk]; walk1))
    iterate 1 (first | walk1 | (dsimp only; walk1))
    (rename Fr _ _ _ _ => fE); (rename News _ _ _ _ => nE); (rename @LT.lt _ _ _ _ ∧ _ => lE)
    refine left3_new fE nE lE off ⟨?_, fun p hp => .tail _ (hsub p hp)⟩
    rw [List.take_add_one, hei]
    exact (hT2.mono fun p hp => .tail _ hp).append (.cons (.head _) .nil)
end Mine
end
section
open PySem PySem.W PyProof.Rows PySem.Calls PySem.Spec
open PyProof.Rows.LCg (NsObj ns_obj Off3 Off1 SrcAt lst lst_snoc)
namespace Mine
noncomputable def tripD (e : Trip) : PyData := .tuple [.str ({ cps := #[e.1] } : Str), .bool e.2.1, .str e.2.2]
theorem trips_reads {h : Heap} {nw : List (Addr × Obj)} (hN : ∀ p ∈ nw, h.get? p.1 = some p.2) {rs : List Value} {es : List Trip} (hT : Trips nw rs es) : ∃ as, ReadsAll h rs (es.map tripD) as := by
  induction hT with
  | nil => exact ⟨_, .nil⟩
  | cons hm _ ih =>
    obtain ⟨as, r⟩ := ih
    exact ⟨_, .cons (reads_tuple_at (hN _ hm) rfl rfl (.cons (.str _ _) (.cons (.bool _) (.cons (.str _ _) .nil)))) r⟩
theorem trips_lay : ∀ {es : List Trip}, (∀ e ∈ es, PyData.strOk ({ cps := #[e.1] } : Str) = true ∧ PyData.strOk e.2.2 = true) → PyData.canLayAll0 (es.map tripD) = true ∧ PyData.depthAll (es.map tripD) ≤ 1
  | [], _ => by simp [PyData.canLayAll0, PyData.depthAll]
  | e :: es, h => by
    have h1 := h e (List.mem_cons_self ..)
    have h2 := trips_lay fun x hx => h x (List.mem_cons_of_mem _ hx)
    simp only [List.map_cons, PyData.canLayAll0, PyData.depthAll, tripD, PyData.canLay0, PyData.depth, h1.1, h1.2, h2.1, Bool.and_self, true_and]
    have := h2.2
    lia
theorem ne_trips {prog : Program} {w : World} {A : Around} {E : Value → Shared → Prop} {s : Shared} {g : Heap} {L a b : Addr} {news : List (Addr × Obj)} {rs qs : List Value} {es : List Trip} {c1 c2 : Nat} {Q : Value → Shared → Prop}
    (N : News g L s.heap news) (m1 : (a, W.listOf rs.toArray c1) ∈ news) (m2 : (b, W.listOf qs.toArray c2) ∈ news) (h1 : Trips news rs es) (h2 : Trips news qs es)
    (hl : ∀ e ∈ es, PyData.strOk ({ cps := #[e.1] } : Str) = true ∧ PyData.strOk e.2.2 = true) (hu : A.units + 64 < cLine) (h : Q (.bool false) s) : wpAny (model prog w) A (compareOp .NotEq (.ref a) (.ref b)) Q E s := by
  obtain ⟨as, ra⟩ := trips_reads (fun p hp => (N p hp).1) h1
  obtain ⟨bs, rb⟩ := trips_reads (fun p hp => (N p hp).1) h2
  obtain ⟨l1, l2⟩ := trips_lay hl
  have lay : PyData.canLay0 (.list (es.map tripD)) = true := by simpa [PyData.canLay0] using l1
  have hsh : SeqAt.shaped (.list (es.map tripD)) = true := by
    unfold SeqAt.shaped
    rw [lay, Bool.true_and]
    refine decide_eq_true ?_
    simp only [PyData.depth]
    lia
  refine ne_dataH (reads_list_at (N.get m1) rfl rfl (by simpa using ra)) (reads_list_at (N.get m2) rfl rfl (by simpa using rb)) hsh hsh hu ?_
  rw [SeqAt.eqv_refl _ lay]
  exact h
theorem law_5 (w : World) (mean : ExcName → Option Value) (mg mb : Str → Option Value) (dp un : Nat) (gd : Option (List Code)) (outer : List Env) (g : Heap) (L a : Addr) (cd : Value) (m : Str → Option Value) (nw0 : List (Addr × Obj)) (s : Shared) (Q : Flow → Shared → Prop) (E : Value → Shared → Prop)
    (f : Nat) (hf : f = 0 ∨ f = 1 ∨ f = 2) (D D2 : Addr) (c c2 : Nat) (ys zs : List Value) (es : List Trip) (hT : Trips nw0 ys es) (hT2 : Trips nw0 zs es) (hlen : es.length = 11) (hem : ∀ e ∈ es, e ∈ menuL f)
    (F : Fr g L s.heap (fun z => if z = Str.ofString "told" then some (.ref D2) else if z = Str.ofString "drawn" then some (.ref D) else m z)) (N : News g L s.heap ((D2, W.listOf zs.toArray c2) :: (D, W.listOf ys.toArray c) :: nw0)) (X : (KF w.params).In g) (T : TopM mean mg mb g) (hdp : dp + 10 < recursionLimit) (hun : un + 100 < cLine)
    (hret : ∀ h' tk', Fr g L h' (fun z => if z = Str.ofString "told" then some (.ref D2) else if z = Str.ofString "drawn" then some (.ref D) else m z) → News g L h' ((D2, W.listOf zs.toArray c2) :: (D, W.listOf ys.toArray c) :: nw0) → Q .next { s with heap := h', toks := tk' }) :
    wpAny (model PW w) (arn dp un gd outer) (exec lS5 (lawE L a cd)) Q E s := by
  have hfill : PySem.Challenge.rw_rl0135_01 = PySem.Challenge.rw_rl0135_01 ∧ KF = KF := by k_fill; exact ⟨rfl, rfl⟩
  clear hfill
  w_on
  k_with_none
  have hzl := hT2.length
  have ht1 : Trips ((D2, W.listOf zs.toArray c2) :: (D, W.listOf ys.toArray c) :: nw0) ys es := hT.mono fun p hp => .tail _ (.tail _ hp)
  have ht2 : Trips ((D2, W.listOf zs.toArray c2) :: (D, W.listOf ys.toArray c) :: nw0) zs es := hT2.mono fun p hp => .tail _ (.tail _ hp)
  have hok : ∀ e ∈ es, PyData.strOk ({ cps := #[e.1] } : Str) = true ∧ PyData.strOk e.2.2 = true := fun e he => ⟨(menu_etc hf (hem e he)).2.1, (menu_etc hf (hem e he)).2.2.1⟩
  iterate 5 (first | walk1 | (dsimp only; walk1))
  refine ne_trips N (.head _) (.tail _ (.head _)) ht2 ht1 hok (show un + 64 < cLine by lia) ?_
  iterate 9 (first | walk1 | (dsimp only; walk1))
  refine ListComp_3 (L := L) (h₀ := g) (m := fun z => if z = Str.ofString "told" then some (.ref D2) else if z = Str.ofString "drawn" then some (.ref D) else m z) (by with_unfolding_all rfl) (by decide) (by rfl) (by rfl) (by decide) (by rfl) (by rfl) (by rfl) (by decide) (by decide) (by decide) ?_
  iterate 1 (first | walk1 | (dsimp only; walk1))
  refine ⟨D2, zs.toArray, (D2, W.listOf zs.toArray c2) :: (D, W.listOf ys.toArray c) :: nw0, _, _, fun i st nw => nw = (D2, W.listOf zs.toArray c2) :: (D, W.listOf ys.toArray c) :: nw0 ∧ st = List.replicate i (.bool true) ∧ i ≤ 11, rfl, rfl, F, N, ⟨rfl, rfl, Nat.zero_le _⟩, ?src, ?len, ?turn, ?fin⟩
  case src => rintro i st nw ⟨rfl, _, _⟩; exact .inr ⟨_, .head _, rfl, _, rfl⟩
  case len => rintro i st nw ⟨_, rfl, h⟩; rw [List.length_replicate]; lia
  case turn =>
    intro h0 tk0
    rintro I C D3 i st nw v nI nC nD nCI nDI nDC ⟨rfl, rfl, hi11⟩ hv
    rw [List.getElem?_toArray] at hv
    obtain ⟨t, e, u1, u2, rfl, hei, hmt⟩ := hT2.get hv
    have hi2 : i < 11 := by rw [← hlen]; exact (List.getElem?_eq_some_iff.mp hei).1
    refine ⟨t, _, _, _, 0, rfl, .tail _ (.tail _ hmt), ?_⟩
    intro oI oC m₂ h tk E' hC hx1 hx2 hx3 F' N' off hcI
    clear F N hret
    iterate 11 (first | walk1 | (dsimp only; walk1))
    (rename Fr _ _ _ _ => fE); (rename News _ _ _ _ => nE)
    exact left3_same fE nE off ⟨rfl, by rw [List.replicate_succ'], hi2⟩
  case fin =>
    rintro D3 st nw h tk ⟨rfl, rfl, _⟩ hne F2 N2
    clear F N
    iterate 1 (first | walk1 | (dsimp only; walk1))
    have hzs : zs.toArray.size = 11 := by rw [List.size_toArray, hzl, hlen]
    have hb : LSm.BoolsAre (List.replicate zs.toArray.size (Value.bool true)) (List.replicate 11 true) := by
      rw [hzs]; simp only [List.replicate]; repeat (first | exact .nil | refine .cons _ ?_)
    refine LSm.all_bools F2 N2 (by rfl) (N2.isList (.head _)) hb ?_
    intro h3 tk3 F3 N3
    clear F2 N2
    iterate 6 (try first | walk1 | (dsimp only; walk1))
    (rename Fr _ _ _ _ => fE); (rename News _ _ _ _ => nE)
    exact hret _ _ fE fun p hp => nE p (.tail _ hp)
end Mine
end
section
namespace Mine
/-! the margin: what the class keeps of a row -/
noncomputable def bump (ns : List Int) (b : Nat) : List Int :=
  let l := if ns.length ≤ b then ns ++ List.replicate (b - ns.length + 1) 0 else ns
  l.set b (l.getD b 0 + 1)
/-- after some signs: blanks and stops -/
inductive WsR : List Int → Nat → Nat → Nat → List Int → Prop where
  | nil : WsR [] 0 0 0 []
  | blank {pre n nt b ns} : WsR pre n nt b ns → WsR (pre ++ [32]) (n + 1) nt (b + 1) ns
  | stop {pre n nt b ns} : WsR pre n nt b ns → WsR (pre ++ [9]) (n + 1) (nt + 1) 0 (bump ns b)
noncomputable def IsWs (c : Int) : Prop := c = 32 ∨ c = 9
theorem WsR.ws {pre n nt b ns} (h : WsR pre n nt b ns) : ∀ c ∈ pre, IsWs c := by
  induction h with
  | nil => intro c hc; cases hc
  | blank _ ih => intro c hc; rcases List.mem_append.mp hc with hc | hc; exact ih c hc; exact .inl (List.mem_singleton.mp hc)
  | stop _ ih => intro c hc; rcases List.mem_append.mp hc with hc | hc; exact ih c hc; exact .inr (List.mem_singleton.mp hc)
theorem WsR.len {pre n nt b ns} (h : WsR pre n nt b ns) : n = pre.length ∧ nt ≤ pre.length ∧ b ≤ pre.length ∧ ns.length ≤ pre.length := by
  induction h with
  | nil => exact ⟨rfl, Nat.le_refl _, Nat.le_refl _, Nat.le_refl _⟩
  | blank _ ih => simp only [List.length_append, List.length_cons, List.length_nil]; lia
  | stop _ ih =>
    simp only [List.length_append, List.length_cons, List.length_nil]
    refine ⟨by lia, by lia, by lia, ?_⟩
    unfold bump
    simp only [List.length_set]
    split
    · simp only [List.length_append, List.length_replicate]; lia
    · lia
/-- the part of a text ahead of the first sign that is no blank and no stop -/
theorem ws_cut {l pre post lead rest : List Int} {c d : Int} (h1 : l = pre ++ c :: post) (h2 : l = lead ++ d :: rest) (hp : ∀ x ∈ pre, IsWs x) (hc : ¬ IsWs c) (hl : ∀ x ∈ lead, IsWs x) (hd : ¬ IsWs d) : pre = lead := by
  subst h1
  induction pre generalizing lead with
  | nil =>
    cases lead with
    | nil => rfl
    | cons y r =>
      injection h2 with h3 _
      exact absurd (h3 ▸ hl y (List.mem_cons_self ..)) hc
  | cons y r ih =>
    cases lead with
    | nil =>
      injection h2 with h3 _
      exact absurd (h3 ▸ hp y (List.mem_cons_self ..)) hd
    | cons z q =>
      injection h2 with h3 h4
      rw [h3, ih (fun x hx => hp x (List.mem_cons_of_mem _ hx)) (fun x hx => hl x (List.mem_cons_of_mem _ hx)) h4]
theorem ws_all {pre lead rest : List Int} {d : Int} (h2 : pre = lead ++ d :: rest) (hp : ∀ x ∈ pre, IsWs x) (hd : ¬ IsWs d) : False :=
  hd (hp d (by rw [h2]; exact List.mem_append_right _ (List.mem_cons_self ..)))
end Mine
end
section
namespace Mine
/-- the book of a number -/
noncomputable def U (P : Int) : Nat → Int
  | 0 => 0
  | 1 => 1
  | n + 2 => P * U P (n + 1) + U P n
noncomputable def bookL (P : Int) (n : Nat) : List Int := (List.range n).map (U P)
theorem bookL_length (P : Int) (n : Nat) : (bookL P n).length = n := by simp [bookL]
theorem bookL_getD (P : Int) (n i : Nat) (h : i < n) : (bookL P n).getD i 0 = U P i := by
  simp [bookL, List.getD, h]
/-- the book, for numbers below nought too -/
noncomputable def UI (P : Int) (z : Int) : Int := if 0 ≤ z then U P z.toNat else (if z % 2 = 0 then -1 else 1) * U P (-z).toNat
theorem UI_nat (P : Int) (n : Nat) : UI P n = U P n := by simp [UI]
theorem UI_neg (P : Int) (n : Nat) : UI P (-(n : Int)) = (if n % 2 = 0 then -1 else 1) * U P n := by
  unfold UI
  by_cases h : n = 0
  · subst h; simp [U]
  · rw [if_neg (by lia)]
    have e : (- -(n : Int)).toNat = n := by lia
    rw [e]
    have : ((-(n:Int)) % 2 = 0) ↔ (n % 2 = 0) := by lia
    by_cases h2 : n % 2 = 0
    · rw [if_pos (this.mpr h2), if_pos h2]
    · rw [if_neg (fun x => h2 (this.mp x)), if_neg h2]
theorem UI_rec (P z : Int) : UI P (z + 1) = P * UI P z + UI P (z - 1) := by
  rcases Int.lt_trichotomy z 0 with h | h | h
  · obtain ⟨n, rfl⟩ : ∃ n : Nat, z = -((n : Int) + 1) := ⟨(-z - 1).toNat, by lia⟩
    have e1 : -((n : Int) + 1) + 1 = -(n : Int) := by lia
    have e2 : -((n : Int) + 1) = -((n + 1 : Nat) : Int) := by lia
    have e3 : -((n : Int) + 1) - 1 = -((n + 2 : Nat) : Int) := by lia
    rw [e1, e3, e2, UI_neg, UI_neg, UI_neg]
    rw [show U P (n + 2) = P * U P (n + 1) + U P n from rfl]
    by_cases h2 : n % 2 = 0
    · rw [if_pos h2, if_neg (by lia), if_pos (by lia)]
      simp only [Int.mul_add, Int.neg_mul, Int.one_mul]; lia
    · rw [if_neg h2, if_pos (by lia), if_neg (by lia)]
      simp only [Int.mul_add, Int.neg_mul, Int.one_mul, Int.mul_neg]; lia
  · subst h
    have e1 : (0 : Int) + 1 = ((1 : Nat) : Int) := rfl
    have e2 : (0 : Int) - 1 = -((1 : Nat) : Int) := rfl
    have e0 : UI P 0 = 0 := by simp [UI, U]
    rw [e1, e2, e0, UI_nat, UI_neg]
    simp [U]
  · obtain ⟨n, rfl⟩ : ∃ n : Nat, z = (n : Int) + 1 := ⟨(z - 1).toNat, by lia⟩
    have e1 : (n : Int) + 1 + 1 = ((n + 2 : Nat) : Int) := by lia
    have e2 : (n : Int) + 1 = ((n + 1 : Nat) : Int) := by lia
    have e3 : (n : Int) + 1 - 1 = ((n : Nat) : Int) := by lia
    rw [e1, e3, e2, UI_nat, UI_nat, UI_nat]
    rfl
noncomputable def sg (s : Nat) : Int := if s % 2 = 0 then 1 else -1
theorem sg_succ (s : Nat) : sg (s + 1) = - sg s := by unfold sg; split <;> split <;> lia
theorem UI_ring (P m : Int) (s : Nat) : UI P (m + s) = U P s * (UI P (m + 1) + UI P (m - 1)) + sg s * UI P (m - s)
    ∧ UI P (m + s + 1) = U P (s + 1) * (UI P (m + 1) + UI P (m - 1)) + sg (s + 1) * UI P (m - s - 1) := by
  induction s with
  | zero =>
    refine ⟨?_, ?_⟩
    · simp [U, sg]
    · have : m + ((0 : Nat) : Int) + 1 = m + 1 := by lia
      rw [this]
      have : m - ((0 : Nat) : Int) - 1 = m - 1 := by lia
      rw [this]
      simp [U, sg]; lia
  | succ s ih =>
    obtain ⟨i1, i2⟩ := ih
    have c1 : m + ((s + 1 : Nat) : Int) = m + s + 1 := by lia
    have c2 : m - ((s + 1 : Nat) : Int) = m - s - 1 := by lia
    refine ⟨by rw [c1, c2]; exact i2, ?_⟩
    rw [c1, c2]
    have r1 := UI_rec P (m + s + 1)
    have r2 := UI_rec P (m - s - 1)
    have d1 : m + (s : Int) + 1 - 1 = m + s := by lia
    have d2 : m - (s : Int) - 1 + 1 = m - s := by lia
    rw [d1] at r1; rw [d2] at r2
    rw [r1, i1, i2, sg_succ (s + 1), sg_succ s, show U P (s + 1 + 1) = P * U P (s + 1) + U P s from rfl, r2]
    grind
/-- what the walk back keeps -/
noncomputable def ToldP (P column size back sign quotient : Int) : Prop := (sign = 1 ∨ sign = -1) ∧ -size ≤ back ∧ back ≤ column ∧ UI P column = quotient * UI P size + sign * UI P back
theorem told_start {P column size : Int} (h0 : 0 ≤ column) (h1 : 2 ≤ size) : ToldP P column size column 1 0 := ⟨.inl rfl, by lia, by lia, by simp⟩
theorem UI_abs (P z : Int) (h : -1 ≤ z) : UI P z = U P z.natAbs := by
  by_cases h0 : 0 ≤ z
  · have e := UI_nat P z.toNat
    have : ((z.toNat : Nat) : Int) = z := by lia
    rw [this] at e
    rw [e]; congr 1; lia
  · have : z = -((1 : Nat) : Int) := by lia
    subst this
    rw [UI_neg]; rfl
theorem told_step {P column size back sign quotient e : Int} (h : ToldP P column size back sign quotient) (hb : size ≤ back) (h1 : 2 ≤ size)
    (he : e = if size % 2 = 0 then 1 else -1) :
    ToldP P column size (back - 2 * size) (sign * e) (quotient + sign * (U P (back - size + 1).toNat + U P (back - size - 1).natAbs)) := by
  obtain ⟨a1, a2, a3, a4⟩ := h
  have es : e = sg size.toNat := by
    rw [he]; unfold sg
    by_cases z : size % 2 = 0
    · rw [if_pos z, if_pos (by lia)]
    · rw [if_neg z, if_neg (by lia)]
  refine ⟨?_, by lia, by lia, ?_⟩
  · rw [he]; rcases a1 with rfl | rfl <;> split <;> simp
  have r := (UI_ring P (back - size) size.toNat).1
  have t1 : back - size + (size.toNat : Int) = back := by lia
  have t2 : back - size - (size.toNat : Int) = back - 2 * size := by lia
  rw [t1, t2, ← es] at r
  have u1 := UI_abs P (back - size + 1) (by lia)
  have u2 := UI_abs P (back - size - 1) (by lia)
  have u3 : (back - size + 1).natAbs = (back - size + 1).toNat := by lia
  have u4 := UI_abs P size (by lia)
  have u5 : size.natAbs = size.toNat := by lia
  rw [u3] at u1; rw [u5] at u4
  rw [a4, r, u1, u2, u4]
  grind
/-- what is told in the end -/
noncomputable def ToldE (P column size sign quotient back : Int) : Prop := (sign = 1 ∨ sign = -1) ∧ 0 ≤ back ∧ back < size ∧ sign * U P column.toNat = quotient * U P size.toNat + U P back.toNat
theorem told_end {P column size back sign quotient : Int} (h : ToldP P column size back sign quotient) (hb : ¬ size ≤ back) (h0 : 0 ≤ column) (h1 : 2 ≤ size)
    {back' sign' : Int} (hs : (0 ≤ back ∧ back' = back ∧ sign' = sign) ∨ (back < 0 ∧ back' = -back ∧ sign' = sign * (if (1 - back) % 2 = 0 then 1 else -1))) :
    (back' = size → ToldE P column size sign' (sign' * quotient + 1) 0) ∧ (back' ≠ size → ToldE P column size sign' (sign' * quotient) back') := by
  obtain ⟨a1, a2, a3, a4⟩ := h
  have hc : UI P column = U P column.toNat := by rw [UI_abs P column (by lia)]; congr 1; lia
  have hz : UI P size = U P size.toNat := by rw [UI_abs P size (by lia)]; congr 1; lia
  have key : (sign' = 1 ∨ sign' = -1) ∧ 0 ≤ back' ∧ back' ≤ size ∧ U P column.toNat = quotient * U P size.toNat + sign' * U P back'.toNat := by
    rcases hs with ⟨b0, rfl, rfl⟩ | ⟨b0, rfl, rfl⟩
    · refine ⟨a1, b0, by lia, ?_⟩
      have : UI P back' = U P back'.toNat := by rw [UI_abs P back' (by lia)]; congr 1; lia
      rw [← hc, a4, hz, this]
    · refine ⟨?_, by lia, by lia, ?_⟩
      · rcases a1 with rfl | rfl <;> split <;> simp
      · have e := UI_neg P (-back).toNat
        have : -(((-back).toNat : Nat) : Int) = back := by lia
        rw [this] at e
        rw [← hc, a4, hz, e]
        have hi : ((1 - back) % 2 = 0) ↔ ¬ ((-back).toNat % 2 = 0) := by lia
        by_cases z : (-back).toNat % 2 = 0
        · rw [if_pos z, if_neg (fun x => hi.mp x z)]; grind
        · rw [if_neg z, if_pos (hi.mpr z)]; grind
  obtain ⟨b1, b2, b3, b4⟩ := key
  refine ⟨fun e => ⟨b1, by lia, by lia, ?_⟩, fun e => ⟨b1, b2, by lia, ?_⟩⟩
  · subst e
    rw [b4]
    rcases b1 with rfl | rfl <;> simp [U] <;> grind
  · rw [b4]
    rcases b1 with rfl | rfl <;> grind
theorem U_pos (P : Int) (hP : 2 ≤ P) : ∀ n, 0 ≤ U P n ∧ U P n < U P (n + 1)
  | 0 => by simp [U]
  | n + 1 => by
    obtain ⟨h1, h2⟩ := U_pos P hP n
    have e : U P (n + 1 + 1) = P * U P (n + 1) + U P n := rfl
    refine ⟨by lia, ?_⟩
    rw [e]
    have : 2 * U P (n + 1) ≤ P * U P (n + 1) := Int.mul_le_mul_of_nonneg_right hP (by lia)
    lia
theorem U_mono (P : Int) (hP : 2 ≤ P) {m n : Nat} (h : m < n) : U P m < U P n := by
  induction n with
  | zero => lia
  | succ n ih =>
    have := (U_pos P hP n).2
    by_cases e : m = n
    · subst e; exact this
    · have := ih (by lia); lia
end Mine
end
section
namespace Mine
/-! the walk's columns and the class's levels -/
noncomputable def wsum (size : Nat) : Nat → List Int → Int
  | _, [] => 0
  | k, x :: r => ((k / size : Nat) : Int) * x + wsum size (k + 1) r
theorem wsum_append (size : Nat) : ∀ (a b : List Int) (k : Nat), wsum size k (a ++ b) = wsum size k a + wsum size (k + a.length) b
  | [], b, k => by simp [wsum]
  | x :: r, b, k => by
    simp only [List.cons_append, wsum, wsum_append size r b (k + 1), List.length_cons]
    rw [show k + 1 + r.length = k + (r.length + 1) by lia]
    lia
theorem wsum_zero (size : Nat) : ∀ (n k : Nat), wsum size k (List.replicate n 0) = 0
  | 0, _ => rfl
  | n + 1, k => by simp [List.replicate_succ, wsum, wsum_zero size n]
theorem wsum_set (size : Nat) : ∀ (l : List Int) (k b : Nat), b < l.length → wsum size k (l.set b (l.getD b 0 + 1)) = wsum size k l + (((k + b) / size : Nat) : Int)
  | [], _, _, h => by cases h
  | x :: r, k, 0, _ => by
    simp only [List.set_cons_zero, wsum, List.getD_cons_zero, Int.mul_add, Nat.add_zero]
    lia
  | x :: r, k, b + 1, h => by
    simp only [List.set_cons_succ, wsum, List.getD_cons_succ]
    rw [wsum_set size r (k + 1) b (by simpa using h), show k + 1 + b = k + (b + 1) by lia]
    lia
theorem wsum_bump (size : Nat) (ns : List Int) (b : Nat) : wsum size 0 (bump ns b) = wsum size 0 ns + ((b / size : Nat) : Int) := by
  unfold bump
  dsimp only
  by_cases h : ns.length ≤ b
  · rw [if_pos h, wsum_set size _ 0 b (by simp; lia), wsum_append, wsum_zero, Nat.zero_add]
    lia
  · rw [if_neg h, wsum_set size _ 0 b (by lia), Nat.zero_add]
noncomputable def wStep (size : Int) (st : Int × Int) (c : Int) : Int × Int := if c = 32 ∧ st.2 + 1 < size then (st.1, st.2 + 1) else (st.1 + 1, 0)
theorem ws_fold (size : Nat) (hs : 2 ≤ size) {pre : List Int} {n nt b : Nat} {ns : List Int} (h : WsR pre n nt b ns) :
    pre.foldl (wStep size) (0, 0) = (((b / size : Nat) : Int) + wsum size 0 ns + nt, ((b % size : Nat) : Int)) := by
  induction h with
  | nil => simp [wsum]
  | @blank pre n nt b ns _ ih =>
    rw [List.foldl_append, ih]
    simp only [List.foldl_cons, List.foldl_nil, wStep]
    have hm := Nat.mod_lt b (show 0 < size by lia)
    have hd := Nat.div_add_mod b size
    by_cases hc : b % size + 1 < size
    · rw [if_pos ⟨trivial, by lia⟩]
      have e : b + 1 = (b % size + 1) + size * (b / size) := by lia
      have e1 : (b + 1) / size = b / size := by
        rw [e, Nat.add_mul_div_left _ _ (by lia), Nat.div_eq_of_lt hc]; lia
      have e2 : (b + 1) % size = b % size + 1 := by
        rw [e, Nat.add_mul_mod_self_left, Nat.mod_eq_of_lt hc]
      rw [e1, e2]
      rfl
    · rw [if_neg (fun x => hc (by have := x.2; lia))]
      have e : b + 1 = size * (b / size + 1) := by rw [Nat.mul_add]; lia
      have e1 : (b + 1) / size = b / size + 1 := by rw [e, Nat.mul_div_cancel_left _ (by lia)]
      have e2 : (b + 1) % size = 0 := by rw [e, Nat.mul_mod_right]
      rw [e1, e2]
      refine Prod.ext ?_ rfl
      simp only [Int.natCast_add]; lia
  | @stop pre n nt b ns _ ih =>
    rw [List.foldl_append, ih]
    simp only [List.foldl_cons, List.foldl_nil, wStep]
    rw [if_neg (fun x => by have := x.1; lia), wsum_bump]
    refine Prod.ext ?_ (by simp)
    simp only [Nat.zero_div, Int.natCast_add]; lia
theorem wsum_low (size : Nat) : ∀ (l : List Int) (k : Nat), k + l.length ≤ size → wsum size k l = 0
  | [], _, _ => rfl
  | x :: r, k, h => by
    simp only [List.length_cons] at h
    rw [wsum, wsum_low size r (k + 1) (by lia), Nat.div_eq_of_lt (by lia)]; simp
theorem wsum_range (size : Nat) : ∀ (l : List Int) (k : Nat), wsum size k l = ((List.range l.length).map fun i => (((k + i) / size : Nat) : Int) * l.getD i 0).sum
  | [], _ => rfl
  | x :: r, k => by
    rw [wsum, wsum_range size r (k + 1), List.length_cons, List.range_succ_eq_map, List.map_cons, List.sum_cons, List.map_map]
    simp only [Nat.add_zero, List.getD_cons_zero]
    congr 2
    refine List.map_congr_left fun i _ => ?_
    simp only [Function.comp, List.getD_cons_succ]
    rw [show k + 1 + i = k + (i + 1) by lia]
theorem wsum_tail (size : Nat) (hs : 0 < size) (ns : List Int) :
    wsum size 0 ns = ((List.range ((ns.length : Int) - size).toNat).map fun i => (((size + i) / size : Nat) : Int) * ns.getD (size + i) 0).sum := by
  have e := wsum_append size (ns.take size) (ns.drop size) 0
  rw [List.take_append_drop, wsum_low size (ns.take size) 0 (by simp; lia), Int.zero_add] at e
  by_cases h : size ≤ ns.length
  · rw [e, List.length_take, Nat.min_eq_left h, Nat.zero_add, wsum_range, List.length_drop, show ((ns.length : Int) - size).toNat = ns.length - size by lia]
    congr 1
    refine List.map_congr_left fun i _ => ?_
    simp [List.getD_eq_getElem?_getD, List.getElem?_drop]
  · rw [e, List.drop_of_length_le (by lia), show ((ns.length : Int) - size).toNat = 0 by lia]
    rfl
/-! a column is not far out -/
theorem w_step_col {size : Int} (hs : 2 ≤ size) {a b : Int} (h0 : 0 ≤ b) (h1 : b < size) (c : Int) :
    0 ≤ (wStep size (a, b) c).2 ∧ (wStep size (a, b) c).2 < size ∧ a * size + b ≤ (wStep size (a, b) c).1 * size + (wStep size (a, b) c).2 ∧ (wStep size (a, b) c).1 * size + (wStep size (a, b) c).2 ≤ a * size + b + size ∧ (c = 32 → (wStep size (a, b) c).1 * size + (wStep size (a, b) c).2 = a * size + b + 1) := by
  unfold wStep
  dsimp only
  by_cases h : c = 32 ∧ b + 1 < size
  · rw [if_pos h]; dsimp only; refine ⟨by lia, h.2, by lia, by lia, fun _ => by lia⟩
  · rw [if_neg h]; dsimp only
    have : (a + 1) * size = a * size + size := by rw [Int.add_mul]; lia
    refine ⟨by lia, by lia, by lia, by lia, fun hc => ?_⟩
    have : ¬ b + 1 < size := fun x => h ⟨hc, x⟩
    lia
noncomputable def col (size : Int) (st : Int × Int) : Int := st.1 * size + st.2
noncomputable def Piece (x : List Int) : Prop := x = [32] ∨ x = [32, 32] ∨ x = [9]
theorem w_piece {size : Int} (hs : 2 ≤ size) {x : List Int} (hx : Piece x) {st : Int × Int} (h0 : 0 ≤ st.2) (h1 : st.2 < size) :
    0 ≤ (x.foldl (wStep size) st).2 ∧ (x.foldl (wStep size) st).2 < size ∧ col size st ≤ col size (x.foldl (wStep size) st) ∧ col size (x.foldl (wStep size) st) ≤ col size st + size := by
  obtain ⟨a, b⟩ := st
  unfold col
  dsimp only at h0 h1 ⊢
  rcases hx with rfl | rfl | rfl
  · obtain ⟨q1, q2, q3, q4, q5⟩ := w_step_col hs h0 h1 (a := a) 32
    exact ⟨q1, q2, q3, q4⟩
  · obtain ⟨q1, q2, q3, q4, q5⟩ := w_step_col hs h0 h1 (a := a) 32
    obtain ⟨r1, r2, r3, r4, r5⟩ := w_step_col hs q1 q2 (a := (wStep size (a, b) 32).1) 32
    refine ⟨r1, r2, Int.le_trans q3 r3, ?_⟩
    have z1 := q5 rfl
    have z2 := r5 rfl
    show _ ≤ a * size + b + size
    have : (List.foldl (wStep size) (a, b) [32, 32]) = wStep size ((wStep size (a, b) 32).1, (wStep size (a, b) 32).2) 32 := rfl
    rw [this]
    lia
  · obtain ⟨q1, q2, q3, q4, q5⟩ := w_step_col hs h0 h1 (a := a) 9
    exact ⟨q1, q2, q3, q4⟩
theorem w_pieces {size : Int} (hs : 2 ≤ size) : ∀ (xs : List (List Int)), (∀ x ∈ xs, Piece x) → ∀ (st : Int × Int), 0 ≤ st.2 → st.2 < size →
    0 ≤ (xs.flatten.foldl (wStep size) st).2 ∧ (xs.flatten.foldl (wStep size) st).2 < size ∧ col size st ≤ col size (xs.flatten.foldl (wStep size) st) ∧ col size (xs.flatten.foldl (wStep size) st) ≤ col size st + xs.length * size
  | [], _, st, h0, h1 => ⟨h0, h1, Int.le_refl _, by simp⟩
  | x :: r, hx, st, h0, h1 => by
    obtain ⟨q1, q2, q3, q4⟩ := w_piece hs (hx x (List.mem_cons_self ..)) h0 h1
    obtain ⟨r1, r2, r3, r4⟩ := w_pieces hs r (fun y hy => hx y (List.mem_cons_of_mem _ hy)) _ q1 q2
    rw [List.flatten_cons, List.foldl_append]
    refine ⟨r1, r2, Int.le_trans q3 r3, ?_⟩
    rw [List.length_cons, Int.natCast_add, Int.add_mul]
    lia
theorem piece_ws {xs : List (List Int)} (h : ∀ x ∈ xs, Piece x) : ∀ c ∈ xs.flatten, IsWs c := by
  intro c hc
  obtain ⟨x, hx, hc⟩ := List.mem_flatten.mp hc
  rcases h x hx with rfl | rfl | rfl
  · exact .inl (List.mem_singleton.mp hc)
  · simp at hc; exact .inl hc
  · exact .inr (List.mem_singleton.mp hc)
/-! digits -/
theorem digs_undig (B : Int) (hB : 0 < B) : ∀ (l : List Int), (∀ d ∈ l, 0 ≤ d ∧ d < B) → digs B l.length (undig B l) = l
  | [], _ => rfl
  | d :: r, h => by
    have hd := h d (List.mem_cons_self ..)
    rw [List.length_cons, digs, undig, Int.add_mul_emod_self_left, Int.emod_eq_of_lt hd.1 hd.2, Int.add_mul_ediv_left _ _ (Int.ne_of_gt hB), Int.ediv_eq_zero_of_lt hd.1 hd.2, Int.zero_add, digs_undig B hB r fun x hx => h x (List.mem_cons_of_mem _ hx)]
theorem undig_lt (B : Int) (hB : 0 < B) : ∀ (l : List Int), (∀ d ∈ l, 0 ≤ d ∧ d < B) → 0 ≤ undig B l ∧ undig B l < B ^ l.length
  | [], _ => by simp [undig]
  | d :: r, h => by
    have hd := h d (List.mem_cons_self ..)
    obtain ⟨q1, q2⟩ := undig_lt B hB r fun x hx => h x (List.mem_cons_of_mem _ hx)
    rw [undig, List.length_cons, Int.pow_succ]
    have h1 := Int.mul_nonneg (Int.le_of_lt hB) q1
    refine ⟨by lia, ?_⟩
    have h2 : B * (undig B r + 1) ≤ B * B ^ r.length := Int.mul_le_mul_of_nonneg_left (by lia) (Int.le_of_lt hB)
    rw [Int.mul_add] at h2
    rw [Int.mul_comm (B ^ r.length)]
    lia
theorem undig_ge (B : Int) (hB : 0 < B) : ∀ (l : List Int) (e : Int), (∀ d ∈ l, 0 ≤ d) → 1 ≤ e → B ^ l.length ≤ undig B (l ++ [e])
  | [], e, _, he => by simp [undig]; lia
  | d :: r, e, h, he => by
    have hd := h d (List.mem_cons_self ..)
    have ih := undig_ge B hB r e (fun x hx => h x (List.mem_cons_of_mem _ hx)) he
    rw [List.cons_append, undig, List.length_cons, Int.pow_succ, Int.mul_comm]
    have := Int.mul_le_mul_of_nonneg_left ih (Int.le_of_lt hB)
    lia
/-! division has one answer -/
theorem dm_one {a b q r q' r' : Int} (h1 : a = q * b + r) (h2 : a = q' * b + r') (p : 0 < b → (0 ≤ r ∧ r < b) ∧ 0 ≤ r' ∧ r' < b) (n : b < 0 → (b < r ∧ r ≤ 0) ∧ b < r' ∧ r' ≤ 0) (hb : b ≠ 0) : q = q' ∧ r = r' := by
  have e : (q - q') * b = r' - r := by rw [Int.sub_mul]; lia
  have hq : q = q' := by
    refine Classical.byContradiction fun hne => ?_
    rcases Int.lt_or_gt_of_ne hb with hb | hb
    · obtain ⟨⟨a1, a2⟩, a3, a4⟩ := n hb
      rcases Int.lt_or_gt_of_ne hne with h | h
      · have : 1 * (-b) ≤ (q' - q) * (-b) := Int.mul_le_mul_of_nonneg_right (by lia) (by lia)
        have e2 : (q' - q) * (-b) = (q - q') * b := by grind
        lia
      · have : 1 * (-b) ≤ (q - q') * (-b) := Int.mul_le_mul_of_nonneg_right (by lia) (by lia)
        have e2 : (q - q') * (-b) = -((q - q') * b) := by grind
        lia
    · obtain ⟨⟨a1, a2⟩, a3, a4⟩ := p hb
      rcases Int.lt_or_gt_of_ne hne with h | h
      · have : 1 * b ≤ (q' - q) * b := Int.mul_le_mul_of_nonneg_right (by lia) (by lia)
        have e2 : (q' - q) * b = -((q - q') * b) := by grind
        lia
      · have : 1 * b ≤ (q - q') * b := Int.mul_le_mul_of_nonneg_right (by lia) (by lia)
        lia
  subst hq
  exact ⟨rfl, by lia⟩
end Mine
end
section
open PySem PySem.W PyProof.Rows PySem.Calls
namespace Mine
noncomputable def cntL (l k : Int) : List Int :=
  if l = 0 then [1 * k ^ 0] else if l = 1 then [0, 1 * k ^ 1] else if l = 2 then [1 * k ^ 0, 0, 1 * k ^ 2] else if l = 3 then [0, 2 * k ^ 1, 0, 1 * k ^ 3] else if l = 4 then [1 * k ^ 0, 0, 3 * k ^ 2, 0, 1 * k ^ 4] else if l = 5 then [0, 3 * k ^ 1, 0, 4 * k ^ 3, 0, 1 * k ^ 5] else []
theorem IntsAre.to {vs : List Value} {ns ns' : List Int} (h : IntsAre vs ns) (e : ns = ns') : IntsAre vs ns' := e ▸ h
/-- the number of ways, after some turns -/
noncomputable def muchF (l : Int) : Nat → Int
  | 0 => 1
  | t + 1 => (muchF l t * (l - 2 * t) * (l - 2 * t - 1)).fdiv (((t : Int) + 1) * (if l - t > 1 then l - t else 1))
noncomputable def cntF (l k : Int) : Nat → List Int
  | 0 => List.replicate (l + 1).toNat 0
  | t + 1 => (cntF l k t).set (l - 2 * t).toNat (muchF l t * k ^ (l - 2 * t).toNat)
structure CntP (l k : Int) (pre : List Int) (counts : List Int) (much : Int) : Prop where
  c : counts = cntF l k pre.length
  m : much = muchF l pre.length
theorem fm_bnd2 (n : Int) (m : Int) (h : 0 < m) : 0 ≤ n.fmod m ∧ n.fmod m < m := ⟨Int.fmod_nonneg_of_pos n h, Int.fmod_lt_of_pos n h⟩
theorem cnt_step {l k n much : Int} {pre counts : List Int} (hl : -1 ≤ l ∧ l ≤ 5) (hfd : l.fdiv 2 * 2 ≤ l ∧ l < l.fdiv 2 * 2 + 2) (hn : n = 0 + (pre.length : Int)) (hlt : pre.length < (l.fdiv 2 + 1 - 0).toNat) (h1 : counts.length = (l + 1).toNat) (h : CntP l k pre counts much) :
    (counts.set (l - 2 * n).toNat (much * k ^ (l - 2 * n).toNat)).length = (l + 1).toNat ∧
    (0 ≤ (much * (l - 2 * n) * (l - 2 * n - 1)).fdiv ((n + 1) * if l - n > 1 then l - n else 1) ∧ (much * (l - 2 * n) * (l - 2 * n - 1)).fdiv ((n + 1) * if l - n > 1 then l - n else 1) ≤ 1000) ∧
      CntP l k (pre ++ [n]) (counts.set (l - 2 * n).toNat (much * k ^ (l - 2 * n).toNat)) ((much * (l - 2 * n) * (l - 2 * n - 1)).fdiv ((n + 1) * if l - n > 1 then l - n else 1)) := by
  obtain ⟨hc, hm⟩ := h
  obtain ⟨t, ht⟩ : ∃ t, t = pre.length := ⟨_, rfl⟩
  rw [← ht] at hn hlt hc hm
  rw [Int.zero_add] at hn
  subst hn
  have hm2 : (much * (l - 2 * (t : Int)) * (l - 2 * (t : Int) - 1)).fdiv (((t : Int) + 1) * if l - (t : Int) > 1 then l - (t : Int) else 1) = muchF l (t + 1) := by rw [hm]; rfl
  have hp : (pre ++ [(t : Int)]).length = t + 1 := by simp [ht]
  refine ⟨by rw [List.length_set]; exact h1, ?_, ⟨by rw [hp, hc, hm]; rfl, by rw [hp]; exact hm2⟩⟩
  rw [hm2]
  have key : ∀ i : Fin 7, ∀ j : Fin 3, 0 ≤ muchF ((i.val : Int) - 1) (j.val + 1) ∧ muchF ((i.val : Int) - 1) (j.val + 1) ≤ 1000 := by decide
  have h9 := key ⟨(l + 1).toNat, by lia⟩ ⟨t, by lia⟩
  dsimp only at h9
  rw [show (((l + 1).toNat : Nat) : Int) - 1 = l by lia] at h9
  exact h9
theorem cnt_end {l k : Int} (hl : -1 ≤ l ∧ l ≤ 5) {ks counts : List Int} {much : Int} (hk : ks.length = (l.fdiv 2 + 1 - 0).toNat) (h : CntP l k ks counts much) : counts = cntL l k := by
  rw [h.c, hk]
  clear h hk
  have hl7 : l = -1 ∨ l = 0 ∨ l = 1 ∨ l = 2 ∨ l = 3 ∨ l = 4 ∨ l = 5 := by lia
  rcases hl7 with h | h | h | h | h | h | h <;> rw [h] <;> rfl
theorem cnt_start {l k : Int} {n1 : Nat} (h : (List.replicate (l + 1).toNat [(0 : Int)]).flatten.length = n1) (hl : -1 ≤ l ∧ l ≤ 5) : (List.replicate (l + 1).toNat [(0 : Int)]).flatten.length = (l + 1).toNat ∧ ((0 : Int) ≤ 1 ∧ (1 : Int) ≤ 1000) ∧ CntP l k [] (List.replicate (l + 1).toNat [(0 : Int)]).flatten 1 :=
  ⟨by simp, by lia, ⟨by simp [cntF], rfl⟩⟩
theorem div_ne {l n : Int} (h : 0 ≤ n) : (n + 1) * (if l - n > 1 then l - n else 1) ≠ 0 := by
  refine Int.mul_ne_zero (by lia) ?_
  split <;> lia
theorem div_small {l n : Int} (h : 0 ≤ n) (h2 : n ≤ 5) (h3 : l ≤ 5) : ((n + 1) * (if l - n > 1 then l - n else 1)).natAbs < 1073741824 := by
  have h4 : 0 ≤ (if l - n > 1 then l - n else 1) ∧ (if l - n > 1 then l - n else 1) ≤ 5 := by split <;> lia
  have h5 := Int.mul_le_mul_of_nonneg_left h4.2 (show 0 ≤ n + 1 by lia)
  have h6 := Int.mul_nonneg (show 0 ≤ n + 1 by lia) h4.1
  lia
theorem C_counts (w : World) (mean : ExcName → Option Value) (mg mb : Str → Option Value) (dp un : Nat) (gd : Option (List Code)) (outer : List Env) (s : Shared) (Q E : Value → Shared → Prop)
    (l kinds : Int) (t1 t2 : Tok) (hl : -1 ≤ l ∧ l ≤ 5) (hk : 1 ≤ kinds ∧ kinds ≤ 11)
    (X : (KF w.params).In s.heap) (T : TopM mean mg mb s.heap) (hdp : dp < recursionLimit) (hun : un + 8 < cLine)
    (hret : ∀ (r : Addr) h' tk' vs nn, Keeps s.heap h' → s.heap.get? r = none → h'.get? r = some (W.listOf vs.toArray nn) → IntsAre vs (cntL l kinds) → Q (.ref r) { s with heap := h', toks := tk' }) :
    wpAny (model PW w) (arn dp un gd outer) (call (.ref 228) [.int l t1, .int kinds t2]) Q E s := by
  have hfill : PySem.Challenge.rw_rl0135_01 = PySem.Challenge.rw_rl0135_01 ∧ KF = KF := by k_fill; exact ⟨rfl, rfl⟩
  clear hfill
  have hfd : l.fdiv 2 * 2 ≤ l ∧ l < l.fdiv 2 * 2 + 2 := by have := Int.fmod_add_fdiv_mul l 2; have := fm_bnd2 l 2 (by decide); lia
  w_on
  k_with_none
  k_with "pyIter ref" => k_state (fun pre counts much => counts.length = (l + 1).toNat ∧ (0 ≤ much ∧ much ≤ 1000) ∧ CntP l kinds pre counts much) "counts" "much"
  k_with "state" => first | exact cnt_start (by assumption) hl | exact cnt_step hl hfd (by assumption) (by assumption) (by assumption) (by assumption)
  refine wpAny_call ?_
  k_dflt (refine' enterP ?k3 ?k5 ?k6 ?k7 ?k8 ?k9 ?kB ?_ ?c5 ?c2 ?c3 ?c4; (case k3 => k_asm); (case k5 => exact T.nolimit); (case k6 => k_is); (case k7 => k_is); (case k8 => exact hdp); (case k9 => exact BindsTo.of_eq rfl); (case kB => exact locs rfl); (case c5 => decide); (case c2 => exact rfl); (case c3 => exact rfl); (case c4 => exact rfl))
  intro L' h' F' N'
  (try dsimp only)
  (try k_fold)
  repeat' (first | ((with_reducible show wpAny _ _ (binaryOp Operator.FloorDiv (Value.int _ _) (Value.int _ _)) _ _ _); refine floordiv_int (div_ne (by lia)) ?_ (Or.inl (PyProof.noPylong_small (div_small (by lia) (by lia) (by lia))))) | ((with_reducible show wpAny _ _ (binaryOp Operator.Mult (Value.int _ _) (Value.int _ _)) _ _ _); refine mul_int ?_ (IntMulOk.of_left (PySem.intBits_le_64 (by lia) (by lia)))) | (k_unfold; (try dsimp only)) | (k_end; kc_close) | (walk1; (try dsimp only)) | (dsimp only; walk1; (try dsimp only)) | (leave1; (try dsimp only)) | fail "no step")
  rename CntP _ _ _ _ _ => hP
  exact hret _ _ _ _ _ (Fr.keep kFr) (kNews.fresh (.tail _ (.head _))) (kNews.get (.tail _ (.head _))) (IntsAre.to kFacts (cnt_end hl (by rw [rangeKs_length]) hP))
end Mine
end
section
namespace Mine
noncomputable def hor (B : Int) (l : List Int) : Int := l.foldl (fun v d => v * B + d) 0
theorem hor_snoc (B : Int) (l : List Int) (d : Int) : hor B (l ++ [d]) = hor B l * B + d := by simp [hor]
theorem undig_rev (B : Int) (l : List Int) : undig B l.reverse = hor B l := by
  suffices H : ∀ r : List Int, undig B r = hor B r.reverse by rw [H, List.reverse_reverse]
  intro r
  induction r with
  | nil => rfl
  | cons d r ih => rw [List.reverse_cons, hor_snoc, undig, ih]; grind
structure DivP (B b : Int) (pre qs : List Int) (r : Int) : Prop where
  e : hor B pre = hor B qs * b + r
  r0 : 0 ≤ r
  r1 : r < b
  qd : ∀ q ∈ qs, 0 ≤ q ∧ q < B
  len : qs.length = pre.length
theorem DivP.start {B b : Int} (hb : 0 < b) : DivP B b [] [] 0 := ⟨by simp [hor], by lia, hb, fun _ h => (nomatch h), rfl⟩
theorem DivP.lt {B b r d : Int} (hB : 0 < B) (h1 : r < b) (hd : 0 ≤ d ∧ d < B) : r * B + d < b * B := by
  have : r * B ≤ (b - 1) * B := Int.mul_le_mul_of_nonneg_right (by lia) (by lia)
  rw [Int.sub_mul, Int.one_mul] at this
  lia
theorem DivP.step {B b d : Int} {pre qs : List Int} {r x q r' : Int} (h : DivP B b pre qs r) (hB : 0 < B) (hd : 0 ≤ d ∧ d < B) (hx : x = r * B + d) (hq : q = x / b) (hr : r' = x % b) : DivP B b (pre ++ [d]) (qs ++ [q]) r' := by
  obtain ⟨e, r0, r1, qd, len⟩ := h
  have hb : 0 < b := by lia
  have hlt := DivP.lt hB r1 hd
  have h0 : 0 ≤ r * B := Int.mul_nonneg r0 (Int.le_of_lt hB)
  have h1 := Int.emod_add_mul_ediv x b
  have hq0 : 0 ≤ q := hq ▸ Int.ediv_nonneg (by lia) (Int.le_of_lt hb)
  have hq1 : q < B := by rw [hq]; exact Int.ediv_lt_of_lt_mul hb (by rw [hx, Int.mul_comm B b]; exact hlt)
  refine ⟨?_, hr ▸ Int.emod_nonneg _ (Int.ne_of_gt hb), hr ▸ Int.emod_lt_of_pos _ hb, fun y hy => ?_, by simp [len]⟩
  · rw [hor_snoc, hor_snoc, e]
    rw [← hq, ← hr] at h1
    grind
  · rcases List.mem_append.mp hy with hy | hy
    · exact qd y hy
    · rw [List.mem_singleton.mp hy]; exact ⟨hq0, hq1⟩
theorem digs_bnd {B : Int} (hB : 0 < B) : ∀ (k : Nat) (x : Int), ∀ d ∈ digs B k x, 0 ≤ d ∧ d < B
  | 0, _, _, h => nomatch h
  | k + 1, x, d, h => by
    rcases List.mem_cons.mp h with rfl | h
    · exact ⟨Int.emod_nonneg _ (Int.ne_of_gt hB), Int.emod_lt_of_pos _ hB⟩
    · exact digs_bnd hB k _ d h
theorem DivP.fin {B b a : Int} {ns qs : List Int} {r y : Int} (h : DivP B b ns.reverse qs r) (ha : undig B ns = a) (hy : y = undig B qs.reverse) : y = a / b ∧ r = a % b := by
  obtain ⟨e, r0, r1, qd, len⟩ := h
  have hb : 0 < b := by lia
  rw [← undig_rev, List.reverse_reverse, ha, ← undig_rev, ← hy] at e
  have e2 : a = r + b * y := by rw [e, Int.mul_comm b y]; lia
  constructor
  · rw [e2, Int.add_mul_ediv_left _ _ (Int.ne_of_gt hb), Int.ediv_eq_zero_of_lt r0 r1]; lia
  · rw [e2, Int.add_mul_emod_self_left, Int.emod_eq_of_lt r0 r1]
end Mine
end
section
open PySem PySem.W PyProof.Rows PySem.Calls
namespace Mine
noncomputable abbrev σD := List Value × List Int × Nat × Int × Tok
noncomputable abbrev ledD (qd : Addr) (tl : List (Addr × Obj)) : σD → List (Addr × Obj) := fun c => (qd, W.listOf c.1.toArray c.2.2.1) :: tl
noncomputable abbrev psD : σD → List (Str × Value) := fun c => [(Str.ofString "r", .int c.2.2.2.1 c.2.2.2.2)]
noncomputable abbrev JD (qd : Addr) (tl : List (Addr × Obj)) (B b : Int) (x : Str) (m₀ : Str → Option Value) (pre : List Int) :=
  KstS (ledD qd tl) psD (fun c => IntsAre c.1 c.2.1) x [Str.ofString "q_digit"] m₀ (fun pre c => DivP B b pre c.2.1 c.2.2.2.1) pre
theorem loop_dmp {prog : Program} {w : World} {A : Around} {E : Value → Shared → Prop} {s : Shared} {env : Env} {h₀ : Heap} {x : Str} {body : List Stmt} {Q : Flow → Shared → Prop} {I l qd : Addr} {vs : List Value} {ns : List Int} {nn : Nat} {m₀ : Str → Option Value} {tl : List (Addr × Obj)} {t0 : Tok} (B b : Int)
    (hh : A.handled = none) (F : Fr h₀ env.locals s.heap m₀) (N : News h₀ env.locals s.heap ((I, revObj l ((vs.length : Int) - 1)) :: (qd, W.listOf #[] 0) :: (l, W.listOf vs.toArray nn) :: tl))
    (lA : @LT.lt Nat _ qd I ∧ @LT.lt Nat _ l I ∧ AllLt I tl) (lB : @LT.lt Nat _ l qd ∧ AllLt qd tl) (A2 : Apart l tl) (hi : IntsAre vs ns) (hb : 0 < b) (hr : m₀ (Str.ofString "r") = some (.int 0 t0))
    (turn : ∀ vs' ns' nn' r tr pre post n t (u : Str → Option Value) h tk own, ns.reverse = pre ++ n :: post → (∀ p ∈ tl ++ own, p.1 ≠ qd) → IntsAre vs' ns' → DivP B b pre ns' r →
      Fr h₀ env.locals h (fun y => if y = x then some (.int n t) else if y = Str.ofString "r" then some (.int r tr) else if [Str.ofString "q_digit"].contains y then u y else m₀ y) → News h₀ env.locals h ((qd, W.listOf vs'.toArray nn') :: (tl ++ own)) →
      wpAny (model prog w) A (execs body env) (InvPostN h₀ env.locals (JD qd tl B b x m₀ (pre ++ [n])) own (qd :: tl.map (·.1)) { s with heap := h, toks := tk } Q) E { s with heap := h, toks := tk })
    (done : ∀ vs' ns' nn' r tr (u : Str → Option Value) h tk, IntsAre vs' ns' → DivP B b ns.reverse ns' r →
      Fr h₀ env.locals h (fun y => if y = x then u y else if y = Str.ofString "r" then some (.int r tr) else if [Str.ofString "q_digit"].contains y then u y else m₀ y) → News h₀ env.locals h ((qd, W.listOf vs'.toArray nn') :: tl) → Q .next { s with heap := h, toks := tk }) :
    wpAny (model prog w) A (pyIter (.ref I)) (fun it s₂ => LoopAtV prog w A h₀ env x body Q E it s₂) E s := by
  refine kst_rev (l := l) (nn := nn) (ledD qd tl) psD (fun c => IntsAre c.1 c.2.1) [Str.ofString "q_digit"] (fun pre c => DivP B b pre c.2.1 c.2.2.2.1) ([], [], 0, 0, t0) hh F ?_ ?_ ?_ (Nat.ne_of_lt lA.2.1) hi .nil ?_ (DivP.start hb) ?_ ?_
  · intro p hp
    rcases List.mem_cons.mp hp with rfl | hp
    · exact N _ (.head _)
    · rw [List.mem_singleton.mp hp]; exact N _ (.tail _ (.tail _ (.head _)))
  · intro p hp
    refine N p (.tail _ ?_)
    rcases List.mem_cons.mp hp with rfl | hp
    · exact .head _
    · exact .tail _ (.tail _ hp)
  · intro p hp
    rcases List.mem_cons.mp hp with rfl | hp
    · exact ⟨Nat.ne_of_lt lA.1, Nat.ne_of_gt lB.1⟩
    · exact ⟨allLt_ne lA.2.2 p hp, A2.ne p hp⟩
  · intro p hp
    rw [List.mem_singleton.mp hp]; exact hr
  · rintro ⟨vs', ns', nn', r, tr⟩ pre post n t u h tk own e hoff hadr hf hp F' N'
    refine turn vs' ns' nn' r tr pre post n t u h tk own e (fun p hp => ?_) hf hp F' N'
    rcases List.mem_append.mp hp with hp | hp
    · exact allLt_ne lB.2 p hp
    · exact hoff.ne (.head _) p hp
  · rintro ⟨vs', ns', nn', r, tr⟩ u h tk hf hp F' N'
    exact done vs' ns' nn' r tr u h tk hf hp F' N'
theorem loop_end {h₀ : Heap} {L qd : Addr} {tl own news' : List (Addr × Obj)} {B b : Int} {x : Str} {m₀ m' : Str → Option Value} {pre : List Int} {s₁ : Shared} {h' : Heap} {tk : Nat} {vs' : List Value} {ns' : List Int} {nn' : Nat} {r : Int} {tr : Tok}
    (F : Fr h₀ L h' m') (N : News h₀ L h' news') (hq : (qd, W.listOf vs'.toArray nn') ∈ news') (ht : ∀ p ∈ tl ++ own, p ∈ news') (hi : IntsAre vs' ns') (hP : DivP B b pre ns' r) (hr : m' (Str.ofString "r") = some (.int r tr))
    (hs : ∀ z, z ≠ x → (∀ p ∈ psD (vs', ns', nn', r, tr), z ≠ p.1) → [Str.ofString "q_digit"].contains z = false → m' z = m₀ z) : InvEndN h₀ L (JD qd tl B b x m₀ pre) own (qd :: tl.map (·.1)) s₁ { s₁ with heap := h', toks := tk } := by
  refine InvEndN.intro (nx := ledD qd tl (vs', ns', nn', r, tr)) F N ⟨(vs', ns', nn', r, tr), rfl, hi, fun p hp => ?_, hs, hP⟩ rfl (fun p hp => ?_) (fun p hp => ht p (List.mem_append_right _ hp))
  · rw [List.mem_singleton.mp hp]; exact hr
  · rcases List.mem_cons.mp hp with rfl | hp
    · exact hq
    · exact ht p (List.mem_append_left _ hp)
end Mine
end
section
open PySem PySem.W PyProof.Rows PySem.Calls
namespace Mine
theorem b_bits {b : Int} (hb : 0 < b) : 2 ^ (((Builtin.Int.intBits b : Nat) : Int).toNat - 1) ≤ b ∧ b < 2 ^ ((Builtin.Int.intBits b : Nat) : Int).toNat := by
  rw [Int.toNat_natCast]
  have h1 := (intBits_le_iff (m := Builtin.Int.intBits b) (x := b)).mp (Nat.le_refl _)
  have h2 : ¬ Builtin.Int.intBits b ≤ Builtin.Int.intBits b - 1 := by
    have : Builtin.Int.intBits b ≠ 0 := by
      intro e
      have := (intBits_le_iff (m := 0) (x := b)).mp (by lia)
      lia
    lia
  rw [intBits_le_iff] at h2
  have e1 : ((2 ^ Builtin.Int.intBits b : Nat) : Int) = (2 : Int) ^ Builtin.Int.intBits b := by simp
  have e2 : ((2 ^ (Builtin.Int.intBits b - 1) : Nat) : Int) = (2 : Int) ^ (Builtin.Int.intBits b - 1) := by simp
  rw [← e1, ← e2]
  lia
local macro_rules | `(tactic| k_all) => `(tactic| assumption)
theorem fresh_hid {G0 g h h' : Heap} {L t : Addr} {o : Obj} {ps1 ps2 : Array Value} {news : List (Addr × Obj)} (hgn : ∀ b o, b ∉ ([((103 : Addr), tabObj ps1), (110, tabObj ps2)]).map (·.1) → h.get? b = some o → g.get? b = some o) (N : News g L h' news) (hm : (t, o) ∈ news) (H : TH G0 h') (ho : NoTab o) : h.get? t = none := by
  have n := N _ hm
  have ap := notab_apart H n.1 ho
  cases e : h.get? t with
  | none => rfl
  | some o' =>
    have := hgn t o' (by simp only [List.map_cons, List.map_nil, List.mem_cons, List.not_mem_nil, or_false]; rintro (q | q); exact ap.1 q; exact ap.2 q) e
    rw [n.2.2] at this; cases this
theorem keepsT_hid {g h h' : Heap} {L : Addr} {m : Str → Option Value} {ps1 ps2 : Array Value} (hgn : ∀ b o, b ∉ ([((103 : Addr), tabObj ps1), (110, tabObj ps2)]).map (·.1) → h.get? b = some o → g.get? b = some o) (F : Fr g L h' m) : KeepsT h h' := fun b o n1 n2 e =>
  F.keep _ _ (hgn b o (by simp only [List.map_cons, List.map_nil, List.mem_cons, List.not_mem_nil, or_false]; rintro (q | q); exact n1 q; exact n2 q) e)
theorem tup_nf (q r : Int) (u1 u2 : Tok) : NoTab (tup2 q r u1 u2) := by
  intro vs h
  cases h
theorem big_ok {l : Nat} {n : Int} (hl : l ≤ 128) (h0 : 0 ≤ n) (hn : n ≤ 7800) : (l : Int) * n ≤ 1000000 := by
  have h1 : (l : Int) * n ≤ 128 * n := Int.mul_le_mul_of_nonneg_right (by lia) h0
  lia
theorem rev_lit {vs : List Value} : vs.toArray.toList.reverse = vs.reverse := rfl
theorem ints_rev {vs : List Value} {ns : List Int} (h : IntsAre vs ns) : IntsAre vs.reverse ns.reverse := by
  induction h with
  | nil => exact .nil
  | cons n t _ ih => rw [List.reverse_cons, List.reverse_cons]; exact ih.append (.cons n t .nil)
theorem C_dmp (w : World) (mean : ExcName → Option Value) (mg mb : Str → Option Value) (dp un : Nat) (gd : Option (List Code)) (outer : List Env) (G0 : Heap) (s : Shared) (Q E : Value → Shared → Prop)
    (a b : Int) (t1 t2 : Tok) (ha : 0 ≤ a) (hb : 0 < b) (hn : 2 ≤ Builtin.Int.intBits b ∧ Builtin.Int.intBits b ≤ 7800) (hab : Builtin.Int.intBits a ≤ 90000) (hK128 : ((Builtin.Int.intBits a : Int) + (Builtin.Int.intBits b : Int) - 1).fdiv (Builtin.Int.intBits b : Int) ≤ 128)
    (G : Gr w mean mg mb G0) (K0 : Keeps G0 s.heap) (H : TH G0 s.heap) (hdp : dp + 30 < recursionLimit) (hun : un + 80 < cLine)
    (hret : ∀ (q r : Int) u1 u2 (t : Addr) h' tk', KeepsT s.heap h' → TH G0 h' → s.heap.get? t = none → h'.get? t = some (tup2 q r u1 u2) → q = a / b → r = a % b → Q (.ref t) { s with heap := h', toks := tk' }) :
    wpAny (model PW w) (arn dp un gd outer) (call (.ref 122) [.int a t1, .int b t2]) Q E s := by
  have hfill : PySem.Challenge.rw_rl0135_01 = PySem.Challenge.rw_rl0135_01 ∧ KF = KF := by k_fill; exact ⟨rfl, rfl⟩
  clear hfill
  w_on
  k_with_none
  obtain ⟨ps1, ps2, hH, hTL⟩ := TL.entry H
  refine wpAny_call ?_
  k_dflt (refine' enterG (h₀ := G0) (hid := [((103 : Addr), tabObj ps1), (110, tabObj ps2)]) ?k3 ?kK ?k5 ?kH ?k6 ?k7 ?k8 ?k9 ?kB ?_ ?c5 ?c2 ?c3 ?c4; (case k3 => exact G.X); (case kK => k_asm); (case k5 => exact G.T.nolimit); (case kH => exact hH); (case k6 => k_is); (case k7 => k_is); (case k8 => (show dp < _; lia)); (case k9 => exact BindsTo.of_eq rfl); (case kB => exact locs rfl); (case c5 => decide); (case c2 => exact rfl); (case c3 => exact rfl); (case c4 => exact rfl))
  intro L' h₁ F' N' hlt hfr
  obtain ⟨g, hg⟩ : ∃ g, hideAll s.heap ([((103 : Addr), tabObj ps1), (110, tabObj ps2)].map (·.1)) = g := ⟨_, rfl⟩
  have KG : Keeps G0 g := hg ▸ ground_hid K0 (fun p hp => by rcases List.mem_cons.mp hp with rfl | hp; exact G.n1; rw [List.mem_singleton.mp hp]; exact G.n2)
  have hgn : ∀ b o, b ∉ ([((103 : Addr), tabObj ps1), (110, tabObj ps2)]).map (·.1) → s.heap.get? b = some o → g.get? b = some o := fun b o hb e => hg ▸ hideAll_get _ e hb
  have hTL := hTL g hgn
  rw [hg] at F' N'
  obtain ⟨tl, htl⟩ : ∃ tl, tl = [((103 : Addr), tabObj ps1), (110, tabObj ps2)] := ⟨_, rfl⟩
  rw [← htl] at hTL N'
  have X' := G.X.keeps KG
  have T' := G.T.keeps KG
  clear hlt htl hg
  (try dsimp only)
  (try k_fold)
  repeat' (first | ((with_reducible show wpAny _ _ (call (Value.builtin _) [Value.ref _]) _ _ _); k_dflt (refine kl_reverse (by k_asm) (by k_asm) (rev_lit) (by k_upd) (by (show List.length _ ≤ _); size_fits) ?_); intro _ _ _) | ((with_reducible show wpAny _ _ (binaryOp Operator.LShift (Value.int _ _) (Value.int _ _)) _ _ _); (refine r_lshift (m := 8010) (by lia) ‹_› (by lia) ?_); intro _ _ _) | (k_unfold; (try dsimp only)) | (k_end; kc_close) | (walk1; (try dsimp only)) | (dsimp only; walk1; (try dsimp only)) | (leave1; (try dsimp only)) | fail "no step")
  (rename Fr _ _ _ _ => fE9); (rename News _ _ _ _ => nE9)
  refine' call_i2dF (vis := []) G KG hTL fE9 nE9 (fun p hp => nomatch hp) ha ⟨by lia, by lia⟩ hab hK128 ?dp ?un ?_
  case dp => (dsimp only [arn]; lia)
  case un => (dsimp only [arn]; lia)
  intro r h2 tk2 vs ns nn tl2 F2 hTL2 N2 A2 hi2 hns
  (try dsimp only [List.nil_append] at N2)
  repeat' (first | ((with_reducible show wpAny _ _ (call (Value.builtin _) [Value.ref _]) _ _ _); k_dflt (refine kl_reverse (by k_asm) (by k_asm) (rev_lit) (by k_upd) (by (show List.length _ ≤ _); size_fits) ?_); intro _ _ _) | ((with_reducible show wpAny _ _ (binaryOp Operator.LShift (Value.int _ _) (Value.int _ _)) _ _ _); (refine r_lshift (m := 8010) (by lia) ‹_› (by lia) ?_); intro _ _ _) | (k_unfold; (try dsimp only)) | (k_end; kc_close) | (walk1; (try dsimp only)) | (dsimp only; walk1; (try dsimp only)) | (leave1; (try dsimp only)) | fail "no step")
  (rename Fr _ _ _ _ => fE); (rename News _ _ _ _ => nE)
  have kMark := kstMark
  have hB : (0 : Int) < 2 ^ ((Builtin.Int.intBits b : Int)).toNat := Int.pow_pos (by decide)
  have hdig := digs_bnd hB (((Builtin.Int.intBits a : Int) + (Builtin.Int.intBits b : Int) - 1).fdiv (Builtin.Int.intBits b : Int)).toNat a
  rw [← hns] at hdig
  rw [List.nil_append] at A2
  rename _ ∧ _ ∧ AllLt _ tl2 => lA
  rename _ ∧ AllLt _ tl2 => lB
  refine' loop_dmp (2 ^ ((Builtin.Int.intBits b : Int)).toNat) b rfl fE nE lA lB A2 hi2 hb ?hr ?_ ?_
  case hr => with_unfolding_all rfl
  · clear fE nE
    intro vs' ns' nn' r tr pre post n t u h tk own hEq hNe hi' hP F' N'
    (try dsimp only)
    (try k_fold)
    have hd := hdig n (by rw [← List.mem_reverse, hEq]; exact List.mem_append_right _ (.head _))
    obtain ⟨hblo, hbhi⟩ := b_bits hb
    have hvl := IntsAre.length hi'
    have hpl := hP.len
    have hnl : ns.length ≤ 128 := by rw [hns, digs_length]; lia
    have hel := congrArg List.length hEq
    simp only [List.length_reverse, List.length_append, List.length_cons] at hel
    have hvb : vs'.length ≤ 128 := by lia
    have hrb := bits_lt' (k := 8010) hP.r0 (Int.lt_trans hP.r1 hbhi) (by lia)
    repeat' (first | ((with_reducible show wpAny _ _ (call (Value.builtin _) [Value.ref _]) _ _ _); k_dflt (refine kl_reverse (by k_asm) (by k_asm) (rev_lit) (by k_upd) (by (show List.length _ ≤ _); size_fits) ?_); intro _ _ _) | ((with_reducible show wpAny _ _ (binaryOp Operator.LShift (Value.int _ _) (Value.int _ _)) _ _ _); (refine r_lshift (m := 8010) (by lia) ‹_› (by lia) ?_); intro _ _ _) | (k_unfold; (try dsimp only)) | (k_end; kc_close) | (walk1; (try dsimp only)) | (dsimp only; walk1; (try dsimp only)) | (leave1; (try dsimp only)) | fail "no step")
    rename _ = r * _ => hy
    (rename Fr _ _ _ _ => fE9); (rename News _ _ _ _ => nE9)
    have hlt := DivP.lt hB hP.r1 hd
    have h0 : 0 ≤ r * 2 ^ ((Builtin.Int.intBits b : Int)).toNat := Int.mul_nonneg hP.r0 (Int.le_of_lt hB)
    refine' call_21 fE9 nE9 X' T' (by lia) ⟨by lia, by lia⟩ hblo hbhi (by lia) ?dp2 ?un2 ?_
    case dp2 => (dsimp only [arn]; lia)
    case un2 => (dsimp only [arn]; lia)
    intro q1 r1 u1 u2 tA hA tkA F3 N3 A3 hq1 hr1
    have lq : @LT.lt Nat _ _ tA ∨ @LT.lt Nat _ tA _ := A3.1
    dsimp only at lq
    repeat' (first | ((with_reducible show wpAny _ _ (call (Value.builtin _) [Value.ref _]) _ _ _); k_dflt (refine kl_reverse (by k_asm) (by k_asm) (rev_lit) (by k_upd) (by (show List.length _ ≤ _); size_fits) ?_); intro _ _ _) | ((with_reducible show wpAny _ _ (binaryOp Operator.LShift (Value.int _ _) (Value.int _ _)) _ _ _); (refine r_lshift (m := 8010) (by lia) ‹_› (by lia) ?_); intro _ _ _) | (k_unfold; (try dsimp only)) | (k_end; kc_close) | (walk1; (try dsimp only)) | (dsimp only; walk1; (try dsimp only)) | (leave1; (try dsimp only)) | fail "no step")
    (rename Fr _ _ _ _ => fE9); (rename News _ _ _ _ => nE9)
    (try simp only [List.push_toArray] at nE9)
    refine' loop_end fE9 nE9 ?m1 (fun p hp => .tail _ (.tail _ hp)) (IntsAre.append hi' (.cons _ _ .nil)) (DivP.step hP hB hd (by rw [hy]) hq1 hr1) ?m2 ?m3
    case m1 => k_mem
    case m2 => with_unfolding_all rfl
    case m3 => kst_same
  · clear fE nE
    intro vs' ns' nn' r tr u h tk hi' hP F' N'
    (try dsimp only)
    (try k_fold)
    have hvl := IntsAre.length hi'
    have hpl := hP.len
    have hnl : ns.length ≤ 128 := by rw [hns, digs_length]; lia
    rw [List.length_reverse] at hpl
    have hNe := allLt_ne lB.2
    repeat' (first | ((with_reducible show wpAny _ _ (call (Value.builtin _) [Value.ref _]) _ _ _); k_dflt (refine kl_reverse (by k_asm) (by k_asm) (rev_lit) (by k_upd) (by (show List.length _ ≤ _); size_fits) ?_); intro _ _ _) | ((with_reducible show wpAny _ _ (binaryOp Operator.LShift (Value.int _ _) (Value.int _ _)) _ _ _); (refine r_lshift (m := 8010) (by lia) ‹_› (by lia) ?_); intro _ _ _) | (k_unfold; (try dsimp only)) | (k_end; kc_close) | (walk1; (try dsimp only)) | (dsimp only; walk1; (try dsimp only)) | (leave1; (try dsimp only)) | fail "no step")
    (rename Fr _ _ _ _ => fE9); (rename News _ _ _ _ => nE9)
    refine' call_d2iF (vis := [_]) G KG hTL2 fE9 nE9 (fun p hp => by rw [List.mem_singleton.mp hp]; exact listOf_nf _ _) (.head _) ⟨by lia, by lia⟩ (ints_rev hi') ?big (by rw [List.length_reverse]; lia) (fun d hd => hP.qd d (List.mem_reverse.mp hd)) ?dp3 ?un3 ?_
    case big =>
      rw [List.length_reverse]
      exact big_ok (by lia) (by lia) (by lia)
    case dp3 => (dsimp only [arn]; lia)
    case un3 => (dsimp only [arn]; lia)
    intro h4 tk4 y t4 tl4 F4 hTL4 N4 hy4
    (try dsimp only [List.cons_append, List.nil_append] at N4)
    repeat' (first | ((with_reducible show wpAny _ _ (call (Value.builtin _) [Value.ref _]) _ _ _); k_dflt (refine kl_reverse (by k_asm) (by k_asm) (rev_lit) (by k_upd) (by (show List.length _ ≤ _); size_fits) ?_); intro _ _ _) | ((with_reducible show wpAny _ _ (binaryOp Operator.LShift (Value.int _ _) (Value.int _ _)) _ _ _); (refine r_lshift (m := 8010) (by lia) ‹_› (by lia) ?_); intro _ _ _) | (k_unfold; (try dsimp only)) | (k_end; kc_close) | (walk1; (try dsimp only)) | (dsimp only; walk1; (try dsimp only)) | (leave1; (try dsimp only)) | fail "no step")
    (rename Fr _ _ _ _ => fE8); (rename News _ _ _ _ => nE8)
    have hund : undig (2 ^ ((Builtin.Int.intBits b : Int)).toNat) ns = a := by
      rw [hns]
      have hc := i2d_cnt (n := (Builtin.Int.intBits b : Int)) ⟨by lia, by lia⟩ hab
      exact undig_digs _ hB _ _ ha (i2d_lt (by lia) ha hc.1 hc.2.2.2)
    obtain ⟨fq, fr⟩ := hP.fin hund hy4
    have hTH := hTL4.th fE8 nE8 (fun p hp => .tail _ (.tail _ hp))
    show Q _ _
    exact hret _ _ _ _ _ _ _ (keepsT_hid hgn fE8) hTH (fresh_hid hgn nE8 (List.mem_cons_self ..) hTH (tup_nf _ _ _ _)) (nE8.get (List.mem_cons_self ..)) fq fr
end Mine
end
section
open PySem PySem.W PyProof.Rows PySem.Calls
namespace Mine
structure IsDM (a b q r : Int) : Prop where
  e : a = q * b + r
  p : 0 < b → 0 ≤ r ∧ r < b
  n : b < 0 → b < r ∧ r ≤ 0
structure DmSz (a b : Int) : Prop where
  b1 : 2 ≤ Builtin.Int.intBits b
  b2 : Builtin.Int.intBits b ≤ 7800
  a1 : Builtin.Int.intBits a ≤ 90000
  a2 : Builtin.Int.intBits a ≤ 120 * Builtin.Int.intBits b
noncomputable def IdmPost (G0 : Heap) (s : Shared) (Q : Value → Shared → Prop) (a b : Int) : Prop :=
  ∀ (q r : Int) u1 u2 (t : Addr) h' tk', KeepsT s.heap h' → TH G0 h' → s.heap.get? t = none → h'.get? t = some (tup2 q r u1 u2) → IsDM a b q r → Q (.ref t) { s with heap := h', toks := tk' }
noncomputable def IdmAt (w : World) (mean : ExcName → Option Value) (mg mb : Str → Option Value) (G0 : Heap) (k : Nat) (a b : Int) : Prop :=
  ∀ (dp un : Nat) (gd : Option (List Code)) (outer : List Env) (s : Shared) (Q E : Value → Shared → Prop) (t1 t2 : Tok), Keeps G0 s.heap → TH G0 s.heap → dp + 32 + k < recursionLimit → un + 90 + 3 * k < cLine → IdmPost G0 s Q a b →
    wpAny (model PW w) (arn dp un gd outer) (call (.ref 129) [.int a t1, .int b t2]) Q E s
theorem dmK {a b : Int} (h : DmSz a b) : ((Builtin.Int.intBits a : Int) + (Builtin.Int.intBits b : Int) - 1).fdiv (Builtin.Int.intBits b : Int) ≤ 128 := by
  obtain ⟨h1, h2, h3, h4⟩ := h
  rw [Int.fdiv_eq_ediv_of_nonneg _ (by lia)]
  have : ((Builtin.Int.intBits a : Int) + (Builtin.Int.intBits b : Int) - 1) / (Builtin.Int.intBits b : Int) < 129 := by
    refine Int.ediv_lt_of_lt_mul (by lia) ?_
    lia
  lia
theorem isDM_pos {a b q r : Int} (hb : 0 < b) (hq : q = a / b) (hr : r = a % b) : IsDM a b q r := by
  have h1 := Int.emod_add_mul_ediv a b
  have h2 := Int.emod_nonneg a (Int.ne_of_gt hb)
  have h3 := Int.emod_lt_of_pos a hb
  subst hq hr
  exact ⟨by rw [Int.mul_comm]; lia, fun _ => ⟨h2, h3⟩, fun h => by lia⟩
theorem call_dmpF {w : World} {mean : ExcName → Option Value} {mg mb : Str → Option Value} {dp un : Nat} {gd : Option (List Code)} {outer : List Env} {G0 g : Heap} {L : Addr} {m : Str → Option Value} {vis tl : List (Addr × Obj)} {s : Shared} {Q E : Value → Shared → Prop} {a b : Int} {t1 t2 : Tok}
    (G : Gr w mean mg mb G0) (KG : Keeps G0 g) (hTL : TL G0 g tl) (F : Fr g L s.heap m) (N : News g L s.heap (vis ++ tl)) (hv : ∀ p ∈ vis, NoTab p.2) (ha : 0 ≤ a) (hb : 0 < b) (hs : DmSz a b) (hdp : dp + 30 < recursionLimit) (hun : un + 80 < cLine)
    (h : ∀ (q r : Int) u1 u2 (t : Addr) h' tk' tl', Fr g L h' m → TL G0 g tl' → News g L h' ((t, tup2 q r u1 u2) :: (vis ++ tl')) → q = a / b → r = a % b → Q (.ref t) { s with heap := h', toks := tk' }) :
    wpAny (model PW w) (arn dp un gd outer) (call (.ref 122) [.int a t1, .int b t2]) Q E s := by
  refine C_dmp w mean mg mb dp un gd outer G0 s Q E a b t1 t2 ha hb ⟨hs.b1, hs.b2⟩ hs.a1 (dmK hs) G (fun b o e => F.keep _ _ (KG _ _ e)) (hTL.th F N fun p hp => List.mem_append_right _ hp) hdp hun fun q r u1 u2 t h' tk' hk H' ht hg hq hr => ?_
  obtain ⟨F', tl', hTL', N'⟩ := hTL.after F N hv hk H'
  exact h q r u1 u2 t h' tk' tl' F' hTL' (new_add F F' N' ht hg) hq hr
theorem call_idmF {w : World} {mean : ExcName → Option Value} {mg mb : Str → Option Value} {dp un : Nat} {gd : Option (List Code)} {outer : List Env} {G0 g : Heap} {L : Addr} {m : Str → Option Value} {vis tl : List (Addr × Obj)} {s : Shared} {Q E : Value → Shared → Prop} {a b : Int} {t1 t2 : Tok} {k : Nat}
    (I : IdmAt w mean mg mb G0 k a b) (KG : Keeps G0 g) (hTL : TL G0 g tl) (F : Fr g L s.heap m) (N : News g L s.heap (vis ++ tl)) (hv : ∀ p ∈ vis, NoTab p.2) (hdp : dp + 32 + k < recursionLimit) (hun : un + 90 + 3 * k < cLine)
    (h : ∀ (q r : Int) u1 u2 (t : Addr) h' tk' tl', Fr g L h' m → TL G0 g tl' → News g L h' ((t, tup2 q r u1 u2) :: (vis ++ tl')) → Apart t vis → IsDM a b q r → Q (.ref t) { s with heap := h', toks := tk' }) :
    wpAny (model PW w) (arn dp un gd outer) (call (.ref 129) [.int a t1, .int b t2]) Q E s := by
  refine I dp un gd outer s Q E t1 t2 (fun b o e => F.keep _ _ (KG _ _ e)) (hTL.th F N fun p hp => List.mem_append_right _ hp) hdp hun fun q r u1 u2 t h' tk' hk H' ht hg hq => ?_
  obtain ⟨F', tl', hTL', N'⟩ := hTL.after F N hv hk H'
  exact h q r u1 u2 t h' tk' tl' F' hTL' (new_add F F' N' ht hg) (apart_of ht fun p hp => N p (List.mem_append_left _ hp)) hq
theorem bits_not {a : Int} (h : a < 0) : Builtin.Int.intBits (-a - 1) ≤ Builtin.Int.intBits a := intBits_le_of_natAbs (by lia) (Nat.le_refl _)
theorem bits_neg {a : Int} : Builtin.Int.intBits (-a) = Builtin.Int.intBits a := by
  unfold Builtin.Int.intBits
  have e : ((-a == 0) : Bool) = (a == 0) := by
    by_cases h : a = 0
    · subst h; rfl
    · rw [beq_false_of_ne h, beq_false_of_ne (by lia)]
  rw [e, Int.natAbs_neg]
theorem isDM_not {a b q r : Int} (ha : a < 0) (hb : 0 < b) (h : IsDM (-a - 1) b q r) : IsDM a b (-q - 1) (b + (-r - 1)) := by
  obtain ⟨e, p, _⟩ := h
  have := p hb
  refine ⟨?_, fun _ => by lia, fun h => by lia⟩
  have : (-q - 1) * b = -(q * b) - b := by grind
  lia
theorem isDM_neg {a b q r : Int} (hb : b < 0) (h : IsDM (-a) (-b) q r) : IsDM a b q (-r) := by
  obtain ⟨e, p, _⟩ := h
  have := p (by lia)
  refine ⟨?_, fun h => by lia, fun _ => by lia⟩
  have : q * -b = -(q * b) := Int.mul_neg _ _
  lia
section
variable {prog : Program} {w : World} {A : Around} {E : Value → Shared → Prop} {s : Shared} {Q : Value → Shared → Prop} {a : Int} {t : Tok}
theorem r_inv (h : ∀ tk, Q (.int (-a - 1) tk) { s with toks := s.toks + 1 }) : wpAny (model prog w) A (unaryOp .Invert (.int a t)) Q E s :=
  invert_int (by
    have e : Builtin.bitNot a = -a - 1 := by unfold Builtin.bitNot; lia
    rw [e]; exact h _)
end
theorem idm_pp (w : World) (mean : ExcName → Option Value) (mg mb : Str → Option Value) (G0 : Heap) (G : Gr w mean mg mb G0) (a b : Int) (ha : 0 ≤ a) (hb : 0 < b) (hs : DmSz a b) : IdmAt w mean mg mb G0 0 a b := by
  intro dp un gd outer s Q E t1 t2 K0 H hdp hun hret
  have hfill : PySem.Challenge.rw_rl0135_01 = PySem.Challenge.rw_rl0135_01 ∧ KF = KF := by k_fill; exact ⟨rfl, rfl⟩
  clear hfill
  w_on
  k_with_none
  obtain ⟨ps1, ps2, hH, hTL⟩ := TL.entry H
  refine wpAny_call ?_
  k_dflt (refine' enterG (h₀ := G0) (hid := [((103 : Addr), tabObj ps1), (110, tabObj ps2)]) ?k3 ?kK ?k5 ?kH ?k6 ?k7 ?k8 ?k9 ?kB ?_ ?c5 ?c2 ?c3 ?c4; (case k3 => exact G.X); (case kK => k_asm); (case k5 => exact G.T.nolimit); (case kH => exact hH); (case k6 => k_is); (case k7 => k_is); (case k8 => (show dp < _; lia)); (case k9 => exact BindsTo.of_eq rfl); (case kB => exact locs rfl); (case c5 => decide); (case c2 => exact rfl); (case c3 => exact rfl); (case c4 => exact rfl))
  intro L' h₁ F' N' hlt hfr
  obtain ⟨g, hg⟩ : ∃ g, hideAll s.heap ([((103 : Addr), tabObj ps1), (110, tabObj ps2)].map (·.1)) = g := ⟨_, rfl⟩
  have KG : Keeps G0 g := hg ▸ ground_hid K0 (fun p hp => by rcases List.mem_cons.mp hp with rfl | hp; exact G.n1; rw [List.mem_singleton.mp hp]; exact G.n2)
  have hgn : ∀ b o, b ∉ ([((103 : Addr), tabObj ps1), (110, tabObj ps2)]).map (·.1) → s.heap.get? b = some o → g.get? b = some o := fun b o hb e => hg ▸ hideAll_get _ e hb
  have hTL := hTL g hgn
  rw [hg] at F' N'
  obtain ⟨tl, htl⟩ : ∃ tl, tl = [((103 : Addr), tabObj ps1), (110, tabObj ps2)] := ⟨_, rfl⟩
  rw [← htl] at hTL N'
  have X' := G.X.keeps KG
  have T' := G.T.keeps KG
  clear hlt htl hg
  (try dsimp only)
  (try k_fold)
  repeat' (first | ((with_reducible show wpAny _ _ (unaryOp UnaryOp.Invert _) _ _ _); refine r_inv ?_; intro _) | (k_unfold; (try dsimp only)) | (k_end; kc_close) | (walk1; (try dsimp only)) | (dsimp only; walk1; (try dsimp only)) | (leave1; (try dsimp only)) | fail "no step")
  all_goals (first | (exfalso; lia) | skip)
  (rename Fr _ _ _ _ => fE9); (rename News _ _ _ _ => nE9)
  refine' call_dmpF (vis := []) G KG hTL fE9 nE9 (fun p hp => nomatch hp) ha hb hs ?dp3 ?un3 ?_
  case dp3 => (dsimp only [arn]; lia)
  case un3 => (dsimp only [arn]; lia)
  intro q r u1 u2 t h4 tk4 tl4 F4 hTL4 N4 hq hr
  (try dsimp only [List.cons_append, List.nil_append] at N4)
  repeat' (first | ((with_reducible show wpAny _ _ (unaryOp UnaryOp.Invert _) _ _ _); refine r_inv ?_; intro _) | (k_unfold; (try dsimp only)) | (k_end; kc_close) | (walk1; (try dsimp only)) | (dsimp only; walk1; (try dsimp only)) | (leave1; (try dsimp only)) | fail "no step")
  (rename Fr _ _ _ _ => fE8); (rename News _ _ _ _ => nE8)
  have hTH := hTL4.th fE8 nE8 (fun p hp => .tail _ hp)
  show Q _ _
  exact hret _ _ _ _ _ _ _ (keepsT_hid hgn fE8) hTH (fresh_hid hgn nE8 (List.mem_cons_self ..) hTH (tup_nf _ _ _ _)) (nE8.get (List.mem_cons_self ..)) (isDM_pos hb hq hr)
theorem idm_np (w : World) (mean : ExcName → Option Value) (mg mb : Str → Option Value) (G0 : Heap) (G : Gr w mean mg mb G0) (a b : Int) (ha : a < 0) (hb : 0 < b) (hs : DmSz a b) (I : IdmAt w mean mg mb G0 0 (-a - 1) b) : IdmAt w mean mg mb G0 1 a b := by
  intro dp un gd outer s Q E t1 t2 K0 H hdp hun hret
  have hfill : PySem.Challenge.rw_rl0135_01 = PySem.Challenge.rw_rl0135_01 ∧ KF = KF := by k_fill; exact ⟨rfl, rfl⟩
  clear hfill
  w_on
  k_with_none
  obtain ⟨ps1, ps2, hH, hTL⟩ := TL.entry H
  refine wpAny_call ?_
  k_dflt (refine' enterG (h₀ := G0) (hid := [((103 : Addr), tabObj ps1), (110, tabObj ps2)]) ?k3 ?kK ?k5 ?kH ?k6 ?k7 ?k8 ?k9 ?kB ?_ ?c5 ?c2 ?c3 ?c4; (case k3 => exact G.X); (case kK => k_asm); (case k5 => exact G.T.nolimit); (case kH => exact hH); (case k6 => k_is); (case k7 => k_is); (case k8 => (show dp < _; lia)); (case k9 => exact BindsTo.of_eq rfl); (case kB => exact locs rfl); (case c5 => decide); (case c2 => exact rfl); (case c3 => exact rfl); (case c4 => exact rfl))
  intro L' h₁ F' N' hlt hfr
  obtain ⟨g, hg⟩ : ∃ g, hideAll s.heap ([((103 : Addr), tabObj ps1), (110, tabObj ps2)].map (·.1)) = g := ⟨_, rfl⟩
  have KG : Keeps G0 g := hg ▸ ground_hid K0 (fun p hp => by rcases List.mem_cons.mp hp with rfl | hp; exact G.n1; rw [List.mem_singleton.mp hp]; exact G.n2)
  have hgn : ∀ b o, b ∉ ([((103 : Addr), tabObj ps1), (110, tabObj ps2)]).map (·.1) → s.heap.get? b = some o → g.get? b = some o := fun b o hb e => hg ▸ hideAll_get _ e hb
  have hTL := hTL g hgn
  rw [hg] at F' N'
  obtain ⟨tl, htl⟩ : ∃ tl, tl = [((103 : Addr), tabObj ps1), (110, tabObj ps2)] := ⟨_, rfl⟩
  rw [← htl] at hTL N'
  have X' := G.X.keeps KG
  have T' := G.T.keeps KG
  clear hlt htl hg
  (try dsimp only)
  (try k_fold)
  repeat' (first | ((with_reducible show wpAny _ _ (unaryOp UnaryOp.Invert _) _ _ _); refine r_inv ?_; intro _) | (k_unfold; (try dsimp only)) | (k_end; kc_close) | (walk1; (try dsimp only)) | (dsimp only; walk1; (try dsimp only)) | (leave1; (try dsimp only)) | fail "no step")
  all_goals (first | (exfalso; lia) | skip)
  (rename Fr _ _ _ _ => fE9); (rename News _ _ _ _ => nE9)
  refine' call_idmF (vis := []) I KG hTL fE9 nE9 (fun p hp => nomatch hp) ?dp3 ?un3 ?_
  case dp3 => (dsimp only [arn]; lia)
  case un3 => (dsimp only [arn]; lia)
  intro q r u1 u2 t h4 tk4 tl4 F4 hTL4 N4 A4 hdm
  (try dsimp only [List.cons_append, List.nil_append] at N4)
  repeat' (first | ((with_reducible show wpAny _ _ (unaryOp UnaryOp.Invert _) _ _ _); refine r_inv ?_; intro _) | (k_unfold; (try dsimp only)) | (k_end; kc_close) | (walk1; (try dsimp only)) | (dsimp only; walk1; (try dsimp only)) | (leave1; (try dsimp only)) | fail "no step")
  (rename Fr _ _ _ _ => fE8); (rename News _ _ _ _ => nE8)
  have hTH := hTL4.th fE8 nE8 (fun p hp => .tail _ (.tail _ hp))
  show Q _ _
  exact hret _ _ _ _ _ _ _ (keepsT_hid hgn fE8) hTH (fresh_hid hgn nE8 (List.mem_cons_self ..) hTH (tup_nf _ _ _ _)) (nE8.get (List.mem_cons_self ..)) (isDM_not ha hb hdm)
theorem idm_pn (w : World) (mean : ExcName → Option Value) (mg mb : Str → Option Value) (G0 : Heap) (G : Gr w mean mg mb G0) (a b : Int) (hb : b < 0) (hs : DmSz a b) (I : IdmAt w mean mg mb G0 1 (-a) (-b)) : IdmAt w mean mg mb G0 2 a b := by
  intro dp un gd outer s Q E t1 t2 K0 H hdp hun hret
  have hfill : PySem.Challenge.rw_rl0135_01 = PySem.Challenge.rw_rl0135_01 ∧ KF = KF := by k_fill; exact ⟨rfl, rfl⟩
  clear hfill
  w_on
  k_with_none
  obtain ⟨ps1, ps2, hH, hTL⟩ := TL.entry H
  refine wpAny_call ?_
  k_dflt (refine' enterG (h₀ := G0) (hid := [((103 : Addr), tabObj ps1), (110, tabObj ps2)]) ?k3 ?kK ?k5 ?kH ?k6 ?k7 ?k8 ?k9 ?kB ?_ ?c5 ?c2 ?c3 ?c4; (case k3 => exact G.X); (case kK => k_asm); (case k5 => exact G.T.nolimit); (case kH => exact hH); (case k6 => k_is); (case k7 => k_is); (case k8 => (show dp < _; lia)); (case k9 => exact BindsTo.of_eq rfl); (case kB => exact locs rfl); (case c5 => decide); (case c2 => exact rfl); (case c3 => exact rfl); (case c4 => exact rfl))
  intro L' h₁ F' N' hlt hfr
  obtain ⟨g, hg⟩ : ∃ g, hideAll s.heap ([((103 : Addr), tabObj ps1), (110, tabObj ps2)].map (·.1)) = g := ⟨_, rfl⟩
  have KG : Keeps G0 g := hg ▸ ground_hid K0 (fun p hp => by rcases List.mem_cons.mp hp with rfl | hp; exact G.n1; rw [List.mem_singleton.mp hp]; exact G.n2)
  have hgn : ∀ b o, b ∉ ([((103 : Addr), tabObj ps1), (110, tabObj ps2)]).map (·.1) → s.heap.get? b = some o → g.get? b = some o := fun b o hb e => hg ▸ hideAll_get _ e hb
  have hTL := hTL g hgn
  rw [hg] at F' N'
  obtain ⟨tl, htl⟩ : ∃ tl, tl = [((103 : Addr), tabObj ps1), (110, tabObj ps2)] := ⟨_, rfl⟩
  rw [← htl] at hTL N'
  have X' := G.X.keeps KG
  have T' := G.T.keeps KG
  clear hlt htl hg
  (try dsimp only)
  (try k_fold)
  repeat' (first | ((with_reducible show wpAny _ _ (unaryOp UnaryOp.Invert _) _ _ _); refine r_inv ?_; intro _) | (k_unfold; (try dsimp only)) | (k_end; kc_close) | (walk1; (try dsimp only)) | (dsimp only; walk1; (try dsimp only)) | (leave1; (try dsimp only)) | fail "no step")
  all_goals (first | (exfalso; lia) | skip)
  (rename Fr _ _ _ _ => fE9); (rename News _ _ _ _ => nE9)
  refine' call_idmF (vis := []) I KG hTL fE9 nE9 (fun p hp => nomatch hp) ?dp3 ?un3 ?_
  case dp3 => (dsimp only [arn]; lia)
  case un3 => (dsimp only [arn]; lia)
  intro q r u1 u2 t h4 tk4 tl4 F4 hTL4 N4 A4 hdm
  (try dsimp only [List.cons_append, List.nil_append] at N4)
  repeat' (first | ((with_reducible show wpAny _ _ (unaryOp UnaryOp.Invert _) _ _ _); refine r_inv ?_; intro _) | (k_unfold; (try dsimp only)) | (k_end; kc_close) | (walk1; (try dsimp only)) | (dsimp only; walk1; (try dsimp only)) | (leave1; (try dsimp only)) | fail "no step")
  (rename Fr _ _ _ _ => fE8); (rename News _ _ _ _ => nE8)
  have hTH := hTL4.th fE8 nE8 (fun p hp => .tail _ (.tail _ hp))
  show Q _ _
  exact hret _ _ _ _ _ _ _ (keepsT_hid hgn fE8) hTH (fresh_hid hgn nE8 (List.mem_cons_self ..) hTH (tup_nf _ _ _ _)) (nE8.get (List.mem_cons_self ..)) (isDM_neg hb hdm)
theorem idm_pos (w : World) (mean : ExcName → Option Value) (mg mb : Str → Option Value) (G0 : Heap) (G : Gr w mean mg mb G0) (a b : Int) (hb : 0 < b) (hs : DmSz a b) : IdmAt w mean mg mb G0 1 a b := by
  by_cases ha : 0 ≤ a
  · have h := idm_pp w mean mg mb G0 G a b ha hb hs
    intro dp un gd outer s Q E t1 t2 K0 H hdp hun hret
    exact h dp un gd outer s Q E t1 t2 K0 H (by lia) (by lia) hret
  · have ha' : a < 0 := by lia
    exact idm_np w mean mg mb G0 G a b ha' hb hs (idm_pp w mean mg mb G0 G (-a - 1) b (by lia) hb ⟨hs.b1, hs.b2, Nat.le_trans (bits_not ha') hs.a1, Nat.le_trans (bits_not ha') hs.a2⟩)
theorem idm_all (w : World) (mean : ExcName → Option Value) (mg mb : Str → Option Value) (G0 : Heap) (G : Gr w mean mg mb G0) (a b : Int) (hb : b ≠ 0) (hs : DmSz a b) : IdmAt w mean mg mb G0 2 a b := by
  by_cases h0 : 0 < b
  · have h := idm_pos w mean mg mb G0 G a b h0 hs
    intro dp un gd outer s Q E t1 t2 K0 H hdp hun hret
    exact h dp un gd outer s Q E t1 t2 K0 H (by lia) (by lia) hret
  · exact idm_pn w mean mg mb G0 G a b (by lia) hs (idm_pos w mean mg mb G0 G (-a) (-b) (by lia) ⟨by rw [bits_neg]; exact hs.b1, by rw [bits_neg]; exact hs.b2, by rw [bits_neg]; exact hs.a1, by rw [bits_neg, bits_neg]; exact hs.a2⟩)
end Mine
end
section
open PySem PySem.W PyProof.Rows PySem.Calls
namespace Mine
noncomputable abbrev wsPs (la : Addr) (n nt b : Nat) (t1 t2 t3 : Tok) : List (Str × Value) := [(Str.ofString "count", .ref la), (Str.ofString "n", .int n t1), (Str.ofString "nt", .int nt t2), (Str.ofString "b", .int b t3)]
noncomputable def WsJ (base : List (Addr × Obj)) (I : Addr) (x : Str) (m₀ : Str → Option Value) (pre : List Int) (m : Str → Option Value) (nx : List (Addr × Obj)) : Prop :=
  ∃ (la : Addr) (vs : List Value) (ns : List Int) (nn n nt b : Nat) (t1 t2 t3 : Tok), nx = (la, W.listOf vs.toArray nn) :: base ∧ la ≠ I ∧ (∀ p ∈ base, p.1 ≠ la) ∧ IntsAre vs ns ∧ WsR pre n nt b ns ∧
    (∀ p ∈ wsPs la n nt b t1 t2 t3, m p.1 = some p.2) ∧ (∀ z, z ≠ x → (∀ p ∈ wsPs la n nt b t1 t2 t3, z ≠ p.1) → ([] : List Str).contains z = false → m z = m₀ z)
noncomputable def WsEnd (base own : List (Addr × Obj)) (I : Addr) (x : Str) (h₀ : Heap) (L : Addr) (m₀ : Str → Option Value) (pre : List Int) (s₁ s₂ : Shared) : Prop :=
  ∃ h' tk m' news' nx, s₂ = { s₁ with heap := h', toks := tk } ∧ Fr h₀ L h' m' ∧ News h₀ L h' news' ∧ (∀ p ∈ nx, p ∈ news') ∧ (∀ p ∈ own, p ∈ news') ∧ WsJ base I x m₀ pre m' nx
noncomputable def WsBrk (base : List (Addr × Obj)) (x : Str) (h₀ : Heap) (L : Addr) (la : Addr) (vs : List Value) (nn n nt b : Nat) (t1 t2 t3 : Tok) (m₀ : Str → Option Value) (c : Int) (s₁ s₂ : Shared) : Prop :=
  ¬ IsWs c ∧ ∃ h' tk v, s₂ = { s₁ with heap := h', toks := tk } ∧ Fr h₀ L h' (fun y => if y = x then some v else kstB m₀ (wsPs la n nt b t1 t2 t3) y) ∧ News h₀ L h' ((la, W.listOf vs.toArray nn) :: base)
noncomputable def WsPost (base own : List (Addr × Obj)) (I : Addr) (x : Str) (h₀ : Heap) (L : Addr) (la : Addr) (vs : List Value) (nn n nt b : Nat) (t1 t2 t3 : Tok) (m₀ : Str → Option Value) (pre : List Int) (c : Int) (s₁ : Shared) (f : Flow) (s₂ : Shared) : Prop :=
  match f with
  | .ret _ => False
  | .brk => WsBrk base x h₀ L la vs nn n nt b t1 t2 t3 m₀ c s₁ s₂
  | _ => WsEnd base own I x h₀ L m₀ (pre ++ [c]) s₁ s₂
theorem pyIter_strL {prog : Program} {w : World} {A : Around} {E : Value → Shared → Prop} {s : Shared} {x : Str} {t : Tok} {Q : Value → Shared → Prop}
    (hQ : ∀ (o : Obj) (St : Nat → Heap → Prop), (∀ A' : Around, A'.handled = none → Walks prog w A' s.heap.objs.size [s.heap.objs.size] [s.heap.objs.size] x.cps.size (SignAt x) St) → St 0 (s.heap.push o) → (∀ i h, St i h → ∃ o, h.get? s.heap.objs.size = some o) →
      Q (.ref s.heap.objs.size) { s with heap := s.heap.push o }) : wpAny (model prog w) A (pyIter (.str x t)) Q E s := by
  cases ha : x.cps.all (· < 128)
  · exact wpAny_pyIter_wide ha (hQ _ _ (fun A' hA => Walks.strWide hA _ x t) ⟨_, Heap.get?_push_size _ rfl, rfl, rfl⟩ fun i h st => let ⟨o, ho, _⟩ := st; ⟨o, ho⟩)
  · exact wpAny_pyIter_ascii ha (hQ _ _ (fun A' hA => Walks.strAscii hA _ x t) ⟨_, Heap.get?_push_size _ rfl, rfl, rfl⟩ fun i h st => let ⟨o, ho, _⟩ := st; ⟨o, ho⟩)
theorem loop_ws {prog : Program} {w : World} {A : Around} {E : Value → Shared → Prop} {s : Shared} {env : Env} {h₀ : Heap} {x : Str} {body : List Stmt} {Q : Flow → Shared → Prop} {xt : Str} {tx : Tok} {m₀ : Str → Option Value} {base : List (Addr × Obj)} {la0 : Addr} {nn0 : Nat} {t10 t20 t30 : Tok}
    (hh : A.handled = none) (F : Fr h₀ env.locals s.heap m₀) (N : News h₀ env.locals s.heap ((la0, W.listOf #[] nn0) :: base)) (hb : ∀ p ∈ base, p.1 ≠ la0) (hk : ∀ p ∈ wsPs la0 0 0 0 t10 t20 t30, m₀ p.1 = some p.2)
    (turn : ∀ (la : Addr) vs ns nn n nt b t1 t2 t3 (pre post : List Int) (k : Nat) t h tk own I oI, KStt.codes xt = pre ++ (k : Int) :: post → (I, oI) ∈ own → la ≠ I → (∀ p ∈ base, p.1 ≠ la) → (∀ p ∈ own, p.1 ≠ la) → IntsAre vs ns → WsR pre n nt b ns →
      Fr h₀ env.locals h (fun y => if y = x then some (.str ⟨#[k]⟩ t) else kstB m₀ (wsPs la n nt b t1 t2 t3) y) → News h₀ env.locals h ((la, W.listOf vs.toArray nn) :: (base ++ own)) →
      wpAny (model prog w) A (execs body env) (WsPost base own I x h₀ env.locals la vs nn n nt b t1 t2 t3 m₀ pre k { s with heap := h, toks := tk }) E { s with heap := h, toks := tk })
    (done : ∀ (la : Addr) vs ns nn n nt b t1 t2 t3 (pre : List Int) (u : Str → Option Value) h tk, (pre = KStt.codes xt ∨ ∃ c post, KStt.codes xt = pre ++ c :: post ∧ ¬ IsWs c) → IntsAre vs ns → WsR pre n nt b ns →
      Fr h₀ env.locals h (fun y => if y = x then u y else kstB m₀ (wsPs la n nt b t1 t2 t3) y) → News h₀ env.locals h ((la, W.listOf vs.toArray nn) :: base) → (∀ p ∈ base, p.1 ≠ la) → Q .next { s with heap := h, toks := tk }) :
    wpAny (model prog w) A (pyIter (.str xt tx)) (fun it s₂ => LoopAtV prog w A h₀ env x body Q E it s₂) E s := by
  refine pyIter_strL fun o St hW hst hlive => ?_
  have WW := hW A hh
  have hlt : ∀ p ∈ (la0, W.listOf #[] nn0) :: base, p.1 ≠ s.heap.objs.size := fun p hp hI => absurd (Heap.lt_size (N p hp).1) (hI ▸ Nat.lt_irrefl _)
  refine ⟨s.heap.objs.size, _, _, _, _, St, m₀, _, fun i m nx => WsJ base s.heap.objs.size x m₀ ((KStt.codes xt).take i) m nx, rfl, WW, ?_, ?_, ?_, hst, F.push _, (fun p hp => ⟨Heap.get?_push_of_some _ (N p hp).1, (N p hp).2⟩), ⟨la0, [], [], nn0, 0, 0, 0, t10, t20, t30, rfl, hlt _ (List.mem_cons_self ..), hb, .nil, by simpa using WsR.nil, hk, fun _ _ _ _ => rfl⟩, ?_, ?_⟩
  · intro hm
    exact absurd F.ns.lt ((List.mem_singleton.mp hm) ▸ Nat.lt_irrefl _)
  · intro b' hb'
    rw [List.mem_singleton.mp hb']
    exact next_is_new F
  · intro p hp hI
    exact hlt p hp (List.mem_singleton.mp hI)
  · rintro i v m₁ nx s₁ own ⟨h, tk, rfl⟩ hi hv ⟨la, vs, ns, nn, n, nt, b, t1, t2, t3, rfl, hlaI, hbase, hvs, hR, h1, h2⟩ hoff hown hget hfp hSt F₁ N₁
    obtain ⟨k, u, hn, rfl⟩ := hv
    have hn' := KStt.code_at hn
    have hs : (KStt.codes xt).take (i + 1) = (KStt.codes xt).take i ++ [(k : Int)] := by simp [List.take_add_one, hn']
    have e : KStt.codes xt = (KStt.codes xt).take i ++ (k : Int) :: (KStt.codes xt).drop (i + 1) := by
      have ht := List.take_append_drop (i + 1) (KStt.codes xt)
      rw [hs, List.append_assoc] at ht
      exact ht.symm
    have hownla : ∀ p ∈ own, p.1 ≠ la := fun p hp q => hlaI (by rw [← q]; exact List.mem_singleton.mp (hown p hp))
    have F₂ : Fr h₀ env.locals h (fun y => if y = x then some (.str ⟨#[k]⟩ u) else kstB m₀ (wsPs la n nt b t1 t2 t3) y) := by
      have := kst_fr (x := x) (stored := []) (m₁ := m₁) (m₀ := m₀) (v := .str ⟨#[k]⟩ u) h1 h2 F₁
      simpa using this
    have N₂ : News h₀ env.locals h ((la, W.listOf vs.toArray nn) :: (base ++ own)) := fun p hp => N₁ p (by
      rcases List.mem_cons.mp hp with rfl | hp
      · exact List.mem_append_right _ (List.mem_cons_self ..)
      · rcases List.mem_append.mp hp with hp | hp
        · exact List.mem_append_right _ (List.mem_cons_of_mem _ hp)
        · exact List.mem_append_left _ hp)
    obtain ⟨oI, hoI⟩ : ∃ oI, (s.heap.objs.size, oI) ∈ own := by
      have hI : ∃ oI, h.get? s.heap.objs.size = some oI := hlive _ _ hSt
      obtain ⟨oI, hI⟩ := hI
      exact ⟨oI, hfp _ (List.mem_cons_self ..) (next_is_new F) oI hI⟩
    refine wpAny_mono (turn la vs ns nn n nt b t1 t2 t3 _ _ k u h tk own _ oI e hoI hlaI hbase hownla hvs hR F₂ N₂) (fun f s₂ p => ?_) fun _ _ e => e
    have fin : WsEnd base own s.heap.objs.size x h₀ env.locals m₀ ((KStt.codes xt).take i ++ [(k : Int)]) { s with heap := h, toks := tk } s₂ → LoopStepU h₀ env.locals [s.heap.objs.size] own (WsJ base s.heap.objs.size x m₀ ((KStt.codes xt).take (i + 1))) { s with heap := h, toks := tk } .next s₂ := by
      rintro ⟨h', tk', m', news', nx, e', F', N', hn1, ho1, hJ⟩
      refine ⟨rfl, h', tk', m', nx, e', F', fun p hp => N' p ((List.mem_append.mp hp).elim (ho1 p) (hn1 p)), fun p hp hI => ?_, by rw [hs]; exact hJ⟩
      obtain ⟨la', vs', ns', nn', n', nt', b', t1', t2', t3', rfl, hlaI', hbase', _⟩ := hJ
      rcases List.mem_cons.mp hp with rfl | hp
      · exact hlaI' (List.mem_singleton.mp hI)
      · exact hlt p (List.mem_cons_of_mem _ hp) (List.mem_singleton.mp hI)
    cases f with
    | ret v => exact p.elim
    | brk =>
      obtain ⟨hc, h', tk', v', rfl, F', N'⟩ := p
      exact .brk (done la vs ns nn n nt b t1 t2 t3 _ (fun _ => some v') h' tk' (.inr ⟨_, _, e, hc⟩) hvs hR F' N' hbase)
    | next => exact .next (fin p)
    | cont => exact .cont (fin p)
  · rintro h' tk m' news' F' N' _ ⟨la, vs, ns, nn, n, nt, b, t1, t2, t3, rfl, hlaI, hbase, hvs, hR, h1, h2⟩
    have hl : xt.cps.size = (KStt.codes xt).length := (KStt.codes_length xt).symm
    rw [hl, List.take_length] at hR
    refine done la vs ns nn n nt b t1 t2 t3 _ m' h' tk (.inl rfl) hvs hR ?_ N' hbase
    have := kst_frOut (x := x) (stored := []) (m₁ := m') (m₀ := m₀) h1 h2 F'
    simpa using this
end Mine
end
section
open PySem PySem.W PyProof.Rows
namespace Mine
noncomputable def walkStep (size : Int) (st : Int × Int) (c : Int) : Int × Int := if c = 32 ∧ st.2 + 1 < size then (st.1, st.2 + 1) else (st.1 + 1, 0)
noncomputable def WalkP (size : Int) (pre : List Int) (stops behind : Int) : Prop := (stops, behind) = pre.foldl (walkStep size) (0, 0) ∧ 0 ≤ stops ∧ stops ≤ (pre.length : Int) ∧ 0 ≤ behind ∧ behind < size
theorem blank_iff (n : Nat) : (({ cps := #[n] } : Str) == Str.ofString " ") = decide ((n : Int) = 32) := by
  have e : Str.ofString " " = { cps := #[32] } := by decide +kernel
  rw [e]
  by_cases h : n = 32
  · subst h; simp
  · have : ¬ ((n : Int) = 32) := by lia
    rw [decide_eq_false this, beq_eq_false_iff_ne]
    intro hc
    exact h (by injection hc with hc; simpa using hc)
theorem walk_start {size : Int} (h : 2 ≤ size ∧ size ≤ 7) : WalkP size [] 0 0 := ⟨rfl, by lia, by simp, by lia, by lia⟩
theorem walk_a {size a b : Int} {pre : List Int} {n : Nat} (h1 : WalkP size pre a b) (h6 : (({ cps := #[n] } : Str) == Str.ofString " ") = true) (h7 : b + 1 < size) : WalkP size (pre ++ [(n : Int)]) a (b + 1) := by
  obtain ⟨h1, h2, h3, h4, h5⟩ := h1
  rw [blank_iff, decide_eq_true_eq] at h6
  refine ⟨?_, h2, by simp; lia, by lia, h7⟩
  rw [List.foldl_append, ← h1]
  simp [walkStep, h6, h7]
theorem walk_b {size a b : Int} {pre : List Int} {n : Nat} (h1 : WalkP size pre a b) (h6 : (({ cps := #[n] } : Str) == Str.ofString " ") = false ∨ ¬ (b + 1 < size)) (hs : 2 ≤ size ∧ size ≤ 7) : WalkP size (pre ++ [(n : Int)]) (a + 1) 0 := by
  obtain ⟨h1, h2, h3, h4, h5⟩ := h1
  rw [blank_iff, decide_eq_false_iff_not] at h6
  refine ⟨?_, by lia, by simp; lia, by lia, by lia⟩
  rw [List.foldl_append, ← h1]
  simp only [List.foldl_cons, List.foldl_nil, walkStep]
  rw [if_neg]
  rintro ⟨x, y⟩
  exact h6.elim (fun z => z x) (fun z => absurd y z)
noncomputable def codesI (x : Str) : List Int := x.cps.toList.map fun (c : Nat) => (c : Int)
noncomputable def walkF (lead : Str) (size : Int) : Int := let r := (codesI lead).foldl (walkStep size) (0, 0); r.1 * size + r.2
theorem walk_val {lead : Str} {size a b : Int} (h : WalkP size (codesI lead) a b) : a * size + b = walkF lead size := by
  have e := h.1
  unfold walkF
  rw [← e]
theorem C_walk (w : World) (mean : ExcName → Option Value) (mg mb : Str → Option Value) (dp un : Nat) (gd : Option (List Code)) (outer : List Env) (s : Shared) (Q E : Value → Shared → Prop)
    (lead : Str) (t1 : Tok) (size : Int) (t2 : Tok) (hsz : 2 ≤ size ∧ size ≤ 7) (hlen : lead.length ≤ 18)
    (X : (KF w.params).In s.heap) (T : TopM mean mg mb s.heap) (hdp : dp < recursionLimit) (hun : un + 8 < cLine)
    (hret : ∀ (t : Tok) (h' : Heap) (tk' : Nat), Keeps s.heap h' → Q (.int (walkF lead size) t) { s with heap := h', toks := tk' }) :
    wpAny (model PW w) (arn dp un gd outer) (call (.ref 214) [.str lead t1, .int size t2]) Q E s := by
  have hfill : PySem.Challenge.rw_rl0135_01 = PySem.Challenge.rw_rl0135_01 ∧ KF = KF := by k_fill; exact ⟨rfl, rfl⟩
  clear hfill
  w_on
  k_with_none
  k_with "pyIter str" => k_state (fun pre stops behind => WalkP size pre stops behind) "stops" "behind"
  k_with "state" => first | exact walk_start (by assumption) | exact walk_a (by assumption) (by assumption) (by assumption) | exact walk_b (by assumption) (.inr (by assumption)) (by assumption) | exact walk_b (by assumption) (.inl (by assumption)) (by assumption) | exact walk_b (by assumption) (.inl (by simpa using (by assumption : ¬ _))) (by assumption) | (trace "STATE"; trace_state; fail "x")
  refine wpAny_call ?_
  k_dflt (refine' enterP ?k3 ?k5 ?k6 ?k7 ?k8 ?k9 ?kB ?_ ?c5 ?c2 ?c3 ?c4; (case k3 => k_asm); (case k5 => exact T.nolimit); (case k6 => k_is); (case k7 => k_is); (case k8 => exact hdp); (case k9 => exact BindsTo.of_eq rfl); (case kB => exact locs rfl); (case c5 => decide); (case c2 => exact rfl); (case c3 => exact rfl); (case c4 => exact rfl))
  intro L' h' F' N'
  (try dsimp only)
  (try k_fold)
  repeat' (first | (k_unfold; (try dsimp only)) | (k_end; kc_close) | (walk1; (try dsimp only)) | (dsimp only; walk1; (try dsimp only)) | (leave1; (try dsimp only)) | fail "no step")
  rename WalkP _ _ _ _ => hP
  have e := walk_val (lead := lead) hP
  rw [← e] at hret
  exact hret _ _ _ (Fr.keep kFr)
end Mine
end
section
namespace Mine
theorem bump_grow {ns : List Int} {b : Nat} (h : (b : Int) ≥ (ns.length : Int)) : (ns ++ (List.replicate ((b : Int) - (ns.length : Int) + 1).toNat [(0 : Int)]).flatten).set (b : Int).toNat ((ns ++ (List.replicate ((b : Int) - (ns.length : Int) + 1).toNat [(0 : Int)]).flatten).getD (b : Int).toNat 0 + 1) = bump ns b := by
  unfold bump
  have e : ((b : Int) - (ns.length : Int) + 1).toNat = b - ns.length + 1 := by lia
  rw [e, Int.toNat_natCast, if_pos (by lia)]
  simp
theorem bump_in {ns : List Int} {b : Nat} (h : ¬ (b : Int) ≥ (ns.length : Int)) : ns.set (b : Int).toNat (ns.getD (b : Int).toNat 0 + 1) = bump ns b := by
  unfold bump
  rw [Int.toNat_natCast, if_neg (by lia)]
end Mine
end
section
open PySem PySem.W PyProof.Rows PySem.Calls
namespace Mine
theorem tab_iff (n : Nat) : (({ cps := #[n] } : Str) == Str.ofString "\t") = decide ((n : Int) = 9) := by
  have e : Str.ofString "\t" = { cps := #[9] } := by decide +kernel
  rw [e]
  by_cases h : n = 9
  · subst h; simp
  · have : ¬ ((n : Int) = 9) := by lia
    rw [decide_eq_false this, beq_eq_false_iff_ne]
    intro hc
    exact h (by injection hc with hc; simpa using hc)
theorem ne_of_news {h₀ h : Heap} {L a b : Addr} {o1 o2 : Obj} {news : List (Addr × Obj)} (N : News h₀ L h news) (h1 : (a, o1) ∈ news) (h2 : (b, o2) ∈ news) (ho : o1.cls ≠ o2.cls) : @LT.lt Nat _ a b ∨ @LT.lt Nat _ b a :=
  Nat.lt_or_gt_of_ne fun q => ho (by
    have q' : a = b := q
    have e1 := (N _ h1).1
    have e2 := (N _ h2).1
    dsimp only at e1 e2
    rw [q', e2] at e1
    rw [Option.some.inj e1])
theorem ws_next {base own news' : List (Addr × Obj)} {I : Addr} {x : Str} {h₀ h' : Heap} {L la la' : Addr} {vs vs' : List Value} {ns' : List Int} {nn nn' n nt b n' nt' b' : Nat} {t1 t2 t3 t1' t2' t3' : Tok} {m₀ m' : Str → Option Value} {pre : List Int} {c : Int} {s₁ : Shared} {tk : Nat}
    (F : Fr h₀ L h' m') (N : News h₀ L h' news') (hm : (la', W.listOf vs'.toArray nn') ∈ news') (hb : ∀ p ∈ base ++ own, p ∈ news') (hla : la' ≠ I) (hbase : ∀ p ∈ base, p.1 ≠ la') (hvs : IntsAre vs' ns') (hR : WsR (pre ++ [c]) n' nt' b' ns')
    (hk : ∀ p ∈ wsPs la' n' nt' b' t1' t2' t3', m' p.1 = some p.2) (hs : ∀ z, z ≠ x → (∀ p ∈ wsPs la' n' nt' b' t1' t2' t3', z ≠ p.1) → ([] : List Str).contains z = false → m' z = m₀ z) :
    WsPost base own I x h₀ L la vs nn n nt b t1 t2 t3 m₀ pre c s₁ .next { s₁ with heap := h', toks := tk } :=
  ⟨h', tk, m', news', (la', W.listOf vs'.toArray nn') :: base, rfl, F, N, fun p hp => by
    rcases List.mem_cons.mp hp with rfl | hp
    · exact hm
    · exact hb p (List.mem_append_left _ hp), fun p hp => hb p (List.mem_append_right _ hp), la', vs', ns', nn', n', nt', b', t1', t2', t3', rfl, hla, hbase, hvs, hR, hk, hs⟩
theorem ws_brk {base own : List (Addr × Obj)} {I : Addr} {x : Str} {h₀ h' : Heap} {L la : Addr} {vs : List Value} {nn n nt b : Nat} {t1 t2 t3 : Tok} {m₀ : Str → Option Value} {pre : List Int} {c : Int} {s₁ : Shared} {tk : Nat} {v : Value}
    (hc : ¬ IsWs c) (F : Fr h₀ L h' (fun y => if y = x then some v else kstB m₀ (wsPs la n nt b t1 t2 t3) y)) (N : News h₀ L h' ((la, W.listOf vs.toArray nn) :: (base ++ own))) :
    WsPost base own I x h₀ L la vs nn n nt b t1 t2 t3 m₀ pre c s₁ .brk { s₁ with heap := h', toks := tk } :=
  ⟨hc, h', tk, v, rfl, F, fun p hp => N p (by
    rcases List.mem_cons.mp hp with rfl | hp
    · exact List.mem_cons_self ..
    · exact List.mem_cons_of_mem _ (List.mem_append_left _ hp))⟩
local macro_rules | `(tactic| k_all) => `(tactic| assumption)
noncomputable abbrev ent5 (P : Params) (nm : Str) (k : Tok) (v : Value) : DictEntry := { hash := PyData.keyHash P nm, key := .str nm k, val := v }
noncomputable abbrev margL (P : Params) (x dx T1 T2 : Addr) (xt : Str) (t1 : Tok) (n nt b : Nat) (vs : List Value) (u1 u2 u3 k1 k2 k3 k4 k5 : Tok) (bb : Bool) : List (Addr × Obj) :=
  [(x, instObj 83 dx), (dx, dictOf [ent5 P (Str.ofString "raw") k1 (.str xt t1), ent5 P (Str.ofString "n") k2 (.int n u1), ent5 P (Str.ofString "nt") k3 (.int nt u2), ent5 P (Str.ofString "norm") k4 (.ref T1), ent5 P (Str.ofString "is_simple") k5 (.bool bb)] 5),
    (T1, { cls := .type "tuple", data := .seq #[.ref T2, .int b u3] }), (T2, { cls := .type "tuple", data := .seq vs.toArray })]
theorem ws_back {g g2 h1 h' : Heap} {L L' x dx T1 T2 : Addr} {m m' : Str → Option Value} {news news' : List (Addr × Obj)} {od o1 o2 : Obj} (F1 : Fr g L h1 m) (N1 : News g L h1 ((x, instObj 83 dx) :: (dx, emptyDict) :: news)) (lo : ∀ p ∈ news, p.1 < dx) (lo2 : dx < x) (KG : Keeps g g2)
    (hgn : ∀ b o, b ∉ ([(x, instObj 83 dx), (dx, emptyDict)]).map (·.1) → h1.get? b = some o → g2.get? b = some o) (F : Fr g2 L' h' m') (N : News g2 L' h' news') (hx : (x, instObj 83 dx) ∈ news') (hd : (dx, od) ∈ news') (h1' : (T1, o1) ∈ news') (h2' : (T2, o2) ∈ news')
    (c1 : o1.cls = .type "tuple") (c2 : o2.cls = .type "tuple") (cd : od.cls = .type "dict") : Fr g L h' m ∧ News g L h' ((x, instObj 83 dx) :: (dx, od) :: (T1, o1) :: (T2, o2) :: news) := by
  have nx := N _ hx
  have nd := N _ hd
  have nt1 := N _ h1'
  have nt2 := N _ h2'
  have tne : ∀ T o, h'.get? T = some o → o.cls = .type "tuple" → T ≠ x ∧ T ≠ dx := by
    intro T o hT hc
    refine ⟨fun q => ?_, fun q => ?_⟩
    · rw [q, nx.1] at hT; rw [← Option.some.inj hT] at hc; cases hc
    · rw [q, nd.1] at hT; rw [← Option.some.inj hT, cd] at hc
      injection hc with e
      exact absurd e (by decide)
  have kb : ∀ b o, b ≠ dx → h1.get? b = some o → h'.get? b = some o := by
    intro b o hb e
    by_cases hbx : b = x
    · subst hbx
      have := (N1 _ (List.mem_cons_self ..)).1
      dsimp only at this
      rw [e] at this
      rw [Option.some.inj this]
      exact nx.1
    · exact F.keep _ _ (hgn b o (by simp only [List.map_cons, List.map_nil, List.mem_cons, List.not_mem_nil, or_false]; rintro (q | q); exact hbx q; exact hb q) e)
  have frT : ∀ T o, h'.get? T = some o → o.cls = .type "tuple" → g2.get? T = none → h1.get? T = none := by
    intro T o hT hc hg
    have tn := tne T o hT hc
    cases e : h1.get? T with
    | none => rfl
    | some o' =>
      have := hgn T o' (by simp only [List.map_cons, List.map_nil, List.mem_cons, List.not_mem_nil, or_false]; rintro (q | q); exact tn.1 q; exact tn.2 q) e
      rw [hg] at this; cases this
  have nL : ∀ T, h1.get? T = none → T ≠ L := by
    intro T hT q
    obtain ⟨oL, es, ep, hL, _⟩ := F1.ns
    rw [← q, hT] at hL; cases hL
  have ndx := N1 _ (List.mem_cons_of_mem _ (List.mem_cons_self ..))
  have hdm : (dx, emptyDict) ∈ (x, instObj 83 dx) :: (dx, emptyDict) :: news := List.mem_cons_of_mem _ (List.mem_cons_self ..)
  refine ⟨fr_but F1 N1 hdm kb, fun p hp => ?_⟩
  rcases List.mem_cons.mp hp with rfl | hp
  · exact ⟨nx.1, (N1 _ (List.mem_cons_self ..)).2⟩
  rcases List.mem_cons.mp hp with rfl | hp
  · exact ⟨nd.1, ndx.2⟩
  rcases List.mem_cons.mp hp with rfl | hp
  · have f := frT _ _ nt1.1 c1 nt1.2.2
    exact ⟨nt1.1, nL _ f, kg_none KG nt1.2.2⟩
  rcases List.mem_cons.mp hp with rfl | hp
  · have f := frT _ _ nt2.1 c2 nt2.2.2
    exact ⟨nt2.1, nL _ f, kg_none KG nt2.2.2⟩
  · have n := N1 p (List.mem_cons_of_mem _ (List.mem_cons_of_mem _ hp))
    exact ⟨kb _ _ (Nat.ne_of_lt (lo p hp)) n.1, n.2⟩
theorem call_ws (w : World) (mean : ExcName → Option Value) (mg mb : Str → Option Value) (dp un : Nat) (gd : Option (List Code)) (outer : List Env) (g : Heap) (L : Addr) (m : Str → Option Value) (news : List (Addr × Obj)) (s : Shared) (Q E : Value → Shared → Prop)
    (xt : Str) (t1 : Tok) (hl : xt.length ≤ 60) (lead rest : List Int) (d : Int) (hcodes : KStt.codes xt = lead ++ d :: rest) (hlead : ∀ x ∈ lead, IsWs x) (hd : ¬ IsWs d)
    (F : Fr g L s.heap m) (N : News g L s.heap news) (X : (KF w.params).In g) (T : TopM mean mg mb g) (hdp : dp + 10 < recursionLimit) (hun : un + 60 < cLine) 
    (hret : ∀ (x dx T1 T2 : Addr) (n nt b : Nat) (vs : List Value) (ns : List Int) (u1 u2 u3 k1 k2 k3 k4 k5 : Tok) (bb : Bool) h' tk', WsR lead n nt b ns → IntsAre vs ns → Fr g L h' m → News g L h' (margL w.params x dx T1 T2 xt t1 n nt b vs u1 u2 u3 k1 k2 k3 k4 k5 bb ++ news) → Q (.ref x) { s with heap := h', toks := tk' }) :
    wpAny (model PW w) (arn dp un gd outer) (call (.ref 83) [.str xt t1]) Q E s := by
  have hfill : PySem.Challenge.rw_rl0135_01 = PySem.Challenge.rw_rl0135_01 ∧ KF = KF := by k_fill; exact ⟨rfl, rfl⟩
  clear hfill
  w_on
  k_with_none
  refine wpAny_call ?_
  refine make_K (fI := 38) F N (X.keeps F.keep) (by k_is) (by k_is) (by k_is) fun x dx h1 F1 N1 lo lo2 => ?_
  have hH : ∀ p ∈ [(x, instObj 83 dx), (dx, emptyDict)], h1.get? p.1 = some p.2 := fun p hp => by
    rcases List.mem_cons.mp hp with rfl | hp
    · exact (N1 _ (.head _)).1
    · rw [List.mem_singleton.mp hp]; exact (N1 _ (.tail _ (.head _))).1
  have hH0 : ∀ p ∈ [(x, instObj 83 dx), (dx, emptyDict)], g.get? p.1 = none := fun p hp => by
    rcases List.mem_cons.mp hp with rfl | hp
    · exact (N1 _ (.head _)).2.2
    · rw [List.mem_singleton.mp hp]; exact (N1 _ (.tail _ (.head _))).2.2
  k_dflt (refine' enterG (s := { s with heap := h1 }) (h₀ := g) (hid := [(x, instObj 83 dx), (dx, emptyDict)]) ?k3 ?kK ?k5 ?kH ?k6 ?k7 ?k8 ?k9 ?kB ?_ ?c5 ?c2 ?c3 ?c4; (case k3 => exact X); (case kK => exact F1.keep); (case k5 => exact T.nolimit); (case kH => exact hH); (case k6 => k_is); (case k7 => k_is); (case k8 => (rw [depth_under_make]; dsimp only [arn]; lia)); (case k9 => exact BindsTo.of_eq rfl); (case kB => exact locs rfl); (case c5 => decide); (case c2 => exact rfl); (case c3 => exact rfl); (case c4 => exact rfl))
  intro L' h₁ F' N' hlt hfr
  obtain ⟨g2, hg⟩ : ∃ g2, hideAll h1 ([(x, instObj 83 dx), (dx, emptyDict)].map (·.1)) = g2 := ⟨_, rfl⟩
  have KG : Keeps g g2 := hg ▸ ground_hid F1.keep hH0
  have hgn : ∀ b o, b ∉ ([(x, instObj 83 dx), (dx, emptyDict)]).map (·.1) → h1.get? b = some o → g2.get? b = some o := fun b o hb e => hg ▸ hideAll_get _ e hb
  rw [hg] at F' N'
  have X' := X.keeps KG
  have T' := T.keeps KG
  have lo3 : @LT.lt Nat _ dx x := lo2
  have l1 : @LT.lt Nat _ x L' ∧ @LT.lt Nat _ dx L' := ⟨hlt _ (.head _), hlt _ (.tail _ (.head _))⟩
  clear X T F N hg
  (try dsimp only)
  (try k_fold)
  repeat' (first | (k_unfold; (try dsimp only)) | (k_end; kc_close) | (walk1; (try dsimp only)) | (dsimp only; walk1; (try dsimp only)) | (leave1; (try dsimp only)) | fail "no step")
  (rename Fr _ _ _ _ => fE); (rename News _ _ _ _ => nE)
  refine' loop_ws rfl fE nE ?hb ?hk ?turn ?done
  case hb => k_dflt k_all
  case hk => kst_all
  case turn =>
    clear fE nE
    intro la vs ns nn n nt b u1 u2 u3 pre post k t h tk own I oI hEq hI hlaI hbase hownla hvs hR F N
    have hb1 := Nat.lt_or_gt_of_ne (hbase _ (.head _))
    have hb2 := Nat.lt_or_gt_of_ne (hbase _ (.tail _ (.head _)))
    have hb3 := Nat.lt_or_gt_of_ne (hbase _ (.tail _ (.tail _ (.head _))))
    obtain ⟨r1, r2, r3, r4⟩ := hR.len
    have hvl := IntsAre.length hvs
    have hpl : pre.length < 60 := by
      have e := congrArg List.length hEq
      rw [KStt.codes_length] at e
      simp only [List.length_append, List.length_cons] at e
      have : xt.cps.size ≤ 60 := hl
      lia
    dsimp only [List.cons_append, List.nil_append, kstB] at hb1 hb2 hb3 F N
    (try k_fold)
    repeat' (first | (k_unfold; (try dsimp only)) | (k_end; kc_close) | (walk1; (try dsimp only)) | (dsimp only; walk1; (try dsimp only)) | (leave1; (try dsimp only)) | fail "no step")
    · (rename Fr _ _ _ _ => fE); (rename News _ _ _ _ => nE)
      rename (_ == Str.ofString " ") = true => hc
      rw [blank_iff, decide_eq_true_eq] at hc
      refine' ws_next fE nE ?m1 (fun p hp => .tail _ hp) hlaI hbase hvs (hc ▸ hR.blank) ?k1 ?k2
      case m1 => k_mem
      case k1 => kst_all
      case k2 => kst_same
    · (rename Fr _ _ _ _ => fE); (rename News _ _ _ _ => nE)
      rename (_ == Str.ofString "\t") = true => hc
      rename IntsAre (List.set _ _ _) _ => iE
      rename (b : Int) ≥ _ => hbl
      rw [tab_iff, decide_eq_true_eq] at hc
      rw [bump_grow hbl] at iE
      rename _ ∧ _ ∧ _ ∧ _ ∧ _ ∧ _ ∧ AllLt _ own => lD
      refine' ws_next fE nE ?m1 (fun p hp => .tail _ (.tail _ (.tail _ (.tail _ hp)))) ?i1 ?b1 iE (hc ▸ hR.stop) ?k1 ?k2
      case m1 => k_mem
      case k1 => kst_all
      case k2 => kst_same
      case i1 => exact (allLt_ne lD.2.2.2.2.2.2 _ hI).symm
      case b1 => exact List.forall_mem_cons.mpr ⟨Nat.ne_of_lt lD.2.2.2.1, List.forall_mem_cons.mpr ⟨Nat.ne_of_lt lD.2.2.2.2.1, List.forall_mem_cons.mpr ⟨Nat.ne_of_lt lD.2.2.2.2.2.1, List.forall_mem_nil _⟩⟩⟩
    · (rename Fr _ _ _ _ => fE); (rename News _ _ _ _ => nE)
      rename (_ == Str.ofString "\t") = true => hc
      rename IntsAre (List.set _ _ _) _ => iE
      rename ¬ (b : Int) ≥ _ => hbl
      rw [tab_iff, decide_eq_true_eq] at hc
      rw [bump_in hbl] at iE
      refine' ws_next fE nE ?m1 (fun p hp => .tail _ hp) hlaI hbase iE (hc ▸ hR.stop) ?k1 ?k2
      case m1 => k_mem
      case k1 => kst_all
      case k2 => kst_same
    · rename (_ == Str.ofString " ") = false => hc1
      rename (_ == Str.ofString "\t") = false => hc2
      rw [blank_iff, decide_eq_false_iff_not] at hc1
      rw [tab_iff, decide_eq_false_iff_not] at hc2
      exact ws_brk (fun q => q.elim hc1 hc2) F N
  case done =>
    clear fE nE
    intro la vs ns nn n nt b u1 u2 u3 pre u h tk hpre hvs hR F N hbase
    have hpl : pre = lead := by
      rcases hpre with rfl | ⟨c, post, e, hc⟩
      · exact (ws_all hcodes hR.ws hd).elim
      · exact ws_cut e hcodes hR.ws hc hlead hd
    have hb1 := Nat.lt_or_gt_of_ne (hbase _ (.head _))
    have hb2 := Nat.lt_or_gt_of_ne (hbase _ (.tail _ (.head _)))
    have hb3 := Nat.lt_or_gt_of_ne (hbase _ (.tail _ (.tail _ (.head _))))
    obtain ⟨r1, r2, r3, r4⟩ := hR.len
    have hvl := IntsAre.length hvs
    have hpl2 : pre.length ≤ 60 := by
      have e := congrArg List.length hcodes
      rw [KStt.codes_length] at e
      simp only [List.length_append, List.length_cons] at e
      have : xt.cps.size ≤ 60 := hl
      rw [hpl]; lia
    dsimp only [kstB] at hb1 hb2 hb3 F
    (try k_fold)
    repeat' (first | (k_unfold; (try dsimp only)) | (k_end; kc_close) | (walk1; (try dsimp only)) | (dsimp only; walk1; (try dsimp only)) | (leave1; (try dsimp only)) | fail "no step")
    rename News _ _ _ _ => nE
    have hDd := ne_of_news nE (.tail _ (.head _)) (.tail _ (.tail _ (.tail _ (.tail _ (.tail _ (.head _)))))) (by intro e; injection e with e; exact absurd e (by decide))
    repeat' (first | (k_unfold; (try dsimp only)) | (k_end; kc_close) | (walk1; (try dsimp only)) | (dsimp only; walk1; (try dsimp only)) | (leave1; (try dsimp only)) | fail "no step")
    (rename Fr _ _ _ _ => fE9); (rename News _ _ _ _ => nE9)
    refine ⟨rfl, ?_⟩
    (show Q _ _)
    obtain ⟨Fb, Nb⟩ := ws_back F1 N1 lo lo2 KG hgn fE9 nE9 (.tail _ (.tail _ (.tail _ (.tail _ (.head _))))) (.tail _ (.tail _ (.tail _ (.tail _ (.tail _ (.head _)))))) (.head _) (.tail _ (.head _)) rfl rfl rfl
    exact hret _ _ _ _ _ _ _ _ _ _ _ _ _ _ _ _ _ _ _ _ (hpl ▸ hR) hvs Fb Nb
end Mine
end
section
open PySem PySem.W PyProof.Rows PySem.Calls
namespace Mine
noncomputable def wTerm (size : Int) (ns : List Int) (i : Int) : Int := i.fdiv size * ns.getD i.toNat 0
structure IndP (size : Int) (ns : List Int) (pre : List Int) (il : Int) : Prop where
  e : il = (pre.map (wTerm size ns)).sum
theorem IndP.start {size : Int} {ns : List Int} : IndP size ns [] 0 := ⟨by simp⟩
theorem IndP.step {size i il : Int} {ns pre : List Int} (h : IndP size ns pre il) : IndP size ns (pre ++ [i]) (il + i.fdiv size * ns.getD i.toNat 0) := ⟨by rw [h.e]; simp [wTerm]⟩
noncomputable def indF (size : Int) (ns : List Int) (nt b : Nat) : Int := b + size * (((rangeKs size ((ns.length : Int) - size).toNat).map (wTerm size ns)).sum + nt)
theorem fdiv_bnd {i s : Int} (h0 : 0 ≤ i) (h1 : i ≤ 100) (h2 : 2 ≤ s) : -(2 ^ 64) < i.fdiv s ∧ i.fdiv s < 2 ^ 64 := by
  rw [Int.fdiv_eq_ediv_of_nonneg _ (by lia)]
  have a := Int.ediv_nonneg h0 (show 0 ≤ s by lia)
  have b := Int.ediv_le_self s h0
  lia
noncomputable abbrev tupO (vs : List Value) : Obj := { cls := .type "tuple", data := .seq vs.toArray }
theorem t_len {prog : Program} {w : World} {A : Around} {E : Value → Shared → Prop} {s : Shared} {h₀ : Heap} {L t : Addr} {news : List (Addr × Obj)} {vs : List Value} {ns : List Int} {Q : Value → Shared → Prop} (N : News h₀ L s.heap news) (hm : (t, tupO vs) ∈ news) (hi : IntsAre vs ns) (hl : ns.length ≤ 60)
    (h : ∀ tk, Q (.int ns.length tk) { s with toks := s.toks + 1 + 1 }) : wpAny (model prog w) A (call (.builtin "len") [.ref t]) Q E s :=
  len_tuple (items := vs.toArray) ⟨_, N.get hm, rfl, _, rfl⟩ (by have := hi.length; simp; lia) (by
    have e : vs.toArray.size = ns.length := by simp [hi.length]
    rw [e]; exact h _)
theorem t_item {prog : Program} {w : World} {A : Around} {E : Value → Shared → Prop} {s : Shared} {h₀ : Heap} {L t : Addr} {news : List (Addr × Obj)} {vs : List Value} {ns : List Int} {value slice : PySem.Expr} {k : Int} {u : Tok} {Q : Value → Shared → Prop} (N : News h₀ L s.heap news) (hm : (t, tupO vs) ∈ news) (hi : IntsAre vs ns) (h0 : 0 ≤ k) (h1 : k < ns.length) (hl : ns.length ≤ 60)
    (h : ∀ tk, Q (.int (ns.getD k.toNat 0) tk) s)
    (hs : subscripted slice false (.ref t) (.int k u) = operate [.ref t, .int k u] (getItem (.ref t) (.int k u)) := by with_unfolding_all rfl) : wpAny (model prog w) A (subscriptTail value slice (.ref t) (.int k u)) Q E s := by
  have hx : ∃ tk, vs[k.toNat]? = some (.int (ns.getD k.toNat 0) tk) := by
    obtain ⟨tk, e⟩ := hi.get k.toNat (ns[k.toNat]'(by lia)) (by rw [List.getElem?_eq_getElem])
    exact ⟨tk, by rw [e, List.getD_eq_getElem?_getD, List.getElem?_eq_getElem (by lia)]; rfl⟩
  obtain ⟨tk, e⟩ := hx
  have hvl := hi.length
  exact item_tupleT (l := vs) (j := k.toNat) ⟨_, N.get hm, rfl, _, rfl⟩ (by lia) (by lia) (by
    unfold seqIndex?
    dsimp only
    rw [if_neg (show ¬ k < 0 by lia), if_pos (by simp only [Bool.and_eq_true, decide_eq_true_eq]; lia)]) e (h tk) hs
theorem call_ind (w : World) (mean : ExcName → Option Value) (mg mb : Str → Option Value) (dp un : Nat) (gd : Option (List Code)) (outer : List Env) (g : Heap) (L : Addr) (m : Str → Option Value) (news : List (Addr × Obj)) (s : Shared) (Q E : Value → Shared → Prop)
    (x dx T1 T2 : Addr) (xt : Str) (t1 : Tok) (n nt b : Nat) (vs : List Value) (ns : List Int) (u1 u2 u3 k1 k2 k3 k4 k5 : Tok) (bb : Bool) (size : Int) (tz : Tok) (hsz : 2 ≤ size ∧ size ≤ 7) (hi : IntsAre vs ns) (hlen : ns.length ≤ 60) (hnt : nt ≤ 60) (hb : b ≤ 60)
    (F : Fr g L s.heap m) (N : News g L s.heap news) (hm : ∀ p ∈ margL w.params x dx T1 T2 xt t1 n nt b vs u1 u2 u3 k1 k2 k3 k4 k5 bb, p ∈ news) (X : (KF w.params).In g) (T : TopM mean mg mb g) (hdp : dp + 10 < recursionLimit) (hun : un + 60 < cLine)
    (hret : ∀ t h' tk', Fr g L h' m → News g L h' news → Q (.int (indF size ns nt b) t) { s with heap := h', toks := tk' }) :
    wpAny (model PW w) (arn dp un gd outer) (call (.ref 52) [.ref x, .int size tz]) Q E s := by
  have hfill : PySem.Challenge.rw_rl0135_01 = PySem.Challenge.rw_rl0135_01 ∧ KF = KF := by k_fill; exact ⟨rfl, rfl⟩
  clear hfill
  w_on
  k_with_none
  k_with "pyIter ref" => k_state (fun pre il => IndP size ns pre il) "il"
  k_with "state" => first | exact IndP.start | exact IndP.step (by assumption)
  refine wpAny_call ?_
  have hH : ∀ p ∈ margL w.params x dx T1 T2 xt t1 n nt b vs u1 u2 u3 k1 k2 k3 k4 k5 bb, s.heap.get? p.1 = some p.2 := fun p hp => (N p (hm p hp)).1
  have hH0 : ∀ p ∈ margL w.params x dx T1 T2 xt t1 n nt b vs u1 u2 u3 k1 k2 k3 k4 k5 bb, g.get? p.1 = none := fun p hp => (N p (hm p hp)).2.2
  k_dflt (refine' enterG (h₀ := g) (hid := margL w.params x dx T1 T2 xt t1 n nt b vs u1 u2 u3 k1 k2 k3 k4 k5 bb) ?k3 ?kK ?k5 ?kH ?k6 ?k7 ?k8 ?k9 ?kB ?_ ?c5 ?c2 ?c3 ?c4; (case k3 => exact X); (case kK => exact F.keep); (case k5 => exact T.nolimit); (case kH => exact hH); (case k6 => k_is); (case k7 => k_is); (case k8 => (show dp < _; lia)); (case k9 => exact BindsTo.of_eq rfl); (case kB => exact locs rfl); (case c5 => decide); (case c2 => exact rfl); (case c3 => exact rfl); (case c4 => exact rfl))
  intro L' h₁ F' N' hlt hfr
  obtain ⟨g2, hg⟩ : ∃ g2, hideAll s.heap ((margL w.params x dx T1 T2 xt t1 n nt b vs u1 u2 u3 k1 k2 k3 k4 k5 bb).map (·.1)) = g2 := ⟨_, rfl⟩
  have KG : Keeps g g2 := hg ▸ ground_hid F.keep hH0
  have hgn : ∀ a o, a ∉ (margL w.params x dx T1 T2 xt t1 n nt b vs u1 u2 u3 k1 k2 k3 k4 k5 bb).map (·.1) → s.heap.get? a = some o → g2.get? a = some o := fun a o hb e => hg ▸ hideAll_get _ e hb
  rw [hg] at F' N'
  have X' := X.keeps KG
  have T' := T.keeps KG
  have hvl := IntsAre.length hi
  clear X T hg
  (try dsimp only)
  (try k_fold)
  repeat' (first | ((with_reducible show wpAny _ _ (binaryOp Operator.Mult (Value.int _ _) (Value.int _ _)) _ _ _); refine mul_int ?_ (by first | exact IntMulOk.of_left (PySem.intBits_le_64 (fdiv_bnd (by lia) (by lia) (by lia)).1 (fdiv_bnd (by lia) (by lia) (by lia)).2) | exact IntMulOk.of_left (PySem.intBits_le_64 (by lia) (by lia)))) | ((with_reducible show wpAny _ _ (inplaceOp Operator.Mult (Value.int _ _) (Value.int _ _)) _ _ _); refine imul_int ?_ (by first | exact IntMulOk.of_left (PySem.intBits_le_64 (fdiv_bnd (by lia) (by lia) (by lia)).1 (fdiv_bnd (by lia) (by lia) (by lia)).2) | exact IntMulOk.of_left (PySem.intBits_le_64 (by lia) (by lia)))) | ((with_reducible show wpAny _ _ (subscriptTail _ _ (Value.ref _) (Value.int _ _)) _ _ _); (rename News _ _ _ _ => nE9); (refine t_item nE9 (by k_mem) ‹_› (by lia) (by lia) ‹_› ?_ (by with_unfolding_all rfl)); intro _) | ((with_reducible show wpAny _ _ (call (Value.builtin "len") [Value.ref _]) _ _ _); (rename News _ _ _ _ => nE9); (refine t_len nE9 (by k_mem) ‹_› ‹_› ?_); intro _) | (k_unfold; (try dsimp only)) | (k_end; kc_close) | (walk1; (try dsimp only)) | (dsimp only; walk1; (try dsimp only)) | (leave1; (try dsimp only)) | fail "no step")
  (rename Fr _ _ _ _ => fE); (rename News _ _ _ _ => nE)
  rename IndP _ _ _ _ => hP
  have hk := keeps_all fE nE hH hgn
  have hr2 : ∀ il t h' tk', il = ((rangeKs size ((ns.length : Int) - size).toNat).map (wTerm size ns)).sum → Keeps s.heap h' → Q (.int ((b : Int) + size * (il + (nt : Int))) t) { s with heap := h', toks := tk' } := fun il t h' tk' e hk => by
    subst e
    exact hret t h' tk' (fr_keeps F hk) (news_keeps N hk)
  exact hr2 _ _ _ _ hP.e hk
end Mine
end
section
open PySem PySem.W PyProof.Rows
namespace Mine
structure BookP (P : Int) (pre : List Int) (l : List Int) : Prop where
  len : pre.length ≤ 69
  eq : l = bookL P (pre.length + 2)
theorem U_bits {P : Int} {b : Nat} (h : Builtin.Int.intBits P ≤ b) : ∀ n, Builtin.Int.intBits (U P n) ≤ n * (b + 2) ∧ Builtin.Int.intBits (U P (n + 1)) ≤ (n + 1) * (b + 2)
  | 0 => ⟨by show Builtin.Int.intBits 0 ≤ _; exact Nat.zero_le _, by
      show Builtin.Int.intBits 1 ≤ _
      have : Builtin.Int.intBits 1 = 1 := by decide
      rw [this]; lia⟩
  | n + 1 => by
    obtain ⟨h1, h2⟩ := U_bits h n
    refine ⟨h2, ?_⟩
    have e : U P (n + 1 + 1) = P * U P (n + 1) + U P n := rfl
    rw [e]
    refine Nat.le_trans (intBits_add_le (intBits_mul_le h h2) h1) ?_
    have : (n + 1 + 1) * (b + 2) = (n + 1) * (b + 2) + (b + 2) := Nat.succ_mul _ _
    have : (n + 1) * (b + 2) = n * (b + 2) + (b + 2) := Nat.succ_mul _ _
    lia
theorem BookP.bits {P : Int} {pre l : List Int} (h : BookP P pre l) (hb : Builtin.Int.intBits P ≤ 1200) (i : Nat) : Builtin.Int.intBits (l.getD i 0) ≤ 90000 := by
  obtain ⟨h1, rfl⟩ := h
  by_cases hi : i < pre.length + 2
  · rw [bookL_getD _ _ _ hi]
    have := (U_bits hb i).1
    have : i * (1200 + 2) ≤ 71 * 1202 := Nat.mul_le_mul (by lia) (by lia)
    lia
  · rw [List.getD_eq_getElem?_getD, List.getElem?_eq_none (by rw [bookL_length]; lia)]
    show Builtin.Int.intBits 0 ≤ _
    exact Nat.zero_le _
theorem BookP.mul {P : Int} {pre l : List Int} (h : BookP P pre l) (hb : Builtin.Int.intBits P ≤ 1200) (i : Nat) : IntMulOk P (l.getD i 0) :=
  IntMulOk.of_le hb (h.bits hb i) (by lia)
theorem bookL_two (P : Int) : bookL P 2 = [0, 1] := by simp [bookL, U, List.range_succ]
theorem bookL_succ (P : Int) (n : Nat) : bookL P (n + 1) = bookL P n ++ [U P n] := by simp [bookL, List.range_succ]
theorem BookP.start (P : Int) : BookP P [] [0, 1] := ⟨by simp, (bookL_two P).symm⟩
theorem BookP.step {P two k : Int} {pre l : List Int} (h : BookP P pre l) (h2 : two = 1) (hk : pre.length < 69) (hl : l.length = pre.length + 2) :
    BookP P (pre ++ [k]) (l ++ [P * l.getD (-1 + (l.length : Int)).toNat 0 + two * l.getD (-2 + (l.length : Int)).toNat 0]) := by
  obtain ⟨h1, e⟩ := h
  refine ⟨by simp; lia, ?_⟩
  have a1 : (-1 + (l.length : Int)).toNat = pre.length + 1 := by lia
  have a2 : (-2 + (l.length : Int)).toNat = pre.length := by lia
  rw [a1, a2, e, h2, Int.one_mul, bookL_getD _ _ _ (by lia), bookL_getD _ _ _ (by lia), List.length_append]
  show _ = bookL P (pre.length + 1 + 2)
  rw [bookL_succ P (pre.length + 2)]
  rfl
local macro_rules | `(tactic| kst_facts) => `(tactic| first | exact .cons _ _ (.cons _ _ .nil) | exact IntsAre.append ‹_› (.cons _ _ .nil))
theorem C_books (w : World) (mean : ExcName → Option Value) (mg mb : Str → Option Value) (dp un : Nat) (gd : Option (List Code)) (outer : List Env) (s : Shared) (Q E : Value → Shared → Prop)
    (one : Int) (t1 : Tok) (two : Int) (t2 : Tok) (htwo : two = 1) (hone : Builtin.Int.intBits one ≤ 1200)
    (X : (KF w.params).In s.heap) (T : TopM mean mg mb s.heap) (hdp : dp < recursionLimit) (hun : un + 8 < cLine)
    (hret : ∀ (a : Addr) (h' : Heap) (tk' n : Nat) (vs : List Value) (ns : List Int), Keeps s.heap h' → s.heap.get? a = none → h'.get? a = some (W.listOf vs.toArray n) → IntsAre vs ns → ns = bookL one 71 → Q (.ref a) { s with heap := h', toks := tk' }) :
    wpAny (model PW w) (arn dp un gd outer) (call (.ref 207) [.int one t1, .int two t2]) Q E s := by
  have hfill : PySem.Challenge.rw_rl0135_01 = PySem.Challenge.rw_rl0135_01 ∧ KF = KF := by k_fill; exact ⟨rfl, rfl⟩
  clear hfill
  w_on
  k_with_none
  k_with "pyIter ref" => k_state (fun pre books => pre.length ≤ 69 ∧ books.length = pre.length + 2 ∧ BookP one pre books) "books"
  k_with "state" => first | exact ⟨by simp, by simp, BookP.start _⟩ | exact ⟨by simp; lia, by simp; lia, BookP.step (by assumption) (by assumption) (by lia) (by assumption)⟩
  refine wpAny_call ?_
  k_dflt (refine' enterP ?k3 ?k5 ?k6 ?k7 ?k8 ?k9 ?kB ?_ ?c5 ?c2 ?c3 ?c4; (case k3 => k_asm); (case k5 => exact T.nolimit); (case k6 => k_is); (case k7 => k_is); (case k8 => exact hdp); (case k9 => exact BindsTo.of_eq rfl); (case kB => exact locs rfl); (case c5 => decide); (case c2 => exact rfl); (case c3 => exact rfl); (case c4 => exact rfl))
  intro L' h' F' N'
  (try dsimp only)
  (try k_fold)
  repeat' (first | ((with_reducible show wpAny _ _ (binaryOp Operator.Mult (Value.int _ _) (Value.int _ _)) _ _ _); refine mul_int ?_ (by first | exact BookP.mul ‹_› ‹_› _ | exact IntMulOk.of_left (PySem.intBits_le_64 (by lia) (by lia)))) | ((with_reducible show wpAny _ _ (inplaceOp Operator.Mult (Value.int _ _) (Value.int _ _)) _ _ _); refine imul_int ?_ (by first | exact BookP.mul ‹_› ‹_› _ | exact IntMulOk.of_left (PySem.intBits_le_64 (by lia) (by lia)))) | (k_unfold; (try dsimp only)) | (k_end; kc_close) | (walk1; (try dsimp only)) | (dsimp only; walk1; (try dsimp only)) | (leave1; (try dsimp only)) | fail "no step")
  rename BookP _ _ _ => hP
  exact hret _ _ _ _ _ _ (Fr.keep kFr) (kNews.fresh (List.mem_cons_self ..)) (kNews.get (List.mem_cons_self ..)) kFacts (by rw [hP.eq, rangeKs_length]; rfl)
end Mine
end
section
open PySem PySem.W PyProof.Rows PySem.Calls
namespace Mine
theorem cnt_K {x : Int} {W n : Nat} (h0 : (2 ^ W) ^ n ≤ x) (h1 : x < (2 ^ W) ^ (n + 1)) (hW : 0 < W) : (((Builtin.Int.intBits x : Int) + (W : Int) - 1).fdiv W).toNat = n + 1 := by
  have hx : 0 ≤ x := Int.le_trans (Int.le_of_lt (Int.pow_pos (Int.pow_pos (by decide)))) h0
  obtain ⟨m, rfl⟩ : ∃ m : Nat, x = m := ⟨x.toNat, by lia⟩
  have e0 : (((2 ^ (W * n) : Nat)) : Int) = ((2 : Int) ^ W) ^ n := by rw [← Int.pow_mul]; simp
  have e1 : (((2 ^ (W * (n + 1)) : Nat)) : Int) = ((2 : Int) ^ W) ^ (n + 1) := by rw [← Int.pow_mul]; simp
  have a1 : Builtin.Int.intBits (m : Int) ≤ W * (n + 1) := intBits_le_iff.mpr (by rw [Int.natAbs_natCast]; lia)
  have a0 : ¬ Builtin.Int.intBits (m : Int) ≤ W * n := fun h => by
    have := intBits_le_iff.mp h
    rw [Int.natAbs_natCast] at this
    lia
  rw [Int.fdiv_eq_ediv_of_nonneg _ (by lia)]
  rw [Nat.mul_add] at a1
  generalize Builtin.Int.intBits (m : Int) = z at a0 a1
  have e2 : ((z : Int) + (W : Int) - 1) = ((z - W * n - 1 : Nat) : Int) + (W : Int) * ((n : Int) + 1) := by
    rw [Int.mul_add]
    have : ((W * n : Nat) : Int) = (W : Int) * (n : Int) := by simp
    lia
  rw [e2, Int.add_mul_ediv_left _ _ (by lia), Int.ediv_eq_zero_of_lt (by lia) (by lia)]
  lia
theorem dig_all {W : Nat} {l : List Int} {e x : Int} (hW : 64 ≤ W) (hl : ∀ d ∈ l, 0 ≤ d ∧ d < 2 ^ 64) (he : 1 ≤ e ∧ e < 2 ^ 64) (hx : x = undig (2 ^ W) (l ++ [e])) :
    digs (2 ^ W) (((Builtin.Int.intBits x : Int) + (W : Int) - 1).fdiv W).toNat x = l ++ [e] := by
  have hB : (0 : Int) < 2 ^ W := Int.pow_pos (by decide)
  have h64 : (2 : Int) ^ 64 ≤ 2 ^ W := by
    have := Nat.pow_le_pow_right (show 0 < 2 by decide) hW
    have e1 : ((2 ^ 64 : Nat) : Int) = (2 : Int) ^ 64 := by simp
    have e2 : ((2 ^ W : Nat) : Int) = (2 : Int) ^ W := by simp
    lia
  have hd : ∀ d ∈ l ++ [e], 0 ≤ d ∧ d < 2 ^ W := by
    intro d h
    rcases List.mem_append.mp h with h | h
    · have := hl d h; lia
    · rw [List.mem_singleton.mp h]; lia
  have hlen : (l ++ [e]).length = l.length + 1 := by simp
  have k := cnt_K (x := x) (W := W) (n := l.length) (by rw [hx]; exact undig_ge _ hB l e (fun d h => (hl d h).1) he.1) (by
    have := (undig_lt _ hB _ hd).2
    rw [hlen] at this
    rw [hx]; exact this) (by lia)
  rw [k, ← hlen]
  rw [hx]
  exact digs_undig _ hB _ hd
theorem pw_bnd {k : Int} (hk : 1 ≤ k ∧ k ≤ 11) : (1 ≤ k ^ 0 ∧ k ^ 0 ≤ 1) ∧ (1 ≤ k ^ 1 ∧ k ^ 1 ≤ 11) ∧ (1 ≤ k ^ 2 ∧ k ^ 2 ≤ 121) ∧ (1 ≤ k ^ 3 ∧ k ^ 3 ≤ 1331) ∧ (1 ≤ k ^ 4 ∧ k ^ 4 ≤ 14641) ∧ (1 ≤ k ^ 5 ∧ k ^ 5 ≤ 161051) := by
  have key : ∀ i : Fin 11, (1 ≤ ((i.val : Int) + 1) ^ 0 ∧ ((i.val : Int) + 1) ^ 0 ≤ 1) ∧ (1 ≤ ((i.val : Int) + 1) ^ 1 ∧ ((i.val : Int) + 1) ^ 1 ≤ 11) ∧ (1 ≤ ((i.val : Int) + 1) ^ 2 ∧ ((i.val : Int) + 1) ^ 2 ≤ 121) ∧ (1 ≤ ((i.val : Int) + 1) ^ 3 ∧ ((i.val : Int) + 1) ^ 3 ≤ 1331) ∧ (1 ≤ ((i.val : Int) + 1) ^ 4 ∧ ((i.val : Int) + 1) ^ 4 ≤ 14641) ∧ (1 ≤ ((i.val : Int) + 1) ^ 5 ∧ ((i.val : Int) + 1) ^ 5 ≤ 161051) := by decide
  have h9 := key ⟨(k - 1).toNat, by lia⟩
  dsimp only at h9
  rw [show (((k - 1).toNat : Nat) : Int) + 1 = k by lia] at h9
  exact h9
theorem cnt_digits {k : Int} (hk : 1 ≤ k ∧ k ≤ 11) {W : Nat} (hW : 64 ≤ W) (j : Nat) (hj : j ≤ 6) :
    digs (2 ^ W) (((Builtin.Int.intBits (U (k * 2 ^ W) j) : Int) + (W : Int) - 1).fdiv W).toNat (U (k * 2 ^ W) j) = cntL ((j : Int) - 1) k := by
  obtain ⟨p0, p1, p2, p3, p4, p5⟩ := pw_bnd hk
  have h : j = 0 ∨ j = 1 ∨ j = 2 ∨ j = 3 ∨ j = 4 ∨ j = 5 ∨ j = 6 := by lia
  rcases h with rfl | rfl | rfl | rfl | rfl | rfl | rfl
  · have e : Builtin.Int.intBits (U (k * 2 ^ W) 0) = 0 := by show Builtin.Int.intBits 0 = 0; decide
    rw [e, Int.fdiv_eq_ediv_of_nonneg _ (by lia), Int.ediv_eq_zero_of_lt (by lia) (by lia)]
    rfl
  · refine dig_all (l := []) (e := 1 * k ^ 0) hW ?_ (by lia) ?_
    · intro d hd; cases hd
    · simp [undig, U]
  · refine dig_all (l := [0]) (e := 1 * k ^ 1) hW ?_ (by lia) ?_
    · intro d hd; simp at hd; lia
    · simp only [undig, U, List.cons_append, List.nil_append]; grind
  · refine dig_all (l := [1 * k ^ 0, 0]) (e := 1 * k ^ 2) hW ?_ (by lia) ?_
    · intro d hd; simp only [List.mem_cons, List.not_mem_nil, or_false] at hd; lia
    · simp only [undig, U, List.cons_append, List.nil_append]; grind
  · refine dig_all (l := [0, 2 * k ^ 1, 0]) (e := 1 * k ^ 3) hW ?_ (by lia) ?_
    · intro d hd; simp only [List.mem_cons, List.not_mem_nil, or_false] at hd; lia
    · simp only [undig, U, List.cons_append, List.nil_append]; grind
  · refine dig_all (l := [1 * k ^ 0, 0, 3 * k ^ 2, 0]) (e := 1 * k ^ 4) hW ?_ (by lia) ?_
    · intro d hd; simp only [List.mem_cons, List.not_mem_nil, or_false] at hd; lia
    · simp only [undig, U, List.cons_append, List.nil_append]; grind
  · refine dig_all (l := [0, 3 * k ^ 1, 0, 4 * k ^ 3, 0]) (e := 1 * k ^ 5) hW ?_ (by lia) ?_
    · intro d hd; simp only [List.mem_cons, List.not_mem_nil, or_false] at hd; lia
    · simp only [undig, U, List.cons_append, List.nil_append]; grind
/-! sizes -/
theorem P_bits {k : Int} (hk : 1 ≤ k ∧ k ≤ 11) {W : Nat} (hW : 64 ≤ W ∧ W ≤ 1088) : 65 ≤ Builtin.Int.intBits (k * 2 ^ W) ∧ Builtin.Int.intBits (k * 2 ^ W) ≤ 1092 ∧ 2 ≤ k * 2 ^ W := by
  have e2 : ((2 ^ W : Nat) : Int) = (2 : Int) ^ W := by simp
  have n64 := Nat.pow_le_pow_right (show 0 < 2 by decide) hW.1
  have h1 : 1 * (2 : Int) ^ W ≤ k * 2 ^ W := Int.mul_le_mul_of_nonneg_right hk.1 (Int.le_of_lt (Int.pow_pos (by decide)))
  have h2 : k * (2 : Int) ^ W ≤ 11 * 2 ^ W := Int.mul_le_mul_of_nonneg_right hk.2 (Int.le_of_lt (Int.pow_pos (by decide)))
  refine ⟨?_, ?_, ?_⟩
  · refine Nat.lt_of_not_le fun h => ?_
    have := intBits_le_iff.mp h
    have c : (2 : Nat) ^ 64 = 18446744073709551616 := by decide
    lia
  · refine Nat.le_trans (show _ ≤ W + 4 from intBits_le_iff.mpr ?_) (by lia)
    rw [Nat.pow_add]
    have c : (2 : Nat) ^ 4 = 16 := by decide
    have n0 : 0 < 2 ^ W := Nat.pow_pos (by decide)
    lia
  · have c : (2 : Nat) ^ 64 = 18446744073709551616 := by decide
    lia
theorem pm_bits {s x : Int} (hs : s = 1 ∨ s = -1) : Builtin.Int.intBits (s * x) = Builtin.Int.intBits x := by
  rcases hs with rfl | rfl
  · rw [Int.one_mul]
  · rw [show (-1 : Int) * x = -x by lia, bits_neg]
theorem dm_size {k : Int} (hk : 1 ≤ k ∧ k ≤ 11) {W : Nat} (hW : 64 ≤ W ∧ W ≤ 1088) {c size : Nat} (hc : c ≤ 63) (hs : 2 ≤ size ∧ size ≤ 7) {s1 s2 : Int} (h1 : s1 = 1 ∨ s1 = -1) (h2 : s2 = 1 ∨ s2 = -1) :
    DmSz (s1 * U (k * 2 ^ W) c) (s2 * U (k * 2 ^ W) size) := by
  obtain ⟨p1, p2, p3⟩ := P_bits hk hW
  have hb : Builtin.Int.intBits (k * 2 ^ W) ≤ Builtin.Int.intBits (U (k * 2 ^ W) size) := by
    have hu2 : U (k * 2 ^ W) 2 = k * 2 ^ W := by simp [U]
    have hle : U (k * 2 ^ W) 2 ≤ U (k * 2 ^ W) size := by
      rcases Nat.lt_or_ge 2 size with h | h
      · exact Int.le_of_lt (U_mono _ p3 h)
      · rw [show size = 2 by lia]; exact Int.le_refl _
    exact intBits_le_of_natAbs (by lia) (Nat.le_refl _)
  have u1 := (U_bits (P := k * 2 ^ W) (Nat.le_refl _) size).1
  have u2 := (U_bits (P := k * 2 ^ W) (Nat.le_refl _) c).1
  have m1 : size * (Builtin.Int.intBits (k * 2 ^ W) + 2) ≤ 7 * (Builtin.Int.intBits (k * 2 ^ W) + 2) := Nat.mul_le_mul_right _ hs.2
  have m2 : c * (Builtin.Int.intBits (k * 2 ^ W) + 2) ≤ 63 * (Builtin.Int.intBits (k * 2 ^ W) + 2) := Nat.mul_le_mul_right _ hc
  refine ⟨?_, ?_, ?_, ?_⟩ <;> rw [pm_bits (by assumption)] <;> (try rw [pm_bits h2]) <;> lia
/-! the columns of the two -/
theorem walk_ind {lead : Str} {n nt b : Nat} {ns : List Int} (h : WsR (codesI lead) n nt b ns) {size : Int} (hs : 2 ≤ size ∧ size ≤ 7) : walkF lead size = indF size ns nt b := by
  obtain ⟨z, rfl⟩ : ∃ z : Nat, size = z := ⟨size.toNat, by lia⟩
  unfold walkF indF
  have e := ws_fold z (by lia) h
  have e0 : walkStep (z : Int) = wStep z := rfl
  rw [e0, e]
  dsimp only
  have hm := Nat.div_add_mod b z
  have hsum : ((rangeKs (z : Int) ((ns.length : Int) - z).toNat).map (wTerm z ns)).sum = wsum z 0 ns := by
    rw [wsum_tail z (by lia), rangeKs, List.map_map]
    congr 1
    refine List.map_congr_left fun i _ => ?_
    simp only [Function.comp, wTerm]
    rw [Int.fdiv_eq_ediv_of_nonneg _ (by lia), show ((z : Int) + (i : Int)).toNat = z + i by lia]
    congr 1
  rw [hsum, Int.add_mul, Int.add_mul]
  have : ((b / z : Nat) : Int) * (z : Int) + ((b % z : Nat) : Int) = (b : Int) := by
    have := congrArg (fun (x : Nat) => (x : Int)) hm
    simp only [Int.natCast_add, Int.natCast_mul] at this
    rw [Int.mul_comm]; exact this
  have e3 : (z : Int) * (wsum z 0 ns + (nt : Int)) = wsum z 0 ns * z + (nt : Int) * z := by rw [Int.mul_add, Int.mul_comm, Int.mul_comm (z : Int)]
  rw [e3]
  lia
theorem walk_bnd {lead : Str} {xs : List (List Int)} (hx : codesI lead = xs.flatten) (hp : ∀ x ∈ xs, Piece x) (hl : xs.length ≤ 9) {size : Int} (hs : 2 ≤ size ∧ size ≤ 7) : 0 ≤ walkF lead size ∧ walkF lead size ≤ 63 := by
  have e0 : walkStep (size : Int) = wStep size := rfl
  unfold walkF
  rw [hx, e0]
  obtain ⟨q1, q2, q3, q4⟩ := w_pieces hs.1 xs hp (0, 0) (by simp) (show (0 : Int) < size by lia)
  unfold col at q3 q4
  dsimp only at q3 q4
  have : (xs.length : Int) * size ≤ 9 * 7 := by
    have h1 : (xs.length : Int) * size ≤ (xs.length : Int) * 7 := Int.mul_le_mul_of_nonneg_left hs.2 (by lia)
    lia
  dsimp only
  lia
/-- what the law asks of a size -/
theorem size_ok {P c size sign q back turn q' r' : Int} (hP : 2 ≤ P) (h : ToldE P c size sign q back) (hs : 2 ≤ size) (ht : turn = 1 ∨ turn = -1) (hdm : IsDM (turn * sign * U P c.toNat) (turn * U P size.toNat) q' r') :
    q' = q ∧ r' = turn * U P back.toNat ∧ turn * r' = U P back.toNat := by
  obtain ⟨h1, h2, h3, h4⟩ := h
  have hb := U_mono P hP (show back.toNat < size.toNat by lia)
  have hb0 := (U_pos P hP back.toNat).1
  have e : turn * sign * U P c.toNat = q * (turn * U P size.toNat) + turn * U P back.toNat := by
    rw [Int.mul_assoc, h4]
    grind
  have key : q' = q ∧ r' = turn * U P back.toNat := by
    refine dm_one hdm.e e (fun hp => ⟨hdm.p hp, ?_⟩) (fun hn => ⟨hdm.n hn, ?_⟩) ?_
    · rcases ht with rfl | rfl <;> lia
    · rcases ht with rfl | rfl <;> lia
    · rcases ht with rfl | rfl <;> lia
  refine ⟨key.1, key.2, ?_⟩
  rw [key.2]
  rcases ht with rfl | rfl <;> lia
end Mine
end
section
open PySem PySem.W PyProof.Rows PySem.Calls PySem.Spec
open PyProof.Rows.LCg (NsObj ns_obj Off3 Off1 SrcAt lst lst_snoc)
namespace Mine
theorem eSp : Str.ofString " " = { cps := #[32] } := by decide +kernel
theorem eTab : Str.ofString "\t" = { cps := #[9] } := by decide +kernel
theorem piece_codes {x : Str} (h : pieceB x = true) : Piece (codesI x) := by
  unfold pieceB at h
  simp only [Bool.or_eq_true, beq_iff_eq] at h
  unfold codesI Piece
  rcases h with (h | h) | h <;> rw [h] <;> simp
theorem piece_len {x : Str} (h : pieceB x = true) : x.length ≤ 2 := by
  unfold pieceB at h
  simp only [Bool.or_eq_true, beq_iff_eq] at h
  have e : x.length = x.cps.toList.length := by simp [Str.length]
  rw [e]
  rcases h with (h | h) | h <;> rw [h] <;> simp
theorem law_6 (w : World) (mean : ExcName → Option Value) (mg mb : Str → Option Value) (dp un : Nat) (gd : Option (List Code)) (outer : List Env) (g : Heap) (L a : Addr) (cd : Value) (m : Str → Option Value) (nw0 : List (Addr × Obj)) (s : Shared) (Q : Flow → Shared → Prop) (E : Value → Shared → Prop)
    (oA : Obj) (f : Nat) (tA : Tok) (hf : f = 0 ∨ f = 1 ∨ f = 2) (d1 : oA.data = .cell (some (.str ({ cps := #[smallC f] } : Str) tA))) (D2 : Addr) (c2 : Nat) (zs : List Value) (es : List Trip) (hT2 : Trips nw0 zs es) (hlen : es.length = 11) (hem : ∀ e ∈ es, e ∈ menuL f)
    (F : Fr g L s.heap (fun z => if z = Str.ofString "told" then some (.ref D2) else m z)) (N : News g L s.heap ((L + 1 + 1, oA) :: (D2, W.listOf zs.toArray c2) :: nw0)) (X : (KF w.params).In g) (T : TopM mean mg mb g) (hdp : dp + 10 < recursionLimit) (hun : un + 100 < cLine)
    (hret : ∀ lead t h' tk' (ps : List Str), lead = Txt.join (Str.ofString "") ps → (∀ x ∈ ps, pieceB x = true) → ps.length ≤ 9 → Fr g L h' (fun z => if z = Str.ofString "lead" then some (.str lead t) else if z = Str.ofString "told" then some (.ref D2) else m z) → News g L h' ((L + 1 + 1, oA) :: (D2, W.listOf zs.toArray c2) :: nw0) → Q .next { s with heap := h', toks := tk' }) :
    wpAny (model PW w) (arn dp un gd outer) (exec lS6 (lawE L a cd)) Q E s := by
  have hfill : PySem.Challenge.rw_rl0135_01 = PySem.Challenge.rw_rl0135_01 ∧ KF = KF := by k_fill; exact ⟨rfl, rfl⟩
  clear hfill
  w_on
  k_with_none
  have hzl := hT2.length
  iterate 6 (first | ((with_reducible show wpAny _ _ (binaryOp Operator.Mult (Value.str _ _) (Value.int _ _)) _ _ _); refine SB.mul (mulOk_of 1 2 (by first | exact len_one _ | decide +kernel) (by lia) (by lia) (by decide) (by decide)) ?_; intro _ _) | walk1 | (dsimp only; walk1))
  have hz : zs.toArray.size = 11 := by rw [List.size_toArray, hzl, hlen]
  refine ListComp_3 (L := L) (h₀ := g) (m := fun z => if z = Str.ofString "told" then some (.ref D2) else m z) (by with_unfolding_all rfl) (by decide) (by rfl) (by rfl) (by decide) (by rfl) (by rfl) (by rfl) (by decide) (by decide) (by decide) ?_
  iterate 7 (first | ((with_reducible show wpAny _ _ (binaryOp Operator.Mult (Value.str _ _) (Value.int _ _)) _ _ _); refine SB.mul (mulOk_of 1 2 (by first | exact len_one _ | decide +kernel) (by lia) (by lia) (by decide) (by decide)) ?_; intro _ _) | walk1 | (dsimp only; walk1))
  k_dflt (refine' kmk_slice_lit (zs := zs.take 9) ?yF ?yN ?yl ?yp ?yq ?ye ?_ ?ys ?yt ?yz; (case yF => exact F); (case yN => exact N); (case yl => exact N.isList (.tail _ (.head _))); (case yp => kmk_part); (case yq => kmk_part); (case ye => (rw [kms_pick_eq]; unfold kms_pick kms_lo kms_hi; (show List.take (min 9 zs.length - 0) (List.drop 0 zs) = _); rw [hzl, hlen]; rfl)); (case ys => with_unfolding_all rfl); (case yt => kmk_pure); (case yz => (rw [hz, sizeLine_eq]; decide)))
  intro D9 h9 F9 N9 l9
  clear F N
  refine ⟨D9, (zs.take 9).toArray, (D9, W.listOf (zs.take 9).toArray 0) :: (L + 1 + 1, oA) :: (D2, W.listOf zs.toArray c2) :: nw0, _, _, fun i st nw => nw = (D9, W.listOf (zs.take 9).toArray 0) :: (L + 1 + 1, oA) :: (D2, W.listOf zs.toArray c2) :: nw0 ∧ i ≤ 9 ∧ ∃ ps, StrsAre st ps ∧ ps.length ≤ i ∧ ∀ p ∈ ps, pieceB p = true, rfl, rfl, F9, N9, ⟨rfl, Nat.zero_le _, [], .nil, Nat.zero_le _, fun p hp => nomatch hp⟩, ?src, ?len, ?turn, ?fin⟩
  case src => rintro i st nw ⟨rfl, _, _⟩; exact .inr ⟨_, .head _, rfl, _, rfl⟩
  case len => rintro i st nw ⟨_, h9, ps, hs, h, _⟩; rw [hs.length]; lia
  case turn =>
    intro h0 tk0
    rintro I C D3 i st nw v nI nC nD nCI nDI nDC ⟨rfl, hi9, ps, hps, hpl, hpp⟩ hv
    rw [List.getElem?_toArray] at hv
    obtain ⟨t, e, u1, u2, rfl, hei, hmt⟩ := (hT2.take 9).get hv
    have hi2 : i < 9 := by
      have := (List.getElem?_eq_some_iff.mp hei).1
      rw [List.length_take] at this; lia
    have he := hem e (List.mem_of_mem_take (List.mem_of_getElem? hei))
    obtain ⟨e1, e2, e3, e4, e5⟩ := menu_etc hf he
    refine ⟨t, _, _, _, 0, rfl, .tail _ (.tail _ (.tail _ hmt)), ?_⟩
    intro oI oC m₂ h tk E' hC hx1 hx2 hx3 F' N' off hcI
    clear F9 N9 hret
    obtain ⟨c, nb, x⟩ := e
    dsimp only at e4 e5 hx1 hx2 hx3
    cases nb with
    | true =>
      iterate 6 (first | ((with_reducible show wpAny _ _ (binaryOp Operator.Mult (Value.str _ _) (Value.int _ _)) _ _ _); refine SB.mul (mulOk_of 1 2 (by first | exact len_one _ | decide +kernel) (by lia) (by lia) (by decide) (by decide)) ?_; intro _ _) | walk1 | (dsimp only; walk1))
      (rename Fr _ _ _ _ => fE); (rename News _ _ _ _ => nE)
      exact left3_same fE nE off ⟨rfl, hi2, ps, hps, Nat.le_succ_of_le hpl, hpp⟩
    | false =>
      iterate 20 (first | ((with_reducible show wpAny _ _ (binaryOp Operator.Mult (Value.str _ _) (Value.int _ _)) _ _ _); refine SB.mul (mulOk_of 1 2 (by first | exact len_one _ | decide +kernel) (by lia) (by lia) (by decide) (by decide)) ?_; intro _ _) | walk1 | (dsimp only; walk1))
      have p0 := (e5 rfl).1
      unfold foldP at p0
      cases hq : (x == Txt.mul ({ cps := #[smallC f] } : Str) (x.length : Int)) with
      | true =>
        rw [hq, if_pos rfl, ← eSp] at p0
        iterate 12 (try first | ((with_reducible show wpAny _ _ (binaryOp Operator.Mult (Value.str _ _) (Value.int _ _)) _ _ _); refine SB.mul (mulOk_of 1 2 (by first | exact len_one _ | decide +kernel) (by lia) (by lia) (by decide) (by decide)) ?_; intro _ _) | walk1 | (dsimp only; walk1))
        (rename Fr _ _ _ _ => fE); (rename News _ _ _ _ => nE)
        refine left3_same fE nE off ⟨rfl, hi2, ps ++ [Txt.mul (Str.ofString " ") (x.length : Int)], hps.append' (.cons _ _ .nil), (by rw [List.length_append, List.length_singleton]; lia), fun p hp => ?_⟩
        rcases List.mem_append.mp hp with hp | hp
        · exact hpp p hp
        · rw [List.mem_singleton.mp hp]; exact p0
      | false =>
        rw [hq, if_neg (by decide), ← eTab] at p0
        iterate 10 (try first | ((with_reducible show wpAny _ _ (binaryOp Operator.Mult (Value.str _ _) (Value.int _ _)) _ _ _); refine SB.mul (mulOk_of 1 2 (by first | exact len_one _ | decide +kernel) (by lia) (by lia) (by decide) (by decide)) ?_; intro _ _) | walk1 | (dsimp only; walk1))
        (rename Fr _ _ _ _ => fE); (rename News _ _ _ _ => nE)
        refine left3_same fE nE off ⟨rfl, hi2, ps ++ [Str.ofString "\t"], hps.append' (.cons _ _ .nil), (by rw [List.length_append, List.length_singleton]; lia), fun p hp => ?_⟩
        rcases List.mem_append.mp hp with hp | hp
        · exact hpp p hp
        · rw [List.mem_singleton.mp hp]; exact p0
  case fin =>
    rintro D3 st nw h tk ⟨rfl, _, ps, hps, hpl, hpp⟩ hne F2 N2
    have hz9 : (zs.take 9).toArray.size = 9 := by rw [List.size_toArray, List.length_take, hzl, hlen]; rfl
    rw [hz9] at hpl
    clear F9 N9
    iterate 1 (first | ((with_reducible show wpAny _ _ (binaryOp Operator.Mult (Value.str _ _) (Value.int _ _)) _ _ _); refine SB.mul (mulOk_of 1 2 (by first | exact len_one _ | decide +kernel) (by lia) (by lia) (by decide) (by decide)) ?_; intro _ _) | walk1 | (dsimp only; walk1))
    refine join_listW (N2.isList (.head _)) hps (by decide +kernel) ?_ ?_
    · have : ∀ (l : List Str), (∀ p ∈ l, pieceB p = true) → (l.map (·.length)).sum ≤ 2 * l.length := by
        intro l hl
        induction l with
        | nil => exact Nat.le_refl _
        | cons p r ih =>
          have h1 := ih fun q hq => hl q (.tail _ hq)
          have h2 : p.length ≤ 2 := piece_len (hl p (.head _))
          simp only [List.map_cons, List.sum_cons, List.length_cons]
          lia
      have := this ps hpp
      lia
    intro t' k
    iterate 4 (try first | ((with_reducible show wpAny _ _ (binaryOp Operator.Mult (Value.str _ _) (Value.int _ _)) _ _ _); refine SB.mul (mulOk_of 1 2 (by first | exact len_one _ | decide +kernel) (by lia) (by lia) (by decide) (by decide)) ?_; intro _ _) | walk1 | (dsimp only; walk1))
    (rename Fr _ _ _ _ => fE); (rename News _ _ _ _ => nE)
    show Q Flow.next { s with heap := _, toks := _ }
    refine hret _ _ _ _ ps rfl hpp hpl fE fun p hp => nE p (.tail _ (.tail _ hp))
end Mine
end
section
open PySem PySem.W PyProof.Rows PySem.Calls PySem.Spec
open PyProof.Rows.LCg (NsObj ns_obj Off3 Off1 SrcAt lst lst_snoc)
namespace Mine
section
variable {K : Type} [DecidableEq K]
theorem mem_stored_new (kvs : List (K × Value)) (k : K) (v : Value) : (k, v) ∈ stored kvs k v := by
  unfold stored
  split
  · rename_i h
    obtain ⟨kv, hm, hk⟩ := List.any_eq_true.mp h
    have hk : kv.1 = k := by simpa using hk
    exact List.mem_map.mpr ⟨kv, hm, by rw [if_pos hk, hk]⟩
  · exact List.mem_append_right _ (List.mem_singleton.mpr rfl)
theorem mem_stored_old {kvs : List (K × Value)} {k : K} {v : Value} {kv : K × Value} (h : kv ∈ kvs) (hk : kv.1 ≠ k) : kv ∈ stored kvs k v := by
  unfold stored
  split
  · exact List.mem_map.mpr ⟨kv, h, by rw [if_neg hk]⟩
  · exact List.mem_append_left _ h
theorem of_mem_stored {kvs : List (K × Value)} {k : K} {v : Value} {kv : K × Value} (h : kv ∈ stored kvs k v) : kv = (k, v) ∨ kv ∈ kvs := by
  unfold stored at h
  split at h
  · obtain ⟨q, hm, e⟩ := List.mem_map.mp h
    split at e
    · rename_i hq; exact .inl (by rw [← e, hq])
    · exact .inr (e ▸ hm)
  · rcases List.mem_append.mp h with h | h
    · exact .inr h
    · exact .inl (List.mem_singleton.mp h)
theorem stored_nodup {kvs : List (K × Value)} {k : K} {v : Value} (h : (kvs.map (·.1)).Nodup) : ((stored kvs k v).map (·.1)).Nodup := by
  unfold stored
  split
  · have e : (kvs.map fun kv => if kv.1 = k then (kv.1, v) else kv).map (·.1) = kvs.map (·.1) := by
      rw [List.map_map]
      refine List.map_congr_left fun kv _ => ?_
      simp only [Function.comp]
      split <;> rfl
    rw [e]; exact h
  · rename_i hn
    rw [List.map_append, List.nodup_append]
    refine ⟨h, by simp, ?_⟩
    intro a ha b hb e
    rw [List.map_singleton, List.mem_singleton] at hb
    obtain ⟨kv, hm, rfl⟩ := List.mem_map.mp ha
    exact hn (List.any_eq_true.mpr ⟨kv, hm, by simpa using e.trans hb⟩)
end
noncomputable abbrev ch (c : Nat) : Str := { cps := #[c] }
theorem ch_inj {a b : Nat} (h : ch a = ch b) : a = b := by injection h with h; simpa using h
/-- the stock so far -/
structure StockP (f i : Nat) (st : List (Str × Value)) : Prop where
  len : st.length ≤ i
  nd : (st.map (·.1)).Nodup
  ok : ∀ kv ∈ st, ∃ e ∈ menuL f, e.2.1 = false ∧ kv.1 = ch e.1 ∧ ∃ t, kv.2 = .str e.2.2 t
  one : 10 ≤ i → ∃ t, (ch (smallC f), Value.str (ch (smallC f)) t) ∈ st
  two : 11 ≤ i → ∃ t, (ch (dblC f), Value.str { cps := #[smallC f, smallC f] } t) ∈ st
theorem StockP.start (f : Nat) : StockP f 0 [] := ⟨Nat.zero_le _, .nil, (fun _ h => nomatch h), (fun h => by lia), (fun h => by lia)⟩
theorem StockP.skip {f i : Nat} {st : List (Str × Value)} (h : StockP f i st) (hi : i < 9) : StockP f (i + 1) st := ⟨Nat.le_succ_of_le h.len, h.nd, h.ok, fun h => by lia, fun h => by lia⟩
theorem StockP.add {f i : Nat} {st : List (Str × Value)} (hf : f = 0 ∨ f = 1 ∨ f = 2) (h : StockP f i st) {e : Trip} {t : Tok} (hi : i < 11) (he : e ∈ menuL f) (hn : e.2.1 = false) (h9 : i = 9 → e = (smallC f, false, ch (smallC f))) (h10 : i = 10 → e = (dblC f, false, { cps := #[smallC f, smallC f] })) :
    StockP f (i + 1) (stored st (ch e.1) (.str e.2.2 t)) := by
  refine ⟨Nat.le_trans (stored_length_le _ _ _) (Nat.succ_le_succ h.len), stored_nodup h.nd, ?_, ?_, ?_⟩
  · intro kv hkv
    rcases of_mem_stored hkv with rfl | hkv
    · exact ⟨e, he, hn, rfl, t, rfl⟩
    · exact h.ok kv hkv
  · intro hi2
    by_cases h' : i = 9
    · rw [h9 h']
      exact ⟨t, mem_stored_new _ _ _⟩
    · obtain ⟨t', hm⟩ := h.one (by lia)
      refine ⟨t', mem_stored_old hm ?_⟩
      rw [h10 (by lia)]
      intro q
      have := ch_inj q
      rcases hf with rfl | rfl | rfl <;> exact absurd this (by decide)
  · intro hi2
    rw [h10 (by lia)]
    exact ⟨t, mem_stored_new _ _ _⟩
/-! counts -/
theorem strs_cons {v : Value} {vs : List Value} {xs : List Str} (h : StrsAre (v :: vs) xs) : ∃ y ys t, xs = y :: ys ∧ v = .str y t ∧ StrsAre vs ys := by
  cases h with
  | cons y t r => exact ⟨_, _, _, rfl, rfl, r⟩
theorem strs_nil {xs : List Str} (h : StrsAre [] xs) : xs = [] := by cases h; rfl
theorem cnt_cons (x y : Str) (ys : List Str) : Spec.countIn (.str x) ((y :: ys).map PyData.str) = (if y = x then 1 else 0) + Spec.countIn (.str x) (ys.map PyData.str) := by
  simp [Spec.countIn, Spec.same]
theorem count_pos {K : Type} : ∀ {st : List (K × Value)} {xs : List Str} {x : Str}, StrsAre (st.map (·.2)) xs → (∃ k t, (k, Value.str x t) ∈ st) → 1 ≤ Spec.countIn (.str x) (xs.map PyData.str)
  | [], _, _, _, ⟨_, _, h⟩ => nomatch h
  | kv :: r, xs, x, hs, ⟨k, t, h⟩ => by
    obtain ⟨y, ys, u, rfl, hv, hr⟩ := strs_cons hs
    rw [cnt_cons]
    have h0 := countIn_nonneg (.str x) (ys.map PyData.str)
    rcases List.mem_cons.mp h with h | h
    · rw [← h] at hv
      injection hv with e1 e2
      rw [if_pos e1.symm]; lia
    · have := count_pos hr ⟨k, t, h⟩
      split <;> lia
theorem count_le : ∀ (x : Str) (xs : List Str), Spec.countIn (.str x) (xs.map PyData.str) ≤ xs.length
  | _, [] => by simp [Spec.countIn]
  | x, y :: ys => by
    have := count_le x ys
    rw [cnt_cons, List.length_cons]
    split <;> lia
theorem count_zero {K : Type} : ∀ {st : List (K × Value)} {xs : List Str} {x : Str}, StrsAre (st.map (·.2)) xs → (∀ kv ∈ st, ∀ t, kv.2 ≠ .str x t) → Spec.countIn (.str x) (xs.map PyData.str) = 0
  | [], xs, _, hs, _ => by rw [strs_nil hs]; rfl
  | kv :: r, xs, x, hs, h => by
    obtain ⟨y, ys, u, rfl, hv, hr⟩ := strs_cons hs
    rw [cnt_cons, count_zero hr fun q hq => h q (.tail _ hq), if_neg]
    · rfl
    · rintro rfl
      exact h kv (.head _) u hv
theorem count_one {K : Type} {k0 : K} : ∀ {st : List (K × Value)} {xs : List Str} {x : Str}, StrsAre (st.map (·.2)) xs → (st.map (·.1)).Nodup → (∀ kv ∈ st, ∀ t, kv.2 = .str x t → kv.1 = k0) → (∃ k t, (k, Value.str x t) ∈ st) → Spec.countIn (.str x) (xs.map PyData.str) = 1
  | [], _, _, _, _, _, ⟨_, _, h⟩ => nomatch h
  | kv :: r, xs, x, hs, hn, hk, ⟨k, t, h⟩ => by
    obtain ⟨y, ys, u, rfl, hv, hr⟩ := strs_cons hs
    rw [List.map_cons, List.nodup_cons] at hn
    rw [cnt_cons]
    by_cases hz : y = x
    · subst hz
      have hkk := hk kv (.head _) u hv
      rw [if_pos rfl, count_zero hr fun q hq t' e => ?_]
      · rfl
      · have := hk q (.tail _ hq) t' e
        exact hn.1 (List.mem_map.mpr ⟨q, hq, this.trans hkk.symm⟩)
    · rw [if_neg hz]
      rcases List.mem_cons.mp h with h | h
      · rw [← h] at hv; injection hv with e1 e2; exact absurd e1.symm hz
      · rw [count_one hr hn.2 (fun q hq => hk q (.tail _ hq)) ⟨k, t, h⟩]; rfl
theorem stock_strs {f i : Nat} {st : List (Str × Value)} (h : StockP f i st) : ∃ xs, StrsAre (st.map (·.2)) xs ∧ xs.length ≤ i := by
  have : ∀ (l : List (Str × Value)), (∀ kv ∈ l, ∃ x t, kv.2 = Value.str x t) → ∃ xs, StrsAre (l.map (·.2)) xs ∧ xs.length = l.length := by
    intro l
    induction l with
    | nil => intro _; exact ⟨[], .nil, rfl⟩
    | cons kv r ih =>
      intro hl
      obtain ⟨x, t, e⟩ := hl kv (.head _)
      obtain ⟨xs, hx, hxl⟩ := ih fun q hq => hl q (.tail _ hq)
      exact ⟨x :: xs, by rw [List.map_cons, e]; exact .cons _ _ hx, by simp [hxl]⟩
  obtain ⟨xs, hx, hl⟩ := this st fun kv hkv => by
    obtain ⟨e, _, _, _, t, ht⟩ := h.ok kv hkv
    exact ⟨_, t, ht⟩
  exact ⟨xs, hx, by rw [hl]; exact h.len⟩
theorem stock_kinds {f : Nat} {st : List (Str × Value)} {xs : List Str} (h : StockP f 11 st) (hx : StrsAre (st.map (·.2)) xs) : 1 ≤ Spec.countIn (.str (ch (smallC f))) (xs.map PyData.str) ∧ Spec.countIn (.str (ch (smallC f))) (xs.map PyData.str) ≤ 11 := by
  obtain ⟨t, hm⟩ := h.one (by lia)
  refine ⟨count_pos hx ⟨_, t, hm⟩, ?_⟩
  have h1 := count_le (ch (smallC f)) xs
  have h2 := hx.length
  rw [List.length_map] at h2
  have := h.len
  lia
theorem stock_two {f : Nat} (hf : f = 0 ∨ f = 1 ∨ f = 2) {st : List (Str × Value)} {xs : List Str} (h : StockP f 11 st) (hx : StrsAre (st.map (·.2)) xs) : Spec.countIn (.str ({ cps := #[smallC f, smallC f] } : Str)) (xs.map PyData.str) = 1 := by
  obtain ⟨t, hm⟩ := h.two (by lia)
  refine count_one (k0 := ch (dblC f)) hx h.nd (fun kv hkv t' e => ?_) ⟨_, t, hm⟩
  obtain ⟨e', he', hn, hk, t2, e2⟩ := h.ok kv hkv
  rw [e2] at e
  injection e with e3 e4
  rw [hk, ((menu_etc hf he').2.2.2.2 hn).2 e3]
theorem law_7 (w : World) (mean : ExcName → Option Value) (mg mb : Str → Option Value) (dp un : Nat) (gd : Option (List Code)) (outer : List Env) (g : Heap) (L a : Addr) (cd : Value) (m : Str → Option Value) (nw0 : List (Addr × Obj)) (s : Shared) (Q : Flow → Shared → Prop) (E : Value → Shared → Prop)
    (f : Nat) (hf : f = 0 ∨ f = 1 ∨ f = 2) (D2 : Addr) (c2 : Nat) (zs : List Value) (es : List Trip) (hT2 : Trips nw0 zs es) (hlen : es.length = 11) (hem : ∀ e ∈ es, e ∈ menuL f) (hdrop : es.drop 9 = [(smallC f, false, { cps := #[smallC f] }), (dblC f, false, { cps := #[smallC f, smallC f] })])
    (F : Fr g L s.heap (fun z => if z = Str.ofString "told" then some (.ref D2) else m z)) (N : News g L s.heap ((D2, W.listOf zs.toArray c2) :: nw0)) (X : (KF w.params).In g) (T : TopM mean mg mb g) (hdp : dp + 10 < recursionLimit) (hun : un + 100 < cLine)
    (hret : ∀ D o st h' tk', o.IsDictOf (strKind PW w) st → StockP f 11 st → (D == sysModules) = false → Fr g L h' (fun z => if z = Str.ofString "stock" then some (.ref D) else if z = Str.ofString "told" then some (.ref D2) else m z) → News g L h' ((D, o) :: (D2, W.listOf zs.toArray c2) :: nw0) → Q .next { s with heap := h', toks := tk' }) :
    wpAny (model PW w) (arn dp un gd outer) (exec lS7 (lawE L a cd)) Q E s := by
  have hfill : PySem.Challenge.rw_rl0135_01 = PySem.Challenge.rw_rl0135_01 ∧ KF = KF := by k_fill; exact ⟨rfl, rfl⟩
  clear hfill
  w_on
  k_with_none
  have hzl := hT2.length
  have hzs : zs.toArray.size = 11 := by rw [List.size_toArray, hzl, hlen]
  refine Assign_DictComp_3 (L := L) (h₀ := g) (m := fun z => if z = Str.ofString "told" then some (.ref D2) else m z) (by rfl) (by with_unfolding_all rfl) (by with_unfolding_all rfl) (by decide) (by rfl) (by rfl) (by decide) (by rfl) (by rfl) (by rfl) (by decide) (by decide) (by decide) (by rfl) (by rfl) ?_
  iterate 1 (first | walk1 | (dsimp only; walk1))
  refine ⟨D2, zs.toArray, (D2, W.listOf zs.toArray c2) :: nw0, _, _, fun i st nw => nw = (D2, W.listOf zs.toArray c2) :: nw0 ∧ StockP f i st ∧ i ≤ 11, rfl, rfl, F, N, ⟨rfl, .start f, Nat.zero_le _⟩, ?src, ?len, ?turn, ?fin⟩
  case src => rintro i st nw ⟨rfl, _, _⟩; exact .inr ⟨_, .head _, rfl, _, rfl⟩
  case len => rintro i st nw ⟨_, h, h2⟩; have := h.len; lia
  case fin =>
    rintro D o st nw h tk ⟨rfl, hS, _⟩ ho hne hDs F2 N2
    rw [hzs] at hS
    exact hret _ _ _ _ _ ho hS hDs F2 N2
  case turn =>
    intro h0 tk0
    rintro I C D3 i st nw v nI nC nD nCI nDI nDC ⟨rfl, hS, hi11⟩ hv
    rw [List.getElem?_toArray] at hv
    obtain ⟨t, e, u1, u2, rfl, hei, hmt⟩ := hT2.get hv
    have hi2 : i < 11 := by rw [← hlen]; exact (List.getElem?_eq_some_iff.mp hei).1
    have he := hem e (List.mem_of_getElem? hei)
    have hd : 9 ≤ i → (es.drop 9)[i - 9]? = some e := fun h9 => by rw [List.getElem?_drop, show 9 + (i - 9) = i by lia]; exact hei
    refine ⟨t, _, _, _, 0, rfl, .tail _ hmt, ?_⟩
    intro oI oC o m₂ h tk E' hC hx1 hx2 hx3 F' N' off hcI
    clear F N hret
    obtain ⟨c, nb, x⟩ := e
    dsimp only at hx1 hx2 hx3
    cases nb with
    | true =>
      iterate 6 (first | walk1 | (dsimp only; walk1))
      (rename Fr _ _ _ _ => fE); (rename News _ _ _ _ => nE)
      have hi9 : i < 9 := by
        refine Nat.lt_of_not_le fun h9 => ?_
        have := hd h9
        rw [hdrop] at this
        have h3 : i - 9 = 0 ∨ i - 9 = 1 := by lia
        rcases h3 with h3 | h3 <;> rw [h3] at this <;> cases this
      exact left3_same fE nE off ⟨rfl, hS.skip hi9, hi2⟩
    | false =>
      iterate 8 (first | walk1 | (dsimp only; walk1))
      (rename Fr _ _ _ _ => fE); (rename News _ _ _ _ => nE)
      refine ⟨ch c, ?_, left3_same fE nE off ⟨rfl, hS.add hf (e := (c, false, x)) (t := u2) hi2 he rfl ?_ ?_, hi2⟩⟩
      · simp [PySem.strKind, Value.isStrOf]
      · intro h9
        have := hd (by lia)
        rw [hdrop, h9] at this
        exact (Option.some.inj this).symm
      · intro h10
        have := hd (by lia)
        rw [hdrop, h10] at this
        exact (Option.some.inj this).symm
end Mine
end
section
open PySem PySem.W PyProof.Rows PySem.Calls PySem.Spec
open PyProof.Rows.LCg (NsObj ns_obj Off3 Off1 SrcAt lst lst_snoc)
namespace Mine
theorem law_8 (w : World) (mean : ExcName → Option Value) (mg mb : Str → Option Value) (dp un : Nat) (gd : Option (List Code)) (outer : List Env) (g : Heap) (L a : Addr) (cd : Value) (m : Str → Option Value) (nw0 : List (Addr × Obj)) (s : Shared) (Q : Flow → Shared → Prop) (E : Value → Shared → Prop)
    (oA : Obj) (f : Nat) (tA : Tok) (hf : f = 0 ∨ f = 1 ∨ f = 2) (d1 : oA.data = .cell (some (.str ({ cps := #[smallC f] } : Str) tA))) (D : Addr) (o : Obj) (st : List (Str × Value)) (ho : o.IsDictOf (strKind PW w) st) (hS : StockP f 11 st) (hDs : (D == sysModules) = false)
    (F : Fr g L s.heap (fun z => if z = Str.ofString "stock" then some (.ref D) else m z)) (N : News g L s.heap ((L + 1 + 1, oA) :: (D, o) :: nw0)) (X : (KF w.params).In g) (T : TopM mean mg mb g) (hdp : dp + 10 < recursionLimit) (hun : un + 100 < cLine)
    (hret : ∀ kinds t h' tk', 1 ≤ kinds ∧ kinds ≤ 11 → Fr g L h' (fun z => if z = Str.ofString "kinds" then some (.int kinds t) else if z = Str.ofString "stock" then some (.ref D) else m z) → News g L h' ((L + 1 + 1, oA) :: (D, o) :: nw0) → Q .next { s with heap := h', toks := tk' }) :
    wpAny (model PW w) (arn dp un gd outer) (exec lS8 (lawE L a cd)) Q E s := by
  have hfill : PySem.Challenge.rw_rl0135_01 = PySem.Challenge.rw_rl0135_01 ∧ KF = KF := by k_fill; exact ⟨rfl, rfl⟩
  clear hfill
  w_on
  k_with_none
  obtain ⟨xs, hxs, hxl⟩ := stock_strs hS
  have hk := stock_kinds hS hxs
  have hsl := hS.len
  iterate 8 (try first | walk1 | (dsimp only; walk1))
  refine kdl_method PySem.F.slot_dict_values PySem.F.type_dict_values N (.tail _ (.head _)) ho ?_
  iterate 3 (first | walk1 | (dsimp only; walk1))
  (rename Fr _ _ _ _ => F3); (rename News _ _ _ _ => N3); (rename @LT.lt _ _ _ _ ∧ _ => lD)
  refine kdl_list_valuesP (by rfl) F3 N3 (.head _) (.tail _ (.tail _ (.head _))) ho (by lia) fun B cB h4 tk4 F4 N4 l4 => ?_
  clear F N F3 N3
  iterate 8 (try first | walk1 | (dsimp only; walk1))
  (rename Fr _ _ _ _ => fE); (rename News _ _ _ _ => nE)
  show Q Flow.next { s with heap := _, toks := _ }
  exact hret _ _ _ _ hk fE (fun p hp => nE p (.tail _ (.tail _ hp)))
theorem law_9 (w : World) (mean : ExcName → Option Value) (mg mb : Str → Option Value) (dp un : Nat) (gd : Option (List Code)) (outer : List Env) (g : Heap) (L a : Addr) (cd : Value) (m : Str → Option Value) (nw0 : List (Addr × Obj)) (s : Shared) (Q : Flow → Shared → Prop) (E : Value → Shared → Prop)
    (ax : Addr) (vs : List Value) (ns : List Int) (hl : g.IsList ax vs.toArray) (hi : IntsAre vs ns) (hlen : ns.length ≤ 63)
    (F : Fr g L s.heap (fun z => if z = Str.ofString "script" then some (.ref ax) else m z)) (N : News g L s.heap nw0) (X : (KF w.params).In g) (T : TopM mean mg mb g) (hdp : dp + 10 < recursionLimit) (hun : un + 100 < cLine)
    (hret : ∀ width t h' tk', width = 1088 ∨ width = 64 ∨ width = 576 → Fr g L h' (fun z => if z = Str.ofString "width" then some (.int width t) else if z = Str.ofString "script" then some (.ref ax) else m z) → News g L h' nw0 → Q .next { s with heap := h', toks := tk' }) :
    wpAny (model PW w) (arn dp un gd outer) (exec lS9 (lawE L a cd)) Q E s := by
  have hfill : PySem.Challenge.rw_rl0135_01 = PySem.Challenge.rw_rl0135_01 ∧ KF = KF := by k_fill; exact ⟨rfl, rfl⟩
  clear hfill
  w_on
  k_with_none
  have hvl := IntsAre.length hi
  have hm3 := fm_bnd ns.sum 3 (by decide)
  iterate 26 (try first | walk1 | (dsimp only; walk1))
  (rename Fr _ _ _ _ => fE); (rename News _ _ _ _ => nE)
  show Q Flow.next { s with heap := _, toks := _ }
  refine hret _ _ _ _ ?_ fE (fun p hp => nE p (.tail _ hp))
  have h3 : ns.sum.fmod 3 = 0 ∨ ns.sum.fmod 3 = 1 ∨ ns.sum.fmod 3 = 2 := by lia
  rcases h3 with h3 | h3 | h3 <;> rw [h3]
  · exact .inl rfl
  · exact .inr (.inl rfl)
  · exact .inr (.inr rfl)
theorem law_10 (w : World) (mean : ExcName → Option Value) (mg mb : Str → Option Value) (dp un : Nat) (gd : Option (List Code)) (outer : List Env) (g : Heap) (L a : Addr) (cd : Value) (m : Str → Option Value) (nw0 : List (Addr × Obj)) (s : Shared) (Q : Flow → Shared → Prop) (E : Value → Shared → Prop)
    (oA : Obj) (f : Nat) (tA : Tok) (hf : f = 0 ∨ f = 1 ∨ f = 2) (d1 : oA.data = .cell (some (.str ({ cps := #[smallC f] } : Str) tA))) (D : Addr) (o : Obj) (st : List (Str × Value)) (ho : o.IsDictOf (strKind PW w) st) (hS : StockP f 11 st) (hDs : (D == sysModules) = false)
    (kinds : Int) (tk : Tok) (wd : Nat) (tw : Tok) (hk : 1 ≤ kinds ∧ kinds ≤ 11) (hwd : 64 ≤ wd ∧ wd ≤ 1088)
    (F : Fr g L s.heap (fun z => if z = Str.ofString "kinds" then some (.int kinds tk) else if z = Str.ofString "width" then some (.int (wd : Int) tw) else if z = Str.ofString "stock" then some (.ref D) else m z)) (N : News g L s.heap ((L + 1 + 1, oA) :: (D, o) :: nw0)) (X : (KF w.params).In g) (T : TopM mean mg mb g) (hdp : dp + 10 < recursionLimit) (hun : un + 100 < cLine)
    (hret : ∀ B c vs h' tk', IntsAre vs (bookL (kinds * 2 ^ wd) 71) → Fr g L h' (fun z => if z = Str.ofString "books" then some (.ref B) else if z = Str.ofString "kinds" then some (.int kinds tk) else if z = Str.ofString "width" then some (.int (wd : Int) tw) else if z = Str.ofString "stock" then some (.ref D) else m z) → News g L h' ((B, W.listOf vs.toArray c) :: (L + 1 + 1, oA) :: (D, o) :: nw0) → Q .next { s with heap := h', toks := tk' }) :
    wpAny (model PW w) (arn dp un gd outer) (exec lS10 (lawE L a cd)) Q E s := by
  have hfill : PySem.Challenge.rw_rl0135_01 = PySem.Challenge.rw_rl0135_01 ∧ KF = KF := by k_fill; exact ⟨rfl, rfl⟩
  clear hfill
  w_on
  k_with_none
  obtain ⟨xs, hxs, hxl⟩ := stock_strs hS
  have h2 := stock_two hf hS hxs
  have hsl := hS.len
  iterate 20 (first | ((with_reducible show wpAny _ _ (binaryOp Operator.Mult (Value.str _ _) (Value.int _ _)) _ _ _); refine SB.mul (mulOk_of 1 2 (len_one _) (by decide) (by decide) (by decide) (by decide)) ?_; intro _ _; rw [mul_two]) | walk1 | (dsimp only; walk1))
  refine kdl_method PySem.F.slot_dict_values PySem.F.type_dict_values N (.tail _ (.head _)) ho ?_
  iterate 3 (first | ((with_reducible show wpAny _ _ (binaryOp Operator.Mult (Value.str _ _) (Value.int _ _)) _ _ _); refine SB.mul (mulOk_of 1 2 (len_one _) (by decide) (by decide) (by decide) (by decide)) ?_; intro _ _; rw [mul_two]) | walk1 | (dsimp only; walk1))
  (rename Fr _ _ _ _ => F3); (rename News _ _ _ _ => N3); (rename @LT.lt _ _ _ _ ∧ _ => lD)
  refine kdl_list_valuesP (by rfl) F3 N3 (.head _) (.tail _ (.tail _ (.head _))) ho (by lia) fun B cB h4 tk4 F4 N4 l4 => ?_
  clear F N F3 N3
  iterate 10 (try first | ((with_reducible show wpAny _ _ (binaryOp Operator.Mult (Value.str _ _) (Value.int _ _)) _ _ _); refine SB.mul (mulOk_of 1 2 (len_one _) (by decide) (by decide) (by decide) (by decide)) ?_; intro _ _; rw [mul_two]) | walk1 | (dsimp only; walk1))
  refine ⟨X.keeps F4.keep, ?_⟩
  rw [h2, Int.toNat_natCast]
  have hpb := P_bits hk hwd
  refine C_books w mean mg mb dp un gd outer _ _ _ (kinds * 2 ^ wd) _ 1 _ rfl (by lia) (X.keeps F4.keep) (T.keeps F4.keep) (by lia) (by lia) ?_
  intro B2 h5 tk5 n5 vs5 ns5 hk5 hn5 hg5 hi5 he5
  subst he5
  have F5 := F4.keeps hk5
  have N5 := news_add F4 N4 hk5 hn5 hg5
  clear F4 N4
  iterate 1 (first | ((with_reducible show wpAny _ _ (binaryOp Operator.Mult (Value.str _ _) (Value.int _ _)) _ _ _); refine SB.mul (mulOk_of 1 2 (len_one _) (by decide) (by decide) (by decide) (by decide)) ?_; intro _ _; rw [mul_two]) | walk1 | (dsimp only; walk1))
  (rename Fr _ _ _ _ => fE); (rename News _ _ _ _ => nE)
  show Q Flow.next { s with heap := _, toks := _ }
  refine hret _ n5 _ _ _ hi5 fE ?_
  intro p hp
  refine nE p ?_
  rcases List.mem_cons.mp hp with rfl | hp
  · exact .head _
  · exact .tail _ (.tail _ (.tail _ hp))
end Mine
end
section
open PySem PySem.W PyProof.Rows PySem.Calls PySem.Spec
namespace Mine
theorem law_11 (w : World) (mean : ExcName → Option Value) (mg mb : Str → Option Value) (dp un : Nat) (gd : Option (List Code)) (outer : List Env) (g : Heap) (L a : Addr) (cd : Value) (m : Str → Option Value) (nw0 : List (Addr × Obj)) (s : Shared) (Q : Flow → Shared → Prop) (E : Value → Shared → Prop)
    (oA : Obj) (f : Nat) (tA : Tok) (hf : f = 0 ∨ f = 1 ∨ f = 2) (d1 : oA.data = .cell (some (.str ({ cps := #[smallC f] } : Str) tA)))
    (lead : Str) (tl : Tok) (hlen : lead.length ≤ 18) (hws : ∀ x ∈ codesI lead, IsWs x)
    (F : Fr g L s.heap (fun z => if z = Str.ofString "lead" then some (.str lead tl) else m z)) (N : News g L s.heap ((L + 1 + 1, oA) :: nw0)) (X : (KF w.params).In g) (T : TopM mean mg mb g) (hdp : dp + 10 < recursionLimit) (hun : un + 100 < cLine)
    (hret : ∀ (x dx T1 T2 : Addr) (xt : Str) (t1 : Tok) (n nt b : Nat) (vs : List Value) (ns : List Int) (u1 u2 u3 k1 k2 k3 k4 k5 : Tok) (bb : Bool) h' tk', WsR (codesI lead) n nt b ns → IntsAre vs ns → Fr g L h' (fun z => if z = Str.ofString "margin" then some (.ref x) else if z = Str.ofString "lead" then some (.str lead tl) else m z) → News g L h' (margL w.params x dx T1 T2 xt t1 n nt b vs u1 u2 u3 k1 k2 k3 k4 k5 bb ++ ((L + 1 + 1, oA) :: nw0)) → Q .next { s with heap := h', toks := tk' }) :
    wpAny (model PW w) (arn dp un gd outer) (exec lS11 (lawE L a cd)) Q E s := by
  have hfill : PySem.Challenge.rw_rl0135_01 = PySem.Challenge.rw_rl0135_01 ∧ KF = KF := by k_fill; exact ⟨rfl, rfl⟩
  clear hfill
  w_on
  k_with_none
  iterate 13 (first | walk1 | (dsimp only; walk1))
  refine ⟨X.keeps F.keep, ?_⟩
  have hxt : KStt.codes (lead ++ ({ cps := #[smallC f] } : Str) ++ lead) = codesI lead ++ (smallC f : Int) :: codesI lead := by
    show List.map _ (((lead.cps ++ #[smallC f]) ++ lead.cps).toList) = _
    simp [codesI]
  have hxl : (lead ++ ({ cps := #[smallC f] } : Str) ++ lead).length ≤ 60 := by
    have := KStt.codes_length (lead ++ ({ cps := #[smallC f] } : Str) ++ lead)
    have h2 := KStt.codes_length lead
    have e2 : KStt.codes lead = codesI lead := rfl
    rw [hxt, List.length_append, List.length_cons] at this
    rw [e2] at h2
    lia
  have hns : ¬ IsWs (smallC f : Int) := by
    rcases hf with rfl | rfl | rfl <;> (unfold IsWs smallC; decide)
  refine call_ws w mean mg mb dp un gd outer g L _ _ _ _ _ _ _ hxl (codesI lead) (codesI lead) (smallC f) hxt hws hns F N X T hdp (by lia) ?_
  intro x dx T1 T2 n nt b vs ns u1 u2 u3 k1 k2 k3 k4 k5 bb h' tk' hW hi F' N'
  clear F N
  iterate 1 (first | walk1 | (dsimp only; walk1))
  (rename Fr _ _ _ _ => fE); (rename News _ _ _ _ => nE)
  show Q Flow.next { s with heap := _, toks := _ }
  exact hret _ _ _ _ _ _ _ _ _ _ _ _ _ _ _ _ _ _ _ _ _ _ hW hi fE nE
end Mine
end
section
open PySem PySem.W PyProof.Rows PySem.Calls
namespace Mine
/-- the object of a range's walk -/
noncomputable def RIt (o : Obj) : Prop := ∃ a b c : Int, o = { cls := .type "range_iterator", dict := none, data := .fields #[rawInt a, rawInt b, rawInt c], slots := #[] }
theorem RIt.ne {o : Obj} (h : RIt o) (ps : Array Value) : o ≠ tabObj ps := by
  obtain ⟨a, b, c, rfl⟩ := h
  intro e
  have := congrArg Obj.cls e
  revert this
  simp [tabObj]
theorem RIt.code {o : Obj} (h : RIt o) {qual : Str} : ¬ CodeO qual o := by
  obtain ⟨a, b, c, rfl⟩ := h
  rintro ⟨vs, t, h1, h2⟩
  cases h1
  cases h2
theorem TL.off {G0 g h : Heap} {tl : List (Addr × Obj)} {I : Addr} {oI : Obj} (x : TL G0 g tl) (hI : h.get? I = some oI) (hN : ∀ p ∈ tl, h.get? p.1 = some p.2) (hr : RIt oI) : ∃ tl', TL G0 g tl' ∧ (∀ p ∈ tl', p ∈ tl) ∧ ∀ p ∈ tl', p.1 ≠ I := by
  obtain ⟨ps1, ps2, ex, rfl, h1, h2, h3⟩ := x
  have n1 := hN (103, tabObj ps1) (.head _)
  have n2 := hN (110, tabObj ps2) (.tail _ (.head _))
  have sub : ∀ {ln cl : Int} {qual : Str} {ps : Array Value}, T1L ln cl qual ps G0 g ex → T1L ln cl qual ps G0 g (ex.filter fun p => decide (p.1 ≠ I)) := by
    intro ln cl qual ps h
    rcases h with h | ⟨c, oc, k1, k2, k3, k4⟩
    · exact .inl h
    · refine .inr ⟨c, oc, k1, k2.imp (fun hm => List.mem_filter.mpr ⟨hm, decide_eq_true ?_⟩) id, k3, k4⟩
      intro q
      have q' : c = I := q
      have := hN _ (List.mem_cons_of_mem _ (List.mem_cons_of_mem _ hm))
      dsimp only at this
      rw [q', hI] at this
      cases this
      exact hr.code k3
  refine ⟨(103, tabObj ps1) :: (110, tabObj ps2) :: ex.filter (fun p => decide (p.1 ≠ I)), ⟨ps1, ps2, _, rfl, sub h1, sub h2, fun p hp => h3 p (List.mem_filter.mp hp).1⟩, ?_, ?_⟩
  · intro p hp
    rcases List.mem_cons.mp hp with rfl | hp
    · exact .head _
    rcases List.mem_cons.mp hp with rfl | hp
    · exact .tail _ (.head _)
    · exact .tail _ (.tail _ (List.mem_filter.mp hp).1)
  · intro p hp
    rcases List.mem_cons.mp hp with rfl | hp
    · intro q
      have q' : (103 : Addr) = I := q
      rw [q', hI] at n1
      exact hr.ne _ (Option.some.inj n1)
    rcases List.mem_cons.mp hp with rfl | hp
    · intro q
      have q' : (110 : Addr) = I := q
      rw [q', hI] at n2
      exact hr.ne _ (Option.some.inj n2)
    · exact of_decide_eq_true (List.mem_filter.mp hp).2
theorem TL.afterI {G0 g h h' : Heap} {L I : Addr} {oI : Obj} {m : Str → Option Value} {vis tl : List (Addr × Obj)} (x : TL G0 g tl) (F : Fr g L h m) (N : News g L h ((I, oI) :: (vis ++ tl))) (hI : RIt oI) (hv : ∀ p ∈ vis, NoTab p.2) (hk : KeepsT h h') (H' : TH G0 h') :
    Fr g L h' m ∧ ∃ tl', TL G0 g tl' ∧ News g L h' ((I, oI) :: (vis ++ tl')) := by
  have N1 : News g L h (vis ++ tl) := fun p hp => N p (.tail _ hp)
  obtain ⟨F', tl', hT, N'⟩ := x.after F N1 hv hk H'
  refine ⟨F', tl', hT, fun p hp => ?_⟩
  rcases List.mem_cons.mp hp with rfl | hp
  · have n := N _ (.head _)
    obtain ⟨ps1, ps2, ex, rfl, _, _, _⟩ := x
    have n1 := (N1 (103, tabObj ps1) (List.mem_append_right _ (.head _))).1
    have n2 := (N1 (110, tabObj ps2) (List.mem_append_right _ (.tail _ (.head _)))).1
    refine ⟨hk _ _ (fun q => ?_) (fun q => ?_) n.1, n.2⟩
    · have q' : (103 : Addr) = I := q.symm
      dsimp only at n1
      rw [q', n.1] at n1
      exact hI.ne _ (Option.some.inj n1)
    · have q' : (110 : Addr) = I := q.symm
      dsimp only at n2
      rw [q', n.1] at n2
      exact hI.ne _ (Option.some.inj n2)
  · exact N' p hp
section
variable {w : World} {mean : ExcName → Option Value} {mg mb : Str → Option Value} {dp un : Nat} {gd : Option (List Code)} {outer : List Env} {G0 g : Heap} {L I : Addr} {oI : Obj} {m : Str → Option Value} {vis tl : List (Addr × Obj)} {s : Shared} {Q E : Value → Shared → Prop}
theorem call_i2dI (G : Gr w mean mg mb G0) (KG : Keeps G0 g) (hTL : TL G0 g tl) (F : Fr g L s.heap m) (N : News g L s.heap ((I, oI) :: (vis ++ tl))) (hI : RIt oI) (hv : ∀ p ∈ vis, NoTab p.2) {a n : Int} {t1 t2 : Tok} (ha : 0 ≤ a) (hn : 2 ≤ n ∧ n ≤ 8000) (hb : Builtin.Int.intBits a ≤ 90000) (hK128 : ((Builtin.Int.intBits a : Int) + n - 1).fdiv n ≤ 128)
    (hdp : dp + 20 < recursionLimit) (hun : un + 60 < cLine)
    (h : ∀ (r : Addr) h' tk' vs ns nn tl', Fr g L h' m → TL G0 g tl' → News g L h' ((r, W.listOf vs.toArray nn) :: (I, oI) :: (vis ++ tl')) → IntsAre vs ns → ns = digs (2 ^ n.toNat) (((Builtin.Int.intBits a : Int) + n - 1).fdiv n).toNat a → Q (.ref r) { s with heap := h', toks := tk' }) :
    wpAny (model PW w) (arn dp un gd outer) (call (.ref 108) [.int a t1, .int n t2]) Q E s := by
  refine C_i2dH w mean mg mb dp un gd outer G0 s Q E a n t1 t2 ha hn hb hK128 G (fun b o e => F.keep _ _ (KG _ _ e)) (hTL.th F N fun p hp => .tail _ (List.mem_append_right _ hp)) hdp hun fun r h' tk' vs ns nn hk H' hr hg hi hd => ?_
  obtain ⟨F', tl', hTL', N'⟩ := hTL.afterI F N hI hv hk H'
  exact h r h' tk' vs ns nn tl' F' hTL' (new_add F F' N' hr hg) hi hd
theorem call_idmI {a b : Int} {t1 t2 : Tok} {k : Nat}
    (J : IdmAt w mean mg mb G0 k a b) (KG : Keeps G0 g) (hTL : TL G0 g tl) (F : Fr g L s.heap m) (N : News g L s.heap ((I, oI) :: (vis ++ tl))) (hI : RIt oI) (hv : ∀ p ∈ vis, NoTab p.2) (hdp : dp + 32 + k < recursionLimit) (hun : un + 90 + 3 * k < cLine)
    (h : ∀ (q r : Int) u1 u2 (t : Addr) h' tk' tl', Fr g L h' m → TL G0 g tl' → News g L h' ((t, tup2 q r u1 u2) :: (I, oI) :: (vis ++ tl')) → IsDM a b q r → Q (.ref t) { s with heap := h', toks := tk' }) :
    wpAny (model PW w) (arn dp un gd outer) (call (.ref 129) [.int a t1, .int b t2]) Q E s := by
  refine J dp un gd outer s Q E t1 t2 (fun b o e => F.keep _ _ (KG _ _ e)) (hTL.th F N fun p hp => .tail _ (List.mem_append_right _ hp)) hdp hun fun q r u1 u2 t h' tk' hk H' ht hg hq => ?_
  obtain ⟨F', tl', hTL', N'⟩ := hTL.afterI F N hI hv hk H'
  exact h q r u1 u2 t h' tk' tl' F' hTL' (new_add F F' N' ht hg) hq
end
section
variable {prog : Program} {w : World} {A : Around} {E : Value → Shared → Prop} {s : Shared} {env : Env} {h₀ : Heap} {x : Str} {body : List Stmt} {Q : Flow → Shared → Prop}
/-- the end of a turn, the tables aside -/
noncomputable def TurnT (G0 h₀ : Heap) (L : Addr) (x : Str) (stored : List Str) (m₀ : Str → Option Value) (I : Addr) (oI : Obj) (base : List (Addr × Obj)) (s₁ : Shared) (Q : Flow → Shared → Prop) (f : Flow) (s₂ : Shared) : Prop :=
  match f with
  | .ret v => Q (.ret v) s₂
  | .brk => Q .next s₂
  | _ => ∃ h' tk m' tl2, s₂ = { s₁ with heap := h', toks := tk } ∧ TL G0 h₀ tl2 ∧ Fr h₀ L h' m' ∧ News h₀ L h' ((I, oI) :: (base ++ tl2)) ∧ ∀ y, y ≠ x → stored.contains y = false → m' y = m₀ y
theorem kow_tl {G0 : Heap} {r : Addr} {a₀ b₀ : Int} {t₀ u₀ v₀ : Tok} {n : Nat} {m₀ : Str → Option Value} {base tl : List (Addr × Obj)} (stored : List Str)
    (hh : A.handled = none) (hr : IsRange s.heap r a₀ b₀ 1 t₀ u₀ v₀) (hsmall : Builtin.Range.small a₀ b₀ 1 = true) (hn : Builtin.Range.rangeSize a₀ b₀ 1 = (n : Int)) (hTL : TL G0 h₀ tl) (F : Fr h₀ env.locals s.heap m₀) (N : News h₀ env.locals s.heap (base ++ tl))
    (turn : ∀ k t (u : Str → Option Value) h tk I oI tl1, a₀ ≤ k → k < a₀ + (n : Int) → RIt oI → TL G0 h₀ tl1 → Fr h₀ env.locals h (fun y => if y = x then some (.int k t) else if stored.contains y then u y else m₀ y) → News h₀ env.locals h ((I, oI) :: (base ++ tl1)) →
      wpAny (model prog w) A (execs body env) (TurnT G0 h₀ env.locals x stored m₀ I oI base { s with heap := h, toks := tk } Q) E { s with heap := h, toks := tk })
    (done : ∀ (u : Str → Option Value) h tk tl1, TL G0 h₀ tl1 → Fr h₀ env.locals h (fun y => if y = x then u y else if stored.contains y then u y else m₀ y) → News h₀ env.locals h (base ++ tl1) → Q .next { s with heap := h, toks := tk }) :
    wpAny (model prog w) A (pyIter (.ref r)) (fun it s₂ => LoopAtV prog w A h₀ env x body Q E it s₂) E s := by
  refine wpAny_pyIter_range hr hsmall ?_
  have W : Walks prog w A s.heap.objs.size [s.heap.objs.size] [s.heap.objs.size] n (fun i v => i < n ∧ ∃ t, v = .int (a₀ + i * 1) t)
      (fun i h => IsRangeIter h s.heap.objs.size (a₀ + (i : Nat) * 1) ((n : Int) - (i : Nat)) 1) := (Walks.range hh _ a₀ 1 n).bound
  have hnw : ∀ p ∈ base ++ tl, p.1 ≠ s.heap.objs.size := fun p hp => Nat.ne_of_lt (Heap.lt_size (N p hp).1)
  have hI₀ : h₀.get? s.heap.objs.size = none := next_is_new F
  have hLI : env.locals ≠ s.heap.objs.size := Nat.ne_of_lt F.ns.lt
  let J : Nat → (Str → Option Value) → List (Addr × Obj) → Prop := fun _ m₁ nx => (∃ tl1, TL G0 h₀ tl1 ∧ nx = base ++ tl1) ∧ ∀ y, y ≠ x → stored.contains y = false → m₁ y = m₀ y
  obtain ⟨I, hI⟩ : ∃ I, I = s.heap.objs.size := ⟨_, rfl⟩
  have hI9 : h₀.get? I = none := by rw [hI]; exact hI₀
  have hst0 : IsRangeIter (s.heap.push { cls := .type "range_iterator", dict := none, data := .fields #[rawInt a₀, rawInt (Builtin.Range.rangeSize a₀ b₀ 1), rawInt 1], slots := #[] }) s.heap.objs.size (a₀ + ((0 : Nat) : Int) * 1) ((n : Int) - ((0 : Nat) : Int)) 1 := by
    show Heap.get? _ _ = some _
    rw [hn]
    simpa using Heap.get?_push_size _ rfl
  refine ⟨s.heap.objs.size, [s.heap.objs.size], [s.heap.objs.size], n, _, _, m₀, base ++ tl, J, rfl, W, fun hm => hLI (List.mem_singleton.mp hm), fun b hb => ?_, fun p hp hm => hnw p hp (List.mem_singleton.mp hm), hst0, F.push _, fun p hp => ⟨Heap.get?_push_of_some _ (N p hp).1, (N p hp).2⟩, ⟨⟨tl, hTL, rfl⟩, fun _ _ _ => rfl⟩, ?_, ?_⟩
  · rw [List.mem_singleton.mp hb]; exact hI₀
  · rintro i v m₁ nx s₁ own ⟨hh', tk', rfl⟩ hin ⟨_, t, rfl⟩ ⟨⟨tl1, hT1, rfl⟩, hJ⟩ hoff h5 _ h7 hs F₁ N₁
    have e : (fun y => if y = x then some (Value.int (a₀ + (i : Int) * 1) t) else m₁ y) = fun y => if y = x then some (Value.int (a₀ + (i : Int) * 1) t) else if stored.contains y then m₁ y else m₀ y := by
      funext y
      by_cases h1 : y = x
      · simp [h1]
      · simp only [if_neg h1]
        cases h2 : stored.contains y with
        | true => simp
        | false => simp only [Bool.false_eq_true, if_false]; exact hJ y h1 h2
    rw [e] at F₁
    rw [← hI] at *
    obtain ⟨oI, hoI, hR⟩ : ∃ oI, hh'.get? I = some oI ∧ RIt oI := ⟨_, hs, _, _, _, rfl⟩
    have own1 : ∀ p ∈ own, p = (I, oI) := fun p hp => by
      have a := N₁ p (List.mem_append.mpr (.inl hp))
      have b : p.1 = I := List.mem_singleton.mp (h5 p hp)
      have c := a.1
      dsimp only at c
      rw [b] at c
      exact Prod.ext b (Option.some.inj (c.symm.trans hoI))
    have NI : News h₀ env.locals hh' ((I, oI) :: (base ++ tl1)) := fun p hp => by
      rcases List.mem_cons.mp hp with rfl | hp
      · exact N₁ _ (List.mem_append.mpr (.inl (h7 I (List.mem_singleton.mpr rfl) hI9 oI hoI)))
      · exact N₁ p (List.mem_append.mpr (.inr hp))
    refine wpAny_mono (turn (a₀ + (i : Int) * 1) t m₁ hh' tk' I oI tl1 (by lia) (by lia) hR hT1 F₁ NI) (fun f s₂ p => ?_) fun _ _ e => e
    have hb : ∀ p ∈ base, p.1 ≠ I := fun p hp q => hoff p (List.mem_append_left _ hp) (List.mem_singleton.mpr q)
    have fin : (∃ h' tk m' tl2, s₂ = { s with heap := h', toks := tk } ∧ TL G0 h₀ tl2 ∧ Fr h₀ env.locals h' m' ∧ News h₀ env.locals h' ((I, oI) :: (base ++ tl2)) ∧ ∀ y, y ≠ x → stored.contains y = false → m' y = m₀ y) → LoopStepU h₀ env.locals [I] own (J (i + 1)) { s with heap := hh', toks := tk' } .next s₂ := by
      rintro ⟨h', tk, m', tl2, e, hT2, F', N', hm⟩
      obtain ⟨tl3, hT3, hsub, hof⟩ := hT2.off (h := h') (I := I) (oI := oI) (N' _ (.head _)).1 (fun p hp => (N' p (.tail _ (List.mem_append_right _ hp))).1) hR
      refine ⟨rfl, h', tk, m', base ++ tl3, e, F', fun p hp => ?_, fun p hp hq => ?_, ⟨tl3, hT3, rfl⟩, hm⟩
      · rcases List.mem_append.mp hp with hp | hp
        · obtain rfl := own1 p hp
          exact N' _ (.head _)
        · refine N' p (.tail _ ?_)
          rcases List.mem_append.mp hp with hp | hp
          · exact List.mem_append_left _ hp
          · exact List.mem_append_right _ (hsub p hp)
      · have hq' := List.mem_singleton.mp hq
        rcases List.mem_append.mp hp with hp | hp
        · exact hb p hp hq'
        · exact hof p hp hq'
    cases f with
    | ret v => exact p
    | brk => exact p
    | next => exact fin p
    | cont => exact fin p
  · rintro h' tk m' nx F' N' _ ⟨⟨tl1, hT1, rfl⟩, hJ⟩
    refine done m' h' tk tl1 hT1 ?_ N'
    have e : (fun y => if y = x then m' y else if stored.contains y then m' y else m₀ y) = m' := by
      funext y
      by_cases h1 : y = x
      · simp [h1]
      · simp only [if_neg h1]
        cases h2 : stored.contains y with
        | true => simp
        | false => simp only [Bool.false_eq_true, if_false]; exact (hJ y h1 h2).symm
    rw [e]
    exact F'
end
end Mine
end
section
open PySem PySem.W PyProof.Rows
namespace Mine
theorem pm_pow (k : Nat) : (-1 : Int) ^ k = 1 ∨ (-1 : Int) ^ k = -1 := by
  induction k with
  | zero => left; rfl
  | succ k ih => rw [Int.pow_succ]; lia
theorem pm_pow_eq (k : Nat) : (-1 : Int) ^ k = if k % 2 = 0 then 1 else -1 := by
  induction k with
  | zero => rfl
  | succ k ih => rw [Int.pow_succ, ih]; split <;> split <;> lia
theorem pm_mul {x : Int} (k : Nat) (h : -1 ≤ x ∧ x ≤ 1) : -1 ≤ x * (-1) ^ k ∧ x * (-1) ^ k ≤ 1 := by
  rcases pm_pow k with e | e <;> rw [e] <;> lia
theorem mulOk_pm {x b : Int} (k : Nat) (h : -1 ≤ x ∧ x ≤ 1) : IntMulOk (x * (-1) ^ k) b := IntMulOk.of_left (PySem.intBits_le_64 (by have := pm_mul k h; lia) (by have := pm_mul k h; lia))
theorem told_turn {P column size back sign quotient : Int} {ns : List Int} (hns : bookL P 71 = ns) (h : ToldP P column size back sign quotient) (hg : -1 ≤ sign) (hg2 : sign ≤ 1) (hb2 : back ≤ 63) (hb : size ≤ back) (hsz : 2 ≤ size ∧ size ≤ 7) :
    (-1 ≤ sign * (-1) ^ size.toNat ∧ sign * (-1) ^ size.toNat ≤ 1) ∧ (-7 ≤ back - 2 * size ∧ back - 2 * size ≤ 63) ∧
      ToldP P column size (back - 2 * size) (sign * (-1) ^ size.toNat) (quotient + sign * (ns.getD (back - size + 1).toNat 0 + ns.getD (if back - size - 1 < 0 then -(back - size - 1) else back - size - 1).toNat 0)) := by
  refine ⟨pm_mul _ ⟨hg, hg2⟩, by lia, ?_⟩
  have e : (if back - size - 1 < 0 then -(back - size - 1) else back - size - 1).toNat = (back - size - 1).natAbs := by split <;> lia
  rw [e, ← hns, bookL_getD _ _ _ (by lia), bookL_getD _ _ _ (by lia)]
  refine told_step h hb hsz.1 ?_
  rw [pm_pow_eq]
  by_cases z : size % 2 = 0
  · rw [if_pos z, if_pos (by lia)]
  · rw [if_neg z, if_neg (by lia)]
theorem pm_one (back : Int) (h : back < 0) : (-1 : Int) ^ (1 - back).toNat = if (1 - back) % 2 = 0 then 1 else -1 := by
  rw [pm_pow_eq]
  by_cases z : (1 - back) % 2 = 0
  · rw [if_pos z, if_pos (by lia)]
  · rw [if_neg z, if_neg (by lia)]
theorem C_told (w : World) (mean : ExcName → Option Value) (mg mb : Str → Option Value) (dp un : Nat) (gd : Option (List Code)) (outer : List Env) (s : Shared) (Q E : Value → Shared → Prop)
    (P : Int) (bk : Addr) (vs : List Value) (column : Int) (t1 : Tok) (size : Int) (t2 : Tok) (hsz : 2 ≤ size ∧ size ≤ 7) (hcol : 0 ≤ column ∧ column ≤ 63)
    (hbk : s.heap.IsList bk vs.toArray) (hvs : IntsAre vs (bookL P 71))
    (X : (KF w.params).In s.heap) (T : TopM mean mg mb s.heap) (hdp : dp < recursionLimit) (hun : un + 8 < cLine)
    (hret : ∀ (sign q back : Int) (u1 u2 u3 : Tok) (a : Addr) (h' : Heap) (tk' : Nat), Keeps s.heap h' → s.heap.get? a = none → h'.get? a = some { cls := .type "tuple", data := .seq #[.int sign u1, .int q u2, .int back u3] } → ToldE P column size sign q back → Q (.ref a) { s with heap := h', toks := tk' }) :
    wpAny (model PW w) (arn dp un gd outer) (call (.ref 221) [.ref bk, .int column t1, .int size t2]) Q E s := by
  have hfill : PySem.Challenge.rw_rl0135_01 = PySem.Challenge.rw_rl0135_01 ∧ KF = KF := by k_fill; exact ⟨rfl, rfl⟩
  clear hfill
  have hlen : (bookL P 71).length = 71 := bookL_length P 71
  generalize hns : bookL P 71 = ns at *
  w_on
  k_with_none
  k_with "exec While Compare cons nil" => k_while (fun script back sign quotient => (-1 ≤ sign ∧ sign ≤ 1) ∧ (-7 ≤ back ∧ back ≤ 63) ∧ ToldP P column size back sign quotient) (fun script back sign quotient => (back + 20).toNat) "back" "sign" "quotient"
  k_with "state" => first | exact ⟨by lia, by lia, told_start (by lia) (by lia)⟩ | exact told_turn (by assumption) (by assumption) (by assumption) (by assumption) (by assumption) (by assumption) (by assumption)
  refine wpAny_call ?_
  k_dflt (refine' enterP ?k3 ?k5 ?k6 ?k7 ?k8 ?k9 ?kB ?_ ?c5 ?c2 ?c3 ?c4; (case k3 => k_asm); (case k5 => exact T.nolimit); (case k6 => k_is); (case k7 => k_is); (case k8 => exact hdp); (case k9 => exact BindsTo.of_eq rfl); (case kB => exact locs rfl); (case c5 => decide); (case c2 => exact rfl); (case c3 => exact rfl); (case c4 => exact rfl))
  intro L' h' F' N'
  (try dsimp only)
  (try k_fold)
  repeat' (first | ((with_reducible show wpAny _ _ (binaryOp Operator.Mult (Value.int _ _) (Value.int _ _)) _ _ _); refine mul_int ?_ (by exact mulOk_pm _ (by lia))) | ((with_reducible show wpAny _ _ (inplaceOp Operator.Mult (Value.int _ _) (Value.int _ _)) _ _ _); refine imul_int ?_ (by exact mulOk_pm _ (by lia))) | (k_unfold; (try dsimp only)) | (k_end; kc_close) | (walk1; (try dsimp only)) | (dsimp only; walk1; (try dsimp only)) | (leave1; (try dsimp only)) | fail "no step")
  all_goals (rename ToldP _ _ _ _ _ _ => hP; rename News _ _ _ _ => nE; rename Fr _ _ _ _ => fE)
  · exact hret _ _ _ _ _ _ _ _ _ (Fr.keep fE) (nE.fresh (List.mem_cons_self ..)) (nE.get (List.mem_cons_self ..)) ((told_end hP (by assumption) hcol.1 hsz.1 (.inr ⟨by assumption, rfl, by rw [pm_one _ (by assumption)]⟩)).1 (by assumption))
  · exact hret _ _ _ _ _ _ _ _ _ (Fr.keep fE) (nE.fresh (List.mem_cons_self ..)) (nE.get (List.mem_cons_self ..)) ((told_end hP (by assumption) hcol.1 hsz.1 (.inr ⟨by assumption, rfl, by rw [pm_one _ (by assumption)]⟩)).2 (by assumption))
  · exact hret _ _ _ _ _ _ _ _ _ (Fr.keep fE) (nE.fresh (List.mem_cons_self ..)) (nE.get (List.mem_cons_self ..)) ((told_end hP (by assumption) hcol.1 hsz.1 (.inl ⟨by lia, rfl, rfl⟩)).1 (by assumption))
  · exact hret _ _ _ _ _ _ _ _ _ (Fr.keep fE) (nE.fresh (List.mem_cons_self ..)) (nE.get (List.mem_cons_self ..)) ((told_end hP (by assumption) hcol.1 hsz.1 (.inl ⟨by lia, rfl, rfl⟩)).2 (by assumption))
end Mine
end
section
open PySem PySem.W PyProof.Rows PySem.Calls PySem.Spec
namespace Mine
@[reducible] noncomputable def forB : Stmt → List Stmt
  | .For _ _ b _ _ => b
  | _ => []
@[reducible] noncomputable def lB0 : Stmt := (⟨_, rfl⟩ : { x // (forB lS12)[0]? = some x }).1
@[reducible] noncomputable def lB1 : Stmt := (⟨_, rfl⟩ : { x // (forB lS12)[1]? = some x }).1
@[reducible] noncomputable def lB2 : Stmt := (⟨_, rfl⟩ : { x // (forB lS12)[2]? = some x }).1
@[reducible] noncomputable def lB3 : Stmt := (⟨_, rfl⟩ : { x // (forB lS12)[3]? = some x }).1
theorem lB_all : forB lS12 = [lB0, lB1, lB2, lB3] := rfl
theorem law_b0 (w : World) (mean : ExcName → Option Value) (mg mb : Str → Option Value) (dp un : Nat) (gd : Option (List Code)) (outer : List Env) (g : Heap) (L a : Addr) (cd : Value) (m : Str → Option Value) (nw : List (Addr × Obj)) (s : Shared) (Q : Flow → Shared → Prop) (E : Value → Shared → Prop)
    (size : Int) (ts : Tok) (hsz : 2 ≤ size ∧ size ≤ 7) (lead : Str) (tl0 : Tok) (hlen : lead.length ≤ 18) (hcol : 0 ≤ walkF lead size ∧ walkF lead size ≤ 63) (P : Int) (bk : Addr) (cb : Nat) (vs : List Value) (hvs : IntsAre vs (bookL P 71))
    (F : Fr g L s.heap (fun z => if z = Str.ofString "size" then some (.int size ts) else if z = Str.ofString "books" then some (.ref bk) else if z = Str.ofString "lead" then some (.str lead tl0) else m z)) (N : News g L s.heap ((bk, W.listOf vs.toArray cb) :: nw)) (X : (KF w.params).In g) (T : TopM mean mg mb g) (hdp : dp + 10 < recursionLimit) (hun : un + 100 < cLine)
    (hret : ∀ (sign q back : Int) u1 u2 u3 h' tk', ToldE P (walkF lead size) size sign q back → Fr g L h' (fun z => if z = Str.ofString "back" then some (.int back u3) else if z = Str.ofString "quotient" then some (.int q u2) else if z = Str.ofString "sign" then some (.int sign u1) else if z = Str.ofString "size" then some (.int size ts) else if z = Str.ofString "books" then some (.ref bk) else if z = Str.ofString "lead" then some (.str lead tl0) else m z) → News g L h' ((bk, W.listOf vs.toArray cb) :: nw) → Q .next { s with heap := h', toks := tk' }) :
    wpAny (model PW w) (arn dp un gd outer) (exec lB0 (lawE L a cd)) Q E s := by
  have hfill : PySem.Challenge.rw_rl0135_01 = PySem.Challenge.rw_rl0135_01 ∧ KF = KF := by k_fill; exact ⟨rfl, rfl⟩
  clear hfill
  w_on
  k_with_none
  iterate 15 (first | walk1 | (dsimp only; walk1))
  refine ⟨X.keeps F.keep, ?_⟩
  refine C_walk w mean mg mb dp un gd outer _ _ _ lead _ size _ hsz hlen (X.keeps F.keep) (T.keeps F.keep) (by lia) (by lia) ?_
  intro t1 h1 tk1 hk1
  have F1 := F.keeps hk1
  have N1 := N.grown hk1
  clear F N
  iterate 3 (first | walk1 | (dsimp only; walk1))
  refine ⟨X.keeps F1.keep, ?_⟩
  refine C_told w mean mg mb dp un gd outer _ _ _ P bk vs _ _ size _ hsz hcol (N1.isList (.head _)) hvs (X.keeps F1.keep) (T.keeps F1.keep) (by lia) (by lia) ?_
  intro sign q back u1 u2 u3 a2 h2 tk2 hk2 hn2 hg2 hE2
  have F2 := F1.keeps hk2
  have N2 := news_add F1 N1 hk2 hn2 hg2
  clear F1 N1
  iterate 12 (try first | walk1 | (dsimp only; walk1))
  (rename Fr _ _ _ _ => fE); (rename News _ _ _ _ => nE)
  show Q Flow.next { s with heap := _, toks := _ }
  exact hret _ _ _ _ _ _ _ _ hE2 fE fun p hp => nE p (.tail _ hp)
end Mine
end
section
open PySem PySem.W PyProof.Rows PySem.Calls PySem.Spec
namespace Mine
theorem law_b1 (w : World) (mean : ExcName → Option Value) (mg mb : Str → Option Value) (dp un : Nat) (gd : Option (List Code)) (outer : List Env) (g : Heap) (L a : Addr) (cd : Value) (m : Str → Option Value) (nw : List (Addr × Obj)) (s : Shared) (Q : Flow → Shared → Prop) (E : Value → Shared → Prop)
    (size : Int) (ts : Tok) (hsz : 2 ≤ size ∧ size ≤ 7) (x dx T1 T2 : Addr) (xt : Str) (t1 : Tok) (n nt b : Nat) (vs : List Value) (ns : List Int) (u1 u2 u3 k1 k2 k3 k4 k5 : Tok) (bb : Bool) (hi : IntsAre vs ns) (hlen : ns.length ≤ 60) (hnt : nt ≤ 60) (hb : b ≤ 60)
    (F : Fr g L s.heap (fun z => if z = Str.ofString "size" then some (.int size ts) else if z = Str.ofString "margin" then some (.ref x) else m z)) (N : News g L s.heap (margL w.params x dx T1 T2 xt t1 n nt b vs u1 u2 u3 k1 k2 k3 k4 k5 bb ++ nw)) (X : (KF w.params).In g) (T : TopM mean mg mb g) (hdp : dp + 20 < recursionLimit) (hun : un + 100 < cLine)
    (hret : ∀ v1 v2 h' tk', Fr g L h' (fun z => if z = Str.ofString "column" then some (.int (indF size ns nt b) v1) else if z = Str.ofString "turn" then some (.int ((-1) ^ size.toNat) v2) else if z = Str.ofString "size" then some (.int size ts) else if z = Str.ofString "margin" then some (.ref x) else m z) → News g L h' (margL w.params x dx T1 T2 xt t1 n nt b vs u1 u2 u3 k1 k2 k3 k4 k5 bb ++ nw) → Q .next { s with heap := h', toks := tk' }) :
    wpAny (model PW w) (arn dp un gd outer) (exec lB1 (lawE L a cd)) Q E s := by
  have hfill : PySem.Challenge.rw_rl0135_01 = PySem.Challenge.rw_rl0135_01 ∧ KF = KF := by k_fill; exact ⟨rfl, rfl⟩
  clear hfill
  w_on
  k_with_none
  iterate 10 (try first | walk1 | (dsimp only; walk1))
  refine ⟨X.keeps F.keep, ?_⟩
  refine call_ind w mean mg mb dp un gd outer g L _ _ _ _ _ x dx T1 T2 xt t1 n nt b vs ns u1 u2 u3 k1 k2 k3 k4 k5 bb size ts hsz hi hlen hnt hb F N (fun p hp => List.mem_append_left _ hp) X T (by lia) (by lia) ?_
  intro v1 h1 tk1 F1 N1
  clear F N
  iterate 20 (try first | walk1 | (dsimp only; walk1))
  (rename Fr _ _ _ _ => fE); (rename News _ _ _ _ => nE)
  show Q Flow.next { s with heap := _, toks := _ }
  exact hret _ _ _ _ fE fun p hp => nE p (.tail _ hp)
end Mine
end
section
open PySem PySem.W PyProof.Rows PySem.Calls PySem.Spec
namespace Mine
theorem pm_ok {x b : Int} (h : x = 1 ∨ x = -1) : IntMulOk x b := IntMulOk.of_left (PySem.intBits_le_64 (by lia) (by lia))
theorem law_b2 (w : World) (mean : ExcName → Option Value) (mg mb : Str → Option Value) (dp un : Nat) (gd : Option (List Code)) (outer : List Env) (G0 g : Heap) (L a : Addr) (cd : Value) (m : Str → Option Value) (I bk : Addr) (oI : Obj) (vis tl : List (Addr × Obj)) (s : Shared) (Q : Flow → Shared → Prop) (E : Value → Shared → Prop)
    (k : Int) (hk : 1 ≤ k ∧ k ≤ 11) (wd : Nat) (hwd : 64 ≤ wd ∧ wd ≤ 1088) (vs : List Value) (cb : Nat) (hvs : IntsAre vs (bookL (k * 2 ^ wd) 71))
    (size column sign turn : Int) (ts tc tg tt : Tok) (hsz : 2 ≤ size ∧ size ≤ 7) (hcol : 0 ≤ column ∧ column ≤ 63) (hs1 : sign = 1 ∨ sign = -1) (ht1 : turn = 1 ∨ turn = -1)
    (F : Fr g L s.heap (fun z => if z = Str.ofString "column" then some (.int column tc) else if z = Str.ofString "turn" then some (.int turn tt) else if z = Str.ofString "sign" then some (.int sign tg) else if z = Str.ofString "size" then some (.int size ts) else if z = Str.ofString "books" then some (.ref bk) else m z))
    (N : News g L s.heap ((I, oI) :: (((bk, W.listOf vs.toArray cb) :: vis) ++ tl))) (hI : RIt oI) (hv : ∀ p ∈ vis, NoTab p.2) (G : Gr w mean mg mb G0) (KG : Keeps G0 g) (hTL : TL G0 g tl) (X : (KF w.params).In g) (T : TopM mean mg mb g) (hdp : dp + 40 < recursionLimit) (hun : un + 100 < cLine)
    (hret : ∀ q' r' v1 v2 t9 h' tk' tl', IsDM (turn * sign * U (k * 2 ^ wd) column.toNat) (turn * U (k * 2 ^ wd) size.toNat) q' r' → TL G0 g tl' → Fr g L h' (fun z => if z = Str.ofString "answer" then some (.ref t9) else if z = Str.ofString "column" then some (.int column tc) else if z = Str.ofString "turn" then some (.int turn tt) else if z = Str.ofString "sign" then some (.int sign tg) else if z = Str.ofString "size" then some (.int size ts) else if z = Str.ofString "books" then some (.ref bk) else m z) → News g L h' ((t9, tup2 q' r' v1 v2) :: (I, oI) :: (((bk, W.listOf vs.toArray cb) :: vis) ++ tl')) → Q .next { s with heap := h', toks := tk' }) :
    wpAny (model PW w) (arn dp un gd outer) (exec lB2 (lawE L a cd)) Q E s := by
  have hfill : PySem.Challenge.rw_rl0135_01 = PySem.Challenge.rw_rl0135_01 ∧ KF = KF := by k_fill; exact ⟨rfl, rfl⟩
  clear hfill
  w_on
  k_with_none
  have hlen : (bookL (k * 2 ^ wd) 71).length = 71 := bookL_length _ _
  have hts : turn * sign = 1 ∨ turn * sign = -1 := by rcases hs1 with rfl | rfl <;> rcases ht1 with rfl | rfl <;> decide
  obtain ⟨ns, hns⟩ : ∃ ns, ns = bookL (k * 2 ^ wd) 71 := ⟨_, rfl⟩
  rw [← hns] at hvs hlen
  iterate 26 (try first | ((with_reducible show wpAny _ _ (binaryOp Operator.Mult (Value.int _ _) (Value.int _ _)) _ _ _); refine mul_int ?_ (by exact pm_ok ‹_›)) | ((with_reducible show wpAny _ _ (inplaceOp Operator.Mult (Value.int _ _) (Value.int _ _)) _ _ _); refine imul_int ?_ (by exact pm_ok ‹_›)) | walk1 | (dsimp only; walk1))
  rw [hns, bookL_getD _ _ _ (by lia), bookL_getD _ _ _ (by lia)]
  have hsize : DmSz (turn * sign * U (k * 2 ^ wd) column.toNat) (turn * U (k * 2 ^ wd) size.toNat) := dm_size hk hwd (by lia) (by lia) hts ht1
  have hU := U_pos (k * 2 ^ wd) (P_bits hk hwd).2.2
  have hb0 : turn * U (k * 2 ^ wd) size.toNat ≠ 0 := by
    obtain ⟨z, hz⟩ : ∃ z, size.toNat = z + 1 := ⟨size.toNat - 1, by lia⟩
    have h1 := (hU z).1
    have h2 := (hU z).2
    rw [hz]
    rcases ht1 with rfl | rfl <;> lia
  refine call_idmI (vis := (bk, W.listOf vs.toArray cb) :: vis) (k := 2) (idm_all w mean mg mb G0 G _ _ hb0 hsize) KG hTL F N hI (fun p hp => ?_) (show dp + 32 + 2 < recursionLimit by lia) (show un + 90 + 3 * 2 < cLine by lia) ?_
  · rcases List.mem_cons.mp hp with rfl | hp
    · exact listOf_nf _ _
    · exact hv p hp
  intro q r v1 v2 t9 h9 tk9 tl9 F9 hTL9 N9 hD9
  clear F N
  iterate 1 (first | ((with_reducible show wpAny _ _ (binaryOp Operator.Mult (Value.int _ _) (Value.int _ _)) _ _ _); refine mul_int ?_ (by exact pm_ok ‹_›)) | ((with_reducible show wpAny _ _ (inplaceOp Operator.Mult (Value.int _ _) (Value.int _ _)) _ _ _); refine imul_int ?_ (by exact pm_ok ‹_›)) | walk1 | (dsimp only; walk1))
  (rename Fr _ _ _ _ => fE); (rename News _ _ _ _ => nE)
  show Q Flow.next { s with heap := _, toks := _ }
  exact hret _ _ _ _ _ _ _ _ hD9 hTL9 fE nE
end Mine
end
section
open PySem PySem.W PyProof.Rows PySem.Calls PySem.Spec
namespace Mine
theorem ne_pair {prog : Program} {w : World} {A : Around} {E : Value → Shared → Prop} {s : Shared} {g : Heap} {L a b : Addr} {news : List (Addr × Obj)} {q r : Int} {v1 v2 u1 u2 : Tok} {Q : Value → Shared → Prop}
    (N : News g L s.heap news) (m1 : (a, tup2 q r v1 v2) ∈ news) (m2 : (b, ({ cls := .type "tuple", data := .seq #[.int q u1, .int r u2] } : Obj)) ∈ news) (hu : A.units + 64 < cLine) (h : Q (.bool false) s) : wpAny (model prog w) A (compareOp .NotEq (.ref a) (.ref b)) Q E s := by
  have hsh : SeqAt.shaped (.tuple [.int q, .int r]) = true := by
    unfold SeqAt.shaped
    simp [PyData.canLay0, PyData.canLayAll0, PyData.depth, PyData.depthAll]
  refine ne_dataH (reads_tuple_at (N.get m1) rfl rfl (.cons (.int _ _) (.cons (.int _ _) .nil))) (reads_tuple_at (N.get m2) rfl rfl (.cons (.int _ _) (.cons (.int _ _) .nil))) hsh hsh hu ?_
  rw [SeqAt.eqv_refl _ (by simp [PyData.canLay0, PyData.canLayAll0])]
  exact h
theorem law_b3 (w : World) (mean : ExcName → Option Value) (mg mb : Str → Option Value) (dp un : Nat) (gd : Option (List Code)) (outer : List Env) (G0 g : Heap) (L a : Addr) (cd : Value) (m : Str → Option Value) (I bk t9 : Addr) (oI : Obj) (vis tl : List (Addr × Obj)) (s : Shared) (Q : Flow → Shared → Prop) (E : Value → Shared → Prop)
    (k : Int) (hk : 1 ≤ k ∧ k ≤ 11) (wd : Nat) (hwd : 64 ≤ wd ∧ wd ≤ 1088) (vs : List Value) (cb : Nat) (hvs : IntsAre vs (bookL (k * 2 ^ wd) 71))
    (q r back turn : Int) (v1 v2 tq tb tt tw tk : Tok) (hback : 0 ≤ back ∧ back ≤ 6) (ht1 : turn = 1 ∨ turn = -1) (hr : r = turn * U (k * 2 ^ wd) back.toNat) (hr2 : turn * r = U (k * 2 ^ wd) back.toNat)
    (F : Fr g L s.heap (fun z => if z = Str.ofString "answer" then some (.ref t9) else if z = Str.ofString "turn" then some (.int turn tt) else if z = Str.ofString "back" then some (.int back tb) else if z = Str.ofString "quotient" then some (.int q tq) else if z = Str.ofString "books" then some (.ref bk) else if z = Str.ofString "width" then some (.int (wd : Int) tw) else if z = Str.ofString "kinds" then some (.int k tk) else m z))
    (N : News g L s.heap ((t9, tup2 q r v1 v2) :: (I, oI) :: (((bk, W.listOf vs.toArray cb) :: vis) ++ tl))) (hI : RIt oI) (hv : ∀ p ∈ vis, NoTab p.2) (G : Gr w mean mg mb G0) (KG : Keeps G0 g) (hTL : TL G0 g tl) (X : (KF w.params).In g) (T : TopM mean mg mb g) (hdp : dp + 40 < recursionLimit) (hun : un + 100 < cLine)
    (hret : ∀ h' tk' tl', TL G0 g tl' → Fr g L h' (fun z => if z = Str.ofString "answer" then some (.ref t9) else if z = Str.ofString "turn" then some (.int turn tt) else if z = Str.ofString "back" then some (.int back tb) else if z = Str.ofString "quotient" then some (.int q tq) else if z = Str.ofString "books" then some (.ref bk) else if z = Str.ofString "width" then some (.int (wd : Int) tw) else if z = Str.ofString "kinds" then some (.int k tk) else m z) → News g L h' ((I, oI) :: (((bk, W.listOf vs.toArray cb) :: vis) ++ tl')) → Q .next { s with heap := h', toks := tk' }) :
    wpAny (model PW w) (arn dp un gd outer) (exec lB3 (lawE L a cd)) Q E s := by
  have hfill : PySem.Challenge.rw_rl0135_01 = PySem.Challenge.rw_rl0135_01 ∧ KF = KF := by k_fill; exact ⟨rfl, rfl⟩
  clear hfill
  w_on
  k_with_none
  have hlen : (bookL (k * 2 ^ wd) 71).length = 71 := bookL_length _ _
  obtain ⟨ns, hns⟩ : ∃ ns, ns = bookL (k * 2 ^ wd) 71 := ⟨_, rfl⟩
  rw [← hns] at hvs hlen
  iterate 17 (first | ((with_reducible show wpAny _ _ (binaryOp Operator.Mult (Value.int _ _) (Value.int _ _)) _ _ _); refine mul_int ?_ (by exact pm_ok ‹_›)) | ((with_reducible show wpAny _ _ (inplaceOp Operator.Mult (Value.int _ _) (Value.int _ _)) _ _ _); refine imul_int ?_ (by exact pm_ok ‹_›)) | walk1 | (dsimp only; walk1))
  (rename Fr _ _ _ _ => F1); (rename News _ _ _ _ => N1)
  have hgb : ns.getD back.toNat 0 = U (k * 2 ^ wd) back.toNat := by rw [hns, bookL_getD _ _ _ (by lia)]
  rw [hgb, ← hr] at N1
  refine ne_pair N1 (.tail _ (.head _)) (.head _) (show un + 64 < cLine by lia) ?_
  iterate 25 (try first | ((with_reducible show wpAny _ _ (binaryOp Operator.Mult (Value.int _ _) (Value.int _ _)) _ _ _); refine mul_int ?_ (by exact pm_ok ‹_›)) | ((with_reducible show wpAny _ _ (inplaceOp Operator.Mult (Value.int _ _) (Value.int _ _)) _ _ _); refine imul_int ?_ (by exact pm_ok ‹_›)) | walk1 | (dsimp only; walk1))
  (rename Fr _ _ _ _ => F2); (rename News _ _ _ _ => N2)
  have N3 : News g L _ ((I, oI) :: (((bk, W.listOf vs.toArray cb) :: vis) ++ tl)) := fun p hp => N2 p (.tail _ (.tail _ hp))
  clear N2
  rw [hr2]
  obtain ⟨p1, p2, p3⟩ := P_bits hk hwd
  have hU0 := (U_pos (k * 2 ^ wd) p3 back.toNat).1
  have hUb := (U_bits (P := k * 2 ^ wd) p2 back.toNat).1
  have hUb2 : back.toNat * (1092 + 2) ≤ 6 * 1094 := Nat.mul_le_mul_right _ (by lia)
  have hK : ((Builtin.Int.intBits (U (k * 2 ^ wd) back.toNat) : Int) + (wd : Int) - 1).fdiv wd ≤ 128 := by
    rw [Int.fdiv_eq_ediv_of_nonneg _ (by lia)]
    have : ((Builtin.Int.intBits (U (k * 2 ^ wd) back.toNat) : Int) + (wd : Int) - 1) / (wd : Int) < 129 := Int.ediv_lt_of_lt_mul (by lia) (by lia)
    lia
  refine call_i2dI (vis := (bk, W.listOf vs.toArray cb) :: vis) G KG hTL F2 N3 hI (fun p hp => ?_) hU0 ⟨by lia, by lia⟩ (by lia) hK (show dp + 20 < recursionLimit by lia) (show un + 60 < cLine by lia) ?_
  · rcases List.mem_cons.mp hp with rfl | hp
    · exact listOf_nf _ _
    · exact hv p hp
  intro r4 h4 tk4 vs4 ns4 nn4 tl4 F4 hTL4 N4 hi4 hd4
  rw [Int.toNat_natCast] at hd4
  have hcd := cnt_digits hk hwd.1 back.toNat (by lia)
  rw [hcd, Int.toNat_of_nonneg hback.1] at hd4
  rw [hd4] at hi4
  clear F2 N3 hTL
  iterate 12 (try first | ((with_reducible show wpAny _ _ (binaryOp Operator.Mult (Value.int _ _) (Value.int _ _)) _ _ _); refine mul_int ?_ (by exact pm_ok ‹_›)) | ((with_reducible show wpAny _ _ (inplaceOp Operator.Mult (Value.int _ _) (Value.int _ _)) _ _ _); refine imul_int ?_ (by exact pm_ok ‹_›)) | walk1 | (dsimp only; walk1))
  refine C_counts w mean mg mb dp un gd outer _ _ _ (back - 1) k _ _ ⟨by lia, by lia⟩ hk (X.keeps F4.keep) (T.keeps F4.keep) (by lia) (by lia) ?_
  intro r5 h5 tk5 vs5 nn5 hk5 hn5 hg5 hi5
  have F5 := F4.keeps hk5
  have N5 := news_add F4 N4 hk5 hn5 hg5
  clear F4 N4
  refine ke_ne_ints (N5.isList (.tail _ (.head _))) (N5.isList (.head _)) hi4 hi5 (show un + 64 < cLine by lia) ?_
  rw [decide_eq_true rfl]
  iterate 8 (try first | ((with_reducible show wpAny _ _ (binaryOp Operator.Mult (Value.int _ _) (Value.int _ _)) _ _ _); refine mul_int ?_ (by exact pm_ok ‹_›)) | ((with_reducible show wpAny _ _ (inplaceOp Operator.Mult (Value.int _ _) (Value.int _ _)) _ _ _); refine imul_int ?_ (by exact pm_ok ‹_›)) | walk1 | (dsimp only; walk1))
  (rename Fr _ _ _ _ => fE); (rename News _ _ _ _ => nE)
  show Q Flow.next { s with heap := _, toks := _ }
  exact hret _ _ _ hTL4 fE fun p hp => nE p (.tail _ (.tail _ hp))
end Mine
end
section
open PySem PySem.W PyProof.Rows PySem.Calls PySem.Spec
namespace Mine
theorem w_cons {M : Model} {A : Around} {E : Value → Shared → Prop} {s : Shared} {env : Env} {st : Stmt} {rest : List Stmt} {Q : Flow → Shared → Prop} (h : wpAny M A (exec st env) (fun f s' => match f with | .next => wpAny M A (execs rest env) Q E s' | f => Q f s') E s) : wpAny M A (execs (st :: rest) env) Q E s := by
  rw [execs_cons]
  refine wpAny_bind (wpAny_mono h (fun f s' hf => ?_) fun _ _ e => e)
  cases f <;> first | exact hf | exact wpAny_pure hf
theorem fr_front {g h : Heap} {L : Addr} {m : Str → Option Value} {x : Str} {v : Value} (F : Fr g L h m) (e : m x = some v) : Fr g L h (fun z => if z = x then some v else m z) := by
  have : (fun z => if z = x then some v else m z) = m := by
    funext z
    by_cases hz : z = x
    · rw [if_pos hz, hz, e]
    · rw [if_neg hz]
  rw [this]; exact F
theorem front_eq {m : Str → Option Value} {x : Str} {v : Value} (e : m x = some v) (z : Str) : (if z = x then some v else m z) = m z := by
  by_cases hz : z = x
  · rw [if_pos hz, hz, e]
  · rw [if_neg hz]
theorem marg_nf (P : Params) (x dx T1 T2 : Addr) (xt : Str) (t1 : Tok) (n nt b : Nat) (vs : List Value) (u1 u2 u3 k1 k2 k3 k4 k5 : Tok) (bb : Bool) : ∀ p ∈ margL P x dx T1 T2 xt t1 n nt b vs u1 u2 u3 k1 k2 k3 k4 k5 bb, NoTab p.2 := by
  intro p hp vs' e
  simp only [List.mem_cons, List.not_mem_nil, or_false] at hp
  rcases hp with rfl | rfl | rfl | rfl <;> cases e
noncomputable abbrev stoL : List Str := [Str.ofString "sign", Str.ofString "quotient", Str.ofString "back", Str.ofString "column", Str.ofString "turn", Str.ofString "answer"]
theorem law_12 (w : World) (mean : ExcName → Option Value) (mg mb : Str → Option Value) (dp un : Nat) (gd : Option (List Code)) (outer : List Env) (G0 g : Heap) (L a : Addr) (cd : Value) (m : Str → Option Value) (bk : Addr) (tl : List (Addr × Obj)) (s : Shared) (Q : Flow → Shared → Prop) (E : Value → Shared → Prop)
    (k : Int) (hk : 1 ≤ k ∧ k ≤ 11) (wd : Nat) (hwd : 64 ≤ wd ∧ wd ≤ 1088) (vs : List Value) (cb : Nat) (hvs : IntsAre vs (bookL (k * 2 ^ wd) 71))
    (lead : Str) (hlen : lead.length ≤ 18) (hcol : ∀ size, 2 ≤ size ∧ size ≤ 7 → 0 ≤ walkF lead size ∧ walkF lead size ≤ 63)
    (x dx T1 T2 : Addr) (xt : Str) (t1 : Tok) (n nt b : Nat) (ws : List Value) (ns : List Int) (u1 u2 u3 k1 k2 k3 k4 k5 : Tok) (bb : Bool) (hW : WsR (codesI lead) n nt b ns) (hi : IntsAre ws ns) (tm tk tw : Tok)
    (F : Fr g L s.heap (fun z => if z = Str.ofString "margin" then some (.ref x) else if z = Str.ofString "books" then some (.ref bk) else if z = Str.ofString "lead" then some (.str lead tm) else if z = Str.ofString "kinds" then some (.int k tk) else if z = Str.ofString "width" then some (.int (wd : Int) tw) else m z))
    (N : News g L s.heap (((bk, W.listOf vs.toArray cb) :: margL w.params x dx T1 T2 xt t1 n nt b ws u1 u2 u3 k1 k2 k3 k4 k5 bb) ++ tl)) (G : Gr w mean mg mb G0) (KG : Keeps G0 g) (hTL : TL G0 g tl) (X : (KF w.params).In g) (T : TopM mean mg mb g) (hdp : dp + 40 < recursionLimit) (hun : un + 100 < cLine)
    (hE : PassesOwn (model PW w) (arn dp un gd outer) (lawE L a cd) E)
    (hret : ∀ h' tk' m' base tl', TL G0 g tl' → Fr g L h' m' → News g L h' (base ++ tl') → Q .next { s with heap := h', toks := tk' }) :
    wpAny (model PW w) (arn dp un gd outer) (exec lS12 (lawE L a cd)) Q E s := by
  have hfill : PySem.Challenge.rw_rl0135_01 = PySem.Challenge.rw_rl0135_01 ∧ KF = KF := by k_fill; exact ⟨rfl, rfl⟩
  clear hfill
  w_on
  k_with_none
  have hwl := hW.len
  have hcl : (codesI lead).length ≤ 18 := by
    have : (codesI lead).length = lead.length := KStt.codes_length lead
    lia
  refine For_invV g (by rfl) (by rfl) ?_ (hE := hE)
  iterate 9 (try first | walk1 | (dsimp only; walk1))
  (rename IsRange _ _ _ _ _ _ _ _ => hr9); (rename Fr _ _ _ _ => F9); (rename News _ _ _ _ => N9)
  obtain ⟨M, hM⟩ : ∃ M, M = margL w.params x dx T1 T2 xt t1 n nt b ws u1 u2 u3 k1 k2 k3 k4 k5 bb := ⟨_, rfl⟩
  have hMn : ∀ p ∈ M, NoTab p.2 := by rw [hM]; exact marg_nf _ _ _ _ _ _ _ _ _ _ _ _ _ _ _ _ _ _ _ _
  rw [← hM] at N9
  obtain ⟨m0, hm0, F9⟩ : ∃ m0, m0 = _ ∧ Fr g L _ m0 := ⟨_, rfl, F9⟩
  have eM0 : m0 (Str.ofString "margin") = some (.ref x) := by rw [hm0]; rfl
  have eB0 : m0 (Str.ofString "books") = some (.ref bk) := by rw [hm0]; rfl
  have eL0 : m0 (Str.ofString "lead") = some (.str lead tm) := by rw [hm0]; rfl
  have eK0 : m0 (Str.ofString "kinds") = some (.int k tk) := by rw [hm0]; rfl
  have eW0 : m0 (Str.ofString "width") = some (.int (wd : Int) tw) := by rw [hm0]; rfl
  clear hm0
  refine kow_tl (G0 := G0) (n := 6) (base := (bk, W.listOf vs.toArray cb) :: M) (tl := tl) stoL (by rfl) hr9 (by decide) (by decide) hTL F9 N9 ?turn ?done
  case done => exact fun u h tk9 tl1 hT9 F9 N9 => hret _ _ _ _ tl1 hT9 F9 N9
  case turn =>
    intro size t u h tk9 I oI tl1 hs1 hs2 hR hT1 F1 N1
    obtain ⟨m1, hm1, F1⟩ : ∃ m1, m1 = _ ∧ Fr g L _ m1 := ⟨_, rfl, F1⟩
    have hsz : 2 ≤ size ∧ size ≤ 7 := ⟨hs1, by lia⟩
    have eS1 : m1 (Str.ofString "size") = some (.int size t) := by rw [hm1]; rfl
    have eM1 : m1 (Str.ofString "margin") = some (.ref x) := by rw [hm1]; exact eM0
    have eB1 : m1 (Str.ofString "books") = some (.ref bk) := by rw [hm1]; exact eB0
    have eL1 : m1 (Str.ofString "lead") = some (.str lead tm) := by rw [hm1]; exact eL0
    have eK1 : m1 (Str.ofString "kinds") = some (.int k tk) := by rw [hm1]; exact eK0
    have eW1 : m1 (Str.ofString "width") = some (.int (wd : Int) tw) := by rw [hm1]; exact eW0
    have q1 : ∀ y, y ≠ Str.ofString "size" → stoL.contains y = false → m1 y = m0 y := by
      intro y h1 h2
      rw [hm1]
      dsimp only
      rw [if_neg h1, h2]
      rfl
    clear hm1
    show wpAny (model PW w) (arn dp un gd outer) (execs [lB0, lB1, lB2, lB3] (lawE L a cd)) _ _ _
    have F1' : Fr g L h (fun z => if z = Str.ofString "size" then some (.int size t) else if z = Str.ofString "books" then some (.ref bk) else if z = Str.ofString "lead" then some (.str lead tm) else m1 z) := by
      simp only [front_eq eS1, front_eq eB1, front_eq eL1]; exact F1
    have N1' : News g L h ((bk, W.listOf vs.toArray cb) :: (I, oI) :: (M ++ tl1)) := fun p hp => N1 p (by simp only [List.mem_cons, List.mem_append, List.cons_append] at hp ⊢; grind)
    refine w_cons (law_b0 w mean mg mb dp un gd outer g L a cd m1 _ _ _ _ size t hsz lead tm hlen (hcol size hsz) (k * 2 ^ wd) bk cb vs hvs F1' N1' X T (by lia) (by lia) ?_)
    intro sign q back v1 v2 v3 h2 tk2 hE2 F2 N2
    simp only [front_eq eS1, front_eq eB1, front_eq eL1] at F2
    clear F1 F1' N1 N1'
    obtain ⟨m2, hm2, F2⟩ : ∃ m2, m2 = _ ∧ Fr g L h2 m2 := ⟨_, rfl, F2⟩
    have eS2 : m2 (Str.ofString "size") = some (.int size t) := by rw [hm2]; exact eS1
    have eM2 : m2 (Str.ofString "margin") = some (.ref x) := by rw [hm2]; exact eM1
    have eB2 : m2 (Str.ofString "books") = some (.ref bk) := by rw [hm2]; exact eB1
    have eK2 : m2 (Str.ofString "kinds") = some (.int k tk) := by rw [hm2]; exact eK1
    have eW2 : m2 (Str.ofString "width") = some (.int (wd : Int) tw) := by rw [hm2]; exact eW1
    have eG2 : m2 (Str.ofString "sign") = some (.int sign v1) := by rw [hm2]; rfl
    have eQ2 : m2 (Str.ofString "quotient") = some (.int q v2) := by rw [hm2]; rfl
    have eA2 : m2 (Str.ofString "back") = some (.int back v3) := by rw [hm2]; rfl
    have q2 : ∀ y, y ≠ Str.ofString "size" → stoL.contains y = false → m2 y = m0 y := by
      intro y h1 hc
      have hc' : y ∉ stoL := by simpa using hc
      simp only [stoL, List.mem_cons, not_or] at hc'
      rw [hm2]
      dsimp only
      rw [if_neg hc'.2.2.1, if_neg hc'.2.1, if_neg hc'.1]
      exact q1 y h1 hc
    clear hm2
    dsimp only
    have F2' : Fr g L h2 (fun z => if z = Str.ofString "size" then some (.int size t) else if z = Str.ofString "margin" then some (.ref x) else m2 z) := by
      simp only [front_eq eS2, front_eq eM2]; exact F2
    have N2' : News g L h2 (margL w.params x dx T1 T2 xt t1 n nt b ws u1 u2 u3 k1 k2 k3 k4 k5 bb ++ ((bk, W.listOf vs.toArray cb) :: (I, oI) :: tl1)) := by
      rw [← hM]
      exact fun p hp => N2 p (by simp only [List.mem_cons, List.mem_append] at hp ⊢; grind)
    refine w_cons (law_b1 w mean mg mb dp un gd outer g L a cd m2 _ _ _ _ size t hsz x dx T1 T2 xt t1 n nt b ws ns u1 u2 u3 k1 k2 k3 k4 k5 bb hi (by lia) (by lia) (by lia) F2' N2' X T (by lia) (by lia) ?_)
    intro v4 v5 h3 tk3 F3 N3
    simp only [front_eq eS2, front_eq eM2] at F3
    rw [← hM] at N3
    clear F2 F2' N2 N2'
    have hcol9 : indF size ns nt b = walkF lead size := (walk_ind hW hsz).symm
    have ht9 : ((-1 : Int) ^ size.toNat) = 1 ∨ ((-1 : Int) ^ size.toNat) = -1 := pm_pow _
    rw [hcol9] at F3
    obtain ⟨turn, hturn⟩ : ∃ turn, turn = ((-1 : Int) ^ size.toNat) := ⟨_, rfl⟩
    rw [← hturn] at F3 ht9
    obtain ⟨m3, hm3, F3⟩ : ∃ m3, m3 = _ ∧ Fr g L h3 m3 := ⟨_, rfl, F3⟩
    have eS3 : m3 (Str.ofString "size") = some (.int size t) := by rw [hm3]; exact eS2
    have eB3 : m3 (Str.ofString "books") = some (.ref bk) := by rw [hm3]; exact eB2
    have eK3 : m3 (Str.ofString "kinds") = some (.int k tk) := by rw [hm3]; exact eK2
    have eW3 : m3 (Str.ofString "width") = some (.int (wd : Int) tw) := by rw [hm3]; exact eW2
    have eG3 : m3 (Str.ofString "sign") = some (.int sign v1) := by rw [hm3]; exact eG2
    have eQ3 : m3 (Str.ofString "quotient") = some (.int q v2) := by rw [hm3]; exact eQ2
    have eA3 : m3 (Str.ofString "back") = some (.int back v3) := by rw [hm3]; exact eA2
    have eC3 : m3 (Str.ofString "column") = some (.int (walkF lead size) v4) := by rw [hm3]; rfl
    have eT3 : m3 (Str.ofString "turn") = some (.int turn v5) := by rw [hm3]; rfl
    have q3 : ∀ y, y ≠ Str.ofString "size" → stoL.contains y = false → m3 y = m0 y := by
      intro y h1 hc
      have hc' : y ∉ stoL := by simpa using hc
      simp only [stoL, List.mem_cons, not_or] at hc'
      rw [hm3]
      dsimp only
      rw [if_neg hc'.2.2.2.1, if_neg hc'.2.2.2.2.1]
      exact q2 y h1 hc
    clear hm3
    dsimp only
    have F3' : Fr g L h3 (fun z => if z = Str.ofString "column" then some (.int (walkF lead size) v4) else if z = Str.ofString "turn" then some (.int turn v5) else if z = Str.ofString "sign" then some (.int sign v1) else if z = Str.ofString "size" then some (.int size t) else if z = Str.ofString "books" then some (.ref bk) else m3 z) := by
      simp only [front_eq eC3, front_eq eT3, front_eq eG3, front_eq eS3, front_eq eB3]; exact F3
    have N3' : News g L h3 ((I, oI) :: (((bk, W.listOf vs.toArray cb) :: M) ++ tl1)) := fun p hp => N3 p (by simp only [List.mem_cons, List.mem_append, List.cons_append] at hp ⊢; grind)
    refine w_cons (law_b2 w mean mg mb dp un gd outer G0 g L a cd m3 I bk oI M tl1 _ _ _ k hk wd hwd vs cb hvs size (walkF lead size) sign turn t v4 v1 v5 hsz (hcol size hsz) hE2.1 ht9 F3' N3' hR hMn G KG hT1 X T (by lia) (by lia) ?_)
    intro q' r' v6 v7 t9 h4 tk4 tl4 hD hT4 F4 N4
    simp only [front_eq eC3, front_eq eT3, front_eq eG3, front_eq eS3, front_eq eB3] at F4
    clear F3 F3' N3 N3'
    obtain ⟨z1, z2, z3⟩ := size_ok (P_bits hk hwd).2.2 hE2 hsz.1 ht9 hD
    subst z1
    obtain ⟨m4, hm4, F4⟩ : ∃ m4, m4 = _ ∧ Fr g L h4 m4 := ⟨_, rfl, F4⟩
    have eN4 : m4 (Str.ofString "answer") = some (.ref t9) := by rw [hm4]; rfl
    have eB4 : m4 (Str.ofString "books") = some (.ref bk) := by rw [hm4]; exact eB3
    have eK4 : m4 (Str.ofString "kinds") = some (.int k tk) := by rw [hm4]; exact eK3
    have eW4 : m4 (Str.ofString "width") = some (.int (wd : Int) tw) := by rw [hm4]; exact eW3
    have eQ4 : m4 (Str.ofString "quotient") = some (.int q' v2) := by rw [hm4]; exact eQ3
    have eA4 : m4 (Str.ofString "back") = some (.int back v3) := by rw [hm4]; exact eA3
    have eT4 : m4 (Str.ofString "turn") = some (.int turn v5) := by rw [hm4]; exact eT3
    have q4 : ∀ y, y ≠ Str.ofString "size" → stoL.contains y = false → m4 y = m0 y := by
      intro y h1 hc
      have hc' : y ∉ stoL := by simpa using hc
      simp only [stoL, List.mem_cons, not_or] at hc'
      rw [hm4]
      dsimp only
      rw [if_neg hc'.2.2.2.2.2.1]
      exact q3 y h1 hc
    clear hm4
    dsimp only
    have F4' : Fr g L h4 (fun z => if z = Str.ofString "answer" then some (.ref t9) else if z = Str.ofString "turn" then some (.int turn v5) else if z = Str.ofString "back" then some (.int back v3) else if z = Str.ofString "quotient" then some (.int q' v2) else if z = Str.ofString "books" then some (.ref bk) else if z = Str.ofString "width" then some (.int (wd : Int) tw) else if z = Str.ofString "kinds" then some (.int k tk) else m4 z) := by
      simp only [front_eq eN4, front_eq eT4, front_eq eA4, front_eq eQ4, front_eq eB4, front_eq eW4, front_eq eK4]; exact F4
    have hback : 0 ≤ back ∧ back ≤ 6 := ⟨hE2.2.1, by have := hE2.2.2.1; lia⟩
    refine w_cons (law_b3 w mean mg mb dp un gd outer G0 g L a cd m4 I bk t9 oI M tl4 _ _ _ k hk wd hwd vs cb hvs q' r' back turn v6 v7 v2 v3 v5 tw tk hback ht9 z2 z3 F4' N4 hR hMn G KG hT4 X T (by lia) (by lia) ?_)
    intro h5 tk5 tl5 hT5 F5 N5
    simp only [front_eq eN4, front_eq eT4, front_eq eA4, front_eq eQ4, front_eq eB4, front_eq eW4, front_eq eK4] at F5
    dsimp only
    iterate 1 (first | walk1 | (dsimp only; walk1))
    exact ⟨h5, _, m4, tl5, rfl, hT5, F5, N5, q4⟩
end Mine
end
section
open PySem PySem.W PyProof.Rows PySem.Calls PySem.Spec
namespace Mine
theorem law_2 (w : World) (mean : ExcName → Option Value) (mg mb : Str → Option Value) (dp un : Nat) (gd : Option (List Code)) (outer : List Env) (g : Heap) (L a : Addr) (cd : Value) (m : Str → Option Value) (rest : List (Addr × Obj)) (s : Shared) (Q : Flow → Shared → Prop) (E : Value → Shared → Prop)
    (ax : Addr) (vs : List Value) (ns : List Int) (hl : g.IsList ax vs.toArray) (hi : IntsAre vs ns) (hlen : ns.length ≤ 63)
    (F : Fr g L s.heap (fun z => if z = Str.ofString "script" then some (.ref ax) else m z)) (N : News g L s.heap rest) (X : (KF w.params).In g) (T : TopM mean mg mb g) (hdp : dp + 10 < recursionLimit) (hun : un + 60 < cLine)
    (hret : ∀ B c us ks h' tk', IntsAre us ks → ks.length = 9 → Fr g L h' (fun z => if z = Str.ofString "numbers" then some (.ref B) else if z = Str.ofString "script" then some (.ref ax) else m z) → News g L h' ((B, W.listOf us.toArray c) :: rest) → Q .next { s with heap := h', toks := tk' }) :
    wpAny (model PW w) (arn dp un gd outer) (exec lS2 (lawE L a cd)) Q E s := by
  have hfill : PySem.Challenge.rw_rl0135_01 = PySem.Challenge.rw_rl0135_01 ∧ KF = KF := by k_fill; exact ⟨rfl, rfl⟩
  clear hfill
  w_on
  k_with_none
  have hvl := IntsAre.length hi
  iterate 50 (first | walk1 | (dsimp only; walk1))
  (rename Fr _ _ _ _ => fE); (rename News _ _ _ _ => nE)
  refine kba_turn (value' := PySem.Expr.Name (PySem.Str.ofString "_") ⟨0, 0, 0, 0⟩) (fun _ => rfl) ?_
  k_dflt (refine' kmk_slice_ints (ms := List.drop (List.take 9 ns).length [4, 240, 5, 29, 16, 13, 152, 3, 14]) ?yF ?yN ?yl ?yp ?yq ?yi ?ym ?yc ?_ ?ys ?yt ?yz; (case yF => exact fE); (case yN => exact nE); (case yl => kmk_list); (case yp => kmk_part); (case yq => kmk_part); (case yi => exact .cons _ _ (.cons _ _ (.cons _ _ (.cons _ _ (.cons _ _ (.cons _ _ (.cons _ _ (.cons _ _ (.cons _ _ .nil))))))))); (case ym => exact slice_ints_fromW (.cons _ _ (.cons _ _ (.cons _ _ (.cons _ _ (.cons _ _ (.cons _ _ (.cons _ _ (.cons _ _ (.cons _ _ .nil))))))))) (Int.natCast_nonneg _)); (case yc => rfl); (case ys => with_unfolding_all rfl); (case yt => kmk_pure); (case yz => kmk_size))
  intro D9 ws9 h9 F9 N9 l9 hI9 hC9 hL9
  clear fE nE
  iterate 4 (try first | walk1 | (dsimp only; walk1))
  (rename Fr _ _ _ _ => fE); (rename News _ _ _ _ => nE); (rename IntsAre _ (_ ++ _) => iE)
  show Q Flow.next { s with heap := _, toks := _ }
  refine hret _ 0 _ _ _ _ iE ?_ fE ?_
  · rw [List.length_append, List.length_drop, List.length_take]
    show min 9 ns.length + (9 - min 9 ns.length) = 9
    lia
  · intro p hp
    refine nE p ?_
    rcases List.mem_cons.mp hp with rfl | hp
    · exact List.mem_cons_self ..
    · exact .tail _ (.tail _ (.tail _ (.tail _ (.tail _ hp))))
end Mine
end
section
open PySem PySem.W PyProof.Rows PySem.Calls PySem.Spec
namespace Mine
theorem codes_app (x y : Str) : codesI (x ++ y) = codesI x ++ codesI y := by
  show List.map _ ((x.cps ++ y.cps).toList) = _
  simp [codesI]
theorem codes_nil : codesI (Str.ofString "") = [] := by decide +kernel
theorem join_str (sep : Str) (l : List Str) : Txt.join sep l = Str.join sep l := beq_iff_eq.mp (join_plain_closes sep l)
theorem join_codes' : ∀ (ps : List Str), codesI (Str.join (Str.ofString "") ps) = (ps.map codesI).flatten
  | [] => by show codesI { cps := #[] } = []; rfl
  | [x] => by show codesI x = _; simp
  | x :: y :: r => by
    have e : Str.join (Str.ofString "") (x :: y :: r) = x ++ Str.ofString "" ++ Str.join (Str.ofString "") (y :: r) := rfl
    rw [e, codes_app, codes_app, codes_nil, join_codes' (y :: r)]
    simp
theorem join_codes (ps : List Str) : codesI (Txt.join (Str.ofString "") ps) = (ps.map codesI).flatten := by rw [join_str]; exact join_codes' ps
theorem lead_facts {ps : List Str} (hp : ∀ x ∈ ps, pieceB x = true) (hl : ps.length ≤ 9) : (∀ x ∈ codesI (Txt.join (Str.ofString "") ps), IsWs x) ∧ (Txt.join (Str.ofString "") ps).length ≤ 18 ∧
    ∀ size, 2 ≤ size ∧ size ≤ 7 → 0 ≤ walkF (Txt.join (Str.ofString "") ps) size ∧ walkF (Txt.join (Str.ofString "") ps) size ≤ 63 := by
  have hP : ∀ x ∈ ps.map codesI, Piece x := by
    intro x hx
    obtain ⟨y, hy, rfl⟩ := List.mem_map.mp hx
    exact piece_codes (hp y hy)
  refine ⟨?_, ?_, fun size hs => walk_bnd (join_codes ps) hP (by rw [List.length_map]; exact hl) hs⟩
  · rw [join_codes]; exact piece_ws hP
  · have e : (Txt.join (Str.ofString "") ps).length = (codesI (Txt.join (Str.ofString "") ps)).length := (KStt.codes_length _).symm
    rw [e, join_codes]
    have : ∀ (l : List (List Int)), (∀ x ∈ l, Piece x) → l.flatten.length ≤ 2 * l.length := by
      intro l hl
      induction l with
      | nil => exact Nat.le_refl _
      | cons p r ih =>
        have h1 := ih fun q hq => hl q (.tail _ hq)
        have h2 : p.length ≤ 2 := by rcases hl p (.head _) with rfl | rfl | rfl <;> decide
        rw [List.flatten_cons, List.length_append, List.length_cons]
        lia
    have := this _ hP
    rw [List.length_map] at this
    lia
theorem news_front {g h : Heap} {L : Addr} {nw : List (Addr × Obj)} {q : Addr × Obj} (N : News g L h nw) (hm : q ∈ nw) : News g L h (q :: nw) := fun p hp => by
  rcases List.mem_cons.mp hp with rfl | hp
  · exact N _ hm
  · exact N _ hp
theorem law_all (w : World) (mean : ExcName → Option Value) (mg mb : Str → Option Value) (dp un : Nat) (gd : Option (List Code)) (outer : List Env) (g : Heap) (L a : Addr) (cd : Value) (m : Str → Option Value) (tl : List (Addr × Obj)) (s : Shared) (Q : Flow → Shared → Prop) (E : Value → Shared → Prop)
    (oA oB : Obj) (ax : Addr) (vs : List Value) (ns : List Int) (hl : g.IsList ax vs.toArray) (hi : IntsAre vs ns) (hlen : ns.length ≤ 63) (d1 : oA.data = .cell none) (d2 : oB.data = .cell none) (eX : m (Str.ofString "script") = some (.ref ax))
    (F : Fr g L s.heap m) (N : News g L s.heap ((L + 1 + 1, oA) :: (L + 1, oB) :: tl)) (htl : ∀ p ∈ tl, @LT.lt Nat _ p.1 L) (G : Gr w mean mg mb g) (hTL : TL g g tl) (hdp : dp + 50 < recursionLimit) (hun : un + 150 < cLine)
    (hE : PassesOwn (model PW w) (arn dp un gd outer) (lawE L a cd) E)
    (hret : ∀ h' tk' m' base tl', TL g g tl' → Fr g L h' m' → News g L h' (base ++ tl') → Q (.ret (.bool true)) { s with heap := h', toks := tk' }) :
    wpAny (model PW w) (arn dp un gd outer) (execs lF22.2.1 (lawE L a cd)) Q E s := by
  have X := G.X
  have T := G.T
  rw [lS_all]
  have F0 : Fr g L s.heap (fun z => if z = Str.ofString "script" then some (.ref ax) else m z) := by simp only [front_eq eX]; exact F
  refine w_cons (law_0 w mean mg mb dp un gd outer g L a cd m tl s _ _ oA oB ax vs ns hl hi hlen d1 d2 (fun p hp => Nat.ne_of_lt (Nat.lt_succ_of_lt (htl p hp))) F0 N X T (by lia) (by lia) ?_)
  intro tf oB h1 tk1 d2 F1 N1
  simp only [front_eq eX] at F1
  dsimp only
  clear F F0 N
  obtain ⟨f, hfe, hf⟩ : ∃ f : Nat, (ns.sum.fdiv 3).fmod 3 = (f : Int) ∧ (f = 0 ∨ f = 1 ∨ f = 2) := by
    have hb := fm_bnd (ns.sum.fdiv 3) 3 (by decide)
    exact ⟨((ns.sum.fdiv 3).fmod 3).toNat, by lia, by lia⟩
  rw [hfe] at d2
  refine w_cons (law_1 w mean mg mb dp un gd outer g L a cd m tl _ _ _ oA oB f tf hf d1 d2 (fun p hp => Nat.ne_of_lt (Nat.lt_succ_of_lt (Nat.lt_succ_of_lt (htl p hp)))) F1 N1 X T (by lia) (by lia) ?_)
  intro tA tD oA h2 tk2 Y Z hY hZ d1 F2 N2
  subst hY hZ
  dsimp only
  clear F1 N1
  obtain ⟨m2, hm2, F2⟩ : ∃ m2, m2 = _ ∧ Fr g L h2 m2 := ⟨_, rfl, F2⟩
  have eX2 : m2 (Str.ofString "script") = some (.ref ax) := by rw [hm2]; exact eX
  have eD2 : m2 (Str.ofString "double") = some (.str ({ cps := #[dblC f] } : Str) tD) := by rw [hm2]; rfl
  clear hm2
  have F2' : Fr g L h2 (fun z => if z = Str.ofString "script" then some (.ref ax) else m2 z) := by simp only [front_eq eX2]; exact F2
  refine w_cons (law_2 w mean mg mb dp un gd outer g L a cd m2 _ _ _ _ ax vs ns hl hi hlen F2' N2 X T (by lia) (by lia) ?_)
  intro B cB us ks h3 tk3 hus hks F3 N3
  simp only [front_eq eX2] at F3
  dsimp only
  clear F2 F2' N2
  obtain ⟨m3, hm3, F3⟩ : ∃ m3, m3 = _ ∧ Fr g L h3 m3 := ⟨_, rfl, F3⟩
  have eX3 : m3 (Str.ofString "script") = some (.ref ax) := by rw [hm3]; exact eX2
  have eD3 : m3 (Str.ofString "double") = some (.str ({ cps := #[dblC f] } : Str) tD) := by rw [hm3]; exact eD2
  have eN3 : m3 (Str.ofString "numbers") = some (.ref B) := by rw [hm3]; rfl
  clear hm3
  have F3' : Fr g L h3 (fun z => if z = Str.ofString "numbers" then some (.ref B) else if z = Str.ofString "double" then some (.str ({ cps := #[dblC f] } : Str) tD) else m3 z) := by simp only [front_eq eN3, front_eq eD3]; exact F3
  have N3' : News g L h3 ((L + 1 + 1, oA) :: (L + 1, oB) :: (B, W.listOf us.toArray cB) :: tl) := fun p hp => N3 p (by simp only [List.mem_cons] at hp ⊢; grind)
  refine w_cons (law_3 w mean mg mb dp un gd outer g L a cd m3 tl _ _ _ oA oB f tf tA tD hf d1 d2 B cB us ks hus hks F3' N3' X T (by lia) (by lia) ?_)
  intro D cD ys es nw h4 tk4 hT hel hem hdrop hsub F4 N4
  simp only [front_eq eN3, front_eq eD3] at F4
  dsimp only
  clear F3 F3' N3 N3'
  have nA : (L + 1 + 1, oA) ∈ nw := hsub _ (.head _)
  have nT : ∀ p ∈ tl, p ∈ nw := fun p hp => hsub p (.tail _ (.tail _ (.tail _ hp)))
  obtain ⟨m4, hm4, F4⟩ : ∃ m4, m4 = _ ∧ Fr g L h4 m4 := ⟨_, rfl, F4⟩
  have eX4 : m4 (Str.ofString "script") = some (.ref ax) := by rw [hm4]; exact eX3
  have eR4 : m4 (Str.ofString "drawn") = some (.ref D) := by rw [hm4]; rfl
  clear hm4
  have F4' : Fr g L h4 (fun z => if z = Str.ofString "drawn" then some (.ref D) else m4 z) := by simp only [front_eq eR4]; exact F4
  refine w_cons (law_4 w mean mg mb dp un gd outer g L a cd m4 nw _ _ _ f hf D cD ys es hT hel hem F4' N4 X T (by lia) (by lia) ?_)
  intro D2 cD2 zs nw5 h5 tk5 hT5 hsub5 F5 N5
  simp only [front_eq eR4] at F5
  dsimp only
  clear F4 F4' N4
  obtain ⟨m5, hm5, F5⟩ : ∃ m5, m5 = _ ∧ Fr g L h5 m5 := ⟨_, rfl, F5⟩
  have eX5 : m5 (Str.ofString "script") = some (.ref ax) := by rw [hm5]; exact eX4
  have eR5 : m5 (Str.ofString "drawn") = some (.ref D) := by rw [hm5]; exact eR4
  have eT5 : m5 (Str.ofString "told") = some (.ref D2) := by rw [hm5]; rfl
  clear hm5
  have nA5 : (L + 1 + 1, oA) ∈ nw5 := hsub5 _ (.tail _ nA)
  have nT5 : ∀ p ∈ tl, p ∈ nw5 := fun p hp => hsub5 p (.tail _ (nT p hp))
  have nD5 : (D, W.listOf ys.toArray cD) ∈ nw5 := hsub5 _ (.head _)
  have hTd : Trips nw5 ys es := hT.mono fun p hp => hsub5 p (.tail _ hp)
  have F5' : Fr g L h5 (fun z => if z = Str.ofString "told" then some (.ref D2) else if z = Str.ofString "drawn" then some (.ref D) else m5 z) := by simp only [front_eq eT5, front_eq eR5]; exact F5
  have N5' : News g L h5 ((D2, W.listOf zs.toArray cD2) :: (D, W.listOf ys.toArray cD) :: nw5) := fun p hp => by
    rcases List.mem_cons.mp hp with rfl | hp
    · exact N5 _ (.head _)
    rcases List.mem_cons.mp hp with rfl | hp
    · exact N5 _ (.tail _ nD5)
    · exact N5 _ (.tail _ hp)
  refine w_cons (law_5 w mean mg mb dp un gd outer g L a cd m5 nw5 _ _ _ f hf D D2 cD cD2 ys zs es hTd hT5 hel hem F5' N5' X T (by lia) (by lia) ?_)
  intro h6 tk6 F6 N6
  simp only [front_eq eT5, front_eq eR5] at F6
  dsimp only
  clear F5 F5' N5 N5'
  have F6' : Fr g L h6 (fun z => if z = Str.ofString "told" then some (.ref D2) else m5 z) := by simp only [front_eq eT5]; exact F6
  have N6' : News g L h6 ((L + 1 + 1, oA) :: (D2, W.listOf zs.toArray cD2) :: nw5) := fun p hp => by
    rcases List.mem_cons.mp hp with rfl | hp
    · exact N6 _ (.tail _ (.tail _ nA5))
    rcases List.mem_cons.mp hp with rfl | hp
    · exact N6 _ (.head _)
    · exact N6 _ (.tail _ (.tail _ hp))
  refine w_cons (law_6 w mean mg mb dp un gd outer g L a cd m5 nw5 _ _ _ oA f tA hf d1 D2 cD2 zs es hT5 hel hem F6' N6' X T (by lia) (by lia) ?_)
  intro lead tL h7 tk7 ps hlead hps hpl F7 N7
  simp only [front_eq eT5] at F7
  dsimp only
  clear F6 F6' N6 N6'
  obtain ⟨hws, hll, hcol⟩ := lead_facts hps hpl
  rw [← hlead] at hws hll hcol
  obtain ⟨m7, hm7, F7⟩ : ∃ m7, m7 = _ ∧ Fr g L h7 m7 := ⟨_, rfl, F7⟩
  have eX7 : m7 (Str.ofString "script") = some (.ref ax) := by rw [hm7]; exact eX5
  have eT7 : m7 (Str.ofString "told") = some (.ref D2) := by rw [hm7]; exact eT5
  have eL7 : m7 (Str.ofString "lead") = some (.str lead tL) := by rw [hm7]; rfl
  clear hm7
  have F7' : Fr g L h7 (fun z => if z = Str.ofString "told" then some (.ref D2) else m7 z) := by simp only [front_eq eT7]; exact F7
  refine w_cons (law_7 w mean mg mb dp un gd outer g L a cd m7 nw5 _ _ _ f hf D2 cD2 zs es hT5 hel hem hdrop F7' (fun p hp => N7 p (.tail _ hp)) X T (by lia) (by lia) ?_)
  intro D8 o8 st h8 tk8 ho8 hS8 hDs F8 N8
  simp only [front_eq eT7] at F8
  dsimp only
  clear F7 F7' N7
  obtain ⟨m8, hm8, F8⟩ : ∃ m8, m8 = _ ∧ Fr g L h8 m8 := ⟨_, rfl, F8⟩
  have eX8 : m8 (Str.ofString "script") = some (.ref ax) := by rw [hm8]; exact eX7
  have eL8 : m8 (Str.ofString "lead") = some (.str lead tL) := by rw [hm8]; exact eL7
  have eO8 : m8 (Str.ofString "stock") = some (.ref D8) := by rw [hm8]; rfl
  clear hm8
  have F8' : Fr g L h8 (fun z => if z = Str.ofString "stock" then some (.ref D8) else m8 z) := by simp only [front_eq eO8]; exact F8
  have N8' : News g L h8 ((L + 1 + 1, oA) :: (D8, o8) :: nw5) := fun p hp => by
    rcases List.mem_cons.mp hp with rfl | hp
    · exact N8 _ (.tail _ (.tail _ nA5))
    rcases List.mem_cons.mp hp with rfl | hp
    · exact N8 _ (.head _)
    · exact N8 _ (.tail _ (.tail _ hp))
  refine w_cons (law_8 w mean mg mb dp un gd outer g L a cd m8 nw5 _ _ _ oA f tA hf d1 D8 o8 st ho8 hS8 hDs F8' N8' X T (by lia) (by lia) ?_)
  intro kinds tK h9 tk9 hk F9 N9
  simp only [front_eq eO8] at F9
  dsimp only
  clear F8 F8' N8 N8'
  obtain ⟨m9, hm9, F9⟩ : ∃ m9, m9 = _ ∧ Fr g L h9 m9 := ⟨_, rfl, F9⟩
  have eX9 : m9 (Str.ofString "script") = some (.ref ax) := by rw [hm9]; exact eX8
  have eL9 : m9 (Str.ofString "lead") = some (.str lead tL) := by rw [hm9]; exact eL8
  have eO9 : m9 (Str.ofString "stock") = some (.ref D8) := by rw [hm9]; exact eO8
  have eK9 : m9 (Str.ofString "kinds") = some (.int kinds tK) := by rw [hm9]; rfl
  clear hm9
  have F9' : Fr g L h9 (fun z => if z = Str.ofString "script" then some (.ref ax) else m9 z) := by simp only [front_eq eX9]; exact F9
  refine w_cons (law_9 w mean mg mb dp un gd outer g L a cd m9 _ _ _ _ ax vs ns hl hi hlen F9' N9 X T (by lia) (by lia) ?_)
  intro width tW h10 tk10 hwid F10 N10
  simp only [front_eq eX9] at F10
  dsimp only
  clear F9 F9' N9
  obtain ⟨wd, rfl, hwd⟩ : ∃ wd : Nat, width = (wd : Int) ∧ (64 ≤ wd ∧ wd ≤ 1088) := ⟨width.toNat, by lia, by lia⟩
  obtain ⟨m10, hm10, F10⟩ : ∃ m10, m10 = _ ∧ Fr g L h10 m10 := ⟨_, rfl, F10⟩
  have eL10 : m10 (Str.ofString "lead") = some (.str lead tL) := by rw [hm10]; exact eL9
  have eO10 : m10 (Str.ofString "stock") = some (.ref D8) := by rw [hm10]; exact eO9
  have eK10 : m10 (Str.ofString "kinds") = some (.int kinds tK) := by rw [hm10]; exact eK9
  have eW10 : m10 (Str.ofString "width") = some (.int (wd : Int) tW) := by rw [hm10]; rfl
  clear hm10
  have F10' : Fr g L h10 (fun z => if z = Str.ofString "kinds" then some (.int kinds tK) else if z = Str.ofString "width" then some (.int (wd : Int) tW) else if z = Str.ofString "stock" then some (.ref D8) else m10 z) := by simp only [front_eq eK10, front_eq eW10, front_eq eO10]; exact F10
  refine w_cons (law_10 w mean mg mb dp un gd outer g L a cd m10 nw5 _ _ _ oA f tA hf d1 D8 o8 st ho8 hS8 hDs kinds tK wd tW hk hwd F10' N10 X T (by lia) (by lia) ?_)
  intro bk cb bs h11 tk11 hbs F11 N11
  simp only [front_eq eK10, front_eq eW10, front_eq eO10] at F11
  dsimp only
  clear F10 F10' N10
  obtain ⟨m11, hm11, F11⟩ : ∃ m11, m11 = _ ∧ Fr g L h11 m11 := ⟨_, rfl, F11⟩
  have eL11 : m11 (Str.ofString "lead") = some (.str lead tL) := by rw [hm11]; exact eL10
  have eK11 : m11 (Str.ofString "kinds") = some (.int kinds tK) := by rw [hm11]; exact eK10
  have eW11 : m11 (Str.ofString "width") = some (.int (wd : Int) tW) := by rw [hm11]; exact eW10
  have eB11 : m11 (Str.ofString "books") = some (.ref bk) := by rw [hm11]; rfl
  clear hm11
  have F11' : Fr g L h11 (fun z => if z = Str.ofString "lead" then some (.str lead tL) else m11 z) := by simp only [front_eq eL11]; exact F11
  have N11' : News g L h11 ((L + 1 + 1, oA) :: (bk, W.listOf bs.toArray cb) :: tl) := fun p hp => by
    rcases List.mem_cons.mp hp with rfl | hp
    · exact N11 _ (.tail _ (.head _))
    rcases List.mem_cons.mp hp with rfl | hp
    · exact N11 _ (.head _)
    · exact N11 _ (.tail _ (.tail _ (.tail _ (nT5 p hp))))
  refine w_cons (law_11 w mean mg mb dp un gd outer g L a cd m11 _ _ _ _ oA f tA hf d1 lead tL hll hws F11' N11' X T (by lia) (by lia) ?_)
  intro x dx T1 T2 xt t1 n nt b ws wns u1 u2 u3 k1 k2 k3 k4 k5 bb h12 tk12 hW hwi F12 N12
  simp only [front_eq eL11] at F12
  dsimp only
  clear F11 F11' N11 N11'
  obtain ⟨m12, hm12, F12⟩ : ∃ m12, m12 = _ ∧ Fr g L h12 m12 := ⟨_, rfl, F12⟩
  have eL12 : m12 (Str.ofString "lead") = some (.str lead tL) := by rw [hm12]; exact eL11
  have eK12 : m12 (Str.ofString "kinds") = some (.int kinds tK) := by rw [hm12]; exact eK11
  have eW12 : m12 (Str.ofString "width") = some (.int (wd : Int) tW) := by rw [hm12]; exact eW11
  have eB12 : m12 (Str.ofString "books") = some (.ref bk) := by rw [hm12]; exact eB11
  have eM12 : m12 (Str.ofString "margin") = some (.ref x) := by rw [hm12]; rfl
  clear hm12
  have F12' : Fr g L h12 (fun z => if z = Str.ofString "margin" then some (.ref x) else if z = Str.ofString "books" then some (.ref bk) else if z = Str.ofString "lead" then some (.str lead tL) else if z = Str.ofString "kinds" then some (.int kinds tK) else if z = Str.ofString "width" then some (.int (wd : Int) tW) else m12 z) := by
    simp only [front_eq eM12, front_eq eB12, front_eq eL12, front_eq eK12, front_eq eW12]; exact F12
  have N12' : News g L h12 (((bk, W.listOf bs.toArray cb) :: margL w.params x dx T1 T2 xt t1 n nt b ws u1 u2 u3 k1 k2 k3 k4 k5 bb) ++ tl) := fun p hp => by
    rcases List.mem_append.mp hp with hp | hp
    · rcases List.mem_cons.mp hp with rfl | hp
      · exact N12 _ (List.mem_append_right _ (.tail _ (.head _)))
      · exact N12 _ (List.mem_append_left _ hp)
    · exact N12 _ (List.mem_append_right _ (.tail _ (.tail _ hp)))
  refine w_cons (law_12 w mean mg mb dp un gd outer g g L a cd m12 bk tl _ _ _ kinds hk wd hwd bs cb hbs lead hll hcol x dx T1 T2 xt t1 n nt b ws wns u1 u2 u3 k1 k2 k3 k4 k5 bb hW hwi tL tK tW F12' N12' G (fun _ _ e => e) hTL X T (by lia) (by lia) hE ?_)
  intro h13 tk13 m13 base13 tl13 hT13 F13 N13
  dsimp only
  clear F12 F12' N12 N12'
  have hfill : PySem.Challenge.rw_rl0135_01 = PySem.Challenge.rw_rl0135_01 ∧ KF = KF := by k_fill; exact ⟨rfl, rfl⟩
  clear hfill
  w_on
  k_with_none
  iterate 3 (try first | walk1 | (dsimp only; walk1))
  exact hret _ _ _ _ _ hT13 F13 N13
end Mine
end
section
open PySem PySem.W PyProof.Rows
theorem Mine.lk_ok : looksOpen Mine.PW = true := by
  unfold looksOpen
  exact look_both (look_both (look_both (look_both (look_both (by as_aux_lemma => kernel_rfl) (by as_aux_lemma => kernel_rfl)) (by as_aux_lemma => kernel_rfl)) (by as_aux_lemma => kernel_rfl)) (by as_aux_lemma => kernel_rfl)) (by as_aux_lemma => kernel_rfl)
theorem Mine.row_ok : (OpenLaw.row PySem.Challenge.rw_rl0135_01).wellSaid = true := by
  unfold OpenRow.wellSaid OpenRow.partSaid
  rw [show looksOpen (OpenLaw.row PySem.Challenge.rw_rl0135_01).prog = true from lk_ok]
  kernel_rfl
theorem Mine.lw_ok : OpenLaw.wellSaid PySem.Challenge.rw_rl0135_01 = true := by
  unfold OpenLaw.wellSaid
  rw [row_ok]
  kernel_rfl
theorem PySem.Challenge.cw_rl0135_01_holds : PySem.Challenge.rw_rl0135_01.Holds := by
  w_on
  k_with_none
  refine holds_law Mine.lw_ok fun said => ?_
  refine Mine.holdsH (by rfl) (by rfl) (by rfl) (by assumption) ⟨rfl, rfl, rfl, rfl, rfl, by decide +kernel⟩ ?hw ?hc
  case hw => w_witness2
  case hc =>
    k_go0
    rename (Obj.data _ = Data.cell _) => dB
    revert dB
    rename (Obj.data _ = Data.cell _) => dA
    intro dB
    rename Fr _ _ _ _ => fE
    rename News _ _ _ _ => nE
    rename Frag.In _ (ghostOf _ _) => X9
    rename Top _ _ _ _ _ (ghostOf _ _) => T9
    rename Heap.IsList (ghostOf _ _) _ _ => hl9
    rename IntsAre _ _ => hi9
    rename CodeHd _ (107, 103).fst _ => c1
    rename CodeHd _ (114, 110).fst _ => c2
    rename (@LT.lt Addr _ 103 _ ∧ _) => l0
    refine Mine.law_all _ _ _ _ _ _ _ _ _ _ _ _ _ _ _ _ _ _ _ _ _ _ hl9 hi9 ?hlen dA dB ?eX fE nE ?htl ⟨X9, T9, c1, c2, (nE _ (.tail _ (.tail _ (.head _)))).2.2, (nE _ (.tail _ (.tail _ (.tail _ (.head _))))).2.2⟩ ⟨#[], #[], [], rfl, .inl rfl, .inl rfl, fun p hp => nomatch hp⟩ ?hdp ?hun ?hE ?hret
    case hlen => lia
    case eX => rfl
    case htl =>
      intro p hp
      rcases List.mem_cons.mp hp with rfl | hp
      · exact l0.1
      · rw [List.mem_singleton.mp hp]; exact l0.2
    case hdp => decide
    case hun => decide
    case hE => passes_own
    case hret =>
      intro h' tk' m' base tl' hT' F' N'
      dsimp only
      obtain ⟨ps1, ps2, ex, rfl, q1, q2, _⟩ := hT'
      have g1 := (N' (103, tabObj ps1) (List.mem_append_right _ (.head _))).1
      have g2 := (N' (110, tabObj ps2) (List.mem_append_right _ (.tail _ (.head _)))).1
      refine ⟨?_, ⟨ps1, g1⟩, ⟨ps2, g2⟩, trivial⟩
      refine goodW_bool F' (by assumption) (raisesW_false ?_) ?_
      · wrow_none_raised
      · first | wrow_post | kc_post | (trace_state; fail "post")
end
