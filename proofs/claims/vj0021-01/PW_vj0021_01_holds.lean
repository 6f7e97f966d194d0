import PyProof.Rows.All
import Wide.All
import OpenK.AllK
import Wide.FinOn
import PySem.Challenge.RW_vj0021_01
set_option Elab.async false

-- HeadX
section
open PySem PySem.W PyProof.Rows
set_option Elab.async false
namespace Mine
local macro_rules | `(tactic| k_head) => `(tactic| x_head)
set_option maxRecDepth 100000 in
set_option maxHeartbeats 8000000 in
open_top hd for PySem.Challenge.rw_vj0021_01
end Mine
end

-- VSem
section
open PySem
namespace Mine

/-- the expression, as data -/
inductive Ex where
  | lit (s : Str)
  | seq2 (a b : Ex)
  | seq3 (a b c : Ex)
  | alt (a b : Ex)
  | look (neg : Bool) (a : Ex)
  | quant (mn : Nat) (mx : Option Nat) (a : Ex)

def Ex.size : Ex → Nat
  | .lit _ => 1
  | .seq2 a b => a.size + b.size + 1
  | .seq3 a b c => a.size + b.size + c.size + 1
  | .alt a b => a.size + b.size + 1
  | .look _ a => a.size + 1
  | .quant _ _ a => a.size + 1

def litAt (t l : Str) (p : Nat) : Bool := decide (p + l.length ≤ t.length) && Builtin.Str.subAt t l p

def under (n : Nat) : Option Nat → Bool
  | none => true
  | some m => decide (n < m)

def qrun (f : Nat → Option Nat) (size mn : Nat) (mx : Option Nat) : Nat → Nat → Nat → Nat × Nat
  | 0, n, p => (n, p)
  | k + 1, n, p =>
    if p < size ∧ under n mx = true then
      match f p with
      | none => (n, p)
      | some q => if mn ≤ n + 1 ∧ q = p then (n + 1, p) else qrun f size mn mx k (n + 1) q
    else (n, p)

theorem qrun_go {f : Nat → Option Nat} {size mn : Nat} {mx : Option Nat} {k n p : Nat} (h : p < size) (hu : under n mx = true) :
    qrun f size mn mx (k + 1) n p = match f p with
      | none => (n, p)
      | some q => if mn ≤ n + 1 ∧ q = p then (n + 1, p) else qrun f size mn mx k (n + 1) q := by
  conv => lhs; unfold qrun
  rw [if_pos ⟨h, hu⟩]
theorem qrun_end {f : Nat → Option Nat} {size mn : Nat} {mx : Option Nat} {k n p : Nat} (h : ¬ (p < size ∧ under n mx = true)) :
    qrun f size mn mx k n p = (n, p) := by
  cases k with
  | zero => rfl
  | succ k => unfold qrun; rw [if_neg h]

def sem (t : Str) : Ex → Nat → Option Nat
  | .lit l, p => if litAt t l p = true then some (p + l.length) else none
  | .seq2 a b, p => match sem t a p with
    | none => none
    | some q => sem t b q
  | .seq3 a b c, p => match sem t a p with
    | none => none
    | some q => match sem t b q with
      | none => none
      | some r => sem t c r
  | .alt a b, p => match sem t a p with
    | some q => some q
    | none => sem t b p
  | .look neg a, p => if (sem t a p).isNone = neg then some p else none
  | .quant mn mx a, p =>
    let r := qrun (sem t a) t.length mn mx (t.length + mn + 1) 0 p
    if mn ≤ r.1 then some r.2 else none

/-- the matcher goes forward within the text -/
def Fwd (size : Nat) (f : Nat → Option Nat) : Prop := ∀ p q, p ≤ size → f p = some q → p ≤ q ∧ q ≤ size

theorem qrun_fwd {size mn : Nat} {mx : Option Nat} {f : Nat → Option Nat} (hf : Fwd size f) : ∀ k n p, p ≤ size → p ≤ (qrun f size mn mx k n p).2 ∧ (qrun f size mn mx k n p).2 ≤ size
  | 0, n, p, h => ⟨Nat.le_refl _, h⟩
  | k + 1, n, p, h => by
    unfold qrun
    split
    · cases e : f p with
      | none => exact ⟨Nat.le_refl _, h⟩
      | some q =>
        obtain ⟨h1, h2⟩ := hf p q h e
        dsimp only
        split
        · exact ⟨Nat.le_refl _, h⟩
        · obtain ⟨i1, i2⟩ := qrun_fwd hf (mn := mn) (mx := mx) k (n + 1) q h2
          exact ⟨Nat.le_trans h1 i1, i2⟩
    · exact ⟨Nat.le_refl _, h⟩

theorem sem_fwd (t : Str) : ∀ e : Ex, Fwd t.length (sem t e)
  | .lit l => by
    intro p q hp h
    unfold sem at h
    split at h
    · rename_i hl
      cases h
      unfold litAt at hl
      obtain ⟨h1, _⟩ := (Bool.and_eq_true _ _).mp hl
      have := of_decide_eq_true h1
      omega
    · cases h
  | .seq2 a b => by
    intro p q hp h
    unfold sem at h
    split at h
    · cases h
    · rename_i r e
      have h1 := sem_fwd t a p r hp e
      have h2 := sem_fwd t b r q h1.2 h
      omega
  | .seq3 a b c => by
    intro p q hp h
    unfold sem at h
    split at h
    · cases h
    · rename_i r e
      have h1 := sem_fwd t a p r hp e
      split at h
      · cases h
      · rename_i r' e'
        have h2 := sem_fwd t b r r' h1.2 e'
        have h3 := sem_fwd t c r' q h2.2 h
        omega
  | .alt a b => by
    intro p q hp h
    unfold sem at h
    split at h
    · rename_i r e
      obtain rfl := Option.some.inj h
      exact sem_fwd t a p _ hp e
    · exact sem_fwd t b p q hp h
  | .look neg a => by
    intro p q hp h
    unfold sem at h
    split at h
    · cases h; omega
    · cases h
  | .quant mn mx a => by
    intro p q hp h
    unfold sem at h
    dsimp only at h
    split at h
    · cases h
      exact qrun_fwd (sem_fwd t a) _ _ _ hp
    · cases h

/-- it never matches nothing -/
def NE (size : Nat) (f : Nat → Option Nat) : Prop := ∀ p q, f p = some q → p < q ∧ q ≤ size

def star (f : Nat → Option Nat) (size : Nat) : Nat → Nat → Nat
  | 0, p => p
  | k + 1, p => if p < size then (match f p with | none => p | some q => star f size k q) else p

theorem star_stop {f : Nat → Option Nat} {size : Nat} {p : Nat} (h : f p = none) : ∀ k, star f size k p = p
  | 0 => rfl
  | k + 1 => by unfold star; rw [h]; split <;> rfl

theorem star_stable {f : Nat → Option Nat} {size : Nat} (hf : NE size f) : ∀ k k' p, size ≤ p + k → size ≤ p + k' → star f size k p = star f size k' p
  | 0, k', p, h, _ => by
    cases k' with
    | zero => rfl
    | succ k' => unfold star; rw [if_neg (by omega)]
  | k + 1, 0, p, _, h => by unfold star; rw [if_neg (by omega)]
  | k + 1, k' + 1, p, h, h' => by
    unfold star
    split
    · cases e : f p with
      | none => rfl
      | some q =>
        have := hf p q e
        exact star_stable hf k k' q (by omega) (by omega)
    · rfl

theorem star_end {f : Nat → Option Nat} {size : Nat} (hf : NE size f) : ∀ k p, size ≤ p + k → f (star f size k p) = none
  | 0, p, h => by
    unfold star
    cases e : f p with
    | none => rfl
    | some q => have := hf p q e; omega
  | k + 1, p, h => by
    unfold star
    split
    · cases e : f p with
      | none => exact e
      | some q =>
        have := hf p q e
        exact star_end hf k q (by omega)
    · cases e : f p with
      | none => rfl
      | some q => have := hf p q e; omega

theorem qrun_star {f : Nat → Option Nat} {size mn : Nat} (hf : NE size f) : ∀ k n p, (qrun f size mn none k n p).2 = star f size k p ∧ n ≤ (qrun f size mn none k n p).1
  | 0, n, p => ⟨rfl, Nat.le_refl _⟩
  | k + 1, n, p => by
    unfold qrun star
    by_cases h : p < size
    · rw [if_pos ⟨h, rfl⟩, if_pos h]
      cases e : f p with
      | none => exact ⟨rfl, Nat.le_refl _⟩
      | some q =>
        have hq := hf p q e
        dsimp only
        rw [if_neg (by omega)]
        have := qrun_star hf (mn := mn) k (n + 1) q
        exact ⟨this.1, by omega⟩
    · rw [if_neg (by omega), if_neg h]
      exact ⟨rfl, Nat.le_refl _⟩

section
variable {t : Str} {o : Ex} (ho : NE t.length (sem t o)) (p : Nat)
include ho

theorem star_sem : sem t (.quant 0 none o) p = some (star (sem t o) t.length (t.length + 1) p) := by
  unfold sem
  dsimp only
  rw [if_pos (Nat.zero_le _), (qrun_star ho _ _ _).1]

theorem law_opt : sem t (.quant 0 (some 1) o) p = sem t (.alt o (.lit (Str.ofString ""))) p ∨ t.length < p := by
  by_cases hp : p ≤ t.length
  · left
    have hl : sem t (.lit (Str.ofString "")) p = some p := by
      unfold sem litAt
      have h0 : (Str.ofString "").length = 0 := by decide
      rw [h0]
      have : Builtin.Str.subAt t (Str.ofString "") p = true := by
        unfold Builtin.Str.subAt
        rw [h0]
        have e : (Str.ofString "").cps = #[] := by decide
        rw [e]
        simp
        exact Nat.min_le_left _ _
      rw [this]
      simp [hp]
    have hA : sem t (.alt o (.lit (Str.ofString ""))) p = match sem t o p with | some q => some q | none => some p := by
      conv => lhs; unfold sem
      rw [hl]
    rw [hA]
    conv => lhs; unfold sem
    dsimp only
    rw [if_pos (Nat.zero_le _)]
    by_cases h : p < t.length
    · rw [qrun_go h rfl]
      cases e : sem t o p with
      | none => rfl
      | some q =>
        have hq := ho p q e
        dsimp only
        rw [if_neg (by omega), qrun_end (by simp [under])]
    · rw [qrun_end (by omega)]
      cases e : sem t o p with
      | none => rfl
      | some q => have := ho p q e; omega
  · right; omega

theorem law_plus : sem t (.quant 1 none o) p = sem t (.seq2 o (.quant 0 none o)) p := by
  have hR : sem t (.seq2 o (.quant 0 none o)) p = match sem t o p with | none => none | some q => some (star (sem t o) t.length (t.length + 1) q) := by
    conv => lhs; unfold sem
    cases sem t o p with
    | none => rfl
    | some q => exact star_sem ho q
  rw [hR]
  conv => lhs; unfold sem
  dsimp only
  by_cases h : p < t.length
  · rw [qrun_go h rfl]
    cases e : sem t o p with
    | none => rfl
    | some q =>
      have hq := ho p q e
      dsimp only
      have z := qrun_star ho (mn := 1) (t.length + 1) 1 q
      have hn : ¬ (1 ≤ 0 + 1 ∧ q = p) := by omega
      simp only [if_neg hn]
      rw [if_pos z.2, z.1]
  · rw [qrun_end (by omega)]
    cases e : sem t o p with
    | none => rfl
    | some q => have := ho p q e; omega

theorem law_two : sem t (.quant 2 (some 3) o) p = sem t (.seq3 o o (.quant 0 (some 1) o)) p := by
  have hopt : ∀ q, q ≤ t.length → sem t (.quant 0 (some 1) o) q = match sem t o q with | some r => some r | none => some q := by
    intro q hq
    conv => lhs; unfold sem
    dsimp only
    rw [if_pos (Nat.zero_le _)]
    by_cases h : q < t.length
    · rw [qrun_go h rfl]
      cases e : sem t o q with
      | none => rfl
      | some r =>
        have hr := ho q r e
        dsimp only
        rw [if_neg (by omega), qrun_end (by simp [under])]
    · rw [qrun_end (by omega)]
      cases e : sem t o q with
      | none => rfl
      | some r => have := ho q r e; omega
  have hR : sem t (.seq3 o o (.quant 0 (some 1) o)) p = match sem t o p with | none => none | some q => match sem t o q with | none => none | some r => sem t (.quant 0 (some 1) o) r := by
    conv => lhs; unfold sem
  rw [hR]
  conv => lhs; unfold sem
  dsimp only
  by_cases h : p < t.length
  · rw [qrun_go h (by decide)]
    cases e : sem t o p with
    | none => rfl
    | some q =>
      have hq := ho p q e
      have hn : ¬ (2 ≤ 0 + 1 ∧ q = p) := by omega
      simp only [if_neg hn]
      by_cases h2 : q < t.length
      · rw [qrun_go h2 (by decide)]
        cases e2 : sem t o q with
        | none => rfl
        | some r =>
          have hr := ho q r e2
          have hn2 : ¬ (2 ≤ 0 + 1 + 1 ∧ r = q) := by omega
          simp only [if_neg hn2]
          rw [hopt r hr.2]
          by_cases h3 : r < t.length
          · rw [qrun_go h3 (by decide)]
            cases e3 : sem t o r with
            | none => rfl
            | some u =>
              have hu := ho r u e3
              have hn3 : ¬ (2 ≤ 0 + 1 + 1 + 1 ∧ u = r) := by omega
              simp only [if_neg hn3]
              rw [qrun_end (by simp [under])]
              rfl
          · rw [qrun_end (by omega)]
            cases e3 : sem t o r with
            | none => rfl
            | some u => have := ho r u e3; omega
      · rw [qrun_end (by omega)]
        cases e2 : sem t o q with
        | none => rfl
        | some r => have := ho q r e2; omega
  · rw [qrun_end (by omega)]
    cases e : sem t o p with
    | none => rfl
    | some q => have := ho p q e; omega

theorem law_greedy : sem t (.seq2 (.quant 0 none o) o) p = none := by
  conv => lhs; unfold sem
  rw [star_sem ho]
  exact star_end ho _ _ (by omega)
end

section
variable (t : Str) (o a b : Ex) (p : Nat)
theorem law_look : sem t (.look false a) p = sem t (.look true (.look true a)) p := by
  have h := Option.eq_none_or_eq_some (sem t a p)
  rcases h with h | ⟨q, h⟩ <;> simp [sem, h]
theorem law_not : sem t (.look true (.alt o a)) p = sem t (.seq2 (.look true o) (.look true a)) p := by
  have h := Option.eq_none_or_eq_some (sem t a p)
  have h' := Option.eq_none_or_eq_some (sem t o p)
  rcases h with h | ⟨q, h⟩ <;> rcases h' with h' | ⟨q', h'⟩ <;> simp [sem, h, h']
theorem law_altA : sem t (.alt o (.alt a b)) p = sem t (.alt (.alt o a) b) p := by
  simp only [sem]
  cases sem t o p <;> cases sem t a p <;> rfl
theorem law_seqA : sem t (.seq2 o (.seq2 a b)) p = sem t (.seq2 (.seq2 o a) b) p := by
  simp only [sem]
  cases sem t o p with
  | none => rfl
  | some q => rfl
theorem law_same : sem t (.alt a a) p = sem t a p := by
  simp only [sem]
  cases sem t a p <;> rfl
theorem law_dist : sem t (.seq2 o (.alt a b)) p = sem t (.alt (.seq2 o a) (.seq2 o b)) p := by
  simp only [sem]
  cases sem t o p with
  | none => rfl
  | some q => rfl
theorem law_not1 : sem t (.look true a) p = if (sem t a p).isNone = true then some p else none := by simp only [sem]
theorem law_look1 : sem t (.look false a) p = if (sem t a p).isNone = true then none else some p := by
  simp only [sem]
  cases h : sem t a p <;> simp [h]
theorem law_alt1 : sem t (.alt o a) p = if (sem t o p).isNone = true then sem t a p else sem t o p := by
  simp only [sem]
  cases h : sem t o p <;> simp [h]
end

/-- the first expression: a letter ahead -/
theorem ne_first (t : Str) (c : Str) (hc : c.length = 1) (e : Ex) : NE t.length (sem t (.seq2 (.lit c) e)) := by
  intro p q h
  simp only [sem] at h
  split at h
  · cases h
  · rename_i r hr
    split at hr
    · rename_i hl
      cases hr
      unfold litAt at hl
      have h1 := of_decide_eq_true ((Bool.and_eq_true _ _).mp hl).1
      have := sem_fwd t e _ q (by omega) h
      omega
    · cases hr
end Mine
end

-- VSup
section
open PySem PySem.W PyProof.Rows PySem.Calls PySem.Spec
set_option maxRecDepth 100000
namespace Mine
section
variable {prog : Program} {w : World} {A₀ A : Around} {s : Shared} {base h₀ : Heap} {outer : List Env} {L : Addr} {m mg mb : Str → Option Value} {env : Env} {news : List (Addr × Obj)} {K : Frag} {p : Program} {loose : List Str} {mean : ExcName → Option Value}
  {R : Result → Shared → Prop} {name qual : Str} {params : Arguments} {body : List Stmt} {scope : Scope} {cc : Addr} {dV kV doc pm cdv ct oc : Value} {an od : Option Addr} {osl : Array (Option Value)} {f : Addr} {args : Args} {binds : List (Str × Value)}

theorem v_frameS {E : Value → Shared → Prop} (B : Below A₀ base outer h₀) (F : Fr h₀ L s.heap m) (N : News h₀ L s.heap news) (hlim : h₀.NoLimit) (hA : A.frames = some (env :: outer)) (hf : env.frame = some L) (hke : env.scope.kind = .function)
    (hloc : ∀ y ∈ binds, scope.names.lookup y.1 = some .local)
    (h : ∀ g L' h₁, Fr h₀ L g m → Fr g L' h₁ (fun y => binds.reverse.lookup y) → News g L' h₁ news → Below A base (env :: outer) g → h₀.StaysIn g → (∀ p ∈ news, p.1 < L') →
      _root_.PySem.wpAt (model prog w) (A.deeper (ksEnv qual scope L' f cdv cc)) (.func body (ksEnv qual scope L' f cdv cc)) (execs body (ksEnv qual scope L' f cdv cc))
        (fun fl s' => LeaveK h₀ L m g R (match fl with | .ret v => v | _ => .none) s')
        (fun e s' => wpAny (model prog w) (A.deeper (ksEnv qual scope L' f cdv cc)) (leaving (ksEnv qual scope L' f cdv cc) e) (fun _ s'' => R (.error e) s'') (fun e' s'' => R (.error e') s'') s')
        { s with heap := h₁, toks := s.toks + binds.length })
    (hcell : ∀ x ∈ scope.names, x.2 ≠ .cell) (hk : scope.kind = .function) :
    wpAny (model prog w) A.in1 (newFunctionEnv scope mainGlobals [("__class__", cc)] binds (qual ++ ".<locals>.") (some f) cdv none builtinsNs) (fun env' s₂ => s₂.heap.NoLimit ∧ codeAny (model prog w) A (.func body env') R s₂) E s := by
  obtain ⟨FG, BG, st, lv⟩ := groundX (R := R) B F N hA hf hke
  refine wpAny_newFunctionEnv hcell hloc (fun h₁ hns hsb => ⟨(hlim.keeps F.keep).fresh _ hsb, ks_codeAny_funcAt ?_⟩) hk
  have hk₁ : ∀ b o, s.heap.get? b = some o → h₁.get? b = some o := fun b o e => hsb.extBut b o (Nat.ne_of_lt (Heap.lt_size e)) (Heap.get?_push_of_some _ e)
  show _root_.PySem.wpAt (model prog w) (A.deeper (ksEnv qual scope s.heap.objs.size f cdv cc)) (.func body (ksEnv qual scope s.heap.objs.size f cdv cc)) (execs body (ksEnv qual scope s.heap.objs.size f cdv cc)) _ _ _
  exact ks_wpAt_mono (h _ s.heap.objs.size h₁ FG ⟨hns, fun b o e => hk₁ b o (of_hideAll _ e), Nat.le_of_eq (hideAll_size _ _)⟩
    (fun p hp => ⟨hk₁ _ _ (N p hp).1, Nat.ne_of_lt (Heap.lt_size (N p hp).1), hideAll_none _ (List.mem_map_of_mem hp)⟩) BG st (fun p hp => Heap.lt_size (N p hp).1)) (fun fl s' hl => lv _ _ hl) fun _ _ y => y

theorem v_bothS {vs : List Value} {nm nr : Str} {ex front : List (Str × Value)} {g₁ : Addr → Sem (List (Str × Value))} {g₂ : Addr → Addr → Sem (List (Str × Value))}
    (B : Below A₀ base outer h₀) (F : Fr h₀ L s.heap m) (X₀ : K.In h₀) (N : News h₀ L s.heap news) (T : Top p loose mean mg mb h₀) (hA : A.frames = some (env :: outer)) (hf : env.frame = some L) (hke : env.scope.kind = .function)
    (ho : K.lookup f = some ⟨oc, od, .func (ksFn name qual params body scope dV kV doc pm an cdv ct cc), osl⟩) (hcd : codeIn K cdv qual = true) (hroom : A.depth < recursionLimit)
    (_hv : args.pos.drop (params.posonlyargs.length + params.args.length) = vs) (_hx : args.kw.filter (fun x => !ownKw params x.1) = ex) (_hnr : params.vararg.map (·.arg) = some nr) (_hnm : params.kwarg.map (·.arg) = some nm) (hn : kwDistinct ex = true)
    (_hfr : peek K ⟨prog, w.params⟩ (bindArgs (fnCut (ksFn name qual params body scope dV kV doc pm an cdv ct cc)) (argsCut params args)) = some front)
    (hp : peekA K ⟨prog, w.params⟩ (bindArgs (ksFn name qual params body scope dV kV doc pm an cdv ct cc) args) = some (({ cls := .type "tuple", data := .seq vs.toArray } : Obj), g₁))
    (hp₂ : ∀ D, peekA K ⟨prog, w.params⟩ (g₁ D) = some (dictOf [] 0, g₂ D))
    (hk₂ : ∀ C D, g₂ C D = (forIn ex PUnit.unit (fun x _ => (nsSet D x.1 x.2 >>= fun _ => pure (ForInStep.yield PUnit.unit))) >>= fun _ => pure (front ++ [(nr, Value.ref C)] ++ [(nm, Value.ref D)])))
    (hloc : ∀ C D, ∀ y ∈ front ++ [(nr, Value.ref C)] ++ [(nm, Value.ref D)], scope.names.lookup y.1 = some .local)
    (h : ∀ C D o g L' h₁ tk, (∀ p ∈ news, p.1 < C) → C < D → (D == sysModules) = false → o.IsDictOf (strKind prog w) ex → (∀ p ∈ ((D, o) :: (C, ({ cls := .type "tuple", data := .seq vs.toArray } : Obj)) :: news), p.1 < L') → Fr h₀ L g m → Fr g L' h₁ (fun y => (front ++ [(nr, Value.ref C)] ++ [(nm, Value.ref D)]).reverse.lookup y) →
      News g L' h₁ ((D, o) :: (C, ({ cls := .type "tuple", data := .seq vs.toArray } : Obj)) :: news) → Below A base (env :: outer) g → K.In g → Top p loose mean mg mb g →
      _root_.PySem.wpAt (model prog w) (A.deeper (ksEnv qual scope L' f cdv cc)) (.func body (ksEnv qual scope L' f cdv cc)) (execs body (ksEnv qual scope L' f cdv cc))
        (fun fl s' => LeaveK h₀ L m g R (match fl with | .ret v => v | _ => .none) s')
        (fun e s' => wpAny (model prog w) (A.deeper (ksEnv qual scope L' f cdv cc)) (leaving (ksEnv qual scope L' f cdv cc) e) (fun _ s'' => R (.error e) s'') (fun e' s'' => R (.error e') s'') s')
        { s with heap := h₁, toks := tk })
    (hco : scope.isCoroutine = false) (hgen : scope.isGenerator = false) (hk : scope.kind = .function)
    (hcell : ∀ x ∈ scope.names, x.2 ≠ .cell) : codeAny (model prog w) A (.call (.ref f) args) R s := by
  have hn' := kwDistinct_nodup hn
  refine codeAny_call_function (fd := ksFn name qual params body scope dV kV doc pm an cdv ct cc) (body := body) hroom ((X₀.keeps F.keep) _ _ ho) rfl hco hgen rfl (codeRec_of (X₀.keeps F.keep) hcd) ?_
  refine wp_of_peekA (o := ({ cls := .type "tuple", data := .seq vs.toArray } : Obj)) F N (X₀.keeps F.keep) rfl _ g₁ hp fun h' F' N' l => ?_
  refine wp_of_peekA (s := { s with heap := h' }) (o := dictOf [] 0) F' N' (X₀.keeps F'.keep) rfl _ (g₂ s.heap.objs.size) (hp₂ _) fun h'' F'' N'' l' => ?_
  rw [hk₂]
  refine wpAny_bind (kp_fill ex { s with heap := h'' } [] 0 F'' N'' (fun p hp => Nat.ne_of_lt (l' p hp)) (fun _ he => nomatch he) (fun _ he => nomatch he) hn' fun h₃ F₃ N₃ => wpAny_pure ?_)
  exact v_frameS (s := { s with heap := h₃, toks := s.toks + ex.length }) B F₃ N₃ T.nolimit hA hf hke (hloc _ _)
    (fun g L' h₁ FG FL NG BG st lt => h _ _ _ g L' h₁ _ l (l' _ (.head _)) (F'.notModules (modules_low T.nolimit)) (kp_isDict s.toks (0 + ex.length) hn') lt FG FL NG BG (X₀.keeps st) (T.keeps st)) hcell hk

theorem v_moreS {nm : Str} {ex front : List (Str × Value)} {g₁ : Addr → Sem (List (Str × Value))}
    (B : Below A₀ base outer h₀) (F : Fr h₀ L s.heap m) (X₀ : K.In h₀) (N : News h₀ L s.heap news) (T : Top p loose mean mg mb h₀) (hA : A.frames = some (env :: outer)) (hf : env.frame = some L) (hke : env.scope.kind = .function)
    (ho : K.lookup f = some ⟨oc, od, .func (ksFn name qual params body scope dV kV doc pm an cdv ct cc), osl⟩) (hcd : codeIn K cdv qual = true) (hroom : A.depth < recursionLimit)
    (_hx : args.kw.filter (fun x => !ownKw params x.1) = ex) (_hnm : params.kwarg.map (·.arg) = some nm) (hn : kwDistinct ex = true)
    (_hfr : peek K ⟨prog, w.params⟩ (bindArgs (fnCut (ksFn name qual params body scope dV kV doc pm an cdv ct cc)) (argsCut params args)) = some front)
    (hp : peekA K ⟨prog, w.params⟩ (bindArgs (ksFn name qual params body scope dV kV doc pm an cdv ct cc) args) = some (dictOf [] 0, g₁))
    (hk₁ : ∀ D, g₁ D = (forIn ex PUnit.unit (fun x _ => (nsSet D x.1 x.2 >>= fun _ => pure (ForInStep.yield PUnit.unit))) >>= fun _ => pure (front ++ [(nm, Value.ref D)])))
    (hloc : ∀ D, ∀ y ∈ front ++ [(nm, Value.ref D)], scope.names.lookup y.1 = some .local)
    (h : ∀ D o g L' h₁ tk, (∀ p ∈ news, p.1 < D) → (D == sysModules) = false → o.IsDictOf (strKind prog w) ex → (∀ p ∈ ((D, o) :: news), p.1 < L') → Fr h₀ L g m → Fr g L' h₁ (fun y => (front ++ [(nm, Value.ref D)]).reverse.lookup y) →
      News g L' h₁ ((D, o) :: news) → Below A base (env :: outer) g → K.In g → Top p loose mean mg mb g →
      _root_.PySem.wpAt (model prog w) (A.deeper (ksEnv qual scope L' f cdv cc)) (.func body (ksEnv qual scope L' f cdv cc)) (execs body (ksEnv qual scope L' f cdv cc))
        (fun fl s' => LeaveK h₀ L m g R (match fl with | .ret v => v | _ => .none) s')
        (fun e s' => wpAny (model prog w) (A.deeper (ksEnv qual scope L' f cdv cc)) (leaving (ksEnv qual scope L' f cdv cc) e) (fun _ s'' => R (.error e) s'') (fun e' s'' => R (.error e') s'') s')
        { s with heap := h₁, toks := tk })
    (hco : scope.isCoroutine = false) (hgen : scope.isGenerator = false) (hk : scope.kind = .function)
    (hcell : ∀ x ∈ scope.names, x.2 ≠ .cell) : codeAny (model prog w) A (.call (.ref f) args) R s := by
  have hn' := kwDistinct_nodup hn
  refine codeAny_call_function (fd := ksFn name qual params body scope dV kV doc pm an cdv ct cc) (body := body) hroom ((X₀.keeps F.keep) _ _ ho) rfl hco hgen rfl (codeRec_of (X₀.keeps F.keep) hcd) ?_
  refine wp_of_peekA (o := dictOf [] 0) F N (X₀.keeps F.keep) rfl _ g₁ hp fun h' F' N' l => ?_
  rw [hk₁]
  refine wpAny_bind (kp_fill ex { s with heap := h' } [] 0 F' N' (fun p hp => Nat.ne_of_lt (l p hp)) (fun _ he => nomatch he) (fun _ he => nomatch he) hn' fun h'' F'' N'' => wpAny_pure ?_)
  exact v_frameS (s := { s with heap := h'', toks := s.toks + ex.length }) B F'' N'' T.nolimit hA hf hke (hloc _)
    (fun g L' h₁ FG FL NG BG st lt => h _ _ g L' h₁ _ l (F.notModules (modules_low T.nolimit)) (kp_isDict s.toks (0 + ex.length) hn') lt FG FL NG BG (X₀.keeps st) (T.keeps st)) hcell hk
end
end Mine
end

-- VKw
section
open PySem PySem.W PyProof.Rows PySem.Calls PySem.Spec
set_option maxRecDepth 100000
namespace Mine
section
variable {M : Model} {A : Around} {E : Value → Shared → Prop} {s : Shared}

theorem v_callKw {f : Value} {first : List Value} {pos : Pos} {Q : Value → Shared → Prop} {P : Heap → Prop} {args : List (Bool × Sem Value)} {kws : List (Option Str × Sem Value)} (hst : (args.any (·.1) || kws.any (·.1.isNone)) = true)
    (hk : ∀ h, P h → ∃ k, (k = Keeper.frame ∨ k = Keeper.machine ∨ k = Keeper.boundFrame) ∧ Looks M h (keeperOf f) k)
    (h : wpAny M A (evalArgs f true args kws) (fun a s₁ => P s₁.heap ∧ wpAny M A (call f (first ++ a.pos) a.kw) Q E s₁) E s) : wpAny M A (callWith pos f first args kws) Q E s := by
  unfold callWith
  refine wpAny_bind (wpAny_holding (wpAny_mono h (fun a s₁ h₁ => wpAny_bind (wpAny_standAt ?_)) fun _ _ x => x))
  obtain ⟨k, hk', L⟩ := hk _ h₁.1
  simp only [hst]
  refine wpAny_bind (L.here ?_)
  have tail : ∀ {t : Sem Value}, wpAny M A t Q E s₁ → wpAny M A (t >>= fun r => holding [r] point >>= fun _ => pure r) Q E s₁ :=
    fun ht => wpAny_bind (wpAny_mono ht (fun r s₂ hr => wpAny_bind (wpAny_holding (wpAny_point (wpAny_pure hr)))) fun _ _ x => x)
  have marked (mk : Value) : wpAny M A (callMarked mk f (first ++ a.pos) a.kw) Q E s₁ := by unfold callMarked; exact Calls.wpAny_keep h₁.2
  rcases hk' with rfl | rfl | rfl <;> dsimp only <;> first | exact tail (marked _) | exact tail (wpAny_operating h₁.2)

theorem v_evalArgs1 {f : Value} {x : Sem Value} {kws : List (Option Str × Sem Value)} {Q : Args → Shared → Prop} (hk : kws.all (·.1.isSome) = false)
    (h : wpAny M A x (fun v s₁ => wpAny M A (mergedKeywords f kws) (fun d s₂ => wpAny M A (keywordsIn f d) (fun kw s₃ => Q ⟨[v], kw⟩ s₃) E s₂) E s₁) E s) :
    wpAny M A (evalArgs f true [(false, x)] kws) Q E s := by
  unfold evalArgs
  refine wpAny_bind ?_
  rw [spliced]
  refine wpAny_bind (wpAny_mono h (fun v s₁ h₁ => ?_) fun _ _ e => e)
  simp only [Bool.false_eq_true, if_false]
  refine wpAny_bind (wpAny_pure ?_)
  refine wpAny_bind (wpAny_holding ?_)
  rw [spliced]
  refine wpAny_pure ?_
  refine wpAny_pure ?_
  refine wpAny_bind (wpAny_pure ?_)
  simp only [hk, Bool.false_eq_true, if_false]
  refine wpAny_holding ?_
  refine wpAny_bind (wpAny_mono h₁ (fun d s₂ h₂ => ?_) fun _ _ e => e)
  refine wpAny_bind (wpAny_pure ?_)
  refine wpAny_bind (wpAny_holding (wpAny_mono h₂ (fun kw s₃ h₃ => wpAny_pure h₃) fun _ _ e => e))

theorem v_merge_empty {d a : Addr} {es : List DictEntry} {n n' : Nat} {Q : Unit → Shared → Prop} (hd : s.heap.get? d = some (dictOf es n')) (ha : s.heap.get? a = some (dictOf [] n)) (lo : (a == sysModules) = false) (h : Q () s) :
    wpAny M A (mergeMapping d (.ref a) true) Q E s := by
  have hT : s.TypeIs (.ref a) "dict" := ⟨_, ha, rfl⟩
  unfold mergeMapping
  refine wpAny_bind (wpAny_isInstance (b := true) hT (by rw [isSubtype_type]; kernel_rfl) ?_)
  simp only [if_true]
  refine wpAny_bind (wpAny_specialOf hT PySem.F.slot_dict_iter.lookup ?_)
  refine wpAny_bind (wpAny_pure ?_)
  have e1 : ((some (Value.builtin "dict.__iter__") : Option Value) == some (.builtin "dict.__iter__")) = true := by simp
  rw [e1]
  dsimp only
  rw [lo]
  simp only [Bool.false_eq_true, if_false]
  refine wpAny_bind (wpAny_dictEntries hd rfl ?_)
  have fin : wpAny M A (do
      let size := (← dictEntries a).size
      let epoch ← dictEpoch a
      for i in List.range size do
        let some e := (← dictEntries a)[i]? | unsupported "dict.changed-during-merge"
        holding [e.key, e.val] do
          if true then
            if (← dictFind d e.key e.hash).isSome then rule "dict.merge.duplicate-key"; raiseNew (← newExc (.type "KeyError") [e.key])
          dictPut d e.hash e.key e.val
        if (← dictEpoch a) != epoch then unsupported "dict.changed-during-merge") Q E s := by
    refine wpAny_bind (wpAny_dictEntries ha rfl ?_)
    refine wpAny_bind (wpAny_dictEpoch ha rfl ?_)
    exact wpAny_pure h
  split
  · refine wpAny_bind (wpAny_dictEntries ha rfl ?_)
    exact fin
  · exact fin

theorem v_kwIn0 {f : Value} {d : Addr} {n : Nat} {Q : List (Str × Value) → Shared → Prop} (hd : s.heap.get? d = some (dictOf [] n)) (h : Q [] s) : wpAny M A (keywordsIn f d) Q E s := by
  unfold keywordsIn
  refine wpAny_bind (wpAny_dictEntries hd rfl ?_)
  exact wpAny_pure h
theorem v_kwIn1 {f : Value} {d : Addr} {n : Nat} {k : Str} {t : Tok} {hs : Int} {v : Value} {Q : List (Str × Value) → Shared → Prop} (hd : s.heap.get? d = some (dictOf [⟨hs, .str k t, v⟩] n)) (h : Q [(k, v)] s) : wpAny M A (keywordsIn f d) Q E s := by
  unfold keywordsIn
  refine wpAny_bind (wpAny_dictEntries hd rfl ?_)
  exact wpAny_pure h
theorem v_merged0 {f : Value} {y : Sem Value} {h₀ : Heap} {L : Addr} {m : Str → Option Value} {news : List (Addr × Obj)} {Q : Addr → Shared → Prop} (F : Fr h₀ L s.heap m) (N : News h₀ L s.heap news)
    (h : ∀ d h', Fr h₀ L h' m → News h₀ L h' ((d, dictOf [] 0) :: news) → (∀ p ∈ news, p.1 < d) → wpAny M A y (fun v s₁ => ∃ a n, v = .ref a ∧ s₁.heap.get? a = some (dictOf [] n) ∧ s₁.heap.get? d = some (dictOf [] 0) ∧ (a == sysModules) = false ∧ Q d s₁) E { s with heap := h' }) :
    wpAny M A (mergedKeywords f [(none, y)]) Q E s := by
  unfold mergedKeywords
  refine wpAny_bind (wpAny_alloc ?_)
  refine wpAny_bind (wpAny_holding ?_)
  have z := h s.heap.objs.size _ (F.push _) (N.push F (dictOf [] 0) rfl) (fun p hp => Heap.lt_size (N p hp).1)
  refine wpAny_bind ?_
  rw [List.forIn_cons]
  refine wpAny_bind ?_
  refine wpAny_bind (wpAny_pure ?_)
  refine wpAny_bind (wpAny_mono z (fun v s₁ hv => ?_) fun _ _ e => e)
  obtain ⟨a, n, rfl, ha, hd, lo, hq⟩ := hv
  refine wpAny_bind (wpAny_onRaise (wpAny_holding (wpAny_tryCatch (wpAny_onRaise (v_merge_empty hd ha lo ?_)))))
  refine wpAny_pure ?_
  refine wpAny_pure ?_
  refine wpAny_pure ?_
  exact wpAny_pure hq

theorem v_merge_one {d a : Addr} {n : Nat} {k : Str} {t : Tok} {hs : Int} {v : Value} {Q : Unit → Shared → Prop} (hd : s.heap.get? d = some (dictOf [] 0)) (ha : s.heap.get? a = some (dictOf [⟨hs, .str k t, v⟩] n)) (lo : (a == sysModules) = false) (hne : a ≠ d)
    (h : ∀ h', h' = s.heap.update d (Obj.mapDictKeys (·.push ⟨hs, .str k t, v⟩)) → h'.get? d = some (dictOf [⟨hs, .str k t, v⟩] 1) → Q () { s with heap := h' }) :
    wpAny M A (mergeMapping d (.ref a) true) Q E s := by
  have hT : s.TypeIs (.ref a) "dict" := ⟨_, ha, rfl⟩
  unfold mergeMapping
  refine wpAny_bind (wpAny_isInstance (b := true) hT (by rw [isSubtype_type]; kernel_rfl) ?_)
  simp only [if_true]
  refine wpAny_bind (wpAny_specialOf hT PySem.F.slot_dict_iter.lookup ?_)
  refine wpAny_bind (wpAny_pure ?_)
  have e1 : ((some (Value.builtin "dict.__iter__") : Option Value) == some (.builtin "dict.__iter__")) = true := by simp
  rw [e1]
  dsimp only
  rw [lo]
  simp only [Bool.false_eq_true, if_false]
  refine wpAny_bind (wpAny_dictEntries hd rfl ?_)
  rw [if_pos (by rfl)]
  refine wpAny_bind (wpAny_dictEntries ha rfl ?_)
  refine wpAny_bind ?_
  rw [List.forIn_toArray, List.forIn_cons]
  refine wpAny_bind (wpAny_pure ?_)
  refine wpAny_pure ?_
  refine wpAny_bind (wpAny_dictEntries ha rfl ?_)
  refine wpAny_bind (wpAny_dictEpoch ha rfl ?_)
  refine wpAny_bind ?_
  show wpAny M A (forIn [0] PUnit.unit _) _ E s
  rw [List.forIn_cons]
  have fnd : ∀ {R : Option Nat → Shared → Prop}, R none s → wpAny M A (dictFind d (.str k t) hs) R E s := by
    intro R hR
    unfold dictFind
    refine wpAny_holding (wpAny_bind (wpAny_dictEntries hd rfl ?_))
    have e9 : (#[] : Array DictEntry).all (fun e => isExactStrKey e.key) = true := by simp
    dsimp only
    rw [if_pos e9]
    have e8 : foundByValue d (.str k t) #[] k = pure none := by unfold foundByValue; simp
    rw [e8]
    exact wpAny_pure hR
  refine wpAny_bind (wpAny_bind (wpAny_dictEntries ha rfl ?_))
  show wpAny M A (do
      holding [Value.str k t, v] (do
        let __do_lift ← dictFind d (Value.str k t) hs
        if __do_lift.isSome = true then do
            rule "dict.merge.duplicate-key"
            let __do_lift ← newExc (Value.type "KeyError") [Value.str k t]
            raiseNew __do_lift
            dictPut d hs (Value.str k t) v
          else dictPut d hs (Value.str k t) v)
      let __do_lift ← dictEpoch a
      if (__do_lift != n) = true then do
          unsupported "dict.changed-during-merge"
          pure (ForInStep.yield PUnit.unit)
        else pure (ForInStep.yield PUnit.unit)) _ E s
  refine wpAny_bind (wpAny_holding (wpAny_bind (fnd ?_)))
  simp only [Option.isSome_none, Bool.false_eq_true, if_false]
  unfold dictPut
  refine wpAny_bind (fnd ?_)
  dsimp only
  unfold updateDictKeys
  refine wpAny_bind (wpAny_loadPart hd ?_)
  dsimp only
  have hs2 : Heap.SameBut d s.heap (s.heap.update d (Obj.mapDictKeys (·.push ⟨hs, .str k t, v⟩))) := Heap.SameBut.update ..
  have hd' : (s.heap.update d (Obj.mapDictKeys (·.push ⟨hs, .str k t, v⟩))).get? d = some (dictOf [⟨hs, .str k t, v⟩] 1) := Heap.get?_update_self _ hd rfl
  refine wpAny_bind (wpAny_updatePart hd ?_)
  refine wpAny_lookBehind (s := { s with heap := s.heap.update d (Obj.mapDictKeys (·.push ⟨hs, .str k t, v⟩)) }) hd' (pastItsLine_dict (by rw [sizeLine_eq]; show 1 ≤ _; omega)) ?_
  have ha' : (s.heap.update d (Obj.mapDictKeys (·.push ⟨hs, .str k t, v⟩))).get? a = some (dictOf [⟨hs, .str k t, v⟩] n) := (hs2.2 a hne).trans ha
  refine wpAny_bind (wpAny_dictEpoch ha' rfl ?_)
  rw [if_neg (by simp)]
  refine wpAny_pure ?_
  refine wpAny_pure ?_
  exact wpAny_pure (h _ rfl hd')
end
section
variable {prog : Program} {w : World} {A : Around} {E : Value → Shared → Prop} {s : Shared}
theorem v_merged1 {f : Value} {x y : Sem Value} {k : Str} {h₀ : Heap} {L : Addr} {m : Str → Option Value} {news : List (Addr × Obj)} {Q : Addr → Shared → Prop} (F : Fr h₀ L s.heap m) (N : News h₀ L s.heap news)
    (h : ∀ d h', Fr h₀ L h' m → News h₀ L h' ((d, dictOf [] 0) :: news) → (∀ p ∈ news, p.1 < d) → wpAny (model prog w) A x (fun v s₁ => s₁ = { s with heap := h' } ∧
      ∀ sub h'' tk', Fr h₀ L h'' m → News h₀ L h'' ((sub, dictOf [⟨PyData.keyHash w.params k, .str k s₁.toks, v⟩] 1) :: (d, dictOf [⟨PyData.keyHash w.params k, .str k s₁.toks, v⟩] 1) :: news) → d < sub → (sub == sysModules) = false →
        wpAny (model prog w) A y (fun v' s₂ => ∃ a n, v' = .ref a ∧ s₂.heap.get? a = some (dictOf [] n) ∧ s₂.heap.get? d = some (dictOf [⟨PyData.keyHash w.params k, .str k s₁.toks, v⟩] 1) ∧ (a == sysModules) = false ∧ Q d s₂) E { s₁ with heap := h'', toks := tk' }) E { s with heap := h' })
    (lim : h₀.NoLimit) :
    wpAny (model prog w) A (mergedKeywords f [(some k, x), (none, y)]) Q E s := by
  unfold mergedKeywords
  refine wpAny_bind (wpAny_alloc ?_)
  refine wpAny_bind (wpAny_holding ?_)
  have F1 := F.push (dictOf [] 0)
  have N1 := N.push F (dictOf [] 0) rfl
  have z := h s.heap.objs.size _ F1 N1 (fun p hp => Heap.lt_size (N p hp).1)
  refine wpAny_bind ?_
  rw [List.forIn_cons]
  refine wpAny_bind ?_
  refine wpAny_pure ?_
  show wpAny (model prog w) A (forIn [(none, y)] _ _) _ E _
  rw [List.forIn_cons]
  refine wpAny_bind (wpAny_bind (wpAny_bind (m := evalAll [x]) ?_))
  rw [evalAll]
  refine wpAny_bind (wpAny_mono z (fun v s₁ hv => ?_) fun _ _ e => e)
  obtain ⟨rfl, hv⟩ := hv
  refine wpAny_bind (wpAny_holding ?_)
  rw [evalAll]
  refine wpAny_pure (wpAny_pure ?_)
  refine wpAny_bind (wpAny_alloc ?_)
  have F2 := F1.push (dictOf [] 0)
  have N2 := N1.push F1 (dictOf [] 0) rfl
  rw [Heap.size_push] at N2
  have ltn : ∀ p ∈ news, p.1 < s.heap.objs.size := fun p hp => Heap.lt_size (N p hp).1
  have off2 : ∀ p ∈ (s.heap.objs.size, dictOf [] 0) :: news, p.1 ≠ s.heap.objs.size + 1 := by
    intro p hp
    rcases List.mem_cons.mp hp with rfl | hp
    · exact Nat.ne_of_lt (Nat.lt_succ_self _)
    · exact Nat.ne_of_lt (Nat.lt_succ_of_lt (ltn p hp))
  have esz : (s.heap.push (dictOf [] 0)).objs.size = s.heap.objs.size + 1 := Heap.size_push ..
  refine wpAny_bind ?_
  show wpAny (model prog w) A (forIn [((k, x), v)] PUnit.unit _) _ E _
  rw [List.forIn_cons]
  refine wpAny_bind (wpAny_bind ?_)
  show wpAny (model prog w) A (nsSet (s.heap.push (dictOf [] 0)).objs.size k v) _ E _
  rw [esz]
  refine kp_nsSet (s := { s with heap := (s.heap.push (dictOf [] 0)).push (dictOf [] 0) }) F2 N2 off2 (fun _ h => nomatch h) (fun _ h => nomatch h) fun h3 F3 N3 => ?_
  refine wpAny_pure ?_
  refine wpAny_pure ?_
  have hsub := (N3 _ (.head _)).1
  have hdd := (N3 _ (.tail _ (.head _))).1
  have lo : ((s.heap.objs.size + 1) == sysModules) = false := esz ▸ F1.notModules (modules_low lim)
  refine wpAny_onRaise (wpAny_holding (wpAny_tryCatch (wpAny_onRaise (v_merge_one (s := { s with heap := h3, toks := s.toks + 1 }) hdd hsub lo (Nat.ne_of_gt (Nat.lt_succ_self _)) fun h4 e4 hd4 => ?_))))
  have N3' : News h₀ L h3 ([(s.heap.objs.size + 1, dictOf ([] ++ [⟨PyData.keyHash w.params k, .str k s.toks, v⟩]) (0 + 1))] ++ (s.heap.objs.size, dictOf [] 0) :: news) := N3
  obtain ⟨F4, N4⟩ := news_upd (f := Obj.mapDictKeys (·.push ⟨PyData.keyHash w.params k, .str k s.toks, v⟩)) (o' := dictOf [⟨PyData.keyHash w.params k, .str k s.toks, v⟩] 1) F3 N3' (by
    intro p hp
    obtain rfl := List.mem_singleton.mp hp
    exact Nat.ne_of_gt (Nat.lt_succ_self _)) (fun p hp => Nat.ne_of_lt (ltn p hp)) rfl rfl
  subst e4
  have zz := hv (s.heap.objs.size + 1) _ (s.toks + 1) F4 N4 (Nat.lt_succ_self _) lo
  refine wpAny_bind (wpAny_mono zz (fun v' s₂ hv' => ?_) fun _ _ e => e)
  obtain ⟨a, n, rfl, ha2, hd2, lo2, hq⟩ := hv'
  refine wpAny_bind (wpAny_onRaise (wpAny_holding (wpAny_tryCatch (wpAny_onRaise (v_merge_empty hd2 ha2 lo2 ?_)))))
  refine wpAny_pure ?_
  refine wpAny_pure ?_
  refine wpAny_pure ?_
  exact wpAny_pure hq
end

section
variable {prog : Program} {w : World} {A : Around} {E : Value → Shared → Prop} {s : Shared} {h₀ : Heap} {L : Addr} {m : Str → Option Value} {news : List (Addr × Obj)} {K : Frag} {x C D f2 so : Addr} {ox : Obj} {odx : Option Obj}

/-- an attribute of a super object, read as an expression: the method bound -/
theorem v_superAttr {name : Str} {b : Bool} {Q : Value → Shared → Prop} (F : Fr h₀ L s.heap m) (X₀ : K.In h₀) (N : News h₀ L s.heap news) (hso : (so, ks_superObj D x C) ∈ news) (I : InstAt s.heap x ox C odx) (ho : nsIn K cStatics "thirdparty.any" = some none)
    (hm : ks_superIn K C D name = some (some (.ref f2))) (ht : typeIn K (.ref f2) = some (.type "function")) (hn : (name == ("__class__" : Str)) = false)
    (h : ∀ q h', Fr h₀ L h' m → News h₀ L h' ((q, methodObj (.ref f2) (.ref x)) :: news) → (∀ p ∈ news, p.1 < q) → Q (.ref q) { s with heap := h', toks := s.toks + 1 }) : wpAny (model prog w) A (getAttr (.ref so) name b) Q E s := by
  have X : K.In s.heap := X₀.keeps F.keep
  obtain ⟨hh, g, d, t, os⟩ := s
  have at_so := (N _ hso).1
  have tso : (⟨hh, g, d, t + 1, os⟩ : Shared).TypeIs (.ref so) "super" := ⟨_, at_so, rfl⟩
  obtain ⟨cd, hc, hal⟩ := Option.bind_eq_some_iff.mp hm
  obtain ⟨of, hof, hofc⟩ := Option.map_eq_some_iff.mp (show (K.lookup f2).map (·.cls) = some (.type "function") from ht)
  obtain ⟨F', N', l'⟩ := ks_newsPush (s := ⟨hh, g, d, t, os⟩) (o := methodObj (.ref f2) (.ref x)) F N rfl (Heap.get?_push_at rfl rfl) (fun b o e => Heap.get?_push_of_some _ e)
  have fin := h _ _ F' N' l'
  have own : wpAny (model prog w) A (boundAndCalled (.builtin "super.__getattribute__") (.ref so) (.str name t)) (fun v s' => v = .ref hh.objs.size ∧ s' = ⟨hh.push (methodObj (.ref f2) (.ref x)), g, d, t + 1, os⟩) (fun _ _ => False) ⟨hh, g, d, t + 1, os⟩ := by
    unfold boundAndCalled
    refine wpAny_bind (wpAny_of_eq (PySem.F.ks_slot_super_ga.bind _) (wpAny_call_entry PySem.F.ks_slot_super_ga tso PySem.F.ks_entry_super_ga ?_ (PySem.F.ks_gaArgs_super _ _)))
    exact ks_wpAny_super_ga at_so (looks_opaque X ho) (l₀ := cd.mro) (fun A Q E s k q => wpAny_bind ((looks_clsIn X hc) A _ E s k (wpAny_pure q))) rfl X hal (X _ _ hof) hofc (ks_ne X I hc) hn ⟨_, rfl, rfl, rfl⟩
  unfold getAttr getAttrBy
  refine wpAny_bind (wpAny_mkText (wpAny_holding (wpAny_bind (wpAny_typeOf tso (wpAny_bind (wpAny_of_eq PySem.F.ks_slot_super_ga.lookup ?_))))))
  show wpAny _ _ (getAttrByItsOwn (.ref so) (.str name t) (.type "super") (.builtin "super.__getattribute__") true b) _ _ _
  unfold getAttrByItsOwn
  refine wpAny_bind (wpAny_of_eq (show hookBefore (.type "super") = pure none from rfl) ?_)
  have road : callGetattribute (.ref so) (.str name t) (.builtin "super.__getattribute__") b = boundAndCalled (.builtin "super.__getattribute__") (.ref so) (.str name t) := by
    unfold callGetattribute
    have : onTheHeap (.builtin "super.__getattribute__") = false := rfl
    rw [this, Bool.and_false]
    rfl
  rw [road]
  refine wpAny_bind (wpAny_attempt (wpAny_holding (wpAny_mono own (fun v s' hv => ?_) fun _ _ z => z.elim)))
  obtain ⟨rfl, rfl⟩ := hv
  exact wpAny_pure fin

/-- super().name(args, **kws): the attribute is read, then called -/
theorem v_wpAt_superKw {c : Code} {env : Env} {o : Expr} {name : Str} {apos pos : Pos} {args : List Expr} {kws : List Keyword} {Q : Value → Shared → Prop}
    (hfew : methodCallForm (args.length + kws.length) (backTo pos (starEach args env)) (backToKw pos (keywordEach kws env)) = false)
    (h : _root_.PySem.wpAt (model prog w) A c (attributeBase o name env (eval o env)) (fun ov s₁ => wpAny (model prog w) A (getAttr ov name true) (fun f s₂ => wpAny (model prog w) A (callWith pos f [] (backTo pos (starEach args env)) (backToKw pos (keywordEach kws env))) Q E s₂) E s₁) E s) :
    _root_.PySem.wpAt (model prog w) A c (eval (.Call (.Attribute o name apos) args kws pos) env) Q E s := by
  have he : eval (.Call (.Attribute o name apos) args kws pos) env = (do
      let ov ← attributeBase o name env (eval o env)
      standAt apos.atName
      methodCall o name apos pos env ov (args.length + kws.length) (backTo pos (starEach args env)) (backToKw pos (keywordEach kws env))) := by rw [eval]
  rw [he]
  refine PySem.wpAt_bind (ks_wpAt_mono h (fun ov s₁ h₁ => wpAt_of_wpAny (wpAny_bind (wpAny_standAt ?_))) fun _ _ x => x)
  unfold methodCall
  rw [hfew]
  refine wpAny_bind (wpAny_holding ?_)
  show wpAny _ _ (do let r ← getAttr ov name true; pure (r, ([] : List Value))) _ _ _
  refine wpAny_bind (wpAny_mono h₁ (fun f s₂ h₂ => wpAny_pure ?_) fun _ _ x => x)
  exact wpAny_bind (wpAny_pure h₂)
end

section
variable {prog : Program} {w : World} {h₀ h : Heap} {L D d : Addr} {news : List (Addr × Obj)} {o : Obj}
theorem v_emptyDict (hs : o.IsDictOf (PySem.strKind prog w) []) : ∃ n, o = dictOf [] n := by
  obtain ⟨es, n, ⟨h1, h2, h3⟩, hd, _, hp, _⟩ := hs
  obtain ⟨c, dd, dt, sl⟩ := o
  obtain ⟨l⟩ := es
  dsimp only at h1 h2 h3 hd hp
  subst h1 h2 hd
  cases hp
  exact ⟨n, by rw [show sl = #[] from h3]⟩
theorem v_kwEnd {es : List DictEntry} {n0 : Nat} {Q : Prop} (N : News h₀ L h news) (hm : (D, o) ∈ news) (hd : (d, dictOf es n0) ∈ news) (hs : o.IsDictOf (PySem.strKind prog w) []) (lo : (D == sysModules) = false) (hq : Q) :
    ∃ a n, Value.ref D = .ref a ∧ h.get? a = some (dictOf [] n) ∧ h.get? d = some (dictOf es n0) ∧ (a == sysModules) = false ∧ Q := by
  obtain ⟨n, rfl⟩ := v_emptyDict hs
  exact ⟨D, n, rfl, (N _ hm).1, (N _ hd).1, lo, hq⟩
end

theorem v_callKwM {M : Model} {A : Around} {E : Value → Shared → Prop} {s : Shared} {K : Frag} {h₀ : Heap} {L q g : Addr} {news : List (Addr × Obj)} {self : Value} {first : List Value} {pos : Pos} {Q : Value → Shared → Prop} {args : List (Bool × Sem Value)} {kws : List (Option Str × Sem Value)}
    (_X : K.In h₀) (_N : News h₀ L s.heap news) (_q : (q, methodObj (.ref g) self) ∈ news) (hf : fnIn K g = true) (hst : (args.any (·.1) || kws.any (·.1.isNone)) = true)
    (h : wpAny M A (evalArgs (.ref q) true args kws) (fun a s₁ => MethP K q g self s₁.heap ∧ wpAny M A (call (.ref q) (first ++ a.pos) a.kw) Q E s₁) E s) : wpAny M A (callWith pos (.ref q) first args kws) Q E s :=
  v_callKw hst (keeps_M hf) h

theorem v_evalArgsE {M : Model} {A : Around} {E : Value → Shared → Prop} {s : Shared} {f : Value} {e : Expr} {env : Env} {pos : Pos} {kws : List (Option Str × Sem Value)} {Q : Args → Shared → Prop} (hk : kws.all (·.1.isSome) = false)
    (h : wpAny M A (eval e env) (fun v s₁ => wpAny M A (mergedKeywords f kws) (fun d s₂ => wpAny M A (keywordsIn f d) (fun kw s₃ => Q ⟨[v], kw⟩ s₃) E s₂) E s₁) E s)
    (he : starEach [e] env = [(false, eval e env)] := by rfl) :
    wpAny M A (evalArgs f true (backTo pos (starEach [e] env)) kws) Q E s := by
  rw [he]
  exact v_evalArgs1 hk h
theorem v_mergedE0 {prog : Program} {w : World} {A : Around} {E : Value → Shared → Prop} {s : Shared} {f : Value} {e : Expr} {env : Env} {pos p : Pos} {h₀ : Heap} {L : Addr} {m : Str → Option Value} {news : List (Addr × Obj)} {Q : Addr → Shared → Prop} (F : Fr h₀ L s.heap m) (N : News h₀ L s.heap news)
    (h : ∀ d h', Fr h₀ L h' m → News h₀ L h' ((d, dictOf [] 0) :: news) → (∀ p ∈ news, p.1 < d) → wpAny (model prog w) A (eval e env) (fun v s₁ => ∃ a n, v = .ref a ∧ s₁.heap.get? a = some (dictOf [] n) ∧ s₁.heap.get? d = some (dictOf [] 0) ∧ (a == sysModules) = false ∧ Q d s₁) E { s with heap := h' }) :
    wpAny (model prog w) A (mergedKeywords f (backToKw pos (keywordEach [⟨none, e, p⟩] env))) Q E s := by
  refine v_merged0 F N fun d h' F' N' l => ?_
  exact wpAny_bind (wpAny_mono (h d h' F' N' l) (fun v s₁ hv => wpAny_bind (wpAny_standAt (wpAny_pure hv))) fun _ _ x => x)
theorem v_mergedE1 {prog : Program} {w : World} {A : Around} {E : Value → Shared → Prop} {s : Shared} {f v : Value} {k : Str} {e1 e : Expr} {env : Env} {pos p1 p : Pos} {h₀ : Heap} {L : Addr} {m : Str → Option Value} {news : List (Addr × Obj)} {Q : Addr → Shared → Prop} (F : Fr h₀ L s.heap m) (N : News h₀ L s.heap news)
    (lim : h₀.NoLimit)
    (hv : ∀ (s' : Shared) (R : Value → Shared → Prop), Fr h₀ L s'.heap m → R v s' → wpAny (model prog w) A (eval e1 env) R E s')
    (h : ∀ d h' sub tk', Fr h₀ L h' m → News h₀ L h' ((sub, dictOf [⟨PyData.keyHash w.params k, .str k s.toks, v⟩] 1) :: (d, dictOf [⟨PyData.keyHash w.params k, .str k s.toks, v⟩] 1) :: news) → (∀ p ∈ news, p.1 < d) → d < sub →
        wpAny (model prog w) A (eval e env) (fun v' s₂ => ∃ a n, v' = .ref a ∧ s₂.heap.get? a = some (dictOf [] n) ∧ s₂.heap.get? d = some (dictOf [⟨PyData.keyHash w.params k, .str k s.toks, v⟩] 1) ∧ (a == sysModules) = false ∧ Q d s₂) E { s with heap := h', toks := tk' }) :
    wpAny (model prog w) A (mergedKeywords f (backToKw pos (keywordEach [⟨some k, e1, p1⟩, ⟨none, e, p⟩] env))) Q E s := by
  refine v_merged1 F N (fun d h' F' N' l => ?_) lim
  refine wpAny_bind (hv _ _ F' (wpAny_bind (wpAny_standAt (wpAny_pure ⟨rfl, fun sub h'' tk' F'' N'' l' lo => ?_⟩))))
  exact wpAny_bind (wpAny_mono (h d h'' sub tk' F'' N'' l l') (fun v s₁ hv => wpAny_bind (wpAny_standAt (wpAny_pure hv))) fun _ _ x => x)
end Mine
end

-- VGhost
section
open PySem PySem.W PyProof.Rows PySem.Calls PySem.Spec
set_option maxRecDepth 100000
namespace Mine
abbrev Led := List (Addr × Obj)
abbrev tupO (l : List Value) : Obj := { cls := .type "tuple", data := .seq l.toArray }
abbrev litO (dx it : Addr) (l : Str) (t1 t2 : Tok) : Obj := { cls := .ref 336, dict := some dx, slots := #[some (.str l t1), some (.ref it), some (.str (Str.ofString "") t2)] }
abbrev cmpO (C dx mt it : Addr) (t : Tok) : Obj := { cls := .ref C, dict := some dx, slots := #[some (.ref mt), some (.ref it), some (.str (Str.ofString "") t)] }
abbrev lookO (dx mt it : Addr) (neg : Bool) (t : Tok) : Obj := { cls := .ref 458, dict := some dx, slots := #[some (.bool neg), some (.ref mt), some (.ref it), some (.str (Str.ofString "") t)] }
abbrev quantO (dx mt it : Addr) (mn mx : Value) (t : Tok) : Obj := { cls := .ref 504, dict := some dx, slots := #[some mx, some mn, some (.ref mt), some (.ref it), some (.str (Str.ofString "") t)] }
abbrev nodeO (dn ch x : Addr) (t : Str) (tt : Tok) (st en : Int) (ts te : Tok) : Obj := { cls := .ref 212, dict := some dn, slots := #[some (.ref ch), some (.int en te), some (.ref x), some (.str t tt), some (.int st ts)] }

def MaxIs : Option Nat → Value → Prop
  | none, v => ∃ tk, v = .float 9218868437227405312 tk
  | some n, v => ∃ tk, v = .int n tk

inductive IsEx (I : Led) : Addr → Addr → Ex → Prop where
  | lit {x dx it : Addr} {l : Str} {t1 t2 : Tok} : (x, litO dx it l t1 t2) ∈ I → l.length ≤ 2 → IsEx I x dx (.lit l)
  | seq2 {x dx mt it a b da db : Addr} {t : Tok} {ea eb : Ex} : (x, cmpO 394 dx mt it t) ∈ I → (mt, tupO [.ref a, .ref b]) ∈ I → IsEx I a da ea → IsEx I b db eb → IsEx I x dx (.seq2 ea eb)
  | seq3 {x dx mt it a b c da db dc : Addr} {t : Tok} {ea eb ec : Ex} : (x, cmpO 394 dx mt it t) ∈ I → (mt, tupO [.ref a, .ref b, .ref c]) ∈ I → IsEx I a da ea → IsEx I b db eb → IsEx I c dc ec → IsEx I x dx (.seq3 ea eb ec)
  | alt {x dx mt it a b da db : Addr} {t : Tok} {ea eb : Ex} : (x, cmpO 420 dx mt it t) ∈ I → (mt, tupO [.ref a, .ref b]) ∈ I → IsEx I a da ea → IsEx I b db eb → IsEx I x dx (.alt ea eb)
  | look {x dx mt it a da : Addr} {t : Tok} {neg : Bool} {ea : Ex} : (x, lookO dx mt it neg t) ∈ I → (mt, tupO [.ref a]) ∈ I → IsEx I a da ea → IsEx I x dx (.look neg ea)
  | quant {x dx mt it a da : Addr} {t : Tok} {mn : Nat} {mx : Option Nat} {tm : Tok} {vx : Value} {ea : Ex} : (x, quantO dx mt it (.int mn tm) vx t) ∈ I → MaxIs mx vx → mn ≤ 2 → (∀ n, mx = some n → n ≤ 3) → (mt, tupO [.ref a]) ∈ I → IsEx I a da ea → IsEx I x dx (.quant mn mx ea)

theorem IsEx.mono {I I' : Led} (h : ∀ p ∈ I, p ∈ I') {x dx : Addr} {e : Ex} (k : IsEx I x dx e) : IsEx I' x dx e := by
  induction k with
  | lit a b => exact .lit (h _ a) b
  | seq2 a b _ _ i j => exact .seq2 (h _ a) (h _ b) i j
  | seq3 a b _ _ _ i j k => exact .seq3 (h _ a) (h _ b) i j k
  | alt a b _ _ i j => exact .alt (h _ a) (h _ b) i j
  | look a b _ i => exact .look (h _ a) (h _ b) i
  | quant a b c d e _ i => exact .quant (h _ a) b c d (h _ e) i

theorem key_fun {l : Led} (hn : (l.map (·.1)).Nodup) {a : Addr} {o o' : Obj} (h : (a, o) ∈ l) (h' : (a, o') ∈ l) : o = o' := by
  induction l with
  | nil => cases h
  | cons p r ih =>
    rw [List.map_cons, List.nodup_cons] at hn
    rcases List.mem_cons.mp h with h | h <;> rcases List.mem_cons.mp h' with h' | h'
    · exact (Prod.mk.inj (h.trans h'.symm)).2
    · exact absurd (List.mem_map.mpr ⟨_, h', by rw [← h]⟩) hn.1
    · exact absurd (List.mem_map.mpr ⟨_, h, by rw [← h']⟩) hn.1
    · exact ih hn.2 h h'

theorem maxIs_fun {a b : Option Nat} {v : Value} (h : MaxIs a v) (h' : MaxIs b v) : b = a := by
  cases a <;> cases b
  · rfl
  · obtain ⟨_, rfl⟩ := h
    obtain ⟨_, q⟩ := h'
    cases q
  · obtain ⟨_, rfl⟩ := h
    obtain ⟨_, q⟩ := h'
    cases q
  · obtain ⟨_, rfl⟩ := h
    obtain ⟨_, q⟩ := h'
    injection q with q
    rw [Int.ofNat.inj q]

theorem IsEx.det {I : Led} (hn : (I.map (·.1)).Nodup) {x dx : Addr} {e : Ex} (k : IsEx I x dx e) : ∀ {dx' : Addr} {e' : Ex}, IsEx I x dx' e' → dx' = dx ∧ e' = e := by
  induction k with
  | lit a b =>
    intro dx' e' k'
    cases k' with
    | lit a' b' =>
      have h := key_fun hn a a'
      simp at h
      obtain ⟨h1, h2, h3⟩ := h
      simp_all
    | seq2 a' m' k1' k2' =>
      have h := key_fun hn a a'
      simp at h
    | seq3 a' m' k1' k2' k3' =>
      have h := key_fun hn a a'
      simp at h
    | alt a' m' k1' k2' =>
      have h := key_fun hn a a'
      simp at h
    | look a' m' k1' =>
      have h := key_fun hn a a'
      simp at h
    | quant a' v' c' d' m' k1' =>
      have h := key_fun hn a a'
      simp at h
  | seq2 a m _ _ i1 i2 =>
    intro dx' e' k'
    cases k' with
    | lit a' b' =>
      have h := key_fun hn a a'
      simp at h
    | seq2 a' m' k1' k2' =>
      have h := key_fun hn a a'
      simp at h
      obtain ⟨rfl, rfl, _⟩ := h
      have h := key_fun hn m m'
      simp at h
      obtain ⟨rfl, rfl⟩ := h
      exact ⟨rfl, by rw [(i1 k1').2, (i2 k2').2]⟩
    | seq3 a' m' k1' k2' k3' =>
      have h := key_fun hn a a'
      simp at h
      obtain ⟨_, rfl, _⟩ := h
      have h := key_fun hn m m'
      simp at h
    | alt a' m' k1' k2' =>
      have h := key_fun hn a a'
      simp at h
    | look a' m' k1' =>
      have h := key_fun hn a a'
      simp at h
    | quant a' v' c' d' m' k1' =>
      have h := key_fun hn a a'
      simp at h
  | seq3 a m _ _ _ i1 i2 i3 =>
    intro dx' e' k'
    cases k' with
    | lit a' b' =>
      have h := key_fun hn a a'
      simp at h
    | seq2 a' m' k1' k2' =>
      have h := key_fun hn a a'
      simp at h
      obtain ⟨_, rfl, _⟩ := h
      have h := key_fun hn m m'
      simp at h
    | seq3 a' m' k1' k2' k3' =>
      have h := key_fun hn a a'
      simp at h
      obtain ⟨rfl, rfl, _⟩ := h
      have h := key_fun hn m m'
      simp at h
      obtain ⟨rfl, rfl, rfl⟩ := h
      exact ⟨rfl, by rw [(i1 k1').2, (i2 k2').2, (i3 k3').2]⟩
    | alt a' m' k1' k2' =>
      have h := key_fun hn a a'
      simp at h
    | look a' m' k1' =>
      have h := key_fun hn a a'
      simp at h
    | quant a' v' c' d' m' k1' =>
      have h := key_fun hn a a'
      simp at h
  | alt a m _ _ i1 i2 =>
    intro dx' e' k'
    cases k' with
    | lit a' b' =>
      have h := key_fun hn a a'
      simp at h
    | seq2 a' m' k1' k2' =>
      have h := key_fun hn a a'
      simp at h
    | seq3 a' m' k1' k2' k3' =>
      have h := key_fun hn a a'
      simp at h
    | alt a' m' k1' k2' =>
      have h := key_fun hn a a'
      simp at h
      obtain ⟨rfl, rfl, _⟩ := h
      have h := key_fun hn m m'
      simp at h
      obtain ⟨rfl, rfl⟩ := h
      exact ⟨rfl, by rw [(i1 k1').2, (i2 k2').2]⟩
    | look a' m' k1' =>
      have h := key_fun hn a a'
      simp at h
    | quant a' v' c' d' m' k1' =>
      have h := key_fun hn a a'
      simp at h
  | look a m _ i1 =>
    intro dx' e' k'
    cases k' with
    | lit a' b' =>
      have h := key_fun hn a a'
      simp at h
    | seq2 a' m' k1' k2' =>
      have h := key_fun hn a a'
      simp at h
    | seq3 a' m' k1' k2' k3' =>
      have h := key_fun hn a a'
      simp at h
    | alt a' m' k1' k2' =>
      have h := key_fun hn a a'
      simp at h
    | look a' m' k1' =>
      have h := key_fun hn a a'
      simp at h
      obtain ⟨rfl, rfl, rfl, _⟩ := h
      have h := key_fun hn m m'
      simp at h
      subst h
      exact ⟨rfl, by rw [(i1 k1').2]⟩
    | quant a' v' c' d' m' k1' =>
      have h := key_fun hn a a'
      simp at h
  | quant a v c d m _ i1 =>
    intro dx' e' k'
    cases k' with
    | lit a' b' =>
      have h := key_fun hn a a'
      simp at h
    | seq2 a' m' k1' k2' =>
      have h := key_fun hn a a'
      simp at h
    | seq3 a' m' k1' k2' k3' =>
      have h := key_fun hn a a'
      simp at h
    | alt a' m' k1' k2' =>
      have h := key_fun hn a a'
      simp at h
    | look a' m' k1' =>
      have h := key_fun hn a a'
      simp at h
    | quant a' v' c' d' m' k1' =>
      have h := key_fun hn a a'
      simp at h
      obtain ⟨rfl, rfl, h3, rfl, _⟩ := h
      have h := key_fun hn m m'
      simp at h
      subst h
      have e1 : _ = _ := Int.ofNat.inj h3.1
      have e2 := maxIs_fun v v'
      exact ⟨rfl, by rw [(i1 k1').2, e1, e2]⟩

/-- a node's own dict: its caches so far -/
structure DN where
  x : Addr
  dx : Addr
  od : Obj
  ps : List (Int × Addr)
/-- a cache of the match at hand -/
structure RN where
  x : Addr
  c : Addr
  oc : Obj
  pv : List (Int × Value)
  e : Ex

inductive PsIs (I : Led) : List Value → List (Int × Addr) → Prop where
  | nil : PsIs I [] []
  | cons {q c : Addr} {k : Int} {tk : Tok} {vs : List Value} {ps : List (Int × Addr)} : (q, tupO [.int k tk, .ref c]) ∈ I → 0 ≤ k → PsIs I vs ps → PsIs I (.ref q :: vs) ((k, c) :: ps)
theorem PsIs.mono {I I' : Led} (h : ∀ p ∈ I, p ∈ I') {vs : List Value} {ps : List (Int × Addr)} (k : PsIs I vs ps) : PsIs I' vs ps := by
  induction k with
  | nil => exact .nil
  | cons a b _ ih => exact .cons (h _ a) b ih
theorem PsIs.len {I : Led} {vs : List Value} {ps : List (Int × Addr)} (k : PsIs I vs ps) : vs.length = ps.length := by
  induction k with
  | nil => rfl
  | cons _ _ _ ih => simp [ih]

/-- what the dict of a node bears -/
inductive DObj (I : Led) : Obj → List (Int × Addr) → Prop where
  | none {n : Nat} : DObj I (dictOf [] n) []
  | some {n : Nat} {hs : Int} {tk : Tok} {T : Addr} {vs : List Value} {ps : List (Int × Addr)} : (T, tupO vs) ∈ I → PsIs I vs ps → DObj I (dictOf [⟨hs, .str (Str.ofString "oids") tk, .ref T⟩] n) ps
theorem DObj.mono {I I' : Led} (h : ∀ p ∈ I, p ∈ I') {o : Obj} {ps : List (Int × Addr)} (k : DObj I o ps) : DObj I' o ps := by
  cases k with
  | none => exact .none
  | some a b => exact .some (h _ a) (b.mono h)

/-- what the error bears: text, pos, expr -/
def ErrOk (I : Led) (o : Obj) : Prop :=
  ∃ (n : Nat) (h1 h2 h3 : Int) (t1 t2 t3 : Tok) (vt : Value) (k : Int) (tk : Tok) (v : Value), o = dictOf [⟨h1, .str (Str.ofString "text") t1, vt⟩, ⟨h2, .str (Str.ofString "pos") t2, .int k tk⟩, ⟨h3, .str (Str.ofString "expr") t3, v⟩] n ∧
    (v = .none ∨ ∃ y dy e, v = .ref y ∧ IsEx I y dy e)

/-- the answer at a place -/
def Res (I : Led) (t : Str) (e : Ex) (p : Nat) (v : Value) : Prop :=
  match sem t e p with
  | none => v = .none
  | some q => ∃ nd dn ch x tt ts te, v = .ref nd ∧ (nd, nodeO dn ch x t tt (p : Int) (q : Int) ts te) ∈ I ∧ (dn, dictOf [] 0) ∈ I

theorem Res.mono {I I' : Led} (h : ∀ p ∈ I, p ∈ I') {t : Str} {e : Ex} {p : Nat} {v : Value} (k : Res I t e p v) : Res I' t e p v := by
  unfold Res at k ⊢
  split at k
  · exact k
  · obtain ⟨a, b, c, d, f, g, i, k1, k2, k3⟩ := k
    exact ⟨a, b, c, d, f, g, i, k1, h _ k2, h _ k3⟩

def exprO (o : Obj) : Bool := match o.cls with
  | .ref c => c == 336 || c == 394 || c == 420 || c == 458 || c == 504
  | _ => false
theorem IsEx.obj {I : Led} {x dx : Addr} {e : Ex} (k : IsEx I x dx e) : ∃ o, (x, o) ∈ I ∧ exprO o = true ∧ o.dict = some dx := by
  cases k with
  | lit a _ => exact ⟨_, a, rfl, rfl⟩
  | seq2 a _ _ _ => exact ⟨_, a, rfl, rfl⟩
  | seq3 a _ _ _ _ => exact ⟨_, a, rfl, rfl⟩
  | alt a _ _ _ => exact ⟨_, a, rfl, rfl⟩
  | look a _ _ => exact ⟨_, a, rfl, rfl⟩
  | quant a _ _ _ _ _ => exact ⟨_, a, rfl, rfl⟩

structure GS where
  I : Led
  D : List DN
  R : List RN
  oC : Obj
  oe : Obj

structure Par where
  t : Str
  er : Addr
  der : Addr
  C : Addr
  oer : Obj

def dLed (D : List DN) : Led := D.map fun d => (d.dx, d.od)
def rLed (R : List RN) : Led := R.map fun r => (r.c, r.oc)
def GS.led (P : Par) (g : GS) : Led := (P.er, P.oer) :: (P.der, g.oe) :: (P.C, g.oC) :: (dLed g.D ++ (rLed g.R ++ g.I))
def cacheKvs : Nat → List RN → List (Int × Value)
  | _, [] => []
  | n, r :: R => ((n : Int), .ref r.c) :: cacheKvs (n + 1) R

structure Inv (prog : Program) (w : World) (P : Par) (n m : Nat) (g : GS) (b : Nat) : Prop where
  nd : ((g.led P).map (·.1)).Nodup
  lo : ∀ p ∈ g.led P, (p.1 == sysModules) = false
  full : ∀ x o, (x, o) ∈ g.I → exprO o = true → ∃ d ∈ g.D, d.x = x ∧ o.dict = some d.dx
  dobj : ∀ d ∈ g.D, DObj g.I d.od d.ps
  dkey : ∀ d ∈ g.D, ∀ q ∈ d.ps, q.2 ∈ (rLed g.R ++ g.I).map (·.1)
  duniq : ∀ d ∈ g.D, ∀ d' ∈ g.D, d.x = d'.x → d = d'
  dlen : g.D.length ≤ n
  plen : ∀ d ∈ g.D, d.ps.length ≤ m + 1
  plen' : ∀ d ∈ g.D, (∀ r ∈ g.R, r.x ≠ d.x) → d.ps.length ≤ m
  cac : g.oC.IsDictOf (intKind prog w) (cacheKvs 0 g.R)
  rex : ∀ r ∈ g.R, ∃ dx, IsEx g.I r.x dx r.e
  rhead : ∀ (k : Nat) r, g.R[k]? = some r → ∀ d ∈ g.D, d.x = r.x → d.ps.head? = some ((k : Int), r.c)
  rnew : ∀ d ∈ g.D, (∀ r ∈ g.R, r.x ≠ d.x) → ∀ q ∈ d.ps, ∀ r, g.R[q.1.toNat]? = some r → r.c ≠ q.2
  rdict : ∀ r ∈ g.R, r.oc.IsDictOf (intKind prog w) r.pv
  rkey : ∀ r ∈ g.R, ∀ q ∈ r.pv, 0 ≤ q.1 ∧ q.1 ≤ P.t.length
  good : ∀ r ∈ g.R, r.e.size < b → ∀ q ∈ r.pv, Res g.I P.t r.e q.1.toNat q.2
  err : ErrOk g.I g.oe

structure Step (g g' : GS) (n : Nat) : Prop where
  grow : ∀ p ∈ g.I, p ∈ g'.I
  old : ∀ (k : Nat) r, g.R[k]? = some r → ∃ r', g'.R[k]? = some r' ∧ r'.x = r.x ∧ r'.c = r.c ∧ r'.e = r.e ∧ (n < r.e.size → r' = r)
  new : ∀ (k : Nat) r', g'.R[k]? = some r' → g.R.length ≤ k → r'.e.size ≤ n

theorem Step.refl (g : GS) (n : Nat) : Step g g n := ⟨fun _ h => h, fun k r h => ⟨r, h, rfl, rfl, rfl, fun _ => rfl⟩, fun k r h hk => absurd (List.getElem?_eq_some_iff.mp h).1 (Nat.not_lt.mpr hk)⟩
theorem Step.trans {g g' g'' : GS} {n : Nat} (a : Step g g' n) (b : Step g' g'' n) : Step g g'' n := by
  refine ⟨fun p h => b.grow p (a.grow p h), fun k r h => ?_, fun k r' h hk => ?_⟩
  · obtain ⟨r1, h1, x1, c1, e1, s1⟩ := a.old k r h
    obtain ⟨r2, h2, x2, c2, e2, s2⟩ := b.old k r1 h1
    exact ⟨r2, h2, x2.trans x1, c2.trans c1, e2.trans e1, fun z => (s2 (by rw [e1]; exact z)).trans (s1 z)⟩
  · by_cases hk' : k < g'.R.length
    · have h1 := List.getElem?_eq_getElem hk'
      obtain ⟨r2, h2, _, _, e2, _⟩ := b.old k _ h1
      rw [h] at h2
      cases h2
      rw [e2]
      exact a.new k _ h1 hk
    · exact b.new k r' h (Nat.not_lt.mp hk')
theorem Step.weaken {g g' : GS} {n n' : Nat} (a : Step g g' n) (h : n ≤ n') : Step g g' n' :=
  ⟨a.grow, fun k r hk => let ⟨r', h1, h2, h3, h4, h5⟩ := a.old k r hk; ⟨r', h1, h2, h3, h4, fun z => h5 (Nat.lt_of_le_of_lt h z)⟩, fun k r hk z => Nat.le_trans (a.new k r hk z) h⟩

section
variable {prog : Program} {w : World} {P : Par} {n m : Nat} {g g' : GS}
theorem Inv.down {b b' : Nat} (h : Inv prog w P n m g b) (hb : b' ≤ b) : Inv prog w P n m g b' := { h with good := fun r hr hs => h.good r hr (Nat.lt_of_lt_of_le hs hb) }
/-- what a smaller one did keeps the greater ones good -/
theorem Inv.lift {b k : Nat} (h : Inv prog w P n m g b) (st : Step g g' k) (h' : Inv prog w P n m g' (k + 1)) : Inv prog w P n m g' b := by
  refine { h' with good := fun r hr hs q hq => ?_ }
  by_cases hk : r.e.size < k + 1
  · exact h'.good r hr hk q hq
  · obtain ⟨i, hi, e⟩ := List.mem_iff_getElem.mp hr
    have hi' : g'.R[i]? = some r := by rw [List.getElem?_eq_getElem hi, e]
    have hlt : i < g.R.length := by
      apply Nat.lt_of_not_le
      intro z
      have := st.new i r hi' z
      omega
    obtain ⟨r1, h1, x1, c1, e1, s1⟩ := st.old i _ (List.getElem?_eq_getElem hlt)
    rw [hi'] at h1
    obtain rfl := Option.some.inj h1
    have er : r = g.R[i] := s1 (by rw [← e1]; omega)
    have hm : r ∈ g.R := by rw [er]; exact List.getElem_mem hlt
    exact (h.good r hm hs q hq).mono st.grow

theorem Inv.find {b : Nat} (h : Inv prog w P n m g b) {x dx : Addr} {e : Ex} (k : IsEx g.I x dx e) : ∃ d ∈ g.D, d.x = x ∧ d.dx = dx := by
  obtain ⟨o, ho, hc, hd⟩ := k.obj
  obtain ⟨d, h1, h2, h3⟩ := h.full x o ho hc
  exact ⟨d, h1, h2, by rw [hd] at h3; exact (Option.some.inj h3).symm⟩

theorem nodup_le {α : Type} [DecidableEq α] : ∀ {l l' : List α}, l.Nodup → (∀ a ∈ l, a ∈ l') → l.length ≤ l'.length
  | [], _, _, _ => Nat.zero_le _
  | a :: l, l', hn, hs => by
    obtain ⟨h1, h2⟩ := List.nodup_cons.mp hn
    have ha := hs a (.head _)
    have := nodup_le (l' := l'.erase a) h2 fun b hb => (List.mem_erase_of_ne (fun q => h1 (by rw [← q]; exact hb))).mpr (hs b (.tail _ hb))
    rw [List.length_erase_of_mem ha] at this
    have : 0 < l'.length := List.length_pos_of_mem ha
    rw [List.length_cons]
    omega

theorem Inv.rx {b : Nat} (h : Inv prog w P n m g b) {i j : Nat} {r r' : RN} (hi : g.R[i]? = some r) (hj : g.R[j]? = some r') (e : r.x = r'.x) : i = j := by
  obtain ⟨dx, k⟩ := h.rex r (List.mem_of_getElem? hi)
  obtain ⟨d, hd, hx, _⟩ := h.find k
  have h1 := h.rhead i r hi d hd hx
  have h2 := h.rhead j r' hj d hd (hx.trans e)
  rw [h1] at h2
  have := (Prod.mk.inj (Option.some.inj h2)).1
  omega
theorem Inv.rlen {b : Nat} (h : Inv prog w P n m g b) : g.R.length ≤ n := by
  refine Nat.le_trans ?_ h.dlen
  have a : (g.R.map (·.x)).Nodup := by
    show List.Pairwise (· ≠ ·) _
    rw [List.pairwise_iff_getElem]
    intro i j hi hj hij q
    rw [List.length_map] at hi hj
    rw [List.getElem_map, List.getElem_map] at q
    have := h.rx (List.getElem?_eq_getElem hi) (List.getElem?_eq_getElem hj) q
    omega
  have := nodup_le (l' := g.D.map (·.x)) a fun y hy => by
    obtain ⟨r, hr, rfl⟩ := List.mem_map.mp hy
    obtain ⟨dx, k⟩ := h.rex r hr
    obtain ⟨d, hd, hx, _⟩ := h.find k
    exact List.mem_map.mpr ⟨d, hd, hx⟩
  simpa using this
theorem cacheKvs_len : ∀ (R : List RN) (k : Nat), (cacheKvs k R).length = R.length
  | [], _ => rfl
  | _ :: R, k => by rw [cacheKvs, List.length_cons, List.length_cons, cacheKvs_len R]
theorem cacheKvs_at : ∀ (R : List RN) (k i : Nat) (r : RN), R[i]? = some r → valueAt (cacheKvs k R) ((k + i : Nat) : Int) = some (.ref r.c)
  | [], _, _, _, h => by simp at h
  | r₀ :: R, k, 0, r, h => by
    obtain rfl := Option.some.inj h
    simp [cacheKvs, valueAt]
  | r₀ :: R, k, i + 1, r, h => by
    have ih := cacheKvs_at R (k + 1) i r (by simpa using h)
    unfold valueAt at ih ⊢
    rw [cacheKvs, List.find?_cons_of_neg (by simp; omega)]
    rw [show k + (i + 1) = k + 1 + i by omega]
    exact ih
theorem cacheKvs_none : ∀ (R : List RN) (k : Nat) (j : Int), (j < k ∨ (k + R.length : Nat) ≤ j) → valueAt (cacheKvs k R) j = none
  | [], _, _, _ => rfl
  | r₀ :: R, k, j, h => by
    have ih := cacheKvs_none R (k + 1) j (by rw [List.length_cons] at h; omega)
    unfold valueAt at ih ⊢
    rw [cacheKvs, List.find?_cons_of_neg (by simp; rw [List.length_cons] at h; omega)]
    exact ih
theorem cacheKvs_app : ∀ (R : List RN) (k : Nat) (r : RN), cacheKvs k (R ++ [r]) = cacheKvs k R ++ [(((k + R.length : Nat) : Int), .ref r.c)]
  | [], k, r => rfl
  | r₀ :: R, k, r => by
    rw [List.cons_append, cacheKvs, cacheKvs_app R, cacheKvs, List.cons_append, List.length_cons]
    rw [show k + 1 + R.length = k + (R.length + 1) by omega]
theorem cacheKvs_congr : ∀ (R R' : List RN) (k : Nat), R.map (·.c) = R'.map (·.c) → cacheKvs k R = cacheKvs k R'
  | [], [], _, _ => rfl
  | [], _ :: _, _, h => by cases h
  | _ :: _, [], _, h => by cases h
  | r :: R, r' :: R', k, h => by
    rw [List.map_cons, List.map_cons] at h
    obtain ⟨h1, h2⟩ := List.cons.inj h
    rw [cacheKvs, cacheKvs, h1, cacheKvs_congr R R' (k + 1) h2]

theorem mem_stored {kvs : List (Int × Value)} {k : Int} {v : Value} {q : Int × Value} (h : q ∈ stored kvs k v) : q = (k, v) ∨ (q ∈ kvs ∧ q.1 ≠ k) := by
  unfold stored at h
  split at h
  · obtain ⟨a, ha, e⟩ := List.mem_map.mp h
    split at e
    · rename_i z
      left
      rw [← e, z]
    · rename_i z
      right
      rw [← e]
      exact ⟨ha, z⟩
  · rename_i z
    rcases List.mem_append.mp h with h | h
    · right
      refine ⟨h, fun q' => z ?_⟩
      exact List.any_eq_true.mpr ⟨q, h, by simp [q']⟩
    · left
      exact List.mem_singleton.mp h

theorem Inv.grow {b : Nat} (h : Inv prog w P n m g b) (add : Led) (hn : ((({ g with I := add ++ g.I } : GS).led P).map (·.1)).Nodup) (hlo : ∀ p ∈ add, (p.1 == sysModules) = false) (hx : ∀ p ∈ add, exprO p.2 = false) :
    Inv prog w P n m { g with I := add ++ g.I } b := by
  have up : ∀ p ∈ g.I, p ∈ add ++ g.I := fun p hp => List.mem_append_right _ hp
  refine ⟨hn, fun p hp => ?_, fun x o ho hc => ?_, fun d hd => (h.dobj d hd).mono up, fun d hd q hq => ?_, h.duniq, h.dlen, h.plen, h.plen', h.cac, fun r hr => ?_, h.rhead, h.rnew, h.rdict, h.rkey, fun r hr hs q hq => (h.good r hr hs q hq).mono up, ?_⟩
  · have : p ∈ g.led P ∨ p ∈ add := by
      simp only [GS.led, List.mem_cons, List.mem_append] at hp ⊢
      rcases hp with h | h | h | h | h | h | h <;> simp [h]
    exact this.elim (h.lo p) (hlo p)
  · rcases List.mem_append.mp ho with ho | ho
    · rw [hx _ ho] at hc; cases hc
    · exact h.full x o ho hc
  · have := h.dkey d hd q hq
    simp only [List.map_append, List.mem_append] at this ⊢
    exact this.elim .inl fun z => .inr (.inr z)
  · obtain ⟨dx, k⟩ := h.rex r hr
    exact ⟨dx, k.mono up⟩
  · obtain ⟨n, h1, h2, h3, t1, t2, t3, vt, k, tk, v, e, hv⟩ := h.err
    exact ⟨n, h1, h2, h3, t1, t2, t3, vt, k, tk, v, e, hv.imp id fun ⟨y, dy, e, a, b⟩ => ⟨y, dy, e, a, b.mono up⟩⟩

theorem Inv.setErr {b : Nat} (h : Inv prog w P n m g b) {oe : Obj} (he : ErrOk g.I oe) : Inv prog w P n m { g with oe } b := by
  have hn : ((({ g with oe } : GS).led P).map (·.1)) = (g.led P).map (·.1) := rfl
  exact ⟨hn ▸ h.nd, fun p hp => by
    have : p.1 ∈ (g.led P).map (·.1) := hn ▸ List.mem_map_of_mem hp
    obtain ⟨q, hq, e⟩ := List.mem_map.mp this
    rw [← e]; exact h.lo q hq, h.full, h.dobj, h.dkey, h.duniq, h.dlen, h.plen, h.plen', h.cac, h.rex, h.rhead, h.rnew, h.rdict, h.rkey, h.good, he⟩

theorem getElem?_mid {α : Type} {l₁ l₂ : List α} {a : α} {k : Nat} {x : α} (h : (l₁ ++ a :: l₂)[k]? = some x) : (k = l₁.length ∧ x = a) ∨ (k ≠ l₁.length ∧ ∀ a' : α, (l₁ ++ a' :: l₂)[k]? = some x) := by
  by_cases hk : k < l₁.length
  · right
    refine ⟨Nat.ne_of_lt hk, fun a' => ?_⟩
    rw [List.getElem?_append_left hk] at h ⊢
    exact h
  · by_cases he : k = l₁.length
    · left
      subst he
      rw [List.getElem?_append_right (Nat.le_refl _), Nat.sub_self] at h
      exact ⟨rfl, (Option.some.inj h).symm⟩
    · right
      refine ⟨he, fun a' => ?_⟩
      have : k - l₁.length = (k - l₁.length - 1) + 1 := by omega
      rw [List.getElem?_append_right (by omega), this, List.getElem?_cons_succ] at h ⊢
      exact h
theorem getElem?_midE {α : Type} {l₁ l₂ : List α} {a : α} : (l₁ ++ a :: l₂)[l₁.length]? = some a := by
  rw [List.getElem?_append_right (Nat.le_refl _), Nat.sub_self]
  rfl

theorem Inv.setR {b : Nat} {R₁ R₂ : List RN} {r : RN} {oc : Obj} {pv : List (Int × Value)} (h : Inv prog w P n m g b) (hR : g.R = R₁ ++ r :: R₂) (hd : oc.IsDictOf (intKind prog w) pv) (hk : ∀ q ∈ pv, 0 ≤ q.1 ∧ q.1 ≤ P.t.length)
    (hg : r.e.size < b → ∀ q ∈ pv, Res g.I P.t r.e q.1.toNat q.2) : Inv prog w P n m { g with R := R₁ ++ { r with oc, pv } :: R₂ } b := by
  have hk1 : (rLed (R₁ ++ { r with oc, pv } :: R₂)).map (·.1) = (rLed g.R).map (·.1) := by rw [hR]; simp [rLed]
  have hn : ((({ g with R := R₁ ++ { r with oc, pv } :: R₂ } : GS).led P).map (·.1)) = (g.led P).map (·.1) := by
    simp only [GS.led, List.map_cons, List.map_append, hk1]
  have hc : (R₁ ++ { r with oc, pv } :: R₂).map (·.c) = g.R.map (·.c) := by rw [hR]; simp
  have mem : ∀ r' ∈ R₁ ++ { r with oc, pv } :: R₂, (r' = { r with oc, pv }) ∨ r' ∈ g.R := fun r' hr => by
    rw [hR]
    simp only [List.mem_append, List.mem_cons] at hr ⊢
    rcases hr with h | h | h <;> simp [h]
  have hr0 : r ∈ g.R := by rw [hR]; simp
  have xs : ∀ y, (∀ r' ∈ R₁ ++ { r with oc, pv } :: R₂, r'.x ≠ y) → ∀ r' ∈ g.R, r'.x ≠ y := fun y hy r' hr' => by
    rw [hR] at hr'
    simp only [List.mem_append, List.mem_cons] at hr'
    rcases hr' with h | h | h
    · exact hy r' (by simp [h])
    · subst h; exact hy { r' with oc, pv } (by simp)
    · exact hy r' (by simp [h])
  refine ⟨hn ▸ h.nd, fun p hp => ?_, h.full, h.dobj, fun d hd' q hq => ?_, h.duniq, h.dlen, h.plen, fun d hd' hx => h.plen' d hd' (xs _ hx), ?_, fun r' hr' => ?_, fun k r' hk' d hd' hx => ?_, fun d hd' hx q hq r' hr' => ?_, fun r' hr' => ?_, fun r' hr' => ?_, fun r' hr' hs => ?_, h.err⟩
  · have : p.1 ∈ (g.led P).map (·.1) := hn ▸ List.mem_map_of_mem hp
    obtain ⟨q, hq, e⟩ := List.mem_map.mp this
    rw [← e]; exact h.lo q hq
  · have := h.dkey d hd' q hq
    rw [List.map_append] at this ⊢
    rw [hk1]; exact this
  · rw [cacheKvs_congr _ _ 0 hc]; exact h.cac
  · rcases mem r' hr' with rfl | q
    · exact h.rex r hr0
    · exact h.rex r' q
  · rcases getElem?_mid hk' with ⟨rfl, rfl⟩ | ⟨_, q⟩
    · have := h.rhead R₁.length r (by rw [hR]; exact getElem?_midE) d hd' hx
      exact this
    · exact h.rhead k r' (by rw [hR]; exact q r) d hd' hx
  · rcases getElem?_mid hr' with ⟨e, rfl⟩ | ⟨_, z⟩
    · exact h.rnew d hd' (xs _ hx) q hq r (by rw [hR, e]; exact getElem?_midE)
    · exact h.rnew d hd' (xs _ hx) q hq r' (by rw [hR]; exact z r)
  · rcases mem r' hr' with rfl | q
    · exact hd
    · exact h.rdict r' q
  · rcases mem r' hr' with rfl | q
    · exact hk
    · exact h.rkey r' q
  · rcases mem r' hr' with rfl | q
    · exact hg hs
    · exact h.good r' q hs

theorem Inv.reg {b : Nat} {D₁ D₂ : List DN} {d : DN} {c : Addr} {oc oC od : Obj} {e : Ex} {add : Led} (h : Inv prog w P n m g b) (hD : g.D = D₁ ++ d :: D₂) (hnew : ∀ r ∈ g.R, r.x ≠ d.x) (hx : IsEx g.I d.x d.dx e)
    (hn : ((({ I := add ++ g.I, D := D₁ ++ { d with od, ps := ((g.R.length : Int), c) :: d.ps } :: D₂, R := g.R ++ [⟨d.x, c, oc, [], e⟩], oC, oe := g.oe } : GS).led P).map (·.1)).Nodup)
    (hlo : ∀ p ∈ (c, oc) :: add, (p.1 == sysModules) = false) (hax : ∀ p ∈ add, exprO p.2 = false)
    (hc : oc.IsDictOf (intKind prog w) []) (hC : oC.IsDictOf (intKind prog w) (cacheKvs 0 (g.R ++ [⟨d.x, c, oc, [], e⟩]))) (hd : DObj (add ++ g.I) od (((g.R.length : Int), c) :: d.ps)) :
    Inv prog w P n m { I := add ++ g.I, D := D₁ ++ { d with od, ps := ((g.R.length : Int), c) :: d.ps } :: D₂, R := g.R ++ [⟨d.x, c, oc, [], e⟩], oC, oe := g.oe } b := by
  have up : ∀ p ∈ g.I, p ∈ add ++ g.I := fun p hp => List.mem_append_right _ hp
  have hd0 : d ∈ g.D := by rw [hD]; simp
  have memD : ∀ d' ∈ D₁ ++ { d with od, ps := ((g.R.length : Int), c) :: d.ps } :: D₂, (d' = { d with od, ps := ((g.R.length : Int), c) :: d.ps }) ∨ (d' ∈ g.D ∧ d'.x ≠ d.x) := fun d' hd' => by
    have ndD : ((g.D).map (·.dx)).Nodup := by
      have := h.nd
      simp only [GS.led, List.map_cons, List.map_append] at this
      have := (List.nodup_append.mp (List.nodup_cons.mp (List.nodup_cons.mp (List.nodup_cons.mp this).2).2).2).1
      simpa [dLed, List.map_map, Function.comp_def] using this
    have off : ∀ d' ∈ D₁ ++ D₂, d'.x ≠ d.x := fun d' hm q => by
      have hm' : d' ∈ g.D := by rw [hD]; simp only [List.mem_append, List.mem_cons] at hm ⊢; rcases hm with h | h <;> simp [h]
      have := h.duniq d' hm' d hd0 q
      subst this
      rw [hD, List.map_append, List.map_cons] at ndD
      obtain ⟨_, n2, n3⟩ := List.nodup_append.mp ndD
      rcases List.mem_append.mp hm with hm | hm
      · exact n3 _ (List.mem_map_of_mem hm) _ (.head _) rfl
      · exact (List.nodup_cons.mp n2).1 (List.mem_map_of_mem hm)
    simp only [List.mem_append, List.mem_cons] at hd'
    rcases hd' with h1 | h1 | h1
    · exact .inr ⟨by rw [hD]; simp [h1], off d' (by simp [h1])⟩
    · exact .inl h1
    · exact .inr ⟨by rw [hD]; simp [h1], off d' (by simp [h1])⟩
  have keepD : ∀ d' ∈ g.D, ∃ d'' ∈ D₁ ++ { d with od, ps := ((g.R.length : Int), c) :: d.ps } :: D₂, d''.x = d'.x ∧ d''.dx = d'.dx := fun d' hd' => by
    rw [hD] at hd'
    simp only [List.mem_append, List.mem_cons] at hd'
    rcases hd' with h1 | h1 | h1
    · exact ⟨d', by simp [h1], rfl, rfl⟩
    · subst h1; exact ⟨_, List.mem_append_right _ (.head _), rfl, rfl⟩
    · exact ⟨d', by simp [h1], rfl, rfl⟩
  have cfresh : ∀ q ∈ (rLed g.R ++ g.I).map (·.1), q ≠ c := fun q hq e => by
    subst e
    simp only [GS.led, List.map_cons, List.map_append, rLed, List.map_nil, List.append_assoc] at hn
    have h1 := (List.nodup_append.mp (List.nodup_cons.mp (List.nodup_cons.mp (List.nodup_cons.mp hn).2).2).2).2.1
    rw [List.map_append, List.mem_append] at hq
    rcases hq with hq | hq
    · exact (List.nodup_append.mp h1).2.2 q hq q (by simp) rfl
    · have h2 := (List.nodup_append.mp h1).2.1
      obtain ⟨p, hp, e⟩ := List.mem_map.mp hq
      subst e
      simp at h2
      exact h2.1.2 p.2 hp
  have newR : ∀ r ∈ g.R ++ [(⟨d.x, c, oc, [], e⟩ : RN)], r = ⟨d.x, c, oc, [], e⟩ ∨ r ∈ g.R := fun r hr => by
    rcases List.mem_append.mp hr with h1 | h1
    · exact .inr h1
    · exact .inl (List.mem_singleton.mp h1)
  have atR : ∀ {k : Nat} {r}, (g.R ++ [(⟨d.x, c, oc, [], e⟩ : RN)])[k]? = some r → (k = g.R.length ∧ r = ⟨d.x, c, oc, [], e⟩) ∨ g.R[k]? = some r := fun {k r} hk => by
    by_cases hlt : k < g.R.length
    · rw [List.getElem?_append_left hlt] at hk; exact .inr hk
    · rw [List.getElem?_append_right (by omega)] at hk
      have : k - g.R.length = 0 := by
        cases z : k - g.R.length with
        | zero => rfl
        | succ j => rw [z] at hk; cases hk
      rw [this] at hk
      exact .inl ⟨by omega, (Option.some.inj hk).symm⟩
  refine ⟨hn, fun p hp => ?_, fun x o ho hc' => ?_, fun d' hd' => ?_, fun d' hd' q hq => ?_, fun d1 h1 d2 h2 hxx => ?_, ?_, fun d' hd' => ?_, fun d' hd' hxx => ?_, hC, fun r hr => ?_, fun k r hk d' hd' hxx => ?_, fun d' hd' hxx q hq r hr => ?_, fun r hr => ?_, fun r hr q hq => ?_, fun r hr hs q hq => ?_, ?_⟩
  · simp only [GS.led, List.mem_cons, List.mem_append] at hp
    have lo := h.lo
    rcases hp with rfl | rfl | rfl | h1 | h1 | h1 | h1
    · exact lo _ (.head _)
    · exact lo (P.der, g.oe) (.tail _ (.head _))
    · exact lo (P.C, g.oC) (.tail _ (.tail _ (.head _)))
    · obtain ⟨d', hd', rfl⟩ := List.mem_map.mp h1
      rcases memD d' hd' with rfl | ⟨z, _⟩
      · exact lo (d.dx, d.od) (.tail _ (.tail _ (.tail _ (List.mem_append_left _ (List.mem_map_of_mem (f := fun d => (d.dx, d.od)) hd0)))))
      · exact lo (d'.dx, d'.od) (.tail _ (.tail _ (.tail _ (List.mem_append_left _ (List.mem_map_of_mem (f := fun d => (d.dx, d.od)) z)))))
    · obtain ⟨r, hr, rfl⟩ := List.mem_map.mp h1
      rcases newR r hr with rfl | z
      · exact hlo _ (.head _)
      · exact lo (r.c, r.oc) (.tail _ (.tail _ (.tail _ (List.mem_append_right _ (List.mem_append_left _ (List.mem_map_of_mem (f := fun r => (r.c, r.oc)) z))))))
    · exact hlo _ (.tail _ h1)
    · exact lo _ (.tail _ (.tail _ (.tail _ (List.mem_append_right _ (List.mem_append_right _ h1)))))
  · rcases List.mem_append.mp ho with ho | ho
    · rw [hax _ ho] at hc'; cases hc'
    · obtain ⟨d', hd', e1, e2⟩ := h.full x o ho hc'
      obtain ⟨d'', hd'', e3, e4⟩ := keepD d' hd'
      exact ⟨d'', hd'', e3.trans e1, by rw [e4]; exact e2⟩
  · rcases memD d' hd' with rfl | ⟨z, _⟩
    · exact hd
    · exact (h.dobj d' z).mono up
  · have wide : ∀ a ∈ (rLed g.R ++ g.I).map (·.1), a ∈ (rLed (g.R ++ [(⟨d.x, c, oc, [], e⟩ : RN)]) ++ (add ++ g.I)).map (·.1) := fun a ha => by
      rw [List.map_append, List.mem_append] at ha
      rw [List.map_append, List.mem_append]
      rcases ha with h1 | h1
      · left
        unfold rLed at h1 ⊢
        rw [List.map_append, List.map_append]
        exact List.mem_append_left _ h1
      · right
        rw [List.map_append]
        exact List.mem_append_right _ h1
    rcases memD d' hd' with rfl | ⟨z, _⟩
    · rcases List.mem_cons.mp hq with rfl | hq
      · simp [rLed]
      · exact wide _ (h.dkey d hd0 q hq)
    · exact wide _ (h.dkey d' z q hq)
  · rcases memD d1 h1 with rfl | ⟨z1, n1⟩ <;> rcases memD d2 h2 with rfl | ⟨z2, n2⟩
    · rfl
    · exact absurd hxx.symm n2
    · exact absurd hxx n1
    · exact h.duniq d1 z1 d2 z2 hxx
  · have := h.dlen
    rw [hD] at this
    simpa using this
  · rcases memD d' hd' with rfl | ⟨z, _⟩
    · have := h.plen' d hd0 hnew
      show (_ :: d.ps).length ≤ m + 1
      rw [List.length_cons]
      omega
    · exact h.plen d' z
  · rcases memD d' hd' with rfl | ⟨z, _⟩
    · exact absurd rfl (hxx ⟨d.x, c, oc, [], e⟩ (by simp))
    · exact h.plen' d' z fun r hr => hxx r (List.mem_append_left _ hr)
  · rcases newR r hr with rfl | z
    · exact ⟨d.dx, hx.mono up⟩
    · obtain ⟨dx, k⟩ := h.rex r z
      exact ⟨dx, k.mono up⟩
  · rcases atR hk with ⟨rfl, rfl⟩ | z
    · rcases memD d' hd' with rfl | ⟨_, n1⟩
      · rfl
      · exact absurd hxx n1
    · rcases memD d' hd' with rfl | ⟨z', _⟩
      · exact absurd hxx.symm (hnew r (List.mem_of_getElem? z))
      · exact h.rhead k r z d' z' hxx
  · rcases memD d' hd' with rfl | ⟨z', _⟩
    · exact absurd rfl (hxx ⟨d.x, c, oc, [], e⟩ (by simp))
    · rcases atR hr with ⟨_, rfl⟩ | z
      · exact fun q' => cfresh q.2 (h.dkey d' z' q hq) q'.symm
      · exact h.rnew d' z' (fun r hr => hxx r (List.mem_append_left _ hr)) q hq r z
  · rcases newR r hr with rfl | z
    · exact hc
    · exact h.rdict r z
  · rcases newR r hr with rfl | z
    · cases hq
    · exact h.rkey r z q hq
  · rcases newR r hr with rfl | z
    · cases hq
    · exact (h.good r z hs q hq).mono up
  · obtain ⟨n, h1, h2, h3, t1, t2, t3, vt, k, tk, v, e, hv⟩ := h.err
    exact ⟨n, h1, h2, h3, t1, t2, t3, vt, k, tk, v, e, hv.imp id fun ⟨y, dy, e, a, b⟩ => ⟨y, dy, e, a, b.mono up⟩⟩
end
end Mine
end

-- VCall
section
open PySem PySem.W PyProof.Rows PySem.Calls
set_option Elab.async false
set_option maxRecDepth 100000
set_option maxHeartbeats 4000000
namespace Mine

def OffL (ex W : Led) : Prop := ∀ q ∈ ex, ∀ p ∈ W, p.1 ≠ q.1
theorem OffL.nil {W : Led} : OffL [] W := fun _ h => nomatch h
theorem OffL.cons {q : Addr × Obj} {ex W : Led} (h : ∀ p ∈ W, p.1 ≠ q.1) (k : OffL ex W) : OffL (q :: ex) W := fun a ha => by
  rcases List.mem_cons.mp ha with rfl | ha
  · exact h
  · exact k a ha
theorem OffL.find {ex W : Led} (h : OffL ex W) {d : Addr} {o : Obj} (hm : (d, o) ∈ ex) : ∀ p ∈ W, p.1 ≠ d := h (d, o) hm

def oneOids (es : List DictEntry) : Prop := es = [] ∨ ∃ h tk v, es = [⟨h, .str (Str.ofString "oids") tk, v⟩]
/-- an expression object and its own dict, in a ledger -/
def NodeAt (W : Led) (y dy : Addr) : Prop :=
  ∃ (C : Addr) (sl : Array (Option Value)) (es : List DictEntry) (n : Nat), (y, ({ cls := .ref C, dict := some dy, slots := sl } : Obj)) ∈ W ∧ (C = 336 ∨ C = 394 ∨ C = 420 ∨ C = 458 ∨ C = 504) ∧ (dy, dictOf es n) ∈ W ∧ oneOids es
def isDictB (o : Obj) : Bool := match o.data with | .dict .. => true | _ => false
structure Keeps (pre post : Led) : Prop where
  imm : ∀ p ∈ pre, isDictB p.2 = false → p ∈ post
  node : ∀ y dy, NodeAt pre y dy → NodeAt post y dy
theorem Keeps.refl (W : Led) : Keeps W W := ⟨fun _ h _ => h, fun _ _ h => h⟩
theorem Keeps.trans {a b c : Led} (h : Keeps a b) (k : Keeps b c) : Keeps a c := ⟨fun p hp hd => k.imm p (h.imm p hp hd) hd, fun y dy z => k.node y dy (h.node y dy z)⟩

/-- the answer of a match at j, as the ledger bears it -/
def Ans (W : Led) (t : Str) (j : Nat) (v : Value) : Option Nat → Prop
  | none => v = .none
  | some q => ∃ nd dn ch x tt ts te, v = .ref nd ∧ (nd, nodeO dn ch x t tt (j : Int) (q : Int) ts te) ∈ W ∧ (dn, dictOf [] 0) ∈ W
theorem ans_cases {W : Led} {t : Str} {j : Nat} {v : Value} {r : Option Nat} (h : Ans W t j v r) :
    (r = none ∧ v = .none) ∨ ∃ q nd dn ch x tt ts te, r = some q ∧ v = .ref nd ∧ (nd, nodeO dn ch x t tt (j : Int) (q : Int) ts te) ∈ W ∧ (dn, dictOf [] 0) ∈ W := by
  cases r with
  | none => exact .inl ⟨rfl, h⟩
  | some q =>
    obtain ⟨nd, dn, ch, x, tt, ts, te, h1, h2, h3⟩ := h
    exact .inr ⟨q, nd, dn, ch, x, tt, ts, te, rfl, h1, h2, h3⟩

section
variable (w : World) (p : Program) (loose : List Str) (mean : ExcName → Option Value) (mg mb : Str → Option Value)

/-- a call that leaves what is not its own -/
def CallOk (f : Addr) (D U : Nat) (pre : Led) (args : List Value) (Post : Value → Led → Prop) : Prop :=
  ∀ (dp un : Nat) (gd : Option (List Code)) (cn : Str) (cs : Scope) (a : Addr) (ccd : Value) (cl : List (Str × Addr)) (outer : List Env) (A₀ : Around) (base h₀ : Heap) (L : Addr) (m : Str → Option Value) (own : Led) (s : Shared) (Q E : Value → Shared → Prop),
    Below A₀ base outer h₀ → Fr h₀ L s.heap m → (Mine.hd.heap_39 w.params).In h₀ → News h₀ L s.heap (own ++ pre) → Top p loose mean mg mb h₀ → cs.kind = .function → dp + D < recursionLimit → un + U < cLine → OffL own pre →
    (∀ v post h' tk', Fr h₀ L h' m → News h₀ L h' (own ++ post) → OffL own post → Post v post → Q v { s with heap := h', toks := tk' }) →
    wpAny (model PySem.Challenge.rw_vj0021_01.row.prog w) (ktrTop dp un gd cn cs L a ccd cl outer) (call (.ref f) args) Q E s
end

section
variable {w : World} {p : Program} {loose : List Str} {mean : ExcName → Option Value} {mg mb : Str → Option Value}
  {dp un : Nat} {gd : Option (List Code)} {cn : Str} {cs : Scope} {a : Addr} {ccd : Value} {cl : List (Str × Addr)} {outer : List Env} {A₀ : Around} {base h₀ : Heap} {L : Addr} {m : Str → Option Value} {s : Shared}
  {Q E : Value → Shared → Prop} {f : Addr} {D U : Nat} {pre own : Led} {args : List Value} {Post : Value → Led → Prop}

theorem CallOk.use (C : CallOk w p loose mean mg mb f D U pre args Post) (ex : Led) (B : Below A₀ base outer h₀) (F : Fr h₀ L s.heap m) (X : (Mine.hd.heap_39 w.params).In h₀) (N : News h₀ L s.heap (ex ++ (own ++ pre))) (T : Top p loose mean mg mb h₀)
    (hk : cs.kind = .function) (hd : dp + D < recursionLimit) (hu : un + U < cLine) (hex : OffL ex (own ++ pre)) (hown : OffL own pre)
    (h : ∀ v post h' tk', Fr h₀ L h' m → News h₀ L h' (ex ++ (own ++ post)) → OffL ex (own ++ post) → OffL own post → Post v post → Q v { s with heap := h', toks := tk' }) :
    wpAny (model PySem.Challenge.rw_vj0021_01.row.prog w) (ktrTop dp un gd cn cs L a ccd cl outer) (call (.ref f) args) Q E s := by
  refine C dp un gd cn cs a ccd cl outer A₀ base h₀ L m (ex ++ own) s Q E B F X (by rw [List.append_assoc]; exact N) T hk hd hu ?_ fun v post h' tk' F' N' off hp => ?_
  · intro q hq p hp
    rcases List.mem_append.mp hq with hq | hq
    · exact hex q hq p (List.mem_append_right _ hp)
    · exact hown q hq p hp
  · rw [List.append_assoc] at N'
    refine h v post h' tk' F' N' ?_ (fun q hq => off q (List.mem_append_right _ hq)) hp
    intro q hq p hp
    rcases List.mem_append.mp hp with hp | hp
    · exact hex q hq p (List.mem_append_left _ hp)
    · exact off q (List.mem_append_left _ hq) p hp

theorem v_getMC {A : Around} {pl : Sem Bool} {all W : Led} {y dy : Addr} {Q : Value × List Value → Shared → Prop} {E : Value → Shared → Prop} (F : Fr h₀ L s.heap m) (X : (Mine.hd.heap_39 w.params).In h₀) (N : News h₀ L s.heap all) (hn : NodeAt W y dy) (hs : ∀ p ∈ W, p ∈ all)
    (h : Q (.ref 266, [.ref y]) s) : wpAny (model PySem.Challenge.rw_vj0021_01.row.prog w) A (getMethod (.ref y) (Str.ofString "match_core") pl) Q E s := by
  obtain ⟨C, sl, es, n, h1, hC, h2, h3⟩ := hn
  have g : getL (Str.ofString "match_core") es = some none := by
    rcases h3 with rfl | ⟨_, _, _, rfl⟩
    · rfl
    · unfold getL
      rw [List.find?_cons_of_neg (by simp [Value.isStr]; decide)]
      simp [DictEntry.refKey]
  w_top off
  revert X; k_fill; intro X
  have I := InstAt.of_news (C := C) N (hs _ h1) (hs _ h2)
  rcases hC with rfl | rfl | rfl | rfl | rfl
  all_goals (k_dflt (refine' method_inst F X I ?k1 ?k2 ?k3 g h; (case k1 => k_is); (case k2 => k_is); (case k3 => k_is)))
end
end Mine
end

-- VMatch
section
open PySem PySem.W PyProof.Rows PySem.Calls
set_option Elab.async false
set_option maxRecDepth 100000
set_option maxHeartbeats 4000000
namespace Mine
theorem NodeAt.dict {W : Led} {y dy : Addr} (h : NodeAt W y dy) : ∃ od, (dy, od) ∈ W := let ⟨_, _, _, _, _, _, h, _⟩ := h; ⟨_, h⟩
inductive SplitL (tl : Led) : Led → Led → Prop where
  | nil : SplitL tl tl []
  | cons {q : Addr × Obj} {l ex : Led} : SplitL tl l ex → SplitL tl (q :: l) (q :: ex)
theorem SplitL.eq {tl all ex : Led} (h : SplitL tl all ex) : all = ex ++ tl := by
  induction h with
  | nil => rfl
  | cons _ ih => rw [ih]; rfl

/-- new ones, off the old -/
structure NewL (add W : Led) : Prop where
  nd : (add.map (·.1)).Nodup
  off : OffL add W
  lo : ∀ p ∈ add, @LT.lt Nat _ 1 p.1
  pl : ∀ p ∈ add, exprO p.2 = false
theorem NewL.nil {W : Led} : NewL [] W := ⟨.nil, .nil, (fun _ h => nomatch h), fun _ h => nomatch h⟩
theorem NewL.cons {a : Addr} {o : Obj} {add W : Led} (h : NewL add W) (h1 : ∀ p ∈ add, p.1 ≠ a) (h2 : ∀ p ∈ W, p.1 ≠ a) (h3 : @LT.lt Nat _ 1 a) (h4 : exprO o = false) : NewL ((a, o) :: add) W := by
  refine ⟨?_, .cons h2 h.off, ?_, ?_⟩
  · rw [List.map_cons, List.nodup_cons]
    refine ⟨fun hm => ?_, h.nd⟩
    obtain ⟨p, hp, e⟩ := List.mem_map.mp hm
    exact h1 p hp e
  · intro p hp
    rcases List.mem_cons.mp hp with rfl | hp
    · exact h3
    · exact h.lo p hp
  · intro p hp
    rcases List.mem_cons.mp hp with rfl | hp
    · exact h4
    · exact h.pl p hp

section
variable (w : World) (p : Program) (loose : List Str) (mean : ExcName → Option Value) (mg mb : Str → Option Value)
/-- what match_core does for the kids -/
structure MCs (Ok : Led → Prop) (Kid : Addr → Prop) (f : Addr → Nat → Option Nat) (ca er : Addr) (t : Str) (D U : Nat) : Prop where
  run : ∀ W y j tk tk', Ok W → Kid y → j ≤ t.length → CallOk w p loose mean mg mb 266 D U W [.ref y, .str t tk, .int (j : Int) tk', .ref ca, .ref er] (fun v post => Ok post ∧ Keeps W post ∧ Ans post t j v (f y j))
  at' : ∀ W y, Ok W → Kid y → ∃ dy, NodeAt W y dy
  fwd : ∀ y, Kid y → Fwd t.length (f y)
end
/-- what is known behind such a call -/
structure AfterC (Ok : Led → Prop) (ex own W W' : Led) (t : Str) (j : Nat) (v : Value) (r : Option Nat) : Prop where
  oex : OffL ex (own ++ W')
  oown : OffL own W'
  ok : Ok W'
  kp : Keeps W W'
  an : Ans W' t j v r
def UmPost (Ok : Led → Prop) (pre : Led) (t : Str) (k : Nat) (r : Option Nat) (v : Value) (post : Led) : Prop :=
  ∃ add W', post = add ++ W' ∧ Ok W' ∧ Keeps pre W' ∧ NewL add W' ∧ Ans add t k v r

section
variable {w : World} {p : Program} {loose : List Str} {mean : ExcName → Option Value} {mg mb : Str → Option Value}
  {dp un : Nat} {gd : Option (List Code)} {cn : Str} {cs : Scope} {a : Addr} {ccd : Value} {cl : List (Str × Addr)} {outer : List Env} {A₀ : Around} {base h₀ : Heap} {L : Addr} {m : Str → Option Value} {s : Shared}
  {Q E : Value → Shared → Prop} {D U : Nat} {W own all ex : Led} {Ok : Led → Prop} {Kid : Addr → Prop} {f : Addr → Nat → Option Nat} {ca er : Addr} {t : Str}

theorem v_callMC {y : Addr} {j : Nat} {tk tk' : Tok} (M : MCs w p loose mean mg mb Ok Kid f ca er t D U) (B : Below A₀ base outer h₀) (F : Fr h₀ L s.heap m) (X : (Mine.hd.heap_39 w.params).In h₀) (N : News h₀ L s.heap all) (T : Top p loose mean mg mb h₀)
    (hs : SplitL (own ++ W) all ex) (hok : Ok W) (hy : Kid y) (hj : j ≤ t.length)
    (hk : cs.kind = .function) (hd : dp + D < recursionLimit) (hu : un + U < cLine) (hex : OffL ex (own ++ W)) (hown : OffL own W)
    (h : ∀ v W' h' tk', Fr h₀ L h' m → News h₀ L h' (ex ++ (own ++ W')) → AfterC Ok ex own W W' t j v (f y j) → Q v { s with heap := h', toks := tk' }) :
    wpAny (model PySem.Challenge.rw_vj0021_01.row.prog w) (ktrTop dp un gd cn cs L a ccd cl outer) (call (.ref 266) [.ref y, .str t tk, .int (j : Int) tk', .ref ca, .ref er]) Q E s := by
  refine (M.run W y j tk tk' hok hy hj).use ex B F X (hs.eq ▸ N) T hk hd hu hex hown fun v post h' tk' F' N' o1 o2 ⟨p1, p2, p3⟩ => h v post h' tk' F' N' ⟨o1, o2, p1, p2, p3⟩

theorem v_callMCz {y : Addr} {z : Int} {tk tk' : Tok} (M : MCs w p loose mean mg mb Ok Kid f ca er t D U) (B : Below A₀ base outer h₀) (F : Fr h₀ L s.heap m) (X : (Mine.hd.heap_39 w.params).In h₀) (N : News h₀ L s.heap all) (T : Top p loose mean mg mb h₀)
    (hs : SplitL (own ++ W) all ex) (hok : Ok W) (hy : Kid y) (hj : 0 ≤ z ∧ z ≤ t.length)
    (hk : cs.kind = .function) (hd : dp + D < recursionLimit) (hu : un + U < cLine) (hex : OffL ex (own ++ W)) (hown : OffL own W)
    (h : ∀ v W' h' tk', Fr h₀ L h' m → News h₀ L h' (ex ++ (own ++ W')) → AfterC Ok ex own W W' t z.toNat v (f y z.toNat) → Q v { s with heap := h', toks := tk' }) :
    wpAny (model PySem.Challenge.rw_vj0021_01.row.prog w) (ktrTop dp un gd cn cs L a ccd cl outer) (call (.ref 266) [.ref y, .str t tk, .int z tk', .ref ca, .ref er]) Q E s := by
  have e : z = (z.toNat : Int) := by omega
  rw [e]
  exact v_callMC M B F X N T hs hok hy (by omega) hk hd hu hex hown h

theorem v_getMC' {A : Around} {pl : Sem Bool} {y : Addr} {Q : Value × List Value → Shared → Prop} {E : Value → Shared → Prop} (M : MCs w p loose mean mg mb Ok Kid f ca er t D U) (F : Fr h₀ L s.heap m) (X : (Mine.hd.heap_39 w.params).In h₀) (N : News h₀ L s.heap all) (hs : SplitL (own ++ W) all ex) (hok : Ok W) (hy : Kid y)
    (h : Q (.ref 266, [.ref y]) s) : wpAny (model PySem.Challenge.rw_vj0021_01.row.prog w) A (getMethod (.ref y) (Str.ofString "match_core") pl) Q E s := by
  obtain ⟨dy, hn⟩ := M.at' W y hok hy
  exact v_getMC F X N hn (fun p hp => by rw [hs.eq]; exact List.mem_append_right _ (List.mem_append_right _ hp)) h

theorem v_end {its news' : Led} {rest : (Str → Option Value) → Led → Prop} {s₁ : Shared} {h' : Heap} {tk : Nat} {m' : Str → Option Value} (F : Fr h₀ L h' m') (N : News h₀ L h' all) (e : its ++ news' = all) (off : OffL its news') (r : rest m' news') :
    UnrEndW h₀ L s₁ its rest { s₁ with heap := h', toks := tk } := ⟨h', tk, m', news', rfl, F, e ▸ N, fun p hp q hq => off q hq p hp, r⟩
theorem v_truthyL {A : Around} {prog : Program} {l : Addr} {xs : Array Value} {n : Nat} {Q : Bool → Shared → Prop} {E : Value → Shared → Prop} (N : News h₀ L s.heap all) (hm : (l, PySem.W.listOf xs n) ∈ all) (hz : xs.size ≤ 1000)
    (h : Q (!xs.isEmpty) { s with toks := s.toks + 1 + 1 }) : wpAny (model prog w) A (truthy (.ref l)) Q E s :=
  PySem.wpAny_truthy_list (News.isList N hm) (by omega) h

theorem um_end {v : Value} {add W₀ : Led} {h' : Heap} {tk k : Nat} {r : Option Nat}
    (hQ : ∀ v post h' tk', Fr h₀ L h' m → News h₀ L h' (own ++ post) → OffL own post → UmPost Ok W₀ t k r v post → Q v { s with heap := h', toks := tk' })
    (F : Fr h₀ L h' m) (N : News h₀ L h' all) (hs : ∀ p ∈ add ++ (own ++ W), p ∈ all) (hown : OffL own W) (hok : Ok W) (kp : Keeps W₀ W) (nl : NewL add (own ++ W)) (an : Ans add t k v r) :
    Q v { s with heap := h', toks := tk } := by
  refine hQ v (add ++ W) h' tk F (N.perm fun p hp => hs p ?_) ?_ ⟨add, W, rfl, hok, kp, ⟨nl.nd, fun q hq p hp => nl.off q hq p (List.mem_append_right _ hp), nl.lo, nl.pl⟩, an⟩
  · simp only [List.mem_append] at hp ⊢
    rcases hp with h | h | h <;> simp [h]
  · intro q hq p hp
    rcases List.mem_append.mp hp with h | h
    · exact fun e => nl.off p h q (List.mem_append_left _ hq) e.symm
    · exact hown q hq p h

inductive PickL (tl : Led) : Led → Led → Prop where
  | nil : PickL tl tl []
  | skip {a : Addr} {o : Obj} {l ex : Led} : o.cls = .type "tuple_iterator" → PickL tl l ex → PickL tl ((a, o) :: l) ex
  | skipL {a : Addr} {xs : Array Value} {n : Nat} {l ex : Led} : PickL tl l ex → PickL tl ((a, PySem.W.listOf xs n) :: l) ex
  | cons {q : Addr × Obj} {l ex : Led} : PickL tl l ex → PickL tl (q :: l) (q :: ex)
theorem PickL.mem {tl all ex : Led} (h : PickL tl all ex) : ∀ p ∈ ex ++ tl, p ∈ all := by
  induction h with
  | nil => exact fun _ h => h
  | skip _ _ ih => exact fun p hp => .tail _ (ih p hp)
  | skipL _ ih => exact fun p hp => .tail _ (ih p hp)
  | cons _ ih =>
    intro p hp
    rcases List.mem_cons.mp hp with rfl | hp
    · exact .head _
    · exact .tail _ (ih p hp)
def LoW (W : Led) : Prop := ∃ x y o o', (x, o) ∈ W ∧ (y, o') ∈ W ∧ x ≠ y
theorem v_lt1 {c : Addr} (h : LoW W) (al : AllLt c (own ++ W)) : @LT.lt Nat _ 1 c := by
  obtain ⟨x, y, o, o', h1, h2, hne⟩ := h
  have g1 : @LT.lt Nat _ x c := tb_ltOf al _ (List.mem_append_right _ h1)
  have g2 : @LT.lt Nat _ y c := tb_ltOf al _ (List.mem_append_right _ h2)
  have hne' : ¬ @Eq Nat x y := hne
  show @LT.lt Nat _ 1 c
  omega
theorem um_end2 {v : Value} {add W₀ : Led} {h' : Heap} {tk k : Nat} {r : Option Nat}
    (F : Fr h₀ L h' m) (N : News h₀ L h' all) (pk : PickL (own ++ W) all add) (hown : OffL own W) (hok : Ok W) (kp : Keeps W₀ W) (nl : NewL add (own ++ W)) (an : Ans add t k v r)
    (hQ : ∀ v post h' tk', Fr h₀ L h' m → News h₀ L h' (own ++ post) → OffL own post → UmPost Ok W₀ t k r v post → Q v { s with heap := h', toks := tk' }) :
    Q v { s with heap := h', toks := tk } := um_end hQ F N pk.mem hown hok kp nl an

/-- a place where the walker waits -/
def Halt (P : Prop) : Prop := P
theorem unHalt {P : Prop} (h : Halt P) : P := h
theorem whl_ind {prog : Program} {A : Around} {E : Value → Shared → Prop} {env : Env} {test : PySem.Expr} {body orelse : List Stmt} {Q : Flow → Shared → Prop} {Iv : Nat → Shared → Prop}
    (step : ∀ n s, Iv n s → (∀ m s', m < n → Iv m s' → WhlRest prog w A E env test body orelse Q 0 s') → WhlRest prog w A E env test body orelse Q 1 s) {n k : Nat} {s : Shared} (h : Iv n s) : WhlRest prog w A E env test body orelse Q k s := by
  induction n using Nat.strongRecOn generalizing s k with
  | _ n ih => exact step n s h fun m s' hm hs => ih m hm hs

theorem inf_gt (n : Int) : (Float64.cmpInt 9218868437227405312 n == some Ordering.gt) = true := by
  have e : Float64.decode 9218868437227405312 = .inf false := by simp [Float64.decode]
  unfold Float64.cmpInt
  rw [e]
  rfl
theorem fr_ext {h' : Heap} {m₁ m₂ : Str → Option Value} (F : Fr h₀ L h' m₁) (e : ∀ y, m₁ y = m₂ y) : Fr h₀ L h' m₂ := funext e ▸ F
theorem v_lenL {A : Around} {prog : Program} {l : Addr} {xs : Array Value} {n c : Nat} {Q : Value → Shared → Prop} {E : Value → Shared → Prop} (N : News h₀ L s.heap all) (hm : (l, PySem.W.listOf xs n) ∈ all) (hc : xs.size = c) (hz : c ≤ 1000)
    (h : Q (.int (c : Int) (s.toks + 1)) { s with toks := s.toks + 1 + 1 }) : wpAny (model prog w) A (call (.builtin "len") [.ref l]) Q E s :=
  PySem.Calls.call_len_list (News.isList N hm) (by omega) (by rw [hc]; exact h)

abbrev qM (m₅ : Str → Option Value) (z : Value) (nv lv : Option Value) : Str → Option Value := fun y => if y = Str.ofString "new_pos" then some z else if y = Str.ofString "node" then nv else if y = Str.ofString "length" then lv else m₅ y
theorem q_map {m₅ : Str → Option Value} {z z' : Value} {nv lv nv' lv' : Option Value} (y : Str) :
    (if y = Str.ofString "new_pos" then some z' else if y = Str.ofString "length" then lv' else if y = Str.ofString "node" then nv' else qM m₅ z nv lv y) = qM m₅ z' nv' lv' y := by
  have e1 : (Str.ofString "length" = Str.ofString "node") = False := by simp; decide
  unfold qM
  by_cases h1 : y = Str.ofString "new_pos"
  · rw [if_pos h1, if_pos h1]
  · by_cases h2 : y = Str.ofString "length"
    · subst h2
      rw [if_neg h1, if_pos rfl, if_neg h1, if_neg (by rw [e1]; exact id), if_pos rfl]
    · by_cases h3 : y = Str.ofString "node"
      · rw [if_neg h1, if_neg h2, if_pos h3, if_neg h1, if_pos h3]
      · rw [if_neg h1, if_neg h2, if_neg h3, if_neg h1, if_neg h3, if_neg h2, if_neg h1, if_neg h3, if_neg h2]

theorem q_ind {prog : Program} {A : Around} {E : Value → Shared → Prop} {env : Env} {test : PySem.Expr} {body orelse : List Stmt} {Qf : Flow → Shared → Prop} {h₅ : Heap} {m₅ : Str → Option Value} {l : Addr} {xn : Nat} {k kf tk0 : Nat} {tk3 : Tok} {g : Nat → Option Nat} {mn : Nat} {mx : Option Nat}
    (hF : Fr h₀ L h₅ m₅) (hN : News h₀ L h₅ ((l, PySem.W.listOf #[] xn) :: (own ++ W))) (hm0 : m₅ (Str.ofString "new_pos") = some (.int (k : Int) tk3))
    (hlt : ∀ q ∈ own ++ W, q.1 ≠ l) (hown : OffL own W) (hok : Ok W) (hp : k ≤ t.length)
    (step : ∀ (j n p : Nat) (tk1 : Tok) (nv lv : Option Value) (xs : Array Value) (xn : Nat) (W' : Led) (h' : Heap) (tk : Nat), Fr h₀ L h' (qM m₅ (.int (p : Int) tk1) nv lv) → News h₀ L h' ((l, PySem.W.listOf xs xn) :: (own ++ W')) → (∀ q ∈ own ++ W', q.1 ≠ l) → OffL own W' → Ok W' → Keeps W W' →
      xs.size = n → k ≤ p → p ≤ t.length → (t.length - p) + (mn - n) < j + 1 → n + j ≤ t.length + mn → qrun g t.length mn mx (j + 1) n p = qrun g t.length mn mx (t.length + mn + 1) 0 k →
      (∀ (n p : Nat) (tk1 : Tok) (nv lv : Option Value) (xs : Array Value) (xn : Nat) (W' : Led) (h' : Heap) (tk : Nat), Fr h₀ L h' (qM m₅ (.int (p : Int) tk1) nv lv) → News h₀ L h' ((l, PySem.W.listOf xs xn) :: (own ++ W')) → (∀ q ∈ own ++ W', q.1 ≠ l) → OffL own W' → Ok W' → Keeps W W' →
        xs.size = n → k ≤ p → p ≤ t.length → (t.length - p) + (mn - n) < j → n + j ≤ t.length + mn + 1 → qrun g t.length mn mx j n p = qrun g t.length mn mx (t.length + mn + 1) 0 k → WhlRest prog w A E env test body orelse Qf 0 { s with heap := h', toks := tk }) →
      WhlRest prog w A E env test body orelse Qf 1 { s with heap := h', toks := tk }) :
    WhlRest prog w A E env test body orelse Qf kf { s with heap := h₅, toks := tk0 } := by
  have main : ∀ (j n p : Nat) (tk1 : Tok) (nv lv : Option Value) (xs : Array Value) (xn : Nat) (W' : Led) (h' : Heap) (tk : Nat), Fr h₀ L h' (qM m₅ (.int (p : Int) tk1) nv lv) → News h₀ L h' ((l, PySem.W.listOf xs xn) :: (own ++ W')) → (∀ q ∈ own ++ W', q.1 ≠ l) → OffL own W' → Ok W' → Keeps W W' →
        xs.size = n → k ≤ p → p ≤ t.length → (t.length - p) + (mn - n) < j → n + j ≤ t.length + mn + 1 → qrun g t.length mn mx j n p = qrun g t.length mn mx (t.length + mn + 1) 0 k → WhlRest prog w A E env test body orelse Qf 0 { s with heap := h', toks := tk } := by
    intro j
    induction j with
    | zero => intro n p tk1 nv lv xs xn W' h' tk _ _ _ _ _ _ _ _ _ hj; exact absurd hj (Nat.not_lt_zero _)
    | succ j ih =>
      intro n p tk1 nv lv xs xn W' h' tk a1 a2 a3 a4 a5 a6 a7 a8 a9 aA aB aC
      exact step j n p tk1 nv lv xs xn W' h' tk a1 a2 a3 a4 a5 a6 a7 a8 a9 aA (by omega) aC ih
  refine main (t.length + mn + 1) 0 k tk3 (m₅ (Str.ofString "node")) (m₅ (Str.ofString "length")) #[] xn W h₅ tk0 (fr_ext hF fun y => ?_) hN hlt hown hok (.refl W) rfl (Nat.le_refl _) hp (by omega) (by omega) rfl
  unfold qM
  by_cases h1 : y = Str.ofString "new_pos"
  · rw [if_pos h1, h1, hm0]
  · by_cases h3 : y = Str.ofString "node"
    · rw [if_neg h1, if_pos h3, h3]
    · by_cases h2 : y = Str.ofString "length"
      · rw [if_neg h1, if_neg h3, if_pos h2, h2]
      · rw [if_neg h1, if_neg h3, if_neg h2]
end
end Mine
end

-- VGet
section
open PySem PySem.W PyProof.Rows PySem.Calls PySem.Spec Builtin Builtin.ObjectAttr
set_option maxRecDepth 100000
set_option maxHeartbeats 1000000
namespace Mine
def nameShort (K : Frag) (C : Addr) : Bool := match clsIn K C with | some cd => decide (cd.name.toString.length ≤ 40) && decide (cd.name.cps.foldl (fun k c => k + (Str.utf8Of c).length) 0 ≤ 100) | none => false
theorem args_getattr_3 (a b c : Value) : argsOk "getattr" ⟨[a, b, c], []⟩ := by unfold argsOk; kernel_rfl
section
variable {prog : Program} {w : World} {A : Around} {E : Value → Shared → Prop} {s : Shared} {K : Frag} {x C f L : Addr} {ox : Obj} {od : Obj} {name : Str} {expr : Bool} {h₀ : Heap} {m : Str → Option Value} {news : List (Addr × Obj)} {es : List DictEntry} {n : Nat} {Q : Value → Shared → Prop} {t : Tok} {dflt : Value}

/-- getattr with a default, of an object of a class of ours -/
theorem v_getattr3 (F : Fr h₀ L s.heap m) (X₀ : K.In h₀) (I : InstAt s.heap x ox C (some od)) (hm : mroIn K C (.type "module") = some false) (hn : (name != ("get_source" : Str)) = true)
    (h : wpAny (model prog w) A.in1 (getAttrBy (.ref x) (.str name t) false) Q (fun e s' => wpAny (model prog w) A.in1 (isInstance e (.type "AttributeError")) (fun b s'' => b = true ∧ Q dflt s'') (fun _ _ => False) s') s) :
    wpAny (model prog w) A (call (.builtin "getattr") [.ref x, .str name t, dflt]) Q E s := by
  refine Calls.call_function_entry KB.kind_getattr KB.plain_getattr KB.entry_getattr (args_getattr_3 _ _ _) ?_
  unfold Builtin.«getattr»
  refine wpAny_bind (wpAny_of_eq (a := [.ref x, .str name t, dflt]) (by first | rfl | kernel_rfl) ?_)
  dsimp only
  refine wpAny_bind (wpAny_of_eq (a := ()) (by first | rfl | kernel_rfl) ?_)
  refine wpAny_bind (wpAny_of_eq (a := none) ?_ ?_)
  · show (if (name != ("get_source" : Str)) = true then (pure none : Sem (Option Value)) else _) = _
    rw [if_pos hn]
  dsimp only
  have X := X₀.keeps F.keep
  have L0 := I.type (M := model prog w)
  have LI : Looks (model prog w) s.heap (isInstance (.ref x) (.type "module")) false := L0.andThen (looks_mroIn X hm)
  obtain ⟨hh, g, d, tk, os⟩ := s
  refine wpAny_bind (m := _) ?_
  show wpAny _ _ ((pure (some name) : Sem (Option Str)) >>= _) _ _ _
  refine wpAny_bind (wpAny_pure ?_)
  dsimp only
  refine wpAny_bind (LI.at ?_)
  refine wpAny_pure ?_
  show wpAny _ _ (getAttrBy? _ _ >>= _) _ _ _
  unfold getAttrBy?
  refine wpAny_bind (wpAny_bind (wpAny_attempt (wpAny_mono h (fun v s' hq => ?_) fun e s' he => ?_)))
  · exact wpAny_pure (wpAny_pure ⟨_, rfl, hq⟩)
  · refine wpAny_bind (wpAny_mono he (fun b s'' hb => ?_) fun _ _ z => z.elim)
    obtain ⟨rfl, hb⟩ := hb
    exact wpAny_pure (wpAny_pure ⟨_, rfl, hb⟩)

theorem v_openBy (X : K.In s.heap) (I : InstAt s.heap x ox C (some od)) (hga : findIn K (.ref C) "__getattribute__" = some (some (.builtin "object.__getattribute__")))
    (h : wpAny (model prog w) A.in1 (Builtin.«proto.getattr_hooked» ⟨[.ref x, .str name t], []⟩)
      (fun fin s' => match fin with | .done (.ret v) => wpAny (model prog w) A (handedOut v) Q E s' | _ => False) E s) :
    wpAny (model prog w) A (getAttrBy (.ref x) (.str name t) false expr) Q E s := by
  obtain ⟨hh, g, d, tk, os⟩ := s
  have L0 := I.type (M := model prog w)
  have L1 := looks_findIn (M := model prog w) X hga
  unfold getAttrBy
  refine wpAny_holding (wpAny_bind (L0.at (wpAny_bind (L1.at ?_))))
  show wpAny _ _ (getAttrEveryday _ _ _) _ _ _
  refine wpAny_bind (wpAny_onRaise (wpAny_runValue (codeAny_builtin F.plainObj_entry_getattr_hooked (wpAny_mono h (fun fin s' z => ?_) fun e s' z => wpAny_pure z))))
  rcases fin with (_ | _ | _ | _) | _ <;> first | exact z | exact z.elim

theorem v_valueBy {v : Value} (X : K.In s.heap) (I : InstAt s.heap x ox C (some od)) (hga : findIn K (.ref C) "__getattribute__" = some (some (.builtin "object.__getattribute__")))
    (hf : findObj K C (some od) name = some (.value v)) (hh : handedIn v = true) (h : Q v s) : wpAny (model prog w) A (getAttrBy (.ref x) (.str name t) false expr) Q E s := by
  refine v_openBy X I hga ?_
  obtain ⟨hh', g, d, tk, os⟩ := s
  have L0 := I.type (M := model prog w)
  have L1 := looks_find (M := model prog w) X I hf
  refine wpAny_bind (wpAny_pure (wpAny_bind (L0.at (wpAny_bind (L1.at ?_)))))
  refine wpAny_pure ?_
  show wpAny _ _ (handedOut v) _ _ _
  rw [handedOut_of hh]; exact wpAny_pure h

theorem v_bindBy {g a : Value} (X : K.In s.heap) (I : InstAt s.heap x ox C (some od)) (hga : findIn K (.ref C) "__getattribute__" = some (some (.builtin "object.__getattribute__")))
    (hf : findObj K C (some od) name = some (.bind g a)) (hk : findIn K (.ref C) "__getattr__" = some none)
    (h : wpAny (model prog w) A.in1 (call g [a, .ref x, .ref C]) (fun v s' => wpAny (model prog w) A (handedOut v) Q E s') E s) :
    wpAny (model prog w) A (getAttrBy (.ref x) (.str name t) false expr) Q E s := by
  refine v_openBy X I hga ?_
  obtain ⟨hh', gg, d, tk, os⟩ := s
  have L0 := I.type (M := model prog w)
  have L1 := looks_find (M := model prog w) X I hf
  have L2 := looks_findIn (M := model prog w) X hk
  refine wpAny_bind (wpAny_pure (wpAny_bind (L0.at (wpAny_bind (L1.at (wpAny_bind (L2.at ?_)))))))
  show wpAny _ _ (holding [a] (call g [a, .ref x, .ref C]) >>= ret) _ _ _
  exact wpAny_bind (wpAny_holding (wpAny_mono h (fun v s' z => wpAny_pure z) fun _ _ z => z))

theorem v_missBy (X : K.In s.heap) (I : InstAt s.heap x ox C (some od)) (hga : findIn K (.ref C) "__getattribute__" = some (some (.builtin "object.__getattribute__")))
    (hf : findObj K C (some od) name = some .missing) (hk : findIn K (.ref C) "__getattr__" = some none) (hA : A.handled = none) (hc : nameShort K C = true) (hsz : name.length + 100 ≤ sizeLine)
    (h : ∀ h' tk e, Heap.NewAttrErr s.heap h' e (.ref x) name → E (.ref e) { s with heap := h', toks := tk }) :
    wpAny (model prog w) A (getAttrBy (.ref x) (.str name t) false expr) Q E s := by
  refine v_openBy X I hga ?_
  unfold nameShort at hc
  split at hc
  rotate_left
  · cases hc
  rename_i cd hcd
  obtain ⟨c1, c2⟩ := Bool.and_eq_true_iff.mp hc
  have c1 := of_decide_eq_true c1
  have c2 := of_decide_eq_true c2
  obtain ⟨hh', gg, d, tk, os⟩ := s
  have L0 := I.type (M := model prog w)
  have L1 := looks_find (M := model prog w) X I hf
  have L2 := looks_findIn (M := model prog w) X hk
  have L3 := looks_clsIn (M := model prog w) X hcd
  refine wpAny_bind (wpAny_pure (wpAny_bind (L0.at (wpAny_bind (L1.at (wpAny_bind (L2.at ?_)))))))
  show wpAny _ _ (noSuchAttribute _ _) _ _ _
  unfold noSuchAttribute typeNameOfCut shownTypeOf
  refine wpAny_bind (wpAny_bind (wpAny_bind (L0.at ?_)))
  rw [if_neg (show ¬((Value.ref C == Value.type "builtin_function_or_method") = true) from nofun)]
  refine wpAny_pure ?_
  refine wpAny_bind (L3.at ?_)
  dsimp only
  rw [if_pos c2]
  refine wpAny_pure ?_
  refine wpAny_raiseAttrError hA (fun h' tk' e q => h h' tk' e q) ?_
  refine attrMsg_fits ?_ hsz
  rw [show (toString "'" ++ toString cd.name.toString ++ toString "' object has no attribute '") = "'" ++ cd.name.toString ++ "' object has no attribute '" from rfl, String.length_append, String.length_append]
  have e1 : "'".length = 1 := by decide
  have e2 : "' object has no attribute '".length = 27 := by decide
  omega

theorem attr_isI {o : Value} {h' : Heap} {e : Addr} {A : Around} {Q : Bool → Shared → Prop} {E : Value → Shared → Prop} {h : Heap} (q : Heap.NewAttrErr h h' e o name) {tk : Nat} (hq : Q true { s with heap := h', toks := tk }) :
    wpAny (model prog w) A (isInstance (.ref e) (.type "AttributeError")) Q E { s with heap := h', toks := tk } := by
  obtain ⟨t', u', he⟩ := q.there
  obtain ⟨hp, g, d, tk0, os⟩ := s
  have f1 := sub_AttributeError
  unfold isInstance
  repeat (any_goals (first | assumption | wp_step))

theorem v_miss3 (F : Fr h₀ L s.heap m) (X₀ : K.In h₀) (N : News h₀ L s.heap news) (I : InstAt s.heap x ox C (some (dictOf es n))) (hm : mroIn K C (.type "module") = some false) (hg : plainGet K C name = true) (hh : hasDictIn K C = true) (ha : findIn K (.ref C) name = some none)
    (hc : copiedNames.contains name = false) (hl : getL name es = some none) (hs : nameShort K C = true) (hA : A.handled = none) (hn : (name != ("get_source" : Str)) = true) (hsz : name.length + 100 ≤ sizeLine)
    (h : ∀ h' tk, Fr h₀ L h' m → News h₀ L h' news → Q dflt { s with heap := h', toks := tk }) :
    wpAny (model prog w) A (call (.builtin "getattr") [.ref x, .str name t, dflt]) Q E s := by
  have hf : findObj K C (some (dictOf es n)) name = some .missing := by
    obtain ⟨cd, hc', hd⟩ := any_some hh
    unfold findObj
    have ho : W.ownOf cd (some (dictOf es n)) name = some none := by unfold W.ownOf; rw [if_pos hd]; show lookIn name (dictOf es n) = _; rw [lookIn_dict, hl]
    rw [hc', Option.bind_some, ha, Option.bind_some]
    simp only [Option.bind_some, ho, hc, Bool.false_and, Bool.false_eq_true, if_false]
  refine v_getattr3 F X₀ I hm hn ?_
  refine v_missBy (X₀.keeps F.keep) I (plainGet_of hg).1 hf (plainGet_of hg).2 hA hs hsz fun h' tk e q => ?_
  exact attr_isI q ⟨rfl, h h' tk (F.after q.keeps) (N.grown q.keeps)⟩

theorem v_own3 {v : Value} {attr : Option Value} (F : Fr h₀ L s.heap m) (X₀ : K.In h₀) (I : InstAt s.heap x ox C (some (dictOf es n))) (hm : mroIn K C (.type "module") = some false) (hg : plainGet K C name = true) (hh : hasDictIn K C = true) (ha : findIn K (.ref C) name = some attr) (hno : noGet K attr = true)
    (hl : getL name es = some (some v)) (hv : handedIn v = true) (hn : (name != ("get_source" : Str)) = true) (h : Q v s) :
    wpAny (model prog w) A (call (.builtin "getattr") [.ref x, .str name t, dflt]) Q E s :=
  v_getattr3 F X₀ I hm hn (v_valueBy (X₀.keeps F.keep) I (plainGet_of hg).1 (findObj_own hh ha hno (by show lookIn name (dictOf es n) = _; rw [lookIn_dict, hl])) hv h)

theorem v_slot3 {p : Addr} {i : Nat} {v : Value} (F : Fr h₀ L s.heap m) (X₀ : K.In h₀) (I : InstAt s.heap x ox C (some od)) (hm : mroIn K C (.type "module") = some false) (hg : plainGet K C name = true) (hc : isClsIn K C = true)
    (ha : findIn K (.ref C) name = some (some (.ref p))) (hnn : specialIn K (.ref p) "__get__" = some (some (.builtin "member_descriptor.__get__"))) (ht : takesIn K (.ref p) = some true) (hp : slotIn K p C = some i)
    (hv : (ox.slots[i]?).join = some v) (hh : handedIn v = true) (hn : (name != ("get_source" : Str)) = true) (h : Q v s) :
    wpAny (model prog w) A (call (.builtin "getattr") [.ref x, .str name t, dflt]) Q E s :=
  v_getattr3 F X₀ I hm hn (v_bindBy (X₀.keeps F.keep) I (plainGet_of hg).1 (findObj_data hc ha hnn ht) (plainGet_of hg).2 (wpAny_call (slot_get (X₀.keeps F.keep) I hp hv (handed_on hh h))))


theorem none_missBy (hmiss : typeLookup (.type "NoneType") name = pure none) (hA : A.handled = none) (hsz : name.length + 100 ≤ sizeLine)
    (h : ∀ h' tk e, Heap.NewAttrErr s.heap h' e .none name → E (.ref e) { s with heap := h', toks := tk }) :
    wpAny (model prog w) A (getAttrBy .none (.str name t) false) Q E s := by
  obtain ⟨hp, g, d, tk, os⟩ := s
  have hT : ∀ s' : Shared, s'.TypeIs (.none) "NoneType" := fun _ => rfl
  have f1 := sub_AttributeError
  have f3 := PySem.F.slot_NoneType_getattribute.lookup
  have f4 := PySem.F.slot_NoneType_getattribute.bind (.none)
  have f5 := am_none_getattr_none
  unfold getAttrBy
  repeat (any_goals (first | assumption | ((with_reducible show wpAny _ _ (call (Value.builtin "object.__getattribute__") _ _) _ _ _); refine call_meets PySem.F.slot_NoneType_getattribute (hT _) PySem.F.entry_object_getattribute (PySem.F.args_object_getattribute_2 _ _) (meets_getattribute_miss_none name _ hmiss hsz) ⟨hA, fun h' tk' e hx => ?_⟩) | wp_step))
  obtain ⟨t', u', he⟩ := hx.there
  show wpAny _ _ (getattributeRaised _ _ _ _ _ _ _) _ _ _
  unfold getattributeRaised
  repeat (any_goals (first | assumption | wp_step))
  exact h _ _ _ hx

/-- getattr(None, name, dflt) of a name that None has not -/
theorem v_none3 (F : Fr h₀ L s.heap m) (N : News h₀ L s.heap news) (hmiss : typeLookup (.type "NoneType") name = pure none) (hA : A.handled = none) (hn : (name != ("get_source" : Str)) = true) (hsz : name.length + 100 ≤ sizeLine)
    (h : ∀ h' tk, Fr h₀ L h' m → News h₀ L h' news → Q dflt { s with heap := h', toks := tk }) :
    wpAny (model prog w) A (call (.builtin "getattr") [.none, .str name t, dflt]) Q E s := by
  refine Calls.call_function_entry KB.kind_getattr KB.plain_getattr KB.entry_getattr (args_getattr_3 _ _ _) ?_
  unfold Builtin.«getattr»
  refine wpAny_bind (wpAny_of_eq (a := [.none, .str name t, dflt]) (by first | rfl | kernel_rfl) ?_)
  dsimp only
  refine wpAny_bind (wpAny_of_eq (a := ()) (by first | rfl | kernel_rfl) ?_)
  refine wpAny_bind (wpAny_of_eq (a := none) ?_ ?_)
  · show (if (name != ("get_source" : Str)) = true then (pure none : Sem (Option Value)) else _) = _
    rw [if_pos hn]
  dsimp only
  refine wpAny_bind (wpAny_of_eq (a := 0) (by first | rfl | kernel_rfl) ?_)
  show wpAny _ _ (getAttrBy? _ _ >>= _) _ _ _
  unfold getAttrBy?
  refine wpAny_bind (wpAny_bind (wpAny_attempt ?_))
  refine none_missBy hmiss hA hsz fun h' tk' e q => ?_
  refine wpAny_bind (attr_isI (h := s.heap) q ?_)
  exact wpAny_pure (wpAny_pure ⟨_, rfl, h h' tk' (F.after q.keeps) (N.grown q.keeps)⟩)
end
end Mine
end

-- VFor
section
open PySem PySem.W PyProof.Rows PySem.Calls PySem.Spec PyProof.V
set_option maxRecDepth 100000
set_option maxHeartbeats 1000000
namespace Mine
section
variable {prog : Program} {w : World} {A : Around} {E : Value → Shared → Prop} {s : Shared} {env : Env} {h₀ : Heap} {target : PySem.Expr} {body orelse : List Stmt} {Q : Flow → Shared → Prop}

def CutP (R : Shared → Prop) (f : Flow) (s : Shared) : Prop := f = .next ∧ R s
theorem v_cut {a : Stmt} {rest : List Stmt} (R : Shared → Prop) (h1 : wpAny (model prog w) A (exec a env) (CutP R) E s) (h2 : ∀ s', R s' → wpAny (model prog w) A (execs rest env) Q E s') : wpAny (model prog w) A (execs (a :: rest) env) Q E s := by
  refine wpAny_execs_cons (wpAny_mono h1 (fun f s' h => ?_) fun _ _ e => e)
  obtain ⟨rfl, h⟩ := h
  exact h2 s' h

theorem v_cutF {a : Stmt} {rest : List Stmt} {G h : Heap} {L : Addr} {m₅ : Str → Option Value} (_F : Fr G L h m₅) (R : (Str → Option Value) → Shared → Prop) (h1 : wpAny (model prog w) A (exec a env) (CutP (R m₅)) E s) (h2 : ∀ s', R m₅ s' → wpAny (model prog w) A (execs rest env) Q E s') : wpAny (model prog w) A (execs (a :: rest) env) Q E s := v_cut (R m₅) h1 h2

/-- a loop with an else: where the iterator is made -/
def ForE (prog : Program) (w : World) (A : Around) (target : PySem.Expr) (body orelse : List Stmt) (env : Env) (Q : Flow → Shared → Prop) (E : Value → Shared → Prop) (it : Value) (s : Shared) : Prop :=
  codeAny (model prog w) A (.forLoop target it body orelse env) (fun r s' => match r with | .ok f => Q f s' | .error e => cameBackBy (model prog w) A env E e s') s
theorem v_forElse {iter : PySem.Expr} {pos : Pos} (h : wpAny (model prog w) A (eval iter env) (fun x s₁ => wpAny (model prog w) A (pyIter x) (fun it s₂ => ForE prog w A target body orelse env Q E it s₂) E s₁) E s)
    (hs : ∀ x, foldedSetIterable iter env x = pure x := by intro _; rfl) : wpAny (model prog w) A (exec (.For target iter body orelse pos) env) Q E s := wpAny_For h hs

/-- what the body of such a loop leaves -/
def TurnE (h₀ : Heap) (L : Addr) (J : (Str → Option Value) → Prop) (its all : Led) (s : Shared) (Q : Flow → Shared → Prop) (f : Flow) (s' : Shared) : Prop :=
  match f with
  | .brk => Q .next s'
  | .ret v => Q (.ret v) s'
  | _ => ∃ h' tk m', s' = { s with heap := h', toks := tk } ∧ Fr h₀ L h' m' ∧ News h₀ L h' (its ++ all) ∧ J m'

theorem v_turns {ax : Addr} {vs : List Value} {m₀ : Str → Option Value} {all : Led} (hh : A.handled = none) (F : Fr h₀ env.locals s.heap m₀) (N : News h₀ env.locals s.heap all) (hm : (ax, tupO vs) ∈ all)
    (J : Nat → (Str → Option Value) → Prop) (h0 : J 0 m₀) (hE : PassesOwn (model prog w) A env E)
    (step : ∀ i v I o m₁ h₁ tk₁, vs[i]? = some v → J i m₁ → (∀ p ∈ all, p.1 ≠ I) → o.cls = .type "tuple_iterator" → Fr h₀ env.locals h₁ m₁ → News h₀ env.locals h₁ ((I, o) :: all) →
      wpAny (model prog w) A (assign target env v) (fun _ s₂ => wpAny (model prog w) A (execs body env) (TurnE h₀ env.locals (J (i + 1)) [(I, o)] all { s with heap := h₁, toks := tk₁ } Q) E s₂) E { s with heap := h₁, toks := tk₁ })
    (last : ∀ m₁ h₁ tk₁, J vs.length m₁ → Fr h₀ env.locals h₁ m₁ → News h₀ env.locals h₁ all → wpAny (model prog w) A (execs orelse env) Q E { s with heap := h₁, toks := tk₁ }) :
    wpAny (model prog w) A (pyIter (.ref ax)) (fun it s₂ => ForE prog w A target body orelse env Q E it s₂) E s := by
  have hax := N _ hm
  have hl : s.heap.IsTuple ax vs.toArray := ⟨_, hax.1, rfl, 0, rfl⟩
  have hlt : ax < s.heap.objs.size := Heap.lt_size hax.1
  have hne : ax ≠ s.heap.objs.size := Nat.ne_of_lt hlt
  refine wpAny_pyIter_tuple hl ?_
  obtain ⟨I, hI⟩ : ∃ I, I = s.heap.objs.size := ⟨_, rfl⟩
  have hIn : ∀ p ∈ all, p.1 ≠ I := fun p hp => by rw [hI]; exact Nat.ne_of_lt (Heap.lt_size (N p hp).1)
  have W := Walks.tuple (prog := prog) (w := w) hh I ax (hI ▸ hne) vs.toArray
  have hL : env.locals ≠ I := by rw [hI]; exact Nat.ne_of_lt F.ns.lt
  have h0I : h₀.get? I = none := by rw [hI]; exact F.fresh
  rw [← hI]
  refine codeAny_forLoop_any
    (fun k s' => ∃ h' tk m' i, s' = { s with heap := h', toks := tk } ∧ (h'.IsTupleIter I ax i ∧ h'.IsTuple ax vs.toArray) ∧ Fr h₀ env.locals h' m' ∧ News h₀ env.locals h' all ∧ J i m' ∧ i ≤ vs.length ∧ k = vs.length + 1 - i) ?_ (vs.length + 1)
    ⟨_, s.toks, m₀, 0, rfl, ⟨hI ▸ ⟨_, Heap.get?_push_size _ rfl, rfl, rfl⟩, hl.at fun o e => Heap.get?_push_of_some _ e⟩, F.push _, fun p hp => ⟨Heap.get?_push_of_some _ (N p hp).1, (N p hp).2⟩, h0, Nat.zero_le _, rfl⟩
  rintro k s' ⟨h', tk, m', i, rfl, hst, F', N', hJ, hi, rfl⟩
  have next : ∀ h₁ : Heap, (∀ b o, b ∉ [I] → h'.get? b = some o → h₁.get? b = some o) → Fr h₀ env.locals h₁ m' ∧ News h₀ env.locals h₁ all := fun h₁ hk₁ => by
    have old : ∀ b o, h₀.get? b = some o → b ∉ [I] := fun b o e hb => by rw [List.mem_singleton.mp hb, h0I] at e; cases e
    exact ⟨⟨F'.ns.at' fun o e => hk₁ _ o (fun hb => hL (List.mem_singleton.mp hb)) e, fun b o e => hk₁ b o (old b o e) (F'.keep b o e), F'.above⟩, fun p hp => ⟨hk₁ _ _ (fun hb => hIn p hp (List.mem_singleton.mp hb)) (N' p hp).1, (N' p hp).2⟩⟩
  by_cases hlt' : i < vs.length
  · refine W.item i _ _ _ (by simpa using hlt') hst fun v h₁ tk₁ hv st₁ hk₁ => ?_
    refine letGo_tupleiter st₁.1 ?_
    obtain ⟨F₁, N₁⟩ := next h₁ hk₁
    obtain ⟨o, ho, hc, hd⟩ := id st₁.1
    have NI : News h₀ env.locals h₁ ((I, o) :: all) := fun p hp => by
      rcases List.mem_cons.mp hp with rfl | hp
      · exact ⟨ho, Ne.symm hL, h0I⟩
      · exact N₁ p hp
    refine wpAny_mono (step i v I o m' h₁ tk₁ (by simpa using hv) hJ hIn hc F₁ NI) (fun _ s₂ h₂ => wpAny_mono (wpAny_passesOwn hE h₂) (fun f s₃ h₃ => ?_) fun _ _ e => e) ?_
    · have go : (∃ h' tk m', s₃ = { s with heap := h', toks := tk } ∧ Fr h₀ env.locals h' m' ∧ News h₀ env.locals h' ([(I, o)] ++ all) ∧ J (i + 1) m') → ∃ m, m < vs.length + 1 - i ∧ ∃ h' tk m' i', s₃ = { s with heap := h', toks := tk } ∧ (h'.IsTupleIter I ax i' ∧ h'.IsTuple ax vs.toArray) ∧ Fr h₀ env.locals h' m' ∧ News h₀ env.locals h' all ∧ J i' m' ∧ i' ≤ vs.length ∧ m = vs.length + 1 - i' := by
        rintro ⟨h₂, tk₂, m₂, rfl, F₂, N₂, J₂⟩
        have n1 := N₂ _ (.head _)
        have n2 := N₂ _ (.tail _ hm)
        exact ⟨vs.length + 1 - (i + 1), by omega, h₂, tk₂, m₂, i + 1, rfl, ⟨⟨o, n1.1, hc, hd⟩, ⟨_, n2.1, rfl, 0, rfl⟩⟩, F₂, fun p hp => N₂ p (.tail _ hp), J₂, hlt', rfl⟩
      cases f with
      | brk => exact h₃
      | ret v => exact h₃
      | next => exact go h₃
      | cont => exact go h₃
    · exact fun e s' he => hE e s' he
  · have hin : i = vs.length := by omega
    subst hin
    refine W.done _ _ _ (by simpa using hst) fun h₁ tk₁ hk₁ => ?_
    obtain ⟨F₁, N₁⟩ := next h₁ hk₁
    exact wpAny_passesOwn hE (last m' h₁ tk₁ hJ F₁ N₁)

abbrev fM (m₅ : Str → Option Value) (ec ov : Option Value) : Str → Option Value := fun y => if y = Str.ofString "expr_cache" then ec else if y = Str.ofString "oid" then ov else m₅ y
theorem fM_self (m₅ : Str → Option Value) : m₅ = fM m₅ (m₅ (Str.ofString "expr_cache")) (m₅ (Str.ofString "oid")) := funext fun y => by
  unfold fM
  by_cases h1 : y = Str.ofString "expr_cache"
  · rw [if_pos h1, h1]
  · by_cases h2 : y = Str.ofString "oid"
    · rw [if_neg h1, if_pos h2, h2]
    · rw [if_neg h1, if_neg h2]
theorem fM_over {m₅ : Str → Option Value} {ec ov ec' ov' : Option Value} : (fun y => if y = Str.ofString "expr_cache" then ec' else if y = Str.ofString "oid" then ov' else fM m₅ ec ov y) = fM m₅ ec' ov' := funext fun y => by
  unfold fM
  by_cases h1 : y = Str.ofString "expr_cache"
  · rw [if_pos h1, if_pos h1]
  · by_cases h2 : y = Str.ofString "oid"
    · rw [if_neg h1, if_pos h2, if_neg h1, if_pos h2]
    · rw [if_neg h1, if_neg h2, if_neg h1, if_neg h2, if_neg h1, if_neg h2]
theorem fM_over1 {m₅ : Str → Option Value} {ec ov ec' : Option Value} (y : Str) : (if y = Str.ofString "expr_cache" then ec' else fM m₅ ec ov y) = fM m₅ ec' ov y := by
  unfold fM
  by_cases h1 : y = Str.ofString "expr_cache"
  · rw [if_pos h1, if_pos h1]
  · rw [if_neg h1, if_neg h1, if_neg h1]
theorem v_turnsF {ax : Addr} {vs : List Value} {m₀ : Str → Option Value} {all : Led} (hh : A.handled = none) (F : Fr h₀ env.locals s.heap m₀) (N : News h₀ env.locals s.heap all) (hm : (ax, tupO vs) ∈ all)
    (ok : Nat → Prop) (h0 : ok 0) (hE : PassesOwn (model prog w) A env E)
    (step : ∀ i v I o ec ov h₁ tk₁, vs[i]? = some v → ok i → (∀ p ∈ all, p.1 ≠ I) → o.cls = .type "tuple_iterator" → Fr h₀ env.locals h₁ (fM m₀ ec ov) → News h₀ env.locals h₁ ((I, o) :: all) →
      wpAny (model prog w) A (assign target env v) (fun _ s₂ => wpAny (model prog w) A (execs body env) (TurnE h₀ env.locals (fun m => ok (i + 1) ∧ ∃ ec ov, m = fM m₀ ec ov) [(I, o)] all { s with heap := h₁, toks := tk₁ } Q) E s₂) E { s with heap := h₁, toks := tk₁ })
    (last : ∀ ec ov h₁ tk₁, ok vs.length → Fr h₀ env.locals h₁ (fM m₀ ec ov) → News h₀ env.locals h₁ all → wpAny (model prog w) A (execs orelse env) Q E { s with heap := h₁, toks := tk₁ }) :
    wpAny (model prog w) A (pyIter (.ref ax)) (fun it s₂ => ForE prog w A target body orelse env Q E it s₂) E s :=
  v_turns hh F N hm (fun i m => ok i ∧ ∃ ec ov, m = fM m₀ ec ov) ⟨h0, _, _, fM_self m₀⟩ hE
    (fun i v I o m₁ h₁ tk₁ a b c d e f => by obtain ⟨b1, ec, ov, rfl⟩ := b; exact step i v I o ec ov h₁ tk₁ a b1 c d e f)
    (fun m₁ h₁ tk₁ a b c => by obtain ⟨a1, ec, ov, rfl⟩ := a; exact last ec ov h₁ tk₁ a1 b c)
theorem turn_next {L : Addr} {ok : Prop} {m₀ m' : Str → Option Value} {its all : Led} {h' : Heap} {tk : Nat} {ec ov : Option Value} {s₁ : Shared} (hok : ok) (F : Fr h₀ L h' m') (e : m' = fM m₀ ec ov) (N : News h₀ L h' (its ++ all)) :
    TurnE h₀ L (fun m => ok ∧ ∃ ec ov, m = fM m₀ ec ov) its all s₁ Q .next { s₁ with heap := h', toks := tk } := ⟨h', tk, m', rfl, F, N, hok, ec, ov, e⟩
end
end Mine
end

-- VX
section
open PySem PySem.W PyProof.Rows PySem.Calls
set_option Elab.async false
set_option maxRecDepth 100000
set_option maxHeartbeats 4000000
namespace Mine
inductive XObj : Obj → Addr → Addr → Prop where
  | lit {dx it : Addr} {l : Str} {t1 t2 : Tok} : XObj (litO dx it l t1 t2) 336 dx
  | seq {dx mt it : Addr} {t : Tok} : XObj (cmpO 394 dx mt it t) 394 dx
  | alt {dx mt it : Addr} {t : Tok} : XObj (cmpO 420 dx mt it t) 420 dx
  | look {dx mt it : Addr} {neg : Bool} {t : Tok} : XObj (lookO dx mt it neg t) 458 dx
  | quant {dx mt it : Addr} {mn mx : Value} {t : Tok} : XObj (quantO dx mt it mn mx t) 504 dx
def umOf (C : Addr) : Addr := if C = 336 then 325 else if C = 394 then 384 else if C = 420 then 410 else if C = 458 then 447 else 493
theorem IsEx.xobj {I : Led} {x dx : Addr} {e : Ex} (k : IsEx I x dx e) : ∃ o C, (x, o) ∈ I ∧ XObj o C dx := by
  cases k with
  | lit a _ => exact ⟨_, _, a, .lit⟩
  | seq2 a _ _ _ => exact ⟨_, _, a, .seq⟩
  | seq3 a _ _ _ _ => exact ⟨_, _, a, .seq⟩
  | alt a _ _ _ => exact ⟨_, _, a, .alt⟩
  | look a _ _ => exact ⟨_, _, a, .look⟩
  | quant a _ _ _ _ _ => exact ⟨_, _, a, .quant⟩
section
variable {w : World} {A : Around} {E : Value → Shared → Prop} {s : Shared} {x C dx L : Addr} {o od : Obj} {h₀ : Heap} {m : Str → Option Value} {all all' : Led} {es es' : List DictEntry} {n n' : Nat} {t : Tok} {dflt : Value}

theorem v_oidsMiss {Q : Value → Shared → Prop} (F : Fr h₀ L s.heap m) (X : (Mine.hd.heap_39 w.params).In h₀) (N : News h₀ L s.heap all) (hx : (x, o) ∈ all) (hX : XObj o C dx) (hdx : (dx, dictOf es n) ∈ all) (hl : getL (Str.ofString "oids") es = some none) (hA : A.handled = none)
    (h : ∀ h' tk, Fr h₀ L h' m → News h₀ L h' all → Q dflt { s with heap := h', toks := tk }) :
    wpAny (model PySem.Challenge.rw_vj0021_01.row.prog w) A (call (.builtin "getattr") [.ref x, .str (Str.ofString "oids") t, dflt]) Q E s := by
  w_top off
  revert X; k_fill; intro X
  cases hX
  all_goals (k_dflt (refine' v_miss3 F X N (InstAt.of_news N hx hdx) ?k5 ?k6 ?k7 ?k8 ?k9 hl ?kB hA ?kD ?kE h; (case k5 => k_is); (case k6 => k_is); (case k7 => k_is); (case k8 => k_is); (case k9 => decide +kernel); (case kB => rfl); (case kD => decide); (case kE => rw [sizeLine_eq]; decide)))
theorem v_oidsOwn {v : Value} {Q : Value → Shared → Prop} (F : Fr h₀ L s.heap m) (X : (Mine.hd.heap_39 w.params).In h₀) (N : News h₀ L s.heap all) (hx : (x, o) ∈ all) (hX : XObj o C dx) (hdx : (dx, dictOf es n) ∈ all) (hl : getL (Str.ofString "oids") es = some (some v)) (hv : handedIn v = true) (h : Q v s) :
    wpAny (model PySem.Challenge.rw_vj0021_01.row.prog w) A (call (.builtin "getattr") [.ref x, .str (Str.ofString "oids") t, dflt]) Q E s := by
  w_top off
  revert X; k_fill; intro X
  cases hX
  all_goals (k_dflt (refine' v_own3 F X (InstAt.of_news N hx hdx) ?k5 ?k6 ?k7 ?k8 ?k9 hl hv ?kD h; (case k5 => k_is); (case k6 => k_is); (case k7 => k_is); (case k8 => k_is); (case k9 => k_is); (case kD => decide)))
theorem v_setOids {v : Value} {Q : Unit → Shared → Prop} (F : Fr h₀ L s.heap m) (X : (Mine.hd.heap_39 w.params).In h₀) (N : News h₀ L s.heap all) (hx : (x, o) ∈ all) (hX : XObj o C dx) (hdx : (dx, dictOf es n) ∈ all) (hl : (getL (Str.ofString "oids") es).isSome = true)
    (e : (putL (Str.ofString "oids") (PyData.keyHash w.params (Str.ofString "oids")) (.str (Str.ofString "oids") (s.toks + 1)) v es, putN (Str.ofString "oids") es n) = (es', n')) (U : Upd dx (dictOf es n) (dictOf es' n') all all') (hz : es'.length ≤ 1000)
    (h : ∀ h', Fr h₀ L h' m → News h₀ L h' all' → Q () { s with heap := h', toks := s.toks + 2 }) :
    wpAny (model PySem.Challenge.rw_vj0021_01.row.prog w) A (setAttr (.ref x) (Str.ofString "oids") v) Q E s := by
  w_top off
  revert X; k_fill; intro X
  cases hX
  all_goals (k_dflt (refine' set_dict F X N (InstAt.of_news N hx hdx) rfl ?k1 ?k2 ?k3 ?k4 hl e U hz h; (case k1 => k_is); (case k2 => k_is); (case k3 => k_is); (case k4 => k_is)))
theorem v_name {Q : Value → Shared → Prop} {expr : Bool} (F : Fr h₀ L s.heap m) (X : (Mine.hd.heap_39 w.params).In h₀) (N : News h₀ L s.heap all) (hx : (x, o) ∈ all) (hX : XObj o C dx) (hdx : (dx, od) ∈ all) (h : ∀ tk, Q (.str (Str.ofString "") tk) { s with toks := s.toks + 1 }) :
    wpAny (model PySem.Challenge.rw_vj0021_01.row.prog w) A (getAttr (.ref x) (Str.ofString "name") expr) Q E s := by
  w_top off
  revert X; k_fill; intro X
  cases hX
  all_goals (k_dflt (refine' get_slot F X (InstAt.of_news N hx hdx) ?k1 ?k2 ?k3 ?k4 ?k5 ?k6 ?k7 ?k8 (h _); (case k1 => k_is); (case k2 => k_is); (case k3 => k_is); (case k4 => k_is); (case k5 => k_is); (case k6 => k_is); (case k7 => rfl); (case k8 => k_handed)))
theorem v_name3 {Q : Value → Shared → Prop} (F : Fr h₀ L s.heap m) (X : (Mine.hd.heap_39 w.params).In h₀) (N : News h₀ L s.heap all) (hx : (x, o) ∈ all) (hX : XObj o C dx) (hdx : (dx, od) ∈ all) (h : ∀ tk, Q (.str (Str.ofString "") tk) s) :
    wpAny (model PySem.Challenge.rw_vj0021_01.row.prog w) A (call (.builtin "getattr") [.ref x, .str (Str.ofString "name") t, dflt]) Q E s := by
  w_top off
  revert X; k_fill; intro X
  cases hX
  all_goals (k_dflt (refine' v_slot3 F X (InstAt.of_news N hx hdx) ?k0 ?k1 ?k2 ?k3 ?k4 ?k5 ?k6 ?k7 ?k8 ?k9 (h _); (case k0 => k_is); (case k1 => k_is); (case k2 => k_is); (case k3 => k_is); (case k4 => k_is); (case k5 => k_is); (case k6 => k_is); (case k7 => rfl); (case k8 => k_handed); (case k9 => decide)))
theorem v_getUM {pl : Sem Bool} {Q : Value × List Value → Shared → Prop} (F : Fr h₀ L s.heap m) (X : (Mine.hd.heap_39 w.params).In h₀) (N : News h₀ L s.heap all) (hx : (x, o) ∈ all) (hX : XObj o C dx) (hdx : (dx, dictOf es n) ∈ all) (hl : getL (Str.ofString "_uncached_match") es = some none)
    (h : Q (.ref (umOf C), [.ref x]) s) : wpAny (model PySem.Challenge.rw_vj0021_01.row.prog w) A (getMethod (.ref x) (Str.ofString "_uncached_match") pl) Q E s := by
  w_top off
  revert X; k_fill; intro X
  cases hX
  all_goals (k_dflt (refine' method_inst F X (InstAt.of_news N hx hdx) ?k1 ?k2 ?k3 hl h; (case k1 => k_is); (case k2 => k_is); (case k3 => k_is)))
theorem v_getUM2 {cu : Addr} {pl : Sem Bool} {Q : Value × List Value → Shared → Prop} (F : Fr h₀ L s.heap m) (X : (Mine.hd.heap_39 w.params).In h₀) (N : News h₀ L s.heap all) (hx : (x, o) ∈ all) (hX : XObj o C dx) (hdx : (dx, dictOf es n) ∈ all) (hl : getL (Str.ofString "_uncached_match") es = some none) (hcu : umOf C = cu)
    (h : Q (.ref cu, [.ref x]) s) : wpAny (model PySem.Challenge.rw_vj0021_01.row.prog w) A (getMethod (.ref x) (Str.ofString "_uncached_match") pl) Q E s := v_getUM F X N hx hX hdx hl (by rw [hcu]; exact h)
theorem um_keeps {cu : Addr} (hX : XObj o C dx) (hcu : umOf C = cu) : keepIn (Mine.hd.heap_39 w.params) (.ref cu) = true := by
  subst hcu
  cases hX <;> rfl
end
end Mine
end

-- VLed
section
open PySem PySem.W PyProof.Rows PySem.Calls PySem.Spec
set_option maxRecDepth 100000
namespace Mine
def wo (a : Addr) (l : Led) : Led := l.filter fun p => decide (p.1 ≠ a)
theorem wo_off {a : Addr} {l : Led} : ∀ p ∈ wo a l, p.1 ≠ a := fun p hp => of_decide_eq_true (List.mem_filter.mp hp).2
theorem wo_mem {a : Addr} {l : Led} {p : Addr × Obj} (h : p ∈ l) (hn : p.1 ≠ a) : p ∈ wo a l := List.mem_filter.mpr ⟨h, decide_eq_true hn⟩
theorem wo_sub {a : Addr} {l : Led} {p : Addr × Obj} (h : p ∈ wo a l) : p ∈ l := (List.mem_filter.mp h).1
theorem wo_front {a : Addr} {o : Obj} {l : Led} (h : (a, o) ∈ l) : ∀ p ∈ (a, o) :: wo a l, p ∈ l := fun p hp => by
  rcases List.mem_cons.mp hp with rfl | hp
  · exact h
  · exact wo_sub hp
section
variable {prog : Program} {w : World} {P : Par} {n m b : Nat} {g : GS}
theorem Inv.node (h : Inv prog w P n m g b) {x dx : Addr} {e : Ex} (hx : IsEx g.I x dx e) : ∃ D₁ d D₂, g.D = D₁ ++ d :: D₂ ∧ d.x = x ∧ d.dx = dx := by
  obtain ⟨o, h1, h2, h3⟩ := hx.obj
  obtain ⟨d, hd, e1, e2⟩ := h.full x o h1 h2
  obtain ⟨D₁, D₂, e⟩ := List.append_of_mem hd
  rw [h3] at e2
  exact ⟨D₁, d, D₂, e, e1, (Option.some.inj e2).symm⟩
theorem led_D {d : DN} (hd : d ∈ g.D) : (d.dx, d.od) ∈ g.led P := .tail _ (.tail _ (.tail _ (List.mem_append_left _ (List.mem_map_of_mem (f := fun d => (d.dx, d.od)) hd))))
theorem led_R {r : RN} (hr : r ∈ g.R) : (r.c, r.oc) ∈ g.led P := .tail _ (.tail _ (.tail _ (List.mem_append_right _ (List.mem_append_left _ (List.mem_map_of_mem (f := fun r => (r.c, r.oc)) hr)))))
theorem led_I {q : Addr × Obj} (hq : q ∈ g.I) : q ∈ g.led P := .tail _ (.tail _ (.tail _ (List.mem_append_right _ (List.mem_append_right _ hq))))
theorem led_er : (P.er, P.oer) ∈ g.led P := .head _
theorem led_der : (P.der, g.oe) ∈ g.led P := .tail _ (.head _)
theorem led_C : (P.C, g.oC) ∈ g.led P := .tail _ (.tail _ (.head _))
theorem Inv.neC (h : Inv prog w P n m g b) {d : DN} (hd : d ∈ g.D) : d.dx ≠ P.C := fun e => by
  have h1 := h.nd
  simp only [GS.led, List.map_cons, List.map_append] at h1
  have h2 := (List.nodup_cons.mp (List.nodup_cons.mp (List.nodup_cons.mp h1).2).2).1
  refine h2 (List.mem_append_left _ ?_)
  rw [← e]
  exact List.mem_map_of_mem (f := fun p => p.1) (List.mem_map_of_mem (f := fun d => (d.dx, d.od)) hd)
theorem Inv.ndI (h : Inv prog w P n m g b) : (g.I.map (·.1)).Nodup := by
  have h1 := h.nd
  simp only [GS.led, List.map_cons, List.map_append] at h1
  exact (List.nodup_append.mp (List.nodup_append.mp (List.nodup_cons.mp (List.nodup_cons.mp (List.nodup_cons.mp h1).2).2).2).2.1).2.1
theorem cacheKvs_length : ∀ (R : List RN) (k : Nat), (cacheKvs k R).length = R.length
  | [], _ => rfl
  | _ :: R, k => by rw [cacheKvs, List.length_cons, List.length_cons, cacheKvs_length R]
theorem PsIs.at {I : Led} {vs : List Value} {ps : List (Int × Addr)} (k : PsIs I vs ps) : ∀ {i : Nat} {v : Value}, vs[i]? = some v → ∃ q kk tk c, v = .ref q ∧ (q, tupO [.int kk tk, .ref c]) ∈ I ∧ 0 ≤ kk ∧ (kk, c) ∈ ps := by
  induction k with
  | nil => intro i v h; cases i <;> cases h
  | @cons q c kk tk vs ps hm h0 _ ih =>
    intro i v h
    cases i with
    | zero =>
      cases h
      exact ⟨_, _, _, _, rfl, hm, h0, .head _⟩
    | succ i =>
      obtain ⟨q, kk, tk, c, e1, e2, e3, e4⟩ := ih (i := i) (by simpa using h)
      exact ⟨q, kk, tk, c, e1, e2, e3, .tail _ e4⟩

theorem stored_le (kvs : List (Int × Value)) (k : Int) (v : Value) : (stored kvs k v).length ≤ kvs.length + 1 := by
  unfold stored
  split
  · rw [List.length_map]; omega
  · rw [List.length_append]; exact Nat.le_refl _
theorem cacheKvs_keys : ∀ (R : List RN) (k : Nat), ∀ q ∈ cacheKvs k R, (k : Int) ≤ q.1 ∧ q.1 < (k + R.length : Nat)
  | [], _, q, h => nomatch h
  | r :: R, k, q, h => by
    rw [List.length_cons]
    rcases List.mem_cons.mp h with rfl | h
    · exact ⟨Int.le_refl _, by omega⟩
    · have := cacheKvs_keys R (k + 1) q h
      omega
theorem cacheKvs_stored (R : List RN) (r : RN) : stored (cacheKvs 0 R) ((cacheKvs 0 R).length : Nat) (.ref r.c) = cacheKvs 0 (R ++ [r]) := by
  unfold stored
  rw [if_neg, cacheKvs_app, cacheKvs_length, Nat.zero_add]
  intro h
  obtain ⟨q, hq, e⟩ := List.any_eq_true.mp h
  have h1 := cacheKvs_keys R 0 q hq
  rw [cacheKvs_length] at e
  have h2 : q.1 = (R.length : Int) := by simpa using e
  omega

theorem DObj.um {I : Led} {o : Obj} {ps : List (Int × Addr)} (h : DObj I o ps) : ∃ es n, o = dictOf es n ∧ getL (Str.ofString "_uncached_match") es = Option.some Option.none := by
  cases h with
  | none => exact ⟨_, _, rfl, rfl⟩
  | some _ _ =>
    refine ⟨_, _, rfl, ?_⟩
    unfold getL
    rw [List.find?_cons_of_neg (by simp [Value.isStr]; decide)]
    simp [DictEntry.refKey]
theorem DObj.isD {I : Led} {o : Obj} {ps : List (Int × Addr)} (h : DObj I o ps) : isDictB o = true := by cases h <;> rfl
theorem dict_isD {o : Obj} {kvs : List (Int × Value)} (h : o.IsDictOf (intKind prog w) kvs) : isDictB o = true := by
  obtain ⟨es, n, _, h2, _⟩ := h
  unfold isDictB
  rw [h2]

theorem cache_look (R : List RN) {kk : Int} (h0 : 0 ≤ kk) : valueAt (cacheKvs 0 R) kk = none ∨ ∃ r, R[kk.toNat]? = some r ∧ valueAt (cacheKvs 0 R) kk = some (.ref r.c) := by
  by_cases h : kk.toNat < R.length
  · right
    refine ⟨R[kk.toNat], List.getElem?_eq_getElem h, ?_⟩
    have := cacheKvs_at R 0 kk.toNat _ (List.getElem?_eq_getElem h)
    rw [show ((0 + kk.toNat : Nat) : Int) = kk by omega] at this
    exact this
  · left
    exact cacheKvs_none R 0 kk (.inr (by omega))

theorem getL_one {h : Int} {x : Str} {t : Tok} {v : Value} : getL x [⟨h, .str x t, v⟩] = some (some v) := by
  unfold getL
  rw [List.find?_cons_of_pos (by simp [Value.isStr])]
theorem dict_cls {o : Obj} {kvs : List (Int × Value)} (h : o.IsDictOf (intKind prog w) kvs) : o.cls ≠ Value.type "tuple" := by
  obtain ⟨es, n, hx, _⟩ := h
  have : o.cls = .type "dict" := hx.1
  rw [this]
  intro e
  injection e with e
  exact absurd e (by decide)

theorem v_addT {A : Around} {E : Value → Shared → Prop} {s : Shared} {h₀ : Heap} {L : Addr} {mm : Str → Option Value} {news : Led} {t c : Addr} {v : Value} {ws : List Value} {Q : Value → Shared → Prop} (F : Fr h₀ L s.heap mm) (N : News h₀ L s.heap news) (ht : (t, tupO [v]) ∈ news) (hb : (c, tupO ws) ∈ news) (hz : ws.length ≤ 1000)
    (h : ∀ T h', @LE.le Nat _ t T → Fr h₀ L h' mm → News h₀ L h' ((T, tupO (v :: ws)) :: news) → Q (.ref T) { s with heap := h' }) :
    wpAny (model prog w) A (binaryOp .Add (.ref t) (.ref c)) Q E s := by
  refine add_tuples (vs := [v]) (ws := ws) F N (News.isTup N ht) (News.isTup N hb) (fun e => by cases e) (fun _ e => ?_) (fun _ _ h' F' N' => ?_) (by rw [sizeLine_eq, List.length_singleton]; omega)
  · subst e
    exact h t s.heap (Nat.le_refl _) F fun p hp => by
      rcases List.mem_cons.mp hp with rfl | hp
      · exact N _ ht
      · exact N p hp
  · exact h _ h' (Nat.le_of_lt (Heap.lt_size (N _ ht).1)) F' N'
end
end Mine
end

-- VReg
section
open PySem PySem.W PyProof.Rows PySem.Calls PySem.Spec
set_option maxRecDepth 100000
set_option maxHeartbeats 1000000
namespace Mine
def R1 (w : World) (P : Par) (nn mm : Nat) (g : GS) (e : Ex) (x : Addr) (own : Led) (G : Heap) (LL : Addr) (m₅ : Str → Option Value) (s s' : Shared) : Prop :=
  ∃ g1 R₁ r R₂ h tk ov, s' = { s with heap := h, toks := tk } ∧ Fr G LL h (fM m₅ (some (.ref r.c)) ov) ∧ News G LL h (own ++ g1.led P) ∧ OffL own (g1.led P) ∧ Inv PySem.Challenge.rw_vj0021_01.row.prog w P nn mm g1 (e.size + 1) ∧ Step g g1 e.size ∧ g1.R = R₁ ++ r :: R₂ ∧ r.x = x ∧ r.e = e
section
variable {prog : Program} {w : World} {P : Par} {n m b : Nat} {g : GS}
theorem Inv.apart (h : Inv prog w P n m g b) {D₁ D₂ : List DN} {d : DN} (hD : g.D = D₁ ++ d :: D₂) :
    (∀ p ∈ (P.er, P.oer) :: (P.der, g.oe) :: (dLed D₁ ++ dLed D₂ ++ (rLed g.R ++ g.I)), p.1 ≠ d.dx ∧ p.1 ≠ P.C) := by
  have nd := h.nd
  simp only [GS.led, hD, dLed, List.map_cons, List.map_append, List.map_map] at nd
  obtain ⟨n1, nd⟩ := List.nodup_cons.mp nd
  obtain ⟨n2, nd⟩ := List.nodup_cons.mp nd
  obtain ⟨n3, nd⟩ := List.nodup_cons.mp nd
  obtain ⟨n4, n5, n6⟩ := List.nodup_append.mp nd
  obtain ⟨n7, n8, n9⟩ := List.nodup_append.mp n4
  obtain ⟨n8', n8⟩ := List.nodup_cons.mp n8
  intro p hp
  simp only [List.mem_cons, List.mem_append] at hp
  simp only [List.mem_cons, List.mem_append] at n1 n2 n3
  have dD : d.dx ∈ List.map ((fun x => x.1) ∘ fun d => (d.dx, d.od)) D₁ ++ ((fun x => x.1) ∘ fun d => (d.dx, d.od)) d :: List.map ((fun x => x.1) ∘ fun d => (d.dx, d.od)) D₂ := List.mem_append_right _ (.head _)
  rcases hp with rfl | rfl | (hp | hp) | hp | hp
  · exact ⟨fun e => n1 (.inr (.inr (.inl (.inr (.inl e))))), fun e => n1 (.inr (.inl e))⟩
  · exact ⟨fun e => n2 (.inr (.inl (.inr (.inl e)))), fun e => n2 (.inl e)⟩
  · obtain ⟨d', hd', rfl⟩ := List.mem_map.mp hp
    have : d'.dx ∈ List.map ((fun x => x.1) ∘ fun d => (d.dx, d.od)) D₁ := List.mem_map_of_mem (f := (fun x => x.1) ∘ fun d : DN => (d.dx, d.od)) hd'
    exact ⟨fun e => n9 _ this _ (.head _) e, fun e => n3 (.inl (.inl (e ▸ this)))⟩
  · obtain ⟨d', hd', rfl⟩ := List.mem_map.mp hp
    have : d'.dx ∈ List.map ((fun x => x.1) ∘ fun d => (d.dx, d.od)) D₂ := List.mem_map_of_mem (f := (fun x => x.1) ∘ fun d : DN => (d.dx, d.od)) hd'
    exact ⟨fun e => n8' (by show d.dx ∈ _; rw [← e]; exact this), fun e => n3 (.inl (.inr (.inr (e ▸ this))))⟩
  · have : p.1 ∈ List.map (fun x => x.1) (rLed g.R) ++ List.map (fun x => x.1) g.I := List.mem_append_left _ (List.mem_map_of_mem (f := fun x : Addr × Obj => x.1) hp)
    exact ⟨fun e => n6 _ dD _ this e.symm, fun e => n3 (.inr (List.mem_append.mp (e ▸ this)))⟩
  · have : p.1 ∈ List.map (fun x => x.1) (rLed g.R) ++ List.map (fun x => x.1) g.I := List.mem_append_right _ (List.mem_map_of_mem (f := fun x : Addr × Obj => x.1) hp)
    exact ⟨fun e => n6 _ dD _ this e.symm, fun e => n3 (.inr (List.mem_append.mp (e ▸ this)))⟩

theorem r1_new {h₁ G : Heap} {L : Addr} {own all : Led} {D₁ D₂ : List DN} {d : DN} {x dx T q c : Addr} {oc oC od : Obj} {e : Ex} {vs : List Value} {hs : Int} {tk tk' : Tok} {n' : Nat} {z : Int}
    (hI : Inv prog w P n m g b) (hreg : ∀ r ∈ g.R, r.x ≠ x) (hx : IsEx g.I x dx e) (eD : g.D = D₁ ++ d :: D₂) (edx : d.x = x) (eddx : d.dx = dx) (hown : OffL own (g.led P))
    (hoc : oc.IsDictOf (intKind prog w) []) (hoC : oC.IsDictOf (intKind prog w) (stored (cacheKvs 0 g.R) ((cacheKvs 0 g.R).length : Nat) (.ref c))) (hod : od = dictOf [⟨hs, .str (Str.ofString "oids") tk', .ref T⟩] n') (hps : PsIs g.I vs d.ps)
    (hz : z = ((stored (cacheKvs 0 g.R) ((cacheKvs 0 g.R).length : Nat) (.ref c)).length : Nat) - 1)
    (N : News G L h₁ all) (m1 : (dx, od) ∈ all) (m2 : (P.C, oC) ∈ all) (m3 : (c, oc) ∈ all) (m4 : (T, tupO (.ref q :: vs)) ∈ all) (m5 : (q, tupO [.int z tk, .ref c]) ∈ all) (mr : ∀ p ∈ wo dx (wo P.C (own ++ g.led P)), p ∈ all)
    (lc : @LT.lt Nat _ dx c ∧ @LT.lt Nat _ P.C c ∧ AllLt c (wo dx (wo P.C (own ++ g.led P)))) (lq : @LT.lt Nat _ c q) (lT : @LT.lt Nat _ q T) :
    ∃ g1 R₁ r R₂, News G L h₁ (own ++ g1.led P) ∧ OffL own (g1.led P) ∧ Inv prog w P n m g1 b ∧ Step g g1 e.size ∧ g1.R = R₁ ++ r :: R₂ ∧ r.x = x ∧ r.e = e ∧ r.c = c := by
  subst edx eddx
  have hdD : d ∈ g.D := by rw [eD]; exact List.mem_append_right _ (.head _)
  have old : ∀ p ∈ own ++ g.led P, @LT.lt Nat _ p.1 c := fun p hp => by
    by_cases h1 : p.1 = d.dx
    · rw [h1]; exact lc.1
    · by_cases h2 : p.1 = P.C
      · rw [h2]; exact lc.2.1
      · exact tb_ltOf lc.2.2 p (wo_mem (wo_mem hp h2) h1)
  have keep : ∀ p ∈ own ++ g.led P, p.1 ≠ d.dx → p.1 ≠ P.C → p ∈ all := fun p hp h1 h2 => mr p (wo_mem (wo_mem hp h2) h1)
  have ap := hI.apart eD
  have zl : z = (g.R.length : Int) := by
    rw [hz, cacheKvs_stored g.R ⟨d.x, c, oc, [], e⟩, cacheKvs_length, List.length_append]
    simp
  have one : @LT.lt Nat _ 1 c := by
    have h1 := lc.1
    have h2 := lc.2.1
    have h3 : @Ne Nat d.dx P.C := hI.neC hdD
    omega
  have nd1 : ((({ I := [(T, tupO (.ref q :: vs)), (q, tupO [.int z tk, .ref c])] ++ g.I, D := D₁ ++ { d with od, ps := ((g.R.length : Int), c) :: d.ps } :: D₂, R := g.R ++ [⟨d.x, c, oc, [], e⟩], oC, oe := g.oe } : GS).led P).map (·.1)).Nodup := by
    have nd := hI.nd
    have hp : List.Perm (((({ I := [(T, tupO (.ref q :: vs)), (q, tupO [.int z tk, .ref c])] ++ g.I, D := D₁ ++ { d with od, ps := ((g.R.length : Int), c) :: d.ps } :: D₂, R := g.R ++ [⟨d.x, c, oc, [], e⟩], oC, oe := g.oe } : GS).led P).map (·.1))) (T :: q :: c :: (g.led P).map (·.1)) := by
      simp only [GS.led, eD, dLed, rLed, List.map_cons, List.map_append, List.map_nil]
      refine List.perm_iff_count.mpr fun a => ?_
      simp only [List.count_cons, List.count_append, List.count_nil]
      omega
    refine hp.nodup_iff.mpr ?_
    have fresh : ∀ a : Addr, @LE.le Nat _ c a → a ∉ (g.led P).map (·.1) := fun a ha hm => by
      obtain ⟨p, hp, rfl⟩ := List.mem_map.mp hm
      have := old p (List.mem_append_right _ hp)
      omega
    refine List.nodup_cons.mpr ⟨?_, List.nodup_cons.mpr ⟨?_, List.nodup_cons.mpr ⟨fresh c (Nat.le_refl _), nd⟩⟩⟩
    · intro hm
      rcases List.mem_cons.mp hm with h | hm
      · exact absurd h (Nat.ne_of_gt lT)
      · rcases List.mem_cons.mp hm with h | hm
        · exact absurd h (Nat.ne_of_gt (Nat.lt_trans lq lT))
        · exact fresh T (Nat.le_of_lt (Nat.lt_trans lq lT)) hm
    · intro hm
      rcases List.mem_cons.mp hm with h | hm
      · exact absurd h (Nat.ne_of_gt lq)
      · exact fresh q (Nat.le_of_lt lq) hm
  have keys : ∀ p ∈ (({ I := [(T, tupO (.ref q :: vs)), (q, tupO [.int z tk, .ref c])] ++ g.I, D := D₁ ++ { d with od, ps := ((g.R.length : Int), c) :: d.ps } :: D₂, R := g.R ++ [⟨d.x, c, oc, [], e⟩], oC, oe := g.oe } : GS).led P), p.1 = T ∨ p.1 = q ∨ p.1 = c ∨ ∃ p' ∈ g.led P, p'.1 = p.1 := by
    intro p hp
    simp only [GS.led, dLed, rLed, List.map_append, List.map_cons, List.map_nil, List.mem_cons, List.mem_append, List.not_mem_nil, or_false] at hp
    rcases hp with rfl | rfl | rfl | (hp | rfl | hp) | (hp | rfl) | (rfl | rfl) | hp
    · exact .inr (.inr (.inr ⟨_, led_er, rfl⟩))
    · exact .inr (.inr (.inr ⟨_, led_der, rfl⟩))
    · exact .inr (.inr (.inr ⟨_, led_C, rfl⟩))
    · obtain ⟨d', hd', rfl⟩ := List.mem_map.mp hp
      exact .inr (.inr (.inr ⟨_, led_D (by rw [eD]; exact List.mem_append_left _ hd'), rfl⟩))
    · exact .inr (.inr (.inr ⟨_, led_D hdD, rfl⟩))
    · obtain ⟨d', hd', rfl⟩ := List.mem_map.mp hp
      exact .inr (.inr (.inr ⟨_, led_D (by rw [eD]; exact List.mem_append_right _ (.tail _ hd')), rfl⟩))
    · obtain ⟨r, hr, rfl⟩ := List.mem_map.mp hp
      exact .inr (.inr (.inr ⟨_, led_R hr, rfl⟩))
    · exact .inr (.inr (.inl rfl))
    · exact .inl rfl
    · exact .inr (.inl rfl)
    · exact .inr (.inr (.inr ⟨_, led_I hp, rfl⟩))
  refine ⟨_, g.R, ⟨d.x, c, oc, [], e⟩, [], ?_, ?_, hI.reg (add := [(T, tupO (.ref q :: vs)), (q, tupO [.int z tk, .ref c])]) (oC := oC) (od := od) eD hreg hx nd1 ?_ ?_ hoc (cacheKvs_stored g.R ⟨d.x, c, oc, [], e⟩ ▸ hoC) ?_, ?_, rfl, rfl, rfl, rfl⟩
  · refine N.perm fun p hp => ?_
    rcases List.mem_append.mp hp with hp | hp
    · exact keep p (List.mem_append_left _ hp) (fun e => hown p hp _ (led_D hdD) e.symm) (fun e => hown p hp _ led_C e.symm)
    · have kp : p ∈ (P.er, P.oer) :: (P.der, g.oe) :: (dLed D₁ ++ dLed D₂ ++ (rLed g.R ++ g.I)) → p ∈ all := fun hq => by
        refine keep p (List.mem_append_right _ ?_) (ap p hq).1 (ap p hq).2
        simp only [List.mem_cons, List.mem_append] at hq
        rcases hq with rfl | rfl | (hq | hq) | hq | hq
        · exact led_er
        · exact led_der
        · obtain ⟨d', hd', rfl⟩ := List.mem_map.mp hq
          exact led_D (by rw [eD]; exact List.mem_append_left _ hd')
        · obtain ⟨d', hd', rfl⟩ := List.mem_map.mp hq
          exact led_D (by rw [eD]; exact List.mem_append_right _ (.tail _ hd'))
        · obtain ⟨r, hr, rfl⟩ := List.mem_map.mp hq
          exact led_R hr
        · exact led_I hq
      simp only [GS.led, dLed, rLed, List.map_append, List.map_cons, List.map_nil, List.mem_cons, List.mem_append, List.not_mem_nil, or_false] at hp
      simp only [dLed, rLed, List.mem_cons, List.mem_append] at kp
      rcases hp with hp | hp | rfl | (hp | rfl | hp) | (hp | rfl) | (rfl | rfl) | hp
      · exact kp (.inl hp)
      · exact kp (.inr (.inl hp))
      · exact m2
      · exact kp (.inr (.inr (.inl (.inl hp))))
      · exact m1
      · exact kp (.inr (.inr (.inl (.inr hp))))
      · exact kp (.inr (.inr (.inr (.inl hp))))
      · exact m3
      · exact m4
      · exact m5
      · exact kp (.inr (.inr (.inr (.inr hp))))
  · intro p hp p' hp'
    have h1 := old p (List.mem_append_left _ hp)
    rcases keys p' hp' with h | h | h | ⟨p2, h, h2⟩
    · rw [h]; exact Nat.ne_of_gt (Nat.lt_trans h1 (Nat.lt_trans lq lT))
    · rw [h]; exact Nat.ne_of_gt (Nat.lt_trans h1 lq)
    · rw [h]; exact Nat.ne_of_gt h1
    · rw [← h2]; exact hown p hp p2 h
  · intro p hp
    have : @LT.lt Nat _ 1 p.1 := by
      simp only [List.mem_cons, List.not_mem_nil, or_false] at hp
      rcases hp with rfl | rfl | rfl
      · exact one
      · exact Nat.lt_trans one (Nat.lt_trans lq lT)
      · exact Nat.lt_trans one lq
    exact beq_eq_false_iff_ne.mpr (Nat.ne_of_gt this)
  · intro p hp
    simp only [List.mem_cons, List.not_mem_nil, or_false] at hp
    rcases hp with rfl | rfl <;> rfl
  · rw [hod]
    refine .some (.head _) (.cons (tk := tk) (by rw [← zl]; exact .tail _ (.head _)) (Int.natCast_nonneg _) (hps.mono fun p hp => List.mem_append_right _ hp))
  · refine ⟨fun p hp => List.mem_append_right _ hp, fun k r hr => ⟨r, ?_, rfl, rfl, rfl, fun _ => rfl⟩, fun k r' hr hk => ?_⟩
    · show (g.R ++ [_])[k]? = some r
      rw [List.getElem?_append_left (List.getElem?_eq_some_iff.mp hr).1]; exact hr
    · have hr : (g.R ++ [(⟨d.x, c, oc, [], e⟩ : RN)])[k]? = some r' := hr
      rw [List.getElem?_append_right hk] at hr
      cases hk' : k - g.R.length with
      | zero => rw [hk'] at hr; cases hr; exact Nat.le_refl _
      | succ j => rw [hk'] at hr; cases hr
end
end Mine
end

-- VStore
section
open PySem PySem.W PyProof.Rows PySem.Calls PySem.Spec
set_option maxRecDepth 100000
set_option maxHeartbeats 1000000
namespace Mine
section
variable {prog : Program} {w : World} {P : Par} {n m b : Nat} {g g1 g2 : GS}
theorem split_at {α : Type} {l : List α} {i : Nat} {a : α} (h : l[i]? = some a) : ∃ l₁ l₂, l = l₁ ++ a :: l₂ ∧ l₁.length = i := by
  have hi := (List.getElem?_eq_some_iff.mp h).1
  refine ⟨l.take i, l.drop (i + 1), ?_, by rw [List.length_take]; omega⟩
  have e : l[i] = a := (List.getElem?_eq_some_iff.mp h).2
  rw [← e, ← List.drop_eq_getElem_cons hi, List.take_append_drop]

theorem Inv.pvlen (h : Inv prog w P n m g b) {r : RN} (hr : r ∈ g.R) : r.pv.length ≤ P.t.length + 1 := by
  obtain ⟨_, _, _, _, _, _, hn⟩ := h.rdict r hr
  have := nodup_le (l' := List.map (fun i : Nat => Int.ofNat i) (List.range (P.t.length + 1))) hn fun a ha => by
    obtain ⟨q, hq, rfl⟩ := List.mem_map.mp ha
    obtain ⟨h1, h2⟩ := h.rkey r hr q hq
    exact List.mem_map.mpr ⟨q.1.toNat, List.mem_range.mpr (by omega), Int.toNat_of_nonneg h1⟩
  simpa using this

theorem valueAt_mem {kvs : List (Int × Value)} {k : Int} {v : Value} (h : valueAt kvs k = some v) : (k, v) ∈ kvs := by
  unfold valueAt at h
  cases e : kvs.find? (fun kv => decide (kv.1 = k)) with
  | none => rw [e] at h; cases h
  | some q =>
    rw [e] at h
    have h1 := List.find?_some e
    have h2 := List.mem_of_find?_eq_some e
    have h3 : q.1 = k := by simpa using h1
    have h4 : q.2 = v := by simpa using h
    rw [← h3, ← h4]
    exact h2

theorem getElem?_mid_ne {α : Type} {l₁ l₂ : List α} {a a' : α} {i : Nat} (hi : i ≠ l₁.length) : (l₁ ++ a :: l₂)[i]? = (l₁ ++ a' :: l₂)[i]? := by
  by_cases h : i < l₁.length
  · rw [List.getElem?_append_left h, List.getElem?_append_left h]
  · rw [List.getElem?_append_right (by omega), List.getElem?_append_right (by omega), show i - l₁.length = (i - l₁.length - 1) + 1 by omega, List.getElem?_cons_succ, List.getElem?_cons_succ]

theorem Inv.store {R₁ R₂ R₁' R₂' : List RN} {r : RN} {k : Nat} {ip v : Value} {oc' oc'' : Obj}
    (h1 : Inv prog w P n m g1 (b + 1)) (eR : g1.R = R₁ ++ r :: R₂) (hre : r.e.size = b) (hb : 1 ≤ b) (hk : k ≤ P.t.length) (h2 : Inv prog w P n m g2 b)
    (st : Step { g1 with R := R₁ ++ { r with oc := oc', pv := stored r.pv k ip } :: R₂ } g2 (b - 1)) (eR2 : g2.R = R₁' ++ { r with oc := oc', pv := stored r.pv k ip } :: R₂') (hl : R₁'.length = R₁.length)
    (hd : oc''.IsDictOf (intKind prog w) (stored (stored r.pv k ip) k v)) (hres : Res g2.I P.t r.e k v) :
    Inv prog w P n m { g2 with R := R₁' ++ { r with oc := oc'', pv := stored (stored r.pv k ip) k v } :: R₂' } (b + 1) ∧ Step g1 { g2 with R := R₁' ++ { r with oc := oc'', pv := stored (stored r.pv k ip) k v } :: R₂' } b := by
  have hrm : r ∈ g1.R := by rw [eR]; exact List.mem_append_right _ (.head _)
  have keys : ∀ q ∈ stored (stored r.pv k ip) k v, 0 ≤ q.1 ∧ q.1 ≤ P.t.length := fun q hq => by
    rcases mem_stored hq with rfl | ⟨hq, _⟩
    · exact ⟨Int.natCast_nonneg _, by exact Int.ofNat_le.mpr hk⟩
    · rcases mem_stored hq with rfl | ⟨hq, _⟩
      · exact ⟨Int.natCast_nonneg _, by exact Int.ofNat_le.mpr hk⟩
      · exact h1.rkey r hrm q hq
  have h3 := h2.setR (oc := oc'') (pv := stored (stored r.pv k ip) k v) eR2 hd keys (fun hs => absurd hs (by show ¬ r.e.size < b; omega))
  refine ⟨{ h3 with good := fun r' hr' hs q hq => ?_ }, ⟨st.grow, fun i r0 hi => ?_, fun i r' hi hi' => ?_⟩⟩
  · obtain ⟨i, hi⟩ := List.getElem?_of_mem hr'
    by_cases hi0 : i = R₁'.length
    · have hi : (R₁' ++ { r with oc := oc'', pv := stored (stored r.pv k ip) k v } :: R₂')[i]? = some r' := hi
      rw [hi0, getElem?_midE] at hi
      obtain rfl := Option.some.inj hi
      show Res g2.I P.t r.e q.1.toNat q.2
      rcases mem_stored hq with rfl | ⟨hq, hn⟩
      · exact hres
      · rcases mem_stored hq with rfl | ⟨hq, _⟩
        · exact absurd rfl hn
        · exact (h1.good r hrm (by omega) q hq).mono st.grow
    · have hi2 : g2.R[i]? = some r' := by rw [eR2, ← hi]; exact getElem?_mid_ne hi0
      by_cases hs' : r'.e.size < b
      · exact h2.good r' (List.mem_of_getElem? hi2) hs' q hq
      · have hlt : i < (R₁ ++ { r with oc := oc', pv := stored r.pv k ip } :: R₂).length := by
          apply Nat.lt_of_not_le
          intro z
          have := st.new i r' hi2 z
          omega
        obtain ⟨r1, e1, _, _, e4, e5⟩ := st.old i _ (List.getElem?_eq_getElem hlt)
        rw [hi2] at e1
        obtain rfl := Option.some.inj e1
        have er := e5 (by rw [← e4]; omega)
        have hg1 : g1.R[i]? = some r' := by
          rw [eR, getElem?_mid_ne (a' := { r with oc := oc', pv := stored r.pv k ip }) (by rw [← hl]; exact hi0), er]
          exact List.getElem?_eq_getElem hlt
        exact (h1.good r' (List.mem_of_getElem? hg1) (by omega) q hq).mono st.grow
  · by_cases hi0 : i = R₁.length
    · rw [eR, hi0, getElem?_midE] at hi
      obtain rfl := Option.some.inj hi
      refine ⟨{ r with oc := oc'', pv := stored (stored r.pv k ip) k v }, ?_, rfl, rfl, rfl, fun z => by omega⟩
      show (R₁' ++ _ :: R₂')[i]? = _
      rw [hi0, ← hl, getElem?_midE]
    · have hi1 : (R₁ ++ { r with oc := oc', pv := stored r.pv k ip } :: R₂)[i]? = some r0 := by rw [← hi, eR]; exact getElem?_mid_ne hi0
      obtain ⟨r1, e1, e2, e3, e4, e5⟩ := st.old i r0 hi1
      refine ⟨r1, ?_, e2, e3, e4, fun z => e5 (by omega)⟩
      show (R₁' ++ _ :: R₂')[i]? = _
      rw [← e1, eR2]
      exact getElem?_mid_ne (by rw [hl]; exact hi0)
  · have hi : (R₁' ++ { r with oc := oc'', pv := stored (stored r.pv k ip) k v } :: R₂')[i]? = some r' := hi
    have hlen : g1.R.length = R₁.length + R₂.length + 1 := by rw [eR, List.length_append, List.length_cons]; omega
    have hi2 : g2.R[i]? = some r' := by rw [eR2, ← hi]; exact getElem?_mid_ne (by omega)
    have := st.new i r' hi2 (by show (R₁ ++ _ :: R₂).length ≤ i; rw [List.length_append, List.length_cons]; omega)
    omega
/-- the ledger with one cache changed, from its two parts -/
theorem led_setR {R₁ R₂ : List RN} {r r' : RN} {G h₁ : Heap} {L : Addr} {own all : Led} (h : Inv prog w P n m g b) (eR : g.R = R₁ ++ r :: R₂) (hc : r'.c = r.c) (hown : OffL own (g.led P)) (N : News G L h₁ all) (m1 : (r.c, r'.oc) ∈ all) (mr : ∀ q ∈ wo r.c (own ++ g.led P), q ∈ all) :
    News G L h₁ (own ++ ({ g with R := R₁ ++ r' :: R₂ } : GS).led P) ∧ OffL own (({ g with R := R₁ ++ r' :: R₂ } : GS).led P) := by
  have hrm : r ∈ g.R := by rw [eR]; exact List.mem_append_right _ (.head _)
  have nd := h.nd
  simp only [GS.led, eR, rLed, List.map_cons, List.map_append, List.map_map] at nd
  obtain ⟨n1, nd⟩ := List.nodup_cons.mp nd
  obtain ⟨n2, nd⟩ := List.nodup_cons.mp nd
  obtain ⟨n3, nd⟩ := List.nodup_cons.mp nd
  obtain ⟨n4, n5, n6⟩ := List.nodup_append.mp nd
  obtain ⟨n7, n8, n9⟩ := List.nodup_append.mp n5
  obtain ⟨n10, n11, n12⟩ := List.nodup_append.mp n7
  obtain ⟨n11', n11⟩ := List.nodup_cons.mp n11
  have cin : r.c ∈ List.map ((fun x => x.1) ∘ fun r : RN => (r.c, r.oc)) R₁ ++ ((fun x => x.1) ∘ fun r : RN => (r.c, r.oc)) r :: List.map ((fun x => x.1) ∘ fun r : RN => (r.c, r.oc)) R₂ := List.mem_append_right _ (.head _)
  have cIn : r.c ∈ List.map (fun x => x.1) (dLed g.D) ++ (List.map ((fun x => x.1) ∘ fun r : RN => (r.c, r.oc)) R₁ ++ ((fun x => x.1) ∘ fun r : RN => (r.c, r.oc)) r :: List.map ((fun x => x.1) ∘ fun r : RN => (r.c, r.oc)) R₂ ++ List.map (fun x => x.1) g.I) := List.mem_append_right _ (List.mem_append_left _ cin)
  have kp : ∀ q ∈ g.led P, q.1 ≠ r.c → q ∈ all := fun q hq hn => mr q (wo_mem (List.mem_append_right _ hq) hn)
  have mem : ∀ q ∈ ({ g with R := R₁ ++ r' :: R₂ } : GS).led P, q = (r.c, r'.oc) ∨ (q ∈ g.led P ∧ q.1 ≠ r.c) := fun q hq => by
    simp only [GS.led, rLed, List.map_append, List.map_cons, List.mem_cons, List.mem_append] at hq
    rcases hq with rfl | rfl | rfl | hq | (hq | rfl | hq) | hq
    · exact .inr ⟨led_er, fun e => n1 (.tail _ (.tail _ (by rw [show P.er = r.c from e]; exact cIn)))⟩
    · exact .inr ⟨led_der, fun e => n2 (.tail _ (by rw [show P.der = r.c from e]; exact cIn))⟩
    · exact .inr ⟨led_C, fun e => n3 (by rw [show P.C = r.c from e]; exact cIn)⟩
    · obtain ⟨d, hd, rfl⟩ := List.mem_map.mp hq
      exact .inr ⟨led_D hd, n6 _ (List.mem_map_of_mem (f := fun x : Addr × Obj => x.1) hq) _ (List.mem_append_left _ cin)⟩
    · obtain ⟨r0, hr0, rfl⟩ := List.mem_map.mp hq
      exact .inr ⟨led_R (by rw [eR]; exact List.mem_append_left _ hr0), n12 _ (List.mem_map_of_mem (f := (fun x => x.1) ∘ fun r : RN => (r.c, r.oc)) hr0) _ (.head _)⟩
    · left; rw [hc]
    · obtain ⟨r0, hr0, rfl⟩ := List.mem_map.mp hq
      exact .inr ⟨led_R (by rw [eR]; exact List.mem_append_right _ (.tail _ hr0)), fun e => n11' (by show r.c ∈ _; rw [← e]; exact List.mem_map_of_mem (f := (fun x => x.1) ∘ fun r : RN => (r.c, r.oc)) hr0)⟩
    · exact .inr ⟨led_I hq, fun e => n9 _ cin _ (List.mem_map_of_mem (f := fun x : Addr × Obj => x.1) hq) e.symm⟩
  refine ⟨N.perm fun q hq => ?_, fun p hp q hq => ?_⟩
  · rcases List.mem_append.mp hq with hq | hq
    · exact mr q (wo_mem (List.mem_append_left _ hq) fun e => hown q hq _ (led_R hrm) e.symm)
    · rcases mem q hq with rfl | ⟨h1, h2⟩
      · exact m1
      · exact kp q h1 h2
  · rcases mem q hq with rfl | ⟨h1, h2⟩
    · exact hown p hp (r.c, r.oc) (led_R hrm)
    · exact hown p hp q h1

theorem v_instF {h₀ h : Heap} {L x C dx : Addr} {news : Led} {od : Obj} {vs : Array Value} {sl : Array (Option Value)} (N : News h₀ L h news) (h1 : (x, (⟨.ref C, some dx, .fields vs, sl⟩ : Obj)) ∈ news) (h2 : (dx, od) ∈ news) :
    InstAt h x ⟨.ref C, some dx, .fields vs, sl⟩ C (some od) := ⟨(N _ h1).1, rfl, rfl, (N _ h2).1⟩
theorem Inv.neDer (h : Inv prog w P n m g b) : ∀ q ∈ (P.er, P.oer) :: (P.C, g.oC) :: (dLed g.D ++ (rLed g.R ++ g.I)), q.1 ≠ P.der := by
  have nd := h.nd
  simp only [GS.led, List.map_cons, List.map_append] at nd
  obtain ⟨n1, nd⟩ := List.nodup_cons.mp nd
  obtain ⟨n2, nd⟩ := List.nodup_cons.mp nd
  intro q hq
  rcases List.mem_cons.mp hq with rfl | hq
  · exact fun e => n1 (by rw [show P.er = P.der from e]; exact .head _)
  · intro e
    apply n2
    rw [← e]
    have := List.mem_map_of_mem (f := fun x : Addr × Obj => x.1) hq
    simpa using this
theorem led_setE {G h₁ : Heap} {L : Addr} {own all : Led} {oe : Obj} (h : Inv prog w P n m g b) (hown : OffL own (g.led P)) (N : News G L h₁ all) (m1 : (P.der, oe) ∈ all) (mr : ∀ q ∈ wo P.der (own ++ g.led P), q ∈ all) :
    News G L h₁ (own ++ ({ g with oe } : GS).led P) ∧ OffL own (({ g with oe } : GS).led P) := by
  have nd := h.neDer
  have mem : ∀ q ∈ ({ g with oe } : GS).led P, q = (P.der, oe) ∨ (q ∈ g.led P ∧ q.1 ≠ P.der) := fun q hq => by
    rcases List.mem_cons.mp hq with rfl | hq
    · exact .inr ⟨led_er, nd _ (.head _)⟩
    · rcases List.mem_cons.mp hq with rfl | hq
      · exact .inl rfl
      · exact .inr ⟨.tail _ (.tail _ hq), nd _ (.tail _ hq)⟩
  refine ⟨N.perm fun q hq => ?_, fun p hp q hq => ?_⟩
  · rcases List.mem_append.mp hq with hq | hq
    · exact mr q (wo_mem (List.mem_append_left _ hq) fun e => hown q hq _ led_der e.symm)
    · rcases mem q hq with rfl | ⟨h1, h2⟩
      · exact m1
      · exact mr q (wo_mem (List.mem_append_right _ h1) h2)
  · rcases mem q hq with rfl | ⟨h1, h2⟩
    · exact hown p hp (P.der, g.oe) led_der
    · exact hown p hp q h1
end
end Mine
end

-- VExc
section
open PySem PySem.W PyProof.Rows PySem.Calls PySem.Spec Builtin Builtin.ObjectAttr
set_option maxRecDepth 100000
set_option maxHeartbeats 1000000
namespace Mine
/-- a class whose instances take attributes by object.__setattr__ -/
structure SetsIn (K : Frag) (C : Addr) : Prop where
  cd : ∃ cd, clsIn K C = some cd ∧ cd.hasDict = true ∧ cd.mro.isEmpty = false ∧ cd.mro.contains (.type "object") = true ∧ ∀ self, refuseLoop self "__setattr__" cd.mro = pure ()
theorem sets94 {w : World} : SetsIn (Mine.hd.heap_39 w.params) 94 := by
  refine ⟨_, rfl, rfl, rfl, rfl, fun self => ?_⟩
  show refuseLoop self "__setattr__" [.ref 94, .ref 38, .ref 52, .type "Exception", .type "BaseException", .type "object"] = _
  rw [refuseLoop_ref, refuseLoop_ref, refuseLoop_ref]
  exact PySem.F.store_Exception.passes self
section
variable {prog : Program} {w : World} {A : Around} {E : Value → Shared → Prop} {s : Shared} {K : Frag} {x C dx L : Addr} {ox od : Obj} {odo : Option Obj} {name : Str} {v : Value} {h₀ : Heap} {m : Str → Option Value} {news news' : Led} {es es' : List DictEntry} {n n' : Nat} {t tk : Tok} {R : Result → Shared → Prop}

theorem v_storeOpen (X : K.In s.heap) (I : InstAt s.heap x ox C odo) (S : SetsIn K C) (ht : takerIn K C name = some none)
    (h : ∀ b, wpAny (model prog w) A.in1 (storeInOwnDict (.ref x) (.ref C) (.str name tk) name v b)
      (fun fin s' => match fin with | .done f => R (.ok f) s' | .again c' => c'.quiet = true ∧ codeAny (model prog w) A c' R s') (fun e s' => R (.error e) s') s) :
    codeAny (model prog w) A (.call (.builtin "object.__setattr__") ⟨[.ref x, .str name tk, v], []⟩) R s := by
  obtain ⟨cd, hc, _, ne, hob, hpass⟩ := S.cd
  have SF := PySem.F.store_object
  have typ := I.type (M := model prog w)
  have sub : Looks (model prog w) s.heap (isInstance (.ref x) (.type "object")) true := typ.andThen (looks_mroIn X (by unfold mroIn; rw [hc, Option.bind_some, if_neg (by rw [ne]; decide), hob]))
  obtain ⟨attr, ha, hr⟩ := Option.bind_eq_some_iff.mp ht
  have mro : Looks (model prog w) s.heap (mroOf (.ref C)) cd.mro := (looks_clsIn X hc).andThen .now
  have taker : Looks (model prog w) s.heap (storeTaker? attr) none := by
    cases attr with
    | none => exact .now
    | some a =>
      obtain ⟨b, hb, hbn⟩ := Option.map_eq_some_iff.mp hr
      refine (looks_takesIn X hb).andThen ?_
      cases b with
      | true => cases hbn
      | false => exact .now
  refine codeAny_call_builtin SF.slot.plain SF.entry (@check_slot (model prog w) _ _ s "object.__setattr__" "object" "__setattr__" (.ref x) [.str name tk, v] [] _ SF.kind SF.split sub (SF.args (.ref x) (.str name tk) v) ?_)
  rw [osa_eq, refuse_eq]
  refine wpAny_bind (wpAny_bind (typ.here (wpAny_bind (mro.here ?_))))
  rw [hpass]
  exact wpAny_pure (wpAny_bind (typ.here (wpAny_bind ((looks_findIn X ha).here (wpAny_bind (taker.here (h _)))))))

/-- an attribute into a dict that stands already -/
theorem v_storeCode {pre post : Led} (F : Fr h₀ L s.heap m) (X : K.In s.heap) (N : News h₀ L s.heap (pre ++ (dx, dictOf es n) :: post)) (I : InstAt s.heap x ox C (some (dictOf es n))) (hd : ox.dict = some dx)
    (S : SetsIn K C) (ht : takerIn K C name = some none) (hl : (getL name es).isSome = true) (h1 : ∀ p ∈ pre, p.1 ≠ dx) (h2 : ∀ p ∈ post, p.1 ≠ dx)
    (e : (putL name (PyData.keyHash w.params name) (.str name s.toks) v es, putN name es n) = (es', n')) (hz : es'.length ≤ 1000)
    (h : ∀ h', Fr h₀ L h' m → News h₀ L h' (pre ++ (dx, dictOf es' n') :: post) → R (.ok (.ret .none)) { s with heap := h', toks := s.toks + 1 }) :
    codeAny (model prog w) A (.call (.builtin "object.__setattr__") ⟨[.ref x, .str name tk, v], []⟩) R s := by
  refine v_storeOpen X I S ht fun bb => ?_
  obtain ⟨e1, e2⟩ := Prod.mk.inj e
  obtain ⟨cd, hc, hdt, _⟩ := S.cd
  have ep : Obj.putName name (PyData.keyHash w.params name) (.str name s.toks) v (dictOf es n) = dictOf es' n' := by rw [putName_dict, e1, e2]
  obtain ⟨U1, U2⟩ := news_upd (f := Obj.putName name (PyData.keyHash w.params name) (.str name s.toks) v) F N h1 h2 ep rfl
  have D := (N (dx, dictOf es n) (by simp)).1
  have D' := (U2 (dx, dictOf es' n') (by simp)).1
  obtain ⟨hx, hcl, hn, -⟩ := I
  obtain ⟨oc, odi, oda, osl⟩ := ox
  dsimp only at hcl hd
  subst hcl hd
  refine wpAny_bind (wpAny_pure (wpAny_bind (wpAny_bind (wpAny_loadPart hx (wpAny_bind ((looks_clsIn X hc).here ?_))))))
  rw [hdt]
  refine wpAny_pure (a := some dx) (wpAny_bind (wpAny_pure (wpAny_bind ?_)))
  unfold nsSet
  refine wpAny_bind (wpAny_bind (wpAny_askSetting (wpAny_pure (wpAny_bind (wpAny_mkText (wpAny_bind (wpAny_loadPart D ?_)))))))
  have c : (!es.toArray.any (·.key.isStr name) && es.toArray.any (·.refKey)) = false := by
    rw [← Array.any_toList, ← Array.any_toList]
    unfold getL at hl
    split at hl
    · rename_i en he
      rw [List.any_eq_true.mpr ⟨en, List.mem_of_find?_eq_some he, List.find?_some he⟩]; rfl
    · split at hl
      · cases hl
      · rename_i z
        rw [Bool.not_eq_true] at z
        show (_ && es.any (·.refKey)) = false
        rw [z, Bool.and_false]
  dsimp only
  rw [aRefKeyMayBeTheName_at, c]
  refine wpAny_updatePart D ?_
  refine wpAny_bind (wpAny_lookBehind D' (pastItsLine_dict (by rw [List.size_toArray, sizeLine_eq]; omega)) ?_)
  exact wpAny_pure (h _ U1 U2)

theorem v_storeDict {Q : Unit → Shared → Prop} (F : Fr h₀ L s.heap m) (X₀ : K.In h₀) (N : News h₀ L s.heap news) (I : InstAt s.heap x ox C (some (dictOf es n))) (hd : ox.dict = some dx)
    (hs : findIn K (.ref C) "__setattr__" = some (some (.builtin "object.__setattr__"))) (S : SetsIn K C) (ht : takerIn K C name = some none) (hl : (getL name es).isSome = true)
    (e : (putL name (PyData.keyHash w.params name) (.str name (s.toks + 1)) v es, putN name es n) = (es', n')) (U : Upd dx (dictOf es n) (dictOf es' n') news news') (hz : es'.length ≤ 1000)
    (h : ∀ h', Fr h₀ L h' m → News h₀ L h' news' → Q () { s with heap := h', toks := s.toks + 2 }) :
    wpAny (model prog w) A (setAttr (.ref x) name v) Q E s := by
  obtain ⟨pre, post, rfl, rfl, a, b⟩ := U.split
  have X := X₀.keeps F.keep
  exact set_plain X I hs (v_storeCode (s := { s with toks := s.toks + 1 }) F X N I hd S ht hl a b e hz fun h' F' N' => h h' F' N')

theorem hasB (hB : mroIn K C (.type "BaseException") = some true) (X : K.In s.heap) (I : InstAt s.heap x ox C odo) : Looks (model prog w) s.heap (isInstance (.ref x) (.type "BaseException")) true := I.type.andThen (looks_mroIn X hB)

/-- reading an attribute of an exception's own dict -/
theorem v_getCode (X : K.In s.heap) (I : InstAt s.heap x ox C (some (dictOf es n))) (hB : mroIn K C (.type "BaseException") = some true) (hf : findObj K C (some (dictOf es n)) name = some (.value v)) (h : R (.ok (.ret v)) s) :
    codeAny (model prog w) A (.call (.builtin "BaseException.__getattribute__") ⟨[.ref x, .str name tk], []⟩) R s := by
  have hk : builtinKind "BaseException.__getattribute__" = some .slot := by decide +kernel
  have hsplit : splitId "BaseException.__getattribute__" = some ("BaseException", "__getattribute__") := by decide +kernel
  refine codeAny_call_builtin (by decide +kernel) PySem.F.entry_bexc_ga (@check_slot (model prog w) _ _ s "BaseException.__getattribute__" "BaseException" "__getattribute__" (.ref x) [.str name tk] [] _ hk hsplit (hasB hB X I) (PySem.F.args_bexc_ga (.ref x) (.str name tk)) ?_)
  have typ := I.type (M := model prog w)
  have fnd := looks_find (M := model prog w) X I hf
  unfold Builtin.«object.__getattribute__»
  refine wpAny_bind (wpAny_of_eq (a := (.ref x, [.str name tk])) (by first | rfl | kernel_rfl) ?_)
  dsimp only
  refine wpAny_bind (wpAny_pure (wpAny_bind (typ.here (wpAny_bind (fnd.here ?_)))))
  exact wpAny_pure h

theorem v_getE {Q : Value → Shared → Prop} {expr : Bool} (F : Fr h₀ L s.heap m) (X₀ : K.In h₀) (I : InstAt s.heap x ox C (some (dictOf es n))) (hga : findIn K (.ref C) "__getattribute__" = some (some (.builtin "BaseException.__getattribute__"))) (hgt : findIn K (.ref C) "__getattr__" = some none)
    (hB : mroIn K C (.type "BaseException") = some true) (hh : hasDictIn K C = true) (ha : findIn K (.ref C) name = some none) (hl : getL name es = some (some v)) (hv : handedIn v = true)
    (h : Q v { s with toks := s.toks + 1 }) : wpAny (model prog w) A (getAttr (.ref x) name expr) Q E s := by
  have X := X₀.keeps F.keep
  have hf : findObj K C (some (dictOf es n)) name = some (.value v) := findObj_own (attr := none) hh ha rfl (by show lookIn name (dictOf es n) = _; rw [lookIn_dict, hl])
  obtain ⟨hp, g, d, tk0, os⟩ := s
  have L0 := I.type (M := model prog w)
  have L1 := looks_findIn (M := model prog w) X hga
  have L2 := looks_findIn (M := model prog w) X hgt
  have f3 := PySem.F.attr_Exception.ga.bind (.ref x)
  unfold getAttr getAttrBy
  refine wpAny_bind (wpAny_mkText (wpAny_holding (wpAny_bind (L0.at (wpAny_bind (L1.at ?_))))))
  dsimp only
  have hx2 : (Value.builtin "BaseException.__getattribute__" == Value.builtin "object.__getattribute__") = false := by decide +kernel
  rw [hx2, Bool.and_false, if_neg Bool.false_ne_true]
  show wpAny _ _ (getAttrByItsOwn _ _ _ _ _ _) _ _ _
  unfold getAttrByItsOwn
  refine wpAny_bind (m := hookBefore (.ref C)) (L2.at ?_)
  refine wpAny_bind (wpAny_attempt (wpAny_holding ?_))
  unfold callGetattribute
  rw [show (expr && onTheHeap (Value.builtin "BaseException.__getattribute__")) = false by cases expr <;> rfl, if_neg Bool.false_ne_true]
  unfold boundAndCalled
  rw [f3]
  refine wpAny_bind (wpAny_pure ?_)
  dsimp only [List.singleton_append]
  refine wpAny_call (v_getCode X I hB hf ?_)
  dsimp only
  rw [handedOut_of hv]
  exact wpAny_pure h
end

section
variable {prog : Program} {w : World} {A : Around} {E : Value → Shared → Prop} {h : Heap} {g : Array GenState} {d : Drawn} {t : Nat} {os : OsState}
variable {nm q : Str} {C N : Addr} {bs bm bmB : List Value} {hdct : Bool} {sn : List Str} {sub : List Value} {ab : Bool} {col : Option Bool} {dd : Option Addr} {k0 k1 k2 k3 k5 : Option Value} {B newId initId : String}
/-- an exception class of ours with an __init__ of its own, over classes of ours without one -/
theorem v_typeCallExc (FB : ExcBaseFacts B newId initId bmB) (T : OwnTail h bmB bm) {rest : List Value} {fI : Addr} {Q : Fin → Shared → Prop}
    (hC : h.get? C = some (excClassObj nm q C N bs bm hdct sn sub ab col dd k0 k1 k2 k3 k5 newId)) (hi : Looks (model prog w) h (typeLookup (.ref C) "__init__") (some (.ref fI))) (hfI : Looks (model prog w) h (typeOf (.ref fI)) (.type "function"))
    (hq : codeAny (model prog w) A (.call (.ref fI) ⟨.ref (h.objs.size + 1) :: rest, []⟩) (InitBack (h.objs.size + 1) fun r s' => match r with | .ok f => Q (.done f) s' | .error e => E e s')
      ⟨(h.push { cls := .type "tuple", data := .seq rest.toArray }).push { cls := .ref C, data := .fields #[.ref h.objs.size, .none, .none, .none, .bool false, .none] }, g, d, t, os⟩) (hrest : rest.length ≤ sizeLine) :
    wpAny (model prog w) A (Builtin.«type.__call__» ⟨.ref C :: rest, []⟩) Q E ⟨h, g, d, t, os⟩ := by
  repeat (first | with_reducible refine wpAny_loadPart_at hC ?_ | with_reducible refine wpAny_madeBy_exc hC ?_ | wp_step)
  refine codeAny_call_builtin_code (Code.quiet_builtin _ FB.quiet) (wpAny_check_new_subT FB T hC ?_)
  refine codeAny_exc_new_subT FB T hC ?_ hrest
  show wpAny _ _ _ _ _ _
  have k : ∀ b o, h.get? b = some o → ((h.push { cls := .type "tuple", data := .seq rest.toArray }).push { cls := .ref C, data := .fields #[.ref h.objs.size, .none, .none, .none, .bool false, .none] }).get? b = some o := fun b o e => Heap.get?_push_of_some _ (Heap.get?_push_of_some _ e)
  have hC₁ := k _ _ hC
  have hget : ((h.push { cls := .type "tuple", data := .seq rest.toArray }).push
      { cls := .ref C, data := .fields #[.ref h.objs.size, .none, .none, .none, .bool false, .none] }).get? (h.objs.size + 1) = some
      { cls := .ref C, data := .fields #[.ref h.objs.size, .none, .none, .none, .bool false, .none] } := by heap_get
  have hcC : (Value.ref C :: bm).contains (.ref C) = true := by simp
  have hi₁ := hi.keeps k
  have hf₁ := hfI.keeps k
  unfold isInstance
  repeat (first | with_reducible refine wpAny_loadPart_at hget ?_ | (with_reducible refine wpAny_isSubtype_exc hC₁ ?_; rw [hcC]) | wp_step)
  show wpAny _ _ (typeLookup (.ref C) _) _ _ _
  refine hi₁.at ?_
  refine wpAny_holding (wpAny_bind ?_)
  unfold bindSpecial
  refine wpAny_bind (hf₁.at ?_)
  rw [if_pos (by decide)]
  refine wpAny_pure (wpAny_bind (wpAny_call (codeAny_mono hq fun r s' z => ?_)))
  rcases r with e | (v | _ | _ | _) <;> first | exact z | exact z.elim | skip
  obtain ⟨rfl, z⟩ := z
  wp_walk
  exact z

theorem v_callExc (FB : ExcBaseFacts B newId initId bmB) (T : OwnTail h bmB bm) {rest : List Value} {fI : Addr} {Q : Value → Shared → Prop}
    (hC : h.get? C = some (excClassObj nm q C N bs bm hdct sn sub ab col dd k0 k1 k2 k3 k5 newId)) (hi : Looks (model prog w) h (typeLookup (.ref C) "__init__") (some (.ref fI))) (hfI : Looks (model prog w) h (typeOf (.ref fI)) (.type "function"))
    (hq : codeAny (model prog w) (A.under (.builtin "type.__call__" ⟨.ref C :: rest, []⟩)) (.call (.ref fI) ⟨.ref (h.objs.size + 1) :: rest, []⟩) (InitBack (h.objs.size + 1) fun r s' => match r with | .ok (.ret v) => Q v s' | .ok _ => False | .error e => E e s')
      ⟨(h.push { cls := .type "tuple", data := .seq rest.toArray }).push { cls := .ref C, data := .fields #[.ref h.objs.size, .none, .none, .none, .bool false, .none] }, g, d, t, os⟩) (hrest : rest.length ≤ sizeLine) :
    wpAny (model prog w) A (call (.ref C) rest) Q E ⟨h, g, d, t, os⟩ := by
  have f1 := tc_lookup
  have f2 := tc_bind (.ref C)
  have hT : (⟨h, g, d, t, os⟩ : Shared).TypeIs (.ref C) "type" := ⟨_, hC, rfl⟩
  refine wpAny_call (codeAny_of_tree ?_)
  show wpAny _ _ (callAny (.ref C) _) _ _ _
  repeat (any_goals (first | assumption | with_reducible refine wpAny_loadPart_at hC ?_ | wp_step))
  refine ⟨rfl, ?_⟩
  refine codeAny_call_builtin_at (Code.quiet_builtin _ (by decide +kernel)) entry_typeCall (wpAny_check_type_call_sub hC (v_typeCallExc FB T hC hi hfI ?_ hrest))
  refine codeAny_mono hq fun r s' z => ?_
  rcases r with e | (v | _ | _ | _) <;> first | exact z | exact z.elim | skip
end

section
variable {prog : Program} {w : World} {A : Around} {E : Value → Shared → Prop} {s : Shared} {K : Frag} {x C L : Addr} {ox : Obj} {name : Str} {v : Value} {h₀ : Heap} {m : Str → Option Value} {news : Led} {tk : Tok} {R : Result → Shared → Prop}
/-- the first attribute of an exception: its dict is made -/
theorem v_storeNewCode (F : Fr h₀ L s.heap m) (X : K.In s.heap) (N : News h₀ L s.heap ((x, ox) :: news)) (off : ∀ p ∈ news, p.1 ≠ x) (hcl : ox.cls = .ref C) (hno : notCls ox = true) (hdn : ox.dict = none) (hfr : ox.isFreed = false)
    (S : SetsIn K C) (ht : takerIn K C name = some none)
    (h : ∀ d h' tk' k, Fr h₀ L h' m → News h₀ L h' ((d, dictOf [⟨k, .str name tk', v⟩] 1) :: (x, { ox with dict := some d }) :: news) → (∀ p ∈ (x, ox) :: news, p.1 < d) → R (.ok (.ret .none)) { s with heap := h', toks := s.toks + 1 }) :
    codeAny (model prog w) A (.call (.builtin "object.__setattr__") ⟨[.ref x, .str name tk, v], []⟩) R s := by
  have I : InstAt s.heap x ox C none := ⟨(N _ (.head _)).1, hcl, hno, by rw [hdn]; trivial⟩
  refine v_storeOpen X I S ht fun bb => ?_
  obtain ⟨cd, hc, hdt, _⟩ := S.cd
  have hx := (N _ (.head _)).1
  obtain ⟨d, hd⟩ : ∃ d, d = s.heap.objs.size := ⟨_, rfl⟩
  have N1 := N.push F emptyDict
  have F1 := F.push emptyDict
  rw [← hd] at N1
  have lt : ∀ p ∈ (x, ox) :: news, p.1 < d := fun p hp => by rw [hd]; exact Heap.lt_size (N p hp).1
  obtain ⟨F2, N2⟩ := news_upd (pre := [(d, emptyDict)]) (post := news) (f := fun o => { o with dict := some d }) (o' := { ox with dict := some d }) F1 N1 (fun p hp => by
    rw [List.mem_singleton.mp hp]; exact Nat.ne_of_gt (lt _ (.head _))) off rfl (by obtain ⟨_, _, dd, _⟩ := ox; cases dd <;> first | rfl | exact hfr)
  obtain ⟨F3, N3⟩ := news_upd (pre := []) (post := (x, { ox with dict := some d }) :: news) (f := Obj.putName name (PyData.keyHash w.params name) (.str name s.toks) v) (o' := dictOf [⟨PyData.keyHash w.params name, .str name s.toks, v⟩] 1) F2 N2 (fun _ hp => nomatch hp) (fun p hp => by
    rcases List.mem_cons.mp hp with rfl | hp
    · exact Nat.ne_of_lt (lt (x, ox) (.head _))
    · exact Nat.ne_of_lt (lt p (.tail _ hp))) (by show Obj.putName name _ _ v (dictOf [] 0) = _; rw [putName_dict]; rfl) rfl
  obtain ⟨oc, odi, oda, osl⟩ := ox
  dsimp only at hcl hdn
  subst hcl hdn
  refine wpAny_bind (wpAny_pure (wpAny_bind (wpAny_bind (wpAny_loadPart hx (wpAny_bind ((looks_clsIn X hc).here ?_))))))
  rw [hdt]
  have fin : wpAny (model prog w) A.in1 ((alloc emptyDict >>= fun d => update x (fun o => { o with dict := some d }) >>= fun _ => dictMade (.ref C) x d) : Sem (Option Addr)) (fun a s' =>
      wpAny (model prog w) A.in1 (match a with | some d => storeInDict d (Value.str name tk) name v | none => noDictFor (Value.ref x) (Value.ref C) name bb)
        (fun fin s' => match fin with | Fin.done f => R (Except.ok f) s' | Fin.again c' => c'.quiet = true ∧ codeAny (model prog w) A c' R s') (fun e s' => R (Except.error e) s') s') (fun e s' => R (Except.error e) s') s := by
    refine wpAny_bind (wpAny_alloc (wpAny_bind (wpAny_update (N1 _ (.tail _ (.head _))).1 ?_)))
    refine wpAny_pure (a := some s.heap.objs.size) ?_
    rw [← hd]
    dsimp only
    unfold storeInDict nsSet
    refine wpAny_bind (wpAny_pure (wpAny_bind ?_))
    refine wpAny_bind (wpAny_bind (wpAny_askSetting (wpAny_pure (wpAny_bind (wpAny_mkText (wpAny_bind (wpAny_loadPart (N2 _ (.head _)).1 ?_)))))))
    dsimp only
    rw [aRefKeyMayBeTheName_at]
    rw [if_neg (show ¬ ((!(#[] : Array DictEntry).any fun x => x.key.isStr name) && (#[] : Array DictEntry).any fun x => x.refKey) = true by simp)]
    refine wpAny_updatePart (o := emptyDict) ?_ ?_
    · exact (N2 _ (.head _)).1
    refine wpAny_bind (wpAny_lookBehind (o := dictOf [⟨PyData.keyHash w.params name, .str name s.toks, v⟩] 1) ?_ (pastItsLine_dict (by rw [sizeLine_eq]; exact Nat.le_of_ble_eq_true rfl)) ?_)
    · exact (N3 _ (.head _)).1
    exact wpAny_pure (h d _ _ _ F3 N3 lt)
  cases oda <;> first | exact fin | cases hno

theorem v_storeNew {Q : Unit → Shared → Prop} (F : Fr h₀ L s.heap m) (X₀ : K.In h₀) (N : News h₀ L s.heap ((x, ox) :: news)) (off : ∀ p ∈ news, p.1 ≠ x) (hcl : ox.cls = .ref C) (hno : notCls ox = true) (hdn : ox.dict = none) (hfr : ox.isFreed = false)
    (hs : findIn K (.ref C) "__setattr__" = some (some (.builtin "object.__setattr__"))) (S : SetsIn K C) (ht : takerIn K C name = some none)
    (h : ∀ d h' tk' k, Fr h₀ L h' m → News h₀ L h' ((d, dictOf [⟨k, .str name tk', v⟩] 1) :: (x, { ox with dict := some d }) :: news) → (∀ p ∈ (x, ox) :: news, p.1 < d) → Q () { s with heap := h', toks := s.toks + 2 }) :
    wpAny (model prog w) A (setAttr (.ref x) name v) Q E s := by
  have X := X₀.keeps F.keep
  have I : InstAt s.heap x ox C none := ⟨(N _ (.head _)).1, hcl, hno, by rw [hdn]; trivial⟩
  exact set_plain X I hs (v_storeNewCode (s := { s with toks := s.toks + 1 }) F X N off hcl hno hdn hfr S ht fun d h' tk' k F' N' lt => h d h' tk' k F' N' lt)

abbrev excN (tt : Addr) : Obj := { cls := .ref 94, data := .fields #[.ref tt, .none, .none, .none, .bool false, .none] }
theorem v_newErr {rest : List Value} {Q : Value → Shared → Prop} (F : Fr h₀ L s.heap m) (X₀ : (Mine.hd.heap_39 w.params).In h₀) (N : News h₀ L s.heap news) (hrest : rest.length ≤ 1000)
    (h : ∀ x tt h', Fr h₀ L h' m → News h₀ L h' ((x, excN tt) :: (tt, tupO rest) :: news) → (∀ p ∈ news, p.1 < tt) → tt < x →
      codeAny (model prog w) (A.under (.builtin "type.__call__" ⟨.ref 94 :: rest, []⟩)) (.call (.ref 70) ⟨.ref x :: rest, []⟩) (InitBack x fun r s' => match r with | .ok (.ret v) => Q v s' | .ok _ => False | .error e => E e s') { s with heap := h' }) :
    wpAny (model prog w) A (call (.ref 94) rest) Q E s := by
  have X := X₀.keeps F.keep
  obtain ⟨hh, g, d, t, os⟩ := s
  have T : OwnTail hh [.type "Exception", .type "BaseException", .type "object"] [.ref 38, .ref 52, .type "Exception", .type "BaseException", .type "object"] := tail_of_in X (by kernel_rfl)
  refine v_callExc (C := 94) (fI := 70) PySem.F.excBase_Exception T (X _ _ rfl) (looks_findIn X rfl) ?_ ?_ (by rw [sizeLine_eq]; omega)
  · exact looks_typeIn X rfl
  · have N' := (N.push F { cls := .type "tuple", data := .seq rest.toArray }).push (F.push _) (excN hh.objs.size)
    rw [Heap.size_push] at N'
    exact h (hh.objs.size + 1) hh.objs.size _ ((F.push _).push _) N' (fun p hp => Heap.lt_size (N p hp).1) (Nat.lt_succ_self _)
end
end Mine
end

-- VMC
section
open PySem PySem.W PyProof.Rows PySem.Calls PySem.Spec
set_option maxRecDepth 100000
set_option maxHeartbeats 1000000
namespace Mine
def Ex.ht : Ex → Nat
  | .lit _ => 1
  | .seq2 a b => max a.ht b.ht + 1
  | .seq3 a b c => max (max a.ht b.ht) c.ht + 1
  | .alt a b => max a.ht b.ht + 1
  | .look _ a => a.ht + 1
  | .quant _ _ a => a.ht + 1
theorem Ex.size_pos (e : Ex) : 1 ≤ e.size := by cases e <;> simp [Ex.size]

open Classical in
noncomputable def exAt (I : Led) (y : Addr) : Ex := if h : ∃ e dy, IsEx I y dy e then h.choose else .lit ⟨#[]⟩
theorem exAt_eq {I : Led} (hn : (I.map (·.1)).Nodup) {y dy : Addr} {e : Ex} (k : IsEx I y dy e) : exAt I y = e := by
  unfold exAt
  have h : ∃ e dy, IsEx I y dy e := ⟨e, dy, k⟩
  rw [dif_pos h]
  obtain ⟨dy', k'⟩ := h.choose_spec
  exact (k.det hn k').2

section
variable {w : World} {p : Program} {loose : List Str} {mean : ExcName → Option Value} {mg mb : Str → Option Value} {f : Addr} {D U D' U' : Nat} {pre : Led} {args : List Value} {Post Post' : Value → Led → Prop}
theorem CallOk.weaken (C : CallOk w p loose mean mg mb f D U pre args Post) (hD : D ≤ D') (hU : U ≤ U') (h : ∀ v post, Post v post → ∃ post', (∀ q ∈ post', q ∈ post) ∧ Post' v post') : CallOk w p loose mean mg mb f D' U' pre args Post' := by
  intro dp un gd cn cs a ccd cl outer A₀ base h₀ L m own s Q E B F X N T hk hd hu hown hQ
  refine C dp un gd cn cs a ccd cl outer A₀ base h₀ L m own s Q E B F X N T hk (by omega) (by omega) hown fun v post h' tk' F' N' off hp => ?_
  obtain ⟨post', h1, h2⟩ := h v post hp
  refine hQ v post' h' tk' F' (N'.perm fun q hq => ?_) (fun q hq p hp => off q hq p (h1 p hp)) h2
  rcases List.mem_append.mp hq with hq | hq
  · exact List.mem_append_left _ hq
  · exact List.mem_append_right _ (h1 q hq)
end

section
variable {prog : Program} {w : World} {P : Par} {n m b b' k : Nat} {g g' : GS} {vse : Array Value}
theorem Inv.dictR (h : Inv prog w P n m g b) {q : Addr × Obj} (hq : q ∈ g.led P) (hd : isDictB q.2 = false) : q = (P.er, P.oer) ∨ q ∈ g.I := by
  simp only [GS.led, List.mem_cons, List.mem_append] at hq
  rcases hq with rfl | rfl | rfl | hq | hq | hq
  · exact .inl rfl
  · obtain ⟨ne, e1, e2, e3, u1, u2, u3, vt, kp, tkp, ve, eoe, hve⟩ := h.err
    rw [show ((P.der, g.oe) : Addr × Obj).2 = g.oe from rfl, eoe] at hd
    cases hd
  · rw [show ((P.C, g.oC) : Addr × Obj).2 = g.oC from rfl, dict_isD h.cac] at hd; cases hd
  · obtain ⟨d, hdd, rfl⟩ := List.mem_map.mp hq
    rw [show ((d.dx, d.od) : Addr × Obj).2 = d.od from rfl, (h.dobj d hdd).isD] at hd; cases hd
  · obtain ⟨r, hr, rfl⟩ := List.mem_map.mp hq
    rw [show ((r.c, r.oc) : Addr × Obj).2 = r.oc from rfl, dict_isD (h.rdict r hr)] at hd; cases hd
  · exact .inr hq
theorem Inv.nodeAt (h : Inv prog w P n m g b) {y dy C : Addr} {sl : Array (Option Value)} (hy : (y, ({ cls := .ref C, dict := some dy, slots := sl } : Obj)) ∈ g.I) (hC : C = 336 ∨ C = 394 ∨ C = 420 ∨ C = 458 ∨ C = 504) : NodeAt (g.led P) y dy := by
  have hx : exprO ({ cls := .ref C, dict := some dy, slots := sl } : Obj) = true := by rcases hC with rfl | rfl | rfl | rfl | rfl <;> rfl
  obtain ⟨d, hd, e1, e2⟩ := h.full y _ hy hx
  have e2 : dy = d.dx := Option.some.inj e2
  have ho := h.dobj d hd
  have hm := led_D (P := P) hd
  rw [← e2] at hm
  generalize d.od = od at ho hm
  generalize d.ps = ps at ho
  cases ho with
  | none => exact ⟨C, sl, _, _, led_I hy, hC, hm, .inl rfl⟩
  | some _ _ => exact ⟨C, sl, _, _, led_I hy, hC, hm, .inr ⟨_, _, _, rfl⟩⟩
theorem Inv.nodeEx (h : Inv prog w P n m g b) {y dy : Addr} {e : Ex} (k : IsEx g.I y dy e) : NodeAt (g.led P) y dy := by
  obtain ⟨o, C, h1, h2⟩ := k.xobj
  cases h2 with
  | lit => exact h.nodeAt h1 (by simp)
  | seq => exact h.nodeAt h1 (by simp)
  | alt => exact h.nodeAt h1 (by simp)
  | look => exact h.nodeAt h1 (by simp)
  | quant => exact h.nodeAt h1 (by simp)
theorem Inv.keeps (hPo : P.oer = { cls := .ref 94, dict := some P.der, data := .fields vse }) (h : Inv prog w P n m g b) (h' : Inv prog w P n m g' b') (st : Step g g' k) : Keeps (g.led P) (g'.led P) := by
  refine ⟨fun q hq hd => ?_, fun y dy hn => ?_⟩
  · rcases h.dictR hq hd with rfl | hq
    · exact led_er
    · exact led_I (st.grow q hq)
  · obtain ⟨C, sl, es, nn, h1, hC, _, _⟩ := hn
    rcases h.dictR h1 rfl with e | h1
    · have e := congrArg Prod.snd e
      rw [show ((P.er, P.oer) : Addr × Obj).2 = P.oer from rfl, hPo] at e
      cases e
    · exact h'.nodeAt (st.grow _ h1) hC
theorem res_ans {t : Str} {e : Ex} {j : Nat} {v : Value} (h : Res g.I t e j v) : Ans (g.led P) t j v (sem t e j) := by
  unfold Res at h
  cases hs : sem t e j with
  | none => rw [hs] at h; exact h
  | some q =>
    rw [hs] at h
    obtain ⟨nd, dn, ch, x, tt, ts, te, h1, h2, h3⟩ := h
    exact ⟨nd, dn, ch, x, tt, ts, te, h1, led_I h2, led_I h3⟩

def OkG (prog : Program) (w : World) (P : Par) (n m : Nat) (g : GS) (b : Nat) (W : Led) : Prop := ∃ g', W = g'.led P ∧ Inv prog w P n m g' b ∧ Step g g' (b - 1)
/-- new objects taken in -/
theorem um_absorb {t : Str} {e : Ex} {v : Value} {r : Option Nat} {j : Nat} {post : Led} (hb : 1 ≤ b) (hr : sem t e j = r)
    (h : UmPost (OkG prog w P n m g b) (g.led P) t j r v post) :
    ∃ post', (∀ q ∈ post', q ∈ post) ∧ ∃ g', post' = g'.led P ∧ Inv prog w P n m g' b ∧ Step g g' (b - 1) ∧ Res g'.I t e j v := by
  obtain ⟨add, W', rfl, ⟨g1, rfl, hI, st⟩, _, nl, an⟩ := h
  have mem : ∀ q ∈ ({ g1 with I := add ++ g1.I } : GS).led P, q ∈ add ∨ q ∈ g1.led P := fun q hq => by
    simp only [GS.led, List.mem_cons, List.mem_append] at hq ⊢
    rcases hq with h | h | h | h | h | h | h <;> simp [h]
  have hp : List.Perm ((({ g1 with I := add ++ g1.I } : GS).led P).map (·.1)) (add.map (·.1) ++ (g1.led P).map (·.1)) := by
    simp only [GS.led, List.map_cons, List.map_append]
    refine List.perm_iff_count.mpr fun a => ?_
    simp only [List.count_cons, List.count_append]
    omega
  have nd : ((({ g1 with I := add ++ g1.I } : GS).led P).map (·.1)).Nodup := by
    refine hp.nodup_iff.mpr (List.nodup_append.mpr ⟨nl.nd, hI.nd, fun a ha c hc => ?_⟩)
    obtain ⟨q, hq, rfl⟩ := List.mem_map.mp ha
    obtain ⟨q', hq', rfl⟩ := List.mem_map.mp hc
    exact fun e => nl.off q hq q' hq' e.symm
  refine ⟨({ g1 with I := add ++ g1.I } : GS).led P, fun q hq => List.mem_append.mpr (mem q hq), _, rfl, hI.grow add nd (fun q hq => beq_eq_false_iff_ne.mpr (Nat.ne_of_gt (nl.lo q hq))) nl.pl, ?_, ?_⟩
  · exact ⟨fun q hq => List.mem_append_right _ (st.grow q hq), st.old, st.new⟩
  · unfold Res
    rw [hr]
    cases r with
    | none => exact an
    | some q =>
      obtain ⟨nd, dn, ch, x, tt, ts, te, h1, h2, h3⟩ := an
      exact ⟨nd, dn, ch, x, tt, ts, te, h1, List.mem_append_left _ h2, List.mem_append_left _ h3⟩
end

section
variable (w : World) (p : Program) (loose : List Str) (mean : ExcName → Option Value) (mg mb : Str → Option Value) (P : Par) (n m : Nat)
/-- what match_core does with a whole expression -/
def McOk (e : Ex) : Prop :=
  ∀ (g : GS) (x dx : Addr) (k : Nat) (tk2 tk3 : Tok), Inv PySem.Challenge.rw_vj0021_01.row.prog w P n m g (e.size + 1) → IsEx g.I x dx e → k ≤ P.t.length →
    CallOk w p loose mean mg mb 266 (40 * e.ht) (400 * e.ht) (g.led P) [.ref x, .str P.t tk2, .int (k : Int) tk3, .ref P.C, .ref P.er] (fun v post => ∃ g', post = g'.led P ∧ Inv PySem.Challenge.rw_vj0021_01.row.prog w P n m g' (e.size + 1) ∧ Step g g' e.size ∧ Res g'.I P.t e k v)
end
section
variable {w : World} {p : Program} {loose : List Str} {mean : ExcName → Option Value} {mg mb : Str → Option Value} {P : Par} {n m b h : Nat} {g : GS} {vse : Array Value}
theorem kidsOk (hPo : P.oer = { cls := .ref 94, dict := some P.der, data := .fields vse }) (nd : (g.I.map (·.1)).Nodup)
    (ih : ∀ e' : Ex, e'.size < b → McOk w p loose mean mg mb P n m e') :
    MCs w p loose mean mg mb (OkG PySem.Challenge.rw_vj0021_01.row.prog w P n m g b) (fun y => ∃ dy e', IsEx g.I y dy e' ∧ e'.size < b ∧ e'.ht ≤ h) (fun y => sem P.t (exAt g.I y)) P.C P.er P.t (40 * h) (400 * h) := by
  refine ⟨?_, ?_, ?_⟩
  · rintro W y j tk tk' ⟨g1, rfl, hI, st⟩ ⟨dy, e', hy, hs, hh⟩ hj
    have hy1 := hy.mono st.grow
    refine (ih e' hs g1 y dy j tk tk' (hI.down hs) hy1 hj).weaken (by omega) (by omega) fun v post hp => ⟨post, fun _ h => h, ?_⟩
    obtain ⟨g2, rfl, hI2, st2, hr⟩ := hp
    have hI3 := hI.lift st2 hI2
    refine ⟨⟨g2, rfl, hI3, st.trans (st2.weaken (by omega))⟩, hI.keeps hPo hI2 st2, ?_⟩
    show Ans _ _ _ _ (sem P.t (exAt g.I y) j)
    rw [exAt_eq nd hy]
    exact res_ans hr
  · rintro W y ⟨g1, rfl, hI, st⟩ ⟨dy, e', hy, hs, hh⟩
    exact ⟨dy, hI.nodeEx (hy.mono st.grow)⟩
  · intro y _
    exact sem_fwd P.t _
end
end Mine
end

-- VWLit
section
open PySem PySem.W PyProof.Rows PySem.Calls
set_option Elab.async false
set_option maxRecDepth 100000
set_option maxHeartbeats 4000000
namespace Mine
local macro_rules | `(tactic| k_room) => `(tactic| ktr_room)
local macro_rules | `(tactic| k_units) => `(tactic| ktr_units)
local macro_rules | `(tactic| walk_at "V super") => `(tactic| (refine' ks_code_super ?k1 ?k2 ?k3 ?k4 ?k5 ?kA ?kF ?kK ?k6 ?k7 ?k8 ?k9 ?kB ?_ ?c1 ?c2 ?c3 ?c4; (case kA => exact rfl); (case kF => exact rfl); (case kK => first | exact rfl | assumption); (case k1 => k_asm); (case k2 => k_asm); (case k3 => k_asm); (case k4 => k_asm); (case k5 => k_asm); (case k6 => k_is); (case k7 => k_is); (case k8 => k_room); (case k9 => first | exact BindsTo.of_eq rfl | exact binds_K (by k_in) rfl (by k_is) rfl rfl rfl); (case kB => exact locs rfl); (case c1 => decide); (case c2 => exact rfl); (case c3 => exact rfl); (case c4 => exact rfl); intro g' L' h' FG' F' N' B' X' T' l1; (try k_lt l1); (try dsimp only); (try k_lift B')))
local macro_rules | `(tactic| k_mem) => `(tactic| assumption)
local macro_rules | `(tactic| walk_at "call ref") => `(tactic| (k_here; k_dflt (refine' call_cls ?k1 ?k2 ?k3 ?k4 ?k5 ?k6 ?_; (case k1 => k_asm); (case k2 => k_asm); (case k3 => k_asm); (case k4 => k_is); (case k5 => k_is); (case k6 => k_is); k_whole; intro x' d' h' F' N' l1 l2; (have l3 := tbn_up l2 (allLt_of l1)); (try simp only [AllLt, and_true] at l3); (replace l1 := allLt_of l1); (try simp only [AllLt, and_true] at l1); (try k_lt2 l2); (try k_sweep); first | k_enter | walk_at "V super")))
local macro_rules | `(tactic| walk_at "V both") => `(tactic| (refine' v_bothS ?k1 ?k2 ?k3 ?k4 ?k5 ?kA ?kF ?kK ?k6 ?k7 ?k8 ?kV ?kX ?kQ ?kM ?kN ?kR ?kP ?kS ?kT ?kB ?_ ?c2 ?c3 ?c4 ?c5; (case kA => exact rfl); (case kF => exact rfl); (case kK => first | exact rfl | assumption); (case k1 => k_asm); (case k2 => k_asm); (case k3 => k_asm); (case k4 => k_asm); (case k5 => k_asm); (case k6 => k_is); (case k7 => k_is); (case k8 => k_room); (case kV => kp_lit); (case kX => kp_lit); (case kQ => exact rfl); (case kM => exact rfl); (case kN => exact rfl); (case kR => exact rfl); (case kP => exact rfl); (case kS => exact fun _ => rfl); (case kT => exact fun _ _ => rfl); (case kB => exact fun _ _ => locs rfl); (case c5 => decide); (case c2 => exact rfl); (case c3 => exact rfl); (case c4 => exact rfl); k_whole; intro C' D' o' g' L' h' tk' l1 l2 lo' hs' l3 FG' F' N' B' X' T'; (try k_lt l1); (try k_lt2 l2); (replace l3 := allLt_of l3); (try simp only [AllLt, and_true] at l3); (try dsimp only); (try k_lift B')))
local macro_rules | `(tactic| walk_at "V more") => `(tactic| (refine' v_moreS ?k1 ?k2 ?k3 ?k4 ?k5 ?kA ?kF ?kK ?k6 ?k7 ?k8 ?kX ?kM ?kN ?kR ?kP ?kS ?kB ?_ ?c2 ?c3 ?c4 ?c5; (case kA => exact rfl); (case kF => exact rfl); (case kK => first | exact rfl | assumption); (case k1 => k_asm); (case k2 => k_asm); (case k3 => k_asm); (case k4 => k_asm); (case k5 => k_asm); (case k6 => k_is); (case k7 => k_is); (case k8 => k_room); (case kX => kp_lit); (case kM => exact rfl); (case kN => exact rfl); (case kR => exact rfl); (case kP => exact rfl); (case kS => exact fun _ => rfl); (case kB => exact fun _ => locs rfl); (case c5 => decide); (case c2 => exact rfl); (case c3 => exact rfl); (case c4 => exact rfl); k_whole; intro D' o' g' L' h' tk' l1 lo' hs' l3 FG' F' N' B' X' T'; (try k_lt l1); (replace l3 := allLt_of l3); (try simp only [AllLt, and_true] at l3); (try dsimp only); (try k_lift B')))
local macro_rules | `(tactic| walk_at "call ref") => `(tactic| (k_here; k_dflt (refine' call_cls ?k1 ?k2 ?k3 ?k4 ?k5 ?k6 ?_; (case k1 => k_asm); (case k2 => k_asm); (case k3 => k_asm); (case k4 => k_is); (case k5 => k_is); (case k6 => k_is); k_whole; intro x' d' h' F' N' l1 l2; (have l3 := tbn_up l2 (allLt_of l1)); (try simp only [AllLt, and_true] at l3); (replace l1 := allLt_of l1); (try simp only [AllLt, and_true] at l1); (try k_lt2 l2); (try k_sweep); first | k_enter | walk_at "V super" | walk_at "V both" | walk_at "V more")))
local macro_rules | `(tactic| walk_at "call ref") => `(tactic| (k_here; k_dflt (refine' call_meth ?k1 ?k2 ?_; (case k1 => k_asm); (case k2 => k_mem); first | k_enter | walk_at "V super" | walk_at "V both" | walk_at "V more")))
local macro_rules | `(tactic| walk_at "getMethod ref") => `(tactic| (k_here; (with_reducible show wpAny _ _ (getMethod (Value.ref _) (Str.ofString "get") _) _ _ _); k_dflt (first
  | refine kdg_method (knd := PySem.strKind _ _) (by k_asm) (by k_mem) (by k_asm) ?_
  | refine kdg_method (knd := PySem.intKind _ _) (by k_asm) (by k_mem) (by k_asm) ?_)))
local macro_rules | `(tactic| walk_at "call builtin:dict.get") => `(tactic| (k_here; k_dflt (first
  | refine kdg_get2 (knd := PySem.strKind _ _) (by k_asm) (by k_mem) (by k_asm) (by k_asm) (strKind_is _ _ _ _) (some _) (by rfl) ?_
  | refine kdg_get2 (knd := PySem.strKind _ _) (by k_asm) (by k_mem) (by k_asm) (by k_asm) (strKind_is _ _ _ _) none (by rfl) ?_); (try dsimp only [Option.getD])))
local macro_rules | `(tactic| walk_at "wpAt") => `(tactic| (ks_step "eval Call"; refine v_wpAt_superKw (by rfl) ?_))
local macro_rules | `(tactic| walk_at "getAttr ref") => `(tactic| (k_here; ks_any; k_dflt (refine' v_superAttr ?k1 ?k2 ?k3 ?k4 ?k5 ?k6 ?k7 ?k8 ?k9 ?_; (case k1 => k_asm); (case k2 => k_asm); (case k3 => k_asm); (case k4 => k_mem); (case k5 => k_inst); (case k6 => k_is); (case k7 => ks_is); (case k8 => k_is); (case k9 => decide); intro q' h' F' N' l1; (replace l1 := allLt_of l1); (try simp only [AllLt, and_true] at l1))))
local macro_rules | `(tactic| walk_at "callWith ref") => `(tactic| (k_here; k_dflt (refine' v_callKwM ?k1 ?k2 ?k3 ?k4 ?k5 ?_; (case k1 => k_asm); (case k2 => k_asm); (case k3 => k_mem); (case k4 => k_is); (case k5 => rfl); k_whole)))
local macro_rules | `(tactic| walk_at "evalArgs") => `(tactic| (k_here; k_dflt (refine v_evalArgsE (by rfl) ?_)))
local macro_rules | `(tactic| walk_at "mergedKeywords") => `(tactic| (k_here; (with_reducible show wpAny _ _ (mergedKeywords _ (backToKw _ (keywordEach [PySem.Keyword.mk Option.none _ _] _))) _ _ _); k_dflt (refine v_mergedE0 (by k_asm) (by k_asm) ?_; intro d' h' F' N' l1; (replace l1 := allLt_of l1); (try simp only [AllLt, and_true] at l1))))
local macro_rules | `(tactic| walk_at "mergedKeywords") => `(tactic| (k_here; (with_reducible show wpAny _ _ (mergedKeywords _ (backToKw _ (keywordEach [PySem.Keyword.mk (Option.some _) _ _, PySem.Keyword.mk Option.none _ _] _))) _ _ _); k_dflt (refine' v_mergedE1 ?k1 ?k2 ?k3 ?kv ?_; (case k1 => k_asm); (case k2 => k_asm); (case k3 => exact Top.nolimit (by k_asm)); (case kv => (intro s9 R9 F9 h9; walk_at "eval Name"; exact h9)); intro d' h' sub' tk' F' N' l1 l2; (replace l1 := allLt_of l1); (try simp only [AllLt, and_true] at l1); (try k_lt2 l2))))
local macro_rules | `(tactic| walk_at "Exists") => `(tactic| (k_here; k_dflt (refine v_kwEnd (by k_asm) (by k_mem) (by k_mem) (by k_asm) (by k_asm) ?_)))
local macro_rules | `(tactic| walk_at "keywordsIn") => `(tactic| (k_here; k_dflt (first | refine v_kwIn0 (News.get (by k_asm) (by k_mem)) ?_ | refine v_kwIn1 (News.get (by k_asm) (by k_mem)) ?_)))
local macro_rules | `(tactic| walk_at "V enter") => `(tactic| (refine' code_def ?k1 ?k2 ?k3 ?k4 ?k5 ?kA ?kF ?kK ?k6 ?k7 ?k8 ?k9 ?kB ?_ ?c2 ?c3 ?c4 ?c5; (case kA => exact rfl); (case kF => exact rfl); (case kK => first | exact rfl | assumption); (case k1 => k_asm); (case k2 => k_asm); (case k3 => k_asm); (case k4 => k_asm); (case k5 => k_asm); (case k6 => k_is); (case k7 => k_is); (case k8 => k_room); (case k9 => first | exact BindsTo.of_eq rfl | exact binds_K (by k_in) rfl (by k_is) rfl rfl rfl | fail "V enter: no rule for these arguments"); (case c5 => decide); (case kB => exact locs rfl); (case c2 => exact rfl); (case c3 => exact rfl); (case c4 => exact rfl); k_whole; intro g' L' h' FG' F' N' B' X' T'; (try dsimp only); (try k_fold)))
local macro_rules | `(tactic| walk_at "exec For Name Attribute cons nil") => `(tactic| (k_here; (rename Fr _ _ _ _ => lF'); (with_unfolding_all refine' For_turns lF' ?_; k_whole)))
local macro_rules | `(tactic| walk_at "pyIter ref") => `(tactic| (k_here; (with_reducible show wpAny _ _ (pyIter (Value.ref _)) (fun it s₂ => TurnsAt _ _ _ _ _ _ _ _ _ it s₂) _ _); (rename Fr _ _ _ _ => lF'); (rename News _ _ _ _ => lN'); (with_unfolding_all refine' iter_tupTurns (n := 0) ?hh lF' lN' ?hm ?hc ?hd ?_; (case hh => rfl); (case hm => k_mem); (case hc => rfl); (case hd => rfl)); clear lF' lN'; intro i' l1; (replace l1 := allLt_of l1); (try simp only [AllLt, and_true] at l1); (try dsimp only [List.map])))
local macro_rules | `(tactic| k_mem) => `(tactic| exact List.mem_append_right _ (by assumption))
local macro_rules | `(tactic| k_all) => `(tactic| assumption)
local macro_rules | `(tactic| walk_at "getMethod ref") => `(tactic| (k_here; (with_reducible show wpAny _ _ (getMethod (Value.ref _) (Str.ofString "match_core") _) _ _ _); (rename MCs _ _ _ _ _ _ _ _ _ _ _ _ _ _ => lM'); k_dflt (refine' v_getMC' lM' ?k1 ?k2 ?k3 ?k4 ?k5 ?k6 ?_; (case k1 => k_asm); (case k2 => k_asm); (case k3 => k_asm); (case k4 => (repeat (first | exact SplitL.nil | apply SplitL.cons))); (case k5 => assumption); (case k6 => assumption))))
local macro_rules | `(tactic| walk_at "call ref") => `(tactic| (k_here; (with_reducible show wpAny _ _ (call (Value.ref 266) _) _ _ _); (rename MCs _ _ _ _ _ _ _ _ _ _ _ _ _ _ => lM'); k_dflt (refine' v_callMCz lM' ?k1 ?k2 ?k3 ?k4 ?k5 ?k6 ?k7 ?k8 ?k9 ?kA ?kB ?kC ?kD ?kE ?_; (case k1 => k_asm); (case k2 => k_asm); (case k3 => k_asm); (case k4 => k_asm); (case k5 => k_asm); (case k6 => (repeat (first | exact SplitL.nil | apply SplitL.cons))); (case k7 => assumption); (case k8 => assumption); (case k9 => omega); (case kA => exact rfl); (case kB => k_room); (case kC => k_units); (case kD => (repeat (first | exact OffL.nil | refine OffL.cons (by k_all) ?_))); (case kE => assumption)); intro v' W' h' tk' F' N' hA'; (try simp only [List.cons_append, List.nil_append] at N')))
local macro_rules | `(tactic| walk_at "call ref") => `(tactic| (k_here; (with_reducible show wpAny _ _ (call (Value.ref 266) _) _ _ _); (rename MCs _ _ _ _ _ _ _ _ _ _ _ _ _ _ => lM'); k_dflt (refine' v_callMC lM' ?k1 ?k2 ?k3 ?k4 ?k5 ?k6 ?k7 ?k8 ?k9 ?kA ?kB ?kC ?kD ?kE ?_; (case k1 => k_asm); (case k2 => k_asm); (case k3 => k_asm); (case k4 => k_asm); (case k5 => k_asm); (case k6 => (repeat (first | exact SplitL.nil | apply SplitL.cons))); (case k7 => assumption); (case k8 => assumption); (case k9 => first | assumption | omega); (case kA => exact rfl); (case kB => k_room); (case kC => k_units); (case kD => (repeat (first | exact OffL.nil | refine OffL.cons (by k_all) ?_))); (case kE => assumption)); intro v' W' h' tk' F' N' hA'; (try simp only [List.cons_append, List.nil_append] at N')))
local macro_rules | `(tactic| walk_at "truthy ref") => `(tactic| (k_here; (with_reducible show wpAny _ _ (truthy (Value.ref _)) _ _ _); k_dflt (refine v_truthyL (by k_asm) (by k_mem) (by first | assumption | exact Nat.le_of_ble_eq_true rfl | omega) ?_); (try simp only [List.isEmpty_toArray, List.isEmpty_cons, List.isEmpty_nil, Array.isEmpty_push, Bool.not_false, Bool.not_true])))
local macro_rules | `(tactic| walk_at "UnrEndW") => `(tactic| (refine' v_end ?k1 ?k2 ?k3 ?k4 (And.intro (And.intro ?k5 trivial) ?_); (case k1 => k_asm); (case k2 => k_asm); (case k3 => rfl); (case k4 => (repeat (first | exact OffL.nil | refine OffL.cons (by k_all) ?_))); (case k5 => k_mem)))
local macro_rules | `(tactic| walk_at "V end") => `(tactic| (refine' um_end2 ?k1 ?k2 ?k3 ?k4 ?k5 ?k6 ?k7 ?k8 ?k9; (case k1 => k_asm); (case k2 => k_asm); (case k3 => (repeat (first | exact PickL.nil | apply PickL.skip (by assumption) | apply PickL.skipL | apply PickL.cons))); (case k9 => assumption); (case k4 => assumption); (case k5 => assumption); (case k6 => assumption); (case k7 => (repeat (first | exact NewL.nil | refine' NewL.cons ?_ (by k_all) (by k_all) (v_lt1 (by assumption) (by tbn_find)) rfl))); (case k8 => first | exact ⟨_, _, _, _, _, _, _, rfl, .head _, .tail _ (.head _)⟩ | exact rfl)))
local macro_rules | `(tactic| walk_at "WhlRest") => `(tactic| (refine unHalt ?_))
local macro_rules | `(tactic| walk_at "call builtin:len") => `(tactic| (k_here; (with_reducible show wpAny _ _ (call (Value.builtin "len") [Value.ref _]) _ _ _); k_dflt (refine v_lenL (by k_asm) (by k_mem) (by first | assumption | (rw [Array.size_push]; exact congrArg (· + 1) (by assumption))) (by omega) ?_)))
local macro_rules | `(tactic| walk_at "compareOp Lt int float") => `(tactic| (refine lt_if ?_; rw [inf_gt]))
theorem fromIndex_nat (n : Nat) (k : Nat) (h : k ≤ n) : fromIndex n (k : Int) = k := by
  unfold fromIndex
  rw [if_neg (by omega)]
  omega
theorem starts_eq {t l : Str} {k : Nat} (h : k ≤ t.length) : Txt.startswith3 t l (k : Int) = litAt t l k := by
  unfold Txt.startswith3 litAt
  rw [fromIndex_nat _ _ h]
variable {w : World} {p : Program} {loose : List Str} {mean : ExcName → Option Value} {mg mb : Str → Option Value}
  {dp un : Nat} {gd : Option (List Code)} {cn : Str} {cs : Scope} {a : Addr} {ccd : Value} {cl : List (Str × Addr)} {outer : List Env} {A₀ : Around} {base h₀ : Heap} {L : Addr} {m : Str → Option Value} {news : List (Addr × Obj)} {s : Shared}
  {Q E : Value → Shared → Prop}
theorem w_lit {t l : Str} {t1 t2 tk2 tk3 : Tok} {k : Nat} {x dx it ca er : Addr} {od : Obj}
  (B : Below A₀ base outer h₀) (F : Fr h₀ L s.heap m) (X : (Mine.hd.heap_39 w.params).In h₀) (N : News h₀ L s.heap news) (T : Top p loose mean mg mb h₀) (hk : cs.kind = .function)
  (hd : dp + 20 < recursionLimit) (hu : un + 200 < cLine)
  (hx : (x, litO dx it l t1 t2) ∈ news) (hdx : (dx, od) ∈ news) (hl : l.length ≤ 2) (ht : t.length ≤ 8) (hp : k ≤ t.length)
  (no : Txt.startswith3 t l k = false → ∀ h' tk', Fr h₀ L h' m → News h₀ L h' news → Q .none { s with heap := h', toks := tk' })
  (yes : Txt.startswith3 t l k = true → ∀ h' tk' ch nd dn ts te, Fr h₀ L h' m → News h₀ L h' ((ch, listOf #[] 0) :: (nd, nodeO dn ch x t tk2 k (k + l.length) ts te) :: (dn, dictOf [] 0) :: news) → AllLt dn news → dn < nd → nd < ch → Q (.ref nd) { s with heap := h', toks := tk' }) :
  wpAny (model PySem.Challenge.rw_vj0021_01.row.prog w) (ktrTop dp un gd cn cs L a ccd cl outer) (call (.ref 325) [.ref x, .str t tk2, .int k tk3, .ref ca, .ref er]) Q E s := by
  w_top off
  revert X; k_fill; intro X
  refine wpAny_call ?_
  k_dflt (walk_at "V enter")
  k_steps
  · refine yes ?_ _ _ _ _ _ _ _ (by k_asm) (by k_asm) (by k_asm) (ltN (by omega)) (ltN (by omega))
    assumption
  · refine no ?_ _ _ (by k_asm) (by k_asm)
    assumption
theorem w_litC {w : World} {p : Program} {loose : List Str} {mean : ExcName → Option Value} {mg mb : Str → Option Value} {Ok : Led → Prop} {t l : Str} {t1 t2 tk2 tk3 : Tok} {k : Nat} {x dx it ca er : Addr} {W : Led}
  (hok : Ok W) (hx : (x, litO dx it l t1 t2) ∈ W) (hN' : NodeAt W x dx) (hl : l.length ≤ 2) (ht : t.length ≤ 8) (hp : k ≤ t.length) :
  CallOk w p loose mean mg mb 325 20 200 W [.ref x, .str t tk2, .int k tk3, .ref ca, .ref er] (UmPost Ok W t k (if litAt t l k = true then some (k + l.length) else none)) := by
  intro dp un gd cn cs a ccd cl outer A₀ base h₀ L m own s Q E B F X N T hk hd hu hown hQ
  obtain ⟨_, _, es, n, _, _, hdx, _⟩ := hN'
  have hne : x ≠ dx := N.twoPlaces (List.mem_append_right _ hx) (List.mem_append_right _ hdx) (fun e => by cases e)
  have lo : LoW W := ⟨_, _, _, _, hx, hdx, hne⟩
  refine w_lit B F X N T hk hd hu (List.mem_append_right _ hx) (List.mem_append_right _ hdx) hl ht hp (fun e h' tk' F' N' => ?_) (fun e h' tk' ch nd dn ts te F' N' l1 l2 l3 => ?_)
  · rw [starts_eq hp] at e
    rw [e] at hQ
    exact um_end (add := []) hQ F' N' (fun _ h => h) hown hok (.refl W) .nil rfl
  · rw [starts_eq hp] at e
    rw [e] at hQ
    have lt := v_lt1 lo l1
    have off : ∀ c : Addr, @LE.le Nat _ dn c → ∀ q ∈ own ++ W, q.1 ≠ c := fun c hc q hq => Nat.ne_of_lt (Nat.lt_of_lt_of_le (tb_ltOf l1 q hq) hc)
    refine um_end (add := [(nd, nodeO dn ch x t tk2 k (k + l.length) ts te), (dn, dictOf [] 0)]) hQ F' N' (fun q hq => .tail _ hq) hown hok (.refl W) ?_ ⟨_, _, _, _, _, _, _, rfl, .head _, .tail _ (.head _)⟩
    refine NewL.cons (NewL.cons .nil (fun _ h => nomatch h) (off dn (Nat.le_refl _)) lt rfl) (fun q hq => ?_) (off nd (Nat.le_of_lt l2)) (Nat.lt_trans lt l2) rfl
    rcases List.mem_cons.mp hq with rfl | hq
    · exact Nat.ne_of_lt l2
    · cases hq

end Mine
end

-- VWAlt
section
open PySem PySem.W PyProof.Rows PySem.Calls
set_option Elab.async false
set_option maxRecDepth 100000
set_option maxHeartbeats 4000000
namespace Mine
local macro_rules | `(tactic| k_room) => `(tactic| ktr_room)
local macro_rules | `(tactic| k_units) => `(tactic| ktr_units)
local macro_rules | `(tactic| walk_at "V super") => `(tactic| (refine' ks_code_super ?k1 ?k2 ?k3 ?k4 ?k5 ?kA ?kF ?kK ?k6 ?k7 ?k8 ?k9 ?kB ?_ ?c1 ?c2 ?c3 ?c4; (case kA => exact rfl); (case kF => exact rfl); (case kK => first | exact rfl | assumption); (case k1 => k_asm); (case k2 => k_asm); (case k3 => k_asm); (case k4 => k_asm); (case k5 => k_asm); (case k6 => k_is); (case k7 => k_is); (case k8 => k_room); (case k9 => first | exact BindsTo.of_eq rfl | exact binds_K (by k_in) rfl (by k_is) rfl rfl rfl); (case kB => exact locs rfl); (case c1 => decide); (case c2 => exact rfl); (case c3 => exact rfl); (case c4 => exact rfl); intro g' L' h' FG' F' N' B' X' T' l1; (try k_lt l1); (try dsimp only); (try k_lift B')))
local macro_rules | `(tactic| k_mem) => `(tactic| assumption)
local macro_rules | `(tactic| walk_at "call ref") => `(tactic| (k_here; k_dflt (refine' call_cls ?k1 ?k2 ?k3 ?k4 ?k5 ?k6 ?_; (case k1 => k_asm); (case k2 => k_asm); (case k3 => k_asm); (case k4 => k_is); (case k5 => k_is); (case k6 => k_is); k_whole; intro x' d' h' F' N' l1 l2; (have l3 := tbn_up l2 (allLt_of l1)); (try simp only [AllLt, and_true] at l3); (replace l1 := allLt_of l1); (try simp only [AllLt, and_true] at l1); (try k_lt2 l2); (try k_sweep); first | k_enter | walk_at "V super")))
local macro_rules | `(tactic| walk_at "V both") => `(tactic| (refine' v_bothS ?k1 ?k2 ?k3 ?k4 ?k5 ?kA ?kF ?kK ?k6 ?k7 ?k8 ?kV ?kX ?kQ ?kM ?kN ?kR ?kP ?kS ?kT ?kB ?_ ?c2 ?c3 ?c4 ?c5; (case kA => exact rfl); (case kF => exact rfl); (case kK => first | exact rfl | assumption); (case k1 => k_asm); (case k2 => k_asm); (case k3 => k_asm); (case k4 => k_asm); (case k5 => k_asm); (case k6 => k_is); (case k7 => k_is); (case k8 => k_room); (case kV => kp_lit); (case kX => kp_lit); (case kQ => exact rfl); (case kM => exact rfl); (case kN => exact rfl); (case kR => exact rfl); (case kP => exact rfl); (case kS => exact fun _ => rfl); (case kT => exact fun _ _ => rfl); (case kB => exact fun _ _ => locs rfl); (case c5 => decide); (case c2 => exact rfl); (case c3 => exact rfl); (case c4 => exact rfl); k_whole; intro C' D' o' g' L' h' tk' l1 l2 lo' hs' l3 FG' F' N' B' X' T'; (try k_lt l1); (try k_lt2 l2); (replace l3 := allLt_of l3); (try simp only [AllLt, and_true] at l3); (try dsimp only); (try k_lift B')))
local macro_rules | `(tactic| walk_at "V more") => `(tactic| (refine' v_moreS ?k1 ?k2 ?k3 ?k4 ?k5 ?kA ?kF ?kK ?k6 ?k7 ?k8 ?kX ?kM ?kN ?kR ?kP ?kS ?kB ?_ ?c2 ?c3 ?c4 ?c5; (case kA => exact rfl); (case kF => exact rfl); (case kK => first | exact rfl | assumption); (case k1 => k_asm); (case k2 => k_asm); (case k3 => k_asm); (case k4 => k_asm); (case k5 => k_asm); (case k6 => k_is); (case k7 => k_is); (case k8 => k_room); (case kX => kp_lit); (case kM => exact rfl); (case kN => exact rfl); (case kR => exact rfl); (case kP => exact rfl); (case kS => exact fun _ => rfl); (case kB => exact fun _ => locs rfl); (case c5 => decide); (case c2 => exact rfl); (case c3 => exact rfl); (case c4 => exact rfl); k_whole; intro D' o' g' L' h' tk' l1 lo' hs' l3 FG' F' N' B' X' T'; (try k_lt l1); (replace l3 := allLt_of l3); (try simp only [AllLt, and_true] at l3); (try dsimp only); (try k_lift B')))
local macro_rules | `(tactic| walk_at "call ref") => `(tactic| (k_here; k_dflt (refine' call_cls ?k1 ?k2 ?k3 ?k4 ?k5 ?k6 ?_; (case k1 => k_asm); (case k2 => k_asm); (case k3 => k_asm); (case k4 => k_is); (case k5 => k_is); (case k6 => k_is); k_whole; intro x' d' h' F' N' l1 l2; (have l3 := tbn_up l2 (allLt_of l1)); (try simp only [AllLt, and_true] at l3); (replace l1 := allLt_of l1); (try simp only [AllLt, and_true] at l1); (try k_lt2 l2); (try k_sweep); first | k_enter | walk_at "V super" | walk_at "V both" | walk_at "V more")))
local macro_rules | `(tactic| walk_at "call ref") => `(tactic| (k_here; k_dflt (refine' call_meth ?k1 ?k2 ?_; (case k1 => k_asm); (case k2 => k_mem); first | k_enter | walk_at "V super" | walk_at "V both" | walk_at "V more")))
local macro_rules | `(tactic| walk_at "getMethod ref") => `(tactic| (k_here; (with_reducible show wpAny _ _ (getMethod (Value.ref _) (Str.ofString "get") _) _ _ _); k_dflt (first
  | refine kdg_method (knd := PySem.strKind _ _) (by k_asm) (by k_mem) (by k_asm) ?_
  | refine kdg_method (knd := PySem.intKind _ _) (by k_asm) (by k_mem) (by k_asm) ?_)))
local macro_rules | `(tactic| walk_at "call builtin:dict.get") => `(tactic| (k_here; k_dflt (first
  | refine kdg_get2 (knd := PySem.strKind _ _) (by k_asm) (by k_mem) (by k_asm) (by k_asm) (strKind_is _ _ _ _) (some _) (by rfl) ?_
  | refine kdg_get2 (knd := PySem.strKind _ _) (by k_asm) (by k_mem) (by k_asm) (by k_asm) (strKind_is _ _ _ _) none (by rfl) ?_); (try dsimp only [Option.getD])))
local macro_rules | `(tactic| walk_at "wpAt") => `(tactic| (ks_step "eval Call"; refine v_wpAt_superKw (by rfl) ?_))
local macro_rules | `(tactic| walk_at "getAttr ref") => `(tactic| (k_here; ks_any; k_dflt (refine' v_superAttr ?k1 ?k2 ?k3 ?k4 ?k5 ?k6 ?k7 ?k8 ?k9 ?_; (case k1 => k_asm); (case k2 => k_asm); (case k3 => k_asm); (case k4 => k_mem); (case k5 => k_inst); (case k6 => k_is); (case k7 => ks_is); (case k8 => k_is); (case k9 => decide); intro q' h' F' N' l1; (replace l1 := allLt_of l1); (try simp only [AllLt, and_true] at l1))))
local macro_rules | `(tactic| walk_at "callWith ref") => `(tactic| (k_here; k_dflt (refine' v_callKwM ?k1 ?k2 ?k3 ?k4 ?k5 ?_; (case k1 => k_asm); (case k2 => k_asm); (case k3 => k_mem); (case k4 => k_is); (case k5 => rfl); k_whole)))
local macro_rules | `(tactic| walk_at "evalArgs") => `(tactic| (k_here; k_dflt (refine v_evalArgsE (by rfl) ?_)))
local macro_rules | `(tactic| walk_at "mergedKeywords") => `(tactic| (k_here; (with_reducible show wpAny _ _ (mergedKeywords _ (backToKw _ (keywordEach [PySem.Keyword.mk Option.none _ _] _))) _ _ _); k_dflt (refine v_mergedE0 (by k_asm) (by k_asm) ?_; intro d' h' F' N' l1; (replace l1 := allLt_of l1); (try simp only [AllLt, and_true] at l1))))
local macro_rules | `(tactic| walk_at "mergedKeywords") => `(tactic| (k_here; (with_reducible show wpAny _ _ (mergedKeywords _ (backToKw _ (keywordEach [PySem.Keyword.mk (Option.some _) _ _, PySem.Keyword.mk Option.none _ _] _))) _ _ _); k_dflt (refine' v_mergedE1 ?k1 ?k2 ?k3 ?kv ?_; (case k1 => k_asm); (case k2 => k_asm); (case k3 => exact Top.nolimit (by k_asm)); (case kv => (intro s9 R9 F9 h9; walk_at "eval Name"; exact h9)); intro d' h' sub' tk' F' N' l1 l2; (replace l1 := allLt_of l1); (try simp only [AllLt, and_true] at l1); (try k_lt2 l2))))
local macro_rules | `(tactic| walk_at "Exists") => `(tactic| (k_here; k_dflt (refine v_kwEnd (by k_asm) (by k_mem) (by k_mem) (by k_asm) (by k_asm) ?_)))
local macro_rules | `(tactic| walk_at "keywordsIn") => `(tactic| (k_here; k_dflt (first | refine v_kwIn0 (News.get (by k_asm) (by k_mem)) ?_ | refine v_kwIn1 (News.get (by k_asm) (by k_mem)) ?_)))
local macro_rules | `(tactic| walk_at "V enter") => `(tactic| (refine' code_def ?k1 ?k2 ?k3 ?k4 ?k5 ?kA ?kF ?kK ?k6 ?k7 ?k8 ?k9 ?kB ?_ ?c2 ?c3 ?c4 ?c5; (case kA => exact rfl); (case kF => exact rfl); (case kK => first | exact rfl | assumption); (case k1 => k_asm); (case k2 => k_asm); (case k3 => k_asm); (case k4 => k_asm); (case k5 => k_asm); (case k6 => k_is); (case k7 => k_is); (case k8 => k_room); (case k9 => first | exact BindsTo.of_eq rfl | exact binds_K (by k_in) rfl (by k_is) rfl rfl rfl | fail "V enter: no rule for these arguments"); (case c5 => decide); (case kB => exact locs rfl); (case c2 => exact rfl); (case c3 => exact rfl); (case c4 => exact rfl); k_whole; intro g' L' h' FG' F' N' B' X' T'; (try dsimp only); (try k_fold)))
local macro_rules | `(tactic| walk_at "exec For Name Attribute cons nil") => `(tactic| (k_here; (rename Fr _ _ _ _ => lF'); (with_unfolding_all refine' For_turns lF' ?_; k_whole)))
local macro_rules | `(tactic| walk_at "pyIter ref") => `(tactic| (k_here; (with_reducible show wpAny _ _ (pyIter (Value.ref _)) (fun it s₂ => TurnsAt _ _ _ _ _ _ _ _ _ it s₂) _ _); (rename Fr _ _ _ _ => lF'); (rename News _ _ _ _ => lN'); (with_unfolding_all refine' iter_tupTurns (n := 0) ?hh lF' lN' ?hm ?hc ?hd ?_; (case hh => rfl); (case hm => k_mem); (case hc => rfl); (case hd => rfl)); clear lF' lN'; intro i' l1; (replace l1 := allLt_of l1); (try simp only [AllLt, and_true] at l1); (try dsimp only [List.map])))
local macro_rules | `(tactic| k_mem) => `(tactic| exact List.mem_append_right _ (by assumption))
local macro_rules | `(tactic| k_all) => `(tactic| assumption)
local macro_rules | `(tactic| walk_at "getMethod ref") => `(tactic| (k_here; (with_reducible show wpAny _ _ (getMethod (Value.ref _) (Str.ofString "match_core") _) _ _ _); (rename MCs _ _ _ _ _ _ _ _ _ _ _ _ _ _ => lM'); k_dflt (refine' v_getMC' lM' ?k1 ?k2 ?k3 ?k4 ?k5 ?k6 ?_; (case k1 => k_asm); (case k2 => k_asm); (case k3 => k_asm); (case k4 => (repeat (first | exact SplitL.nil | apply SplitL.cons))); (case k5 => assumption); (case k6 => assumption))))
local macro_rules | `(tactic| walk_at "call ref") => `(tactic| (k_here; (with_reducible show wpAny _ _ (call (Value.ref 266) _) _ _ _); (rename MCs _ _ _ _ _ _ _ _ _ _ _ _ _ _ => lM'); k_dflt (refine' v_callMCz lM' ?k1 ?k2 ?k3 ?k4 ?k5 ?k6 ?k7 ?k8 ?k9 ?kA ?kB ?kC ?kD ?kE ?_; (case k1 => k_asm); (case k2 => k_asm); (case k3 => k_asm); (case k4 => k_asm); (case k5 => k_asm); (case k6 => (repeat (first | exact SplitL.nil | apply SplitL.cons))); (case k7 => assumption); (case k8 => assumption); (case k9 => omega); (case kA => exact rfl); (case kB => k_room); (case kC => k_units); (case kD => (repeat (first | exact OffL.nil | refine OffL.cons (by k_all) ?_))); (case kE => assumption)); intro v' W' h' tk' F' N' hA'; (try simp only [List.cons_append, List.nil_append] at N')))
local macro_rules | `(tactic| walk_at "call ref") => `(tactic| (k_here; (with_reducible show wpAny _ _ (call (Value.ref 266) _) _ _ _); (rename MCs _ _ _ _ _ _ _ _ _ _ _ _ _ _ => lM'); k_dflt (refine' v_callMC lM' ?k1 ?k2 ?k3 ?k4 ?k5 ?k6 ?k7 ?k8 ?k9 ?kA ?kB ?kC ?kD ?kE ?_; (case k1 => k_asm); (case k2 => k_asm); (case k3 => k_asm); (case k4 => k_asm); (case k5 => k_asm); (case k6 => (repeat (first | exact SplitL.nil | apply SplitL.cons))); (case k7 => assumption); (case k8 => assumption); (case k9 => first | assumption | omega); (case kA => exact rfl); (case kB => k_room); (case kC => k_units); (case kD => (repeat (first | exact OffL.nil | refine OffL.cons (by k_all) ?_))); (case kE => assumption)); intro v' W' h' tk' F' N' hA'; (try simp only [List.cons_append, List.nil_append] at N')))
local macro_rules | `(tactic| walk_at "truthy ref") => `(tactic| (k_here; (with_reducible show wpAny _ _ (truthy (Value.ref _)) _ _ _); k_dflt (refine v_truthyL (by k_asm) (by k_mem) (by first | assumption | exact Nat.le_of_ble_eq_true rfl | omega) ?_); (try simp only [List.isEmpty_toArray, List.isEmpty_cons, List.isEmpty_nil, Array.isEmpty_push, Bool.not_false, Bool.not_true])))
local macro_rules | `(tactic| walk_at "UnrEndW") => `(tactic| (refine' v_end ?k1 ?k2 ?k3 ?k4 (And.intro (And.intro ?k5 trivial) ?_); (case k1 => k_asm); (case k2 => k_asm); (case k3 => rfl); (case k4 => (repeat (first | exact OffL.nil | refine OffL.cons (by k_all) ?_))); (case k5 => k_mem)))
local macro_rules | `(tactic| walk_at "V end") => `(tactic| (refine' um_end2 ?k1 ?k2 ?k3 ?k4 ?k5 ?k6 ?k7 ?k8 ?k9; (case k1 => k_asm); (case k2 => k_asm); (case k3 => (repeat (first | exact PickL.nil | apply PickL.skip (by assumption) | apply PickL.skipL | apply PickL.cons))); (case k9 => assumption); (case k4 => assumption); (case k5 => assumption); (case k6 => assumption); (case k7 => (repeat (first | exact NewL.nil | refine' NewL.cons ?_ (by k_all) (by k_all) (v_lt1 (by assumption) (by tbn_find)) rfl))); (case k8 => first | exact ⟨_, _, _, _, _, _, _, rfl, .head _, .tail _ (.head _)⟩ | exact rfl)))
local macro_rules | `(tactic| walk_at "WhlRest") => `(tactic| (refine unHalt ?_))
local macro_rules | `(tactic| walk_at "call builtin:len") => `(tactic| (k_here; (with_reducible show wpAny _ _ (call (Value.builtin "len") [Value.ref _]) _ _ _); k_dflt (refine v_lenL (by k_asm) (by k_mem) (by first | assumption | (rw [Array.size_push]; exact congrArg (· + 1) (by assumption))) (by omega) ?_)))
local macro_rules | `(tactic| walk_at "compareOp Lt int float") => `(tactic| (refine lt_if ?_; rw [inf_gt]))
variable {w : World} {p : Program} {loose : List Str} {mean : ExcName → Option Value} {mg mb : Str → Option Value}
theorem w_alt {Ok : Led → Prop} {Kid : Addr → Prop} {f : Addr → Nat → Option Nat} {D U : Nat} {t : Str} {t1 tk2 tk3 : Tok} {k : Nat} {x dx mt it ca er xa xb : Addr} {od : Obj} {W : Led}
  (M : MCs w p loose mean mg mb Ok Kid f ca er t D U) (hok : Ok W) (ha : Kid xa) (hb : Kid xb)
  (hx : (x, cmpO 420 dx mt it t1) ∈ W) (hdx : (dx, od) ∈ W) (hm : (mt, tupO [.ref xa, .ref xb]) ∈ W) (ht : t.length ≤ 8) (hp : k ≤ t.length) :
  CallOk w p loose mean mg mb 410 (D + 20) (U + 200) W [.ref x, .str t tk2, .int k tk3, .ref ca, .ref er] (UmPost Ok W t k ((f xa k).or (f xb k))) := by
  intro dp un gd cn cs a ccd cl outer A₀ base h₀ L m own s Q E B F X N T hk hd hu hown hQ
  have hne : x ≠ mt := N.twoPlaces (List.mem_append_right _ hx) (List.mem_append_right _ hm) (by simp)
  w_top off
  revert X; k_fill; intro X
  refine wpAny_call ?_
  k_dflt (walk_at "V enter")
  k_steps
  rename AfterC _ _ _ _ _ _ _ _ _ => hA
  obtain ⟨o1, o2, ok1, kp1, an1⟩ := hA
  have hx1 := kp1.imm _ hx rfl
  have hm1 := kp1.imm _ hm rfl
  have q1 := o1.find (.head _)
  rcases ans_cases an1 with ⟨e1, rfl⟩ | ⟨q, nd, dn, ch, x1, tt, ts, te, e1, rfl, m1, m2⟩
  · k_steps
    rename AfterC _ _ _ _ _ _ _ _ _ => hA
    obtain ⟨o3, o4, ok3, kp3, an3⟩ := hA
    have hx3 := kp3.imm _ hx1 rfl
    have hm3 := kp3.imm _ hm1 rfl
    have q3 := o3.find (.head _)
    rcases ans_cases an3 with ⟨e3, rfl⟩ | ⟨q, nd, dn, ch, x1, tt, ts, te, e3, rfl, m3, m4⟩
    · k_steps
      rw [e1, e3] at hQ
      refine um_end (add := []) hQ (by k_asm) (by k_asm) (fun _ h => h) o4 ok3 (kp1.trans kp3) .nil rfl
    · have lo3 : LoW _ := ⟨_, _, _, _, hx3, hm3, hne⟩
      have kp := kp1.trans kp3
      k_steps
      rw [e1, e3] at hQ
      k_dflt (walk_at "V end")
  · have lo1 : LoW _ := ⟨_, _, _, _, hx1, hm1, hne⟩
    k_steps
    rw [e1] at hQ
    k_dflt (walk_at "V end")

end Mine
end

-- VWSeq2
section
open PySem PySem.W PyProof.Rows PySem.Calls
set_option Elab.async false
set_option maxRecDepth 100000
set_option maxHeartbeats 4000000
namespace Mine
local macro_rules | `(tactic| k_room) => `(tactic| ktr_room)
local macro_rules | `(tactic| k_units) => `(tactic| ktr_units)
local macro_rules | `(tactic| walk_at "V super") => `(tactic| (refine' ks_code_super ?k1 ?k2 ?k3 ?k4 ?k5 ?kA ?kF ?kK ?k6 ?k7 ?k8 ?k9 ?kB ?_ ?c1 ?c2 ?c3 ?c4; (case kA => exact rfl); (case kF => exact rfl); (case kK => first | exact rfl | assumption); (case k1 => k_asm); (case k2 => k_asm); (case k3 => k_asm); (case k4 => k_asm); (case k5 => k_asm); (case k6 => k_is); (case k7 => k_is); (case k8 => k_room); (case k9 => first | exact BindsTo.of_eq rfl | exact binds_K (by k_in) rfl (by k_is) rfl rfl rfl); (case kB => exact locs rfl); (case c1 => decide); (case c2 => exact rfl); (case c3 => exact rfl); (case c4 => exact rfl); intro g' L' h' FG' F' N' B' X' T' l1; (try k_lt l1); (try dsimp only); (try k_lift B')))
local macro_rules | `(tactic| k_mem) => `(tactic| assumption)
local macro_rules | `(tactic| walk_at "call ref") => `(tactic| (k_here; k_dflt (refine' call_cls ?k1 ?k2 ?k3 ?k4 ?k5 ?k6 ?_; (case k1 => k_asm); (case k2 => k_asm); (case k3 => k_asm); (case k4 => k_is); (case k5 => k_is); (case k6 => k_is); k_whole; intro x' d' h' F' N' l1 l2; (have l3 := tbn_up l2 (allLt_of l1)); (try simp only [AllLt, and_true] at l3); (replace l1 := allLt_of l1); (try simp only [AllLt, and_true] at l1); (try k_lt2 l2); (try k_sweep); first | k_enter | walk_at "V super")))
local macro_rules | `(tactic| walk_at "V both") => `(tactic| (refine' v_bothS ?k1 ?k2 ?k3 ?k4 ?k5 ?kA ?kF ?kK ?k6 ?k7 ?k8 ?kV ?kX ?kQ ?kM ?kN ?kR ?kP ?kS ?kT ?kB ?_ ?c2 ?c3 ?c4 ?c5; (case kA => exact rfl); (case kF => exact rfl); (case kK => first | exact rfl | assumption); (case k1 => k_asm); (case k2 => k_asm); (case k3 => k_asm); (case k4 => k_asm); (case k5 => k_asm); (case k6 => k_is); (case k7 => k_is); (case k8 => k_room); (case kV => kp_lit); (case kX => kp_lit); (case kQ => exact rfl); (case kM => exact rfl); (case kN => exact rfl); (case kR => exact rfl); (case kP => exact rfl); (case kS => exact fun _ => rfl); (case kT => exact fun _ _ => rfl); (case kB => exact fun _ _ => locs rfl); (case c5 => decide); (case c2 => exact rfl); (case c3 => exact rfl); (case c4 => exact rfl); k_whole; intro C' D' o' g' L' h' tk' l1 l2 lo' hs' l3 FG' F' N' B' X' T'; (try k_lt l1); (try k_lt2 l2); (replace l3 := allLt_of l3); (try simp only [AllLt, and_true] at l3); (try dsimp only); (try k_lift B')))
local macro_rules | `(tactic| walk_at "V more") => `(tactic| (refine' v_moreS ?k1 ?k2 ?k3 ?k4 ?k5 ?kA ?kF ?kK ?k6 ?k7 ?k8 ?kX ?kM ?kN ?kR ?kP ?kS ?kB ?_ ?c2 ?c3 ?c4 ?c5; (case kA => exact rfl); (case kF => exact rfl); (case kK => first | exact rfl | assumption); (case k1 => k_asm); (case k2 => k_asm); (case k3 => k_asm); (case k4 => k_asm); (case k5 => k_asm); (case k6 => k_is); (case k7 => k_is); (case k8 => k_room); (case kX => kp_lit); (case kM => exact rfl); (case kN => exact rfl); (case kR => exact rfl); (case kP => exact rfl); (case kS => exact fun _ => rfl); (case kB => exact fun _ => locs rfl); (case c5 => decide); (case c2 => exact rfl); (case c3 => exact rfl); (case c4 => exact rfl); k_whole; intro D' o' g' L' h' tk' l1 lo' hs' l3 FG' F' N' B' X' T'; (try k_lt l1); (replace l3 := allLt_of l3); (try simp only [AllLt, and_true] at l3); (try dsimp only); (try k_lift B')))
local macro_rules | `(tactic| walk_at "call ref") => `(tactic| (k_here; k_dflt (refine' call_cls ?k1 ?k2 ?k3 ?k4 ?k5 ?k6 ?_; (case k1 => k_asm); (case k2 => k_asm); (case k3 => k_asm); (case k4 => k_is); (case k5 => k_is); (case k6 => k_is); k_whole; intro x' d' h' F' N' l1 l2; (have l3 := tbn_up l2 (allLt_of l1)); (try simp only [AllLt, and_true] at l3); (replace l1 := allLt_of l1); (try simp only [AllLt, and_true] at l1); (try k_lt2 l2); (try k_sweep); first | k_enter | walk_at "V super" | walk_at "V both" | walk_at "V more")))
local macro_rules | `(tactic| walk_at "call ref") => `(tactic| (k_here; k_dflt (refine' call_meth ?k1 ?k2 ?_; (case k1 => k_asm); (case k2 => k_mem); first | k_enter | walk_at "V super" | walk_at "V both" | walk_at "V more")))
local macro_rules | `(tactic| walk_at "getMethod ref") => `(tactic| (k_here; (with_reducible show wpAny _ _ (getMethod (Value.ref _) (Str.ofString "get") _) _ _ _); k_dflt (first
  | refine kdg_method (knd := PySem.strKind _ _) (by k_asm) (by k_mem) (by k_asm) ?_
  | refine kdg_method (knd := PySem.intKind _ _) (by k_asm) (by k_mem) (by k_asm) ?_)))
local macro_rules | `(tactic| walk_at "call builtin:dict.get") => `(tactic| (k_here; k_dflt (first
  | refine kdg_get2 (knd := PySem.strKind _ _) (by k_asm) (by k_mem) (by k_asm) (by k_asm) (strKind_is _ _ _ _) (some _) (by rfl) ?_
  | refine kdg_get2 (knd := PySem.strKind _ _) (by k_asm) (by k_mem) (by k_asm) (by k_asm) (strKind_is _ _ _ _) none (by rfl) ?_); (try dsimp only [Option.getD])))
local macro_rules | `(tactic| walk_at "wpAt") => `(tactic| (ks_step "eval Call"; refine v_wpAt_superKw (by rfl) ?_))
local macro_rules | `(tactic| walk_at "getAttr ref") => `(tactic| (k_here; ks_any; k_dflt (refine' v_superAttr ?k1 ?k2 ?k3 ?k4 ?k5 ?k6 ?k7 ?k8 ?k9 ?_; (case k1 => k_asm); (case k2 => k_asm); (case k3 => k_asm); (case k4 => k_mem); (case k5 => k_inst); (case k6 => k_is); (case k7 => ks_is); (case k8 => k_is); (case k9 => decide); intro q' h' F' N' l1; (replace l1 := allLt_of l1); (try simp only [AllLt, and_true] at l1))))
local macro_rules | `(tactic| walk_at "callWith ref") => `(tactic| (k_here; k_dflt (refine' v_callKwM ?k1 ?k2 ?k3 ?k4 ?k5 ?_; (case k1 => k_asm); (case k2 => k_asm); (case k3 => k_mem); (case k4 => k_is); (case k5 => rfl); k_whole)))
local macro_rules | `(tactic| walk_at "evalArgs") => `(tactic| (k_here; k_dflt (refine v_evalArgsE (by rfl) ?_)))
local macro_rules | `(tactic| walk_at "mergedKeywords") => `(tactic| (k_here; (with_reducible show wpAny _ _ (mergedKeywords _ (backToKw _ (keywordEach [PySem.Keyword.mk Option.none _ _] _))) _ _ _); k_dflt (refine v_mergedE0 (by k_asm) (by k_asm) ?_; intro d' h' F' N' l1; (replace l1 := allLt_of l1); (try simp only [AllLt, and_true] at l1))))
local macro_rules | `(tactic| walk_at "mergedKeywords") => `(tactic| (k_here; (with_reducible show wpAny _ _ (mergedKeywords _ (backToKw _ (keywordEach [PySem.Keyword.mk (Option.some _) _ _, PySem.Keyword.mk Option.none _ _] _))) _ _ _); k_dflt (refine' v_mergedE1 ?k1 ?k2 ?k3 ?kv ?_; (case k1 => k_asm); (case k2 => k_asm); (case k3 => exact Top.nolimit (by k_asm)); (case kv => (intro s9 R9 F9 h9; walk_at "eval Name"; exact h9)); intro d' h' sub' tk' F' N' l1 l2; (replace l1 := allLt_of l1); (try simp only [AllLt, and_true] at l1); (try k_lt2 l2))))
local macro_rules | `(tactic| walk_at "Exists") => `(tactic| (k_here; k_dflt (refine v_kwEnd (by k_asm) (by k_mem) (by k_mem) (by k_asm) (by k_asm) ?_)))
local macro_rules | `(tactic| walk_at "keywordsIn") => `(tactic| (k_here; k_dflt (first | refine v_kwIn0 (News.get (by k_asm) (by k_mem)) ?_ | refine v_kwIn1 (News.get (by k_asm) (by k_mem)) ?_)))
local macro_rules | `(tactic| walk_at "V enter") => `(tactic| (refine' code_def ?k1 ?k2 ?k3 ?k4 ?k5 ?kA ?kF ?kK ?k6 ?k7 ?k8 ?k9 ?kB ?_ ?c2 ?c3 ?c4 ?c5; (case kA => exact rfl); (case kF => exact rfl); (case kK => first | exact rfl | assumption); (case k1 => k_asm); (case k2 => k_asm); (case k3 => k_asm); (case k4 => k_asm); (case k5 => k_asm); (case k6 => k_is); (case k7 => k_is); (case k8 => k_room); (case k9 => first | exact BindsTo.of_eq rfl | exact binds_K (by k_in) rfl (by k_is) rfl rfl rfl | fail "V enter: no rule for these arguments"); (case c5 => decide); (case kB => exact locs rfl); (case c2 => exact rfl); (case c3 => exact rfl); (case c4 => exact rfl); k_whole; intro g' L' h' FG' F' N' B' X' T'; (try dsimp only); (try k_fold)))
local macro_rules | `(tactic| walk_at "exec For Name Attribute cons nil") => `(tactic| (k_here; (rename Fr _ _ _ _ => lF'); (with_unfolding_all refine' For_turns lF' ?_; k_whole)))
local macro_rules | `(tactic| walk_at "pyIter ref") => `(tactic| (k_here; (with_reducible show wpAny _ _ (pyIter (Value.ref _)) (fun it s₂ => TurnsAt _ _ _ _ _ _ _ _ _ it s₂) _ _); (rename Fr _ _ _ _ => lF'); (rename News _ _ _ _ => lN'); (with_unfolding_all refine' iter_tupTurns (n := 0) ?hh lF' lN' ?hm ?hc ?hd ?_; (case hh => rfl); (case hm => k_mem); (case hc => rfl); (case hd => rfl)); clear lF' lN'; intro i' l1; (replace l1 := allLt_of l1); (try simp only [AllLt, and_true] at l1); (try dsimp only [List.map])))
local macro_rules | `(tactic| k_mem) => `(tactic| exact List.mem_append_right _ (by assumption))
local macro_rules | `(tactic| k_all) => `(tactic| assumption)
local macro_rules | `(tactic| walk_at "getMethod ref") => `(tactic| (k_here; (with_reducible show wpAny _ _ (getMethod (Value.ref _) (Str.ofString "match_core") _) _ _ _); (rename MCs _ _ _ _ _ _ _ _ _ _ _ _ _ _ => lM'); k_dflt (refine' v_getMC' lM' ?k1 ?k2 ?k3 ?k4 ?k5 ?k6 ?_; (case k1 => k_asm); (case k2 => k_asm); (case k3 => k_asm); (case k4 => (repeat (first | exact SplitL.nil | apply SplitL.cons))); (case k5 => assumption); (case k6 => assumption))))
local macro_rules | `(tactic| walk_at "call ref") => `(tactic| (k_here; (with_reducible show wpAny _ _ (call (Value.ref 266) _) _ _ _); (rename MCs _ _ _ _ _ _ _ _ _ _ _ _ _ _ => lM'); k_dflt (refine' v_callMCz lM' ?k1 ?k2 ?k3 ?k4 ?k5 ?k6 ?k7 ?k8 ?k9 ?kA ?kB ?kC ?kD ?kE ?_; (case k1 => k_asm); (case k2 => k_asm); (case k3 => k_asm); (case k4 => k_asm); (case k5 => k_asm); (case k6 => (repeat (first | exact SplitL.nil | apply SplitL.cons))); (case k7 => assumption); (case k8 => assumption); (case k9 => omega); (case kA => exact rfl); (case kB => k_room); (case kC => k_units); (case kD => (repeat (first | exact OffL.nil | refine OffL.cons (by k_all) ?_))); (case kE => assumption)); intro v' W' h' tk' F' N' hA'; (try simp only [List.cons_append, List.nil_append] at N')))
local macro_rules | `(tactic| walk_at "call ref") => `(tactic| (k_here; (with_reducible show wpAny _ _ (call (Value.ref 266) _) _ _ _); (rename MCs _ _ _ _ _ _ _ _ _ _ _ _ _ _ => lM'); k_dflt (refine' v_callMC lM' ?k1 ?k2 ?k3 ?k4 ?k5 ?k6 ?k7 ?k8 ?k9 ?kA ?kB ?kC ?kD ?kE ?_; (case k1 => k_asm); (case k2 => k_asm); (case k3 => k_asm); (case k4 => k_asm); (case k5 => k_asm); (case k6 => (repeat (first | exact SplitL.nil | apply SplitL.cons))); (case k7 => assumption); (case k8 => assumption); (case k9 => first | assumption | omega); (case kA => exact rfl); (case kB => k_room); (case kC => k_units); (case kD => (repeat (first | exact OffL.nil | refine OffL.cons (by k_all) ?_))); (case kE => assumption)); intro v' W' h' tk' F' N' hA'; (try simp only [List.cons_append, List.nil_append] at N')))
local macro_rules | `(tactic| walk_at "truthy ref") => `(tactic| (k_here; (with_reducible show wpAny _ _ (truthy (Value.ref _)) _ _ _); k_dflt (refine v_truthyL (by k_asm) (by k_mem) (by first | assumption | exact Nat.le_of_ble_eq_true rfl | omega) ?_); (try simp only [List.isEmpty_toArray, List.isEmpty_cons, List.isEmpty_nil, Array.isEmpty_push, Bool.not_false, Bool.not_true])))
local macro_rules | `(tactic| walk_at "UnrEndW") => `(tactic| (refine' v_end ?k1 ?k2 ?k3 ?k4 (And.intro (And.intro ?k5 trivial) ?_); (case k1 => k_asm); (case k2 => k_asm); (case k3 => rfl); (case k4 => (repeat (first | exact OffL.nil | refine OffL.cons (by k_all) ?_))); (case k5 => k_mem)))
local macro_rules | `(tactic| walk_at "V end") => `(tactic| (refine' um_end2 ?k1 ?k2 ?k3 ?k4 ?k5 ?k6 ?k7 ?k8 ?k9; (case k1 => k_asm); (case k2 => k_asm); (case k3 => (repeat (first | exact PickL.nil | apply PickL.skip (by assumption) | apply PickL.skipL | apply PickL.cons))); (case k9 => assumption); (case k4 => assumption); (case k5 => assumption); (case k6 => assumption); (case k7 => (repeat (first | exact NewL.nil | refine' NewL.cons ?_ (by k_all) (by k_all) (v_lt1 (by assumption) (by tbn_find)) rfl))); (case k8 => first | exact ⟨_, _, _, _, _, _, _, rfl, .head _, .tail _ (.head _)⟩ | exact rfl)))
local macro_rules | `(tactic| walk_at "WhlRest") => `(tactic| (refine unHalt ?_))
local macro_rules | `(tactic| walk_at "call builtin:len") => `(tactic| (k_here; (with_reducible show wpAny _ _ (call (Value.builtin "len") [Value.ref _]) _ _ _); k_dflt (refine v_lenL (by k_asm) (by k_mem) (by first | assumption | (rw [Array.size_push]; exact congrArg (· + 1) (by assumption))) (by omega) ?_)))
local macro_rules | `(tactic| walk_at "compareOp Lt int float") => `(tactic| (refine lt_if ?_; rw [inf_gt]))
variable {w : World} {p : Program} {loose : List Str} {mean : ExcName → Option Value} {mg mb : Str → Option Value}
theorem w_seq2 {Ok : Led → Prop} {Kid : Addr → Prop} {f : Addr → Nat → Option Nat} {D U : Nat} {t : Str} {t1 tk2 tk3 : Tok} {k : Nat} {x dx mt it ca er xa xb : Addr} {od : Obj} {W : Led}
  (M : MCs w p loose mean mg mb Ok Kid f ca er t D U) (hok : Ok W) (ha : Kid xa) (hb : Kid xb)
  (hx : (x, cmpO 394 dx mt it t1) ∈ W) (hdx : (dx, od) ∈ W) (hm : (mt, tupO [.ref xa, .ref xb]) ∈ W) (ht : t.length ≤ 8) (hp : k ≤ t.length) :
  CallOk w p loose mean mg mb 384 (D + 20) (U + 200) W [.ref x, .str t tk2, .int k tk3, .ref ca, .ref er] (UmPost Ok W t k ((f xa k).bind (f xb))) := by
  intro dp un gd cn cs a ccd cl outer A₀ base h₀ L m own s Q E B F X N T hk hd hu hown hQ
  have hne : x ≠ mt := N.twoPlaces (List.mem_append_right _ hx) (List.mem_append_right _ hm) (by simp)
  have M0 := M
  w_top off
  revert X; k_fill; intro X
  refine wpAny_call ?_
  k_dflt (walk_at "V enter")
  k_steps
  rename AfterC _ _ _ _ _ _ _ _ _ => hA
  obtain ⟨o1, o2, ok1, kp1, an1⟩ := hA
  have hx1 := kp1.imm _ hx rfl
  have hm1 := kp1.imm _ hm rfl
  have q1 := o1.find (.head _)
  have r1 := o1.find (.tail _ (.head _))
  rcases ans_cases an1 with ⟨e1, rfl⟩ | ⟨q, nd, dn, ch, x1, tt, ts, te, e1, rfl, m1, m2⟩
  · have lo1 : LoW _ := ⟨_, _, _, _, hx1, hm1, hne⟩
    k_steps
    rw [e1] at hQ
    k_dflt (walk_at "V end")
  · have fw1 := M.fwd xa ha k q hp e1
    k_steps
    rename AfterC _ _ _ _ _ _ _ _ _ => hA
    rw [show ((k : Int) + ((q : Int) - (k : Int))).toNat = q by omega] at hA
    obtain ⟨o3, o4, ok3, kp3, an3⟩ := hA
    have hx3 := kp3.imm _ hx1 rfl
    have hm3 := kp3.imm _ hm1 rfl
    have q3 := o3.find (.head _)
    have r3 := o3.find (.tail _ (.head _))
    have kp := kp1.trans kp3
    have lo3 : LoW _ := ⟨_, _, _, _, hx3, hm3, hne⟩
    rcases ans_cases an3 with ⟨e3, rfl⟩ | ⟨q', nd', dn', ch', x1', tt', ts', te', e3, rfl, m3, m4⟩
    · k_steps
      rw [e1, Option.bind_some, e3] at hQ
      k_dflt (walk_at "V end")
    · have fw3 := M.fwd xb hb q q' fw1.2 e3
      k_steps
      rw [e1, Option.bind_some, e3] at hQ
      rename News _ _ _ _ => hN
      rw [show ((k : Int) + ((q : Int) - (k : Int)) + ((q' : Int) - (q : Int))) = q' by omega] at hN
      k_dflt (walk_at "V end")

end Mine
end

-- VWSeq3
section
open PySem PySem.W PyProof.Rows PySem.Calls
set_option Elab.async false
set_option maxRecDepth 100000
set_option maxHeartbeats 4000000
namespace Mine
local macro_rules | `(tactic| k_room) => `(tactic| ktr_room)
local macro_rules | `(tactic| k_units) => `(tactic| ktr_units)
local macro_rules | `(tactic| walk_at "V super") => `(tactic| (refine' ks_code_super ?k1 ?k2 ?k3 ?k4 ?k5 ?kA ?kF ?kK ?k6 ?k7 ?k8 ?k9 ?kB ?_ ?c1 ?c2 ?c3 ?c4; (case kA => exact rfl); (case kF => exact rfl); (case kK => first | exact rfl | assumption); (case k1 => k_asm); (case k2 => k_asm); (case k3 => k_asm); (case k4 => k_asm); (case k5 => k_asm); (case k6 => k_is); (case k7 => k_is); (case k8 => k_room); (case k9 => first | exact BindsTo.of_eq rfl | exact binds_K (by k_in) rfl (by k_is) rfl rfl rfl); (case kB => exact locs rfl); (case c1 => decide); (case c2 => exact rfl); (case c3 => exact rfl); (case c4 => exact rfl); intro g' L' h' FG' F' N' B' X' T' l1; (try k_lt l1); (try dsimp only); (try k_lift B')))
local macro_rules | `(tactic| k_mem) => `(tactic| assumption)
local macro_rules | `(tactic| walk_at "call ref") => `(tactic| (k_here; k_dflt (refine' call_cls ?k1 ?k2 ?k3 ?k4 ?k5 ?k6 ?_; (case k1 => k_asm); (case k2 => k_asm); (case k3 => k_asm); (case k4 => k_is); (case k5 => k_is); (case k6 => k_is); k_whole; intro x' d' h' F' N' l1 l2; (have l3 := tbn_up l2 (allLt_of l1)); (try simp only [AllLt, and_true] at l3); (replace l1 := allLt_of l1); (try simp only [AllLt, and_true] at l1); (try k_lt2 l2); (try k_sweep); first | k_enter | walk_at "V super")))
local macro_rules | `(tactic| walk_at "V both") => `(tactic| (refine' v_bothS ?k1 ?k2 ?k3 ?k4 ?k5 ?kA ?kF ?kK ?k6 ?k7 ?k8 ?kV ?kX ?kQ ?kM ?kN ?kR ?kP ?kS ?kT ?kB ?_ ?c2 ?c3 ?c4 ?c5; (case kA => exact rfl); (case kF => exact rfl); (case kK => first | exact rfl | assumption); (case k1 => k_asm); (case k2 => k_asm); (case k3 => k_asm); (case k4 => k_asm); (case k5 => k_asm); (case k6 => k_is); (case k7 => k_is); (case k8 => k_room); (case kV => kp_lit); (case kX => kp_lit); (case kQ => exact rfl); (case kM => exact rfl); (case kN => exact rfl); (case kR => exact rfl); (case kP => exact rfl); (case kS => exact fun _ => rfl); (case kT => exact fun _ _ => rfl); (case kB => exact fun _ _ => locs rfl); (case c5 => decide); (case c2 => exact rfl); (case c3 => exact rfl); (case c4 => exact rfl); k_whole; intro C' D' o' g' L' h' tk' l1 l2 lo' hs' l3 FG' F' N' B' X' T'; (try k_lt l1); (try k_lt2 l2); (replace l3 := allLt_of l3); (try simp only [AllLt, and_true] at l3); (try dsimp only); (try k_lift B')))
local macro_rules | `(tactic| walk_at "V more") => `(tactic| (refine' v_moreS ?k1 ?k2 ?k3 ?k4 ?k5 ?kA ?kF ?kK ?k6 ?k7 ?k8 ?kX ?kM ?kN ?kR ?kP ?kS ?kB ?_ ?c2 ?c3 ?c4 ?c5; (case kA => exact rfl); (case kF => exact rfl); (case kK => first | exact rfl | assumption); (case k1 => k_asm); (case k2 => k_asm); (case k3 => k_asm); (case k4 => k_asm); (case k5 => k_asm); (case k6 => k_is); (case k7 => k_is); (case k8 => k_room); (case kX => kp_lit); (case kM => exact rfl); (case kN => exact rfl); (case kR => exact rfl); (case kP => exact rfl); (case kS => exact fun _ => rfl); (case kB => exact fun _ => locs rfl); (case c5 => decide); (case c2 => exact rfl); (case c3 => exact rfl); (case c4 => exact rfl); k_whole; intro D' o' g' L' h' tk' l1 lo' hs' l3 FG' F' N' B' X' T'; (try k_lt l1); (replace l3 := allLt_of l3); (try simp only [AllLt, and_true] at l3); (try dsimp only); (try k_lift B')))
local macro_rules | `(tactic| walk_at "call ref") => `(tactic| (k_here; k_dflt (refine' call_cls ?k1 ?k2 ?k3 ?k4 ?k5 ?k6 ?_; (case k1 => k_asm); (case k2 => k_asm); (case k3 => k_asm); (case k4 => k_is); (case k5 => k_is); (case k6 => k_is); k_whole; intro x' d' h' F' N' l1 l2; (have l3 := tbn_up l2 (allLt_of l1)); (try simp only [AllLt, and_true] at l3); (replace l1 := allLt_of l1); (try simp only [AllLt, and_true] at l1); (try k_lt2 l2); (try k_sweep); first | k_enter | walk_at "V super" | walk_at "V both" | walk_at "V more")))
local macro_rules | `(tactic| walk_at "call ref") => `(tactic| (k_here; k_dflt (refine' call_meth ?k1 ?k2 ?_; (case k1 => k_asm); (case k2 => k_mem); first | k_enter | walk_at "V super" | walk_at "V both" | walk_at "V more")))
local macro_rules | `(tactic| walk_at "getMethod ref") => `(tactic| (k_here; (with_reducible show wpAny _ _ (getMethod (Value.ref _) (Str.ofString "get") _) _ _ _); k_dflt (first
  | refine kdg_method (knd := PySem.strKind _ _) (by k_asm) (by k_mem) (by k_asm) ?_
  | refine kdg_method (knd := PySem.intKind _ _) (by k_asm) (by k_mem) (by k_asm) ?_)))
local macro_rules | `(tactic| walk_at "call builtin:dict.get") => `(tactic| (k_here; k_dflt (first
  | refine kdg_get2 (knd := PySem.strKind _ _) (by k_asm) (by k_mem) (by k_asm) (by k_asm) (strKind_is _ _ _ _) (some _) (by rfl) ?_
  | refine kdg_get2 (knd := PySem.strKind _ _) (by k_asm) (by k_mem) (by k_asm) (by k_asm) (strKind_is _ _ _ _) none (by rfl) ?_); (try dsimp only [Option.getD])))
local macro_rules | `(tactic| walk_at "wpAt") => `(tactic| (ks_step "eval Call"; refine v_wpAt_superKw (by rfl) ?_))
local macro_rules | `(tactic| walk_at "getAttr ref") => `(tactic| (k_here; ks_any; k_dflt (refine' v_superAttr ?k1 ?k2 ?k3 ?k4 ?k5 ?k6 ?k7 ?k8 ?k9 ?_; (case k1 => k_asm); (case k2 => k_asm); (case k3 => k_asm); (case k4 => k_mem); (case k5 => k_inst); (case k6 => k_is); (case k7 => ks_is); (case k8 => k_is); (case k9 => decide); intro q' h' F' N' l1; (replace l1 := allLt_of l1); (try simp only [AllLt, and_true] at l1))))
local macro_rules | `(tactic| walk_at "callWith ref") => `(tactic| (k_here; k_dflt (refine' v_callKwM ?k1 ?k2 ?k3 ?k4 ?k5 ?_; (case k1 => k_asm); (case k2 => k_asm); (case k3 => k_mem); (case k4 => k_is); (case k5 => rfl); k_whole)))
local macro_rules | `(tactic| walk_at "evalArgs") => `(tactic| (k_here; k_dflt (refine v_evalArgsE (by rfl) ?_)))
local macro_rules | `(tactic| walk_at "mergedKeywords") => `(tactic| (k_here; (with_reducible show wpAny _ _ (mergedKeywords _ (backToKw _ (keywordEach [PySem.Keyword.mk Option.none _ _] _))) _ _ _); k_dflt (refine v_mergedE0 (by k_asm) (by k_asm) ?_; intro d' h' F' N' l1; (replace l1 := allLt_of l1); (try simp only [AllLt, and_true] at l1))))
local macro_rules | `(tactic| walk_at "mergedKeywords") => `(tactic| (k_here; (with_reducible show wpAny _ _ (mergedKeywords _ (backToKw _ (keywordEach [PySem.Keyword.mk (Option.some _) _ _, PySem.Keyword.mk Option.none _ _] _))) _ _ _); k_dflt (refine' v_mergedE1 ?k1 ?k2 ?k3 ?kv ?_; (case k1 => k_asm); (case k2 => k_asm); (case k3 => exact Top.nolimit (by k_asm)); (case kv => (intro s9 R9 F9 h9; walk_at "eval Name"; exact h9)); intro d' h' sub' tk' F' N' l1 l2; (replace l1 := allLt_of l1); (try simp only [AllLt, and_true] at l1); (try k_lt2 l2))))
local macro_rules | `(tactic| walk_at "Exists") => `(tactic| (k_here; k_dflt (refine v_kwEnd (by k_asm) (by k_mem) (by k_mem) (by k_asm) (by k_asm) ?_)))
local macro_rules | `(tactic| walk_at "keywordsIn") => `(tactic| (k_here; k_dflt (first | refine v_kwIn0 (News.get (by k_asm) (by k_mem)) ?_ | refine v_kwIn1 (News.get (by k_asm) (by k_mem)) ?_)))
local macro_rules | `(tactic| walk_at "V enter") => `(tactic| (refine' code_def ?k1 ?k2 ?k3 ?k4 ?k5 ?kA ?kF ?kK ?k6 ?k7 ?k8 ?k9 ?kB ?_ ?c2 ?c3 ?c4 ?c5; (case kA => exact rfl); (case kF => exact rfl); (case kK => first | exact rfl | assumption); (case k1 => k_asm); (case k2 => k_asm); (case k3 => k_asm); (case k4 => k_asm); (case k5 => k_asm); (case k6 => k_is); (case k7 => k_is); (case k8 => k_room); (case k9 => first | exact BindsTo.of_eq rfl | exact binds_K (by k_in) rfl (by k_is) rfl rfl rfl | fail "V enter: no rule for these arguments"); (case c5 => decide); (case kB => exact locs rfl); (case c2 => exact rfl); (case c3 => exact rfl); (case c4 => exact rfl); k_whole; intro g' L' h' FG' F' N' B' X' T'; (try dsimp only); (try k_fold)))
local macro_rules | `(tactic| walk_at "exec For Name Attribute cons nil") => `(tactic| (k_here; (rename Fr _ _ _ _ => lF'); (with_unfolding_all refine' For_turns lF' ?_; k_whole)))
local macro_rules | `(tactic| walk_at "pyIter ref") => `(tactic| (k_here; (with_reducible show wpAny _ _ (pyIter (Value.ref _)) (fun it s₂ => TurnsAt _ _ _ _ _ _ _ _ _ it s₂) _ _); (rename Fr _ _ _ _ => lF'); (rename News _ _ _ _ => lN'); (with_unfolding_all refine' iter_tupTurns (n := 0) ?hh lF' lN' ?hm ?hc ?hd ?_; (case hh => rfl); (case hm => k_mem); (case hc => rfl); (case hd => rfl)); clear lF' lN'; intro i' l1; (replace l1 := allLt_of l1); (try simp only [AllLt, and_true] at l1); (try dsimp only [List.map])))
local macro_rules | `(tactic| k_mem) => `(tactic| exact List.mem_append_right _ (by assumption))
local macro_rules | `(tactic| k_all) => `(tactic| assumption)
local macro_rules | `(tactic| walk_at "getMethod ref") => `(tactic| (k_here; (with_reducible show wpAny _ _ (getMethod (Value.ref _) (Str.ofString "match_core") _) _ _ _); (rename MCs _ _ _ _ _ _ _ _ _ _ _ _ _ _ => lM'); k_dflt (refine' v_getMC' lM' ?k1 ?k2 ?k3 ?k4 ?k5 ?k6 ?_; (case k1 => k_asm); (case k2 => k_asm); (case k3 => k_asm); (case k4 => (repeat (first | exact SplitL.nil | apply SplitL.cons))); (case k5 => assumption); (case k6 => assumption))))
local macro_rules | `(tactic| walk_at "call ref") => `(tactic| (k_here; (with_reducible show wpAny _ _ (call (Value.ref 266) _) _ _ _); (rename MCs _ _ _ _ _ _ _ _ _ _ _ _ _ _ => lM'); k_dflt (refine' v_callMCz lM' ?k1 ?k2 ?k3 ?k4 ?k5 ?k6 ?k7 ?k8 ?k9 ?kA ?kB ?kC ?kD ?kE ?_; (case k1 => k_asm); (case k2 => k_asm); (case k3 => k_asm); (case k4 => k_asm); (case k5 => k_asm); (case k6 => (repeat (first | exact SplitL.nil | apply SplitL.cons))); (case k7 => assumption); (case k8 => assumption); (case k9 => omega); (case kA => exact rfl); (case kB => k_room); (case kC => k_units); (case kD => (repeat (first | exact OffL.nil | refine OffL.cons (by k_all) ?_))); (case kE => assumption)); intro v' W' h' tk' F' N' hA'; (try simp only [List.cons_append, List.nil_append] at N')))
local macro_rules | `(tactic| walk_at "call ref") => `(tactic| (k_here; (with_reducible show wpAny _ _ (call (Value.ref 266) _) _ _ _); (rename MCs _ _ _ _ _ _ _ _ _ _ _ _ _ _ => lM'); k_dflt (refine' v_callMC lM' ?k1 ?k2 ?k3 ?k4 ?k5 ?k6 ?k7 ?k8 ?k9 ?kA ?kB ?kC ?kD ?kE ?_; (case k1 => k_asm); (case k2 => k_asm); (case k3 => k_asm); (case k4 => k_asm); (case k5 => k_asm); (case k6 => (repeat (first | exact SplitL.nil | apply SplitL.cons))); (case k7 => assumption); (case k8 => assumption); (case k9 => first | assumption | omega); (case kA => exact rfl); (case kB => k_room); (case kC => k_units); (case kD => (repeat (first | exact OffL.nil | refine OffL.cons (by k_all) ?_))); (case kE => assumption)); intro v' W' h' tk' F' N' hA'; (try simp only [List.cons_append, List.nil_append] at N')))
local macro_rules | `(tactic| walk_at "truthy ref") => `(tactic| (k_here; (with_reducible show wpAny _ _ (truthy (Value.ref _)) _ _ _); k_dflt (refine v_truthyL (by k_asm) (by k_mem) (by first | assumption | exact Nat.le_of_ble_eq_true rfl | omega) ?_); (try simp only [List.isEmpty_toArray, List.isEmpty_cons, List.isEmpty_nil, Array.isEmpty_push, Bool.not_false, Bool.not_true])))
local macro_rules | `(tactic| walk_at "UnrEndW") => `(tactic| (refine' v_end ?k1 ?k2 ?k3 ?k4 (And.intro (And.intro ?k5 trivial) ?_); (case k1 => k_asm); (case k2 => k_asm); (case k3 => rfl); (case k4 => (repeat (first | exact OffL.nil | refine OffL.cons (by k_all) ?_))); (case k5 => k_mem)))
local macro_rules | `(tactic| walk_at "V end") => `(tactic| (refine' um_end2 ?k1 ?k2 ?k3 ?k4 ?k5 ?k6 ?k7 ?k8 ?k9; (case k1 => k_asm); (case k2 => k_asm); (case k3 => (repeat (first | exact PickL.nil | apply PickL.skip (by assumption) | apply PickL.skipL | apply PickL.cons))); (case k9 => assumption); (case k4 => assumption); (case k5 => assumption); (case k6 => assumption); (case k7 => (repeat (first | exact NewL.nil | refine' NewL.cons ?_ (by k_all) (by k_all) (v_lt1 (by assumption) (by tbn_find)) rfl))); (case k8 => first | exact ⟨_, _, _, _, _, _, _, rfl, .head _, .tail _ (.head _)⟩ | exact rfl)))
local macro_rules | `(tactic| walk_at "WhlRest") => `(tactic| (refine unHalt ?_))
local macro_rules | `(tactic| walk_at "call builtin:len") => `(tactic| (k_here; (with_reducible show wpAny _ _ (call (Value.builtin "len") [Value.ref _]) _ _ _); k_dflt (refine v_lenL (by k_asm) (by k_mem) (by first | assumption | (rw [Array.size_push]; exact congrArg (· + 1) (by assumption))) (by omega) ?_)))
local macro_rules | `(tactic| walk_at "compareOp Lt int float") => `(tactic| (refine lt_if ?_; rw [inf_gt]))
variable {w : World} {p : Program} {loose : List Str} {mean : ExcName → Option Value} {mg mb : Str → Option Value}
theorem w_seq3 {Ok : Led → Prop} {Kid : Addr → Prop} {f : Addr → Nat → Option Nat} {D U : Nat} {t : Str} {t1 tk2 tk3 : Tok} {k : Nat} {x dx mt it ca er xa xb xc : Addr} {od : Obj} {W : Led}
  (M : MCs w p loose mean mg mb Ok Kid f ca er t D U) (hok : Ok W) (ha : Kid xa) (hb : Kid xb) (hc : Kid xc)
  (hx : (x, cmpO 394 dx mt it t1) ∈ W) (hdx : (dx, od) ∈ W) (hm : (mt, tupO [.ref xa, .ref xb, .ref xc]) ∈ W) (ht : t.length ≤ 8) (hp : k ≤ t.length) :
  CallOk w p loose mean mg mb 384 (D + 20) (U + 200) W [.ref x, .str t tk2, .int k tk3, .ref ca, .ref er] (UmPost Ok W t k ((f xa k).bind fun q => (f xb q).bind (f xc))) := by
  intro dp un gd cn cs a ccd cl outer A₀ base h₀ L m own s Q E B F X N T hk hd hu hown hQ
  have hne : x ≠ mt := N.twoPlaces (List.mem_append_right _ hx) (List.mem_append_right _ hm) (by simp)
  have M0 := M
  w_top off
  revert X; k_fill; intro X
  refine wpAny_call ?_
  k_dflt (walk_at "V enter")
  k_steps
  rename AfterC _ _ _ _ _ _ _ _ _ => hA
  obtain ⟨o1, o2, ok1, kp1, an1⟩ := hA
  have hx1 := kp1.imm _ hx rfl
  have hm1 := kp1.imm _ hm rfl
  have q1 := o1.find (.head _)
  have r1 := o1.find (.tail _ (.head _))
  rcases ans_cases an1 with ⟨e1, rfl⟩ | ⟨q, nd, dn, ch, x1, tt, ts, te, e1, rfl, m1, m2⟩
  · have lo1 : LoW _ := ⟨_, _, _, _, hx1, hm1, hne⟩
    k_steps
    rw [e1] at hQ
    k_dflt (walk_at "V end")
  · have fw1 := M.fwd xa ha k q hp e1
    k_steps
    rename AfterC _ _ _ _ _ _ _ _ _ => hA
    rw [show ((k : Int) + ((q : Int) - (k : Int))).toNat = q by omega] at hA
    obtain ⟨o3, o4, ok3, kp3, an3⟩ := hA
    have hx3 := kp3.imm _ hx1 rfl
    have hm3 := kp3.imm _ hm1 rfl
    have q3 := o3.find (.head _)
    have r3 := o3.find (.tail _ (.head _))
    have kp := kp1.trans kp3
    have lo3 : LoW _ := ⟨_, _, _, _, hx3, hm3, hne⟩
    rcases ans_cases an3 with ⟨e3, rfl⟩ | ⟨q', nd', dn', ch', x1', tt', ts', te', e3, rfl, m3, m4⟩
    · k_steps
      simp only [e1, e3, Option.bind_some, Option.bind_none] at hQ
      k_dflt (walk_at "V end")
    · have fw3 := M.fwd xb hb q q' fw1.2 e3
      k_steps
      rename AfterC _ _ _ _ _ _ _ _ _ => hA
      rw [show ((k : Int) + ((q : Int) - (k : Int)) + ((q' : Int) - (q : Int))).toNat = q' by omega] at hA
      obtain ⟨o5, o6, ok5, kp5, an5⟩ := hA
      have hx5 := kp5.imm _ hx3 rfl
      have hm5 := kp5.imm _ hm3 rfl
      have q5 := o5.find (.head _)
      have r5 := o5.find (.tail _ (.head _))
      have kp := (kp1.trans kp3).trans kp5
      have lo5 : LoW _ := ⟨_, _, _, _, hx5, hm5, hne⟩
      rcases ans_cases an5 with ⟨e5, rfl⟩ | ⟨q5, nd5, dn5, ch5, x5, tt5, ts5, te5, e5, rfl, m5, m6⟩
      · k_steps
        simp only [e1, e3, e5, Option.bind_some] at hQ
        k_dflt (walk_at "V end")
      · have fw5 := M.fwd xc hc q' q5 fw3.2 e5
        k_steps
        simp only [e1, e3, e5, Option.bind_some] at hQ
        rename News _ _ _ _ => hN
        rw [show ((k : Int) + ((q : Int) - (k : Int)) + ((q' : Int) - (q : Int)) + ((q5 : Int) - (q' : Int))) = q5 by omega] at hN
        k_dflt (walk_at "V end")

end Mine
end

-- VWLook
section
open PySem PySem.W PyProof.Rows PySem.Calls
set_option Elab.async false
set_option maxRecDepth 100000
set_option maxHeartbeats 4000000
namespace Mine
local macro_rules | `(tactic| k_room) => `(tactic| ktr_room)
local macro_rules | `(tactic| k_units) => `(tactic| ktr_units)
local macro_rules | `(tactic| walk_at "V super") => `(tactic| (refine' ks_code_super ?k1 ?k2 ?k3 ?k4 ?k5 ?kA ?kF ?kK ?k6 ?k7 ?k8 ?k9 ?kB ?_ ?c1 ?c2 ?c3 ?c4; (case kA => exact rfl); (case kF => exact rfl); (case kK => first | exact rfl | assumption); (case k1 => k_asm); (case k2 => k_asm); (case k3 => k_asm); (case k4 => k_asm); (case k5 => k_asm); (case k6 => k_is); (case k7 => k_is); (case k8 => k_room); (case k9 => first | exact BindsTo.of_eq rfl | exact binds_K (by k_in) rfl (by k_is) rfl rfl rfl); (case kB => exact locs rfl); (case c1 => decide); (case c2 => exact rfl); (case c3 => exact rfl); (case c4 => exact rfl); intro g' L' h' FG' F' N' B' X' T' l1; (try k_lt l1); (try dsimp only); (try k_lift B')))
local macro_rules | `(tactic| k_mem) => `(tactic| assumption)
local macro_rules | `(tactic| walk_at "call ref") => `(tactic| (k_here; k_dflt (refine' call_cls ?k1 ?k2 ?k3 ?k4 ?k5 ?k6 ?_; (case k1 => k_asm); (case k2 => k_asm); (case k3 => k_asm); (case k4 => k_is); (case k5 => k_is); (case k6 => k_is); k_whole; intro x' d' h' F' N' l1 l2; (have l3 := tbn_up l2 (allLt_of l1)); (try simp only [AllLt, and_true] at l3); (replace l1 := allLt_of l1); (try simp only [AllLt, and_true] at l1); (try k_lt2 l2); (try k_sweep); first | k_enter | walk_at "V super")))
local macro_rules | `(tactic| walk_at "V both") => `(tactic| (refine' v_bothS ?k1 ?k2 ?k3 ?k4 ?k5 ?kA ?kF ?kK ?k6 ?k7 ?k8 ?kV ?kX ?kQ ?kM ?kN ?kR ?kP ?kS ?kT ?kB ?_ ?c2 ?c3 ?c4 ?c5; (case kA => exact rfl); (case kF => exact rfl); (case kK => first | exact rfl | assumption); (case k1 => k_asm); (case k2 => k_asm); (case k3 => k_asm); (case k4 => k_asm); (case k5 => k_asm); (case k6 => k_is); (case k7 => k_is); (case k8 => k_room); (case kV => kp_lit); (case kX => kp_lit); (case kQ => exact rfl); (case kM => exact rfl); (case kN => exact rfl); (case kR => exact rfl); (case kP => exact rfl); (case kS => exact fun _ => rfl); (case kT => exact fun _ _ => rfl); (case kB => exact fun _ _ => locs rfl); (case c5 => decide); (case c2 => exact rfl); (case c3 => exact rfl); (case c4 => exact rfl); k_whole; intro C' D' o' g' L' h' tk' l1 l2 lo' hs' l3 FG' F' N' B' X' T'; (try k_lt l1); (try k_lt2 l2); (replace l3 := allLt_of l3); (try simp only [AllLt, and_true] at l3); (try dsimp only); (try k_lift B')))
local macro_rules | `(tactic| walk_at "V more") => `(tactic| (refine' v_moreS ?k1 ?k2 ?k3 ?k4 ?k5 ?kA ?kF ?kK ?k6 ?k7 ?k8 ?kX ?kM ?kN ?kR ?kP ?kS ?kB ?_ ?c2 ?c3 ?c4 ?c5; (case kA => exact rfl); (case kF => exact rfl); (case kK => first | exact rfl | assumption); (case k1 => k_asm); (case k2 => k_asm); (case k3 => k_asm); (case k4 => k_asm); (case k5 => k_asm); (case k6 => k_is); (case k7 => k_is); (case k8 => k_room); (case kX => kp_lit); (case kM => exact rfl); (case kN => exact rfl); (case kR => exact rfl); (case kP => exact rfl); (case kS => exact fun _ => rfl); (case kB => exact fun _ => locs rfl); (case c5 => decide); (case c2 => exact rfl); (case c3 => exact rfl); (case c4 => exact rfl); k_whole; intro D' o' g' L' h' tk' l1 lo' hs' l3 FG' F' N' B' X' T'; (try k_lt l1); (replace l3 := allLt_of l3); (try simp only [AllLt, and_true] at l3); (try dsimp only); (try k_lift B')))
local macro_rules | `(tactic| walk_at "call ref") => `(tactic| (k_here; k_dflt (refine' call_cls ?k1 ?k2 ?k3 ?k4 ?k5 ?k6 ?_; (case k1 => k_asm); (case k2 => k_asm); (case k3 => k_asm); (case k4 => k_is); (case k5 => k_is); (case k6 => k_is); k_whole; intro x' d' h' F' N' l1 l2; (have l3 := tbn_up l2 (allLt_of l1)); (try simp only [AllLt, and_true] at l3); (replace l1 := allLt_of l1); (try simp only [AllLt, and_true] at l1); (try k_lt2 l2); (try k_sweep); first | k_enter | walk_at "V super" | walk_at "V both" | walk_at "V more")))
local macro_rules | `(tactic| walk_at "call ref") => `(tactic| (k_here; k_dflt (refine' call_meth ?k1 ?k2 ?_; (case k1 => k_asm); (case k2 => k_mem); first | k_enter | walk_at "V super" | walk_at "V both" | walk_at "V more")))
local macro_rules | `(tactic| walk_at "getMethod ref") => `(tactic| (k_here; (with_reducible show wpAny _ _ (getMethod (Value.ref _) (Str.ofString "get") _) _ _ _); k_dflt (first
  | refine kdg_method (knd := PySem.strKind _ _) (by k_asm) (by k_mem) (by k_asm) ?_
  | refine kdg_method (knd := PySem.intKind _ _) (by k_asm) (by k_mem) (by k_asm) ?_)))
local macro_rules | `(tactic| walk_at "call builtin:dict.get") => `(tactic| (k_here; k_dflt (first
  | refine kdg_get2 (knd := PySem.strKind _ _) (by k_asm) (by k_mem) (by k_asm) (by k_asm) (strKind_is _ _ _ _) (some _) (by rfl) ?_
  | refine kdg_get2 (knd := PySem.strKind _ _) (by k_asm) (by k_mem) (by k_asm) (by k_asm) (strKind_is _ _ _ _) none (by rfl) ?_); (try dsimp only [Option.getD])))
local macro_rules | `(tactic| walk_at "wpAt") => `(tactic| (ks_step "eval Call"; refine v_wpAt_superKw (by rfl) ?_))
local macro_rules | `(tactic| walk_at "getAttr ref") => `(tactic| (k_here; ks_any; k_dflt (refine' v_superAttr ?k1 ?k2 ?k3 ?k4 ?k5 ?k6 ?k7 ?k8 ?k9 ?_; (case k1 => k_asm); (case k2 => k_asm); (case k3 => k_asm); (case k4 => k_mem); (case k5 => k_inst); (case k6 => k_is); (case k7 => ks_is); (case k8 => k_is); (case k9 => decide); intro q' h' F' N' l1; (replace l1 := allLt_of l1); (try simp only [AllLt, and_true] at l1))))
local macro_rules | `(tactic| walk_at "callWith ref") => `(tactic| (k_here; k_dflt (refine' v_callKwM ?k1 ?k2 ?k3 ?k4 ?k5 ?_; (case k1 => k_asm); (case k2 => k_asm); (case k3 => k_mem); (case k4 => k_is); (case k5 => rfl); k_whole)))
local macro_rules | `(tactic| walk_at "evalArgs") => `(tactic| (k_here; k_dflt (refine v_evalArgsE (by rfl) ?_)))
local macro_rules | `(tactic| walk_at "mergedKeywords") => `(tactic| (k_here; (with_reducible show wpAny _ _ (mergedKeywords _ (backToKw _ (keywordEach [PySem.Keyword.mk Option.none _ _] _))) _ _ _); k_dflt (refine v_mergedE0 (by k_asm) (by k_asm) ?_; intro d' h' F' N' l1; (replace l1 := allLt_of l1); (try simp only [AllLt, and_true] at l1))))
local macro_rules | `(tactic| walk_at "mergedKeywords") => `(tactic| (k_here; (with_reducible show wpAny _ _ (mergedKeywords _ (backToKw _ (keywordEach [PySem.Keyword.mk (Option.some _) _ _, PySem.Keyword.mk Option.none _ _] _))) _ _ _); k_dflt (refine' v_mergedE1 ?k1 ?k2 ?k3 ?kv ?_; (case k1 => k_asm); (case k2 => k_asm); (case k3 => exact Top.nolimit (by k_asm)); (case kv => (intro s9 R9 F9 h9; walk_at "eval Name"; exact h9)); intro d' h' sub' tk' F' N' l1 l2; (replace l1 := allLt_of l1); (try simp only [AllLt, and_true] at l1); (try k_lt2 l2))))
local macro_rules | `(tactic| walk_at "Exists") => `(tactic| (k_here; k_dflt (refine v_kwEnd (by k_asm) (by k_mem) (by k_mem) (by k_asm) (by k_asm) ?_)))
local macro_rules | `(tactic| walk_at "keywordsIn") => `(tactic| (k_here; k_dflt (first | refine v_kwIn0 (News.get (by k_asm) (by k_mem)) ?_ | refine v_kwIn1 (News.get (by k_asm) (by k_mem)) ?_)))
local macro_rules | `(tactic| walk_at "V enter") => `(tactic| (refine' code_def ?k1 ?k2 ?k3 ?k4 ?k5 ?kA ?kF ?kK ?k6 ?k7 ?k8 ?k9 ?kB ?_ ?c2 ?c3 ?c4 ?c5; (case kA => exact rfl); (case kF => exact rfl); (case kK => first | exact rfl | assumption); (case k1 => k_asm); (case k2 => k_asm); (case k3 => k_asm); (case k4 => k_asm); (case k5 => k_asm); (case k6 => k_is); (case k7 => k_is); (case k8 => k_room); (case k9 => first | exact BindsTo.of_eq rfl | exact binds_K (by k_in) rfl (by k_is) rfl rfl rfl | fail "V enter: no rule for these arguments"); (case c5 => decide); (case kB => exact locs rfl); (case c2 => exact rfl); (case c3 => exact rfl); (case c4 => exact rfl); k_whole; intro g' L' h' FG' F' N' B' X' T'; (try dsimp only); (try k_fold)))
local macro_rules | `(tactic| walk_at "exec For Name Attribute cons nil") => `(tactic| (k_here; (rename Fr _ _ _ _ => lF'); (with_unfolding_all refine' For_turns lF' ?_; k_whole)))
local macro_rules | `(tactic| walk_at "pyIter ref") => `(tactic| (k_here; (with_reducible show wpAny _ _ (pyIter (Value.ref _)) (fun it s₂ => TurnsAt _ _ _ _ _ _ _ _ _ it s₂) _ _); (rename Fr _ _ _ _ => lF'); (rename News _ _ _ _ => lN'); (with_unfolding_all refine' iter_tupTurns (n := 0) ?hh lF' lN' ?hm ?hc ?hd ?_; (case hh => rfl); (case hm => k_mem); (case hc => rfl); (case hd => rfl)); clear lF' lN'; intro i' l1; (replace l1 := allLt_of l1); (try simp only [AllLt, and_true] at l1); (try dsimp only [List.map])))
local macro_rules | `(tactic| k_mem) => `(tactic| exact List.mem_append_right _ (by assumption))
local macro_rules | `(tactic| k_all) => `(tactic| assumption)
local macro_rules | `(tactic| walk_at "getMethod ref") => `(tactic| (k_here; (with_reducible show wpAny _ _ (getMethod (Value.ref _) (Str.ofString "match_core") _) _ _ _); (rename MCs _ _ _ _ _ _ _ _ _ _ _ _ _ _ => lM'); k_dflt (refine' v_getMC' lM' ?k1 ?k2 ?k3 ?k4 ?k5 ?k6 ?_; (case k1 => k_asm); (case k2 => k_asm); (case k3 => k_asm); (case k4 => (repeat (first | exact SplitL.nil | apply SplitL.cons))); (case k5 => assumption); (case k6 => assumption))))
local macro_rules | `(tactic| walk_at "call ref") => `(tactic| (k_here; (with_reducible show wpAny _ _ (call (Value.ref 266) _) _ _ _); (rename MCs _ _ _ _ _ _ _ _ _ _ _ _ _ _ => lM'); k_dflt (refine' v_callMCz lM' ?k1 ?k2 ?k3 ?k4 ?k5 ?k6 ?k7 ?k8 ?k9 ?kA ?kB ?kC ?kD ?kE ?_; (case k1 => k_asm); (case k2 => k_asm); (case k3 => k_asm); (case k4 => k_asm); (case k5 => k_asm); (case k6 => (repeat (first | exact SplitL.nil | apply SplitL.cons))); (case k7 => assumption); (case k8 => assumption); (case k9 => omega); (case kA => exact rfl); (case kB => k_room); (case kC => k_units); (case kD => (repeat (first | exact OffL.nil | refine OffL.cons (by k_all) ?_))); (case kE => assumption)); intro v' W' h' tk' F' N' hA'; (try simp only [List.cons_append, List.nil_append] at N')))
local macro_rules | `(tactic| walk_at "call ref") => `(tactic| (k_here; (with_reducible show wpAny _ _ (call (Value.ref 266) _) _ _ _); (rename MCs _ _ _ _ _ _ _ _ _ _ _ _ _ _ => lM'); k_dflt (refine' v_callMC lM' ?k1 ?k2 ?k3 ?k4 ?k5 ?k6 ?k7 ?k8 ?k9 ?kA ?kB ?kC ?kD ?kE ?_; (case k1 => k_asm); (case k2 => k_asm); (case k3 => k_asm); (case k4 => k_asm); (case k5 => k_asm); (case k6 => (repeat (first | exact SplitL.nil | apply SplitL.cons))); (case k7 => assumption); (case k8 => assumption); (case k9 => first | assumption | omega); (case kA => exact rfl); (case kB => k_room); (case kC => k_units); (case kD => (repeat (first | exact OffL.nil | refine OffL.cons (by k_all) ?_))); (case kE => assumption)); intro v' W' h' tk' F' N' hA'; (try simp only [List.cons_append, List.nil_append] at N')))
local macro_rules | `(tactic| walk_at "truthy ref") => `(tactic| (k_here; (with_reducible show wpAny _ _ (truthy (Value.ref _)) _ _ _); k_dflt (refine v_truthyL (by k_asm) (by k_mem) (by first | assumption | exact Nat.le_of_ble_eq_true rfl | omega) ?_); (try simp only [List.isEmpty_toArray, List.isEmpty_cons, List.isEmpty_nil, Array.isEmpty_push, Bool.not_false, Bool.not_true])))
local macro_rules | `(tactic| walk_at "UnrEndW") => `(tactic| (refine' v_end ?k1 ?k2 ?k3 ?k4 (And.intro (And.intro ?k5 trivial) ?_); (case k1 => k_asm); (case k2 => k_asm); (case k3 => rfl); (case k4 => (repeat (first | exact OffL.nil | refine OffL.cons (by k_all) ?_))); (case k5 => k_mem)))
local macro_rules | `(tactic| walk_at "V end") => `(tactic| (refine' um_end2 ?k1 ?k2 ?k3 ?k4 ?k5 ?k6 ?k7 ?k8 ?k9; (case k1 => k_asm); (case k2 => k_asm); (case k3 => (repeat (first | exact PickL.nil | apply PickL.skip (by assumption) | apply PickL.skipL | apply PickL.cons))); (case k9 => assumption); (case k4 => assumption); (case k5 => assumption); (case k6 => assumption); (case k7 => (repeat (first | exact NewL.nil | refine' NewL.cons ?_ (by k_all) (by k_all) (v_lt1 (by assumption) (by tbn_find)) rfl))); (case k8 => first | exact ⟨_, _, _, _, _, _, _, rfl, .head _, .tail _ (.head _)⟩ | exact rfl)))
local macro_rules | `(tactic| walk_at "WhlRest") => `(tactic| (refine unHalt ?_))
local macro_rules | `(tactic| walk_at "call builtin:len") => `(tactic| (k_here; (with_reducible show wpAny _ _ (call (Value.builtin "len") [Value.ref _]) _ _ _); k_dflt (refine v_lenL (by k_asm) (by k_mem) (by first | assumption | (rw [Array.size_push]; exact congrArg (· + 1) (by assumption))) (by omega) ?_)))
local macro_rules | `(tactic| walk_at "compareOp Lt int float") => `(tactic| (refine lt_if ?_; rw [inf_gt]))
variable {w : World} {p : Program} {loose : List Str} {mean : ExcName → Option Value} {mg mb : Str → Option Value}
theorem w_look {Ok : Led → Prop} {Kid : Addr → Prop} {f : Addr → Nat → Option Nat} {D U : Nat} {t : Str} {t1 tk2 tk3 : Tok} {k : Nat} {x dx mt it ca er xa : Addr}  {neg : Bool} {W : Led}
  (M : MCs w p loose mean mg mb Ok Kid f ca er t D U) (hok : Ok W) (ha : Kid xa)
  (hx : (x, lookO dx mt it neg t1) ∈ W) (hN : NodeAt W x dx) (hm : (mt, tupO [.ref xa]) ∈ W) (ht : t.length ≤ 8) (hp : k ≤ t.length) :
  CallOk w p loose mean mg mb 447 (D + 20) (U + 200) W [.ref x, .str t tk2, .int k tk3, .ref ca, .ref er] (UmPost Ok W t k (if (f xa k).isNone = neg then some k else none)) := by
  intro dp un gd cn cs a ccd cl outer A₀ base h₀ L m own s Q E B F X N T hk hd hu hown hQ
  obtain ⟨od0, hdx⟩ := hN.dict
  have hne : x ≠ mt := N.twoPlaces (List.mem_append_right _ hx) (List.mem_append_right _ hm) (by simp)
  have M0 := M
  w_top off
  revert X; k_fill; intro X
  refine wpAny_call ?_
  k_dflt (walk_at "V enter")
  k_steps
  rename AfterC _ _ _ _ _ _ _ _ _ => hA
  obtain ⟨o1, o2, ok1, kp1, an1⟩ := hA
  have hx1 := kp1.imm _ hx rfl
  have hm1 := kp1.imm _ hm rfl
  obtain ⟨od1, hd1⟩ := (kp1.node _ _ hN).dict
  have lo1 : LoW _ := ⟨_, _, _, _, hx1, hm1, hne⟩
  rcases ans_cases an1 with ⟨e1, rfl⟩ | ⟨q, nd, dn, ch, x1, tt, ts, te, e1, rfl, m1, m2⟩
  · rw [e1] at hQ
    cases neg
    · k_steps
      k_dflt (walk_at "V end")
    · k_steps
      k_dflt (walk_at "V end")
  · rw [e1] at hQ
    cases neg
    · k_steps
      k_dflt (walk_at "V end")
    · k_steps
      k_dflt (walk_at "V end")

end Mine
end

-- VWQuant
section
open PySem PySem.W PyProof.Rows PySem.Calls
set_option Elab.async false
set_option maxRecDepth 100000
set_option maxHeartbeats 4000000
namespace Mine
local macro_rules | `(tactic| k_room) => `(tactic| ktr_room)
local macro_rules | `(tactic| k_units) => `(tactic| ktr_units)
local macro_rules | `(tactic| walk_at "V super") => `(tactic| (refine' ks_code_super ?k1 ?k2 ?k3 ?k4 ?k5 ?kA ?kF ?kK ?k6 ?k7 ?k8 ?k9 ?kB ?_ ?c1 ?c2 ?c3 ?c4; (case kA => exact rfl); (case kF => exact rfl); (case kK => first | exact rfl | assumption); (case k1 => k_asm); (case k2 => k_asm); (case k3 => k_asm); (case k4 => k_asm); (case k5 => k_asm); (case k6 => k_is); (case k7 => k_is); (case k8 => k_room); (case k9 => first | exact BindsTo.of_eq rfl | exact binds_K (by k_in) rfl (by k_is) rfl rfl rfl); (case kB => exact locs rfl); (case c1 => decide); (case c2 => exact rfl); (case c3 => exact rfl); (case c4 => exact rfl); intro g' L' h' FG' F' N' B' X' T' l1; (try k_lt l1); (try dsimp only); (try k_lift B')))
local macro_rules | `(tactic| k_mem) => `(tactic| assumption)
local macro_rules | `(tactic| walk_at "call ref") => `(tactic| (k_here; k_dflt (refine' call_cls ?k1 ?k2 ?k3 ?k4 ?k5 ?k6 ?_; (case k1 => k_asm); (case k2 => k_asm); (case k3 => k_asm); (case k4 => k_is); (case k5 => k_is); (case k6 => k_is); k_whole; intro x' d' h' F' N' l1 l2; (have l3 := tbn_up l2 (allLt_of l1)); (try simp only [AllLt, and_true] at l3); (replace l1 := allLt_of l1); (try simp only [AllLt, and_true] at l1); (try k_lt2 l2); (try k_sweep); first | k_enter | walk_at "V super")))
local macro_rules | `(tactic| walk_at "V both") => `(tactic| (refine' v_bothS ?k1 ?k2 ?k3 ?k4 ?k5 ?kA ?kF ?kK ?k6 ?k7 ?k8 ?kV ?kX ?kQ ?kM ?kN ?kR ?kP ?kS ?kT ?kB ?_ ?c2 ?c3 ?c4 ?c5; (case kA => exact rfl); (case kF => exact rfl); (case kK => first | exact rfl | assumption); (case k1 => k_asm); (case k2 => k_asm); (case k3 => k_asm); (case k4 => k_asm); (case k5 => k_asm); (case k6 => k_is); (case k7 => k_is); (case k8 => k_room); (case kV => kp_lit); (case kX => kp_lit); (case kQ => exact rfl); (case kM => exact rfl); (case kN => exact rfl); (case kR => exact rfl); (case kP => exact rfl); (case kS => exact fun _ => rfl); (case kT => exact fun _ _ => rfl); (case kB => exact fun _ _ => locs rfl); (case c5 => decide); (case c2 => exact rfl); (case c3 => exact rfl); (case c4 => exact rfl); k_whole; intro C' D' o' g' L' h' tk' l1 l2 lo' hs' l3 FG' F' N' B' X' T'; (try k_lt l1); (try k_lt2 l2); (replace l3 := allLt_of l3); (try simp only [AllLt, and_true] at l3); (try dsimp only); (try k_lift B')))
local macro_rules | `(tactic| walk_at "V more") => `(tactic| (refine' v_moreS ?k1 ?k2 ?k3 ?k4 ?k5 ?kA ?kF ?kK ?k6 ?k7 ?k8 ?kX ?kM ?kN ?kR ?kP ?kS ?kB ?_ ?c2 ?c3 ?c4 ?c5; (case kA => exact rfl); (case kF => exact rfl); (case kK => first | exact rfl | assumption); (case k1 => k_asm); (case k2 => k_asm); (case k3 => k_asm); (case k4 => k_asm); (case k5 => k_asm); (case k6 => k_is); (case k7 => k_is); (case k8 => k_room); (case kX => kp_lit); (case kM => exact rfl); (case kN => exact rfl); (case kR => exact rfl); (case kP => exact rfl); (case kS => exact fun _ => rfl); (case kB => exact fun _ => locs rfl); (case c5 => decide); (case c2 => exact rfl); (case c3 => exact rfl); (case c4 => exact rfl); k_whole; intro D' o' g' L' h' tk' l1 lo' hs' l3 FG' F' N' B' X' T'; (try k_lt l1); (replace l3 := allLt_of l3); (try simp only [AllLt, and_true] at l3); (try dsimp only); (try k_lift B')))
local macro_rules | `(tactic| walk_at "call ref") => `(tactic| (k_here; k_dflt (refine' call_cls ?k1 ?k2 ?k3 ?k4 ?k5 ?k6 ?_; (case k1 => k_asm); (case k2 => k_asm); (case k3 => k_asm); (case k4 => k_is); (case k5 => k_is); (case k6 => k_is); k_whole; intro x' d' h' F' N' l1 l2; (have l3 := tbn_up l2 (allLt_of l1)); (try simp only [AllLt, and_true] at l3); (replace l1 := allLt_of l1); (try simp only [AllLt, and_true] at l1); (try k_lt2 l2); (try k_sweep); first | k_enter | walk_at "V super" | walk_at "V both" | walk_at "V more")))
local macro_rules | `(tactic| walk_at "call ref") => `(tactic| (k_here; k_dflt (refine' call_meth ?k1 ?k2 ?_; (case k1 => k_asm); (case k2 => k_mem); first | k_enter | walk_at "V super" | walk_at "V both" | walk_at "V more")))
local macro_rules | `(tactic| walk_at "getMethod ref") => `(tactic| (k_here; (with_reducible show wpAny _ _ (getMethod (Value.ref _) (Str.ofString "get") _) _ _ _); k_dflt (first
  | refine kdg_method (knd := PySem.strKind _ _) (by k_asm) (by k_mem) (by k_asm) ?_
  | refine kdg_method (knd := PySem.intKind _ _) (by k_asm) (by k_mem) (by k_asm) ?_)))
local macro_rules | `(tactic| walk_at "call builtin:dict.get") => `(tactic| (k_here; k_dflt (first
  | refine kdg_get2 (knd := PySem.strKind _ _) (by k_asm) (by k_mem) (by k_asm) (by k_asm) (strKind_is _ _ _ _) (some _) (by rfl) ?_
  | refine kdg_get2 (knd := PySem.strKind _ _) (by k_asm) (by k_mem) (by k_asm) (by k_asm) (strKind_is _ _ _ _) none (by rfl) ?_); (try dsimp only [Option.getD])))
local macro_rules | `(tactic| walk_at "wpAt") => `(tactic| (ks_step "eval Call"; refine v_wpAt_superKw (by rfl) ?_))
local macro_rules | `(tactic| walk_at "getAttr ref") => `(tactic| (k_here; ks_any; k_dflt (refine' v_superAttr ?k1 ?k2 ?k3 ?k4 ?k5 ?k6 ?k7 ?k8 ?k9 ?_; (case k1 => k_asm); (case k2 => k_asm); (case k3 => k_asm); (case k4 => k_mem); (case k5 => k_inst); (case k6 => k_is); (case k7 => ks_is); (case k8 => k_is); (case k9 => decide); intro q' h' F' N' l1; (replace l1 := allLt_of l1); (try simp only [AllLt, and_true] at l1))))
local macro_rules | `(tactic| walk_at "callWith ref") => `(tactic| (k_here; k_dflt (refine' v_callKwM ?k1 ?k2 ?k3 ?k4 ?k5 ?_; (case k1 => k_asm); (case k2 => k_asm); (case k3 => k_mem); (case k4 => k_is); (case k5 => rfl); k_whole)))
local macro_rules | `(tactic| walk_at "evalArgs") => `(tactic| (k_here; k_dflt (refine v_evalArgsE (by rfl) ?_)))
local macro_rules | `(tactic| walk_at "mergedKeywords") => `(tactic| (k_here; (with_reducible show wpAny _ _ (mergedKeywords _ (backToKw _ (keywordEach [PySem.Keyword.mk Option.none _ _] _))) _ _ _); k_dflt (refine v_mergedE0 (by k_asm) (by k_asm) ?_; intro d' h' F' N' l1; (replace l1 := allLt_of l1); (try simp only [AllLt, and_true] at l1))))
local macro_rules | `(tactic| walk_at "mergedKeywords") => `(tactic| (k_here; (with_reducible show wpAny _ _ (mergedKeywords _ (backToKw _ (keywordEach [PySem.Keyword.mk (Option.some _) _ _, PySem.Keyword.mk Option.none _ _] _))) _ _ _); k_dflt (refine' v_mergedE1 ?k1 ?k2 ?k3 ?kv ?_; (case k1 => k_asm); (case k2 => k_asm); (case k3 => exact Top.nolimit (by k_asm)); (case kv => (intro s9 R9 F9 h9; walk_at "eval Name"; exact h9)); intro d' h' sub' tk' F' N' l1 l2; (replace l1 := allLt_of l1); (try simp only [AllLt, and_true] at l1); (try k_lt2 l2))))
local macro_rules | `(tactic| walk_at "Exists") => `(tactic| (k_here; k_dflt (refine v_kwEnd (by k_asm) (by k_mem) (by k_mem) (by k_asm) (by k_asm) ?_)))
local macro_rules | `(tactic| walk_at "keywordsIn") => `(tactic| (k_here; k_dflt (first | refine v_kwIn0 (News.get (by k_asm) (by k_mem)) ?_ | refine v_kwIn1 (News.get (by k_asm) (by k_mem)) ?_)))
local macro_rules | `(tactic| walk_at "V enter") => `(tactic| (refine' code_def ?k1 ?k2 ?k3 ?k4 ?k5 ?kA ?kF ?kK ?k6 ?k7 ?k8 ?k9 ?kB ?_ ?c2 ?c3 ?c4 ?c5; (case kA => exact rfl); (case kF => exact rfl); (case kK => first | exact rfl | assumption); (case k1 => k_asm); (case k2 => k_asm); (case k3 => k_asm); (case k4 => k_asm); (case k5 => k_asm); (case k6 => k_is); (case k7 => k_is); (case k8 => k_room); (case k9 => first | exact BindsTo.of_eq rfl | exact binds_K (by k_in) rfl (by k_is) rfl rfl rfl | fail "V enter: no rule for these arguments"); (case c5 => decide); (case kB => exact locs rfl); (case c2 => exact rfl); (case c3 => exact rfl); (case c4 => exact rfl); k_whole; intro g' L' h' FG' F' N' B' X' T'; (try dsimp only); (try k_fold)))
local macro_rules | `(tactic| walk_at "exec For Name Attribute cons nil") => `(tactic| (k_here; (rename Fr _ _ _ _ => lF'); (with_unfolding_all refine' For_turns lF' ?_; k_whole)))
local macro_rules | `(tactic| walk_at "pyIter ref") => `(tactic| (k_here; (with_reducible show wpAny _ _ (pyIter (Value.ref _)) (fun it s₂ => TurnsAt _ _ _ _ _ _ _ _ _ it s₂) _ _); (rename Fr _ _ _ _ => lF'); (rename News _ _ _ _ => lN'); (with_unfolding_all refine' iter_tupTurns (n := 0) ?hh lF' lN' ?hm ?hc ?hd ?_; (case hh => rfl); (case hm => k_mem); (case hc => rfl); (case hd => rfl)); clear lF' lN'; intro i' l1; (replace l1 := allLt_of l1); (try simp only [AllLt, and_true] at l1); (try dsimp only [List.map])))
local macro_rules | `(tactic| k_mem) => `(tactic| exact List.mem_append_right _ (by assumption))
local macro_rules | `(tactic| k_all) => `(tactic| assumption)
local macro_rules | `(tactic| walk_at "getMethod ref") => `(tactic| (k_here; (with_reducible show wpAny _ _ (getMethod (Value.ref _) (Str.ofString "match_core") _) _ _ _); (rename MCs _ _ _ _ _ _ _ _ _ _ _ _ _ _ => lM'); k_dflt (refine' v_getMC' lM' ?k1 ?k2 ?k3 ?k4 ?k5 ?k6 ?_; (case k1 => k_asm); (case k2 => k_asm); (case k3 => k_asm); (case k4 => (repeat (first | exact SplitL.nil | apply SplitL.cons))); (case k5 => assumption); (case k6 => assumption))))
local macro_rules | `(tactic| walk_at "call ref") => `(tactic| (k_here; (with_reducible show wpAny _ _ (call (Value.ref 266) _) _ _ _); (rename MCs _ _ _ _ _ _ _ _ _ _ _ _ _ _ => lM'); k_dflt (refine' v_callMCz lM' ?k1 ?k2 ?k3 ?k4 ?k5 ?k6 ?k7 ?k8 ?k9 ?kA ?kB ?kC ?kD ?kE ?_; (case k1 => k_asm); (case k2 => k_asm); (case k3 => k_asm); (case k4 => k_asm); (case k5 => k_asm); (case k6 => (repeat (first | exact SplitL.nil | apply SplitL.cons))); (case k7 => assumption); (case k8 => assumption); (case k9 => omega); (case kA => exact rfl); (case kB => k_room); (case kC => k_units); (case kD => (repeat (first | exact OffL.nil | refine OffL.cons (by k_all) ?_))); (case kE => assumption)); intro v' W' h' tk' F' N' hA'; (try simp only [List.cons_append, List.nil_append] at N')))
local macro_rules | `(tactic| walk_at "call ref") => `(tactic| (k_here; (with_reducible show wpAny _ _ (call (Value.ref 266) _) _ _ _); (rename MCs _ _ _ _ _ _ _ _ _ _ _ _ _ _ => lM'); k_dflt (refine' v_callMC lM' ?k1 ?k2 ?k3 ?k4 ?k5 ?k6 ?k7 ?k8 ?k9 ?kA ?kB ?kC ?kD ?kE ?_; (case k1 => k_asm); (case k2 => k_asm); (case k3 => k_asm); (case k4 => k_asm); (case k5 => k_asm); (case k6 => (repeat (first | exact SplitL.nil | apply SplitL.cons))); (case k7 => assumption); (case k8 => assumption); (case k9 => first | assumption | omega); (case kA => exact rfl); (case kB => k_room); (case kC => k_units); (case kD => (repeat (first | exact OffL.nil | refine OffL.cons (by k_all) ?_))); (case kE => assumption)); intro v' W' h' tk' F' N' hA'; (try simp only [List.cons_append, List.nil_append] at N')))
local macro_rules | `(tactic| walk_at "truthy ref") => `(tactic| (k_here; (with_reducible show wpAny _ _ (truthy (Value.ref _)) _ _ _); k_dflt (refine v_truthyL (by k_asm) (by k_mem) (by first | assumption | exact Nat.le_of_ble_eq_true rfl | omega) ?_); (try simp only [List.isEmpty_toArray, List.isEmpty_cons, List.isEmpty_nil, Array.isEmpty_push, Bool.not_false, Bool.not_true])))
local macro_rules | `(tactic| walk_at "UnrEndW") => `(tactic| (refine' v_end ?k1 ?k2 ?k3 ?k4 (And.intro (And.intro ?k5 trivial) ?_); (case k1 => k_asm); (case k2 => k_asm); (case k3 => rfl); (case k4 => (repeat (first | exact OffL.nil | refine OffL.cons (by k_all) ?_))); (case k5 => k_mem)))
local macro_rules | `(tactic| walk_at "V end") => `(tactic| (refine' um_end2 ?k1 ?k2 ?k3 ?k4 ?k5 ?k6 ?k7 ?k8 ?k9; (case k1 => k_asm); (case k2 => k_asm); (case k3 => (repeat (first | exact PickL.nil | apply PickL.skip (by assumption) | apply PickL.skipL | apply PickL.cons))); (case k9 => assumption); (case k4 => assumption); (case k5 => assumption); (case k6 => assumption); (case k7 => (repeat (first | exact NewL.nil | refine' NewL.cons ?_ (by k_all) (by k_all) (v_lt1 (by assumption) (by tbn_find)) rfl))); (case k8 => first | exact ⟨_, _, _, _, _, _, _, rfl, .head _, .tail _ (.head _)⟩ | exact rfl)))
local macro_rules | `(tactic| walk_at "WhlRest") => `(tactic| (refine unHalt ?_))
local macro_rules | `(tactic| walk_at "call builtin:len") => `(tactic| (k_here; (with_reducible show wpAny _ _ (call (Value.builtin "len") [Value.ref _]) _ _ _); k_dflt (refine v_lenL (by k_asm) (by k_mem) (by first | assumption | (rw [Array.size_push]; exact congrArg (· + 1) (by assumption))) (by omega) ?_)))
local macro_rules | `(tactic| walk_at "compareOp Lt int float") => `(tactic| (refine lt_if ?_; rw [inf_gt]))
variable {w : World} {p : Program} {loose : List Str} {mean : ExcName → Option Value} {mg mb : Str → Option Value}
theorem w_quant {Ok : Led → Prop} {Kid : Addr → Prop} {f : Addr → Nat → Option Nat} {D U : Nat} {t : Str} {t1 tk2 tk3 : Tok} {k : Nat} {x dx mt it ca er xa : Addr}  {mn : Nat} {mx : Option Nat} {tm : Tok} {vx : Value} {W : Led}
  (M : MCs w p loose mean mg mb Ok Kid f ca er t D U) (hok : Ok W) (ha : Kid xa)
  (hx : (x, quantO dx mt it (.int (mn : Int) tm) vx t1) ∈ W) (hN' : NodeAt W x dx) (hm : (mt, tupO [.ref xa]) ∈ W) (ht : t.length ≤ 8) (hp : k ≤ t.length) (hmx : MaxIs mx vx) (hmn : mn ≤ 2) (hmxl : ∀ n, mx = some n → n ≤ 3) :
  CallOk w p loose mean mg mb 493 (D + 20) (U + 200) W [.ref x, .str t tk2, .int k tk3, .ref ca, .ref er] (UmPost Ok W t k (if mn ≤ (qrun (f xa) t.length mn mx (t.length + mn + 1) 0 k).1 then some (qrun (f xa) t.length mn mx (t.length + mn + 1) 0 k).2 else none)) := by
  intro dp un gd cn cs a ccd cl outer A₀ base h₀ L m own s Q E B F X N T hk hd hu hown hQ
  obtain ⟨od0, hdx⟩ := hN'.dict
  have hne : x ≠ mt := N.twoPlaces (List.mem_append_right _ hx) (List.mem_append_right _ hm) (by simp)
  have M0 := M
  w_top off
  revert X; k_fill; intro X
  refine wpAny_call ?_
  k_dflt (walk_at "V enter")
  rcases mx with _ | mx
  · obtain ⟨tm2, rfl⟩ := hmx
    k_steps
    unfold Halt
    rename_i G LL h1 FG BB XX TT tka h2 ll h3 hlt h4 tkb h5 hF hN
    refine q_ind (g := f xa) (mn := mn) (mx := none) hF hN rfl (fun q hq => Nat.ne_of_lt (hlt q hq)) hown hok hp ?_
    clear hF hN hlt
    intro j n p' tk1 nv lv xs xn W' h' tk6 hF hN q0 hown' hok' kp0 hxs hk' hp' hj hnj hR IH
    have hx1 := kp0.imm _ hx rfl
    have hm1 := kp0.imm _ hm rfl
    obtain ⟨od1, hd1⟩ := (kp0.node _ _ hN').dict
    refine whl_turn (by passes_own) ?_
    have lo0 : LoW _ := ⟨_, _, _, _, hx1, hm1, hne⟩
    k_steps
    · rename AfterC _ _ _ _ _ _ _ _ _ => hA
      obtain ⟨o1, o2, ok1, kp1, an1⟩ := hA
      have hps : p' < t.length := by omega
      have hx2 := kp1.imm _ hx1 rfl
      have hm2 := kp1.imm _ hm1 rfl
      obtain ⟨od2, hd2⟩ := ((kp0.trans kp1).node _ _ hN').dict
      have q1 := o1.find (.head _)
      have kp := kp0.trans kp1
      have lo1 : LoW _ := ⟨_, _, _, _, hx2, hm2, hne⟩
      rcases ans_cases an1 with ⟨e1, rfl⟩ | ⟨q, nd, dn, ch, x1, tt, ts, te, e1, rfl, m1, m2⟩
      · have eR : qrun (f xa) t.length mn none (t.length + mn + 1) 0 k = (n, p') := by rw [← hR, qrun_go hps rfl, e1]
        rw [eR] at hQ
        dsimp only at hQ
        k_steps
        all_goals (first | (rw [if_pos (by omega)] at hQ; k_dflt (walk_at "V end")) | (rw [if_neg (by omega)] at hQ; k_dflt (walk_at "V end")))
      · have fw := M.fwd xa ha p' q hp' e1
        have hxs2 : (xs.push (Value.ref nd)).size = n + 1 := by rw [Array.size_push, hxs]
        have eG : qrun (f xa) t.length mn none (j + 1) n p' = if mn ≤ n + 1 ∧ q = p' then (n + 1, p') else qrun (f xa) t.length mn none j (n + 1) q := by rw [qrun_go hps rfl, e1]
        k_steps
        · have eR : qrun (f xa) t.length mn none (t.length + mn + 1) 0 k = (n + 1, p') := by rw [← hR, eG, if_pos ⟨by omega, by omega⟩]
          rw [eR] at hQ
          dsimp only at hQ
          rw [if_pos (by omega)] at hQ
          k_dflt (walk_at "V end")
        all_goals (
          rename Fr _ _ _ _ => hF2
          rename News _ _ _ _ => hN2
          rw [show (p' : Int) + ((q : Int) - (p' : Int)) = q by omega] at hF2
          exact IH (n + 1) q _ _ _ _ _ _ _ _ (fr_ext hF2 q_map) hN2 q1 o2 ok1 kp hxs2 (by omega) fw.2 (by omega) (by omega) (by rw [← hR, eG, if_neg (by omega)]))
    all_goals (
      have eR : qrun (f xa) t.length mn none (t.length + mn + 1) 0 k = (n, p') := by rw [← hR, qrun_end (fun h => by omega)]
      rw [eR] at hQ
      dsimp only at hQ
      first | (rw [if_pos (by omega)] at hQ; k_dflt (walk_at "V end")) | (rw [if_neg (by omega)] at hQ; k_dflt (walk_at "V end")))
  · obtain ⟨tm2, rfl⟩ := hmx
    k_steps
    unfold Halt
    rename_i G LL h1 FG BB XX TT tka h2 ll h3 hlt h4 tkb h5 hF hN
    refine q_ind (g := f xa) (mn := mn) (mx := some mx) hF hN rfl (fun q hq => Nat.ne_of_lt (hlt q hq)) hown hok hp ?_
    clear hF hN hlt
    intro j n p' tk1 nv lv xs xn W' h' tk6 hF hN q0 hown' hok' kp0 hxs hk' hp' hj hnj hR IH
    have hx1 := kp0.imm _ hx rfl
    have hm1 := kp0.imm _ hm rfl
    obtain ⟨od1, hd1⟩ := (kp0.node _ _ hN').dict
    refine whl_turn (by passes_own) ?_
    have lo0 : LoW _ := ⟨_, _, _, _, hx1, hm1, hne⟩
    k_steps
    · rename AfterC _ _ _ _ _ _ _ _ _ => hA
      obtain ⟨o1, o2, ok1, kp1, an1⟩ := hA
      have hps : p' < t.length := by omega
      have hun : under n (some mx) = true := decide_eq_true (by omega)
      have hx2 := kp1.imm _ hx1 rfl
      have hm2 := kp1.imm _ hm1 rfl
      obtain ⟨od2, hd2⟩ := ((kp0.trans kp1).node _ _ hN').dict
      have q1 := o1.find (.head _)
      have kp := kp0.trans kp1
      have lo1 : LoW _ := ⟨_, _, _, _, hx2, hm2, hne⟩
      rcases ans_cases an1 with ⟨e1, rfl⟩ | ⟨q, nd, dn, ch, x1, tt, ts, te, e1, rfl, m1, m2⟩
      · have eR : qrun (f xa) t.length mn (some mx) (t.length + mn + 1) 0 k = (n, p') := by rw [← hR, qrun_go hps hun, e1]
        rw [eR] at hQ
        dsimp only at hQ
        k_steps
        all_goals (first | (rw [if_pos (by omega)] at hQ; k_dflt (walk_at "V end")) | (rw [if_neg (by omega)] at hQ; k_dflt (walk_at "V end")))
      · have fw := M.fwd xa ha p' q hp' e1
        have hxs2 : (xs.push (Value.ref nd)).size = n + 1 := by rw [Array.size_push, hxs]
        have eG : qrun (f xa) t.length mn (some mx) (j + 1) n p' = if mn ≤ n + 1 ∧ q = p' then (n + 1, p') else qrun (f xa) t.length mn (some mx) j (n + 1) q := by rw [qrun_go hps hun, e1]
        k_steps
        · have eR : qrun (f xa) t.length mn (some mx) (t.length + mn + 1) 0 k = (n + 1, p') := by rw [← hR, eG, if_pos ⟨by omega, by omega⟩]
          rw [eR] at hQ
          dsimp only at hQ
          rw [if_pos (by omega)] at hQ
          k_dflt (walk_at "V end")
        all_goals (
          rename Fr _ _ _ _ => hF2
          rename News _ _ _ _ => hN2
          rw [show (p' : Int) + ((q : Int) - (p' : Int)) = q by omega] at hF2
          exact IH (n + 1) q _ _ _ _ _ _ _ _ (fr_ext hF2 q_map) hN2 q1 o2 ok1 kp hxs2 (by omega) fw.2 (by omega) (by omega) (by rw [← hR, eG, if_neg (by omega)]))
    all_goals (
      have eR : qrun (f xa) t.length mn (some mx) (t.length + mn + 1) 0 k = (n, p') := by rw [← hR, qrun_end (fun h => by have := of_decide_eq_true (p := n < mx) h.2; omega)]
      rw [eR] at hQ
      dsimp only at hQ
      first | (rw [if_pos (by omega)] at hQ; k_dflt (walk_at "V end")) | (rw [if_neg (by omega)] at hQ; k_dflt (walk_at "V end")))

end Mine
end

-- VWCore
section
open PySem PySem.W PyProof.Rows PySem.Calls
set_option Elab.async false
set_option maxRecDepth 100000
set_option maxHeartbeats 4000000
namespace Mine
local macro_rules | `(tactic| k_room) => `(tactic| ktr_room)
local macro_rules | `(tactic| k_units) => `(tactic| ktr_units)
local macro_rules | `(tactic| walk_at "V super") => `(tactic| (refine' ks_code_super ?k1 ?k2 ?k3 ?k4 ?k5 ?kA ?kF ?kK ?k6 ?k7 ?k8 ?k9 ?kB ?_ ?c1 ?c2 ?c3 ?c4; (case kA => exact rfl); (case kF => exact rfl); (case kK => first | exact rfl | assumption); (case k1 => k_asm); (case k2 => k_asm); (case k3 => k_asm); (case k4 => k_asm); (case k5 => k_asm); (case k6 => k_is); (case k7 => k_is); (case k8 => k_room); (case k9 => first | exact BindsTo.of_eq rfl | exact binds_K (by k_in) rfl (by k_is) rfl rfl rfl); (case kB => exact locs rfl); (case c1 => decide); (case c2 => exact rfl); (case c3 => exact rfl); (case c4 => exact rfl); intro g' L' h' FG' F' N' B' X' T' l1; (try k_lt l1); (try dsimp only); (try k_lift B')))
local macro_rules | `(tactic| k_mem) => `(tactic| assumption)
local macro_rules | `(tactic| walk_at "call ref") => `(tactic| (k_here; k_dflt (refine' call_cls ?k1 ?k2 ?k3 ?k4 ?k5 ?k6 ?_; (case k1 => k_asm); (case k2 => k_asm); (case k3 => k_asm); (case k4 => k_is); (case k5 => k_is); (case k6 => k_is); k_whole; intro x' d' h' F' N' l1 l2; (have l3 := tbn_up l2 (allLt_of l1)); (try simp only [AllLt, and_true] at l3); (replace l1 := allLt_of l1); (try simp only [AllLt, and_true] at l1); (try k_lt2 l2); (try k_sweep); first | k_enter | walk_at "V super")))
local macro_rules | `(tactic| walk_at "V both") => `(tactic| (refine' v_bothS ?k1 ?k2 ?k3 ?k4 ?k5 ?kA ?kF ?kK ?k6 ?k7 ?k8 ?kV ?kX ?kQ ?kM ?kN ?kR ?kP ?kS ?kT ?kB ?_ ?c2 ?c3 ?c4 ?c5; (case kA => exact rfl); (case kF => exact rfl); (case kK => first | exact rfl | assumption); (case k1 => k_asm); (case k2 => k_asm); (case k3 => k_asm); (case k4 => k_asm); (case k5 => k_asm); (case k6 => k_is); (case k7 => k_is); (case k8 => k_room); (case kV => kp_lit); (case kX => kp_lit); (case kQ => exact rfl); (case kM => exact rfl); (case kN => exact rfl); (case kR => exact rfl); (case kP => exact rfl); (case kS => exact fun _ => rfl); (case kT => exact fun _ _ => rfl); (case kB => exact fun _ _ => locs rfl); (case c5 => decide); (case c2 => exact rfl); (case c3 => exact rfl); (case c4 => exact rfl); k_whole; intro C' D' o' g' L' h' tk' l1 l2 lo' hs' l3 FG' F' N' B' X' T'; (try k_lt l1); (try k_lt2 l2); (replace l3 := allLt_of l3); (try simp only [AllLt, and_true] at l3); (try dsimp only); (try k_lift B')))
local macro_rules | `(tactic| walk_at "V more") => `(tactic| (refine' v_moreS ?k1 ?k2 ?k3 ?k4 ?k5 ?kA ?kF ?kK ?k6 ?k7 ?k8 ?kX ?kM ?kN ?kR ?kP ?kS ?kB ?_ ?c2 ?c3 ?c4 ?c5; (case kA => exact rfl); (case kF => exact rfl); (case kK => first | exact rfl | assumption); (case k1 => k_asm); (case k2 => k_asm); (case k3 => k_asm); (case k4 => k_asm); (case k5 => k_asm); (case k6 => k_is); (case k7 => k_is); (case k8 => k_room); (case kX => kp_lit); (case kM => exact rfl); (case kN => exact rfl); (case kR => exact rfl); (case kP => exact rfl); (case kS => exact fun _ => rfl); (case kB => exact fun _ => locs rfl); (case c5 => decide); (case c2 => exact rfl); (case c3 => exact rfl); (case c4 => exact rfl); k_whole; intro D' o' g' L' h' tk' l1 lo' hs' l3 FG' F' N' B' X' T'; (try k_lt l1); (replace l3 := allLt_of l3); (try simp only [AllLt, and_true] at l3); (try dsimp only); (try k_lift B')))
local macro_rules | `(tactic| walk_at "call ref") => `(tactic| (k_here; k_dflt (refine' call_cls ?k1 ?k2 ?k3 ?k4 ?k5 ?k6 ?_; (case k1 => k_asm); (case k2 => k_asm); (case k3 => k_asm); (case k4 => k_is); (case k5 => k_is); (case k6 => k_is); k_whole; intro x' d' h' F' N' l1 l2; (have l3 := tbn_up l2 (allLt_of l1)); (try simp only [AllLt, and_true] at l3); (replace l1 := allLt_of l1); (try simp only [AllLt, and_true] at l1); (try k_lt2 l2); (try k_sweep); first | k_enter | walk_at "V super" | walk_at "V both" | walk_at "V more")))
local macro_rules | `(tactic| walk_at "call ref") => `(tactic| (k_here; k_dflt (refine' call_meth ?k1 ?k2 ?_; (case k1 => k_asm); (case k2 => k_mem); first | k_enter | walk_at "V super" | walk_at "V both" | walk_at "V more")))
local macro_rules | `(tactic| walk_at "getMethod ref") => `(tactic| (k_here; (with_reducible show wpAny _ _ (getMethod (Value.ref _) (Str.ofString "get") _) _ _ _); k_dflt (first
  | refine kdg_method (knd := PySem.strKind _ _) (by k_asm) (by k_mem) (by k_asm) ?_
  | refine kdg_method (knd := PySem.intKind _ _) (by k_asm) (by k_mem) (by k_asm) ?_)))
local macro_rules | `(tactic| walk_at "call builtin:dict.get") => `(tactic| (k_here; k_dflt (first
  | refine kdg_get2 (knd := PySem.strKind _ _) (by k_asm) (by k_mem) (by k_asm) (by k_asm) (strKind_is _ _ _ _) (some _) (by rfl) ?_
  | refine kdg_get2 (knd := PySem.strKind _ _) (by k_asm) (by k_mem) (by k_asm) (by k_asm) (strKind_is _ _ _ _) none (by rfl) ?_); (try dsimp only [Option.getD])))
local macro_rules | `(tactic| walk_at "wpAt") => `(tactic| (ks_step "eval Call"; refine v_wpAt_superKw (by rfl) ?_))
local macro_rules | `(tactic| walk_at "getAttr ref") => `(tactic| (k_here; ks_any; k_dflt (refine' v_superAttr ?k1 ?k2 ?k3 ?k4 ?k5 ?k6 ?k7 ?k8 ?k9 ?_; (case k1 => k_asm); (case k2 => k_asm); (case k3 => k_asm); (case k4 => k_mem); (case k5 => k_inst); (case k6 => k_is); (case k7 => ks_is); (case k8 => k_is); (case k9 => decide); intro q' h' F' N' l1; (replace l1 := allLt_of l1); (try simp only [AllLt, and_true] at l1))))
local macro_rules | `(tactic| walk_at "callWith ref") => `(tactic| (k_here; k_dflt (refine' v_callKwM ?k1 ?k2 ?k3 ?k4 ?k5 ?_; (case k1 => k_asm); (case k2 => k_asm); (case k3 => k_mem); (case k4 => k_is); (case k5 => rfl); k_whole)))
local macro_rules | `(tactic| walk_at "evalArgs") => `(tactic| (k_here; k_dflt (refine v_evalArgsE (by rfl) ?_)))
local macro_rules | `(tactic| walk_at "mergedKeywords") => `(tactic| (k_here; (with_reducible show wpAny _ _ (mergedKeywords _ (backToKw _ (keywordEach [PySem.Keyword.mk Option.none _ _] _))) _ _ _); k_dflt (refine v_mergedE0 (by k_asm) (by k_asm) ?_; intro d' h' F' N' l1; (replace l1 := allLt_of l1); (try simp only [AllLt, and_true] at l1))))
local macro_rules | `(tactic| walk_at "mergedKeywords") => `(tactic| (k_here; (with_reducible show wpAny _ _ (mergedKeywords _ (backToKw _ (keywordEach [PySem.Keyword.mk (Option.some _) _ _, PySem.Keyword.mk Option.none _ _] _))) _ _ _); k_dflt (refine' v_mergedE1 ?k1 ?k2 ?k3 ?kv ?_; (case k1 => k_asm); (case k2 => k_asm); (case k3 => exact Top.nolimit (by k_asm)); (case kv => (intro s9 R9 F9 h9; walk_at "eval Name"; exact h9)); intro d' h' sub' tk' F' N' l1 l2; (replace l1 := allLt_of l1); (try simp only [AllLt, and_true] at l1); (try k_lt2 l2))))
local macro_rules | `(tactic| walk_at "Exists") => `(tactic| (k_here; k_dflt (refine v_kwEnd (by k_asm) (by k_mem) (by k_mem) (by k_asm) (by k_asm) ?_)))
local macro_rules | `(tactic| walk_at "keywordsIn") => `(tactic| (k_here; k_dflt (first | refine v_kwIn0 (News.get (by k_asm) (by k_mem)) ?_ | refine v_kwIn1 (News.get (by k_asm) (by k_mem)) ?_)))
local macro_rules | `(tactic| walk_at "V enter") => `(tactic| (refine' code_def ?k1 ?k2 ?k3 ?k4 ?k5 ?kA ?kF ?kK ?k6 ?k7 ?k8 ?k9 ?kB ?_ ?c2 ?c3 ?c4 ?c5; (case kA => exact rfl); (case kF => exact rfl); (case kK => first | exact rfl | assumption); (case k1 => k_asm); (case k2 => k_asm); (case k3 => k_asm); (case k4 => k_asm); (case k5 => k_asm); (case k6 => k_is); (case k7 => k_is); (case k8 => k_room); (case k9 => first | exact BindsTo.of_eq rfl | exact binds_K (by k_in) rfl (by k_is) rfl rfl rfl | fail "V enter: no rule for these arguments"); (case c5 => decide); (case kB => exact locs rfl); (case c2 => exact rfl); (case c3 => exact rfl); (case c4 => exact rfl); k_whole; intro g' L' h' FG' F' N' B' X' T'; (try dsimp only); (try k_fold)))
local macro_rules | `(tactic| walk_at "exec For Name Attribute cons nil") => `(tactic| (k_here; (rename Fr _ _ _ _ => lF'); (with_unfolding_all refine' For_turns lF' ?_; k_whole)))
local macro_rules | `(tactic| walk_at "pyIter ref") => `(tactic| (k_here; (with_reducible show wpAny _ _ (pyIter (Value.ref _)) (fun it s₂ => TurnsAt _ _ _ _ _ _ _ _ _ it s₂) _ _); (rename Fr _ _ _ _ => lF'); (rename News _ _ _ _ => lN'); (with_unfolding_all refine' iter_tupTurns (n := 0) ?hh lF' lN' ?hm ?hc ?hd ?_; (case hh => rfl); (case hm => k_mem); (case hc => rfl); (case hd => rfl)); clear lF' lN'; intro i' l1; (replace l1 := allLt_of l1); (try simp only [AllLt, and_true] at l1); (try dsimp only [List.map])))
local macro_rules | `(tactic| k_mem) => `(tactic| exact List.mem_append_right _ (by assumption))
local macro_rules | `(tactic| k_all) => `(tactic| assumption)
local macro_rules | `(tactic| walk_at "getMethod ref") => `(tactic| (k_here; (with_reducible show wpAny _ _ (getMethod (Value.ref _) (Str.ofString "match_core") _) _ _ _); (rename MCs _ _ _ _ _ _ _ _ _ _ _ _ _ _ => lM'); k_dflt (refine' v_getMC' lM' ?k1 ?k2 ?k3 ?k4 ?k5 ?k6 ?_; (case k1 => k_asm); (case k2 => k_asm); (case k3 => k_asm); (case k4 => (repeat (first | exact SplitL.nil | apply SplitL.cons))); (case k5 => assumption); (case k6 => assumption))))
local macro_rules | `(tactic| walk_at "call ref") => `(tactic| (k_here; (with_reducible show wpAny _ _ (call (Value.ref 266) _) _ _ _); (rename MCs _ _ _ _ _ _ _ _ _ _ _ _ _ _ => lM'); k_dflt (refine' v_callMCz lM' ?k1 ?k2 ?k3 ?k4 ?k5 ?k6 ?k7 ?k8 ?k9 ?kA ?kB ?kC ?kD ?kE ?_; (case k1 => k_asm); (case k2 => k_asm); (case k3 => k_asm); (case k4 => k_asm); (case k5 => k_asm); (case k6 => (repeat (first | exact SplitL.nil | apply SplitL.cons))); (case k7 => assumption); (case k8 => assumption); (case k9 => omega); (case kA => exact rfl); (case kB => k_room); (case kC => k_units); (case kD => (repeat (first | exact OffL.nil | refine OffL.cons (by k_all) ?_))); (case kE => assumption)); intro v' W' h' tk' F' N' hA'; (try simp only [List.cons_append, List.nil_append] at N')))
local macro_rules | `(tactic| walk_at "call ref") => `(tactic| (k_here; (with_reducible show wpAny _ _ (call (Value.ref 266) _) _ _ _); (rename MCs _ _ _ _ _ _ _ _ _ _ _ _ _ _ => lM'); k_dflt (refine' v_callMC lM' ?k1 ?k2 ?k3 ?k4 ?k5 ?k6 ?k7 ?k8 ?k9 ?kA ?kB ?kC ?kD ?kE ?_; (case k1 => k_asm); (case k2 => k_asm); (case k3 => k_asm); (case k4 => k_asm); (case k5 => k_asm); (case k6 => (repeat (first | exact SplitL.nil | apply SplitL.cons))); (case k7 => assumption); (case k8 => assumption); (case k9 => first | assumption | omega); (case kA => exact rfl); (case kB => k_room); (case kC => k_units); (case kD => (repeat (first | exact OffL.nil | refine OffL.cons (by k_all) ?_))); (case kE => assumption)); intro v' W' h' tk' F' N' hA'; (try simp only [List.cons_append, List.nil_append] at N')))
local macro_rules | `(tactic| walk_at "truthy ref") => `(tactic| (k_here; (with_reducible show wpAny _ _ (truthy (Value.ref _)) _ _ _); k_dflt (refine v_truthyL (by k_asm) (by k_mem) (by first | assumption | exact Nat.le_of_ble_eq_true rfl | omega) ?_); (try simp only [List.isEmpty_toArray, List.isEmpty_cons, List.isEmpty_nil, Array.isEmpty_push, Bool.not_false, Bool.not_true])))
local macro_rules | `(tactic| walk_at "UnrEndW") => `(tactic| (refine' v_end ?k1 ?k2 ?k3 ?k4 (And.intro (And.intro ?k5 trivial) ?_); (case k1 => k_asm); (case k2 => k_asm); (case k3 => rfl); (case k4 => (repeat (first | exact OffL.nil | refine OffL.cons (by k_all) ?_))); (case k5 => k_mem)))
local macro_rules | `(tactic| walk_at "V end") => `(tactic| (refine' um_end2 ?k1 ?k2 ?k3 ?k4 ?k5 ?k6 ?k7 ?k8 ?k9; (case k1 => k_asm); (case k2 => k_asm); (case k3 => (repeat (first | exact PickL.nil | apply PickL.skip (by assumption) | apply PickL.skipL | apply PickL.cons))); (case k9 => assumption); (case k4 => assumption); (case k5 => assumption); (case k6 => assumption); (case k7 => (repeat (first | exact NewL.nil | refine' NewL.cons ?_ (by k_all) (by k_all) (v_lt1 (by assumption) (by tbn_find)) rfl))); (case k8 => first | exact ⟨_, _, _, _, _, _, _, rfl, .head _, .tail _ (.head _)⟩ | exact rfl)))
local macro_rules | `(tactic| walk_at "WhlRest") => `(tactic| (refine unHalt ?_))
local macro_rules | `(tactic| walk_at "call builtin:len") => `(tactic| (k_here; (with_reducible show wpAny _ _ (call (Value.builtin "len") [Value.ref _]) _ _ _); k_dflt (refine v_lenL (by k_asm) (by k_mem) (by first | assumption | (rw [Array.size_push]; exact congrArg (· + 1) (by assumption))) (by omega) ?_)))
local macro_rules | `(tactic| walk_at "compareOp Lt int float") => `(tactic| (refine lt_if ?_; rw [inf_gt]))
local macro_rules | `(tactic| walk_at "call builtin:getattr") => `(tactic| (k_here; (with_reducible show wpAny _ _ (call (Value.builtin "getattr") [Value.ref _, Value.str _ _, _]) _ _ _); k_dflt (first
  | (refine' v_own3 ?k1 ?k2 ?k3 ?k4 ?k5 ?k6 ?k7 ?k8 ?k9 ?kA ?kB ?_; (case k1 => k_asm); (case k2 => k_asm); (case k3 => k_inst); (case k4 => k_is); (case k5 => k_is); (case k6 => k_is); (case k7 => k_is); (case k8 => k_is); (case k9 => k_get); (case kA => k_handed); (case kB => decide))
  | (refine' v_slot3 ?k1 ?k2 ?k3 ?k4 ?k5 ?k6 ?k7 ?k8 ?k9 ?kA ?kB ?kC ?kD ?_; (case k1 => k_asm); (case k2 => k_asm); (case k3 => k_inst); (case k4 => k_is); (case k5 => k_is); (case k6 => k_is); (case k7 => k_is); (case k8 => k_is); (case k9 => k_is); (case kA => k_is); (case kB => k_get); (case kC => k_handed); (case kD => decide))
  | (refine' v_miss3 ?k1 ?k2 ?k3 ?k4 ?k5 ?k6 ?k7 ?k8 ?k9 ?kA ?kB ?kC ?kD ?kE ?_; (case k1 => k_asm); (case k2 => k_asm); (case k3 => k_asm); (case k4 => k_inst); (case k5 => k_is); (case k6 => k_is); (case k7 => k_is); (case k8 => k_is); (case k9 => decide +kernel); (case kA => k_get); (case kB => rfl); (case kC => rfl); (case kD => decide); (case kE => rw [sizeLine_eq]; decide); intro h' tk' F' N'))))
local macro_rules | `(tactic| walk_at "call builtin:getattr") => `(tactic| (k_here; (with_reducible show wpAny _ _ (call (Value.builtin "getattr") [Value.none, Value.str _ _, _]) _ _ _); k_dflt (refine' v_none3 ?k1 ?k3 ?k4 ?k5 ?k6 ?k7 ?_; (case k1 => k_asm); (case k3 => k_asm); (case k4 => exact am_miss_of_fast (by decide +kernel)); (case k5 => rfl); (case k6 => decide); (case k7 => rw [sizeLine_eq]; decide); intro h' tk' F' N')))
local macro_rules | `(tactic| walk_at "call builtin:getattr") => `(tactic| (k_here; (with_reducible show wpAny _ _ (call (Value.builtin "getattr") [Value.ref _, Value.str (Str.ofString "oids") _, _]) _ _ _); (rename XObj _ _ _ => lX'); k_dflt (first
  | (refine' v_oidsMiss ?k1 ?k2 ?k3 ?k4 lX' ?k5 ?k6 ?k7 ?_; (case k1 => k_asm); (case k2 => k_asm); (case k3 => k_asm); (case k4 => k_mem); (case k5 => k_mem); (case k6 => rfl); (case k7 => rfl); intro h' tk' F' N')
  | (refine' v_oidsOwn ?k1 ?k2 ?k3 ?k4 lX' ?k5 ?k6 ?k7 ?_; (case k1 => k_asm); (case k2 => k_asm); (case k3 => k_asm); (case k4 => k_mem); (case k5 => k_mem); (case k6 => first | exact getL_one | rfl); (case k7 => rfl)))))
local macro_rules | `(tactic| walk_at "call builtin:len") => `(tactic| (k_here; (with_reducible show wpAny _ _ (call (Value.builtin "len") [Value.ref _]) _ _ _); k_dflt (refine kda_len (knd := PySem.intKind _ _) (by k_asm) (by k_mem) (by assumption) (by assumption) (by first | assumption | omega | (refine Nat.le_trans (stored_le _ _ _) (by omega))) ?_)))
local macro_rules | `(tactic| walk_at "setItem ref int") => `(tactic| (k_here; k_dflt (refine' kda_set (knd := PySem.intKind _ _) ?F ?N ?U ?d (intKind_is _ _ _ _) ?z ?_; (case F => k_asm); (case N => k_asm); (case U => k_updF); (case d => assumption); (case z => rw [sizeLine_eq]; omega)); intro h' o' F' N' hd'))
local macro_rules | `(tactic| walk_at "setAttr ref") => `(tactic| (k_here; (with_reducible show wpAny _ _ (setAttr (Value.ref _) (Str.ofString "oids") _) _ _ _); (rename XObj _ _ _ => lX'); k_dflt (refine' v_setOids ?k1 ?k2 ?k3 ?k4 lX' ?k5 ?k6 ?k7 ?k8 ?k9 ?_; (case k1 => k_asm); (case k2 => k_asm); (case k3 => k_asm); (case k4 => k_mem); (case k5 => k_mem); (case k6 => rfl); (case k7 => rfl); (case k8 => k_upd); (case k9 => exact Nat.le_of_ble_eq_true rfl)); intro h' F' N'))
local macro_rules | `(tactic| walk_at "getMethod ref") => `(tactic| (k_here; (with_reducible show wpAny _ _ (getMethod (Value.ref _) (Str.ofString "get") _) _ _ _); k_dflt (refine kdg_method (knd := PySem.intKind _ _) (by k_asm) (by k_mem) (by assumption) ?_)))
local macro_rules | `(tactic| walk_at "call builtin:dict.get") => `(tactic| (k_here; k_dflt (refine kdg_get1 (knd := PySem.intKind _ _) (by k_asm) (by k_mem) (by assumption) (by assumption) (intKind_is _ _ _ _) _ (by assumption) ?_); (try dsimp only [Option.getD])))
local macro_rules | `(tactic| walk_at "compareOp Is ref ref") => `(tactic| (k_here; k_dflt (first | refine wpAny_is_ref_self ?_ | (refine' kto_is (News.get ?N1 ?m1) (News.get ?N2 ?m2) ?ne ?cl ?_; (case N1 => k_asm); (case m1 => k_mem); (case N2 => k_asm); (case m2 => k_mem); (case ne => assumption); (case cl => assumption)))))
local macro_rules | `(tactic| walk_at "binaryOp Add ref ref") => `(tactic| (k_here; (with_reducible show wpAny _ _ (binaryOp Operator.Add (Value.ref _) (Value.ref _)) _ _ _); k_dflt (refine' v_addT ?k1 ?k2 ?k3 ?k4 ?k5 ?_; (case k1 => k_asm); (case k2 => k_asm); (case k3 => k_mem); (case k4 => k_mem); (case k5 => assumption)); intro T' h' lT' F' N'))
local macro_rules | `(tactic| walk_at "compareOp In int ref") => `(tactic| (k_here; k_dflt (refine kda_in (knd := PySem.intKind _ _) (by k_asm) (by k_mem) (by assumption) (by assumption) (intKind_is _ _ _ _) _ (by assumption) ?_)))
local macro_rules | `(tactic| walk_at "getMethod ref") => `(tactic| (k_here; (with_reducible show wpAny _ _ (getMethod (Value.ref _) (Str.ofString "_uncached_match") _) _ _ _); (rename XObj _ _ _ => lX'); k_dflt (refine v_getUM2 (by k_asm) (by k_asm) (by k_asm) (by k_mem) lX' (by k_mem) (by assumption) (by assumption) ?_)))
local macro_rules | `(tactic| walk_at "subscriptTail") => `(tactic| (k_here; k_dflt (refine kda_item (knd := PySem.intKind _ _) (by k_asm) (by k_mem) (by assumption) (intKind_is _ _ _ _) (by assumption) ?_)))
local macro_rules | `(tactic| walk_at "callWith ref") => `(tactic| (k_here; k_dflt (refine' callWith_K ?k1 ?k2 ?_; (case k2 => assumption); (case k1 => k_asm); k_whole)))
local macro_rules | `(tactic| k_inst) => `(tactic| (refine' v_instF ?N ?h1 ?h2; (case N => k_asm); (case h1 => k_mem); (case h2 => k_mem)))
local macro_rules | `(tactic| walk_at "getAttr ref") => `(tactic| (k_here; (with_reducible show wpAny _ _ (getAttr (Value.ref _) (Str.ofString "name") _) _ _ _); k_dflt (refine' v_name ?k1 ?k2 ?k3 ?k4 ?k5 ?k6 ?_; (case k1 => k_asm); (case k2 => k_asm); (case k3 => k_asm); (case k4 => k_mem); (case k5 => assumption); (case k6 => k_mem)); intro tk'))
local macro_rules | `(tactic| walk_at "call builtin:getattr") => `(tactic| (k_here; (with_reducible show wpAny _ _ (call (Value.builtin "getattr") [Value.ref _, Value.str (Str.ofString "name") _, _]) _ _ _); k_dflt (refine' v_name3 ?k1 ?k2 ?k3 ?k4 ?k5 ?k6 ?_; (case k1 => k_asm); (case k2 => k_asm); (case k3 => k_asm); (case k4 => k_mem); (case k5 => assumption); (case k6 => k_mem)); intro tk'))
local macro_rules | `(tactic| walk_at "getAttr ref") => `(tactic| (k_here; k_dflt (refine' v_getE (C := 94) ?k1 ?k2 ?k3 ?k4 ?k5 ?k6 ?k7 ?k8 ?k9 ?kA ?_; (case k1 => k_asm); (case k2 => k_asm); (case k3 => (refine' v_instF ?N ?h1 ?h2; (case N => k_asm); (case h1 => k_mem); (case h2 => k_mem))); (case k4 => k_is); (case k5 => k_is); (case k6 => k_is); (case k7 => k_is); (case k8 => k_is); (case k9 => k_get); (case kA => k_handed))))
local macro_rules | `(tactic| walk_at "setAttr ref") => `(tactic| (k_here; k_dflt (refine' v_storeDict (C := 94) ?k1 ?k2 ?k3 ?k4 ?k5 ?k6 sets94 ?k8 ?k9 ?kA ?kB ?kC ?_; (case k1 => k_asm); (case k2 => k_asm); (case k3 => k_asm); (case k4 => (refine' v_instF ?N ?h1 ?h2; (case N => k_asm); (case h1 => k_mem); (case h2 => k_mem))); (case k5 => rfl); (case k6 => k_is); (case k8 => k_is); (case k9 => rfl); (case kA => rfl); (case kB => k_upd); (case kC => exact Nat.le_of_ble_eq_true rfl)); intro h' F' N'))
variable {w : World} {p : Program} {loose : List Str} {mean : ExcName → Option Value} {mg mb : Str → Option Value}
def R2 (w : World) (P : Par) (nn mm : Nat) (g : GS) (e : Ex) (x dx : Addr) (k : Nat) (own : Led) (G : Heap) (LL : Addr) (s : Shared) (m : Str → Option Value) (s' : Shared) : Prop :=
  ∃ g2 v h tk, s' = { s with heap := h, toks := tk } ∧ Fr G LL h (fun y => if y = Str.ofString "node" then some v else m y) ∧ News G LL h (own ++ g2.led P) ∧ OffL own (g2.led P) ∧ Inv PySem.Challenge.rw_vj0021_01.row.prog w P nn mm g2 (e.size + 1) ∧ Step g g2 e.size ∧ Res g2.I P.t e k v
theorem w_core {D U nn mm : Nat} {P : Par} {g : GS} {e : Ex} {x dx : Addr} {k : Nat} {tk2 tk3 : Tok} {vse : Array Value}
  (hPo : P.oer = { cls := .ref 94, dict := some P.der, data := .fields vse }) (hI : Inv PySem.Challenge.rw_vj0021_01.row.prog w P nn mm g (e.size + 1)) (hx : IsEx g.I x dx e) (hp : k ≤ P.t.length) (hUM : ∀ g o C, Inv PySem.Challenge.rw_vj0021_01.row.prog w P nn mm g e.size → IsEx g.I x dx e → (x, o) ∈ g.I → XObj o C dx → CallOk w p loose mean mg mb (umOf C) D U (g.led P) [.ref x, .str P.t tk2, .int k tk3, .ref P.C, .ref P.er] (fun v post => ∃ g', post = g'.led P ∧ Inv PySem.Challenge.rw_vj0021_01.row.prog w P nn mm g' e.size ∧ Step g g' (e.size - 1) ∧ Res g'.I P.t e k v)) (hnn : nn ≤ 1000) (hmm : mm ≤ 900) (ht : P.t.length ≤ 8) :
  CallOk w p loose mean mg mb 266 (D + 20) (U + 200) (g.led P) [.ref x, .str P.t tk2, .int k tk3, .ref P.C, .ref P.er] (fun v post => ∃ g', post = g'.led P ∧ Inv PySem.Challenge.rw_vj0021_01.row.prog w P nn mm g' (e.size + 1) ∧ Step g g' e.size ∧ Res g'.I P.t e k v) := by
  intro dp un gd cn cs a ccd cl outer A₀ base h₀ L m own s Q E B F X N T hk hd hu hown hQ
  w_top off
  revert X; k_fill; intro X
  refine wpAny_call ?_
  k_dflt (walk_at "V enter")
  rename_i G LL h1 FG hF hN BB XX TT
  refine v_cutF hF (fun m₅ => R1 w P nn mm g e x own G LL m₅ s) ?_ ?_
  · obtain ⟨D₁, d, D₂, eD, edx, eddx⟩ := hI.node hx
    have hdD : d ∈ g.D := by rw [eD]; exact List.mem_append_right _ (.head _)
    obtain ⟨o, C, hxo, hX⟩ := hx.xobj
    have mI : ∀ q ∈ g.I, q ∈ own ++ g.led P := fun q hq => List.mem_append_right _ (led_I hq)
    have mD : (dx, d.od) ∈ own ++ g.led P := List.mem_append_right _ (eddx ▸ led_D hdD)
    have mC : (P.C, g.oC) ∈ own ++ g.led P := List.mem_append_right _ led_C
    have hne1 : @Ne Nat dx P.C := eddx ▸ hI.neC hdD
    have hobj := hI.dobj d hdD
    have hR : g.oC.IsDictOf (intKind _ _) (cacheKvs 0 g.R) := hI.cac
    have hRl : (cacheKvs 0 g.R).length ≤ 1000 := by rw [cacheKvs_length]; exact Nat.le_trans hI.rlen hnn
    have loC : (P.C == sysModules) = false := hI.lo (P.C, g.oC) led_C
    have nofD : ∀ (a : Addr) (o' : Obj), (a, o') ∈ own ++ g.led P → isDictB o' = false → a ≠ dx ∧ a ≠ P.C := fun a o' h1 h2 => ⟨hN.twoPlaces h1 mD fun (e : o' = d.od) => by rw [e, hobj.isD] at h2; exact Bool.noConfusion h2, hN.twoPlaces h1 mC fun (e : o' = g.oC) => by rw [e, dict_isD hR] at h2; exact Bool.noConfusion h2⟩
    have hN1 : News G LL h1 ((dx, d.od) :: (P.C, g.oC) :: wo dx (wo P.C (own ++ g.led P))) := hN.perm fun p hp => by
      rcases List.mem_cons.mp hp with rfl | hp
      · exact mD
      · rcases List.mem_cons.mp hp with rfl | hp
        · exact mC
        · exact wo_sub (wo_sub hp)
    have t1 : ∀ q ∈ wo dx (wo P.C (own ++ g.led P)), q.1 ≠ dx := wo_off
    have t2 : ∀ q ∈ wo dx (wo P.C (own ++ g.led P)), q.1 ≠ P.C := fun q hq => wo_off q (wo_sub hq)
    have xo : isDictB o = false := by cases hX <;> rfl
    have mw : ∀ a o', (a, o') ∈ own ++ g.led P → isDictB o' = false → (a, o') ∈ wo dx (wo P.C (own ++ g.led P)) := fun a o' h1 h2 => wo_mem (wo_mem h1 (nofD _ _ h1 h2).2) (nofD _ _ h1 h2).1
    have ap := hI.apart eD
    rw [eddx] at ap
    have mw2 : ∀ q ∈ rLed g.R ++ g.I, q ∈ wo dx (wo P.C (own ++ g.led P)) := fun q hq => by
      have h1 := ap q (.tail _ (.tail _ (List.mem_append_right _ hq)))
      exact wo_mem (wo_mem (List.mem_append_right _ (.tail _ (.tail _ (.tail _ (List.mem_append_right _ hq))))) h1.2) h1.1
    have mx := mw _ _ (mI _ hxo) xo
    have back : ∀ q ∈ own ++ g.led P, q = (dx, d.od) ∨ q = (P.C, g.oC) ∨ q ∈ wo dx (wo P.C (own ++ g.led P)) := fun q hq => by
      by_cases h1 : q.1 = dx
      · left
        have e1 := (hN q hq).1
        rw [h1, (hN _ mD).1] at e1
        exact Prod.ext h1 (Option.some.inj e1).symm
      · by_cases h2 : q.1 = P.C
        · right; left
          have e1 := (hN q hq).1
          rw [h2, (hN _ mC).1] at e1
          exact Prod.ext h2 (Option.some.inj e1).symm
        · exact .inr (.inr (wo_mem (wo_mem hq h2) h1))
    clear hN
    generalize hrest : wo dx (wo P.C (own ++ g.led P)) = rest at *
    generalize hod : d.od = od at hobj hN1 back
    generalize hps : d.ps = ps at hobj
    by_cases hreg : ∀ r ∈ g.R, r.x ≠ x
    · cases hobj with
      | none =>
        refine v_forElse ?_
        k_steps
        rename Fr _ _ _ _ => hF2
        rename News _ _ _ _ => hN2
        refine v_turnsF (vs := []) rfl hF2 hN2 (by k_mem) (fun _ => True) trivial (by passes_own) (fun i v I o ec ov h₁ tk₁ hv => by cases i <;> cases hv) fun ec ov h₁ tk₁ _ hF3 hN3 => ?_
        k_steps
        rename Fr _ _ _ _ => hF4
        rename News _ _ _ _ => hN4
        rename_i d' h4 o4 lo4 hs4 fs4 hi4 fi4 l4 h5 h6 oC5 hd5 t5 q6 h7 l6 T7 h8 l7 T8 h9 F9 N9 l8 hA tkA FA NA hB
        refine ⟨rfl, ?_⟩
        subst hrest
        obtain ⟨g1, R₁, r, R₂, b1, b2, b3, b4, b5, b6, b7, b8⟩ := r1_new hI hreg hx eD edx eddx hown hi4 hd5 rfl (hps ▸ PsIs.nil) rfl hN4 (by k_mem) (by k_mem) (by k_mem) (by k_mem) (by k_mem) (fun p hp => by repeat (first | exact hp | refine List.mem_cons_of_mem _ ?_)) l4.2 l6.1 l7.1
        exact ⟨g1, R₁, r, R₂, _, _, _, rfl, fr_ext hF4 (by rw [b8]; exact fun y => fM_over1 y), b1, b2, b3, b4, b5, b6, b7⟩
      | @some nd hs tk0 T vs ps a b =>
        have mT := mw _ _ (mI _ a) rfl
        have hvl : vs.length ≤ 1000 := by rw [b.len, ← hps]; exact Nat.le_trans (hI.plen d hdD) (by omega)
        refine v_forElse ?_
        k_steps
        rename Fr _ _ _ _ => hF2
        rename News _ _ _ _ => hN2
        refine v_turnsF (vs := vs) rfl hF2 hN2 (by k_mem) (fun _ => True) trivial (by passes_own) ?_ ?_
        · intro i v I o ec ov h₁ tk₁ hv _ hoff hoc hF3 hN3
          obtain ⟨q, kk, tq, c, rfl, m1, m2, m3⟩ := b.at hv
          have mq := mw _ _ (mI _ m1) rfl
          rcases cache_look g.R m2 with hl | ⟨r, hr, hl⟩
          · k_steps
            rename Fr _ _ _ _ => hF4
            rename News _ _ _ _ => hN4
            exact turn_next trivial hF4 fM_over hN4
          · have hne3 : r.c ≠ c := hI.rnew d hdD (fun r hr => by rw [edx]; exact hreg r hr) (kk, c) (by rw [hps]; exact m3) r hr
            have hrm := List.mem_of_getElem? hr
            have mr := mw2 (r.c, r.oc) (List.mem_append_left _ (List.mem_map_of_mem (f := fun r => (r.c, r.oc)) hrm))
            have hcl := dict_cls (hI.rdict r hrm)
            obtain ⟨⟨c2, oc2⟩, hc2, e2⟩ := List.mem_map.mp (hI.dkey d hdD (kk, c) (by rw [hps]; exact m3))
            have e2 : c2 = c := e2
            subst e2
            have mc := mw2 _ hc2
            k_steps
            rename Fr _ _ _ _ => hF4
            rename News _ _ _ _ => hN4
            exact turn_next trivial hF4 fM_over hN4
        · intro ec ov h₁ tk₁ _ hF3 hN3
          k_steps
          rename Fr _ _ _ _ => hF4
          rename News _ _ _ _ => hN4
          rename_i d' h4 o4 F4 N4 lo4 hs4 fs4 hi4 fi4 l4 h5 h6 oC5 hd5 t5 q6 h7 l6 T7 h8 l7 T8 h9 F9 N9 l8 TT hA lTT FA NA hB
          refine ⟨rfl, ?_⟩
          subst hrest
          obtain ⟨g1, R₁, r, R₂, b1, b2, b3, b4, b5, b6, b7, b8⟩ := r1_new hI hreg hx eD edx eddx hown hi4 hd5 rfl (hps ▸ b) rfl hN4 (by k_mem) (by k_mem) (by k_mem) (by k_mem) (by k_mem) (fun p hp => by repeat (first | exact hp | refine List.mem_cons_of_mem _ ?_)) l4.2 l6.1 (Nat.lt_of_lt_of_le l7.1 lTT)
          exact ⟨g1, R₁, r, R₂, _, _, _, rfl, fr_ext hF4 (by rw [b8]; exact fun y => fM_over1 y), b1, b2, b3, b4, b5, b6, b7⟩
    · obtain ⟨r, hrm, erx⟩ : ∃ r ∈ g.R, r.x = x := by
        apply Classical.byContradiction
        intro hno
        exact hreg fun r hr e => hno ⟨r, hr, e⟩
      obtain ⟨R₁, R₂, eR⟩ := List.append_of_mem hrm
      have hat : g.R[R₁.length]? = some r := by rw [eR]; exact getElem?_midE
      have hhead := hI.rhead R₁.length r hat d hdD (edx.trans erx.symm)
      have hre : r.e = e := by
        obtain ⟨dx', k'⟩ := hI.rex r hrm
        rw [erx] at k'
        exact (hx.det hI.ndI k').2
      have mr := mw2 (r.c, r.oc) (List.mem_append_left _ (List.mem_map_of_mem (f := fun r => (r.c, r.oc)) hrm))
      rw [hps] at hhead
      cases hobj with
      | none => cases hhead
      | @some nd hs tk0 T vs ps a b =>
        cases b with
        | nil => cases hhead
        | @cons q c kk tq vs ps m1 m2 b =>
          obtain ⟨rfl, rfl⟩ := Prod.mk.inj (Option.some.inj hhead)
          have hl : valueAt (cacheKvs 0 g.R) (R₁.length : Int) = some (.ref r.c) := by
            have := cacheKvs_at g.R 0 R₁.length r hat
            rw [Nat.zero_add] at this
            exact this
          have mT := mw _ _ (mI _ a) rfl
          have mq := mw _ _ (mI _ m1) rfl
          refine v_forElse ?_
          k_steps
          rename Fr _ _ _ _ => hF2
          rename News _ _ _ _ => hN2
          refine v_turnsF (vs := .ref q :: vs) rfl hF2 hN2 (by k_mem) (fun i => i = 0) rfl (by passes_own) ?_ (fun ec ov h₁ tk₁ h0 _ _ => by cases h0)
          rintro i v I o ec ov h₁ tk₁ hv rfl hoff hoc hF3 hN3
          obtain rfl : Value.ref q = v := Option.some.inj hv
          k_steps
          rename Fr _ _ _ _ => hF4
          rename News _ _ _ _ => hN4
          change CutP _ Flow.next _
          refine ⟨rfl, ?_⟩
          subst hrest
          refine ⟨g, R₁, r, R₂, _, _, _, rfl, fr_ext hF4 (fun y => congrFun fM_over y), hN4.perm fun q hq => ?_, hown, hI, .refl g _, eR, erx, hre⟩
          rcases back q hq with rfl | rfl | h
          · k_mem
          · k_mem
          · repeat (first | exact h | refine List.mem_cons_of_mem _ ?_)
  · rintro s1 ⟨g1, R₁, r, R₂, h2, tk4, ov, rfl, hF1, hN1, hown1, hI1, st1, eR, erx, hre⟩
    clear hF hN
    have hx1 : IsEx g1.I x dx e := hx.mono st1.grow
    refine v_cutF hF1 (R2 w P nn mm g e x dx k own G LL s) ?_ ?_
    · have hrm : r ∈ g1.R := by rw [eR]; exact List.mem_append_right _ (.head _)
      have mRc : (r.c, r.oc) ∈ own ++ g1.led P := List.mem_append_right _ (led_R hrm)
      have hN2 : News G LL h2 ((r.c, r.oc) :: wo r.c (own ++ g1.led P)) := hN1.perm (wo_front mRc)
      have t1 : ∀ q ∈ wo r.c (own ++ g1.led P), q.1 ≠ r.c := wo_off
      obtain ⟨o, C, hxo, hX⟩ := hx1.xobj
      obtain ⟨D₁, d, D₂, eD, edx, eddx⟩ := hI1.node hx1
      have hdD : d ∈ g1.D := by rw [eD]; exact List.mem_append_right _ (.head _)
      obtain ⟨es, nd, eod, hum⟩ := (hI1.dobj d hdD).um
      have hap := hI1.apart eD (r.c, r.oc) (.tail _ (.tail _ (List.mem_append_right _ (List.mem_append_left _ (List.mem_map_of_mem (f := fun r => (r.c, r.oc)) hrm)))))
      have mdx : (dx, dictOf es nd) ∈ wo r.c (own ++ g1.led P) := wo_mem (List.mem_append_right _ (by rw [← eod, ← eddx]; exact led_D hdD)) (by rw [← eddx]; exact fun z => hap.1 z.symm)
      have hdR : r.oc.IsDictOf (intKind _ _) r.pv := hI1.rdict r hrm
      have mx : (x, o) ∈ wo r.c (own ++ g1.led P) := wo_mem (List.mem_append_right _ (led_I hxo)) (hN1.twoPlaces (List.mem_append_right _ (led_I hxo)) mRc fun (z : o = r.oc) => by
        have z1 := dict_isD hdR
        rw [← z] at z1
        cases hX <;> cases z1)
      have loR : (r.c == sysModules) = false := hI1.lo (r.c, r.oc) (led_R hrm)
      have hpl := hI1.pvlen hrm
      have erx' := erx
      clear hN1
      cases hv : valueAt r.pv (k : Int) with
      | some v =>
        have hb : (valueAt r.pv (k : Int)).isSome = true := by rw [hv]; rfl
        k_steps
        rename Fr _ _ _ _ => hF4
        rename News _ _ _ _ => hN4
        have hRes : Res g1.I P.t e k v := by
          have := hI1.good r hrm (by rw [hre]; exact Nat.lt_succ_self _) _ (valueAt_mem hv)
          rw [hre] at this
          exact this
        obtain ⟨a1, a2⟩ := led_setR (r' := r) hI1 eR rfl hown1 hN4 (.head _) (fun q hq => .tail _ hq)
        rw [← eR] at a1 a2
        exact ⟨rfl, g1, v, _, _, rfl, hF4, a1, a2, hI1, st1, hRes⟩
      | none =>
        have hb : (valueAt r.pv (k : Int)).isSome = false := by rw [hv]; rfl
        obtain ⟨cu, hcu⟩ : ∃ cu, umOf C = cu := ⟨_, rfl⟩
        have hku := um_keeps (w := w) hX hcu
        have hX0 := hX
        k_steps
        rename Fr _ _ _ _ => hF4
        rename News _ _ _ _ => hN4
        rename Obj.IsDictOf _ _ _ => hd4
        rename_i h6 o6
        have hes : 1 ≤ e.size := by cases e <;> simp [Ex.size]
        obtain ⟨a1, a2⟩ := led_setR (r' := { r with oc := o6, pv := stored r.pv (k : Int) (.ref 220) }) hI1 eR rfl hown1 hN4 (.head _) (fun q hq => .tail _ hq)
        have hI2 := (hI1.down (Nat.le_succ _)).setR (oc := o6) (pv := stored r.pv (k : Int) (.ref 220)) eR hd4 (fun q hq => by
          rcases mem_stored hq with rfl | ⟨hq, _⟩
          · exact ⟨Int.natCast_nonneg _, Int.ofNat_le.mpr hp⟩
          · exact hI1.rkey r hrm q hq) (fun hs => absurd hs (by rw [hre]; exact Nat.lt_irrefl _))
        have hC := hUM _ o C hI2 hx1 hxo hX
        rw [hcu] at hC
        k_dflt (refine' hC.use [] ?kB hF4 ?kX a1 ?kT rfl ?kd ?ku OffL.nil a2 ?_)
        (case kB => k_asm)
        (case kX => k_asm)
        (case kT => k_asm)
        (case kd => k_room)
        (case ku => k_units)
        rintro v post h7 tk7 hF5 hN5 - o2 ⟨g2, rfl, hI3, st3, hres3⟩
        obtain ⟨r1, e1, _, _, _, e5⟩ := st3.old R₁.length _ getElem?_midE
        obtain rfl := e5 (by show e.size - 1 < r.e.size; rw [hre]; omega)
        obtain ⟨R₁', R₂', eR2, hl⟩ := split_at e1
        have hrm2 : ({ r with oc := o6, pv := stored r.pv (k : Int) (.ref 220) } : RN) ∈ g2.R := by rw [eR2]; exact List.mem_append_right _ (.head _)
        have hN6 : News G LL h7 ((r.c, o6) :: wo r.c (own ++ g2.led P)) := News.perm hN5 (wo_front (List.mem_append_right own (led_R hrm2)))
        have t2 : ∀ q ∈ wo r.c (own ++ g2.led P), q.1 ≠ r.c := wo_off
        have hsz2 : (stored r.pv (k : Int) (Value.ref 220)).length ≤ 100 := Nat.le_trans (stored_le _ _ _) (by omega)
        clear hN4 hN5 hF4 a1
        k_steps
        rename Fr _ _ _ _ => hF6
        rename News _ _ _ _ => hN7
        rename Obj.IsDictOf _ _ _ => hd5
        rename_i h8 o8
        obtain ⟨c1, c2⟩ := led_setR (r' := { r with oc := o8, pv := stored (stored r.pv (k : Int) (.ref 220)) (k : Int) v }) hI3 eR2 rfl o2 hN7 (.head _) (fun q hq => .tail _ hq)
        obtain ⟨i1, i2⟩ := Inv.store hI1 eR (by rw [hre]) hes hp hI3 st3 eR2 hl hd5 (by rw [hre]; exact hres3)
        exact ⟨rfl, _, v, _, _, rfl, hF6, c1, c2, i1, st1.trans i2, hres3⟩
    · rintro s2 ⟨g2, v, h4, tk5, rfl, hF2, hN2, hown2, hI2, st2, hres⟩
      have hx2 : IsEx g2.I x dx e := hx.mono st2.grow
      obtain ⟨o, C, hxo, hX⟩ := hx2.xobj
      obtain ⟨D₁, d, D₂, eD, edx, eddx⟩ := hI2.node hx2
      have hdD : d ∈ g2.D := by rw [eD]; exact List.mem_append_right _ (.head _)
      have nder := hI2.neDer
      have wm : ∀ q ∈ (P.er, P.oer) :: (P.C, g2.oC) :: (dLed g2.D ++ (rLed g2.R ++ g2.I)), q ∈ wo P.der (own ++ g2.led P) := fun q hq => wo_mem (List.mem_append_right _ (by
        rcases List.mem_cons.mp hq with rfl | hq
        · exact .head _
        · exact .tail _ (.tail _ hq))) (nder q hq)
      have mer := wm _ (.head _)
      rw [hPo] at mer
      have mxo := wm (x, o) (.tail _ (.tail _ (List.mem_append_right _ (List.mem_append_right _ hxo))))
      have mdx := wm (d.dx, d.od) (.tail _ (.tail _ (List.mem_append_left _ (List.mem_map_of_mem (f := fun d => (d.dx, d.od)) hdD))))
      rw [eddx] at mdx
      have mI : ∀ q ∈ g2.I, q ∈ wo P.der (own ++ g2.led P) := fun q hq => wm q (.tail _ (.tail _ (List.mem_append_right _ (List.mem_append_right _ hq))))
      obtain ⟨ne, e1, e2, e3, u1, u2, u3, vt, kp, tkp, ve, eoe, hve⟩ := hI2.err
      have hN3 : News G LL h4 ((P.der, g2.oe) :: wo P.der (own ++ g2.led P)) := News.perm hN2 (wo_front (List.mem_append_right own led_der))
      have t1 : ∀ q ∈ wo P.der (own ++ g2.led P), q.1 ≠ P.der := wo_off
      rw [eoe] at hN3
      clear hN2 hF1 hN1
      have hres' := hres
      unfold Res at hres
      cases hs : sem P.t e k with
      | some q =>
        rw [hs] at hres
        obtain ⟨nd, dn, ch, x1, tt, ts, te, rfl, m1, m2⟩ := hres
        have m1' := mI _ m1
        have m2' := mI _ m2
        k_steps
        rename Fr _ _ _ _ => hF9
        rename News _ _ _ _ => hN9
        obtain ⟨c1, c2⟩ := led_setE (oe := g2.oe) hI2 hown2 hN9 (by rw [eoe]; exact .head _) (fun q hq => .tail _ hq)
        exact hQ _ _ _ _ hF9 c1 c2 ⟨g2, rfl, hI2, st2, hres'⟩
      | none =>
        rw [hs] at hres
        subst hres
        rcases hve with rfl | ⟨y, dy, e', rfl, hy⟩
        · k_steps
          · rename Fr _ _ _ _ => hF9
            rename News _ _ _ _ => hN9
            obtain ⟨c1, c2⟩ := led_setE hI2 hown2 hN9 (.head _) (fun q hq => .tail _ hq)
            exact hQ _ _ _ _ hF9 c1 c2 ⟨_, rfl, hI2.setErr ⟨_, _, _, _, _, _, _, _, _, _, _, rfl, .inr ⟨x, dx, e, rfl, hx2⟩⟩, ⟨st2.grow, st2.old, st2.new⟩, hres'⟩
          · rename Fr _ _ _ _ => hF9
            rename News _ _ _ _ => hN9
            obtain ⟨c1, c2⟩ := led_setE (oe := g2.oe) hI2 hown2 hN9 (by rw [eoe]; exact .head _) (fun q hq => .tail _ hq)
            exact hQ _ _ _ _ hF9 c1 c2 ⟨g2, rfl, hI2, st2, hres'⟩
        · obtain ⟨o', C', hyo, hX'⟩ := hy.xobj
          obtain ⟨D₁', d', D₂', eD', edy, eddy⟩ := hI2.node hy
          have hdD' : d' ∈ g2.D := by rw [eD']; exact List.mem_append_right _ (.head _)
          have mdy := wm (d'.dx, d'.od) (.tail _ (.tail _ (List.mem_append_left _ (List.mem_map_of_mem (f := fun d => (d.dx, d.od)) hdD'))))
          rw [eddy] at mdy
          have myo := mI _ hyo
          k_steps
          · rename Fr _ _ _ _ => hF9
            rename News _ _ _ _ => hN9
            obtain ⟨c1, c2⟩ := led_setE (oe := g2.oe) hI2 hown2 hN9 (by rw [eoe]; exact .head _) (fun q hq => .tail _ hq)
            exact hQ _ _ _ _ hF9 c1 c2 ⟨g2, rfl, hI2, st2, hres'⟩
          · rename Fr _ _ _ _ => hF9
            rename News _ _ _ _ => hN9
            obtain ⟨c1, c2⟩ := led_setE (oe := g2.oe) hI2 hown2 hN9 (by rw [eoe]; exact .head _) (fun q hq => .tail _ hq)
            exact hQ _ _ _ _ hF9 c1 c2 ⟨g2, rfl, hI2, st2, hres'⟩

end Mine
end

-- VAll
section
open PySem PySem.W PyProof.Rows PySem.Calls PySem.Spec
set_option maxRecDepth 100000
set_option maxHeartbeats 1000000
namespace Mine
theorem XObj.cls {o : Obj} {C dx : Addr} (h : XObj o C dx) : o.cls = .ref C := by cases h <;> rfl
section
variable {w : World} {p : Program} {loose : List Str} {mean : ExcName → Option Value} {mg mb : Str → Option Value} {P : Par} {n m : Nat} {vse : Array Value}
theorem umAll {e : Ex} (hPo : P.oer = { cls := .ref 94, dict := some P.der, data := .fields vse }) (ht : P.t.length ≤ 8) (ih : ∀ e' : Ex, e'.size < e.size → McOk w p loose mean mg mb P n m e')
    {g : GS} {x dx C : Addr} {o : Obj} {k : Nat} {tk2 tk3 : Tok} (hI : Inv PySem.Challenge.rw_vj0021_01.row.prog w P n m g e.size) (hx : IsEx g.I x dx e) (hxo : (x, o) ∈ g.I) (hX : XObj o C dx) (hp : k ≤ P.t.length) :
    CallOk w p loose mean mg mb (umOf C) (40 * e.ht - 20) (400 * e.ht - 200) (g.led P) [.ref x, .str P.t tk2, .int (k : Int) tk3, .ref P.C, .ref P.er] (fun v post => ∃ g', post = g'.led P ∧ Inv PySem.Challenge.rw_vj0021_01.row.prog w P n m g' e.size ∧ Step g g' (e.size - 1) ∧ Res g'.I P.t e k v) := by
  have nd := hI.ndI
  have hok : OkG PySem.Challenge.rw_vj0021_01.row.prog w P n m g e.size (g.led P) := ⟨g, rfl, hI, .refl g _⟩
  have kids := kidsOk (h := e.ht - 1) hPo nd ih
  have hN := hI.nodeEx hx
  have cls : ∀ {o' : Obj} {C' : Addr}, (x, o') ∈ g.I → o'.cls = .ref C' → C = C' := fun {o' C'} h1 h2 => by
    have e1 := hX.cls
    rw [key_fun nd hxo h1, h2] at e1
    injection e1 with e1
    exact e1.symm
  cases hx with
  | lit a hl =>
    obtain rfl := cls a rfl
    refine (w_litC (p := p) (loose := loose) (mean := mean) (mg := mg) (mb := mb) hok (led_I a) hN hl ht hp).weaken (by simp [Ex.ht]) (by simp [Ex.ht]) fun v post h => um_absorb (Ex.size_pos _) rfl h
  | @seq2 _ _ mt it xa xb da db t ea eb a hm ka kb =>
    obtain rfl := cls a rfl
    obtain ⟨od, hdx⟩ := hN.dict
    refine (w_seq2 kids hok ⟨da, ea, ka, by simp [Ex.size]; omega, by simp [Ex.ht]; omega⟩ ⟨db, eb, kb, by simp [Ex.size]; omega, by simp [Ex.ht]; omega⟩ (led_I a) hdx (led_I hm) ht hp).weaken (by simp [Ex.ht]; omega) (by simp [Ex.ht]; omega) fun v post h => um_absorb (Ex.size_pos _) ?_ h
    rw [exAt_eq nd ka, exAt_eq nd kb]
    conv => lhs; unfold sem
    cases sem P.t ea k <;> rfl
  | @seq3 _ _ mt it xa xb xc da db dc t ea eb ec a hm ka kb kc =>
    obtain rfl := cls a rfl
    obtain ⟨od, hdx⟩ := hN.dict
    refine (w_seq3 kids hok ⟨da, ea, ka, by simp [Ex.size]; omega, by simp [Ex.ht]; omega⟩ ⟨db, eb, kb, by simp [Ex.size]; omega, by simp [Ex.ht]; omega⟩ ⟨dc, ec, kc, by simp [Ex.size]; omega, by simp [Ex.ht]; omega⟩ (led_I a) hdx (led_I hm) ht hp).weaken (by simp [Ex.ht]; omega) (by simp [Ex.ht]; omega) fun v post h => um_absorb (Ex.size_pos _) ?_ h
    rw [exAt_eq nd ka, exAt_eq nd kb, exAt_eq nd kc]
    conv => lhs; unfold sem
    cases sem P.t ea k with
    | none => rfl
    | some q =>
      dsimp only [Option.bind_some]
      cases sem P.t eb q <;> rfl
  | @alt _ _ mt it xa xb da db t ea eb a hm ka kb =>
    obtain rfl := cls a rfl
    obtain ⟨od, hdx⟩ := hN.dict
    refine (w_alt kids hok ⟨da, ea, ka, by simp [Ex.size]; omega, by simp [Ex.ht]; omega⟩ ⟨db, eb, kb, by simp [Ex.size]; omega, by simp [Ex.ht]; omega⟩ (led_I a) hdx (led_I hm) ht hp).weaken (by simp [Ex.ht]; omega) (by simp [Ex.ht]; omega) fun v post h => um_absorb (Ex.size_pos _) ?_ h
    rw [exAt_eq nd ka, exAt_eq nd kb]
    conv => lhs; unfold sem
    cases sem P.t ea k <;> rfl
  | @look _ _ mt it xa da t neg ea a hm ka =>
    obtain rfl := cls a rfl
    refine (w_look kids hok ⟨da, ea, ka, by simp [Ex.size], by simp [Ex.ht]⟩ (led_I a) hN (led_I hm) ht hp).weaken (by simp [Ex.ht]; omega) (by simp [Ex.ht]; omega) fun v post h => um_absorb (Ex.size_pos _) ?_ h
    rw [exAt_eq nd ka]
    rfl
  | @quant _ _ mt it xa da t mn mx tm vx ea a hv hc hd hm ka =>
    obtain rfl := cls a rfl
    refine (w_quant kids hok ⟨da, ea, ka, by simp [Ex.size], by simp [Ex.ht]⟩ (led_I a) hN (led_I hm) ht hp hv hc hd).weaken (by simp [Ex.ht]; omega) (by simp [Ex.ht]; omega) fun v post h => um_absorb (Ex.size_pos _) ?_ h
    rw [exAt_eq nd ka]
    rfl
end
end Mine
end

-- VMCAll
section
open PySem PySem.W PyProof.Rows PySem.Calls PySem.Spec
set_option maxRecDepth 100000
set_option maxHeartbeats 1000000
namespace Mine
theorem Ex.ht_pos (e : Ex) : 1 ≤ e.ht := by cases e <;> simp [Ex.ht]
theorem mcAll {w : World} {p : Program} {loose : List Str} {mean : ExcName → Option Value} {mg mb : Str → Option Value} {P : Par} {n m : Nat} {vse : Array Value}
    (hPo : P.oer = { cls := .ref 94, dict := some P.der, data := .fields vse }) (ht : P.t.length ≤ 8) (hn : n ≤ 1000) (hm : m ≤ 900) : ∀ (b : Nat) (e : Ex), e.size < b → McOk w p loose mean mg mb P n m e
  | 0, _, h => absurd h (Nat.not_lt_zero _)
  | b + 1, e, h => by
    have ih : ∀ e' : Ex, e'.size < e.size → McOk w p loose mean mg mb P n m e' := fun e' h' => mcAll hPo ht hn hm b e' (by omega)
    intro g x dx k tk2 tk3 hI hx hp
    have h1 := e.ht_pos
    have hc := w_core (D := 40 * e.ht - 20) (U := 400 * e.ht - 200) (p := p) (loose := loose) (mean := mean) (mg := mg) (mb := mb) (tk2 := tk2) (tk3 := tk3) hPo hI hx hp
      (fun g o C hI' hx' hxo hX => umAll hPo ht ih hI' hx' hxo hX hp) hn hm ht
    rwa [show 40 * e.ht - 20 + 20 = 40 * e.ht by omega, show 400 * e.ht - 200 + 200 = 400 * e.ht by omega] at hc
end Mine
end

-- VWld
section
open PySem PySem.W PyProof.Rows PySem.Calls PySem.Spec
set_option maxRecDepth 100000
set_option maxHeartbeats 1000000
namespace Mine
/-- the world between two matches -/
structure Wld (n m : Nat) (I : Led) (D : List DN) : Prop where
  nd : ((dLed D ++ I).map (·.1)).Nodup
  lo : ∀ p ∈ dLed D ++ I, (p.1 == sysModules) = false
  full : ∀ x o, (x, o) ∈ I → exprO o = true → ∃ d ∈ D, d.x = x ∧ o.dict = some d.dx
  dobj : ∀ d ∈ D, DObj I d.od d.ps
  dkey : ∀ d ∈ D, ∀ q ∈ d.ps, q.2 ∈ I.map (·.1)
  duniq : ∀ d ∈ D, ∀ d' ∈ D, d.x = d'.x → d = d'
  dlen : D.length ≤ n
  plen : ∀ d ∈ D, d.ps.length ≤ m
section
variable {prog : Program} {w : World} {P : Par} {n m b : Nat} {g : GS} {I : Led} {D : List DN}
theorem Wld.inv (h : Wld n m I D) {oC oe : Obj} (hC : oC.IsDictOf (intKind prog w) []) (he : ErrOk I oe)
    (h1 : ∀ p ∈ dLed D ++ I, p.1 ≠ P.er) (h2 : ∀ p ∈ dLed D ++ I, p.1 ≠ P.der) (h3 : ∀ p ∈ dLed D ++ I, p.1 ≠ P.C) (e1 : P.er ≠ P.der) (e2 : P.er ≠ P.C) (e3 : P.der ≠ P.C)
    (l1 : (P.er == sysModules) = false) (l2 : (P.der == sysModules) = false) (l3 : (P.C == sysModules) = false) : Inv prog w P n m ⟨I, D, [], oC, oe⟩ b := by
  have off : ∀ a : Addr, (∀ p ∈ dLed D ++ I, p.1 ≠ a) → a ∉ (dLed D ++ I).map (·.1) := fun a ha hm => by
    obtain ⟨p, hp, e⟩ := List.mem_map.mp hm
    exact ha p hp e
  refine ⟨?_, ?_, h.full, h.dobj, fun d hd q hq => h.dkey d hd q hq, h.duniq, h.dlen, fun d hd => Nat.le_succ_of_le (h.plen d hd), fun d hd _ => h.plen d hd, hC, (fun _ hr => nomatch hr), (fun k r hk => by cases k <;> cases hk), (fun d _ _ q _ r hr => by cases hr), (fun _ hr => nomatch hr), (fun _ hr => nomatch hr), (fun _ hr => nomatch hr), he⟩
  · show ((P.er, P.oer) :: (P.der, oe) :: (P.C, oC) :: (dLed D ++ ([] ++ I))).map (·.1) |>.Nodup
    rw [List.nil_append, List.map_cons, List.map_cons, List.map_cons]
    refine List.nodup_cons.mpr ⟨fun hm => ?_, List.nodup_cons.mpr ⟨fun hm => ?_, List.nodup_cons.mpr ⟨off _ h3, h.nd⟩⟩⟩
    · rcases List.mem_cons.mp hm with e | hm
      · exact e1 e
      · rcases List.mem_cons.mp hm with e | hm
        · exact e2 e
        · exact off _ h1 hm
    · rcases List.mem_cons.mp hm with e | hm
      · exact e3 e
      · exact off _ h2 hm
  · intro p hp
    rcases List.mem_cons.mp hp with rfl | hp
    · exact l1
    · rcases List.mem_cons.mp hp with rfl | hp
      · exact l2
      · rcases List.mem_cons.mp hp with rfl | hp
        · exact l3
        · exact h.lo p hp
theorem dict_exprO {o : Obj} {kvs : List (Int × Value)} (h : o.IsDictOf (intKind prog w) kvs) : exprO o = false := by
  obtain ⟨es, n, hx, _⟩ := h
  have : o.cls = .type "dict" := hx.1
  unfold exprO
  rw [this]
def oldI (P : Par) (g : GS) : Led := rLed g.R ++ (g.I ++ [(P.C, g.oC), (P.der, g.oe)])
theorem oldI_sub : ∀ p ∈ dLed g.D ++ oldI P g, p ∈ g.led P := fun p hp => by
  unfold oldI at hp
  simp only [GS.led, List.mem_cons, List.mem_append, List.not_mem_nil, or_false] at hp ⊢
  rcases hp with h | h | h | h | h <;> simp [h]
theorem oldI_I : ∀ p ∈ g.I, p ∈ oldI P g := fun p hp => List.mem_append_right _ (List.mem_append_left _ hp)
theorem Inv.oldEr (h : Inv prog w P n m g b) : (P.er :: (dLed g.D ++ oldI P g).map (·.1)).Nodup := by
  have hp : List.Perm (P.er :: (dLed g.D ++ oldI P g).map (·.1)) ((g.led P).map (·.1)) := by
    simp only [GS.led, oldI, List.map_cons, List.map_append, List.map_nil]
    refine List.perm_iff_count.mpr fun a => ?_
    simp only [List.count_cons, List.count_append, List.count_nil]
    omega
  exact hp.nodup_iff.mpr h.nd
theorem Inv.wld (h : Inv prog w P n m g b) : Wld n (m + 1) (oldI P g) g.D := by
  refine ⟨(List.nodup_cons.mp h.oldEr).2, fun p hp => h.lo p (oldI_sub p hp), fun x o hx ho => ?_, fun d hd => (h.dobj d hd).mono oldI_I, fun d hd q hq => ?_, h.duniq, h.dlen, h.plen⟩
  · unfold oldI at hx
    simp only [List.mem_append, List.mem_cons, List.not_mem_nil, or_false] at hx
    rcases hx with hx | hx | hx | hx
    · obtain ⟨r, hr, e⟩ := List.mem_map.mp hx
      rw [← (Prod.mk.inj e).2, dict_exprO (h.rdict r hr)] at ho
      cases ho
    · exact h.full x o hx ho
    · have e := (Prod.mk.inj hx).2
      rw [e, dict_exprO h.cac] at ho
      cases ho
    · have e := (Prod.mk.inj hx).2
      obtain ⟨ne, e1, e2, e3, u1, u2, u3, vt, kp, tkp, ve, eoe, hve⟩ := h.err
      rw [e, eoe] at ho
      cases ho
  · have := h.dkey d hd q hq
    unfold oldI
    simp only [List.map_append, List.mem_append] at this ⊢
    rcases this with h1 | h1
    · exact .inl h1
    · exact .inr (.inl h1)

theorem end_start {G h : Heap} {L er der c tt x dx : Addr} {own : Led} {oc oer o4 : Obj} {es : List DictEntry} {k : Nat} {t : Str} (hW : Wld n m I D) (N : News G L h ((c, oc) :: (der, dictOf es k) :: (er, oer) :: (tt, o4) :: (own ++ (dLed D ++ I))))
    (hoc : oc.IsDictOf (intKind prog w) []) (lc : @LT.lt Nat _ der c ∧ @LT.lt Nat _ er c ∧ @LT.lt Nat _ tt c ∧ AllLt c (own ++ (dLed D ++ I))) (ld : @LT.lt Nat _ er der ∧ @LT.lt Nat _ tt der ∧ AllLt der (own ++ (dLed D ++ I)))
    (le : AllLt er (own ++ (dLed D ++ I))) (lt : @LT.lt Nat _ tt er) (ltt : AllLt tt (own ++ (dLed D ++ I))) (he : ErrOk I (dictOf es k)) (hown : OffL own (dLed D ++ I)) (hN : NodeAt (dLed D ++ I) x dx) :
    Inv prog w ⟨t, er, der, c, oer⟩ n m ⟨I, D, [], oc, dictOf es k⟩ b ∧ News G L h (own ++ (⟨I, D, [], oc, dictOf es k⟩ : GS).led ⟨t, er, der, c, oer⟩) ∧ OffL own ((⟨I, D, [], oc, dictOf es k⟩ : GS).led ⟨t, er, der, c, oer⟩) := by
  obtain ⟨C, sl, es', n', h1, _, h2, _⟩ := hN
  have hne : x ≠ dx := N.twoPlaces (.tail _ (.tail _ (.tail _ (.tail _ (List.mem_append_right _ h1))))) (.tail _ (.tail _ (.tail _ (.tail _ (List.mem_append_right _ h2))))) (fun e => by cases e)
  have one : @LT.lt Nat _ 1 tt := v_lt1 ⟨_, _, _, _, h1, h2, hne⟩ ltt
  have off : ∀ a, AllLt a (own ++ (dLed D ++ I)) → ∀ p ∈ dLed D ++ I, p.1 ≠ a := fun a ha p hp => Nat.ne_of_lt (tb_ltOf ha p (List.mem_append_right _ hp))
  have offo : ∀ a, AllLt a (own ++ (dLed D ++ I)) → ∀ p ∈ own, a ≠ p.1 := fun a ha p hp => Nat.ne_of_gt (tb_ltOf ha p (List.mem_append_left _ hp))
  have lo : ∀ a : Addr, @LT.lt Nat _ tt a → (a == sysModules) = false := fun a ha => beq_eq_false_iff_ne.mpr (Nat.ne_of_gt (Nat.lt_trans one ha))
  refine ⟨hW.inv hoc he (off _ le) (off _ ld.2.2) (off _ lc.2.2.2) (Nat.ne_of_lt ld.1) (Nat.ne_of_lt lc.2.1) (Nat.ne_of_lt lc.1) (lo _ lt) (lo _ ld.2.1) (lo _ lc.2.2.1), N.perm fun q hq => ?_, fun p hp q hq => ?_⟩
  · rcases List.mem_append.mp hq with hq | hq
    · exact .tail _ (.tail _ (.tail _ (.tail _ (List.mem_append_left _ hq))))
    · rcases List.mem_cons.mp hq with rfl | hq
      · exact .tail _ (.tail _ (.head _))
      · rcases List.mem_cons.mp hq with rfl | hq
        · exact .tail _ (.head _)
        · rcases List.mem_cons.mp hq with rfl | hq
          · exact .head _
          · exact .tail _ (.tail _ (.tail _ (.tail _ (List.mem_append_right _ hq))))
  · rcases List.mem_cons.mp hq with rfl | hq
    · exact offo _ le p hp
    · rcases List.mem_cons.mp hq with rfl | hq
      · exact offo _ ld.2.2 p hp
      · rcases List.mem_cons.mp hq with rfl | hq
        · exact offo _ lc.2.2.2 p hp
        · exact hown p hp q hq
end
end Mine
end

-- VRaise
section
open PySem PySem.W PyProof.Rows PySem.Calls PySem.Spec Builtin Builtin.ObjectAttr
set_option maxRecDepth 100000
set_option maxHeartbeats 1000000
namespace Mine
abbrev excD (tt dd : Addr) : Obj := { cls := .ref 94, dict := some dd, data := .fields #[.ref tt, .none, .none, .none, .bool false, .none] }
/-- an own error at hand, to be raised -/
def RaisO (w : World) (E : Value → Shared → Prop) (v : Value) (s₁ : Shared) : Prop :=
  ∃ e tt dd, v = .ref e ∧ (Mine.hd.heap_39 w.params).In s₁.heap ∧ s₁.heap.get? e = some (excD tt dd) ∧ E (.ref e) s₁
theorem raisO_mk {w : World} {E : Value → Shared → Prop} {s₁ : Shared} {e tt dd : Addr} (X : (Mine.hd.heap_39 w.params).In s₁.heap) (he : s₁.heap.get? e = some (excD tt dd)) (hE : E (.ref e) s₁) : RaisO w E (.ref e) s₁ := ⟨e, tt, dd, rfl, X, he, hE⟩
theorem v_raise {prog : Program} {w : World} {A : Around} {E : Value → Shared → Prop} {s : Shared} {env : Env} {x : PySem.Expr} {pos : Pos} {Q : Flow → Shared → Prop} (hh : A.handled = none) (h : wpAny (model prog w) A (eval x env) (RaisO w E) E s) :
    wpAny (model prog w) A (exec (.Raise (some x) none pos) env) Q E s := by
  rw [arm_exec_Raise]
  refine wpAny_bind (wpAny_standAt ?_)
  simp only [evalOpt, Option.map]
  unfold raiseStmt
  refine wpAny_bind (wpAny_bind (wpAny_mono h (fun v s₁ h₁ => wpAny_bind (wpAny_standAt (wpAny_pure ?_))) fun _ _ x => x))
  obtain ⟨e, tt, dd, rfl, X, he, hE⟩ := h₁
  obtain ⟨hp, g, d, tk, os⟩ := s₁
  have hs := looks_mroIn (M := model prog w) X (C := 94) (base := .type "BaseException") (r := true) rfl
  obtain ⟨ob, hC, hcl⟩ : ∃ ob, hp.get? 94 = some ob ∧ ob.cls = .type "type" := ⟨_, X _ _ rfl, rfl⟩
  repeat (first | (with_reducible refine wpAny_loadPart_at hC ?_; rw [hcl]) | with_reducible refine wpAny_loadPart_at he ?_ | with_reducible refine hs.at ?_ | wp_step)
  exact wpAny_raiseNew_none hh hE
end Mine
end

-- VLeave
section
open PySem PySem.W PyProof.Rows PySem.Calls PySem.Spec Builtin Builtin.ObjectAttr
set_option maxRecDepth 100000
set_option maxHeartbeats 1000000
namespace Mine
/-- an own error under way -/
def RaisedO (base G : Heap) (l : List Env) (e : Addr) (a0 : Value) (news : Led) (h : Heap) : Prop :=
  ∃ B, base.StaysIn B ∧ (∀ b o, G.get? b = some o → b ∉ l.filterMap (·.frame) → B.get? b = some o) ∧ (∀ q ∈ news, B.get? q.1 = some q.2 ∧ G.get? q.1 = none ∧ base.get? q.1 = none) ∧ Heap.FlyingW B l e (.ref 94) a0 h
section
variable {M : Model} {A : Around} {E : Value → Shared → Prop} {s' : Shared} {base g g₂ : Heap} {outer : List Env} {L a e tt dd : Addr} {m : Str → Option Value} {name : Str} {scope : Scope} {cd : Value} {Q : Unit → Shared → Prop} {news : Led}
theorem v_leave1 (K : Below A base outer g) (F : Fr g L s'.heap m) (N : News g L s'.heap ((e, excD tt dd) :: news)) (off : ∀ q ∈ news, q.1 ≠ e)
    (hQ : ∀ h', RaisedO base g outer e (.ref tt) news h' → g.UpToSlots h' → Q () { s' with heap := h' }) (hk : scope.kind = .function := by rfl) :
    wpAny M (A.deeper (envOf name scope L a cd)) (leaving (envOf name scope L a cd) (.ref e)) Q E s' := by
  have K' := K.push (name := name) (a := a) (cd := cd) F hk
  have Ne := N (e, excD tt dd) (.head _)
  have hin : ∀ env ∈ (envOf name scope L a cd :: outer), ∀ b, env.frame = some b → b ∈ e :: (envOf name scope L a cd :: outer).filterMap (·.frame) := fun env he b hb => .tail _ (List.mem_filterMap.mpr ⟨env, he, hb⟩)
  have fr0 : ∀ q ∈ (e, excD tt dd) :: news, q.1 ∉ (envOf name scope L a cd :: outer).filterMap (·.frame) := fun q hq hm => by
    obtain ⟨env, he, hf⟩ := List.mem_filterMap.mp hm
    rcases List.mem_cons.mp he with rfl | he
    · exact (N q hq).2.1 (Option.some.inj hf).symm
    · obtain ⟨o, ho, _⟩ := (K.frames.mem (List.mem_filterMap.mpr ⟨env, he, hf⟩)).2
      rw [(N q hq).2.2] at ho; cases ho
  have ebase : base.get? e = none := fresh_of_stays K.stays Ne.2.2
  have st : base.StaysIn (hideAll s'.heap (e :: (envOf name scope L a cd :: outer).filterMap (·.frame))) := fun b o q => hideAll_get _ (K'.stays b o q) fun hm => by
    rcases List.mem_cons.mp hm with rfl | hm
    · rw [ebase] at q; cases q
    · rw [(K'.frames.mem hm).1] at q; cases q
  have sg : ∀ b o, g.get? b = some o → b ∉ outer.filterMap (·.frame) → (hideAll s'.heap (e :: (envOf name scope L a cd :: outer).filterMap (·.frame))).get? b = some o := fun b o q nm => hideAll_get _ (F.keep b o q) fun hm => by
    rcases List.mem_cons.mp hm with rfl | hm
    · rw [Ne.2.2] at q; cases q
    · rcases kts_mem hm with z | z
      · rw [z, kts_self F] at q
        cases q
      · exact nm z
  have hl : ∀ q ∈ news, (hideAll s'.heap (e :: (envOf name scope L a cd :: outer).filterMap (·.frame))).get? q.1 = some q.2 ∧ g.get? q.1 = none ∧ base.get? q.1 = none := fun q hq =>
    ⟨hideAll_get _ (N q (.tail _ hq)).1 fun hm => by
      rcases List.mem_cons.mp hm with h | hm
      · exact off q hq h
      · exact fr0 q (.tail _ hq) hm, (N q (.tail _ hq)).2.2, fresh_of_stays K.stays (N q (.tail _ hq)).2.2⟩
  refine wpAny_leaving_firstW (oe := excD tt dd) (a0 := .ref tt) K'.stack (funFrames_hide K'.frames hin) rfl Ne.1 (fun b o q => of_hideAll _ q) (hideAll_none _ (.head _)) rfl rfl rfl fun h' hL => ?_
  obtain ⟨k1, ⟨_, _, k2⟩, k3, k4⟩ := hL
  exact hQ h' ⟨_, st, sg, hl, ⟨k1, hideAll_none _ (.head _), k2, k3⟩⟩ ((Heap.UpToSlots.of_keeps F.keep).trans k4)
theorem v_leaveOn {a0 : Value} (K : Below A base outer g) (F : Fr g L g₂ m) (R : RaisedO base g₂ (envOf name scope L a cd :: outer) e a0 news s'.heap) (hsm : g₂.UpToSlots s'.heap)
    (hQ : ∀ h', RaisedO base g outer e a0 news h' → g.UpToSlots h' → Q () { s' with heap := h' }) :
    wpAny M (A.deeper (envOf name scope L a cd)) (leaving (envOf name scope L a cd) (.ref e)) Q E s' := by
  obtain ⟨B, hB, hBG, hl, hfl⟩ := R
  exact wpAny_leaves_onW (Around.frames_deeper K.stack) rfl hfl fun h' x1 x2 => hQ h' ⟨B, hB, fun b o q nm => hBG b o (F.keep b o q) (fun hm => by
      rcases kts_mem hm with z | z
      · rw [z, kts_self F] at q
        cases q
      · exact nm z), fun q hq => ⟨(hl q hq).1, kts_none F.keep (hl q hq).2.1, (hl q hq).2.2⟩, x1⟩ ((Heap.UpToSlots.of_keeps F.keep).trans (hsm.trans x2))
end
section
variable {w : World} {A₀ : Around} {E : Value → Shared → Prop} {s' : Shared} {h₀ h : Heap} {outer : List Env} {L a e : Addr} {a0 : Value} {m : Str → Option Value} {name : Str} {scope : Scope} {cd : Value}
  {b₀ : Stmt} {suite : List Stmt} {pos np : Pos} {rest : List ExceptHandler} {Q : Flow → Shared → Prop} {news : Led} {p : Program} {loose : List Str} {mean : ExcName → Option Value} {mg mb : Str → Option Value} {prog : Program}
theorem v_caught {g g₀ G : Heap} {base : Heap} (K : Below A₀ base outer g) (F : Fr g L G m) (hsm : G.UpToSlots s'.heap) (R : RaisedO base G (envOf name scope L a cd :: outer) e a0 news s'.heap)
    (XB : (Mine.hd.heap_39 w.params).In base) (TB : Top p loose mean mg mb base) (D : KtsDicts (outer.filterMap (·.frame)) g) (T0 : KtsTurn (outer.filterMap (·.frame)) g₀ g) (ex : nsIn (Mine.hd.heap_39 w.params) mainGlobals (Str.ofString "ParseError") = some (some (.ref 94)))
    (k : ∀ h' g', KtsTurn (outer.filterMap (·.frame)) g₀ g' → Fr g' L h' m → News g' L h' news → Below A₀ base outer g' → (Mine.hd.heap_39 w.params).In g' → Top p loose mean mg mb g' → KtsDicts (outer.filterMap (·.frame)) g' →
      wpAny (model prog w) ((A₀.deeper (envOf name scope L a cd)).mark (some (.ref e))) (execs (b₀ :: suite) (envOf name scope L a cd)) Q E { s' with heap := h' })
    (hk : scope.kind = .function := by rfl) (hx : (envOf name scope L a cd).kindOf (Str.ofString "ParseError") = some .globalImplicit := by rfl)
    (hE : PassesOwnAt (model prog w) ((A₀.deeper (envOf name scope L a cd)).mark (some (.ref e))) (A₀.deeper (envOf name scope L a cd)) (envOf name scope L a cd) E := by passes_own) :
    wpAny (model prog w) (A₀.deeper (envOf name scope L a cd)) (noteFrame (.ref e) (envOf name scope L a cd))
      (fun _ s₂ => wpAny (model prog w) (A₀.deeper (envOf name scope L a cd)) (setFlight (.ref e) none) (fun _ s₃ =>
        wpAny (model prog w) (A₀.deeper (envOf name scope L a cd)) (handleBy (.ref e) (envOf name scope L a cd) (.ExceptHandler (some (.Name (Str.ofString "ParseError") np)) none (b₀ :: suite) pos :: rest)) Q E s₃) E s₂) E s' := by
  obtain ⟨B, hB, hBG, hl, hfl⟩ := R
  have hL : B.get? L = none := by
    obtain ⟨_, ⟨L', _, hf, hn', _⟩, _⟩ := hfl.2.2.1
    obtain rfl : L = L' := Option.some.inj hf
    exact hn'
  refine wpAny_looks_onW (Around.frames_deeper K.stack) rfl hfl fun h₄ hheld₄ hsm₄ => ?_
  refine wpAny_landsW hheld₄ fun h₅ hheld hsm₅' => ?_
  have hsm₅ := hsm₄.trans hsm₅'
  obtain ⟨g₅, T₅, F₅, K₅⟩ := kts_ground K F hBG hheld.1 (hsm.trans hsm₅)
  have X₅ := XB.keeps K₅.stays
  have P₅ : TopRead p loose mg mb g₅ := topRead_of (TB.keeps K₅.stays)
  obtain ⟨ob, hob, hobc⟩ := hheld.there
  refine wpAny_handleBy_cons (codeAny_handlers_test (name_K F₅ X₅ P₅ ex ?_ hk hx (by decide))) (by intro q; cases q)
  have TL : OwnTail h₅ [.type "Exception", .type "BaseException", .type "object"] [.ref 38, .ref 52, .type "Exception", .type "BaseException", .type "object"] := tail_of_in (X₅.keeps F₅.keep) (by kernel_rfl)
  refine wpAny_excMatches_sub_self (C := 94) ((X₅.keeps F₅.keep) _ _ rfl) hob hobc (TL.hasType (by decide)) (codeAny_handlers_suite ?_)
  refine lands_againW hheld fun h₆ hfl₆ hsm₆ => ?_
  obtain ⟨g₆, T₆, F₆, K₆⟩ := kts_ground K F hBG hfl₆.1 ((hsm.trans hsm₅).trans hsm₆)
  have Nl : News g₆ L h₆ news := fun q hq => ⟨hfl₆.1 _ _ (hl q hq).1, (fun z => by have := (hl q hq).1; rw [z, hL] at this; cases this), T₆.none_ _ (kts_none F.keep (hl q hq).2.1)⟩
  exact wpAny_passesOwnAt hE (k h₆ g₆ (T0.trans T₆) F₆ Nl K₆ (XB.keeps K₆.stays) (TB.keeps K₆.stays) (D.turn T₆))
end
end Mine
end

-- VEnd
section
open PySem PySem.W PyProof.Rows PySem.Calls
set_option Elab.async false
set_option maxRecDepth 100000
set_option maxHeartbeats 4000000
namespace Mine
local macro_rules | `(tactic| k_room) => `(tactic| ktr_room)
local macro_rules | `(tactic| k_units) => `(tactic| ktr_units)
local macro_rules | `(tactic| walk_at "V super") => `(tactic| (refine' ks_code_super ?k1 ?k2 ?k3 ?k4 ?k5 ?kA ?kF ?kK ?k6 ?k7 ?k8 ?k9 ?kB ?_ ?c1 ?c2 ?c3 ?c4; (case kA => exact rfl); (case kF => exact rfl); (case kK => first | exact rfl | assumption); (case k1 => k_asm); (case k2 => k_asm); (case k3 => k_asm); (case k4 => k_asm); (case k5 => k_asm); (case k6 => k_is); (case k7 => k_is); (case k8 => k_room); (case k9 => first | exact BindsTo.of_eq rfl | exact binds_K (by k_in) rfl (by k_is) rfl rfl rfl); (case kB => exact locs rfl); (case c1 => decide); (case c2 => exact rfl); (case c3 => exact rfl); (case c4 => exact rfl); intro g' L' h' FG' F' N' B' X' T' l1; (try k_lt l1); (try dsimp only); (try k_lift B')))
local macro_rules | `(tactic| k_mem) => `(tactic| assumption)
local macro_rules | `(tactic| walk_at "call ref") => `(tactic| (k_here; k_dflt (refine' call_cls ?k1 ?k2 ?k3 ?k4 ?k5 ?k6 ?_; (case k1 => k_asm); (case k2 => k_asm); (case k3 => k_asm); (case k4 => k_is); (case k5 => k_is); (case k6 => k_is); k_whole; intro x' d' h' F' N' l1 l2; (have l3 := tbn_up l2 (allLt_of l1)); (try simp only [AllLt, and_true] at l3); (replace l1 := allLt_of l1); (try simp only [AllLt, and_true] at l1); (try k_lt2 l2); (try k_sweep); first | k_enter | walk_at "V super")))
local macro_rules | `(tactic| walk_at "V both") => `(tactic| (refine' v_bothS ?k1 ?k2 ?k3 ?k4 ?k5 ?kA ?kF ?kK ?k6 ?k7 ?k8 ?kV ?kX ?kQ ?kM ?kN ?kR ?kP ?kS ?kT ?kB ?_ ?c2 ?c3 ?c4 ?c5; (case kA => exact rfl); (case kF => exact rfl); (case kK => first | exact rfl | assumption); (case k1 => k_asm); (case k2 => k_asm); (case k3 => k_asm); (case k4 => k_asm); (case k5 => k_asm); (case k6 => k_is); (case k7 => k_is); (case k8 => k_room); (case kV => kp_lit); (case kX => kp_lit); (case kQ => exact rfl); (case kM => exact rfl); (case kN => exact rfl); (case kR => exact rfl); (case kP => exact rfl); (case kS => exact fun _ => rfl); (case kT => exact fun _ _ => rfl); (case kB => exact fun _ _ => locs rfl); (case c5 => decide); (case c2 => exact rfl); (case c3 => exact rfl); (case c4 => exact rfl); k_whole; intro C' D' o' g' L' h' tk' l1 l2 lo' hs' l3 FG' F' N' B' X' T'; (try k_lt l1); (try k_lt2 l2); (replace l3 := allLt_of l3); (try simp only [AllLt, and_true] at l3); (try dsimp only); (try k_lift B')))
local macro_rules | `(tactic| walk_at "V more") => `(tactic| (refine' v_moreS ?k1 ?k2 ?k3 ?k4 ?k5 ?kA ?kF ?kK ?k6 ?k7 ?k8 ?kX ?kM ?kN ?kR ?kP ?kS ?kB ?_ ?c2 ?c3 ?c4 ?c5; (case kA => exact rfl); (case kF => exact rfl); (case kK => first | exact rfl | assumption); (case k1 => k_asm); (case k2 => k_asm); (case k3 => k_asm); (case k4 => k_asm); (case k5 => k_asm); (case k6 => k_is); (case k7 => k_is); (case k8 => k_room); (case kX => kp_lit); (case kM => exact rfl); (case kN => exact rfl); (case kR => exact rfl); (case kP => exact rfl); (case kS => exact fun _ => rfl); (case kB => exact fun _ => locs rfl); (case c5 => decide); (case c2 => exact rfl); (case c3 => exact rfl); (case c4 => exact rfl); k_whole; intro D' o' g' L' h' tk' l1 lo' hs' l3 FG' F' N' B' X' T'; (try k_lt l1); (replace l3 := allLt_of l3); (try simp only [AllLt, and_true] at l3); (try dsimp only); (try k_lift B')))
local macro_rules | `(tactic| walk_at "call ref") => `(tactic| (k_here; k_dflt (refine' call_cls ?k1 ?k2 ?k3 ?k4 ?k5 ?k6 ?_; (case k1 => k_asm); (case k2 => k_asm); (case k3 => k_asm); (case k4 => k_is); (case k5 => k_is); (case k6 => k_is); k_whole; intro x' d' h' F' N' l1 l2; (have l3 := tbn_up l2 (allLt_of l1)); (try simp only [AllLt, and_true] at l3); (replace l1 := allLt_of l1); (try simp only [AllLt, and_true] at l1); (try k_lt2 l2); (try k_sweep); first | k_enter | walk_at "V super" | walk_at "V both" | walk_at "V more")))
local macro_rules | `(tactic| walk_at "call ref") => `(tactic| (k_here; k_dflt (refine' call_meth ?k1 ?k2 ?_; (case k1 => k_asm); (case k2 => k_mem); first | k_enter | walk_at "V super" | walk_at "V both" | walk_at "V more")))
local macro_rules | `(tactic| walk_at "getMethod ref") => `(tactic| (k_here; (with_reducible show wpAny _ _ (getMethod (Value.ref _) (Str.ofString "get") _) _ _ _); k_dflt (first
  | refine kdg_method (knd := PySem.strKind _ _) (by k_asm) (by k_mem) (by k_asm) ?_
  | refine kdg_method (knd := PySem.intKind _ _) (by k_asm) (by k_mem) (by k_asm) ?_)))
local macro_rules | `(tactic| walk_at "call builtin:dict.get") => `(tactic| (k_here; k_dflt (first
  | refine kdg_get2 (knd := PySem.strKind _ _) (by k_asm) (by k_mem) (by k_asm) (by k_asm) (strKind_is _ _ _ _) (some _) (by rfl) ?_
  | refine kdg_get2 (knd := PySem.strKind _ _) (by k_asm) (by k_mem) (by k_asm) (by k_asm) (strKind_is _ _ _ _) none (by rfl) ?_); (try dsimp only [Option.getD])))
local macro_rules | `(tactic| walk_at "wpAt") => `(tactic| (ks_step "eval Call"; refine v_wpAt_superKw (by rfl) ?_))
local macro_rules | `(tactic| walk_at "getAttr ref") => `(tactic| (k_here; ks_any; k_dflt (refine' v_superAttr ?k1 ?k2 ?k3 ?k4 ?k5 ?k6 ?k7 ?k8 ?k9 ?_; (case k1 => k_asm); (case k2 => k_asm); (case k3 => k_asm); (case k4 => k_mem); (case k5 => k_inst); (case k6 => k_is); (case k7 => ks_is); (case k8 => k_is); (case k9 => decide); intro q' h' F' N' l1; (replace l1 := allLt_of l1); (try simp only [AllLt, and_true] at l1))))
local macro_rules | `(tactic| walk_at "callWith ref") => `(tactic| (k_here; k_dflt (refine' v_callKwM ?k1 ?k2 ?k3 ?k4 ?k5 ?_; (case k1 => k_asm); (case k2 => k_asm); (case k3 => k_mem); (case k4 => k_is); (case k5 => rfl); k_whole)))
local macro_rules | `(tactic| walk_at "evalArgs") => `(tactic| (k_here; k_dflt (refine v_evalArgsE (by rfl) ?_)))
local macro_rules | `(tactic| walk_at "mergedKeywords") => `(tactic| (k_here; (with_reducible show wpAny _ _ (mergedKeywords _ (backToKw _ (keywordEach [PySem.Keyword.mk Option.none _ _] _))) _ _ _); k_dflt (refine v_mergedE0 (by k_asm) (by k_asm) ?_; intro d' h' F' N' l1; (replace l1 := allLt_of l1); (try simp only [AllLt, and_true] at l1))))
local macro_rules | `(tactic| walk_at "mergedKeywords") => `(tactic| (k_here; (with_reducible show wpAny _ _ (mergedKeywords _ (backToKw _ (keywordEach [PySem.Keyword.mk (Option.some _) _ _, PySem.Keyword.mk Option.none _ _] _))) _ _ _); k_dflt (refine' v_mergedE1 ?k1 ?k2 ?k3 ?kv ?_; (case k1 => k_asm); (case k2 => k_asm); (case k3 => exact Top.nolimit (by k_asm)); (case kv => (intro s9 R9 F9 h9; walk_at "eval Name"; exact h9)); intro d' h' sub' tk' F' N' l1 l2; (replace l1 := allLt_of l1); (try simp only [AllLt, and_true] at l1); (try k_lt2 l2))))
local macro_rules | `(tactic| walk_at "Exists") => `(tactic| (k_here; k_dflt (refine v_kwEnd (by k_asm) (by k_mem) (by k_mem) (by k_asm) (by k_asm) ?_)))
local macro_rules | `(tactic| walk_at "keywordsIn") => `(tactic| (k_here; k_dflt (first | refine v_kwIn0 (News.get (by k_asm) (by k_mem)) ?_ | refine v_kwIn1 (News.get (by k_asm) (by k_mem)) ?_)))
local macro_rules | `(tactic| walk_at "V enter") => `(tactic| (refine' code_def ?k1 ?k2 ?k3 ?k4 ?k5 ?kA ?kF ?kK ?k6 ?k7 ?k8 ?k9 ?kB ?_ ?c2 ?c3 ?c4 ?c5; (case kA => exact rfl); (case kF => exact rfl); (case kK => first | exact rfl | assumption); (case k1 => k_asm); (case k2 => k_asm); (case k3 => k_asm); (case k4 => k_asm); (case k5 => k_asm); (case k6 => k_is); (case k7 => k_is); (case k8 => k_room); (case k9 => first | exact BindsTo.of_eq rfl | exact binds_K (by k_in) rfl (by k_is) rfl rfl rfl | fail "V enter: no rule for these arguments"); (case c5 => decide); (case kB => exact locs rfl); (case c2 => exact rfl); (case c3 => exact rfl); (case c4 => exact rfl); k_whole; intro g' L' h' FG' F' N' B' X' T'; (try dsimp only); (try k_fold)))
local macro_rules | `(tactic| walk_at "exec For Name Attribute cons nil") => `(tactic| (k_here; (rename Fr _ _ _ _ => lF'); (with_unfolding_all refine' For_turns lF' ?_; k_whole)))
local macro_rules | `(tactic| walk_at "pyIter ref") => `(tactic| (k_here; (with_reducible show wpAny _ _ (pyIter (Value.ref _)) (fun it s₂ => TurnsAt _ _ _ _ _ _ _ _ _ it s₂) _ _); (rename Fr _ _ _ _ => lF'); (rename News _ _ _ _ => lN'); (with_unfolding_all refine' iter_tupTurns (n := 0) ?hh lF' lN' ?hm ?hc ?hd ?_; (case hh => rfl); (case hm => k_mem); (case hc => rfl); (case hd => rfl)); clear lF' lN'; intro i' l1; (replace l1 := allLt_of l1); (try simp only [AllLt, and_true] at l1); (try dsimp only [List.map])))
local macro_rules | `(tactic| k_mem) => `(tactic| exact List.mem_append_right _ (by assumption))
local macro_rules | `(tactic| k_all) => `(tactic| assumption)
local macro_rules | `(tactic| walk_at "getMethod ref") => `(tactic| (k_here; (with_reducible show wpAny _ _ (getMethod (Value.ref _) (Str.ofString "match_core") _) _ _ _); (rename MCs _ _ _ _ _ _ _ _ _ _ _ _ _ _ => lM'); k_dflt (refine' v_getMC' lM' ?k1 ?k2 ?k3 ?k4 ?k5 ?k6 ?_; (case k1 => k_asm); (case k2 => k_asm); (case k3 => k_asm); (case k4 => (repeat (first | exact SplitL.nil | apply SplitL.cons))); (case k5 => assumption); (case k6 => assumption))))
local macro_rules | `(tactic| walk_at "call ref") => `(tactic| (k_here; (with_reducible show wpAny _ _ (call (Value.ref 266) _) _ _ _); (rename MCs _ _ _ _ _ _ _ _ _ _ _ _ _ _ => lM'); k_dflt (refine' v_callMCz lM' ?k1 ?k2 ?k3 ?k4 ?k5 ?k6 ?k7 ?k8 ?k9 ?kA ?kB ?kC ?kD ?kE ?_; (case k1 => k_asm); (case k2 => k_asm); (case k3 => k_asm); (case k4 => k_asm); (case k5 => k_asm); (case k6 => (repeat (first | exact SplitL.nil | apply SplitL.cons))); (case k7 => assumption); (case k8 => assumption); (case k9 => omega); (case kA => exact rfl); (case kB => k_room); (case kC => k_units); (case kD => (repeat (first | exact OffL.nil | refine OffL.cons (by k_all) ?_))); (case kE => assumption)); intro v' W' h' tk' F' N' hA'; (try simp only [List.cons_append, List.nil_append] at N')))
local macro_rules | `(tactic| walk_at "call ref") => `(tactic| (k_here; (with_reducible show wpAny _ _ (call (Value.ref 266) _) _ _ _); (rename MCs _ _ _ _ _ _ _ _ _ _ _ _ _ _ => lM'); k_dflt (refine' v_callMC lM' ?k1 ?k2 ?k3 ?k4 ?k5 ?k6 ?k7 ?k8 ?k9 ?kA ?kB ?kC ?kD ?kE ?_; (case k1 => k_asm); (case k2 => k_asm); (case k3 => k_asm); (case k4 => k_asm); (case k5 => k_asm); (case k6 => (repeat (first | exact SplitL.nil | apply SplitL.cons))); (case k7 => assumption); (case k8 => assumption); (case k9 => first | assumption | omega); (case kA => exact rfl); (case kB => k_room); (case kC => k_units); (case kD => (repeat (first | exact OffL.nil | refine OffL.cons (by k_all) ?_))); (case kE => assumption)); intro v' W' h' tk' F' N' hA'; (try simp only [List.cons_append, List.nil_append] at N')))
local macro_rules | `(tactic| walk_at "truthy ref") => `(tactic| (k_here; (with_reducible show wpAny _ _ (truthy (Value.ref _)) _ _ _); k_dflt (refine v_truthyL (by k_asm) (by k_mem) (by first | assumption | exact Nat.le_of_ble_eq_true rfl | omega) ?_); (try simp only [List.isEmpty_toArray, List.isEmpty_cons, List.isEmpty_nil, Array.isEmpty_push, Bool.not_false, Bool.not_true])))
local macro_rules | `(tactic| walk_at "UnrEndW") => `(tactic| (refine' v_end ?k1 ?k2 ?k3 ?k4 (And.intro (And.intro ?k5 trivial) ?_); (case k1 => k_asm); (case k2 => k_asm); (case k3 => rfl); (case k4 => (repeat (first | exact OffL.nil | refine OffL.cons (by k_all) ?_))); (case k5 => k_mem)))
local macro_rules | `(tactic| walk_at "V end") => `(tactic| (refine' um_end2 ?k1 ?k2 ?k3 ?k4 ?k5 ?k6 ?k7 ?k8 ?k9; (case k1 => k_asm); (case k2 => k_asm); (case k3 => (repeat (first | exact PickL.nil | apply PickL.skip (by assumption) | apply PickL.skipL | apply PickL.cons))); (case k9 => assumption); (case k4 => assumption); (case k5 => assumption); (case k6 => assumption); (case k7 => (repeat (first | exact NewL.nil | refine' NewL.cons ?_ (by k_all) (by k_all) (v_lt1 (by assumption) (by tbn_find)) rfl))); (case k8 => first | exact ⟨_, _, _, _, _, _, _, rfl, .head _, .tail _ (.head _)⟩ | exact rfl)))
local macro_rules | `(tactic| walk_at "WhlRest") => `(tactic| (refine unHalt ?_))
local macro_rules | `(tactic| walk_at "call builtin:len") => `(tactic| (k_here; (with_reducible show wpAny _ _ (call (Value.builtin "len") [Value.ref _]) _ _ _); k_dflt (refine v_lenL (by k_asm) (by k_mem) (by first | assumption | (rw [Array.size_push]; exact congrArg (· + 1) (by assumption))) (by omega) ?_)))
local macro_rules | `(tactic| walk_at "compareOp Lt int float") => `(tactic| (refine lt_if ?_; rw [inf_gt]))
local macro_rules | `(tactic| walk_at "call builtin:getattr") => `(tactic| (k_here; (with_reducible show wpAny _ _ (call (Value.builtin "getattr") [Value.ref _, Value.str _ _, _]) _ _ _); k_dflt (first
  | (refine' v_own3 ?k1 ?k2 ?k3 ?k4 ?k5 ?k6 ?k7 ?k8 ?k9 ?kA ?kB ?_; (case k1 => k_asm); (case k2 => k_asm); (case k3 => k_inst); (case k4 => k_is); (case k5 => k_is); (case k6 => k_is); (case k7 => k_is); (case k8 => k_is); (case k9 => k_get); (case kA => k_handed); (case kB => decide))
  | (refine' v_slot3 ?k1 ?k2 ?k3 ?k4 ?k5 ?k6 ?k7 ?k8 ?k9 ?kA ?kB ?kC ?kD ?_; (case k1 => k_asm); (case k2 => k_asm); (case k3 => k_inst); (case k4 => k_is); (case k5 => k_is); (case k6 => k_is); (case k7 => k_is); (case k8 => k_is); (case k9 => k_is); (case kA => k_is); (case kB => k_get); (case kC => k_handed); (case kD => decide))
  | (refine' v_miss3 ?k1 ?k2 ?k3 ?k4 ?k5 ?k6 ?k7 ?k8 ?k9 ?kA ?kB ?kC ?kD ?kE ?_; (case k1 => k_asm); (case k2 => k_asm); (case k3 => k_asm); (case k4 => k_inst); (case k5 => k_is); (case k6 => k_is); (case k7 => k_is); (case k8 => k_is); (case k9 => decide +kernel); (case kA => k_get); (case kB => rfl); (case kC => rfl); (case kD => decide); (case kE => rw [sizeLine_eq]; decide); intro h' tk' F' N'))))
local macro_rules | `(tactic| walk_at "call builtin:getattr") => `(tactic| (k_here; (with_reducible show wpAny _ _ (call (Value.builtin "getattr") [Value.none, Value.str _ _, _]) _ _ _); k_dflt (refine' v_none3 ?k1 ?k3 ?k4 ?k5 ?k6 ?k7 ?_; (case k1 => k_asm); (case k3 => k_asm); (case k4 => exact am_miss_of_fast (by decide +kernel)); (case k5 => rfl); (case k6 => decide); (case k7 => rw [sizeLine_eq]; decide); intro h' tk' F' N')))
local macro_rules | `(tactic| walk_at "call builtin:getattr") => `(tactic| (k_here; (with_reducible show wpAny _ _ (call (Value.builtin "getattr") [Value.ref _, Value.str (Str.ofString "oids") _, _]) _ _ _); (rename XObj _ _ _ => lX'); k_dflt (first
  | (refine' v_oidsMiss ?k1 ?k2 ?k3 ?k4 lX' ?k5 ?k6 ?k7 ?_; (case k1 => k_asm); (case k2 => k_asm); (case k3 => k_asm); (case k4 => k_mem); (case k5 => k_mem); (case k6 => rfl); (case k7 => rfl); intro h' tk' F' N')
  | (refine' v_oidsOwn ?k1 ?k2 ?k3 ?k4 lX' ?k5 ?k6 ?k7 ?_; (case k1 => k_asm); (case k2 => k_asm); (case k3 => k_asm); (case k4 => k_mem); (case k5 => k_mem); (case k6 => first | exact getL_one | rfl); (case k7 => rfl)))))
local macro_rules | `(tactic| walk_at "call builtin:len") => `(tactic| (k_here; (with_reducible show wpAny _ _ (call (Value.builtin "len") [Value.ref _]) _ _ _); k_dflt (refine kda_len (knd := PySem.intKind _ _) (by k_asm) (by k_mem) (by assumption) (by assumption) (by first | assumption | omega | (refine Nat.le_trans (stored_le _ _ _) (by omega))) ?_)))
local macro_rules | `(tactic| walk_at "setItem ref int") => `(tactic| (k_here; k_dflt (refine' kda_set (knd := PySem.intKind _ _) ?F ?N ?U ?d (intKind_is _ _ _ _) ?z ?_; (case F => k_asm); (case N => k_asm); (case U => k_updF); (case d => assumption); (case z => rw [sizeLine_eq]; omega)); intro h' o' F' N' hd'))
local macro_rules | `(tactic| walk_at "setAttr ref") => `(tactic| (k_here; (with_reducible show wpAny _ _ (setAttr (Value.ref _) (Str.ofString "oids") _) _ _ _); (rename XObj _ _ _ => lX'); k_dflt (refine' v_setOids ?k1 ?k2 ?k3 ?k4 lX' ?k5 ?k6 ?k7 ?k8 ?k9 ?_; (case k1 => k_asm); (case k2 => k_asm); (case k3 => k_asm); (case k4 => k_mem); (case k5 => k_mem); (case k6 => rfl); (case k7 => rfl); (case k8 => k_upd); (case k9 => exact Nat.le_of_ble_eq_true rfl)); intro h' F' N'))
local macro_rules | `(tactic| walk_at "getMethod ref") => `(tactic| (k_here; (with_reducible show wpAny _ _ (getMethod (Value.ref _) (Str.ofString "get") _) _ _ _); k_dflt (refine kdg_method (knd := PySem.intKind _ _) (by k_asm) (by k_mem) (by assumption) ?_)))
local macro_rules | `(tactic| walk_at "call builtin:dict.get") => `(tactic| (k_here; k_dflt (refine kdg_get1 (knd := PySem.intKind _ _) (by k_asm) (by k_mem) (by assumption) (by assumption) (intKind_is _ _ _ _) _ (by assumption) ?_); (try dsimp only [Option.getD])))
local macro_rules | `(tactic| walk_at "compareOp Is ref ref") => `(tactic| (k_here; k_dflt (first | refine wpAny_is_ref_self ?_ | (refine' kto_is (News.get ?N1 ?m1) (News.get ?N2 ?m2) ?ne ?cl ?_; (case N1 => k_asm); (case m1 => k_mem); (case N2 => k_asm); (case m2 => k_mem); (case ne => assumption); (case cl => assumption)))))
local macro_rules | `(tactic| walk_at "binaryOp Add ref ref") => `(tactic| (k_here; (with_reducible show wpAny _ _ (binaryOp Operator.Add (Value.ref _) (Value.ref _)) _ _ _); k_dflt (refine' v_addT ?k1 ?k2 ?k3 ?k4 ?k5 ?_; (case k1 => k_asm); (case k2 => k_asm); (case k3 => k_mem); (case k4 => k_mem); (case k5 => assumption)); intro T' h' lT' F' N'))
local macro_rules | `(tactic| walk_at "compareOp In int ref") => `(tactic| (k_here; k_dflt (refine kda_in (knd := PySem.intKind _ _) (by k_asm) (by k_mem) (by assumption) (by assumption) (intKind_is _ _ _ _) _ (by assumption) ?_)))
local macro_rules | `(tactic| walk_at "getMethod ref") => `(tactic| (k_here; (with_reducible show wpAny _ _ (getMethod (Value.ref _) (Str.ofString "_uncached_match") _) _ _ _); (rename XObj _ _ _ => lX'); k_dflt (refine v_getUM2 (by k_asm) (by k_asm) (by k_asm) (by k_mem) lX' (by k_mem) (by assumption) (by assumption) ?_)))
local macro_rules | `(tactic| walk_at "subscriptTail") => `(tactic| (k_here; k_dflt (refine kda_item (knd := PySem.intKind _ _) (by k_asm) (by k_mem) (by assumption) (intKind_is _ _ _ _) (by assumption) ?_)))
local macro_rules | `(tactic| walk_at "callWith ref") => `(tactic| (k_here; k_dflt (refine' callWith_K ?k1 ?k2 ?_; (case k2 => assumption); (case k1 => k_asm); k_whole)))
local macro_rules | `(tactic| k_inst) => `(tactic| (refine' v_instF ?N ?h1 ?h2; (case N => k_asm); (case h1 => k_mem); (case h2 => k_mem)))
local macro_rules | `(tactic| walk_at "getAttr ref") => `(tactic| (k_here; (with_reducible show wpAny _ _ (getAttr (Value.ref _) (Str.ofString "name") _) _ _ _); k_dflt (refine' v_name ?k1 ?k2 ?k3 ?k4 ?k5 ?k6 ?_; (case k1 => k_asm); (case k2 => k_asm); (case k3 => k_asm); (case k4 => k_mem); (case k5 => assumption); (case k6 => k_mem)); intro tk'))
local macro_rules | `(tactic| walk_at "call builtin:getattr") => `(tactic| (k_here; (with_reducible show wpAny _ _ (call (Value.builtin "getattr") [Value.ref _, Value.str (Str.ofString "name") _, _]) _ _ _); k_dflt (refine' v_name3 ?k1 ?k2 ?k3 ?k4 ?k5 ?k6 ?_; (case k1 => k_asm); (case k2 => k_asm); (case k3 => k_asm); (case k4 => k_mem); (case k5 => assumption); (case k6 => k_mem)); intro tk'))
local macro_rules | `(tactic| walk_at "getAttr ref") => `(tactic| (k_here; k_dflt (refine' v_getE (C := 94) ?k1 ?k2 ?k3 ?k4 ?k5 ?k6 ?k7 ?k8 ?k9 ?kA ?_; (case k1 => k_asm); (case k2 => k_asm); (case k3 => (refine' v_instF ?N ?h1 ?h2; (case N => k_asm); (case h1 => k_mem); (case h2 => k_mem))); (case k4 => k_is); (case k5 => k_is); (case k6 => k_is); (case k7 => k_is); (case k8 => k_is); (case k9 => k_get); (case kA => k_handed))))
local macro_rules | `(tactic| walk_at "setAttr ref") => `(tactic| (k_here; k_dflt (refine' v_storeDict (C := 94) ?k1 ?k2 ?k3 ?k4 ?k5 ?k6 sets94 ?k8 ?k9 ?kA ?kB ?kC ?_; (case k1 => k_asm); (case k2 => k_asm); (case k3 => k_asm); (case k4 => (refine' v_instF ?N ?h1 ?h2; (case N => k_asm); (case h1 => k_mem); (case h2 => k_mem))); (case k5 => rfl); (case k6 => k_is); (case k8 => k_is); (case k9 => rfl); (case kA => rfl); (case kB => k_upd); (case kC => exact Nat.le_of_ble_eq_true rfl)); intro h' F' N'))
theorem NodeAt.mono {W W' : Led} {y dy : Addr} (h : NodeAt W y dy) (hs : ∀ q ∈ W, q ∈ W') : NodeAt W' y dy := by
  obtain ⟨C, sl, es, n, h1, hC, h2, h3⟩ := h
  exact ⟨C, sl, es, n, hs _ h1, hC, hs _ h2, h3⟩
theorem v_getMatch {w : World} {A : Around} {E : Value → Shared → Prop} {s : Shared} {L y dy : Addr} {h₀ : Heap} {m : Str → Option Value} {all : Led} {pl : Sem Bool} {Q : Value × List Value → Shared → Prop} (F : Fr h₀ L s.heap m) (X : (Mine.hd.heap_39 w.params).In h₀) (N : News h₀ L s.heap all) (hn : NodeAt all y dy)
    (h : Q (.ref 259, [.ref y]) s) : wpAny (model PySem.Challenge.rw_vj0021_01.row.prog w) A (getMethod (.ref y) (Str.ofString "match") pl) Q E s := by
  obtain ⟨C, sl, es, n, h1, hC, h2, h3⟩ := hn
  have g : getL (Str.ofString "match") es = some none := by
    rcases h3 with rfl | ⟨_, _, _, rfl⟩
    · rfl
    · unfold getL
      rw [List.find?_cons_of_neg (by simp [Value.isStr]; decide)]
      simp [DictEntry.refKey]
  w_top off
  revert X; k_fill; intro X
  have I := InstAt.of_news (C := C) N h1 h2
  rcases hC with rfl | rfl | rfl | rfl | rfl
  all_goals (k_dflt (refine' method_inst F X I ?k1 ?k2 ?k3 g h; (case k1 => k_is); (case k2 => k_is); (case k3 => k_is)))
variable {w : World} {p : Program} {loose : List Str} {mean : ExcName → Option Value} {mg mb : Str → Option Value}
local macro_rules | `(tactic| walk_at "getMethod ref") => `(tactic| (k_here; (with_reducible show wpAny _ _ (getMethod (Value.ref _) (Str.ofString "match") _) _ _ _); k_dflt (refine' v_getMatch ?k1 ?k2 ?k3 ?k4 ?_; (case k1 => k_asm); (case k2 => k_asm); (case k3 => k_asm); (case k4 => assumption))))
local macro_rules | `(tactic| walk_at "call ref") => `(tactic| (k_here; (with_reducible show wpAny _ _ (call (Value.ref 94) _) _ _ _); k_dflt (refine' v_newErr ?k1 ?k2 ?k3 ?k4 ?_; (case k1 => k_asm); (case k2 => k_asm); (case k3 => k_asm); (case k4 => exact Nat.le_of_ble_eq_true rfl); k_whole); intro x' d' h' F' N' l1 l2; (have l3 := tbn_up l2 (allLt_of l1)); (try simp only [AllLt, and_true] at l3); (replace l1 := allLt_of l1); (try simp only [AllLt, and_true] at l1); (try k_lt2 l2); first | k_enter | walk_at "V enter"))
local macro_rules | `(tactic| walk_at "setAttr ref") => `(tactic| (k_here; k_dflt (refine' v_storeNew (C := 94) ?k1 ?k2 ?k3 ?k4 ?r1 ?r2 ?r3 ?r4 ?k5 sets94 ?k6 ?_; (case k1 => k_asm); (case k2 => k_asm); (case k3 => k_asm); (case k4 => k_all); (case r1 => rfl); (case r2 => rfl); (case r3 => rfl); (case r4 => rfl); (case k5 => rfl); (case k6 => k_is)); intro d' h' tk' k' F' N' l1; (replace l1 := allLt_of l1); (try simp only [AllLt, and_true] at l1)))
local macro_rules | `(tactic| walk_at "getMethod ref") => `(tactic| (k_here; (with_reducible show wpAny _ _ (getMethod (Value.ref _) (Str.ofString "match_core") _) _ _ _); (rename NodeAt _ _ _ => lH'); k_dflt (refine' v_getMC ?k1 ?k2 ?k3 lH' ?k5 ?_; (case k1 => k_asm); (case k2 => k_asm); (case k3 => k_asm); (case k5 => (intro q hq; repeat (first | exact hq | refine List.mem_cons_of_mem _ ?_))))))
local macro_rules | `(tactic| walk_at "call ref") => `(tactic| (k_here; (with_reducible show wpAny _ _ (call (Value.ref 266) _) _ _ _); refine unHalt ?_))
local macro_rules | `(tactic| walk_at "exec Raise some none") => `(tactic| (k_here; k_dflt (refine v_raise rfl ?_)))
theorem Wld.nodeEx {n m : Nat} {I : Led} {D : List DN} (h : Wld n m I D) {y dy : Addr} {e : Ex} (k : IsEx I y dy e) : NodeAt (dLed D ++ I) y dy := by
  obtain ⟨o, C, h1, h2⟩ := k.xobj
  obtain ⟨o', h3, h4, h5⟩ := k.obj
  obtain ⟨d, hd, e1, e2⟩ := h.full y o' h3 h4
  rw [h5] at e2
  have e2 : dy = d.dx := Option.some.inj e2
  have ho := h.dobj d hd
  have hm : (d.dx, d.od) ∈ dLed D ++ I := List.mem_append_left _ (List.mem_map_of_mem (f := fun d => (d.dx, d.od)) hd)
  rw [← e2] at hm
  obtain ⟨es, nn, eo, hum⟩ : ∃ es nn, d.od = dictOf es nn ∧ oneOids es := by
    generalize d.od = od at ho
    generalize d.ps = ps at ho
    cases ho with
    | none => exact ⟨_, _, rfl, .inl rfl⟩
    | some _ _ => exact ⟨_, _, rfl, .inr ⟨_, _, _, rfl⟩⟩
  rw [eo] at hm
  have h6 : (y, o) ∈ dLed D ++ I := List.mem_append_right _ h1
  cases h2 with
  | lit => exact ⟨_, _, _, _, h6, by simp, hm, hum⟩
  | seq => exact ⟨_, _, _, _, h6, by simp, hm, hum⟩
  | alt => exact ⟨_, _, _, _, h6, by simp, hm, hum⟩
  | look => exact ⟨_, _, _, _, h6, by simp, hm, hum⟩
  | quant => exact ⟨_, _, _, _, h6, by simp, hm, hum⟩
theorem Inv.ledI {prog : Program} {w : World} {P : Par} {n m b : Nat} {g : GS} (_h : Inv prog w P n m g b) {q : Addr × Obj} (hq : q ∈ g.I) : q ∈ g.led P := led_I hq
theorem Inv.ledEr {prog : Program} {w : World} {P : Par} {n m b : Nat} {g : GS} (_h : Inv prog w P n m g b) : (P.er, P.oer) ∈ g.led P := led_er
def EndV (r : Option Nat) (v : Value) : Prop := match r with
  | none => v = .none
  | some q => ∃ tk, v = .int (q : Int) tk
/-- a call from a frame with no frames around it -/
def CallOk0 (w : World) (p : Program) (loose : List Str) (mean : ExcName → Option Value) (mg mb : Str → Option Value) (f : Addr) (D U : Nat) (pre : Led) (args : List Value) (Post : Value → Led → Prop) : Prop :=
  ∀ (dp un : Nat) (gd : Option (List Code)) (cn : Str) (cs : Scope) (a : Addr) (ccd : Value) (A₀ : Around) (base h₀ : Heap) (L : Addr) (m : Str → Option Value) (own : Led) (s : Shared) (Q E : Value → Shared → Prop),
    Below A₀ base [] h₀ → (Mine.hd.heap_39 w.params).In base → Top p loose mean mg mb base → Fr h₀ L s.heap m → (Mine.hd.heap_39 w.params).In h₀ → News h₀ L s.heap (own ++ pre) → Top p loose mean mg mb h₀ → cs.kind = .function → dp + D < recursionLimit → un + U < cLine → OffL own pre →
    (∀ v post h' tk', Fr h₀ L h' m → News h₀ L h' (own ++ post) → OffL own post → Post v post → Q v { s with heap := h', toks := tk' }) →
    wpAny (model PySem.Challenge.rw_vj0021_01.row.prog w) (ktrTop dp un gd cn cs L a ccd [] []) (call (.ref f) args) Q E s
local macro_rules | `(tactic| walk_at "V enter0") => `(tactic| (refine' code_defS0 ?k1 ?k2 ?k3 ?k4 ?k5 ?kA ?k6 ?k7 ?k8 ?k9 ?kB ?_ ?cK ?c2 ?c3 ?c4 ?c5; (case kA => exact rfl); (case k1 => k_asm); (case k2 => k_asm); (case k3 => k_asm); (case k4 => k_asm); (case k5 => k_asm); (case k6 => k_is); (case k7 => k_is); (case k8 => k_room); (case k9 => first | exact BindsTo.of_eq rfl | exact binds_K (by k_in) rfl (by k_is) rfl rfl rfl); (case cK => assumption); (case c5 => decide); (case kB => exact locs rfl); (case c2 => exact rfl); (case c3 => exact rfl); (case c4 => exact rfl); k_whole; intro g' L' h' FG' F' N' B' X' T' D'; (try dsimp only); (try k_fold)))
theorem w_end {e : Ex} {n m₀ : Nat} {t : Str} {tk2 : Tok} {x dx : Addr} {I : Led} {D : List DN} (hW : Wld n m₀ I D) (hx : IsEx I x dx e) (hn : n ≤ 1000) (hm : m₀ ≤ 900) (ht : t.length ≤ 8) :
  CallOk0 w p loose mean mg mb 546 (40 * e.ht + 60) (400 * e.ht + 600) (dLed D ++ I) [.ref x, .str t tk2] (fun v post => ∃ I' D', post = dLed D' ++ I' ∧ Wld n (m₀ + 1) I' D' ∧ (∀ p ∈ I, p ∈ I') ∧ EndV (sem t e 0) v) := by
  have hN' := hW.nodeEx hx
  generalize hWd : dLed D ++ I = W at *
  intro dp un gd cn cs a ccd A₀ base h₀ L m own s Q E B XB TB F X N T hk hd hu hown hQ
  have hNa0 : NodeAt (own ++ W) x dx := hN'.mono fun q hq => List.mem_append_right _ hq
  have hNa : NodeAt (own ++ W) x dx := hN'.mono fun q hq => List.mem_append_right _ hq
  w_top off
  revert X; k_fill; intro X
  refine wpAny_call ?_
  k_dflt (walk_at "V enter0")
  k_steps
  unfold Halt
  rename News _ _ _ _ => hN9
  rename Fr _ _ _ _ => hF9
  subst hWd
  obtain ⟨i1, i2, i3⟩ := end_start (prog := PySem.Challenge.rw_vj0021_01.row.prog) (w := w) (t := t) (b := e.size + 1) hW hN9 (by assumption) (by assumption) (by assumption) (by assumption) (by assumption) (by assumption) ⟨_, _, _, _, _, _, _, _, _, _, _, rfl, .inl rfl⟩ hown hN'
  have hC := fun tk3 => mcAll (p := p) (loose := loose) (mean := mean) (mg := mg) (mb := mb) (vse := _) rfl ht hn hm _ e (Nat.lt_succ_self _) _ x dx 0 tk2 tk3 i1 hx (Nat.zero_le _)
  k_dflt (refine' (hC _).use [] ?kB hF9 ?kX i2 ?kT rfl ?kd ?ku OffL.nil i3 ?_)
  (case kB => k_asm)
  (case kX => k_asm)
  (case kT => k_asm)
  (case kd => k_room)
  (case ku => k_units)
  rintro v post h7 tk7 hF5 hN5 - o2 ⟨g2, rfl, hI3, st3, hres3⟩
  have hN5 : News _ _ _ (own ++ g2.led _) := hN5
  have hWn := hI3.wld
  clear hN9 hF9 i2
  have hres := hres3
  unfold Res at hres
  dsimp only at hres
  cases hs : sem t e 0 with
  | some q =>
    rw [hs] at hres
    obtain ⟨nd, dn, ch, x1, tt, ts, te, rfl, m1, m2⟩ := hres
    have m1' := List.mem_append_right own (hI3.ledI m1)
    have m2' := List.mem_append_right own (hI3.ledI m2)
    k_steps
    rename Fr _ _ _ _ => hF8
    rename News _ _ _ _ => hN8
    refine hQ _ _ _ _ hF8 (hN8.perm fun q hq => ?_) (fun p hp q hq => o2 p hp q (oldI_sub q hq)) ⟨_, _, rfl, hWn, fun p hp => oldI_I p (st3.grow p hp), by rw [hs]; exact ⟨te, rfl⟩⟩
    rcases List.mem_append.mp hq with hq | hq
    · exact List.mem_append_left _ hq
    · exact List.mem_append_right _ (oldI_sub q hq)
  | none =>
    rw [hs] at hres
    subst hres
    have mer := List.mem_append_right own hI3.ledEr
    k_steps
    rename News _ _ _ _ => hN8
    have hNw := News.perm hN8 (wo_front mer)
    k_dflt (refine' raisO_mk ?kI (News.get hN8 mer) ?kE)
    (case kI => k_in)
    k_dflt (refine' v_leave1 ?kB ?kF hNw wo_off ?kQ)
    (case kB => k_asm)
    (case kF => k_asm)
    intro h8 hR hsm
    k_dflt (refine' v_caught ?kK ?kF2 hsm hR XB TB ?kD .refl ?ke ?kk)
    (case kK => k_asm)
    (case kF2 => k_asm)
    (case kD => assumption)
    (case ke => rfl)
    intro h9 g9 hT9 hF9 hN9 hB9 hX9 hP9 hD9
    k_steps
    rename Fr _ _ _ _ => hFz
    rename News _ _ _ _ => hNz
    have her := (List.nodup_cons.mp hI3.oldEr).1
    refine hQ _ _ _ _ hFz (hNz.perm fun q hq => ?_) (fun p hp q hq => o2 p hp q (oldI_sub q hq)) ⟨_, _, rfl, hWn, fun p hp => oldI_I p (st3.grow p hp), by rw [hs]; exact rfl⟩
    rcases List.mem_append.mp hq with hq | hq
    · exact wo_mem (List.mem_append_left _ hq) fun z => o2 q hq _ hI3.ledEr z.symm
    · exact wo_mem (List.mem_append_right _ (oldI_sub q hq)) fun z => her (by rw [← z]; exact List.mem_map_of_mem (f := fun p => p.1) hq)

end Mine
end

-- VNew
section
open PySem PySem.W PyProof.Rows PySem.Calls PySem.Spec
set_option Elab.async false
set_option maxRecDepth 100000
set_option maxHeartbeats 1000000
namespace Mine
def Exs (I : Led) (l : List (Addr × Ex)) : Prop := ∀ p ∈ l, ∃ dx, IsEx I p.1 dx p.2
/-- the world with its expressions -/
def WS (n m : Nat) (W : Led) (l : List (Addr × Ex)) (os : Led) : Prop := ∃ I D, W = dLed D ++ I ∧ Wld n m I D ∧ (∀ d ∈ D, d.x ∈ I.map (·.1)) ∧ (∀ q ∈ os, q ∈ I) ∧ Exs I l
theorem Exs.mono {I I' : Led} {l : List (Addr × Ex)} (h : ∀ p ∈ I, p ∈ I') (k : Exs I l) : Exs I' l := fun p hp => let ⟨dx, z⟩ := k p hp; ⟨dx, z.mono h⟩
theorem WS.sub {n m : Nat} {W os os' : Led} {l l' : List (Addr × Ex)} (h : WS n m W l os) (hs : ∀ p ∈ l', p ∈ l) (ho : ∀ p ∈ os', p ∈ os) : WS n m W l' os' := let ⟨I, D, a, b, d, e, c⟩ := h; ⟨I, D, a, b, d, fun p hp => e p (ho p hp), fun p hp => c p (hs p hp)⟩
theorem WS.mem {n m : Nat} {W os : Led} {l : List (Addr × Ex)} (h : WS n m W l os) {q : Addr × Obj} (hq : q ∈ os) : q ∈ W := let ⟨I, D, a, _, _, e, _⟩ := h; a ▸ List.mem_append_right _ (e q hq)
theorem Wld.up {n m n' m' : Nat} {I : Led} {D : List DN} (h : Wld n m I D) (hn : n ≤ n') (hm : m ≤ m') : Wld n' m' I D := ⟨h.nd, h.lo, h.full, h.dobj, h.dkey, h.duniq, Nat.le_trans h.dlen hn, fun d hd => Nat.le_trans (h.plen d hd) hm⟩
theorem WS.up {n m n' m' : Nat} {W os : Led} {l : List (Addr × Ex)} (h : WS n m W l os) (hn : n ≤ n') (hm : m ≤ m') : WS n' m' W l os := let ⟨I, D, a, b, c⟩ := h; ⟨I, D, a, b.up hn hm, c⟩
theorem WS.nil {n m : Nat} : WS n m [] [] [] := ⟨[], [], rfl, ⟨.nil, (fun _ h => nomatch h), (fun _ _ h => nomatch h), (fun _ h => nomatch h), (fun _ h => nomatch h), (fun _ h => nomatch h), Nat.zero_le _, fun _ h => nomatch h⟩, (fun _ h => nomatch h), (fun _ h => nomatch h), fun _ h => nomatch h⟩

theorem WS.add {n m : Nat} {W add os : Led} {l : List (Addr × Ex)} {x dx : Addr} {o : Obj} {k : Nat} {e : Ex} (hW : WS n m W l os) (nd : (((dx, dictOf [] k) :: (x, o) :: add).map (·.1)).Nodup)
    (off : ∀ q ∈ (dx, dictOf [] k) :: (x, o) :: add, ∀ p ∈ W, p.1 ≠ q.1) (lo : ∀ q ∈ (dx, dictOf [] k) :: (x, o) :: add, (q.1 == sysModules) = false) (pl : ∀ q ∈ add, exprO q.2 = false) (hd : o.dict = some dx)
    (ix : ∀ I, Exs I l → IsEx (((x, o) :: add) ++ I) x dx e) : ∃ W', WS (n + 1) m W' ((x, e) :: l) os ∧ ∀ q ∈ W', q ∈ ((dx, dictOf [] k) :: (x, o) :: add) ++ W := by
  obtain ⟨I, D, rfl, h, hx, hos, he⟩ := hW
  refine ⟨dLed (⟨x, dx, dictOf [] k, []⟩ :: D) ++ (((x, o) :: add) ++ I), ⟨_, _, rfl, ⟨?_, ?_, ?_, ?_, ?_, ?_, ?_, ?_⟩, ?_, fun q hq => List.mem_append_right _ (hos q hq), ?_⟩, ?_⟩
  · have hp : List.Perm ((dLed (⟨x, dx, dictOf [] k, []⟩ :: D) ++ (((x, o) :: add) ++ I)).map (·.1)) ((((dx, dictOf [] k) :: (x, o) :: add) ++ (dLed D ++ I)).map (·.1)) := by
      simp only [dLed, List.map_cons, List.map_append, List.cons_append]
      refine List.perm_iff_count.mpr fun a => ?_
      simp only [List.count_cons, List.count_append]
      omega
    rw [hp.nodup_iff, List.map_append, List.nodup_append]
    refine ⟨nd, h.nd, fun a ha b hb e => ?_⟩
    obtain ⟨q, hq, rfl⟩ := List.mem_map.mp ha
    obtain ⟨p, hp, rfl⟩ := List.mem_map.mp hb
    exact off q hq p hp e.symm
  · intro p hp
    simp only [dLed, List.map_cons, List.cons_append, List.mem_cons, List.mem_append] at hp
    rcases hp with rfl | hp | rfl | hp | hp
    · exact lo _ (.head _)
    · exact h.lo p (List.mem_append_left _ hp)
    · exact lo _ (.tail _ (.head _))
    · exact lo _ (.tail _ (.tail _ hp))
    · exact h.lo p (List.mem_append_right _ hp)
  · intro y oy hy hoy
    simp only [List.cons_append, List.mem_cons, List.mem_append] at hy
    rcases hy with hy | hy | hy
    · cases hy
      exact ⟨_, .head _, rfl, hd⟩
    · have := pl _ hy
      rw [show exprO oy = _ from hoy] at this
      cases this
    · obtain ⟨d, h1, h2⟩ := h.full y oy hy hoy
      exact ⟨d, .tail _ h1, h2⟩
  · intro d hd'
    rcases List.mem_cons.mp hd' with rfl | hd'
    · exact .none
    · exact (h.dobj d hd').mono fun p hp => List.mem_append_right _ hp
  · intro d hd' q hq
    rcases List.mem_cons.mp hd' with rfl | hd'
    · cases hq
    · rw [List.map_append]
      exact List.mem_append_right _ (h.dkey d hd' q hq)
  · have key : ∀ d ∈ D, d.x = x → False := fun d hd' e => by
      obtain ⟨p, hp, e'⟩ := List.mem_map.mp (hx d hd')
      exact off _ (.tail _ (.head _)) p (List.mem_append_right _ hp) (e'.trans e)
    intro d1 h1 d2 h2 e12
    rcases List.mem_cons.mp h1 with rfl | h1 <;> rcases List.mem_cons.mp h2 with rfl | h2
    · rfl
    · exact (key _ h2 e12.symm).elim
    · exact (key _ h1 e12).elim
    · exact h.duniq _ h1 _ h2 e12
  · exact Nat.succ_le_succ h.dlen
  · intro d hd'
    rcases List.mem_cons.mp hd' with rfl | hd'
    · exact Nat.zero_le _
    · exact h.plen d hd'
  · intro d hd'
    rcases List.mem_cons.mp hd' with rfl | hd'
    · exact .head _
    · rw [List.map_append]
      exact List.mem_append_right _ (hx d hd')
  · intro p hp
    rcases List.mem_cons.mp hp with rfl | hp
    · exact ⟨dx, ix I he⟩
    · exact (he.mono fun p hp => List.mem_append_right _ hp) p hp
  · intro q hq
    simp only [dLed, List.map_cons, List.cons_append, List.mem_cons, List.mem_append] at hq ⊢
    rcases hq with h | h | h | h | h <;> simp [h]

open Classical in
theorem Wld.ws {n m : Nat} {I os : Led} {D : List DN} {l : List (Addr × Ex)} (h : Wld n m I D) (he : Exs I l) (ho : ∀ q ∈ os, q ∈ I) : ∃ W', WS n m W' l os ∧ ∀ q ∈ W', q ∈ dLed D ++ I := by
  have hs : (D.filter fun d => decide (d.x ∈ I.map (·.1))).Sublist D := List.filter_sublist
  have hm : ∀ d, d ∈ D.filter (fun d => decide (d.x ∈ I.map (·.1))) → d ∈ D := fun d hd => hs.mem hd
  have hl : (dLed (D.filter fun d => decide (d.x ∈ I.map (·.1))) ++ I).Sublist (dLed D ++ I) := (hs.map _).append (.refl _)
  refine ⟨dLed (D.filter fun d => decide (d.x ∈ I.map (·.1))) ++ I, ⟨I, _, rfl, ⟨(hl.map _).nodup h.nd, fun p hp => h.lo p (hl.mem hp), fun x o hx ho => ?_, fun d hd => h.dobj d (hm d hd), fun d hd => h.dkey d (hm d hd), fun d hd d' hd' => h.duniq d (hm d hd) d' (hm d' hd'), Nat.le_trans hs.length_le h.dlen, fun d hd => h.plen d (hm d hd)⟩, fun d hd => of_decide_eq_true (List.mem_filter.mp hd).2, ho, he⟩, fun q hq => hl.mem hq⟩
  obtain ⟨d, h1, h2, h3⟩ := h.full x o hx ho
  exact ⟨d, List.mem_filter.mpr ⟨h1, decide_eq_true (by rw [h2]; exact List.mem_map_of_mem (f := (·.1)) hx)⟩, h2, h3⟩

section
variable (w : World) (p : Program) (loose : List Str) (mean : ExcName → Option Value) (mg mb : Str → Option Value)
/-- CallOk, with keywords -/
def CallOkK (f : Addr) (D U : Nat) (pre : Led) (args : List Value) (kw : List (Str × Value)) (Post : Value → Led → Prop) : Prop :=
  ∀ (dp un : Nat) (gd : Option (List Code)) (cn : Str) (cs : Scope) (a : Addr) (ccd : Value) (cl : List (Str × Addr)) (outer : List Env) (A₀ : Around) (base h₀ : Heap) (L : Addr) (m : Str → Option Value) (own : Led) (s : Shared) (Q E : Value → Shared → Prop),
    Below A₀ base outer h₀ → Fr h₀ L s.heap m → (Mine.hd.heap_39 w.params).In h₀ → News h₀ L s.heap (own ++ pre) → Top p loose mean mg mb h₀ → cs.kind = .function → dp + D < recursionLimit → un + U < cLine → OffL own pre →
    (∀ v post h' tk', Fr h₀ L h' m → News h₀ L h' (own ++ post) → OffL own post → Post v post → Q v { s with heap := h', toks := tk' }) →
    wpAny (model PySem.Challenge.rw_vj0021_01.row.prog w) (ktrTop dp un gd cn cs L a ccd cl outer) (call (.ref f) args kw) Q E s
def NewP (n m : Nat) (l : List (Addr × Ex)) (os : Led) (e : Ex) (v : Value) (W : Led) : Prop := ∃ x, v = .ref x ∧ WS (n + 1) m W ((x, e) :: l) os
/-- a call that makes one expression -/
def NewOk (D U : Nat) (f : Addr) (args : List Value) (kw : List (Str × Value)) (l : List (Addr × Ex)) (e : Ex) : Prop :=
  ∀ n m W os, WS n m W l os → CallOkK w p loose mean mg mb f D U W args kw (NewP n m l os e)
end

section
variable {w : World} {p : Program} {loose : List Str} {mean : ExcName → Option Value} {mg mb : Str → Option Value}
  {h₀ : Heap} {L : Addr} {m : Str → Option Value} {s : Shared} {Q : Value → Shared → Prop} {W own all os : Led}
theorem K_one : ∃ o, (Mine.hd.heap_39 w.params).lookup 1 = some o := ⟨_, by rfl⟩
theorem new_lo {h : Heap} (X : (Mine.hd.heap_39 w.params).In h₀) (N : News h₀ L h all) {q : Addr × Obj} (hq : q ∈ all) : (q.1 == sysModules) = false := by
  obtain ⟨o, ho⟩ := K_one (w := w)
  refine beq_eq_false_iff_ne.mpr fun e => ?_
  have h1 := (N q hq).2.2
  have h2 := X 1 o ho
  rw [e] at h1
  exact absurd (h1.symm.trans h2) (fun z => by cases z)

theorem new_end {n k₁ k : Nat} {l : List (Addr × Ex)} {e : Ex} {x dx : Addr} {o : Obj} {add : Led} {h' : Heap} {tk : Nat}
    (hQ : ∀ v post h' tk', Fr h₀ L h' m → News h₀ L h' (own ++ post) → OffL own post → NewP n k₁ l os e v post → Q v { s with heap := h', toks := tk' })
    (F : Fr h₀ L h' m) (X : (Mine.hd.heap_39 w.params).In h₀) (N : News h₀ L h' all) (hW : WS n k₁ W l os) (hown : OffL own W) (hs : ∀ p ∈ own ++ W, p ∈ all)
    (hx : (x, o) ∈ all) (hd : (dx, dictOf [] k) ∈ all) (ha : ∀ q ∈ add, q ∈ all) (nd : (add.map (·.1)).Nodup) (lx : ∀ q ∈ own ++ W, q.1 ≠ x) (ld : ∀ q ∈ own ++ W, q.1 ≠ dx) (la : ∀ a ∈ add, ∀ q ∈ own ++ W, q.1 ≠ a.1)
    (hox : exprO o = true) (pl : ∀ q ∈ add, exprO q.2 = false) (pd : ∀ q ∈ add, isDictB q.2 = false) (hdx : o.dict = some dx) (ix : ∀ I, Exs I l → IsEx (((x, o) :: add) ++ I) x dx e) :
    Q (.ref x) { s with heap := h', toks := tk } := by
  have all' : ∀ q ∈ (dx, dictOf [] k) :: (x, o) :: add, q ∈ all ∧ ∀ r ∈ own ++ W, r.1 ≠ q.1 := fun q hq => by
    rcases List.mem_cons.mp hq with rfl | hq
    · exact ⟨hd, ld⟩
    · rcases List.mem_cons.mp hq with rfl | hq
      · exact ⟨hx, lx⟩
      · exact ⟨ha _ hq, la _ hq⟩
  have ndx : x ≠ dx := N.twoPlaces hx hd (fun e => by rw [show o = _ from e] at hox; cases hox)
  have ndax : ∀ q ∈ add, q.1 ≠ x := fun q hq => N.twoPlaces (ha q hq) hx (fun e => by have := pl q hq; rw [show q.2 = o from e, hox] at this; cases this)
  have ndad : ∀ q ∈ add, q.1 ≠ dx := fun q hq => N.twoPlaces (ha q hq) hd (fun e => by have := pd q hq; rw [show q.2 = _ from e] at this; cases this)
  obtain ⟨W', h1, h2⟩ := hW.add (x := x) (dx := dx) (o := o) (k := k) (e := e) (add := add) (by
      rw [List.map_cons, List.map_cons, List.nodup_cons, List.nodup_cons]
      refine ⟨fun hm => ?_, fun hm => ?_, nd⟩
      · rcases List.mem_cons.mp hm with e | hm
        · exact ndx e.symm
        · obtain ⟨q, hq, e⟩ := List.mem_map.mp hm
          exact ndad q hq e
      · obtain ⟨q, hq, e⟩ := List.mem_map.mp hm
        exact ndax q hq e)
    (fun q hq r hr => (all' q hq).2 r (List.mem_append_right _ hr)) (fun q hq => new_lo X N (all' q hq).1) pl hdx ix
  refine hQ _ W' h' tk F (N.perm fun q hq => ?_) (fun q hq r hr => ?_) ⟨x, rfl, h1⟩
  · rcases List.mem_append.mp hq with hq | hq
    · exact hs q (List.mem_append_left _ hq)
    · rcases List.mem_append.mp (h2 q hq) with hq | hq
      · exact (all' q hq).1
      · exact hs q (List.mem_append_right _ hq)
  · rcases List.mem_append.mp (h2 r hr) with hr | hr
    · exact fun e => (all' r hr).2 q (List.mem_append_left _ hq) e.symm
    · exact hown q hq r hr

theorem new_end1 {n k₁ k : Nat} {l : List (Addr × Ex)} {e : Ex} {x dx mt : Addr} {o : Obj} {vs : List Value} {h' : Heap} {tk : Nat}
    (hQ : ∀ v post h' tk', Fr h₀ L h' m → News h₀ L h' (own ++ post) → OffL own post → NewP n k₁ l os e v post → Q v { s with heap := h', toks := tk' })
    (F : Fr h₀ L h' m) (X : (Mine.hd.heap_39 w.params).In h₀) (N : News h₀ L h' all) (hW : WS n k₁ W l os) (hown : OffL own W) (hs : ∀ p ∈ own ++ W, p ∈ all)
    (hx : (x, o) ∈ all) (hd : (dx, dictOf [] k) ∈ all) (hm : (mt, tupO vs) ∈ all) (lx : ∀ q ∈ own ++ W, q.1 ≠ x) (ld : ∀ q ∈ own ++ W, q.1 ≠ dx) (la : ∀ q ∈ own ++ W, q.1 ≠ mt)
    (hox : exprO o = true) (hdx : o.dict = some dx) (ix : ∀ I, Exs I l → IsEx ((x, o) :: (mt, tupO vs) :: I) x dx e) :
    Q (.ref x) { s with heap := h', toks := tk } :=
  new_end (add := [(mt, tupO vs)]) hQ F X N hW hown hs hx hd (fun q hq => by rw [List.mem_singleton.mp hq]; exact hm) (by simp) lx ld (fun q hq => by rw [List.mem_singleton.mp hq]; exact la) hox (fun q hq => by rw [List.mem_singleton.mp hq]; rfl) (fun q hq => by rw [List.mem_singleton.mp hq]; rfl) hdx ix
end
section
variable {l : List (Addr × Ex)} {x dx mt it a b c : Addr} {t : Tok} {ea eb ec : Ex}
theorem up2 {I : Led} {q r : Addr × Obj} : ∀ p ∈ I, p ∈ q :: r :: I := fun _ h => .tail _ (.tail _ h)
theorem ix_seq2 (ha : (a, ea) ∈ l) (hb : (b, eb) ∈ l) (I : Led) (h : Exs I l) : IsEx ((x, cmpO 394 dx mt it t) :: (mt, tupO [.ref a, .ref b]) :: I) x dx (.seq2 ea eb) :=
  let ⟨_, h1⟩ := h _ ha; let ⟨_, h2⟩ := h _ hb; .seq2 (.head _) (.tail _ (.head _)) (h1.mono up2) (h2.mono up2)
theorem ix_seq3 (ha : (a, ea) ∈ l) (hb : (b, eb) ∈ l) (hc : (c, ec) ∈ l) (I : Led) (h : Exs I l) : IsEx ((x, cmpO 394 dx mt it t) :: (mt, tupO [.ref a, .ref b, .ref c]) :: I) x dx (.seq3 ea eb ec) :=
  let ⟨_, h1⟩ := h _ ha; let ⟨_, h2⟩ := h _ hb; let ⟨_, h3⟩ := h _ hc; .seq3 (.head _) (.tail _ (.head _)) (h1.mono up2) (h2.mono up2) (h3.mono up2)
theorem ix_alt (ha : (a, ea) ∈ l) (hb : (b, eb) ∈ l) (I : Led) (h : Exs I l) : IsEx ((x, cmpO 420 dx mt it t) :: (mt, tupO [.ref a, .ref b]) :: I) x dx (.alt ea eb) :=
  let ⟨_, h1⟩ := h _ ha; let ⟨_, h2⟩ := h _ hb; .alt (.head _) (.tail _ (.head _)) (h1.mono up2) (h2.mono up2)
theorem ix_look {neg : Bool} (ha : (a, ea) ∈ l) (I : Led) (h : Exs I l) : IsEx ((x, lookO dx mt it neg t) :: (mt, tupO [.ref a]) :: I) x dx (.look neg ea) :=
  let ⟨_, h1⟩ := h _ ha; .look (.head _) (.tail _ (.head _)) (h1.mono up2)
theorem ix_quant {mn : Nat} {mx : Option Nat} {tm : Tok} {vx : Value} (hv : MaxIs mx vx) (h2 : mn ≤ 2) (h3 : ∀ n, mx = some n → n ≤ 3) (ha : (a, ea) ∈ l) (I : Led) (h : Exs I l) : IsEx ((x, quantO dx mt it (.int mn tm) vx t) :: (mt, tupO [.ref a]) :: I) x dx (.quant mn mx ea) :=
  let ⟨_, h1⟩ := h _ ha; .quant (.head _) hv h2 h3 (.tail _ (.head _)) (h1.mono up2)
end

section
variable {w : World} {p : Program} {loose : List Str} {mean : ExcName → Option Value} {mg mb : Str → Option Value}
  {dp un : Nat} {gd : Option (List Code)} {cn : Str} {cs : Scope} {a : Addr} {ccd : Value} {cl : List (Str × Addr)} {outer : List Env} {A₀ : Around} {base h₀ : Heap} {L : Addr} {m : Str → Option Value} {s : Shared}
  {Q E : Value → Shared → Prop} {f : Addr} {pre own ex all W os : Led} {args : List Value} {kw : List (Str × Value)} {n k₁ D U : Nat} {l : List (Addr × Ex)} {e : Ex}
theorem v_new (C : NewOk w p loose mean mg mb D U f args kw l e) (hW : WS n k₁ W l os) (B : Below A₀ base outer h₀) (F : Fr h₀ L s.heap m) (X : (Mine.hd.heap_39 w.params).In h₀) (N : News h₀ L s.heap all) (hs : SplitL (own ++ W) all ex) (T : Top p loose mean mg mb h₀)
    (hk : cs.kind = .function) (hd : dp + D < recursionLimit) (hu : un + U < cLine) (hex : OffL ex (own ++ W)) (hown : OffL own W)
    (h : ∀ x W' h' tk', Fr h₀ L h' m → News h₀ L h' (ex ++ (own ++ W')) → OffL ex (own ++ W') → OffL own W' → WS (n + 1) k₁ W' ((x, e) :: l) os → Q (.ref x) { s with heap := h', toks := tk' }) :
    wpAny (model PySem.Challenge.rw_vj0021_01.row.prog w) (ktrTop dp un gd cn cs L a ccd cl outer) (call (.ref f) args kw) Q E s := by
  refine C n k₁ W os hW dp un gd cn cs a ccd cl outer A₀ base h₀ L m (ex ++ own) s Q E B F X (by rw [List.append_assoc]; exact hs.eq ▸ N) T hk hd hu ?_ fun v post h' tk' F' N' off hp => ?_
  · intro q hq p hp
    rcases List.mem_append.mp hq with hq | hq
    · exact hex q hq p (List.mem_append_right _ hp)
    · exact hown q hq p hp
  · rw [List.append_assoc] at N'
    obtain ⟨x, rfl, hw⟩ := hp
    refine h x post h' tk' F' N' ?_ (fun q hq => off q (List.mem_append_right _ hq)) hw
    intro q hq p hp
    rcases List.mem_append.mp hp with hp | hp
    · exact hex q hq p (List.mem_append_left _ hp)
    · exact off q (List.mem_append_left _ hq) p hp
/-- the same from a frame whose ledger is all the world -/
theorem v_new0 (C : NewOk w p loose mean mg mb D U f args kw l e) (hW : WS n k₁ W l os) (B : Below A₀ base outer h₀) (F : Fr h₀ L s.heap m) (X : (Mine.hd.heap_39 w.params).In h₀) (N : News h₀ L s.heap all) (hs : SplitL W all ex) (T : Top p loose mean mg mb h₀)
    (hk : cs.kind = .function) (hd : dp + D < recursionLimit) (hu : un + U < cLine) (hex : OffL ex W)
    (h : ∀ x W' h' tk', Fr h₀ L h' m → News h₀ L h' (ex ++ W') → OffL ex W' → WS (n + 1) k₁ W' ((x, e) :: l) os → Q (.ref x) { s with heap := h', toks := tk' }) :
    wpAny (model PySem.Challenge.rw_vj0021_01.row.prog w) (ktrTop dp un gd cn cs L a ccd cl outer) (call (.ref f) args kw) Q E s :=
  C n k₁ W os hW dp un gd cn cs a ccd cl outer A₀ base h₀ L m ex s Q E B F X (hs.eq ▸ N) T hk hd hu hex fun v post h' tk' F' N' off ⟨x, e, hw⟩ => e ▸ h x post h' tk' F' N' off hw
end
end Mine
end

-- VCtor
section
open PySem PySem.W PyProof.Rows PySem.Calls
set_option Elab.async false
set_option maxRecDepth 100000
set_option maxHeartbeats 4000000
namespace Mine
local macro_rules | `(tactic| k_room) => `(tactic| ktr_room)
local macro_rules | `(tactic| k_units) => `(tactic| ktr_units)
local macro_rules | `(tactic| walk_at "V super") => `(tactic| (refine' ks_code_super ?k1 ?k2 ?k3 ?k4 ?k5 ?kA ?kF ?kK ?k6 ?k7 ?k8 ?k9 ?kB ?_ ?c1 ?c2 ?c3 ?c4; (case kA => exact rfl); (case kF => exact rfl); (case kK => first | exact rfl | assumption); (case k1 => k_asm); (case k2 => k_asm); (case k3 => k_asm); (case k4 => k_asm); (case k5 => k_asm); (case k6 => k_is); (case k7 => k_is); (case k8 => k_room); (case k9 => first | exact BindsTo.of_eq rfl | exact binds_K (by k_in) rfl (by k_is) rfl rfl rfl); (case kB => exact locs rfl); (case c1 => decide); (case c2 => exact rfl); (case c3 => exact rfl); (case c4 => exact rfl); intro g' L' h' FG' F' N' B' X' T' l1; (try k_lt l1); (try dsimp only); (try k_lift B')))
local macro_rules | `(tactic| k_mem) => `(tactic| assumption)
local macro_rules | `(tactic| walk_at "call ref") => `(tactic| (k_here; k_dflt (refine' call_cls ?k1 ?k2 ?k3 ?k4 ?k5 ?k6 ?_; (case k1 => k_asm); (case k2 => k_asm); (case k3 => k_asm); (case k4 => k_is); (case k5 => k_is); (case k6 => k_is); k_whole; intro x' d' h' F' N' l1 l2; (have l3 := tbn_up l2 (allLt_of l1)); (try simp only [AllLt, and_true] at l3); (replace l1 := allLt_of l1); (try simp only [AllLt, and_true] at l1); (try k_lt2 l2); (try k_sweep); first | k_enter | walk_at "V super")))
local macro_rules | `(tactic| walk_at "V both") => `(tactic| (refine' v_bothS ?k1 ?k2 ?k3 ?k4 ?k5 ?kA ?kF ?kK ?k6 ?k7 ?k8 ?kV ?kX ?kQ ?kM ?kN ?kR ?kP ?kS ?kT ?kB ?_ ?c2 ?c3 ?c4 ?c5; (case kA => exact rfl); (case kF => exact rfl); (case kK => first | exact rfl | assumption); (case k1 => k_asm); (case k2 => k_asm); (case k3 => k_asm); (case k4 => k_asm); (case k5 => k_asm); (case k6 => k_is); (case k7 => k_is); (case k8 => k_room); (case kV => kp_lit); (case kX => kp_lit); (case kQ => exact rfl); (case kM => exact rfl); (case kN => exact rfl); (case kR => exact rfl); (case kP => exact rfl); (case kS => exact fun _ => rfl); (case kT => exact fun _ _ => rfl); (case kB => exact fun _ _ => locs rfl); (case c5 => decide); (case c2 => exact rfl); (case c3 => exact rfl); (case c4 => exact rfl); k_whole; intro C' D' o' g' L' h' tk' l1 l2 lo' hs' l3 FG' F' N' B' X' T'; (try k_lt l1); (try k_lt2 l2); (replace l3 := allLt_of l3); (try simp only [AllLt, and_true] at l3); (try dsimp only); (try k_lift B')))
local macro_rules | `(tactic| walk_at "V more") => `(tactic| (refine' v_moreS ?k1 ?k2 ?k3 ?k4 ?k5 ?kA ?kF ?kK ?k6 ?k7 ?k8 ?kX ?kM ?kN ?kR ?kP ?kS ?kB ?_ ?c2 ?c3 ?c4 ?c5; (case kA => exact rfl); (case kF => exact rfl); (case kK => first | exact rfl | assumption); (case k1 => k_asm); (case k2 => k_asm); (case k3 => k_asm); (case k4 => k_asm); (case k5 => k_asm); (case k6 => k_is); (case k7 => k_is); (case k8 => k_room); (case kX => kp_lit); (case kM => exact rfl); (case kN => exact rfl); (case kR => exact rfl); (case kP => exact rfl); (case kS => exact fun _ => rfl); (case kB => exact fun _ => locs rfl); (case c5 => decide); (case c2 => exact rfl); (case c3 => exact rfl); (case c4 => exact rfl); k_whole; intro D' o' g' L' h' tk' l1 lo' hs' l3 FG' F' N' B' X' T'; (try k_lt l1); (replace l3 := allLt_of l3); (try simp only [AllLt, and_true] at l3); (try dsimp only); (try k_lift B')))
local macro_rules | `(tactic| walk_at "call ref") => `(tactic| (k_here; k_dflt (refine' call_cls ?k1 ?k2 ?k3 ?k4 ?k5 ?k6 ?_; (case k1 => k_asm); (case k2 => k_asm); (case k3 => k_asm); (case k4 => k_is); (case k5 => k_is); (case k6 => k_is); k_whole; intro x' d' h' F' N' l1 l2; (have l3 := tbn_up l2 (allLt_of l1)); (try simp only [AllLt, and_true] at l3); (replace l1 := allLt_of l1); (try simp only [AllLt, and_true] at l1); (try k_lt2 l2); (try k_sweep); first | k_enter | walk_at "V super" | walk_at "V both" | walk_at "V more")))
local macro_rules | `(tactic| walk_at "call ref") => `(tactic| (k_here; k_dflt (refine' call_meth ?k1 ?k2 ?_; (case k1 => k_asm); (case k2 => k_mem); first | k_enter | walk_at "V super" | walk_at "V both" | walk_at "V more")))
local macro_rules | `(tactic| walk_at "getMethod ref") => `(tactic| (k_here; (with_reducible show wpAny _ _ (getMethod (Value.ref _) (Str.ofString "get") _) _ _ _); k_dflt (first
  | refine kdg_method (knd := PySem.strKind _ _) (by k_asm) (by k_mem) (by k_asm) ?_
  | refine kdg_method (knd := PySem.intKind _ _) (by k_asm) (by k_mem) (by k_asm) ?_)))
local macro_rules | `(tactic| walk_at "call builtin:dict.get") => `(tactic| (k_here; k_dflt (first
  | refine kdg_get2 (knd := PySem.strKind _ _) (by k_asm) (by k_mem) (by k_asm) (by k_asm) (strKind_is _ _ _ _) (some _) (by rfl) ?_
  | refine kdg_get2 (knd := PySem.strKind _ _) (by k_asm) (by k_mem) (by k_asm) (by k_asm) (strKind_is _ _ _ _) none (by rfl) ?_); (try dsimp only [Option.getD])))
local macro_rules | `(tactic| walk_at "wpAt") => `(tactic| (ks_step "eval Call"; refine v_wpAt_superKw (by rfl) ?_))
local macro_rules | `(tactic| walk_at "getAttr ref") => `(tactic| (k_here; ks_any; k_dflt (refine' v_superAttr ?k1 ?k2 ?k3 ?k4 ?k5 ?k6 ?k7 ?k8 ?k9 ?_; (case k1 => k_asm); (case k2 => k_asm); (case k3 => k_asm); (case k4 => k_mem); (case k5 => k_inst); (case k6 => k_is); (case k7 => ks_is); (case k8 => k_is); (case k9 => decide); intro q' h' F' N' l1; (replace l1 := allLt_of l1); (try simp only [AllLt, and_true] at l1))))
local macro_rules | `(tactic| walk_at "callWith ref") => `(tactic| (k_here; k_dflt (refine' v_callKwM ?k1 ?k2 ?k3 ?k4 ?k5 ?_; (case k1 => k_asm); (case k2 => k_asm); (case k3 => k_mem); (case k4 => k_is); (case k5 => rfl); k_whole)))
local macro_rules | `(tactic| walk_at "evalArgs") => `(tactic| (k_here; k_dflt (refine v_evalArgsE (by rfl) ?_)))
local macro_rules | `(tactic| walk_at "mergedKeywords") => `(tactic| (k_here; (with_reducible show wpAny _ _ (mergedKeywords _ (backToKw _ (keywordEach [PySem.Keyword.mk Option.none _ _] _))) _ _ _); k_dflt (refine v_mergedE0 (by k_asm) (by k_asm) ?_; intro d' h' F' N' l1; (replace l1 := allLt_of l1); (try simp only [AllLt, and_true] at l1))))
local macro_rules | `(tactic| walk_at "mergedKeywords") => `(tactic| (k_here; (with_reducible show wpAny _ _ (mergedKeywords _ (backToKw _ (keywordEach [PySem.Keyword.mk (Option.some _) _ _, PySem.Keyword.mk Option.none _ _] _))) _ _ _); k_dflt (refine' v_mergedE1 ?k1 ?k2 ?k3 ?kv ?_; (case k1 => k_asm); (case k2 => k_asm); (case k3 => exact Top.nolimit (by k_asm)); (case kv => (intro s9 R9 F9 h9; walk_at "eval Name"; exact h9)); intro d' h' sub' tk' F' N' l1 l2; (replace l1 := allLt_of l1); (try simp only [AllLt, and_true] at l1); (try k_lt2 l2))))
local macro_rules | `(tactic| walk_at "Exists") => `(tactic| (k_here; k_dflt (refine v_kwEnd (by k_asm) (by k_mem) (by k_mem) (by k_asm) (by k_asm) ?_)))
local macro_rules | `(tactic| walk_at "keywordsIn") => `(tactic| (k_here; k_dflt (first | refine v_kwIn0 (News.get (by k_asm) (by k_mem)) ?_ | refine v_kwIn1 (News.get (by k_asm) (by k_mem)) ?_)))
local macro_rules | `(tactic| walk_at "V enter") => `(tactic| (refine' code_def ?k1 ?k2 ?k3 ?k4 ?k5 ?kA ?kF ?kK ?k6 ?k7 ?k8 ?k9 ?kB ?_ ?c2 ?c3 ?c4 ?c5; (case kA => exact rfl); (case kF => exact rfl); (case kK => first | exact rfl | assumption); (case k1 => k_asm); (case k2 => k_asm); (case k3 => k_asm); (case k4 => k_asm); (case k5 => k_asm); (case k6 => k_is); (case k7 => k_is); (case k8 => k_room); (case k9 => first | exact BindsTo.of_eq rfl | exact binds_K (by k_in) rfl (by k_is) rfl rfl rfl | fail "V enter: no rule for these arguments"); (case c5 => decide); (case kB => exact locs rfl); (case c2 => exact rfl); (case c3 => exact rfl); (case c4 => exact rfl); k_whole; intro g' L' h' FG' F' N' B' X' T'; (try dsimp only); (try k_fold)))
local macro_rules | `(tactic| walk_at "exec For Name Attribute cons nil") => `(tactic| (k_here; (rename Fr _ _ _ _ => lF'); (with_unfolding_all refine' For_turns lF' ?_; k_whole)))
local macro_rules | `(tactic| walk_at "pyIter ref") => `(tactic| (k_here; (with_reducible show wpAny _ _ (pyIter (Value.ref _)) (fun it s₂ => TurnsAt _ _ _ _ _ _ _ _ _ it s₂) _ _); (rename Fr _ _ _ _ => lF'); (rename News _ _ _ _ => lN'); (with_unfolding_all refine' iter_tupTurns (n := 0) ?hh lF' lN' ?hm ?hc ?hd ?_; (case hh => rfl); (case hm => k_mem); (case hc => rfl); (case hd => rfl)); clear lF' lN'; intro i' l1; (replace l1 := allLt_of l1); (try simp only [AllLt, and_true] at l1); (try dsimp only [List.map])))
theorem cons_sub {A B : Led} {q : Addr × Obj} (h : ∀ p ∈ A, p ∈ B) : ∀ p ∈ A, p ∈ q :: B := fun p hp => .tail _ (h p hp)
variable {w : World} {p : Program} {loose : List Str} {mean : ExcName → Option Value} {mg mb : Str → Option Value}
theorem n_lit {ls : List (Addr × Ex)} {lt : Str} {tk : Tok} (hl : lt.length ≤ 2) : NewOk w p loose mean mg mb 20 200 336 [.str lt tk] [] ls (.lit lt) := by
  intro n₀ m₀ W os hW dp un gd cn cs a ccd cl outer A₀ base h₀ L m own s Q E B F X N T hk hd hu hown hQ
  w_top off
  revert X; k_fill; intro X
  k_steps
  refine' new_end (add := []) hQ ?kF ?kX ?kN hW hown ?hs ?hx ?hd (fun _ h => nomatch h) .nil ?lx ?ld (fun _ h => nomatch h) rfl (fun _ h => nomatch h) (fun _ h => nomatch h) rfl (fun I _ => .lit (.head _) hl)
  (case kF => k_asm)
  (case kX => k_asm)
  (case kN => k_asm)
  (case hs => repeat (first | exact fun _ h => h | refine cons_sub ?_))
  (case hx => k_mem)
  (case hd => k_mem)
  (case lx => k_all)
  (case ld => k_all)
theorem n_seq2 {ls : List (Addr × Ex)} {x y : Addr} {ea eb : Ex} (ha : (x, ea) ∈ ls) (hb : (y, eb) ∈ ls) : NewOk w p loose mean mg mb 20 200 394 [.ref x, .ref y] [] ls (.seq2 ea eb) := by
  intro n₀ m₀ W os hW dp un gd cn cs a ccd cl outer A₀ base h₀ L m own s Q E B F X N T hk hd hu hown hQ
  w_top off
  revert X; k_fill; intro X
  k_steps
  refine' new_end1 hQ ?kF ?kX ?kN hW hown ?hs ?hx ?hd ?hm ?lx ?ld ?la rfl rfl (ix_seq2 ha hb)
  (case kF => k_asm)
  (case kX => k_asm)
  (case kN => k_asm)
  (case hs => repeat (first | exact fun _ h => h | refine cons_sub ?_))
  (case hx => k_mem)
  (case hd => k_mem)
  (case hm => k_mem)
  (case lx => k_all)
  (case ld => k_all)
  (case la => k_all)
theorem n_seq3 {ls : List (Addr × Ex)} {x y z : Addr} {ea eb ec : Ex} (ha : (x, ea) ∈ ls) (hb : (y, eb) ∈ ls) (hc : (z, ec) ∈ ls) : NewOk w p loose mean mg mb 20 200 394 [.ref x, .ref y, .ref z] [] ls (.seq3 ea eb ec) := by
  intro n₀ m₀ W os hW dp un gd cn cs a ccd cl outer A₀ base h₀ L m own s Q E B F X N T hk hd hu hown hQ
  w_top off
  revert X; k_fill; intro X
  k_steps
  refine' new_end1 hQ ?kF ?kX ?kN hW hown ?hs ?hx ?hd ?hm ?lx ?ld ?la rfl rfl (ix_seq3 ha hb hc)
  (case kF => k_asm)
  (case kX => k_asm)
  (case kN => k_asm)
  (case hs => repeat (first | exact fun _ h => h | refine cons_sub ?_))
  (case hx => k_mem)
  (case hd => k_mem)
  (case hm => k_mem)
  (case lx => k_all)
  (case ld => k_all)
  (case la => k_all)
theorem n_alt {ls : List (Addr × Ex)} {x y : Addr} {ea eb : Ex} (ha : (x, ea) ∈ ls) (hb : (y, eb) ∈ ls) : NewOk w p loose mean mg mb 20 200 420 [.ref x, .ref y] [] ls (.alt ea eb) := by
  intro n₀ m₀ W os hW dp un gd cn cs a ccd cl outer A₀ base h₀ L m own s Q E B F X N T hk hd hu hown hQ
  w_top off
  revert X; k_fill; intro X
  k_steps
  refine' new_end1 hQ ?kF ?kX ?kN hW hown ?hs ?hx ?hd ?hm ?lx ?ld ?la rfl rfl (ix_alt ha hb)
  (case kF => k_asm)
  (case kX => k_asm)
  (case kN => k_asm)
  (case hs => repeat (first | exact fun _ h => h | refine cons_sub ?_))
  (case hx => k_mem)
  (case hd => k_mem)
  (case hm => k_mem)
  (case lx => k_all)
  (case ld => k_all)
  (case la => k_all)
theorem n_look0 {ls : List (Addr × Ex)} {x : Addr} {ea : Ex} (ha : (x, ea) ∈ ls) : NewOk w p loose mean mg mb 20 200 458 [.ref x] [] ls (.look false ea) := by
  intro n₀ m₀ W os hW dp un gd cn cs a ccd cl outer A₀ base h₀ L m own s Q E B F X N T hk hd hu hown hQ
  w_top off
  revert X; k_fill; intro X
  k_steps
  refine' new_end1 hQ ?kF ?kX ?kN hW hown ?hs ?hx ?hd ?hm ?lx ?ld ?la rfl rfl (ix_look ha)
  (case kF => k_asm)
  (case kX => k_asm)
  (case kN => k_asm)
  (case hs => repeat (first | exact fun _ h => h | refine cons_sub ?_))
  (case hx => k_mem)
  (case hd => k_mem)
  (case hm => k_mem)
  (case lx => k_all)
  (case ld => k_all)
  (case la => k_all)
theorem n_look1 {ls : List (Addr × Ex)} {x : Addr} {ea : Ex} (ha : (x, ea) ∈ ls) {tk : Tok} : NewOk w p loose mean mg mb 20 200 458 [.ref x] [(Str.ofString "negative", .bool true)] ls (.look true ea) := by
  intro n₀ m₀ W os hW dp un gd cn cs a ccd cl outer A₀ base h₀ L m own s Q E B F X N T hk hd hu hown hQ
  w_top off
  revert X; k_fill; intro X
  k_steps
  refine' new_end1 hQ ?kF ?kX ?kN hW hown ?hs ?hx ?hd ?hm ?lx ?ld ?la rfl rfl (ix_look ha)
  (case kF => k_asm)
  (case kX => k_asm)
  (case kN => k_asm)
  (case hs => repeat (first | exact fun _ h => h | refine cons_sub ?_))
  (case hx => k_mem)
  (case hd => k_mem)
  (case hm => k_mem)
  (case lx => k_all)
  (case ld => k_all)
  (case la => k_all)
theorem n_quant2 {ls : List (Addr × Ex)} {x : Addr} {ea : Ex} (ha : (x, ea) ∈ ls) {mn : Nat} {mx : Option Nat} {vx : Value} {tm : Tok} (hv : MaxIs mx vx) (h2 : mn ≤ 2) (h3 : ∀ n, mx = some n → n ≤ 3) : NewOk w p loose mean mg mb 20 200 504 [.ref x] [(Str.ofString "min", .int mn tm), (Str.ofString "max", vx)] ls (.quant mn mx ea) := by
  intro n₀ m₀ W os hW dp un gd cn cs a ccd cl outer A₀ base h₀ L m own s Q E B F X N T hk hd hu hown hQ
  w_top off
  revert X; k_fill; intro X
  k_steps
  refine' new_end1 hQ ?kF ?kX ?kN hW hown ?hs ?hx ?hd ?hm ?lx ?ld ?la rfl rfl (ix_quant hv h2 h3 ha)
  (case kF => k_asm)
  (case kX => k_asm)
  (case kN => k_asm)
  (case hs => repeat (first | exact fun _ h => h | refine cons_sub ?_))
  (case hx => k_mem)
  (case hd => k_mem)
  (case hm => k_mem)
  (case lx => k_all)
  (case ld => k_all)
  (case la => k_all)
theorem n_quant3 {ls : List (Addr × Ex)} {x : Addr} {ea : Ex} (ha : (x, ea) ∈ ls) {mn : Nat} {mx : Option Nat} {vx : Value} {tk tm : Tok} (hv : MaxIs mx vx) (h2 : mn ≤ 2) (h3 : ∀ n, mx = some n → n ≤ 3) : NewOk w p loose mean mg mb 20 200 504 [.ref x] [(Str.ofString "name", .str (Str.ofString "") tk), (Str.ofString "min", .int mn tm), (Str.ofString "max", vx)] ls (.quant mn mx ea) := by
  intro n₀ m₀ W os hW dp un gd cn cs a ccd cl outer A₀ base h₀ L m own s Q E B F X N T hk hd hu hown hQ
  w_top off
  revert X; k_fill; intro X
  k_steps
  refine' new_end1 hQ ?kF ?kX ?kN hW hown ?hs ?hx ?hd ?hm ?lx ?ld ?la rfl rfl (ix_quant hv h2 h3 ha)
  (case kF => k_asm)
  (case kX => k_asm)
  (case kN => k_asm)
  (case hs => repeat (first | exact fun _ h => h | refine cons_sub ?_))
  (case hx => k_mem)
  (case hd => k_mem)
  (case hm => k_mem)
  (case lx => k_all)
  (case ld => k_all)
  (case la => k_all)

end Mine
end

-- VNew2
section
open PySem PySem.W PyProof.Rows PySem.Calls PySem.Spec
set_option Elab.async false
set_option maxRecDepth 100000
set_option maxHeartbeats 1000000
namespace Mine
theorem ne_len {zs : List Int} (h : decide (zs = []) = false) : (0 : Int) < zs.length := by
  have := List.length_pos_iff.mpr (of_decide_eq_false h)
  omega
theorem WS.put {n m : Nat} {W os : Led} {l : List (Addr × Ex)} {a : Addr} {o : Obj} (h : WS n m W l os) (hf : ∀ p ∈ W, p.1 ≠ a) (lo : (a == sysModules) = false) (hx : exprO o = false) : ∃ W', WS n m W' l ((a, o) :: os) ∧ ∀ q ∈ W', q ∈ (a, o) :: W := by
  obtain ⟨I, D, rfl, h, hd, hos, he⟩ := h
  have up : ∀ p ∈ I, p ∈ (a, o) :: I := fun _ h => .tail _ h
  refine ⟨dLed D ++ ((a, o) :: I), ⟨_, _, rfl, ⟨?_, fun p hp => ?_, fun x ox hx' ho => ?_, fun d hd' => (h.dobj d hd').mono up, fun d hd' q hq => .tail _ (h.dkey d hd' q hq), h.duniq, h.dlen, h.plen⟩, fun d hd' => .tail _ (hd d hd'), fun q hq => ?_, he.mono up⟩, fun q hq => ?_⟩
  · have hp : List.Perm ((dLed D ++ ((a, o) :: I)).map (·.1)) (((a, o) :: (dLed D ++ I)).map (·.1)) := List.perm_middle.map _
    rw [hp.nodup_iff, List.map_cons, List.nodup_cons]
    refine ⟨fun hm => ?_, h.nd⟩
    obtain ⟨p, hp, e⟩ := List.mem_map.mp hm
    exact hf p hp e
  · rcases List.mem_append.mp hp with hp | hp
    · exact h.lo p (List.mem_append_left _ hp)
    · rcases List.mem_cons.mp hp with rfl | hp
      · exact lo
      · exact h.lo p (List.mem_append_right _ hp)
  · rcases List.mem_cons.mp hx' with e | hx'
    · cases e; rw [hx] at ho; cases ho
    · exact h.full x ox hx' ho
  · rcases List.mem_cons.mp hq with rfl | hq
    · exact .head _
    · exact .tail _ (hos q hq)
  · simp only [List.mem_append, List.mem_cons] at hq ⊢
    rcases hq with h | h | h <;> simp [h]
theorem WS.puts {n m : Nat} {l : List (Addr × Ex)} : ∀ {ex W os : Led}, WS n m W l os → OffL ex W → (ex.map (·.1)).Nodup → (∀ q ∈ ex, (q.1 == sysModules) = false) → (∀ q ∈ ex, exprO q.2 = false) → ∃ W', WS n m W' l (ex ++ os) ∧ ∀ q ∈ W', q ∈ ex ++ W
  | [], W, os, h, _, _, _, _ => ⟨W, h, fun _ h => h⟩
  | q :: ex, W, os, h, off, nd, lo, pl => by
    rw [List.map_cons, List.nodup_cons] at nd
    obtain ⟨W₁, h1, h2⟩ := WS.puts (ex := ex) h (fun a ha => off a (.tail _ ha)) nd.2 (fun a ha => lo a (.tail _ ha)) (fun a ha => pl a (.tail _ ha))
    obtain ⟨W₂, h3, h4⟩ := h1.put (a := q.1) (o := q.2) (fun p hp => by
      rcases List.mem_append.mp (h2 p hp) with z | z
      · exact fun e => nd.1 (by rw [← e]; exact List.mem_map_of_mem (f := (·.1)) z)
      · exact off q (.head _) p z) (lo q (.head _)) (pl q (.head _))
    refine ⟨W₂, h3, fun r hr => ?_⟩
    rcases List.mem_cons.mp (h4 r hr) with e | hr
    · exact e ▸ .head _
    · exact .tail _ (h2 r hr)
/-- what _law_expr hands back -/
def ExP (n m : Nat) (l : List (Addr × Ex)) (os : Led) (ht : Nat) (v : Value) (W : Led) : Prop :=
  ∃ tp x r vs zs k e, v = .ref tp ∧ WS n m W ((x, e) :: l) ((tp, tupO [.ref x, .ref r]) :: (r, listOf (List.toArray vs) k) :: os) ∧ IntsAre vs zs ∧ zs.length ≤ 24 ∧ e.ht ≤ ht
section
variable (w : World) (p : Program) (loose : List Str) (mean : ExcName → Option Value) (mg mb : Str → Option Value)
def ExprOk (z : Int) (N H D U : Nat) : Prop := ∀ a vs zs k tk n m W l os, WS n m W l os → (a, listOf (List.toArray vs) k) ∈ os → IntsAre vs zs → zs.length ≤ 24 →
  CallOkK w p loose mean mg mb 539 D U W [.ref a, .int z tk] [] (ExP (n + N) m l os H)
end
section
variable {w : World} {p : Program} {loose : List Str} {mean : ExcName → Option Value} {mg mb : Str → Option Value}
  {dp un : Nat} {gd : Option (List Code)} {cn : Str} {cs : Scope} {a : Addr} {ccd : Value} {cl : List (Str × Addr)} {outer : List Env} {A₀ : Around} {base h₀ : Heap} {L : Addr} {m : Str → Option Value} {s : Shared}
  {Q E : Value → Shared → Prop} {own ex all W os : Led} {n k₁ D U N H k : Nat} {l : List (Addr × Ex)} {vs : List Value} {zs : List Int} {z : Int} {tk : Tok}
theorem v_expr (C : ExprOk w p loose mean mg mb z N H D U) (hW : WS n k₁ W l os) {b : Addr} (hb : (b, listOf (List.toArray vs) k) ∈ os) (hi : IntsAre vs zs) (hz : zs.length ≤ 24)
    (B : Below A₀ base outer h₀) (F : Fr h₀ L s.heap m) (X : (Mine.hd.heap_39 w.params).In h₀) (Nw : News h₀ L s.heap all) (hs : SplitL (own ++ W) all ex) (T : Top p loose mean mg mb h₀)
    (hk : cs.kind = .function) (hd : dp + D < recursionLimit) (hu : un + U < cLine) (hex : OffL ex (own ++ W)) (hown : OffL own W)
    (h : ∀ tp x r vs' zs' k' e W' h' tk', Fr h₀ L h' m → News h₀ L h' (ex ++ (own ++ W')) → OffL ex (own ++ W') → OffL own W' → WS (n + N) k₁ W' ((x, e) :: l) ((tp, tupO [.ref x, .ref r]) :: (r, listOf (List.toArray vs') k') :: os) → IntsAre vs' zs' → zs'.length ≤ 24 → e.ht ≤ H →
      (tp, tupO [.ref x, .ref r]) ∈ W' → (r, listOf (List.toArray vs') k') ∈ W' → Q (.ref tp) { s with heap := h', toks := tk' }) :
    wpAny (model PySem.Challenge.rw_vj0021_01.row.prog w) (ktrTop dp un gd cn cs L a ccd cl outer) (call (.ref 539) [.ref b, .int z tk]) Q E s := by
  refine C b vs zs k tk n k₁ W l os hW hb hi hz dp un gd cn cs a ccd cl outer A₀ base h₀ L m (ex ++ own) s Q E B F X (by rw [List.append_assoc]; exact hs.eq ▸ Nw) T hk hd hu ?_ fun v post h' tk' F' N' off hp => ?_
  · intro q hq p hp
    rcases List.mem_append.mp hq with hq | hq
    · exact hex q hq p (List.mem_append_right _ hp)
    · exact hown q hq p hp
  · rw [List.append_assoc] at N'
    obtain ⟨tp, x, r, vs', zs', k', e, rfl, hw, h1, h2, h3⟩ := hp
    refine h tp x r vs' zs' k' e post h' tk' F' N' ?_ (fun q hq => off q (List.mem_append_right _ hq)) hw h1 h2 h3 (hw.mem (.head _)) (hw.mem (.tail _ (.head _)))
    intro q hq p hp
    rcases List.mem_append.mp hp with hp | hp
    · exact hex q hq p (List.mem_append_left _ hp)
    · exact off q (List.mem_append_left _ hq) p hp
/-- the end of such a call -/
theorem expr_end {tp x r : Addr} {add : Led} {e : Ex} {h' : Heap} {n' : Nat} (hQ : ∀ v post h' tk', Fr h₀ L h' m → News h₀ L h' (own ++ post) → OffL own post → ExP n' k₁ l os H v post → Q v { s with heap := h', toks := tk' })
    (F : Fr h₀ L h' m) (X : (Mine.hd.heap_39 w.params).In h₀) (Nw : News h₀ L h' all) (hs : SplitL (own ++ W) all ex) (hex : OffL ex (own ++ W)) (hown : OffL own W) {l' : List (Addr × Ex)} {os' : Led} (hW : WS n k₁ W l' os')
    (ha : ∀ q ∈ add, q ∈ ex) (nd : (add.map (·.1)).Nodup) (pl : ∀ q ∈ add, exprO q.2 = false) (hn : n ≤ n') (htp : (tp, tupO [.ref x, .ref r]) ∈ add ++ os') (hr : (r, listOf (List.toArray vs) k) ∈ add ++ os') (hos : ∀ q ∈ os, q ∈ os') (hx : (x, e) ∈ l') (hl : ∀ q ∈ l, q ∈ l')
    (hi : IntsAre vs zs) (hz : zs.length ≤ 24) (hh : e.ht ≤ H) {tk : Nat} : Q (.ref tp) { s with heap := h', toks := tk } := by
  obtain ⟨W', h1, h2⟩ := hW.puts (ex := add) (fun q hq p hp => hex q (ha q hq) p (List.mem_append_right _ hp)) nd (fun q hq => new_lo X Nw (by rw [hs.eq]; exact List.mem_append_left _ (ha q hq))) pl
  refine hQ _ W' h' tk F (Nw.perm fun q hq => ?_) (fun q hq p hp => ?_) ⟨tp, x, r, vs, zs, k, e, rfl, (h1.up hn (Nat.le_refl _)).sub (fun q hq => ?_) (fun q hq => ?_), hi, hz, hh⟩
  · rw [hs.eq]
    rcases List.mem_append.mp hq with hq | hq
    · exact List.mem_append_right _ (List.mem_append_left _ hq)
    · rcases List.mem_append.mp (h2 q hq) with hq | hq
      · exact List.mem_append_left _ (ha q hq)
      · exact List.mem_append_right _ (List.mem_append_right _ hq)
  · rcases List.mem_append.mp (h2 p hp) with hp | hp
    · exact fun e => hex p (ha p hp) q (List.mem_append_left _ hq) e.symm
    · exact hown q hq p hp
  · rcases List.mem_cons.mp hq with rfl | hq
    · exact hx
    · exact hl q hq
  · rcases List.mem_cons.mp hq with rfl | hq
    · exact htp
    · rcases List.mem_cons.mp hq with rfl | hq
      · exact hr
      · exact List.mem_append_right _ (hos q hq)

theorem expr_end1 {tp x r : Addr} {e : Ex} {h' : Heap} {n' : Nat} (hQ : ∀ v post h' tk', Fr h₀ L h' m → News h₀ L h' (own ++ post) → OffL own post → ExP n' k₁ l os H v post → Q v { s with heap := h', toks := tk' })
    (F : Fr h₀ L h' m) (X : (Mine.hd.heap_39 w.params).In h₀) (Nw : News h₀ L h' all) (hs : SplitL (own ++ W) all ex) (hex : OffL ex (own ++ W)) (hown : OffL own W) {l' : List (Addr × Ex)} {os' : Led} (hW : WS n k₁ W l' os')
    (h1 : (tp, tupO [.ref x, .ref r]) ∈ ex) (h2 : (r, listOf (List.toArray vs) k) ∈ os') (hn : n ≤ n') (hos : ∀ q ∈ os, q ∈ os') (hx : (x, e) ∈ l') (hl : ∀ q ∈ l, q ∈ l')
    (hi : IntsAre vs zs) (hz : zs.length ≤ 24) (hh : e.ht ≤ H) {tk : Nat} : Q (.ref tp) { s with heap := h', toks := tk } :=
  expr_end (add := [(tp, tupO [.ref x, .ref r])]) hQ F X Nw hs hex hown hW (fun q hq => by rw [List.mem_singleton.mp hq]; exact h1) (by simp) (fun q hq => by rw [List.mem_singleton.mp hq]; rfl) hn (.head _) (.tail _ h2) hos hx hl hi hz hh
theorem expr_end2 {tp x r : Addr} {e : Ex} {h' : Heap} {n' : Nat} (hQ : ∀ v post h' tk', Fr h₀ L h' m → News h₀ L h' (own ++ post) → OffL own post → ExP n' k₁ l os H v post → Q v { s with heap := h', toks := tk' })
    (F : Fr h₀ L h' m) (X : (Mine.hd.heap_39 w.params).In h₀) (Nw : News h₀ L h' all) (hs : SplitL (own ++ W) all ex) (hex : OffL ex (own ++ W)) (hown : OffL own W) {l' : List (Addr × Ex)} {os' : Led} (hW : WS n k₁ W l' os')
    (h1 : (tp, tupO [.ref x, .ref r]) ∈ ex) (h2 : (r, listOf (List.toArray vs) k) ∈ ex) (hn : n ≤ n') (hos : ∀ q ∈ os, q ∈ os') (hx : (x, e) ∈ l') (hl : ∀ q ∈ l, q ∈ l')
    (hi : IntsAre vs zs) (hz : zs.length ≤ 24) (hh : e.ht ≤ H) {tk : Nat} : Q (.ref tp) { s with heap := h', toks := tk } := by
  have up : ∀ q ∈ ex, q ∈ all := fun q hq => by rw [hs.eq]; exact List.mem_append_left _ hq
  have hne : tp ≠ r := Nw.twoPlaces (up _ h1) (up _ h2) (fun e => by have := congrArg Obj.cls e; simp at this)
  refine expr_end (add := [(tp, tupO [.ref x, .ref r]), (r, listOf (List.toArray vs) k)]) hQ F X Nw hs hex hown hW (fun q hq => ?_) (by simp [hne]) (fun q hq => ?_) hn (.head _) (.tail _ (.head _)) hos hx hl hi hz hh
  · rcases List.mem_cons.mp hq with rfl | hq
    · exact h1
    · rw [List.mem_singleton.mp hq]; exact h2
  · rcases List.mem_cons.mp hq with rfl | hq
    · rfl
    · rw [List.mem_singleton.mp hq]; rfl
/-- the call, where its list is no part of the world yet -/
theorem v_exprD (C : ExprOk w p loose mean mg mb z N H D U) (hW : WS n k₁ W l os) (B : Below A₀ base outer h₀) (F : Fr h₀ L s.heap m) (X : (Mine.hd.heap_39 w.params).In h₀) (Nw : News h₀ L s.heap all) (hs : SplitL (own ++ W) all ex)
    {b : Addr} (hb : (b, listOf (List.toArray vs) k) ∈ ex) (hi : IntsAre vs zs) (hz : zs.length ≤ 24) (T : Top p loose mean mg mb h₀)
    (hk : cs.kind = .function) (hd : dp + D < recursionLimit) (hu : un + U < cLine) (hex : OffL ex (own ++ W)) (hown : OffL own W)
    (h : ∀ tp x r vs' zs' k' e W' h' tk', Fr h₀ L h' m → News h₀ L h' (own ++ W') → OffL own W' → WS (n + N) k₁ W' ((x, e) :: l) ((tp, tupO [.ref x, .ref r]) :: (r, listOf (List.toArray vs') k') :: (b, listOf (List.toArray vs) k) :: os) → IntsAre vs' zs' → zs'.length ≤ 24 → e.ht ≤ H →
      (tp, tupO [.ref x, .ref r]) ∈ W' → (r, listOf (List.toArray vs') k') ∈ W' → (∀ q ∈ os, q ∈ W') → Q (.ref tp) { s with heap := h', toks := tk' }) :
    wpAny (model PySem.Challenge.rw_vj0021_01.row.prog w) (ktrTop dp un gd cn cs L a ccd cl outer) (call (.ref 539) [.ref b, .int z tk]) Q E s := by
  have hb' : (b, listOf (List.toArray vs) k) ∈ all := by rw [hs.eq]; exact List.mem_append_left _ hb
  obtain ⟨W₁, h1, h2⟩ := hW.put (fun p hp => hex _ hb p (List.mem_append_right _ hp)) (new_lo X Nw hb') (o := listOf (List.toArray vs) k) rfl
  refine C b vs zs k tk n k₁ W₁ l _ h1 (.head _) hi hz dp un gd cn cs a ccd cl outer A₀ base h₀ L m own s Q E B F X (Nw.perm fun q hq => ?_) T hk hd hu (fun q hq p hp => ?_) fun v post h' tk' F' N' off hp => ?_
  · rcases List.mem_append.mp hq with hq | hq
    · rw [hs.eq]; exact List.mem_append_right _ (List.mem_append_left _ hq)
    · rcases List.mem_cons.mp (h2 q hq) with rfl | hq
      · exact hb'
      · rw [hs.eq]; exact List.mem_append_right _ (List.mem_append_right _ hq)
  · rcases List.mem_cons.mp (h2 p hp) with rfl | hp
    · exact fun e => hex _ hb q (List.mem_append_left _ hq) e.symm
    · exact hown q hq p hp
  · obtain ⟨tp, x, r, vs', zs', k', e, rfl, hw, h3, h4, h5⟩ := hp
    exact h tp x r vs' zs' k' e post h' tk' F' N' off hw h3 h4 h5 (hw.mem (.head _)) (hw.mem (.tail _ (.head _))) fun q hq => hw.mem (.tail _ (.tail _ (.tail _ hq)))
theorem fmod3 {e q : Int} (h : Int.fmod e 3 = q) : q = 0 ∨ q = 1 ∨ q = 2 := by
  rw [Int.fmod_eq_emod_of_nonneg _ (by decide)] at h
  omega

theorem v_item3 {prog : Program} {A : Around} {value slice : PySem.Expr} {b : Addr} {s1 s2 s3 : Str} {t1 t2 t3 u : Tok} {e : Int} {nn : Nat} (Nw : News h₀ L s.heap all) (hm : (b, listOf #[.str s1 t1, .str s2 t2, .str s3 t3] nn) ∈ all)
    (l1 : s1.length ≤ 2) (l2 : s2.length ≤ 2) (l3 : s3.length ≤ 2) (h : ∀ lt tk, lt.length ≤ 2 → Q (.str lt tk) s)
    (hs : subscripted slice false (.ref b) (.int (Int.fmod e 3) u) = operate [.ref b, .int (Int.fmod e 3) u] (getItem (.ref b) (.int (Int.fmod e 3) u)) := by with_unfolding_all rfl) :
    wpAny (model prog w) A (subscriptTail value slice (.ref b) (.int (Int.fmod e 3) u)) Q E s := by
  have hl := News.isList Nw hm
  have go : ∀ (v : Value), (#[Value.str s1 t1, .str s2 t2, .str s3 t3] : Array Value)[(Int.fmod e 3).toNat]? = some v → 0 ≤ Int.fmod e 3 → Int.fmod e 3 < 2 ^ 63 → Q v s → wpAny (model prog w) A (subscriptTail value slice (.ref b) (.int (Int.fmod e 3) u)) Q E s :=
    fun v hx h0 hf hq => tail_any hl.typeIs slot_list_getitem.lookup (wpAny_getItem_list hl h0 hf hx hq) hs
  have hf : Int.fmod e 3 = 0 ∨ Int.fmod e 3 = 1 ∨ Int.fmod e 3 = 2 := fmod3 rfl
  rcases hf with hf | hf | hf
  · exact go (.str s1 t1) (by rw [hf]; rfl) (by omega) (by omega) (h _ _ l1)
  · exact go (.str s2 t2) (by rw [hf]; rfl) (by omega) (by omega) (h _ _ l2)
  · exact go (.str s3 t3) (by rw [hf]; rfl) (by omega) (by omega) (h _ _ l3)
end
end Mine
end

-- VWrap
section
open PySem PySem.W PyProof.Rows PySem.Calls
set_option Elab.async false
set_option maxRecDepth 100000
set_option maxHeartbeats 4000000
namespace Mine
local macro_rules | `(tactic| k_room) => `(tactic| ktr_room)
local macro_rules | `(tactic| k_units) => `(tactic| ktr_units)
local macro_rules | `(tactic| walk_at "V super") => `(tactic| (refine' ks_code_super ?k1 ?k2 ?k3 ?k4 ?k5 ?kA ?kF ?kK ?k6 ?k7 ?k8 ?k9 ?kB ?_ ?c1 ?c2 ?c3 ?c4; (case kA => exact rfl); (case kF => exact rfl); (case kK => first | exact rfl | assumption); (case k1 => k_asm); (case k2 => k_asm); (case k3 => k_asm); (case k4 => k_asm); (case k5 => k_asm); (case k6 => k_is); (case k7 => k_is); (case k8 => k_room); (case k9 => first | exact BindsTo.of_eq rfl | exact binds_K (by k_in) rfl (by k_is) rfl rfl rfl); (case kB => exact locs rfl); (case c1 => decide); (case c2 => exact rfl); (case c3 => exact rfl); (case c4 => exact rfl); intro g' L' h' FG' F' N' B' X' T' l1; (try k_lt l1); (try dsimp only); (try k_lift B')))
local macro_rules | `(tactic| k_mem) => `(tactic| assumption)
local macro_rules | `(tactic| walk_at "call ref") => `(tactic| (k_here; k_dflt (refine' call_cls ?k1 ?k2 ?k3 ?k4 ?k5 ?k6 ?_; (case k1 => k_asm); (case k2 => k_asm); (case k3 => k_asm); (case k4 => k_is); (case k5 => k_is); (case k6 => k_is); k_whole; intro x' d' h' F' N' l1 l2; (have l3 := tbn_up l2 (allLt_of l1)); (try simp only [AllLt, and_true] at l3); (replace l1 := allLt_of l1); (try simp only [AllLt, and_true] at l1); (try k_lt2 l2); (try k_sweep); first | k_enter | walk_at "V super")))
local macro_rules | `(tactic| walk_at "V both") => `(tactic| (refine' v_bothS ?k1 ?k2 ?k3 ?k4 ?k5 ?kA ?kF ?kK ?k6 ?k7 ?k8 ?kV ?kX ?kQ ?kM ?kN ?kR ?kP ?kS ?kT ?kB ?_ ?c2 ?c3 ?c4 ?c5; (case kA => exact rfl); (case kF => exact rfl); (case kK => first | exact rfl | assumption); (case k1 => k_asm); (case k2 => k_asm); (case k3 => k_asm); (case k4 => k_asm); (case k5 => k_asm); (case k6 => k_is); (case k7 => k_is); (case k8 => k_room); (case kV => kp_lit); (case kX => kp_lit); (case kQ => exact rfl); (case kM => exact rfl); (case kN => exact rfl); (case kR => exact rfl); (case kP => exact rfl); (case kS => exact fun _ => rfl); (case kT => exact fun _ _ => rfl); (case kB => exact fun _ _ => locs rfl); (case c5 => decide); (case c2 => exact rfl); (case c3 => exact rfl); (case c4 => exact rfl); k_whole; intro C' D' o' g' L' h' tk' l1 l2 lo' hs' l3 FG' F' N' B' X' T'; (try k_lt l1); (try k_lt2 l2); (replace l3 := allLt_of l3); (try simp only [AllLt, and_true] at l3); (try dsimp only); (try k_lift B')))
local macro_rules | `(tactic| walk_at "V more") => `(tactic| (refine' v_moreS ?k1 ?k2 ?k3 ?k4 ?k5 ?kA ?kF ?kK ?k6 ?k7 ?k8 ?kX ?kM ?kN ?kR ?kP ?kS ?kB ?_ ?c2 ?c3 ?c4 ?c5; (case kA => exact rfl); (case kF => exact rfl); (case kK => first | exact rfl | assumption); (case k1 => k_asm); (case k2 => k_asm); (case k3 => k_asm); (case k4 => k_asm); (case k5 => k_asm); (case k6 => k_is); (case k7 => k_is); (case k8 => k_room); (case kX => kp_lit); (case kM => exact rfl); (case kN => exact rfl); (case kR => exact rfl); (case kP => exact rfl); (case kS => exact fun _ => rfl); (case kB => exact fun _ => locs rfl); (case c5 => decide); (case c2 => exact rfl); (case c3 => exact rfl); (case c4 => exact rfl); k_whole; intro D' o' g' L' h' tk' l1 lo' hs' l3 FG' F' N' B' X' T'; (try k_lt l1); (replace l3 := allLt_of l3); (try simp only [AllLt, and_true] at l3); (try dsimp only); (try k_lift B')))
local macro_rules | `(tactic| walk_at "call ref") => `(tactic| (k_here; k_dflt (refine' call_cls ?k1 ?k2 ?k3 ?k4 ?k5 ?k6 ?_; (case k1 => k_asm); (case k2 => k_asm); (case k3 => k_asm); (case k4 => k_is); (case k5 => k_is); (case k6 => k_is); k_whole; intro x' d' h' F' N' l1 l2; (have l3 := tbn_up l2 (allLt_of l1)); (try simp only [AllLt, and_true] at l3); (replace l1 := allLt_of l1); (try simp only [AllLt, and_true] at l1); (try k_lt2 l2); (try k_sweep); first | k_enter | walk_at "V super" | walk_at "V both" | walk_at "V more")))
local macro_rules | `(tactic| walk_at "call ref") => `(tactic| (k_here; k_dflt (refine' call_meth ?k1 ?k2 ?_; (case k1 => k_asm); (case k2 => k_mem); first | k_enter | walk_at "V super" | walk_at "V both" | walk_at "V more")))
local macro_rules | `(tactic| walk_at "getMethod ref") => `(tactic| (k_here; (with_reducible show wpAny _ _ (getMethod (Value.ref _) (Str.ofString "get") _) _ _ _); k_dflt (first
  | refine kdg_method (knd := PySem.strKind _ _) (by k_asm) (by k_mem) (by k_asm) ?_
  | refine kdg_method (knd := PySem.intKind _ _) (by k_asm) (by k_mem) (by k_asm) ?_)))
local macro_rules | `(tactic| walk_at "call builtin:dict.get") => `(tactic| (k_here; k_dflt (first
  | refine kdg_get2 (knd := PySem.strKind _ _) (by k_asm) (by k_mem) (by k_asm) (by k_asm) (strKind_is _ _ _ _) (some _) (by rfl) ?_
  | refine kdg_get2 (knd := PySem.strKind _ _) (by k_asm) (by k_mem) (by k_asm) (by k_asm) (strKind_is _ _ _ _) none (by rfl) ?_); (try dsimp only [Option.getD])))
local macro_rules | `(tactic| walk_at "wpAt") => `(tactic| (ks_step "eval Call"; refine v_wpAt_superKw (by rfl) ?_))
local macro_rules | `(tactic| walk_at "getAttr ref") => `(tactic| (k_here; ks_any; k_dflt (refine' v_superAttr ?k1 ?k2 ?k3 ?k4 ?k5 ?k6 ?k7 ?k8 ?k9 ?_; (case k1 => k_asm); (case k2 => k_asm); (case k3 => k_asm); (case k4 => k_mem); (case k5 => k_inst); (case k6 => k_is); (case k7 => ks_is); (case k8 => k_is); (case k9 => decide); intro q' h' F' N' l1; (replace l1 := allLt_of l1); (try simp only [AllLt, and_true] at l1))))
local macro_rules | `(tactic| walk_at "callWith ref") => `(tactic| (k_here; k_dflt (refine' v_callKwM ?k1 ?k2 ?k3 ?k4 ?k5 ?_; (case k1 => k_asm); (case k2 => k_asm); (case k3 => k_mem); (case k4 => k_is); (case k5 => rfl); k_whole)))
local macro_rules | `(tactic| walk_at "evalArgs") => `(tactic| (k_here; k_dflt (refine v_evalArgsE (by rfl) ?_)))
local macro_rules | `(tactic| walk_at "mergedKeywords") => `(tactic| (k_here; (with_reducible show wpAny _ _ (mergedKeywords _ (backToKw _ (keywordEach [PySem.Keyword.mk Option.none _ _] _))) _ _ _); k_dflt (refine v_mergedE0 (by k_asm) (by k_asm) ?_; intro d' h' F' N' l1; (replace l1 := allLt_of l1); (try simp only [AllLt, and_true] at l1))))
local macro_rules | `(tactic| walk_at "mergedKeywords") => `(tactic| (k_here; (with_reducible show wpAny _ _ (mergedKeywords _ (backToKw _ (keywordEach [PySem.Keyword.mk (Option.some _) _ _, PySem.Keyword.mk Option.none _ _] _))) _ _ _); k_dflt (refine' v_mergedE1 ?k1 ?k2 ?k3 ?kv ?_; (case k1 => k_asm); (case k2 => k_asm); (case k3 => exact Top.nolimit (by k_asm)); (case kv => (intro s9 R9 F9 h9; walk_at "eval Name"; exact h9)); intro d' h' sub' tk' F' N' l1 l2; (replace l1 := allLt_of l1); (try simp only [AllLt, and_true] at l1); (try k_lt2 l2))))
local macro_rules | `(tactic| walk_at "Exists") => `(tactic| (k_here; k_dflt (refine v_kwEnd (by k_asm) (by k_mem) (by k_mem) (by k_asm) (by k_asm) ?_)))
local macro_rules | `(tactic| walk_at "keywordsIn") => `(tactic| (k_here; k_dflt (first | refine v_kwIn0 (News.get (by k_asm) (by k_mem)) ?_ | refine v_kwIn1 (News.get (by k_asm) (by k_mem)) ?_)))
local macro_rules | `(tactic| walk_at "V enter") => `(tactic| (refine' code_def ?k1 ?k2 ?k3 ?k4 ?k5 ?kA ?kF ?kK ?k6 ?k7 ?k8 ?k9 ?kB ?_ ?c2 ?c3 ?c4 ?c5; (case kA => exact rfl); (case kF => exact rfl); (case kK => first | exact rfl | assumption); (case k1 => k_asm); (case k2 => k_asm); (case k3 => k_asm); (case k4 => k_asm); (case k5 => k_asm); (case k6 => k_is); (case k7 => k_is); (case k8 => k_room); (case k9 => first | exact BindsTo.of_eq rfl | exact binds_K (by k_in) rfl (by k_is) rfl rfl rfl | fail "V enter: no rule for these arguments"); (case c5 => decide); (case kB => exact locs rfl); (case c2 => exact rfl); (case c3 => exact rfl); (case c4 => exact rfl); k_whole; intro g' L' h' FG' F' N' B' X' T'; (try dsimp only); (try k_fold)))
local macro_rules | `(tactic| walk_at "exec For Name Attribute cons nil") => `(tactic| (k_here; (rename Fr _ _ _ _ => lF'); (with_unfolding_all refine' For_turns lF' ?_; k_whole)))
local macro_rules | `(tactic| walk_at "pyIter ref") => `(tactic| (k_here; (with_reducible show wpAny _ _ (pyIter (Value.ref _)) (fun it s₂ => TurnsAt _ _ _ _ _ _ _ _ _ it s₂) _ _); (rename Fr _ _ _ _ => lF'); (rename News _ _ _ _ => lN'); (with_unfolding_all refine' iter_tupTurns (n := 0) ?hh lF' lN' ?hm ?hc ?hd ?_; (case hh => rfl); (case hm => k_mem); (case hc => rfl); (case hd => rfl)); clear lF' lN'; intro i' l1; (replace l1 := allLt_of l1); (try simp only [AllLt, and_true] at l1); (try dsimp only [List.map])))
variable {w : World} {p : Program} {loose : List Str} {mean : ExcName → Option Value} {mg mb : Str → Option Value}
local macro_rules | `(tactic| walk_at "call ref") => `(tactic| (k_here; (with_reducible show wpAny _ _ (call (Value.ref 458) _ _) _ _ _); refine unHalt ?_))
local macro_rules | `(tactic| walk_at "call ref") => `(tactic| (k_here; (with_reducible show wpAny _ _ (call (Value.ref 504) _ _) _ _ _); refine unHalt ?_))
theorem max_inf {tk : Tok} : MaxIs none (.float ((Num.parseText? (Str.ofString "inf")).getD 0) tk) := by
  have e : (Num.parseText? (Str.ofString "inf")).getD 0 = 9218868437227405312 := by first | rfl | decide +kernel
  rw [e]
  exact ⟨_, rfl⟩
theorem n_not {ls : List (Addr × Ex)} {x : Addr} {ea : Ex} (ha : (x, ea) ∈ ls) : NewOk w p loose mean mg mb 30 300 468 [.ref x] [] ls (.look true ea) := by
  intro n₀ m₀ W os hW dp un gd cn cs a ccd cl outer A₀ base h₀ L m own s Q E B F X N T hk hd hu hown hQ
  w_top off
  revert X; k_fill; intro X
  refine wpAny_call ?_
  k_dflt (walk_at "V enter")
  k_steps
  unfold Halt
  refine' v_new (n_look1 (tk := 0) ha) hW ?kB ?kF ?kX ?kN .nil ?kT rfl ?kd ?ku OffL.nil hown ?_
  (case kB => k_asm)
  (case kF => k_asm)
  (case kX => k_asm)
  (case kN => k_asm)
  (case kT => k_asm)
  (case kd => k_room)
  (case ku => k_units)

  intro x' W' h7 tk7 hF7 hN7 _ hown7 hW7
  have hN8 : News _ _ _ (own ++ W') := hN7
  k_steps
  exact hQ _ _ _ _ (by k_asm) (by k_asm) hown7 ⟨_, rfl, hW7⟩
theorem n_star {ls : List (Addr × Ex)} {x : Addr} {ea : Ex} (ha : (x, ea) ∈ ls) : NewOk w p loose mean mg mb 30 300 516 [.ref x] [] ls (.quant 0 none ea) := by
  intro n₀ m₀ W os hW dp un gd cn cs a ccd cl outer A₀ base h₀ L m own s Q E B F X N T hk hd hu hown hQ
  w_top off
  revert X; k_fill; intro X
  refine wpAny_call ?_
  k_dflt (walk_at "V enter")
  k_steps
  unfold Halt
  refine' v_new (n_quant3 (mn := 0) (mx := none) ha max_inf (by decide) (fun _ h => nomatch h)) hW ?kB ?kF ?kX ?kN .nil ?kT rfl ?kd ?ku OffL.nil hown ?_
  (case kB => k_asm)
  (case kF => k_asm)
  (case kX => k_asm)
  (case kN => k_asm)
  (case kT => k_asm)
  (case kd => k_room)
  (case ku => k_units)
  intro x' W' h7 tk7 hF7 hN7 _ hown7 hW7
  have hN8 : News _ _ _ (own ++ W') := hN7
  k_steps
  exact hQ _ _ _ _ (by k_asm) (by k_asm) hown7 ⟨_, rfl, hW7⟩
theorem n_plus {ls : List (Addr × Ex)} {x : Addr} {ea : Ex} (ha : (x, ea) ∈ ls) : NewOk w p loose mean mg mb 30 300 524 [.ref x] [] ls (.quant 1 none ea) := by
  intro n₀ m₀ W os hW dp un gd cn cs a ccd cl outer A₀ base h₀ L m own s Q E B F X N T hk hd hu hown hQ
  w_top off
  revert X; k_fill; intro X
  refine wpAny_call ?_
  k_dflt (walk_at "V enter")
  k_steps
  unfold Halt
  refine' v_new (n_quant3 (mn := 1) (mx := none) ha max_inf (by decide) (fun _ h => nomatch h)) hW ?kB ?kF ?kX ?kN .nil ?kT rfl ?kd ?ku OffL.nil hown ?_
  (case kB => k_asm)
  (case kF => k_asm)
  (case kX => k_asm)
  (case kN => k_asm)
  (case kT => k_asm)
  (case kd => k_room)
  (case ku => k_units)
  intro x' W' h7 tk7 hF7 hN7 _ hown7 hW7
  have hN8 : News _ _ _ (own ++ W') := hN7
  k_steps
  exact hQ _ _ _ _ (by k_asm) (by k_asm) hown7 ⟨_, rfl, hW7⟩
theorem n_opt {ls : List (Addr × Ex)} {x : Addr} {ea : Ex} (ha : (x, ea) ∈ ls) : NewOk w p loose mean mg mb 30 300 532 [.ref x] [] ls (.quant 0 (some 1) ea) := by
  intro n₀ m₀ W os hW dp un gd cn cs a ccd cl outer A₀ base h₀ L m own s Q E B F X N T hk hd hu hown hQ
  w_top off
  revert X; k_fill; intro X
  refine wpAny_call ?_
  k_dflt (walk_at "V enter")
  k_steps
  unfold Halt
  refine' v_new (n_quant3 (mn := 0) (mx := some 1) ha ⟨_, rfl⟩ (by decide) (fun n h => by cases h; decide)) hW ?kB ?kF ?kX ?kN .nil ?kT rfl ?kd ?ku OffL.nil hown ?_
  (case kB => k_asm)
  (case kF => k_asm)
  (case kX => k_asm)
  (case kN => k_asm)
  (case kT => k_asm)
  (case kd => k_room)
  (case ku => k_units)
  intro x' W' h7 tk7 hF7 hN7 _ hown7 hW7
  have hN8 : News _ _ _ (own ++ W') := hN7
  k_steps
  exact hQ _ _ _ _ (by k_asm) (by k_asm) hown7 ⟨_, rfl, hW7⟩

end Mine
end

-- VExpr
section
open PySem PySem.W PyProof.Rows PySem.Calls
set_option Elab.async false
set_option maxRecDepth 100000
set_option maxHeartbeats 4000000
namespace Mine
local macro_rules | `(tactic| k_room) => `(tactic| ktr_room)
local macro_rules | `(tactic| k_units) => `(tactic| ktr_units)
local macro_rules | `(tactic| k_mem) => `(tactic| assumption)
local macro_rules | `(tactic| walk_at "V enter") => `(tactic| (refine' code_def ?k1 ?k2 ?k3 ?k4 ?k5 ?kA ?kF ?kK ?k6 ?k7 ?k8 ?k9 ?kB ?_ ?c2 ?c3 ?c4 ?c5; (case kA => exact rfl); (case kF => exact rfl); (case kK => first | exact rfl | assumption); (case k1 => k_asm); (case k2 => k_asm); (case k3 => k_asm); (case k4 => k_asm); (case k5 => k_asm); (case k6 => k_is); (case k7 => k_is); (case k8 => k_room); (case k9 => first | exact BindsTo.of_eq rfl | exact binds_K (by k_in) rfl (by k_is) rfl rfl rfl | fail "V enter: no rule for these arguments"); (case c5 => decide); (case kB => exact locs rfl); (case c2 => exact rfl); (case c3 => exact rfl); (case c4 => exact rfl); k_whole; intro g' L' h' FG' F' N' B' X' T'; (try dsimp only); (try k_fold)))
local macro_rules | `(tactic| k_mem) => `(tactic| exact List.mem_append_right _ (by assumption))
local macro_rules | `(tactic| k_all) => `(tactic| assumption)
local macro_rules | `(tactic| walk_at "V inl") => `(tactic| (repeat (first | exact List.Mem.head _ | apply List.Mem.tail)))
local macro_rules | `(tactic| walk_at "V off") => `(tactic| (repeat (first | exact OffL.nil | assumption | refine OffL.cons (by k_all) ?_)))
local macro_rules | `(tactic| walk_at "call ref") => `(tactic| (k_here; (with_reducible show wpAny _ _ (call (Value.ref 336) [Value.str _ _] []) _ _ _); (rename WS _ _ _ _ _ => lW'); k_dflt (refine' v_new (n_lit (by first | decide | assumption)) lW' ?k1 ?k2 ?k3 ?k4 ?k5 ?k6 ?k7 ?k8 ?k9 ?kA ?kB ?_; (case k1 => k_asm); (case k2 => k_asm); (case k3 => k_asm); (case k4 => k_asm); (case k5 => (repeat (first | exact SplitL.nil | apply SplitL.cons))); (case k6 => k_asm); (case k7 => exact rfl); (case k8 => k_room); (case k9 => k_units); (case kA => walk_at "V off"); (case kB => assumption)); intro x' W' h' tk' F' N' o1' o2' hW'; (try simp only [List.cons_append, List.nil_append] at N')))
local macro_rules | `(tactic| walk_at "call ref") => `(tactic| (k_here; (with_reducible show wpAny _ _ (call (Value.ref 394) [_, _] []) _ _ _); (rename WS _ _ _ _ _ => lW'); k_dflt (refine' v_new (n_seq2 (by walk_at "V inl") (by walk_at "V inl")) lW' ?k1 ?k2 ?k3 ?k4 ?k5 ?k6 ?k7 ?k8 ?k9 ?kA ?kB ?_; (case k1 => k_asm); (case k2 => k_asm); (case k3 => k_asm); (case k4 => k_asm); (case k5 => (repeat (first | exact SplitL.nil | apply SplitL.cons))); (case k6 => k_asm); (case k7 => exact rfl); (case k8 => k_room); (case k9 => k_units); (case kA => walk_at "V off"); (case kB => assumption)); intro x' W' h' tk' F' N' o1' o2' hW'; (try simp only [List.cons_append, List.nil_append] at N')))
local macro_rules | `(tactic| walk_at "call ref") => `(tactic| (k_here; (with_reducible show wpAny _ _ (call (Value.ref 394) [_, _, _] []) _ _ _); (rename WS _ _ _ _ _ => lW'); k_dflt (refine' v_new (n_seq3 (by walk_at "V inl") (by walk_at "V inl") (by walk_at "V inl")) lW' ?k1 ?k2 ?k3 ?k4 ?k5 ?k6 ?k7 ?k8 ?k9 ?kA ?kB ?_; (case k1 => k_asm); (case k2 => k_asm); (case k3 => k_asm); (case k4 => k_asm); (case k5 => (repeat (first | exact SplitL.nil | apply SplitL.cons))); (case k6 => k_asm); (case k7 => exact rfl); (case k8 => k_room); (case k9 => k_units); (case kA => walk_at "V off"); (case kB => assumption)); intro x' W' h' tk' F' N' o1' o2' hW'; (try simp only [List.cons_append, List.nil_append] at N')))
local macro_rules | `(tactic| walk_at "call ref") => `(tactic| (k_here; (with_reducible show wpAny _ _ (call (Value.ref 420) [_, _] []) _ _ _); (rename WS _ _ _ _ _ => lW'); k_dflt (refine' v_new (n_alt (by walk_at "V inl") (by walk_at "V inl")) lW' ?k1 ?k2 ?k3 ?k4 ?k5 ?k6 ?k7 ?k8 ?k9 ?kA ?kB ?_; (case k1 => k_asm); (case k2 => k_asm); (case k3 => k_asm); (case k4 => k_asm); (case k5 => (repeat (first | exact SplitL.nil | apply SplitL.cons))); (case k6 => k_asm); (case k7 => exact rfl); (case k8 => k_room); (case k9 => k_units); (case kA => walk_at "V off"); (case kB => assumption)); intro x' W' h' tk' F' N' o1' o2' hW'; (try simp only [List.cons_append, List.nil_append] at N')))
local macro_rules | `(tactic| walk_at "call ref") => `(tactic| (k_here; (with_reducible show wpAny _ _ (call (Value.ref 458) [_] []) _ _ _); (rename WS _ _ _ _ _ => lW'); k_dflt (refine' v_new (n_look0 (by walk_at "V inl")) lW' ?k1 ?k2 ?k3 ?k4 ?k5 ?k6 ?k7 ?k8 ?k9 ?kA ?kB ?_; (case k1 => k_asm); (case k2 => k_asm); (case k3 => k_asm); (case k4 => k_asm); (case k5 => (repeat (first | exact SplitL.nil | apply SplitL.cons))); (case k6 => k_asm); (case k7 => exact rfl); (case k8 => k_room); (case k9 => k_units); (case kA => walk_at "V off"); (case kB => assumption)); intro x' W' h' tk' F' N' o1' o2' hW'; (try simp only [List.cons_append, List.nil_append] at N')))
local macro_rules | `(tactic| walk_at "call ref") => `(tactic| (k_here; (with_reducible show wpAny _ _ (call (Value.ref 468) [_] []) _ _ _); (rename WS _ _ _ _ _ => lW'); k_dflt (refine' v_new (n_not (by walk_at "V inl")) lW' ?k1 ?k2 ?k3 ?k4 ?k5 ?k6 ?k7 ?k8 ?k9 ?kA ?kB ?_; (case k1 => k_asm); (case k2 => k_asm); (case k3 => k_asm); (case k4 => k_asm); (case k5 => (repeat (first | exact SplitL.nil | apply SplitL.cons))); (case k6 => k_asm); (case k7 => exact rfl); (case k8 => k_room); (case k9 => k_units); (case kA => walk_at "V off"); (case kB => assumption)); intro x' W' h' tk' F' N' o1' o2' hW'; (try simp only [List.cons_append, List.nil_append] at N')))
local macro_rules | `(tactic| walk_at "call ref") => `(tactic| (k_here; (with_reducible show wpAny _ _ (call (Value.ref 504) [_] _) _ _ _); (rename WS _ _ _ _ _ => lW'); k_dflt (refine' v_new (n_quant2 (mn := 2) (mx := some 3) (by walk_at "V inl") ⟨_, rfl⟩ (by decide) (fun n h => by cases h; decide)) lW' ?k1 ?k2 ?k3 ?k4 ?k5 ?k6 ?k7 ?k8 ?k9 ?kA ?kB ?_; (case k1 => k_asm); (case k2 => k_asm); (case k3 => k_asm); (case k4 => k_asm); (case k5 => (repeat (first | exact SplitL.nil | apply SplitL.cons))); (case k6 => k_asm); (case k7 => exact rfl); (case k8 => k_room); (case k9 => k_units); (case kA => walk_at "V off"); (case kB => assumption)); intro x' W' h' tk' F' N' o1' o2' hW'; (try simp only [List.cons_append, List.nil_append] at N')))
local macro_rules | `(tactic| walk_at "call ref") => `(tactic| (k_here; (with_reducible show wpAny _ _ (call (Value.ref 516) [_] []) _ _ _); (rename WS _ _ _ _ _ => lW'); k_dflt (refine' v_new (n_star (by walk_at "V inl")) lW' ?k1 ?k2 ?k3 ?k4 ?k5 ?k6 ?k7 ?k8 ?k9 ?kA ?kB ?_; (case k1 => k_asm); (case k2 => k_asm); (case k3 => k_asm); (case k4 => k_asm); (case k5 => (repeat (first | exact SplitL.nil | apply SplitL.cons))); (case k6 => k_asm); (case k7 => exact rfl); (case k8 => k_room); (case k9 => k_units); (case kA => walk_at "V off"); (case kB => assumption)); intro x' W' h' tk' F' N' o1' o2' hW'; (try simp only [List.cons_append, List.nil_append] at N')))
local macro_rules | `(tactic| walk_at "call ref") => `(tactic| (k_here; (with_reducible show wpAny _ _ (call (Value.ref 524) [_] []) _ _ _); (rename WS _ _ _ _ _ => lW'); k_dflt (refine' v_new (n_plus (by walk_at "V inl")) lW' ?k1 ?k2 ?k3 ?k4 ?k5 ?k6 ?k7 ?k8 ?k9 ?kA ?kB ?_; (case k1 => k_asm); (case k2 => k_asm); (case k3 => k_asm); (case k4 => k_asm); (case k5 => (repeat (first | exact SplitL.nil | apply SplitL.cons))); (case k6 => k_asm); (case k7 => exact rfl); (case k8 => k_room); (case k9 => k_units); (case kA => walk_at "V off"); (case kB => assumption)); intro x' W' h' tk' F' N' o1' o2' hW'; (try simp only [List.cons_append, List.nil_append] at N')))
local macro_rules | `(tactic| walk_at "call ref") => `(tactic| (k_here; (with_reducible show wpAny _ _ (call (Value.ref 532) [_] []) _ _ _); (rename WS _ _ _ _ _ => lW'); k_dflt (refine' v_new (n_opt (by walk_at "V inl")) lW' ?k1 ?k2 ?k3 ?k4 ?k5 ?k6 ?k7 ?k8 ?k9 ?kA ?kB ?_; (case k1 => k_asm); (case k2 => k_asm); (case k3 => k_asm); (case k4 => k_asm); (case k5 => (repeat (first | exact SplitL.nil | apply SplitL.cons))); (case k6 => k_asm); (case k7 => exact rfl); (case k8 => k_room); (case k9 => k_units); (case kA => walk_at "V off"); (case kB => assumption)); intro x' W' h' tk' F' N' o1' o2' hW'; (try simp only [List.cons_append, List.nil_append] at N')))
local macro_rules | `(tactic| walk_at "call ref") => `(tactic| (k_here; (with_reducible show wpAny _ _ (call (Value.ref 539) _ _) _ _ _); refine unHalt ?_))
local macro_rules | `(tactic| walk_at "compareOp Eq ref ref") => `(tactic| (k_here; (with_reducible show wpAny _ _ (compareOp CmpOp.Eq (Value.ref _) (Value.ref _)) _ _ _); k_dflt (refine' ke_eq_ints ?a ?b ?i ?j ?u ?_; (case a => exact News.isList (by k_asm) (by k_mem)); (case b => exact News.isList (by k_asm) (by k_mem)); (case i => assumption); (case j => exact IntsAre.nil); (case u => k_units)); k_whole))
local macro_rules | `(tactic| walk_at "subscriptTail") => `(tactic| (k_here; (with_reducible show wpAny _ _ (subscriptTail _ _ (Value.ref _) (Value.int 0 _)) _ _ _); (with_unfolding_all refine' item_anyK ?k1 ?k2 ?k3 ?k4 ?k5 ?_ ?k6; (case k1 => exact News.isList (by k_asm) (by k_mem)); (case k2 => assumption); (case k3 => decide); (case k4 => exact ne_len (by assumption)); (case k5 => decide); (case k6 => with_unfolding_all rfl); k_whole); intro _))
local macro_rules | `(tactic| walk_at "subscriptTail") => `(tactic| (k_here; (with_reducible show wpAny _ _ (subscriptTail _ _ (Value.ref _) (Value.int (Int.fmod _ 3) _)) _ _ _); k_dflt (refine' v_item3 ?k1 ?k2 ?k3 ?k4 ?k5 ?_ ?k6; (case k1 => k_asm); (case k2 => k_mem); (case k3 => decide); (case k4 => decide); (case k5 => decide); (case k6 => with_unfolding_all rfl)); intro lt' tk' hl'))
variable {w : World} {p : Program} {loose : List Str} {mean : ExcName → Option Value} {mg mb : Str → Option Value}
theorem n_expr {z : Int} {Nn H D U : Nat} (hz0 : 0 ≤ z ∧ z ≤ 2) (hrec : z ≠ 0 → ExprOk w p loose mean mg mb (z - 1) Nn H D U) : ExprOk w p loose mean mg mb z (Nn + Nn + 1) (H + 1) (D + 40) (U + 400) := by
  intro b vs zs kk tk n₀ m₀ W l os hW hb hi hz dp un gd cn cs a ccd cl outer A₀ base h₀ L m own s Q E B F X N T hk hd hu hown hQ
  have hbW := hW.mem hb
  w_top off
  revert X; k_fill; intro X
  refine wpAny_call ?_
  k_dflt (walk_at "V enter")
  k_steps
  · refine' expr_end2 hQ ?kF ?kX ?kN ?hs ?hex ?hown ?hW ?h1 ?h2 ?hn ?hos ?hx ?hl ?hi ?hz ?hh
    (case kN => k_asm)
    (case hs => repeat (first | exact SplitL.nil | apply SplitL.cons))
    (case hW => assumption)
    (case kF => k_asm)
    (case kX => k_asm)
    (case hown => assumption)
    (case hex => walk_at "V off")
    (case h1 => k_mem)
    (case h2 => k_mem)
    (case hn => omega)
    (case hos => intro q hq; repeat (first | exact hq | apply List.Mem.tail))
    (case hx => exact .head _)
    (case hl => intro q hq; repeat (first | exact hq | apply List.Mem.tail))
    (case hi => first | assumption | exact IntsAre.nil)
    (case hz => first | omega | simp)
    (case hh => simp only [Ex.ht]; omega)
  · refine' expr_end2 hQ ?kF ?kX ?kN ?hs ?hex ?hown ?hW ?h1 ?h2 ?hn ?hos ?hx ?hl ?hi ?hz ?hh
    (case kN => k_asm)
    (case hs => repeat (first | exact SplitL.nil | apply SplitL.cons))
    (case hW => assumption)
    (case kF => k_asm)
    (case kX => k_asm)
    (case hown => assumption)
    (case hex => walk_at "V off")
    (case h1 => k_mem)
    (case h2 => k_mem)
    (case hn => omega)
    (case hos => intro q hq; repeat (first | exact hq | apply List.Mem.tail))
    (case hx => exact .head _)
    (case hl => intro q hq; repeat (first | exact hq | apply List.Mem.tail))
    (case hi => first | assumption | exact IntsAre.nil)
    (case hz => first | omega | simp)
    (case hh => simp only [Ex.ht]; omega)
  · refine' expr_end2 hQ ?kF ?kX ?kN ?hs ?hex ?hown ?hW ?h1 ?h2 ?hn ?hos ?hx ?hl ?hi ?hz ?hh
    (case kN => k_asm)
    (case hs => repeat (first | exact SplitL.nil | apply SplitL.cons))
    (case hW => assumption)
    (case kF => k_asm)
    (case kX => k_asm)
    (case hown => assumption)
    (case hex => walk_at "V off")
    (case h1 => k_mem)
    (case h2 => k_mem)
    (case hn => omega)
    (case hos => intro q hq; repeat (first | exact hq | apply List.Mem.tail))
    (case hx => exact .head _)
    (case hl => intro q hq; repeat (first | exact hq | apply List.Mem.tail))
    (case hi => first | assumption | exact IntsAre.nil)
    (case hz => first | omega | simp)
    (case hh => simp only [Ex.ht]; omega)
  · unfold Halt
    refine' v_exprD (hrec ?hz0) ?hW ?kB ?kF ?kX ?kN ?hs ?hb ?hi ?hz ?kT rfl ?kd ?ku ?hex hown ?_
    (case kN => k_asm)
    (case hs => repeat (first | exact SplitL.nil | apply SplitL.cons))
    (case hW => assumption)
    (case hz0 => rintro rfl; simp_all)
    (case kB => k_asm)
    (case kF => k_asm)
    (case kX => k_asm)
    (case kT => k_asm)
    (case hb => k_mem)
    (case hi => assumption)
    (case hz => omega)
    (case kd => k_room)
    (case ku => k_units)
    (case hex => walk_at "V off")
    intro tp x1 r1 vs1 zs1 k1 e1 W1 h1' tk1' F1 N1 o1 hW1 hi1 hz1 ht1 mt1 mr1 mo1
    k_steps
    · refine' expr_end1 hQ ?kF ?kX ?kN ?hs ?hex ?hown ?hW ?h1 ?h2 ?hn ?hos ?hx ?hl ?hi ?hz ?hh
      (case kN => k_asm)
      (case hs => repeat (first | exact SplitL.nil | apply SplitL.cons))
      (case hW => assumption)
      (case kF => k_asm)
      (case kX => k_asm)
      (case hown => assumption)
      (case hex => walk_at "V off")
      (case h1 => k_mem)
      (case h2 => walk_at "V inl")
      (case hn => omega)
      (case hos => intro q hq; repeat (first | exact hq | apply List.Mem.tail))
      (case hx => exact .head _)
      (case hl => intro q hq; repeat (first | exact hq | apply List.Mem.tail))
      (case hi => first | assumption | exact IntsAre.nil)
      (case hz => first | omega | simp)
      (case hh => simp only [Ex.ht]; omega)
    · refine' expr_end1 hQ ?kF ?kX ?kN ?hs ?hex ?hown ?hW ?h1 ?h2 ?hn ?hos ?hx ?hl ?hi ?hz ?hh
      (case kN => k_asm)
      (case hs => repeat (first | exact SplitL.nil | apply SplitL.cons))
      (case hW => assumption)
      (case kF => k_asm)
      (case kX => k_asm)
      (case hown => assumption)
      (case hex => walk_at "V off")
      (case h1 => k_mem)
      (case h2 => walk_at "V inl")
      (case hn => omega)
      (case hos => intro q hq; repeat (first | exact hq | apply List.Mem.tail))
      (case hx => exact .head _)
      (case hl => intro q hq; repeat (first | exact hq | apply List.Mem.tail))
      (case hi => first | assumption | exact IntsAre.nil)
      (case hz => first | omega | simp)
      (case hh => simp only [Ex.ht]; omega)
    · refine' expr_end1 hQ ?kF ?kX ?kN ?hs ?hex ?hown ?hW ?h1 ?h2 ?hn ?hos ?hx ?hl ?hi ?hz ?hh
      (case kN => k_asm)
      (case hs => repeat (first | exact SplitL.nil | apply SplitL.cons))
      (case hW => assumption)
      (case kF => k_asm)
      (case kX => k_asm)
      (case hown => assumption)
      (case hex => walk_at "V off")
      (case h1 => k_mem)
      (case h2 => walk_at "V inl")
      (case hn => omega)
      (case hos => intro q hq; repeat (first | exact hq | apply List.Mem.tail))
      (case hx => exact .head _)
      (case hl => intro q hq; repeat (first | exact hq | apply List.Mem.tail))
      (case hi => first | assumption | exact IntsAre.nil)
      (case hz => first | omega | simp)
      (case hh => simp only [Ex.ht]; omega)
    · unfold Halt
      refine' v_expr (hrec ?hz0) ?hW ?hb ?hi ?hz ?kB ?kF ?kX ?kN ?hs ?kT rfl ?kd ?ku ?hex ?hown ?_
      (case kN => k_asm)
      (case hs => repeat (first | exact SplitL.nil | apply SplitL.cons))
      (case hW => assumption)
      (case hz0 => rintro rfl; simp_all)
      (case kB => k_asm)
      (case kF => k_asm)
      (case kX => k_asm)
      (case kT => k_asm)
      (case hb => walk_at "V inl")
      (case hi => assumption)
      (case hz => omega)
      (case kd => k_room)
      (case ku => k_units)
      (case hown => assumption)
      (case hex => walk_at "V off")
      intro tp2 x2 r2 vs2 zs2 k2 e2 W2 h2' tk2' F2 N2 oe2 o2 hW2 hi2 hz2 ht2 mt2 mr2
      have N2 : News _ _ _ (own ++ W2) := N2
      k_steps
      · refine' expr_end1 hQ ?kF ?kX ?kN ?hs ?hex ?hown ?hW ?h1 ?h2 ?hn ?hos ?hx ?hl ?hi ?hz ?hh
        (case kN => k_asm)
        (case hs => repeat (first | exact SplitL.nil | apply SplitL.cons))
        (case hW => assumption)
        (case kF => k_asm)
        (case kX => k_asm)
        (case hown => assumption)
        (case hex => walk_at "V off")
        (case h1 => k_mem)
        (case h2 => walk_at "V inl")
        (case hn => omega)
        (case hos => intro q hq; repeat (first | exact hq | apply List.Mem.tail))
        (case hx => exact .head _)
        (case hl => intro q hq; repeat (first | exact hq | apply List.Mem.tail))
        (case hi => first | assumption | exact IntsAre.nil)
        (case hz => first | omega | simp)
        (case hh => simp only [Ex.ht]; omega)
      · refine' expr_end1 hQ ?kF ?kX ?kN ?hs ?hex ?hown ?hW ?h1 ?h2 ?hn ?hos ?hx ?hl ?hi ?hz ?hh
        (case kN => k_asm)
        (case hs => repeat (first | exact SplitL.nil | apply SplitL.cons))
        (case hW => assumption)
        (case kF => k_asm)
        (case kX => k_asm)
        (case hown => assumption)
        (case hex => walk_at "V off")
        (case h1 => k_mem)
        (case h2 => walk_at "V inl")
        (case hn => omega)
        (case hos => intro q hq; repeat (first | exact hq | apply List.Mem.tail))
        (case hx => exact .head _)
        (case hl => intro q hq; repeat (first | exact hq | apply List.Mem.tail))
        (case hi => first | assumption | exact IntsAre.nil)
        (case hz => first | omega | simp)
        (case hh => simp only [Ex.ht]; omega)
theorem expr0 : ExprOk w p loose mean mg mb 0 1 1 40 400 := n_expr (z := 0) (Nn := 0) (H := 0) (D := 0) (U := 0) (by decide) (fun h => absurd rfl h)
theorem expr1 : ExprOk w p loose mean mg mb 1 3 2 80 800 := n_expr (z := 1) (Nn := 1) (H := 1) (D := 40) (U := 400) (by decide) (fun _ => expr0)
theorem expr2 : ExprOk w p loose mean mg mb 2 7 3 120 1200 := n_expr (z := 2) (Nn := 3) (H := 2) (D := 80) (U := 800) (by decide) (fun _ => expr1)

end Mine
end

-- VLaw
section
open PySem PySem.W PyProof.Rows PySem.Calls PySem.Spec PyProof.V
set_option Elab.async false
set_option maxRecDepth 100000
set_option maxHeartbeats 1000000
namespace Mine
section
variable {prog : Program} {w : World} {A : Around} {E : Value → Shared → Prop} {s : Shared} {env : Env} {h₀ : Heap} {target : PySem.Expr} {body orelse : List Stmt} {Q : Flow → Shared → Prop}

def TurnL (h₀ : Heap) (L : Addr) (J : (Str → Option Value) → Led → Prop) (I : Addr) (o : Obj) (ex : Led) (s : Shared) (Q : Flow → Shared → Prop) (f : Flow) (s' : Shared) : Prop :=
  match f with
  | .brk => Q .next s'
  | .ret v => Q (.ret v) s'
  | _ => ∃ h' tk m' W', s' = { s with heap := h', toks := tk } ∧ Fr h₀ L h' m' ∧ News h₀ L h' ((I, o) :: (ex ++ W')) ∧ OffL ((I, o) :: ex) W' ∧ J m' W'

theorem v_turnsL {ax : Addr} {vs : List Value} {nn : Nat} {m₀ : Str → Option Value} {ex W₀ : Led} (hh : A.handled = none) (F : Fr h₀ env.locals s.heap m₀) (N : News h₀ env.locals s.heap (ex ++ W₀)) (hoff : OffL ex W₀) (hm : (ax, listOf (List.toArray vs) nn) ∈ ex ++ W₀)
    (J : Nat → (Str → Option Value) → Led → Prop) (hJ : ∀ i m W, J i m W → (ax, listOf (List.toArray vs) nn) ∈ ex ++ W) (h0 : J 0 m₀ W₀) (hE : PassesOwn (model prog w) A env E)
    (step : ∀ i v I o m₁ W₁ h₁ tk₁, vs[i]? = some v → J i m₁ W₁ → (∀ p ∈ ex, p.1 ≠ I) → o.cls = .type "list_iterator" → Fr h₀ env.locals h₁ m₁ → News h₀ env.locals h₁ ((I, o) :: (ex ++ W₁)) → OffL ((I, o) :: ex) W₁ →
      wpAny (model prog w) A (assign target env v) (fun _ s₂ => wpAny (model prog w) A (execs body env) (TurnL h₀ env.locals (J (i + 1)) I o ex { s with heap := h₁, toks := tk₁ } Q) E s₂) E { s with heap := h₁, toks := tk₁ })
    (last : ∀ m₁ W₁ h₁ tk₁, J vs.length m₁ W₁ → Fr h₀ env.locals h₁ m₁ → News h₀ env.locals h₁ (ex ++ W₁) → OffL ex W₁ → wpAny (model prog w) A (execs orelse env) Q E { s with heap := h₁, toks := tk₁ }) :
    wpAny (model prog w) A (pyIter (.ref ax)) (fun it s₂ => ForE prog w A target body orelse env Q E it s₂) E s := by
  have hl : s.heap.IsList ax vs.toArray := News.isList N hm
  have hlt : ax < s.heap.objs.size := Heap.lt_size (N _ hm).1
  have hne : ax ≠ s.heap.objs.size := Nat.ne_of_lt hlt
  refine wpAny_pyIter_list hl ?_
  obtain ⟨I, hI⟩ : ∃ I, I = s.heap.objs.size := ⟨_, rfl⟩
  have hIn : ∀ p ∈ ex ++ W₀, p.1 ≠ I := fun p hp => by rw [hI]; exact Nat.ne_of_lt (Heap.lt_size (N p hp).1)
  have W := Walks.list (prog := prog) (w := w) hh I ax (hI ▸ hne) vs.toArray
  have hL : env.locals ≠ I := by rw [hI]; exact Nat.ne_of_lt F.ns.lt
  have h0I : h₀.get? I = none := by rw [hI]; exact F.fresh
  rw [← hI]
  refine codeAny_forLoop_any
    (fun k s' => ∃ h' tk m' W' i, s' = { s with heap := h', toks := tk } ∧ (h'.IsListIter I ax i ∧ h'.IsList ax vs.toArray) ∧ Fr h₀ env.locals h' m' ∧ News h₀ env.locals h' (ex ++ W') ∧ OffL ex W' ∧ (∀ p ∈ ex ++ W', p.1 ≠ I) ∧ J i m' W' ∧ i ≤ vs.length ∧ k = vs.length + 1 - i) ?_ (vs.length + 1)
    ⟨_, s.toks, m₀, W₀, 0, rfl, ⟨hI ▸ ⟨_, Heap.get?_push_size _ rfl, rfl, rfl⟩, hl.at fun o e => Heap.get?_push_of_some _ e⟩, F.push _, fun p hp => ⟨Heap.get?_push_of_some _ (N p hp).1, (N p hp).2⟩, hoff, hIn, h0, Nat.zero_le _, rfl⟩
  rintro k s' ⟨h', tk, m', W', i, rfl, hst, F', N', off', hin', hJi, hi, rfl⟩
  have next : ∀ h₁ : Heap, (∀ b o, b ∉ [I] → h'.get? b = some o → h₁.get? b = some o) → Fr h₀ env.locals h₁ m' ∧ News h₀ env.locals h₁ (ex ++ W') := fun h₁ hk₁ => by
    have old : ∀ b o, h₀.get? b = some o → b ∉ [I] := fun b o e hb => by rw [List.mem_singleton.mp hb, h0I] at e; cases e
    exact ⟨⟨F'.ns.at' fun o e => hk₁ _ o (fun hb => hL (List.mem_singleton.mp hb)) e, fun b o e => hk₁ b o (old b o e) (F'.keep b o e), F'.above⟩, fun p hp => ⟨hk₁ _ _ (fun hb => hin' p hp (List.mem_singleton.mp hb)) (N' p hp).1, (N' p hp).2⟩⟩
  by_cases hlt' : i < vs.length
  · refine W.item i _ _ _ (by simpa using hlt') hst fun v h₁ tk₁ hv st₁ hk₁ => ?_
    refine letGo_listiter st₁.1 ?_
    obtain ⟨F₁, N₁⟩ := next h₁ hk₁
    obtain ⟨o, ho, hc, hd⟩ := id st₁.1
    have NI : News h₀ env.locals h₁ ((I, o) :: (ex ++ W')) := fun p hp => by
      rcases List.mem_cons.mp hp with rfl | hp
      · exact ⟨ho, Ne.symm hL, h0I⟩
      · exact N₁ p hp
    refine wpAny_mono (step i v I o m' W' h₁ tk₁ (by simpa using hv) hJi (fun p hp => hin' p (List.mem_append_left _ hp)) hc F₁ NI (.cons (fun p hp => hin' p (List.mem_append_right _ hp)) off')) (fun _ s₂ h₂ => wpAny_mono (wpAny_passesOwn hE h₂) (fun f s₃ h₃ => ?_) fun _ _ e => e) ?_
    · have go : (∃ h' tk m' W', s₃ = { s with heap := h', toks := tk } ∧ Fr h₀ env.locals h' m' ∧ News h₀ env.locals h' ((I, o) :: (ex ++ W')) ∧ OffL ((I, o) :: ex) W' ∧ J (i + 1) m' W') → ∃ m, m < vs.length + 1 - i ∧ ∃ h' tk m' W' i', s₃ = { s with heap := h', toks := tk } ∧ (h'.IsListIter I ax i' ∧ h'.IsList ax vs.toArray) ∧ Fr h₀ env.locals h' m' ∧ News h₀ env.locals h' (ex ++ W') ∧ OffL ex W' ∧ (∀ p ∈ ex ++ W', p.1 ≠ I) ∧ J i' m' W' ∧ i' ≤ vs.length ∧ m = vs.length + 1 - i' := by
        rintro ⟨h₂, tk₂, m₂, W₂, rfl, F₂, N₂, off₂, J₂⟩
        have n1 := N₂ _ (.head _)
        have n2 := News.isList N₂ (.tail _ (hJ _ _ _ J₂))
        refine ⟨vs.length + 1 - (i + 1), by omega, h₂, tk₂, m₂, W₂, i + 1, rfl, ⟨⟨o, n1.1, hc, hd⟩, n2⟩, F₂, fun p hp => N₂ p (.tail _ hp), fun q hq => off₂ q (.tail _ hq), fun p hp => ?_, J₂, hlt', rfl⟩
        rcases List.mem_append.mp hp with hp | hp
        · exact hin' p (List.mem_append_left _ hp)
        · exact off₂ _ (.head _) p hp
      cases f with
      | brk => exact h₃
      | ret v => exact h₃
      | next => exact go h₃
      | cont => exact go h₃
    · exact fun e s' he => hE e s' he
  · have hin : i = vs.length := by omega
    subst hin
    refine W.done _ _ _ (by simpa using hst) fun h₁ tk₁ hk₁ => ?_
    obtain ⟨F₁, N₁⟩ := next h₁ hk₁
    exact wpAny_passesOwn hE (last m' W' h₁ tk₁ hJi F₁ N₁ off')
theorem v_turnsLs {ax : Addr} {vs : List Value} {nn : Nat} {m₀ : Str → Option Value} {ex W₀ all : Led} (hh : A.handled = none) (F : Fr h₀ env.locals s.heap m₀) (N : News h₀ env.locals s.heap all) (hs : SplitL W₀ all ex) (hoff : OffL ex W₀) (hm : (ax, listOf (List.toArray vs) nn) ∈ ex ++ W₀)
    (J : Nat → (Str → Option Value) → Led → Prop) (hJ : ∀ i m W, J i m W → (ax, listOf (List.toArray vs) nn) ∈ ex ++ W) (h0 : J 0 m₀ W₀) (hE : PassesOwn (model prog w) A env E)
    (step : ∀ i v I o m₁ W₁ h₁ tk₁, vs[i]? = some v → J i m₁ W₁ → (∀ p ∈ ex, p.1 ≠ I) → o.cls = .type "list_iterator" → Fr h₀ env.locals h₁ m₁ → News h₀ env.locals h₁ ((I, o) :: (ex ++ W₁)) → OffL ((I, o) :: ex) W₁ →
      wpAny (model prog w) A (assign target env v) (fun _ s₂ => wpAny (model prog w) A (execs body env) (TurnL h₀ env.locals (J (i + 1)) I o ex { s with heap := h₁, toks := tk₁ } Q) E s₂) E { s with heap := h₁, toks := tk₁ })
    (last : ∀ m₁ W₁ h₁ tk₁, J vs.length m₁ W₁ → Fr h₀ env.locals h₁ m₁ → News h₀ env.locals h₁ (ex ++ W₁) → OffL ex W₁ → wpAny (model prog w) A (execs orelse env) Q E { s with heap := h₁, toks := tk₁ }) :
    wpAny (model prog w) A (pyIter (.ref ax)) (fun it s₂ => ForE prog w A target body orelse env Q E it s₂) E s :=
  v_turnsL hh F (hs.eq ▸ N) hoff hm J hJ h0 hE step last
end

section
variable {prog : Program} {w : World} {A : Around} {E : Value → Shared → Prop} {s : Shared} {h₀ : Heap} {L l : Addr} {m : Str → Option Value} {all : Led} {value slice : PySem.Expr} {vs : List Value} {nn : Nat} {x y : Int} {tx ty : Tok} {Q : Value → Shared → Prop} {ops : List Value}
theorem slicePick_sub {items : Array Value} {lo hi st : Option Int} : ∀ v ∈ (slicePick items lo hi st).toList, v ∈ items.toList := fun v hv => by
  unfold slicePick at hv
  rw [List.toList_toArray] at hv
  obtain ⟨i, _, e⟩ := List.mem_filterMap.mp hv
  exact Array.mem_toList_iff.mpr (Array.mem_of_getElem? e)
theorem v_slice3s (F : Fr h₀ L s.heap m) (N : News h₀ L s.heap all) (hm : (l, listOf (List.toArray vs) nn) ∈ all) (h0 : y ≠ 0) (hz : vs.length ≤ 1000)
    (h : ∀ D ws h', Fr h₀ L h' m → News h₀ L h' ((D, listOf (List.toArray ws) 0) :: all) → (∀ p ∈ all, p.1 < D) → (∀ v ∈ ws, v ∈ vs) → ws.length ≤ vs.length → Q (.ref D) { s with heap := h' })
    (hs : subscripted slice false (.ref l) (.ref s.heap.objs.size) = operate ops (getItem (.ref l) (.ref s.heap.objs.size))) (ht : ∀ r, letTemporaryGo value (.ref l) r = pure ()) :
    wpAny (model prog w) A (subscriptTail value slice (.ref l) (.ref s.heap.objs.size)) Q E { s with heap := s.heap.push { cls := .type "slice", data := .fields #[.int x tx, .none, .int y ty] } } :=
  kmk_slice3_lit F N (News.isList N hm) (IsPart.int _ _) IsPart.none (IsPart.int _ _) (fun e => h0 (Option.some.inj e)) rfl
    (fun D h' F' N' l1 => h D _ h' F' N' l1 (fun v hv => slicePick_sub v hv) (by simpa using slicePick_size_le vs.toArray (some x) none (some y))) hs ht (by rw [sizeLine_eq]; simp; omega)
end

section
variable {w : World} {h₀ h : Heap} {L : Addr} {n m : Nat} {l : List (Addr × Ex)}
theorem WS.putsN (X : (Mine.hd.heap_39 w.params).In h₀) : ∀ {ex W os : Led}, WS n m W l os → News h₀ L h (ex ++ W) → OffL ex W → (ex.all fun q => !exprO q.2) = true → ∃ W', WS n m W' l (ex ++ os) ∧ ∀ q ∈ W', q ∈ ex ++ W
  | [], W, os, hW, _, _, _ => ⟨W, hW, fun _ h => h⟩
  | q :: ex, W, os, hW, N, off, pl => by
    simp only [List.all_cons, Bool.and_eq_true, Bool.not_eq_true'] at pl
    obtain ⟨W₁, h1, h2⟩ := WS.putsN X (ex := ex) hW (fun p hp => N p (.tail _ hp)) (fun a ha => off a (.tail _ ha)) pl.2
    by_cases hq : q.1 ∈ ex.map (·.1)
    · obtain ⟨q', hq', e⟩ := List.mem_map.mp hq
      have e2 : q' = q := by
        have z1 := (N q (.head _)).1
        have z2 := (N q' (.tail _ (List.mem_append_left _ hq'))).1
        rw [e, z1] at z2
        exact Prod.ext e (Option.some.inj z2).symm
      subst e2
      refine ⟨W₁, h1.sub (fun _ h => h) (fun r hr => ?_), fun r hr => .tail _ (h2 r hr)⟩
      rcases List.mem_cons.mp hr with rfl | hr
      · exact List.mem_append_left _ hq'
      · exact hr
    · obtain ⟨W₂, h4, h5⟩ := h1.put (a := q.1) (o := q.2) (fun p hp => by
        rcases List.mem_append.mp (h2 p hp) with z | z
        · exact fun e => hq (by rw [← e]; exact List.mem_map_of_mem (f := (·.1)) z)
        · exact off q (.head _) p z) (new_lo X N (.head _)) pl.1
      refine ⟨W₂, h4, fun r hr => ?_⟩
      rcases List.mem_cons.mp (h5 r hr) with e | hr
      · exact e ▸ .head _
      · exact .tail _ (h2 r hr)
theorem WS.cutK {P : Prop} {W all ex os : Led} (X : (Mine.hd.heap_39 w.params).In h₀) (hW : WS n m W l os) (N : News h₀ L h all) (hs : SplitL W all ex) (off : OffL ex W) (pl : (ex.all fun q => !exprO q.2) = true) (k : ∀ W', WS n m W' l (ex ++ os) → News h₀ L h W' → P) : P := by
  obtain ⟨W', h1, h2⟩ := WS.putsN X hW (hs.eq ▸ N) off pl
  exact k W' h1 (N.perm fun q hq => by rw [hs.eq]; exact h2 q hq)
def PairsOk (ls : List (Addr × Ex)) (os : Led) (vs : List Value) : Prop :=
  ∀ v ∈ vs, ∃ t a b ea eb, v = .ref t ∧ (t, tupO [.ref a, .ref b]) ∈ os ∧ (a, ea) ∈ ls ∧ (b, eb) ∈ ls ∧ ea.ht ≤ 6 ∧ eb.ht ≤ 6 ∧ ∀ t : Str, sem t ea 0 = sem t eb 0
theorem PairsOk.nil {ls : List (Addr × Ex)} {os : Led} : PairsOk ls os [] := fun _ h => nomatch h
theorem PairsOk.cons {ls : List (Addr × Ex)} {os : Led} {vs : List Value} {t a b : Addr} {ea eb : Ex} (h : PairsOk ls os vs) (h1 : (t, tupO [.ref a, .ref b]) ∈ os) (h2 : (a, ea) ∈ ls) (h3 : (b, eb) ∈ ls) (h4 : ea.ht ≤ 6) (h5 : eb.ht ≤ 6) (h6 : ∀ t : Str, sem t ea 0 = sem t eb 0) : PairsOk ls os (.ref t :: vs) := fun v hv => by
  rcases List.mem_cons.mp hv with rfl | hv
  · exact ⟨t, a, b, ea, eb, rfl, h1, h2, h3, h4, h5, h6⟩
  · exact h v hv
theorem law_opt0 {c : Str} (hc : c.length = 1) {e : Ex} (t : Str) : sem t (.quant 0 (some 1) (.seq2 (.lit c) e)) 0 = sem t (.alt (.seq2 (.lit c) e) (.lit (Str.ofString ""))) 0 := (law_opt (ne_first t c hc e) 0).resolve_right (by omega)
def R3L (h₀ : Heap) (L : Addr) (s₀ s : Shared) : Prop :=
  ∃ h' tk W ls os x o pp vs nn z tz eo e c, ∃ m₀ : Str → Option Value, s = { s₀ with heap := h', toks := tk } ∧
    Fr h₀ L h' (fun y => if y = Str.ofString "pick" then some (.int z tz) else if y = Str.ofString "pairs" then some (.ref pp) else if y = Str.ofString "other" then some (.ref o) else if y = Str.ofString "one" then some (.ref x) else m₀ y) ∧
    News h₀ L h' W ∧ WS 100 0 W ls os ∧ (pp, listOf (List.toArray vs) nn) ∈ os ∧ vs.length ≤ 9 ∧ PairsOk ls os vs ∧ (x, Ex.seq2 (.lit c) e) ∈ ls ∧ (o, eo) ∈ ls ∧ c.length = 1 ∧ e.ht ≤ 2 ∧ eo.ht ≤ 3
end
end Mine
end

-- VLend
section
open PySem PySem.W PyProof.Rows PySem.Calls PySem.Spec
set_option Elab.async false
set_option maxRecDepth 100000
set_option maxHeartbeats 1000000
namespace Mine
section
variable {w : World} {p : Program} {loose : List Str} {mean : ExcName → Option Value} {mg mb : Str → Option Value}
  {dp un : Nat} {gd : Option (List Code)} {cn : Str} {cs : Scope} {a : Addr} {ccd : Value} {A₀ : Around} {base h₀ : Heap} {L : Addr} {m : Str → Option Value} {s : Shared}
  {Q E : Value → Shared → Prop} {ex all W os : Led} {n k : Nat} {l : List (Addr × Ex)} {e : Ex} {x : Addr} {t : Str} {tk : Tok}
theorem v_lend (hW : WS n k W l os) (hx : (x, e) ∈ l) (hn : n ≤ 1000) (hk' : k ≤ 900) (ht : t.length ≤ 8) (hh : e.ht ≤ 6)
    (B : Below A₀ base [] h₀) (XB : (Mine.hd.heap_39 w.params).In base) (TB : Top p loose mean mg mb base) (F : Fr h₀ L s.heap m) (X : (Mine.hd.heap_39 w.params).In h₀) (N : News h₀ L s.heap all) (hs : SplitL W all ex) (T : Top p loose mean mg mb h₀)
    (hk : cs.kind = .function) (hd : dp + 300 < recursionLimit) (hu : un + 3000 < cLine) (hex : OffL ex W)
    (h : ∀ v W' h' tk', Fr h₀ L h' m → News h₀ L h' (ex ++ W') → OffL ex W' → WS n (k + 1) W' l os → EndV (sem t e 0) v → Q v { s with heap := h', toks := tk' }) :
    wpAny (model PySem.Challenge.rw_vj0021_01.row.prog w) (ktrTop dp un gd cn cs L a ccd [] []) (call (.ref 546) [.ref x, .str t tk]) Q E s := by
  obtain ⟨I, D, rfl, hw, hdx, hos, he⟩ := hW
  obtain ⟨dx, (hx' : IsEx I x dx e)⟩ := he _ hx
  refine w_end (tk2 := tk) hw hx' hn hk' ht dp un gd cn cs a ccd A₀ base h₀ L m ex s Q E B XB TB F X (hs.eq ▸ N) T hk (by omega) (by omega) hex fun v post h' tk' F' N' off hp => ?_
  obtain ⟨I', D', rfl, hw', sub, hv⟩ := hp
  obtain ⟨W', h1, h2⟩ := hw'.ws (l := l) (os := os) (he.mono sub) (fun q hq => sub q (hos q hq))
  refine h v W' h' tk' F' (N'.perm fun q hq => ?_) (fun q hq p hp => off q hq p (h2 p hp)) h1 hv
  rcases List.mem_append.mp hq with hq | hq
  · exact List.mem_append_left _ hq
  · exact List.mem_append_right _ (h2 q hq)
theorem v_lendN (hr : sem t e 0 = none) (hW : WS n k W l os) (hx : (x, e) ∈ l) (hn : n ≤ 1000) (hk' : k ≤ 900) (ht : t.length ≤ 8) (hh : e.ht ≤ 6)
    (B : Below A₀ base [] h₀) (XB : (Mine.hd.heap_39 w.params).In base) (TB : Top p loose mean mg mb base) (F : Fr h₀ L s.heap m) (X : (Mine.hd.heap_39 w.params).In h₀) (N : News h₀ L s.heap all) (hs : SplitL W all ex) (T : Top p loose mean mg mb h₀)
    (hk : cs.kind = .function) (hd : dp + 300 < recursionLimit) (hu : un + 3000 < cLine) (hex : OffL ex W)
    (h : ∀ W' h' tk', Fr h₀ L h' m → News h₀ L h' (ex ++ W') → OffL ex W' → WS n (k + 1) W' l os → Q (.none) { s with heap := h', toks := tk' }) :
    wpAny (model PySem.Challenge.rw_vj0021_01.row.prog w) (ktrTop dp un gd cn cs L a ccd [] []) (call (.ref 546) [.ref x, .str t tk]) Q E s :=
  v_lend hW hx hn hk' ht hh B XB TB F X N hs T hk hd hu hex fun v W' h' tk' F' N' o hw hv => by
    rw [hr] at hv
    cases hv
    exact h W' h' tk' F' N' o hw
theorem v_lend0 (hr : sem t e 0 = some 0) (hW : WS n k W l os) (hx : (x, e) ∈ l) (hn : n ≤ 1000) (hk' : k ≤ 900) (ht : t.length ≤ 8) (hh : e.ht ≤ 6)
    (B : Below A₀ base [] h₀) (XB : (Mine.hd.heap_39 w.params).In base) (TB : Top p loose mean mg mb base) (F : Fr h₀ L s.heap m) (X : (Mine.hd.heap_39 w.params).In h₀) (N : News h₀ L s.heap all) (hs : SplitL W all ex) (T : Top p loose mean mg mb h₀)
    (hk : cs.kind = .function) (hd : dp + 300 < recursionLimit) (hu : un + 3000 < cLine) (hex : OffL ex W)
    (h : ∀ tk1 W' h' tk', Fr h₀ L h' m → News h₀ L h' (ex ++ W') → OffL ex W' → WS n (k + 1) W' l os → Q (.int 0 tk1) { s with heap := h', toks := tk' }) :
    wpAny (model PySem.Challenge.rw_vj0021_01.row.prog w) (ktrTop dp un gd cn cs L a ccd [] []) (call (.ref 546) [.ref x, .str t tk]) Q E s :=
  v_lend hW hx hn hk' ht hh B XB TB F X N hs T hk hd hu hex fun v W' h' tk' F' N' o hw hv => by
    rw [hr] at hv
    obtain ⟨tk1, rfl⟩ := hv
    exact h tk1 W' h' tk' F' N' o hw
theorem v_lendS {q : Nat} (hr : sem t e 0 = some q) (hW : WS n k W l os) (hx : (x, e) ∈ l) (hn : n ≤ 1000) (hk' : k ≤ 900) (ht : t.length ≤ 8) (hh : e.ht ≤ 6)
    (B : Below A₀ base [] h₀) (XB : (Mine.hd.heap_39 w.params).In base) (TB : Top p loose mean mg mb base) (F : Fr h₀ L s.heap m) (X : (Mine.hd.heap_39 w.params).In h₀) (N : News h₀ L s.heap all) (hs : SplitL W all ex) (T : Top p loose mean mg mb h₀)
    (hk : cs.kind = .function) (hd : dp + 300 < recursionLimit) (hu : un + 3000 < cLine) (hex : OffL ex W)
    (h : ∀ tk1 W' h' tk', Fr h₀ L h' m → News h₀ L h' (ex ++ W') → OffL ex W' → WS n (k + 1) W' l os → Q (.int (q : Int) tk1) { s with heap := h', toks := tk' }) :
    wpAny (model PySem.Challenge.rw_vj0021_01.row.prog w) (ktrTop dp un gd cn cs L a ccd [] []) (call (.ref 546) [.ref x, .str t tk]) Q E s :=
  v_lend hW hx hn hk' ht hh B XB TB F X N hs T hk hd hu hex fun v W' h' tk' F' N' o hw hv => by
    rw [hr] at hv
    obtain ⟨tk1, rfl⟩ := hv
    exact h tk1 W' h' tk' F' N' o hw
end
/-- the locals of the loop -/
abbrev lawM (m₅ : Str → Option Value) (a b c d : Option Value) : Str → Option Value := fun y => if y = Str.ofString "text" then a else if y = Str.ofString "left" then b else if y = Str.ofString "right" then c else if y = Str.ofString "ends" then d else m₅ y
def Agr (m₅ m : Str → Option Value) : Prop := ∀ y, y ≠ Str.ofString "text" → y ≠ Str.ofString "left" → y ≠ Str.ofString "right" → y ≠ Str.ofString "ends" → m y = m₅ y
theorem Agr.refl (m : Str → Option Value) : Agr m m := fun _ _ _ _ _ => rfl
theorem Agr.eq {m₅ m : Str → Option Value} (h : Agr m₅ m) : m = lawM m₅ (m (Str.ofString "text")) (m (Str.ofString "left")) (m (Str.ofString "right")) (m (Str.ofString "ends")) := funext fun y => by
  unfold lawM
  by_cases h1 : y = Str.ofString "text"
  · rw [if_pos h1, h1]
  · by_cases h2 : y = Str.ofString "left"
    · rw [if_neg h1, if_pos h2, h2]
    · by_cases h3 : y = Str.ofString "right"
      · rw [if_neg h1, if_neg h2, if_pos h3, h3]
      · by_cases h4 : y = Str.ofString "ends"
        · rw [if_neg h1, if_neg h2, if_neg h3, if_pos h4, h4]
        · rw [if_neg h1, if_neg h2, if_neg h3, if_neg h4]; exact h y h1 h2 h3 h4
def JO (ls : List (Addr × Ex)) (os : Led) (m₅ : Str → Option Value) (i : Nat) (m : Str → Option Value) (W : Led) : Prop := ∃ n k, WS n k W ls os ∧ n ≤ 100 + 10 * i ∧ k ≤ 40 * i ∧ Agr m₅ m
def JI (n k₀ : Nat) (ls : List (Addr × Ex)) (os : Led) (m₅ : Str → Option Value) (t : Str) (tk : Tok) (j : Nat) (m : Str → Option Value) (W : Led) : Prop := ∃ k, WS n k W ls os ∧ k ≤ k₀ + 2 * j ∧ Agr m₅ m ∧ m (Str.ofString "text") = some (.str t tk)
theorem Agr.trans {a b c : Str → Option Value} (h : Agr a b) (k : Agr b c) : Agr a c := fun y h1 h2 h3 h4 => (k y h1 h2 h3 h4).trans (h y h1 h2 h3 h4)
theorem JI.eq {n k₀ : Nat} {ls : List (Addr × Ex)} {os : Led} {m₅ : Str → Option Value} {t : Str} {tk : Tok} {j : Nat} {m : Str → Option Value} {W : Led} (h : JI n k₀ ls os m₅ t tk j m W) : ∃ k b c d, WS n k W ls os ∧ k ≤ k₀ + 2 * j ∧ m = lawM m₅ (some (.str t tk)) b c d :=
  let ⟨k, h1, h2, h3, h4⟩ := h; ⟨k, _, _, _, h1, h2, h4 ▸ h3.eq⟩
theorem JO.eq {ls : List (Addr × Ex)} {os : Led} {m₅ : Str → Option Value} {i : Nat} {m : Str → Option Value} {W : Led} (h : JO ls os m₅ i m W) : ∃ n k a b c d, WS n k W ls os ∧ n ≤ 100 + 10 * i ∧ k ≤ 40 * i ∧ m = lawM m₅ a b c d :=
  let ⟨n, k, h1, h2, h3, h4⟩ := h; ⟨n, k, _, _, _, _, h1, h2, h3, h4.eq⟩
/-- behind the loop over the pairs -/
def R5L (n k₀ : Nat) (ls : List (Addr × Ex)) (os : Led) (t : Str) (tk : Tok) (ex : Led) (h₀ : Heap) (L : Addr) (m₅ : Str → Option Value) (s₀ s : Shared) : Prop :=
  ∃ h' tk' m' W, s = { s₀ with heap := h', toks := tk' } ∧ Fr h₀ L h' m' ∧ News h₀ L h' (ex ++ W) ∧ OffL ex W ∧ JI n k₀ ls os m₅ t tk 9 m' W
/-- behind the loop over the texts -/
def R4L (h₀ : Heap) (L : Addr) (_m : Str → Option Value) (s₀ s : Shared) : Prop := ∃ h' tk' m' all, s = { s₀ with heap := h', toks := tk' } ∧ Fr h₀ L h' m' ∧ News h₀ L h' all
theorem v_cutG {prog : Program} {w : World} {A : Around} {E : Value → Shared → Prop} {s : Shared} {env : Env} {Q : Flow → Shared → Prop} {a : Stmt} {rest : List Stmt} {G : Heap} {L : Addr} {m₅ : Str → Option Value} (_F : Fr G L s.heap m₅) (R : Heap → Addr → (Str → Option Value) → Shared → Shared → Prop)
    (h1 : wpAny (model prog w) A (exec a env) (CutP (R G L m₅ s)) E s) (h2 : ∀ s', R G L m₅ s s' → wpAny (model prog w) A (execs rest env) Q E s') : wpAny (model prog w) A (execs (a :: rest) env) Q E s := v_cut (R G L m₅ s) h1 h2
def R1L (h₀ : Heap) (L : Addr) (m₀ : Str → Option Value) (s₀ s : Shared) : Prop :=
  ∃ h' tk b vs zs, s = { s₀ with heap := h', toks := tk } ∧ Fr h₀ L h' (fun y => if y = Str.ofString "numbers" then some (.ref b) else m₀ y) ∧ News h₀ L h' [(b, listOf (List.toArray vs) 0)] ∧ IntsAre vs zs ∧ zs.length ≤ 24
def R2L (n : Nat) (os : Led) (e : Ex) (h₀ : Heap) (L : Addr) (m₀ : Str → Option Value) (s₀ s : Shared) : Prop :=
  ∃ h' tk x W c, s = { s₀ with heap := h', toks := tk } ∧ Fr h₀ L h' (fun y => if y = Str.ofString "one" then some (.ref x) else m₀ y) ∧ News h₀ L h' W ∧ WS (n + 2) 0 W [(x, .seq2 (.lit c) e)] os ∧ c.length = 1
def RPk (all : Led) (h₀ : Heap) (L : Addr) (m₀ : Str → Option Value) (s₀ s : Shared) : Prop :=
  ∃ h' tk z tz, s = { s₀ with heap := h', toks := tk } ∧ Fr h₀ L h' (fun y => if y = Str.ofString "pick" then some (.int z tz) else m₀ y) ∧ News h₀ L h' all
theorem v_cutPk {prog : Program} {w : World} {A : Around} {E : Value → Shared → Prop} {s : Shared} {env : Env} {Q : Flow → Shared → Prop} {a : Stmt} {rest : List Stmt} {G : Heap} {L : Addr} {m₅ : Str → Option Value} {all : Led} (F : Fr G L s.heap m₅) (_N : News G L s.heap all)
    (h1 : wpAny (model prog w) A (exec a env) (CutP (RPk all G L m₅ s)) E s) (h : ∀ h' tk z tz, Fr G L h' (fun y => if y = Str.ofString "pick" then some (.int z tz) else m₅ y) → News G L h' all → wpAny (model prog w) A (execs rest env) Q E { s with heap := h', toks := tk }) :
    wpAny (model prog w) A (execs (a :: rest) env) Q E s :=
  v_cutG F (RPk all) h1 fun s' ⟨h', tk, z, tz, e, h3, h4⟩ => e ▸ h h' tk z tz h3 h4
theorem v_after9 {prog : Program} {w : World} {A : Around} {E : Value → Shared → Prop} {s : Shared} {env : Env} {Q : Flow → Shared → Prop} {a1 a2 a3 a4 a5 a6 a7 a8 a9 : Stmt} {rest : List Stmt} {G : Heap} {L : Addr} {m₅ : Str → Option Value} (_F : Fr G L s.heap m₅) (R : Heap → Addr → Shared → Shared → Prop)
    (h2 : ∀ s', R G L s s' → wpAny (model prog w) A (execs rest env) Q E s') (h1 : (∀ s', R G L s s' → wpAny (model prog w) A (execs rest env) Q E s') → wpAny (model prog w) A (execs (a1 :: a2 :: a3 :: a4 :: a5 :: a6 :: a7 :: a8 :: a9 :: rest) env) Q E s) :
    wpAny (model prog w) A (execs (a1 :: a2 :: a3 :: a4 :: a5 :: a6 :: a7 :: a8 :: a9 :: rest) env) Q E s := h1 h2
theorem v_cutGN {prog : Program} {w : World} {A : Around} {E : Value → Shared → Prop} {s : Shared} {env : Env} {Q : Flow → Shared → Prop} {a : Stmt} {rest : List Stmt} {G : Heap} {L : Addr} {m₅ : Str → Option Value} {W all ex : Led} (F : Fr G L s.heap m₅) (_N : News G L s.heap all) (_hs : SplitL W all ex) (R : Led → Heap → Addr → (Str → Option Value) → Shared → Shared → Prop)
    (h1 : wpAny (model prog w) A (exec a env) (CutP (R ex G L m₅ s)) E s) (h2 : ∀ s', R ex G L m₅ s s' → wpAny (model prog w) A (execs rest env) Q E s') : wpAny (model prog w) A (execs (a :: rest) env) Q E s := v_cutG F (R ex) h1 h2
theorem fr_r3 {G h' : Heap} {L pp o x : Addr} {M : Str → Option Value} {v : Option Value} (F : Fr G L h' (fun y => if y = Str.ofString "pick" then v else M y)) (e1 : M (Str.ofString "pairs") = some (.ref pp)) (e2 : M (Str.ofString "other") = some (.ref o)) (e3 : M (Str.ofString "one") = some (.ref x)) :
    Fr G L h' (fun y => if y = Str.ofString "pick" then v else if y = Str.ofString "pairs" then some (.ref pp) else if y = Str.ofString "other" then some (.ref o) else if y = Str.ofString "one" then some (.ref x) else M y) := by
  refine fr_ext F fun y => ?_
  by_cases h1 : y = Str.ofString "pick"
  · rw [if_pos h1, if_pos h1]
  · rw [if_neg h1, if_neg h1]
    by_cases h2 : y = Str.ofString "pairs"
    · rw [if_pos h2, h2, e1]
    · rw [if_neg h2]
      by_cases h3 : y = Str.ofString "other"
      · rw [if_pos h3, h3, e2]
      · rw [if_neg h3]
        by_cases h4 : y = Str.ofString "one"
        · rw [if_pos h4, h4, e3]
        · rw [if_neg h4]
end Mine
end

-- law
section
open PySem PySem.W PyProof.Rows PySem.Calls
set_option Elab.async false
set_option maxRecDepth 100000
set_option maxHeartbeats 4000000
namespace Mine
local macro_rules | `(tactic| k_room) => `(tactic| ktr_room)
local macro_rules | `(tactic| k_units) => `(tactic| ktr_units)
local macro_rules | `(tactic| k_mem) => `(tactic| assumption)
local macro_rules | `(tactic| walk_at "V enter") => `(tactic| (refine' code_def ?k1 ?k2 ?k3 ?k4 ?k5 ?kA ?kF ?kK ?k6 ?k7 ?k8 ?k9 ?kB ?_ ?c2 ?c3 ?c4 ?c5; (case kA => exact rfl); (case kF => exact rfl); (case kK => first | exact rfl | assumption); (case k1 => k_asm); (case k2 => k_asm); (case k3 => k_asm); (case k4 => k_asm); (case k5 => k_asm); (case k6 => k_is); (case k7 => k_is); (case k8 => k_room); (case k9 => first | exact BindsTo.of_eq rfl | exact binds_K (by k_in) rfl (by k_is) rfl rfl rfl | fail "V enter: no rule for these arguments"); (case c5 => decide); (case kB => exact locs rfl); (case c2 => exact rfl); (case c3 => exact rfl); (case c4 => exact rfl); k_whole; intro g' L' h' FG' F' N' B' X' T'; (try dsimp only); (try k_fold)))
local macro_rules | `(tactic| k_mem) => `(tactic| exact List.mem_append_right _ (by assumption))
local macro_rules | `(tactic| k_all) => `(tactic| assumption)
local macro_rules | `(tactic| walk_at "V inl") => `(tactic| (repeat (first | exact List.Mem.head _ | apply List.Mem.tail)))
local macro_rules | `(tactic| walk_at "V off") => `(tactic| (repeat (first | exact OffL.nil | assumption | refine OffL.cons (by k_all) ?_)))
local macro_rules | `(tactic| walk_at "call ref") => `(tactic| (k_here; (with_reducible show wpAny _ _ (call (Value.ref 336) [Value.str _ _] []) _ _ _); (rename WS _ _ _ _ _ => lW'); k_dflt (refine' v_new0 (n_lit (by first | decide | assumption)) lW' ?k1 ?k2 ?k3 ?k4 ?k5 ?k6 ?k7 ?k8 ?k9 ?kA ?_; (case k1 => k_asm); (case k2 => k_asm); (case k3 => k_asm); (case k4 => k_asm); (case k5 => (repeat (first | exact SplitL.nil | apply SplitL.cons))); (case k6 => k_asm); (case k7 => exact rfl); (case k8 => k_room); (case k9 => k_units); (case kA => walk_at "V off")); intro x' W' h' tk' F' N' o1' hW'; (try simp only [List.cons_append, List.nil_append] at N')))
local macro_rules | `(tactic| walk_at "call ref") => `(tactic| (k_here; (with_reducible show wpAny _ _ (call (Value.ref 394) [_, _] []) _ _ _); (rename WS _ _ _ _ _ => lW'); k_dflt (refine' v_new0 (n_seq2 (by walk_at "V inl") (by walk_at "V inl")) lW' ?k1 ?k2 ?k3 ?k4 ?k5 ?k6 ?k7 ?k8 ?k9 ?kA ?_; (case k1 => k_asm); (case k2 => k_asm); (case k3 => k_asm); (case k4 => k_asm); (case k5 => (repeat (first | exact SplitL.nil | apply SplitL.cons))); (case k6 => k_asm); (case k7 => exact rfl); (case k8 => k_room); (case k9 => k_units); (case kA => walk_at "V off")); intro x' W' h' tk' F' N' o1' hW'; (try simp only [List.cons_append, List.nil_append] at N')))
local macro_rules | `(tactic| walk_at "call ref") => `(tactic| (k_here; (with_reducible show wpAny _ _ (call (Value.ref 394) [_, _, _] []) _ _ _); (rename WS _ _ _ _ _ => lW'); k_dflt (refine' v_new0 (n_seq3 (by walk_at "V inl") (by walk_at "V inl") (by walk_at "V inl")) lW' ?k1 ?k2 ?k3 ?k4 ?k5 ?k6 ?k7 ?k8 ?k9 ?kA ?_; (case k1 => k_asm); (case k2 => k_asm); (case k3 => k_asm); (case k4 => k_asm); (case k5 => (repeat (first | exact SplitL.nil | apply SplitL.cons))); (case k6 => k_asm); (case k7 => exact rfl); (case k8 => k_room); (case k9 => k_units); (case kA => walk_at "V off")); intro x' W' h' tk' F' N' o1' hW'; (try simp only [List.cons_append, List.nil_append] at N')))
local macro_rules | `(tactic| walk_at "call ref") => `(tactic| (k_here; (with_reducible show wpAny _ _ (call (Value.ref 420) [_, _] []) _ _ _); (rename WS _ _ _ _ _ => lW'); k_dflt (refine' v_new0 (n_alt (by walk_at "V inl") (by walk_at "V inl")) lW' ?k1 ?k2 ?k3 ?k4 ?k5 ?k6 ?k7 ?k8 ?k9 ?kA ?_; (case k1 => k_asm); (case k2 => k_asm); (case k3 => k_asm); (case k4 => k_asm); (case k5 => (repeat (first | exact SplitL.nil | apply SplitL.cons))); (case k6 => k_asm); (case k7 => exact rfl); (case k8 => k_room); (case k9 => k_units); (case kA => walk_at "V off")); intro x' W' h' tk' F' N' o1' hW'; (try simp only [List.cons_append, List.nil_append] at N')))
local macro_rules | `(tactic| walk_at "call ref") => `(tactic| (k_here; (with_reducible show wpAny _ _ (call (Value.ref 458) [_] []) _ _ _); (rename WS _ _ _ _ _ => lW'); k_dflt (refine' v_new0 (n_look0 (by walk_at "V inl")) lW' ?k1 ?k2 ?k3 ?k4 ?k5 ?k6 ?k7 ?k8 ?k9 ?kA ?_; (case k1 => k_asm); (case k2 => k_asm); (case k3 => k_asm); (case k4 => k_asm); (case k5 => (repeat (first | exact SplitL.nil | apply SplitL.cons))); (case k6 => k_asm); (case k7 => exact rfl); (case k8 => k_room); (case k9 => k_units); (case kA => walk_at "V off")); intro x' W' h' tk' F' N' o1' hW'; (try simp only [List.cons_append, List.nil_append] at N')))
local macro_rules | `(tactic| walk_at "call ref") => `(tactic| (k_here; (with_reducible show wpAny _ _ (call (Value.ref 468) [_] []) _ _ _); (rename WS _ _ _ _ _ => lW'); k_dflt (refine' v_new0 (n_not (by walk_at "V inl")) lW' ?k1 ?k2 ?k3 ?k4 ?k5 ?k6 ?k7 ?k8 ?k9 ?kA ?_; (case k1 => k_asm); (case k2 => k_asm); (case k3 => k_asm); (case k4 => k_asm); (case k5 => (repeat (first | exact SplitL.nil | apply SplitL.cons))); (case k6 => k_asm); (case k7 => exact rfl); (case k8 => k_room); (case k9 => k_units); (case kA => walk_at "V off")); intro x' W' h' tk' F' N' o1' hW'; (try simp only [List.cons_append, List.nil_append] at N')))
local macro_rules | `(tactic| walk_at "call ref") => `(tactic| (k_here; (with_reducible show wpAny _ _ (call (Value.ref 504) [_] _) _ _ _); (rename WS _ _ _ _ _ => lW'); k_dflt (refine' v_new0 (n_quant2 (mn := 2) (mx := some 3) (by walk_at "V inl") ⟨_, rfl⟩ (by decide) (fun n h => by cases h; decide)) lW' ?k1 ?k2 ?k3 ?k4 ?k5 ?k6 ?k7 ?k8 ?k9 ?kA ?_; (case k1 => k_asm); (case k2 => k_asm); (case k3 => k_asm); (case k4 => k_asm); (case k5 => (repeat (first | exact SplitL.nil | apply SplitL.cons))); (case k6 => k_asm); (case k7 => exact rfl); (case k8 => k_room); (case k9 => k_units); (case kA => walk_at "V off")); intro x' W' h' tk' F' N' o1' hW'; (try simp only [List.cons_append, List.nil_append] at N')))
local macro_rules | `(tactic| walk_at "call ref") => `(tactic| (k_here; (with_reducible show wpAny _ _ (call (Value.ref 516) [_] []) _ _ _); (rename WS _ _ _ _ _ => lW'); k_dflt (refine' v_new0 (n_star (by walk_at "V inl")) lW' ?k1 ?k2 ?k3 ?k4 ?k5 ?k6 ?k7 ?k8 ?k9 ?kA ?_; (case k1 => k_asm); (case k2 => k_asm); (case k3 => k_asm); (case k4 => k_asm); (case k5 => (repeat (first | exact SplitL.nil | apply SplitL.cons))); (case k6 => k_asm); (case k7 => exact rfl); (case k8 => k_room); (case k9 => k_units); (case kA => walk_at "V off")); intro x' W' h' tk' F' N' o1' hW'; (try simp only [List.cons_append, List.nil_append] at N')))
local macro_rules | `(tactic| walk_at "call ref") => `(tactic| (k_here; (with_reducible show wpAny _ _ (call (Value.ref 524) [_] []) _ _ _); (rename WS _ _ _ _ _ => lW'); k_dflt (refine' v_new0 (n_plus (by walk_at "V inl")) lW' ?k1 ?k2 ?k3 ?k4 ?k5 ?k6 ?k7 ?k8 ?k9 ?kA ?_; (case k1 => k_asm); (case k2 => k_asm); (case k3 => k_asm); (case k4 => k_asm); (case k5 => (repeat (first | exact SplitL.nil | apply SplitL.cons))); (case k6 => k_asm); (case k7 => exact rfl); (case k8 => k_room); (case k9 => k_units); (case kA => walk_at "V off")); intro x' W' h' tk' F' N' o1' hW'; (try simp only [List.cons_append, List.nil_append] at N')))
local macro_rules | `(tactic| walk_at "call ref") => `(tactic| (k_here; (with_reducible show wpAny _ _ (call (Value.ref 532) [_] []) _ _ _); (rename WS _ _ _ _ _ => lW'); k_dflt (refine' v_new0 (n_opt (by walk_at "V inl")) lW' ?k1 ?k2 ?k3 ?k4 ?k5 ?k6 ?k7 ?k8 ?k9 ?kA ?_; (case k1 => k_asm); (case k2 => k_asm); (case k3 => k_asm); (case k4 => k_asm); (case k5 => (repeat (first | exact SplitL.nil | apply SplitL.cons))); (case k6 => k_asm); (case k7 => exact rfl); (case k8 => k_room); (case k9 => k_units); (case kA => walk_at "V off")); intro x' W' h' tk' F' N' o1' hW'; (try simp only [List.cons_append, List.nil_append] at N')))
local macro_rules | `(tactic| walk_at "call ref") => `(tactic| (k_here; (with_reducible show wpAny _ _ (call (Value.ref 539) _ _) _ _ _); refine unHalt ?_))
local macro_rules | `(tactic| walk_at "compareOp Eq ref ref") => `(tactic| (k_here; (with_reducible show wpAny _ _ (compareOp CmpOp.Eq (Value.ref _) (Value.ref _)) _ _ _); k_dflt (refine' ke_eq_ints ?a ?b ?i ?j ?u ?_; (case a => exact News.isList (by k_asm) (by k_mem)); (case b => exact News.isList (by k_asm) (by k_mem)); (case i => assumption); (case j => exact IntsAre.nil); (case u => k_units)); k_whole))
local macro_rules | `(tactic| walk_at "subscriptTail") => `(tactic| (k_here; (with_reducible show wpAny _ _ (subscriptTail _ _ (Value.ref _) (Value.int 0 _)) _ _ _); (with_unfolding_all refine' item_anyK ?k1 ?k2 ?k3 ?k4 ?k5 ?_ ?k6; (case k1 => exact News.isList (by k_asm) (by k_mem)); (case k2 => assumption); (case k3 => decide); (case k4 => exact ne_len (by assumption)); (case k5 => decide); (case k6 => with_unfolding_all rfl); k_whole); intro _))
local macro_rules | `(tactic| walk_at "subscriptTail") => `(tactic| (k_here; (with_reducible show wpAny _ _ (subscriptTail _ _ (Value.ref _) (Value.int (Int.fmod _ 3) _)) _ _ _); k_dflt (refine' v_item3 ?k1 ?k2 ?k3 ?k4 ?k5 ?_ ?k6; (case k1 => k_asm); (case k2 => k_mem); (case k3 => decide); (case k4 => decide); (case k5 => decide); (case k6 => with_unfolding_all rfl)); intro lt' tk' hl'))
local macro_rules | `(tactic| walk_at "execs cons") => `(tactic| (k_here; (with_reducible show wpAny _ _ (execs (Stmt.Assign [Expr.Name (Str.ofString "pick") _] _ _ :: _) _) _ _ _); refine unHalt ?_))
local macro_rules | `(tactic| walk_at "execs cons") => `(tactic| (k_here; (with_reducible show wpAny _ _ (execs (Stmt.Assign [Expr.Name (Str.ofString "one") _] _ _ :: _) _) _ _ _); refine unHalt ?_))
local macro_rules | `(tactic| walk_at "execs cons") => `(tactic| (k_here; (with_reducible show wpAny _ _ (execs (Stmt.For (Expr.Name (Str.ofString "text") _) _ _ _ _ :: _) _) _ _ _); refine unHalt ?_))
local macro_rules | `(tactic| walk_at "execs cons") => `(tactic| (k_here; (with_reducible show wpAny _ _ (execs (Stmt.For (Expr.Tuple _ _ _) _ _ _ _ :: _) _) _ _ _); refine unHalt ?_))
local macro_rules | `(tactic| walk_at "execs cons") => `(tactic| (k_here; (with_reducible show wpAny _ _ (execs (Stmt.If (Expr.BoolOp _ (Expr.Compare (Expr.Call _ _ _ _) _ _ _ :: _) _) _ _ _ :: _) _) _ _ _); refine unHalt ?_))
local macro_rules | `(tactic| walk_at "V inl") => `(tactic| (repeat (first | assumption | exact List.Mem.head _ | apply List.Mem.tail)))
local macro_rules | `(tactic| walk_at "subscriptTail Name Slice ref ref") => `(tactic| (k_here; (with_reducible show wpAny _ _ (subscriptTail _ (PySem.Expr.Slice _ _ (some _) _) (Value.ref _) (Value.ref _)) _ _ _); k_dflt (refine' v_slice3s ?F ?N ?l ?o ?z ?_ ?s ?t; (case F => k_asm); (case N => k_asm); (case l => k_mem); (case o => decide); (case z => omega); (case s => with_unfolding_all rfl); (case t => (intro _; with_unfolding_all rfl))); intro D' ws' h' F' N' l1 hsub' hlen'; (try k_lt l1)))
local macro_rules | `(tactic| walk_at "call ref") => `(tactic| (k_here; (with_reducible show wpAny _ _ (call (Value.ref 546) [_, _] []) _ _ _); (rename WS _ _ _ _ _ => lW'); k_dflt (refine' v_lendS ?kr lW' ?kx ?kn ?kk ?kt ?kh ?k1 ?q1 ?q2 ?k2 ?k3 ?k4 ?k5 ?k6 ?k7 ?k8 ?k9 ?kA ?_; (case kx => walk_at "V inl"); (case kr => assumption); (case kn => omega); (case kk => omega); (case kt => assumption); (case kh => first | assumption | omega | (simp only [Ex.ht]; omega)); (case k1 => k_asm); (case q1 => k_asm); (case q2 => k_asm); (case k2 => k_asm); (case k3 => k_asm); (case k4 => k_asm); (case k5 => (repeat (first | exact SplitL.nil | apply SplitL.cons))); (case k6 => k_asm); (case k7 => exact rfl); (case k8 => k_room); (case k9 => k_units); (case kA => walk_at "V off")); intro tq' W' h' tk' F' N' o1' hW'; (try simp only [List.cons_append, List.nil_append] at N')))
local macro_rules | `(tactic| walk_at "call ref") => `(tactic| (k_here; (with_reducible show wpAny _ _ (call (Value.ref 546) [_, _] []) _ _ _); (rename WS _ _ _ _ _ => lW'); k_dflt (refine' v_lend0 ?kr lW' ?kx ?kn ?kk ?kt ?kh ?k1 ?q1 ?q2 ?k2 ?k3 ?k4 ?k5 ?k6 ?k7 ?k8 ?k9 ?kA ?_; (case kx => walk_at "V inl"); (case kr => assumption); (case kn => omega); (case kk => omega); (case kt => assumption); (case kh => first | assumption | omega | (simp only [Ex.ht]; omega)); (case k1 => k_asm); (case q1 => k_asm); (case q2 => k_asm); (case k2 => k_asm); (case k3 => k_asm); (case k4 => k_asm); (case k5 => (repeat (first | exact SplitL.nil | apply SplitL.cons))); (case k6 => k_asm); (case k7 => exact rfl); (case k8 => k_room); (case k9 => k_units); (case kA => walk_at "V off")); intro tq' W' h' tk' F' N' o1' hW'; (try simp only [List.cons_append, List.nil_append] at N')))
local macro_rules | `(tactic| walk_at "call ref") => `(tactic| (k_here; (with_reducible show wpAny _ _ (call (Value.ref 546) [_, _] []) _ _ _); (rename WS _ _ _ _ _ => lW'); k_dflt (refine' v_lendN ?kr lW' ?kx ?kn ?kk ?kt ?kh ?k1 ?q1 ?q2 ?k2 ?k3 ?k4 ?k5 ?k6 ?k7 ?k8 ?k9 ?kA ?_; (case kx => walk_at "V inl"); (case kr => assumption); (case kn => omega); (case kk => omega); (case kt => assumption); (case kh => first | assumption | omega | (simp only [Ex.ht]; omega)); (case k1 => k_asm); (case q1 => k_asm); (case q2 => k_asm); (case k2 => k_asm); (case k3 => k_asm); (case k4 => k_asm); (case k5 => (repeat (first | exact SplitL.nil | apply SplitL.cons))); (case k6 => k_asm); (case k7 => exact rfl); (case k8 => k_room); (case k9 => k_units); (case kA => walk_at "V off")); intro W' h' tk' F' N' o1' hW'; (try simp only [List.cons_append, List.nil_append] at N')))
theorem law_t : PySem.Challenge.rw_vj0021_01.Holds := by
  refine Mine.hd ?_
  w_top on
  k_go0
  all_goals try k_fold
  rename Fr _ _ _ _ => hF0
  refine v_after9 hF0 R3L ?_ ?_
  · clear hF0
    rintro s' ⟨h1, tk1, W, ls, os, x, o, pp, vs, nn, z, tz, eo, e, c, m₀, rfl, hF, hN, hW, hpp, hvs, hP, hx, ho, hc, hte, hto⟩
    k_steps
    unfold Halt
    rename Fr _ _ _ _ => hF
    rename News _ _ _ _ => hN
    refine v_cutG hF R4L ?_ ?_
    · refine v_forElse ?_
      k_steps
      rename Fr _ _ _ _ => hF2
      rename News _ _ _ _ => hN2
      refine' v_turnsL (ex := [(_, listOf (List.toArray _) _)]) (W₀ := W) rfl hF2 hN2 ?off (.head _) (JO ls os _) (fun _ _ _ _ => .head _) ⟨100, 0, hW, Nat.le_refl _, Nat.le_refl _, Agr.refl _⟩ (by passes_own) ?step ?last
      (case off => walk_at "V off")
      (case last =>
        intro m₁ W₁ h₁ tk₁ _ hF3 hN3 _
        k_steps
        exact ⟨rfl, _, _, _, _, rfl, hF3, hN3⟩)
      intro i v I o' m₁ W₁ h₁ tk₁ hv hJ hoI hoc hF3 hN3 hoff3
      obtain ⟨n, k, qa, qb, qc, qd, hW1, hn1, hk1, rfl⟩ := hJ.eq
      have hi : i < 5 := (List.getElem?_eq_some_iff.mp hv).1
      obtain ⟨t, ttk, rfl, ht⟩ : ∃ t tk, v = .str t tk ∧ t.length ≤ 8 := by
        have hmem := List.mem_of_getElem? hv
        simp only [List.mem_cons, List.not_mem_nil, or_false] at hmem
        rcases hmem with h | h | h | h | h <;> exact ⟨_, _, h, by decide⟩
      have mpp : (pp, listOf (List.toArray vs) nn) ∈ W₁ := hW1.mem hpp
      have hN3 : News _ _ _ ((I, o') :: (_, listOf (List.toArray _) _) :: W₁) := hN3
      k_steps
      unfold Halt
      rename Fr _ _ _ _ => hF4
      rename News _ _ _ _ => hN4
      refine v_cutGN (W := W₁) hF4 hN4 (by repeat (first | exact SplitL.nil | apply SplitL.cons)) (R5L n k ls os t ttk) ?_ ?_
      · refine v_forElse ?_
        k_steps
        rename Fr _ _ _ _ => hF5
        rename News _ _ _ _ => hN5
        rename (∀ v : Value, v ∈ _ → v ∈ vs) => hsub
        rename (_ ≤ vs.length) => hlen
        refine' v_turnsLs (W₀ := W₁) rfl hF5 hN5 ?hs2 ?off2 ?hm2 (JI n k ls os _ t ttk) ?hJ2 ⟨k, hW1, Nat.le_refl _, Agr.refl _, rfl⟩ (by passes_own) ?step2 ?last2
        (case hs2 => repeat (first | exact SplitL.nil | apply SplitL.cons))
        (case off2 => walk_at "V off")
        (case hm2 => exact .head _)
        (case hJ2 => exact fun _ _ _ _ => .head _)
        (case last2 =>
          intro m₂ W₂ h₂ tk₂ hJ2 hF6 hN6 hoff6
          k_steps
          obtain ⟨k2, j1, j2, j3, j4⟩ := hJ2
          refine ⟨rfl, _, _, _, W₂, rfl, hF6, hN6.perm fun q hq => .tail _ hq, fun q hq => hoff6 q (.tail _ hq), k2, j1, by omega, j3, j4⟩)
        intro j v I2 o2 m₂ W₂ h₂ tk₂ hv2 hJ2 hoI2 hoc2 hF6 hN6 hoff6
        obtain ⟨k2, b2, c2, d2, hW2, hk2, rfl⟩ := hJ2.eq
        have hj := (List.getElem?_eq_some_iff.mp hv2).1
        obtain ⟨tt, ka, kb, ea, eb, rfl, m1, m2, m3, h4, h5, h6⟩ := hP v (hsub v (List.mem_of_getElem? hv2))
        have hsem := h6 t
        have mt := hW2.mem m1
        simp only [List.cons_append, List.nil_append] at hN6
        cases hs1 : sem t ea 0 with
        | none =>
          have hs2 : sem t eb 0 = none := hsem ▸ hs1
          k_steps
          · rename Fr _ _ _ _ => hFz
            rename News _ _ _ _ => hNz
            rename WS _ _ _ _ _ => hWz
            refine ⟨_, _, _, _, rfl, hFz, hNz, by walk_at "V off", _, hWz, by omega, fun y y1 y2 y3 y4 => ?_, rfl⟩
            simp only [lawM, if_neg y1, if_neg y2, if_neg y3, if_neg y4]
        | some q =>
          have hs2 : sem t eb 0 = some q := hsem ▸ hs1
          k_steps
          · exfalso; omega
          · rename Fr _ _ _ _ => hFz
            rename News _ _ _ _ => hNz
            rename WS _ _ _ _ _ => hWz
            refine ⟨_, _, _, _, rfl, hFz, hNz, by walk_at "V off", _, hWz, by omega, fun y y1 y2 y3 y4 => ?_, rfl⟩
            simp only [lawM, if_neg y1, if_neg y2, if_neg y3, if_neg y4]
      · rintro s5 ⟨h5', tk5, m5, W5, rfl, hF5, hN5, off5, hJ5⟩
        obtain ⟨k5, b5, c5, d5, hW5, hk5, rfl⟩ := hJ5.eq
        have hX := ne_first t c hc e
        have f3 := law_greedy hX 0
        simp only [List.cons_append, List.nil_append] at hN5
        cases hso : sem t eo 0 with
        | none =>
          have f1 : sem t (.look true eo) 0 = some 0 := by rw [law_not1, hso]; rfl
          have f2 : sem t (.look false eo) 0 = none := by rw [law_look1, hso]; rfl
          k_steps
          all_goals unfold Halt
          cases hsx : sem t (.seq2 (.lit c) e) 0 with
          | none =>
            have f4 : sem t (.alt (.seq2 (.lit c) e) eo) 0 = none := by rw [law_alt1, hsx, hso]; rfl
            refine wpAny_execs_cons ?_
            k_steps
            rename Fr _ _ _ _ => hFz
            rename News _ _ _ _ => hNz
            rename WS _ _ _ _ _ => hWz
            rename OffL _ _ => hOz
            refine ⟨_, _, _, _, rfl, hFz, hNz.perm fun q hq => .tail _ hq, fun q hq => hOz q (.tail _ hq), _, _, hWz.sub (fun q hq => by repeat (first | exact hq | apply List.Mem.tail)) (fun _ h => h), by omega, by omega, fun y y1 y2 y3 y4 => ?_⟩
            simp only [lawM, if_neg y1, if_neg y2, if_neg y3, if_neg y4]
          | some r =>
            have f4 : sem t (.alt (.seq2 (.lit c) e) eo) 0 = some r := by rw [law_alt1, hsx]; rfl
            refine wpAny_execs_cons ?_
            k_steps
            · exfalso; omega
            · rename Fr _ _ _ _ => hFz
              rename News _ _ _ _ => hNz
              rename WS _ _ _ _ _ => hWz
              rename OffL _ _ => hOz
              refine ⟨_, _, _, _, rfl, hFz, hNz.perm fun q hq => .tail _ hq, fun q hq => hOz q (.tail _ hq), _, _, hWz.sub (fun q hq => by repeat (first | exact hq | apply List.Mem.tail)) (fun _ h => h), by omega, by omega, fun y y1 y2 y3 y4 => ?_⟩
              simp only [lawM, if_neg y1, if_neg y2, if_neg y3, if_neg y4]
        | some q =>
          have f1 : sem t (.look true eo) 0 = none := by rw [law_not1, hso]; rfl
          have f2 : sem t (.look false eo) 0 = some 0 := by rw [law_look1, hso]; rfl
          k_steps
          all_goals unfold Halt
          cases hsx : sem t (.seq2 (.lit c) e) 0 with
          | none =>
            have f4 : sem t (.alt (.seq2 (.lit c) e) eo) 0 = some q := by rw [law_alt1, hsx, hso]; rfl
            refine wpAny_execs_cons ?_
            k_steps
            · exfalso; omega
            · rename Fr _ _ _ _ => hFz
              rename News _ _ _ _ => hNz
              rename WS _ _ _ _ _ => hWz
              rename OffL _ _ => hOz
              refine ⟨_, _, _, _, rfl, hFz, hNz.perm fun q hq => .tail _ hq, fun q hq => hOz q (.tail _ hq), _, _, hWz.sub (fun q hq => by repeat (first | exact hq | apply List.Mem.tail)) (fun _ h => h), by omega, by omega, fun y y1 y2 y3 y4 => ?_⟩
              simp only [lawM, if_neg y1, if_neg y2, if_neg y3, if_neg y4]
          | some r =>
            have f4 : sem t (.alt (.seq2 (.lit c) e) eo) 0 = some r := by rw [law_alt1, hsx]; rfl
            refine wpAny_execs_cons ?_
            k_steps
            · exfalso; omega
            · rename Fr _ _ _ _ => hFz
              rename News _ _ _ _ => hNz
              rename WS _ _ _ _ _ => hWz
              rename OffL _ _ => hOz
              refine ⟨_, _, _, _, rfl, hFz, hNz.perm fun q hq => .tail _ hq, fun q hq => hOz q (.tail _ hq), _, _, hWz.sub (fun q hq => by repeat (first | exact hq | apply List.Mem.tail)) (fun _ h => h), by omega, by omega, fun y y1 y2 y3 y4 => ?_⟩
              simp only [lawM, if_neg y1, if_neg y2, if_neg y3, if_neg y4]
    · rintro s6 ⟨h6, tk6, m6, all6, rfl, hF6, hN6⟩
      k_steps
  · intro hrest
    refine v_cutG hF0 R1L ?_ ?_
    · k_steps
      · rename Fr _ _ _ _ => hFa
        rename News _ _ _ _ => hNa
        exact ⟨rfl, _, _, _, _, _, rfl, hFa, hNa.perm (fun q hq => by rw [List.mem_singleton.mp hq]; exact .head _), .cons _ _ (.cons _ _ (.cons _ _ (.cons _ _ (.cons _ _ (.cons _ _ (.cons _ _ (.cons _ _ (.cons _ _ (.cons _ _ .nil))))))))), by decide⟩
      · rename Fr _ _ _ _ => hFa
        rename News _ _ _ _ => hNa
        rename IntsAre _ (List.take _ _) => hIa
        exact ⟨rfl, _, _, _, _, _, rfl, hFa, hNa.perm (fun q hq => by rw [List.mem_singleton.mp hq]; exact .head _), hIa, by rw [List.length_take]; omega⟩
    clear hF0
    rintro s' ⟨h1, tk1, b, vs1, zs1, rfl, hF1, hN1, hi1, hz1⟩
    k_steps
    unfold Halt
    rename Fr _ _ _ _ => hF1a
    rename News _ _ _ _ => hN1a
    refine' v_exprD (own := []) (W := []) (n := 0) (k₁ := 0) (l := []) (os := []) expr1 WS.nil ?kB hF1a ?kX hN1a ?hs (.head _) hi1 hz1 ?kT rfl ?kd ?ku ?hex OffL.nil ?_
    (case hs => repeat (first | exact SplitL.nil | apply SplitL.cons))
    (case kB => k_asm)
    (case kX => k_asm)
    (case kT => k_asm)
    (case kd => k_room)
    (case ku => k_units)
    (case hex => exact fun _ _ _ h => nomatch h)
    intro tp x1 r1 vs2 zs2 k2 e1 W1 h2 tk2 hF2 hN2 _ hW1 hi2 hz2 ht1 mt1 mr1 _
    have hN2 : News _ _ _ W1 := hN2
    clear hF1a hN1a
    k_steps
    unfold Halt
    rename Fr _ _ _ _ => hF2
    rename News _ _ _ _ => hN2
    refine v_cutG hF2 (R2L (0 + 3) [(r1, listOf (List.toArray vs2) k2)] e1) ?_ ?_
    · k_steps
      all_goals
        rename Fr _ _ _ _ => hFa
        rename News _ _ _ _ => hNa
        rename WS _ _ _ _ _ => hWa
        refine ⟨rfl, _, _, _, _, _, rfl, fr_ext hFa fun y => ?_, hNa, hWa.sub (fun q hq => by rw [List.mem_singleton.mp hq]; exact .head _) (fun q hq => by rw [List.mem_singleton.mp hq]; exact .tail _ (.head _)), by decide⟩
        by_cases h1 : y = Str.ofString "one"
        · subst h1; rfl
        · simp only [if_neg h1]
    clear hF2 hN2
    rintro s' ⟨h3, tk3, x, W3, c, rfl, hF3, hN3, hW3, hc⟩
    k_steps
    unfold Halt
    rename Fr _ _ _ _ => hFq
    rename News _ _ _ _ => hNq
    refine' v_expr (own := []) expr2 hW3 ?hb hi2 hz2 ?kB hFq ?kX hNq ?hs ?kT rfl ?kd ?ku (ex := []) OffL.nil OffL.nil ?_
    (case hb => walk_at "V inl")
    (case hs => exact SplitL.nil)
    (case kB => k_asm)
    (case kX => k_asm)
    (case kT => k_asm)
    (case kd => k_room)
    (case ku => k_units)
    intro tp4 x4 r4 vs4 zs4 k4 e4 W4 h4 tk4 hF4 hN4 _ _ hW4 hi4 hz4 ht4 mt4 mr4
    have hN4 : News _ _ _ W4 := hN4
    clear hFq hNq
    k_steps
    unfold Halt
    rename Fr _ _ _ _ => hFq
    rename News _ _ _ _ => hNq
    refine' v_expr (own := []) expr1 hW4 ?hb hi4 hz4 ?kB hFq ?kX hNq ?hs ?kT rfl ?kd ?ku (ex := []) OffL.nil OffL.nil ?_
    (case hb => walk_at "V inl")
    (case hs => exact SplitL.nil)
    (case kB => k_asm)
    (case kX => k_asm)
    (case kT => k_asm)
    (case kd => k_room)
    (case ku => k_units)
    intro tp5 x5 r5 vs5 zs5 k5 e5 W5 h5 tk5 hF5 hN5 _ _ hW5 hi5 hz5 ht5 mt5 mr5
    have hN5 : News _ _ _ W5 := hN5
    clear hFq hNq
    k_steps
    unfold Halt
    rename Fr _ _ _ _ => hF6
    rename News _ _ _ _ => hN6
    rename WS _ _ _ _ _ => hW6
    refine v_cutPk hF6 hN6 ?_ ?_
    · k_steps
      all_goals
        rename Fr _ _ _ _ => hFa
        rename News _ _ _ _ => hNa
        exact ⟨rfl, _, _, _, _, rfl, hFa, hNa⟩
    · intro h7 tk7 z7 tz7 hF7 hN7
      refine' WS.cutK ?kX hW6 hN7 ?hs ?off ?pl ?_
      (case kX => k_asm)
      (case hs => repeat (first | exact SplitL.nil | apply SplitL.cons))
      (case off => walk_at "V off")
      (case pl => rfl)
      intro W9 hw9 hN9
      refine' hrest _ ⟨_, _, W9, _, _, x, x4, _, _, _, _, _, e4, e1, c, _, rfl, ?map, hN9, hw9.up ?n (Nat.le_refl _), ?pp, ?len, ?pok, ?hx, ?ho, hc, ht1, ht4⟩
      (case pp => exact .head _)
      (case map =>
        refine' fr_r3 hF7 ?e1 ?e2 ?e3
        (case e1 => exact rfl)
        (case e2 => exact rfl)
        (case e3 => exact rfl))
      (case n => omega)
      (case len => exact Nat.le_refl _)
      (case hx => walk_at "V inl")
      (case ho => walk_at "V inl")
      refine' PairsOk.cons ?_ ?h1 ?h2 ?h3 ?h4 ?h5 ?h6
      (case h1 => walk_at "V inl")
      (case h2 => walk_at "V inl")
      (case h3 => walk_at "V inl")
      (case h4 => first | omega | (simp only [Ex.ht]; omega))
      (case h5 => first | omega | (simp only [Ex.ht]; omega))
      (case h6 => exact fun t => law_opt0 hc t)
      refine' PairsOk.cons ?_ ?h1 ?h2 ?h3 ?h4 ?h5 ?h6
      (case h1 => walk_at "V inl")
      (case h2 => walk_at "V inl")
      (case h3 => walk_at "V inl")
      (case h4 => first | omega | (simp only [Ex.ht]; omega))
      (case h5 => first | omega | (simp only [Ex.ht]; omega))
      (case h6 => exact fun t => law_plus (ne_first t c hc e1) 0)
      refine' PairsOk.cons ?_ ?h1 ?h2 ?h3 ?h4 ?h5 ?h6
      (case h1 => walk_at "V inl")
      (case h2 => walk_at "V inl")
      (case h3 => walk_at "V inl")
      (case h4 => first | omega | (simp only [Ex.ht]; omega))
      (case h5 => first | omega | (simp only [Ex.ht]; omega))
      (case h6 => exact fun t => law_two (ne_first t c hc e1) 0)
      refine' PairsOk.cons ?_ ?h1 ?h2 ?h3 ?h4 ?h5 ?h6
      (case h1 => walk_at "V inl")
      (case h2 => walk_at "V inl")
      (case h3 => walk_at "V inl")
      (case h4 => first | omega | (simp only [Ex.ht]; omega))
      (case h5 => first | omega | (simp only [Ex.ht]; omega))
      (case h6 => exact fun t => law_look t _ 0)
      refine' PairsOk.cons ?_ ?h1 ?h2 ?h3 ?h4 ?h5 ?h6
      (case h1 => walk_at "V inl")
      (case h2 => walk_at "V inl")
      (case h3 => walk_at "V inl")
      (case h4 => first | omega | (simp only [Ex.ht]; omega))
      (case h5 => first | omega | (simp only [Ex.ht]; omega))
      (case h6 => exact fun t => law_not t _ _ 0)
      refine' PairsOk.cons ?_ ?h1 ?h2 ?h3 ?h4 ?h5 ?h6
      (case h1 => walk_at "V inl")
      (case h2 => walk_at "V inl")
      (case h3 => walk_at "V inl")
      (case h4 => first | omega | (simp only [Ex.ht]; omega))
      (case h5 => first | omega | (simp only [Ex.ht]; omega))
      (case h6 => exact fun t => law_altA t _ _ _ 0)
      refine' PairsOk.cons ?_ ?h1 ?h2 ?h3 ?h4 ?h5 ?h6
      (case h1 => walk_at "V inl")
      (case h2 => walk_at "V inl")
      (case h3 => walk_at "V inl")
      (case h4 => first | omega | (simp only [Ex.ht]; omega))
      (case h5 => first | omega | (simp only [Ex.ht]; omega))
      (case h6 => exact fun t => law_seqA t _ _ _ 0)
      refine' PairsOk.cons ?_ ?h1 ?h2 ?h3 ?h4 ?h5 ?h6
      (case h1 => walk_at "V inl")
      (case h2 => walk_at "V inl")
      (case h3 => walk_at "V inl")
      (case h4 => first | omega | (simp only [Ex.ht]; omega))
      (case h5 => first | omega | (simp only [Ex.ht]; omega))
      (case h6 => exact fun t => law_same t _ 0)
      refine' PairsOk.cons ?_ ?h1 ?h2 ?h3 ?h4 ?h5 ?h6
      (case h1 => walk_at "V inl")
      (case h2 => walk_at "V inl")
      (case h3 => walk_at "V inl")
      (case h4 => first | omega | (simp only [Ex.ht]; omega))
      (case h5 => first | omega | (simp only [Ex.ht]; omega))
      (case h6 => exact fun t => law_dist t _ _ _ 0)
      exact PairsOk.nil

end Mine
end

theorem PySem.Challenge.cw_vj0021_01_holds : PySem.Challenge.rw_vj0021_01.Holds := by
  exact Mine.law_t
