import PyProof.Rows.All
import Wide.All
import OpenK.AllK
import Wide.FinOn
import KE.KTreeD
import PySem.Challenge.RW_sr0066_02
set_option linter.unusedVariables false
set_option Elab.async false
set_option maxRecDepth 100000
set_option compiler.extract_closed false
namespace Mine
open PySem
/-- a goal that the walk is to leave alone -/
structure Hold (p : Prop) : Prop where
  h : p
theorem ne_suc {a b : Nat} (h : a ≠ b) : a + 1 ≠ b + 1 := fun e => h (Nat.succ.inj e)
theorem lt_suc {a b : Nat} (h : a < b) : a < b + 1 := Nat.lt_succ_of_lt h
theorem big_down {a b : Nat} (h : a + 1 < b) : a < b := Nat.lt_of_succ_lt h
theorem for_any {M : Model} {A : Around} {E : Value → Shared → Prop} {s : Shared} {env : Env} {target iter body orelse pos} {Q : Flow → Shared → Prop} (hs : ∀ x, foldedSetIterable iter env x = pure x)
    (h : wpAny M A (eval iter env) (fun x s₁ => wpAny M A (pyIter x) (fun it s₂ =>
      codeAny M A (.forLoop target it body orelse env) (fun r s' => match r with | .ok f => Q f s' | .error e => cameBackBy M A env E e s') s₂) E s₁) E s) :
    wpAny M A (exec (.For target iter body orelse pos) env) Q E s := wpAny_For h hs
end Mine
local macro_rules | `(tactic| k_ne) => `(tactic| (refine PySem.W.neN ?_; (try dsimp only); first
  | with_reducible assumption
  | (refine Ne.symm ?_; with_reducible assumption)
  | ((repeat (with_reducible refine Mine.ne_suc ?_)); first | (refine Nat.ne_of_lt ?_; (repeat (first | with_reducible exact Nat.lt_add_one _ | with_reducible refine Mine.lt_suc ?_)); done) | (refine Nat.ne_of_gt ?_; (repeat (first | with_reducible exact Nat.lt_add_one _ | with_reducible refine Mine.lt_suc ?_)); done))
  | (refine Nat.ne_of_gt ?_; (iterate 10 (try (first | with_reducible assumption | with_reducible refine Mine.big_down ?_))); done)
  | (refine Nat.ne_of_lt ?_; (iterate 10 (try (first | with_reducible assumption | with_reducible refine Mine.big_down ?_))); done)
  | ((iterate 40 (try (rename _ ∧ _ => hc; have hf := And.left hc; replace hc := And.right hc))); first | with_reducible assumption | (refine Ne.symm ?_; with_reducible assumption))
  | omega))
local macro_rules | `(tactic| walk_at "~om") => `(tactic| first | omega | (simp <;> omega))
local macro_rules | `(tactic| walk_at "~ln") => `(tactic| (simp only [List.length_append, List.length_replicate, List.length_cons, List.length_nil]; walk_at "~om"))
local macro_rules | `(tactic| walk_at "~k") => `(tactic| (k_asm; k_asm; assumption; assumption))
local macro_rules | `(tactic| walk_at "~call") => `(tactic| (k_asm; k_asm; k_asm; k_asm; k_asm; (first | exact rfl | assumption); ktr_room; ktr_units; intro _ _ _ _ _; try dsimp only))
namespace Mine
open PySem PySem.W PySem.Calls PyProof.Rows

section
variable {tb : String → Option Builtin} {pr : Program} {w : World} {n₀ : Nat} {ann : Option Value} {b : Nat}

theorem segGo_add : ∀ {n m : Nat} {s s' : Shared} {t t' : Thread} {r : Option (Shared × Thread)}, segGo tb pr w n₀ ann b n s t = some (s', t') → segGo tb pr w n₀ ann b m s' t' = r → segGo tb pr w n₀ ann b (n + m) s t = r
  | 0, m, s, s', t, t', r, h, k => by
    obtain ⟨rfl, rfl⟩ : s = s' ∧ t = t' := by simpa [segGo] using h
    rw [Nat.zero_add]; exact k
  | n + 1, m, s, s', t, t', r, h, k => by
    rw [show n + 1 + m = n + m + 1 by omega]
    unfold segGo at h ⊢
    cases he : endAt b t with
    | some f => rw [he] at h; cases h
    | none =>
      rw [he] at h
      cases hk : stepOk n₀ ann t with
      | false => rw [hk] at h; cases h
      | true =>
        rw [hk] at h
        cases hs : step (denote tb) pr w s t with
        | halt o s₂ => rw [hs] at h; cases h
        | go s₂ t₂ => rw [hs] at h; exact segGo_add h k

theorem segGo_one {n : Nat} {s s₁ : Shared} {t t₁ : Thread} {r : Option (Shared × Thread)} (he : endAt b t = none) (hk : stepOk n₀ ann t = true) (hs : step (denote tb) pr w s t = .go s₁ t₁) (k : segGo tb pr w n₀ ann b n s₁ t₁ = r) :
    segGo tb pr w n₀ ann b (n + 1) s t = r := by
  unfold segGo
  rw [he, hk, hs]
  exact k

theorem endAt_cons {f : Frame} {st : List Frame} {cur : Sem Fin} {c : Code} {p : Pos} (h : b ≤ st.length) : endAt b ⟨cur, c, p, f :: st⟩ = none := by
  have : ((f :: st).length == b) = false := beq_eq_false_iff_ne.mpr (by rw [List.length_cons]; omega)
  unfold endAt
  rw [this]

theorem endAt_off {cur : Sem Fin} {c : Code} {p : Pos} {st : List Frame} (h : ∀ f, cur ≠ .pure (.done f)) : endAt b ⟨cur, c, p, st⟩ = none := by
  unfold endAt
  split
  · rename_i f h1 h2; exact absurd h2 (h f)
  · rfl

theorem step_load {o : Obj} {q : Option Value} {a : Addr} {k : Obj → Sem Fin} {s : Shared} {c : Code} {p : Pos} {st : List Frame} (ho : s.heap.get? a = some o) : step (denote tb) pr w s ⟨.load a q k, c, p, st⟩ = .go s ⟨k o, c, p, st⟩ := by
  obtain ⟨h, g, d, t, os⟩ := s
  simp only at ho
  simp only [step, ho]
theorem step_update {o : Obj} {q : Option Value} {a : Addr} {f : Obj → Obj} {k : Unit → Sem Fin} {s : Shared} {c : Code} {p : Pos} {st : List Frame} (ho : s.heap.get? a = some o) :
    step (denote tb) pr w s ⟨.update a q f k, c, p, st⟩ = .go { s with heap := s.heap.update a f } ⟨k (), c, p, st⟩ := by
  obtain ⟨h, g, d, t, os⟩ := s
  simp only at ho
  simp only [step, ho, Option.isSome_some, if_true]
theorem step_call {s : Shared} {c code : Code} {p : Pos} {st : List Frame} (g : Bool) (l : List Value) (k : Result → Sem Fin) : ∃ kept, step (denote tb) pr w s ⟨.call c none g l k, code, p, st⟩ = .go s ⟨denote tb c, c, p, .ret k none g l code p kept :: st⟩ := by
  obtain ⟨h, gs, d, t, os⟩ := s
  exact ⟨_, rfl⟩
theorem wrap_id : ∀ m : Sem Fin, m.wrap .pure .raise id id = m := fun m => by
  rw [← Sem.bind_eq_wrap, Sem.bind_pure]
end
section
variable (tb : String → Option Builtin) (pr : Program) (w : World) (n₀ : Nat)

/-- an exact run of a tree without handlers, generators or a look at the stack: from a state and a place to an answer, in so many steps -/
noncomputable def Ev {α : Type} (m : Sem α) (s : Shared) (p : Pos) (a : α) (s' : Shared) (p' : Pos) (n : Nat) : Prop :=
  ∀ (ann : Option Value) (b : Nat) (K : α → Sem Fin) (H : Value → Sem Fin) (gd : Bool → Bool) (lv : List Value → List Value) (code : Code) (st : List Frame), b ≤ st.length →
    segGo tb pr w n₀ ann b n s ⟨m.wrap K H gd lv, code, p, st⟩ = some (s', ⟨K a, code, p', st⟩)
end

section
variable {tb : String → Option Builtin} {pr : Program} {w : World} {n₀ : Nat} {ann : Option Value} {b : Nat}
theorem Ev.run {α : Type} {m : Sem α} {s s' : Shared} {p p' : Pos} {a : α} {n : Nat} (h : Ev tb pr w n₀ m s p a s' p' n) :
    ∀ (K : α → Sem Fin) (H : Value → Sem Fin) (code : Code) (st : List Frame), b ≤ st.length → segGo tb pr w n₀ ann b n s ⟨m.wrap K H id id, code, p, st⟩ = some (s', ⟨K a, code, p', st⟩) :=
  fun K H code st hb => h ann b K H id id code st hb
end
section
variable {tb : String → Option Builtin} {pr : Program} {w : World} {n₀ : Nat} {α : Type} {s s' : Shared} {p p' : Pos} {a : α} {n : Nat}
theorem Ev.pure (a : α) (s : Shared) (p : Pos) : Ev tb pr w n₀ (.pure a) s p a s p 0 := fun _ _ _ _ _ _ _ _ _ => rfl
theorem Ev.rule {t : String} {k : Unit → Sem α} (h : Ev tb pr w n₀ (k ()) s p a s' p' n) : Ev tb pr w n₀ (.rule t k) s p a s' p' (n + 1) := fun ann b K H gd lv code st hb =>
  segGo_one (endAt_off (fun f e => by cases e)) rfl rfl (h ann b K H gd lv code st hb)
theorem Ev.at {q : Pos} {k : Unit → Sem α} (h : Ev tb pr w n₀ (k ()) s q a s' p' n) : Ev tb pr w n₀ (.at q k) s p a s' p' (n + 1) := fun ann b K H gd lv code st hb =>
  segGo_one (endAt_off (fun f e => by cases e)) rfl rfl (h ann b K H gd lv code st hb)
theorem Ev.point {l : List Value} {k : Unit → Sem α} (h : Ev tb pr w n₀ (k ()) s p a s' p' n) : Ev tb pr w n₀ (.point l k) s p a s' p' (n + 1) := fun ann b K H gd lv code st hb =>
  segGo_one (endAt_off (fun f e => by cases e)) rfl rfl (h ann b K H gd lv code st hb)
theorem Ev.ask {k : Setting → Sem α} (h : Ev tb pr w n₀ (k ⟨pr, w.params⟩) s p a s' p' n) : Ev tb pr w n₀ (.ask k) s p a s' p' (n + 1) := fun ann b K H gd lv code st hb =>
  segGo_one (endAt_off (fun f e => by cases e)) rfl rfl (h ann b K H gd lv code st hb)
theorem Ev.load {b : Addr} {q : Option Value} {o : Obj} {k : Obj → Sem α} (ho : s.heap.get? b = some o) (h : Ev tb pr w n₀ (k o) s p a s' p' n) : Ev tb pr w n₀ (.load b q k) s p a s' p' (n + 1) := fun ann b K H gd lv code st hb =>
  segGo_one (endAt_off (fun f e => by cases e)) rfl (step_load ho) (h ann b K H gd lv code st hb)
theorem Ev.update {b : Addr} {q : Option Value} {f : Obj → Obj} {o : Obj} {k : Unit → Sem α} (hb : Nat.ble n₀ b = true ∨ b = mainNs) (ho : s.heap.get? b = some o)
    (h : Ev tb pr w n₀ (k ()) { s with heap := s.heap.update b f } p a s' p' n) : Ev tb pr w n₀ (.update b q f k) s p a s' p' (n + 1) := fun ann b' K H gd lv code st hb' => by
  refine segGo_one (endAt_off (fun f e => by cases e)) ?_ (step_update ho) (h ann b' K H gd lv code st hb')
  rcases hb with e | e
  · unfold stepOk Thread.calm Thread.atCollectorCode Thread.yieldsInsideHandler Sem.wrap
    simp [e]
  · subst e
    unfold stepOk Thread.calm Thread.atCollectorCode Thread.yieldsInsideHandler Sem.wrap
    simp
theorem Ev.alloc {o : Obj} {k : Addr → Sem α} (h : Ev tb pr w n₀ (k s.heap.objs.size) { s with heap := s.heap.push o } p a s' p' n) : Ev tb pr w n₀ (.alloc o k) s p a s' p' (n + 1) := fun ann b K H gd lv code st hb =>
  segGo_one (endAt_off (fun f e => by cases e)) rfl rfl (h ann b K H gd lv code st hb)
theorem Ev.fresh {k : Tok → Sem α} (h : Ev tb pr w n₀ (k s.toks) { s with toks := s.toks + 1 } p a s' p' n) : Ev tb pr w n₀ (.fresh k) s p a s' p' (n + 1) := fun ann b K H gd lv code st hb =>
  segGo_one (endAt_off (fun f e => by cases e)) rfl rfl (h ann b K H gd lv code st hb)
theorem Ev.call {c : Code} {g : Bool} {l : List Value} {k : Result → Sem α} {s₁ : Shared} {p₁ : Pos} {f : Flow} {n₁ : Nat} (h₁ : Ev tb pr w n₀ (denote tb c) s p (.done f) s₁ p₁ n₁)
    (h : Ev tb pr w n₀ (k (.ok f)) s₁ p a s' p' n) : Ev tb pr w n₀ (.call c none g l k) s p a s' p' (n₁ + 1 + n + 1) := fun ann b K H gd lv code st hb => by
  obtain ⟨kept, hst⟩ := step_call (tb := tb) (pr := pr) (w := w) (s := s) (c := c) (code := code) (p := p) (st := st) (gd g) (lv l) (fun x => (k x).wrap K H gd lv)
  refine segGo_one (endAt_off (fun f e => by cases e)) rfl hst ?_
  have z := h₁ ann b .pure .raise id id c (.ret (fun x => (k x).wrap K H gd lv) none (gd g) (lv l) code p kept :: st) (Nat.le_succ_of_le hb)
  rw [wrap_id] at z
  rw [Nat.add_assoc, Nat.add_comm 1 n]
  exact segGo_add z (segGo_one (endAt_cons hb) rfl rfl (h ann b K H gd lv code st hb))
theorem Ev.callAgain {c c₂ : Code} {g : Bool} {l : List Value} {k : Result → Sem α} {s₁ s₂ : Shared} {p₁ p₂ : Pos} {f : Flow} {n₁ n₂ : Nat} (h₁ : Ev tb pr w n₀ (denote tb c) s p (.again c₂) s₁ p₁ n₁)
    (hc : ∀ t : Thread, t.cur = .pure (.again c₂) → t.calm = true) (h₂ : Ev tb pr w n₀ (denote tb c₂) s₁ p₁ (.done f) s₂ p₂ n₂)
    (h : Ev tb pr w n₀ (k (.ok f)) s₂ p a s' p' n) : Ev tb pr w n₀ (.call c none g l k) s p a s' p' (n₁ + (n₂ + (n + 1) + 1) + 1) := fun ann b K H gd lv code st hb => by
  obtain ⟨kept, hst⟩ := step_call (tb := tb) (pr := pr) (w := w) (s := s) (c := c) (code := code) (p := p) (st := st) (gd g) (lv l) (fun x => (k x).wrap K H gd lv)
  refine segGo_one (endAt_off (fun f e => by cases e)) rfl hst ?_
  have z := h₁ ann b .pure .raise id id c (.ret (fun x => (k x).wrap K H gd lv) none (gd g) (lv l) code p kept :: st) (Nat.le_succ_of_le hb)
  rw [wrap_id] at z
  refine segGo_add z ?_
  refine segGo_one (endAt_cons hb) ?_ step_again ?_
  · unfold stepOk
    rw [hc _ rfl]
    rfl
  have z₂ := h₂ ann b .pure .raise id id c₂ (.ret (fun x => (k x).wrap K H gd lv) none (gd g) (lv l) code p (keptBy c c₂ (lv l) kept) :: st) (Nat.le_succ_of_le hb)
  rw [wrap_id] at z₂
  exact segGo_add z₂ (segGo_one (endAt_cons hb) rfl rfl (h ann b K H gd lv code st hb))
theorem Ev.bind {β : Type} {m : Sem α} {f : α → Sem β} {s₁ : Shared} {p₁ : Pos} {r : β} {n₁ : Nat} (h₁ : Ev tb pr w n₀ m s p a s₁ p₁ n₁) (h : Ev tb pr w n₀ (f a) s₁ p₁ r s' p' n) :
    Ev tb pr w n₀ (m.bind f) s p r s' p' (n₁ + n) := fun ann b K H gd lv code st hb => by
  rw [Sem.bind_eq_wrap, Sem.wrap_wrap]
  exact segGo_add (h₁ ann b _ _ _ _ code st hb) (h ann b K H gd lv code st hb)
theorem Ev.keep {m : Sem α} (vs : List Value) (h : Ev tb pr w n₀ m s p a s' p' n) : Ev tb pr w n₀ (m.keep vs) s p a s' p' n := fun ann b K H gd lv code st hb => by
  rw [Sem.keep_eq_wrap, Sem.wrap_wrap]
  exact h ann b _ _ _ _ code st hb
theorem Ev.holding {m : Sem α} {vs : List Value} (h : Ev tb pr w n₀ m s p a s' p' n) : Ev tb pr w n₀ (holding vs m) s p a s' p' n := by
  rw [holding_eq_keep]
  exact h.keep _
theorem Ev.onRaise {m : Sem α} {H : Value → Sem Unit} (h : Ev tb pr w n₀ m s p a s' p' n) : Ev tb pr w n₀ (m.onRaise H) s p a s' p' n := fun ann b K H' gd lv code st hb => by
  rw [Sem.onRaise_eq_wrap, Sem.wrap_wrap]
  exact h ann b _ _ _ _ code st hb
end
section
variable {tb : String → Option Builtin} {pr : Program} {w : World} {n₀ : Nat}
theorem Ev.pb {α β : Type} {m : Sem α} {f : α → Sem β} {s s' : Shared} {p p' : Pos} {a : α} {r : β} {n : Nat} (e : m = .pure a) (h : Ev tb pr w n₀ (f a) s p r s' p' n) : Ev tb pr w n₀ (m >>= f) s p r s' p' n := by
  subst e
  exact h
theorem Ev.sb {α β : Type} {m : Sem α} {f : α → Sem β} {s s₁ s' : Shared} {p p₁ p' : Pos} {a : α} {r : β} {n₁ n₂ n : Nat} (h₁ : Ev tb pr w n₀ m s p a s₁ p₁ n₁) (h : Ev tb pr w n₀ (f a) s₁ p₁ r s' p' n₂) (e : n = n₁ + n₂) :
    Ev tb pr w n₀ (m >>= f) s p r s' p' n := by
  subst e
  exact h₁.bind h
theorem Ev.to {α : Type} {m : Sem α} {s s' s'' : Shared} {p p' : Pos} {a : α} {n n' : Nat} (h : Ev tb pr w n₀ m s p a s' p' n) (es : s' = s'') (en : n = n') : Ev tb pr w n₀ m s p a s'' p' n' := by
  subst es en
  exact h
end
end Mine
namespace Mine
open PySem PySem.W PySem.Calls PyProof.Rows
section
variable {pr : Program} {w : World} {n₀ : Nat}

theorem special_hash (n : Int) (t : Tok) : specialOf (.int n t) "__hash__" = Sem.pure (some (.builtin "int.__hash__")) := by
  show typeLookup (.type "int") "__hash__" = _
  rw [typeLookup_type, builtinLookup_eq_fast]
  kernel_rfl
theorem bind_hash (n : Int) (t : Tok) : bindSpecial (.builtin "int.__hash__") (.int n t) = Sem.pure (.builtin "int.__hash__", [.int n t]) := by
  kernel_rfl
theorem denote_of {tb : String → Option Builtin} {id : String} {b : Builtin} {args : Args} (h : entryFor tb id = some b) : denote tb (.builtin id args) = b args := by
  unfold denote
  simp only [h]
theorem entry_hash : entryFor treeTable "int.__hash__" = some Builtin.«int.__hash__» := by
  rw [← table_eq_tree]
  exact entryFor_of_fast (by kernel_rfl)
theorem hash_tree (n : Int) (t : Tok) (h0 : 0 ≤ n) (h1 : n < 1152921504606846976) : Builtin.«int.__hash__» ⟨[.int n t], []⟩ = Sem.fresh fun k => .pure (.done (.ret (.int n k))) := by
  have e : Builtin.«int.__hash__» ⟨[.int n t], []⟩ = (retInt (if (if n < 0 then -((n.natAbs % (2 ^ 61 - 1 : Nat) : Nat) : Int) else ((n.natAbs % (2 ^ 61 - 1 : Nat) : Nat) : Int)) == -1 then -2 else (if n < 0 then -((n.natAbs % (2 ^ 61 - 1 : Nat) : Nat) : Int) else ((n.natAbs % (2 ^ 61 - 1 : Nat) : Nat) : Int)))) := by rfl
  rw [e, if_neg (show ¬ n < 0 by omega), Nat.mod_eq_of_lt (show n.natAbs < 2 ^ 61 - 1 by omega), Int.natAbs_of_nonneg h0]
  rw [if_neg (by simp; omega)]
  rfl

theorem ev_pyHash (n : Int) (t : Tok) (h0 : 0 ≤ n) (h1 : n < 1152921504606846976) (s : Shared) (p : Pos) : Ev treeTable pr w n₀ (pyHash (.int n t)) s p n { s with toks := s.toks + 1 } p 5 := by
  show Ev treeTable pr w n₀ (pyHashByItsType (.int n t)) s p n { s with toks := s.toks + 1 } p 5
  unfold pyHashByItsType callSpecialIfBoundUnlessNone? bindSpecialIfBound?
  simp only [special_hash]
  refine Ev.pb (a := ()) rfl ?_
  refine Ev.pb rfl ?_
  refine Ev.pb rfl ?_
  refine Ev.sb (s₁ := { s with toks := s.toks + 1 }) (p₁ := p) (n₁ := 5) (n₂ := 0) (a := some (.int n s.toks)) (Ev.holding ?_) ?_ rfl
  · refine Ev.sb (s₁ := s) (p₁ := p) (n₁ := 1) (n₂ := 4) (a := some (.builtin "int.__hash__", [.int n t])) ?_ ?_ rfl
    · refine Ev.pb rfl ?_
      refine Ev.ask ?_
      show Ev _ _ _ _ (if w.params.followText "special-get-raises" = true then _ else _) _ _ _ _ _ _
      split <;> exact .pure _ _ _
    · refine Ev.sb (s₁ := { s with toks := s.toks + 1 }) (p₁ := p) (n₁ := 4) (n₂ := 0) (a := Value.int n s.toks) ?_ (.pure _ _ _) rfl
      refine Ev.callAgain (c₂ := .builtin "int.__hash__" ⟨[.int n t], []⟩) (s₁ := s) (p₁ := p) (s₂ := { s with toks := s.toks + 1 }) (p₂ := p) (n₁ := 0) (n₂ := 1) (n := 0) (f := .ret (.int n s.toks)) (.pure _ _ _) ?_ ?_ (.pure _ _ _)
      · intro th e
        obtain ⟨cur, c, p, st⟩ := th
        subst e
        kernel_rfl
      · rw [denote_of entry_hash, hash_tree n t h0 h1]
        exact .fresh (.pure _ _ _)
  · show Ev _ _ _ _ (pyHashByItsType.reduced n) _ _ _ _ _ _
    unfold pyHashByItsType.reduced
    rw [if_pos (by simp; omega), if_neg (by simp; omega)]
    exact .pure _ _ _
end
end Mine
namespace Mine
open PySem PySem.W PySem.Calls PyProof.Rows

noncomputable abbrev hp (l : List Obj) (life : Life) : Heap := ⟨l.toArray, life⟩
theorem hp_push (l : List Obj) (life : Life) (o : Obj) : (hp l life).push o = hp (l ++ [o]) life := by
  show Heap.mk _ _ = Heap.mk _ _
  rw [List.push_toArray]
theorem hp_size (l : List Obj) (life : Life) : (hp l life).objs.size = l.length := by
  show l.toArray.size = _
  rw [List.size_toArray]
noncomputable abbrev dob (es : List DictEntry) : Obj := { cls := .type "dict", data := .dict es.toArray es.length }
theorem hp_dict {l : List Obj} {life : Life} {a : Nat} {es : List DictEntry} (h : l[a]? = some (dob es)) : (hp l life).get? a = some (dob es) := by
  unfold Heap.get?
  show (match l.toArray[a]? with | some ⟨_, _, .freed, _⟩ => none | o => o) = _
  rw [List.getElem?_toArray, h]
theorem modify_at {α : Type} (f : α → α) : ∀ (B : List α) (o : α) (r : List α), (B ++ o :: r).modify B.length f = B ++ f o :: r
  | [], _, _ => rfl
  | b :: B, o, r => by
    show b :: ((B ++ o :: r).modify B.length f) = _
    rw [modify_at f B o r]
    rfl
theorem hp_update (B : List Obj) (o : Obj) (r : List Obj) (life : Life) (f : Obj → Obj) : (hp (B ++ o :: r) life).update B.length f = hp (B ++ f o :: r) life := by
  show Heap.mk _ _ = Heap.mk _ _
  rw [List.modify_toArray, modify_at]
theorem at_len {α : Type} (B : List α) (o : α) (r : List α) : (B ++ o :: r)[B.length]? = some o := by
  simp

theorem places_none {es : List DictEntry} {h : Int} (hn : ∀ e ∈ es, e.hash ≠ h) : placesWithHash es.toArray.size (fun i => (es.toArray[i]?).map (·.hash)) h = [] := by
  unfold placesWithHash
  rw [List.filter_eq_nil_iff]
  intro i hi
  dsimp only
  rw [List.getElem?_toArray]
  cases e : es[i]? with
  | none => simp
  | some x =>
    have := hn x (List.mem_of_getElem? e)
    simpa using this

section
variable {pr : Program} {w : World} {n₀ : Nat}

theorem ev_dictFind {d : Addr} {n : Int} {t : Tok} {h : Int} {es : List DictEntry} {s : Shared} {p : Pos} (hd : s.heap.get? d = some (dob es)) (hn : ∀ e ∈ es, e.hash ≠ h) : Ev treeTable pr w n₀ (dictFind d (.int n t) h) s p none s p 1 := by
  unfold dictFind
  refine Ev.holding (Ev.sb (n₁ := 1) (n₂ := 0) (s₁ := s) (p₁ := p) (a := es.toArray) (.load hd (.pure _ _ _)) ?_ rfl)
  dsimp only
  rw [places_none hn]
  exact .pure _ _ _

theorem ev_find_any {d : Addr} {k : Value} {h : Int} {es : List DictEntry} {s : Shared} {p : Pos} (hk : ∃ n t, k = .int n t) (hd : s.heap.get? d = some (dob es)) (hn : ∀ e ∈ es, e.hash ≠ h) : Ev treeTable pr w n₀ (dictFind d k h) s p none s p 1 := by
  obtain ⟨n, t, rfl⟩ := hk
  exact ev_dictFind hd hn

theorem dob_push (es : List DictEntry) (e : DictEntry) : Obj.mapDictKeys (·.push e) (dob es) = dob (es ++ [e]) := by
  show Obj.mk _ _ (.dict (es.toArray.push e) (es.length + 1)) _ = Obj.mk _ _ (.dict (es ++ [e]).toArray (es ++ [e]).length) _
  rw [List.push_toArray, List.length_append]
  rfl

theorem ev_updateKeys {B r : List Obj} {life : Life} {es : List DictEntry} {e : DictEntry} {part : Option Value} {gs : Array GenState} {dr : Drawn} {tk : Nat} {os : OsState} {p : Pos} (hb : Nat.ble n₀ B.length = true) (hz : es.length ≤ 10000) :
    Ev treeTable pr w n₀ (updateDictKeys B.length (·.push e) part) ⟨hp (B ++ dob es :: r) life, gs, dr, tk, os⟩ p () ⟨hp (B ++ dob (es ++ [e]) :: r) life, gs, dr, tk, os⟩ p 3 := by
  unfold updateDictKeys
  have g : (hp (B ++ dob es :: r) life).get? B.length = some (dob es) := hp_dict (at_len _ _ _)
  have g' : (hp (B ++ dob (es ++ [e]) :: r) life).get? B.length = some (dob (es ++ [e])) := hp_dict (at_len _ _ _)
  refine Ev.sb (n₁ := 1) (n₂ := 2) (s₁ := ⟨hp (B ++ dob es :: r) life, gs, dr, tk, os⟩) (p₁ := p) (.load g (.pure _ _ _)) ?_ rfl
  refine Ev.sb (n₁ := 1) (n₂ := 1) (s₁ := ⟨hp (B ++ dob (es ++ [e]) :: r) life, gs, dr, tk, os⟩) (p₁ := p) (a := ()) ?_ ?_ rfl
  · refine Ev.update (.inl hb) g ?_
    show Ev _ _ _ _ _ ⟨(hp (B ++ dob es :: r) life).update B.length _, gs, dr, tk, os⟩ _ _ _ _ _
    rw [hp_update, dob_push]
    exact .pure _ _ _
  · refine Ev.sb (n₁ := 1) (n₂ := 0) (s₁ := ⟨hp (B ++ dob (es ++ [e]) :: r) life, gs, dr, tk, os⟩) (p₁ := p) (.load g' (.pure _ _ _)) ?_ rfl
    have : (dob (es ++ [e])).data.pastItsLine = none := by
      show (if (es ++ [e]).toArray.size > sizeLine + 1 then some "dict:memory" else none) = none
      rw [if_neg]
      rw [List.size_toArray, List.length_append, List.length_singleton]
      show ¬ (es.length + 1 > 2 ^ 24 + 1)
      lia
    rw [this]
    exact .pure _ _ _

theorem ev_dictSet {B r : List Obj} {life : Life} {es : List DictEntry} {n : Int} {t : Tok} {v : Value} {gs : Array GenState} {dr : Drawn} {tk : Nat} {os : OsState} {p : Pos} (hb : Nat.ble n₀ B.length = true) (hz : es.length ≤ 10000)
    (h0 : 0 ≤ n) (h1 : n < 1152921504606846976) (hn : ∀ e ∈ es, e.hash ≠ n) :
    Ev treeTable pr w n₀ (dictSet B.length (.int n t) v) ⟨hp (B ++ dob es :: r) life, gs, dr, tk, os⟩ p () ⟨hp (B ++ dob (es ++ [⟨n, .int n t, v⟩]) :: r) life, gs, dr, tk + 1, os⟩ p 10 := by
  unfold dictSet
  refine Ev.holding ?_
  refine Ev.sb (n₁ := 5) (n₂ := 5) (s₁ := ⟨hp (B ++ dob es :: r) life, gs, dr, tk + 1, os⟩) (p₁ := p) (a := n) (ev_pyHash n t h0 h1 _ p) ?_ rfl
  unfold dictSetHashed
  refine Ev.holding ?_
  refine Ev.sb (n₁ := 1) (n₂ := 4) (s₁ := ⟨hp (B ++ dob es :: r) life, gs, dr, tk + 1, os⟩) (p₁ := p) (ev_dictFind (hp_dict (at_len _ _ _)) hn) ?_ rfl
  refine Ev.sb (n₁ := 1) (n₂ := 3) (s₁ := ⟨hp (B ++ dob es :: r) life, gs, dr, tk + 1, os⟩) (p₁ := p) (a := ()) (.rule (.pure _ _ _)) ?_ rfl
  exact ev_updateKeys hb hz

/-- a key's tree, a value's tree -/
noncomputable abbrev kT (n : Int) : Sem Value := mkInt n
noncomputable abbrev vT (pos : Pos) (x : Str) : Sem Value := do
  let v ← mkText x
  standAt pos
  pure v
noncomputable abbrev tr (pos : Pos) (q : Int × Str) : Sem Value × Sem Value := (kT q.1, vT pos q.2)

noncomputable def ents : List (Int × Str) → Nat → List DictEntry
  | [], _ => []
  | (n, x) :: r, t => ⟨n, .int n t, .str x (t + 1)⟩ :: ents r (t + 3)
theorem ents_length : ∀ (ps : List (Int × Str)) (t : Nat), (ents ps t).length = ps.length
  | [], _ => rfl
  | (_, _) :: r, t => by rw [ents, List.length_cons, List.length_cons, ents_length r]
theorem ents_append : ∀ (ps qs : List (Int × Str)) (t : Nat), ents (ps ++ qs) t = ents ps t ++ ents qs (t + 3 * ps.length)
  | [], qs, t => by rw [List.nil_append, List.length_nil, Nat.mul_zero, Nat.add_zero]; rfl
  | (n, x) :: r, qs, t => by
    rw [List.cons_append, ents, ents, ents_append r qs, List.cons_append, List.length_cons, show t + 3 + 3 * r.length = t + 3 * (r.length + 1) by lia]

/-- strictly rising keys above lo, below 2^60 -/
noncomputable def Inc : Int → List (Int × Str) → Prop
  | _, [] => True
  | lo, (n, _) :: r => lo < n ∧ n < 1152921504606846976 ∧ Inc n r
noncomputable def incB : Int → List (Int × Str) → Bool
  | _, [] => true
  | lo, (n, _) :: r => decide (lo < n) && decide (n < 1152921504606846976) && incB n r
theorem inc_of : ∀ {lo : Int} {ps : List (Int × Str)}, incB lo ps = true → Inc lo ps
  | _, [], _ => trivial
  | lo, (n, x) :: r, h => by
    simp only [incB, Bool.and_eq_true, decide_eq_true_eq] at h
    exact ⟨h.1.1, h.1.2, inc_of h.2⟩

/-- the last key of a list above lo -/
noncomputable def top : Int → List (Int × Str) → Int
  | lo, [] => lo
  | _, (n, _) :: r => top n r
theorem top_ge : ∀ {lo : Int} {ps : List (Int × Str)}, Inc lo ps → lo ≤ top lo ps
  | lo, [], _ => Int.le_refl lo
  | lo, (n, x) :: r, h => Int.le_trans (Int.le_of_lt h.1) (top_ge h.2.2)
theorem ents_top : ∀ {lo : Int} {ps : List (Int × Str)} {t : Nat}, Inc lo ps → ∀ e ∈ ents ps t, e.hash ≤ top lo ps
  | lo, [], t, _, e, he => nomatch he
  | lo, (n, x) :: r, t, h, e, he => by
    rcases List.mem_cons.mp he with rfl | he
    · exact top_ge h.2.2
    · exact ents_top h.2.2 e he

noncomputable abbrev setBody (d : Addr) : Sem Value × Sem Value → PUnit → Sem (ForInStep PUnit) := fun x _ => match x with
  | (k, v) => do
    let kv ← k
    let vv ← holding [kv] v
    holding [kv, vv] (dictSet d kv vv)
    pure (ForInStep.yield PUnit.unit)

noncomputable def lastPos (pos p : Pos) : List (Int × Str) → Pos
  | [] => p
  | _ :: _ => pos
theorem lastPos_self (pos : Pos) : ∀ ps, lastPos pos pos ps = pos
  | [] => rfl
  | _ :: _ => rfl
theorem ev_sets {B r : List Obj} {life : Life} {gs : Array GenState} {dr : Drawn} {os : OsState} {pos : Pos} (hb : Nat.ble n₀ B.length = true) :
    ∀ (ps : List (Int × Str)) (es : List DictEntry) (lo : Int) (tk : Nat) (p : Pos), 0 ≤ lo → Inc lo ps → (∀ e ∈ es, e.hash ≤ lo) → es.length + ps.length ≤ 10000 →
    Ev treeTable pr w n₀ (forIn (ps.map (tr pos)) PUnit.unit (setBody B.length)) ⟨hp (B ++ dob es :: r) life, gs, dr, tk, os⟩ p PUnit.unit ⟨hp (B ++ dob (es ++ ents ps tk) :: r) life, gs, dr, tk + 3 * ps.length, os⟩ (lastPos pos p ps) (13 * ps.length)
  | [], es, lo, tk, p, _, _, _, _ => by rw [ents, List.append_nil]; exact .pure _ _ _
  | (n, x) :: ps, es, lo, tk, p, h0, hi, he, hz => by
    rw [List.length_cons] at hz
    have hn : 0 ≤ n := Int.le_trans h0 (Int.le_of_lt hi.1)
    have ih := ev_sets (r := r) (life := life) (gs := gs) (dr := dr) (os := os) (pos := pos) hb ps (es ++ [⟨n, .int n tk, .str x (tk + 1)⟩]) n (tk + 3) pos hn hi.2.2 (fun e hm => by
      rcases List.mem_append.mp hm with hm | hm
      · exact Int.le_trans (he e hm) (Int.le_of_lt hi.1)
      · rw [List.mem_singleton.mp hm]; exact Int.le_refl n) (by rw [List.length_append, List.length_singleton]; lia)
    rw [lastPos_self] at ih
    rw [List.map_cons, List.forIn_cons]
    refine Ev.sb (n₁ := 13) (n₂ := 13 * ps.length) (a := ForInStep.yield PUnit.unit) (s₁ := ⟨hp (B ++ dob (es ++ [⟨n, .int n tk, .str x (tk + 1)⟩]) :: r) life, gs, dr, tk + 3, os⟩) (p₁ := pos) ?_ ?_ (by rw [List.length_cons]; lia)
    · refine Ev.sb (n₁ := 1) (n₂ := 12) (a := .int n tk) (s₁ := ⟨hp (B ++ dob es :: r) life, gs, dr, tk + 1, os⟩) (p₁ := p) (.fresh (.pure _ _ _)) ?_ rfl
      refine Ev.sb (n₁ := 2) (n₂ := 10) (a := .str x (tk + 1)) (s₁ := ⟨hp (B ++ dob es :: r) life, gs, dr, tk + 2, os⟩) (p₁ := pos) (Ev.holding (.fresh (.at (.pure _ _ _)))) ?_ rfl
      refine Ev.sb (n₁ := 10) (n₂ := 0) (a := ()) (s₁ := ⟨hp (B ++ dob (es ++ [⟨n, .int n tk, .str x (tk + 1)⟩]) :: r) life, gs, dr, tk + 3, os⟩) (p₁ := pos) (Ev.holding (ev_dictSet hb (by lia) hn hi.2.1 fun e hm => Int.ne_of_lt (Int.lt_of_le_of_lt (he e hm) hi.1))) (.pure _ _ _) rfl
    · have e : es ++ ents ((n, x) :: ps) tk = es ++ [⟨n, .int n tk, .str x (tk + 1)⟩] ++ ents ps (tk + 3) := by rw [ents, List.append_assoc]; rfl
      rw [e, List.length_cons, show tk + 3 * (ps.length + 1) = tk + 3 + 3 * ps.length by lia]
      exact ih
end
end Mine
namespace Mine
open PySem PySem.W PySem.Calls PyProof.Rows
section
variable {pr : Program} {w : World} {n₀ : Nat}

theorem ev_subLong {Cl : List Obj} {life : Life} {gs : Array GenState} {dr : Drawn} {os : OsState} {pos : Pos} {ps : List (Int × Str)} {lo : Int} {tk : Nat} {p : Pos} (hb : Nat.ble n₀ Cl.length = true) (h0 : 0 ≤ lo) (hi : Inc lo ps) (hl : ps.length = 17) :
    Ev treeTable pr w n₀ (subDict (ps.map (tr pos))) ⟨hp Cl life, gs, dr, tk, os⟩ p Cl.length ⟨hp (Cl ++ [dob (ents ps tk)]) life, gs, dr, tk + 51, os⟩ pos 223 := by
  unfold subDict
  refine Ev.sb (n₁ := 1) (n₂ := 222) (a := Cl.length) (s₁ := ⟨hp (Cl ++ [dob []]) life, gs, dr, tk, os⟩) (p₁ := p) ?_ ?_ rfl
  · refine Ev.alloc ?_
    show Ev _ _ _ _ (.pure (hp Cl life).objs.size) ⟨(hp Cl life).push _, gs, dr, tk, os⟩ _ _ _ _ _
    rw [hp_push, hp_size]
    exact .pure _ _ _
  · refine Ev.sb (n₁ := 222) (n₂ := 0) (a := ()) (s₁ := ⟨hp (Cl ++ [dob (ents ps tk)]) life, gs, dr, tk + 51, os⟩) (p₁ := pos) (Ev.holding ?_) (.pure _ _ _) rfl
    rw [if_neg (by rw [List.length_map, hl]; lia)]
    refine Ev.sb (n₁ := 1) (n₂ := 221) (a := ()) (s₁ := ⟨hp (Cl ++ [dob []]) life, gs, dr, tk, os⟩) (p₁ := p) (.rule (.pure _ _ _)) ?_ rfl
    have z := ev_sets (pr := pr) (w := w) (r := []) (life := life) (gs := gs) (dr := dr) (os := os) (pos := pos) hb ps [] lo tk p h0 hi (fun e he => nomatch he) (by rw [hl]; decide)
    rw [hl, List.nil_append, show lastPos pos p ps = pos by cases ps with | nil => cases hl | cons => rfl] at z
    exact Ev.sb (n₁ := 221) (n₂ := 0) z (.pure _ _ _) rfl

noncomputable def vals : List (Int × Str) → Nat → List (Value × Value)
  | [], _ => []
  | (n, x) :: r, t => (.int n t, .str x (t + 1)) :: vals r (t + 2)
noncomputable def ents2 : List (Int × Str) → Nat → List DictEntry
  | [], _ => []
  | (n, x) :: r, t => ⟨n, .int n t, .str x (t + 1)⟩ :: ents2 r (t + 2)
theorem ents2_length : ∀ (ps : List (Int × Str)) (t : Nat), (ents2 ps t).length = ps.length
  | [], _ => rfl
  | (_, _) :: r, t => by rw [ents2, List.length_cons, List.length_cons, ents2_length r]

theorem ev_pairs {H : Heap} {gs : Array GenState} {dr : Drawn} {os : OsState} {pos : Pos} : ∀ (ps : List (Int × Str)) (tk : Nat) (p : Pos),
    Ev treeTable pr w n₀ (evalPairs (ps.map (tr pos))) ⟨H, gs, dr, tk, os⟩ p (vals ps tk) ⟨H, gs, dr, tk + 2 * ps.length, os⟩ (lastPos pos p ps) (3 * ps.length)
  | [], tk, p => .pure _ _ _
  | (n, x) :: ps, tk, p => by
    have ih := ev_pairs (H := H) (gs := gs) (dr := dr) (os := os) (pos := pos) ps (tk + 2) pos
    rw [lastPos_self] at ih
    rw [List.map_cons, evalPairs, List.length_cons, show tk + 2 * (ps.length + 1) = tk + 2 + 2 * ps.length by lia]
    refine Ev.sb (n₁ := 1) (n₂ := 2 + 3 * ps.length) (a := .int n tk) (s₁ := ⟨H, gs, dr, tk + 1, os⟩) (p₁ := p) (.fresh (.pure _ _ _)) ?_ (by lia)
    refine Ev.sb (n₁ := 2) (n₂ := 3 * ps.length) (a := .str x (tk + 1)) (s₁ := ⟨H, gs, dr, tk + 2, os⟩) (p₁ := pos) (Ev.holding (.fresh (.at (.pure _ _ _)))) ?_ rfl
    exact Ev.sb (n₁ := 3 * ps.length) (n₂ := 0) (Ev.holding ih) (.pure _ _ _) rfl

noncomputable abbrev setBody2 (d : Addr) : Value × Value → PUnit → Sem (ForInStep PUnit) := fun x _ => match x with
  | (k, v) => do
    dictSet d k v
    pure (ForInStep.yield PUnit.unit)
theorem ev_sets2 {B r : List Obj} {life : Life} {gs : Array GenState} {dr : Drawn} {os : OsState} {p : Pos} (hb : Nat.ble n₀ B.length = true) :
    ∀ (ps : List (Int × Str)) (es : List DictEntry) (lo : Int) (t tk : Nat), 0 ≤ lo → Inc lo ps → (∀ e ∈ es, e.hash ≤ lo) → es.length + ps.length ≤ 10000 →
    Ev treeTable pr w n₀ (forIn (vals ps t) PUnit.unit (setBody2 B.length)) ⟨hp (B ++ dob es :: r) life, gs, dr, tk, os⟩ p PUnit.unit ⟨hp (B ++ dob (es ++ ents2 ps t) :: r) life, gs, dr, tk + ps.length, os⟩ p (10 * ps.length)
  | [], es, lo, t, tk, _, _, _, _ => by rw [ents2, List.append_nil]; exact .pure _ _ _
  | (n, x) :: ps, es, lo, t, tk, h0, hi, he, hz => by
    rw [List.length_cons] at hz
    have hn : 0 ≤ n := Int.le_trans h0 (Int.le_of_lt hi.1)
    have ih := ev_sets2 (r := r) (life := life) (gs := gs) (dr := dr) (os := os) (p := p) hb ps (es ++ [⟨n, .int n t, .str x (t + 1)⟩]) n (t + 2) (tk + 1) hn hi.2.2 (fun e hm => by
      rcases List.mem_append.mp hm with hm | hm
      · exact Int.le_trans (he e hm) (Int.le_of_lt hi.1)
      · rw [List.mem_singleton.mp hm]; exact Int.le_refl n) (by rw [List.length_append, List.length_singleton]; lia)
    rw [vals, List.forIn_cons]
    refine Ev.sb (n₁ := 10) (n₂ := 10 * ps.length) (a := ForInStep.yield PUnit.unit) (s₁ := ⟨hp (B ++ dob (es ++ [⟨n, .int n t, .str x (t + 1)⟩]) :: r) life, gs, dr, tk + 1, os⟩) (p₁ := p) ?_ ?_ (by rw [List.length_cons]; lia)
    · exact Ev.sb (n₁ := 10) (n₂ := 0) (a := ()) (s₁ := ⟨hp (B ++ dob (es ++ [⟨n, .int n t, .str x (t + 1)⟩]) :: r) life, gs, dr, tk + 1, os⟩) (p₁ := p) (ev_dictSet hb (by lia) hn hi.2.1 fun e hm => Int.ne_of_lt (Int.lt_of_le_of_lt (he e hm) hi.1)) (.pure _ _ _) rfl
    · have e : es ++ ents2 ((n, x) :: ps) t = es ++ [⟨n, .int n t, .str x (t + 1)⟩] ++ ents2 ps (t + 2) := by rw [ents2, List.append_assoc]; rfl
      rw [e, List.length_cons, show tk + (ps.length + 1) = tk + 1 + ps.length by lia]
      exact ih

theorem ev_subShort {Cl : List Obj} {life : Life} {gs : Array GenState} {dr : Drawn} {os : OsState} {pos : Pos} {ps : List (Int × Str)} {lo : Int} {tk : Nat} {p : Pos} (hb : Nat.ble n₀ Cl.length = true) (h0 : 0 ≤ lo) (hi : Inc lo ps) (hl : ps.length ≤ 15) :
    Ev treeTable pr w n₀ (subDict (ps.map (tr pos))) ⟨hp Cl life, gs, dr, tk, os⟩ p Cl.length ⟨hp (Cl ++ [dob (ents2 ps tk)]) life, gs, dr, tk + 3 * ps.length, os⟩ (lastPos pos p ps) (13 * ps.length + 1) := by
  unfold subDict
  refine Ev.sb (n₁ := 1) (n₂ := 13 * ps.length) (a := Cl.length) (s₁ := ⟨hp (Cl ++ [dob []]) life, gs, dr, tk, os⟩) (p₁ := p) ?_ ?_ (by lia)
  · refine Ev.alloc ?_
    show Ev _ _ _ _ (.pure (hp Cl life).objs.size) ⟨(hp Cl life).push _, gs, dr, tk, os⟩ _ _ _ _ _
    rw [hp_push, hp_size]
    exact .pure _ _ _
  · refine Ev.sb (n₁ := 13 * ps.length) (n₂ := 0) (a := ()) (s₁ := ⟨hp (Cl ++ [dob (ents2 ps tk)]) life, gs, dr, tk + 3 * ps.length, os⟩) (p₁ := lastPos pos p ps) (Ev.holding ?_) (.pure _ _ _) rfl
    rw [if_pos (by rw [List.length_map]; exact hl)]
    refine Ev.sb (n₁ := 3 * ps.length) (n₂ := 10 * ps.length) (ev_pairs ps tk p) (Ev.holding ?_) (by lia)
    have z := ev_sets2 (pr := pr) (w := w) (r := []) (life := life) (gs := gs) (dr := dr) (os := os) (p := lastPos pos p ps) hb ps [] lo tk (tk + 2 * ps.length) h0 hi (fun e he => nomatch he) (by rw [List.length_nil]; lia)
    rw [List.nil_append, show tk + 2 * ps.length + ps.length = tk + 3 * ps.length by lia] at z
    exact Ev.sb (n₁ := 10 * ps.length) (n₂ := 0) z (.pure _ _ _) rfl

/-- rising entries under int keys above lo -/
noncomputable def RiseE : Int → List DictEntry → Prop
  | _, [] => True
  | lo, e :: r => lo < e.hash ∧ (∃ n t, e.key = .int n t) ∧ RiseE e.hash r
theorem rise_ents : ∀ {lo : Int} {ps : List (Int × Str)} {t : Nat}, Inc lo ps → RiseE lo (ents ps t)
  | _, [], _, _ => trivial
  | lo, (n, x) :: r, t, h => ⟨h.1, ⟨n, t, rfl⟩, rise_ents h.2.2⟩
theorem rise_ents2 : ∀ {lo : Int} {ps : List (Int × Str)} {t : Nat}, Inc lo ps → RiseE lo (ents2 ps t)
  | _, [], _, _ => trivial
  | lo, (n, x) :: r, t, h => ⟨h.1, ⟨n, t, rfl⟩, rise_ents2 h.2.2⟩

theorem isDict : isSubtype (.type "dict") (.type "dict") = Sem.pure true := by
  kernel_rfl
theorem dictIter : typeLookup (.type "dict") "__iter__" = Sem.pure (some (.builtin "dict.__iter__")) := by
  rw [typeLookup_type, builtinLookup_eq_fast]
  kernel_rfl

noncomputable abbrev mergeBody (d a : Addr) (epoch : Nat) : Nat → PUnit → Sem (ForInStep PUnit) := fun i _ => do
  match (← dictEntries a)[i]? with
  | some e => do
    holding [e.key, e.val] (dictPut d e.hash e.key e.val)
    if ((← dictEpoch a) != epoch) = true then do
      unsupported "dict.changed-during-merge"
      pure (ForInStep.yield PUnit.unit)
    else pure (ForInStep.yield PUnit.unit)
  | _ => do
    unsupported "dict.changed-during-merge"
    pure (ForInStep.yield PUnit.unit)

theorem ev_merge {B M : List Obj} {life : Life} {gs : Array GenState} {dr : Drawn} {os : OsState} {p : Pos} {tk : Nat} {fs : List DictEntry} (hb : Nat.ble n₀ B.length = true) :
    ∀ (rest pre es : List DictEntry) (lo : Int), fs = pre ++ rest → RiseE lo rest → (∀ e ∈ es, e.hash ≤ lo) → es.length + rest.length ≤ 10000 →
    Ev treeTable pr w n₀ (forIn (List.range' pre.length rest.length) PUnit.unit (mergeBody B.length (B.length + 1 + M.length) fs.length)) ⟨hp (B ++ dob es :: (M ++ [dob fs])) life, gs, dr, tk, os⟩ p PUnit.unit
      ⟨hp (B ++ dob (es ++ rest) :: (M ++ [dob fs])) life, gs, dr, tk, os⟩ p (6 * rest.length)
  | [], pre, es, lo, _, _, _, _ => by rw [List.append_nil]; exact .pure _ _ _
  | e :: rest, pre, es, lo, hf, hr, he, hz => by
    rw [List.length_cons] at hz
    have ih := ev_merge (M := M) (life := life) (gs := gs) (dr := dr) (os := os) (p := p) (tk := tk) (fs := fs) hb rest (pre ++ [e]) (es ++ [e]) e.hash (by rw [hf, List.append_assoc]; rfl) hr.2.2 (fun x hm => by
      rcases List.mem_append.mp hm with hm | hm
      · exact Int.le_trans (he x hm) (Int.le_of_lt hr.1)
      · rw [List.mem_singleton.mp hm]; exact Int.le_refl _) (by rw [List.length_append, List.length_singleton]; lia)
    have ga : ∀ es', (hp (B ++ dob es' :: (M ++ [dob fs])) life).get? (B.length + 1 + M.length) = some (dob fs) := fun es' => hp_dict (by
      rw [show B ++ dob es' :: (M ++ [dob fs]) = (B ++ dob es' :: M) ++ dob fs :: [] by simp, show B.length + 1 + M.length = (B ++ dob es' :: M).length by simp; lia]
      exact at_len _ _ _)
    have hat : fs.toArray[pre.length]? = some e := by rw [List.getElem?_toArray, hf]; exact at_len _ _ _
    rw [List.length_cons, List.range'_succ, List.forIn_cons]
    refine Ev.sb (n₁ := 6) (n₂ := 6 * rest.length) (a := ForInStep.yield PUnit.unit) (s₁ := ⟨hp (B ++ dob (es ++ [e]) :: (M ++ [dob fs])) life, gs, dr, tk, os⟩) (p₁ := p) ?_ ?_ (by lia)
    · refine Ev.sb (n₁ := 1) (n₂ := 5) (a := fs.toArray) (s₁ := ⟨hp (B ++ dob es :: (M ++ [dob fs])) life, gs, dr, tk, os⟩) (p₁ := p) (.load (ga _) (.pure _ _ _)) ?_ rfl
      rw [hat]
      refine Ev.sb (n₁ := 4) (n₂ := 1) (a := ()) (s₁ := ⟨hp (B ++ dob (es ++ [e]) :: (M ++ [dob fs])) life, gs, dr, tk, os⟩) (p₁ := p) (Ev.holding ?_) ?_ rfl
      · unfold dictPut
        refine Ev.sb (n₁ := 1) (n₂ := 3) (a := none) (s₁ := ⟨hp (B ++ dob es :: (M ++ [dob fs])) life, gs, dr, tk, os⟩) (p₁ := p) (ev_find_any hr.2.1 (hp_dict (at_len _ _ _)) fun x hm => Int.ne_of_lt (Int.lt_of_le_of_lt (he x hm) hr.1)) ?_ rfl
        exact ev_updateKeys hb (by lia)
      · refine Ev.sb (n₁ := 1) (n₂ := 0) (a := fs.length) (s₁ := ⟨hp (B ++ dob (es ++ [e]) :: (M ++ [dob fs])) life, gs, dr, tk, os⟩) (p₁ := p) (.load (ga _) (.pure _ _ _)) ?_ rfl
        rw [if_neg (by simp)]
        exact .pure _ _ _
    · rw [show es ++ e :: rest = es ++ [e] ++ rest by simp]
      rw [List.length_append, List.length_singleton] at ih
      exact ih

theorem ev_mergeMapping {B M : List Obj} {life : Life} {gs : Array GenState} {dr : Drawn} {os : OsState} {p : Pos} {tk : Nat} {es fs : List DictEntry} {lo : Int} (hb : Nat.ble n₀ B.length = true) (hB : 2 ≤ B.length) (hne : es ≠ [])
    (hr : RiseE lo fs) (he : ∀ e ∈ es, e.hash ≤ lo) (hz : es.length + fs.length ≤ 10000) :
    Ev treeTable pr w n₀ (mergeMapping B.length (.ref (B.length + 1 + M.length)) false) ⟨hp (B ++ dob es :: (M ++ [dob fs])) life, gs, dr, tk, os⟩ p () ⟨hp (B ++ dob (es ++ fs) :: (M ++ [dob fs])) life, gs, dr, tk, os⟩ p (6 * fs.length + 5) := by
  have ga : ∀ es', (hp (B ++ dob es' :: (M ++ [dob fs])) life).get? (B.length + 1 + M.length) = some (dob fs) := fun es' => hp_dict (by
    rw [show B ++ dob es' :: (M ++ [dob fs]) = (B ++ dob es' :: M) ++ dob fs :: [] by simp, show B.length + 1 + M.length = (B ++ dob es' :: M).length by simp; lia]
    exact at_len _ _ _)
  unfold mergeMapping isInstance specialOf typeOf
  refine Ev.sb (n₁ := 1) (n₂ := 6 * fs.length + 4) (a := true) (s₁ := ⟨hp (B ++ dob es :: (M ++ [dob fs])) life, gs, dr, tk, os⟩) (p₁ := p) ?_ ?_ (by lia)
  · refine Ev.sb (n₁ := 1) (n₂ := 0) (a := .type "dict") (s₁ := ⟨hp (B ++ dob es :: (M ++ [dob fs])) life, gs, dr, tk, os⟩) (p₁ := p) (.load (ga _) (.pure _ _ _)) ?_ rfl
    rw [isDict]
    exact .pure _ _ _
  refine Ev.sb (n₁ := 1) (n₂ := 6 * fs.length + 3) (a := some (.builtin "dict.__iter__")) (s₁ := ⟨hp (B ++ dob es :: (M ++ [dob fs])) life, gs, dr, tk, os⟩) (p₁ := p) ?_ ?_ (by lia)
  · refine Ev.sb (n₁ := 1) (n₂ := 0) (a := .type "dict") (s₁ := ⟨hp (B ++ dob es :: (M ++ [dob fs])) life, gs, dr, tk, os⟩) (p₁ := p) (.load (ga _) (.pure _ _ _)) ?_ rfl
    rw [dictIter]
    exact .pure _ _ _
  refine Ev.pb (a := true) rfl ?_
  dsimp only
  rw [if_neg (by
    rw [beq_iff_eq]
    intro h
    have h' : B.length + 1 + M.length = 1 := h
    lia)]
  refine Ev.sb (n₁ := 1) (n₂ := 6 * fs.length + 2) (a := es.toArray) (s₁ := ⟨hp (B ++ dob es :: (M ++ [dob fs])) life, gs, dr, tk, os⟩) (p₁ := p) (.load (hp_dict (at_len _ _ _)) (.pure _ _ _)) ?_ (by lia)
  rw [if_neg (by simpa using hne)]
  refine Ev.sb (n₁ := 1) (n₂ := 6 * fs.length + 1) (a := fs.toArray) (s₁ := ⟨hp (B ++ dob es :: (M ++ [dob fs])) life, gs, dr, tk, os⟩) (p₁ := p) (.load (ga _) (.pure _ _ _)) ?_ (by lia)
  refine Ev.sb (n₁ := 1) (n₂ := 6 * fs.length) (a := fs.length) (s₁ := ⟨hp (B ++ dob es :: (M ++ [dob fs])) life, gs, dr, tk, os⟩) (p₁ := p) (.load (ga _) (.pure _ _ _)) ?_ (by lia)
  have z := ev_merge (pr := pr) (w := w) (M := M) (life := life) (gs := gs) (dr := dr) (os := os) (p := p) (tk := tk) (fs := fs) hb fs [] es lo rfl hr he hz
  rw [List.length_nil, ← List.range_eq_range'] at z
  refine Ev.sb (n₁ := 6 * fs.length) (n₂ := 0) (a := ()) (s₁ := ⟨hp (B ++ dob (es ++ fs) :: (M ++ [dob fs])) life, gs, dr, tk, os⟩) (p₁ := p) ?_ (.pure _ _ _) rfl
  rw [List.size_toArray]
  exact z
end
end Mine
namespace Mine
open PySem PySem.W PySem.Calls PyProof.Rows

noncomputable abbrev P2 := Sem Value × Sem Value
noncomputable abbrev It := Option (Sem Value) × Sem Value
noncomputable abbrev someK (q : P2) : It := (some q.1, q.2)
noncomputable abbrev flushF : List P2 → Option Addr → Sem (Option Addr) := fun run main =>
  if run.isEmpty = true then pure main else match main with
    | none => do
      let a ← subDict run
      pure (some a)
    | some d => do
      let sub ← holding [.ref d] (subDict run)
      (holding [.ref d, .ref sub] (mergeMapping d (.ref sub) false)).onRaise fun x => do
        let _ ← holding [.ref d, x] (runValue (.builtin "proto.let_go" {}))
        pure ()
      pure (some d)

section
variable {f : It → Option Addr × List P2 → Sem (ForInStep (Option Addr × List P2))}
theorem acc (hf : ∀ k v main run, f (some k, v) (main, run) = if ((run ++ [(k, v)]).length == 17) = true then (flushF (run ++ [(k, v)]) main >>= fun m => pure (ForInStep.yield (m, []))) else pure (ForInStep.yield (main, run ++ [(k, v)]))) :
    ∀ (c : List P2) (rest : List It) (main : Option Addr) (r : List P2), r.length + c.length < 17 → forIn (c.map someK ++ rest) (main, r) f = forIn rest (main, r ++ c) f
  | [], rest, main, r, _ => by rw [List.map_nil, List.nil_append, List.append_nil]
  | (k, v) :: c, rest, main, r, h => by
    rw [List.length_cons] at h
    rw [List.map_cons, List.cons_append, List.forIn_cons]
    show f (some k, v) (main, r) >>= _ = _
    rw [hf, if_neg (by rw [List.length_append, List.length_singleton, beq_iff_eq]; lia)]
    show forIn (c.map someK ++ rest) (main, r ++ [(k, v)]) f = _
    rw [acc hf c rest main (r ++ [(k, v)]) (by rw [List.length_append, List.length_singleton]; lia), List.append_assoc]
    rfl
theorem chunk (hf : ∀ k v main run, f (some k, v) (main, run) = if ((run ++ [(k, v)]).length == 17) = true then (flushF (run ++ [(k, v)]) main >>= fun m => pure (ForInStep.yield (m, []))) else pure (ForInStep.yield (main, run ++ [(k, v)])))
    (c : List P2) (rest : List It) (main : Option Addr) (h : c.length = 17) : forIn (c.map someK ++ rest) (main, []) f = (flushF c main >>= fun m => forIn rest (m, []) f) := by
  obtain ⟨c', q, rfl⟩ : ∃ c' q, c = c' ++ [q] := by
    rcases List.eq_nil_or_concat c with e | ⟨c', q, e⟩
    · subst e; cases h
    · exact ⟨c', q, by rw [e, List.concat_eq_append]⟩
  obtain ⟨k, v⟩ := q
  rw [List.length_append, List.length_singleton] at h
  rw [List.map_append, List.append_assoc, acc hf c' _ main [] (by rw [List.length_nil]; lia), List.nil_append, List.map_cons, List.map_nil, List.cons_append, List.nil_append, List.forIn_cons]
  show f (some k, v) (main, c') >>= _ = _
  rw [hf, if_pos (by rw [List.length_append, List.length_singleton, beq_iff_eq]; lia)]
  rw [bind_assoc]
  rfl
end

section
variable {pr : Program} {w : World} {n₀ : Nat}
theorem inc_append : ∀ {lo : Int} {a b : List (Int × Str)}, Inc lo (a ++ b) → Inc lo a ∧ Inc (top lo a) b
  | lo, [], b, h => ⟨trivial, h⟩
  | lo, (n, x) :: a, b, h => ⟨⟨h.1, h.2.1, (inc_append h.2.2).1⟩, (inc_append h.2.2).2⟩
theorem isEmpty_of {c : List (Int × Str)} {pos : Pos} (h : c ≠ []) : ¬ ((c.map (tr pos)).isEmpty = true) := by
  cases c with
  | nil => exact absurd rfl h
  | cons => simp
theorem ne_of_len {c : List (Int × Str)} (h : c.length = 17) : c ≠ [] := by rintro rfl; cases h

theorem ev_flushFirst {B : List Obj} {life : Life} {gs : Array GenState} {dr : Drawn} {os : OsState} {pos : Pos} {c : List (Int × Str)} {lo : Int} {tk : Nat} {p : Pos} (hb : Nat.ble n₀ B.length = true) (h0 : 0 ≤ lo) (hi : Inc lo c) (hl : c.length = 17) :
    Ev treeTable pr w n₀ (flushF (c.map (tr pos)) none) ⟨hp B life, gs, dr, tk, os⟩ p (some B.length) ⟨hp (B ++ [dob (ents c tk)]) life, gs, dr, tk + 51, os⟩ pos 223 := by
  unfold flushF
  rw [if_neg (isEmpty_of (ne_of_len hl))]
  exact Ev.sb (n₁ := 223) (n₂ := 0) (ev_subLong hb h0 hi hl) (.pure _ _ _) rfl

theorem ev_flushMore {B M : List Obj} {life : Life} {gs : Array GenState} {dr : Drawn} {os : OsState} {es fs : List DictEntry} {run : List P2} {lo : Int} {tk tk' : Nat} {p p' : Pos} {n : Nat} (hb : Nat.ble n₀ B.length = true) (hB : 2 ≤ B.length) (hne : es ≠ []) (hrun : ¬ (run.isEmpty = true))
    (hr : RiseE lo fs) (he : ∀ e ∈ es, e.hash ≤ lo) (hz : es.length + fs.length ≤ 10000)
    (sub : Ev treeTable pr w n₀ (subDict run) ⟨hp (B ++ dob es :: M) life, gs, dr, tk, os⟩ p (B ++ dob es :: M).length ⟨hp ((B ++ dob es :: M) ++ [dob fs]) life, gs, dr, tk', os⟩ p' n) :
    Ev treeTable pr w n₀ (flushF run (some B.length)) ⟨hp (B ++ dob es :: M) life, gs, dr, tk, os⟩ p (some B.length) ⟨hp (B ++ dob (es ++ fs) :: (M ++ [dob fs])) life, gs, dr, tk', os⟩ p' (n + (6 * fs.length + 5)) := by
  unfold flushF
  rw [if_neg hrun]
  refine Ev.sb (n₁ := n) (n₂ := 6 * fs.length + 5) (Ev.holding sub) ?_ rfl
  rw [show (B ++ dob es :: M).length = B.length + 1 + M.length by simp; lia, show (B ++ dob es :: M) ++ [dob fs] = B ++ dob es :: (M ++ [dob fs]) by simp]
  exact Ev.sb (n₁ := 6 * fs.length + 5) (n₂ := 0) (Ev.onRaise (Ev.holding (ev_mergeMapping hb hB hne hr he hz))) (.pure _ _ _) rfl

theorem ev_tail {f : It → Option Addr × List P2 → Sem (ForInStep (Option Addr × List P2))}
    (hf : ∀ k v main run, f (some k, v) (main, run) = if ((run ++ [(k, v)]).length == 17) = true then (flushF (run ++ [(k, v)]) main >>= fun m => pure (ForInStep.yield (m, []))) else pure (ForInStep.yield (main, run ++ [(k, v)])))
    {s : Shared} {p : Pos} {d : Option Addr} (l : List P2) (h : l.length < 17) : Ev treeTable pr w n₀ (forIn (l.map someK) (d, []) f) s p (d, l) s p 0 := by
  have a0 := acc hf l [] d [] (by rw [List.length_nil]; lia)
  rw [List.append_nil, List.nil_append] at a0
  rw [a0]
  exact .pure _ _ _

noncomputable def midE : List (List (Int × Str)) → Nat → List DictEntry
  | [], _ => []
  | c :: r, t => ents c t ++ midE r (t + 51)
noncomputable def midO : List (List (Int × Str)) → Nat → List Obj
  | [], _ => []
  | c :: r, t => dob (ents c t) :: midO r (t + 51)
noncomputable def Full : List (List (Int × Str)) → Prop
  | [] => True
  | c :: r => c.length = 17 ∧ Full r

theorem ev_mid {f : It → Option Addr × List P2 → Sem (ForInStep (Option Addr × List P2))}
    (hf : ∀ k v main run, f (some k, v) (main, run) = if ((run ++ [(k, v)]).length == 17) = true then (flushF (run ++ [(k, v)]) main >>= fun m => pure (ForInStep.yield (m, []))) else pure (ForInStep.yield (main, run ++ [(k, v)])))
    {B : List Obj} {life : Life} {gs : Array GenState} {dr : Drawn} {os : OsState} {pos : Pos} (hb : Nat.ble n₀ B.length = true) (hB : 2 ≤ B.length) {rest : List It} {r : Option Addr × List P2} {s' : Shared} {p' : Pos} :
    ∀ (cs : List (List (Int × Str))) (es : List DictEntry) (M : List Obj) (lo : Int) (tk n : Nat), 0 ≤ lo → Full cs → Inc lo cs.flatten → es ≠ [] → (∀ e ∈ es, e.hash ≤ lo) → es.length + 17 * cs.length ≤ 5000 →
    Ev treeTable pr w n₀ (forIn rest (some B.length, []) f) ⟨hp (B ++ dob (es ++ midE cs tk) :: (M ++ midO cs tk)) life, gs, dr, tk + 51 * cs.length, os⟩ pos r s' p' n →
    Ev treeTable pr w n₀ (forIn ((cs.flatten.map (tr pos)).map someK ++ rest) (some B.length, []) f) ⟨hp (B ++ dob es :: M) life, gs, dr, tk, os⟩ pos r s' p' (330 * cs.length + n)
  | [], es, M, lo, tk, n, _, _, _, _, _, _, h => by
    rw [midE, midO, List.append_nil, List.append_nil, List.length_nil, Nat.mul_zero, Nat.add_zero] at h
    rw [List.flatten_nil, List.map_nil, List.map_nil, List.nil_append, List.length_nil, Nat.mul_zero, Nat.zero_add]
    exact h
  | c :: cs, es, M, lo, tk, n, h0, hF, hi, hne, he, hz, h => by
    rw [List.flatten_cons] at hi
    rw [List.length_cons] at hz
    obtain ⟨i1, i2⟩ := inc_append hi
    have et : ∀ e ∈ es ++ ents c tk, e.hash ≤ top lo c := fun e hm => by
      rcases List.mem_append.mp hm with hm | hm
      · exact Int.le_trans (he e hm) (top_ge i1)
      · exact ents_top i1 e hm
    have lc : (ents c tk).length = 17 := (ents_length c tk).trans hF.1
    have z := ev_mid hf hb hB cs (es ++ ents c tk) (M ++ [dob (ents c tk)]) (top lo c) (tk + 51) n (Int.le_trans h0 (top_ge i1)) hF.2 i2 (by intro q; exact hne (List.append_eq_nil_iff.mp q).1) et (by rw [List.length_append, lc]; lia) (by
      rw [midE, midO, List.length_cons, show tk + 51 * (cs.length + 1) = tk + 51 + 51 * cs.length by lia] at h
      rw [List.append_assoc, List.append_assoc]
      exact h)
    rw [List.flatten_cons, List.map_append, List.map_append, List.append_assoc, chunk hf _ _ _ (by rw [List.length_map]; exact hF.1)]
    have y := ev_flushMore (pr := pr) (w := w) (M := M) (life := life) (gs := gs) (dr := dr) (os := os) (fs := ents c tk) (run := c.map (tr pos)) (tk := tk) (tk' := tk + 51) (p := pos) (p' := pos) (n := 223) hb hB hne (isEmpty_of (ne_of_len hF.1)) (rise_ents i1) he (by rw [lc]; lia)
      (ev_subLong (by simp only [List.length_append, List.length_cons]; exact Nat.ble_eq_true_of_le (Nat.le_trans (Nat.le_of_ble_eq_true hb) (Nat.le_add_right _ _))) h0 i1 hF.1)
    rw [lc] at y
    exact Ev.sb (n₁ := 330) (n₂ := 330 * cs.length + n) y z (by rw [List.length_cons]; lia)

/-- the whole display: a first run of 17, more of them, a last one of 15 at most -/
theorem ev_display {B : List Obj} {life : Life} {gs : Array GenState} {dr : Drawn} {os : OsState} {pos p : Pos} {tk : Nat} (hb : Nat.ble n₀ B.length = true) (hB : 2 ≤ B.length) {c : List (Int × Str)} {cs : List (List (Int × Str))} {l : List (Int × Str)}
    (hc : c.length = 17) (hF : Full cs) (hl : l.length ≤ 15) (hl0 : l ≠ []) (hi : Inc 0 (c ++ (cs.flatten ++ l))) (hz : cs.length ≤ 200) :
    Ev treeTable pr w n₀ (dictDisplay (((c ++ (cs.flatten ++ l)).map (tr pos)).map someK)) ⟨hp B life, gs, dr, tk, os⟩ p (.ref B.length)
      ⟨hp (B ++ dob (ents c tk ++ midE cs (tk + 51) ++ ents2 l (tk + 51 + 51 * cs.length)) :: (midO cs (tk + 51) ++ [dob (ents2 l (tk + 51 + 51 * cs.length))])) life, gs, dr, tk + 51 + 51 * cs.length + 3 * l.length, os⟩ pos
      (223 + (330 * cs.length + (13 * l.length + 1 + (6 * l.length + 5)))) := by
  obtain ⟨i1, i2⟩ := inc_append hi
  obtain ⟨i2, i3⟩ := inc_append i2
  have lc : (ents c tk).length = 17 := (ents_length c tk).trans hc
  have nc : ents c tk ≠ [] := by intro q; rw [q] at lc; cases lc
  have ll : (ents2 l (tk + 51 + 51 * cs.length)).length = l.length := ents2_length _ _
  have midLen : ∀ (cs : List (List (Int × Str))) (t : Nat), Full cs → (midE cs t).length = 17 * cs.length := by
    intro cs
    induction cs with
    | nil => intro t _; rfl
    | cons c r ih => intro t h; rw [midE, List.length_append, ents_length, h.1, ih _ h.2, List.length_cons]; lia
  have midTop : ∀ (cs : List (List (Int × Str))) (t : Nat) (lo : Int), Inc lo cs.flatten → ∀ e ∈ midE cs t, e.hash ≤ top lo cs.flatten := by
    intro cs
    induction cs with
    | nil => intro t lo _ e he; exact nomatch he
    | cons c r ih =>
      intro t lo h e he
      rw [List.flatten_cons] at h
      obtain ⟨j1, j2⟩ := inc_append h
      have tt : ∀ (a b : List (Int × Str)) (lo : Int), top lo (a ++ b) = top (top lo a) b := by
        intro a
        induction a with
        | nil => intro b lo; rfl
        | cons q a ih => intro b lo; exact ih b q.1
      rw [List.flatten_cons, tt]
      rcases List.mem_append.mp he with he | he
      · exact Int.le_trans (ents_top j1 e he) (top_ge j2)
      · exact ih _ _ j2 e he
  have hlo : 0 ≤ top 0 c := top_ge i1
  unfold dictDisplay
  dsimp only
  rw [List.map_append, List.map_append, List.map_append, List.map_append]
  rw [chunk (fun _ _ _ _ => rfl) _ _ _ (by rw [List.length_map]; exact hc)]
  refine Ev.sb (n₁ := 223 + 330 * cs.length) (n₂ := 13 * l.length + 1 + (6 * l.length + 5)) (a := (some B.length, l.map (tr pos))) (s₁ := ⟨hp (B ++ dob (ents c tk ++ midE cs (tk + 51)) :: midO cs (tk + 51)) life, gs, dr, tk + 51 + 51 * cs.length, os⟩) (p₁ := pos) ?_ ?_ (by lia)
  · refine Ev.sb (n₁ := 223) (n₂ := 330 * cs.length) (a := some B.length) (ev_flushFirst hb (Int.le_refl 0) i1 hc) ?_ rfl
    refine (ev_mid (fun _ _ _ _ => rfl) hb hB cs (ents c tk) [] (top 0 c) (tk + 51) 0 hlo hF i2 nc (fun e he => ents_top i1 e he) (by rw [lc]; lia) ?_).to rfl rfl
    exact ev_tail (fun _ _ _ _ => rfl) _ (by rw [List.length_map]; lia)
  · have y := ev_flushMore (pr := pr) (w := w) (B := B) (M := midO cs (tk + 51)) (life := life) (gs := gs) (dr := dr) (os := os) (es := ents c tk ++ midE cs (tk + 51)) (fs := ents2 l (tk + 51 + 51 * cs.length)) (run := l.map (tr pos)) (tk := tk + 51 + 51 * cs.length) (p := pos) (p' := lastPos pos pos l) (n := 13 * l.length + 1) (lo := top (top 0 c) cs.flatten)
      hb hB (by intro q; exact nc (List.append_eq_nil_iff.mp q).1) (isEmpty_of hl0) (rise_ents2 i3) (fun e he => by
        rcases List.mem_append.mp he with he | he
        · exact Int.le_trans (ents_top i1 e he) (top_ge i2)
        · exact midTop cs _ _ i2 e he) (by rw [List.length_append, lc, midLen _ _ hF, ll]; lia)
      (ev_subShort (by simp only [List.length_append, List.length_cons]; exact Nat.ble_eq_true_of_le (Nat.le_trans (Nat.le_of_ble_eq_true hb) (Nat.le_add_right _ _))) (Int.le_trans hlo (top_ge i2)) i3 hl)
    rw [lastPos_self, ll] at y
    exact Ev.sb (n₁ := 13 * l.length + 1 + (6 * l.length + 5)) (n₂ := 0) y (.pure _ _ _) rfl
end
end Mine
namespace Mine
open PySem PySem.W PySem.Calls PyProof.Rows
noncomputable abbrev pw : Program := PySem.Challenge.pw_sr0066_02
noncomputable def fnp (i : Nat) : Arguments × FuncBody × Scope := match pw.main.body[i]? with
  | some (.FunctionDef _ a b _ _ _ sc _ _ _) => (a, .stmts b, sc)
  | _ => default
noncomputable abbrev envM : Env := { scope := pw.main.scope, locals := mainNs, globals := mainNs, cells := [], code := (.ref 30), frame := some 31 }
noncomputable abbrev bodyM : List Stmt := behindTheImports pw
noncomputable abbrev cM : Code := .body bodyM envM
noncomputable abbrev q0 : Pos := ⟨0, 0, 0, 0⟩
noncomputable def sts (i j : Nat) : List Stmt := (bodyM.drop i).take (j - i)
noncomputable def btOf (l : List Obj) : Nat → Nat → Nat → BT
  | 0, _, _ => .nil
  | f + 1, a, b => match l[b]? with
    | some o => .node o (btOf l f (2 * a) (a + b)) (btOf l f (2 * a) (2 * a + b))
    | none => .nil
noncomputable abbrev btr (l : List Obj) : BT := btOf l 10 1 0

noncomputable def b3parts : List (Option Expr) × List Expr × Pos := match (bodyM[15]? : Option Stmt) with
  | some (.Assign _ (.Dict ks vs dp) _) => (ks, vs, dp)
  | _ => default
noncomputable def litPs : List (Option Expr) → List Expr → List (Int × Str)
  | some (.Constant (.int n) _ _) :: ks, .Constant (.str x) _ _ :: vs => (n, x) :: litPs ks vs
  | _, _ => []
noncomputable def b3ps : List (Int × Str) := litPs b3parts.1 b3parts.2.1
noncomputable def cutIn : Nat → List (Int × Str) → List (List (Int × Str))
  | 0, _ => []
  | k + 1, l => l.take 17 :: cutIn k (l.drop 17)
noncomputable def b3c : List (Int × Str) := b3ps.take 17
noncomputable def b3cs : List (List (Int × Str)) := cutIn 37 (b3ps.drop 17)
noncomputable def b3l : List (Int × Str) := b3ps.drop 646
noncomputable def b3main : Obj := dob (ents b3c 496 ++ midE b3cs 547 ++ ents2 b3l 2434)
noncomputable def b3subs : List Obj := midO b3cs 547 ++ [dob (ents2 b3l 2434)]

noncomputable def o0_0 (P : Params) : Obj := ⟨(.type "dict"), none, (.dict #[⟨PyData.keyHash P ⟨#[95, 95, 110, 97, 109, 101, 95, 95]⟩, (.str ⟨#[95, 95, 110, 97, 109, 101, 95, 95]⟩ 1), (.str ⟨#[98, 117, 105, 108, 116, 105, 110, 115]⟩ 160)⟩, ⟨PyData.keyHash P ⟨#[95, 95, 100, 111, 99, 95, 95]⟩, (.str ⟨#[95, 95, 100, 111, 99, 95, 95]⟩ 2), (.builtin "builtins.__doc__:str#opaque")⟩, ⟨PyData.keyHash P ⟨#[95, 95, 112, 97, 99, 107, 97, 103, 101, 95, 95]⟩, (.str ⟨#[95, 95, 112, 97, 99, 107, 97, 103, 101, 95, 95]⟩ 3), (.builtin "builtins.__package__:str#opaque")⟩, ⟨PyData.keyHash P ⟨#[95, 95, 108, 111, 97, 100, 101, 114, 95, 95]⟩, (.str ⟨#[95, 95, 108, 111, 97, 100, 101, 114, 95, 95]⟩ 4), (.builtin "builtins.__loader__:shared#opaque")⟩, ⟨PyData.keyHash P ⟨#[95, 95, 115, 112, 101, 99, 95, 95]⟩, (.str ⟨#[95, 95, 115, 112, 101, 99, 95, 95]⟩ 5), (.builtin "builtins.__spec__#opaque")⟩, ⟨PyData.keyHash P ⟨#[95, 95, 98, 117, 105, 108, 100, 95, 99, 108, 97, 115, 115, 95, 95]⟩, (.str ⟨#[95, 95, 98, 117, 105, 108, 100, 95, 99, 108, 97, 115, 115, 95, 95]⟩ 6), (.builtin "__build_class__")⟩, ⟨PyData.keyHash P ⟨#[95, 95, 105, 109, 112, 111, 114, 116, 95, 95]⟩, (.str ⟨#[95, 95, 105, 109, 112, 111, 114, 116, 95, 95]⟩ 7), (.builtin "__import__")⟩, ⟨PyData.keyHash P ⟨#[97, 98, 115]⟩, (.str ⟨#[97, 98, 115]⟩ 8), (.builtin "abs")⟩, ⟨PyData.keyHash P ⟨#[97, 108, 108]⟩, (.str ⟨#[97, 108, 108]⟩ 9), (.builtin "all")⟩, ⟨PyData.keyHash P ⟨#[97, 110, 121]⟩, (.str ⟨#[97, 110, 121]⟩ 10), (.builtin "any")⟩, ⟨PyData.keyHash P ⟨#[97, 115, 99, 105, 105]⟩, (.str ⟨#[97, 115, 99, 105, 105]⟩ 11), (.builtin "ascii")⟩, ⟨PyData.keyHash P ⟨#[98, 105, 110]⟩, (.str ⟨#[98, 105, 110]⟩ 12), (.builtin "bin")⟩, ⟨PyData.keyHash P ⟨#[98, 114, 101, 97, 107, 112, 111, 105, 110, 116]⟩, (.str ⟨#[98, 114, 101, 97, 107, 112, 111, 105, 110, 116]⟩ 13), (.builtin "breakpoint")⟩, ⟨PyData.keyHash P ⟨#[99, 97, 108, 108, 97, 98, 108, 101]⟩, (.str ⟨#[99, 97, 108, 108, 97, 98, 108, 101]⟩ 14), (.builtin "callable")⟩, ⟨PyData.keyHash P ⟨#[99, 104, 114]⟩, (.str ⟨#[99, 104, 114]⟩ 15), (.builtin "chr")⟩, ⟨PyData.keyHash P ⟨#[99, 111, 109, 112, 105, 108, 101]⟩, (.str ⟨#[99, 111, 109, 112, 105, 108, 101]⟩ 16), (.builtin "compile")⟩, ⟨PyData.keyHash P ⟨#[100, 101, 108, 97, 116, 116, 114]⟩, (.str ⟨#[100, 101, 108, 97, 116, 116, 114]⟩ 17), (.builtin "delattr")⟩, ⟨PyData.keyHash P ⟨#[100, 105, 114]⟩, (.str ⟨#[100, 105, 114]⟩ 18), (.builtin "dir")⟩, ⟨PyData.keyHash P ⟨#[100, 105, 118, 109, 111, 100]⟩, (.str ⟨#[100, 105, 118, 109, 111, 100]⟩ 19), (.builtin "divmod")⟩, ⟨PyData.keyHash P ⟨#[101, 118, 97, 108]⟩, (.str ⟨#[101, 118, 97, 108]⟩ 20), (.builtin "eval")⟩, ⟨PyData.keyHash P ⟨#[101, 120, 101, 99]⟩, (.str ⟨#[101, 120, 101, 99]⟩ 21), (.builtin "exec")⟩, ⟨PyData.keyHash P ⟨#[102, 111, 114, 109, 97, 116]⟩, (.str ⟨#[102, 111, 114, 109, 97, 116]⟩ 22), (.builtin "format")⟩, ⟨PyData.keyHash P ⟨#[103, 101, 116, 97, 116, 116, 114]⟩, (.str ⟨#[103, 101, 116, 97, 116, 116, 114]⟩ 23), (.builtin "getattr")⟩, ⟨PyData.keyHash P ⟨#[103, 108, 111, 98, 97, 108, 115]⟩, (.str ⟨#[103, 108, 111, 98, 97, 108, 115]⟩ 24), (.builtin "globals")⟩, ⟨PyData.keyHash P ⟨#[104, 97, 115, 97, 116, 116, 114]⟩, (.str ⟨#[104, 97, 115, 97, 116, 116, 114]⟩ 25), (.builtin "hasattr")⟩, ⟨PyData.keyHash P ⟨#[104, 97, 115, 104]⟩, (.str ⟨#[104, 97, 115, 104]⟩ 26), (.builtin "hash")⟩, ⟨PyData.keyHash P ⟨#[104, 101, 120]⟩, (.str ⟨#[104, 101, 120]⟩ 27), (.builtin "hex")⟩, ⟨PyData.keyHash P ⟨#[105, 100]⟩, (.str ⟨#[105, 100]⟩ 28), (.builtin "id")⟩, ⟨PyData.keyHash P ⟨#[105, 110, 112, 117, 116]⟩, (.str ⟨#[105, 110, 112, 117, 116]⟩ 29), (.builtin "input")⟩, ⟨PyData.keyHash P ⟨#[105, 115, 105, 110, 115, 116, 97, 110, 99, 101]⟩, (.str ⟨#[105, 115, 105, 110, 115, 116, 97, 110, 99, 101]⟩ 30), (.builtin "isinstance")⟩, ⟨PyData.keyHash P ⟨#[105, 115, 115, 117, 98, 99, 108, 97, 115, 115]⟩, (.str ⟨#[105, 115, 115, 117, 98, 99, 108, 97, 115, 115]⟩ 31), (.builtin "issubclass")⟩, ⟨PyData.keyHash P ⟨#[105, 116, 101, 114]⟩, (.str ⟨#[105, 116, 101, 114]⟩ 32), (.builtin "iter")⟩, ⟨PyData.keyHash P ⟨#[97, 105, 116, 101, 114]⟩, (.str ⟨#[97, 105, 116, 101, 114]⟩ 33), (.builtin "aiter")⟩, ⟨PyData.keyHash P ⟨#[108, 101, 110]⟩, (.str ⟨#[108, 101, 110]⟩ 34), (.builtin "len")⟩, ⟨PyData.keyHash P ⟨#[108, 111, 99, 97, 108, 115]⟩, (.str ⟨#[108, 111, 99, 97, 108, 115]⟩ 35), (.builtin "locals")⟩, ⟨PyData.keyHash P ⟨#[109, 97, 120]⟩, (.str ⟨#[109, 97, 120]⟩ 36), (.builtin "max")⟩, ⟨PyData.keyHash P ⟨#[109, 105, 110]⟩, (.str ⟨#[109, 105, 110]⟩ 37), (.builtin "min")⟩, ⟨PyData.keyHash P ⟨#[110, 101, 120, 116]⟩, (.str ⟨#[110, 101, 120, 116]⟩ 38), (.builtin "next")⟩, ⟨PyData.keyHash P ⟨#[97, 110, 101, 120, 116]⟩, (.str ⟨#[97, 110, 101, 120, 116]⟩ 39), (.builtin "anext")⟩, ⟨PyData.keyHash P ⟨#[111, 99, 116]⟩, (.str ⟨#[111, 99, 116]⟩ 40), (.builtin "oct")⟩, ⟨PyData.keyHash P ⟨#[111, 114, 100]⟩, (.str ⟨#[111, 114, 100]⟩ 41), (.builtin "ord")⟩, ⟨PyData.keyHash P ⟨#[112, 111, 119]⟩, (.str ⟨#[112, 111, 119]⟩ 42), (.builtin "pow")⟩, ⟨PyData.keyHash P ⟨#[112, 114, 105, 110, 116]⟩, (.str ⟨#[112, 114, 105, 110, 116]⟩ 43), (.builtin "print")⟩, ⟨PyData.keyHash P ⟨#[114, 101, 112, 114]⟩, (.str ⟨#[114, 101, 112, 114]⟩ 44), (.builtin "repr")⟩, ⟨PyData.keyHash P ⟨#[114, 111, 117, 110, 100]⟩, (.str ⟨#[114, 111, 117, 110, 100]⟩ 45), (.builtin "round")⟩, ⟨PyData.keyHash P ⟨#[115, 101, 116, 97, 116, 116, 114]⟩, (.str ⟨#[115, 101, 116, 97, 116, 116, 114]⟩ 46), (.builtin "setattr")⟩, ⟨PyData.keyHash P ⟨#[115, 111, 114, 116, 101, 100]⟩, (.str ⟨#[115, 111, 114, 116, 101, 100]⟩ 47), (.builtin "sorted")⟩, ⟨PyData.keyHash P ⟨#[115, 117, 109]⟩, (.str ⟨#[115, 117, 109]⟩ 48), (.builtin "sum")⟩, ⟨PyData.keyHash P ⟨#[118, 97, 114, 115]⟩, (.str ⟨#[118, 97, 114, 115]⟩ 49), (.builtin "vars")⟩, ⟨PyData.keyHash P ⟨#[78, 111, 110, 101]⟩, (.str ⟨#[78, 111, 110, 101]⟩ 50), .none⟩, ⟨PyData.keyHash P ⟨#[69, 108, 108, 105, 112, 115, 105, 115]⟩, (.str ⟨#[69, 108, 108, 105, 112, 115, 105, 115]⟩ 51), .ellipsis⟩, ⟨PyData.keyHash P ⟨#[78, 111, 116, 73, 109, 112, 108, 101, 109, 101, 110, 116, 101, 100]⟩, (.str ⟨#[78, 111, 116, 73, 109, 112, 108, 101, 109, 101, 110, 116, 101, 100]⟩ 52), .notImplemented⟩, ⟨PyData.keyHash P ⟨#[70, 97, 108, 115, 101]⟩, (.str ⟨#[70, 97, 108, 115, 101]⟩ 53), (.bool false)⟩, ⟨PyData.keyHash P ⟨#[84, 114, 117, 101]⟩, (.str ⟨#[84, 114, 117, 101]⟩ 54), (.bool true)⟩, ⟨PyData.keyHash P ⟨#[98, 111, 111, 108]⟩, (.str ⟨#[98, 111, 111, 108]⟩ 55), (.type "bool")⟩, ⟨PyData.keyHash P ⟨#[109, 101, 109, 111, 114, 121, 118, 105, 101, 119]⟩, (.str ⟨#[109, 101, 109, 111, 114, 121, 118, 105, 101, 119]⟩ 56), (.type "memoryview")⟩, ⟨PyData.keyHash P ⟨#[98, 121, 116, 101, 97, 114, 114, 97, 121]⟩, (.str ⟨#[98, 121, 116, 101, 97, 114, 114, 97, 121]⟩ 57), (.type "bytearray")⟩, ⟨PyData.keyHash P ⟨#[98, 121, 116, 101, 115]⟩, (.str ⟨#[98, 121, 116, 101, 115]⟩ 58), (.type "bytes")⟩, ⟨PyData.keyHash P ⟨#[99, 108, 97, 115, 115, 109, 101, 116, 104, 111, 100]⟩, (.str ⟨#[99, 108, 97, 115, 115, 109, 101, 116, 104, 111, 100]⟩ 59), (.type "classmethod")⟩, ⟨PyData.keyHash P ⟨#[99, 111, 109, 112, 108, 101, 120]⟩, (.str ⟨#[99, 111, 109, 112, 108, 101, 120]⟩ 60), (.type "complex")⟩, ⟨PyData.keyHash P ⟨#[100, 105, 99, 116]⟩, (.str ⟨#[100, 105, 99, 116]⟩ 61), (.type "dict")⟩, ⟨PyData.keyHash P ⟨#[101, 110, 117, 109, 101, 114, 97, 116, 101]⟩, (.str ⟨#[101, 110, 117, 109, 101, 114, 97, 116, 101]⟩ 62), (.type "enumerate")⟩, ⟨PyData.keyHash P ⟨#[102, 105, 108, 116, 101, 114]⟩, (.str ⟨#[102, 105, 108, 116, 101, 114]⟩ 63), (.type "filter")⟩, ⟨PyData.keyHash P ⟨#[102, 108, 111, 97, 116]⟩, (.str ⟨#[102, 108, 111, 97, 116]⟩ 64), (.type "float")⟩, ⟨PyData.keyHash P ⟨#[102, 114, 111, 122, 101, 110, 115, 101, 116]⟩, (.str ⟨#[102, 114, 111, 122, 101, 110, 115, 101, 116]⟩ 65), (.type "frozenset")⟩, ⟨PyData.keyHash P ⟨#[112, 114, 111, 112, 101, 114, 116, 121]⟩, (.str ⟨#[112, 114, 111, 112, 101, 114, 116, 121]⟩ 66), (.type "property")⟩, ⟨PyData.keyHash P ⟨#[105, 110, 116]⟩, (.str ⟨#[105, 110, 116]⟩ 67), (.type "int")⟩, ⟨PyData.keyHash P ⟨#[108, 105, 115, 116]⟩, (.str ⟨#[108, 105, 115, 116]⟩ 68), (.type "list")⟩, ⟨PyData.keyHash P ⟨#[109, 97, 112]⟩, (.str ⟨#[109, 97, 112]⟩ 69), (.type "map")⟩, ⟨PyData.keyHash P ⟨#[111, 98, 106, 101, 99, 116]⟩, (.str ⟨#[111, 98, 106, 101, 99, 116]⟩ 70), (.type "object")⟩, ⟨PyData.keyHash P ⟨#[114, 97, 110, 103, 101]⟩, (.str ⟨#[114, 97, 110, 103, 101]⟩ 71), (.type "range")⟩, ⟨PyData.keyHash P ⟨#[114, 101, 118, 101, 114, 115, 101, 100]⟩, (.str ⟨#[114, 101, 118, 101, 114, 115, 101, 100]⟩ 72), (.type "reversed")⟩, ⟨PyData.keyHash P ⟨#[115, 101, 116]⟩, (.str ⟨#[115, 101, 116]⟩ 73), (.type "set")⟩, ⟨PyData.keyHash P ⟨#[115, 108, 105, 99, 101]⟩, (.str ⟨#[115, 108, 105, 99, 101]⟩ 74), (.type "slice")⟩, ⟨PyData.keyHash P ⟨#[115, 116, 97, 116, 105, 99, 109, 101, 116, 104, 111, 100]⟩, (.str ⟨#[115, 116, 97, 116, 105, 99, 109, 101, 116, 104, 111, 100]⟩ 75), (.type "staticmethod")⟩, ⟨PyData.keyHash P ⟨#[115, 116, 114]⟩, (.str ⟨#[115, 116, 114]⟩ 76), (.type "str")⟩, ⟨PyData.keyHash P ⟨#[115, 117, 112, 101, 114]⟩, (.str ⟨#[115, 117, 112, 101, 114]⟩ 77), (.type "super")⟩, ⟨PyData.keyHash P ⟨#[116, 117, 112, 108, 101]⟩, (.str ⟨#[116, 117, 112, 108, 101]⟩ 78), (.type "tuple")⟩, ⟨PyData.keyHash P ⟨#[116, 121, 112, 101]⟩, (.str ⟨#[116, 121, 112, 101]⟩ 79), (.type "type")⟩, ⟨PyData.keyHash P ⟨#[122, 105, 112]⟩, (.str ⟨#[122, 105, 112]⟩ 80), (.type "zip")⟩, ⟨PyData.keyHash P ⟨#[95, 95, 100, 101, 98, 117, 103, 95, 95]⟩, (.str ⟨#[95, 95, 100, 101, 98, 117, 103, 95, 95]⟩ 81), (.bool true)⟩, ⟨PyData.keyHash P ⟨#[66, 97, 115, 101, 69, 120, 99, 101, 112, 116, 105, 111, 110]⟩, (.str ⟨#[66, 97, 115, 101, 69, 120, 99, 101, 112, 116, 105, 111, 110]⟩ 82), (.type "BaseException")⟩, ⟨PyData.keyHash P ⟨#[66, 97, 115, 101, 69, 120, 99, 101, 112, 116, 105, 111, 110, 71, 114, 111, 117, 112]⟩, (.str ⟨#[66, 97, 115, 101, 69, 120, 99, 101, 112, 116, 105, 111, 110, 71, 114, 111, 117, 112]⟩ 83), (.type "BaseExceptionGroup")⟩, ⟨PyData.keyHash P ⟨#[69, 120, 99, 101, 112, 116, 105, 111, 110]⟩, (.str ⟨#[69, 120, 99, 101, 112, 116, 105, 111, 110]⟩ 84), (.type "Exception")⟩, ⟨PyData.keyHash P ⟨#[71, 101, 110, 101, 114, 97, 116, 111, 114, 69, 120, 105, 116]⟩, (.str ⟨#[71, 101, 110, 101, 114, 97, 116, 111, 114, 69, 120, 105, 116]⟩ 85), (.type "GeneratorExit")⟩, ⟨PyData.keyHash P ⟨#[75, 101, 121, 98, 111, 97, 114, 100, 73, 110, 116, 101, 114, 114, 117, 112, 116]⟩, (.str ⟨#[75, 101, 121, 98, 111, 97, 114, 100, 73, 110, 116, 101, 114, 114, 117, 112, 116]⟩ 86), (.type "KeyboardInterrupt")⟩, ⟨PyData.keyHash P ⟨#[83, 121, 115, 116, 101, 109, 69, 120, 105, 116]⟩, (.str ⟨#[83, 121, 115, 116, 101, 109, 69, 120, 105, 116]⟩ 87), (.type "SystemExit")⟩, ⟨PyData.keyHash P ⟨#[65, 114, 105, 116, 104, 109, 101, 116, 105, 99, 69, 114, 114, 111, 114]⟩, (.str ⟨#[65, 114, 105, 116, 104, 109, 101, 116, 105, 99, 69, 114, 114, 111, 114]⟩ 88), (.type "ArithmeticError")⟩, ⟨PyData.keyHash P ⟨#[65, 115, 115, 101, 114, 116, 105, 111, 110, 69, 114, 114, 111, 114]⟩, (.str ⟨#[65, 115, 115, 101, 114, 116, 105, 111, 110, 69, 114, 114, 111, 114]⟩ 89), (.type "AssertionError")⟩, ⟨PyData.keyHash P ⟨#[65, 116, 116, 114, 105, 98, 117, 116, 101, 69, 114, 114, 111, 114]⟩, (.str ⟨#[65, 116, 116, 114, 105, 98, 117, 116, 101, 69, 114, 114, 111, 114]⟩ 90), (.type "AttributeError")⟩, ⟨PyData.keyHash P ⟨#[66, 117, 102, 102, 101, 114, 69, 114, 114, 111, 114]⟩, (.str ⟨#[66, 117, 102, 102, 101, 114, 69, 114, 114, 111, 114]⟩ 91), (.type "BufferError")⟩, ⟨PyData.keyHash P ⟨#[69, 79, 70, 69, 114, 114, 111, 114]⟩, (.str ⟨#[69, 79, 70, 69, 114, 114, 111, 114]⟩ 92), (.type "EOFError")⟩, ⟨PyData.keyHash P ⟨#[73, 109, 112, 111, 114, 116, 69, 114, 114, 111, 114]⟩, (.str ⟨#[73, 109, 112, 111, 114, 116, 69, 114, 114, 111, 114]⟩ 93), (.type "ImportError")⟩, ⟨PyData.keyHash P ⟨#[76, 111, 111, 107, 117, 112, 69, 114, 114, 111, 114]⟩, (.str ⟨#[76, 111, 111, 107, 117, 112, 69, 114, 114, 111, 114]⟩ 94), (.type "LookupError")⟩, ⟨PyData.keyHash P ⟨#[77, 101, 109, 111, 114, 121, 69, 114, 114, 111, 114]⟩, (.str ⟨#[77, 101, 109, 111, 114, 121, 69, 114, 114, 111, 114]⟩ 95), (.type "MemoryError")⟩, ⟨PyData.keyHash P ⟨#[78, 97, 109, 101, 69, 114, 114, 111, 114]⟩, (.str ⟨#[78, 97, 109, 101, 69, 114, 114, 111, 114]⟩ 96), (.type "NameError")⟩, ⟨PyData.keyHash P ⟨#[79, 83, 69, 114, 114, 111, 114]⟩, (.str ⟨#[79, 83, 69, 114, 114, 111, 114]⟩ 97), (.type "OSError")⟩, ⟨PyData.keyHash P ⟨#[82, 101, 102, 101, 114, 101, 110, 99, 101, 69, 114, 114, 111, 114]⟩, (.str ⟨#[82, 101, 102, 101, 114, 101, 110, 99, 101, 69, 114, 114, 111, 114]⟩ 98), (.type "ReferenceError")⟩, ⟨PyData.keyHash P ⟨#[82, 117, 110, 116, 105, 109, 101, 69, 114, 114, 111, 114]⟩, (.str ⟨#[82, 117, 110, 116, 105, 109, 101, 69, 114, 114, 111, 114]⟩ 99), (.type "RuntimeError")⟩, ⟨PyData.keyHash P ⟨#[83, 116, 111, 112, 65, 115, 121, 110, 99, 73, 116, 101, 114, 97, 116, 105, 111, 110]⟩, (.str ⟨#[83, 116, 111, 112, 65, 115, 121, 110, 99, 73, 116, 101, 114, 97, 116, 105, 111, 110]⟩ 100), (.type "StopAsyncIteration")⟩, ⟨PyData.keyHash P ⟨#[83, 116, 111, 112, 73, 116, 101, 114, 97, 116, 105, 111, 110]⟩, (.str ⟨#[83, 116, 111, 112, 73, 116, 101, 114, 97, 116, 105, 111, 110]⟩ 101), (.type "StopIteration")⟩, ⟨PyData.keyHash P ⟨#[83, 121, 110, 116, 97, 120, 69, 114, 114, 111, 114]⟩, (.str ⟨#[83, 121, 110, 116, 97, 120, 69, 114, 114, 111, 114]⟩ 102), (.type "SyntaxError")⟩, ⟨PyData.keyHash P ⟨#[83, 121, 115, 116, 101, 109, 69, 114, 114, 111, 114]⟩, (.str ⟨#[83, 121, 115, 116, 101, 109, 69, 114, 114, 111, 114]⟩ 103), (.type "SystemError")⟩, ⟨PyData.keyHash P ⟨#[84, 121, 112, 101, 69, 114, 114, 111, 114]⟩, (.str ⟨#[84, 121, 112, 101, 69, 114, 114, 111, 114]⟩ 104), (.type "TypeError")⟩, ⟨PyData.keyHash P ⟨#[86, 97, 108, 117, 101, 69, 114, 114, 111, 114]⟩, (.str ⟨#[86, 97, 108, 117, 101, 69, 114, 114, 111, 114]⟩ 105), (.type "ValueError")⟩, ⟨PyData.keyHash P ⟨#[87, 97, 114, 110, 105, 110, 103]⟩, (.str ⟨#[87, 97, 114, 110, 105, 110, 103]⟩ 106), (.type "Warning")⟩, ⟨PyData.keyHash P ⟨#[70, 108, 111, 97, 116, 105, 110, 103, 80, 111, 105, 110, 116, 69, 114, 114, 111, 114]⟩, (.str ⟨#[70, 108, 111, 97, 116, 105, 110, 103, 80, 111, 105, 110, 116, 69, 114, 114, 111, 114]⟩ 107), (.type "FloatingPointError")⟩, ⟨PyData.keyHash P ⟨#[79, 118, 101, 114, 102, 108, 111, 119, 69, 114, 114, 111, 114]⟩, (.str ⟨#[79, 118, 101, 114, 102, 108, 111, 119, 69, 114, 114, 111, 114]⟩ 108), (.type "OverflowError")⟩, ⟨PyData.keyHash P ⟨#[90, 101, 114, 111, 68, 105, 118, 105, 115, 105, 111, 110, 69, 114, 114, 111, 114]⟩, (.str ⟨#[90, 101, 114, 111, 68, 105, 118, 105, 115, 105, 111, 110, 69, 114, 114, 111, 114]⟩ 109), (.type "ZeroDivisionError")⟩, ⟨PyData.keyHash P ⟨#[66, 121, 116, 101, 115, 87, 97, 114, 110, 105, 110, 103]⟩, (.str ⟨#[66, 121, 116, 101, 115, 87, 97, 114, 110, 105, 110, 103]⟩ 110), (.type "BytesWarning")⟩, ⟨PyData.keyHash P ⟨#[68, 101, 112, 114, 101, 99, 97, 116, 105, 111, 110, 87, 97, 114, 110, 105, 110, 103]⟩, (.str ⟨#[68, 101, 112, 114, 101, 99, 97, 116, 105, 111, 110, 87, 97, 114, 110, 105, 110, 103]⟩ 111), (.type "DeprecationWarning")⟩, ⟨PyData.keyHash P ⟨#[69, 110, 99, 111, 100, 105, 110, 103, 87, 97, 114, 110, 105, 110, 103]⟩, (.str ⟨#[69, 110, 99, 111, 100, 105, 110, 103, 87, 97, 114, 110, 105, 110, 103]⟩ 112), (.type "EncodingWarning")⟩, ⟨PyData.keyHash P ⟨#[70, 117, 116, 117, 114, 101, 87, 97, 114, 110, 105, 110, 103]⟩, (.str ⟨#[70, 117, 116, 117, 114, 101, 87, 97, 114, 110, 105, 110, 103]⟩ 113), (.type "FutureWarning")⟩, ⟨PyData.keyHash P ⟨#[73, 109, 112, 111, 114, 116, 87, 97, 114, 110, 105, 110, 103]⟩, (.str ⟨#[73, 109, 112, 111, 114, 116, 87, 97, 114, 110, 105, 110, 103]⟩ 114), (.type "ImportWarning")⟩, ⟨PyData.keyHash P ⟨#[80, 101, 110, 100, 105, 110, 103, 68, 101, 112, 114, 101, 99, 97, 116, 105, 111, 110, 87, 97, 114, 110, 105, 110, 103]⟩, (.str ⟨#[80, 101, 110, 100, 105, 110, 103, 68, 101, 112, 114, 101, 99, 97, 116, 105, 111, 110, 87, 97, 114, 110, 105, 110, 103]⟩ 115), (.type "PendingDeprecationWarning")⟩, ⟨PyData.keyHash P ⟨#[82, 101, 115, 111, 117, 114, 99, 101, 87, 97, 114, 110, 105, 110, 103]⟩, (.str ⟨#[82, 101, 115, 111, 117, 114, 99, 101, 87, 97, 114, 110, 105, 110, 103]⟩ 116), (.type "ResourceWarning")⟩, ⟨PyData.keyHash P ⟨#[82, 117, 110, 116, 105, 109, 101, 87, 97, 114, 110, 105, 110, 103]⟩, (.str ⟨#[82, 117, 110, 116, 105, 109, 101, 87, 97, 114, 110, 105, 110, 103]⟩ 117), (.type "RuntimeWarning")⟩, ⟨PyData.keyHash P ⟨#[83, 121, 110, 116, 97, 120, 87, 97, 114, 110, 105, 110, 103]⟩, (.str ⟨#[83, 121, 110, 116, 97, 120, 87, 97, 114, 110, 105, 110, 103]⟩ 118), (.type "SyntaxWarning")⟩, ⟨PyData.keyHash P ⟨#[85, 110, 105, 99, 111, 100, 101, 87, 97, 114, 110, 105, 110, 103]⟩, (.str ⟨#[85, 110, 105, 99, 111, 100, 101, 87, 97, 114, 110, 105, 110, 103]⟩ 119), (.type "UnicodeWarning")⟩, ⟨PyData.keyHash P ⟨#[85, 115, 101, 114, 87, 97, 114, 110, 105, 110, 103]⟩, (.str ⟨#[85, 115, 101, 114, 87, 97, 114, 110, 105, 110, 103]⟩ 120), (.type "UserWarning")⟩, ⟨PyData.keyHash P ⟨#[66, 108, 111, 99, 107, 105, 110, 103, 73, 79, 69, 114, 114, 111, 114]⟩, (.str ⟨#[66, 108, 111, 99, 107, 105, 110, 103, 73, 79, 69, 114, 114, 111, 114]⟩ 121), (.type "BlockingIOError")⟩, ⟨PyData.keyHash P ⟨#[67, 104, 105, 108, 100, 80, 114, 111, 99, 101, 115, 115, 69, 114, 114, 111, 114]⟩, (.str ⟨#[67, 104, 105, 108, 100, 80, 114, 111, 99, 101, 115, 115, 69, 114, 114, 111, 114]⟩ 122), (.type "ChildProcessError")⟩, ⟨PyData.keyHash P ⟨#[67, 111, 110, 110, 101, 99, 116, 105, 111, 110, 69, 114, 114, 111, 114]⟩, (.str ⟨#[67, 111, 110, 110, 101, 99, 116, 105, 111, 110, 69, 114, 114, 111, 114]⟩ 123), (.type "ConnectionError")⟩, ⟨PyData.keyHash P ⟨#[70, 105, 108, 101, 69, 120, 105, 115, 116, 115, 69, 114, 114, 111, 114]⟩, (.str ⟨#[70, 105, 108, 101, 69, 120, 105, 115, 116, 115, 69, 114, 114, 111, 114]⟩ 124), (.type "FileExistsError")⟩, ⟨PyData.keyHash P ⟨#[70, 105, 108, 101, 78, 111, 116, 70, 111, 117, 110, 100, 69, 114, 114, 111, 114]⟩, (.str ⟨#[70, 105, 108, 101, 78, 111, 116, 70, 111, 117, 110, 100, 69, 114, 114, 111, 114]⟩ 125), (.type "FileNotFoundError")⟩, ⟨PyData.keyHash P ⟨#[73, 110, 116, 101, 114, 114, 117, 112, 116, 101, 100, 69, 114, 114, 111, 114]⟩, (.str ⟨#[73, 110, 116, 101, 114, 114, 117, 112, 116, 101, 100, 69, 114, 114, 111, 114]⟩ 126), (.type "InterruptedError")⟩, ⟨PyData.keyHash P ⟨#[73, 115, 65, 68, 105, 114, 101, 99, 116, 111, 114, 121, 69, 114, 114, 111, 114]⟩, (.str ⟨#[73, 115, 65, 68, 105, 114, 101, 99, 116, 111, 114, 121, 69, 114, 114, 111, 114]⟩ 127), (.type "IsADirectoryError")⟩, ⟨PyData.keyHash P ⟨#[78, 111, 116, 65, 68, 105, 114, 101, 99, 116, 111, 114, 121, 69, 114, 114, 111, 114]⟩, (.str ⟨#[78, 111, 116, 65, 68, 105, 114, 101, 99, 116, 111, 114, 121, 69, 114, 114, 111, 114]⟩ 128), (.type "NotADirectoryError")⟩, ⟨PyData.keyHash P ⟨#[80, 101, 114, 109, 105, 115, 115, 105, 111, 110, 69, 114, 114, 111, 114]⟩, (.str ⟨#[80, 101, 114, 109, 105, 115, 115, 105, 111, 110, 69, 114, 114, 111, 114]⟩ 129), (.type "PermissionError")⟩, ⟨PyData.keyHash P ⟨#[80, 114, 111, 99, 101, 115, 115, 76, 111, 111, 107, 117, 112, 69, 114, 114, 111, 114]⟩, (.str ⟨#[80, 114, 111, 99, 101, 115, 115, 76, 111, 111, 107, 117, 112, 69, 114, 114, 111, 114]⟩ 130), (.type "ProcessLookupError")⟩, ⟨PyData.keyHash P ⟨#[84, 105, 109, 101, 111, 117, 116, 69, 114, 114, 111, 114]⟩, (.str ⟨#[84, 105, 109, 101, 111, 117, 116, 69, 114, 114, 111, 114]⟩ 131), (.type "TimeoutError")⟩, ⟨PyData.keyHash P ⟨#[73, 110, 100, 101, 110, 116, 97, 116, 105, 111, 110, 69, 114, 114, 111, 114]⟩, (.str ⟨#[73, 110, 100, 101, 110, 116, 97, 116, 105, 111, 110, 69, 114, 114, 111, 114]⟩ 132), (.type "IndentationError")⟩, ⟨PyData.keyHash P ⟨#[95, 73, 110, 99, 111, 109, 112, 108, 101, 116, 101, 73, 110, 112, 117, 116, 69, 114, 114, 111, 114]⟩, (.str ⟨#[95, 73, 110, 99, 111, 109, 112, 108, 101, 116, 101, 73, 110, 112, 117, 116, 69, 114, 114, 111, 114]⟩ 133), (.type "_IncompleteInputError")⟩, ⟨PyData.keyHash P ⟨#[73, 110, 100, 101, 120, 69, 114, 114, 111, 114]⟩, (.str ⟨#[73, 110, 100, 101, 120, 69, 114, 114, 111, 114]⟩ 134), (.type "IndexError")⟩, ⟨PyData.keyHash P ⟨#[75, 101, 121, 69, 114, 114, 111, 114]⟩, (.str ⟨#[75, 101, 121, 69, 114, 114, 111, 114]⟩ 135), (.type "KeyError")⟩, ⟨PyData.keyHash P ⟨#[77, 111, 100, 117, 108, 101, 78, 111, 116, 70, 111, 117, 110, 100, 69, 114, 114, 111, 114]⟩, (.str ⟨#[77, 111, 100, 117, 108, 101, 78, 111, 116, 70, 111, 117, 110, 100, 69, 114, 114, 111, 114]⟩ 136), (.type "ModuleNotFoundError")⟩, ⟨PyData.keyHash P ⟨#[78, 111, 116, 73, 109, 112, 108, 101, 109, 101, 110, 116, 101, 100, 69, 114, 114, 111, 114]⟩, (.str ⟨#[78, 111, 116, 73, 109, 112, 108, 101, 109, 101, 110, 116, 101, 100, 69, 114, 114, 111, 114]⟩ 137), (.type "NotImplementedError")⟩, ⟨PyData.keyHash P ⟨#[80, 121, 116, 104, 111, 110, 70, 105, 110, 97, 108, 105, 122, 97, 116, 105, 111, 110, 69, 114, 114, 111, 114]⟩, (.str ⟨#[80, 121, 116, 104, 111, 110, 70, 105, 110, 97, 108, 105, 122, 97, 116, 105, 111, 110, 69, 114, 114, 111, 114]⟩ 138), (.type "PythonFinalizationError")⟩, ⟨PyData.keyHash P ⟨#[82, 101, 99, 117, 114, 115, 105, 111, 110, 69, 114, 114, 111, 114]⟩, (.str ⟨#[82, 101, 99, 117, 114, 115, 105, 111, 110, 69, 114, 114, 111, 114]⟩ 139), (.type "RecursionError")⟩, ⟨PyData.keyHash P ⟨#[85, 110, 98, 111, 117, 110, 100, 76, 111, 99, 97, 108, 69, 114, 114, 111, 114]⟩, (.str ⟨#[85, 110, 98, 111, 117, 110, 100, 76, 111, 99, 97, 108, 69, 114, 114, 111, 114]⟩ 140), (.type "UnboundLocalError")⟩, ⟨PyData.keyHash P ⟨#[85, 110, 105, 99, 111, 100, 101, 69, 114, 114, 111, 114]⟩, (.str ⟨#[85, 110, 105, 99, 111, 100, 101, 69, 114, 114, 111, 114]⟩ 141), (.type "UnicodeError")⟩, ⟨PyData.keyHash P ⟨#[66, 114, 111, 107, 101, 110, 80, 105, 112, 101, 69, 114, 114, 111, 114]⟩, (.str ⟨#[66, 114, 111, 107, 101, 110, 80, 105, 112, 101, 69, 114, 114, 111, 114]⟩ 142), (.type "BrokenPipeError")⟩, ⟨PyData.keyHash P ⟨#[67, 111, 110, 110, 101, 99, 116, 105, 111, 110, 65, 98, 111, 114, 116, 101, 100, 69, 114, 114, 111, 114]⟩, (.str ⟨#[67, 111, 110, 110, 101, 99, 116, 105, 111, 110, 65, 98, 111, 114, 116, 101, 100, 69, 114, 114, 111, 114]⟩ 143), (.type "ConnectionAbortedError")⟩, ⟨PyData.keyHash P ⟨#[67, 111, 110, 110, 101, 99, 116, 105, 111, 110, 82, 101, 102, 117, 115, 101, 100, 69, 114, 114, 111, 114]⟩, (.str ⟨#[67, 111, 110, 110, 101, 99, 116, 105, 111, 110, 82, 101, 102, 117, 115, 101, 100, 69, 114, 114, 111, 114]⟩ 144), (.type "ConnectionRefusedError")⟩, ⟨PyData.keyHash P ⟨#[67, 111, 110, 110, 101, 99, 116, 105, 111, 110, 82, 101, 115, 101, 116, 69, 114, 114, 111, 114]⟩, (.str ⟨#[67, 111, 110, 110, 101, 99, 116, 105, 111, 110, 82, 101, 115, 101, 116, 69, 114, 114, 111, 114]⟩ 145), (.type "ConnectionResetError")⟩, ⟨PyData.keyHash P ⟨#[84, 97, 98, 69, 114, 114, 111, 114]⟩, (.str ⟨#[84, 97, 98, 69, 114, 114, 111, 114]⟩ 146), (.type "TabError")⟩, ⟨PyData.keyHash P ⟨#[85, 110, 105, 99, 111, 100, 101, 68, 101, 99, 111, 100, 101, 69, 114, 114, 111, 114]⟩, (.str ⟨#[85, 110, 105, 99, 111, 100, 101, 68, 101, 99, 111, 100, 101, 69, 114, 114, 111, 114]⟩ 147), (.type "UnicodeDecodeError")⟩, ⟨PyData.keyHash P ⟨#[85, 110, 105, 99, 111, 100, 101, 69, 110, 99, 111, 100, 101, 69, 114, 114, 111, 114]⟩, (.str ⟨#[85, 110, 105, 99, 111, 100, 101, 69, 110, 99, 111, 100, 101, 69, 114, 114, 111, 114]⟩ 148), (.type "UnicodeEncodeError")⟩, ⟨PyData.keyHash P ⟨#[85, 110, 105, 99, 111, 100, 101, 84, 114, 97, 110, 115, 108, 97, 116, 101, 69, 114, 114, 111, 114]⟩, (.str ⟨#[85, 110, 105, 99, 111, 100, 101, 84, 114, 97, 110, 115, 108, 97, 116, 101, 69, 114, 114, 111, 114]⟩ 149), (.type "UnicodeTranslateError")⟩, ⟨PyData.keyHash P ⟨#[69, 120, 99, 101, 112, 116, 105, 111, 110, 71, 114, 111, 117, 112]⟩, (.str ⟨#[69, 120, 99, 101, 112, 116, 105, 111, 110, 71, 114, 111, 117, 112]⟩ 150), (.type "ExceptionGroup")⟩, ⟨PyData.keyHash P ⟨#[69, 110, 118, 105, 114, 111, 110, 109, 101, 110, 116, 69, 114, 114, 111, 114]⟩, (.str ⟨#[69, 110, 118, 105, 114, 111, 110, 109, 101, 110, 116, 69, 114, 114, 111, 114]⟩ 151), (.type "OSError")⟩, ⟨PyData.keyHash P ⟨#[73, 79, 69, 114, 114, 111, 114]⟩, (.str ⟨#[73, 79, 69, 114, 114, 111, 114]⟩ 152), (.type "OSError")⟩, ⟨PyData.keyHash P ⟨#[111, 112, 101, 110]⟩, (.str ⟨#[111, 112, 101, 110]⟩ 153), (.builtin "open")⟩, ⟨PyData.keyHash P ⟨#[113, 117, 105, 116]⟩, (.str ⟨#[113, 117, 105, 116]⟩ 154), (.builtin "builtins.quit#opaque")⟩, ⟨PyData.keyHash P ⟨#[101, 120, 105, 116]⟩, (.str ⟨#[101, 120, 105, 116]⟩ 155), (.builtin "builtins.exit#opaque")⟩, ⟨PyData.keyHash P ⟨#[99, 111, 112, 121, 114, 105, 103, 104, 116]⟩, (.str ⟨#[99, 111, 112, 121, 114, 105, 103, 104, 116]⟩ 156), (.builtin "builtins.copyright#opaque")⟩, ⟨PyData.keyHash P ⟨#[99, 114, 101, 100, 105, 116, 115]⟩, (.str ⟨#[99, 114, 101, 100, 105, 116, 115]⟩ 157), (.builtin "builtins.credits#opaque")⟩, ⟨PyData.keyHash P ⟨#[108, 105, 99, 101, 110, 115, 101]⟩, (.str ⟨#[108, 105, 99, 101, 110, 115, 101]⟩ 158), (.builtin "builtins.license#opaque")⟩, ⟨PyData.keyHash P ⟨#[104, 101, 108, 112]⟩, (.str ⟨#[104, 101, 108, 112]⟩ 159), (.builtin "builtins.help#opaque")⟩] 159), #[]⟩
noncomputable def o1_0 (P : Params) : Obj := ⟨(.type "dict"), none, (.dict #[⟨PyData.keyHash P ⟨#[98, 117, 105, 108, 116, 105, 110, 115]⟩, (.str ⟨#[98, 117, 105, 108, 116, 105, 110, 115]⟩ 162), (.ref 4)⟩, ⟨PyData.keyHash P ⟨#[95, 95, 109, 97, 105, 110, 95, 95]⟩, (.str ⟨#[95, 95, 109, 97, 105, 110, 95, 95]⟩ 163), (.ref 5)⟩, ⟨PyData.keyHash P ⟨#[95, 115, 114, 101]⟩, (.str ⟨#[95, 115, 114, 101]⟩ 244), (.ref 12)⟩] 3), #[]⟩
noncomputable def o2_0 (P : Params) : Obj := ⟨.none, none, (.dict #[⟨PyData.keyHash P ⟨#[105, 109, 112, 111, 114, 116, 46, 108, 111, 97, 100, 101, 100, 46, 95, 115, 114, 101]⟩, (.str ⟨#[105, 109, 112, 111, 114, 116, 46, 108, 111, 97, 100, 101, 100, 46, 95, 115, 114, 101]⟩ 183), (.bool true)⟩, ⟨PyData.keyHash P ⟨#[99, 108, 97, 115, 115, 46, 95, 102, 114, 111, 122, 101, 110, 95, 105, 109, 112, 111, 114, 116, 108, 105, 98, 46, 66, 117, 105, 108, 116, 105, 110, 73, 109, 112, 111, 114, 116, 101, 114]⟩, (.str ⟨#[99, 108, 97, 115, 115, 46, 95, 102, 114, 111, 122, 101, 110, 95, 105, 109, 112, 111, 114, 116, 108, 105, 98, 46, 66, 117, 105, 108, 116, 105, 110, 73, 109, 112, 111, 114, 116, 101, 114]⟩ 185), (.ref 14)⟩, ⟨PyData.keyHash P ⟨#[119, 97, 116, 99, 104, 101, 100, 46, 105, 109, 112, 111, 114, 116]⟩, (.str ⟨#[119, 97, 116, 99, 104, 101, 100, 46, 105, 109, 112, 111, 114, 116]⟩ 206), (.ref 18)⟩, ⟨PyData.keyHash P ⟨#[99, 108, 97, 115, 115, 46, 95, 102, 114, 111, 122, 101, 110, 95, 105, 109, 112, 111, 114, 116, 108, 105, 98, 46, 77, 111, 100, 117, 108, 101, 83, 112, 101, 99]⟩, (.str ⟨#[99, 108, 97, 115, 115, 46, 95, 102, 114, 111, 122, 101, 110, 95, 105, 109, 112, 111, 114, 116, 108, 105, 98, 46, 77, 111, 100, 117, 108, 101, 83, 112, 101, 99]⟩ 216), (.ref 22)⟩, ⟨PyData.keyHash P ⟨#[115, 121, 115, 46, 109, 111, 100, 117, 108, 101, 115, 46, 98, 111, 111, 107, 101, 100, 45, 101, 112, 111, 99, 104]⟩, (.str ⟨#[115, 121, 115, 46, 109, 111, 100, 117, 108, 101, 115, 46, 98, 111, 111, 107, 101, 100, 45, 101, 112, 111, 99, 104]⟩ 245), (.int 3 0)⟩, ⟨PyData.keyHash P ⟨#[105, 109, 112, 111, 114, 116, 46, 108, 97, 116, 101, 114, 45, 108, 97, 105, 100, 46, 95, 115, 114, 101]⟩, (.str ⟨#[105, 109, 112, 111, 114, 116, 46, 108, 97, 116, 101, 114, 45, 108, 97, 105, 100, 46, 95, 115, 114, 101]⟩ 270), (.bool true)⟩, ⟨PyData.keyHash P ⟨#[119, 97, 116, 99, 104, 101, 100, 46, 108, 105, 98, 114, 97, 114, 121]⟩, (.str ⟨#[119, 97, 116, 99, 104, 101, 100, 46, 108, 105, 98, 114, 97, 114, 121]⟩ 272), (.ref 27)⟩, ⟨PyData.keyHash P ⟨#[119, 97, 116, 99, 104, 101, 100, 46, 108, 105, 98, 114, 97, 114, 121, 45, 111, 98, 106, 101, 99, 116, 115]⟩, (.str ⟨#[119, 97, 116, 99, 104, 101, 100, 46, 108, 105, 98, 114, 97, 114, 121, 45, 111, 98, 106, 101, 99, 116, 115]⟩ 0), (.str ⟨#[12]⟩ 0)⟩, ⟨PyData.keyHash P ⟨#[119, 97, 116, 99, 104, 101, 100, 46, 108, 105, 98, 114, 97, 114, 121, 45, 100, 101, 101, 112, 46, 95, 115, 114, 101]⟩, (.str ⟨#[119, 97, 116, 99, 104, 101, 100, 46, 108, 105, 98, 114, 97, 114, 121, 45, 100, 101, 101, 112, 46, 95, 115, 114, 101]⟩ 273), (.str ⟨#[4, 0, 0, 11, 4, 0, 0, 11, 4, 0, 0, 3, 4, 0, 0, 11, 8, 4, 100, 105, 99, 116, 2]⟩ 0)⟩] 9), #[]⟩
noncomputable def o3_0 (P : Params) : Obj := ⟨(.type "dict"), none, (.dict #[⟨PyData.keyHash P ⟨#[95, 95, 110, 97, 109, 101, 95, 95]⟩, (.str ⟨#[95, 95, 110, 97, 109, 101, 95, 95]⟩ 165), (.str ⟨#[95, 95, 109, 97, 105, 110, 95, 95]⟩ 164)⟩, ⟨PyData.keyHash P ⟨#[95, 95, 100, 111, 99, 95, 95]⟩, (.str ⟨#[95, 95, 100, 111, 99, 95, 95]⟩ 166), .none⟩, ⟨PyData.keyHash P ⟨#[95, 95, 112, 97, 99, 107, 97, 103, 101, 95, 95]⟩, (.str ⟨#[95, 95, 112, 97, 99, 107, 97, 103, 101, 95, 95]⟩ 167), .none⟩, ⟨PyData.keyHash P ⟨#[95, 95, 108, 111, 97, 100, 101, 114, 95, 95]⟩, (.str ⟨#[95, 95, 108, 111, 97, 100, 101, 114, 95, 95]⟩ 168), (.builtin "__main__.__loader__#opaque")⟩, ⟨PyData.keyHash P ⟨#[95, 95, 115, 112, 101, 99, 95, 95]⟩, (.str ⟨#[95, 95, 115, 112, 101, 99, 95, 95]⟩ 169), .none⟩, ⟨PyData.keyHash P ⟨#[95, 95, 97, 110, 110, 111, 116, 97, 116, 105, 111, 110, 115, 95, 95]⟩, (.str ⟨#[95, 95, 97, 110, 110, 111, 116, 97, 116, 105, 111, 110, 115, 95, 95]⟩ 170), (.ref 6)⟩, ⟨PyData.keyHash P ⟨#[95, 95, 98, 117, 105, 108, 116, 105, 110, 115, 95, 95]⟩, (.str ⟨#[95, 95, 98, 117, 105, 108, 116, 105, 110, 115, 95, 95]⟩ 171), (.ref 4)⟩, ⟨PyData.keyHash P ⟨#[95, 95, 102, 105, 108, 101, 95, 95]⟩, (.str ⟨#[95, 95, 102, 105, 108, 101, 95, 95]⟩ 173), (.str ⟨#[47, 99, 108, 97, 105, 109, 47, 99, 117, 116, 46, 112, 121]⟩ 172)⟩, ⟨PyData.keyHash P ⟨#[95, 95, 99, 97, 99, 104, 101, 100, 95, 95]⟩, (.str ⟨#[95, 95, 99, 97, 99, 104, 101, 100, 95, 95]⟩ 174), .none⟩, ⟨PyData.keyHash P ⟨#[95, 115, 114, 101]⟩, (.str ⟨#[95, 115, 114, 101]⟩ 275), (.ref 12)⟩] 10), #[]⟩
noncomputable def o4_0 (_ : Params) : Obj := ⟨(.type "module"), (some 0), .plain, #[]⟩
noncomputable def o5_0 (_ : Params) : Obj := ⟨(.type "module"), (some 3), .plain, #[]⟩
noncomputable def o6_0 (_ : Params) : Obj := ⟨(.type "dict"), none, (.dict #[] 0), #[]⟩
noncomputable def o7_0 (_ : Params) : Obj := ⟨(.type "tuple"), none, (.seq #[] 0), #[]⟩
noncomputable def o8_0 (_ : Params) : Obj := ⟨.none, none, (.fields #[]), #[]⟩
noncomputable def o9_0 (_ : Params) : Obj := ⟨(.type "code"), none, (.fields #[(.str ⟨#[60, 109, 111, 100, 117, 108, 101, 62]⟩ 176), (.str ⟨#[60, 109, 111, 100, 117, 108, 101, 62]⟩ 177), (.str ⟨#[47, 99, 108, 97, 105, 109, 47, 99, 117, 116, 46, 112, 121]⟩ 178), (.int 1 0), (.int 0 0), (.int 0 0), (.int 0 0), (.int 0 0), (.ref 7), (.bool false), (.int 175 0), (.ref 8), .none, .none, .none, .none, (.int 179 0), (.int 1 0), (.str ⟨#[47, 99, 108, 97, 105, 109, 47, 99, 117, 116, 46, 112, 121]⟩ 180)]), #[]⟩
noncomputable def o10_0 (_ : Params) : Obj := ⟨(.type "frame"), none, .plain, #[(some (.ref 9)), (some (.ref 3)), (some (.ref 3)), none, (some (.str ⟨#[95, 95, 109, 97, 105, 110, 95, 95]⟩ 164)), none, (some (.ref 0))]⟩
noncomputable def o11_0 (P : Params) : Obj := ⟨(.type "dict"), none, (.dict #[⟨PyData.keyHash P ⟨#[95, 95, 110, 97, 109, 101, 95, 95]⟩, (.str ⟨#[95, 95, 110, 97, 109, 101, 95, 95]⟩ 247), (.str ⟨#[95, 115, 114, 101]⟩ 246)⟩, ⟨PyData.keyHash P ⟨#[95, 95, 100, 111, 99, 95, 95]⟩, (.str ⟨#[95, 95, 100, 111, 99, 95, 95]⟩ 248), .none⟩, ⟨PyData.keyHash P ⟨#[95, 95, 112, 97, 99, 107, 97, 103, 101, 95, 95]⟩, (.str ⟨#[95, 95, 112, 97, 99, 107, 97, 103, 101, 95, 95]⟩ 250), (.str ⟨#[]⟩ 249)⟩, ⟨PyData.keyHash P ⟨#[95, 95, 108, 111, 97, 100, 101, 114, 95, 95]⟩, (.str ⟨#[95, 95, 108, 111, 97, 100, 101, 114, 95, 95]⟩ 251), (.builtin "off-the-table:_sre.__loader__:shared#opaque")⟩, ⟨PyData.keyHash P ⟨#[95, 95, 115, 112, 101, 99, 95, 95]⟩, (.str ⟨#[95, 95, 115, 112, 101, 99, 95, 95]⟩ 252), (.builtin "off-the-table:_sre.__spec__:shared#opaque")⟩, ⟨PyData.keyHash P ⟨#[99, 111, 109, 112, 105, 108, 101]⟩, (.str ⟨#[99, 111, 109, 112, 105, 108, 101]⟩ 253), (.builtin "_sre.compile")⟩, ⟨PyData.keyHash P ⟨#[116, 101, 109, 112, 108, 97, 116, 101]⟩, (.str ⟨#[116, 101, 109, 112, 108, 97, 116, 101]⟩ 254), (.builtin "off-the-table:_sre.template:shared#opaque")⟩, ⟨PyData.keyHash P ⟨#[103, 101, 116, 99, 111, 100, 101, 115, 105, 122, 101]⟩, (.str ⟨#[103, 101, 116, 99, 111, 100, 101, 115, 105, 122, 101]⟩ 255), (.builtin "off-the-table:_sre.getcodesize:shared#opaque")⟩, ⟨PyData.keyHash P ⟨#[97, 115, 99, 105, 105, 95, 105, 115, 99, 97, 115, 101, 100]⟩, (.str ⟨#[97, 115, 99, 105, 105, 95, 105, 115, 99, 97, 115, 101, 100]⟩ 256), (.builtin "off-the-table:_sre.ascii_iscased:shared#opaque")⟩, ⟨PyData.keyHash P ⟨#[117, 110, 105, 99, 111, 100, 101, 95, 105, 115, 99, 97, 115, 101, 100]⟩, (.str ⟨#[117, 110, 105, 99, 111, 100, 101, 95, 105, 115, 99, 97, 115, 101, 100]⟩ 257), (.builtin "off-the-table:_sre.unicode_iscased:shared#opaque")⟩, ⟨PyData.keyHash P ⟨#[97, 115, 99, 105, 105, 95, 116, 111, 108, 111, 119, 101, 114]⟩, (.str ⟨#[97, 115, 99, 105, 105, 95, 116, 111, 108, 111, 119, 101, 114]⟩ 258), (.builtin "off-the-table:_sre.ascii_tolower:shared#opaque")⟩, ⟨PyData.keyHash P ⟨#[117, 110, 105, 99, 111, 100, 101, 95, 116, 111, 108, 111, 119, 101, 114]⟩, (.str ⟨#[117, 110, 105, 99, 111, 100, 101, 95, 116, 111, 108, 111, 119, 101, 114]⟩ 259), (.builtin "off-the-table:_sre.unicode_tolower:shared#opaque")⟩, ⟨PyData.keyHash P ⟨#[77, 65, 71, 73, 67]⟩, (.str ⟨#[77, 65, 71, 73, 67]⟩ 261), (.int 20230612 260)⟩, ⟨PyData.keyHash P ⟨#[67, 79, 68, 69, 83, 73, 90, 69]⟩, (.str ⟨#[67, 79, 68, 69, 83, 73, 90, 69]⟩ 263), (.int 4 262)⟩, ⟨PyData.keyHash P ⟨#[77, 65, 88, 82, 69, 80, 69, 65, 84]⟩, (.str ⟨#[77, 65, 88, 82, 69, 80, 69, 65, 84]⟩ 265), (.int 4294967295 264)⟩, ⟨PyData.keyHash P ⟨#[77, 65, 88, 71, 82, 79, 85, 80, 83]⟩, (.str ⟨#[77, 65, 88, 71, 82, 79, 85, 80, 83]⟩ 267), (.int 1073741823 266)⟩, ⟨PyData.keyHash P ⟨#[99, 111, 112, 121, 114, 105, 103, 104, 116]⟩, (.str ⟨#[99, 111, 112, 121, 114, 105, 103, 104, 116]⟩ 269), (.str ⟨#[32, 83, 82, 69, 32, 50, 46, 50, 46, 50, 32, 67, 111, 112, 121, 114, 105, 103, 104, 116, 32, 40, 99, 41, 32, 49, 57, 57, 55, 45, 50, 48, 48, 50, 32, 98, 121, 32, 83, 101, 99, 114, 101, 116, 32, 76, 97, 98, 115, 32, 65, 66, 32]⟩ 268)⟩] 17), #[]⟩
noncomputable def o12_0 (_ : Params) : Obj := ⟨(.type "module"), (some 11), .plain, #[]⟩
noncomputable def o13_0 (P : Params) : Obj := ⟨(.type "dict"), none, (.dict #[⟨PyData.keyHash P ⟨#[95, 95, 109, 111, 100, 117, 108, 101, 95, 95]⟩, (.str ⟨#[95, 95, 109, 111, 100, 117, 108, 101, 95, 95]⟩ 189), (.str ⟨#[95, 102, 114, 111, 122, 101, 110, 95, 105, 109, 112, 111, 114, 116, 108, 105, 98]⟩ 186)⟩, ⟨PyData.keyHash P ⟨#[95, 95, 102, 105, 114, 115, 116, 108, 105, 110, 101, 110, 111, 95, 95]⟩, (.str ⟨#[95, 95, 102, 105, 114, 115, 116, 108, 105, 110, 101, 110, 111, 95, 95]⟩ 190), (.int 971 187)⟩, ⟨PyData.keyHash P ⟨#[95, 95, 100, 111, 99, 95, 95]⟩, (.str ⟨#[95, 95, 100, 111, 99, 95, 95]⟩ 191), (.builtin "_frozen_importlib.BuiltinImporter.__doc__:str#opaque")⟩, ⟨PyData.keyHash P ⟨#[95, 79, 82, 73, 71, 73, 78]⟩, (.str ⟨#[95, 79, 82, 73, 71, 73, 78]⟩ 192), (.str ⟨#[98, 117, 105, 108, 116, 45, 105, 110]⟩ 188)⟩, ⟨PyData.keyHash P ⟨#[102, 105, 110, 100, 95, 115, 112, 101, 99]⟩, (.str ⟨#[102, 105, 110, 100, 95, 115, 112, 101, 99]⟩ 193), (.builtin "_frozen_importlib.BuiltinImporter.find_spec#opaque")⟩, ⟨PyData.keyHash P ⟨#[99, 114, 101, 97, 116, 101, 95, 109, 111, 100, 117, 108, 101]⟩, (.str ⟨#[99, 114, 101, 97, 116, 101, 95, 109, 111, 100, 117, 108, 101]⟩ 194), (.builtin "_frozen_importlib.BuiltinImporter.create_module#opaque")⟩, ⟨PyData.keyHash P ⟨#[101, 120, 101, 99, 95, 109, 111, 100, 117, 108, 101]⟩, (.str ⟨#[101, 120, 101, 99, 95, 109, 111, 100, 117, 108, 101]⟩ 195), (.builtin "_frozen_importlib.BuiltinImporter.exec_module#opaque")⟩, ⟨PyData.keyHash P ⟨#[103, 101, 116, 95, 99, 111, 100, 101]⟩, (.str ⟨#[103, 101, 116, 95, 99, 111, 100, 101]⟩ 196), (.builtin "_frozen_importlib.BuiltinImporter.get_code#opaque")⟩, ⟨PyData.keyHash P ⟨#[103, 101, 116, 95, 115, 111, 117, 114, 99, 101]⟩, (.str ⟨#[103, 101, 116, 95, 115, 111, 117, 114, 99, 101]⟩ 197), (.builtin "_frozen_importlib.BuiltinImporter.get_source#opaque")⟩, ⟨PyData.keyHash P ⟨#[105, 115, 95, 112, 97, 99, 107, 97, 103, 101]⟩, (.str ⟨#[105, 115, 95, 112, 97, 99, 107, 97, 103, 101]⟩ 198), (.builtin "_frozen_importlib.BuiltinImporter.is_package#opaque")⟩, ⟨PyData.keyHash P ⟨#[108, 111, 97, 100, 95, 109, 111, 100, 117, 108, 101]⟩, (.str ⟨#[108, 111, 97, 100, 95, 109, 111, 100, 117, 108, 101]⟩ 199), (.builtin "_frozen_importlib.BuiltinImporter.load_module#opaque")⟩, ⟨PyData.keyHash P ⟨#[95, 95, 115, 116, 97, 116, 105, 99, 95, 97, 116, 116, 114, 105, 98, 117, 116, 101, 115, 95, 95]⟩, (.str ⟨#[95, 95, 115, 116, 97, 116, 105, 99, 95, 97, 116, 116, 114, 105, 98, 117, 116, 101, 115, 95, 95]⟩ 200), (.ref 15)⟩, ⟨PyData.keyHash P ⟨#[95, 95, 100, 105, 99, 116, 95, 95]⟩, (.str ⟨#[95, 95, 100, 105, 99, 116, 95, 95]⟩ 202), (.ref 16)⟩, ⟨PyData.keyHash P ⟨#[95, 95, 119, 101, 97, 107, 114, 101, 102, 95, 95]⟩, (.str ⟨#[95, 95, 119, 101, 97, 107, 114, 101, 102, 95, 95]⟩ 204), (.ref 17)⟩] 14), #[]⟩
noncomputable def o14_0 (_ : Params) : Obj := ⟨(.type "type"), none, (.cls { name := ⟨#[66, 117, 105, 108, 116, 105, 110, 73, 109, 112, 111, 114, 116, 101, 114]⟩, bases := [(.type "object")], mro := [(.ref 14), (.type "object")], ns := 13, qualname := ⟨#[66, 117, 105, 108, 116, 105, 110, 73, 109, 112, 111, 114, 116, 101, 114]⟩, hasDict := true, slotNames := [], subclasses := [], abstract := false, collection := none, hasDel := false }), #[]⟩
noncomputable def o15_0 (_ : Params) : Obj := ⟨(.type "tuple"), none, (.seq #[] 0), #[]⟩
noncomputable def o16_0 (_ : Params) : Obj := ⟨(.type "getset_descriptor"), none, (.fields #[(.str ⟨#[95, 95, 100, 105, 99, 116, 95, 95]⟩ 201), (.ref 14), (.builtin "function.__dict__"), (.builtin "function.__dict__#set")]), #[]⟩
noncomputable def o17_0 (_ : Params) : Obj := ⟨(.type "getset_descriptor"), none, (.fields #[(.str ⟨#[95, 95, 119, 101, 97, 107, 114, 101, 102, 95, 95]⟩ 203), (.ref 14), (.builtin "ExceptionGroup.__weakref__"), .none]), #[]⟩
noncomputable def o18_0 (_ : Params) : Obj := ⟨.none, none, (.seq #[(.int 13 0), (.str ⟨#[6, 189, 10, 95, 95, 109, 111, 100, 117, 108, 101, 95, 95, 6, 186, 17, 95, 102, 114, 111, 122, 101, 110, 95, 105, 109, 112, 111, 114, 116, 108, 105, 98, 6, 190, 15, 95, 95, 102, 105, 114, 115, 116, 108, 105, 110, 101, 110, 111, 95, 95, 4, 187, 0, 971, 6, 191, 7, 95, 95, 100, 111, 99, 95, 95, 9, 52, 95, 102, 114, 111, 122, 101, 110, 95, 105, 109, 112, 111, 114, 116, 108, 105, 98, 46, 66, 117, 105, 108, 116, 105, 110, 73, 109, 112, 111, 114, 116, 101, 114, 46, 95, 95, 100, 111, 99, 95, 95, 58, 115, 116, 114, 35, 111, 112, 97, 113, 117, 101, 6, 192, 7, 95, 79, 82, 73, 71, 73, 78, 6, 188, 8, 98, 117, 105, 108, 116, 45, 105, 110, 6, 193, 9, 102, 105, 110, 100, 95, 115, 112, 101, 99, 9, 50, 95, 102, 114, 111, 122, 101, 110, 95, 105, 109, 112, 111, 114, 116, 108, 105, 98, 46, 66, 117, 105, 108, 116, 105, 110, 73, 109, 112, 111, 114, 116, 101, 114, 46, 102, 105, 110, 100, 95, 115, 112, 101, 99, 35, 111, 112, 97, 113, 117, 101, 6, 194, 13, 99, 114, 101, 97, 116, 101, 95, 109, 111, 100, 117, 108, 101, 9, 54, 95, 102, 114, 111, 122, 101, 110, 95, 105, 109, 112, 111, 114, 116, 108, 105, 98, 46, 66, 117, 105, 108, 116, 105, 110, 73, 109, 112, 111, 114, 116, 101, 114, 46, 99, 114, 101, 97, 116, 101, 95, 109, 111, 100, 117, 108, 101, 35, 111, 112, 97, 113, 117, 101, 6, 195, 11, 101, 120, 101, 99, 95, 109, 111, 100, 117, 108, 101, 9, 52, 95, 102, 114, 111, 122, 101, 110, 95, 105, 109, 112, 111, 114, 116, 108, 105, 98, 46, 66, 117, 105, 108, 116, 105, 110, 73, 109, 112, 111, 114, 116, 101, 114, 46, 101, 120, 101, 99, 95, 109, 111, 100, 117, 108, 101, 35, 111, 112, 97, 113, 117, 101, 6, 196, 8, 103, 101, 116, 95, 99, 111, 100, 101, 9, 49, 95, 102, 114, 111, 122, 101, 110, 95, 105, 109, 112, 111, 114, 116, 108, 105, 98, 46, 66, 117, 105, 108, 116, 105, 110, 73, 109, 112, 111, 114, 116, 101, 114, 46, 103, 101, 116, 95, 99, 111, 100, 101, 35, 111, 112, 97, 113, 117, 101, 6, 197, 10, 103, 101, 116, 95, 115, 111, 117, 114, 99, 101, 9, 51, 95, 102, 114, 111, 122, 101, 110, 95, 105, 109, 112, 111, 114, 116, 108, 105, 98, 46, 66, 117, 105, 108, 116, 105, 110, 73, 109, 112, 111, 114, 116, 101, 114, 46, 103, 101, 116, 95, 115, 111, 117, 114, 99, 101, 35, 111, 112, 97, 113, 117, 101, 6, 198, 10, 105, 115, 95, 112, 97, 99, 107, 97, 103, 101, 9, 51, 95, 102, 114, 111, 122, 101, 110, 95, 105, 109, 112, 111, 114, 116, 108, 105, 98, 46, 66, 117, 105, 108, 116, 105, 110, 73, 109, 112, 111, 114, 116, 101, 114, 46, 105, 115, 95, 112, 97, 99, 107, 97, 103, 101, 35, 111, 112, 97, 113, 117, 101, 6, 199, 11, 108, 111, 97, 100, 95, 109, 111, 100, 117, 108, 101, 9, 52, 95, 102, 114, 111, 122, 101, 110, 95, 105, 109, 112, 111, 114, 116, 108, 105, 98, 46, 66, 117, 105, 108, 116, 105, 110, 73, 109, 112, 111, 114, 116, 101, 114, 46, 108, 111, 97, 100, 95, 109, 111, 100, 117, 108, 101, 35, 111, 112, 97, 113, 117, 101, 6, 200, 21, 95, 95, 115, 116, 97, 116, 105, 99, 95, 97, 116, 116, 114, 105, 98, 117, 116, 101, 115, 95, 95, 4, 0, 0, 15, 6, 202, 8, 95, 95, 100, 105, 99, 116, 95, 95, 4, 0, 0, 16, 6, 204, 11, 95, 95, 119, 101, 97, 107, 114, 101, 102, 95, 95, 4, 0, 0, 17]⟩ 0), (.bool true), (.bool true), (.str ⟨#[]⟩ 205), (.int 21 0), (.str ⟨#[6, 227, 10, 95, 95, 109, 111, 100, 117, 108, 101, 95, 95, 6, 217, 17, 95, 102, 114, 111, 122, 101, 110, 95, 105, 109, 112, 111, 114, 116, 108, 105, 98, 6, 228, 15, 95, 95, 102, 105, 114, 115, 116, 108, 105, 110, 101, 110, 111, 95, 95, 4, 218, 0, 562, 6, 229, 7, 95, 95, 100, 111, 99, 95, 95, 9, 47, 95, 102, 114, 111, 122, 101, 110, 95, 105, 109, 112, 111, 114, 116, 108, 105, 98, 46, 77, 111, 100, 117, 108, 101, 83, 112, 101, 99, 46, 95, 95, 100, 111, 99, 95, 95, 58, 115, 116, 114, 35, 111, 112, 97, 113, 117, 101, 6, 230, 8, 95, 95, 105, 110, 105, 116, 95, 95, 9, 44, 95, 102, 114, 111, 122, 101, 110, 95, 105, 109, 112, 111, 114, 116, 108, 105, 98, 46, 77, 111, 100, 117, 108, 101, 83, 112, 101, 99, 46, 95, 95, 105, 110, 105, 116, 95, 95, 35, 111, 112, 97, 113, 117, 101, 6, 231, 8, 95, 95, 114, 101, 112, 114, 95, 95, 9, 44, 95, 102, 114, 111, 122, 101, 110, 95, 105, 109, 112, 111, 114, 116, 108, 105, 98, 46, 77, 111, 100, 117, 108, 101, 83, 112, 101, 99, 46, 95, 95, 114, 101, 112, 114, 95, 95, 35, 111, 112, 97, 113, 117, 101, 6, 232, 6, 95, 95, 101, 113, 95, 95, 9, 42, 95, 102, 114, 111, 122, 101, 110, 95, 105, 109, 112, 111, 114, 116, 108, 105, 98, 46, 77, 111, 100, 117, 108, 101, 83, 112, 101, 99, 46, 95, 95, 101, 113, 95, 95, 35, 111, 112, 97, 113, 117, 101, 6, 233, 6, 99, 97, 99, 104, 101, 100, 9, 42, 95, 102, 114, 111, 122, 101, 110, 95, 105, 109, 112, 111, 114, 116, 108, 105, 98, 46, 77, 111, 100, 117, 108, 101, 83, 112, 101, 99, 46, 99, 97, 99, 104, 101, 100, 35, 111, 112, 97, 113, 117, 101, 6, 234, 6, 112, 97, 114, 101, 110, 116, 9, 42, 95, 102, 114, 111, 122, 101, 110, 95, 105, 109, 112, 111, 114, 116, 108, 105, 98, 46, 77, 111, 100, 117, 108, 101, 83, 112, 101, 99, 46, 112, 97, 114, 101, 110, 116, 35, 111, 112, 97, 113, 117, 101, 6, 235, 12, 104, 97, 115, 95, 108, 111, 99, 97, 116, 105, 111, 110, 9, 48, 95, 102, 114, 111, 122, 101, 110, 95, 105, 109, 112, 111, 114, 116, 108, 105, 98, 46, 77, 111, 100, 117, 108, 101, 83, 112, 101, 99, 46, 104, 97, 115, 95, 108, 111, 99, 97, 116, 105, 111, 110, 35, 111, 112, 97, 113, 117, 101, 6, 236, 21, 95, 95, 115, 116, 97, 116, 105, 99, 95, 97, 116, 116, 114, 105, 98, 117, 116, 101, 115, 95, 95, 4, 0, 0, 23, 6, 238, 8, 95, 95, 100, 105, 99, 116, 95, 95, 4, 0, 0, 24, 6, 240, 11, 95, 95, 119, 101, 97, 107, 114, 101, 102, 95, 95, 4, 0, 0, 25, 6, 241, 8, 95, 95, 104, 97, 115, 104, 95, 95, 0]⟩ 0), (.bool true), (.bool true), (.str ⟨#[]⟩ 242)] 1), #[]⟩
noncomputable def o19_0 (_ : Params) : Obj := ⟨(.type "list"), none, (.seq #[] 0), #[]⟩
noncomputable def o20_0 (P : Params) : Obj := ⟨(.type "dict"), none, (.dict #[⟨PyData.keyHash P ⟨#[110, 97, 109, 101]⟩, (.str ⟨#[110, 97, 109, 101]⟩ 208), (.str ⟨#[95, 115, 114, 101]⟩ 207)⟩, ⟨PyData.keyHash P ⟨#[108, 111, 97, 100, 101, 114]⟩, (.str ⟨#[108, 111, 97, 100, 101, 114]⟩ 209), (.ref 14)⟩, ⟨PyData.keyHash P ⟨#[111, 114, 105, 103, 105, 110]⟩, (.str ⟨#[111, 114, 105, 103, 105, 110]⟩ 210), (.str ⟨#[98, 117, 105, 108, 116, 45, 105, 110]⟩ 184)⟩, ⟨PyData.keyHash P ⟨#[108, 111, 97, 100, 101, 114, 95, 115, 116, 97, 116, 101]⟩, (.str ⟨#[108, 111, 97, 100, 101, 114, 95, 115, 116, 97, 116, 101]⟩ 211), .none⟩, ⟨PyData.keyHash P ⟨#[115, 117, 98, 109, 111, 100, 117, 108, 101, 95, 115, 101, 97, 114, 99, 104, 95, 108, 111, 99, 97, 116, 105, 111, 110, 115]⟩, (.str ⟨#[115, 117, 98, 109, 111, 100, 117, 108, 101, 95, 115, 101, 97, 114, 99, 104, 95, 108, 111, 99, 97, 116, 105, 111, 110, 115]⟩ 212), .none⟩, ⟨PyData.keyHash P ⟨#[95, 117, 110, 105, 110, 105, 116, 105, 97, 108, 105, 122, 101, 100, 95, 115, 117, 98, 109, 111, 100, 117, 108, 101, 115]⟩, (.str ⟨#[95, 117, 110, 105, 110, 105, 116, 105, 97, 108, 105, 122, 101, 100, 95, 115, 117, 98, 109, 111, 100, 117, 108, 101, 115]⟩ 213), (.ref 19)⟩, ⟨PyData.keyHash P ⟨#[95, 115, 101, 116, 95, 102, 105, 108, 101, 97, 116, 116, 114]⟩, (.str ⟨#[95, 115, 101, 116, 95, 102, 105, 108, 101, 97, 116, 116, 114]⟩ 214), (.bool false)⟩, ⟨PyData.keyHash P ⟨#[95, 99, 97, 99, 104, 101, 100]⟩, (.str ⟨#[95, 99, 97, 99, 104, 101, 100]⟩ 215), .none⟩, ⟨PyData.keyHash P ⟨#[95, 105, 110, 105, 116, 105, 97, 108, 105, 122, 105, 110, 103]⟩, (.str ⟨#[95, 105, 110, 105, 116, 105, 97, 108, 105, 122, 105, 110, 103]⟩ 243), (.bool false)⟩] 9), #[]⟩
noncomputable def o21_0 (P : Params) : Obj := ⟨(.type "dict"), none, (.dict #[⟨PyData.keyHash P ⟨#[95, 95, 109, 111, 100, 117, 108, 101, 95, 95]⟩, (.str ⟨#[95, 95, 109, 111, 100, 117, 108, 101, 95, 95]⟩ 227), (.str ⟨#[95, 102, 114, 111, 122, 101, 110, 95, 105, 109, 112, 111, 114, 116, 108, 105, 98]⟩ 217)⟩, ⟨PyData.keyHash P ⟨#[95, 95, 102, 105, 114, 115, 116, 108, 105, 110, 101, 110, 111, 95, 95]⟩, (.str ⟨#[95, 95, 102, 105, 114, 115, 116, 108, 105, 110, 101, 110, 111, 95, 95]⟩ 228), (.int 562 218)⟩, ⟨PyData.keyHash P ⟨#[95, 95, 100, 111, 99, 95, 95]⟩, (.str ⟨#[95, 95, 100, 111, 99, 95, 95]⟩ 229), (.builtin "_frozen_importlib.ModuleSpec.__doc__:str#opaque")⟩, ⟨PyData.keyHash P ⟨#[95, 95, 105, 110, 105, 116, 95, 95]⟩, (.str ⟨#[95, 95, 105, 110, 105, 116, 95, 95]⟩ 230), (.builtin "_frozen_importlib.ModuleSpec.__init__#opaque")⟩, ⟨PyData.keyHash P ⟨#[95, 95, 114, 101, 112, 114, 95, 95]⟩, (.str ⟨#[95, 95, 114, 101, 112, 114, 95, 95]⟩ 231), (.builtin "_frozen_importlib.ModuleSpec.__repr__#opaque")⟩, ⟨PyData.keyHash P ⟨#[95, 95, 101, 113, 95, 95]⟩, (.str ⟨#[95, 95, 101, 113, 95, 95]⟩ 232), (.builtin "_frozen_importlib.ModuleSpec.__eq__#opaque")⟩, ⟨PyData.keyHash P ⟨#[99, 97, 99, 104, 101, 100]⟩, (.str ⟨#[99, 97, 99, 104, 101, 100]⟩ 233), (.builtin "_frozen_importlib.ModuleSpec.cached#opaque")⟩, ⟨PyData.keyHash P ⟨#[112, 97, 114, 101, 110, 116]⟩, (.str ⟨#[112, 97, 114, 101, 110, 116]⟩ 234), (.builtin "_frozen_importlib.ModuleSpec.parent#opaque")⟩, ⟨PyData.keyHash P ⟨#[104, 97, 115, 95, 108, 111, 99, 97, 116, 105, 111, 110]⟩, (.str ⟨#[104, 97, 115, 95, 108, 111, 99, 97, 116, 105, 111, 110]⟩ 235), (.builtin "_frozen_importlib.ModuleSpec.has_location#opaque")⟩, ⟨PyData.keyHash P ⟨#[95, 95, 115, 116, 97, 116, 105, 99, 95, 97, 116, 116, 114, 105, 98, 117, 116, 101, 115, 95, 95]⟩, (.str ⟨#[95, 95, 115, 116, 97, 116, 105, 99, 95, 97, 116, 116, 114, 105, 98, 117, 116, 101, 115, 95, 95]⟩ 236), (.ref 23)⟩, ⟨PyData.keyHash P ⟨#[95, 95, 100, 105, 99, 116, 95, 95]⟩, (.str ⟨#[95, 95, 100, 105, 99, 116, 95, 95]⟩ 238), (.ref 24)⟩, ⟨PyData.keyHash P ⟨#[95, 95, 119, 101, 97, 107, 114, 101, 102, 95, 95]⟩, (.str ⟨#[95, 95, 119, 101, 97, 107, 114, 101, 102, 95, 95]⟩ 240), (.ref 25)⟩, ⟨PyData.keyHash P ⟨#[95, 95, 104, 97, 115, 104, 95, 95]⟩, (.str ⟨#[95, 95, 104, 97, 115, 104, 95, 95]⟩ 241), .none⟩] 13), #[]⟩
noncomputable def o22_0 (_ : Params) : Obj := ⟨(.type "type"), none, (.cls { name := ⟨#[77, 111, 100, 117, 108, 101, 83, 112, 101, 99]⟩, bases := [(.type "object")], mro := [(.ref 22), (.type "object")], ns := 21, qualname := ⟨#[77, 111, 100, 117, 108, 101, 83, 112, 101, 99]⟩, hasDict := true, slotNames := [], subclasses := [], abstract := false, collection := none, hasDel := false }), #[]⟩
noncomputable def o23_0 (_ : Params) : Obj := ⟨(.type "tuple"), none, (.seq #[(.str ⟨#[95, 99, 97, 99, 104, 101, 100]⟩ 219), (.str ⟨#[95, 115, 101, 116, 95, 102, 105, 108, 101, 97, 116, 116, 114]⟩ 220), (.str ⟨#[95, 117, 110, 105, 110, 105, 116, 105, 97, 108, 105, 122, 101, 100, 95, 115, 117, 98, 109, 111, 100, 117, 108, 101, 115]⟩ 221), (.str ⟨#[108, 111, 97, 100, 101, 114]⟩ 222), (.str ⟨#[108, 111, 97, 100, 101, 114, 95, 115, 116, 97, 116, 101]⟩ 223), (.str ⟨#[110, 97, 109, 101]⟩ 224), (.str ⟨#[111, 114, 105, 103, 105, 110]⟩ 225), (.str ⟨#[115, 117, 98, 109, 111, 100, 117, 108, 101, 95, 115, 101, 97, 114, 99, 104, 95, 108, 111, 99, 97, 116, 105, 111, 110, 115]⟩ 226)] 0), #[]⟩
noncomputable def o24_0 (_ : Params) : Obj := ⟨(.type "getset_descriptor"), none, (.fields #[(.str ⟨#[95, 95, 100, 105, 99, 116, 95, 95]⟩ 237), (.ref 22), (.builtin "function.__dict__"), (.builtin "function.__dict__#set")]), #[]⟩
noncomputable def o25_0 (_ : Params) : Obj := ⟨(.type "getset_descriptor"), none, (.fields #[(.str ⟨#[95, 95, 119, 101, 97, 107, 114, 101, 102, 95, 95]⟩ 239), (.ref 22), (.builtin "ExceptionGroup.__weakref__"), .none]), #[]⟩
noncomputable def o26_0 (_ : Params) : Obj := ⟨(.ref 22), (some 20), .plain, #[]⟩
noncomputable def o27_0 (_ : Params) : Obj := ⟨.none, none, (.seq #[(.int 11 0), (.str ⟨#[6, 247, 8, 95, 95, 110, 97, 109, 101, 95, 95, 6, 246, 4, 95, 115, 114, 101, 6, 248, 7, 95, 95, 100, 111, 99, 95, 95, 0, 6, 250, 11, 95, 95, 112, 97, 99, 107, 97, 103, 101, 95, 95, 6, 249, 0, 6, 251, 10, 95, 95, 108, 111, 97, 100, 101, 114, 95, 95, 4, 0, 0, 14, 6, 252, 8, 95, 95, 115, 112, 101, 99, 95, 95, 4, 0, 0, 26, 6, 253, 7, 99, 111, 109, 112, 105, 108, 101, 9, 12, 95, 115, 114, 101, 46, 99, 111, 109, 112, 105, 108, 101, 6, 254, 8, 116, 101, 109, 112, 108, 97, 116, 101, 9, 13, 95, 115, 114, 101, 46, 116, 101, 109, 112, 108, 97, 116, 101, 6, 255, 11, 103, 101, 116, 99, 111, 100, 101, 115, 105, 122, 101, 9, 16, 95, 115, 114, 101, 46, 103, 101, 116, 99, 111, 100, 101, 115, 105, 122, 101, 6, 256, 13, 97, 115, 99, 105, 105, 95, 105, 115, 99, 97, 115, 101, 100, 9, 18, 95, 115, 114, 101, 46, 97, 115, 99, 105, 105, 95, 105, 115, 99, 97, 115, 101, 100, 6, 257, 15, 117, 110, 105, 99, 111, 100, 101, 95, 105, 115, 99, 97, 115, 101, 100, 9, 20, 95, 115, 114, 101, 46, 117, 110, 105, 99, 111, 100, 101, 95, 105, 115, 99, 97, 115, 101, 100, 6, 258, 13, 97, 115, 99, 105, 105, 95, 116, 111, 108, 111, 119, 101, 114, 9, 18, 95, 115, 114, 101, 46, 97, 115, 99, 105, 105, 95, 116, 111, 108, 111, 119, 101, 114, 6, 259, 15, 117, 110, 105, 99, 111, 100, 101, 95, 116, 111, 108, 111, 119, 101, 114, 9, 20, 95, 115, 114, 101, 46, 117, 110, 105, 99, 111, 100, 101, 95, 116, 111, 108, 111, 119, 101, 114, 6, 261, 5, 77, 65, 71, 73, 67, 4, 260, 0, 20230612, 6, 263, 8, 67, 79, 68, 69, 83, 73, 90, 69, 4, 262, 0, 4, 6, 265, 9, 77, 65, 88, 82, 69, 80, 69, 65, 84, 4, 264, 0, 4294967295, 6, 267, 9, 77, 65, 88, 71, 82, 79, 85, 80, 83, 4, 266, 0, 1073741823, 6, 269, 9, 99, 111, 112, 121, 114, 105, 103, 104, 116, 6, 268, 53, 32, 83, 82, 69, 32, 50, 46, 50, 46, 50, 32, 67, 111, 112, 121, 114, 105, 103, 104, 116, 32, 40, 99, 41, 32, 49, 57, 57, 55, 45, 50, 48, 48, 50, 32, 98, 121, 32, 83, 101, 99, 114, 101, 116, 32, 76, 97, 98, 115, 32, 65, 66, 32]⟩ 0), (.bool true), (.bool false), (.str ⟨#[95, 115, 114, 101]⟩ 271)] 0), #[]⟩
noncomputable def o28_0 (_ : Params) : Obj := ⟨(.type "tuple"), none, (.seq #[] 0), #[]⟩
noncomputable def o29_0 (_ : Params) : Obj := ⟨.none, none, (.fields #[]), #[]⟩
noncomputable def o30_0 (_ : Params) : Obj := ⟨(.type "code"), none, (.fields #[(.str ⟨#[60, 109, 111, 100, 117, 108, 101, 62]⟩ 277), (.str ⟨#[60, 109, 111, 100, 117, 108, 101, 62]⟩ 278), (.str ⟨#[47, 99, 108, 97, 105, 109, 47, 99, 117, 116, 46, 112, 121]⟩ 279), (.int 1 0), (.int 0 0), (.int 0 0), (.int 0 0), (.int 0 0), (.ref 28), (.bool false), (.int 276 0), (.ref 29), .none, .none, .none, .none, (.int 280 0), (.int 1 0), (.str ⟨#[47, 99, 108, 97, 105, 109, 47, 99, 117, 116, 46, 112, 121]⟩ 281)]), #[]⟩
noncomputable def o31_0 (_ : Params) : Obj := ⟨(.type "frame"), none, .plain, #[(some (.ref 30)), (some (.ref 3)), (some (.ref 3)), none, (some (.str ⟨#[95, 95, 109, 97, 105, 110, 95, 95]⟩ 164)), none, (some (.ref 0))]⟩
noncomputable def o3_1 (P : Params) : Obj := ⟨(.type "dict"), none, (.dict #[⟨PyData.keyHash P ⟨#[95, 95, 110, 97, 109, 101, 95, 95]⟩, (.str ⟨#[95, 95, 110, 97, 109, 101, 95, 95]⟩ 165), (.str ⟨#[99, 112, 121, 51, 49, 51, 46, 100, 105, 115]⟩ 351)⟩, ⟨PyData.keyHash P ⟨#[95, 95, 100, 111, 99, 95, 95]⟩, (.str ⟨#[95, 95, 100, 111, 99, 95, 95]⟩ 166), .none⟩, ⟨PyData.keyHash P ⟨#[95, 95, 112, 97, 99, 107, 97, 103, 101, 95, 95]⟩, (.str ⟨#[95, 95, 112, 97, 99, 107, 97, 103, 101, 95, 95]⟩ 167), .none⟩, ⟨PyData.keyHash P ⟨#[95, 95, 108, 111, 97, 100, 101, 114, 95, 95]⟩, (.str ⟨#[95, 95, 108, 111, 97, 100, 101, 114, 95, 95]⟩ 168), (.builtin "__main__.__loader__#opaque")⟩, ⟨PyData.keyHash P ⟨#[95, 95, 115, 112, 101, 99, 95, 95]⟩, (.str ⟨#[95, 95, 115, 112, 101, 99, 95, 95]⟩ 169), .none⟩, ⟨PyData.keyHash P ⟨#[95, 95, 97, 110, 110, 111, 116, 97, 116, 105, 111, 110, 115, 95, 95]⟩, (.str ⟨#[95, 95, 97, 110, 110, 111, 116, 97, 116, 105, 111, 110, 115, 95, 95]⟩ 170), (.ref 6)⟩, ⟨PyData.keyHash P ⟨#[95, 95, 98, 117, 105, 108, 116, 105, 110, 115, 95, 95]⟩, (.str ⟨#[95, 95, 98, 117, 105, 108, 116, 105, 110, 115, 95, 95]⟩ 171), (.ref 4)⟩, ⟨PyData.keyHash P ⟨#[95, 95, 102, 105, 108, 101, 95, 95]⟩, (.str ⟨#[95, 95, 102, 105, 108, 101, 95, 95]⟩ 173), (.str ⟨#[47, 99, 108, 97, 105, 109, 47, 99, 117, 116, 46, 112, 121]⟩ 172)⟩, ⟨PyData.keyHash P ⟨#[95, 95, 99, 97, 99, 104, 101, 100, 95, 95]⟩, (.str ⟨#[95, 95, 99, 97, 99, 104, 101, 100, 95, 95]⟩ 174), .none⟩, ⟨PyData.keyHash P ⟨#[95, 115, 114, 101]⟩, (.str ⟨#[95, 115, 114, 101]⟩ 275), (.ref 12)⟩, ⟨PyData.keyHash P ⟨#[95, 116, 119, 105, 110, 95, 114, 101, 95, 49]⟩, (.str ⟨#[95, 116, 119, 105, 110, 95, 114, 101, 95, 49]⟩ 299), (.ref 36)⟩, ⟨PyData.keyHash P ⟨#[95, 116, 119, 105, 110, 95, 114, 101, 95, 50]⟩, (.str ⟨#[95, 116, 119, 105, 110, 95, 114, 101, 95, 50]⟩ 341), (.ref 41)⟩, ⟨PyData.keyHash P ⟨#[67, 82, 76, 70]⟩, (.str ⟨#[67, 82, 76, 70]⟩ 343), (.str ⟨#[13, 10]⟩ 342)⟩, ⟨PyData.keyHash P ⟨#[113, 117, 111, 116, 101, 100, 97, 116, 97]⟩, (.str ⟨#[113, 117, 111, 116, 101, 100, 97, 116, 97]⟩ 350), (.ref 48)⟩] 14), #[]⟩
noncomputable def o29_1 (_ : Params) : Obj := ⟨.none, none, (.fields #[(.int 6 0), (.int 0 0), (.ref 47)]), #[]⟩
noncomputable def o32_0 (_ : Params) : Obj := ⟨(.type "list"), none, (.seq #[(.int 14 287), (.int 4 288), (.int 0 289), (.int 1 290), (.int 1 291), (.int 6 292), (.int 1 293), (.int 16 294), (.int 46 295), (.int 1 296)] 0), #[]⟩
noncomputable def o33_0 (_ : Params) : Obj := ⟨(.type "dict"), none, (.dict #[] 0), #[]⟩
noncomputable def o34_0 (_ : Params) : Obj := ⟨(.type "tuple"), none, (.seq #[.none] 0), #[]⟩
noncomputable def o35_0 (_ : Params) : Obj := ⟨(.type "tuple"), none, (.seq #[(.int 14 0), (.int 4 0), (.int 0 0), (.int 1 0), (.int 1 0), (.int 6 0), (.int 1 0), (.int 16 0), (.int 46 0), (.int 1 0)] 0), #[]⟩
noncomputable def o36_0 (_ : Params) : Obj := ⟨(.type "re.Pattern"), none, (.fields #[(.str ⟨#[40, 63, 109, 41, 94, 92, 46]⟩ 285), (.int 40 298), (.int 0 0), .none, .none, (.ref 35), (.int 0 0)]), #[]⟩
noncomputable def o37_0 (_ : Params) : Obj := ⟨(.type "list"), none, (.seq #[(.int 14 303), (.int 9 304), (.int 4 305), (.int 1 306), (.int 2 307), (.int 16 308), (.int 10 309), (.int 16 310), (.int 13 311), (.int 0 312), (.int 7 313), (.int 7 314), (.int 16 315), (.int 13 316), (.int 16 317), (.int 10 318), (.int 15 319), (.int 18 320), (.int 5 321), (.int 16 322), (.int 10 323), (.int 15 324), (.int 13 325), (.int 11 326), (.int 16 327), (.int 13 328), (.int 5 329), (.int 5 330), (.int 0 331), (.int 16 332), (.int 10 333), (.int 1 334), (.int 15 335), (.int 2 336), (.int 0 337), (.int 1 338)] 0), #[]⟩
noncomputable def o38_0 (_ : Params) : Obj := ⟨(.type "dict"), none, (.dict #[] 0), #[]⟩
noncomputable def o39_0 (_ : Params) : Obj := ⟨(.type "tuple"), none, (.seq #[.none] 0), #[]⟩
noncomputable def o40_0 (_ : Params) : Obj := ⟨(.type "tuple"), none, (.seq #[(.int 14 0), (.int 9 0), (.int 4 0), (.int 1 0), (.int 2 0), (.int 16 0), (.int 10 0), (.int 16 0), (.int 13 0), (.int 0 0), (.int 7 0), (.int 7 0), (.int 16 0), (.int 13 0), (.int 16 0), (.int 10 0), (.int 15 0), (.int 18 0), (.int 5 0), (.int 16 0), (.int 10 0), (.int 15 0), (.int 13 0), (.int 11 0), (.int 16 0), (.int 13 0), (.int 5 0), (.int 5 0), (.int 0 0), (.int 16 0), (.int 10 0), (.int 1 0), (.int 15 0), (.int 2 0), (.int 0 0), (.int 1 0)] 0), #[]⟩
noncomputable def o41_0 (_ : Params) : Obj := ⟨(.type "re.Pattern"), none, (.fields #[(.str ⟨#[40, 63, 58, 92, 114, 92, 110, 124, 92, 110, 124, 92, 114, 40, 63, 33, 92, 110, 41, 41]⟩ 301), (.int 32 340), (.int 0 0), .none, .none, (.ref 40), (.int 0 0)]), #[]⟩
noncomputable def o42_0 (_ : Params) : Obj := ⟨(.type "tuple"), none, (.seq #[] 0), #[]⟩
noncomputable def o43_0 (_ : Params) : Obj := ⟨.none, none, (.fields #[]), #[]⟩
noncomputable def o44_0 (_ : Params) : Obj := ⟨(.type "tuple"), none, (.seq #[(.str ⟨#[100, 97, 116, 97]⟩ 347)] 0), #[]⟩
noncomputable def o45_0 (_ : Params) : Obj := ⟨(.type "tuple"), none, (.seq #[] 0), #[]⟩
noncomputable def o46_0 (_ : Params) : Obj := ⟨.none, none, (.func { name := ⟨#[113, 117, 111, 116, 101, 100, 97, 116, 97]⟩, qualname := ⟨#[113, 117, 111, 116, 101, 100, 97, 116, 97]⟩, params := (fnp 5).1, body := (fnp 5).2.1, scope := (fnp 5).2.2, globals := 0, closure := [], defaults := .none, kwdefaults := .none, doc := .none, pyModule := .none, annotations := none, code := .none, closureTuple := .none, builtins := 0 }), #[]⟩
noncomputable def o47_0 (_ : Params) : Obj := ⟨(.type "code"), none, (.fields #[(.str ⟨#[113, 117, 111, 116, 101, 100, 97, 116, 97]⟩ 344), (.str ⟨#[113, 117, 111, 116, 101, 100, 97, 116, 97]⟩ 345), (.str ⟨#[47, 99, 108, 97, 105, 109, 47, 99, 117, 116, 46, 112, 121]⟩ 346), (.int 6 0), (.int 1 0), (.int 0 0), (.int 0 0), (.int 3 0), (.ref 42), (.bool true), (.int 276 0), (.ref 43), .none, (.ref 44), (.ref 45), (.ref 46), (.int 348 0), (.int 6 0), (.str ⟨#[47, 99, 108, 97, 105, 109, 47, 99, 117, 116, 46, 112, 121]⟩ 349)]), #[]⟩
noncomputable def o48_0 (_ : Params) : Obj := ⟨(.type "function"), none, (.func { name := ⟨#[113, 117, 111, 116, 101, 100, 97, 116, 97]⟩, qualname := ⟨#[113, 117, 111, 116, 101, 100, 97, 116, 97]⟩, params := (fnp 5).1, body := (fnp 5).2.1, scope := (fnp 5).2.2, globals := 3, closure := [], defaults := .none, kwdefaults := .none, doc := .none, pyModule := (.str ⟨#[99, 112, 121, 51, 49, 51, 46, 115, 109, 116, 112, 108, 105, 98]⟩ 282), annotations := none, code := (.ref 47), closureTuple := .none, builtins := 0 }), #[]⟩
noncomputable def o3_2 (P : Params) : Obj := ⟨(.type "dict"), none, (.dict #[⟨PyData.keyHash P ⟨#[95, 95, 110, 97, 109, 101, 95, 95]⟩, (.str ⟨#[95, 95, 110, 97, 109, 101, 95, 95]⟩ 165), (.str ⟨#[99, 112, 121, 51, 49, 51, 46, 100, 105, 115]⟩ 351)⟩, ⟨PyData.keyHash P ⟨#[95, 95, 100, 111, 99, 95, 95]⟩, (.str ⟨#[95, 95, 100, 111, 99, 95, 95]⟩ 166), .none⟩, ⟨PyData.keyHash P ⟨#[95, 95, 112, 97, 99, 107, 97, 103, 101, 95, 95]⟩, (.str ⟨#[95, 95, 112, 97, 99, 107, 97, 103, 101, 95, 95]⟩ 167), .none⟩, ⟨PyData.keyHash P ⟨#[95, 95, 108, 111, 97, 100, 101, 114, 95, 95]⟩, (.str ⟨#[95, 95, 108, 111, 97, 100, 101, 114, 95, 95]⟩ 168), (.builtin "__main__.__loader__#opaque")⟩, ⟨PyData.keyHash P ⟨#[95, 95, 115, 112, 101, 99, 95, 95]⟩, (.str ⟨#[95, 95, 115, 112, 101, 99, 95, 95]⟩ 169), .none⟩, ⟨PyData.keyHash P ⟨#[95, 95, 97, 110, 110, 111, 116, 97, 116, 105, 111, 110, 115, 95, 95]⟩, (.str ⟨#[95, 95, 97, 110, 110, 111, 116, 97, 116, 105, 111, 110, 115, 95, 95]⟩ 170), (.ref 6)⟩, ⟨PyData.keyHash P ⟨#[95, 95, 98, 117, 105, 108, 116, 105, 110, 115, 95, 95]⟩, (.str ⟨#[95, 95, 98, 117, 105, 108, 116, 105, 110, 115, 95, 95]⟩ 171), (.ref 4)⟩, ⟨PyData.keyHash P ⟨#[95, 95, 102, 105, 108, 101, 95, 95]⟩, (.str ⟨#[95, 95, 102, 105, 108, 101, 95, 95]⟩ 173), (.str ⟨#[47, 99, 108, 97, 105, 109, 47, 99, 117, 116, 46, 112, 121]⟩ 172)⟩, ⟨PyData.keyHash P ⟨#[95, 95, 99, 97, 99, 104, 101, 100, 95, 95]⟩, (.str ⟨#[95, 95, 99, 97, 99, 104, 101, 100, 95, 95]⟩ 174), .none⟩, ⟨PyData.keyHash P ⟨#[95, 115, 114, 101]⟩, (.str ⟨#[95, 115, 114, 101]⟩ 275), (.ref 12)⟩, ⟨PyData.keyHash P ⟨#[95, 116, 119, 105, 110, 95, 114, 101, 95, 49]⟩, (.str ⟨#[95, 116, 119, 105, 110, 95, 114, 101, 95, 49]⟩ 299), (.ref 36)⟩, ⟨PyData.keyHash P ⟨#[95, 116, 119, 105, 110, 95, 114, 101, 95, 50]⟩, (.str ⟨#[95, 116, 119, 105, 110, 95, 114, 101, 95, 50]⟩ 341), (.ref 41)⟩, ⟨PyData.keyHash P ⟨#[67, 82, 76, 70]⟩, (.str ⟨#[67, 82, 76, 70]⟩ 343), (.str ⟨#[13, 10]⟩ 342)⟩, ⟨PyData.keyHash P ⟨#[113, 117, 111, 116, 101, 100, 97, 116, 97]⟩, (.str ⟨#[113, 117, 111, 116, 101, 100, 97, 116, 97]⟩ 350), (.ref 48)⟩, ⟨PyData.keyHash P ⟨#[67, 79, 77, 80, 73, 76, 69, 82, 95, 70, 76, 65, 71, 95, 78, 65, 77, 69, 83]⟩, (.str ⟨#[67, 79, 77, 80, 73, 76, 69, 82, 95, 70, 76, 65, 71, 95, 78, 65, 77, 69, 83]⟩ 383), (.ref 49)⟩] 15), #[]⟩
noncomputable def o49_0 (_ : Params) : Obj := ⟨(.type "dict"), none, (.dict #[⟨1, (.int 1 353), (.str ⟨#[79, 80, 84, 73, 77, 73, 90, 69, 68]⟩ 354)⟩, ⟨2, (.int 2 355), (.str ⟨#[78, 69, 87, 76, 79, 67, 65, 76, 83]⟩ 356)⟩, ⟨4, (.int 4 357), (.str ⟨#[86, 65, 82, 65, 82, 71, 83]⟩ 358)⟩, ⟨8, (.int 8 359), (.str ⟨#[86, 65, 82, 75, 69, 89, 87, 79, 82, 68, 83]⟩ 360)⟩, ⟨16, (.int 16 361), (.str ⟨#[78, 69, 83, 84, 69, 68]⟩ 362)⟩, ⟨32, (.int 32 363), (.str ⟨#[71, 69, 78, 69, 82, 65, 84, 79, 82]⟩ 364)⟩, ⟨64, (.int 64 365), (.str ⟨#[78, 79, 70, 82, 69, 69]⟩ 366)⟩, ⟨128, (.int 128 367), (.str ⟨#[67, 79, 82, 79, 85, 84, 73, 78, 69]⟩ 368)⟩, ⟨256, (.int 256 369), (.str ⟨#[73, 84, 69, 82, 65, 66, 76, 69, 95, 67, 79, 82, 79, 85, 84, 73, 78, 69]⟩ 370)⟩, ⟨512, (.int 512 371), (.str ⟨#[65, 83, 89, 78, 67, 95, 71, 69, 78, 69, 82, 65, 84, 79, 82]⟩ 372)⟩] 10), #[]⟩
noncomputable def o3_3 (P : Params) : Obj := ⟨(.type "dict"), none, (.dict #[⟨PyData.keyHash P ⟨#[95, 95, 110, 97, 109, 101, 95, 95]⟩, (.str ⟨#[95, 95, 110, 97, 109, 101, 95, 95]⟩ 165), (.str ⟨#[99, 112, 121, 51, 49, 51, 46, 115, 116, 114, 105, 110, 103, 112, 114, 101, 112]⟩ 427)⟩, ⟨PyData.keyHash P ⟨#[95, 95, 100, 111, 99, 95, 95]⟩, (.str ⟨#[95, 95, 100, 111, 99, 95, 95]⟩ 166), .none⟩, ⟨PyData.keyHash P ⟨#[95, 95, 112, 97, 99, 107, 97, 103, 101, 95, 95]⟩, (.str ⟨#[95, 95, 112, 97, 99, 107, 97, 103, 101, 95, 95]⟩ 167), .none⟩, ⟨PyData.keyHash P ⟨#[95, 95, 108, 111, 97, 100, 101, 114, 95, 95]⟩, (.str ⟨#[95, 95, 108, 111, 97, 100, 101, 114, 95, 95]⟩ 168), (.builtin "__main__.__loader__#opaque")⟩, ⟨PyData.keyHash P ⟨#[95, 95, 115, 112, 101, 99, 95, 95]⟩, (.str ⟨#[95, 95, 115, 112, 101, 99, 95, 95]⟩ 169), .none⟩, ⟨PyData.keyHash P ⟨#[95, 95, 97, 110, 110, 111, 116, 97, 116, 105, 111, 110, 115, 95, 95]⟩, (.str ⟨#[95, 95, 97, 110, 110, 111, 116, 97, 116, 105, 111, 110, 115, 95, 95]⟩ 170), (.ref 6)⟩, ⟨PyData.keyHash P ⟨#[95, 95, 98, 117, 105, 108, 116, 105, 110, 115, 95, 95]⟩, (.str ⟨#[95, 95, 98, 117, 105, 108, 116, 105, 110, 115, 95, 95]⟩ 171), (.ref 4)⟩, ⟨PyData.keyHash P ⟨#[95, 95, 102, 105, 108, 101, 95, 95]⟩, (.str ⟨#[95, 95, 102, 105, 108, 101, 95, 95]⟩ 173), (.str ⟨#[47, 99, 108, 97, 105, 109, 47, 99, 117, 116, 46, 112, 121]⟩ 172)⟩, ⟨PyData.keyHash P ⟨#[95, 95, 99, 97, 99, 104, 101, 100, 95, 95]⟩, (.str ⟨#[95, 95, 99, 97, 99, 104, 101, 100, 95, 95]⟩ 174), .none⟩, ⟨PyData.keyHash P ⟨#[95, 115, 114, 101]⟩, (.str ⟨#[95, 115, 114, 101]⟩ 275), (.ref 12)⟩, ⟨PyData.keyHash P ⟨#[95, 116, 119, 105, 110, 95, 114, 101, 95, 49]⟩, (.str ⟨#[95, 116, 119, 105, 110, 95, 114, 101, 95, 49]⟩ 299), (.ref 36)⟩, ⟨PyData.keyHash P ⟨#[95, 116, 119, 105, 110, 95, 114, 101, 95, 50]⟩, (.str ⟨#[95, 116, 119, 105, 110, 95, 114, 101, 95, 50]⟩ 341), (.ref 41)⟩, ⟨PyData.keyHash P ⟨#[67, 82, 76, 70]⟩, (.str ⟨#[67, 82, 76, 70]⟩ 343), (.str ⟨#[13, 10]⟩ 342)⟩, ⟨PyData.keyHash P ⟨#[113, 117, 111, 116, 101, 100, 97, 116, 97]⟩, (.str ⟨#[113, 117, 111, 116, 101, 100, 97, 116, 97]⟩ 350), (.ref 48)⟩, ⟨PyData.keyHash P ⟨#[67, 79, 77, 80, 73, 76, 69, 82, 95, 70, 76, 65, 71, 95, 78, 65, 77, 69, 83]⟩, (.str ⟨#[67, 79, 77, 80, 73, 76, 69, 82, 95, 70, 76, 65, 71, 95, 78, 65, 77, 69, 83]⟩ 383), (.ref 49)⟩, ⟨PyData.keyHash P ⟨#[112, 114, 101, 116, 116, 121, 95, 102, 108, 97, 103, 115]⟩, (.str ⟨#[112, 114, 101, 116, 116, 121, 95, 102, 108, 97, 103, 115]⟩ 393), (.ref 56)⟩, ⟨PyData.keyHash P ⟨#[95, 112, 97, 114, 115, 101, 95, 118, 97, 114, 105, 110, 116]⟩, (.str ⟨#[95, 112, 97, 114, 115, 101, 95, 118, 97, 114, 105, 110, 116]⟩ 402), (.ref 63)⟩, ⟨PyData.keyHash P ⟨#[95, 105, 116, 101, 114, 95, 101, 115, 99, 97, 112, 101, 100, 95, 99, 104, 97, 114, 115]⟩, (.str ⟨#[95, 105, 116, 101, 114, 95, 101, 115, 99, 97, 112, 101, 100, 95, 99, 104, 97, 114, 115]⟩ 414), (.ref 70)⟩, ⟨PyData.keyHash P ⟨#[95, 115, 116, 114, 105, 112, 95, 113, 117, 111, 116, 101, 100, 95, 114, 101, 97, 108, 110, 97, 109, 101, 115]⟩, (.str ⟨#[95, 115, 116, 114, 105, 112, 95, 113, 117, 111, 116, 101, 100, 95, 114, 101, 97, 108, 110, 97, 109, 101, 115]⟩ 426), (.ref 77)⟩] 19), #[]⟩
noncomputable def o29_2 (_ : Params) : Obj := ⟨.none, none, (.fields #[(.int 6 0), (.int 0 0), (.ref 47), (.int 10 0), (.int 0 0), (.ref 55), (.int 22 0), (.int 0 0), (.ref 62), (.int 31 0), (.int 0 0), (.ref 69), (.int 44 0), (.int 0 0), (.ref 76)]), #[]⟩
noncomputable def o50_0 (_ : Params) : Obj := ⟨(.type "tuple"), none, (.seq #[] 0), #[]⟩
noncomputable def o51_0 (_ : Params) : Obj := ⟨.none, none, (.fields #[]), #[]⟩
noncomputable def o52_0 (_ : Params) : Obj := ⟨(.type "tuple"), none, (.seq #[(.str ⟨#[102, 108, 97, 103, 115]⟩ 387), (.str ⟨#[110, 97, 109, 101, 115]⟩ 388), (.str ⟨#[105]⟩ 389), (.str ⟨#[102, 108, 97, 103]⟩ 390)] 0), #[]⟩
noncomputable def o53_0 (_ : Params) : Obj := ⟨(.type "tuple"), none, (.seq #[] 0), #[]⟩
noncomputable def o54_0 (_ : Params) : Obj := ⟨.none, none, (.func { name := ⟨#[112, 114, 101, 116, 116, 121, 95, 102, 108, 97, 103, 115]⟩, qualname := ⟨#[112, 114, 101, 116, 116, 121, 95, 102, 108, 97, 103, 115]⟩, params := (fnp 8).1, body := (fnp 8).2.1, scope := (fnp 8).2.2, globals := 0, closure := [], defaults := .none, kwdefaults := .none, doc := .none, pyModule := .none, annotations := none, code := .none, closureTuple := .none, builtins := 0 }), #[]⟩
noncomputable def o55_0 (_ : Params) : Obj := ⟨(.type "code"), none, (.fields #[(.str ⟨#[112, 114, 101, 116, 116, 121, 95, 102, 108, 97, 103, 115]⟩ 384), (.str ⟨#[112, 114, 101, 116, 116, 121, 95, 102, 108, 97, 103, 115]⟩ 385), (.str ⟨#[47, 99, 108, 97, 105, 109, 47, 99, 117, 116, 46, 112, 121]⟩ 386), (.int 10 0), (.int 1 0), (.int 0 0), (.int 0 0), (.int 3 0), (.ref 50), (.bool true), (.int 276 0), (.ref 51), .none, (.ref 52), (.ref 53), (.ref 54), (.int 391 0), (.int 10 0), (.str ⟨#[47, 99, 108, 97, 105, 109, 47, 99, 117, 116, 46, 112, 121]⟩ 392)]), #[]⟩
noncomputable def o56_0 (_ : Params) : Obj := ⟨(.type "function"), none, (.func { name := ⟨#[112, 114, 101, 116, 116, 121, 95, 102, 108, 97, 103, 115]⟩, qualname := ⟨#[112, 114, 101, 116, 116, 121, 95, 102, 108, 97, 103, 115]⟩, params := (fnp 8).1, body := (fnp 8).2.1, scope := (fnp 8).2.2, globals := 3, closure := [], defaults := .none, kwdefaults := .none, doc := .none, pyModule := (.str ⟨#[99, 112, 121, 51, 49, 51, 46, 100, 105, 115]⟩ 351), annotations := none, code := (.ref 55), closureTuple := .none, builtins := 0 }), #[]⟩
noncomputable def o57_0 (_ : Params) : Obj := ⟨(.type "tuple"), none, (.seq #[] 0), #[]⟩
noncomputable def o58_0 (_ : Params) : Obj := ⟨.none, none, (.fields #[]), #[]⟩
noncomputable def o59_0 (_ : Params) : Obj := ⟨(.type "tuple"), none, (.seq #[(.str ⟨#[105, 116, 101, 114, 97, 116, 111, 114]⟩ 397), (.str ⟨#[98]⟩ 398), (.str ⟨#[118, 97, 108]⟩ 399)] 0), #[]⟩
noncomputable def o60_0 (_ : Params) : Obj := ⟨(.type "tuple"), none, (.seq #[] 0), #[]⟩
noncomputable def o61_0 (_ : Params) : Obj := ⟨.none, none, (.func { name := ⟨#[95, 112, 97, 114, 115, 101, 95, 118, 97, 114, 105, 110, 116]⟩, qualname := ⟨#[95, 112, 97, 114, 115, 101, 95, 118, 97, 114, 105, 110, 116]⟩, params := (fnp 9).1, body := (fnp 9).2.1, scope := (fnp 9).2.2, globals := 0, closure := [], defaults := .none, kwdefaults := .none, doc := .none, pyModule := .none, annotations := none, code := .none, closureTuple := .none, builtins := 0 }), #[]⟩
noncomputable def o62_0 (_ : Params) : Obj := ⟨(.type "code"), none, (.fields #[(.str ⟨#[95, 112, 97, 114, 115, 101, 95, 118, 97, 114, 105, 110, 116]⟩ 394), (.str ⟨#[95, 112, 97, 114, 115, 101, 95, 118, 97, 114, 105, 110, 116]⟩ 395), (.str ⟨#[47, 99, 108, 97, 105, 109, 47, 99, 117, 116, 46, 112, 121]⟩ 396), (.int 22 0), (.int 1 0), (.int 0 0), (.int 0 0), (.int 3 0), (.ref 57), (.bool true), (.int 276 0), (.ref 58), .none, (.ref 59), (.ref 60), (.ref 61), (.int 400 0), (.int 22 0), (.str ⟨#[47, 99, 108, 97, 105, 109, 47, 99, 117, 116, 46, 112, 121]⟩ 401)]), #[]⟩
noncomputable def o63_0 (_ : Params) : Obj := ⟨(.type "function"), none, (.func { name := ⟨#[95, 112, 97, 114, 115, 101, 95, 118, 97, 114, 105, 110, 116]⟩, qualname := ⟨#[95, 112, 97, 114, 115, 101, 95, 118, 97, 114, 105, 110, 116]⟩, params := (fnp 9).1, body := (fnp 9).2.1, scope := (fnp 9).2.2, globals := 3, closure := [], defaults := .none, kwdefaults := .none, doc := .none, pyModule := (.str ⟨#[99, 112, 121, 51, 49, 51, 46, 100, 105, 115]⟩ 351), annotations := none, code := (.ref 62), closureTuple := .none, builtins := 0 }), #[]⟩
noncomputable def o64_0 (_ : Params) : Obj := ⟨(.type "tuple"), none, (.seq #[] 0), #[]⟩
noncomputable def o65_0 (_ : Params) : Obj := ⟨.none, none, (.fields #[]), #[]⟩
noncomputable def o66_0 (_ : Params) : Obj := ⟨(.type "tuple"), none, (.seq #[(.str ⟨#[97, 100, 100, 114]⟩ 408), (.str ⟨#[112, 111, 115]⟩ 409), (.str ⟨#[101, 115, 99, 97, 112, 101]⟩ 410), (.str ⟨#[99, 104]⟩ 411)] 0), #[]⟩
noncomputable def o67_0 (_ : Params) : Obj := ⟨(.type "tuple"), none, (.seq #[] 0), #[]⟩
noncomputable def o68_0 (_ : Params) : Obj := ⟨.none, none, (.func { name := ⟨#[95, 105, 116, 101, 114, 95, 101, 115, 99, 97, 112, 101, 100, 95, 99, 104, 97, 114, 115]⟩, qualname := ⟨#[95, 105, 116, 101, 114, 95, 101, 115, 99, 97, 112, 101, 100, 95, 99, 104, 97, 114, 115]⟩, params := (fnp 11).1, body := (fnp 11).2.1, scope := (fnp 11).2.2, globals := 0, closure := [], defaults := .none, kwdefaults := .none, doc := .none, pyModule := .none, annotations := none, code := .none, closureTuple := .none, builtins := 0 }), #[]⟩
noncomputable def o69_0 (_ : Params) : Obj := ⟨(.type "code"), none, (.fields #[(.str ⟨#[95, 105, 116, 101, 114, 95, 101, 115, 99, 97, 112, 101, 100, 95, 99, 104, 97, 114, 115]⟩ 405), (.str ⟨#[95, 105, 116, 101, 114, 95, 101, 115, 99, 97, 112, 101, 100, 95, 99, 104, 97, 114, 115]⟩ 406), (.str ⟨#[47, 99, 108, 97, 105, 109, 47, 99, 117, 116, 46, 112, 121]⟩ 407), (.int 31 0), (.int 1 0), (.int 0 0), (.int 0 0), (.int 35 0), (.ref 64), (.bool true), (.int 276 0), (.ref 65), .none, (.ref 66), (.ref 67), (.ref 68), (.int 412 0), (.int 31 0), (.str ⟨#[47, 99, 108, 97, 105, 109, 47, 99, 117, 116, 46, 112, 121]⟩ 413)]), #[]⟩
noncomputable def o70_0 (_ : Params) : Obj := ⟨(.type "function"), none, (.func { name := ⟨#[95, 105, 116, 101, 114, 95, 101, 115, 99, 97, 112, 101, 100, 95, 99, 104, 97, 114, 115]⟩, qualname := ⟨#[95, 105, 116, 101, 114, 95, 101, 115, 99, 97, 112, 101, 100, 95, 99, 104, 97, 114, 115]⟩, params := (fnp 11).1, body := (fnp 11).2.1, scope := (fnp 11).2.2, globals := 3, closure := [], defaults := .none, kwdefaults := .none, doc := .none, pyModule := (.str ⟨#[99, 112, 121, 51, 49, 51, 46, 101, 109, 97, 105, 108, 46, 117, 116, 105, 108, 115]⟩ 403), annotations := none, code := (.ref 69), closureTuple := .none, builtins := 0 }), #[]⟩
noncomputable def o71_0 (_ : Params) : Obj := ⟨(.type "tuple"), none, (.seq #[] 0), #[]⟩
noncomputable def o72_0 (_ : Params) : Obj := ⟨.none, none, (.fields #[]), #[]⟩
noncomputable def o73_0 (_ : Params) : Obj := ⟨(.type "tuple"), none, (.seq #[(.str ⟨#[97, 100, 100, 114]⟩ 418), (.str ⟨#[115, 116, 97, 114, 116]⟩ 419), (.str ⟨#[111, 112, 101, 110, 95, 112, 111, 115]⟩ 420), (.str ⟨#[114, 101, 115, 117, 108, 116]⟩ 421), (.str ⟨#[112, 111, 115]⟩ 422), (.str ⟨#[99, 104]⟩ 423)] 0), #[]⟩
noncomputable def o74_0 (_ : Params) : Obj := ⟨(.type "tuple"), none, (.seq #[] 0), #[]⟩
noncomputable def o75_0 (_ : Params) : Obj := ⟨.none, none, (.func { name := ⟨#[95, 115, 116, 114, 105, 112, 95, 113, 117, 111, 116, 101, 100, 95, 114, 101, 97, 108, 110, 97, 109, 101, 115]⟩, qualname := ⟨#[95, 115, 116, 114, 105, 112, 95, 113, 117, 111, 116, 101, 100, 95, 114, 101, 97, 108, 110, 97, 109, 101, 115]⟩, params := (fnp 12).1, body := (fnp 12).2.1, scope := (fnp 12).2.2, globals := 0, closure := [], defaults := .none, kwdefaults := .none, doc := .none, pyModule := .none, annotations := none, code := .none, closureTuple := .none, builtins := 0 }), #[]⟩
noncomputable def o76_0 (_ : Params) : Obj := ⟨(.type "code"), none, (.fields #[(.str ⟨#[95, 115, 116, 114, 105, 112, 95, 113, 117, 111, 116, 101, 100, 95, 114, 101, 97, 108, 110, 97, 109, 101, 115]⟩ 415), (.str ⟨#[95, 115, 116, 114, 105, 112, 95, 113, 117, 111, 116, 101, 100, 95, 114, 101, 97, 108, 110, 97, 109, 101, 115]⟩ 416), (.str ⟨#[47, 99, 108, 97, 105, 109, 47, 99, 117, 116, 46, 112, 121]⟩ 417), (.int 44 0), (.int 1 0), (.int 0 0), (.int 0 0), (.int 3 0), (.ref 71), (.bool true), (.int 276 0), (.ref 72), .none, (.ref 73), (.ref 74), (.ref 75), (.int 424 0), (.int 44 0), (.str ⟨#[47, 99, 108, 97, 105, 109, 47, 99, 117, 116, 46, 112, 121]⟩ 425)]), #[]⟩
noncomputable def o77_0 (_ : Params) : Obj := ⟨(.type "function"), none, (.func { name := ⟨#[95, 115, 116, 114, 105, 112, 95, 113, 117, 111, 116, 101, 100, 95, 114, 101, 97, 108, 110, 97, 109, 101, 115]⟩, qualname := ⟨#[95, 115, 116, 114, 105, 112, 95, 113, 117, 111, 116, 101, 100, 95, 114, 101, 97, 108, 110, 97, 109, 101, 115]⟩, params := (fnp 12).1, body := (fnp 12).2.1, scope := (fnp 12).2.2, globals := 3, closure := [], defaults := .none, kwdefaults := .none, doc := .none, pyModule := (.str ⟨#[99, 112, 121, 51, 49, 51, 46, 101, 109, 97, 105, 108, 46, 117, 116, 105, 108, 115]⟩ 403), annotations := none, code := (.ref 76), closureTuple := .none, builtins := 0 }), #[]⟩
noncomputable def o3_4 (P : Params) : Obj := ⟨(.type "dict"), none, (.dict #[⟨PyData.keyHash P ⟨#[95, 95, 110, 97, 109, 101, 95, 95]⟩, (.str ⟨#[95, 95, 110, 97, 109, 101, 95, 95]⟩ 165), (.str ⟨#[99, 112, 121, 51, 49, 51, 46, 115, 116, 114, 105, 110, 103, 112, 114, 101, 112]⟩ 427)⟩, ⟨PyData.keyHash P ⟨#[95, 95, 100, 111, 99, 95, 95]⟩, (.str ⟨#[95, 95, 100, 111, 99, 95, 95]⟩ 166), .none⟩, ⟨PyData.keyHash P ⟨#[95, 95, 112, 97, 99, 107, 97, 103, 101, 95, 95]⟩, (.str ⟨#[95, 95, 112, 97, 99, 107, 97, 103, 101, 95, 95]⟩ 167), .none⟩, ⟨PyData.keyHash P ⟨#[95, 95, 108, 111, 97, 100, 101, 114, 95, 95]⟩, (.str ⟨#[95, 95, 108, 111, 97, 100, 101, 114, 95, 95]⟩ 168), (.builtin "__main__.__loader__#opaque")⟩, ⟨PyData.keyHash P ⟨#[95, 95, 115, 112, 101, 99, 95, 95]⟩, (.str ⟨#[95, 95, 115, 112, 101, 99, 95, 95]⟩ 169), .none⟩, ⟨PyData.keyHash P ⟨#[95, 95, 97, 110, 110, 111, 116, 97, 116, 105, 111, 110, 115, 95, 95]⟩, (.str ⟨#[95, 95, 97, 110, 110, 111, 116, 97, 116, 105, 111, 110, 115, 95, 95]⟩ 170), (.ref 6)⟩, ⟨PyData.keyHash P ⟨#[95, 95, 98, 117, 105, 108, 116, 105, 110, 115, 95, 95]⟩, (.str ⟨#[95, 95, 98, 117, 105, 108, 116, 105, 110, 115, 95, 95]⟩ 171), (.ref 4)⟩, ⟨PyData.keyHash P ⟨#[95, 95, 102, 105, 108, 101, 95, 95]⟩, (.str ⟨#[95, 95, 102, 105, 108, 101, 95, 95]⟩ 173), (.str ⟨#[47, 99, 108, 97, 105, 109, 47, 99, 117, 116, 46, 112, 121]⟩ 172)⟩, ⟨PyData.keyHash P ⟨#[95, 95, 99, 97, 99, 104, 101, 100, 95, 95]⟩, (.str ⟨#[95, 95, 99, 97, 99, 104, 101, 100, 95, 95]⟩ 174), .none⟩, ⟨PyData.keyHash P ⟨#[95, 115, 114, 101]⟩, (.str ⟨#[95, 115, 114, 101]⟩ 275), (.ref 12)⟩, ⟨PyData.keyHash P ⟨#[95, 116, 119, 105, 110, 95, 114, 101, 95, 49]⟩, (.str ⟨#[95, 116, 119, 105, 110, 95, 114, 101, 95, 49]⟩ 299), (.ref 36)⟩, ⟨PyData.keyHash P ⟨#[95, 116, 119, 105, 110, 95, 114, 101, 95, 50]⟩, (.str ⟨#[95, 116, 119, 105, 110, 95, 114, 101, 95, 50]⟩ 341), (.ref 41)⟩, ⟨PyData.keyHash P ⟨#[67, 82, 76, 70]⟩, (.str ⟨#[67, 82, 76, 70]⟩ 343), (.str ⟨#[13, 10]⟩ 342)⟩, ⟨PyData.keyHash P ⟨#[113, 117, 111, 116, 101, 100, 97, 116, 97]⟩, (.str ⟨#[113, 117, 111, 116, 101, 100, 97, 116, 97]⟩ 350), (.ref 48)⟩, ⟨PyData.keyHash P ⟨#[67, 79, 77, 80, 73, 76, 69, 82, 95, 70, 76, 65, 71, 95, 78, 65, 77, 69, 83]⟩, (.str ⟨#[67, 79, 77, 80, 73, 76, 69, 82, 95, 70, 76, 65, 71, 95, 78, 65, 77, 69, 83]⟩ 383), (.ref 49)⟩, ⟨PyData.keyHash P ⟨#[112, 114, 101, 116, 116, 121, 95, 102, 108, 97, 103, 115]⟩, (.str ⟨#[112, 114, 101, 116, 116, 121, 95, 102, 108, 97, 103, 115]⟩ 393), (.ref 56)⟩, ⟨PyData.keyHash P ⟨#[95, 112, 97, 114, 115, 101, 95, 118, 97, 114, 105, 110, 116]⟩, (.str ⟨#[95, 112, 97, 114, 115, 101, 95, 118, 97, 114, 105, 110, 116]⟩ 402), (.ref 63)⟩, ⟨PyData.keyHash P ⟨#[95, 105, 116, 101, 114, 95, 101, 115, 99, 97, 112, 101, 100, 95, 99, 104, 97, 114, 115]⟩, (.str ⟨#[95, 105, 116, 101, 114, 95, 101, 115, 99, 97, 112, 101, 100, 95, 99, 104, 97, 114, 115]⟩ 414), (.ref 70)⟩, ⟨PyData.keyHash P ⟨#[95, 115, 116, 114, 105, 112, 95, 113, 117, 111, 116, 101, 100, 95, 114, 101, 97, 108, 110, 97, 109, 101, 115]⟩, (.str ⟨#[95, 115, 116, 114, 105, 112, 95, 113, 117, 111, 116, 101, 100, 95, 114, 101, 97, 108, 110, 97, 109, 101, 115]⟩ 426), (.ref 77)⟩, ⟨PyData.keyHash P ⟨#[98, 49, 95, 115, 101, 116]⟩, (.str ⟨#[98, 49, 95, 115, 101, 116]⟩ 488), (.ref 85)⟩] 20), #[]⟩
noncomputable def o78_0 (_ : Params) : Obj := ⟨(.type "list"), none, (.seq #[(.int 173 429), (.int 847 430), (.int 6150 431), (.int 6155 432), (.int 6156 433), (.int 6157 434), (.int 8203 435), (.int 8204 436), (.int 8205 437), (.int 8288 438), (.int 65279 439)] 0), #[]⟩
noncomputable def o79_0 (_ : Params) : Obj := ⟨(.type "range"), none, (.fields #[(.int 65024 440), (.int 65040 441), (.int 1 442)]), #[]⟩
noncomputable def o80_0 (_ : Params) : Obj := ⟨(.type "list"), none, (.seq #[(.int 65024 445), (.int 65025 446), (.int 65026 447), (.int 65027 448), (.int 65028 449), (.int 65029 450), (.int 65030 451), (.int 65031 452), (.int 65032 453), (.int 65033 454), (.int 65034 455), (.int 65035 456), (.int 65036 457), (.int 65037 458), (.int 65038 459), (.int 65039 460)] 18), #[]⟩
noncomputable def o81_0 (_ : Params) : Obj := ⟨(.type "range_iterator"), none, (.fields #[(.int 65040 0), (.int 0 0), (.int 1 0)]), #[]⟩
noncomputable def o82_0 (_ : Params) : Obj := ⟨(.type "tuple"), none, (.seq #[] 0), #[]⟩
noncomputable def o83_0 (_ : Params) : Obj := ⟨(.type "StopIteration"), none, (.fields #[(.ref 82), .none, .none, .none, (.bool false), .none]), #[]⟩
noncomputable def o84_0 (_ : Params) : Obj := ⟨(.type "list"), none, (.seq #[(.int 173 429), (.int 847 430), (.int 6150 431), (.int 6155 432), (.int 6156 433), (.int 6157 434), (.int 8203 435), (.int 8204 436), (.int 8205 437), (.int 8288 438), (.int 65279 439), (.int 65024 445), (.int 65025 446), (.int 65026 447), (.int 65027 448), (.int 65028 449), (.int 65029 450), (.int 65030 451), (.int 65031 452), (.int 65032 453), (.int 65033 454), (.int 65034 455), (.int 65035 456), (.int 65036 457), (.int 65037 458), (.int 65038 459), (.int 65039 460)] 0), #[]⟩
noncomputable def o85_0 (P : Params) : Obj := ⟨(.type "set"), none, (.set #[(65024, (.int 65024 445)), (65025, (.int 65025 446)), (65026, (.int 65026 447)), (65027, (.int 65027 448)), (65028, (.int 65028 449)), (65029, (.int 65029 450)), (6150, (.int 6150 431)), (65030, (.int 65030 451)), (65031, (.int 65031 452)), (65032, (.int 65032 453)), (65033, (.int 65033 454)), (6155, (.int 6155 432)), (6156, (.int 6156 433)), (6157, (.int 6157 434)), (8203, (.int 8203 435)), (8204, (.int 8204 436)), (8205, (.int 8205 437)), (65034, (.int 65034 455)), (65035, (.int 65035 456)), (65036, (.int 65036 457)), (65037, (.int 65037 458)), (65038, (.int 65038 459)), (65039, (.int 65039 460)), (173, (.int 173 429)), (847, (.int 847 430)), (8288, (.int 8288 438)), (65279, (.int 65279 439))] 29 ⟨127, #[0, 1, 2, 3, 4, 5, 6, 7, 8, 9, 10, 11, 12, 13, 14, 15, 16, 17, 18, 19, 20, 21, 22, 45, 79, 96, 127], #[], 0, !P.followText "set-order", 2, true⟩), #[]⟩
noncomputable def o86_0 (_ : Params) : Obj := ⟨(.type "list_iterator"), none, (.fields #[.none, (.int 27 0)]), #[]⟩
noncomputable def o87_0 (_ : Params) : Obj := ⟨(.type "tuple"), none, (.seq #[] 0), #[]⟩
noncomputable def o88_0 (_ : Params) : Obj := ⟨(.type "StopIteration"), none, (.fields #[(.ref 87), .none, .none, .none, (.bool false), .none]), #[]⟩
noncomputable def o3_5 (P : Params) : Obj := ⟨(.type "dict"), none, (.dict #[⟨PyData.keyHash P ⟨#[95, 95, 110, 97, 109, 101, 95, 95]⟩, (.str ⟨#[95, 95, 110, 97, 109, 101, 95, 95]⟩ 165), (.str ⟨#[99, 112, 121, 51, 49, 51, 46, 115, 116, 114, 105, 110, 103, 112, 114, 101, 112]⟩ 427)⟩, ⟨PyData.keyHash P ⟨#[95, 95, 100, 111, 99, 95, 95]⟩, (.str ⟨#[95, 95, 100, 111, 99, 95, 95]⟩ 166), .none⟩, ⟨PyData.keyHash P ⟨#[95, 95, 112, 97, 99, 107, 97, 103, 101, 95, 95]⟩, (.str ⟨#[95, 95, 112, 97, 99, 107, 97, 103, 101, 95, 95]⟩ 167), .none⟩, ⟨PyData.keyHash P ⟨#[95, 95, 108, 111, 97, 100, 101, 114, 95, 95]⟩, (.str ⟨#[95, 95, 108, 111, 97, 100, 101, 114, 95, 95]⟩ 168), (.builtin "__main__.__loader__#opaque")⟩, ⟨PyData.keyHash P ⟨#[95, 95, 115, 112, 101, 99, 95, 95]⟩, (.str ⟨#[95, 95, 115, 112, 101, 99, 95, 95]⟩ 169), .none⟩, ⟨PyData.keyHash P ⟨#[95, 95, 97, 110, 110, 111, 116, 97, 116, 105, 111, 110, 115, 95, 95]⟩, (.str ⟨#[95, 95, 97, 110, 110, 111, 116, 97, 116, 105, 111, 110, 115, 95, 95]⟩ 170), (.ref 6)⟩, ⟨PyData.keyHash P ⟨#[95, 95, 98, 117, 105, 108, 116, 105, 110, 115, 95, 95]⟩, (.str ⟨#[95, 95, 98, 117, 105, 108, 116, 105, 110, 115, 95, 95]⟩ 171), (.ref 4)⟩, ⟨PyData.keyHash P ⟨#[95, 95, 102, 105, 108, 101, 95, 95]⟩, (.str ⟨#[95, 95, 102, 105, 108, 101, 95, 95]⟩ 173), (.str ⟨#[47, 99, 108, 97, 105, 109, 47, 99, 117, 116, 46, 112, 121]⟩ 172)⟩, ⟨PyData.keyHash P ⟨#[95, 95, 99, 97, 99, 104, 101, 100, 95, 95]⟩, (.str ⟨#[95, 95, 99, 97, 99, 104, 101, 100, 95, 95]⟩ 174), .none⟩, ⟨PyData.keyHash P ⟨#[95, 115, 114, 101]⟩, (.str ⟨#[95, 115, 114, 101]⟩ 275), (.ref 12)⟩, ⟨PyData.keyHash P ⟨#[95, 116, 119, 105, 110, 95, 114, 101, 95, 49]⟩, (.str ⟨#[95, 116, 119, 105, 110, 95, 114, 101, 95, 49]⟩ 299), (.ref 36)⟩, ⟨PyData.keyHash P ⟨#[95, 116, 119, 105, 110, 95, 114, 101, 95, 50]⟩, (.str ⟨#[95, 116, 119, 105, 110, 95, 114, 101, 95, 50]⟩ 341), (.ref 41)⟩, ⟨PyData.keyHash P ⟨#[67, 82, 76, 70]⟩, (.str ⟨#[67, 82, 76, 70]⟩ 343), (.str ⟨#[13, 10]⟩ 342)⟩, ⟨PyData.keyHash P ⟨#[113, 117, 111, 116, 101, 100, 97, 116, 97]⟩, (.str ⟨#[113, 117, 111, 116, 101, 100, 97, 116, 97]⟩ 350), (.ref 48)⟩, ⟨PyData.keyHash P ⟨#[67, 79, 77, 80, 73, 76, 69, 82, 95, 70, 76, 65, 71, 95, 78, 65, 77, 69, 83]⟩, (.str ⟨#[67, 79, 77, 80, 73, 76, 69, 82, 95, 70, 76, 65, 71, 95, 78, 65, 77, 69, 83]⟩ 383), (.ref 49)⟩, ⟨PyData.keyHash P ⟨#[112, 114, 101, 116, 116, 121, 95, 102, 108, 97, 103, 115]⟩, (.str ⟨#[112, 114, 101, 116, 116, 121, 95, 102, 108, 97, 103, 115]⟩ 393), (.ref 56)⟩, ⟨PyData.keyHash P ⟨#[95, 112, 97, 114, 115, 101, 95, 118, 97, 114, 105, 110, 116]⟩, (.str ⟨#[95, 112, 97, 114, 115, 101, 95, 118, 97, 114, 105, 110, 116]⟩ 402), (.ref 63)⟩, ⟨PyData.keyHash P ⟨#[95, 105, 116, 101, 114, 95, 101, 115, 99, 97, 112, 101, 100, 95, 99, 104, 97, 114, 115]⟩, (.str ⟨#[95, 105, 116, 101, 114, 95, 101, 115, 99, 97, 112, 101, 100, 95, 99, 104, 97, 114, 115]⟩ 414), (.ref 70)⟩, ⟨PyData.keyHash P ⟨#[95, 115, 116, 114, 105, 112, 95, 113, 117, 111, 116, 101, 100, 95, 114, 101, 97, 108, 110, 97, 109, 101, 115]⟩, (.str ⟨#[95, 115, 116, 114, 105, 112, 95, 113, 117, 111, 116, 101, 100, 95, 114, 101, 97, 108, 110, 97, 109, 101, 115]⟩ 426), (.ref 77)⟩, ⟨PyData.keyHash P ⟨#[98, 49, 95, 115, 101, 116]⟩, (.str ⟨#[98, 49, 95, 115, 101, 116]⟩ 488), (.ref 85)⟩, ⟨PyData.keyHash P ⟨#[105, 110, 95, 116, 97, 98, 108, 101, 95, 98, 49]⟩, (.str ⟨#[105, 110, 95, 116, 97, 98, 108, 101, 95, 98, 49]⟩ 495), (.ref 95)⟩] 21), #[]⟩
noncomputable def o29_3 (_ : Params) : Obj := ⟨.none, none, (.fields #[(.int 6 0), (.int 0 0), (.ref 47), (.int 10 0), (.int 0 0), (.ref 55), (.int 22 0), (.int 0 0), (.ref 62), (.int 31 0), (.int 0 0), (.ref 69), (.int 44 0), (.int 0 0), (.ref 76), (.int 64 0), (.int 0 0), (.ref 94)]), #[]⟩
noncomputable def o89_0 (_ : Params) : Obj := ⟨(.type "tuple"), none, (.seq #[] 0), #[]⟩
noncomputable def o90_0 (_ : Params) : Obj := ⟨.none, none, (.fields #[]), #[]⟩
noncomputable def o91_0 (_ : Params) : Obj := ⟨(.type "tuple"), none, (.seq #[(.str ⟨#[99, 111, 100, 101]⟩ 492)] 0), #[]⟩
noncomputable def o92_0 (_ : Params) : Obj := ⟨(.type "tuple"), none, (.seq #[] 0), #[]⟩
noncomputable def o93_0 (_ : Params) : Obj := ⟨.none, none, (.func { name := ⟨#[105, 110, 95, 116, 97, 98, 108, 101, 95, 98, 49]⟩, qualname := ⟨#[105, 110, 95, 116, 97, 98, 108, 101, 95, 98, 49]⟩, params := (fnp 15).1, body := (fnp 15).2.1, scope := (fnp 15).2.2, globals := 0, closure := [], defaults := .none, kwdefaults := .none, doc := .none, pyModule := .none, annotations := none, code := .none, closureTuple := .none, builtins := 0 }), #[]⟩
noncomputable def o94_0 (_ : Params) : Obj := ⟨(.type "code"), none, (.fields #[(.str ⟨#[105, 110, 95, 116, 97, 98, 108, 101, 95, 98, 49]⟩ 489), (.str ⟨#[105, 110, 95, 116, 97, 98, 108, 101, 95, 98, 49]⟩ 490), (.str ⟨#[47, 99, 108, 97, 105, 109, 47, 99, 117, 116, 46, 112, 121]⟩ 491), (.int 64 0), (.int 1 0), (.int 0 0), (.int 0 0), (.int 3 0), (.ref 89), (.bool true), (.int 276 0), (.ref 90), .none, (.ref 91), (.ref 92), (.ref 93), (.int 493 0), (.int 64 0), (.str ⟨#[47, 99, 108, 97, 105, 109, 47, 99, 117, 116, 46, 112, 121]⟩ 494)]), #[]⟩
noncomputable def o95_0 (_ : Params) : Obj := ⟨(.type "function"), none, (.func { name := ⟨#[105, 110, 95, 116, 97, 98, 108, 101, 95, 98, 49]⟩, qualname := ⟨#[105, 110, 95, 116, 97, 98, 108, 101, 95, 98, 49]⟩, params := (fnp 15).1, body := (fnp 15).2.1, scope := (fnp 15).2.2, globals := 3, closure := [], defaults := .none, kwdefaults := .none, doc := .none, pyModule := (.str ⟨#[99, 112, 121, 51, 49, 51, 46, 115, 116, 114, 105, 110, 103, 112, 114, 101, 112]⟩ 427), annotations := none, code := (.ref 94), closureTuple := .none, builtins := 0 }), #[]⟩
noncomputable def o3_6 (P : Params) : Obj := ⟨(.type "dict"), none, (.dict #[⟨PyData.keyHash P ⟨#[95, 95, 110, 97, 109, 101, 95, 95]⟩, (.str ⟨#[95, 95, 110, 97, 109, 101, 95, 95]⟩ 165), (.str ⟨#[99, 112, 121, 51, 49, 51, 46, 115, 116, 114, 105, 110, 103, 112, 114, 101, 112]⟩ 427)⟩, ⟨PyData.keyHash P ⟨#[95, 95, 100, 111, 99, 95, 95]⟩, (.str ⟨#[95, 95, 100, 111, 99, 95, 95]⟩ 166), .none⟩, ⟨PyData.keyHash P ⟨#[95, 95, 112, 97, 99, 107, 97, 103, 101, 95, 95]⟩, (.str ⟨#[95, 95, 112, 97, 99, 107, 97, 103, 101, 95, 95]⟩ 167), .none⟩, ⟨PyData.keyHash P ⟨#[95, 95, 108, 111, 97, 100, 101, 114, 95, 95]⟩, (.str ⟨#[95, 95, 108, 111, 97, 100, 101, 114, 95, 95]⟩ 168), (.builtin "__main__.__loader__#opaque")⟩, ⟨PyData.keyHash P ⟨#[95, 95, 115, 112, 101, 99, 95, 95]⟩, (.str ⟨#[95, 95, 115, 112, 101, 99, 95, 95]⟩ 169), .none⟩, ⟨PyData.keyHash P ⟨#[95, 95, 97, 110, 110, 111, 116, 97, 116, 105, 111, 110, 115, 95, 95]⟩, (.str ⟨#[95, 95, 97, 110, 110, 111, 116, 97, 116, 105, 111, 110, 115, 95, 95]⟩ 170), (.ref 6)⟩, ⟨PyData.keyHash P ⟨#[95, 95, 98, 117, 105, 108, 116, 105, 110, 115, 95, 95]⟩, (.str ⟨#[95, 95, 98, 117, 105, 108, 116, 105, 110, 115, 95, 95]⟩ 171), (.ref 4)⟩, ⟨PyData.keyHash P ⟨#[95, 95, 102, 105, 108, 101, 95, 95]⟩, (.str ⟨#[95, 95, 102, 105, 108, 101, 95, 95]⟩ 173), (.str ⟨#[47, 99, 108, 97, 105, 109, 47, 99, 117, 116, 46, 112, 121]⟩ 172)⟩, ⟨PyData.keyHash P ⟨#[95, 95, 99, 97, 99, 104, 101, 100, 95, 95]⟩, (.str ⟨#[95, 95, 99, 97, 99, 104, 101, 100, 95, 95]⟩ 174), .none⟩, ⟨PyData.keyHash P ⟨#[95, 115, 114, 101]⟩, (.str ⟨#[95, 115, 114, 101]⟩ 275), (.ref 12)⟩, ⟨PyData.keyHash P ⟨#[95, 116, 119, 105, 110, 95, 114, 101, 95, 49]⟩, (.str ⟨#[95, 116, 119, 105, 110, 95, 114, 101, 95, 49]⟩ 299), (.ref 36)⟩, ⟨PyData.keyHash P ⟨#[95, 116, 119, 105, 110, 95, 114, 101, 95, 50]⟩, (.str ⟨#[95, 116, 119, 105, 110, 95, 114, 101, 95, 50]⟩ 341), (.ref 41)⟩, ⟨PyData.keyHash P ⟨#[67, 82, 76, 70]⟩, (.str ⟨#[67, 82, 76, 70]⟩ 343), (.str ⟨#[13, 10]⟩ 342)⟩, ⟨PyData.keyHash P ⟨#[113, 117, 111, 116, 101, 100, 97, 116, 97]⟩, (.str ⟨#[113, 117, 111, 116, 101, 100, 97, 116, 97]⟩ 350), (.ref 48)⟩, ⟨PyData.keyHash P ⟨#[67, 79, 77, 80, 73, 76, 69, 82, 95, 70, 76, 65, 71, 95, 78, 65, 77, 69, 83]⟩, (.str ⟨#[67, 79, 77, 80, 73, 76, 69, 82, 95, 70, 76, 65, 71, 95, 78, 65, 77, 69, 83]⟩ 383), (.ref 49)⟩, ⟨PyData.keyHash P ⟨#[112, 114, 101, 116, 116, 121, 95, 102, 108, 97, 103, 115]⟩, (.str ⟨#[112, 114, 101, 116, 116, 121, 95, 102, 108, 97, 103, 115]⟩ 393), (.ref 56)⟩, ⟨PyData.keyHash P ⟨#[95, 112, 97, 114, 115, 101, 95, 118, 97, 114, 105, 110, 116]⟩, (.str ⟨#[95, 112, 97, 114, 115, 101, 95, 118, 97, 114, 105, 110, 116]⟩ 402), (.ref 63)⟩, ⟨PyData.keyHash P ⟨#[95, 105, 116, 101, 114, 95, 101, 115, 99, 97, 112, 101, 100, 95, 99, 104, 97, 114, 115]⟩, (.str ⟨#[95, 105, 116, 101, 114, 95, 101, 115, 99, 97, 112, 101, 100, 95, 99, 104, 97, 114, 115]⟩ 414), (.ref 70)⟩, ⟨PyData.keyHash P ⟨#[95, 115, 116, 114, 105, 112, 95, 113, 117, 111, 116, 101, 100, 95, 114, 101, 97, 108, 110, 97, 109, 101, 115]⟩, (.str ⟨#[95, 115, 116, 114, 105, 112, 95, 113, 117, 111, 116, 101, 100, 95, 114, 101, 97, 108, 110, 97, 109, 101, 115]⟩ 426), (.ref 77)⟩, ⟨PyData.keyHash P ⟨#[98, 49, 95, 115, 101, 116]⟩, (.str ⟨#[98, 49, 95, 115, 101, 116]⟩ 488), (.ref 85)⟩, ⟨PyData.keyHash P ⟨#[105, 110, 95, 116, 97, 98, 108, 101, 95, 98, 49]⟩, (.str ⟨#[105, 110, 95, 116, 97, 98, 108, 101, 95, 98, 49]⟩ 495), (.ref 95)⟩, ⟨PyData.keyHash P ⟨#[98, 51, 95, 101, 120, 99, 101, 112, 116, 105, 111, 110, 115]⟩, (.str ⟨#[98, 51, 95, 101, 120, 99, 101, 112, 116, 105, 111, 110, 115]⟩ 2446), (.ref 96)⟩] 22), #[]⟩
noncomputable def o3_7 (P : Params) : Obj := ⟨(.type "dict"), none, (.dict #[⟨PyData.keyHash P ⟨#[95, 95, 110, 97, 109, 101, 95, 95]⟩, (.str ⟨#[95, 95, 110, 97, 109, 101, 95, 95]⟩ 165), (.str ⟨#[108, 97, 119, 95, 115, 114, 48, 48, 54, 54, 95, 48, 50]⟩ 2455)⟩, ⟨PyData.keyHash P ⟨#[95, 95, 100, 111, 99, 95, 95]⟩, (.str ⟨#[95, 95, 100, 111, 99, 95, 95]⟩ 166), .none⟩, ⟨PyData.keyHash P ⟨#[95, 95, 112, 97, 99, 107, 97, 103, 101, 95, 95]⟩, (.str ⟨#[95, 95, 112, 97, 99, 107, 97, 103, 101, 95, 95]⟩ 167), .none⟩, ⟨PyData.keyHash P ⟨#[95, 95, 108, 111, 97, 100, 101, 114, 95, 95]⟩, (.str ⟨#[95, 95, 108, 111, 97, 100, 101, 114, 95, 95]⟩ 168), (.builtin "__main__.__loader__#opaque")⟩, ⟨PyData.keyHash P ⟨#[95, 95, 115, 112, 101, 99, 95, 95]⟩, (.str ⟨#[95, 95, 115, 112, 101, 99, 95, 95]⟩ 169), .none⟩, ⟨PyData.keyHash P ⟨#[95, 95, 97, 110, 110, 111, 116, 97, 116, 105, 111, 110, 115, 95, 95]⟩, (.str ⟨#[95, 95, 97, 110, 110, 111, 116, 97, 116, 105, 111, 110, 115, 95, 95]⟩ 170), (.ref 6)⟩, ⟨PyData.keyHash P ⟨#[95, 95, 98, 117, 105, 108, 116, 105, 110, 115, 95, 95]⟩, (.str ⟨#[95, 95, 98, 117, 105, 108, 116, 105, 110, 115, 95, 95]⟩ 171), (.ref 4)⟩, ⟨PyData.keyHash P ⟨#[95, 95, 102, 105, 108, 101, 95, 95]⟩, (.str ⟨#[95, 95, 102, 105, 108, 101, 95, 95]⟩ 173), (.str ⟨#[47, 99, 108, 97, 105, 109, 47, 99, 117, 116, 46, 112, 121]⟩ 172)⟩, ⟨PyData.keyHash P ⟨#[95, 95, 99, 97, 99, 104, 101, 100, 95, 95]⟩, (.str ⟨#[95, 95, 99, 97, 99, 104, 101, 100, 95, 95]⟩ 174), .none⟩, ⟨PyData.keyHash P ⟨#[95, 115, 114, 101]⟩, (.str ⟨#[95, 115, 114, 101]⟩ 275), (.ref 12)⟩, ⟨PyData.keyHash P ⟨#[95, 116, 119, 105, 110, 95, 114, 101, 95, 49]⟩, (.str ⟨#[95, 116, 119, 105, 110, 95, 114, 101, 95, 49]⟩ 299), (.ref 36)⟩, ⟨PyData.keyHash P ⟨#[95, 116, 119, 105, 110, 95, 114, 101, 95, 50]⟩, (.str ⟨#[95, 116, 119, 105, 110, 95, 114, 101, 95, 50]⟩ 341), (.ref 41)⟩, ⟨PyData.keyHash P ⟨#[67, 82, 76, 70]⟩, (.str ⟨#[67, 82, 76, 70]⟩ 343), (.str ⟨#[13, 10]⟩ 342)⟩, ⟨PyData.keyHash P ⟨#[113, 117, 111, 116, 101, 100, 97, 116, 97]⟩, (.str ⟨#[113, 117, 111, 116, 101, 100, 97, 116, 97]⟩ 350), (.ref 48)⟩, ⟨PyData.keyHash P ⟨#[67, 79, 77, 80, 73, 76, 69, 82, 95, 70, 76, 65, 71, 95, 78, 65, 77, 69, 83]⟩, (.str ⟨#[67, 79, 77, 80, 73, 76, 69, 82, 95, 70, 76, 65, 71, 95, 78, 65, 77, 69, 83]⟩ 383), (.ref 49)⟩, ⟨PyData.keyHash P ⟨#[112, 114, 101, 116, 116, 121, 95, 102, 108, 97, 103, 115]⟩, (.str ⟨#[112, 114, 101, 116, 116, 121, 95, 102, 108, 97, 103, 115]⟩ 393), (.ref 56)⟩, ⟨PyData.keyHash P ⟨#[95, 112, 97, 114, 115, 101, 95, 118, 97, 114, 105, 110, 116]⟩, (.str ⟨#[95, 112, 97, 114, 115, 101, 95, 118, 97, 114, 105, 110, 116]⟩ 402), (.ref 63)⟩, ⟨PyData.keyHash P ⟨#[95, 105, 116, 101, 114, 95, 101, 115, 99, 97, 112, 101, 100, 95, 99, 104, 97, 114, 115]⟩, (.str ⟨#[95, 105, 116, 101, 114, 95, 101, 115, 99, 97, 112, 101, 100, 95, 99, 104, 97, 114, 115]⟩ 414), (.ref 70)⟩, ⟨PyData.keyHash P ⟨#[95, 115, 116, 114, 105, 112, 95, 113, 117, 111, 116, 101, 100, 95, 114, 101, 97, 108, 110, 97, 109, 101, 115]⟩, (.str ⟨#[95, 115, 116, 114, 105, 112, 95, 113, 117, 111, 116, 101, 100, 95, 114, 101, 97, 108, 110, 97, 109, 101, 115]⟩ 426), (.ref 77)⟩, ⟨PyData.keyHash P ⟨#[98, 49, 95, 115, 101, 116]⟩, (.str ⟨#[98, 49, 95, 115, 101, 116]⟩ 488), (.ref 85)⟩, ⟨PyData.keyHash P ⟨#[105, 110, 95, 116, 97, 98, 108, 101, 95, 98, 49]⟩, (.str ⟨#[105, 110, 95, 116, 97, 98, 108, 101, 95, 98, 49]⟩ 495), (.ref 95)⟩, ⟨PyData.keyHash P ⟨#[98, 51, 95, 101, 120, 99, 101, 112, 116, 105, 111, 110, 115]⟩, (.str ⟨#[98, 51, 95, 101, 120, 99, 101, 112, 116, 105, 111, 110, 115]⟩ 2446), (.ref 96)⟩, ⟨PyData.keyHash P ⟨#[109, 97, 112, 95, 116, 97, 98, 108, 101, 95, 98, 51]⟩, (.str ⟨#[109, 97, 112, 95, 116, 97, 98, 108, 101, 95, 98, 51]⟩ 2454), (.ref 141)⟩, ⟨PyData.keyHash P ⟨#[95, 108, 97, 119, 95, 110, 97, 109, 101, 115]⟩, (.str ⟨#[95, 108, 97, 119, 95, 110, 97, 109, 101, 115]⟩ 2462), (.ref 148)⟩, ⟨PyData.keyHash P ⟨#[95, 108, 97, 119, 95, 117, 110, 115, 101, 101, 110]⟩, (.str ⟨#[95, 108, 97, 119, 95, 117, 110, 115, 101, 101, 110]⟩ 2471), (.ref 155)⟩, ⟨PyData.keyHash P ⟨#[95, 108, 97, 119, 95, 108, 101, 102, 116]⟩, (.str ⟨#[95, 108, 97, 119, 95, 108, 101, 102, 116]⟩ 2477), (.ref 160)⟩, ⟨PyData.keyHash P ⟨#[108, 97, 119]⟩, (.str ⟨#[108, 97, 119]⟩ 2483), (.ref 165)⟩] 27), #[]⟩
noncomputable def o29_4 (_ : Params) : Obj := ⟨.none, none, (.fields #[(.int 6 0), (.int 0 0), (.ref 47), (.int 10 0), (.int 0 0), (.ref 55), (.int 22 0), (.int 0 0), (.ref 62), (.int 31 0), (.int 0 0), (.ref 69), (.int 44 0), (.int 0 0), (.ref 76), (.int 64 0), (.int 0 0), (.ref 94), (.int 67 0), (.int 0 0), (.ref 140), (.int 73 0), (.int 0 0), (.ref 147), (.int 75 0), (.int 0 0), (.ref 154), (.int 79 0), (.int 0 0), (.ref 159), (.int 92 0), (.int 0 0), (.ref 164)]), #[]⟩
noncomputable def o135_0 (_ : Params) : Obj := ⟨(.type "tuple"), none, (.seq #[] 0), #[]⟩
noncomputable def o136_0 (_ : Params) : Obj := ⟨.none, none, (.fields #[]), #[]⟩
noncomputable def o137_0 (_ : Params) : Obj := ⟨(.type "tuple"), none, (.seq #[(.str ⟨#[99, 111, 100, 101]⟩ 2450), (.str ⟨#[114]⟩ 2451)] 0), #[]⟩
noncomputable def o138_0 (_ : Params) : Obj := ⟨(.type "tuple"), none, (.seq #[] 0), #[]⟩
noncomputable def o139_0 (_ : Params) : Obj := ⟨.none, none, (.func { name := ⟨#[109, 97, 112, 95, 116, 97, 98, 108, 101, 95, 98, 51]⟩, qualname := ⟨#[109, 97, 112, 95, 116, 97, 98, 108, 101, 95, 98, 51]⟩, params := (fnp 17).1, body := (fnp 17).2.1, scope := (fnp 17).2.2, globals := 0, closure := [], defaults := .none, kwdefaults := .none, doc := .none, pyModule := .none, annotations := none, code := .none, closureTuple := .none, builtins := 0 }), #[]⟩
noncomputable def o140_0 (_ : Params) : Obj := ⟨(.type "code"), none, (.fields #[(.str ⟨#[109, 97, 112, 95, 116, 97, 98, 108, 101, 95, 98, 51]⟩ 2447), (.str ⟨#[109, 97, 112, 95, 116, 97, 98, 108, 101, 95, 98, 51]⟩ 2448), (.str ⟨#[47, 99, 108, 97, 105, 109, 47, 99, 117, 116, 46, 112, 121]⟩ 2449), (.int 67 0), (.int 1 0), (.int 0 0), (.int 0 0), (.int 3 0), (.ref 135), (.bool true), (.int 276 0), (.ref 136), .none, (.ref 137), (.ref 138), (.ref 139), (.int 2452 0), (.int 67 0), (.str ⟨#[47, 99, 108, 97, 105, 109, 47, 99, 117, 116, 46, 112, 121]⟩ 2453)]), #[]⟩
noncomputable def o141_0 (_ : Params) : Obj := ⟨(.type "function"), none, (.func { name := ⟨#[109, 97, 112, 95, 116, 97, 98, 108, 101, 95, 98, 51]⟩, qualname := ⟨#[109, 97, 112, 95, 116, 97, 98, 108, 101, 95, 98, 51]⟩, params := (fnp 17).1, body := (fnp 17).2.1, scope := (fnp 17).2.2, globals := 3, closure := [], defaults := .none, kwdefaults := .none, doc := .none, pyModule := (.str ⟨#[99, 112, 121, 51, 49, 51, 46, 115, 116, 114, 105, 110, 103, 112, 114, 101, 112]⟩ 427), annotations := none, code := (.ref 140), closureTuple := .none, builtins := 0 }), #[]⟩
noncomputable def o142_0 (_ : Params) : Obj := ⟨(.type "tuple"), none, (.seq #[] 0), #[]⟩
noncomputable def o143_0 (_ : Params) : Obj := ⟨.none, none, (.fields #[]), #[]⟩
noncomputable def o144_0 (_ : Params) : Obj := ⟨(.type "tuple"), none, (.seq #[] 0), #[]⟩
noncomputable def o145_0 (_ : Params) : Obj := ⟨(.type "tuple"), none, (.seq #[] 0), #[]⟩
noncomputable def o146_0 (_ : Params) : Obj := ⟨.none, none, (.func { name := ⟨#[95, 108, 97, 119, 95, 110, 97, 109, 101, 115]⟩, qualname := ⟨#[95, 108, 97, 119, 95, 110, 97, 109, 101, 115]⟩, params := (fnp 19).1, body := (fnp 19).2.1, scope := (fnp 19).2.2, globals := 0, closure := [], defaults := .none, kwdefaults := .none, doc := .none, pyModule := .none, annotations := none, code := .none, closureTuple := .none, builtins := 0 }), #[]⟩
noncomputable def o147_0 (_ : Params) : Obj := ⟨(.type "code"), none, (.fields #[(.str ⟨#[95, 108, 97, 119, 95, 110, 97, 109, 101, 115]⟩ 2457), (.str ⟨#[95, 108, 97, 119, 95, 110, 97, 109, 101, 115]⟩ 2458), (.str ⟨#[47, 99, 108, 97, 105, 109, 47, 99, 117, 116, 46, 112, 121]⟩ 2459), (.int 73 0), (.int 0 0), (.int 0 0), (.int 0 0), (.int 3 0), (.ref 142), (.bool true), (.int 276 0), (.ref 143), .none, (.ref 144), (.ref 145), (.ref 146), (.int 2460 0), (.int 73 0), (.str ⟨#[47, 99, 108, 97, 105, 109, 47, 99, 117, 116, 46, 112, 121]⟩ 2461)]), #[]⟩
noncomputable def o148_0 (_ : Params) : Obj := ⟨(.type "function"), none, (.func { name := ⟨#[95, 108, 97, 119, 95, 110, 97, 109, 101, 115]⟩, qualname := ⟨#[95, 108, 97, 119, 95, 110, 97, 109, 101, 115]⟩, params := (fnp 19).1, body := (fnp 19).2.1, scope := (fnp 19).2.2, globals := 3, closure := [], defaults := .none, kwdefaults := .none, doc := .none, pyModule := (.str ⟨#[108, 97, 119, 95, 115, 114, 48, 48, 54, 54, 95, 48, 50]⟩ 2455), annotations := none, code := (.ref 147), closureTuple := .none, builtins := 0 }), #[]⟩
noncomputable def o149_0 (_ : Params) : Obj := ⟨(.type "tuple"), none, (.seq #[] 0), #[]⟩
noncomputable def o150_0 (_ : Params) : Obj := ⟨.none, none, (.fields #[]), #[]⟩
noncomputable def o151_0 (_ : Params) : Obj := ⟨(.type "tuple"), none, (.seq #[(.str ⟨#[119, 104, 105, 99, 104]⟩ 2466), (.str ⟨#[108, 111, 110, 101]⟩ 2467), (.str ⟨#[112, 108, 97, 99, 101]⟩ 2468)] 0), #[]⟩
noncomputable def o152_0 (_ : Params) : Obj := ⟨(.type "tuple"), none, (.seq #[] 0), #[]⟩
noncomputable def o153_0 (_ : Params) : Obj := ⟨.none, none, (.func { name := ⟨#[95, 108, 97, 119, 95, 117, 110, 115, 101, 101, 110]⟩, qualname := ⟨#[95, 108, 97, 119, 95, 117, 110, 115, 101, 101, 110]⟩, params := (fnp 20).1, body := (fnp 20).2.1, scope := (fnp 20).2.2, globals := 0, closure := [], defaults := .none, kwdefaults := .none, doc := .none, pyModule := .none, annotations := none, code := .none, closureTuple := .none, builtins := 0 }), #[]⟩
noncomputable def o154_0 (_ : Params) : Obj := ⟨(.type "code"), none, (.fields #[(.str ⟨#[95, 108, 97, 119, 95, 117, 110, 115, 101, 101, 110]⟩ 2463), (.str ⟨#[95, 108, 97, 119, 95, 117, 110, 115, 101, 101, 110]⟩ 2464), (.str ⟨#[47, 99, 108, 97, 105, 109, 47, 99, 117, 116, 46, 112, 121]⟩ 2465), (.int 75 0), (.int 1 0), (.int 0 0), (.int 0 0), (.int 3 0), (.ref 149), (.bool true), (.int 276 0), (.ref 150), .none, (.ref 151), (.ref 152), (.ref 153), (.int 2469 0), (.int 75 0), (.str ⟨#[47, 99, 108, 97, 105, 109, 47, 99, 117, 116, 46, 112, 121]⟩ 2470)]), #[]⟩
noncomputable def o155_0 (_ : Params) : Obj := ⟨(.type "function"), none, (.func { name := ⟨#[95, 108, 97, 119, 95, 117, 110, 115, 101, 101, 110]⟩, qualname := ⟨#[95, 108, 97, 119, 95, 117, 110, 115, 101, 101, 110]⟩, params := (fnp 20).1, body := (fnp 20).2.1, scope := (fnp 20).2.2, globals := 3, closure := [], defaults := .none, kwdefaults := .none, doc := .none, pyModule := (.str ⟨#[108, 97, 119, 95, 115, 114, 48, 48, 54, 54, 95, 48, 50]⟩ 2455), annotations := none, code := (.ref 154), closureTuple := .none, builtins := 0 }), #[]⟩
noncomputable def o156_0 (_ : Params) : Obj := ⟨(.type "tuple"), none, (.seq #[] 0), #[]⟩
noncomputable def o157_0 (_ : Params) : Obj := ⟨.none, none, (.fields #[]), #[]⟩
noncomputable def o158_0 (_ : Params) : Obj := ⟨.none, none, (.func { name := ⟨#[95, 108, 97, 119, 95, 108, 101, 102, 116]⟩, qualname := ⟨#[95, 108, 97, 119, 95, 108, 101, 102, 116]⟩, params := (fnp 21).1, body := (fnp 21).2.1, scope := (fnp 21).2.2, globals := 0, closure := [], defaults := .none, kwdefaults := .none, doc := .none, pyModule := .none, annotations := none, code := .none, closureTuple := .none, builtins := 0 }), #[]⟩
noncomputable def o159_0 (_ : Params) : Obj := ⟨(.type "code"), none, (.fields #[(.str ⟨#[95, 108, 97, 119, 95, 108, 101, 102, 116]⟩ 2472), (.str ⟨#[95, 108, 97, 119, 95, 108, 101, 102, 116]⟩ 2473), (.str ⟨#[47, 99, 108, 97, 105, 109, 47, 99, 117, 116, 46, 112, 121]⟩ 2474), (.int 79 0), (.int 6 0), (.int 0 0), (.int 0 0), (.int 3 0), (.ref 156), (.bool true), (.int 276 0), (.ref 157), .none, .none, .none, (.ref 158), (.int 2475 0), (.int 79 0), (.str ⟨#[47, 99, 108, 97, 105, 109, 47, 99, 117, 116, 46, 112, 121]⟩ 2476)]), #[]⟩
noncomputable def o160_0 (_ : Params) : Obj := ⟨(.type "function"), none, (.func { name := ⟨#[95, 108, 97, 119, 95, 108, 101, 102, 116]⟩, qualname := ⟨#[95, 108, 97, 119, 95, 108, 101, 102, 116]⟩, params := (fnp 21).1, body := (fnp 21).2.1, scope := (fnp 21).2.2, globals := 3, closure := [], defaults := .none, kwdefaults := .none, doc := .none, pyModule := (.str ⟨#[108, 97, 119, 95, 115, 114, 48, 48, 54, 54, 95, 48, 50]⟩ 2455), annotations := none, code := (.ref 159), closureTuple := .none, builtins := 0 }), #[]⟩
noncomputable def o161_0 (_ : Params) : Obj := ⟨(.type "tuple"), none, (.seq #[] 0), #[]⟩
noncomputable def o162_0 (_ : Params) : Obj := ⟨.none, none, (.fields #[]), #[]⟩
noncomputable def o163_0 (_ : Params) : Obj := ⟨.none, none, (.func { name := ⟨#[108, 97, 119]⟩, qualname := ⟨#[108, 97, 119]⟩, params := (fnp 22).1, body := (fnp 22).2.1, scope := (fnp 22).2.2, globals := 0, closure := [], defaults := .none, kwdefaults := .none, doc := .none, pyModule := .none, annotations := none, code := .none, closureTuple := .none, builtins := 0 }), #[]⟩
noncomputable def o164_0 (_ : Params) : Obj := ⟨(.type "code"), none, (.fields #[(.str ⟨#[108, 97, 119]⟩ 2478), (.str ⟨#[108, 97, 119]⟩ 2479), (.str ⟨#[47, 99, 108, 97, 105, 109, 47, 99, 117, 116, 46, 112, 121]⟩ 2480), (.int 92 0), (.int 1 0), (.int 0 0), (.int 0 0), (.int 3 0), (.ref 161), (.bool true), (.int 276 0), (.ref 162), .none, .none, .none, (.ref 163), (.int 2481 0), (.int 92 0), (.str ⟨#[47, 99, 108, 97, 105, 109, 47, 99, 117, 116, 46, 112, 121]⟩ 2482)]), #[]⟩
noncomputable def o165_0 (_ : Params) : Obj := ⟨(.type "function"), none, (.func { name := ⟨#[108, 97, 119]⟩, qualname := ⟨#[108, 97, 119]⟩, params := (fnp 22).1, body := (fnp 22).2.1, scope := (fnp 22).2.2, globals := 3, closure := [], defaults := .none, kwdefaults := .none, doc := .none, pyModule := (.str ⟨#[108, 97, 119, 95, 115, 114, 48, 48, 54, 54, 95, 48, 50]⟩ 2455), annotations := none, code := (.ref 164), closureTuple := .none, builtins := 0 }), #[]⟩
noncomputable def LS (P : Params) : List Obj := [o0_0 P, o1_0 P, o2_0 P, o3_0 P, o4_0 P, o5_0 P, o6_0 P, o7_0 P, o8_0 P, o9_0 P, o10_0 P, o11_0 P, o12_0 P, o13_0 P, o14_0 P, o15_0 P, o16_0 P, o17_0 P, o18_0 P, o19_0 P, o20_0 P, o21_0 P, o22_0 P, o23_0 P, o24_0 P, o25_0 P, o26_0 P, o27_0 P]
noncomputable def LA (P : Params) : List Obj := [o0_0 P, o1_0 P, o2_0 P, o3_0 P, o4_0 P, o5_0 P, o6_0 P, o7_0 P, o8_0 P, o9_0 P, o10_0 P, o11_0 P, o12_0 P, o13_0 P, o14_0 P, o15_0 P, o16_0 P, o17_0 P, o18_0 P, o19_0 P, o20_0 P, o21_0 P, o22_0 P, o23_0 P, o24_0 P, o25_0 P, o26_0 P, o27_0 P, o28_0 P, o29_0 P, o30_0 P, o31_0 P]
noncomputable def L6 (P : Params) : List Obj := [o0_0 P, o1_0 P, o2_0 P, o3_1 P, o4_0 P, o5_0 P, o6_0 P, o7_0 P, o8_0 P, o9_0 P, o10_0 P, o11_0 P, o12_0 P, o13_0 P, o14_0 P, o15_0 P, o16_0 P, o17_0 P, o18_0 P, o19_0 P, o20_0 P, o21_0 P, o22_0 P, o23_0 P, o24_0 P, o25_0 P, o26_0 P, o27_0 P, o28_0 P, o29_1 P, o30_0 P, o31_0 P, o32_0 P, o33_0 P, o34_0 P, o35_0 P, o36_0 P, o37_0 P, o38_0 P, o39_0 P, o40_0 P, o41_0 P, o42_0 P, o43_0 P, o44_0 P, o45_0 P, o46_0 P, o47_0 P, o48_0 P]
noncomputable def L7 (P : Params) : List Obj := [o0_0 P, o1_0 P, o2_0 P, o3_2 P, o4_0 P, o5_0 P, o6_0 P, o7_0 P, o8_0 P, o9_0 P, o10_0 P, o11_0 P, o12_0 P, o13_0 P, o14_0 P, o15_0 P, o16_0 P, o17_0 P, o18_0 P, o19_0 P, o20_0 P, o21_0 P, o22_0 P, o23_0 P, o24_0 P, o25_0 P, o26_0 P, o27_0 P, o28_0 P, o29_1 P, o30_0 P, o31_0 P, o32_0 P, o33_0 P, o34_0 P, o35_0 P, o36_0 P, o37_0 P, o38_0 P, o39_0 P, o40_0 P, o41_0 P, o42_0 P, o43_0 P, o44_0 P, o45_0 P, o46_0 P, o47_0 P, o48_0 P, o49_0 P]
noncomputable def L13 (P : Params) : List Obj := [o0_0 P, o1_0 P, o2_0 P, o3_3 P, o4_0 P, o5_0 P, o6_0 P, o7_0 P, o8_0 P, o9_0 P, o10_0 P, o11_0 P, o12_0 P, o13_0 P, o14_0 P, o15_0 P, o16_0 P, o17_0 P, o18_0 P, o19_0 P, o20_0 P, o21_0 P, o22_0 P, o23_0 P, o24_0 P, o25_0 P, o26_0 P, o27_0 P, o28_0 P, o29_2 P, o30_0 P, o31_0 P, o32_0 P, o33_0 P, o34_0 P, o35_0 P, o36_0 P, o37_0 P, o38_0 P, o39_0 P, o40_0 P, o41_0 P, o42_0 P, o43_0 P, o44_0 P, o45_0 P, o46_0 P, o47_0 P, o48_0 P, o49_0 P, o50_0 P, o51_0 P, o52_0 P, o53_0 P, o54_0 P, o55_0 P, o56_0 P, o57_0 P, o58_0 P, o59_0 P, o60_0 P, o61_0 P, o62_0 P, o63_0 P, o64_0 P, o65_0 P, o66_0 P, o67_0 P, o68_0 P, o69_0 P, o70_0 P, o71_0 P, o72_0 P, o73_0 P, o74_0 P, o75_0 P, o76_0 P, o77_0 P]
noncomputable def L14 (P : Params) : List Obj := [o0_0 P, o1_0 P, o2_0 P, o3_4 P, o4_0 P, o5_0 P, o6_0 P, o7_0 P, o8_0 P, o9_0 P, o10_0 P, o11_0 P, o12_0 P, o13_0 P, o14_0 P, o15_0 P, o16_0 P, o17_0 P, o18_0 P, o19_0 P, o20_0 P, o21_0 P, o22_0 P, o23_0 P, o24_0 P, o25_0 P, o26_0 P, o27_0 P, o28_0 P, o29_2 P, o30_0 P, o31_0 P, o32_0 P, o33_0 P, o34_0 P, o35_0 P, o36_0 P, o37_0 P, o38_0 P, o39_0 P, o40_0 P, o41_0 P, o42_0 P, o43_0 P, o44_0 P, o45_0 P, o46_0 P, o47_0 P, o48_0 P, o49_0 P, o50_0 P, o51_0 P, o52_0 P, o53_0 P, o54_0 P, o55_0 P, o56_0 P, o57_0 P, o58_0 P, o59_0 P, o60_0 P, o61_0 P, o62_0 P, o63_0 P, o64_0 P, o65_0 P, o66_0 P, o67_0 P, o68_0 P, o69_0 P, o70_0 P, o71_0 P, o72_0 P, o73_0 P, o74_0 P, o75_0 P, o76_0 P, o77_0 P, o78_0 P, o79_0 P, o80_0 P, o81_0 P, o82_0 P, o83_0 P, o84_0 P, o85_0 P, o86_0 P, o87_0 P, o88_0 P]
noncomputable def L15 (P : Params) : List Obj := [o0_0 P, o1_0 P, o2_0 P, o3_5 P, o4_0 P, o5_0 P, o6_0 P, o7_0 P, o8_0 P, o9_0 P, o10_0 P, o11_0 P, o12_0 P, o13_0 P, o14_0 P, o15_0 P, o16_0 P, o17_0 P, o18_0 P, o19_0 P, o20_0 P, o21_0 P, o22_0 P, o23_0 P, o24_0 P, o25_0 P, o26_0 P, o27_0 P, o28_0 P, o29_3 P, o30_0 P, o31_0 P, o32_0 P, o33_0 P, o34_0 P, o35_0 P, o36_0 P, o37_0 P, o38_0 P, o39_0 P, o40_0 P, o41_0 P, o42_0 P, o43_0 P, o44_0 P, o45_0 P, o46_0 P, o47_0 P, o48_0 P, o49_0 P, o50_0 P, o51_0 P, o52_0 P, o53_0 P, o54_0 P, o55_0 P, o56_0 P, o57_0 P, o58_0 P, o59_0 P, o60_0 P, o61_0 P, o62_0 P, o63_0 P, o64_0 P, o65_0 P, o66_0 P, o67_0 P, o68_0 P, o69_0 P, o70_0 P, o71_0 P, o72_0 P, o73_0 P, o74_0 P, o75_0 P, o76_0 P, o77_0 P, o78_0 P, o79_0 P, o80_0 P, o81_0 P, o82_0 P, o83_0 P, o84_0 P, o85_0 P, o86_0 P, o87_0 P, o88_0 P, o89_0 P, o90_0 P, o91_0 P, o92_0 P, o93_0 P, o94_0 P, o95_0 P]
noncomputable def L16 (P : Params) : List Obj := [o0_0 P, o1_0 P, o2_0 P, o3_6 P, o4_0 P, o5_0 P, o6_0 P, o7_0 P, o8_0 P, o9_0 P, o10_0 P, o11_0 P, o12_0 P, o13_0 P, o14_0 P, o15_0 P, o16_0 P, o17_0 P, o18_0 P, o19_0 P, o20_0 P, o21_0 P, o22_0 P, o23_0 P, o24_0 P, o25_0 P, o26_0 P, o27_0 P, o28_0 P, o29_3 P, o30_0 P, o31_0 P, o32_0 P, o33_0 P, o34_0 P, o35_0 P, o36_0 P, o37_0 P, o38_0 P, o39_0 P, o40_0 P, o41_0 P, o42_0 P, o43_0 P, o44_0 P, o45_0 P, o46_0 P, o47_0 P, o48_0 P, o49_0 P, o50_0 P, o51_0 P, o52_0 P, o53_0 P, o54_0 P, o55_0 P, o56_0 P, o57_0 P, o58_0 P, o59_0 P, o60_0 P, o61_0 P, o62_0 P, o63_0 P, o64_0 P, o65_0 P, o66_0 P, o67_0 P, o68_0 P, o69_0 P, o70_0 P, o71_0 P, o72_0 P, o73_0 P, o74_0 P, o75_0 P, o76_0 P, o77_0 P, o78_0 P, o79_0 P, o80_0 P, o81_0 P, o82_0 P, o83_0 P, o84_0 P, o85_0 P, o86_0 P, o87_0 P, o88_0 P, o89_0 P, o90_0 P, o91_0 P, o92_0 P, o93_0 P, o94_0 P, o95_0 P] ++ (b3main :: b3subs ++ [])
noncomputable def L22 (P : Params) : List Obj := [o0_0 P, o1_0 P, o2_0 P, o3_7 P, o4_0 P, o5_0 P, o6_0 P, o7_0 P, o8_0 P, o9_0 P, o10_0 P, o11_0 P, o12_0 P, o13_0 P, o14_0 P, o15_0 P, o16_0 P, o17_0 P, o18_0 P, o19_0 P, o20_0 P, o21_0 P, o22_0 P, o23_0 P, o24_0 P, o25_0 P, o26_0 P, o27_0 P, o28_0 P, o29_4 P, o30_0 P, o31_0 P, o32_0 P, o33_0 P, o34_0 P, o35_0 P, o36_0 P, o37_0 P, o38_0 P, o39_0 P, o40_0 P, o41_0 P, o42_0 P, o43_0 P, o44_0 P, o45_0 P, o46_0 P, o47_0 P, o48_0 P, o49_0 P, o50_0 P, o51_0 P, o52_0 P, o53_0 P, o54_0 P, o55_0 P, o56_0 P, o57_0 P, o58_0 P, o59_0 P, o60_0 P, o61_0 P, o62_0 P, o63_0 P, o64_0 P, o65_0 P, o66_0 P, o67_0 P, o68_0 P, o69_0 P, o70_0 P, o71_0 P, o72_0 P, o73_0 P, o74_0 P, o75_0 P, o76_0 P, o77_0 P, o78_0 P, o79_0 P, o80_0 P, o81_0 P, o82_0 P, o83_0 P, o84_0 P, o85_0 P, o86_0 P, o87_0 P, o88_0 P, o89_0 P, o90_0 P, o91_0 P, o92_0 P, o93_0 P, o94_0 P, o95_0 P] ++ (b3main :: b3subs ++ [o135_0 P, o136_0 P, o137_0 P, o138_0 P, o139_0 P, o140_0 P, o141_0 P, o142_0 P, o143_0 P, o144_0 P, o145_0 P, o146_0 P, o147_0 P, o148_0 P, o149_0 P, o150_0 P, o151_0 P, o152_0 P, o153_0 P, o154_0 P, o155_0 P, o156_0 P, o157_0 P, o158_0 P, o159_0 P, o160_0 P, o161_0 P, o162_0 P, o163_0 P, o164_0 P, o165_0 P])
end Mine
namespace Mine
open PySem PySem.W PySem.Calls PyProof.Rows
theorem abs_LA (P : Params) : absHeap (btr (LA P)) 32 {} = hp (LA P) {} := by kernel_rfl
theorem abs_L6 (P : Params) : absHeap (btr (L6 P)) 49 {} = hp (L6 P) {} := by kernel_rfl
theorem abs_L7 (P : Params) : absHeap (btr (L7 P)) 50 {} = hp (L7 P) {} := by kernel_rfl
theorem abs_L13 (P : Params) : absHeap (btr (L13 P)) 78 {} = hp (L13 P) {} := by kernel_rfl
theorem abs_L14 (P : Params) : absHeap (btr (L14 P)) 89 {} = hp (L14 P) {} := by kernel_rfl
theorem preT (w : World) : (fun os => topGo treeTable pw w 28 (some (.ref 6)) 12 ⟨hp (LS w.params) {}, #[], {}, 276, os⟩ (topStub pw)) = fun os => some (⟨hp (LA w.params) {}, #[], {}, 282, os⟩, ⟨denote treeTable cM, cM, ⟨0, 0, 0, 0⟩, [topFrame q0]⟩) := by kernel_rfl
theorem blockT (w : World) : (fun os => segRun treeTable pw w 28 (some (.ref 6)) 1 1 ⟨hp (LA w.params) {}, #[], {}, 282, os⟩ (blockOf bodyM envM cM ⟨0, 0, 0, 0⟩ [topFrame q0])) = fun os => some (.next, ⟨hp (LA w.params) {}, #[], {}, 282, os⟩, cM, ⟨0, 0, 0, 0⟩) := by kernel_rfl
theorem pc6T (w : World) : (fun os => segRunT treeTable pw w 28 (some (.ref 6)) 1 201 ⟨btr (LA w.params), 32, {}, #[], {}, 282, os⟩ (piecesOf (sts 0 6) envM cM ⟨0, 0, 0, 0⟩ [topFrame q0])) = fun os => some (.next, ⟨btr (L6 w.params), 49, {}, #[], {}, 353, os⟩, cM, ⟨8, 0, 8, 8⟩) := by kernel_rfl
theorem pc6 (w : World) (os : OsState) : segRun treeTable pw w 28 (some (.ref 6)) 1 201 ⟨hp (LA w.params) {}, #[], {}, 282, os⟩ (piecesOf (sts 0 6) envM cM ⟨0, 0, 0, 0⟩ [topFrame q0]) = some (.next, ⟨hp (L6 w.params) {}, #[], {}, 353, os⟩, cM, ⟨8, 0, 8, 8⟩) := by
  have z := segRun_of (congrFun (pc6T w) os)
  unfold SharedT.abs at z
  rw [abs_LA w.params, abs_L6 w.params] at z
  exact z
noncomputable abbrev pc7P (w : World) : Prop := (fun os => segRunT treeTable pw w 28 (some (.ref 6)) 1 141 ⟨btr (L6 w.params), 49, {}, #[], {}, 353, os⟩ (piecesOf (sts 6 7) envM cM ⟨8, 0, 8, 8⟩ [topFrame q0])) = fun os => some (.next, ⟨btr (L7 w.params), 50, {}, #[], {}, 384, os⟩, cM, ⟨9, 0, 9, 19⟩)
theorem pc7F (w : World) : pc7P (w.withFollow "special-get-raises" false) := by kernel_rfl
theorem pc7G (w : World) : pc7P (w.withFollow "special-get-raises" true) := by kernel_rfl
theorem pc7T (w : World) : pc7P w := byRow2 "special-get-raises" pc7F pc7G w
theorem pc7 (w : World) (os : OsState) : segRun treeTable pw w 28 (some (.ref 6)) 1 141 ⟨hp (L6 w.params) {}, #[], {}, 353, os⟩ (piecesOf (sts 6 7) envM cM ⟨8, 0, 8, 8⟩ [topFrame q0]) = some (.next, ⟨hp (L7 w.params) {}, #[], {}, 384, os⟩, cM, ⟨9, 0, 9, 19⟩) := by
  have z := segRun_of (congrFun (pc7T w) os)
  unfold SharedT.abs at z
  rw [abs_L6 w.params, abs_L7 w.params] at z
  exact z
theorem pc13T (w : World) : (fun os => segRunT treeTable pw w 28 (some (.ref 6)) 1 148 ⟨btr (L7 w.params), 50, {}, #[], {}, 384, os⟩ (piecesOf (sts 7 13) envM cM ⟨9, 0, 9, 19⟩ [topFrame q0])) = fun os => some (.next, ⟨btr (L13 w.params), 78, {}, #[], {}, 429, os⟩, cM, ⟨62, 0, 62, 8⟩) := by kernel_rfl
theorem pc13 (w : World) (os : OsState) : segRun treeTable pw w 28 (some (.ref 6)) 1 148 ⟨hp (L7 w.params) {}, #[], {}, 384, os⟩ (piecesOf (sts 7 13) envM cM ⟨9, 0, 9, 19⟩ [topFrame q0]) = some (.next, ⟨hp (L13 w.params) {}, #[], {}, 429, os⟩, cM, ⟨62, 0, 62, 8⟩) := by
  have z := segRun_of (congrFun (pc13T w) os)
  unfold SharedT.abs at z
  rw [abs_L7 w.params, abs_L13 w.params] at z
  exact z
end Mine
namespace Mine
open PySem PySem.W PySem.Calls PyProof.Rows

noncomputable def listNew : { b : Builtin // Builtin.«list.__new__» = b } := by
  refine ⟨?b, ?h⟩
  case h =>
    delta Builtin.«list.__new__»
    rw [splitQ_eq]
noncomputable def myTable (id : String) : Option Builtin := if id = "list.__new__" then some listNew.1 else treeTable id
theorem myTable_eq : treeTable = myTable := by
  funext id
  unfold myTable
  by_cases h : id = "list.__new__"
  · subst h
    rw [if_pos rfl, ← listNew.2]
    kernel_rfl
  · rw [if_neg h]
noncomputable abbrev B1Q (tb : String → Option Builtin) (w : World) : Prop := (fun os => segRunT tb pw w 28 (some (.ref 6)) 1 999 ⟨btr (L13 w.params), 78, {}, #[], {}, 429, os⟩ (piecesOf (sts 13 14) envM cM ⟨62, 0, 62, 8⟩ [topFrame q0])) = fun os => some (.next, ⟨btr (L14 w.params), 89, {}, #[], {}, 489, os⟩, cM, ⟨63, 0, 63, 6⟩)
noncomputable abbrev B1P (w : World) : Prop := B1Q myTable w
theorem b1_ff (w : World) : B1P ((w.withFollow "special-get-raises" false).withFollow "set-order" false) := by kernel_rfl
theorem b1_ft (w : World) : B1P ((w.withFollow "special-get-raises" true).withFollow "set-order" false) := by kernel_rfl
theorem b1_tf (w : World) : B1P ((w.withFollow "special-get-raises" false).withFollow "set-order" true) := by kernel_rfl
theorem b1_tt (w : World) : B1P ((w.withFollow "special-get-raises" true).withFollow "set-order" true) := by kernel_rfl
theorem b1Q (w : World) : B1P w := byRow2 "set-order" (byRow2 "special-get-raises" (P := fun w => B1P (w.withFollow "set-order" false)) b1_ff b1_ft) (byRow2 "special-get-raises" (P := fun w => B1P (w.withFollow "set-order" true)) b1_tf b1_tt) w
theorem b1T (w : World) : B1Q treeTable w := by
  rw [myTable_eq]
  exact b1Q w
theorem pc14 (w : World) (os : OsState) : segRun treeTable pw w 28 (some (.ref 6)) 1 999 ⟨hp (L13 w.params) {}, #[], {}, 429, os⟩ (piecesOf (sts 13 14) envM cM ⟨62, 0, 62, 8⟩ [topFrame q0]) = some (.next, ⟨hp (L14 w.params) {}, #[], {}, 489, os⟩, cM, ⟨63, 0, 63, 6⟩) := by
  have z := segRun_of (congrFun (b1T w) os)
  unfold SharedT.abs at z
  rw [abs_L13 w.params, abs_L14 w.params] at z
  exact z
end Mine
namespace Mine
open PySem PySem.W PySem.Calls PyProof.Rows
noncomputable def litPs0 : List (Option Expr) → List Expr → List (Int × Str)
  | some (.Constant (.int n) _ _) :: ks, .Constant (.str x) _ _ :: vs => (n, x) :: litPs0 ks vs
  | _, _ => []
theorem items_of (env : Env) (dp : Pos) : ∀ (ks : List (Option Expr)) (vs : List Expr), (litPs0 ks vs).length = ks.length → ks.length = vs.length →
    (evalEachOpt ks env).zip ((evalEach vs env).map fun v => do let x ← v; standAt dp; pure x) = ((litPs0 ks vs).map (tr dp)).map someK
  | [], [], _, _ => rfl
  | some (.Constant (.int n) a b) :: ks, .Constant (.str x) c d :: vs, h1, h2 => by
    have ih := items_of env dp ks vs (by simpa [litPs0] using h1) (by simpa using h2)
    rw [evalEachOpt, evalEach, litPs0]
    rw [List.map_cons, List.zip_cons_cons, ih]
    rfl
  | [], _ :: _, _, h2 => by cases h2
  | _ :: _, [], _, h2 => by cases h2
  | none :: ks, v :: vs, h1, _ => by simp [litPs0] at h1
  | some k :: ks, v :: vs, h1, h2 => by
    unfold litPs0 at h1
    split at h1
    · rename_i n a b ks' x c d vs' e1 e2
      cases e1; cases e2
      have ih := items_of env dp ks vs (by simpa using h1) (by simpa using h2)
      rw [evalEachOpt, evalEach, litPs0]
      rw [List.map_cons, List.zip_cons_cons, ih]
      rfl
    · cases h1
section
variable {tb : String → Option Builtin} {pr : Program} {w : World} {n₀ : Nat} {ann : Option Value} {b : Nat}
theorem wrap_bind {α β : Type} (m : Sem α) (f : α → Sem β) (K : β → Sem Fin) (H : Value → Sem Fin) : (m.bind f).wrap K H id id = m.wrap (fun a => (f a).wrap K H id id) H id id := by
  induction m with
  | pure a => rfl
  | raise | unsupported | finish => rfl
  | _ => rename_i ih; simp only [Sem.bind, Sem.wrap, id, ih]
theorem seg_first {α β : Type} {m : Sem α} {T : α → Sem β} {s s₁ : Shared} {p p₁ : Pos} {a : α} {n N M : Nat} {K : β → Sem Fin} {H : Value → Sem Fin} {c : Code} {st : List Frame} {r : Flow × Shared × Code × Pos} (hb : b ≤ st.length) (h : Ev tb pr w n₀ m s p a s₁ p₁ n)
    (k : segRun tb pr w n₀ ann b N s₁ ⟨(T a).wrap K H id id, c, p₁, st⟩ = some r) (e : M = n + N) : segRun tb pr w n₀ ann b M s ⟨(m >>= T).wrap K H id id, c, p, st⟩ = some r := by
  subst e
  have z := h.run (b := b) (ann := ann) (fun a => (T a).wrap K H id id) H c st hb
  rw [← wrap_bind] at z
  exact seg_go z k
/-- a name at the top bound to a display of written ints and texts -/
theorem seg_dict {x : Str} {np sp dp p : Pos} {ks : List (Option Expr)} {vs : List Expr} {env : Env} {s s₁ : Shared} {d : Value} {n N M : Nat} {c : Code} {st : List Frame} {r : Flow × Shared × Code × Pos} (hb : b ≤ st.length)
    (hl : (litPs0 ks vs).length = ks.length) (hv : ks.length = vs.length)
    (h : Ev tb pr w n₀ (dictDisplay (((litPs0 ks vs).map (tr dp)).map someK)) s dp d s₁ dp n)
    (k : segRun tb pr w n₀ ann b N s₁ ⟨(do standAt np; bindName env x d; pure .next : Sem Flow).wrap doneF deadEnd id id, c, dp, st⟩ = some r) (e : M = n + 2 + N) :
    segRun tb pr w n₀ ann b M s ⟨(execs [.Assign [.Name x np] (.Dict ks vs dp) sp] env).wrap doneF deadEnd id id, c, p, st⟩ = some r := by
  subst e
  have t : execs [.Assign [.Name x np] (.Dict ks vs dp) sp] env = (standAt sp >>= fun _ => standAt dp >>= fun _ => dictDisplay (((litPs0 ks vs).map (tr dp)).map someK) >>= fun v => (do standAt np; bindName env x v; pure .next : Sem Flow)) := by
    rw [execs_cons, exec_Assign_Name _ _ _ _ _ rfl]
    have e : eval (.Dict ks vs dp) env = (do standAt dp; dictDisplay ((evalEachOpt ks env).zip ((evalEach vs env).map fun v => do let x ← v; standAt dp; pure x))) := rfl
    rw [e, items_of env dp ks vs hl hv]
    simp only [bind_assoc, pure_bind]
    rfl
  rw [t]
  refine seg_first (M := n + 2 + N) (N := n + 1 + N) (n := 1) (s₁ := s) (p₁ := sp) (a := ()) hb (.at (.pure _ _ _)) ?_ (by omega)
  refine seg_first (N := n + N) (n := 1) (s₁ := s) (p₁ := dp) (a := ()) hb (.at (.pure _ _ _)) ?_ (by omega)
  exact seg_first hb h k rfl
end
end Mine
namespace Mine
open PySem PySem.W PySem.Calls PyProof.Rows
theorem abs_L15 (P : Params) : absHeap (btr (L15 P)) 96 {} = hp (L15 P) {} := by kernel_rfl
theorem abs_L16 (P : Params) : absHeap (btr (L16 P)) 135 {} = hp (L16 P) {} := by kernel_rfl
theorem abs_L22 (P : Params) : absHeap (btr (L22 P)) 166 {} = hp (L22 P) {} := by kernel_rfl
theorem pc15T (w : World) : (fun os => segRunT treeTable pw w 28 (some (.ref 6)) 1 30 ⟨btr (L14 w.params), 89, {}, #[], {}, 489, os⟩ (piecesOf (sts 14 15) envM cM ⟨63, 0, 63, 6⟩ [topFrame q0])) = fun os => some (.next, ⟨btr (L15 w.params), 96, {}, #[], {}, 496, os⟩, cM, ⟨64, 0, 65, 30⟩) := by kernel_rfl
theorem pc15 (w : World) (os : OsState) : segRun treeTable pw w 28 (some (.ref 6)) 1 30 ⟨hp (L14 w.params) {}, #[], {}, 489, os⟩ (piecesOf (sts 14 15) envM cM ⟨63, 0, 63, 6⟩ [topFrame q0]) = some (.next, ⟨hp (L15 w.params) {}, #[], {}, 496, os⟩, cM, ⟨64, 0, 65, 30⟩) := by
  have z := segRun_of (congrFun (pc15T w) os)
  unfold SharedT.abs at z
  rw [abs_L14 w.params, abs_L15 w.params] at z
  exact z
theorem pc22T (w : World) : (fun os => segRunT treeTable pw w 28 (some (.ref 6)) 1 151 ⟨btr (L16 w.params), 135, {}, #[], {}, 2447, os⟩ (piecesOf (sts 16 22) envM cM ⟨66, 0, 66, 13⟩ [topFrame q0])) = fun os => some (.next, ⟨btr (L22 w.params), 166, {}, #[], {}, 2484, os⟩, cM, ⟨92, 0, 125, 27⟩) := by kernel_rfl
theorem pc22 (w : World) (os : OsState) : segRun treeTable pw w 28 (some (.ref 6)) 1 151 ⟨hp (L16 w.params) {}, #[], {}, 2447, os⟩ (piecesOf (sts 16 22) envM cM ⟨66, 0, 66, 13⟩ [topFrame q0]) = some (.next, ⟨hp (L22 w.params) {}, #[], {}, 2484, os⟩, cM, ⟨92, 0, 125, 27⟩) := by
  have z := segRun_of (congrFun (pc22T w) os)
  unfold SharedT.abs at z
  rw [abs_L16 w.params, abs_L22 w.params] at z
  exact z

noncomputable def b3st : Str × Pos × Pos := match (bodyM[15]? : Option Stmt) with
  | some (.Assign [.Name x np] _ sp) => (x, np, sp)
  | _ => default
theorem b3_st : sts 15 16 = [.Assign [.Name b3st.1 b3st.2.1] (.Dict b3parts.1 b3parts.2.1 b3parts.2.2) b3st.2.2] := by kernel_rfl
theorem b3_len1 : (litPs0 b3parts.1 b3parts.2.1).length = b3parts.1.length := by kernel_rfl
theorem b3_len2 : b3parts.1.length = b3parts.2.1.length := by kernel_rfl
theorem b3_split : litPs0 b3parts.1 b3parts.2.1 = b3c ++ (b3cs.flatten ++ b3l) := by kernel_rfl
theorem b3_full : Full b3cs := by
  have h : b3cs.all (fun c => c.length == 17) = true := by kernel_rfl
  have g : ∀ cs : List (List (Int × Str)), cs.all (fun c => c.length == 17) = true → Full cs := by
    intro cs
    induction cs with
    | nil => intro _; trivial
    | cons c r ih =>
      intro h
      simp only [List.all_cons, Bool.and_eq_true, beq_iff_eq] at h
      exact ⟨h.1, ih h.2⟩
  exact g _ h
theorem b3_inc : Inc 0 (b3c ++ (b3cs.flatten ++ b3l)) := inc_of (by kernel_rfl)
theorem b3_disp (w : World) (os : OsState) : Ev treeTable pw w 28 (dictDisplay (((litPs0 b3parts.1 b3parts.2.1).map (tr b3parts.2.2)).map someK)) ⟨hp (L15 w.params) {}, #[], {}, 496, os⟩ b3parts.2.2 (.ref 96)
    ⟨hp (L15 w.params ++ (b3main :: b3subs)) {}, #[], {}, 2446, os⟩ b3parts.2.2 12515 := by
  rw [b3_split]
  have lc : b3c.length = 17 := by kernel_rfl
  have lcs : b3cs.length = 37 := by kernel_rfl
  have ll : b3l.length = 4 := by kernel_rfl
  have lB : (L15 w.params).length = 96 := rfl
  have z := ev_display (pr := pw) (w := w) (n₀ := 28) (B := L15 w.params) (life := {}) (gs := #[]) (dr := {}) (os := os) (pos := b3parts.2.2) (p := b3parts.2.2) (tk := 496) (by rw [lB]; rfl) (by rw [lB]; decide) (c := b3c) (cs := b3cs) (l := b3l) lc b3_full (by rw [ll]; decide) (by intro q; rw [q] at ll; cases ll) b3_inc (by rw [lcs]; decide)
  rw [lB, lcs, ll] at z
  exact z
theorem abs_Ld (P : Params) : absHeap (btr (L15 P ++ (b3main :: b3subs))) 135 {} = hp (L15 P ++ (b3main :: b3subs)) {} := by kernel_rfl
theorem b3_tailT (w : World) : (fun os => segRunT treeTable pw w 28 (some (.ref 6)) 1 8 ⟨btr (L15 w.params ++ (b3main :: b3subs)), 135, {}, #[], {}, 2446, os⟩ ⟨(do standAt b3st.2.1; bindName envM b3st.1 (.ref 96); pure .next : Sem Flow).wrap doneF deadEnd id id, cM, b3parts.2.2, [topFrame q0]⟩) = fun os => some (.next, ⟨btr (L16 w.params), 135, {}, #[], {}, 2447, os⟩, cM, ⟨66, 0, 66, 13⟩) := by kernel_rfl
theorem pc16 (w : World) (os : OsState) : segRun treeTable pw w 28 (some (.ref 6)) 1 12525 ⟨hp (L15 w.params) {}, #[], {}, 496, os⟩ (piecesOf (sts 15 16) envM cM ⟨64, 0, 65, 30⟩ [topFrame q0]) = some (.next, ⟨hp (L16 w.params) {}, #[], {}, 2447, os⟩, cM, ⟨66, 0, 66, 13⟩) := by
  have z := segRun_of (congrFun (b3_tailT w) os)
  unfold SharedT.abs at z
  rw [abs_L16 w.params, abs_Ld w.params] at z
  unfold piecesOf
  rw [b3_st]
  exact seg_dict (Nat.le_refl _) b3_len1 b3_len2 (b3_disp w os) z rfl
theorem finT (w : World) (os : OsState) : topRun treeTable pw w 28 (some (.ref 6)) 2 ⟨hp (L22 w.params) {}, #[], {}, 2484, os⟩ ⟨doneF .next, cM, ⟨92, 0, 125, 27⟩, [topFrame q0]⟩ = some ⟨hp (L22 w.params) {}, #[], {}, 2484, os⟩ := by kernel_rfl
end Mine
namespace Mine
open PySem PySem.W PySem.Calls PyProof.Rows
theorem openT (w : World) : (fencedOpening treeTable pw w 28502).map (fun s => (s.heap, s.gens, s.drawn, s.toks)) = some (hp (LS w.params) {}, #[], {}, 276) := by kernel_rfl
end Mine
namespace Mine
open PySem PySem.W PySem.Calls PyProof.Rows

noncomputable def qv : Program := view pw [0, 2, 3, 4, 5, 7, 8, 9, 11, 12, 14, 15, 16, 17, 19, 20, 21, 22]
noncomputable abbrev loose : List Str := [Str.ofString "_twin_re_1", Str.ofString "_twin_re_2", Str.ofString "COMPILER_FLAG_NAMES", Str.ofString "b1_set", Str.ofString "b3_exceptions"]
noncomputable abbrev asK : List Addr := [2, 3, 6, 11, 12, 35, 36, 40, 41, 42, 44, 45, 47, 48, 49, 50, 52, 53, 55, 56, 57, 59, 60, 62, 63, 64, 66, 67, 69, 70, 71, 73, 74, 76, 77, 85, 89, 91, 92, 94, 95, 96, 135, 137, 138, 140, 141, 142, 144, 145, 147, 148, 149, 151, 152, 154, 155, 156, 159, 160, 161, 164, 165]
noncomputable def K (P : Params) : Frag := (nat_lit 2, o2_0 P) :: (nat_lit 3, o3_7 P) :: (nat_lit 6, o6_0 P) :: (nat_lit 11, o11_0 P) :: (nat_lit 12, o12_0 P) :: (nat_lit 35, o35_0 P) :: (nat_lit 36, o36_0 P) :: (nat_lit 40, o40_0 P) :: (nat_lit 41, o41_0 P) :: (nat_lit 42, o42_0 P) :: (nat_lit 44, o44_0 P) :: (nat_lit 45, o45_0 P) :: (nat_lit 47, o47_0 P) :: (nat_lit 48, o48_0 P) :: (nat_lit 49, o49_0 P) :: (nat_lit 50, o50_0 P) :: (nat_lit 52, o52_0 P) :: (nat_lit 53, o53_0 P) :: (nat_lit 55, o55_0 P) :: (nat_lit 56, o56_0 P) :: (nat_lit 57, o57_0 P) :: (nat_lit 59, o59_0 P) :: (nat_lit 60, o60_0 P) :: (nat_lit 62, o62_0 P) :: (nat_lit 63, o63_0 P) :: (nat_lit 64, o64_0 P) :: (nat_lit 66, o66_0 P) :: (nat_lit 67, o67_0 P) :: (nat_lit 69, o69_0 P) :: (nat_lit 70, o70_0 P) :: (nat_lit 71, o71_0 P) :: (nat_lit 73, o73_0 P) :: (nat_lit 74, o74_0 P) :: (nat_lit 76, o76_0 P) :: (nat_lit 77, o77_0 P) :: (nat_lit 85, o85_0 P) :: (nat_lit 89, o89_0 P) :: (nat_lit 91, o91_0 P) :: (nat_lit 92, o92_0 P) :: (nat_lit 94, o94_0 P) :: (nat_lit 95, o95_0 P) :: (nat_lit 96, b3main) :: (nat_lit 135, o135_0 P) :: (nat_lit 137, o137_0 P) :: (nat_lit 138, o138_0 P) :: (nat_lit 140, o140_0 P) :: (nat_lit 141, o141_0 P) :: (nat_lit 142, o142_0 P) :: (nat_lit 144, o144_0 P) :: (nat_lit 145, o145_0 P) :: (nat_lit 147, o147_0 P) :: (nat_lit 148, o148_0 P) :: (nat_lit 149, o149_0 P) :: (nat_lit 151, o151_0 P) :: (nat_lit 152, o152_0 P) :: (nat_lit 154, o154_0 P) :: (nat_lit 155, o155_0 P) :: (nat_lit 156, o156_0 P) :: (nat_lit 159, o159_0 P) :: (nat_lit 160, o160_0 P) :: (nat_lit 161, o161_0 P) :: (nat_lit 164, o164_0 P) :: (nat_lit 165, o165_0 P) :: []
theorem K_keys (P : Params) : asK = (K P).map (·.1) := rfl
noncomputable abbrev HK : Hook := kHook K asK K_keys
noncomputable abbrev Xt (s : Shared) : Bool := xlAt qv [] s && recOk [] s
theorem body_split : bodyM = sts 0 6 ++ (sts 6 7 ++ (sts 7 13 ++ (sts 13 14 ++ (sts 14 15 ++ (sts 15 16 ++ (sts 16 22 ++ [])))))) := by kernel_rfl
theorem sizeT (w : World) : ((hp (LS w.params) {}).isNs mainGlobals && (#[] : Array GenState).size == 0, (hp (LS w.params) {}).objs.size, (hp (LS w.params) {}).nsMap mainGlobals "__annotations__") = (true, 28, (some (.ref 6))) := by kernel_rfl
theorem runT (w : World) (os : OsState) : topRun treeTable pw w 28 (some (.ref 6)) (12 + (1 + (201 + (141 + (148 + (999 + (30 + (12525 + (151 + (2)))))))))) ⟨hp (LS w.params) {}, #[], {}, 276, os⟩ (topStub pw) = some ⟨hp (L22 w.params) {}, #[], {}, 2484, os⟩ := by
  refine go_top (congrFun (preT w) os) ?_
  refine piece_block (congrFun (blockT w) os) ?_
  have e : restOf bodyM envM cM ⟨0, 0, 0, 0⟩ [topFrame q0] = restOf (sts 0 6 ++ (sts 6 7 ++ (sts 7 13 ++ (sts 13 14 ++ (sts 14 15 ++ (sts 15 16 ++ (sts 16 22 ++ []))))))) envM cM ⟨0, 0, 0, 0⟩ [topFrame q0] := congrArg (fun l => restOf l envM cM ⟨0, 0, 0, 0⟩ [topFrame q0]) body_split
  rw [e]
  exact piece_app (pc6 w os) (piece_app (pc7 w os) (piece_app (pc13 w os) (piece_app (pc14 w os) (piece_app (pc15 w os) (piece_app (pc16 w os) (piece_app (pc22 w os) (piece_nil (finT w os))))))))
end Mine
namespace Mine
open PySem PySem.W PySem.Calls PyProof.Rows

theorem lk1 (w : World) : (fun os => (staticsOk (importedModules pw.main.body) (hp (LS w.params) {}) (hp (L22 w.params) {}) && namesBound pw (hp (L22 w.params) {}) && gensDone ⟨hp (L22 w.params) {}, #[], {}, 2484, os⟩ && laidKept (hp (LS w.params) {}) (hp (L22 w.params) {}))) = fun (_ : OsState) => true := by kernel_rfl
theorem lk2 (w : World) : (fun os => openSeen qv loose (importedModules pw.main.body) Xt true ⟨hp (L22 w.params) {}, #[], {}, 2484, os⟩) = fun (_ : OsState) => openGood qv loose := by kernel_rfl
theorem lk3 (w : World) : (fun os => HK.obs ⟨hp (L22 w.params) {}, #[], {}, 2484, os⟩) = fun (_ : OsState) => HK.val w := by kernel_rfl
theorem left : LeftO pw qv loose Xt HK.obs HK.val 28502 := LeftO.of_pieces (H₀ := fun P => hp (LS P) {}) (H₁ := fun P => hp (L22 P) {}) (gs₀ := #[]) (gs₁ := #[]) (d₀ := {}) (d₁ := {}) (k₀ := 276) (k₁ := 2484) (m₀ := 28) (ann := (some (.ref 6))) (M := 12 + (1 + (201 + (141 + (148 + (999 + (30 + (12525 + (151 + (2))))))))))
  openT sizeT runT (by rfl) fun w => funext fun os => looks_pair (congrFun (lk1 w) os) (looks_pair (congrFun (lk2 w) os) (congrFun (lk3 w) os))
end Mine
namespace Mine
open PySem PySem.W PySem.Calls PyProof.Rows PySem.Spec

noncomputable abbrev rwp : Program := PySem.Challenge.rw_sr0066_02.prog
noncomputable abbrev Ctr (w : World) (loose : List Str) (mean : ExcName → Option Value) (mg mb : Str → Option Value) (f : Addr) (pre : Prop) (vs : List Value) (R : Tok → Value) : Prop :=
  ∀ news : List (Addr × Obj), CbClaim rwp w (K w.params) qv loose mean mg mb f news [] pre vs R

/-- a contract, ready for `apply` -/
noncomputable abbrev CtrU (w : World) (loose : List Str) (mean : ExcName → Option Value) (mg mb : Str → Option Value) (f : Addr) (vs : List Value) (R : Tok → Value) : Prop :=
  ∀ {news : List (Addr × Obj)} {dp un : Nat} {gd : Option (List Code)} {cn : Str} {cs : Scope} {a : Addr} {ccd : Value} {cl : List (Str × Addr)} {outer : List Env} {A₀ : Around} {base h₀ : Heap} {L : Addr} {m : Str → Option Value} {s : Shared} {Q E : Value → Shared → Prop},
    Below A₀ base outer h₀ → Fr h₀ L s.heap m → (K w.params).In h₀ → News h₀ L s.heap news → Top qv loose mean mg mb h₀ → cs.kind = .function →
    dp + 1 < recursionLimit → un + 8 < cLine → CbRet h₀ L m news s Q R → wpAny (model rwp w) (ktrTop dp un gd cn cs L a ccd cl outer) (call (.ref f) vs) Q E s
theorem ctr_use {w : World} {loose : List Str} {mean : ExcName → Option Value} {mg mb : Str → Option Value} {f : Addr} {vs : List Value} {R : Tok → Value} (C : Ctr w loose mean mg mb f True vs R) : CtrU w loose mean mg mb f vs R :=
  fun k1 k2 k3 k4 k5 kK kd ku kR => C _ _ _ _ _ _ _ _ _ _ _ _ _ _ _ _ _ _ k1 k2 k3 k4 k5 kK trivial kd ku kR
noncomputable def dumP : Params := { strHash := fun _ => 0, shareClass := fun _ => 0, mergeTok := fun t => t, idOf := fun _ => 0, idOfShared := fun _ _ => 0, followText := fun _ => false, idOfImm := fun _ => 0 }
noncomputable def b1es : Array (Int × Value) := match (o85_0 dumP).data with
  | .set es _ _ => es
  | _ => #[]
noncomputable def inB1 (n : Int) : Bool := b1es.toList.any fun e => Value.isInt n e.2
theorem b1_obj (P : Params) : ∃ t, o85_0 P = { cls := .type "set", dict := none, data := .set b1es 29 t } ∧ t.fits 27 = true := ⟨_, rfl, rfl⟩
theorem b1_size : b1es.size = 27 := rfl
theorem b1_all : b1es.toList.all (fun e => match e.2 with | .int n _ => e.1 == hashInt n | _ => false) = true := by kernel_rfl
theorem b1_set (prog : Program) (w : World) (P : Params) : (o85_0 P).SetObjOf (intKind prog w) inB1 27 := by
  obtain ⟨t, e, hf⟩ := b1_obj P
  refine ⟨by rw [e]; exact ⟨rfl, rfl, rfl⟩, b1es, 29, t, by rw [e], fun x hx => ?_, fun k => ?_, b1_size, by rw [b1_size]; exact hf⟩
  · have h := List.all_eq_true.mp b1_all x hx
    obtain ⟨hh, v⟩ := x
    cases v with
    | int n tk => exact ⟨⟨n, intKind_is prog w n tk, by show hh = hashInt n; simpa using h⟩, rfl⟩
    | _ => cases h
  · unfold inB1
    rw [List.any_eq_true]
    rfl
theorem in_b1 {w : World} {A : Around} {E : Value → Shared → Prop} {s : Shared} {h₀ : Heap} {L : Addr} {m : Str → Option Value} {n : Int} {t : Tok} {Q : Value → Shared → Prop} (F : Fr h₀ L s.heap m) (X : (K w.params).In h₀)
    (h : Q (.bool (inB1 n)) { s with toks := s.toks + 1 }) : wpAny (model rwp w) A (compareOp .In (.int n t) (.ref 85)) Q E s :=
  wpAny_inSet_of (knd := intKind rwp w) (intKind_is _ _ _ _) rfl ((b1_set rwp w w.params).setOf (F.keep _ _ (X 85 _ rfl)) (by decide)) h
local macro_rules | `(tactic| walk_at "compareOp In int ref") => `(tactic| with_reducible apply in_b1; k_asm; k_asm)

set_option maxHeartbeats 8000000 in
theorem c_in_b1 (w : World) (loose : List Str) (mean : ExcName → Option Value) (mg mb : Str → Option Value) (c : Nat) (t : Tok) :
   Ctr w loose mean mg mb 95 True [.str ⟨#[c]⟩ t] (fun _ => .bool (inB1 c)) := by
  unfold Ctr rwp
  k_fill
  dsimp only [CbClaim, CbLists, CbRet]
  intros; rename_i hret
  refine wpAny_call ?_
  k_dflt cell_enter
  k_steps
  all_goals cb_end hret
theorem call_in_b1 {w : World} {loose : List Str} {mean : ExcName → Option Value} {mg mb : Str → Option Value} {c : Nat} {t : Tok} : CtrU w loose mean mg mb 95 [.str ⟨#[c]⟩ t] (fun _ => .bool (inB1 c)) := ctr_use (c_in_b1 w loose mean mg mb c t)
theorem at95 {M : Model} {A : Around} {E Q : Value → Shared → Prop} {s : Shared} {vs} (h : wpAny M A (call (.ref 95) vs) Q E s) : wpAny M A (call (.ref 95) vs) Q E s := h
end Mine
namespace Mine
open PySem PySem.W PySem.Calls PyProof.Rows PySem.Spec

noncomputable def b3es : Array DictEntry := match b3main.data with
  | .dict es _ => es
  | _ => #[]
theorem b3_obj : b3main = { cls := .type "dict", data := .dict b3es 650 } := by kernel_rfl
theorem b3_all : b3es.toList.all (fun e => match e.key, e.val with | .int n _, .str _ _ => e.hash == hashInt n | _, _ => false) = true := by kernel_rfl
noncomputable def b3f (n : Int) : Option Value := findBy Value.isInt b3es n
theorem b3_shape {e : DictEntry} (he : e ∈ b3es) : ∃ n tk x u, e.hash = hashInt n ∧ e.key = .int n tk ∧ e.val = .str x u := by
  have h := List.all_eq_true.mp b3_all e (Array.mem_toList_iff.mpr he)
  obtain ⟨hh, key, val⟩ := e
  cases key with
  | int n tk =>
    cases val with
    | str x u => exact ⟨n, tk, x, u, eq_of_beq h, rfl, rfl⟩
    | _ => cases h
  | _ => cases h
theorem b3_keys (prog : Program) (w : World) : KeysOf (intKind prog w) b3es := fun e he => by
  obtain ⟨n, tk, x, u, a, b, c⟩ := b3_shape he
  exact ⟨n, b ▸ intKind_is prog w n tk, a⟩
theorem b3_map {prog : Program} {w : World} {h : Heap} (hx : h.get? 96 = some b3main) : h.MapOf (intKind prog w) 96 b3f :=
  ⟨_, b3es, 650, hx, (by rw [b3_obj]; exact ⟨rfl, rfl, rfl⟩), (by rw [b3_obj]), b3_keys prog w, fun _ => rfl⟩
theorem b3_str {n : Int} {v : Value} (h : b3f n = some v) : ∃ x t, v = .str x t := by
  unfold b3f findBy at h
  obtain ⟨e, he, hv⟩ := Option.map_eq_some_iff.mp h
  obtain ⟨n, tk, x, u, a, b, c⟩ := b3_shape (Array.mem_of_find?_eq_some he)
  exact ⟨x, u, hv.symm.trans c⟩
/-- what map_table_b3 gives of one sign -/
noncomputable def b3 (c : Nat) : Str := match b3f c with
  | some (.str x _) => x
  | _ => Txt.lower ⟨#[c]⟩
theorem b3_some {c : Nat} {x : Str} {t : Tok} (h : b3f c = some (.str x t)) : b3 c = x := by unfold b3; rw [h]
theorem b3_none {c : Nat} (h : b3f c = none) : b3 c = Txt.lower ⟨#[c]⟩ := by unfold b3; rw [h]
section
variable {w : World} {A : Around} {E : Value → Shared → Prop} {s : Shared} {h₀ : Heap} {L : Addr} {m : Str → Option Value}
theorem meth_b3 {pl : Sem Bool} {Q : Value × List Value → Shared → Prop} (F : Fr h₀ L s.heap m) (X : (K w.params).In h₀) (h : Q (.builtin "dict.get", [.ref 96]) s) : wpAny (model rwp w) A (getMethod (.ref 96) "get" pl) Q E s :=
  have hm : s.heap.MapOf (intKind rwp w) 96 b3f := b3_map (F.keep _ _ (X 96 _ rfl))
  getMethod_builtin hm.typeIs PySem.F.plainAttrs_dict PySem.F.slot_dict_get PySem.F.type_dict_get hm.noDict h
theorem get_b3 {n : Int} {t : Tok} {Q : Value → Shared → Prop} (F : Fr h₀ L s.heap m) (X : (K w.params).In h₀) (h1 : ∀ x u, b3f n = some (.str x u) → Q (.str x u) { s with toks := s.toks + 1 }) (h2 : b3f n = none → Q .none { s with toks := s.toks + 1 }) :
    wpAny (model rwp w) A (call (.builtin "dict.get") [.ref 96, .int n t]) Q E s := by
  have hm : s.heap.MapOf (intKind rwp w) 96 b3f := b3_map (F.keep _ _ (X 96 _ rfl))
  refine call_meetsIn PySem.F.slot_dict_get hm.typeIs PySem.F.entry_dict_get (PySem.F.args_dict_get_2 _ _) (meets_dict_get (intKind rwp w) 96 (intKind_is _ _ _ _) rfl) ⟨_, hm, ?_⟩
  cases e : b3f n with
  | none => exact h2 e
  | some v =>
    obtain ⟨x, u, rfl⟩ := b3_str e
    exact h1 x u e
end
local macro_rules | `(tactic| walk_at "getMethod ref") => `(tactic| with_reducible apply meth_b3; k_asm; k_asm)
local macro_rules | `(tactic| walk_at "call builtin:dict.get") => `(tactic| with_reducible apply get_b3; k_asm; k_asm; intros)

theorem low_short (c : Nat) : PySem.Builtin.Str.tooLong (Txt.lower ⟨#[c]⟩).length = false := PyProof.Rows.fit_lower (show (1 : Nat) ≤ 5592405 by decide)
theorem low_one {w : World} {A : Around} {E : Value → Shared → Prop} {s : Shared} {c : Nat} {t : Tok} {Q : Value → Shared → Prop} (h : Q (.str (Txt.lower ⟨#[c]⟩) s.toks) { s with toks := s.toks + 1 }) : wpAny (model rwp w) A (call (.builtin "str.lower") [.str ⟨#[c]⟩ t]) Q E s := SC.lower (low_short c) h
local macro_rules | `(tactic| walk_at "call builtin:str.lower") => `(tactic| k_dflt apply low_one)
set_option maxHeartbeats 8000000 in
theorem c_b3 (w : World) (loose : List Str) (mean : ExcName → Option Value) (mg mb : Str → Option Value) (c : Nat) (t : Tok) :
   Ctr w loose mean mg mb 141 True [.str ⟨#[c]⟩ t] (fun t => .str (b3 c) t) := by
  unfold Ctr rwp
  k_fill
  dsimp only [CbClaim, CbLists, CbRet]
  intros; rename_i hret
  refine wpAny_call ?_
  k_dflt cell_enter
  k_steps
  · rename b3f _ = some _ => hb
    rw [b3_some hb] at hret
    cb_end hret
  · rename b3f _ = none => hb
    rw [b3_none hb] at hret
    cb_end hret
theorem call_b3 {w : World} {loose : List Str} {mean : ExcName → Option Value} {mg mb : Str → Option Value} {c : Nat} {t : Tok} : CtrU w loose mean mg mb 141 [.str ⟨#[c]⟩ t] (fun t => .str (b3 c) t) := ctr_use (c_b3 w loose mean mg mb c t)
theorem at141 {M : Model} {A : Around} {E Q : Value → Shared → Prop} {s : Shared} {vs} (h : wpAny M A (call (.ref 141) vs) Q E s) : wpAny M A (call (.ref 141) vs) Q E s := h
end Mine
namespace Mine
open PySem PySem.W PySem.Calls PyProof.Rows PySem.Spec

noncomputable def lone : List Int := [173, 847, 6150, 6155, 6156, 6157, 8203, 8204, 8205, 8288, 65279]
noncomputable def unseen (n : Int) : Nat := (if n.fmod 27 < 11 then lone.getD (n.fmod 27).toNat 0 else 65013 + n.fmod 27).toNat
theorem lone_b (k : Nat) : 0 ≤ lone.getD k 0 ∧ lone.getD k 0 ≤ 1114111 := by
  by_cases h : k < 11
  · have : ∀ k : Fin 11, 0 ≤ lone.getD k.val 0 ∧ lone.getD k.val 0 ≤ 1114111 := by decide
    exact this ⟨k, h⟩
  · have : lone.getD k 0 = 0 := by
      rw [List.getD_eq_getElem?_getD, List.getElem?_eq_none (by show 11 ≤ k; omega)]; rfl
    rw [this]; decide
theorem unseen_lo {n : Int} (h : n.fmod 27 < 11) : (lone.getD (n.fmod 27).toNat 0).toNat = unseen n := by unfold unseen; rw [if_pos h]
theorem unseen_hi {n : Int} (h : ¬ n.fmod 27 < 11) : (65013 + n.fmod 27).toNat = unseen n := by unfold unseen; rw [if_neg h]
theorem fmod_27 (n : Int) : 0 ≤ n.fmod 27 ∧ n.fmod 27 < 27 := ⟨Int.fmod_nonneg_of_pos n (by decide), Int.fmod_lt_of_pos n (by decide)⟩
section
variable {w : World} {A : Around} {E : Value → Shared → Prop} {s : Shared}
theorem chr_lo {n : Int} {t : Tok} {Q : Value → Shared → Prop} (hn : n.fmod 27 < 11) (h : Q (.str ⟨#[unseen n]⟩ s.toks) { s with toks := s.toks + 1 }) : wpAny (model rwp w) A (call (.builtin "chr") [.int (lone.getD (n.fmod 27).toNat 0) t]) Q E s :=
  chr_of_range (lone_b _).1 (lone_b _).2 (by rw [unseen_lo hn]; exact h)
theorem chr_hi {n : Int} {t : Tok} {Q : Value → Shared → Prop} (hn : ¬ n.fmod 27 < 11) (h : Q (.str ⟨#[unseen n]⟩ s.toks) { s with toks := s.toks + 1 }) : wpAny (model rwp w) A (call (.builtin "chr") [.int (65013 + n.fmod 27) t]) Q E s :=
  chr_of_range (by have := fmod_27 n; omega) (by have := fmod_27 n; omega) (by rw [unseen_hi hn]; exact h)
end
local macro_rules | `(tactic| walk_at "call builtin:chr") => `(tactic| k_dflt first | apply chr_lo; assumption | apply chr_hi; assumption)
set_option maxHeartbeats 8000000 in
theorem c_unseen (w : World) (loose : List Str) (mean : ExcName → Option Value) (mg mb : Str → Option Value) (n : Int) (t : Tok) :
   Ctr w loose mean mg mb 155 True [.int n t] (fun t => .str ⟨#[unseen n]⟩ t) := by
  unfold Ctr rwp
  k_fill
  dsimp only [CbClaim, CbLists, CbRet]
  intros; rename_i hret
  refine wpAny_call ?_
  k_dflt cell_enter
  k_steps
  all_goals cb_end hret
theorem call_unseen {w : World} {loose : List Str} {mean : ExcName → Option Value} {mg mb : Str → Option Value} {n : Int} {t : Tok} : CtrU w loose mean mg mb 155 [.int n t] (fun t => .str ⟨#[unseen n]⟩ t) := ctr_use (c_unseen w loose mean mg mb n t)
theorem at155 {M : Model} {A : Around} {E Q : Value → Shared → Prop} {s : Shared} {vs} (h : wpAny M A (call (.ref 155) vs) Q E s) : wpAny M A (call (.ref 155) vs) Q E s := h
end Mine
namespace Mine
open PySem PySem.Sre PySem.Sre.M

theorem runFor_done {m : M} (h : m.outcome.isSome = true) : ∀ n, runFor n m = m
  | 0 => rfl
  | n + 1 => by show (if m.outcome.isSome = true then m else _) = m; rw [if_pos h]
theorem step_done {m : M} (h : m.outcome.isSome = true) : m.step = m := by unfold M.step; rw [if_pos h]
theorem runFor_succ (n : Nat) (m : M) : runFor (n + 1) m = runFor n m.step := by
  show (if m.outcome.isSome = true then m else runFor n m.step) = _
  by_cases h : m.outcome.isSome = true
  · rw [if_pos h, step_done h, runFor_done h]
  · rw [if_neg h]
theorem runFor_add : ∀ (a b : Nat) (m : M), runFor (a + b) m = runFor b (runFor a m)
  | 0, b, m => by rw [Nat.zero_add]; rfl
  | a + 1, b, m => by rw [Nat.succ_add, runFor_succ, runFor_succ, runFor_add a b]
/-- a run of k steps at most ends at m' -/
noncomputable def Ends (k : Nat) (m m' : M) : Prop := runFor k m = m' ∧ m'.outcome.isSome = true
theorem Ends.more {k n : Nat} {m m' : M} (h : Ends k m m') (hn : k ≤ n) : Ends n m m' := by
  obtain ⟨d, rfl⟩ := Nat.le.dest hn
  exact ⟨by rw [runFor_add, h.1, runFor_done h.2], h.2⟩
theorem Ends.step {k : Nat} {m m' : M} (h : Ends k m.step m') : Ends (k + 1) m m' := ⟨by rw [runFor_succ]; exact h.1, h.2⟩
theorem Ends.here {m : M} (h : m.outcome.isSome = true) : Ends 0 m m := ⟨rfl, h⟩

section
variable {Md : Model} {A : Around} {E : Value → Shared → Prop} {s : Shared} {Q : M → Shared → Prop}
open PySem.Builtin.Re
theorem wp_drive : ∀ (turns j : Nat) (m m' : M), j < turns → Ends (4 * (j + 1)) m m' → Q m' s → wpAny Md A (reDrive turns m) Q E s
  | 0, j, m, m', h, _, _ => absurd h (Nat.not_lt_zero _)
  | turns + 1, j, m, m', h, he, hq => by
    show wpAny Md A (if (runFor 4 m).outcome.isSome = true then pure (runFor 4 m) else (rule "sre.turn" >>= fun _ => reDrive turns (runFor 4 m))) Q E s
    by_cases ho : (runFor 4 m).outcome.isSome = true
    · rw [if_pos ho]
      have : runFor 4 m = m' := by rw [← he.1, show 4 * (j + 1) = 4 + 4 * j by omega, runFor_add, runFor_done ho]
      rw [this]
      exact wpAny_pure hq
    · rw [if_neg ho]
      refine wpAny_bind (wpAny_rule ?_)
      cases j with
      | zero => exact absurd (by rw [show runFor 4 m = m' from he.1]; exact he.2) ho
      | succ j =>
        refine wp_drive turns j _ m' (by omega) ⟨?_, he.2⟩ hq
        rw [← he.1, show 4 * (j + 1 + 1) = 4 + 4 * (j + 1) by omega, runFor_add]
theorem wp_rules {m : M} {Q : PUnit → Shared → Prop} (h : Q ⟨⟩ s) : ∀ l : List Nat, wpAny Md A (forIn l PUnit.unit fun i _ => do
    if m.seen.has i then rule (Sre.names.getD i "")
    pure (ForInStep.yield PUnit.unit)) Q E s := fun l =>
  wpAny_forIn_list _ (fun _ _ s' => s' = s) Q (fun x l b s' hs => by
    subst hs
    dsimp only
    split
    · exact wpAny_bind (wpAny_rule (wpAny_pure rfl))
    · exact wpAny_pure rfl) (fun b s' hs => by subst hs; exact h) l _ rfl
theorem wp_toEnd {m m' : M} {k : Nat} {Q : Option M → Shared → Prop} (he : Ends k m m') (hk : k ≤ 2 ^ 64)
    (h1 : m'.outcome = some .matched → Q (some m') s) (h2 : m'.outcome = some .failed → Q none s) (h3 : ∀ why, m'.outcome ≠ some (.stuck why)) : wpAny Md A (reRunToEnd m) Q E s := by
  unfold reRunToEnd
  refine wpAny_bind (wp_drive (2 ^ 64) (2 ^ 62) m m' (by decide) (he.more (by omega)) ?_)
  refine wpAny_bind (wp_rules ?_ _)
  have := he.2
  cases ho : m'.outcome with
  | none => rw [ho] at this; cases this
  | some o =>
    cases o with
    | matched => exact wpAny_pure (h1 ho)
    | failed => exact wpAny_pure (h2 ho)
    | stuck why => exact absurd ho (h3 why)
end
end Mine
set_option linter.unusedSimpArgs false
namespace Mine
open PySem PySem.Sre PySem.Sre.M

/-- a machine without marks and loops -/
noncomputable abbrev mst (C x : Array Nat) (lim start last : Nat) (must : Bool) (pc pos handed : Nat) (out : Bool) (frames : List Sre.Frame) (weight : Nat) (answer : Option Bool) (seen : Seen) (outcome : Option Sre.Outcome) : M :=
  { code := C, text := x, lim := lim, start := start, lastStart := last, mustAdvance := must, pc := pc, pos := pos, handed := handed, outermost := out, marks := #[], frames := frames, weight := weight, answer := answer, seen := seen, outcome := outcome }
noncomputable abbrev fr0 (wt : Wait) (pc pos : Nat) (out : Bool) : Sre.Frame := { wait := wt, pc := pc, pos := pos, outermost := out }

section
variable {C x : Array Nat} {lim start last pc pos handed wg : Nat} {must out : Bool} {fs : List Sre.Frame} {seen : Seen}
theorem st_lit_no (hw : C.getD pc 0 = 16) (hpc : pc < C.size) (hp : ¬ pos < lim ∨ x.getD pos 0 ≠ C.getD (pc + 1) 0) :
    ∃ seen', M.step (mst C x lim start last must pc pos handed out fs wg none seen none) = mst C x lim start last must pc pos handed out fs wg (some false) seen' none := by
  have ho : ops[(16 : Nat)]? = some Op.LITERAL := rfl
  by_cases h : pos < lim
  · have hc : (x.getD pos 0 == C.getD (pc + 1) 0) = false := by
      rcases hp with hp | hp
      · exact absurd h hp
      · simpa using hp
    refine ⟨seen.add 16, ?_⟩
    simp only [M.step, Option.isSome_none, Bool.false_eq_true, if_false, hpc, if_true, M.exec, M.word, Nat.add_zero, hw, ho, show ¬ pos ≥ lim by omega, accepts, hc, M.say]
  · refine ⟨seen.add 16, ?_⟩
    simp only [M.step, Option.isSome_none, Bool.false_eq_true, if_false, hpc, if_true, M.exec, M.word, Nat.add_zero, hw, ho, show pos ≥ lim by omega, M.say]
theorem st_lit (hw : C.getD pc 0 = 16) (hpc : pc < C.size) (hp : pos < lim) (hc : x.getD pos 0 = C.getD (pc + 1) 0) :
    ∃ seen', M.step (mst C x lim start last must pc pos handed out fs wg none seen none) = mst C x lim start last must (pc + 2) (pos + 1) handed out fs wg none seen' none := by
  have ho : ops[(16 : Nat)]? = some Op.LITERAL := rfl
  have hc : (x.getD pos 0 == C.getD (pc + 1) 0) = true := by simpa using hc
  refine ⟨seen.add 16, ?_⟩
  simp only [M.step, Option.isSome_none, Bool.false_eq_true, if_false, hpc, if_true, M.exec, M.word, Nat.add_zero, hw, ho, show ¬ pos ≥ lim by omega, accepts, hc, itemWidth]
theorem st_jump (hw : C.getD pc 0 = 15) (hpc : pc < C.size) :
    ∃ seen', M.step (mst C x lim start last must pc pos handed out fs wg none seen none) = mst C x lim start last must (pc + 1 + C.getD (pc + 1) 0) pos handed out fs wg none seen' none := by
  have ho : ops[(15 : Nat)]? = some Op.JUMP := rfl
  refine ⟨seen.add 15, ?_⟩
  simp only [M.step, Option.isSome_none, Bool.false_eq_true, if_false, hpc, if_true, M.exec, M.word, Nat.add_zero, hw, ho]
theorem st_succ (hw : C.getD pc 0 = 1) (hpc : pc < C.size) (hm : out = false ∨ pos ≠ start) :
    ∃ seen', M.step (mst C x lim start last must pc pos handed out fs wg none seen none) = mst C x lim start last must pc pos pos out fs wg (some true) seen' none := by
  have ho : ops[(1 : Nat)]? = some Op.SUCCESS := rfl
  have hc : (out && (false && (pos != lim) || must && pos == start)) = false := by
    rcases hm with rfl | hm
    · rfl
    · rw [Bool.false_and, Bool.false_or, show (pos == start) = false by simpa using hm, Bool.and_false, Bool.and_false]
  refine ⟨seen.add 1, ?_⟩
  simp only [M.step, Option.isSome_none, Bool.false_eq_true, if_false, hpc, if_true, M.exec, M.word, Nat.add_zero, hw, ho, hc, M.say]
/-- AT_BEGINNING_LINE -/
theorem st_at (hw : C.getD pc 0 = 6) (hw1 : C.getD (pc + 1) 0 = 1) (hpc : pc < C.size) (b : Bool) (hb : (pos == 0 || x.getD (pos - 1) 0 == 10) = b) :
    ∃ seen', M.step (mst C x lim start last must pc pos handed out fs wg none seen none) = (if b = true then mst C x lim start last must (pc + 2) pos handed out fs wg none seen' none else mst C x lim start last must pc pos handed out fs wg (some false) seen' none) := by
  have ho : ops[(6 : Nat)]? = some Op.AT := rfl
  refine ⟨(seen.add 6).add (43 + 1), ?_⟩
  simp only [M.step, Option.isSome_none, Bool.false_eq_true, if_false, hpc, if_true, M.exec, M.word, Nat.add_zero, hw, hw1, ho, M.isAt, hb, M.say]
theorem st_yes0 : M.step (mst C x lim start last must pc pos handed out [] wg (some true) seen none) = mst C x lim start last must pc pos handed out [] wg (some true) seen (some .matched) := rfl
theorem st_no0 : M.step (mst C x lim start last must pc pos handed out [] wg (some false) seen none) = mst C x lim start last must pc pos handed out [] wg (some false) seen (some .failed) := rfl
/-- a frame that hands a yes on -/
theorem st_yes {wt : Wait} {p q : Nat} {o : Bool} {k : Sre.Kept} (h : wt = .nextStart ∨ wt = .nextBranch) :
    M.step (mst C x lim start last must pc pos handed out ({ wait := wt, pc := p, pos := q, outermost := o, kept := k } :: fs) wg (some true) seen none) = mst C x lim start last must p q handed o fs (wg - (1 + k.marks.size)) (some true) seen none := by
  rcases h with rfl | rfl <;> rfl
end

/-- the code of the line ends: \r\n, \n, or \r without \n behind it -/
noncomputable def C2 : Array Nat := #[14, 9, 4, 1, 2, 16, 10, 16, 13, 0, 7, 7, 16, 13, 16, 10, 15, 18, 5, 16, 10, 15, 13, 11, 16, 13, 5, 5, 0, 16, 10, 1, 15, 2, 0, 1]
/-- the code of a dot at a line's begin -/
noncomputable def C1 : Array Nat := #[14, 4, 0, 1, 1, 6, 1, 16, 46, 1]

theorem c2_set (c : Nat) (seen : Seen) : ∃ seen', inSet C2 c C2.size 5 true seen = .ok (c == 10 || c == 13, seen') := by
  by_cases h10 : c = 10
  · subst h10; exact ⟨_, rfl⟩
  · by_cases h13 : c = 13
    · subst h13; exact ⟨_, rfl⟩
    · have e1 : (c == 10) = false := by simpa using h10
      have e2 : (c == 13) = false := by simpa using h13
      refine ⟨((seen.add 16).add 16).add 0, ?_⟩
      rw [e1, e2]
      show (if (c == 10) = true then _ else if (c == 13) = true then _ else _) = _
      rw [e1, e2]
      rfl
end Mine
set_option linter.unusedSimpArgs false
namespace Mine
open PySem PySem.Sre PySem.Sre.M

section
variable {C x : Array Nat} {lim start last pc pos handed wg : Nat} {must out : Bool} {fs : List Sre.Frame} {seen : Seen}
theorem att_eq {a : Option Bool} {oc : Option Sre.Outcome} {f : Sre.Frame} {t fm : Nat} {o : Bool} (hf : f.kept.marks.size = 0) (hw : wg < 1000) :
    M.attempt (mst C x lim start last must pc pos handed out fs wg a seen oc) f t fm o = mst C x lim start last must t fm fm o (f :: fs) (wg + 1) a seen oc := by
  unfold M.attempt
  rw [hf]
  rw [if_neg (by show ¬ wg + 1 + 0 > 16777216; omega)]
theorem st_branch (hw : wg < 1000) :
    ∃ seen', M.step (mst C2 x lim start last must 10 pos handed out fs wg none seen none) = mst C2 x lim start last must 12 pos pos out (fr0 .nextBranch 11 pos out :: fs) (wg + 1) none seen' none := by
  refine ⟨seen.add 7, ?_⟩
  show M.attempt (mst C2 x lim start last must 10 pos handed out fs wg none (seen.add 7) none) (fr0 .nextBranch 11 pos out) 12 pos out = _
  rw [att_eq rfl hw]
theorem st_next1 {p q : Nat} {o : Bool} (hw : wg < 1000) :
    M.step (mst C2 x lim start last must pc pos handed out (fr0 .nextBranch 11 q o :: fs) wg (some false) seen none) = mst C2 x lim start last must 19 q q o (fr0 .nextBranch 18 q o :: fs) (wg - 1 + 1) none seen none := by
  show M.attempt (mst C2 x lim start last must 11 q handed o fs (wg - 1) none seen none) (fr0 .nextBranch 18 q o) 19 q o = _
  rw [att_eq rfl (by omega)]
theorem st_next2 {p q : Nat} {o : Bool} (hw : wg < 1000) :
    M.step (mst C2 x lim start last must pc pos handed out (fr0 .nextBranch 18 q o :: fs) wg (some false) seen none) = mst C2 x lim start last must 24 q q o (fr0 .nextBranch 23 q o :: fs) (wg - 1 + 1) none seen none := by
  show M.attempt (mst C2 x lim start last must 18 q handed o fs (wg - 1) none seen none) (fr0 .nextBranch 23 q o) 24 q o = _
  rw [att_eq rfl (by omega)]
theorem st_assert (hw : wg < 1000) :
    ∃ seen', M.step (mst C2 x lim start last must 26 pos handed out fs wg none seen none) = mst C2 x lim start last must 29 pos pos false (fr0 .lookNot 26 pos out :: fs) (wg + 1) none seen' none := by
  refine ⟨seen.add 5, ?_⟩
  show M.attempt (mst C2 x lim start last must 26 pos handed out fs wg none (seen.add 5) none) (fr0 .lookNot 26 pos out) 29 pos false = _
  rw [att_eq rfl hw]
theorem st_lookNo {q : Nat} {o : Bool} :
    M.step (mst C2 x lim start last must pc pos handed out (fr0 .lookNot 26 q o :: fs) wg (some false) seen none) = mst C2 x lim start last must 32 q handed o fs (wg - 1) none seen none := rfl
end

/-- the end of a line end that begins at b -/
noncomputable def e2 (x : Array Nat) (b : Nat) : Nat := if x.getD b 0 = 13 ∧ b + 1 < x.size ∧ x.getD (b + 1) 0 = 10 then b + 2 else b + 1

theorem ends_of {k : Nat} {m m₁ m' : M} (e : m.step = m₁) (h : Ends k m₁ m') : Ends (k + 1) m m' := Ends.step (e ▸ h)

theorem run2_at {x : Array Nat} {start last b handed wg : Nat} {must out : Bool} {seen : Seen} (hb : b < x.size) (hc : x.getD b 0 = 10 ∨ x.getD b 0 = 13) (hw : wg < 900) {o : Bool} {q p : Nat} (hs : start = b) :
    ∃ m' : M, Ends 25 (mst C2 x x.size start last must 10 b handed out [fr0 .nextStart p q o] wg none seen none) m' ∧ m'.outcome = some .matched ∧ m'.start = b ∧ m'.handed = e2 x b := by
  obtain ⟨s1, h1⟩ := st_branch (x := x) (lim := x.size) (start := start) (last := last) (must := must) (pos := b) (handed := handed) (out := out) (fs := [fr0 .nextStart p q o]) (wg := wg) (seen := seen) (by omega)
  by_cases h13 : x.getD b 0 = 13
  · obtain ⟨s2, h2⟩ := st_lit (C := C2) (x := x) (lim := x.size) (start := start) (last := last) (must := must) (pc := 12) (pos := b) (handed := b) (out := out) (fs := [fr0 .nextBranch 11 b out, fr0 .nextStart p q o]) (wg := wg + 1) (seen := s1) rfl (by decide) hb h13
    by_cases h10 : b + 1 < x.size ∧ x.getD (b + 1) 0 = 10
    · obtain ⟨s3, h3⟩ := st_lit (C := C2) (x := x) (lim := x.size) (start := start) (last := last) (must := must) (pc := 14) (pos := b + 1) (handed := b) (out := out) (fs := [fr0 .nextBranch 11 b out, fr0 .nextStart p q o]) (wg := wg + 1) (seen := s2) rfl (by decide) h10.1 h10.2
      obtain ⟨s4, h4⟩ := st_jump (C := C2) (x := x) (lim := x.size) (start := start) (last := last) (must := must) (pc := 16) (pos := b + 2) (handed := b) (out := out) (fs := [fr0 .nextBranch 11 b out, fr0 .nextStart p q o]) (wg := wg + 1) (seen := s3) rfl (by decide)
      obtain ⟨s5, h5⟩ := st_succ (C := C2) (x := x) (lim := x.size) (start := start) (last := last) (must := must) (pc := 35) (pos := b + 2) (handed := b) (out := out) (fs := [fr0 .nextBranch 11 b out, fr0 .nextStart p q o]) (wg := wg + 1) (seen := s4) rfl (by decide) (.inr (by omega))
      refine ⟨_, Ends.more (ends_of h1 (ends_of h2 (ends_of h3 (ends_of h4 (ends_of h5 (ends_of (st_yes (.inr rfl)) (ends_of (st_yes (.inl rfl)) (ends_of st_yes0 (Ends.here rfl))))))))) (by decide), rfl, hs, ?_⟩
      show b + 2 = e2 x b
      unfold e2; rw [if_pos ⟨h13, h10⟩]
    · obtain ⟨s3, h3⟩ := st_lit_no (C := C2) (x := x) (lim := x.size) (start := start) (last := last) (must := must) (pc := 14) (pos := b + 1) (handed := b) (out := out) (fs := [fr0 .nextBranch 11 b out, fr0 .nextStart p q o]) (wg := wg + 1) (seen := s2) rfl (by decide) (Decidable.not_and_iff_or_not.mp h10)
      obtain ⟨s4, h4⟩ := st_lit_no (C := C2) (x := x) (lim := x.size) (start := start) (last := last) (must := must) (pc := 19) (pos := b) (handed := b) (out := out) (fs := [fr0 .nextBranch 18 b out, fr0 .nextStart p q o]) (wg := wg + 1 - 1 + 1) (seen := s3) rfl (by decide) (.inr (by rw [h13]; decide))
      obtain ⟨s5, h5⟩ := st_lit (C := C2) (x := x) (lim := x.size) (start := start) (last := last) (must := must) (pc := 24) (pos := b) (handed := b) (out := out) (fs := [fr0 .nextBranch 23 b out, fr0 .nextStart p q o]) (wg := wg + 1 - 1 + 1 - 1 + 1) (seen := s4) rfl (by decide) hb h13
      obtain ⟨s6, h6⟩ := st_assert (x := x) (lim := x.size) (start := start) (last := last) (must := must) (pos := b + 1) (handed := b) (out := out) (fs := [fr0 .nextBranch 23 b out, fr0 .nextStart p q o]) (wg := wg + 1 - 1 + 1 - 1 + 1) (seen := s5) (by omega)
      obtain ⟨s7, h7⟩ := st_lit_no (C := C2) (x := x) (lim := x.size) (start := start) (last := last) (must := must) (pc := 29) (pos := b + 1) (handed := b + 1) (out := false) (fs := [fr0 .lookNot 26 (b + 1) out, fr0 .nextBranch 23 b out, fr0 .nextStart p q o]) (wg := wg + 1 - 1 + 1 - 1 + 1 + 1) (seen := s6) rfl (by decide) (Decidable.not_and_iff_or_not.mp h10)
      obtain ⟨s8, h8⟩ := st_jump (C := C2) (x := x) (lim := x.size) (start := start) (last := last) (must := must) (pc := 32) (pos := b + 1) (handed := b + 1) (out := out) (fs := [fr0 .nextBranch 23 b out, fr0 .nextStart p q o]) (wg := wg + 1 - 1 + 1 - 1 + 1 + 1 - 1) (seen := s7) rfl (by decide)
      obtain ⟨s9, h9⟩ := st_succ (C := C2) (x := x) (lim := x.size) (start := start) (last := last) (must := must) (pc := 35) (pos := b + 1) (handed := b + 1) (out := out) (fs := [fr0 .nextBranch 23 b out, fr0 .nextStart p q o]) (wg := wg + 1 - 1 + 1 - 1 + 1 + 1 - 1) (seen := s8) rfl (by decide) (.inr (by omega))
      refine ⟨_, Ends.more (ends_of h1 (ends_of h2 (ends_of h3 (ends_of (st_next1 (p := 0) (by omega)) (ends_of h4 (ends_of (st_next2 (p := 0) (by omega)) (ends_of h5 (ends_of h6 (ends_of h7 (ends_of st_lookNo (ends_of h8 (ends_of h9 (ends_of (st_yes (.inr rfl)) (ends_of (st_yes (.inl rfl)) (ends_of st_yes0 (Ends.here rfl)))))))))))))))) (by decide), rfl, hs, ?_⟩
      show b + 1 = e2 x b
      unfold e2; rw [if_neg (fun h => h10 h.2)]
  · have h10 : x.getD b 0 = 10 := hc.resolve_right h13
    obtain ⟨s2, h2⟩ := st_lit_no (C := C2) (x := x) (lim := x.size) (start := start) (last := last) (must := must) (pc := 12) (pos := b) (handed := b) (out := out) (fs := [fr0 .nextBranch 11 b out, fr0 .nextStart p q o]) (wg := wg + 1) (seen := s1) rfl (by decide) (.inr h13)
    obtain ⟨s4, h4⟩ := st_lit (C := C2) (x := x) (lim := x.size) (start := start) (last := last) (must := must) (pc := 19) (pos := b) (handed := b) (out := out) (fs := [fr0 .nextBranch 18 b out, fr0 .nextStart p q o]) (wg := wg + 1 - 1 + 1) (seen := s2) rfl (by decide) hb h10
    obtain ⟨s5, h5⟩ := st_jump (C := C2) (x := x) (lim := x.size) (start := start) (last := last) (must := must) (pc := 21) (pos := b + 1) (handed := b) (out := out) (fs := [fr0 .nextBranch 18 b out, fr0 .nextStart p q o]) (wg := wg + 1 - 1 + 1) (seen := s4) rfl (by decide)
    obtain ⟨s6, h6⟩ := st_succ (C := C2) (x := x) (lim := x.size) (start := start) (last := last) (must := must) (pc := 35) (pos := b + 1) (handed := b) (out := out) (fs := [fr0 .nextBranch 18 b out, fr0 .nextStart p q o]) (wg := wg + 1 - 1 + 1) (seen := s5) rfl (by decide) (.inr (by omega))
    refine ⟨_, Ends.more (ends_of h1 (ends_of h2 (ends_of (st_next1 (p := 0) (by omega)) (ends_of h4 (ends_of h5 (ends_of h6 (ends_of (st_yes (.inr rfl)) (ends_of (st_yes (.inl rfl)) (ends_of st_yes0 (Ends.here rfl)))))))))) (by decide), rfl, hs, ?_⟩
    show b + 1 = e2 x b
    unfold e2; rw [if_neg (fun h => h13 h.1)]
end Mine
set_option linter.unusedSimpArgs false
namespace Mine
open PySem PySem.Sre PySem.Sre.M

/-- the first line end at s or behind -/
noncomputable def find2 (x : Array Nat) : (fuel s : Nat) → Option Nat
  | 0, _ => none
  | fuel + 1, s => if s ≥ x.size then none else if x.getD s 0 == 10 || x.getD s 0 == 13 then some s else find2 x fuel (s + 1)
theorem find2_some {x : Array Nat} : ∀ {fuel s b : Nat}, find2 x fuel s = some b → s ≤ b ∧ b < x.size ∧ (x.getD b 0 = 10 ∨ x.getD b 0 = 13) ∧ ∀ j, s ≤ j → j < b → x.getD j 0 ≠ 10 ∧ x.getD j 0 ≠ 13
  | 0, s, b, h => by cases h
  | fuel + 1, s, b, h => by
    unfold find2 at h
    by_cases h1 : s ≥ x.size
    · rw [if_pos h1] at h; cases h
    · rw [if_neg h1] at h
      by_cases h2 : (x.getD s 0 == 10 || x.getD s 0 == 13) = true
      · rw [if_pos h2] at h
        cases h
        exact ⟨Nat.le_refl _, by omega, by simpa using h2, fun j a c => by omega⟩
      · rw [if_neg h2] at h
        obtain ⟨a, b', c, d⟩ := find2_some h
        refine ⟨by omega, b', c, fun j hj hb => ?_⟩
        by_cases e : j = s
        · subst e; simpa using h2
        · exact d j (by omega) hb
theorem find2_none {x : Array Nat} : ∀ {fuel s : Nat}, x.size < fuel + s → find2 x fuel s = none → ∀ j, s ≤ j → j < x.size → x.getD j 0 ≠ 10 ∧ x.getD j 0 ≠ 13
  | 0, s, hf, _ => fun j a b => by omega
  | fuel + 1, s, hf, h => by
    unfold find2 at h
    by_cases h1 : s ≥ x.size
    · intro j a b; omega
    · rw [if_neg h1] at h
      by_cases h2 : (x.getD s 0 == 10 || x.getD s 0 == 13) = true
      · rw [if_pos h2] at h; cases h
      · rw [if_neg h2] at h
        intro j a b
        by_cases e : j = s
        · subst e; simpa using h2
        · exact find2_none (by omega) h j (by omega) b
theorem adm_eq (m : M) (hc : m.code = C2) (hl : m.lim = m.text.size) : ∀ fuel s seen, ∃ seen', admitted m fuel s seen = .ok (find2 m.text fuel s, seen')
  | 0, s, seen => ⟨seen, rfl⟩
  | fuel + 1, s, seen => by
    unfold admitted find2
    by_cases h1 : s ≥ m.text.size
    · refine ⟨seen, ?_⟩
      rw [if_pos h1, if_pos (by rw [hl]; exact h1)]
    · rw [if_neg h1, if_neg (by rw [hl]; exact h1)]
      obtain ⟨s1, e⟩ := c2_set (m.text.getD s 0) seen
      rw [hc, e]
      cases h2 : (m.text.getD s 0 == 10 || m.text.getD s 0 == 13) with
      | true => exact ⟨s1, rfl⟩
      | false =>
        obtain ⟨s2, e2⟩ := adm_eq m hc hl fuel (s + 1) s1
        refine ⟨s2, ?_⟩
        show admitted m fuel (s + 1) s1 = _
        rw [e2]; rfl

theorem run2 (x : Array Nat) (start : Nat) (must : Bool) (h : start ≤ x.size) :
    ∃ m' : M, Ends 25 (forSearch C2 x 0 start x.size must) m' ∧
      ((find2 x (x.size + 1 - start) start = none ∧ m'.outcome = some .failed) ∨
       ∃ b, find2 x (x.size + 1 - start) start = some b ∧ m'.outcome = some .matched ∧ m'.start = b ∧ m'.handed = e2 x b) := by
  let m0 : M := mst C2 x x.size start 0 must 10 start start true [] 0 none (({} : Seen).add 14) none
  have e0 : forSearch C2 x 0 start x.size must = if (start > x.size ∨ x.size - start < 1) then m0.say false else M.attemptFrom { m0 with lastStart := x.size } start true := by
    unfold forSearch
    show (if (start > x.size || decide (x.size - start < 1)) = true then m0.say false else M.attemptFrom { m0 with lastStart := x.size } start true) = _
    simp only [Bool.or_eq_true, decide_eq_true_eq]
  by_cases hl : x.size - start < 1
  · rw [e0, if_pos (.inr hl)]
    refine ⟨_, Ends.more (ends_of st_no0 (Ends.here rfl)) (by decide), .inl ⟨?_, rfl⟩⟩
    have : start = x.size := by omega
    rw [this, show x.size + 1 - x.size = 1 by omega]
    unfold find2
    rw [if_pos (Nat.le_refl _)]
  · rw [e0, if_neg (by omega)]
    obtain ⟨s1, e1⟩ := adm_eq { m0 with lastStart := x.size } rfl rfl (x.size + 1 - start) start (({} : Seen).add 14)
    have e2' : M.attemptFrom { m0 with lastStart := x.size } start true = (match (Except.ok (find2 x (x.size + 1 - start) start, s1) : Except String (Option Nat × Seen)) with
        | .ok (some s, seen) => M.attemptAt { { m0 with lastStart := x.size } with mustAdvance := false, seen := seen } s true
        | .ok (none, seen) => M.say { { m0 with lastStart := x.size } with seen := seen } false
        | .error why => M.stick { m0 with lastStart := x.size } why) := by
      rw [← e1]; rfl
    rw [e2']
    cases hf : find2 x (x.size + 1 - start) start with
    | none => exact ⟨_, Ends.more (ends_of st_no0 (Ends.here rfl)) (by decide), .inl ⟨rfl, rfl⟩⟩
    | some b =>
      obtain ⟨_, hb, hc, _⟩ := find2_some hf
      have e3 : M.attemptAt { { m0 with lastStart := x.size } with mustAdvance := false, seen := s1 } b true = mst C2 x x.size b x.size false 10 b b true [fr0 .nextStart 10 b true] 1 none s1 none := by
        show M.attempt (mst C2 x x.size b x.size false 10 b start true [] 0 none s1 none) (fr0 .nextStart 10 b true) 10 b true = _
        rw [att_eq rfl (by decide)]
      obtain ⟨m', a1, a2, a3, a4⟩ := run2_at (x := x) (start := b) (last := x.size) (b := b) (handed := b) (wg := 1) (must := false) (out := true) (seen := s1) hb hc (by decide) (o := true) (q := b) (p := 10) rfl
      exact ⟨m', by rw [← e3] at a1; exact a1, .inr ⟨b, rfl, a2, a3, a4⟩⟩

/-! the dot at a line's begin -/
noncomputable def isDot (x : Array Nat) (s : Nat) : Bool := (s == 0 || x.getD (s - 1) 0 == 10) && (decide (s < x.size) && x.getD s 0 == 46)
noncomputable def find1 (x : Array Nat) : (fuel s : Nat) → Option Nat
  | 0, _ => none
  | fuel + 1, s => if isDot x s = true then some s else find1 x fuel (s + 1)
theorem run1_at {x : Array Nat} : ∀ (fuel s handed wg : Nat) (out : Bool) (must : Bool) (seen : Seen), s + fuel = x.size + 1 → wg < 900 → (0 < fuel) →
    ∃ m' : M, Ends (4 * fuel + 6) (mst C1 x x.size s x.size must 5 s handed out [fr0 .nextStart 5 s out] wg none seen none) m' ∧
      ((find1 x fuel s = none ∧ m'.outcome = some .failed) ∨ ∃ b, find1 x fuel s = some b ∧ m'.outcome = some .matched ∧ m'.start = b ∧ m'.handed = b + 1)
  | 0, s, handed, wg, out, must, seen, hf, hw, h0 => absurd h0 (Nat.lt_irrefl _)
  | fuel + 1, s, handed, wg, out, must, seen, hf, hw, h0 => by
    have next : ∀ (pc pos hd : Nat) (o : Bool) (sn : Seen), isDot x s = false → ∃ m' : M, Ends (4 * fuel + 7) (mst C1 x x.size s x.size must pc pos hd o [fr0 .nextStart 5 s out] wg (some false) sn none) m' ∧
      ((find1 x (fuel + 1) s = none ∧ m'.outcome = some .failed) ∨ ∃ b, find1 x (fuel + 1) s = some b ∧ m'.outcome = some .matched ∧ m'.start = b ∧ m'.handed = b + 1) := by
      intro pc pos hd o sn hd'
      have ef : find1 x (fuel + 1) s = find1 x fuel (s + 1) := by
        show (if isDot x s = true then some s else find1 x fuel (s + 1)) = _
        rw [if_neg (by rw [hd']; decide)]
      rw [ef]
      by_cases hlt : s < x.size
      · obtain ⟨m', a1, a2⟩ := run1_at (x := x) fuel (s + 1) (s + 1) (wg - 1 + 1) false false sn (by omega) (by omega) (by omega)
        have es : M.step (mst C1 x x.size s x.size must pc pos hd o [fr0 .nextStart 5 s out] wg (some false) sn none) = mst C1 x x.size (s + 1) x.size false 5 (s + 1) (s + 1) false [fr0 .nextStart 5 (s + 1) false] (wg - 1 + 1) none sn none := by
          show (if s < x.size then M.attemptAt (mst C1 x x.size s x.size false 5 s hd out [] (wg - 1) none sn none) (s + 1) false else _) = _
          rw [if_pos hlt]
          show M.attempt (mst C1 x x.size (s + 1) x.size false 5 (s + 1) hd out [] (wg - 1) none sn none) (fr0 .nextStart 5 (s + 1) false) 5 (s + 1) false = _
          rw [att_eq rfl (by omega)]
        exact ⟨m', Ends.more (ends_of es a1) (by omega), a2⟩
      · have es : M.step (mst C1 x x.size s x.size must pc pos hd o [fr0 .nextStart 5 s out] wg (some false) sn none) = mst C1 x x.size s x.size must 5 s hd out [] (wg - 1) (some false) sn none := by
          show (if s < x.size then M.attemptAt (mst C1 x x.size s x.size false 5 s hd out [] (wg - 1) none sn none) (s + 1) false else _) = _
          rw [if_neg hlt]
          rfl
        refine ⟨_, Ends.more (ends_of es (ends_of st_no0 (Ends.here rfl))) (by omega), .inl ⟨?_, rfl⟩⟩
        have : fuel = 0 := by omega
        subst this; rfl
    obtain ⟨s1, h1⟩ := st_at (C := C1) (x := x) (lim := x.size) (start := s) (last := x.size) (must := must) (pc := 5) (pos := s) (handed := handed) (out := out) (fs := [fr0 .nextStart 5 s out]) (wg := wg) (seen := seen) rfl rfl (by decide) _ rfl
    cases hb : (s == 0 || x.getD (s - 1) 0 == 10) with
    | false =>
      rw [hb] at h1
      obtain ⟨m', a1, a2⟩ := next 5 s handed out s1 (by unfold isDot; rw [hb]; rfl)
      exact ⟨m', Ends.more (ends_of h1 a1) (by omega), a2⟩
    | true =>
      rw [hb] at h1
      by_cases hd : s < x.size ∧ x.getD s 0 = 46
      · obtain ⟨s2, h2⟩ := st_lit (C := C1) (x := x) (lim := x.size) (start := s) (last := x.size) (must := must) (pc := 7) (pos := s) (handed := handed) (out := out) (fs := [fr0 .nextStart 5 s out]) (wg := wg) (seen := s1) rfl (by decide) hd.1 hd.2
        obtain ⟨s3, h3⟩ := st_succ (C := C1) (x := x) (lim := x.size) (start := s) (last := x.size) (must := must) (pc := 9) (pos := s + 1) (handed := handed) (out := out) (fs := [fr0 .nextStart 5 s out]) (wg := wg) (seen := s2) rfl (by decide) (.inr (by omega))
        refine ⟨_, Ends.more (ends_of h1 (ends_of h2 (ends_of h3 (ends_of (st_yes (.inl rfl)) (ends_of st_yes0 (Ends.here rfl)))))) (by omega), .inr ⟨s, ?_, rfl, rfl, rfl⟩⟩
        have : isDot x s = true := by
          unfold isDot; rw [hb]; simp [hd.1, hd.2]
        show (if isDot x s = true then some s else find1 x fuel (s + 1)) = _
        rw [if_pos this]
      · obtain ⟨s2, h2⟩ := st_lit_no (C := C1) (x := x) (lim := x.size) (start := s) (last := x.size) (must := must) (pc := 7) (pos := s) (handed := handed) (out := out) (fs := [fr0 .nextStart 5 s out]) (wg := wg) (seen := s1) rfl (by decide) (Decidable.not_and_iff_or_not.mp hd)
        have hnd : isDot x s = false := by
          unfold isDot
          rcases Decidable.not_and_iff_or_not.mp hd with q | q
          · simp [q]
          · rw [beq_eq_false_iff_ne.mpr q, Bool.and_false, Bool.and_false]
        obtain ⟨m', a1, a2⟩ := next 7 s handed out s2 hnd
        exact ⟨m', Ends.more (ends_of h1 (ends_of h2 a1)) (by omega), a2⟩
theorem run1 (x : Array Nat) (start : Nat) (must : Bool) (h : start ≤ x.size) :
    ∃ m' : M, Ends (4 * x.size + 20) (forSearch C1 x 0 start x.size must) m' ∧
      ((find1 x (x.size + 1 - start) start = none ∧ m'.outcome = some .failed) ∨
       ∃ b, find1 x (x.size + 1 - start) start = some b ∧ m'.outcome = some .matched ∧ m'.start = b ∧ m'.handed = b + 1) := by
  let m0 : M := mst C1 x x.size start 0 must 5 start start true [] 0 none (({} : Seen).add 14) none
  have e0 : forSearch C1 x 0 start x.size must = if (start > x.size ∨ x.size - start < 1) then m0.say false else M.attemptFrom { m0 with lastStart := x.size } start true := by
    unfold forSearch
    show (if (start > x.size || decide (x.size - start < 1)) = true then m0.say false else M.attemptFrom { m0 with lastStart := x.size } start true) = _
    simp only [Bool.or_eq_true, decide_eq_true_eq]
  by_cases hl : x.size - start < 1
  · rw [e0, if_pos (.inr hl)]
    refine ⟨_, Ends.more (ends_of st_no0 (Ends.here rfl)) (by omega), .inl ⟨?_, rfl⟩⟩
    have : start = x.size := by omega
    rw [this, show x.size + 1 - x.size = 1 by omega]
    show (if isDot x x.size = true then _ else none) = none
    rw [if_neg (by unfold isDot; simp)]
  · rw [e0, if_neg (by omega)]
    have e3 : M.attemptFrom { m0 with lastStart := x.size } start true = mst C1 x x.size start x.size must 5 start start true [fr0 .nextStart 5 start true] 1 none (({} : Seen).add 14) none := by
      show M.attempt (mst C1 x x.size start x.size must 5 start start true [] 0 none (({} : Seen).add 14) none) (fr0 .nextStart 5 start true) 5 start true = _
      rw [att_eq rfl (by decide)]
    obtain ⟨m', a1, a2⟩ := run1_at (x := x) (x.size + 1 - start) start start 1 true must (({} : Seen).add 14) (by omega) (by decide) (by omega)
    refine ⟨m', Ends.more (by rw [← e3] at a1; exact a1) (by omega), a2⟩
end Mine
namespace Mine
open PySem PyProof.Rows
open PySem.Builtin.Re
theorem plainAttrs_rx : PlainAttrs "re.Pattern" :=
  ⟨⟨"object.__getattribute__", by rw [typeLookup_type, builtinLookup_eq_fast]; kernel_rfl, by decide +kernel⟩, by rw [typeLookup_type, builtinLookup_eq_fast]; kernel_rfl⟩
theorem slot_rx_sub : Slot "re.Pattern" "sub" "re.Pattern.sub" :=
  .of (owner := "re.Pattern") (n := "sub") (by rw [typeLookup_type, builtinLookup_eq_fast]; kernel_rfl) (by decide +kernel) (by decide +kernel) (by decide +kernel)
    (by first | exact .inl (by decide +kernel) | exact .inr (by decide +kernel)) (by rw [isSubtype_type]; kernel_rfl)
theorem type_rx_sub : typeOf (.builtin "re.Pattern.sub") = pure (.type "method_descriptor") := by show builtinType _ = _; rw [builtinType_eq_fast]; kernel_rfl
theorem entry_rx_sub : entryFor table "re.Pattern.sub" = some Builtin.«re.Pattern.sub» := entryFor_of_tree (by kernel_rfl)
theorem entry_rx_loop : entryFor table "re.Pattern.sub.loop" = some Builtin.«re.Pattern.sub.loop» := entryFor_of_tree (by kernel_rfl)
theorem plain_rx_loop : plainId "re.Pattern.sub.loop" = true := by decide +kernel
theorem args_rx_sub (a b c : Value) : argsOk "re.Pattern.sub" ⟨[a, b, c], []⟩ := by
  unfold argsOk; kernel_rfl

noncomputable def cat (l : List Str) : List Nat := (l.map (·.cps.toList)).flatten
theorem str_eq {a b : Str} (h : a.cps.toList = b.cps.toList) : a = b := by
  cases a; cases b; congr; exact Array.toList_inj.mp h
theorem toList_append (a b : Str) : (a ++ b).cps.toList = a.cps.toList ++ b.cps.toList := by
  show (a.cps ++ b.cps).toList = _
  simp
theorem join_cat : ∀ l : List Str, Txt.join ⟨#[]⟩ l = ⟨(cat l).toArray⟩ := by
  intro l
  show Builtin.Str.glued _ _ = _
  rw [StrLaws.glued_eq_join]
  apply str_eq
  induction l with
  | nil => rfl
  | cons a r ih =>
    rw [PyProof.Rows.join_nil_cons, toList_append, ih]
    simp [cat]
theorem len_cat (l : List Str) : (cat l).length = (l.map (·.length)).sum := by
  induction l with
  | nil => rfl
  | cons a r ih => simp only [cat, List.map_cons, List.flatten_cons, List.length_append, List.sum_cons] at ih ⊢; rw [ih]; rfl

section
variable {prog : Program} {w : World} {A : Around} {E : Value → Shared → Prop} {s : Shared}
theorem wp_fields {a : Addr} {o : Obj} {vs : Array Value} {Q : Array Value → Shared → Prop} (ho : s.heap.get? a = some o) (hd : o.data = .fields vs) (h : Q vs s) : wpAny (model prog w) A (fieldsOf (.ref a)) Q E s := by
  unfold fieldsOf
  refine wpAny_bind (wpAny_load ho ?_)
  rw [hd]
  exact wpAny_pure h
theorem wp_items {a : Addr} {o : Obj} {vs : Array Value} {n : Nat} {Q : Option (Array Value) → Shared → Prop} (ho : s.heap.get? a = some o) (hd : o.data = .seq vs n) (h : Q (some vs) s) : wpAny (model prog w) A (seqItems? (.ref a)) Q E s := by
  unfold seqItems?
  refine wpAny_bind (wpAny_load ho ?_)
  rw [hd]
  exact wpAny_pure h
/-- what the interpreter reads of a text's pattern -/
structure Pat (h : Heap) (a b : Addr) (C : Array Nat) : Prop where
  one : ∃ o fs, h.get? a = some o ∧ o.cls = .type "re.Pattern" ∧ o.dict = none ∧ o.data = .fields fs ∧ fs.getD 5 .none = .ref b ∧ reRawNat (fs.getD 6 .none) = 0 ∧ reRawNat (fs.getD 2 .none) = 0
  two : ∃ o its n, h.get? b = some o ∧ o.data = .seq its n ∧ (its.map reRawOf).map (·.toNat) = C
theorem Pat.keep {h h' : Heap} {a b : Addr} {C : Array Nat} (p : Pat h a b C) (ka : ∀ o, h.get? a = some o → h'.get? a = some o) (kb : ∀ o, h.get? b = some o → h'.get? b = some o) : Pat h' a b C := by
  obtain ⟨⟨o, fs, h1, r1⟩, ⟨o2, its, n, h2, r2⟩⟩ := p
  exact ⟨⟨o, fs, ka _ h1, r1⟩, ⟨o2, its, n, kb _ h2, r2⟩⟩
noncomputable abbrev tgt (a : Addr) (C : Array Nat) (x : Str) (t : Tok) : ReTarget := { pattern := .ref a, string := .str x t, code := C, text := x.cps, kind := 0, groups := 0, pos := 0, lim := x.cps.size }
theorem wp_target {a b : Addr} {C : Array Nat} {x : Str} {t : Tok} {Q : ReTarget → Shared → Prop} (p : Pat s.heap a b C) (h : Q (tgt a C x t) s) : wpAny (model prog w) A (reWholeTarget (.ref a) (.str x t)) Q E s := by
  obtain ⟨⟨o, fs, h1, hc, hn, hd, h5, h6, h2⟩, ⟨o2, its, n, h3, h4, hC⟩⟩ := p
  unfold reWholeTarget
  refine wpAny_bind (wp_fields h1 hd ?_)
  show wpAny _ _ (if (reRawNat (fs.getD 6 .none) == 0 && (0 : Nat) == 1) = true then _ else _) _ _ _
  rw [h6]
  show wpAny _ _ (reRawItems (fs.getD 5 .none) >>= _) _ _ _
  rw [h5]
  refine wpAny_bind ?_
  unfold reRawItems
  refine wpAny_bind (wp_items h3 h4 (wpAny_pure (wpAny_pure ?_)))
  show Q { pattern := .ref a, string := .str x t, code := (its.map reRawOf).map (·.toNat), text := x.cps, kind := 0, groups := reRawNat (fs.getD 2 .none), pos := 0, lim := x.cps.size } s
  rw [hC, h2]; exact h
end
end Mine
namespace Mine
open PySem PyProof.Rows PySem.Builtin.Re PySem.Sre

noncomputable def Finds (C : Array Nat) (x : Array Nat) (fnd : Nat → Option (Nat × Nat)) : Prop :=
  ∀ d must, d ≤ x.size → ∃ k m', Ends k (forSearch C x 0 d x.size must) m' ∧ k ≤ 2 ^ 64 ∧ ((fnd d = none ∧ m'.outcome = some .failed) ∨ ∃ b e, fnd d = some (b, e) ∧ m'.outcome = some .matched ∧ m'.start = b ∧ m'.handed = e ∧ d ≤ b ∧ b < e ∧ e ≤ x.size)
noncomputable def subT (fnd : Nat → Option (Nat × Nat)) (x : Array Nat) (rep : List Nat) : Nat → Nat → List Nat
  | 0, _ => []
  | f + 1, d => match fnd d with
    | none => (x.extract d x.size).toList
    | some (b, e) => (x.extract d b).toList ++ rep ++ subT fnd x rep f e

section
variable {prog : Program} {w : World} {A : Around}
theorem wp_next {C : Array Nat} {a : Addr} {x : Str} {t : Tok} {fnd : Nat → Option (Nat × Nat)} {E : Value → Shared → Prop} {s : Shared} {Q : Option M → Shared → Prop} (hf : Finds C x.cps fnd) {d : Nat} {must : Bool} (hd : d ≤ x.cps.size)
    (h0 : fnd d = none → Q none s) (h1 : ∀ m' b e, fnd d = some (b, e) → m'.start = b → m'.handed = e → d ≤ b → b < e → e ≤ x.cps.size → Q (some m') s) :
    wpAny (model prog w) A (reNextFound (tgt a C x t) d must) Q E s := by
  obtain ⟨k, m', he, hk, hr⟩ := hf d must hd
  refine wp_toEnd he hk (fun ho => ?_) (fun ho => ?_) (fun why ho => ?_)
  · rcases hr with ⟨_, h⟩ | ⟨b, e, h2, h3, h4, h5, h6, h7, h8⟩
    · rw [ho] at h; cases h
    · exact h1 m' b e h2 h4 h5 h6 h7 h8
  · rcases hr with ⟨h, _⟩ | ⟨b, e, h2, h3, _⟩
    · exact h0 h
    · rw [ho] at h3; cases h3
  · rcases hr with ⟨_, h⟩ | ⟨b, e, h2, h3, _⟩
    · rw [ho] at h; cases h
    · rw [ho] at h3; cases h3

theorem wp_push {E : Value → Shared → Prop} {s : Shared} {P : Addr} {l : List (Str × Tok)} {c : Nat} {y : Str} {v : Tok} {Q : Unit → Shared → Prop}
    (hP : s.heap.get? P = some { cls := .type "list", dict := none, data := .seq (strValues l).toArray c, slots := #[] }) (hl : l.length ≤ 3000000)
    (h : ∀ h' c', h'.get? P = some { cls := .type "list", dict := none, data := .seq (strValues (l ++ [(y, v)])).toArray c', slots := #[] } → (∀ b o, b ≠ P → s.heap.get? b = some o → h'.get? b = some o) → Q () { s with heap := h' }) :
    wpAny (model prog w) A (updateSeq P fun xs => xs.push (.str y v)) Q E s := by
  have hs : (strValues l).toArray.size = l.length := by simp [strValues]
  have hsl : sizeLine = 16777216 := rfl
  have e1 : (strValues l).toArray.push (.str y v) = (strValues (l ++ [(y, v)])).toArray := by simp [strValues]
  have hex : ∃ c', (s.heap.update P (Obj.mapSeq fun xs => xs.push (.str y v))).get? P = some { cls := .type "list", dict := none, data := .seq (strValues (l ++ [(y, v)])).toArray c', slots := #[] } := by
    refine ⟨if ((strValues l).toArray.push (.str y v)).size == (strValues l).toArray.size then c else c + 1, (Heap.get?_update_self _ hP rfl).trans ?_⟩
    rw [← e1]; rfl
  obtain ⟨c', hc'⟩ := hex
  refine wpAny_updateSeq hP rfl (h _ c' hc' fun b o hb e => ?_) (by rw [hs, hsl]; lia) (by rw [Array.size_push, hs, hsl]; lia)
  exact (Heap.get?_update_other _ _ (Ne.symm hb)).trans e
theorem wp_slice {E : Value → Shared → Prop} {s : Shared} {x : Array Nat} {d b : Nat} {Q : Value → Shared → Prop} (hx : x.size ≤ 1048576) (h : Q (.str ⟨x.extract d b⟩ s.toks) { s with toks := s.toks + 1 }) : wpAny (model prog w) A (reSlice x 0 d b) Q E s := by
  have hsl : sizeLine = 16777216 := rfl
  show wpAny _ _ (mkStr ⟨x.extract d b⟩) _ _ _
  refine wpAny_mkStr h ?_
  show (x.extract d b).size ≤ sizeLine
  rw [Array.size_extract, hsl]; lia
noncomputable def tailT (x : Array Nat) (n : Int) (P : Addr) : Sem Fin := do
  let joiner ← reSlice x 0 0 0
  let text ← if ((← seqItems? (.ref P)).getD #[]).isEmpty then pure joiner
    else call (.builtin (if (0 : Nat) == 0 then "str.join" else "bytes.join")) [joiner, .ref P]
  if false then ret (← holding [text] do newTuple [text, ← mkInt n]) else ret text
theorem wp_tail {s : Shared} {x : Array Nat} {n : Int} {P : Addr} {l : List (Str × Tok)} {c : Nat} {Q : Fin → Shared → Prop} {E : Value → Shared → Prop} (hx : x.size ≤ 1048576)
    (hP : s.heap.get? P = some { cls := .type "list", dict := none, data := .seq (strValues l).toArray c, slots := #[] }) (hc : (cat (l.map (·.1))).length ≤ 3000000)
    (h : ∀ t' tk, Q (.done (.ret (.str ⟨(cat (l.map (·.1))).toArray⟩ t'))) { s with toks := tk }) : wpAny (model prog w) A (tailT x n P) Q E s := by
  unfold tailT
  refine wpAny_bind (wp_slice hx ?_)
  refine wpAny_bind (wp_items hP rfl ?_)
  cases l with
  | nil =>
    show wpAny _ _ (pure _ >>= fun text => ret text) _ _ _
    refine wpAny_bind (wpAny_pure (wpAny_pure ?_))
    have : x.extract 0 0 = ([] : List Nat).toArray := by simp
    rw [this]
    exact h _ _
  | cons p r =>
    show wpAny _ _ (call (.builtin "str.join") [.str ⟨x.extract 0 0⟩ s.toks, .ref P] >>= fun text => ret text) _ _ _
    have : x.extract 0 0 = #[] := by simp
    rw [this]
    refine wpAny_bind (SC.join (l := p :: r) ⟨_, hP, rfl, _, rfl⟩ rfl (joinOk_of ?_) fun t' k => wpAny_pure ?_)
    · rw [← len_cat]; show _ + _ * 0 ≤ _; lia
    · rw [join_cat]; exact h _ _
theorem ext_len (x : Array Nat) (d b : Nat) (hb : b ≤ x.size) : (x.extract d b).size ≤ b - d := by rw [Array.size_extract]; lia

theorem ext_lenL (x : Array Nat) (d b : Nat) : (x.extract d b).toList.length = min b x.size - d := by rw [Array.length_toList, Array.size_extract]

noncomputable abbrev loopArgs (a : Addr) (x : Str) (t : Tok) (rep : Str) (u : Tok) (n d : Nat) (must : Bool) (P : Addr) : Args :=
  ⟨[.ref a, .str x t, .str rep u, rawInt 0, rawInt 0, rawInt (n : Int), rawInt (d : Int), rawInt (d : Int), .bool must, .ref P, .bool false], []⟩

theorem sub_loop {C : Array Nat} {a b₀ P : Addr} {x rep : Str} {t u : Tok} {fnd : Nat → Option (Nat × Nat)} (hf : Finds C x.cps fnd) (hrep : rep.length ≤ 2) (hx : x.cps.size ≤ 1048576) (hPa : P ≠ a) (hPb : P ≠ b₀) {R : Result → Shared → Prop} :
    ∀ (f d n : Nat) (must : Bool) (s : Shared) (l : List (Str × Tok)) (c : Nat), x.cps.size < f + d → d ≤ x.cps.size → Pat s.heap a b₀ C → s.heap.get? P = some { cls := .type "list", dict := none, data := .seq (strValues l).toArray c, slots := #[] } →
      l.length ≤ 2 * d → (cat (l.map (·.1))).length ≤ 2 * d →
      (∀ tk t' h', (∀ b o, b ≠ P → s.heap.get? b = some o → h'.get? b = some o) → R (.ok (.ret (.str ⟨(cat (l.map (·.1)) ++ subT fnd x.cps rep.cps.toList f d).toArray⟩ t'))) { s with heap := h', toks := tk }) →
      codeAny (model prog w) A (.builtin "re.Pattern.sub.loop" (loopArgs a x t rep u n d must P)) R s := by
  intro f
  induction f with
  | zero => intro d n must s l c h1 h2; lia
  | succ f ih =>
    intro d n must s l c hfd hdx hp hP hl hc hR
    refine codeAny_builtin entry_rx_loop ?_
    rw [Around.under_plainId plain_rx_loop _]
    unfold Builtin.«re.Pattern.sub.loop»
    dsimp only [loopArgs, rawInt]
    refine wpAny_bind (wp_target hp ?_)
    show wpAny _ _ (reLiteralCannotBeTurned (Value.str rep u) >>= _) _ _ _
    rw [show reLiteralCannotBeTurned (Value.str rep u) = pure () from rfl]
    refine wpAny_bind (wpAny_pure ?_)
    show wpAny _ _ (reNextFound (tgt a C x t) (d : Int).toNat must >>= _) _ _ _
    rw [Int.toNat_natCast]
    refine wpAny_bind (wp_next hf hdx (fun hn => ?_) (fun m' b e hn hs he hdb hbe hex => ?_))
    · have hsub : subT fnd x.cps rep.cps.toList (f + 1) d = (x.cps.extract d x.cps.size).toList := by
        show (match fnd d with | none => _ | some (b, e) => _) = _
        rw [hn]
      rw [hsub] at hR
      show wpAny _ _ (if d < x.cps.size then reSlice x.cps 0 d x.cps.size >>= fun v => updateSeq P (fun x => x.push v) >>= fun _ => tailT x.cps n P else tailT x.cps n P) _ _ _
      by_cases hlt : d < x.cps.size
      · rw [if_pos hlt]
        refine wpAny_bind (wp_slice hx (wpAny_bind (wp_push (s := { s with toks := s.toks + 1 }) hP (by lia) fun h' c' hP' hk => ?_)))
        have hcat : cat ((l ++ [((⟨x.cps.extract d x.cps.size⟩ : Str), s.toks)]).map (·.1)) = cat (l.map (·.1)) ++ (x.cps.extract d x.cps.size).toList := by simp [cat]
        refine wp_tail hx hP' (by rw [hcat, List.length_append, ext_lenL]; lia) fun t' tk => ?_
        rw [hcat]
        exact hR tk t' h' hk
      · rw [if_neg hlt]
        refine wp_tail hx hP (by lia) fun t' tk => ?_
        have : (x.cps.extract d x.cps.size).toList = [] := by
          apply List.eq_nil_of_length_eq_zero
          rw [ext_lenL]; lia
        rw [this, List.append_nil] at hR
        exact hR tk t' s.heap fun _ _ _ e => e
    · subst hs he
      have hsub : subT fnd x.cps rep.cps.toList (f + 1) d = (x.cps.extract d m'.start).toList ++ rep.cps.toList ++ subT fnd x.cps rep.cps.toList f m'.handed := by
        show (match fnd d with | none => _ | some (b, e) => _) = _
        rw [hn]
      rw [hsub] at hR
      show wpAny _ _ (if d < m'.start then reSlice x.cps 0 d m'.start >>= fun v => updateSeq P (fun x => x.push v) >>= fun _ => updateSeq P (fun x => x.push (.str rep u)) >>= fun _ => again (.builtin "re.Pattern.sub.loop" (loopArgs a x t rep u (n + 1) m'.handed (m'.handed == m'.start) P)) else updateSeq P (fun x => x.push (.str rep u)) >>= fun _ => again (.builtin "re.Pattern.sub.loop" (loopArgs a x t rep u (n + 1) m'.handed (m'.handed == m'.start) P))) _ _ _
      have two : ∀ (s₁ : Shared) (l₁ : List (Str × Tok)) (c₁ : Nat), (∀ b o, b ≠ P → s.heap.get? b = some o → s₁.heap.get? b = some o) → s₁ = { s with heap := s₁.heap, toks := s₁.toks } →
          s₁.heap.get? P = some { cls := .type "list", dict := none, data := .seq (strValues l₁).toArray c₁, slots := #[] } → l₁.length + 1 ≤ 2 * m'.handed → cat (l₁.map (·.1)) = cat (l.map (·.1)) ++ (x.cps.extract d m'.start).toList →
          wpAny (model prog w) A.in1 (updateSeq P (fun x => x.push (.str rep u)) >>= fun _ => again (.builtin "re.Pattern.sub.loop" (loopArgs a x t rep u (n + 1) m'.handed (m'.handed == m'.start) P)))
            (fun fin s' => match fin with | .done f => R (.ok f) s' | .again c' => c'.quiet = true ∧ codeAny (model prog w) A c' R s') (fun e s' => R (.error e) s') s₁ := by
        intro s₁ l₁ c₁ hk₁ es hP₁ hl₁ hc₁
        refine wpAny_bind (wp_push hP₁ (by lia) fun h' c' hP' hk => wpAny_pure ⟨plainId_quiet plain_rx_loop _, ?_⟩)
        have hcat : cat ((l₁ ++ [(rep, u)]).map (·.1)) = cat (l.map (·.1)) ++ ((x.cps.extract d m'.start).toList ++ rep.cps.toList) := by
          rw [← List.append_assoc, ← hc₁]
          simp [cat]
        refine ih m'.handed (n + 1) _ _ _ c' (by lia) hex (hp.keep (fun o q => hk _ _ (Ne.symm hPa) (hk₁ _ _ (Ne.symm hPa) q)) fun o q => hk _ _ (Ne.symm hPb) (hk₁ _ _ (Ne.symm hPb) q)) hP' ?_ ?_ fun tk t' h'' hk'' => ?_
        · rw [List.length_append, List.length_singleton]; exact hl₁
        · rw [hcat, List.length_append, List.length_append, ext_lenL]
          have : rep.cps.toList.length ≤ 2 := hrep
          lia
        · rw [hcat, List.append_assoc]
          have := hR tk t' h'' fun b o q1 q2 => hk'' b o q1 (hk b o q1 (hk₁ b o q1 q2))
          rw [es]
          simpa using this
      by_cases hlt : d < m'.start
      · rw [if_pos hlt]
        refine wpAny_bind (wp_slice hx (wpAny_bind (wp_push (s := { s with toks := s.toks + 1 }) hP (by lia) fun h' c' hP' hk => ?_)))
        exact two _ _ c' hk rfl hP' (by rw [List.length_append, List.length_singleton]; lia) (by simp [cat])
      · rw [if_neg hlt]
        have : (x.cps.extract d m'.start).toList = [] := by
          apply List.eq_nil_of_length_eq_zero
          rw [ext_lenL]; lia
        exact two s l c (fun _ _ _ q => q) rfl hP (by lia) (by rw [this, List.append_nil])
end
end Mine
namespace Mine
open PySem PyProof.Rows PySem.Builtin.Re PySem.Sre
theorem str_no_call : typeLookup (.type "str") "__call__" = pure none := by rw [typeLookup_type, builtinLookup_eq_fast]; kernel_rfl
theorem named_sub (a b : Value) : reNamed "re.Pattern.sub" "sub" ["repl", "string", "count"] 2 [a, b] [] = pure [some a, some b, none] := by kernel_rfl
section
variable {prog : Program} {w : World} {A : Around} {E : Value → Shared → Prop} {s : Shared}
theorem call_sub {C : Array Nat} {a b₀ : Addr} {x rep : Str} {t u : Tok} {fnd : Nat → Option (Nat × Nat)} {Q : Value → Shared → Prop} (hp : Pat s.heap a b₀ C) (hf : Finds C x.cps fnd) (hrep : rep.length ≤ 2) (hno : rep.cps.contains 92 = false) (hx : x.cps.size ≤ 1048576)
    (h : ∀ tk t' h', (∀ b o, s.heap.get? b = some o → h'.get? b = some o) → Q (.str ⟨(subT fnd x.cps rep.cps.toList (x.cps.size + 1) 0).toArray⟩ t') { s with heap := h', toks := tk }) :
    wpAny (model prog w) A (call (.builtin "re.Pattern.sub") [.ref a, .str rep u, .str x t]) Q E s := by
  have hT : s.TypeIs (.ref a) "re.Pattern" := by
    obtain ⟨⟨o, fs, h1, h2, _⟩, _⟩ := hp
    exact ⟨o, h1, h2⟩
  refine wpAny_call (codeAny_call_builtin slot_rx_sub.plain entry_rx_sub (slot_rx_sub.check _ _ _ _ _ _ _ _ hT (args_rx_sub _ _ _) ?_))
  unfold Builtin.«re.Pattern.sub» reSubstitute
  dsimp only
  refine wpAny_bind ?_
  rw [named_sub]
  refine wpAny_pure ?_
  refine wpAny_bind (wpAny_pure ?_)
  refine wpAny_bind (wpAny_specialOf (typeIs_str _ _ _) str_no_call ?_)
  show wpAny _ _ ((pure !rep.cps.contains 92 : Sem Bool) >>= fun literal => if literal = true then
      (reWholeTarget (Value.ref a) (Value.str x t) >>= fun _ => newList [] >>= fun l => again (.builtin "re.Pattern.sub.loop" ⟨[.ref a, .str x t, .str rep u, rawInt 0, rawInt 0, rawInt 0, rawInt 0, rawInt 0, .bool false, l, .bool false], []⟩)) else _) _ _ _
  rw [hno]
  refine wpAny_bind (wpAny_pure ?_)
  show wpAny _ _ (reWholeTarget (Value.ref a) (Value.str x t) >>= fun _ => newList [] >>= fun l => again (.builtin "re.Pattern.sub.loop" ⟨[.ref a, .str x t, .str rep u, rawInt 0, rawInt 0, rawInt 0, rawInt 0, rawInt 0, .bool false, l, .bool false], []⟩)) _ _ _
  refine wpAny_bind (wp_target hp (wpAny_bind (wpAny_newObj_type (wpAny_pure ⟨plainId_quiet plain_rx_loop _, ?_⟩))))
  have up : ∀ b o, s.heap.get? b = some o → (s.heap.push { cls := .type "list", dict := none, data := .seq ([] : List Value).toArray }).get? b = some o := fun b o e => Heap.get?_push_of_some _ e
  have ha : s.heap.objs.size ≠ a := fun e => by
    obtain ⟨⟨o, fs, h1, _⟩, _⟩ := hp
    exact absurd (Heap.lt_size h1) (by rw [e]; exact Nat.lt_irrefl _)
  have hb : s.heap.objs.size ≠ b₀ := fun e => by
    obtain ⟨_, ⟨o, its, n, h1, _⟩⟩ := hp
    exact absurd (Heap.lt_size h1) (by rw [e]; exact Nat.lt_irrefl _)
  refine sub_loop (P := s.heap.objs.size) hf hrep hx ha hb (x.cps.size + 1) 0 0 false _ [] 0 (by omega) (Nat.zero_le _) (hp.keep (up _) (up _)) (Heap.get?_push_size _ rfl) (Nat.le_refl _) (Nat.le_refl _) fun tk t' h' hk => ?_
  refine h tk t' h' fun b o e => hk b o (fun q => ?_) (up b o e)
  exact absurd (Heap.lt_size e) (by rw [q]; exact Nat.lt_irrefl _)
end
end Mine
namespace Mine
open PySem PyProof.Rows PySem.Sre

noncomputable def fnd2 (x : Array Nat) (d : Nat) : Option (Nat × Nat) := (find2 x (x.size + 1 - d) d).map fun b => (b, e2 x b)
noncomputable def fnd1 (x : Array Nat) (d : Nat) : Option (Nat × Nat) := (find1 x (x.size + 1 - d) d).map fun b => (b, b + 1)
theorem e2_le {x : Array Nat} {b : Nat} (h : b < x.size) : b < e2 x b ∧ e2 x b ≤ x.size := by
  unfold e2
  by_cases h' : x.getD b 0 = 13 ∧ b + 1 < x.size ∧ x.getD (b + 1) 0 = 10
  · rw [if_pos h']; exact ⟨by lia, by lia⟩
  · rw [if_neg h']; exact ⟨by lia, by lia⟩
theorem finds2 (x : Array Nat) : Finds C2 x (fnd2 x) := by
  intro d must hd
  obtain ⟨m', he, hr⟩ := run2 x d must hd
  refine ⟨25, m', he, by decide, ?_⟩
  rcases hr with ⟨h1, h2⟩ | ⟨b, h1, h2, h3, h4⟩
  · exact .inl ⟨by unfold fnd2; rw [h1]; rfl, h2⟩
  · obtain ⟨f1, f2, _⟩ := find2_some h1
    exact .inr ⟨b, e2 x b, by unfold fnd2; rw [h1]; rfl, h2, h3, h4, f1, (e2_le f2).1, (e2_le f2).2⟩
theorem find1_some {x : Array Nat} : ∀ {fuel s b : Nat}, find1 x fuel s = some b → s ≤ b ∧ isDot x b = true ∧ ∀ j, s ≤ j → j < b → isDot x j = false
  | 0, s, b, h => by cases h
  | fuel + 1, s, b, h => by
    unfold find1 at h
    by_cases h2 : isDot x s = true
    · rw [if_pos h2] at h
      cases h
      exact ⟨Nat.le_refl _, h2, fun j a c => by lia⟩
    · rw [if_neg h2] at h
      obtain ⟨a, b', d⟩ := find1_some h
      refine ⟨by lia, b', fun j hj hb => ?_⟩
      by_cases e : j = s
      · subst e; simpa using h2
      · exact d j (by lia) hb
theorem find1_none {x : Array Nat} : ∀ {fuel s : Nat}, x.size < fuel + s → find1 x fuel s = none → ∀ j, s ≤ j → j < x.size → isDot x j = false
  | 0, s, hf, _ => fun j a b => by lia
  | fuel + 1, s, hf, h => by
    unfold find1 at h
    by_cases h2 : isDot x s = true
    · rw [if_pos h2] at h; cases h
    · rw [if_neg h2] at h
      intro j a b
      by_cases e : j = s
      · subst e; simpa using h2
      · exact find1_none (by lia) h j (by lia) b
theorem isDot_lt {x : Array Nat} {b : Nat} (h : isDot x b = true) : b < x.size ∧ x.getD b 0 = 46 ∧ (b = 0 ∨ x.getD (b - 1) 0 = 10) := by
  unfold isDot at h
  rw [Bool.and_eq_true, Bool.and_eq_true, Bool.or_eq_true, decide_eq_true_eq, beq_iff_eq, beq_iff_eq, beq_iff_eq] at h
  exact ⟨h.2.1, h.2.2, h.1⟩
theorem finds1 (x : Array Nat) (hx : x.size ≤ 1048576) : Finds C1 x (fnd1 x) := by
  intro d must hd
  obtain ⟨m', he, hr⟩ := run1 x d must hd
  refine ⟨_, m', he, by lia, ?_⟩
  rcases hr with ⟨h1, h2⟩ | ⟨b, h1, h2, h3, h4⟩
  · exact .inl ⟨by unfold fnd1; rw [h1]; rfl, h2⟩
  · obtain ⟨f1, f2, _⟩ := find1_some h1
    have := isDot_lt f2
    exact .inr ⟨b, b + 1, by unfold fnd1; rw [h1]; rfl, h2, h3, h4, f1, by lia, by lia⟩

/-! what they make of a text -/
noncomputable def crlf : List Nat → List Nat
  | [] => []
  | 13 :: 10 :: r => 13 :: 10 :: crlf r
  | c :: r => if c = 13 ∨ c = 10 then 13 :: 10 :: crlf r else c :: crlf r
theorem crlf_13 {r : List Nat} (h : r.head? ≠ some 10) : crlf (13 :: r) = 13 :: 10 :: crlf r := by
  cases r with
  | nil => rfl
  | cons c r =>
    have hc : c ≠ 10 := fun e => h (by rw [e]; rfl)
    conv => lhs; unfold crlf
    split
    · rename_i e; cases e
    · rename_i e; cases e; exact absurd rfl hc
    · rename_i e; cases e; rfl
theorem crlf_10 (r : List Nat) : crlf (10 :: r) = 13 :: 10 :: crlf r := by
  conv => lhs; unfold crlf
  split
  · rename_i e; cases e
  · rename_i e; cases e
  · rename_i e; cases e; rfl
theorem crlf_c {c : Nat} (h1 : c ≠ 13) (h2 : c ≠ 10) (r : List Nat) : crlf (c :: r) = c :: crlf r := by
  conv => lhs; unfold crlf
  split
  · rename_i e; cases e
  · rename_i e; cases e; exact absurd rfl h1
  · rename_i e; cases e; rw [if_neg (by lia)]
theorem crlf_skip : ∀ (a r : List Nat), (∀ c ∈ a, c ≠ 10 ∧ c ≠ 13) → crlf (a ++ r) = a ++ crlf r
  | [], r, _ => rfl
  | c :: a, r, h => by
    have := h c List.mem_cons_self
    rw [List.cons_append, crlf_c this.2 this.1, crlf_skip a r fun d hd => h d (List.mem_cons_of_mem _ hd)]; rfl
theorem ext_list (x : Array Nat) (d b : Nat) : (x.extract d b).toList = (x.toList.drop d).take (b - d) := by simp
theorem getD_list (x : Array Nat) (j : Nat) : x.getD j 0 = x.toList.getD j 0 := by
  simp [Array.getD_eq_getD_getElem?, List.getD_eq_getElem?_getD]
theorem drop_cut (l : List Nat) {d b : Nat} (h : d ≤ b) : l.drop d = (l.drop d).take (b - d) ++ l.drop b := by
  conv => lhs; rw [← List.take_append_drop (b - d) (l.drop d)]
  rw [List.drop_drop, show d + (b - d) = b by lia]
theorem drop_at (l : List Nat) {b : Nat} (h : b < l.length) : l.drop b = l.getD b 0 :: l.drop (b + 1) := by
  rw [List.drop_eq_getElem_cons h]
  simp [h]
theorem mem_cut {l : List Nat} {d b c : Nat} (h : c ∈ (l.drop d).take (b - d)) : ∃ j, d ≤ j ∧ j < b ∧ j < l.length ∧ l.getD j 0 = c := by
  obtain ⟨i, hi, rfl⟩ := List.mem_iff_getElem.mp h
  rw [List.length_take, List.length_drop] at hi
  refine ⟨d + i, by lia, by lia, by lia, ?_⟩
  rw [List.getElem_take, List.getElem_drop]
  simp [show d + i < l.length by lia]
theorem sub2_eq (x : Array Nat) : ∀ f d, x.size < f + d → d ≤ x.size → subT (fnd2 x) x [13, 10] f d = crlf (x.toList.drop d) := by
  intro f
  induction f with
  | zero => intro d h1 h2; lia
  | succ f ih =>
    intro d h1 h2
    show (match fnd2 x d with | none => _ | some (b, e) => _) = _
    unfold fnd2
    cases hf : find2 x (x.size + 1 - d) d with
    | none =>
      have hn := find2_none (by lia) hf
      show (x.extract d x.size).toList = _
      rw [ext_list]
      have e : (x.toList.drop d).take (x.size - d) = x.toList.drop d := List.take_of_length_le (by rw [List.length_drop, Array.length_toList]; lia)
      rw [e]
      have := crlf_skip (x.toList.drop d) [] fun c hc => by
        rw [← e] at hc
        obtain ⟨j, a1, a2, a3, a4⟩ := mem_cut hc
        rw [← a4, ← getD_list]
        exact hn j a1 a2
      rw [List.append_nil] at this
      rw [this]; simp [crlf]
    | some b =>
      obtain ⟨f1, f2, f3, f4⟩ := find2_some hf
      have hl : b < x.toList.length := by rw [Array.length_toList]; exact f2
      show (x.extract d b).toList ++ [13, 10] ++ subT (fnd2 x) x [13, 10] f (e2 x b) = _
      rw [ih (e2 x b) (by have := e2_le f2; lia) (e2_le f2).2, drop_cut x.toList f1, ext_list, crlf_skip, List.append_assoc]
      · congr 1
        rw [drop_at _ hl, ← getD_list]
        unfold e2
        by_cases h13 : x.getD b 0 = 13
        · rw [h13]
          by_cases h10 : b + 1 < x.size ∧ x.getD (b + 1) 0 = 10
          · rw [if_pos ⟨rfl, h10⟩, drop_at x.toList (b := b + 1) (by rw [Array.length_toList]; exact h10.1), ← getD_list, h10.2]
            rfl
          · rw [if_neg (fun h => h10 h.2), crlf_13]
            · rfl
            · intro hh
              apply h10
              have hlt : b + 1 < x.toList.length := by
                apply Decidable.byContradiction
                intro hge
                rw [List.drop_eq_nil_of_le (by lia)] at hh
                cases hh
              rw [drop_at _ hlt, ← getD_list] at hh
              exact ⟨by rw [← Array.length_toList]; exact hlt, Option.some.inj hh⟩
        · have h10 := f3.resolve_right h13
          rw [if_neg (fun h => h13 h.1), h10, crlf_10]
          rfl
      · intro c hc
        obtain ⟨j, a1, a2, a3, a4⟩ := mem_cut hc
        rw [← a4, ← getD_list]
        exact f4 j a1 a2

noncomputable def dots : Bool → List Nat → List Nat
  | _, [] => []
  | b, c :: r => if b = true ∧ c = 46 then 46 :: 46 :: dots false r else c :: dots (c == 10) r
noncomputable def bol (x : Array Nat) (d : Nat) : Bool := d == 0 || x.getD (d - 1) 0 == 10
theorem bol_succ (x : Array Nat) (d : Nat) : bol x (d + 1) = (x.getD d 0 == 10) := by unfold bol; simp
theorem dots_skip (x : Array Nat) : ∀ (k d : Nat), d + k ≤ x.size → (∀ j, d ≤ j → j < d + k → isDot x j = false) → dots (bol x d) (x.toList.drop d) = (x.toList.drop d).take k ++ dots (bol x (d + k)) (x.toList.drop (d + k))
  | 0, d, _, _ => rfl
  | k + 1, d, hk, h => by
    have hl : d < x.toList.length := by rw [Array.length_toList]; lia
    have h0 := h d (Nat.le_refl _) (by lia)
    rw [drop_at _ hl]
    have hn : ¬ (bol x d = true ∧ x.toList.getD d 0 = 46) := by
      rintro ⟨h1, h2⟩
      rw [← getD_list] at h2
      unfold isDot at h0
      unfold bol at h1
      rw [h1, h2] at h0
      simp at h0
      lia
    show (if bol x d = true ∧ x.toList.getD d 0 = 46 then _ else x.toList.getD d 0 :: dots (x.toList.getD d 0 == 10) (x.toList.drop (d + 1))) = _
    rw [if_neg hn, ← getD_list, ← bol_succ, dots_skip x k (d + 1) (by lia) fun j a b => h j (by lia) (by lia), show d + 1 + k = d + (k + 1) by lia]
    rfl
theorem sub1_eq (x : Array Nat) : ∀ f d, x.size < f + d → d ≤ x.size → subT (fnd1 x) x [46, 46] f d = dots (bol x d) (x.toList.drop d) := by
  intro f
  induction f with
  | zero => intro d h1 h2; lia
  | succ f ih =>
    intro d h1 h2
    show (match fnd1 x d with | none => _ | some (b, e) => _) = _
    unfold fnd1
    cases hf : find1 x (x.size + 1 - d) d with
    | none =>
      have hn := find1_none (by lia) hf
      show (x.extract d x.size).toList = _
      have := dots_skip x (x.size - d) d (by lia) fun j a b => hn j a (by lia)
      have e : x.toList.drop x.size = [] := List.drop_eq_nil_of_le (by rw [Array.length_toList]; exact Nat.le_refl _)
      rw [this, ext_list, show d + (x.size - d) = x.size by lia, e]
      simp [dots]
    | some b =>
      obtain ⟨f1, f2, f4⟩ := find1_some hf
      obtain ⟨g1, g2, g3⟩ := isDot_lt f2
      have hl : b < x.toList.length := by rw [Array.length_toList]; exact g1
      show (x.extract d b).toList ++ [46, 46] ++ subT (fnd1 x) x [46, 46] f (b + 1) = _
      have := dots_skip x (b - d) d (by lia) fun j a c => f4 j a (by lia)
      rw [ih (b + 1) (by lia) (by lia), this, ext_list, List.append_assoc, show d + (b - d) = b by lia]
      congr 1
      have hb : bol x b = true := by unfold bol; rcases g3 with h | h <;> simp [h]
      rw [drop_at _ hl, ← getD_list, g2, hb, bol_succ, g2]
      rfl
end Mine
namespace Mine
open PySem PySem.W PySem.Calls PyProof.Rows PySem.Spec

section
variable {w : World} {A : Around} {E : Value → Shared → Prop} {s : Shared} {h₀ : Heap} {L : Addr} {m : Str → Option Value}
theorem pat1 (F : Fr h₀ L s.heap m) (X : (K w.params).In h₀) : Pat s.heap 36 35 C1 :=
  ⟨⟨_, _, F.keep _ _ (X 36 _ rfl), rfl, rfl, rfl, rfl, rfl, rfl⟩, ⟨_, _, _, F.keep _ _ (X 35 _ rfl), rfl, by kernel_rfl⟩⟩
theorem pat2 (F : Fr h₀ L s.heap m) (X : (K w.params).In h₀) : Pat s.heap 41 40 C2 :=
  ⟨⟨_, _, F.keep _ _ (X 41 _ rfl), rfl, rfl, rfl, rfl, rfl, rfl⟩, ⟨_, _, _, F.keep _ _ (X 40 _ rfl), rfl, by kernel_rfl⟩⟩
theorem meth_rx {pl : Sem Bool} {a b : Addr} {C : Array Nat} {Q : Value × List Value → Shared → Prop} (p : Pat s.heap a b C) (h : Q (.builtin "re.Pattern.sub", [.ref a]) s) : wpAny (model rwp w) A (getMethod (.ref a) "sub" pl) Q E s := by
  obtain ⟨⟨o, fs, h1, h2, h3, _⟩, _⟩ := p
  exact getMethod_builtin (T := "re.Pattern") ⟨o, h1, h2⟩ plainAttrs_rx slot_rx_sub type_rx_sub (fun a e => by cases e; exact ⟨o, h1, h3⟩) h
theorem meth_p1 {pl : Sem Bool} {Q : Value × List Value → Shared → Prop} (F : Fr h₀ L s.heap m) (X : (K w.params).In h₀) (h : Q (.builtin "re.Pattern.sub", [.ref 36]) s) : wpAny (model rwp w) A (getMethod (.ref 36) (Str.ofString "sub") pl) Q E s := meth_rx (pat1 F X) h
theorem meth_p2 {pl : Sem Bool} {Q : Value × List Value → Shared → Prop} (F : Fr h₀ L s.heap m) (X : (K w.params).In h₀) (h : Q (.builtin "re.Pattern.sub", [.ref 41]) s) : wpAny (model rwp w) A (getMethod (.ref 41) (Str.ofString "sub") pl) Q E s := meth_rx (pat2 F X) h
theorem sub1 {x : Str} {t u : Tok} {news : List (Addr × Obj)} {Q : Value → Shared → Prop} (F : Fr h₀ L s.heap m) (N : News h₀ L s.heap news) (X : (K w.params).In h₀) (hx : x.cps.size ≤ 1048576)
    (h : ∀ tk t' h', Fr h₀ L h' m → News h₀ L h' news → Q (.str ⟨(dots true x.cps.toList).toArray⟩ t') { s with heap := h', toks := tk }) :
    wpAny (model rwp w) A (call (.builtin "re.Pattern.sub") [.ref 36, .str (Str.ofString "..") u, .str x t]) Q E s := by
  refine call_sub (pat1 F X) (finds1 x.cps hx) (by decide +kernel) (by decide +kernel) hx fun tk t' h' hk => ?_
  have e : subT (fnd1 x.cps) x.cps (Str.ofString "..").cps.toList (x.cps.size + 1) 0 = dots true x.cps.toList := sub1_eq x.cps (x.cps.size + 1) 0 (by lia) (Nat.zero_le _)
  rw [e]
  exact h tk t' h' (F.keeps hk) (N.grown hk)
theorem sub2 {x : Str} {t u : Tok} {news : List (Addr × Obj)} {Q : Value → Shared → Prop} (F : Fr h₀ L s.heap m) (N : News h₀ L s.heap news) (X : (K w.params).In h₀) (hx : x.cps.size ≤ 1048576)
    (h : ∀ tk t' h', Fr h₀ L h' m → News h₀ L h' news → Q (.str ⟨(crlf x.cps.toList).toArray⟩ t') { s with heap := h', toks := tk }) :
    wpAny (model rwp w) A (call (.builtin "re.Pattern.sub") [.ref 41, .str ⟨#[13, 10]⟩ u, .str x t]) Q E s := by
  refine call_sub (pat2 F X) (finds2 x.cps) (by decide +kernel) (by decide +kernel) hx fun tk t' h' hk => ?_
  have e : subT (fnd2 x.cps) x.cps (Str.mk #[13, 10]).cps.toList (x.cps.size + 1) 0 = crlf x.cps.toList := sub2_eq x.cps (x.cps.size + 1) 0 (by lia) (Nat.zero_le _)
  rw [e]
  exact h tk t' h' (F.keeps hk) (N.grown hk)
end
theorem crlf_len : ∀ (n : Nat) (l : List Nat), l.length ≤ n → (crlf l).length ≤ 2 * l.length
  | _, [], _ => Nat.le_refl _
  | 0, _ :: _, h => by cases h
  | n + 1, c :: r, h => by
    have ih := crlf_len n r (Nat.le_of_succ_le_succ h)
    by_cases h13 : c = 13
    · subst h13
      cases r with
      | nil => exact Nat.le_refl _
      | cons d r =>
        by_cases h10 : d = 10
        · subst h10
          have ih := crlf_len n r (by simp only [List.length_cons] at h; lia)
          show (13 :: 10 :: crlf r).length ≤ _
          simp only [List.length_cons] at ih ⊢; lia
        · rw [crlf_13 (by intro e; exact h10 (Option.some.inj e))]
          simp only [List.length_cons] at ih ⊢; lia
    · by_cases h10 : c = 10
      · subst h10
        rw [crlf_10]
        simp only [List.length_cons] at ih ⊢; lia
      · rw [crlf_c h13 h10]
        simp only [List.length_cons] at ih ⊢; lia
theorem crlf_fit {x : Str} (h : x.cps.size ≤ 100000) : (Str.mk (crlf x.cps.toList).toArray).cps.size ≤ 1048576 := by
  have := crlf_len _ x.cps.toList (Nat.le_refl _)
  have e : x.cps.toList.length = x.cps.size := Array.length_toList
  rw [e] at this
  show (crlf x.cps.toList).toArray.size ≤ _
  rw [List.size_toArray]; lia
local macro_rules | `(tactic| walk_at "getMethod ref") => `(tactic| with_reducible apply meth_p1; k_asm; k_asm)
local macro_rules | `(tactic| walk_at "getMethod ref") => `(tactic| with_reducible apply meth_p2; k_asm; k_asm)
local macro_rules | `(tactic| walk_at "call builtin:re.Pattern.sub") => `(tactic| ((k_dflt first | apply sub2; k_asm; k_asm; k_asm; lia | apply sub1; k_asm; k_asm; k_asm; apply crlf_fit; assumption); intros))

set_option maxHeartbeats 8000000 in
theorem c_quote (w : World) (loose : List Str) (mean : ExcName → Option Value) (mg mb : Str → Option Value) (x : Str) (t : Tok) :
   Ctr w loose mean mg mb 48 (x.cps.size ≤ 100000) [.str x t] (fun t => .str ⟨(dots true (crlf x.cps.toList)).toArray⟩ t) := by
  unfold Ctr rwp
  k_fill
  dsimp only [CbClaim, CbLists, CbRet]
  intros; rename_i hret
  refine wpAny_call ?_
  k_dflt cell_enter
  k_steps
  all_goals cb_end hret
end Mine
namespace Mine
open PySem PySem.W PySem.Calls PyProof.Rows PySem.Spec

/-- the same run, further on -/
noncomputable def bareOf (g : Array GenState) : Bool := g.all GenState.bare
noncomputable def Later (s s' : Shared) : Prop := s'.drawn = s.drawn ∧ (s'.os, bareOf s'.gens) = (s.os, bareOf s.gens)
theorem Later.refl (s : Shared) : Later s s := ⟨rfl, rfl⟩
theorem Later.trans {a b c : Shared} (x : Later a b) (y : Later b c) : Later a c := ⟨y.1.trans x.1, y.2.trans x.2⟩
/-- how a turn ends -/
noncomputable def LEnd (h₀ : Heap) (L : Addr) (J : (Str → Option Value) → List (Addr × Obj) → Prop) (own : List (Addr × Obj)) (adr : List Addr) (s₁ : Shared) (Q : Flow → Shared → Prop) (f : Flow) (s₂ : Shared) : Prop :=
  match f with
  | .ret v => Q (.ret v) s₂
  | .brk => Q .next s₂
  | _ => ∃ m' news' nx, Later s₁ s₂ ∧ Fr h₀ L s₂.heap m' ∧ News h₀ L s₂.heap news' ∧ (∀ p ∈ nx, p ∈ news') ∧ (∀ p ∈ own, p ∈ news') ∧ nx.map (·.1) = adr ∧ J m' nx
section
variable {prog : Program} {w : World} {A : Around} {E : Value → Shared → Prop} {s : Shared} {env : Env} {h₀ : Heap}
theorem loop_gen {target : PySem.Expr} {body orelse : List Stmt} {I : Addr} {fp wr : List Addr} {n : Nat} {P : Nat → Value → Prop} {St : Nat → Heap → Prop} {m : Str → Option Value} {news : List (Addr × Obj)} {Q : Flow → Shared → Prop}
    (W : Walks prog w A I fp wr n P St) (hLf : env.locals ∉ fp) (hwr : ∀ b ∈ wr, h₀.get? b = none) (hnw : ∀ p ∈ news, p.1 ∉ wr) (hst : St 0 s.heap) (F : Fr h₀ env.locals s.heap m) (N : News h₀ env.locals s.heap news)
    (J : Nat → (Str → Option Value) → List (Addr × Obj) → Prop) (h0 : J 0 m news)
    (go : ∀ i v (s' : Shared) (Q' E' : _), P i v → St (i + 1) s'.heap → Q' () s' → wpAny (model prog w) A (letOwnedTupleGo target (.ref I) v) Q' E' s')
    (step : ∀ i v m₁ news₁ (s₁ : Shared) own, Later s s₁ → i < n → P i v → J i m₁ news₁ → news₁.map (·.1) = news.map (·.1) → OwnOff own (news.map (·.1)) → Fr h₀ env.locals s₁.heap m₁ → News h₀ env.locals s₁.heap (news₁ ++ own) →
      wpAny (model prog w) A (assign target env v) (fun _ s₂ => wpAny (model prog w) A (execs body env) (LEnd h₀ env.locals (J (i + 1)) own (news.map (·.1)) s₁ Q) (fun _ _ => False) s₂) (fun _ _ => False) s₁)
    (done : ∀ m₁ news₁ (s₁ : Shared), Later s s₁ → J n m₁ news₁ → Fr h₀ env.locals s₁.heap m₁ → News h₀ env.locals s₁.heap news₁ → wpAny (model prog w) A (execs orelse env) (fun f s₃ => Q f s₃) (fun _ _ => False) s₁)
    (hfpn : ∀ p ∈ news, p.1 ∉ fp) :
    codeAny (model prog w) A (.forLoop target (.ref I) body orelse env) (fun r s' => match r with | .ok f => Q f s' | .error e => cameBackBy (model prog w) A env E e s') s := by
  have hLw : env.locals ∉ wr := fun h => hLf (W.sub _ h)
  have old : ∀ b o, h₀.get? b = some o → b ∉ wr := fun b o e hb => by rw [hwr b hb] at e; cases e
  refine codeAny_forLoop_any
    (fun k s' => ∃ i m' news', Later s s' ∧ St i s'.heap ∧ Fr h₀ env.locals s'.heap m' ∧ News h₀ env.locals s'.heap news' ∧ news'.map (·.1) = news.map (·.1) ∧ J i m' news' ∧ i ≤ n ∧ k = n + 1 - i) ?_ (n + 1)
    ⟨0, m, news, .refl s, hst, F, N, rfl, h0, Nat.zero_le _, rfl⟩
  rintro k s' ⟨i, m', news', hls, hst', F', N', had, hJ, hi, rfl⟩
  have hnw' : ∀ p ∈ news', p.1 ∉ wr := fun p hp => by
    have : p.1 ∈ news.map (·.1) := had ▸ List.mem_map.mpr ⟨p, hp, rfl⟩
    obtain ⟨q, hq, e⟩ := List.mem_map.mp this
    rw [← e]; exact hnw q hq
  have next : ∀ h₁ : Heap, (∀ b o, b ∉ wr → s'.heap.get? b = some o → h₁.get? b = some o) → Fr h₀ env.locals h₁ m' ∧ News h₀ env.locals h₁ news' := fun h₁ hk₁ =>
    ⟨⟨F'.ns.at' fun o e => hk₁ _ o hLw e, fun b o e => hk₁ b o (old b o e) (F'.keep b o e), F'.above⟩, fun p hp => ⟨hk₁ _ _ (hnw' p hp) (N' p hp).1, (N' p hp).2⟩⟩
  by_cases hlt : i < n
  · refine W.item i _ _ _ hlt hst' fun v h₁ tk₁ hP hst₁ hk₁ => ?_
    obtain ⟨F₁, N₁⟩ := next h₁ hk₁
    refine go i v _ _ _ hP hst₁ ?_
    have hl₁ : Later s { s' with heap := h₁, toks := tk₁ } := hls
    have Nown : News h₀ env.locals h₁ (ownOf h₀ fp h₁) := news_ownOf hLf
    have hoff : OwnOff (ownOf h₀ fp h₁) (news.map (·.1)) := by
      intro p hp b hb e
      obtain ⟨q, hq, rfl⟩ := List.mem_map.mp hb
      exact hfpn q hq (e ▸ ownOf_sub p hp)
    refine wpAny_mono (step i v m' news' _ (ownOf h₀ fp h₁) hl₁ hlt hP hJ had hoff F₁ (N₁.append Nown)) (fun _ s₂ h₂ => wpAny_mono h₂ (fun f s₃ h₃ => ?_) fun _ _ e => e.elim) fun _ _ e => e.elim
    have fin : (∃ m₂ news₂ nx, Later { s' with heap := h₁, toks := tk₁ } s₃ ∧ Fr h₀ env.locals s₃.heap m₂ ∧ News h₀ env.locals s₃.heap news₂ ∧ (∀ p ∈ nx, p ∈ news₂) ∧ (∀ p ∈ ownOf h₀ fp h₁, p ∈ news₂) ∧ nx.map (·.1) = news.map (·.1) ∧ J (i + 1) m₂ nx) →
        ∃ k', k' < n + 1 - i ∧ ∃ i m' news', Later s s₃ ∧ St i s₃.heap ∧ Fr h₀ env.locals s₃.heap m' ∧ News h₀ env.locals s₃.heap news' ∧ news'.map (·.1) = news.map (·.1) ∧ J i m' news' ∧ i ≤ n ∧ k' = n + 1 - i := by
      rintro ⟨m₂, news₂, nx, hl₃, F₃, N₃, hn, ho, ha, hj⟩
      refine ⟨n + 1 - (i + 1), by omega, i + 1, m₂, nx, hl₁.trans hl₃, ?_, F₃, fun p hp => N₃ p (hn p hp), ha, hj, hlt, rfl⟩
      refine W.frame _ _ _ hst₁ fun b hb o e => ?_
      cases hn₀ : h₀.get? b with
      | some o₀ =>
        have : o₀ = o := by have := F₁.keep b o₀ hn₀; rw [e] at this; exact (Option.some.inj this).symm
        exact this ▸ F₃.keep b o₀ hn₀
      | none => exact (N₃ _ (ho _ (mem_ownOf hb hn₀ e))).1
    cases f with
    | ret v => exact h₃
    | brk => exact h₃
    | cont => exact fin h₃
    | next => exact fin h₃
  · have hin : i = n := by omega
    subst hin
    refine W.done _ _ _ hst' fun h₁ tk₁ hk₁ => ?_
    obtain ⟨F₁, N₁⟩ := next h₁ hk₁
    exact wpAny_mono (done m' news' _ hls hJ F₁ N₁) (fun _ _ h => h) fun _ _ e => e.elim
theorem go_list {target : PySem.Expr} {I l : Addr} {i : Nat} {v : Value} {Q' : Unit → Shared → Prop} {E' : Value → Shared → Prop} (hit : s.heap.IsListIter I l i) (hQ : Q' () s) :
    wpAny (model prog w) A (letOwnedTupleGo target (.ref I) v) Q' E' s := by
  obtain ⟨o, ho, hc, hd⟩ := hit
  have core : wpAny (model prog w) A (do
      let (.ref r, .ref a) := ((.ref I, v) : Value × Value) | return
      let o ← load r
      match o.cls, o.data with
      | .type n, .fields vs =>
        if ["enumerate", "zip", "dict_itemiterator", "dict_reverseitemiterator", "odict_iterator", "itertools.zip_longest", "itertools.pairwise"].contains n && vs[0]? == some (rawInt a) then
          rule "for.unpacks-the-owned-tuple"
          updateField r 0 .none
      | _, _ => pure ()) Q' E' s := by
    cases v with
    | ref T =>
      refine wpAny_bind (wpAny_load ho ?_)
      rw [hc, hd]
      exact wpAny_pure hQ
    | _ => exact wpAny_pure hQ
  cases target with
  | Tuple elts x1 pos => exact core
  | List elts pos => exact core
  | _ => exact wpAny_pure hQ

theorem for_list {target : PySem.Expr} {body orelse : List Stmt} {D : Addr} {items : Array Value} {m : Str → Option Value} {news all : List (Addr × Obj)} {Q : Flow → Shared → Prop} (hh : A.handled = none) (hl : LCg.SrcAt h₀ D items all)
    (F : Fr h₀ env.locals s.heap m) (N : News h₀ env.locals s.heap all) (sub : ∀ p ∈ news, p ∈ all) (off : ∀ p ∈ news, p.1 ≠ D)
    (J : Nat → (Str → Option Value) → List (Addr × Obj) → Prop) (h0 : J 0 m news)
    (step : ∀ i v m₁ news₁ (s₁ : Shared) own, Later s s₁ → items[i]? = some v → J i m₁ news₁ → news₁.map (·.1) = news.map (·.1) → OwnOff own (news.map (·.1)) → Fr h₀ env.locals s₁.heap m₁ → News h₀ env.locals s₁.heap (news₁ ++ own) →
      wpAny (model prog w) A (assign target env v) (fun _ s₂ => wpAny (model prog w) A (execs body env) (LEnd h₀ env.locals (J (i + 1)) own (news.map (·.1)) s₁ Q) (fun _ _ => False) s₂) (fun _ _ => False) s₁)
    (done : ∀ m₁ news₁ (s₁ : Shared), Later s s₁ → J items.size m₁ news₁ → Fr h₀ env.locals s₁.heap m₁ → News h₀ env.locals s₁.heap news₁ → wpAny (model prog w) A (execs orelse env) (fun f s₃ => Q f s₃) (fun _ _ => False) s₁) :
    wpAny (model prog w) A (pyIter (.ref D)) (fun it s₂ => codeAny (model prog w) A (.forLoop target it body orelse env) (fun r s' => match r with | .ok f => Q f s' | .error e => cameBackBy (model prog w) A env E e s') s₂) E s := by
  have hls : s.heap.IsList D items := hl.elim (fun x => x.at fun o e => F.keep D o e) fun ⟨o, hm, c, n, d⟩ => ⟨o, (N _ hm).1, c, n, d⟩
  have hDL : env.locals ≠ D := hl.elim (fun ⟨o, e, _⟩ q => absurd (Heap.lt_size e) (by rw [← q]; exact Nat.not_lt.mpr F.above)) fun ⟨o, hm, _⟩ q => (N _ hm).2.1 q.symm
  have hne : D ≠ s.heap.objs.size := by obtain ⟨o, e, _⟩ := id hls; exact Nat.ne_of_lt (Heap.lt_size e)
  refine wpAny_pyIter_list hls ?_
  have W := Walks.list (prog := prog) (w := w) hh s.heap.objs.size D hne items
  have up : ∀ b o, s.heap.get? b = some o → (s.heap.push { cls := .type "list_iterator", data := .fields #[.ref D, .int 0 0] }).get? b = some o := fun b o e => Heap.get?_push_of_some _ e
  have N' : News h₀ env.locals s.heap news := fun p hp => N p (sub p hp)
  have offI : ∀ p ∈ news, p.1 ≠ s.heap.objs.size := fun p hp => Nat.ne_of_lt (Heap.lt_size (N' p hp).1)
  refine loop_gen W (news := news) (m := m) ?_ ?_ (fun p hp hI => offI p hp (List.mem_singleton.mp hI)) ⟨⟨_, Heap.get?_push_size _ rfl, rfl, rfl⟩, hls.at (up D)⟩ (F.keeps up) (N'.grown up) J h0
    (fun i v s' Q' E' _ st hq => go_list st.1 hq) (fun i v m₁ news₁ s₁ own hL hlt hP hJ ha ho F₁ N₁ => step i v m₁ news₁ s₁ own ?_ hP hJ ha ho F₁ N₁) (fun m₁ news₁ s₁ hL hJ F₁ N₁ => done m₁ news₁ s₁ ?_ hJ F₁ N₁) ?_
  · intro hm
    rcases List.mem_cons.mp hm with e | hm
    · exact absurd F.ns.lt (by rw [e]; exact Nat.lt_irrefl _)
    · exact hDL (List.mem_singleton.mp hm)
  · intro b hb
    rw [List.mem_singleton.mp hb]
    exact next_is_new F
  · exact hL
  · exact hL
  · intro p hp hm
    rcases List.mem_cons.mp hm with e | hm
    · exact offI p hp e
    · exact off p hp (List.mem_singleton.mp hm)

theorem for_range {x : Str} {px : Pos} {body orelse : List Stmt} {r : Addr} {a b : Int} {t u v : Tok} {n : Nat} {m : Str → Option Value} {news : List (Addr × Obj)} {Q : Flow → Shared → Prop} (hh : A.handled = none)
    (hr : IsRange s.heap r a b 1 t u v) (hsm : Builtin.Range.small a b 1 = true) (hn : Builtin.Range.rangeSize a b 1 = ((n : Nat) : Int)) (F : Fr h₀ env.locals s.heap m) (N : News h₀ env.locals s.heap news)
    (J : Nat → (Str → Option Value) → List (Addr × Obj) → Prop) (h0 : J 0 m news)
    (step : ∀ (i : Nat) t m₁ news₁ (s₁ : Shared) own, Later s s₁ → i < n → J i m₁ news₁ → news₁.map (·.1) = news.map (·.1) → OwnOff own (news.map (·.1)) → Fr h₀ env.locals s₁.heap m₁ → News h₀ env.locals s₁.heap (news₁ ++ own) →
      wpAny (model prog w) A (assign (.Name x px) env (.int (a + (i : Int)) t)) (fun _ s₂ => wpAny (model prog w) A (execs body env) (LEnd h₀ env.locals (J (i + 1)) own (news.map (·.1)) s₁ Q) (fun _ _ => False) s₂) (fun _ _ => False) s₁)
    (done : ∀ m₁ news₁ (s₁ : Shared), Later s s₁ → J n m₁ news₁ → Fr h₀ env.locals s₁.heap m₁ → News h₀ env.locals s₁.heap news₁ → wpAny (model prog w) A (execs orelse env) (fun f s₃ => Q f s₃) (fun _ _ => False) s₁) :
    wpAny (model prog w) A (pyIter (.ref r)) (fun it s₂ => codeAny (model prog w) A (.forLoop (.Name x px) it body orelse env) (fun r s' => match r with | .ok f => Q f s' | .error e => cameBackBy (model prog w) A env E e s') s₂) E s := by
  refine wpAny_pyIter_range hr hsm ?_
  have offI : ∀ p ∈ news, p.1 ≠ s.heap.objs.size := fun p hp => Nat.ne_of_lt (Heap.lt_size (N p hp).1)
  refine loop_gen (LCg.range_walks (prog := prog) (w := w) (I := s.heap.objs.size) hh a n) (news := news) (m := m) ?_ ?_ (fun p hp hI => offI p hp (List.mem_singleton.mp hI)) (by show IsRangeIter _ _ _ _ _; rw [hn]; simpa using Heap.get?_push_size _ rfl)
    (F.keeps fun _ _ e => Heap.get?_push_of_some _ e) (N.grown fun _ _ e => Heap.get?_push_of_some _ e) J h0
    (fun i v s' Q' E' _ st hq => wpAny_pure hq) (fun i v m₁ news₁ s₁ own hL hlt hP hJ ha ho F₁ N₁ => ?_) (fun m₁ news₁ s₁ hL hJ F₁ N₁ => done m₁ news₁ s₁ ?_ hJ F₁ N₁) (fun p hp hI => offI p hp (List.mem_singleton.mp hI))
  · intro hm
    exact absurd F.ns.lt (by rw [List.mem_singleton.mp hm]; exact Nat.lt_irrefl _)
  · intro b hb
    rw [List.mem_singleton.mp hb]
    exact next_is_new F
  · obtain ⟨t', rfl⟩ := hP
    exact step i t' m₁ news₁ s₁ own hL hlt hJ ha ho F₁ N₁
  · exact hL
end
end Mine
namespace Mine
open PySem PySem.W PySem.Calls PyProof.Rows PySem.Spec

/-! bits -/
theorem and_pow (n i : Nat) : n &&& 2 ^ i = if n.testBit i = true then 2 ^ i else 0 := by
  apply Nat.eq_of_testBit_eq
  intro j
  rw [Nat.testBit_and, Nat.testBit_two_pow]
  by_cases h : i = j
  · subst h
    by_cases hb : n.testBit i = true
    · rw [if_pos hb, hb, Nat.testBit_two_pow]; rfl
    · rw [if_neg hb]; simp at hb; simp [hb]
  · rw [show decide (i = j) = false by simpa using h, Bool.and_false]
    split
    · rw [Nat.testBit_two_pow]; simp [h]
    · simp
theorem low_div (n i : Nat) : (n - n % 2 ^ i) / 2 ^ i = n / 2 ^ i := by
  have h := Nat.div_add_mod n (2 ^ i)
  have hp : 0 < 2 ^ i := Nat.two_pow_pos i
  have : n - n % 2 ^ i = 2 ^ i * (n / 2 ^ i) := by lia
  rw [this, Nat.mul_div_cancel_left _ hp]
theorem low_bit (n i : Nat) : (n - n % 2 ^ i).testBit i = n.testBit i := by
  rw [Nat.testBit_eq_decide_div_mod_eq, Nat.testBit_eq_decide_div_mod_eq, low_div]
theorem low_next (n i : Nat) : n - n % 2 ^ (i + 1) = if n.testBit i = true then n - n % 2 ^ i - 2 ^ i else n - n % 2 ^ i := by
  have h := @Nat.mod_pow_succ n 2 i
  rw [Nat.testBit_eq_decide_div_mod_eq, h]
  have : n / 2 ^ i % 2 < 2 := Nat.mod_lt _ (by decide)
  by_cases hb : n / 2 ^ i % 2 = 1
  · rw [hb]; simp; lia
  · have : n / 2 ^ i % 2 = 0 := by lia
    rw [this]; simp
theorem low_ge {n i : Nat} (h : n.testBit i = true) : 2 ^ i ≤ n - n % 2 ^ i := by
  rw [Nat.testBit_eq_decide_div_mod_eq, decide_eq_true_eq] at h
  have h1 := Nat.div_add_mod n (2 ^ i)
  have h2 : 1 ≤ n / 2 ^ i := by
    cases hq : n / 2 ^ i with
    | zero => rw [hq] at h; simp at h
    | succ k => lia
  have : 2 ^ i * 1 ≤ 2 ^ i * (n / 2 ^ i) := Nat.mul_le_mul_left _ h2
  lia
theorem bitAnd_nat (a b : Nat) : Builtin.bitAnd (a : Int) (b : Int) = ((a &&& b : Nat) : Int) := by
  unfold Builtin.bitAnd
  simp
theorem flag_and (n i : Nat) : Builtin.bitAnd ((n - n % 2 ^ i : Nat) : Int) ((2 ^ i : Nat) : Int) = if n.testBit i = true then ((2 ^ i : Nat) : Int) else 0 := by
  rw [bitAnd_nat, and_pow, low_bit]
  split <;> rfl
theorem flag_xor {n i : Nat} (h : n.testBit i = true) : Builtin.bitXor ((n - n % 2 ^ i : Nat) : Int) ((2 ^ i : Nat) : Int) = ((n - n % 2 ^ (i + 1) : Nat) : Int) := by
  rw [PyProof.Rows.bitXor_and, flag_and, if_pos h, low_next, if_pos h]
  have := low_ge h
  lia
/-- the name of a flag's bit -/
noncomputable def cfn (n : Int) : Option Value := match (o49_0 dumP).data with
  | .dict es _ => findBy Value.isInt es n
  | _ => none
noncomputable def flagName (i : Nat) : Str := match cfn ((2 ^ i : Nat) : Int) with
  | some (.str x _) => x
  | _ => baseText "0x" 16 ((2 ^ i : Nat) : Int)
noncomputable def flagNames (N : Nat) (i : Nat) : List Str := ((List.range i).filter fun k => N.testBit k).map flagName
theorem flagNames_yes {N i : Nat} (h : N.testBit i = true) : flagNames N (i + 1) = flagNames N i ++ [flagName i] := by
  unfold flagNames
  rw [List.range_succ, List.filter_append, List.map_append]
  simp [h]
theorem flagNames_no {N i : Nat} (h : N.testBit i = false) : flagNames N (i + 1) = flagNames N i := by
  unfold flagNames
  rw [List.range_succ, List.filter_append, List.map_append]
  simp [h]
theorem hex_fit : ∀ i : Fin 33, (baseText "0x" 16 ((2 ^ i.val : Nat) : Int)).length ≤ 100 := by decide +kernel
theorem cfn_map {prog : Program} {w : World} {P : Params} {h : Heap} (hx : h.get? 49 = some (o49_0 P)) : h.MapOf (intKind prog w) 49 cfn := by
  refine ⟨_, _, 10, hx, ⟨rfl, rfl, rfl⟩, rfl, ?_, fun _ => rfl⟩
  intro e he
  have hall : (match (o49_0 dumP).data with | .dict es _ => es | _ => #[]).toList.all (fun e => match e.key with | .int n _ => e.hash == hashInt n | _ => false) = true := by kernel_rfl
  have h := List.all_eq_true.mp hall e (Array.mem_toList_iff.mpr he)
  obtain ⟨hh, key, val⟩ := e
  cases key with
  | int n tk => exact ⟨n, intKind_is prog w n tk, by show hh = hashInt n; simpa using h⟩
  | _ => cases h
theorem cfn_str : ∀ i : Fin 33, (match cfn ((2 ^ i.val : Nat) : Int) with | none => true | some (.str x _) => decide (x.length ≤ 100) | _ => false) = true := by decide +kernel
section
variable {w : World} {A : Around} {E : Value → Shared → Prop} {s : Shared} {h₀ : Heap} {L : Addr} {m : Str → Option Value}
theorem meth_cfn {pl : Sem Bool} {Q : Value × List Value → Shared → Prop} (F : Fr h₀ L s.heap m) (X : (K w.params).In h₀) (h : Q (.builtin "dict.get", [.ref 49]) s) : wpAny (model rwp w) A (getMethod (.ref 49) "get" pl) Q E s :=
  have hm : s.heap.MapOf (intKind rwp w) 49 cfn := cfn_map (F.keep _ _ (X 49 _ rfl))
  getMethod_builtin hm.typeIs PySem.F.plainAttrs_dict PySem.F.slot_dict_get PySem.F.type_dict_get hm.noDict h
theorem get_cfn {i : Nat} {t t' : Tok} {Q : Value → Shared → Prop} (F : Fr h₀ L s.heap m) (X : (K w.params).In h₀) (hi : i < 32) (h1 : ∀ u, Q (.str (flagName i) u) { s with toks := s.toks + 1 }) :
    wpAny (model rwp w) A (call (.builtin "dict.get") [.ref 49, .int ((2 ^ i : Nat) : Int) t, .str (baseText "0x" 16 ((2 ^ i : Nat) : Int)) t']) Q E s := by
  have hm : s.heap.MapOf (intKind rwp w) 49 cfn := cfn_map (F.keep _ _ (X 49 _ rfl))
  refine call_meetsIn PySem.F.slot_dict_get hm.typeIs PySem.F.entry_dict_get (PySem.F.args_dict_get_3 _ _ _) (meets_dict_get_default (intKind rwp w) 49 (intKind_is _ _ _ _) rfl _) ⟨_, hm, ?_⟩
  have hs := cfn_str ⟨i, by lia⟩
  unfold flagName at h1
  dsimp only at hs h1
  cases e : cfn ((2 ^ i : Nat) : Int) with
  | none => rw [e] at h1; exact h1 t'
  | some v =>
    rw [e] at hs h1
    cases v with
    | str x u => exact h1 u
    | _ => cases hs
theorem hex_flag {i : Nat} {t : Tok} {Q : Value → Shared → Prop} (hi : i < 32) (h : Q (.str (baseText "0x" 16 ((2 ^ i : Nat) : Int)) s.toks) { s with toks := s.toks + 1 }) : wpAny (model rwp w) A (call (.builtin "hex") [.int ((2 ^ i : Nat) : Int) t]) Q E s :=
  P.hex_of_int h (Nat.le_trans (hex_fit ⟨i, by lia⟩) (by decide))
theorem shl_flag {i : Nat} {t u : Tok} {Q : Value → Shared → Prop} (hi : i < 32) (h : Q (.int ((2 ^ i : Nat) : Int) s.toks) { s with toks := s.toks + 1 }) : wpAny (model rwp w) A (binaryOp .LShift (.int 1 t) (.int (0 + (i : Int)) u)) Q E s := by
  refine lshift_int_small (by lia) (by lia) (by decide) ?_
  rw [Int.zero_add, Int.toNat_natCast, Int.one_mul]
  have : (2 : Int) ^ i = ((2 ^ i : Nat) : Int) := by simp
  rw [this]; exact h
theorem and_flag {n i : Nat} {t u : Tok} {Q : Value → Shared → Prop} (h1 : n.testBit i = true → ((2 ^ i : Nat) : Int) ≠ 0 → Q (.int ((2 ^ i : Nat) : Int) s.toks) { s with toks := s.toks + 1 }) (h2 : n.testBit i = false → Q (.int 0 s.toks) { s with toks := s.toks + 1 }) :
    wpAny (model rwp w) A (binaryOp .BitAnd (.int ((n - n % 2 ^ i : Nat) : Int) t) (.int ((2 ^ i : Nat) : Int) u)) Q E s := by
  refine and_int ?_
  rw [flag_and]
  cases hb : n.testBit i with
  | true => rw [if_pos rfl]; exact h1 hb (by have := Nat.two_pow_pos i; lia)
  | false => rw [if_neg (by decide)]; exact h2 hb
theorem xor_flag {n i : Nat} {t u : Tok} {Q : Value → Shared → Prop} (hb : n.testBit i = true) (h : Q (.int ((n - n % 2 ^ (i + 1) : Nat) : Int) s.toks) { s with toks := s.toks + 1 }) :
    wpAny (model rwp w) A (inplaceOp .BitXor (.int ((n - n % 2 ^ i : Nat) : Int) t) (.int ((2 ^ i : Nat) : Int) u)) Q E s := by
  refine ixor_int ?_
  rw [flag_xor hb]; exact h
theorem app_ne {rest own : List (Addr × Obj)} {a : Addr} (h1 : ∀ p ∈ rest, p.1 < a) (ho : OwnOff own (a :: rest.map (·.1))) : ∀ p ∈ rest ++ own, p.1 ≠ a := by
  intro p hp
  rcases List.mem_append.mp hp with h | h
  · exact Nat.ne_of_lt (h1 p h)
  · exact ho p h a (List.mem_cons_self)
theorem app_str {a : Addr} {l : List (Str × Tok)} {c : Nat} {x : Str} {t : Tok} {rest : List (Addr × Obj)} {Q : Value → Shared → Prop} (F : Fr h₀ L s.heap m) (N : News h₀ L s.heap ((a, listOf (strValues l).toArray c) :: rest)) (hne : ∀ p ∈ rest, p.1 ≠ a) (hl : l.length ≤ 1000)
    (h : ∀ h', Fr h₀ L h' m → News h₀ L h' ((a, listOf (strValues (l ++ [(x, t)])).toArray (c + 1)) :: rest) → Q .none { s with heap := h' }) : wpAny (model rwp w) A (call (.builtin "list.append") [.ref a, .str x t]) Q E s := by
  have e : (strValues l).toArray.push (.str x t) = (strValues (l ++ [(x, t)])).toArray := by simp [strValues]
  have hs : (strValues l).toArray.size = l.length := by simp [strValues]
  refine append_K F N (Upd.head hne) (fun h' F' N' => h h' F' (by rw [e] at N'; exact N')) ?_
  rw [hs]
  exact Nat.le_trans hl (by decide)
end
theorem names_len {l : List (Str × Tok)} {n i : Nat} (h : l.map (·.1) = flagNames n i) (hi : i < 33) : l.length ≤ 1000 := by
  have e : l.length = (flagNames n i).length := by rw [← h, List.length_map]
  rw [e]
  unfold flagNames
  rw [List.length_map]
  have := List.length_filter_le (fun k => n.testBit k) (List.range i)
  rw [List.length_range] at this
  lia
local macro_rules | `(tactic| walk_at "binaryOp LShift int int") => `(tactic| (k_dflt apply shl_flag; assumption))
local macro_rules | `(tactic| walk_at "binaryOp BitAnd int int") => `(tactic| (k_dflt apply and_flag; intros))
local macro_rules | `(tactic| walk_at "inplaceOp BitXor int int") => `(tactic| (k_dflt apply xor_flag; assumption))
local macro_rules | `(tactic| walk_at "call builtin:hex") => `(tactic| (k_dflt apply hex_flag; assumption))
local macro_rules | `(tactic| walk_at "getMethod ref") => `(tactic| with_reducible apply meth_cfn; k_asm; k_asm)
local macro_rules | `(tactic| walk_at "call builtin:dict.get") => `(tactic| (k_dflt apply get_cfn; k_asm; k_asm; assumption; intros))
local macro_rules | `(tactic| walk_at "call builtin:list.append") => `(tactic| k_dflt (apply app_str; k_asm; k_asm; apply app_ne; assumption; assumption; apply names_len; assumption; lia; intros))
noncomputable def JF (a : Addr) (rest : List (Addr × Obj)) (m₀ : Str → Option Value) (N : Nat) (i : Nat) (m : Str → Option Value) (nx : List (Addr × Obj)) : Prop :=
  ∃ t u1 u2 l c, (m = fun z : Str => if z = "flags" then some (.int ((N - N % 2 ^ i : Nat) : Int) t) else if z = "flag" then u1 else if z = "i" then u2 else m₀ z) ∧ nx = (a, listOf (strValues l).toArray c) :: rest ∧ l.map (·.1) = flagNames N i ∧ (N = 0 ∨ 2 ^ i ≤ N)
theorem JF.start {a : Addr} {rest : List (Addr × Obj)} {m₀ : Str → Option Value} {N : Nat} {t : Tok} (h1 : m₀ "flags" = some (.int (N : Int) t)) (h2 : m₀ "flag" = none) (h3 : m₀ "i" = none) : JF a rest m₀ N 0 m₀ ((a, listOf #[] 0) :: rest) := by
  refine ⟨t, none, none, [], 0, ?_, rfl, rfl, ?_⟩
  · funext z
    by_cases e1 : z = "flags"
    · rw [if_pos e1, e1, h1]; simp [Nat.mod_one]
    · rw [if_neg e1]
      by_cases e2 : z = "flag"
      · rw [if_pos e2, e2, h2]
      · rw [if_neg e2]
        by_cases e3 : z = "i"
        · rw [if_pos e3, e3, h3]
        · rw [if_neg e3]
  · lia
section
variable {m₀ : Str → Option Value} {v1 v2 v3 v4 v5 v6 : Option Value}
theorem map_yes : (fun y : Str => if y = "flags" then v1 else if y = "flag" then v2 else if y = "i" then v3 else if y = "flags" then v4 else if y = "flag" then v5 else if y = "i" then v6 else m₀ y) =
    fun z : Str => if z = "flags" then v1 else if z = "flag" then v2 else if z = "i" then v3 else m₀ z := by
  funext y
  by_cases e1 : y = "flags"
  · simp only [if_pos e1]
  · by_cases e2 : y = "flag"
    · simp only [if_neg e1, if_pos e2]
    · by_cases e3 : y = "i"
      · simp only [if_neg e1, if_neg e2, if_pos e3]
      · simp only [if_neg e1, if_neg e2, if_neg e3]
theorem map_no : (fun y : Str => if y = "flag" then v1 else if y = "i" then v2 else if y = "flags" then v3 else if y = "flag" then v4 else if y = "i" then v5 else m₀ y) =
    fun z : Str => if z = "flags" then v3 else if z = "flag" then v1 else if z = "i" then v2 else m₀ z := by
  have n1 : ¬ (("flag" : Str) = "flags") := by decide +kernel
  have n2 : ¬ (("i" : Str) = "flags") := by decide +kernel
  funext y
  by_cases e2 : y = "flag"
  · have e1 : ¬ y = "flags" := fun e => n1 (e2 ▸ e)
    simp only [if_neg e1, if_pos e2]
  · by_cases e3 : y = "i"
    · have e1 : ¬ y = "flags" := fun e => n2 (e3 ▸ e)
      simp only [if_neg e1, if_neg e2, if_pos e3]
    · by_cases e1 : y = "flags"
      · simp only [if_pos e1, if_neg e2, if_neg e3]
      · simp only [if_neg e1, if_neg e2, if_neg e3]
theorem JF.yes {a : Addr} {rest : List (Addr × Obj)} {n i : Nat} {l : List (Str × Tok)} {c : Nat} {t u : Tok} (hb : n.testBit i = true) (hl : l.map (·.1) = flagNames n i) (h0 : ((n - n % 2 ^ (i + 1) : Nat) : Int) ≠ 0) :
    JF a rest m₀ n (i + 1) (fun y : Str => if y = "flags" then some (.int ((n - n % 2 ^ (i + 1) : Nat) : Int) t) else if y = "flag" then v2 else if y = "i" then v3 else if y = "flags" then v4 else if y = "flag" then v5 else if y = "i" then v6 else m₀ y)
      ((a, listOf (strValues (l ++ [(flagName i, u)])).toArray (c + 1)) :: rest) := by
  refine ⟨t, v2, v3, _, _, map_yes, rfl, ?_, .inr ?_⟩
  · rw [List.map_append, hl, flagNames_yes hb]; rfl
  · apply Decidable.byContradiction
    intro h
    apply h0
    rw [Nat.mod_eq_of_lt (by lia), Nat.sub_self]; rfl
theorem JF.no {a : Addr} {rest : List (Addr × Obj)} {n i : Nat} {l : List (Str × Tok)} {c : Nat} {t : Tok} (hb : n.testBit i = false) (hl : l.map (·.1) = flagNames n i) (hN : n = 0 ∨ 2 ^ i ≤ n) :
    JF a rest m₀ n (i + 1) (fun y : Str => if y = "flag" then v1 else if y = "i" then v2 else if y = "flags" then some (.int ((n - n % 2 ^ i : Nat) : Int) t) else if y = "flag" then v4 else if y = "i" then v5 else m₀ y)
      ((a, listOf (strValues l).toArray c) :: rest) := by
  refine ⟨t, v1, v2, l, c, ?_, rfl, ?_, ?_⟩
  · rw [map_no]
    have : n - n % 2 ^ (i + 1) = n - n % 2 ^ i := by rw [low_next, if_neg (by rw [hb]; decide)]
    rw [this]
  · rw [hl, flagNames_no hb]
  · rcases hN with h | h
    · exact .inl h
    · right
      apply Decidable.byContradiction
      intro hlt
      have h1 : n / 2 ^ i = 1 := by
        have := Nat.pow_succ (n := 2) (m := i)
        apply Nat.div_eq_of_lt_le <;> lia
      rw [Nat.testBit_eq_decide_div_mod_eq, h1] at hb
      cases hb
end
theorem LEnd.of {h₀ : Heap} {L : Addr} {J : (Str → Option Value) → List (Addr × Obj) → Prop} {own nx : List (Addr × Obj)} {adr : List Addr} {s₁ s₂ : Shared} {Q : Flow → Shared → Prop} {m' : Str → Option Value} (hj : J m' nx) (F : Fr h₀ L s₂.heap m') (N : News h₀ L s₂.heap (nx ++ own)) (hL : Later s₁ s₂) (ha : nx.map (·.1) = adr) : LEnd h₀ L J own adr s₁ Q .next s₂ :=
  ⟨m', _, nx, hL, F, N, fun p hp => List.mem_append_left _ hp, fun p hp => List.mem_append_right _ hp, ha, hj⟩
theorem flagNames_top {n k : Nat} (hn : n < 2 ^ k) : ∀ d, flagNames n (k + d) = flagNames n k
  | 0 => rfl
  | d + 1 => by
    rw [← flagNames_top hn d, ← Nat.add_assoc, flagNames_no]
    exact Nat.testBit_lt_two_pow (Nat.lt_of_lt_of_le hn (Nat.pow_le_pow_right (by decide) (by lia)))
noncomputable def flagText (n : Nat) : Str := Txt.join ", " (if n = 0 then [baseText "0x" 16 0] else flagNames n 32)
theorem flagName_len {i : Nat} (hi : i < 33) : (flagName i).length ≤ 100 := by
  have hs := cfn_str ⟨i, hi⟩
  have hx := hex_fit ⟨i, hi⟩
  unfold flagName
  dsimp only at hs hx
  cases e : cfn ((2 ^ i : Nat) : Int) with
  | none => exact hx
  | some v =>
    rw [e] at hs
    cases v with
    | str x u => exact of_decide_eq_true hs
    | _ => cases hs
theorem ok_names {l : List (Str × Tok)} {n i : Nat} {x : Str} {u : Tok} (hl : l.map (·.1) = flagNames n i) (hi : i < 33) (hx : x.length ≤ 100) : JoinOk (Str.ofString ", ") ((l ++ [(x, u)]).map (·.1)) = true := by
  refine joinOk_of ?_
  have h1 := names_len hl hi
  have h2 : ∀ y ∈ (l ++ [(x, u)]).map (·.1), y.length ≤ 100 := by
    intro y hy
    rw [List.map_append, hl] at hy
    rcases List.mem_append.mp hy with h | h
    · unfold flagNames at h
      obtain ⟨k, hk, rfl⟩ := List.mem_map.mp h
      have := (List.mem_filter.mp hk).1
      exact flagName_len (by have := List.mem_range.mp this; lia)
    · rw [List.mem_singleton.mp h]; exact hx
  have h3 : ∀ ys : List Str, (∀ y ∈ ys, y.length ≤ 100) → (ys.map (·.length)).sum ≤ ys.length * 100 := by
    intro ys
    induction ys with
    | nil => intro _; exact Nat.le_refl _
    | cons y r ih =>
      intro h
      have a1 := h y List.mem_cons_self
      have a2 := ih fun z hz => h z (List.mem_cons_of_mem _ hz)
      simp only [List.map_cons, List.sum_cons, List.length_cons]
      lia
  have h4 := h3 _ h2
  have h5 : ((l ++ [(x, u)]).map (·.1)).length = l.length + 1 := by simp
  have h6 : (Str.ofString ", ").length = 2 := by decide +kernel
  rw [h5] at h4 ⊢
  rw [h6]
  lia
theorem join_led {w : World} {A : Around} {E : Value → Shared → Prop} {s : Shared} {h₀ : Heap} {L a : Addr} {x : Str} {l : List (Str × Tok)} {c : Nat} {t : Tok} {rest : List (Addr × Obj)} {Q : Value → Shared → Prop} (N : News h₀ L s.heap ((a, listOf (strValues l).toArray c) :: rest)) (hok : JoinOk x (l.map (·.1)) = true)
    (h : ∀ t' k, Q (.str (Txt.join x (l.map (·.1))) t') { s with toks := k }) : wpAny (model rwp w) A (call (.builtin "str.join") [.str x t, .ref a]) Q E s :=
  SC.join (l := l) ⟨_, (N _ List.mem_cons_self).1, rfl, _, rfl⟩ rfl hok h
local macro_rules | `(tactic| walk_at "call builtin:str.join") => `(tactic| k_dflt (apply join_led; k_asm; apply ok_names; assumption; lia; (first | (apply flagName_len; lia) | decide +kernel); intros))

/-- a contract whose callee may lay generators -/
noncomputable abbrev CtrL (w : World) (loose : List Str) (mean : ExcName → Option Value) (mg mb : Str → Option Value) (f : Addr) (pre : Prop) (vs : List Value) (R : Tok → Value) : Prop :=
  ∀ (news : List (Addr × Obj)) (dp un : Nat) (gd : Option (List Code)) (cn : Str) (cs : Scope) (a : Addr) (ccd : Value) (cl : List (Str × Addr)) (outer : List Env) (A₀ : Around) (base h₀ : Heap) (L : Addr) (m : Str → Option Value) (s : Shared) (Q E : Value → Shared → Prop),
    Below A₀ base outer h₀ → Fr h₀ L s.heap m → (K w.params).In h₀ → News h₀ L s.heap news → Top qv loose mean mg mb h₀ → cs.kind = .function →
    pre → dp + 1 < recursionLimit → un + 8 < cLine → (∀ (t : Tok) (s' : Shared), Later s s' → Fr h₀ L s'.heap m → News h₀ L s'.heap news → Q (R t) s') →
      wpAny (model rwp w) (ktrTop dp un gd cn cs L a ccd cl outer) (call (.ref f) vs) Q E s
theorem text_yes {n i : Nat} {l : List (Str × Tok)} {u : Tok} (hb : n.testBit i = true) (hi : i < 32) (hl : l.map (·.1) = flagNames n i) (h0 : ((n - n % 2 ^ (i + 1) : Nat) : Int) = 0) : Txt.join (Str.ofString ", ") ((l ++ [(flagName i, u)]).map (·.1)) = flagText n := by
  have hn : n ≠ 0 := fun e => by rw [e] at hb; simp at hb
  have hlt : n < 2 ^ (i + 1) := by
    have h1 := Nat.mod_lt n (Nat.two_pow_pos (i + 1))
    lia
  unfold flagText
  rw [if_neg hn, List.map_append, hl]
  have e := flagNames_top hlt (32 - (i + 1))
  rw [show i + 1 + (32 - (i + 1)) = 32 by lia] at e
  rw [e, flagNames_yes hb]; rfl
theorem text_no {l : List (Str × Tok)} {u : Tok} (hl : l.map (·.1) = flagNames 0 32) : Txt.join (Str.ofString ", ") ((l ++ [(baseText "0x" 16 0, u)]).map (·.1)) = flagText 0 := by
  have e : flagNames 0 32 = [] := by
    have := flagNames_top (n := 0) (k := 0) (by decide) 32
    rw [Nat.zero_add] at this
    rw [this]; rfl
  unfold flagText
  rw [if_pos rfl, List.map_append, hl, e]; rfl
theorem hex_zero {w : World} {A : Around} {E : Value → Shared → Prop} {s : Shared} {t : Tok} {Q : Value → Shared → Prop} (h : Q (.str (baseText "0x" 16 0) s.toks) { s with toks := s.toks + 1 }) : wpAny (model rwp w) A (call (.builtin "hex") [.int ((0 - 0 % 2 ^ 32 : Nat) : Int) t]) Q E s :=
  P.hex_of_int h (by decide +kernel)
theorem app_led {w : World} {A : Around} {E : Value → Shared → Prop} {s : Shared} {h₀ : Heap} {L a : Addr} {m : Str → Option Value} {l : List (Str × Tok)} {c : Nat} {x : Str} {t : Tok} {rest : List (Addr × Obj)} {Q : Value → Shared → Prop} (F : Fr h₀ L s.heap m) (N : News h₀ L s.heap ((a, listOf (strValues l).toArray c) :: rest)) (hne : ∀ p ∈ rest, p.1 < a) (hl : l.length ≤ 1000)
    (h : ∀ h', Fr h₀ L h' m → News h₀ L h' ((a, listOf (strValues (l ++ [(x, t)])).toArray (c + 1)) :: rest) → Q .none { s with heap := h' }) : wpAny (model rwp w) A (call (.builtin "list.append") [.ref a, .str x t]) Q E s :=
  app_str F N (fun p hp => Nat.ne_of_lt (hne p hp)) hl h
local macro_rules | `(tactic| walk_at "call builtin:hex") => `(tactic| k_dflt apply hex_zero)
local macro_rules | `(tactic| walk_at "call builtin:list.append") => `(tactic| k_dflt (apply app_led; k_asm; k_asm; assumption; apply names_len; assumption; lia; intros))
set_option maxHeartbeats 8000000 in
theorem c_flags (w : World) (loose : List Str) (mean : ExcName → Option Value) (mg mb : Str → Option Value) (n : Nat) (t : Tok) :
   CtrL w loose mean mg mb 56 (n < 100000) [.int (n : Int) t] (fun t => .str (flagText n) t) := by
  unfold CtrL rwp
  k_fill
  intros; rename_i hret
  refine wpAny_call ?_
  k_dflt cell_enter
  k_steps
  refine wpAny_For ?_ (by intro _; rfl)
  k_steps
  rename Fr _ _ _ _ => FF
  rename News _ _ _ _ => NN
  rename IsRange _ _ _ _ _ _ _ _ => RR
  refine for_range (by rfl) RR (by decide) (n := 32) (by rfl) FF NN (JF _ _ _ n) (JF.start (by rfl) (by rfl) (by rfl)) ?step ?done
  case step =>
    intro i t m₁ news₁ s₁ own hL hi hJ ha ho F₁ N₁
    obtain ⟨tf, u1, u2, l, c, rfl, rfl, hl, hN⟩ := hJ
    obtain ⟨h₁, gs₁, d₁, tk₁, os₁⟩ := s₁
    dsimp only at F₁ N₁
    simp only [List.map_cons, List.cons_append] at ho N₁
    k_steps
    · exact LEnd.of (JF.yes (by assumption) hl (by assumption)) (by assumption) (by assumption) ⟨rfl, rfl⟩ rfl
    · dsimp only [LEnd]
      k_steps
      rw [text_yes (by assumption) hi hl (by assumption)]
      exact hret _ _ ⟨hL.1, hL.2⟩ (by assumption) (cb_drop (by assumption) fun p hp => List.mem_cons_of_mem _ (List.mem_append_left _ hp))
    · contradiction
    · exact LEnd.of (JF.no (by assumption) hl hN) (by assumption) (by assumption) ⟨rfl, rfl⟩ rfl
  case done =>
    intro m₁ news₁ s₁ hL hJ F₁ N₁
    obtain ⟨tf, u1, u2, l, c, rfl, rfl, hl, hN⟩ := hJ
    obtain ⟨h₁, gs₁, d₁, tk₁, os₁⟩ := s₁
    dsimp only at F₁ N₁
    have h0 : n = 0 := by
      rcases hN with h | h
      · exact h
      · have : (2 : Nat) ^ 32 = 4294967296 := by decide
        lia
    subst h0
    k_steps
    rw [text_no hl]
    exact hret _ _ ⟨hL.1, hL.2⟩ (by assumption) (cb_drop (by assumption) fun p hp => List.mem_cons_of_mem _ hp)
end Mine
namespace Mine
open PySem PySem.W PySem.Calls PyProof.Rows PySem.Spec

noncomputable abbrev itObj (D : Addr) (i : Nat) : Obj := { cls := .type "list_iterator", dict := none, data := .fields #[.ref D, .int (i : Int) 0], slots := #[] }
section
variable {prog : Program} {w : World} {A : Around} {E : Value → Shared → Prop} {s : Shared} {h₀ : Heap} {L : Addr} {m : Str → Option Value}
theorem special_list {it l : Addr} {i : Nat} {items : Array Value} {x : Value} {Q : Option Value → Shared → Prop} (hit : s.heap.get? it = some (itObj l i)) (hl : s.heap.IsList l items) (hx : items[i]? = some x)
    (hQ : ∀ h', h'.get? it = some (itObj l (i + 1)) → Heap.SameBut it s.heap h' → Q (some x) { s with heap := h' }) :
    wpAny (model prog w) A (callSpecial? (.ref it) (Str.ofString "__next__")) Q E s := by
  have hit' : s.heap.IsListIter it l i := ⟨_, hit, rfl, rfl⟩
  obtain ⟨ol, hol, _, nl, hdl⟩ := hl
  refine wpAny_callSpecial?_slot (name := Str.ofString "__next__") hit'.typeIs slot_listiter_next
    (wpAny_call_entry slot_listiter_next hit'.typeIs entry_listiter_next ?_ (args_listiter_next _))
  show wpAny _ _ (field (.ref it) 0 >>= _) _ _ s
  refine wpAny_bind (wpAny_field hit rfl (x := .ref l) rfl ?_)
  show wpAny _ _ (if (Value.ref l == Value.none) = true then _ else _) _ _ s
  rw [if_neg (show ¬ ((Value.ref l == Value.none) = true) from Bool.false_ne_true)]
  show wpAny _ _ (field (.ref it) 1 >>= _) _ _ s
  refine wpAny_bind (wpAny_field hit rfl (x := .int i 0) rfl ?_)
  show wpAny _ _ (seqItems? (.ref l) >>= _) _ _ s
  refine wpAny_bind (wpAny_seqItems hol hdl ?_)
  simp only [Int.toNat_natCast, hx]
  refine wpAny_bind (wpAny_setField hit rfl (by simp) (wpAny_pure ⟨x, rfl, hQ _ ?_ (Heap.SameBut.update ..)⟩))
  exact Heap.get?_update_self _ hit rfl
theorem next_list {it l : Addr} {i : Nat} {items : Array Value} {n : Nat} {x : Value} {rest : List (Addr × Obj)} {Q : Value → Shared → Prop} (F : Fr h₀ L s.heap m) (N : News h₀ L s.heap ((it, itObj l i) :: rest)) (hl : (l, listOf items n) ∈ rest) (hx : items[i]? = some x) (hne : ∀ p ∈ rest, p.1 ≠ it)
    (h : ∀ h', Fr h₀ L h' m → News h₀ L h' ((it, itObj l (i + 1)) :: rest) → Q x { s with heap := h' }) :
    wpAny (model prog w) A (call (.builtin "next") [.ref it]) Q E s := by
  have hm := N (it, itObj l i) List.mem_cons_self
  have hls : s.heap.IsList l items := ⟨_, (N _ (List.mem_cons_of_mem _ hl)).1, rfl, _, rfl⟩
  have hT : s.TypeIs (.ref it) "list_iterator" := ⟨_, hm.1, rfl⟩
  refine call_function_entry (by decide +kernel) (by decide +kernel) kdk_entry_next (kdk_args_next _) ?_
  unfold Builtin.«next»
  refine wpAny_bind (m := someArgs "next" 1 2 _) (wpAny_of_eq (a := [Value.ref it]) (by first | rfl | kernel_rfl!) ?_)
  dsimp only
  refine wpAny_bind (wpAny_specialOf (name := Str.ofString "__next__") hT slot_listiter_next.lookup ?_)
  refine wpAny_ite_split (fun hab => absurd hab (by decide)) (fun _ => ?_)
  refine wpAny_bind (special_list hm.1 hls hx fun h' ho' hs => ?_)
  exact wpAny_pure ⟨_, rfl, h h' (F.change hs hm.2.1 hm.2.2) (N.setHead hne hs ho')⟩
theorem next30 {it l : Addr} {a b c : Value} {n : Nat} {rest : List (Addr × Obj)} {Q : Value → Shared → Prop} (F : Fr h₀ L s.heap m) (N : News h₀ L s.heap ((it, itObj l 0) :: rest)) (hl : (l, listOf #[a, b, c] n) ∈ rest) (hne : ∀ p ∈ rest, p.1 ≠ it)
    (h : ∀ h', Fr h₀ L h' m → News h₀ L h' ((it, itObj l 1) :: rest) → Q a { s with heap := h' }) :
    wpAny (model prog w) A (call (.builtin "next") [.ref it]) Q E s := next_list F N hl rfl hne h
theorem next31 {it l : Addr} {a b c : Value} {n : Nat} {rest : List (Addr × Obj)} {Q : Value → Shared → Prop} (F : Fr h₀ L s.heap m) (N : News h₀ L s.heap ((it, itObj l 1) :: rest)) (hl : (l, listOf #[a, b, c] n) ∈ rest) (hne : ∀ p ∈ rest, p.1 ≠ it)
    (h : ∀ h', Fr h₀ L h' m → News h₀ L h' ((it, itObj l 2) :: rest) → Q b { s with heap := h' }) :
    wpAny (model prog w) A (call (.builtin "next") [.ref it]) Q E s := next_list F N hl rfl hne h
theorem next32 {it l : Addr} {a b c : Value} {n : Nat} {rest : List (Addr × Obj)} {Q : Value → Shared → Prop} (F : Fr h₀ L s.heap m) (N : News h₀ L s.heap ((it, itObj l 2) :: rest)) (hl : (l, listOf #[a, b, c] n) ∈ rest) (hne : ∀ p ∈ rest, p.1 ≠ it)
    (h : ∀ h', Fr h₀ L h' m → News h₀ L h' ((it, itObj l 3) :: rest) → Q c { s with heap := h' }) :
    wpAny (model prog w) A (call (.builtin "next") [.ref it]) Q E s := next_list F N hl rfl hne h
theorem next20 {it l : Addr} {a b : Value} {n : Nat} {rest : List (Addr × Obj)} {Q : Value → Shared → Prop} (F : Fr h₀ L s.heap m) (N : News h₀ L s.heap ((it, itObj l 0) :: rest)) (hl : (l, listOf #[a, b] n) ∈ rest) (hne : ∀ p ∈ rest, p.1 ≠ it)
    (h : ∀ h', Fr h₀ L h' m → News h₀ L h' ((it, itObj l 1) :: rest) → Q a { s with heap := h' }) :
    wpAny (model prog w) A (call (.builtin "next") [.ref it]) Q E s := next_list F N hl rfl hne h
theorem next21 {it l : Addr} {a b : Value} {n : Nat} {rest : List (Addr × Obj)} {Q : Value → Shared → Prop} (F : Fr h₀ L s.heap m) (N : News h₀ L s.heap ((it, itObj l 1) :: rest)) (hl : (l, listOf #[a, b] n) ∈ rest) (hne : ∀ p ∈ rest, p.1 ≠ it)
    (h : ∀ h', Fr h₀ L h' m → News h₀ L h' ((it, itObj l 2) :: rest) → Q b { s with heap := h' }) :
    wpAny (model prog w) A (call (.builtin "next") [.ref it]) Q E s := next_list F N hl rfl hne h
theorem iter_list {l : Addr} {items : Array Value} {n : Nat} {news : List (Addr × Obj)} {Q : Value → Shared → Prop} (F : Fr h₀ L s.heap m) (N : News h₀ L s.heap news) (hl : (l, listOf items n) ∈ news)
    (h : ∀ I h', Fr h₀ L h' m → News h₀ L h' ((I, itObj l 0) :: news) → (∀ p ∈ news, p.1 < I) → Q (.ref I) { s with heap := h' }) :
    wpAny (model prog w) A (call (.builtin "iter") [.ref l]) Q E s := by
  have hls : s.heap.IsList l items := ⟨_, (N _ hl).1, rfl, _, rfl⟩
  refine call_function_entry (by decide +kernel) (by decide +kernel) kdk_entry_iter (kdk_args_iter _) ?_
  unfold Builtin.«iter»
  refine wpAny_bind (m := someArgs "iter" 1 2 _) (wpAny_of_eq (a := [Value.ref l]) (by first | rfl | kernel_rfl!) ?_)
  show wpAny _ _ (pyIter (.ref l) >>= _) _ _ _
  refine wpAny_bind (wpAny_pyIter_list hls ?_)
  exact wpAny_pure ⟨_, rfl, h _ _ (F.push _) (News.push F N _ rfl) (fun q hq => Heap.lt_size (N q hq).1)⟩
end
section
variable {prog : Program} {w : World} {A : Around} {R : Result → Shared → Prop} {s : Shared}
theorem while_turn {test : PySem.Expr} {body orelse : List Stmt} {env : Env}
    (h : wpAny (model prog w) A (isTrue test env (eval test env)) (fun b s₂ =>
        if b then wpAny (model prog w) A (execs body env) (fun f s₃ => match f with
            | .brk => R (.ok .next) s₃
            | .ret v => R (.ok (.ret v)) s₃
            | _ => codeAny (model prog w) A (.whileLoop test body orelse env) R s₃) (fun _ _ => False) s₂
        else wpAny (model prog w) A (execs orelse env) (fun f s₃ => R (.ok f) s₃) (fun _ _ => False) s₂) (fun _ _ => False) s) :
    codeAny (model prog w) A (.whileLoop test body orelse env) R s := by
  refine codeAny_of_tree ?_
  show wpAny _ A ((whileTurn test body orelse env).onRaise (fun x => do noteFrame x env; theTreesLotGoes x)) _ _ s
  refine wpAny_noted ?_
  simp only [whileTurn]
  refine wpAny_bind (wpAny_mono h (fun b s₂ h₂ => ?_) fun _ _ h' => h'.elim)
  cases b with
  | false =>
    simp only [Bool.false_eq_true, if_false] at h₂ ⊢
    exact wpAny_bind (wpAny_mono h₂ (fun f s₃ h₃ => wpAny_pure h₃) fun _ _ h' => h'.elim)
  | true =>
    simp only [if_true] at h₂ ⊢
    refine wpAny_bind (wpAny_mono h₂ (fun f s₃ h₃ => ?_) fun _ _ h' => h'.elim)
    cases f with
    | next => exact wpAny_pure ⟨rfl, h₃⟩
    | cont => exact wpAny_pure ⟨rfl, h₃⟩
    | brk => exact wpAny_pure h₃
    | ret v => exact wpAny_pure h₃
end
/-! the octets' bits -/
theorem and63 {c : Nat} (h : c < 64) : Builtin.bitAnd ((64 + c : Nat) : Int) 63 = (c : Int) := by
  rw [PyProof.Rows.bitAnd_m6]; lia
theorem and63' {c : Nat} (h : c < 64) : Builtin.bitAnd (c : Int) 63 = (c : Int) := by
  rw [PyProof.Rows.bitAnd_m6]; lia
theorem and64 {c : Nat} (h : c < 64) : Builtin.bitAnd ((64 + c : Nat) : Int) 64 = 64 := by
  have := bitAnd_nat (64 + c) (2 ^ 6)
  rw [and_pow, Nat.testBit_eq_decide_div_mod_eq, show (64 + c) / 2 ^ 6 = 1 by lia] at this
  exact this
theorem and64' {c : Nat} (h : c < 64) : Builtin.bitAnd (c : Int) 64 = 0 := by
  have := bitAnd_nat c (2 ^ 6)
  rw [and_pow, Nat.testBit_eq_decide_div_mod_eq, show c / 2 ^ 6 = 0 by lia] at this
  exact this
theorem or6 {v c : Nat} (h : c < 64) : Builtin.bitOr ((v * 64 : Nat) : Int) (c : Int) = ((v * 64 + c : Nat) : Int) := by
  have h1 := PyProof.Rows.bitXor_and ((v * 64 : Nat) : Int) (c : Int)
  have h2 : Builtin.bitAnd ((v * 64 : Nat) : Int) (c : Int) = 0 := by
    rw [bitAnd_nat]
    have : v * 64 &&& c = 0 := by
      apply Nat.eq_of_testBit_eq
      intro j
      rw [Nat.testBit_and, Nat.zero_testBit, Nat.mul_comm, show (64 : Nat) = 2 ^ 6 from rfl, Nat.testBit_two_pow_mul]
      by_cases hj : 6 ≤ j
      · have : c.testBit j = false := Nat.testBit_lt_two_pow (Nat.lt_of_lt_of_le h (show 2 ^ 6 ≤ 2 ^ j from Nat.pow_le_pow_right (by decide) hj))
        rw [this, Bool.and_false]
      · simp [hj]
    rw [this]; rfl
  unfold Builtin.bitXor at h1
  lia
section
variable {w : World} {A : Around} {E : Value → Shared → Prop} {s : Shared} {t u : Tok} {Q : Value → Shared → Prop} {c v : Nat}
theorem r_and63 (hc : c < 64) (h : Q (.int (c : Int) s.toks) { s with toks := s.toks + 1 }) : wpAny (model rwp w) A (binaryOp .BitAnd (.int ((64 + c : Nat) : Int) t) (.int 63 u)) Q E s := and_int (by rw [and63 hc]; exact h)
theorem r_and63' (hc : c < 64) (h : Q (.int (c : Int) s.toks) { s with toks := s.toks + 1 }) : wpAny (model rwp w) A (binaryOp .BitAnd (.int (c : Int) t) (.int 63 u)) Q E s := and_int (by rw [and63' hc]; exact h)
theorem r_and64 (hc : c < 64) (h : Q (.int 64 s.toks) { s with toks := s.toks + 1 }) : wpAny (model rwp w) A (binaryOp .BitAnd (.int ((64 + c : Nat) : Int) t) (.int 64 u)) Q E s := and_int (by rw [and64 hc]; exact h)
theorem r_and64' (hc : c < 64) (h : Q (.int 0 s.toks) { s with toks := s.toks + 1 }) : wpAny (model rwp w) A (binaryOp .BitAnd (.int (c : Int) t) (.int 64 u)) Q E s := and_int (by rw [and64' hc]; exact h)
theorem r_shl6 (hv : v < 100000) (h : Q (.int ((v * 64 : Nat) : Int) s.toks) { s with toks := s.toks + 1 }) : wpAny (model rwp w) A (inplaceOp .LShift (.int (v : Int) t) (.int 6 u)) Q E s := by
  refine ilshift_int_small (by decide) (by decide) (by lia) ?_
  have : (v : Int) * 2 ^ (6 : Int).toNat = ((v * 64 : Nat) : Int) := by
    show (v : Int) * 2 ^ 6 = _
    lia
  rw [this]; exact h
theorem r_or6 (hc : c < 64) (h : Q (.int ((v * 64 + c : Nat) : Int) s.toks) { s with toks := s.toks + 1 }) : wpAny (model rwp w) A (inplaceOp .BitOr (.int ((v * 64 : Nat) : Int) t) (.int (c : Int) u)) Q E s := ior_int (by rw [or6 hc]; exact h)
end
local macro_rules | `(tactic| walk_at "binaryOp BitAnd int int") => `(tactic| with_reducible apply r_and63'; assumption)
local macro_rules | `(tactic| walk_at "binaryOp BitAnd int int") => `(tactic| with_reducible apply r_and64'; assumption)
local macro_rules | `(tactic| walk_at "binaryOp BitAnd int int") => `(tactic| with_reducible apply r_and63; assumption)
local macro_rules | `(tactic| walk_at "binaryOp BitAnd int int") => `(tactic| with_reducible apply r_and64; assumption)
local macro_rules | `(tactic| walk_at "inplaceOp LShift int int") => `(tactic| with_reducible apply r_shl6; lia)
local macro_rules | `(tactic| walk_at "inplaceOp BitOr int int") => `(tactic| with_reducible apply r_or6; assumption)
local macro_rules | `(tactic| walk_at "call builtin:next") => `(tactic| ((k_dflt first | apply next30; walk_at "~k" | apply next31; walk_at "~k" | apply next32; walk_at "~k" | apply next20; walk_at "~k" | apply next21; walk_at "~k"); intros))

local macro_rules | `(tactic| walk_at "exec") => `(tactic| with_reducible apply wpAny_While; k_dflt apply while_turn)

/-- a contract with one ledger ahead and another behind -/
noncomputable abbrev CtrN (w : World) (loose : List Str) (mean : ExcName → Option Value) (mg mb : Str → Option Value) (f : Addr) (news news' : List (Addr × Obj)) (vs : List Value) (R : Tok → Value) : Prop :=
  ∀ (dp un : Nat) (gd : Option (List Code)) (cn : Str) (cs : Scope) (a : Addr) (ccd : Value) (cl : List (Str × Addr)) (outer : List Env) (A₀ : Around) (base h₀ : Heap) (L : Addr) (m : Str → Option Value) (s : Shared) (Q E : Value → Shared → Prop),
    Below A₀ base outer h₀ → Fr h₀ L s.heap m → (K w.params).In h₀ → News h₀ L s.heap news → Top qv loose mean mg mb h₀ → cs.kind = .function →
    dp + 1 < recursionLimit → un + 8 < cLine → (∀ (t : Tok) (s' : Shared), Later s s' → Fr h₀ L s'.heap m → News h₀ L s'.heap news' → Q (R t) s') →
      wpAny (model rwp w) (ktrTop dp un gd cn cs L a ccd cl outer) (call (.ref f) vs) Q E s
set_option maxHeartbeats 8000000 in
theorem c_varint3 (w : World) (loose : List Str) (mean : ExcName → Option Value) (mg mb : Str → Option Value) (c0 c1 c2 : Nat) (h0 : c0 < 64) (h1 : c1 < 64) (h2 : c2 < 64) (t0 t1 t2 : Tok) (I D : Addr) (n : Nat) (rest : List (Addr × Obj)) (hD : (D, listOf #[.int ((64 + c0 : Nat) : Int) t0, .int ((64 + c1 : Nat) : Int) t1, .int (c2 : Int) t2] n) ∈ rest) (hne : ∀ p ∈ rest, p.1 ≠ I) :
   CtrN w loose mean mg mb 63 ((I, itObj D 0) :: rest) rest [.ref I] (fun t => .int (((c0 * 64 + c1) * 64 + c2 : Nat) : Int) t) := by
  unfold CtrN rwp
  k_fill
  intros; rename_i hret
  refine wpAny_call ?_
  k_dflt cell_enter
  k_steps
  refine while_turn ?_
  k_steps
  refine while_turn ?_
  k_steps
  exact hret _ _ ⟨rfl, rfl⟩ (by assumption) (cb_drop (by assumption) fun p hp => List.mem_cons_of_mem _ hp)
end Mine
namespace Mine
open PySem PySem.W PySem.Calls PyProof.Rows PySem.Spec

section
variable {M : Model} {A : Around} {R : GenEnd} {Y : Protocol} {n : Nat} {s₀ : Shared} {c : Code} {fs : List Frame} {s : Shared} {env : Env}
  {K : Flow → Sem Fin} {H : Value → Sem Fin} {gd : Bool → Bool} {lv : List Value → List Value}
theorem seg_For {target iter : PySem.Expr} {body orelse : List Stmt} {pos : Pos} (hs : ∀ x, foldedSetIterable iter env x = pure x)
    (h : wpAny M (A.over c fs) (eval iter env) (fun x s₁ => wpAny M (A.over c fs) (pyIter x) (fun it s₂ => ∀ p, Seg M A R Y n s₀ (.forLoop target it body orelse env) (M.den (.forLoop target it body orelse env))
      (.ret (fun r => ((match r with | .ok f => (.pure f : Sem Flow) | .error e => .raise e).onRaise fun (x : Value) => do
        if (← field x 1) == Value.none then unsupported "frame.own-activation:exception-without-traceback"
        setFlight x env.frame).wrap K H gd lv) none (gd false) (lv []) c p [] :: fs) s₂) (fun _ _ => False) s₁) (fun _ _ => False) s) :
    Seg M A R Y n s₀ c ((exec (.For target iter body orelse pos) env).wrap K H gd lv) fs s := by
  rw [arm_exec_For]
  refine seg_at ?_
  show Seg M A R Y n s₀ c ((eval iter env >>= fun x => foldedSetIterable iter env x >>= fun x => standAt iter.pos >>= fun _ => holding [x] (pyIter x) >>= fun it => runOwn (.forLoop target it body orelse env) env).wrap K H gd lv) fs s
  rw [Sem.bind_eq_wrap', Sem.wrap_wrap]
  refine seg_wrap (wpAny_mono h (fun x s₁ h₁ => ?_) fun _ _ e => e.elim)
  rw [hs x]
  refine seg_at ?_
  show Seg M A R Y n s₀ c ((holding [x] (pyIter x) >>= fun it => runOwn (.forLoop target it body orelse env) env).wrap K H gd lv) fs s₁
  rw [Sem.bind_eq_wrap', Sem.wrap_wrap]
  refine seg_wrap (wpAny_holding (wpAny_mono h₁ (fun it s₂ h₂ => ?_) fun _ _ e => e.elim))
  exact seg_call h₂
end
section
variable {prog : Program} {w : World} {A : Around} {R : GenEnd} {Y : Protocol} {n : Nat} {s₀ : Shared} {fs : List Frame} {s : Shared} {env : Env}
theorem seg_forLoop {target : PySem.Expr} {it : Value} {body orelse : List Stmt}
    (h : wpAny (model prog w) (A.over (.forLoop target it body orelse env) fs) (pyNext it) (fun r s₁ => match r with
        | none => Seg (model prog w) A R Y n s₀ (.forLoop target it body orelse env) (.pure (.again (.block orelse env))) fs s₁
        | some v => wpAny (model prog w) (A.over (.forLoop target it body orelse env) fs) (letOwnedTupleGo target it v) (fun _ s₂ => wpAny (model prog w) (A.over (.forLoop target it body orelse env) fs) (assign target env v) (fun _ s₃ =>
          Seg (model prog w) A R Y n s₀ (.forLoop target it body orelse env) ((execs body env).wrap (fun f => match f with
            | .next | .cont => .pure (.again (.forLoop target it body orelse env))
            | .brk => .pure (.done .next)
            | .ret v => .pure (.done (.ret v))) (fun e => (do noteFrame e env; theTreesLotGoes e : Sem Unit).wrap (fun _ => .raise e) .raise id id) id id) fs s₃) (fun _ _ => False) s₂) (fun _ _ => False) s₁) (fun _ _ => False) s) :
    Seg (model prog w) A R Y n s₀ (.forLoop target it body orelse env) ((model prog w).den (.forLoop target it body orelse env)) fs s := by
  show Seg _ A R Y n s₀ _ ((forTurn target it body orelse env).onRaise (fun x => do noteFrame x env; theTreesLotGoes x)) fs s
  unfold forTurn
  rw [Sem.onRaise_eq_wrap]
  refine seg_at ?_
  show Seg _ A R Y n s₀ _ ((((pyNext it).onRaise (fun _ => standAt { target.pos with line := 0 })) >>= _).wrap _ _ _ _) fs s
  rw [Sem.bind_eq_wrap', Sem.wrap_wrap]
  refine seg_wrap (wpAny_onRaise (wpAny_mono h (fun r s₁ h₁ => ?_) fun _ _ e => e.elim))
  cases r with
  | none => exact h₁
  | some v =>
    show Seg _ A R Y n s₀ _ ((letOwnedTupleGo target it v >>= fun _ => assign target env v >>= fun _ => execs body env >>= _).wrap _ _ _ _) fs s₁
    rw [Sem.bind_eq_wrap', Sem.wrap_wrap]
    refine seg_wrap (wpAny_mono h₁ (fun _ s₂ h₂ => ?_) fun _ _ e => e.elim)
    rw [Sem.bind_eq_wrap', Sem.wrap_wrap]
    refine seg_wrap (wpAny_mono h₂ (fun _ s₃ h₃ => ?_) fun _ _ e => e.elim)
    rw [Sem.bind_eq_wrap', Sem.wrap_wrap]
    rw [Sem.wrap_congr (execs body env) _ _ (K' := fun f => match f with
            | .next | .cont => .pure (.again (.forLoop target it body orelse env))
            | .brk => .pure (.done .next)
            | .ret v => .pure (.done (.ret v))) (H' := (fun e => (do noteFrame e env; theTreesLotGoes e : Sem Unit).wrap (fun _ => .raise e) .raise id id))
        (fun f => by cases f <;> rfl)
        (fun e => by first | exact Sem.bind_eq_wrap _ _ | (show (do noteFrame e env; theTreesLotGoes e : Sem Unit).bind (fun _ => .raise e) = _; rw [Sem.bind_eq_wrap]))]
    exact h₃
end
end Mine
namespace Mine
open PySem PySem.W PySem.Calls PyProof.Rows PySem.Spec

/-- the same run, whatever its generators are -/
noncomputable def LaterO (s s' : Shared) : Prop := s'.drawn = s.drawn ∧ s'.os = s.os
theorem LaterO.refl (s : Shared) : LaterO s s := ⟨rfl, rfl⟩
theorem LaterO.trans {a b c : Shared} (x : LaterO a b) (y : LaterO b c) : LaterO a c := ⟨y.1.trans x.1, y.2.trans x.2⟩
theorem Later.o {a b : Shared} (x : Later a b) : LaterO a b := ⟨x.1, congrArg Prod.fst x.2⟩
theorem bareOf_iff (a : Array GenState) : bareOf a = true ↔ ∀ (i : Nat) y, a[i]? = some y → y.bare = true := by
  unfold bareOf
  rw [Array.all_eq_true]
  constructor
  · intro h i y e
    obtain ⟨hi, e'⟩ := Array.getElem?_eq_some_iff.mp e
    exact e' ▸ h i hi
  · intro h i hi
    exact h i _ (Array.getElem?_eq_getElem hi)
theorem bareOf_only {g : Nat} {a b : Array GenState} (x : GenOnly g a b) (ha : ∀ y, a[g]? = some y → y.bare = true) (hb : ∀ y, b[g]? = some y → y.bare = true) : bareOf b = bareOf a := by
  rw [Bool.eq_iff_iff, bareOf_iff, bareOf_iff]
  constructor
  · intro h i y e
    by_cases hi : i = g
    · exact ha y (hi ▸ e)
    · exact h i y ((x.2 i hi).trans e)
  · intro h i y e
    by_cases hi : i = g
    · exact hb y (hi ▸ e)
    · exact h i y ((x.2 i hi).symm.trans e)
theorem later_push {o : OsState} {g : Array GenState} {c : Code} : (o, bareOf (g.push (.fresh c))) = (o, bareOf g) := by
  unfold bareOf
  rw [Array.all_push]
  simp [GenState.bare]
theorem bare_push {g : Array GenState} {c : Code} : ∀ y, (g.push (.fresh c))[g.size]? = some y → y.bare = true := by
  intro y h
  rw [Array.getElem?_push_size] at h
  cases h
  rfl
/-- what the generator owns is kept: its names and what was laid behind them -/
noncomputable def GKeep (Lg B : Addr) (s s' : Shared) : Prop := ∀ b o, (b = Lg ∨ B ≤ b) → s.heap.get? b = some o → s'.heap.get? b = some o
/-- what it does not own it keeps -/
noncomputable def GStep (Lg B : Addr) (s s' : Shared) : Prop := (∀ b o, b < B → b ≠ Lg → s.heap.get? b = some o → s'.heap.get? b = some o) ∧ s'.gens = s.gens ∧ Later s s'
theorem GStep.refl (Lg B : Addr) (s : Shared) : GStep Lg B s s := ⟨fun _ _ _ _ e => e, rfl, .refl s⟩
theorem GStep.trans {Lg B : Addr} {a b c : Shared} (x : GStep Lg B a b) (y : GStep Lg B b c) : GStep Lg B a c :=
  ⟨fun b o h h' e => y.1 b o h h' (x.1 b o h h' e), y.2.1.trans x.2.1, x.2.2.trans y.2.2⟩
noncomputable abbrev tupOf (items : Array Value) : Obj := { cls := .type "tuple", data := .seq items }
noncomputable def GPro (h₀ : Heap) (Lg B : Addr) (N : Nat) (P : Nat → Array Value → Prop) : Protocol := fun m s₀ v s kap =>
  (∃ T items, v = .ref T ∧ B ≤ T ∧ s.heap.get? T = some (tupOf items) ∧ P (N - 1 - m) items) ∧ GStep Lg B s₀ s ∧
    ∀ s'', GKeep Lg B s s'' → (∀ b o, h₀.get? b = some o → s''.heap.get? b = some o) → B ≤ s''.heap.objs.size → kap (.send .none) s''
noncomputable abbrev GFin (Lg B : Addr) : GenEnd := fun n s₀ r s₁ => r = .ok (.ret .none) ∧ (n = 0 ∧ GStep Lg B s₀ s₁)
noncomputable def GAt (prog : Program) (w : World) (A : Around) (h₀ : Heap) (a : Addr) (g : Nat) (Lg B : Addr) (N : Nat) (P : Nat → Array Value → Prop) (i : Nat) (s : Shared) : Prop :=
  s.heap.IsGen a g ∧ ∃ gs, s.gens[g]? = some gs ∧ ∀ s'', GKeep Lg B s s'' → (∀ b o, h₀.get? b = some o → s''.heap.get? b = some o) → B ≤ s''.heap.objs.size →
    gs.Goes (model prog w) A.in1 (GFin Lg B) (GPro h₀ Lg B N P) (N - i) (.send .none) s''
/-- how a turn ends where generators live -/
noncomputable def LEndG (h₀ : Heap) (L : Addr) (J : (Str → Option Value) → List (Addr × Obj) → Prop) (own : List (Addr × Obj)) (adr : List Addr) (s₁ : Shared) (Q : Flow → Shared → Prop) (f : Flow) (s₂ : Shared) : Prop :=
  match f with
  | .ret v => Q (.ret v) s₂
  | .brk => Q .next s₂
  | _ => ∃ m' news' nx, Later s₁ s₂ ∧ s₂.gens = s₁.gens ∧ Fr h₀ L s₂.heap m' ∧ News h₀ L s₂.heap news' ∧ (∀ p ∈ nx, p ∈ news') ∧ (∀ p ∈ own, p ∈ news') ∧ nx.map (·.1) = adr ∧ J m' nx
section
variable {prog : Program} {w : World} {A : Around} {E : Value → Shared → Prop} {s : Shared} {env : Env} {h₀ : Heap}
theorem go_gen {target : PySem.Expr} {a : Addr} {g : Nat} {v : Value} {Q' : Unit → Shared → Prop} {E' : Value → Shared → Prop} (hg : s.heap.IsGen a g) (hQ : Q' () s) :
    wpAny (model prog w) A (letOwnedTupleGo target (.ref a) v) Q' E' s := by
  obtain ⟨o, nm, qn, ho, hc, hd, hs⟩ := hg
  have core : wpAny (model prog w) A (do
      let (.ref r, .ref a) := ((.ref a, v) : Value × Value) | return
      let o ← load r
      match o.cls, o.data with
      | .type n, .fields vs =>
        if ["enumerate", "zip", "dict_itemiterator", "dict_reverseitemiterator", "odict_iterator", "itertools.zip_longest", "itertools.pairwise"].contains n && vs[0]? == some (rawInt a) then
          rule "for.unpacks-the-owned-tuple"
          updateField r 0 .none
      | _, _ => pure ()) Q' E' s := by
    cases v with
    | ref T =>
      refine wpAny_bind (wpAny_load ho ?_)
      rw [hc, hd]
      exact wpAny_pure hQ
    | _ => exact wpAny_pure hQ
  cases target with
  | Tuple elts x1 pos => exact core
  | List elts pos => exact core
  | _ => exact wpAny_pure hQ

theorem for_gen {target : PySem.Expr} {body orelse : List Stmt} {a : Addr} {g : Nat} {Lg B : Addr} {N : Nat} {P : Nat → Array Value → Prop} {m : Str → Option Value} {news : List (Addr × Obj)} {Q : Flow → Shared → Prop}
    (hh : A.handled = none) (hroom : A.depth < recursionLimit) (haB : a + 1 = B) (haL : a ≠ Lg) (hL : env.locals < B) (hLL : env.locals ≠ Lg) (hLa : env.locals ≠ a)
    (hnw : ∀ p ∈ news, p.1 < B ∧ p.1 ≠ Lg ∧ p.1 ≠ a) (hlim : h₀.NoLimit) (hB : h₀.objs.size ≤ Lg) (hB' : h₀.objs.size ≤ B) (hB'' : h₀.objs.size ≤ a)
    (G : GAt prog w A h₀ a g Lg B N P 0 s) (F : Fr h₀ env.locals s.heap m) (Nw : News h₀ env.locals s.heap news)
    (J : Nat → (Str → Option Value) → List (Addr × Obj) → Prop) (h0 : J 0 m news)
    (step : ∀ i T items m₁ news₁ (s₁ : Shared) own, LaterO s s₁ → i < N → P i items → J i m₁ news₁ → news₁.map (·.1) = news.map (·.1) → OwnOff ((T, tupOf items) :: own) (news.map (·.1)) → Fr h₀ env.locals s₁.heap m₁ → News h₀ env.locals s₁.heap (news₁ ++ (T, tupOf items) :: own) →
      wpAny (model prog w) A (assign target env (.ref T)) (fun _ s₂ => wpAny (model prog w) A (execs body env) (LEndG h₀ env.locals (J (i + 1)) own (news.map (·.1)) s₁ Q) (fun _ _ => False) s₂) (fun _ _ => False) s₁)
    (done : ∀ m₁ news₁ (s₁ : Shared), Later s s₁ → J N m₁ news₁ → Fr h₀ env.locals s₁.heap m₁ → News h₀ env.locals s₁.heap news₁ → wpAny (model prog w) A (execs orelse env) (fun f s₃ => Q f s₃) (fun _ _ => False) s₁) (hbare : ∀ y, s.gens[g]? = some y → y.bare = true) :
    wpAny (model prog w) A (pyIter (.ref a)) (fun it s₂ => codeAny (model prog w) A (.forLoop target it body orelse env) (fun r s' => match r with | .ok f => Q f s' | .error e => cameBackBy (model prog w) A env E e s') s₂) E s := by
  have ha : a < B := haB ▸ Nat.lt_succ_self a
  refine wpAny_pyIter_gen G.1 ?_
  have old : ∀ b o, h₀.get? b = some o → b < B ∧ b ≠ Lg := fun b o e => ⟨Nat.lt_of_lt_of_le (Heap.lt_size e) hB', Nat.ne_of_lt (Nat.lt_of_lt_of_le (Heap.lt_size e) hB)⟩
  refine codeAny_forLoop_any
    (fun k s' => ∃ i m' news', (LaterO s s' ∧ GenOnly g s.gens s'.gens) ∧ GAt prog w A h₀ a g Lg B N P i s' ∧ Fr h₀ env.locals s'.heap m' ∧ News h₀ env.locals s'.heap news' ∧ news'.map (·.1) = news.map (·.1) ∧ J i m' news' ∧ i ≤ N ∧ k = N + 1 - i) ?_ (N + 1)
    ⟨0, m, news, ⟨.refl s, rfl, fun _ _ => rfl⟩, G, F, Nw, rfl, h0, Nat.zero_le _, rfl⟩
  rintro k s' ⟨i, m', news', hls, G', F', N', had, hJ, hi, rfl⟩
  have hnw' : ∀ p ∈ news', p.1 < B ∧ p.1 ≠ Lg ∧ p.1 ≠ a := fun p hp => by
    have : p.1 ∈ news.map (·.1) := had ▸ List.mem_map.mpr ⟨p, hp, rfl⟩
    obtain ⟨q, hq, e⟩ := List.mem_map.mp this
    rw [← e]; exact hnw q hq
  have next : ∀ h₁ : Heap, (∀ b o, b < B → b ≠ Lg → s'.heap.get? b = some o → h₁.get? b = some o) → Fr h₀ env.locals h₁ m' ∧ News h₀ env.locals h₁ news' := fun h₁ hk₁ =>
    ⟨⟨F'.ns.at' fun o e => hk₁ _ o hL hLL e, fun b o e => hk₁ b o (old b o e).1 (old b o e).2 (F'.keep b o e), F'.above⟩,
      fun p hp => ⟨hk₁ _ _ (hnw' p hp).1 (hnw' p hp).2.1 (N' p hp).1, (N' p hp).2⟩⟩
  obtain ⟨hgen, gs, hgs, hgo⟩ := G'
  have hl : s'.heap.NoLimit := hlim.keeps F'.keep
  have hBs : B ≤ s'.heap.objs.size := haB ▸ (let ⟨o, nm, qn, ho, r⟩ := hgen; Heap.lt_size ho)
  by_cases hlt : i < N
  · obtain ⟨n, hn⟩ : ∃ n, N - i = n + 1 := ⟨N - i - 1, by lia⟩
    rw [hn] at hgo
    refine wpAny_pyNext_gen (P := fun n s₀ s₁ => n = 0 ∧ GStep Lg B s₀ s₁) hh hl hroom hgen hgs (hgo _ (fun _ _ _ e => e) F'.keep hBs) (fun v s₁ gs' hv => ?_) (fun s₁ hp h' hk => ?_)
    · obtain ⟨⟨T, items, rfl, hBT, hT, hP⟩, ⟨hk₁, hg₁, hl₁⟩, hkap⟩ := hv
      rw [show N - 1 - (n + 1 - 1) = i by lia] at hP
      obtain ⟨F₁, N₁⟩ := next s₁.heap hk₁
      have hgen₁ : s₁.heap.IsGen a g := let ⟨o, nm, qn, ho, r⟩ := hgen; ⟨o, nm, qn, hk₁ a o ha haL ho, r⟩
      refine go_gen (g := g) hgen₁ ?_
      have hLat : LaterO s (s₁.setGen g gs') := hls.1.trans ⟨hl₁.o.1, hl₁.o.2⟩
      have hGo : GenOnly g s.gens (s₁.setGen g gs').gens := by
        have e1 := GenOnly.setGen s₁ g gs'
        rw [hg₁] at e1
        exact hls.2.trans ((GenOnly.setGen s' g .running).trans e1)
      let fp : List Addr := a :: Lg :: (List.range s₁.heap.objs.size).filter fun b => B ≤ b
      have hfp : ∀ b ∈ fp, b = a ∨ b = Lg ∨ B ≤ b := fun b hb => by
        rcases List.mem_cons.mp hb with e | hb
        · exact .inl e
        rcases List.mem_cons.mp hb with e | hb
        · exact .inr (.inl e)
        · exact .inr (.inr (of_decide_eq_true (List.mem_filter.mp hb).2))
      have hLf : env.locals ∉ fp := fun hb => by
        rcases hfp _ hb with e | e | e
        · exact hLa e
        · exact hLL e
        · exact absurd hL (Nat.not_lt.mpr e)
      have Nown : News h₀ env.locals s₁.heap (ownOf h₀ fp s₁.heap) := news_ownOf hLf
      have hoff : OwnOff ((T, tupOf items) :: ownOf h₀ fp s₁.heap) (news.map (·.1)) := by
        intro p hp b hb e
        obtain ⟨q, hq, rfl⟩ := List.mem_map.mp hb
        have := hnw q hq
        rcases List.mem_cons.mp hp with rfl | hp
        · exact absurd this.1 (Nat.not_lt.mpr (e ▸ hBT))
        · rcases hfp _ (ownOf_sub p hp) with x | x | x
          · exact this.2.2 (e ▸ x)
          · exact this.2.1 (e ▸ x)
          · exact absurd this.1 (Nat.not_lt.mpr (e ▸ x))
      have hTn : h₀.get? T = none := by
        cases e : h₀.get? T with
        | none => rfl
        | some o => exact absurd (old T o e).1 (Nat.not_lt.mpr hBT)
      have NT : News h₀ env.locals s₁.heap [(T, tupOf items)] := fun p hp => by
        rw [List.mem_singleton.mp hp]
        exact ⟨hT, fun e => absurd hL (Nat.not_lt.mpr (e ▸ hBT)), hTn⟩
      refine wpAny_mono (step i T items m' news' (s₁.setGen g gs') (ownOf h₀ fp s₁.heap) hLat hlt hP hJ had hoff F₁ (N₁.append (NT.append Nown))) (fun _ s₂ h₂ => wpAny_mono h₂ (fun f s₃ h₃ => ?_) fun _ _ e => e.elim) fun _ _ e => e.elim
      have fin : (∃ m₂ news₂ nx, Later (s₁.setGen g gs') s₃ ∧ s₃.gens = (s₁.setGen g gs').gens ∧ Fr h₀ env.locals s₃.heap m₂ ∧ News h₀ env.locals s₃.heap news₂ ∧ (∀ p ∈ nx, p ∈ news₂) ∧ (∀ p ∈ ownOf h₀ fp s₁.heap, p ∈ news₂) ∧ nx.map (·.1) = news.map (·.1) ∧ J (i + 1) m₂ nx) →
          ∃ k', k' < N + 1 - i ∧ ∃ i m' news', (LaterO s s₃ ∧ GenOnly g s.gens s₃.gens) ∧ GAt prog w A h₀ a g Lg B N P i s₃ ∧ Fr h₀ env.locals s₃.heap m' ∧ News h₀ env.locals s₃.heap news' ∧ news'.map (·.1) = news.map (·.1) ∧ J i m' news' ∧ i ≤ N ∧ k' = N + 1 - i := by
        rintro ⟨m₂, news₂, nx, hl₃, hg₃, F₃, N₃, hn', ho, hadr, hj⟩
        have kept : ∀ b ∈ fp, ∀ o, s₁.heap.get? b = some o → s₃.heap.get? b = some o := fun b hb o e => by
          cases hn₀ : h₀.get? b with
          | some o₀ =>
            have : o₀ = o := by have := F₁.keep b o₀ hn₀; rw [e] at this; exact (Option.some.inj this).symm
            exact this ▸ F₃.keep b o₀ hn₀
          | none => exact (N₃ _ (ho _ (mem_ownOf hb hn₀ e))).1
        refine ⟨N + 1 - (i + 1), by lia, i + 1, m₂, nx, ⟨hLat.trans hl₃.o, hg₃ ▸ hGo⟩, ⟨?_, gs', ?_, fun s'' hK hk0 hB₀ => ?_⟩, F₃, fun p hp => N₃ p (hn' p hp), hadr, hj, hlt, rfl⟩
        · exact let ⟨o, nm, qn, ho, r⟩ := hgen₁; ⟨o, nm, qn, kept a (List.mem_cons_self ..) o ho, r⟩
        · rw [hg₃]
          exact setGen_self (gs := .running) (by rw [hg₁]; exact setGen_self hgs)
        · rw [show N - (i + 1) = n by lia]
          refine hkap s'' (fun b o hb e => hK b o hb (kept b ?_ o e)) hk0 hB₀
          rcases hb with rfl | hb
          · exact List.mem_cons_of_mem _ (List.mem_cons_self ..)
          · exact List.mem_cons_of_mem _ (List.mem_cons_of_mem _ (List.mem_filter.mpr ⟨List.mem_range.mpr (Heap.lt_size e), decide_eq_true hb⟩))
      cases f with
      | ret v => exact h₃
      | brk => exact h₃
      | cont => exact fin h₃
      | next => exact fin h₃
    · exact absurd hp.1 (Nat.succ_ne_zero n)
  · have hin : i = N := by lia
    subst hin
    rw [Nat.sub_self] at hgo
    refine wpAny_pyNext_gen (P := fun n s₀ s₁ => n = 0 ∧ GStep Lg B s₀ s₁) hh hl hroom hgen hgs (hgo _ (fun _ _ _ e => e) F'.keep hBs) (fun v s₁ gs' hv => ?_) (fun s₁ hp h' hk => ?_)
    · obtain ⟨_, hst, hkap⟩ := hv
      exact (hkap s₁ (fun _ _ _ e => e) (fun b o e => (next s₁.heap hst.1).1.keep b o e) (haB ▸ (let ⟨o, nm, qn, ho, r⟩ := hgen; Heap.lt_size (hst.1 a o ha haL ho)))).elim
    · obtain ⟨_, hk₁, hg₁, hl₁⟩ := hp
      obtain ⟨F₁, N₁⟩ := next h' fun b o hb hb' e => hk b o (hk₁ b o hb hb' e)
      have hGf : GenOnly g s.gens (s₁.setGen g .finished).gens := by
        have e1 := GenOnly.setGen s₁ g .finished
        rw [hg₁] at e1
        exact hls.2.trans ((GenOnly.setGen s' g .running).trans e1)
      have hgf : (s₁.setGen g .finished).gens[g]? = some .finished := setGen_self (gs := .running) (by rw [hg₁]; exact setGen_self hgs)
      have hbo : bareOf (s₁.setGen g .finished).gens = bareOf s.gens := bareOf_only hGf hbare (fun y e => by rw [hgf] at e; cases e; rfl)
      exact wpAny_mono (done m' news' _ ⟨hl₁.o.1.trans hls.1.1, Prod.ext (hl₁.o.2.trans hls.1.2) hbo⟩ hJ F₁ N₁) (fun _ _ h => h) fun _ _ e => e.elim
end
end Mine
namespace Mine
open PySem PySem.W PySem.Calls PyProof.Rows PySem.Spec

section
variable {prog : Program} {w : World} {A : Around} {s : Shared} {h₀ : Heap} {L : Addr} {m : Str → Option Value} {news : List (Addr × Obj)} {K : Frag} {p : Program} {loose : List Str} {mean : ExcName → Option Value} {mg mb : Str → Option Value}
/-- a def that makes a generator is called -/
theorem code_gen {R : Result → Shared → Prop} {name qual : Str} {params : Arguments} {body : List Stmt} {scope : Scope} {dV kV doc pm cdv ct oc : Value} {an od : Option Addr} {osl : Array (Option Value)} {f : Addr} {args : Args} {binds : List (Str × Value)}
    (F : Fr h₀ L s.heap m) (X₀ : K.In h₀) (N : News h₀ L s.heap news) (T : Top p loose mean mg mb h₀)
    (ho : K.lookup f = some ⟨oc, od, .func (fnOf name qual params body scope dV kV doc pm an cdv ct), osl⟩) (hcd : codeIn K cdv qual = true) (hroom : A.depth < recursionLimit)
    (hbind : BindsTo s (fnOf name qual params body scope dV kV doc pm an cdv ct) args binds) (hloc : ∀ y ∈ binds, scope.names.lookup y.1 = some .local)
    (h : ∀ h₁ tk, Fr h₀ L h₁ m → News h₀ L h₁ news → Fr h₀ s.heap.objs.size h₁ (fun y => binds.reverse.lookup y) → h₁.IsGen (s.heap.objs.size + 1) s.gens.size → h₁.objs.size = s.heap.objs.size + 2 → L < s.heap.objs.size → (∀ p ∈ news, p.1 < s.heap.objs.size) →
      R (.ok (.ret (.ref (s.heap.objs.size + 1)))) ⟨h₁, s.gens.push (.fresh (.func body (envOf qual scope s.heap.objs.size f cdv))), s.drawn, tk, s.os⟩)
    (hco : scope.isCoroutine = false) (hgen : scope.isGenerator = true) (hk : scope.kind = .function) (hcell : ∀ x ∈ scope.names, x.2 ≠ .cell) : codeAny (model prog w) A (.call (.ref f) args) R s := by
  have X := X₀.keeps F.keep
  have hlim := T.nolimit.keeps F.keep
  refine codeAny_call_generator (fd := fnOf name qual params body scope dV kV doc pm an cdv ct) (body := body) hroom (X _ _ ho) rfl hco hgen rfl (codeRec_of X hcd) (hbind _ _ _ _ (wpAny_newFunctionEnv hcell hloc (fun h₁ hns hsb => ⟨hlim.fresh _ hsb, ?_⟩) hk))
  have up : ∀ b o, s.heap.get? b = some o → h₁.get? b = some o := fun b o e => hsb.extBut b o (Nat.ne_of_lt (Heap.lt_size e)) (Heap.get?_push_of_some _ e)
  have hsz : h₁.objs.size = s.heap.objs.size + 1 := by rw [hsb.1, Heap.size_push]
  have up₂ : ∀ (o' : Obj) b o, h₁.get? b = some o → (h₁.push o').get? b = some o := fun o' b o e => Heap.get?_push_of_some _ e
  have hL : L < s.heap.objs.size := F.ns.lt
  have := h (h₁.push { cls := .type "generator", data := .fields #[.int s.gens.size 0, .str name (s.toks + binds.length), .str qual (s.toks + binds.length + 1)] }) (s.toks + binds.length + 1 + 1)
    (F.keeps fun b o e => up₂ _ b o (up b o e)) (N.grown fun b o e => up₂ _ b o (up b o e)) ⟨hns.keeps (up₂ _), fun b o e => up₂ _ b o (up b o (F.keep b o e)), Nat.le_trans F.above (Nat.le_of_lt hL)⟩
    (by rw [← hsz]; exact ⟨_, _, _, Heap.get?_push_size _ rfl, rfl, rfl, rfl⟩) (by rw [Heap.size_push, hsz]) hL (fun q hq => Heap.lt_size (N q hq).1)
  rw [← hsz] at this
  exact this
end

section
variable {M : Model} {A : Around} {R : GenEnd} {Y : Protocol} {n : Nat} {s₀ : Shared} {c : Code} {fs : List Frame} {s : Shared} {env : Env}
  {K : Flow → Sem Fin} {H : Value → Sem Fin} {gd : Bool → Bool} {lv : List Value → List Value}
theorem seg_If {test : PySem.Expr} {body orelse : List Stmt} {pos : Pos}
    (h : wpAny M (A.over c fs) (isTrue test env (eval test env)) (fun b s' => if b = true then Seg M A R Y n s₀ c ((execs body env).wrap K H gd lv) fs s' else Seg M A R Y n s₀ c ((execs orelse env).wrap K H gd lv) fs s') (fun x s' => Seg M A R Y n s₀ c (H x) fs s') s) :
    Seg M A R Y n s₀ c ((exec (.If test body orelse pos) env).wrap K H gd lv) fs s := by
  rw [exec_If]
  refine seg_at ?_
  show Seg M A R Y n s₀ c ((isTrue test env (eval test env) >>= fun b => if b = true then execs body env else execs orelse env).wrap K H gd lv) fs s
  rw [Sem.bind_eq_wrap', Sem.wrap_wrap]
  refine seg_wrap (wpAny_mono h (fun b s' hb => ?_) fun _ _ x => x)
  cases b with
  | true => exact hb
  | false => exact hb
theorem seg_block {body : List Stmt} {prog : Program} {w : World} (hs : body = [])
    (h : Seg (model prog w) A R Y n s₀ (.block body env) (leafOf (.ok .next)) fs s) : Seg (model prog w) A R Y n s₀ (.block body env) ((model prog w).den (.block body env)) fs s := by
  subst hs
  exact h
end
theorem draws_strU {prog : Program} {w : World} {A : Around} (hh : A.handled = none) (it : Addr) (x : Str) (t : Tok) :
    Draws prog w A it [it] x.cps.size (fun i v => ∃ c u, x.cps[i]? = some c ∧ v = .str ⟨#[c]⟩ u) (fun i h => h.IsStrIter it (strIterType x) x t i) := by
  unfold strIterType
  by_cases e : (x.cps.all (· < 128)) = true
  · rw [if_pos e]; exact Draws.strAscii hh it x t
  · rw [if_neg e]; exact Draws.strWide hh it x t

section
variable {prog : Program} {w : World} {A : Around} {s : Shared} {h₀ : Heap} {Lg B : Addr} {q : Str} {sc : Scope} {f : Addr} {cd : Value}
noncomputable abbrev PChar (x : Str) (i : Nat) (items : Array Value) : Prop := ∃ c t u, x.cps[i]? = some c ∧ items = #[.int (i : Int) t, .str ⟨#[c]⟩ u]
/-- the loop of _iter_escaped_chars over a text without a backslash -/
theorem seg_charsLoop {p1 p2 p3 p4 p5 p6 p7 p8 p9 q1 q2 q3 q4 q5 q6 q7 q8 q9 r1 r2 r3 r4 r5 r6 r7 d6 d7 : Pos} {k1 k2 k3 k4 k5 k6 k7 : Nat} {x : Str} {t : Tok} {e it : Addr} {fs : List Frame}
    (hh : A.handled = none) (hk : sc.kind = .function) (hco : sc.isCoroutine = false)
    (n1 : (envOf q sc Lg f cd).kindOf "pos" = some .local) (n2 : (envOf q sc Lg f cd).kindOf "escape" = some .local) (n3 : (envOf q sc Lg f cd).kindOf "ch" = some .local)
    (hx : ∀ c ∈ x.cps.toList, c ≠ 92) (hei : e ≠ it) (hBe : B ≤ e) (hBi : B ≤ it) (hLe : Lg ≠ e) (hLi : Lg ≠ it) (h0B : h₀.objs.size ≤ B)
    (hms : (marksOver fs (none, none)).1 = none) (hfs : splitAtGen fs = none) (hfg : fs.any Frame.guarded = false)
    (fin : ∀ c s₀ (s' : Shared) m, Fr h₀ Lg s'.heap m → m "escape" = some (.bool false) → GStep Lg B s₀ s' → Seg (model prog w) A (GFin Lg B) (GPro h₀ Lg B x.cps.size (PChar x)) 0 s₀ c (leafOf (.ok .next)) fs s') :
    ∀ (k i : Nat) (s₀ s : Shared) (m : Str → Option Value), x.cps.size - i = k → i ≤ x.cps.size → Fr h₀ Lg s.heap m → m "escape" = some (.bool false) → (∃ old, IsEnum s.heap e it i old) → s.heap.IsStrIter it (strIterType x) x t i → GStep Lg B s₀ s →
      Seg (model prog w) A (GFin Lg B) (GPro h₀ Lg B x.cps.size (PChar x)) k s₀
        (.forLoop (.Tuple [.Name "pos" p1, .Name "ch" p2] k1 p3) (.ref e) [.If (.Name "escape" p4)
            [.Expr (.Yield (some (.Tuple [.Name "pos" p5, .BinOp (.Constant (.str "\\") k2 p6) .Add (.Name "ch" p7) p8] k3 p9)) q1) q2, .Assign [.Name "escape" q3] (.Constant (.bool false) k4 q4) q5]
            [.If (.Compare (.Name "ch" q6) [.Eq] [.Constant (.str "\\") k5 q7] q8) [.Assign [.Name "escape" q9] (.Constant (.bool true) k6 r1) r2] [.Expr (.Yield (some (.Tuple [.Name "pos" r3, .Name "ch" r4] k7 r5)) r6) r7] d6] d7] [] (envOf q sc Lg f cd))
        ((model prog w).den (.forLoop (.Tuple [.Name "pos" p1, .Name "ch" p2] k1 p3) (.ref e) [.If (.Name "escape" p4)
            [.Expr (.Yield (some (.Tuple [.Name "pos" p5, .BinOp (.Constant (.str "\\") k2 p6) .Add (.Name "ch" p7) p8] k3 p9)) q1) q2, .Assign [.Name "escape" q3] (.Constant (.bool false) k4 q4) q5]
            [.If (.Compare (.Name "ch" q6) [.Eq] [.Constant (.str "\\") k5 q7] q8) [.Assign [.Name "escape" q9] (.Constant (.bool true) k6 r1) r2] [.Expr (.Yield (some (.Tuple [.Name "pos" r3, .Name "ch" r4] k7 r5)) r6) r7] d6] d7] [] (envOf q sc Lg f cd))) fs s := by
  have ho : ∀ c, (A.over c fs).handled = none := fun c => by show (marksOver fs (A.handled, A.handled)).1 = none; rw [hh]; exact hms
  have D : ∀ c, Draws prog w (A.over c fs).in1 it [it] x.cps.size (fun i v => ∃ c u, x.cps[i]? = some c ∧ v = .str ⟨#[c]⟩ u) (fun i h => h.IsStrIter it (strIterType x) x t i) := fun c => draws_strU (A := (A.over c fs).in1) (ho c) it x t
  intro k
  induction k with
  | zero =>
    intro i s₀ s m hki hi F me he hit hst
    have hin : i = x.cps.size := by omega
    subst hin
    obtain ⟨old, he⟩ := he
    refine seg_forLoop ?_
    refine wpAny_pyNext_enum_endD (D _) he hit fun h' hx' => ?_
    have old' : ∀ b o, h₀.get? b = some o → b ≠ it := fun b o e' => Nat.ne_of_lt (Nat.lt_of_lt_of_le (Heap.lt_size e') (Nat.le_trans h0B hBi))
    refine seg_again rfl (seg_block rfl (fin _ _ _ m ⟨F.ns.at' fun o e' => hx' _ _ hLi e', fun b o e' => hx' _ _ (old' b o e') (F.keep b o e'), F.above⟩ me (hst.trans ⟨fun b o hb _ e' => hx' _ _ (Nat.ne_of_lt (Nat.lt_of_lt_of_le hb hBi)) e', rfl, .refl _⟩)))
  | succ k ih =>
    intro i s₀ s m hki hi F me he hit hst
    have hlt : i < x.cps.size := by omega
    obtain ⟨old, he⟩ := he
    refine seg_forLoop ?_
    refine wpAny_pyNext_enum_itemD (D _) he hit hlt hei (fun h => hei (List.mem_singleton.mp h)) fun v h₁ tk hP he₁ hit₁ hT hsz₁ hk₁ => ?_
    obtain ⟨c, u, hc, rfl⟩ := hP
    have hTs : s.heap.objs.size ≠ e := Nat.ne_of_gt (Heap.lt_size he)
    have hei' : e ≠ it := hei
    have old' : ∀ b o, h₀.get? b = some o → b ≠ e ∧ b ≠ it := fun b o e' => ⟨Nat.ne_of_lt (Nat.lt_of_lt_of_le (Heap.lt_size e') (Nat.le_trans h0B hBe)), Nat.ne_of_lt (Nat.lt_of_lt_of_le (Heap.lt_size e') (Nat.le_trans h0B hBi))⟩
    refine wpAny_letOwnedTupleGo_enum he₁ fun h₂ he₂ hs₂ => ?_
    have hT₂ : h₂.get? s.heap.objs.size = some (tupOf #[.int i tk, .str ⟨#[c]⟩ u]) := (hs₂.2 _ hTs).trans hT
    have F₂ : Fr h₀ Lg h₂ m := ⟨F.ns.at' fun o e' => (hs₂.2 _ hLe).trans (hk₁ _ _ hLe hLi e'), fun b o e' => (hs₂.2 _ (old' b o e').1).trans (hk₁ _ _ (old' b o e').1 (old' b o e').2 (F.keep b o e')), F.above⟩
    have st₂ : ∀ b o, b < B → b ≠ Lg → s.heap.get? b = some o → h₂.get? b = some o := fun b o hb _ e' => (hs₂.2 _ (Nat.ne_of_lt (Nat.lt_of_lt_of_le hb hBe))).trans (hk₁ _ _ (Nat.ne_of_lt (Nat.lt_of_lt_of_le hb hBe)) (Nat.ne_of_lt (Nat.lt_of_lt_of_le hb hBi)) e')
    have hit₂ : h₂.IsStrIter it (strIterType x) x t (i + 1) := let ⟨o, ho, r⟩ := hit₁; ⟨o, (hs₂.2 it hei.symm).trans ho, r⟩
    have hsz₂ : h₂.objs.size = s.heap.objs.size + 1 := by rw [hs₂.1, hsz₁]
    -- the tuple is taken apart
    have hf : (sc.kind == .class || (sc.kind == .module && Lg != mainGlobals)) = false := by rw [hk]; rfl
    refine assign_Tuple_tuple (ho _) ⟨_, hT₂, rfl, _, rfl⟩ rfl rfl fun h₃ hx₃ => ?_
    have F₃ : Fr h₀ Lg h₃ m := F₂.extBut hx₃ (Nat.le_refl _)
    have hsz₃ : s.heap.objs.size < h₃.objs.size := Heap.lt_size (hx₃ _ _ (Nat.ne_of_lt (by rw [hsz₂]; exact Nat.lt_succ_self _)) hT₂)
    have e₃ : ∀ b o, b < s.heap.objs.size → h₂.get? b = some o → h₃.get? b = some o := fun b o hb e' => hx₃ b o (Nat.ne_of_lt (by rw [hsz₂]; exact Nat.lt_succ_of_lt hb)) e'
    refine assignInOrder_cons (wpAny_assign_Name (wpAny_storeName_local n1 F₃.ns (fun h₄ hn₄ hs₄ => ?_) hf))
    refine assignInOrder_cons (wpAny_assign_Name (wpAny_storeName_local n3 hn₄ (fun h₅ hn₅ hs₅ => ?_) hf))
    refine assignInOrder_nil ?_
    have F₅ : Fr h₀ Lg h₅ _ := (F₃.set hn₄ hs₄).set hn₅ hs₅
    have m5e : (fun z => if z = Str.ofString "ch" then some (Value.str ⟨#[c]⟩ u) else if z = Str.ofString "pos" then some (Value.int i tk) else m z) (Str.ofString "escape") = some (.bool false) := by
      show (if Str.ofString "escape" = Str.ofString "ch" then _ else if Str.ofString "escape" = Str.ofString "pos" then _ else m "escape") = _
      rw [if_neg (by decide), if_neg (by decide)]; exact me
    have up : ∀ b o, b ≠ Lg → b < s.heap.objs.size → h₂.get? b = some o → h₅.get? b = some o := fun b o hb hb' e' => hs₅.extBut b o hb (hs₄.extBut b o hb (e₃ b o hb' e'))
    have he₅ : IsEnum h₅ e it ((i + 1 : Nat) : Int) (.str ⟨#[c]⟩ u) := up e _ (Ne.symm hLe) (Heap.lt_size he) he₂
    have hit₅ : h₅.IsStrIter it (strIterType x) x t (i + 1) := let ⟨o, ho', r⟩ := hit₂; ⟨o, up it o (Ne.symm hLi) (by obtain ⟨o', ho'', _⟩ := hit; exact Heap.lt_size ho'') ho', r⟩
    have st₅ : GStep Lg B s₀ ⟨h₅, s.gens, s.drawn, tk + 1 + 1 + 1, s.os⟩ := hst.trans ⟨fun b o hb hb' e' => up b o hb' (Heap.lt_size e') (st₂ b o hb hb' e'), rfl, .refl _⟩
    -- the body
    refine seg_execs_cons (seg_If (wpAny_isTrue_value (ld F₅ m5e (wpAny_truthy_bool ?_) hk n2)))
    rw [if_neg Bool.false_ne_true]
    refine seg_execs_cons (seg_If (wpAny_isTrue_Compare1 (ld F₅ (v := .str ⟨#[c]⟩ u) (by show (if Str.ofString "ch" = Str.ofString "ch" then _ else _) = _; rw [if_pos rfl]) (wpAny_Constant_str (eq_str (wpAny_truthy_bool ?_))) hk n3)))
    have hcx : c ≠ 92 := hx c (by
      have : x.cps.toList[i]? = some c := by simpa using hc
      exact List.mem_of_getElem? this)
    have hne : ((⟨#[c]⟩ : Str) == Str.ofString "\\") = false := by
      have e92 : Str.ofString "\\" = ⟨#[92]⟩ := by decide +kernel
      rw [e92]
      refine beq_false_of_ne fun e' => hcx ?_
      injection e' with e'
      simpa using e'
    rw [hne, if_neg Bool.false_ne_true]
    refine seg_execs_cons (seg_Expr_Yield hfs rfl hfg (wpAny_Tuple_spliced (spliced_more (ld F₅ (v := .int i tk) ?mp (spliced_more (ld F₅ (v := .str ⟨#[c]⟩ u) ?mc (spliced_none ?_) hk n3)) hk n1))) hco ?int)
    case mp => show (if Str.ofString "pos" = Str.ofString "ch" then _ else if Str.ofString "pos" = Str.ofString "pos" then _ else _) = _; rw [if_neg (by decide), if_pos rfl]
    case mc => show (if Str.ofString "ch" = Str.ofString "ch" then _ else _) = _; rw [if_pos rfl]
    case int => unfold interactive; rw [show (envOf q sc Lg f cd).scope.kind = .function from hk]; rfl
    refine ⟨show 2 ≤ sizeLine by decide, fun kap hkap => ?_⟩
    have hup : ∀ b o, h₅.get? b = some o → (h₅.push (tupOf #[.int i tk, .str ⟨#[c]⟩ u])).get? b = some o := fun b o e' => Heap.get?_push_of_some _ e'
    have hB5 : B ≤ h₅.objs.size := Nat.le_trans hBe (Nat.le_of_lt (Heap.lt_size he₅))
    refine ⟨⟨h₅.objs.size, #[.int i tk, .str ⟨#[c]⟩ u], rfl, hB5, Heap.get?_push_size _ rfl, ?_⟩, st₅.trans ⟨fun b o _ _ e' => hup b o e', rfl, .refl _⟩, fun s'' hK hk0 hB₀ => ?_⟩
    · exact ⟨c, tk, u, by rw [show x.cps.size - 1 - k = i by omega]; exact hc, by rw [show x.cps.size - 1 - k = i by omega]⟩
    · refine hkap _ _ (seg_again rfl (ih (i + 1) s'' s'' _ (by omega) hlt ⟨F₅.ns.at' fun o e' => hK _ _ (.inl rfl) (hup _ _ e'), hk0, F₅.above⟩ m5e ⟨_, hK _ _ (.inr hBe) (hup _ _ he₅)⟩ ?_ (.refl _ _ _)))
      exact let ⟨o, ho', r⟩ := hit₅; ⟨o, hK _ _ (.inr hBi) (hup _ _ ho'), r⟩

/-- _iter_escaped_chars over a text without a backslash, from its start -/
theorem seg_chars {p1 p2 p3 p4 p5 p6 p7 p8 p9 q1 q2 q3 q4 q5 q6 q7 q8 q9 r1 r2 r3 r4 r5 r6 r7 a1 a2 a3 b1 b2 b3 c1 c2 c3 c4 d1 d2 d3 d4 d5 d6 d7 e1 e2 : Pos} {k1 k2 k3 k4 k5 k6 k7 k8 k9 l1 l2 : Nat} {x : Str} {t : Tok}
    (hh : A.handled = none) (hk : sc.kind = .function) (hco : sc.isCoroutine = false)
    (n1 : (envOf q sc Lg f cd).kindOf "pos" = some .local) (n2 : (envOf q sc Lg f cd).kindOf "escape" = some .local) (n3 : (envOf q sc Lg f cd).kindOf "ch" = some .local) (n4 : (envOf q sc Lg f cd).kindOf "addr" = some .local)
    (hx : ∀ c ∈ x.cps.toList, c ≠ 92) (hLB : Lg < B) (h0B : h₀.objs.size ≤ B)
    (hen : ∀ (A' : Around) (s' : Shared) m (Q E : Value → Shared → Prop), Fr h₀ Lg s'.heap m → Q (.type "enumerate") s' → wpAny (model prog w) A' (eval (.Name "enumerate" c1) (envOf q sc Lg f cd)) Q E s')
    (s : Shared) (m : Str → Option Value) (F : Fr h₀ Lg s.heap m) (ma : m "addr" = some (.str x t)) (hB : B ≤ s.heap.objs.size) :
      Seg (model prog w) A (GFin Lg B) (GPro h₀ Lg B x.cps.size (PChar x)) x.cps.size s
        (.func [.Assign [.Name "pos" a1] (.Constant (.int 0) k8 a2) a3, .Assign [.Name "escape" b1] (.Constant (.bool false) k9 b2) b3,
          .For (.Tuple [.Name "pos" p1, .Name "ch" p2] k1 p3) (.Call (.Name "enumerate" c1) [.Name "addr" c2] [] c3) [.If (.Name "escape" p4)
            [.Expr (.Yield (some (.Tuple [.Name "pos" p5, .BinOp (.Constant (.str "\\") k2 p6) .Add (.Name "ch" p7) p8] k3 p9)) q1) q2, .Assign [.Name "escape" q3] (.Constant (.bool false) k4 q4) q5]
            [.If (.Compare (.Name "ch" q6) [.Eq] [.Constant (.str "\\") k5 q7] q8) [.Assign [.Name "escape" q9] (.Constant (.bool true) k6 r1) r2] [.Expr (.Yield (some (.Tuple [.Name "pos" r3, .Name "ch" r4] k7 r5)) r6) r7] d6] d7] [] c4,
          .If (.Name "escape" d1) [.Expr (.Yield (some (.Tuple [.Name "pos" d2, .Constant (.str "\\") l1 d3] l2 d4)) d5) e1] [] e2] (envOf q sc Lg f cd))
        ((model prog w).den (.func [.Assign [.Name "pos" a1] (.Constant (.int 0) k8 a2) a3, .Assign [.Name "escape" b1] (.Constant (.bool false) k9 b2) b3,
          .For (.Tuple [.Name "pos" p1, .Name "ch" p2] k1 p3) (.Call (.Name "enumerate" c1) [.Name "addr" c2] [] c3) [.If (.Name "escape" p4)
            [.Expr (.Yield (some (.Tuple [.Name "pos" p5, .BinOp (.Constant (.str "\\") k2 p6) .Add (.Name "ch" p7) p8] k3 p9)) q1) q2, .Assign [.Name "escape" q3] (.Constant (.bool false) k4 q4) q5]
            [.If (.Compare (.Name "ch" q6) [.Eq] [.Constant (.str "\\") k5 q7] q8) [.Assign [.Name "escape" q9] (.Constant (.bool true) k6 r1) r2] [.Expr (.Yield (some (.Tuple [.Name "pos" r3, .Name "ch" r4] k7 r5)) r6) r7] d6] d7] [] c4,
          .If (.Name "escape" d1) [.Expr (.Yield (some (.Tuple [.Name "pos" d2, .Constant (.str "\\") l1 d3] l2 d4)) d5) e1] [] e2] (envOf q sc Lg f cd))) [] s := by
  have hf : (sc.kind == .class || (sc.kind == .module && Lg != mainGlobals)) = false := by rw [hk]; rfl
  refine seg_func ?_
  refine seg_execs_cons (seg_wrap (wpAny_Assign_Name (wpAny_Constant_int (wpAny_storeName_local n1 F.ns (fun h₁ hn₁ hs₁ => ?_) hf))))
  refine seg_execs_cons (seg_wrap (wpAny_Assign_Name (wpAny_Constant_bool (wpAny_storeName_local n2 hn₁ (fun h₂ hn₂ hs₂ => ?_) hf))))
  have F₂ : Fr h₀ Lg h₂ _ := (F.set hn₁ hs₁).set hn₂ hs₂
  have z₂ : h₂.objs.size = s.heap.objs.size := by rw [hs₂.1, hs₁.1]
  have st₂ : ∀ b o, b < B → b ≠ Lg → s.heap.get? b = some o → h₂.get? b = some o := fun b o _ hb e => hs₂.extBut b o hb (hs₁.extBut b o hb e)
  have ma₂ : (fun z => if z = Str.ofString "escape" then some (Value.bool false) else if z = Str.ofString "pos" then some (Value.int 0 s.toks) else m z) (Str.ofString "addr") = some (.str x t) := by
    show (if Str.ofString "addr" = Str.ofString "escape" then _ else if Str.ofString "addr" = Str.ofString "pos" then _ else m "addr") = _
    rw [if_neg (by decide), if_neg (by decide)]; exact ma
  have me₂ : (fun z => if z = Str.ofString "escape" then some (Value.bool false) else if z = Str.ofString "pos" then some (Value.int 0 s.toks) else m z) (Str.ofString "escape") = some (.bool false) := by
    show (if Str.ofString "escape" = Str.ofString "escape" then _ else _) = _
    rw [if_pos rfl]
  refine seg_execs_cons (seg_For (fun _ => rfl) ?_)
  rw [arm_eval_Call_Name']
  refine wpAny_bind (hen _ _ _ _ _ F₂ ?_)
  refine Pv.callWith_type1 (spliced_more (ld F₂ ma₂ (spliced_none ?_) hk n4))
  refine call_enumerate_str fun h₃ he hit hz hup => ?_
  refine wpAny_pyIter_enum he fun pp => ?_
  have hle : B ≤ h₂.objs.size := z₂ ▸ hB
  have hLt : Lg < h₂.objs.size := F₂.ns.lt
  refine seg_charsLoop hh hk hco n1 n2 n3 hx ?_ ?_ ?_ ?_ ?_ h0B ?_ rfl rfl ?_ x.cps.size 0 s _ _ (Nat.sub_zero _) (Nat.zero_le _) (F₂.keeps hup) me₂ ⟨_, he⟩ hit ⟨fun b o hb hb' e => hup _ _ (st₂ b o hb hb' e), rfl, .refl _⟩
  · exact Nat.succ_ne_self _
  · exact Nat.le_trans hle (Nat.le_succ _)
  · exact hle
  · exact Nat.ne_of_lt (Nat.lt_succ_of_lt hLt)
  · exact Nat.ne_of_lt hLt
  · rfl
  · intro c s₀ s' m' F' me' hst'
    refine seg_leaf (.ok .next) ?_
    refine seg_execs_cons (seg_If (wpAny_isTrue_value (ld F' me' (wpAny_truthy_bool ?_) hk n2)))
    rw [if_neg Bool.false_ne_true]
    refine seg_execs_nil (seg_execs_nil ?_)
    exact seg_end (.ok (.ret .none)) ⟨rfl, rfl, hst'⟩
end
end Mine
namespace Mine
open PySem PySem.W PySem.Calls PyProof.Rows PySem.Spec

/-- a text as a list of signs -/
noncomputable abbrev T (l : List Nat) : Str := ⟨l.toArray⟩
theorem T_len (l : List Nat) : (T l).length = l.length := by show l.toArray.size = _; simp
theorem nil_T : Str.ofString "" = T [] := by decide +kernel
theorem str_eqT {x y : Str} (h : x.cps.toList = y.cps.toList) : x = y := by
  cases x with | mk a => cases y with | mk b => exact congrArg Str.mk (Array.toList_inj.mp h)
theorem toList_addT (x y : Str) : (x ++ y).cps.toList = x.cps.toList ++ y.cps.toList := by
  show (x.cps ++ y.cps).toList = _; simp
theorem app_T (a b : List Nat) : T a ++ T b = T (a ++ b) := str_eqT (by rw [toList_addT])
/-- the empty text between texts -/
theorem sjoin0 : ∀ ys : List Str, Str.join (Str.ofString "") ys = T (ys.flatMap fun y => y.cps.toList)
  | [] => rfl
  | [y] => str_eqT (by simp [Str.join])
  | y :: z :: r => by
    show y ++ Str.ofString "" ++ Str.join (Str.ofString "") (z :: r) = _
    rw [sjoin0 (z :: r)]
    refine str_eqT ?_
    rw [toList_addT, toList_addT, nil_T]
    simp [List.flatMap_cons]
theorem join0 (ys : List Str) : Txt.join (Str.ofString "") ys = T (ys.flatMap fun y => y.cps.toList) := by
  unfold Txt.join
  rw [StrLaws.glued_eq_join]
  exact sjoin0 ys
theorem slice_a {l a r : List Nat} (hl : l = a ++ r) : Txt.slice (T l) (some 0) (some (a.length : Int)) = T a := by
  show StrLaws.sliceText (T l) (some ((0 : Nat) : Int)) (some (a.length : Int)) = T a
  rw [StrLaws.sliceText_nat _ (Nat.zero_le _) (by rw [T_len, hl]; simp)]
  subst hl
  simp
theorem slice_c {l a c : List Nat} {S : Int} (hl : l = a ++ c) (hS : S = (a.length : Int)) : Txt.slice (T l) (some S) none = T c := by
  show StrLaws.sliceText (T l) (some S) none = T c
  subst hS
  rw [StrLaws.sliceText_from ⟨by lia, by subst hl; simp; lia⟩]
  subst hl
  have e1 : (a ++ c).toArray.toList.length = a.length + c.length := by simp
  have e2 : (((a.length : Nat) : Int)).toNat = a.length := by lia
  show T (((a ++ c).drop _).take _) = T c
  rw [e2]
  simp
  rw [show ((a.length : Int) + (c.length : Int)).toNat - a.length = c.length by lia, List.take_length]
section
variable {prog : Program} {w : World} {A : Around} {E : Value → Shared → Prop} {s : Shared} {t u : Tok} {c : Nat} {k : Int} {l a b : List Nat} {Q : Value → Shared → Prop}
theorem join_h {h₀ : Heap} {L D : Addr} {x : Str} {its : Array Value} {n : Nat} {rest : List (Addr × Obj)} (ys : List (Str × Tok)) (N : News h₀ L s.heap ((D, listOf its n) :: rest)) (e : its = (strValues ys).toArray) (hok : (ys.map (·.1.length)).sum + ys.length * x.length ≤ 16777216)
    (h : ∀ t' k, Q (.str (Txt.join x (ys.map (·.1))) t') { s with toks := k }) : wpAny (model prog w) A (call (.builtin "str.join") [.str x t, .ref D]) Q E s := by
  subst e
  exact SC.join (l := ys) ⟨_, (N _ List.mem_cons_self).1, rfl, _, rfl⟩ rfl (joinOk_of (by rw [List.map_map, List.length_map]; exact hok)) h
end
end Mine
namespace Mine
open PySem PySem.W PySem.Calls PyProof.Rows PySem.Spec

section
variable {w : World} {A : Around} {E : Value → Shared → Prop} {s : Shared} {t u : Tok} {c : Nat} {k : Int} {l a b : List Nat} {Q : Value → Shared → Prop}
theorem contains_q (h : 34 ∈ l) : Txt.contains (T l) (Str.ofString "\"") = true := by
  unfold Txt.contains
  rw [show Str.ofString "\"" = ⟨#[34]⟩ by decide +kernel, StrLaws.found_one]
  exact decide_eq_true (by simpa using h)
theorem len_T (hs : l.length ≤ 100000) (h : Q (.int (l.length : Int) (s.toks + 1)) { s with toks := s.toks + 1 + 1 }) : wpAny (model rwp w) A (call (.builtin "len") [.str (T l) t]) Q E s := by
  have e : (T l).length = l.length := T_len l
  refine len_str (by rw [e]; lia) ?_
  rw [e]; exact h
theorem notin_q (hl : 34 ∈ l) (h : Q (.bool false) s) : wpAny (model rwp w) A (compareOp .NotIn (.str (Str.ofString "\"") u) (.str (T l) t)) Q E s := by
  refine SB.notContains ?_
  rw [contains_q hl]; exact h
theorem quote_T : Str.ofString "\"" = ⟨#[34]⟩ := by decide +kernel
theorem eq_q1 (h : Q (.bool true) s) : wpAny (model rwp w) A (compareOp .Eq (.str ⟨#[34]⟩ t) (.str (Str.ofString "\"") u)) Q E s := by
  refine eq_str ?_
  rw [quote_T, beq_self_eq_true]; exact h
theorem eq_q0 (hc : c ≠ 34) (h : Q (.bool false) s) : wpAny (model rwp w) A (compareOp .Eq (.str ⟨#[c]⟩ t) (.str (Str.ofString "\"") u)) Q E s := by
  refine eq_str ?_
  rw [quote_T, beq_false_of_ne (fun e => hc (by injection e with e; simpa using e))]; exact h
end
section
variable {m : Str → Option Value} {v1 v2 v3 v4 : Option Value}
theorem as4 (h1 : m "start" = v1) (h2 : m "open_pos" = v2) (h3 : m "result" = v3) (h4 : m "addr" = v4) : m = fun z : Str => if z = "start" then v1 else if z = "open_pos" then v2 else if z = "result" then v3 else if z = "addr" then v4 else m z := by
  funext z
  by_cases e1 : z = "start"
  · rw [if_pos e1, e1, h1]
  rw [if_neg e1]
  by_cases e2 : z = "open_pos"
  · rw [if_pos e2, e2, h2]
  rw [if_neg e2]
  by_cases e3 : z = "result"
  · rw [if_pos e3, e3, h3]
  rw [if_neg e3]
  by_cases e4 : z = "addr"
  · rw [if_pos e4, e4, h4]
  rw [if_neg e4]
end
/-- the loop of _strip_quoted_realnames over a ++ quote ++ b ++ quote ++ c -/
noncomputable def JS (Z : Addr) (rest : List (Addr × Obj)) (l a b : List Nat) (i : Nat) (m : Str → Option Value) (nx : List (Addr × Obj)) : Prop :=
  ∃ ta tr, m "addr" = some (.str (T l) ta) ∧ m "result" = some (.ref Z) ∧
    ((i ≤ a.length ∧ m "start" = some (.int 0 tr) ∧ m "open_pos" = some .none ∧ nx = (Z, listOf #[] 0) :: rest) ∨
     (a.length < i ∧ i ≤ a.length + 1 + b.length ∧ m "start" = some (.int 0 tr) ∧ (∃ t, m "open_pos" = some (.int (a.length : Int) t)) ∧ nx = (Z, listOf #[] 0) :: rest) ∨
     (a.length + 1 + b.length < i ∧ (∃ S : Int, S = ((a.length + 1 + b.length + 1 : Nat) : Int) ∧ m "start" = some (.int S tr)) ∧ m "open_pos" = some .none ∧ ∃ u, nx = (Z, if a = [] then listOf #[] 0 else listOf #[.str (T a) u] 1) :: rest))
theorem app_h {w : World} {A : Around} {E : Value → Shared → Prop} {s : Shared} {h₀ : Heap} {L a : Addr} {m : Str → Option Value} {items : Array Value} {c : Nat} {v : Value} {rest : List (Addr × Obj)} {Q : Value → Shared → Prop} (F : Fr h₀ L s.heap m) (N : News h₀ L s.heap ((a, listOf items c) :: rest)) (hne : ∀ p ∈ rest, p.1 ≠ a) (hl : items.size ≤ 1000)
    (h : ∀ h', Fr h₀ L h' m → News h₀ L h' ((a, listOf (items.push v) (c + 1)) :: rest) → Q .none { s with heap := h' }) : wpAny (model rwp w) A (call (.builtin "list.append") [.ref a, v]) Q E s :=
  append_K F N (Upd.head hne) h (Nat.le_trans hl (by decide))
theorem led_ne {Z : Addr} {t : Addr × Obj} {rest own : List (Addr × Obj)} (h : ∀ p ∈ rest, p.1 < Z) (ho : OwnOff (t :: own) (Z :: rest.map (·.1))) : ∀ p ∈ t :: (rest ++ own), p.1 ≠ Z := fun p hp => by
  rcases List.mem_cons.mp hp with h' | h'
  · exact ho p (h' ▸ List.mem_cons_self) Z List.mem_cons_self
  · rcases List.mem_append.mp h' with h' | h'
    · exact Nat.ne_of_lt (h p h')
    · exact ho p (List.mem_cons_of_mem _ h') Z List.mem_cons_self
theorem led_swap {h₀ h : Heap} {L : Addr} {z t : Addr × Obj} {rest own : List (Addr × Obj)} (N : News h₀ L h (z :: (rest ++ t :: own))) : News h₀ L h (z :: t :: (rest ++ own)) := fun p hp => N p (by
  simp only [List.mem_cons, List.mem_append] at hp ⊢
  rcases hp with h | h | h | h
  · exact .inl h
  · exact .inr (.inr (.inl h))
  · exact .inr (.inl h)
  · exact .inr (.inr (.inr h)))
theorem JS.start {Z : Addr} {rest : List (Addr × Obj)} {l a b : List Nat} {m : Str → Option Value} {ta tr : Tok} (h1 : m "addr" = some (.str (T l) ta)) (h2 : m "result" = some (.ref Z)) (h3 : m "start" = some (.int 0 tr)) (h4 : m "open_pos" = some .none) : JS Z rest l a b 0 m ((Z, listOf #[] 0) :: rest) :=
  ⟨ta, tr, h1, h2, .inl ⟨Nat.zero_le _, h3, h4, rfl⟩⟩
theorem LEndG.of {h₀ : Heap} {L : Addr} {J : (Str → Option Value) → List (Addr × Obj) → Prop} {own nx news' : List (Addr × Obj)} {adr : List Addr} {s₁ s₂ : Shared} {Q : Flow → Shared → Prop} {m' : Str → Option Value} (hj : J m' nx) (F : Fr h₀ L s₂.heap m') (N : News h₀ L s₂.heap news') (hL : Later s₁ s₂) (hg : s₂.gens = s₁.gens) (ha : nx.map (·.1) = adr) (hn : ∀ p ∈ nx, p ∈ news') (ho : ∀ p ∈ own, p ∈ news') : LEndG h₀ L J own adr s₁ Q .next s₂ :=
  ⟨m', _, nx, hL, hg, F, N, hn, ho, ha, hj⟩
theorem LEndG.js {h₀ : Heap} {L Z : Addr} {l a b : List Nat} {i : Nat} {ob ob₀ : Obj} {t : Addr × Obj} {own rest : List (Addr × Obj)} {s₁ s₂ : Shared} {Q : Flow → Shared → Prop} {m' : Str → Option Value} (N : News h₀ L s₂.heap ((Z, ob) :: t :: (rest ++ own))) (F : Fr h₀ L s₂.heap m') (hj : JS Z rest l a b (i + 1) m' ((Z, ob) :: rest)) (hL : Later s₁ s₂) (hg : s₂.gens = s₁.gens) : LEndG h₀ L (JS Z rest l a b (i + 1)) own (((Z, ob₀) :: rest).map (·.1)) s₁ Q .next s₂ :=
  LEndG.of hj F N hL hg rfl (fun p hp => by
    rcases List.mem_cons.mp hp with h | h
    · exact h ▸ List.mem_cons_self
    · exact List.mem_cons_of_mem _ (List.mem_cons_of_mem _ (List.mem_append_left _ h))) fun p hp => List.mem_cons_of_mem _ (List.mem_cons_of_mem _ (List.mem_append_right _ hp))
theorem no_add {n k : Nat} : n + 1 + k ≠ n := Nat.ne_of_gt (Nat.lt_of_lt_of_le (Nat.lt_succ_self _) (Nat.le_add_right _ _))
theorem at_cut {a r : List Nat} {q ch : Nat} : ∀ {i : Nat}, (a ++ q :: r)[i]? = some ch → (i < a.length ∧ ch ∈ a) ∨ (i = a.length ∧ ch = q) ∨ ∃ k, i = a.length + 1 + k ∧ r[k]? = some ch := by
  induction a with
  | nil =>
    intro i h
    cases i with
    | zero => exact .inr (.inl ⟨rfl, (Option.some.inj h).symm⟩)
    | succ k => exact .inr (.inr ⟨k, Nat.add_comm k 1, h⟩)
  | cons x a ih =>
    intro i h
    cases i with
    | zero => exact .inl ⟨Nat.succ_pos _, Option.some.inj h ▸ List.mem_cons_self⟩
    | succ i =>
      rcases ih (i := i) h with ⟨h1, m⟩ | ⟨h1, e⟩ | ⟨k, e, h⟩
      · exact .inl ⟨Nat.succ_lt_succ h1, List.mem_cons_of_mem _ m⟩
      · exact .inr (.inl ⟨congrArg (· + 1) h1, e⟩)
      · exact .inr (.inr ⟨k, e ▸ (Nat.succ_add (a.length + 1) k).symm, h⟩)
theorem pos34 {l a b c : List Nat} (hl : l = a ++ 34 :: (b ++ 34 :: c)) (ha : 34 ∉ a) (hb : 34 ∉ b) (hc : 34 ∉ c) {i ch : Nat} (h : (T l).cps[i]? = some ch) : ch = 34 ↔ (i = a.length ∨ i = a.length + 1 + b.length) := by
  have h' : l[i]? = some ch := by simpa using h
  subst hl
  rcases at_cut h' with ⟨h1, m⟩ | ⟨h1, e⟩ | ⟨k, e, h2⟩
  · exact ⟨fun e => absurd (e ▸ m) ha, fun o => o.elim (fun e => absurd e (Nat.ne_of_lt h1)) fun e => absurd (e ▸ h1) (Nat.not_lt.mpr (Nat.le_trans (Nat.le_add_right _ 1) (Nat.le_add_right _ _)))⟩
  · exact ⟨fun _ => .inl h1, fun _ => e⟩
  · subst e
    rcases at_cut h2 with ⟨h1, m⟩ | ⟨h1, e'⟩ | ⟨k', e', h3⟩
    · exact ⟨fun q => absurd (q ▸ m) hb, fun o => o.elim (fun q => absurd q no_add) fun q => absurd (Nat.add_left_cancel q) (Nat.ne_of_lt h1)⟩
    · exact ⟨fun _ => .inr (congrArg _ h1), fun _ => e'⟩
    · subst e'
      exact ⟨fun q => absurd (q ▸ List.mem_of_getElem? h3) hc, fun o => o.elim (fun q => absurd q no_add) fun q => absurd (Nat.add_left_cancel q) no_add⟩
local macro_rules | `(tactic| walk_at "compareOp Eq str str") => `(tactic| with_reducible apply eq_q0; assumption)
local macro_rules | `(tactic| walk_at "compareOp Eq str str") => `(tactic| with_reducible apply eq_q1)
local macro_rules | `(tactic| walk_at "call builtin:list.append") => `(tactic| k_dflt (apply app_h; k_asm; k_asm; assumption; (case hl => simp); intros))
local macro_rules | `(tactic| walk_at "call builtin:len") => `(tactic| with_reducible apply len_T; lia)
local macro_rules | `(tactic| walk_at "compareOp NotIn str str") => `(tactic| with_reducible apply notin_q; assumption)
/-- a contract with room for two calls, and only the run's later state known -/
noncomputable abbrev CtrR (w : World) (loose : List Str) (mean : ExcName → Option Value) (mg mb : Str → Option Value) (f : Addr) (pre : Prop) (vs : List Value) (R : Tok → Value) : Prop :=
  ∀ (news : List (Addr × Obj)) (dp un : Nat) (gd : Option (List Code)) (cn : Str) (cs : Scope) (a : Addr) (ccd : Value) (cl : List (Str × Addr)) (outer : List Env) (A₀ : Around) (base h₀ : Heap) (L : Addr) (m : Str → Option Value) (s : Shared) (Q E : Value → Shared → Prop),
    Below A₀ base outer h₀ → Fr h₀ L s.heap m → (K w.params).In h₀ → News h₀ L s.heap news → Top qv loose mean mg mb h₀ → cs.kind = .function →
    pre → dp + 3 < recursionLimit → un + 30 < cLine → (∀ (t : Tok) (s' : Shared), Later s s' → Fr h₀ L s'.heap m → News h₀ L s'.heap news → Q (R t) s') →
      wpAny (model rwp w) (ktrTop dp un gd cn cs L a ccd cl outer) (call (.ref f) vs) Q E s
set_option maxHeartbeats 2000000 in
theorem c_strip (w : World) (loose : List Str) (mean : ExcName → Option Value) (mg mb : Str → Option Value) (l a b c : List Nat) (hl : l = a ++ 34 :: (b ++ 34 :: c)) (hq : 34 ∈ l) (hx : ∀ z ∈ l, z ≠ 92) (ha : 34 ∉ a) (hb : 34 ∉ b) (hc : 34 ∉ c) (hsz : l.length ≤ 1000) (t : Tok) :
   CtrR w loose mean mg mb 77 True [.str (T l) t] (fun t => .str (T (a ++ c)) t) := by
  unfold CtrR rwp
  k_fill
  intros; rename_i hret
  refine wpAny_call ?_
  k_dflt cell_enter
  k_steps
  refine wpAny_For ?_ (by intro _; rfl)
  k_steps
  refine wpAny_call ?_
  k_dflt (refine' code_gen ?k1 ?k2 ?k3 ?k4 ?k6 ?k7 ?k8 ?k9 ?kB ?_ ?c2 ?c3 ?c4 ?c5)
  case k1 => k_asm
  case k2 => k_asm
  case k3 => k_asm
  case k4 => k_asm
  case k6 => k_is
  case k7 => k_is
  case k8 => ktr_room
  case k9 => exact BindsTo.of_eq rfl
  case kB => exact locs rfl
  case c2 => exact rfl
  case c3 => exact rfl
  case c4 => exact rfl
  case c5 => decide
  intro hg tkg FG NG Fg Ig zg hLg hNg
  dsimp only at FG NG Fg Ig zg hLg hNg ⊢

  rename_i h9 _ _
  generalize hLgE : h9.objs.size = Lg at FG NG Fg Ig zg hLg hNg ⊢
  refine' for_gen (g := ?gg) (N := (T l).cps.size) (P := PChar (T l)) (B := Lg + 2) (by rfl) (by ktr_room) (by rfl) (Nat.succ_ne_self _) (Nat.lt_of_lt_of_le hLg (Nat.le_add_right _ 2)) (Nat.ne_of_lt hLg) (Nat.ne_of_lt (Nat.lt_succ_of_lt hLg)) (fun p hp => ⟨Nat.lt_of_lt_of_le (hNg p hp) (Nat.le_add_right _ 2), Nat.ne_of_lt (hNg p hp), Nat.ne_of_lt (Nat.lt_succ_of_lt (hNg p hp))⟩)
    (Top.nolimit (by assumption)) Fg.above (Nat.le_trans Fg.above (Nat.le_add_right _ 2)) (Nat.le_trans Fg.above (Nat.le_succ _)) ?G FG NG (JS ?Zz ?rr l a b) ?J0 ?step ?done ?bare
  case J0 =>
    refine' JS.start ?h1 ?h2 ?h3 ?h4
    case h1 => rfl
    case h2 => rfl
    case h3 => rfl
    case h4 => rfl
  case G =>
    refine' ⟨Ig, ?gs, ?e1, ?e2⟩
    case e1 => exact Array.getElem?_push_size
    intro s'' hK hk0 hB
    refine ⟨rfl, ?_⟩
    have hx' : ∀ c ∈ (T l).cps.toList, c ≠ 92 := by simpa using hx
    refine' seg_chars ?a1 ?a2 ?a3 ?a4 ?a5 ?a6 ?a7 hx' (Nat.lt_succ_of_lt (Nat.lt_succ_self _)) (Nat.le_trans Fg.above (Nat.le_add_right _ 2)) ?hen s'' _ ⟨Fg.ns.at' fun o e => hK _ _ (.inl rfl) e, hk0, Fg.above⟩ ?a8 hB
    case a1 => rfl
    case a2 => rfl
    case a3 => rfl
    case a4 => rfl
    case a5 => rfl
    case a6 => rfl
    case a7 => rfl
    case a8 => rfl
    case hen =>
      intro A' s' m' Q' E' F₁ hQ
      k_steps
      exact hQ
  case bare => exact bare_push
  case step =>
    intro i T' items m₁ news₁ s₁ own hL hi hP hJ ha' ho F₁ N₁
    obtain ⟨ch, tp, tc, hch, rfl⟩ := hP
    obtain ⟨ta, tr, g1, g2, hJ⟩ := hJ
    obtain ⟨h₁, gs₁, d₁, tk₁, os₁⟩ := s₁
    dsimp only at F₁ N₁
    have h34' := pos34 hl ha hb hc hch
    rcases hJ with ⟨j1, j2, j3, rfl⟩ | ⟨j1, j2, j3, ⟨jt, j4⟩, rfl⟩ | ⟨j1, j2, j3, u, rfl⟩
    · rw [as4 j2 j3 g2 g1] at F₁
      simp only [List.map_cons, List.cons_append] at ho N₁
      replace N₁ := led_swap N₁
      by_cases h34 : ch = 34
      · have hi' : i = a.length := by have := h34'.mp h34; lia
        subst h34
        k_steps
        refine LEndG.js (by assumption) (by assumption) ⟨ta, tr, by rfl, by rfl, .inr (.inl ⟨by lia, by lia, by rfl, ⟨tp, by rw [← hi']; rfl⟩, rfl⟩)⟩ ⟨rfl, rfl⟩ rfl
      · have hi' : i ≠ a.length := fun e => h34 (h34'.mpr (.inl e))
        k_steps
        refine LEndG.js (by assumption) (by assumption) ⟨ta, tr, by rfl, by rfl, .inl ⟨by lia, by rfl, by rfl, rfl⟩⟩ ⟨rfl, rfl⟩ rfl
    · rw [as4 j3 j4 g2 g1] at F₁
      simp only [List.map_cons, List.cons_append] at ho N₁
      replace N₁ := led_swap N₁
      have hne := led_ne (by assumption) ho
      by_cases h34 : ch = 34
      · have hi' : i = a.length + 1 + b.length := by have := h34'.mp h34; lia
        subst h34
        k_steps
        · rw [slice_a hl] at *
          refine' LEndG.js (by assumption) (by assumption) ⟨ta, _, by rfl, by rfl, .inr (.inr ⟨by lia, ⟨_, ?f1, by rfl⟩, by rfl, ⟨?fu, ?f2⟩⟩)⟩ ⟨rfl, rfl⟩ rfl
          case f1 => lia
          case f2 => rw [if_neg (by intro e; subst e; contradiction)]; rfl
        · have ha0 : a = [] := List.eq_nil_of_length_eq_zero (by lia)
          refine LEndG.js (by assumption) (by assumption) ⟨ta, _, by rfl, by rfl, .inr (.inr ⟨by lia, ⟨_, ?_, by rfl⟩, by rfl, tp, by rw [if_pos ha0]⟩)⟩ ⟨rfl, rfl⟩ rfl
          lia
      · have hi' : i ≠ a.length + 1 + b.length := fun e => h34 (h34'.mpr (.inr e))
        k_steps
        refine LEndG.js (by assumption) (by assumption) ⟨ta, tr, by rfl, by rfl, .inr (.inl ⟨by lia, by lia, by rfl, ⟨jt, by rfl⟩, rfl⟩)⟩ ⟨rfl, rfl⟩ rfl
    · obtain ⟨S, hS, j2⟩ := j2
      rw [as4 j2 j3 g2 g1] at F₁
      simp only [List.map_cons, List.cons_append] at ho N₁
      replace N₁ := led_swap N₁
      have h34 : ch ≠ 34 := fun e => by have := h34'.mp e; lia
      k_steps
      refine LEndG.js (by assumption) (by assumption) ⟨ta, tr, by rfl, by rfl, .inr (.inr ⟨by lia, ⟨S, hS, by rfl⟩, by rfl, u, rfl⟩)⟩ ⟨rfl, rfl⟩ rfl
  case done =>
    intro m₁ news₁ s₁ hL hJ F₁ N₁
    obtain ⟨ta, tr, g1, g2, hJ⟩ := hJ
    obtain ⟨h₁, gs₁, d₁, tk₁, os₁⟩ := s₁
    dsimp only at F₁ N₁
    have hlen : (T l).cps.size = a.length + 1 + b.length + 1 + c.length := by subst hl; simp; lia
    rcases hJ with ⟨j1, _⟩ | ⟨_, j1, _⟩ | ⟨j1, j2, j3, u, rfl⟩
    · lia
    · lia
    · obtain ⟨S, hS, j2⟩ := j2
      rw [as4 j2 j3 g2 g1] at F₁
      have hl' : l = (a ++ 34 :: (b ++ [34])) ++ c := by rw [hl]; simp
      have hS' : S = ((a ++ 34 :: (b ++ [34])).length : Int) := by rw [hS]; simp; lia
      have hln : l.length = a.length + 1 + b.length + 1 + c.length := by rw [hl]; simp; lia
      have hac : a.length + c.length ≤ 1000 := by rw [hl] at hsz; simp at hsz; lia
      by_cases ha0 : a = []
      · rw [if_pos ha0] at N₁
        subst ha0
        k_steps
        · rw [slice_c hl' hS'] at *
          refine join_h [(_, _)] (by assumption) rfl ?ok1 ?_
          case ok1 => (simp only [List.map_cons, List.map_nil, List.sum_cons, List.sum_nil, List.length_cons, List.length_nil, nil_T, T_len] at *; lia)
          intro t' k'
          k_steps
          rw [join0, show ([(T c, _)].map (·.1)).flatMap (fun y : Str => y.cps.toList) = [] ++ c by simp]
          exact hret _ _ ⟨hL.1, hL.2.trans later_push⟩ (by assumption) (cb_drop (by assumption) fun p hp => List.mem_cons_of_mem _ hp)
        · have hc0 : c = [] := List.eq_nil_of_length_eq_zero (by lia)
          subst hc0
          rw [join0]
          exact hret _ _ ⟨hL.1, hL.2.trans later_push⟩ (by assumption) (cb_drop (by assumption) fun p hp => List.mem_cons_of_mem _ hp)
      rw [if_neg ha0] at N₁
      k_steps
      · rw [slice_c hl' hS'] at *
        refine join_h [(_, _), (_, _)] (by assumption) rfl ?ok2 ?_
        case ok2 => (simp only [List.map_cons, List.map_nil, List.sum_cons, List.sum_nil, List.length_cons, List.length_nil, nil_T, T_len] at *; lia)
        intro t' k'
        k_steps
        rw [join0, show ([(T a, _), (T c, _)].map (·.1)).flatMap (fun y : Str => y.cps.toList) = a ++ c by simp]
        exact hret _ _ ⟨hL.1, hL.2.trans later_push⟩ (by assumption) (cb_drop (by assumption) fun p hp => List.mem_cons_of_mem _ hp)
      · refine join_h [(_, _)] (by assumption) rfl ?ok3 ?_
        case ok3 => (simp only [List.map_cons, List.map_nil, List.sum_cons, List.sum_nil, List.length_cons, List.length_nil, nil_T, T_len] at *; lia)
        intro t' k'
        k_steps
        have hc0 : c = [] := List.eq_nil_of_length_eq_zero (by lia)
        subst hc0
        rw [join0, show ([(T a, _)].map (·.1)).flatMap (fun y : Str => y.cps.toList) = a ++ [] by simp]
        exact hret _ _ ⟨hL.1, hL.2.trans later_push⟩ (by assumption) (cb_drop (by assumption) fun p hp => List.mem_cons_of_mem _ hp)
end Mine
namespace Mine
open PySem PySem.W PySem.Calls PyProof.Rows PySem.Spec PyProof.Rows.LCg PyProof.Rows.LCt

section
variable {prog : Program} {w : World} {A : Around} {E : Value → Shared → Prop} {s : Shared} {h₀ : Heap} {L : Addr} {m : Str → Option Value} {env : Env}
theorem walks_strU (hh : A.handled = none) (I : Addr) (x : Str) (t : Tok) : Walks prog w A I [I] [I] x.cps.size (SignAt x) (fun i h => h.IsStrIter I (strIterType x) x t i) := by
  unfold strIterType
  by_cases e : (x.cps.all (· < 128)) = true
  · rw [if_pos e]; exact Walks.strAscii hh I x t
  · rw [if_neg e]; exact Walks.strWide hh I x t
theorem str_st {I : Addr} {y : Str} {t : Tok} : ∀ i (h h' : Heap) (o : Obj) (nw : List (Addr × Obj)), h.IsStrIter I (strIterType y) y t i → h.get? I = some o → h'.get? I = some o → (∀ b o, h₀.get? b = some o → h'.get? b = some o) → News h₀ L h' nw → True → h'.IsStrIter I (strIterType y) y t i :=
  fun i h h' o nw st e e' _ _ _ => by obtain ⟨o', q, r⟩ := st; rw [e] at q; cases q; exact ⟨o, e', r⟩
/-- a list comprehension with one test over a text -/
theorem ListComp_S {ct elt iter : PySem.Expr} {x : Str} {px : Pos} {scope : Scope} {cl : List (Str × Addr)} {pos : Pos} {Q : Value → Shared → Prop}
    (hclos : closureFor scope env = pure cl) (hcell : ∀ y ∈ scope.names, y.2 ≠ .cell) (hkind : scope.kind = .function)
    (hnames : ∀ y ∈ scope.names, y.2 = .local → scope.names.lookup y.1 = some .local) (hx : scope.names.lookup x = some .local) (hh : A.handled = none)
    (h : wpAny (model prog w) A (eval iter env) (fun xv s₁ => ∃ (y : Str) (t : Tok) (news : List (Addr × Obj)), xv = .str y t ∧ Fr h₀ L s₁.heap m ∧ News h₀ L s₁.heap news ∧ y.cps.size ≤ sizeLine ∧
      ∀ s₂ : Shared, (∃ h, s₂ = { s₁ with heap := h }) → CompRestT prog w A h₀ L m env ct elt x scope cl s₂ (fun _ => True) (SignAt y) (FinE h₀ L m s₂ Q) y.cps.size 0 [] news) E s)
    (hs : ∀ x, foldedSetIterable iter env x = pure x := by intro _; rfl) :
    wpAny (model prog w) A (eval (.ListComp elt [⟨.Name x px, iter, [ct], 0⟩] scope pos) env) Q E s := by
  rw [eval_ListComp]
  refine wpAny_comprehension_free (use := none) rfl hs hclos hkind hnames (wpAny_mono h (fun xv s₁ h₁ => ?_) fun _ _ e => e)
  obtain ⟨y, t, news, rfl, F, N, hsz, R⟩ := h₁
  have up : ∀ b o, s₁.heap.get? b = some o → (s₁.heap.push { cls := .type (strIterType y), data := .fields #[.str y t, .int 0 0] }).get? b = some o := fun b o e => Heap.get?_push_of_some _ e
  refine wpAny_pyIter_strU ?_
  refine block_T (walks_strU hh s₁.heap.objs.size y t) hsz (fun i h st => let ⟨o, e, _⟩ := st; ⟨o, e⟩) str_st hcell hkind hx ⟨_, Heap.get?_push_size _ rfl, rfl, rfl⟩ (fun b hb => ?_)
    (F.keeps up) (N.grown up) (Nat.ne_of_lt F.ns.lt) (next_is_new F) (fun p hp => Nat.ne_of_lt (Heap.lt_size (N p hp).1)) trivial (R _ ⟨_, rfl⟩) ?_
  · rw [List.mem_singleton.mp hb]
    show s₁.heap.objs.size < (s₁.heap.push _).objs.size
    rw [Heap.size_push]; exact Nat.lt_succ_self _
  · intro D C h tk m' ys news' F' N' o1 hn hC₀ hD₀ hCL hDL hCD offC fin
    refine ⟨m', hn, fun h'' hs'' => fin D h'' tk (F'.change hs'' hCL hC₀) (fun p hp => ?_) o1⟩
    refine ⟨hs''.extBut _ _ ?_ (N' p hp).1, (N' p hp).2⟩
    rcases List.mem_cons.mp hp with rfl | hp
    · exact Ne.symm hCD
    · exact offC p hp
/-- its turns, where each sign is kept or not and told by a text -/
theorem rest_text {ct elt : PySem.Expr} {x : Str} {scope : Scope} {cl : List (Str × Addr)} {S : List (Addr × Obj) → Prop} {Fin : List Value → List (Addr × Obj) → Prop} {news : List (Addr × Obj)} (keep : Nat → Bool) (img : Nat → Str) (y : Str)
    (turn : ∀ c t I oI C oC D m₂ ys h tk (E' : Value → Shared → Prop), c ∈ y.cps.toList → NsObj oC m₂ → m₂ x = some (.str ⟨#[c]⟩ t) → Fr h₀ L h m → News h₀ L h ((I, oI) :: (C, oC) :: (D, lst ys) :: news) → Off3 I C D news → ((@Ne Nat I C) ∧ (@Ne Nat I D) ∧ (@Ne Nat C D)) →
      wpAny (model prog w) A (isTrue ct (compEnvC scope cl C env) (eval ct (compEnvC scope cl C env))) (fun ok s' => if ok = true then
        wpAny (model prog w) A (eval elt (compEnvC scope cl C env)) (CompEnd h₀ L m { s with heap := h, toks := tk } I oI C oC D (lst ys) S (fun y news' => keep c = true ∧ news' = news ∧ ∃ t, y = .str (img c) t)) E' s'
        else CompEnd h₀ L m { s with heap := h, toks := tk } I oI C oC D (lst ys) S (fun _ news' => keep c = false ∧ news' = news) Value.none s') E' { s with heap := h, toks := tk })
    (fin : ∀ l : List (Str × Tok), l.map (·.1) = (y.cps.toList.filter keep).map img → Fin (strValues l) news) : CompRestT prog w A h₀ L m env ct elt x scope cl s S (SignAt y) Fin y.cps.size 0 [] news := by
  have key : ∀ (k i : Nat) (l : List (Str × Tok)), k + i = y.cps.size → l.map (·.1) = ((y.cps.toList.take i).filter keep).map img → CompRestT prog w A h₀ L m env ct elt x scope cl s S (SignAt y) Fin k i (strValues l) news := by
    intro k
    induction k with
    | zero =>
      intro i l hk hl
      refine CompRestT.zero (fin l ?_)
      rw [hl, List.take_of_length_le (by simp; lia)]
    | succ k ih =>
      intro i l hk hl
      refine CompRestT.succ fun v I oI C oC D m₂ h tk E' hP hC hx F N off ne => ?_
      obtain ⟨c, t, hc, rfl⟩ := hP
      have hc' : y.cps.toList[i]? = some c := by simpa using hc
      refine wpAny_mono (turn c t I oI C oC D m₂ (strValues l) h tk E' (List.mem_of_getElem? hc') hC hx F N off ne) (fun ok s' h' => ?_) fun _ _ e => e
      have tk1 : y.cps.toList.take (i + 1) = y.cps.toList.take i ++ [c] := by rw [List.take_add_one, hc']; rfl
      cases ok with
      | true =>
        simp only [if_true] at h' ⊢
        refine wpAny_mono h' (fun y' s'' h'' => ?_) fun _ _ e => e
        obtain ⟨h₂, tk₂, nw, e, F₂, N₂, off₂, hS₂, hk₂, rfl, u, rfl⟩ := h''
        refine ⟨h₂, tk₂, nw, e, F₂, N₂, off₂, hS₂, ?_⟩
        have := ih (i + 1) (l ++ [(img c, u)]) (by lia) (by rw [List.map_append, hl, tk1, List.filter_append, List.map_append]; simp [hk₂])
        simpa [strValues] using this
      | false =>
        simp only [Bool.false_eq_true, if_false] at h' ⊢
        obtain ⟨h₂, tk₂, nw, e, F₂, N₂, off₂, hS₂, hk₂, rfl⟩ := h'
        refine ⟨h₂, tk₂, nw, e, F₂, N₂, off₂, hS₂, ?_⟩
        exact ih (i + 1) l (by lia) (by rw [hl, tk1, List.filter_append]; simp [hk₂])
  exact key y.cps.size 0 [] rfl (by simp)
end
end Mine
namespace Mine
open PySem PySem.W PySem.Calls PyProof.Rows PySem.Spec

noncomputable def row (hid : Bool) (sz : List Nat) (j take at' u : Nat) (en : List Nat) (i : Nat) : List Nat :=
  if i ≠ j then List.replicate (sz.getD i 0) 46 ++ en
  else if hid then List.replicate at' 46 ++ List.replicate take u ++ List.replicate (sz.getD i 0 - take - at') 46 ++ en
  else List.replicate at' 46 ++ [34] ++ List.replicate take 46 ++ [34] ++ List.replicate (sz.getD i 0 - take - at') 46 ++ en
noncomputable def sumRows (hid : Bool) (sz : List Nat) (j take at' u : Nat) (en : List Nat) : Nat → List Nat
  | 0 => []
  | i + 1 => sumRows hid sz j take at' u en i ++ row hid sz j take at' u en i
noncomputable def restRows (sz : List Nat) (j take : Nat) (en : List Nat) : List Nat :=
  [0, 1, 2].flatMap fun i => List.replicate (if i = j then sz.getD i 0 - take else sz.getD i 0) 46 ++ en
theorem rep_join (a b c x : Nat) (h : a + b = c) : List.replicate a x ++ List.replicate b x = List.replicate c x := by
  subst h; simp
theorem no34 {en : List Nat} (hen : ∀ z ∈ en, z = 13 ∨ z = 10) : 34 ∉ en := fun h => by have := hen 34 h; omega
theorem mem_rep {n x y : Nat} (h : y ∈ List.replicate n x) : y = x := (List.mem_replicate.mp h).2
/-- one row of what is left -/
noncomputable def restRow (sz : List Nat) (j take : Nat) (en : List Nat) (i : Nat) : List Nat := List.replicate (if i = j then sz.getD i 0 - take else sz.getD i 0) 46 ++ en
theorem rest_eq {sz : List Nat} {j take : Nat} {en : List Nat} : restRows sz j take en = [] ++ restRow sz j take en 0 ++ restRow sz j take en 1 ++ restRow sz j take en 2 := by
  show restRow sz j take en 0 ++ (restRow sz j take en 1 ++ (restRow sz j take en 2 ++ [])) = _
  rw [List.append_nil, List.nil_append, List.append_assoc]
theorem row_ne {hid : Bool} {sz : List Nat} {j take at' u : Nat} {en : List Nat} {i : Nat} (h : i ≠ j) : row hid sz j take at' u en i = restRow sz j take en i := by
  unfold row restRow
  rw [if_pos h, if_neg h]
theorem rest_34 {sz : List Nat} {j take : Nat} {en : List Nat} {i : Nat} (h34 : 34 ∉ en) : 34 ∉ restRow sz j take en i := fun h => by
  rcases List.mem_append.mp h with h | h
  · exact absurd (mem_rep h) (by decide)
  · exact h34 h
noncomputable def Good2 (x r : List Nat) : Prop := ∃ a b c, x = a ++ 34 :: (b ++ 34 :: c) ∧ 34 ∉ a ∧ 34 ∉ b ∧ 34 ∉ c ∧ a ++ c = r
theorem not_app {a b : List Nat} (ha : 34 ∉ a) (hb : 34 ∉ b) : 34 ∉ a ++ b := fun h => (List.mem_append.mp h).elim ha hb
theorem good_app {x r S : List Nat} (h : Good2 x r) (hS : 34 ∉ S) : Good2 (x ++ S) (r ++ S) := by
  obtain ⟨a, b, c, rfl, ha, hb, hc, rfl⟩ := h
  exact ⟨a, b, c ++ S, by rw [List.append_assoc, List.cons_append, List.append_assoc, List.cons_append], ha, hb, not_app hc hS, (List.append_assoc a c S).symm⟩
theorem good_row {P sz : List Nat} {j take at' u : Nat} {en : List Nat} (hP : 34 ∉ P) (h34 : 34 ∉ en) (ht : take + at' ≤ sz.getD j 0) : Good2 (P ++ row false sz j take at' u en j) (P ++ restRow sz j take en j) := by
  have r (n : Nat) : 34 ∉ List.replicate n 46 := fun h => absurd (mem_rep h) (by decide)
  refine ⟨P ++ List.replicate at' 46, List.replicate take 46, List.replicate (sz.getD j 0 - take - at') 46 ++ en, ?_, not_app hP (r _), r _, not_app (r _) h34, ?_⟩
  · unfold row
    rw [if_neg (fun h => h rfl), if_neg Bool.false_ne_true]
    simp only [List.append_assoc, List.cons_append, List.nil_append]
  · unfold restRow
    rw [if_pos rfl, List.append_assoc, ← List.append_assoc (List.replicate at' 46), rep_join at' _ (sz.getD j 0 - take) 46 (Nat.add_sub_cancel' (Nat.le_sub_of_add_le' ht))]
theorem rows_q (s0 s1 s2 j take at' u : Nat) (hj : j < 3) (ht : take + at' ≤ [s0, s1, s2].getD j 0) (en : List Nat) (hen : ∀ z ∈ en, z = 13 ∨ z = 10) :
    ∃ a b c, sumRows false [s0, s1, s2] j take at' u en 3 = a ++ 34 :: (b ++ 34 :: c) ∧ 34 ∉ a ∧ 34 ∉ b ∧ 34 ∉ c ∧ a ++ c = restRows [s0, s1, s2] j take en := by
  have h34 := no34 hen
  rw [rest_eq]
  show Good2 ([] ++ row false _ j take at' u en 0 ++ row false _ j take at' u en 1 ++ row false _ j take at' u en 2) _
  match j, hj with
  | 0, _ => rw [row_ne (i := 1) (by decide), row_ne (i := 2) (by decide)]; exact good_app (good_app (good_row List.not_mem_nil h34 ht) (rest_34 h34)) (rest_34 h34)
  | 1, _ => rw [row_ne (i := 0) (by decide), row_ne (i := 2) (by decide)]; exact good_app (good_row (not_app List.not_mem_nil (rest_34 h34)) h34 ht) (rest_34 h34)
  | 2, _ => rw [row_ne (i := 0) (by decide), row_ne (i := 1) (by decide)]; exact good_row (not_app (not_app List.not_mem_nil (rest_34 h34)) (rest_34 h34)) h34 ht
theorem three_len {a b c : List Nat} (ha : a.length ≤ 30) (hb : b.length ≤ 30) (hc : c.length ≤ 30) : ([] ++ a ++ b ++ c).length ≤ 100 := by
  rw [List.length_append, List.length_append, List.length_append]
  exact Nat.le_trans (Nat.add_le_add (Nat.add_le_add (Nat.add_le_add (Nat.le_refl 0) ha) hb) hc) (by decide)
theorem row_len {hid : Bool} {sz : List Nat} {j take at' u : Nat} {en : List Nat} {i : Nat} (h : sz.getD i 0 < 5) (hl : en.length ≤ 2) (ht : i = j → take + at' ≤ sz.getD i 0) : (row hid sz j take at' u en i).length ≤ 30 := by
  unfold row
  split
  · rw [List.length_append, List.length_replicate]; exact Nat.le_trans (Nat.add_le_add (Nat.le_of_lt h) hl) (by decide)
  · rename_i e
    have a := Nat.le_trans (ht (Decidable.not_not.mp e)) (Nat.le_of_lt h)
    have b : sz.getD i 0 - take - at' ≤ 5 := Nat.le_trans (Nat.sub_le _ _) (Nat.le_trans (Nat.sub_le _ _) (Nat.le_of_lt h))
    have a' : at' + take ≤ 5 := Nat.add_comm .. ▸ a
    split
    · simp only [List.length_append, List.length_replicate]
      exact Nat.le_trans (Nat.add_le_add (Nat.add_le_add a' b) hl) (by decide)
    · simp only [List.length_append, List.length_replicate, List.length_singleton]
      refine Nat.le_trans (Nat.add_le_add (Nat.add_le_add_right (Nat.add_le_add (Nat.add_le_add_right (Nat.le_trans (Nat.le_add_right _ take) a') 1) (Nat.le_trans (Nat.le_add_left _ at') a')) 1 |> fun q => Nat.add_le_add q b) hl) (by decide)
theorem rows_len (hid : Bool) (s0 s1 s2 j take at' u : Nat) (h0 : s0 < 5) (h1 : s1 < 5) (h2 : s2 < 5) (hj : j < 3) (ht : take + at' ≤ [s0, s1, s2].getD j 0) (en : List Nat) (hl : en.length ≤ 2) : (sumRows hid [s0, s1, s2] j take at' u en 3).length ≤ 100 :=
  three_len (row_len h0 hl fun e => e ▸ ht) (row_len h1 hl fun e => e ▸ ht) (row_len h2 hl fun e => e ▸ ht)
/-! the hidden ones -/
theorem inB1_unseen (n : Int) : inB1 (unseen n) = true := by
  have h1 := fmod_27 n
  have key : ∀ k : Fin 27, inB1 (((if (k.val : Int) < 11 then lone.getD ((k.val : Int)).toNat 0 else 65013 + (k.val : Int)).toNat : Nat) : Int) = true := by decide +kernel
  have := key ⟨(n.fmod 27).toNat, by omega⟩
  unfold unseen
  have e : (((n.fmod 27).toNat : Nat) : Int) = n.fmod 27 := by omega
  simp only [e] at this
  exact this
theorem inB1_46 : inB1 ((46 : Nat) : Int) = false := by decide +kernel
theorem inB1_13 : inB1 ((13 : Nat) : Int) = false := by decide +kernel
theorem inB1_10 : inB1 ((10 : Nat) : Int) = false := by decide +kernel
/-- the same, gone over as a list: quicker to compute -/
noncomputable def b3L (c : Nat) : Str := match ((b3es.toList.find? fun e : DictEntry => Value.isInt (c : Int) e.key).map fun e : DictEntry => e.val : Option Value) with
  | some (.str x _) => x
  | _ => Txt.lower ⟨#[c]⟩
theorem b3_L (c : Nat) : b3 c = b3L c := by
  unfold b3 b3L b3f findBy
  rw [← Array.find?_toList] <;> rfl
theorem b3_46 : b3 46 = T [46] := by rw [b3_L]; decide +kernel
theorem b3_13 : b3 13 = T [13] := by rw [b3_L]; decide +kernel
theorem b3_10 : b3 10 = T [10] := by rw [b3_L]; decide +kernel
noncomputable def keepB (c : Nat) : Bool := !(inB1 (c : Int))
theorem keep_rep (n : Nat) : (List.replicate n 46).filter keepB = List.replicate n 46 := by
  rw [List.filter_replicate]; rw [show keepB 46 = true by unfold keepB; rw [inB1_46]; rfl]; rfl
theorem keep_un (n : Nat) (k : Int) : (List.replicate n (unseen k)).filter keepB = [] := by
  rw [List.filter_replicate]; rw [show keepB (unseen k) = false by unfold keepB; rw [inB1_unseen]; rfl]; rfl
theorem keep_en {en : List Nat} (hen : ∀ z ∈ en, z = 13 ∨ z = 10) : en.filter keepB = en := by
  rw [List.filter_eq_self]
  intro z hz
  rcases hen z hz with rfl | rfl
  · unfold keepB; rw [inB1_13]; rfl
  · unfold keepB; rw [inB1_10]; rfl
theorem row_h {sz : List Nat} {j take at' : Nat} {k : Int} {en : List Nat} {i : Nat} (hen : ∀ z ∈ en, z = 13 ∨ z = 10) (ht : i = j → take + at' ≤ sz.getD i 0) : (row true sz j take at' (unseen k) en i).filter keepB = restRow sz j take en i := by
  unfold row restRow
  by_cases e : i = j
  · rw [if_neg (fun h => h e), if_pos rfl, if_pos e, List.filter_append, List.filter_append, List.filter_append, keep_rep, keep_un, keep_rep, keep_en hen, List.append_nil, rep_join at' _ (sz.getD i 0 - take) 46 (Nat.add_sub_cancel' (Nat.le_sub_of_add_le' (ht e)))]
  · rw [if_pos e, if_neg e, List.filter_append, keep_rep, keep_en hen]
theorem rows_h (s0 s1 s2 j take at' : Nat) (k : Int) (hj : j < 3) (ht : take + at' ≤ [s0, s1, s2].getD j 0) (en : List Nat) (hen : ∀ z ∈ en, z = 13 ∨ z = 10) :
    (sumRows true [s0, s1, s2] j take at' (unseen k) en 3).filter keepB = restRows [s0, s1, s2] j take en := by
  rw [rest_eq]
  show ([] ++ row true _ j take at' _ en 0 ++ row true _ j take at' _ en 1 ++ row true _ j take at' _ en 2).filter keepB = _
  rw [List.filter_append, List.filter_append, List.filter_append, row_h hen fun e => e ▸ ht, row_h hen fun e => e ▸ ht, row_h hen fun e => e ▸ ht]; rfl
theorem b3_kept {l : List Nat} (hl : ∀ z ∈ l, z = 46 ∨ z = 13 ∨ z = 10) : ((l.map b3).flatMap fun y => y.cps.toList) = l := by
  induction l with
  | nil => rfl
  | cons z r ih =>
    rw [List.map_cons, List.flatMap_cons, ih fun y hy => hl y (List.mem_cons_of_mem _ hy)]
    rcases hl z List.mem_cons_self with rfl | rfl | rfl
    · rw [b3_46]; rfl
    · rw [b3_13]; rfl
    · rw [b3_10]; rfl
theorem rest_mem {sz : List Nat} {j take : Nat} {en : List Nat} (hen : ∀ z ∈ en, z = 13 ∨ z = 10) : ∀ z ∈ restRows sz j take en, z = 46 ∨ z = 13 ∨ z = 10 := by
  intro z hz
  unfold restRows at hz
  obtain ⟨i, _, hi⟩ := List.mem_flatMap.mp hz
  rcases List.mem_append.mp hi with h | h
  · exact .inl (mem_rep h)
  · exact .inr (hen z h)
theorem restRow_len {sz : List Nat} {j take : Nat} {en : List Nat} {i : Nat} (h : sz.getD i 0 < 5) (hl : en.length ≤ 2) : (restRow sz j take en i).length ≤ 30 := by
  unfold restRow
  rw [List.length_append, List.length_replicate]
  refine Nat.le_trans (Nat.add_le_add (b := 5) ?_ hl) (by decide)
  split
  · exact Nat.le_trans (Nat.sub_le _ _) (Nat.le_of_lt h)
  · exact Nat.le_of_lt h
theorem rest_len (s0 s1 s2 j take : Nat) (h0 : s0 < 5) (h1 : s1 < 5) (h2 : s2 < 5) (en : List Nat) (hl : en.length ≤ 2) : (restRows [s0, s1, s2] j take en).length ≤ 100 := by
  rw [rest_eq]
  exact three_len (restRow_len h0 hl) (restRow_len h1 hl) (restRow_len h2 hl)
theorem row_92 {sz : List Nat} {j take at' u : Nat} {en : List Nat} {i z : Nat} (hen : ∀ z ∈ en, z = 13 ∨ z = 10) (h : z ∈ row false sz j take at' u en i) : z ≠ 92 := by
  have r {n : Nat} (h : z ∈ List.replicate n 46) : z ≠ 92 := mem_rep h ▸ by decide
  have q (h : z ∈ en) : z ≠ 92 := by rcases hen z h with rfl | rfl <;> decide
  have o (h : z ∈ [34]) : z ≠ 92 := List.mem_singleton.mp h ▸ by decide
  unfold row at h
  split at h
  · exact (List.mem_append.mp h).elim r q
  · rw [if_neg Bool.false_ne_true] at h
    exact (List.mem_append.mp h).elim (fun h => (List.mem_append.mp h).elim (fun h => (List.mem_append.mp h).elim (fun h => (List.mem_append.mp h).elim (fun h => (List.mem_append.mp h).elim r o) r) o) r) q
theorem rows_92 (s0 s1 s2 j take at' u : Nat) (hj : j < 3) (en : List Nat) (hen : ∀ z ∈ en, z = 13 ∨ z = 10) : ∀ z ∈ sumRows false [s0, s1, s2] j take at' u en 3, z ≠ 92 := by
  intro z hz
  replace hz : z ∈ [] ++ row false _ j take at' u en 0 ++ row false _ j take at' u en 1 ++ row false _ j take at' u en 2 := hz
  exact (List.mem_append.mp hz).elim (fun h => (List.mem_append.mp h).elim (fun h => row_92 hen h) (row_92 hen)) (row_92 hen)
end Mine
namespace Mine
open PySem PySem.W PySem.Calls PyProof.Rows PySem.Spec PyProof.Rows.LCg PyProof.Rows.LCt

theorem mul_T (c : Nat) (k : Int) : Txt.mul (T [c]) k = T (List.replicate k.toNat c) := by
  have rep : ∀ (n : Nat) (acc : List Nat), ((List.replicate n (#[c] : Array Nat)).foldl (· ++ ·) acc.toArray) = (acc ++ List.replicate n c).toArray := by
    intro n
    induction n with
    | zero => intro acc; simp
    | succ n ih =>
      intro acc
      rw [List.replicate_succ, List.foldl_cons, show acc.toArray ++ #[c] = (acc ++ [c]).toArray by simp, ih, List.replicate_succ]
      simp
  unfold Txt.mul
  by_cases h1 : k < 1
  · rw [if_pos h1, show k.toNat = 0 by lia]; rfl
  · rw [if_neg h1]
    by_cases h2 : k = 1
    · subst h2; rfl
    · rw [if_neg (by rw [beq_false_of_ne h2]; simp; rw [T_len]; simp)]
      have := rep k.toNat []
      apply str_eqT
      show (List.foldl (fun x1 x2 => x1 ++ x2) #[] (List.replicate k.toNat #[c])).toList = _
      rw [show (#[] : Array Nat) = ([] : List Nat).toArray from rfl, this]
      simp
section
variable {w : World} {A : Around} {E : Value → Shared → Prop} {s : Shared} {t u : Tok} {c : Nat} {k : Int} {a b : List Nat} {Q : Value → Shared → Prop}
theorem mul_one (h1 : -10 ≤ k) (h2 : k ≤ 10) (h : ∀ t' tk, Q (.str (T (List.replicate k.toNat c)) t') { s with toks := tk }) : wpAny (model rwp w) A (binaryOp .Mult (.str ⟨#[c]⟩ t) (.int k u)) Q E s := by
  rw [← mul_T] at h
  exact SB.mul (mulOk_of 16 1048576 (show (1 : Nat) ≤ 16 by decide) (by lia) (by lia) (by decide) (by decide)) h
theorem dot_T : Str.ofString "." = ⟨#[46]⟩ := by decide +kernel
theorem quot_T : Str.ofString "\"" = T [34] := by decide +kernel
theorem mul_dot (h1 : -10 ≤ k) (h2 : k ≤ 10) (h : ∀ t' tk, Q (.str (T (List.replicate k.toNat 46)) t') { s with toks := tk }) : wpAny (model rwp w) A (binaryOp .Mult (.str (Str.ofString ".") t) (.int k u)) Q E s := by
  rw [dot_T]; exact mul_one h1 h2 h
theorem add_T (hl : a.length + b.length ≤ 1000) (h : ∀ t' tk, Q (.str (T (a ++ b)) t') { s with toks := tk }) : wpAny (model rwp w) A (binaryOp .Add (.str (T a) t) (.str (T b) u)) Q E s :=
  SB.add (fun t' tk => by rw [app_T]; exact h t' tk) (by rw [T_len, T_len]; exact Nat.le_trans hl (by decide))
theorem iadd_T (hl : a.length + b.length ≤ 1000) (h : ∀ t' tk, Q (.str (T (a ++ b)) t') { s with toks := tk }) : wpAny (model rwp w) A (inplaceOp .Add (.str (T a) t) (.str (T b) u)) Q E s :=
  SB.iadd (fun t' tk => by rw [app_T]; exact h t' tk) (by rw [T_len, T_len]; exact Nat.le_trans hl (by decide))
theorem add_q (hl : a.length ≤ 900) (h : ∀ t' tk, Q (.str (T (a ++ [34])) t') { s with toks := tk }) : wpAny (model rwp w) A (binaryOp .Add (.str (T a) t) (.str (Str.ofString "\"") u)) Q E s := by
  rw [quot_T]; exact add_T (by simp only [List.length_cons, List.length_nil]; first | lia | (simp <;> lia)) h
theorem iadd_0 (hl : b.length ≤ 900) (h : ∀ t' tk, Q (.str (T ([] ++ b)) t') { s with toks := tk }) : wpAny (model rwp w) A (inplaceOp .Add (.str (Str.ofString "") t) (.str (T b) u)) Q E s := by
  rw [nil_T]; exact iadd_T (by simp only [List.length_nil]; lia) h
end
end Mine
open PySem PySem.W PySem.Calls PyProof.Rows PySem.Spec Mine
local macro_rules | `(tactic| walk_at "binaryOp Mult str int") => `(tactic| with_reducible apply mul_dot; walk_at "~om"; walk_at "~om"; intros)
local macro_rules | `(tactic| walk_at "binaryOp Mult str int") => `(tactic| with_reducible apply mul_one; walk_at "~om"; walk_at "~om"; intros)
local macro_rules | `(tactic| walk_at "binaryOp Add str str") => `(tactic| with_reducible apply add_T; walk_at "~ln"; intros)
local macro_rules | `(tactic| walk_at "binaryOp Add str str") => `(tactic| with_reducible apply add_q; walk_at "~ln"; intros)
local macro_rules | `(tactic| walk_at "inplaceOp Add str str") => `(tactic| with_reducible apply iadd_T; walk_at "~ln"; intros)
local macro_rules | `(tactic| walk_at "inplaceOp Add str str") => `(tactic| with_reducible apply iadd_0; walk_at "~ln"; intros)
local macro_rules | `(tactic| walk_at "exec For Name Call cons nil") => `(tactic| (with_reducible apply for_any; intro _; k_dflt rfl))
local macro_rules | `(tactic| walk_at "call ref") => `(tactic| ((with_reducible apply at155); k_dflt apply call_unseen; walk_at "~call"))
namespace Mine
open PySem PySem.W PySem.Calls PyProof.Rows PySem.Spec PyProof.Rows.LCg PyProof.Rows.LCt
theorem as8 {m : Str → Option Value} {v0 v1 v2 v3 v4 v5 v6 v7 : Option Value} (h0 : m "sizes" = v0) (h1 : m "j" = v1) (h2 : m "take" = v2) (h3 : m "at" = v3) (h4 : m "end" = v4) (h5 : m "d" = v5) (h6 : m "hidden" = v6) (h7 : m "mail" = v7) : m = fun z : Str => if z = "sizes" then v0 else if z = "j" then v1 else if z = "take" then v2 else if z = "at" then v3 else if z = "end" then v4 else if z = "d" then v5 else if z = "hidden" then v6 else if z = "mail" then v7 else m z := by
  funext z
  by_cases e0 : z = "sizes"
  · rw [if_pos e0, e0, h0]
  rw [if_neg e0]
  by_cases e1 : z = "j"
  · rw [if_pos e1, e1, h1]
  rw [if_neg e1]
  by_cases e2 : z = "take"
  · rw [if_pos e2, e2, h2]
  rw [if_neg e2]
  by_cases e3 : z = "at"
  · rw [if_pos e3, e3, h3]
  rw [if_neg e3]
  by_cases e4 : z = "end"
  · rw [if_pos e4, e4, h4]
  rw [if_neg e4]
  by_cases e5 : z = "d"
  · rw [if_pos e5, e5, h5]
  rw [if_neg e5]
  by_cases e6 : z = "hidden"
  · rw [if_pos e6, e6, h6]
  rw [if_neg e6]
  by_cases e7 : z = "mail"
  · rw [if_pos e7, e7, h7]
  rw [if_neg e7]

theorem item3g {prog : Program} {w : World} {A : Around} {E : Value → Shared → Prop} {s : Shared} {h₀ : Heap} {L D : Addr} {news : List (Addr × Obj)} {value slice : PySem.Expr} {a b c u : Tok} {n z0 z1 z2 i g : Nat} {Q : Value → Shared → Prop} (N : News h₀ L s.heap news) (hm : (D, listOf #[.int (z0 : Int) a, .int (z1 : Int) b, .int (z2 : Int) c] n) ∈ news) (hi : i < 3) (hg : [z0, z1, z2].getD i 0 = g) (hs : subscripted slice false (.ref D) (.int (0 + (i : Int)) u) = operate [.ref D, .int (0 + (i : Int)) u] (getItem (.ref D) (.int (0 + (i : Int)) u)))
    (h : ∀ t, Q (.int (g : Int) t) s) :
    wpAny (model prog w) A (subscriptTail value slice (.ref D) (.int (0 + (i : Int)) u)) Q E s := by
  have hL := N.isList hm
  subst hg
  obtain rfl | rfl | rfl : i = 0 ∨ i = 1 ∨ i = 2 := by omega
  · exact tail_any hL.typeIs slot_list_getitem.lookup (wpAny_getItem_list hL (by decide) (by decide) (x := .int (z0 : Int) a) rfl (h a)) hs
  · exact tail_any hL.typeIs slot_list_getitem.lookup (wpAny_getItem_list hL (by decide) (by decide) (x := .int (z1 : Int) b) rfl (h b)) hs
  · exact tail_any hL.typeIs slot_list_getitem.lookup (wpAny_getItem_list hL (by decide) (by decide) (x := .int (z2 : Int) c) rfl (h c)) hs
end Mine
local macro_rules | `(tactic| walk_at "subscriptTail Name Name ref int") => `(tactic| with_reducible apply item3g; k_asm; k_dflt k_mem; assumption; assumption; with_unfolding_all rfl; intro _)
namespace Mine
open PySem PySem.W PySem.Calls PyProof.Rows PySem.Spec PyProof.Rows.LCg PyProof.Rows.LCt
/-- a contract with room for three calls; the ledger is bound to what the arguments need -/
noncomputable abbrev CtrQ (w : World) (loose : List Str) (mean : ExcName → Option Value) (mg mb : Str → Option Value) (f : Addr) (news : List (Addr × Obj)) (vs : List Value) (R : Tok → Value) : Prop :=
  ∀ (dp un : Nat) (gd : Option (List Code)) (cn : Str) (cs : Scope) (a : Addr) (ccd : Value) (cl : List (Str × Addr)) (outer : List Env) (A₀ : Around) (base h₀ : Heap) (L : Addr) (m : Str → Option Value) (s : Shared) (Q E : Value → Shared → Prop),
    Below A₀ base outer h₀ → Fr h₀ L s.heap m → (K w.params).In h₀ → News h₀ L s.heap news → Top qv loose mean mg mb h₀ → cs.kind = .function →
    dp + 6 < recursionLimit → un + 60 < cLine → (∀ (t : Tok) (s' : Shared), Later s s' → Fr h₀ L s'.heap m → News h₀ L s'.heap news → Q (R t) s') →
      wpAny (model rwp w) (ktrTop dp un gd cn cs L a ccd cl outer) (call (.ref f) vs) Q E s
noncomputable def JL (Z : Addr) (hid : Bool) (s0 s1 s2 : Nat) (j take at' d u : Nat) (en : List Nat) (ob : Obj) (rest : List (Addr × Obj)) (i : Nat) (m : Str → Option Value) (nx : List (Addr × Obj)) : Prop :=
  nx = (Z, ob) :: rest ∧ ∃ t1 t2 t3 t4 t5 t6 ac, m "sizes" = some (.ref Z) ∧ m "j" = some (.int (j : Int) t1) ∧ m "take" = some (.int (take : Int) t2) ∧ m "at" = some (.int (at' : Int) t3) ∧ m "end" = some (.str (T en) t4) ∧ m "d" = some (.int (d : Int) t5) ∧
    m "hidden" = some (.bool hid) ∧ m "mail" = some (.str (T ac) t6) ∧ ac = sumRows hid [s0, s1, s2] j take at' u en i ∧ ac.length ≤ 10 * i
theorem LEnd.fst {h₀ : Heap} {L : Addr} {J : (Str → Option Value) → List (Addr × Obj) → Prop} {own nx : List (Addr × Obj)} {adr : List Addr} {s₁ s₂ : Shared} {Q : Flow → Shared → Prop} {m' : Str → Option Value} (F : Fr h₀ L s₂.heap m') (N : News h₀ L s₂.heap (nx ++ own)) (hj : J m' nx) (hL : Later s₁ s₂) (ha : nx.map (·.1) = adr) : LEnd h₀ L J own adr s₁ Q .next s₂ := LEnd.of hj F N hL ha
set_option maxHeartbeats 2000000 in
theorem c_left_q (w : World) (loose : List Str) (mean : ExcName → Option Value) (mg mb : Str → Option Value) (s0 s1 s2 : Nat) (h0 : s0 < 5) (h1 : s1 < 5) (h2 : s2 < 5) (j : Nat) (hj : j < 3) (take at' : Nat) (ht : take + at' ≤ [s0, s1, s2].getD j 0) (d : Nat) (hd : d < 1000000) (hb : (((d : Int) + j + take).fmod 2 == 1) = false) (en : List Nat) (hen : en.length ≤ 2) (hen' : ∀ z ∈ en, z = 13 ∨ z = 10) (t0 t1 t2 u1 u2 u3 u4 u5 : Tok) (Z : Addr) (n : Nat) (rest : List (Addr × Obj)) :
   CtrQ w loose mean mg mb 160 ((Z, listOf #[.int (s0 : Int) t0, .int (s1 : Int) t1, .int (s2 : Int) t2] n) :: rest) [.ref Z, .int (j : Int) u1, .int (take : Int) u2, .int (at' : Int) u3, .str (T en) u4, .int (d : Int) u5] (fun t => .str (T (restRows [s0, s1, s2] j take en)) t) := by
  unfold CtrQ rwp
  k_fill
  intros; rename_i hret
  refine wpAny_call ?_
  k_dflt cell_enter
  k_steps
  rename Fr _ _ _ _ => FF
  rename News _ _ _ _ => NN
  rename IsRange _ _ _ _ _ _ _ _ => RR
  have hat : take + at' ≤ 4 := by
    obtain rfl | rfl | rfl : j = 0 ∨ j = 1 ∨ j = 2 := by omega
    all_goals (simp at ht; omega)
  refine for_range (by rfl) RR (by decide) (n := 3) (by rfl) FF NN (JL Z false s0 s1 s2 j take at' d 0 en (listOf #[.int (s0 : Int) t0, .int (s1 : Int) t1, .int (s2 : Int) t2] n) rest) ?j0 ?step ?done
  case j0 => exact ⟨rfl, _, _, _, _, _, _, [], by rfl, by rfl, by rfl, by rfl, by rfl, by rfl, congrArg (fun b => some (Value.bool b)) hb, by rfl, rfl, Nat.zero_le _⟩
  case step =>
    intro i t m₁ news₁ s₁ own hL hi hJ ha' ho F₁ N₁
    obtain ⟨rfl, t1, t2, t3, t4, t5, t6, ac, g0, g1, g2, g3, g4, g5, g6, g7, hac, hl⟩ := hJ
    rw [as8 g0 g1 g2 g3 g4 g5 g6 g7] at F₁
    obtain ⟨h₁, gs₁, d₁, tk₁, os₁⟩ := s₁
    dsimp only at F₁ N₁
    simp only [List.map_cons, List.cons_append] at ho N₁
    obtain ⟨g, hgd, hg5, hgj⟩ : ∃ g : Nat, [s0, s1, s2].getD i 0 = g ∧ g < 5 ∧ (i ≠ j ∨ take + at' ≤ g) := by
      refine ⟨_, rfl, ?_, ?_⟩
      · obtain rfl | rfl | rfl : i = 0 ∨ i = 1 ∨ i = 2 := by omega
        · exact h0
        · exact h1
        · exact h2
      · by_cases hij : i = j
        · exact .inr (hij ▸ ht)
        · exact .inl hij
    k_steps
    · refine LEnd.fst (nx := (Z, _) :: rest) (by assumption) (by assumption) ⟨rfl, _, _, _, _, _, _, _, by rfl, by rfl, by rfl, by rfl, by rfl, by rfl, by rfl, by rfl, ?_, ?_⟩ ⟨rfl, rfl⟩ rfl
      · have hne : ¬ (i = j) := by omega
        rw [hac]
        show _ = sumRows _ _ _ _ _ _ _ i ++ row _ _ _ _ _ _ _ i
        unfold row
        rw [if_pos hne, hgd, Int.toNat_natCast]
      · simp; omega
    · refine LEnd.fst (nx := (Z, _) :: rest) (by assumption) (by assumption) ⟨rfl, _, _, _, _, _, _, _, by rfl, by rfl, by rfl, by rfl, by rfl, by rfl, by rfl, by rfl, ?_, ?_⟩ ⟨rfl, rfl⟩ rfl
      · have hej : i = j := by omega
        have e : ((g : Int) - take - at').toNat = g - take - at' := by omega
        rw [hac]
        show _ = sumRows _ _ _ _ _ _ _ i ++ row _ _ _ _ _ _ _ i
        unfold row
        rw [if_neg (fun q => q hej), hgd, e]
        simp
      · simp; omega
  case done =>
    intro m₁ news₁ s₁ hL hJ F₁ N₁
    obtain ⟨rfl, t1, t2, t3, t4, t5, t6, ac, g0, g1, g2, g3, g4, g5, g6, g7, hac, hl⟩ := hJ
    rw [as8 g0 g1 g2 g3 g4 g5 g6 g7] at F₁
    obtain ⟨h₁, gs₁, d₁, tk₁, os₁⟩ := s₁
    dsimp only at F₁ N₁
    k_steps
    subst hac
    obtain ⟨a, b, c, hs, ha, hb, hc, hr⟩ := rows_q s0 s1 s2 j take at' 0 hj ht en hen'
    refine' c_strip _ _ _ _ _ _ a b c hs ?hq ?hx ha hb hc ?hsz _ _ _ _ _ _ _ _ _ _ _ _ _ _ _ _ _ _ _ ?k1 ?k2 ?k3 ?k4 ?k5 ?kK trivial ?kd ?ku ?kR
    case hq => rw [hs]; simp
    case hx => exact rows_92 s0 s1 s2 j take at' 0 hj en hen'
    case hsz => have := rows_len false s0 s1 s2 j take at' 0 h0 h1 h2 hj ht en hen; omega
    case k1 => k_asm
    case k2 => k_asm
    case k3 => k_asm
    case k4 => k_asm
    case k5 => k_asm
    case kK => exact rfl
    case kd => ktr_room
    case ku => ktr_units
    intro t9 s9 hL9 F9 N9
    obtain ⟨h9, gs9, d9, tk9, os9⟩ := s9
    dsimp only at F9 N9
    rw [hr]
    k_steps
    exact hret _ _ ⟨hL9.1.trans hL.1, hL9.2.trans hL.2⟩ (by assumption) (by assumption)
end Mine
namespace Mine
open PySem PySem.W PySem.Calls PyProof.Rows PySem.Spec PyProof.Rows.LCg PyProof.Rows.LCt
theorem ok_rest {l : List (Str × Tok)} {r : List Nat} (hl : l.map (·.1) = r.map b3) (hm : ∀ z ∈ r, z = 46 ∨ z = 13 ∨ z = 10) (hr : r.length ≤ 100) : (l.map (·.1.length)).sum + l.length * (Str.ofString "").length ≤ 16777216 := by
  have e1 : l.map (·.1.length) = (r.map b3).map (·.length) := by rw [← hl, List.map_map]; rfl
  have e2 : ∀ q : List Nat, (∀ z ∈ q, z = 46 ∨ z = 13 ∨ z = 10) → ((q.map b3).map (·.length)).sum = q.length := by
    intro q
    induction q with
    | nil => intro _; rfl
    | cons z q ih =>
      intro h
      have hz : (b3 z).length = 1 := by
        rcases h z List.mem_cons_self with rfl | rfl | rfl
        · rw [b3_46]; rfl
        · rw [b3_13]; rfl
        · rw [b3_10]; rfl
      rw [List.map_cons, List.map_cons, List.sum_cons, hz, ih fun y hy => h y (List.mem_cons_of_mem _ hy), List.length_cons]
      omega
  rw [e1, e2 r hm, nil_T]
  show r.length + l.length * 0 ≤ _
  omega
theorem ListComp_N {prog : Program} {w : World} {A : Around} {E : Value → Shared → Prop} {s : Shared} {h₀ : Heap} {L : Addr} {m : Str → Option Value} {env : Env} {ct elt iter : PySem.Expr} {x : Str} {px : Pos} {scope : Scope} {cl : List (Str × Addr)} {pos : Pos} {Q : Value → Shared → Prop} {y : Str} {t : Tok} {news : List (Addr × Obj)}
    (F : Fr h₀ L s.heap m) (N : News h₀ L s.heap news)
    (hclos : closureFor scope env = pure cl) (hcell : ∀ y ∈ scope.names, y.2 ≠ .cell) (hkind : scope.kind = .function)
    (hnames : ∀ y ∈ scope.names, y.2 = .local → scope.names.lookup y.1 = some .local) (hx : scope.names.lookup x = some .local) (hh : A.handled = none)
    (hev : ∀ Q' : Value → Shared → Prop, Q' (.str y t) s → wpAny (model prog w) A (eval iter env) Q' E s) (hsz : y.cps.size ≤ sizeLine)
    (R : ∀ g, CompRestT prog w A h₀ L m env ct elt x scope cl { s with heap := g } (fun _ => True) (SignAt y) (FinE h₀ L m { s with heap := g } Q) y.cps.size 0 [] news)
    (hs : ∀ x, foldedSetIterable iter env x = pure x := by intro _; rfl) :
    wpAny (model prog w) A (eval (.ListComp elt [⟨.Name x px, iter, [ct], 0⟩] scope pos) env) Q E s :=
  ListComp_S hclos hcell hkind hnames hx hh (hev _ ⟨y, t, news, rfl, F, N, hsz, fun s₂ ⟨g, e⟩ => e ▸ R g⟩) hs
local macro_rules | `(tactic| walk_at "eval ListComp") => `(tactic| apply Hold.h)
local macro_rules | `(tactic| walk_at "call ref") => `(tactic| ((with_reducible apply at95); k_dflt apply call_in_b1; walk_at "~call"))
local macro_rules | `(tactic| walk_at "call ref") => `(tactic| ((with_reducible apply at141); k_dflt apply call_b3; walk_at "~call"))
set_option maxHeartbeats 2000000 in
theorem c_left_h (w : World) (loose : List Str) (mean : ExcName → Option Value) (mg mb : Str → Option Value) (s0 s1 s2 : Nat) (h0 : s0 < 5) (h1 : s1 < 5) (h2 : s2 < 5) (j : Nat) (hj : j < 3) (take at' : Nat) (ht : take + at' ≤ [s0, s1, s2].getD j 0) (d : Nat) (hd : d < 1000000) (hb : (((d : Int) + j + take).fmod 2 == 1) = true) (en : List Nat) (hen : en.length ≤ 2) (hen' : ∀ z ∈ en, z = 13 ∨ z = 10) (t0 t1 t2 u1 u2 u3 u4 u5 : Tok) (Z : Addr) (n : Nat) (rest : List (Addr × Obj)) :
   CtrQ w loose mean mg mb 160 ((Z, listOf #[.int (s0 : Int) t0, .int (s1 : Int) t1, .int (s2 : Int) t2] n) :: rest) [.ref Z, .int (j : Int) u1, .int (take : Int) u2, .int (at' : Int) u3, .str (T en) u4, .int (d : Int) u5] (fun t => .str (T (restRows [s0, s1, s2] j take en)) t) := by
  unfold CtrQ rwp
  k_fill
  intros; rename_i hret
  refine wpAny_call ?_
  k_dflt cell_enter
  k_steps
  rename Fr _ _ _ _ => FF
  rename News _ _ _ _ => NN
  rename IsRange _ _ _ _ _ _ _ _ => RR
  have hat : take + at' ≤ 4 := by
    obtain rfl | rfl | rfl : j = 0 ∨ j = 1 ∨ j = 2 := by omega
    all_goals (simp at ht; omega)
  refine for_range (by rfl) RR (by decide) (n := 3) (by rfl) FF NN (JL Z true s0 s1 s2 j take at' d (unseen ((d : Int) + take)) en (listOf #[.int (s0 : Int) t0, .int (s1 : Int) t1, .int (s2 : Int) t2] n) rest) ?j0 ?step ?done
  case j0 => exact ⟨rfl, _, _, _, _, _, _, [], by rfl, by rfl, by rfl, by rfl, by rfl, by rfl, congrArg (fun b => some (Value.bool b)) hb, by rfl, rfl, Nat.zero_le _⟩
  case step =>
    intro i t m₁ news₁ s₁ own hL hi hJ ha' ho F₁ N₁
    obtain ⟨rfl, t1, t2, t3, t4, t5, t6, ac, g0, g1, g2, g3, g4, g5, g6, g7, hac, hl⟩ := hJ
    rw [as8 g0 g1 g2 g3 g4 g5 g6 g7] at F₁
    obtain ⟨h₁, gs₁, d₁, tk₁, os₁⟩ := s₁
    dsimp only at F₁ N₁
    simp only [List.map_cons, List.cons_append] at ho N₁
    obtain ⟨g, hgd, hg5, hgj⟩ : ∃ g : Nat, [s0, s1, s2].getD i 0 = g ∧ g < 5 ∧ (i ≠ j ∨ take + at' ≤ g) := by
      refine ⟨_, rfl, ?_, ?_⟩
      · obtain rfl | rfl | rfl : i = 0 ∨ i = 1 ∨ i = 2 := by omega
        · exact h0
        · exact h1
        · exact h2
      · by_cases hij : i = j
        · exact .inr (hij ▸ ht)
        · exact .inl hij
    k_steps
    · refine LEnd.fst (nx := (Z, _) :: rest) (by assumption) (by assumption) ⟨rfl, _, _, _, _, _, _, _, by rfl, by rfl, by rfl, by rfl, by rfl, by rfl, by rfl, by rfl, ?_, ?_⟩ ⟨rfl, rfl⟩ rfl
      · have hne : ¬ (i = j) := by omega
        rw [hac]
        show _ = sumRows _ _ _ _ _ _ _ i ++ row _ _ _ _ _ _ _ i
        unfold row
        rw [if_pos hne, hgd, Int.toNat_natCast]
      · simp; omega
    · refine LEnd.fst (nx := (Z, _) :: rest) (by assumption) (by assumption) ⟨rfl, _, _, _, _, _, _, _, by rfl, by rfl, by rfl, by rfl, by rfl, by rfl, by rfl, by rfl, ?_, ?_⟩ ⟨rfl, rfl⟩ rfl
      · have hej : i = j := by omega
        have e : ((g : Int) - take - at').toNat = g - take - at' := by omega
        rw [hac]
        show _ = sumRows _ _ _ _ _ _ _ i ++ row _ _ _ _ _ _ _ i
        unfold row
        rw [if_neg (fun q => q hej), hgd, e]
        simp
      · simp; omega
  case done =>
    intro m₁ news₁ s₁ hL hJ F₁ N₁
    obtain ⟨rfl, t1, t2, t3, t4, t5, t6, ac, g0, g1, g2, g3, g4, g5, g6, g7, hac, hl⟩ := hJ
    rw [as8 g0 g1 g2 g3 g4 g5 g6 g7] at F₁
    obtain ⟨h₁, gs₁, d₁, tk₁, os₁⟩ := s₁
    dsimp only at F₁ N₁
    subst hac
    have hsz : (T (sumRows true [s0, s1, s2] j take at' (unseen ((d : Int) + take)) en 3)).cps.size ≤ sizeLine := by
      have := rows_len true s0 s1 s2 j take at' (unseen ((d : Int) + take)) h0 h1 h2 hj ht en hen
      show (T _).length ≤ _
      rw [T_len]
      exact Nat.le_trans this (by decide)
    k_steps
    refine ⟨?_⟩
    k_dflt (refine' ListComp_N ?fF ?fN ?l1 ?l2 ?l3 ?l4 ?l5 ?l6 ?l7 ?l8 ?l9)
    case fF => k_asm
    case fN => k_asm
    case l1 => with_unfolding_all rfl
    case l2 => decide
    case l3 => with_unfolding_all rfl
    case l4 => decide
    case l5 => with_unfolding_all rfl
    case l6 => with_unfolding_all rfl
    case l7 => intro Q' hQ'; k_dflt (exact ld (by k_asm) (by rfl) hQ')
    case l8 => assumption
    k_steps
    refine rest_text keepB b3 _ ?turn ?fin
    case turn =>
      intro c t I oI C oC D m₂ ys h tk E' hmem hC hx F N off ne
      have off0 := off
      simp only [LCg.Off3] at off
      k_steps
      all_goals (try (walk_at "call ref"; k_steps))
      all_goals (try (walk_at "call ref"; k_steps))
      · refine CompEnd.intro (by assumption) (by assumption) ((Z, _) :: rest) ?_ off0 trivial ⟨?_, rfl⟩
        · intro p hp; exact hp
        · unfold keepB; rw [show inB1 (c : Int) = true by assumption]; rfl
      · refine CompEnd.intro (by assumption) (by assumption) ((Z, _) :: rest) ?_ off0 trivial ⟨?_, rfl, _, rfl⟩
        · intro p hp; exact hp
        · unfold keepB; rw [show inB1 (c : Int) = false by assumption]; rfl
    case fin =>
      intro l hl D h tk F N off
      have hr := rows_h s0 s1 s2 j take at' ((d : Int) + take) hj ht en hen'
      have hl' : l.map (·.1) = (restRows [s0, s1, s2] j take en).map b3 := by
        rw [hl, ← hr]
      have hk := b3_kept (rest_mem (sz := [s0, s1, s2]) (j := j) (take := take) hen')
      k_steps
      refine join_h l (by assumption) rfl ?ok ?_
      case ok => exact ok_rest hl' (rest_mem hen') (rest_len s0 s1 s2 j take h0 h1 h2 en hen)
      intro t' k'
      rw [join0, hl', hk]
      k_steps
      exact hret _ _ ⟨hL.1, hL.2⟩ (by assumption) (cb_drop (by assumption) fun p hp => List.mem_cons_of_mem _ hp)
end Mine
namespace Mine
open PySem PySem.W PySem.Calls PyProof.Rows PySem.Spec
/-- a place apart from the cells -/
noncomputable def offC (L' S : Nat) : Prop := S ≠ L' + 1 ∧ S ≠ L' + 1 + 1 ∧ S ≠ L' + 1 + 1 + 1 ∧ S ≠ L' + 1 + 1 + 1 + 1 ∧ S ≠ L' + 1 + 1 + 1 + 1 + 1 ∧ S ≠ L' + 1 + 1 + 1 + 1 + 1 + 1 ∧ S ≠ L' + 1 + 1 + 1 + 1 + 1 + 1 + 1 ∧ S ≠ L' + 1 + 1 + 1 + 1 + 1 + 1 + 1 + 1 ∧ S ≠ L' + 1 + 1 + 1 + 1 + 1 + 1 + 1 + 1 + 1
/-- the three ends of a row -/
noncomputable def endOf (e : Nat) : List Nat := if e = 0 then [13, 10] else if e = 1 then [10] else [13]
noncomputable def movesOf (s0 s1 s2 : Nat) : List (Nat × Nat) := (0, 0) :: [0, 1, 2].flatMap fun j => (List.range ([s0, s1, s2].getD j 0)).map fun t => (j, t + 1)
noncomputable def lawBody : List Stmt := match (fnp 22).2.1 with
  | .stmts b => b
  | _ => []
noncomputable def Seg0 (w : World) (loose : List Str) (mean : ExcName → Option Value) (mg mb : Str → Option Value) (h₀ : Heap) (L' fa l : Addr) (cdv : Value) (s0 : Shared) (Q : Flow → Shared → Prop) (E : Value → Shared → Prop) : Prop :=
  ∀ (s : Shared)  (o1 o2 o3 o4 o5 o6 o7 o8 o9 : Obj),  Later s0 s → Fr h₀ L' s.heap (fun y : Str => if y = "script" then some (Value.ref l) else none) → News h₀ L' s.heap [(L' + 1 + 1 + 1 + 1 + 1 + 1 + 1 + 1 + 1, o9), (L' + 1 + 1 + 1 + 1 + 1 + 1 + 1 + 1, o8), (L' + 1 + 1 + 1 + 1 + 1 + 1 + 1, o7), (L' + 1 + 1 + 1 + 1 + 1 + 1, o6), (L' + 1 + 1 + 1 + 1 + 1, o5), (L' + 1 + 1 + 1 + 1, o4), (L' + 1 + 1 + 1, o3), (L' + 1 + 1, o2), (L' + 1, o1)] →
    o1.data = .cell none → o2.data = .cell none → o3.data = .cell none → o4.data = .cell none → o5.data = .cell none → o6.data = .cell none → o7.data = .cell none → o8.data = .cell none → o9.data = .cell none → wpAny (model rwp w) (callerA.deeper (envOfC "law" (fnp 22).2.2 L' fa cdv)) (execs (lawBody.drop 0) (envOfC "law" (fnp 22).2.2 L' fa cdv)) Q E s
noncomputable def Seg1 (w : World) (loose : List Str) (mean : ExcName → Option Value) (mg mb : Str → Option Value) (h₀ : Heap) (L' fa l : Addr) (cdv : Value) (s0 : Shared) (Q : Flow → Shared → Prop) (E : Value → Shared → Prop) : Prop :=
  ∀ (s : Shared) (NUM : Addr) (ws : List Value) (xs : List Int) (o1 o2 o3 o4 o5 o6 o7 o8 o9 : Obj), @LT.lt Nat _ (L' + 9) NUM → IntsAre ws xs → 5 ≤ xs.length → (∀ x ∈ xs, 0 ≤ x ∧ x < 1000000) → Later s0 s → Fr h₀ L' s.heap (fun y : Str => if y = "script" then some (Value.ref l) else none) → News h₀ L' s.heap [(NUM, listOf ws.toArray 0), (L' + 1 + 1 + 1 + 1 + 1 + 1 + 1 + 1 + 1, o9), (L' + 1 + 1 + 1 + 1 + 1 + 1 + 1 + 1, o8), (L' + 1 + 1 + 1 + 1 + 1 + 1 + 1, o7), (L' + 1 + 1 + 1 + 1 + 1 + 1, o6), (L' + 1 + 1 + 1 + 1 + 1, o5), (L' + 1 + 1 + 1 + 1, o4), (L' + 1 + 1 + 1, o3), (L' + 1 + 1, o2), (L' + 1, o1)] →
    o1.data = .cell (some (.ref NUM)) → o2.data = .cell none → o3.data = .cell none → o4.data = .cell none → o5.data = .cell none → o6.data = .cell none → o7.data = .cell none → o8.data = .cell none → o9.data = .cell none → wpAny (model rwp w) (callerA.deeper (envOfC "law" (fnp 22).2.2 L' fa cdv)) (execs (lawBody.drop 1) (envOfC "law" (fnp 22).2.2 L' fa cdv)) Q E s
noncomputable def Seg2 (w : World) (loose : List Str) (mean : ExcName → Option Value) (mg mb : Str → Option Value) (h₀ : Heap) (L' fa l : Addr) (cdv : Value) (s0 : Shared) (Q : Flow → Shared → Prop) (E : Value → Shared → Prop) : Prop :=
  ∀ (s : Shared) (NUM : Addr) (ws : List Value) (xs : List Int) (S : Addr) (z0 z1 z2 : Nat) (t0 t1 t2 : Tok) (o1 o2 o3 o4 o5 o6 o7 o8 o9 : Obj), @LT.lt Nat _ (L' + 9) NUM → IntsAre ws xs → 5 ≤ xs.length → (∀ x ∈ xs, 0 ≤ x ∧ x < 1000000) → offC L' S → @Ne Nat NUM S → z0 < 5 → z1 < 5 → z2 < 5 → Later s0 s → Fr h₀ L' s.heap (fun y : Str => if y = "script" then some (Value.ref l) else none) → News h₀ L' s.heap [(S, listOf #[.int (z0 : Int) t0, .int (z1 : Int) t1, .int (z2 : Int) t2] 3), (NUM, listOf ws.toArray 0), (L' + 1 + 1 + 1 + 1 + 1 + 1 + 1 + 1 + 1, o9), (L' + 1 + 1 + 1 + 1 + 1 + 1 + 1 + 1, o8), (L' + 1 + 1 + 1 + 1 + 1 + 1 + 1, o7), (L' + 1 + 1 + 1 + 1 + 1 + 1, o6), (L' + 1 + 1 + 1 + 1 + 1, o5), (L' + 1 + 1 + 1 + 1, o4), (L' + 1 + 1 + 1, o3), (L' + 1 + 1, o2), (L' + 1, o1)] →
    o1.data = .cell (some (.ref NUM)) → o2.data = .cell (some (.ref S)) → o3.data = .cell none → o4.data = .cell none → o5.data = .cell none → o6.data = .cell none → o7.data = .cell none → o8.data = .cell none → o9.data = .cell none → wpAny (model rwp w) (callerA.deeper (envOfC "law" (fnp 22).2.2 L' fa cdv)) (execs (lawBody.drop 2) (envOfC "law" (fnp 22).2.2 L' fa cdv)) Q E s
noncomputable def Seg5 (w : World) (loose : List Str) (mean : ExcName → Option Value) (mg mb : Str → Option Value) (h₀ : Heap) (L' fa l : Addr) (cdv : Value) (s0 : Shared) (Q : Flow → Shared → Prop) (E : Value → Shared → Prop) : Prop :=
  ∀ (s : Shared) (S : Addr) (z0 z1 z2 e d : Nat) (t0 t1 t2 te td : Tok) (NM A0 A1 A2 : Addr) (c1 : Option Value) (n0 n1 n2 n3 n4 n5 n6 n7 n8 : Tok) (k0 k1 k2 k3 : Nat) (o1 o2 o3 o4 o5 o6 o7 o8 o9 : Obj), offC L' S → z0 < 5 → z1 < 5 → z2 < 5 → e < 3 → d < 1000000 → @LT.lt Nat _ (L' + 9) NM → @LT.lt Nat _ (L' + 9) A0 → @LT.lt Nat _ (L' + 9) A1 → @LT.lt Nat _ (L' + 9) A2 → Later s0 s → Fr h₀ L' s.heap (fun y : Str => if y = "d" then some (Value.int (d : Int) td) else if y = "script" then some (Value.ref l) else none) → News h₀ L' s.heap [(NM, listOf #[.ref A0, .ref A1, .ref A2] k0), (A2, listOf #[.str (Str.ofString "OPTIMIZED") n6, .str (Str.ofString "NEWLOCALS") n7, .str (Str.ofString "VARARGS") n8] k3), (A1, listOf #[.str (Str.ofString "NOFREE") n3, .str (Str.ofString "COROUTINE") n4, .str (Str.ofString "ITERABLE_COROUTINE") n5] k2), (A0, listOf #[.str (Str.ofString "0x1000") n0, .str (Str.ofString "0x2000") n1, .str (Str.ofString "0x4000") n2] k1), (S, listOf #[.int (z0 : Int) t0, .int (z1 : Int) t1, .int (z2 : Int) t2] 3), (L' + 1 + 1 + 1 + 1 + 1 + 1 + 1 + 1 + 1, o9), (L' + 1 + 1 + 1 + 1 + 1 + 1 + 1 + 1, o8), (L' + 1 + 1 + 1 + 1 + 1 + 1 + 1, o7), (L' + 1 + 1 + 1 + 1 + 1 + 1, o6), (L' + 1 + 1 + 1 + 1 + 1, o5), (L' + 1 + 1 + 1 + 1, o4), (L' + 1 + 1 + 1, o3), (L' + 1 + 1, o2), (L' + 1, o1)] →
    o1.data = .cell c1 → o2.data = .cell (some (.ref S)) → o3.data = .cell (some (.str (T (endOf e)) te)) → o4.data = .cell (some (.ref NM)) → o5.data = .cell none → o6.data = .cell none → o7.data = .cell none → o8.data = .cell none → o9.data = .cell none → wpAny (model rwp w) (callerA.deeper (envOfC "law" (fnp 22).2.2 L' fa cdv)) (execs (lawBody.drop 5) (envOfC "law" (fnp 22).2.2 L' fa cdv)) Q E s
noncomputable def tupObj (a b : Value) : Obj := { cls := .type "tuple", data := .seq #[a, b] 2 }
/-- the list of moves, its pairs in the ledger's tail -/
noncomputable def MovesAre (tl : List (Addr × Obj)) (its : List Value) (ms : List (Nat × Nat)) : Prop := its.length = ms.length ∧ ∀ (i : Nat) (p : Nat × Nat), ms[i]? = some p → ∃ (a : Addr) (o : Obj) (ta tb : Tok) (n : Nat), its[i]? = some (Value.ref a) ∧ (a, o) ∈ tl ∧ o.cls = .type "tuple" ∧ o.data = .seq #[.int (p.1 : Int) ta, .int (p.2 : Int) tb] n
noncomputable def Seg10 (w : World) (loose : List Str) (mean : ExcName → Option Value) (mg mb : Str → Option Value) (h₀ : Heap) (L' fa l : Addr) (cdv : Value) (s0 : Shared) (Q : Flow → Shared → Prop) (E : Value → Shared → Prop) : Prop :=
  ∀ (s : Shared) (S : Addr) (z0 z1 z2 e d : Nat) (t0 t1 t2 te td th : Tok) (NM A0 A1 A2 W HR MV : Addr) (c1 c5 c6 : Option Value) (n0 n1 n2 n3 n4 n5 n6 n7 n8 : Tok) (k0 k1 k2 k3 mvn wn hn : Nat) (its : List Value) (tl : List (Addr × Obj)) (ml : Str → Option Value) (o1 o2 o3 o4 o5 o6 o7 o8 o9 : Obj), offC L' S → z0 < 5 → z1 < 5 → z2 < 5 → e < 3 → d < 1000000 → @LT.lt Nat _ (L' + 9) NM → @LT.lt Nat _ (L' + 9) A0 → @LT.lt Nat _ (L' + 9) A1 → @LT.lt Nat _ (L' + 9) A2 → @LT.lt Nat _ (L' + 9) W → @LT.lt Nat _ (L' + 9) HR → @LT.lt Nat _ (L' + 9) MV → @Ne Nat HR W → @Ne Nat MV W → @Ne Nat NM W → @Ne Nat A2 W → @Ne Nat A1 W → @Ne Nat A0 W → @Ne Nat S W → @Ne Nat HR MV → @Ne Nat NM MV → @Ne Nat A2 MV → @Ne Nat A1 MV → @Ne Nat A0 MV → @Ne Nat S MV → @Ne Nat NM HR → @Ne Nat A2 HR → @Ne Nat A1 HR → @Ne Nat A0 HR → @Ne Nat S HR → MovesAre tl its (movesOf z0 z1 z2) → its.length ≤ 20 → OwnOff tl [W, HR, MV, NM, A2, A1, A0, S, L' + 1 + 1 + 1 + 1 + 1 + 1 + 1 + 1 + 1, L' + 1 + 1 + 1 + 1 + 1 + 1 + 1 + 1, L' + 1 + 1 + 1 + 1 + 1 + 1 + 1, L' + 1 + 1 + 1 + 1 + 1 + 1, L' + 1 + 1 + 1 + 1 + 1, L' + 1 + 1 + 1 + 1, L' + 1 + 1 + 1, L' + 1 + 1, L' + 1] → ml "winners" = some (.ref W) → ml "heirs" = some (.ref HR) → ml "moves" = some (.ref MV) → ml "d" = some (.int (d : Int) td) → Later s0 s → Fr h₀ L' s.heap ml → News h₀ L' s.heap ([(W, listOf #[] wn), (HR, listOf #[] hn), (MV, listOf its.toArray mvn), (NM, listOf #[.ref A0, .ref A1, .ref A2] k0), (A2, listOf #[.str (Str.ofString "OPTIMIZED") n6, .str (Str.ofString "NEWLOCALS") n7, .str (Str.ofString "VARARGS") n8] k3), (A1, listOf #[.str (Str.ofString "NOFREE") n3, .str (Str.ofString "COROUTINE") n4, .str (Str.ofString "ITERABLE_COROUTINE") n5] k2), (A0, listOf #[.str (Str.ofString "0x1000") n0, .str (Str.ofString "0x2000") n1, .str (Str.ofString "0x4000") n2] k1), (S, listOf #[.int (z0 : Int) t0, .int (z1 : Int) t1, .int (z2 : Int) t2] 3), (L' + 1 + 1 + 1 + 1 + 1 + 1 + 1 + 1 + 1, o9), (L' + 1 + 1 + 1 + 1 + 1 + 1 + 1 + 1, o8), (L' + 1 + 1 + 1 + 1 + 1 + 1 + 1, o7), (L' + 1 + 1 + 1 + 1 + 1 + 1, o6), (L' + 1 + 1 + 1 + 1 + 1, o5), (L' + 1 + 1 + 1 + 1, o4), (L' + 1 + 1 + 1, o3), (L' + 1 + 1, o2), (L' + 1, o1)] ++ tl) →
    o1.data = .cell c1 → o2.data = .cell (some (.ref S)) → o3.data = .cell (some (.str (T (endOf e)) te)) → o4.data = .cell (some (.ref NM)) → o5.data = .cell c5 → o6.data = .cell c6 → o7.data = .cell (some (.int (-1) th)) → o8.data = .cell none → o9.data = .cell none → wpAny (model rwp w) (callerA.deeper (envOfC "law" (fnp 22).2.2 L' fa cdv)) (execs (lawBody.drop 10) (envOfC "law" (fnp 22).2.2 L' fa cdv)) Q E s
end Mine
namespace Mine
open PySem PySem.W PySem.Calls PyProof.Rows PySem.Spec
theorem ints3 {ys : List Value} {a b c : Int} (h : IntsAre ys [a, b, c]) : ∃ t0 t1 t2, ys = [.int a t0, .int b t1, .int c t2] := by
  cases h with | cons _ t0 h => cases h with | cons _ t1 h => cases h with | cons _ t2 h => cases h; exact ⟨t0, t1, t2, rfl⟩
theorem mod5 (a : Int) : ∃ z : Nat, z < 5 ∧ a.fmod 5 = (z : Int) := by
  have h1 := Int.fmod_nonneg_of_pos a (show (0 : Int) < 5 by decide)
  have h2 := Int.fmod_lt_of_pos a (show (0 : Int) < 5 by decide)
  exact ⟨(a.fmod 5).toNat, by omega, by omega⟩
theorem item_nums {prog : Program} {w : World} {A : Around} {E : Value → Shared → Prop} {s : Shared} {h₀ : Heap} {L D : Addr} {news : List (Addr × Obj)} {value slice : PySem.Expr} {ws : List Value} {xs : List Int} {c : Nat} {k : Int} {u : Tok} {Q : Value → Shared → Prop} (N : News h₀ L s.heap news) (hm : (D, listOf ws.toArray c) ∈ news) (hI : IntsAre ws xs) (h0 : 0 ≤ k) (h3 : k < 0 + ((3 - 0 : Int).toNat : Int)) (hl : 5 ≤ xs.length) (hs : subscripted slice false (.ref D) (.int k u) = operate [.ref D, .int k u] (getItem (.ref D) (.int k u)))
    (h : ∀ t, Q (.int (xs.getD k.toNat 0) t) s) :
    wpAny (model prog w) A (subscriptTail value slice (.ref D) (.int k u)) Q E s := by
  have h3' : k < 3 := h3
  exact item_anyK (N.isList hm) hI h0 (by omega) (by omega) h hs
local macro_rules | `(tactic| walk_at "subscriptTail Name Name ref int") => `(tactic| with_reducible apply item_nums; k_asm; k_dflt k_mem; assumption; assumption; assumption; assumption; with_unfolding_all rfl; intro _)
theorem stop_end {M : Model} {A : Around} {E : Value → Shared → Prop} {s : Shared} {Q : Flow → Shared → Prop} {p v u r env} (h : Hold (wpAny M A (execs (.Assign [.Name (Str.ofString "end") p] v u :: r) env) Q E s)) : wpAny M A (execs (.Assign [.Name (Str.ofString "end") p] v u :: r) env) Q E s := h.1
local macro_rules | `(tactic| walk_at "execs cons") => `(tactic| with_reducible apply stop_end)
set_option maxHeartbeats 4000000 in
theorem seg1 (w : World) (loose : List Str) (mean : ExcName → Option Value) (mg mb : Str → Option Value) (h₀ : Heap) (L' fa l : Addr) (cdv : Value) (s0 : Shared) (Q : Flow → Shared → Prop) (E : Value → Shared → Prop)
    (X : (K w.params).In h₀) (TT : Top qv loose mean mg mb h₀) (B : Below callerA h₀ [] h₀) (h2 : Seg2 w loose mean mg mb h₀ L' fa l cdv s0 Q E) : Seg1 w loose mean mg mb h₀ L' fa l cdv s0 Q E := by
  unfold Seg1 rwp
  revert X
  k_fill
  intro X s NUM ws xs o1 o2 o3 o4 o5 o6 o7 o8 o9 hNUM hI hlen hb hL F N d1 d2 d3 d4 d5 d6 d7 d8 d9
  show wpAny _ _ (execs (_ :: _) _) _ _ _
  k_steps
  rename IntsAre _ (List.map _ _) => hI8
  rename (@Ne Nat _ _) ∧ _ => o1'
  have hI9 : IntsAre _ [(xs.getD (0 : Int).toNat 0 + 0 + 1).fmod 5, (xs.getD (1 : Int).toNat 0 + 1 + 1).fmod 5, (xs.getD (2 : Int).toNat 0 + 2 + 1).fmod 5] := hI8
  obtain ⟨t0, t1, t2, e⟩ := ints3 hI9
  obtain ⟨z0, hz0, e0⟩ := mod5 (xs.getD (0 : Int).toNat 0 + 0 + 1)
  obtain ⟨z1, hz1, e1⟩ := mod5 (xs.getD (1 : Int).toNat 0 + 1 + 1)
  obtain ⟨z2, hz2, e2⟩ := mod5 (xs.getD (2 : Int).toNat 0 + 2 + 1)
  rw [e0, e1, e2] at e
  subst e
  obtain ⟨q0, q9, q8, q7, q6, q5, q4, q3, q2, q1⟩ := o1'
  refine ⟨h2 _ NUM ws xs _ z0 z1 z2 t0 t1 t2 o1 _ o3 o4 o5 o6 o7 o8 o9 hNUM hI hlen hb ⟨Ne.symm q1, Ne.symm q2, Ne.symm q3, Ne.symm q4, Ne.symm q5, Ne.symm q6, Ne.symm q7, Ne.symm q8, Ne.symm q9⟩ q0 hz0 hz1 hz2 ⟨hL.1, hL.2⟩ (by assumption) (by assumption) d1 (by assumption) d3 d4 d5 d6 d7 d8 d9⟩
end Mine
namespace Mine
open PySem PySem.W PySem.Calls PyProof.Rows PySem.Spec
/-- how a turn ends -/
noncomputable def LEndW (h₀ : Heap) (L : Addr) (J : (Str → Option Value) → List (Addr × Obj) → Prop) (own : List (Addr × Obj)) (s₁ : Shared) (Q : Flow → Shared → Prop) (f : Flow) (s₂ : Shared) : Prop :=
  match f with
  | .ret v => Q (.ret v) s₂
  | .brk => Q .next s₂
  | _ => ∃ m' news' nx, Later s₁ s₂ ∧ Fr h₀ L s₂.heap m' ∧ News h₀ L s₂.heap news' ∧ (∀ p ∈ nx, p ∈ news') ∧ (∀ p ∈ own, p ∈ news') ∧ OwnOff own (nx.map (·.1)) ∧ J m' nx
section
variable {prog : Program} {w : World} {A : Around} {E : Value → Shared → Prop} {s : Shared} {env : Env} {h₀ : Heap}
theorem loop_grow {target : PySem.Expr} {body orelse : List Stmt} {I : Addr} {fp wr : List Addr} {n : Nat} {P : Nat → Value → Prop} {St : Nat → Heap → Prop} {m : Str → Option Value} {news : List (Addr × Obj)} {Q : Flow → Shared → Prop}
    (W : Walks prog w A I fp wr n P St) (hLf : env.locals ∉ fp) (hwr : ∀ b ∈ wr, h₀.get? b = none) (hnw : ∀ p ∈ news, p.1 ∉ wr) (hst : St 0 s.heap) (F : Fr h₀ env.locals s.heap m) (N : News h₀ env.locals s.heap news)
    (J : Nat → (Str → Option Value) → List (Addr × Obj) → Prop) (h0 : J 0 m news)
    (go : ∀ i v (s' : Shared) (Q' E' : _), P i v → St (i + 1) s'.heap → Q' () s' → wpAny (model prog w) A (letOwnedTupleGo target (.ref I) v) Q' E' s')
    (step : ∀ i v m₁ news₁ (s₁ : Shared) own, Later s s₁ → i < n → P i v → J i m₁ news₁ → OwnOff own (news₁.map (·.1)) → Fr h₀ env.locals s₁.heap m₁ → News h₀ env.locals s₁.heap (news₁ ++ own) →
      wpAny (model prog w) A (assign target env v) (fun _ s₂ => wpAny (model prog w) A (execs body env) (LEndW h₀ env.locals (J (i + 1)) own s₁ Q) (fun _ _ => False) s₂) (fun _ _ => False) s₁)
    (done : ∀ m₁ news₁ (s₁ : Shared), Later s s₁ → J n m₁ news₁ → Fr h₀ env.locals s₁.heap m₁ → News h₀ env.locals s₁.heap news₁ → wpAny (model prog w) A (execs orelse env) (fun f s₃ => Q f s₃) (fun _ _ => False) s₁)
    (hfpn : ∀ p ∈ news, p.1 ∉ fp) (hlive : ∀ i h, St i h → ∀ b ∈ fp, ∃ o, h.get? b = some o) :
    codeAny (model prog w) A (.forLoop target (.ref I) body orelse env) (fun r s' => match r with | .ok f => Q f s' | .error e => cameBackBy (model prog w) A env E e s') s := by
  have hLw : env.locals ∉ wr := fun h => hLf (W.sub _ h)
  have old : ∀ b o, h₀.get? b = some o → b ∉ wr := fun b o e hb => by rw [hwr b hb] at e; cases e
  refine codeAny_forLoop_any
    (fun k s' => ∃ i m' news', Later s s' ∧ St i s'.heap ∧ Fr h₀ env.locals s'.heap m' ∧ News h₀ env.locals s'.heap news' ∧ (∀ p ∈ news', p.1 ∉ fp) ∧ J i m' news' ∧ i ≤ n ∧ k = n + 1 - i) ?_ (n + 1)
    ⟨0, m, news, .refl s, hst, F, N, hfpn, h0, Nat.zero_le _, rfl⟩
  rintro k s' ⟨i, m', news', hls, hst', F', N', had, hJ, hi, rfl⟩
  have hnw' : ∀ p ∈ news', p.1 ∉ wr := fun p hp h => had p hp (W.sub _ h)
  have next : ∀ h₁ : Heap, (∀ b o, b ∉ wr → s'.heap.get? b = some o → h₁.get? b = some o) → Fr h₀ env.locals h₁ m' ∧ News h₀ env.locals h₁ news' := fun h₁ hk₁ =>
    ⟨⟨F'.ns.at' fun o e => hk₁ _ o hLw e, fun b o e => hk₁ b o (old b o e) (F'.keep b o e), F'.above⟩, fun p hp => ⟨hk₁ _ _ (hnw' p hp) (N' p hp).1, (N' p hp).2⟩⟩
  by_cases hlt : i < n
  · refine W.item i _ _ _ hlt hst' fun v h₁ tk₁ hP hst₁ hk₁ => ?_
    obtain ⟨F₁, N₁⟩ := next h₁ hk₁
    refine go i v _ _ _ hP hst₁ ?_
    have hl₁ : Later s { s' with heap := h₁, toks := tk₁ } := hls
    have Nown : News h₀ env.locals h₁ (ownOf h₀ fp h₁) := news_ownOf hLf
    have hoff : OwnOff (ownOf h₀ fp h₁) (news'.map (·.1)) := by
      intro p hp b hb e
      obtain ⟨q, hq, rfl⟩ := List.mem_map.mp hb
      exact had q hq (e ▸ ownOf_sub p hp)
    refine wpAny_mono (step i v m' news' _ (ownOf h₀ fp h₁) hl₁ hlt hP hJ hoff F₁ (N₁.append Nown)) (fun _ s₂ h₂ => wpAny_mono h₂ (fun f s₃ h₃ => ?_) fun _ _ e => e.elim) fun _ _ e => e.elim
    have fin : (∃ m₂ news₂ nx, Later { s' with heap := h₁, toks := tk₁ } s₃ ∧ Fr h₀ env.locals s₃.heap m₂ ∧ News h₀ env.locals s₃.heap news₂ ∧ (∀ p ∈ nx, p ∈ news₂) ∧ (∀ p ∈ ownOf h₀ fp h₁, p ∈ news₂) ∧ OwnOff (ownOf h₀ fp h₁) (nx.map (·.1)) ∧ J (i + 1) m₂ nx) →
        ∃ k', k' < n + 1 - i ∧ ∃ i m' news', Later s s₃ ∧ St i s₃.heap ∧ Fr h₀ env.locals s₃.heap m' ∧ News h₀ env.locals s₃.heap news' ∧ (∀ p ∈ news', p.1 ∉ fp) ∧ J i m' news' ∧ i ≤ n ∧ k' = n + 1 - i := by
      rintro ⟨m₂, news₂, nx, hl₃, F₃, N₃, hn, ho, ha, hj⟩
      refine ⟨n + 1 - (i + 1), by omega, i + 1, m₂, nx, hl₁.trans hl₃, ?_, F₃, fun p hp => N₃ p (hn p hp), ?_, hj, hlt, rfl⟩
      rotate_left
      · intro p hp hb
        obtain ⟨o, ho'⟩ := hlive _ _ hst₁ _ hb
        exact ha _ (mem_ownOf hb (N₃ p (hn p hp)).2.2 ho') _ (List.mem_map.mpr ⟨p, hp, rfl⟩) rfl
      refine W.frame _ _ _ hst₁ fun b hb o e => ?_
      cases hn₀ : h₀.get? b with
      | some o₀ =>
        have : o₀ = o := by have := F₁.keep b o₀ hn₀; rw [e] at this; exact (Option.some.inj this).symm
        exact this ▸ F₃.keep b o₀ hn₀
      | none => exact (N₃ _ (ho _ (mem_ownOf hb hn₀ e))).1
    cases f with
    | ret v => exact h₃
    | brk => exact h₃
    | cont => exact fin h₃
    | next => exact fin h₃
  · have hin : i = n := by omega
    subst hin
    refine W.done _ _ _ hst' fun h₁ tk₁ hk₁ => ?_
    obtain ⟨F₁, N₁⟩ := next h₁ hk₁
    exact wpAny_mono (done m' news' _ hls hJ F₁ N₁) (fun _ _ h => h) fun _ _ e => e.elim
theorem for_listW {target : PySem.Expr} {body orelse : List Stmt} {D : Addr} {items : Array Value} {m : Str → Option Value} {news all : List (Addr × Obj)} {Q : Flow → Shared → Prop} (hh : A.handled = none) (hl : LCg.SrcAt h₀ D items all)
    (F : Fr h₀ env.locals s.heap m) (N : News h₀ env.locals s.heap all) (sub : ∀ p ∈ news, p ∈ all) (off : ∀ p ∈ news, p.1 ≠ D)
    (J : Nat → (Str → Option Value) → List (Addr × Obj) → Prop) (h0 : J 0 m news)
    (step : ∀ i v m₁ news₁ (s₁ : Shared) own, Later s s₁ → items[i]? = some v → J i m₁ news₁ → OwnOff own (news₁.map (·.1)) → Fr h₀ env.locals s₁.heap m₁ → News h₀ env.locals s₁.heap (news₁ ++ own) →
      wpAny (model prog w) A (assign target env v) (fun _ s₂ => wpAny (model prog w) A (execs body env) (LEndW h₀ env.locals (J (i + 1)) own s₁ Q) (fun _ _ => False) s₂) (fun _ _ => False) s₁)
    (done : ∀ m₁ news₁ (s₁ : Shared), Later s s₁ → J items.size m₁ news₁ → Fr h₀ env.locals s₁.heap m₁ → News h₀ env.locals s₁.heap news₁ → wpAny (model prog w) A (execs orelse env) (fun f s₃ => Q f s₃) (fun _ _ => False) s₁) :
    wpAny (model prog w) A (pyIter (.ref D)) (fun it s₂ => codeAny (model prog w) A (.forLoop target it body orelse env) (fun r s' => match r with | .ok f => Q f s' | .error e => cameBackBy (model prog w) A env E e s') s₂) E s := by
  have hls : s.heap.IsList D items := hl.elim (fun x => x.at fun o e => F.keep D o e) fun ⟨o, hm, c, n, d⟩ => ⟨o, (N _ hm).1, c, n, d⟩
  have hDL : env.locals ≠ D := hl.elim (fun ⟨o, e, _⟩ q => absurd (Heap.lt_size e) (by rw [← q]; exact Nat.not_lt.mpr F.above)) fun ⟨o, hm, _⟩ q => (N _ hm).2.1 q.symm
  have hne : D ≠ s.heap.objs.size := by obtain ⟨o, e, _⟩ := id hls; exact Nat.ne_of_lt (Heap.lt_size e)
  refine wpAny_pyIter_list hls ?_
  have W := Walks.list (prog := prog) (w := w) hh s.heap.objs.size D hne items
  have up : ∀ b o, s.heap.get? b = some o → (s.heap.push { cls := .type "list_iterator", data := .fields #[.ref D, .int 0 0] }).get? b = some o := fun b o e => Heap.get?_push_of_some _ e
  have N' : News h₀ env.locals s.heap news := fun p hp => N p (sub p hp)
  have offI : ∀ p ∈ news, p.1 ≠ s.heap.objs.size := fun p hp => Nat.ne_of_lt (Heap.lt_size (N' p hp).1)
  refine loop_grow W (news := news) (m := m) ?_ ?_ (fun p hp hI => offI p hp (List.mem_singleton.mp hI)) ⟨⟨_, Heap.get?_push_size _ rfl, rfl, rfl⟩, hls.at (up D)⟩ (F.keeps up) (N'.grown up) J h0
    (fun i v s' Q' E' _ st hq => go_list st.1 hq) (fun i v m₁ news₁ s₁ own hL hlt hP hJ ho F₁ N₁ => step i v m₁ news₁ s₁ own ?_ hP hJ ho F₁ N₁) (fun m₁ news₁ s₁ hL hJ F₁ N₁ => done m₁ news₁ s₁ ?_ hJ F₁ N₁) ?_ (fun i h st b hb => by
      rcases List.mem_cons.mp hb with e | hb
      · obtain ⟨o, e', _⟩ := st.1; exact ⟨o, e ▸ e'⟩
      · obtain ⟨o, e', _⟩ := st.2; exact ⟨o, (List.mem_singleton.mp hb) ▸ e'⟩)
  · intro hm
    rcases List.mem_cons.mp hm with e | hm
    · exact absurd F.ns.lt (by rw [e]; exact Nat.lt_irrefl _)
    · exact hDL (List.mem_singleton.mp hm)
  · intro b hb
    rw [List.mem_singleton.mp hb]
    exact next_is_new F
  · exact hL
  · exact hL
  · intro p hp hm
    rcases List.mem_cons.mp hm with e | hm
    · exact offI p hp e
    · exact off p hp (List.mem_singleton.mp hm)

theorem for_rangeW {x : Str} {px : Pos} {body orelse : List Stmt} {r : Addr} {a b : Int} {t u v : Tok} {n : Nat} {m : Str → Option Value} {news : List (Addr × Obj)} {Q : Flow → Shared → Prop} (hh : A.handled = none)
    (hr : IsRange s.heap r a b 1 t u v) (hsm : Builtin.Range.small a b 1 = true) (hn : Builtin.Range.rangeSize a b 1 = ((n : Nat) : Int)) (F : Fr h₀ env.locals s.heap m) (N : News h₀ env.locals s.heap news)
    (J : Nat → (Str → Option Value) → List (Addr × Obj) → Prop) (h0 : J 0 m news)
    (step : ∀ (i : Nat) t m₁ news₁ (s₁ : Shared) own, Later s s₁ → i < n → J i m₁ news₁ → OwnOff own (news₁.map (·.1)) → Fr h₀ env.locals s₁.heap m₁ → News h₀ env.locals s₁.heap (news₁ ++ own) →
      wpAny (model prog w) A (assign (.Name x px) env (.int (a + (i : Int)) t)) (fun _ s₂ => wpAny (model prog w) A (execs body env) (LEndW h₀ env.locals (J (i + 1)) own s₁ Q) (fun _ _ => False) s₂) (fun _ _ => False) s₁)
    (done : ∀ m₁ news₁ (s₁ : Shared), Later s s₁ → J n m₁ news₁ → Fr h₀ env.locals s₁.heap m₁ → News h₀ env.locals s₁.heap news₁ → wpAny (model prog w) A (execs orelse env) (fun f s₃ => Q f s₃) (fun _ _ => False) s₁) :
    wpAny (model prog w) A (pyIter (.ref r)) (fun it s₂ => codeAny (model prog w) A (.forLoop (.Name x px) it body orelse env) (fun r s' => match r with | .ok f => Q f s' | .error e => cameBackBy (model prog w) A env E e s') s₂) E s := by
  refine wpAny_pyIter_range hr hsm ?_
  have offI : ∀ p ∈ news, p.1 ≠ s.heap.objs.size := fun p hp => Nat.ne_of_lt (Heap.lt_size (N p hp).1)
  refine loop_grow (LCg.range_walks (prog := prog) (w := w) (I := s.heap.objs.size) hh a n) (news := news) (m := m) ?_ ?_ (fun p hp hI => offI p hp (List.mem_singleton.mp hI)) (by show IsRangeIter _ _ _ _ _; rw [hn]; simpa using Heap.get?_push_size _ rfl)
    (F.keeps fun _ _ e => Heap.get?_push_of_some _ e) (N.grown fun _ _ e => Heap.get?_push_of_some _ e) J h0
    (fun i v s' Q' E' _ st hq => wpAny_pure hq) (fun i v m₁ news₁ s₁ own hL hlt hP hJ ho F₁ N₁ => ?_) (fun m₁ news₁ s₁ hL hJ F₁ N₁ => done m₁ news₁ s₁ ?_ hJ F₁ N₁) (fun p hp hI => offI p hp (List.mem_singleton.mp hI)) (fun i h st b hb => by rw [List.mem_singleton.mp hb]; exact ⟨_, st⟩)
  · intro hm
    exact absurd F.ns.lt (by rw [List.mem_singleton.mp hm]; exact Nat.lt_irrefl _)
  · intro b hb
    rw [List.mem_singleton.mp hb]
    exact next_is_new F
  · obtain ⟨t', rfl⟩ := hP
    exact step i t' m₁ news₁ s₁ own hL hlt hJ ho F₁ N₁
  · exact hL
end
end Mine
namespace Mine
open PySem PySem.W PySem.Builtin PySem.Builtin.Str PySem.StrLaws
/-- where a word stands in a text, gone over as a list: quicker to compute -/
noncomputable def occL (y : List Nat) : List Nat → Nat → Nat → List Nat
  | [], _, _ => []
  | a :: r, i, f => if f ≤ i ∧ (a :: r).take y.length = y then i :: occL y r (i + 1) (i + y.length) else occL y r (i + 1) f
theorem occ_run (x y : Str) (hy : 1 ≤ y.length) : ∀ (r : List Nat) (i f : Nat) (acc : Array Nat), x.cps.toList.drop i = r → acc.size ≤ i → i + r.length = x.length →
    (forIn (List.range' i (r.length + 1)) (acc, f) (occBody x y x.length (x.length + 1))).run.fst.toList = acc.toList ++ occL y.cps.toList r i f
  | [], i, f, acc, hr, ha, hl => by
    rw [List.length_nil, List.range'_succ, List.forIn_cons]
    unfold occBody
    rw [if_neg (fun h => by have := h.1.2; simp only [List.length_nil] at hl; lia)]
    simp [occL]
  | a :: r, i, f, acc, hr, ha, hl => by
    rw [List.length_cons] at hl ⊢
    rw [List.range'_succ, List.forIn_cons]
    have hd : x.cps.toList.drop (i + 1) = r := by
      rw [← List.drop_drop, hr]; rfl
    have hsub : subAt x y i = true ↔ (a :: r).take y.cps.toList.length = y.cps.toList := by
      rw [subAt_eq, hr, beq_iff_eq]
      exact Iff.rfl
    unfold occL
    by_cases hc : f ≤ i ∧ (a :: r).take y.cps.toList.length = y.cps.toList
    · have hle : i + y.length ≤ x.length := by
        have h := congrArg List.length hc.2
        rw [List.length_take, List.length_cons] at h
        have e : y.cps.toList.length = y.length := by simp [Str.length]
        lia
      rw [if_pos hc]
      conv => lhs; unfold occBody
      rw [if_pos ⟨⟨⟨by show acc.size < _; lia, hc.1⟩, hle⟩, hsub.mpr hc.2⟩]
      have e : y.cps.toList.length = y.length := by simp [Str.length]
      have ih := occ_run x y hy r (i + 1) (i + y.length) (acc.push i) hd (by simp; lia) (by lia)
      rw [e]
      refine ih.trans ?_
      simp
    · rw [if_neg hc]
      conv => lhs; unfold occBody
      rw [if_neg (fun h => hc ⟨h.1.1.2, hsub.mp h.2⟩)]
      exact occ_run x y hy r (i + 1) f acc hd (by lia) (by lia)
theorem occ_L (x y : Str) (hy : 1 ≤ y.length) : occurrences x y 0 x.length (x.length + 1) = occL y.cps.toList x.cps.toList 0 0 := by
  rw [occ_eq]
  have e : x.cps.toList.length = x.length := by simp [Str.length]
  have h := occ_run x y hy x.cps.toList 0 0 #[] rfl (by simp) (by lia)
  rw [e] at h
  exact h.trans (by simp)
noncomputable def partsL (l : List Nat) (w : Nat) : Nat → List Nat → List (List Nat)
  | a, [] => [l.drop a]
  | a, c :: r => (l.drop a).take (c - a) :: partsL l w (c + w) r
theorem parts_L (x : Str) (w : Nat) : ∀ (a : Nat) (cuts : List Nat), (partsFrom x w a cuts).map (fun s => s.cps.toList) = partsL x.cps.toList w a cuts
  | a, [] => by
    have e : x.cps.toList.length = x.length := by simp [Str.length]
    show [(strSub x a x.length).cps.toList] = [x.cps.toList.drop a]
    rw [strSub_toList]
    congr 1
    rw [List.take_of_length_le]
    rw [List.length_drop]; lia
  | a, c :: r => by
    show (strSub x a c).cps.toList :: (partsFrom x w (c + w) r).map (fun s => s.cps.toList) = _
    rw [strSub_toList, parts_L x w (c + w) r]
    rfl
theorem strs_eq : ∀ {a b : List Str}, a.map (fun s => s.cps.toList) = b.map (fun s => s.cps.toList) → a = b
  | [], [], _ => rfl
  | [], _ :: _, h => by simp at h
  | _ :: _, [], h => by simp at h
  | x :: a, y :: b, h => by
    rw [List.map_cons, List.map_cons] at h
    injection h with h1 h2
    rw [strs_eq h2, Str.ext' (Array.toList_inj.mp h1)]
noncomputable def splitL (l y : List Nat) : List (List Nat) := match occL y l 0 0 with
  | [] => [l]
  | c :: r => partsL l y.length 0 (c :: r)
theorem split_L (x y : Str) (hy : 1 ≤ y.length) (hk : strKind y = 1) (hl : ¬ x.length < y.length) : (Txt.split x y).map (fun s => s.cps.toList) = splitL x.cps.toList y.cps.toList := by
  unfold Txt.split splitL
  rw [occ_L x y hy, hk]
  have h : ¬ strKind x < 1 := by unfold Builtin.Str.strKind; split <;> (try split) <;> decide
  simp only [h, hl, decide_false, Bool.or_false, Bool.false_eq_true, if_false]
  cases e : occL y.cps.toList x.cps.toList 0 0 with
  | nil => rfl
  | cons c r =>
    rw [if_neg (by simp), partsBetween_eq, parts_L]
    simp [Str.length]
end Mine
namespace Mine
open PySem PySem.W PySem.Calls PyProof.Rows PySem.Spec

noncomputable def sentRow (r : Nat) : List Nat := if r > 0 then List.replicate (r + 1) 46 else []
noncomputable def sentRows (r0 r1 r2 : Nat) : List Nat := [r0, r1, r2].flatMap fun r => sentRow r ++ [13, 10]
noncomputable def plainRows (r0 r1 r2 : Nat) (en : List Nat) : List Nat := [r0, r1, r2].flatMap fun r => List.replicate r 46 ++ en
noncomputable def numOf (r0 r1 r2 : Nat) : Nat := (r0 * 64 + r1) * 64 + r2
noncomputable def nameOf (i k : Nat) : Str := match i, k with
  | 0, 0 => "0x1000" | 0, 1 => "0x2000" | 0, 2 => "0x4000"
  | 1, 0 => "NOFREE" | 1, 1 => "COROUTINE" | 1, 2 => "ITERABLE_COROUTINE"
  | 2, 0 => "OPTIMIZED" | 2, 1 => "NEWLOCALS" | 2, 2 => "VARARGS"
  | _, _ => ""
noncomputable def bitOf (r0 r1 r2 i k : Nat) : Bool := ([r0, r1, r2].getD i 0) / 2 ^ k % 2 == 1
noncomputable def dueOf (r0 r1 r2 : Nat) : List Str := [2, 1, 0].flatMap fun i => (([0, 1, 2] : List Nat).filter fun k => bitOf r0 r1 r2 i k).map fun k => nameOf i k
noncomputable def wordsOf (r0 r1 r2 : Nat) : List Str := if dueOf r0 r1 r2 = [] then ["0x0"] else dueOf r0 r1 r2
noncomputable def oddOf (r0 r1 r2 : Nat) : List Nat := ([0, 1, 2] : List Nat).filter fun k => ((([0, 1, 2] : List Nat).filter fun i => bitOf r0 r1 r2 i k).length % 2 == 1)
theorem p_sent : ∀ (e : Fin 3) (r0 r1 r2 : Fin 5), dots true (crlf (plainRows r0.val r1.val r2.val (endOf e.val))) = sentRows r0.val r1.val r2.val := by decide +kernel
theorem p_split : ∀ (r0 r1 r2 : Fin 5), Txt.split (T (sentRows r0.val r1.val r2.val)) (Str.ofString "\r\n") = [T (sentRow r0.val), T (sentRow r1.val), T (sentRow r2.val), T []] := by decide +kernel
theorem p_wordsL : ∀ (r0 r1 r2 : Fin 5), splitL (flagText (numOf r0.val r1.val r2.val)).cps.toList [44, 32] = (wordsOf r0.val r1.val r2.val).map (fun s => s.cps.toList) ∧ 2 ≤ (flagText (numOf r0.val r1.val r2.val)).cps.toList.length := by decide +kernel
theorem p_words : ∀ (r0 r1 r2 : Fin 5), Txt.split (flagText (numOf r0.val r1.val r2.val)) (Str.ofString ", ") = wordsOf r0.val r1.val r2.val := fun r0 r1 r2 => by
  have o := p_wordsL r0 r1 r2
  have e : (flagText (numOf r0.val r1.val r2.val)).cps.toList.length = (flagText (numOf r0.val r1.val r2.val)).length := by simp [Str.length]
  refine strs_eq ((split_L _ _ (by decide +kernel) (by decide +kernel) ?_).trans o.1)
  rw [show (Str.ofString ", ").length = 2 by decide +kernel, ← e]
  exact Nat.not_lt.mpr o.2
theorem p_in : ∀ (r0 r1 r2 : Fin 5) (i k : Fin 3), (wordsOf r0.val r1.val r2.val).contains (nameOf i.val k.val) = bitOf r0.val r1.val r2.val i.val k.val := by decide +kernel
noncomputable def restAt (s0 s1 s2 j take i : Nat) : Nat := if i = j then [s0, s1, s2].getD i 0 - take else [s0, s1, s2].getD i 0
noncomputable def oddAt (s0 s1 s2 j take : Nat) : List Nat := oddOf (restAt s0 s1 s2 j take 0) (restAt s0 s1 s2 j take 1) (restAt s0 s1 s2 j take 2)
noncomputable def winnersOf (s0 s1 s2 : Nat) (ms : List (Nat × Nat)) : List Nat := (ms.filter fun m => m.2 != 0 && (oddAt s0 s1 s2 m.1 m.2).isEmpty).map (·.1)
noncomputable def highOf (s0 s1 s2 : Nat) : Int := (oddAt s0 s1 s2 0 0).foldl (fun (a : Int) (k : Nat) => max a (k : Int)) (-1)
noncomputable def heirsOf (s0 s1 s2 : Nat) : List Nat := if highOf s0 s1 s2 ≥ 0 then ([0, 1, 2] : List Nat).filter fun i => bitOf s0 s1 s2 i (highOf s0 s1 s2).toNat else []
/-- Bouton -/
theorem p_nim : ∀ (s0 s1 s2 : Fin 5), winnersOf s0.val s1.val s2.val (movesOf s0.val s1.val s2.val) = heirsOf s0.val s1.val s2.val := by decide +kernel
end Mine
namespace Mine
open PySem PySem.W PySem.Calls PyProof.Rows PySem.Spec
noncomputable def bodyMain : List Stmt := match lawBody.drop 10 with
  | .For _ _ b _ _ :: _ => b
  | _ => []
/-- the last two statements of the first branch -/
noncomputable def highStmts : List Stmt := match bodyMain.drop 9 with
  | .If _ b _ _ :: _ => b.drop 2
  | _ => []
/-- what holds all through a turn -/
structure Okm (w : World) (loose : List Str) (mean : ExcName → Option Value) (mg : Str → Option Value) (mb : Str → Option Value) (h₀ : Heap) (L' : Addr) (fa : Addr) (cdv : Value) (S : Addr) (NM : Addr) (A0 : Addr) (A1 : Addr) (A2 : Addr) (W : Addr) (HA : Addr) (z0 : Nat) (z1 : Nat) (z2 : Nat) (e : Nat) (d : Nat) (j : Nat) (take : Nat) (r0 : Nat) (r1 : Nat) (r2 : Nat) (t0 : Tok) (t1 : Tok) (t2 : Tok) (te : Tok) (td : Tok) (tj : Tok) (tt : Tok) (n0 : Tok) (n1 : Tok) (n2 : Tok) (n3 : Tok) (n4 : Tok) (n5 : Tok) (n6 : Tok) (n7 : Tok) (n8 : Tok) (k0 : Nat) (k1 : Nat) (k2 : Nat) (k3 : Nat) (wl : List Value) (wx : List Int) (wn : Nat) (tl : List (Addr × Obj)) (s0 : Shared) (Qb : Flow → Shared → Prop) (E : Value → Shared → Prop) : Prop where
  hS : offC L' S
  hz0 : z0 < 5
  hz1 : z1 < 5
  hz2 : z2 < 5
  he : e < 3
  hd : d < 1000000
  hj : j < 3
  ht : take ≤ [z0, z1, z2].getD j 0
  hNM : @LT.lt Nat _ (L' + 9) NM
  hA0 : @LT.lt Nat _ (L' + 9) A0
  hA1 : @LT.lt Nat _ (L' + 9) A1
  hA2 : @LT.lt Nat _ (L' + 9) A2
  hW : @LT.lt Nat _ (L' + 9) W
  nNM : @Ne Nat NM W
  nA2 : @Ne Nat A2 W
  nA1 : @Ne Nat A1 W
  nA0 : @Ne Nat A0 W
  nS : @Ne Nat S W
  hO : OwnOff tl [W, NM, A2, A1, A0, S, L' + 1 + 1 + 1 + 1 + 1 + 1 + 1 + 1 + 1, L' + 1 + 1 + 1 + 1 + 1 + 1 + 1 + 1, L' + 1 + 1 + 1 + 1 + 1 + 1 + 1, L' + 1 + 1 + 1 + 1 + 1 + 1, L' + 1 + 1 + 1 + 1 + 1, L' + 1 + 1 + 1 + 1, L' + 1 + 1 + 1, L' + 1 + 1, L' + 1]
  hr0 : r0 = restAt z0 z1 z2 j take 0
  hr1 : r1 = restAt z0 z1 z2 j take 1
  hr2 : r2 = restAt z0 z1 z2 j take 2
  lr0 : r0 < 5
  lr1 : r1 < 5
  lr2 : r2 < 5
  hwl : wl.length ≤ 20
  hwi : IntsAre wl wx
noncomputable def BSeg0 (w : World) (loose : List Str) (mean : ExcName → Option Value) (mg : Str → Option Value) (mb : Str → Option Value) (h₀ : Heap) (L' : Addr) (fa : Addr) (cdv : Value) (S : Addr) (NM : Addr) (A0 : Addr) (A1 : Addr) (A2 : Addr) (W : Addr) (HA : Addr) (z0 : Nat) (z1 : Nat) (z2 : Nat) (e : Nat) (d : Nat) (j : Nat) (take : Nat) (r0 : Nat) (r1 : Nat) (r2 : Nat) (t0 : Tok) (t1 : Tok) (t2 : Tok) (te : Tok) (td : Tok) (tj : Tok) (tt : Tok) (n0 : Tok) (n1 : Tok) (n2 : Tok) (n3 : Tok) (n4 : Tok) (n5 : Tok) (n6 : Tok) (n7 : Tok) (n8 : Tok) (k0 : Nat) (k1 : Nat) (k2 : Nat) (k3 : Nat) (wl : List Value) (wx : List Int) (wn : Nat) (tl : List (Addr × Obj)) (s0 : Shared) (Qb : Flow → Shared → Prop) (E : Value → Shared → Prop) : Prop :=
  ∀ (s : Shared)  (c1 c7 c8 c9 : Option Value) (ml : Str → Option Value) (o1 o2 o3 o4 o5 o6 o7 o8 o9 : Obj),  Later s0 s → Fr h₀ L' s.heap ml → News h₀ L' s.heap ([(W, listOf wl.toArray wn), (NM, listOf #[.ref A0, .ref A1, .ref A2] k0), (A2, listOf #[.str (Str.ofString "OPTIMIZED") n6, .str (Str.ofString "NEWLOCALS") n7, .str (Str.ofString "VARARGS") n8] k3), (A1, listOf #[.str (Str.ofString "NOFREE") n3, .str (Str.ofString "COROUTINE") n4, .str (Str.ofString "ITERABLE_COROUTINE") n5] k2), (A0, listOf #[.str (Str.ofString "0x1000") n0, .str (Str.ofString "0x2000") n1, .str (Str.ofString "0x4000") n2] k1), (S, listOf #[.int (z0 : Int) t0, .int (z1 : Int) t1, .int (z2 : Int) t2] 3), (L' + 1 + 1 + 1 + 1 + 1 + 1 + 1 + 1 + 1, o9), (L' + 1 + 1 + 1 + 1 + 1 + 1 + 1 + 1, o8), (L' + 1 + 1 + 1 + 1 + 1 + 1 + 1, o7), (L' + 1 + 1 + 1 + 1 + 1 + 1, o6), (L' + 1 + 1 + 1 + 1 + 1, o5), (L' + 1 + 1 + 1 + 1, o4), (L' + 1 + 1 + 1, o3), (L' + 1 + 1, o2), (L' + 1, o1)] ++ tl) → o1.data = .cell c1 → o2.data = .cell (some (.ref S)) → o3.data = .cell (some (.str (T (endOf e)) te)) → o4.data = .cell (some (.ref NM)) → o5.data = .cell (some (.int (j : Int) tj)) → o6.data = .cell (some (.int (take : Int) tt)) → o7.data = .cell c7 → o8.data = .cell c8 → o9.data = .cell c9 → ml "winners" = some (.ref W) → ml "heirs" = some (.ref HA) → ml "d" = some (.int (d : Int) td) →
    wpAny (model rwp w) (callerA.deeper (envOfC "law" (fnp 22).2.2 L' fa cdv)) (execs (bodyMain.drop 0) (envOfC "law" (fnp 22).2.2 L' fa cdv)) Qb E s
noncomputable def BSeg1 (w : World) (loose : List Str) (mean : ExcName → Option Value) (mg : Str → Option Value) (mb : Str → Option Value) (h₀ : Heap) (L' : Addr) (fa : Addr) (cdv : Value) (S : Addr) (NM : Addr) (A0 : Addr) (A1 : Addr) (A2 : Addr) (W : Addr) (HA : Addr) (z0 : Nat) (z1 : Nat) (z2 : Nat) (e : Nat) (d : Nat) (j : Nat) (take : Nat) (r0 : Nat) (r1 : Nat) (r2 : Nat) (t0 : Tok) (t1 : Tok) (t2 : Tok) (te : Tok) (td : Tok) (tj : Tok) (tt : Tok) (n0 : Tok) (n1 : Tok) (n2 : Tok) (n3 : Tok) (n4 : Tok) (n5 : Tok) (n6 : Tok) (n7 : Tok) (n8 : Tok) (k0 : Nat) (k1 : Nat) (k2 : Nat) (k3 : Nat) (wl : List Value) (wx : List Int) (wn : Nat) (tl : List (Addr × Obj)) (s0 : Shared) (Qb : Flow → Shared → Prop) (E : Value → Shared → Prop) : Prop :=
  ∀ (s : Shared) (RL : Addr) (q0 q1 q2 : Tok) (c1 c7 c9 : Option Value) (ml : Str → Option Value) (o1 o2 o3 o4 o5 o6 o7 o8 o9 : Obj), offC L' RL → @Ne Nat RL W →  Later s0 s → Fr h₀ L' s.heap ml → News h₀ L' s.heap ([(RL, listOf #[.int (r0 : Int) q0, .int (r1 : Int) q1, .int (r2 : Int) q2] 3), (W, listOf wl.toArray wn), (NM, listOf #[.ref A0, .ref A1, .ref A2] k0), (A2, listOf #[.str (Str.ofString "OPTIMIZED") n6, .str (Str.ofString "NEWLOCALS") n7, .str (Str.ofString "VARARGS") n8] k3), (A1, listOf #[.str (Str.ofString "NOFREE") n3, .str (Str.ofString "COROUTINE") n4, .str (Str.ofString "ITERABLE_COROUTINE") n5] k2), (A0, listOf #[.str (Str.ofString "0x1000") n0, .str (Str.ofString "0x2000") n1, .str (Str.ofString "0x4000") n2] k1), (S, listOf #[.int (z0 : Int) t0, .int (z1 : Int) t1, .int (z2 : Int) t2] 3), (L' + 1 + 1 + 1 + 1 + 1 + 1 + 1 + 1 + 1, o9), (L' + 1 + 1 + 1 + 1 + 1 + 1 + 1 + 1, o8), (L' + 1 + 1 + 1 + 1 + 1 + 1 + 1, o7), (L' + 1 + 1 + 1 + 1 + 1 + 1, o6), (L' + 1 + 1 + 1 + 1 + 1, o5), (L' + 1 + 1 + 1 + 1, o4), (L' + 1 + 1 + 1, o3), (L' + 1 + 1, o2), (L' + 1, o1)] ++ tl) → o1.data = .cell c1 → o2.data = .cell (some (.ref S)) → o3.data = .cell (some (.str (T (endOf e)) te)) → o4.data = .cell (some (.ref NM)) → o5.data = .cell (some (.int (j : Int) tj)) → o6.data = .cell (some (.int (take : Int) tt)) → o7.data = .cell c7 → o8.data = .cell (some (.ref RL)) → o9.data = .cell c9 → ml "winners" = some (.ref W) → ml "heirs" = some (.ref HA) → ml "d" = some (.int (d : Int) td) →
    wpAny (model rwp w) (callerA.deeper (envOfC "law" (fnp 22).2.2 L' fa cdv)) (execs (bodyMain.drop 1) (envOfC "law" (fnp 22).2.2 L' fa cdv)) Qb E s
noncomputable def BSeg3 (w : World) (loose : List Str) (mean : ExcName → Option Value) (mg : Str → Option Value) (mb : Str → Option Value) (h₀ : Heap) (L' : Addr) (fa : Addr) (cdv : Value) (S : Addr) (NM : Addr) (A0 : Addr) (A1 : Addr) (A2 : Addr) (W : Addr) (HA : Addr) (z0 : Nat) (z1 : Nat) (z2 : Nat) (e : Nat) (d : Nat) (j : Nat) (take : Nat) (r0 : Nat) (r1 : Nat) (r2 : Nat) (t0 : Tok) (t1 : Tok) (t2 : Tok) (te : Tok) (td : Tok) (tj : Tok) (tt : Tok) (n0 : Tok) (n1 : Tok) (n2 : Tok) (n3 : Tok) (n4 : Tok) (n5 : Tok) (n6 : Tok) (n7 : Tok) (n8 : Tok) (k0 : Nat) (k1 : Nat) (k2 : Nat) (k3 : Nat) (wl : List Value) (wx : List Int) (wn : Nat) (tl : List (Addr × Obj)) (s0 : Shared) (Qb : Flow → Shared → Prop) (E : Value → Shared → Prop) : Prop :=
  ∀ (s : Shared) (RL : Addr) (q0 q1 q2 : Tok) (tq : Tok) (c1 c7 c9 : Option Value) (ml : Str → Option Value) (o1 o2 o3 o4 o5 o6 o7 o8 o9 : Obj), offC L' RL → @Ne Nat RL W →  Later s0 s → Fr h₀ L' s.heap ml → News h₀ L' s.heap ([(RL, listOf #[.int (r0 : Int) q0, .int (r1 : Int) q1, .int (r2 : Int) q2] 3), (W, listOf wl.toArray wn), (NM, listOf #[.ref A0, .ref A1, .ref A2] k0), (A2, listOf #[.str (Str.ofString "OPTIMIZED") n6, .str (Str.ofString "NEWLOCALS") n7, .str (Str.ofString "VARARGS") n8] k3), (A1, listOf #[.str (Str.ofString "NOFREE") n3, .str (Str.ofString "COROUTINE") n4, .str (Str.ofString "ITERABLE_COROUTINE") n5] k2), (A0, listOf #[.str (Str.ofString "0x1000") n0, .str (Str.ofString "0x2000") n1, .str (Str.ofString "0x4000") n2] k1), (S, listOf #[.int (z0 : Int) t0, .int (z1 : Int) t1, .int (z2 : Int) t2] 3), (L' + 1 + 1 + 1 + 1 + 1 + 1 + 1 + 1 + 1, o9), (L' + 1 + 1 + 1 + 1 + 1 + 1 + 1 + 1, o8), (L' + 1 + 1 + 1 + 1 + 1 + 1 + 1, o7), (L' + 1 + 1 + 1 + 1 + 1 + 1, o6), (L' + 1 + 1 + 1 + 1 + 1, o5), (L' + 1 + 1 + 1 + 1, o4), (L' + 1 + 1 + 1, o3), (L' + 1 + 1, o2), (L' + 1, o1)] ++ tl) → o1.data = .cell c1 → o2.data = .cell (some (.ref S)) → o3.data = .cell (some (.str (T (endOf e)) te)) → o4.data = .cell (some (.ref NM)) → o5.data = .cell (some (.int (j : Int) tj)) → o6.data = .cell (some (.int (take : Int) tt)) → o7.data = .cell c7 → o8.data = .cell (some (.ref RL)) → o9.data = .cell c9 → ml "winners" = some (.ref W) → ml "heirs" = some (.ref HA) → ml "d" = some (.int (d : Int) td) → ml "left" = some (.str (T (plainRows r0 r1 r2 (endOf e))) tq) →
    wpAny (model rwp w) (callerA.deeper (envOfC "law" (fnp 22).2.2 L' fa cdv)) (execs (bodyMain.drop 3) (envOfC "law" (fnp 22).2.2 L' fa cdv)) Qb E s
noncomputable def BSeg5 (w : World) (loose : List Str) (mean : ExcName → Option Value) (mg : Str → Option Value) (mb : Str → Option Value) (h₀ : Heap) (L' : Addr) (fa : Addr) (cdv : Value) (S : Addr) (NM : Addr) (A0 : Addr) (A1 : Addr) (A2 : Addr) (W : Addr) (HA : Addr) (z0 : Nat) (z1 : Nat) (z2 : Nat) (e : Nat) (d : Nat) (j : Nat) (take : Nat) (r0 : Nat) (r1 : Nat) (r2 : Nat) (t0 : Tok) (t1 : Tok) (t2 : Tok) (te : Tok) (td : Tok) (tj : Tok) (tt : Tok) (n0 : Tok) (n1 : Tok) (n2 : Tok) (n3 : Tok) (n4 : Tok) (n5 : Tok) (n6 : Tok) (n7 : Tok) (n8 : Tok) (k0 : Nat) (k1 : Nat) (k2 : Nat) (k3 : Nat) (wl : List Value) (wx : List Int) (wn : Nat) (tl : List (Addr × Obj)) (s0 : Shared) (Qb : Flow → Shared → Prop) (E : Value → Shared → Prop) : Prop :=
  ∀ (s : Shared) (RL : Addr) (q0 q1 q2 : Tok) (tq : Tok) (c1 c7 c9 : Option Value) (ml : Str → Option Value) (o1 o2 o3 o4 o5 o6 o7 o8 o9 : Obj), offC L' RL → @Ne Nat RL W →  Later s0 s → Fr h₀ L' s.heap ml → News h₀ L' s.heap ([(RL, listOf #[.int (r0 : Int) q0, .int (r1 : Int) q1, .int (r2 : Int) q2] 3), (W, listOf wl.toArray wn), (NM, listOf #[.ref A0, .ref A1, .ref A2] k0), (A2, listOf #[.str (Str.ofString "OPTIMIZED") n6, .str (Str.ofString "NEWLOCALS") n7, .str (Str.ofString "VARARGS") n8] k3), (A1, listOf #[.str (Str.ofString "NOFREE") n3, .str (Str.ofString "COROUTINE") n4, .str (Str.ofString "ITERABLE_COROUTINE") n5] k2), (A0, listOf #[.str (Str.ofString "0x1000") n0, .str (Str.ofString "0x2000") n1, .str (Str.ofString "0x4000") n2] k1), (S, listOf #[.int (z0 : Int) t0, .int (z1 : Int) t1, .int (z2 : Int) t2] 3), (L' + 1 + 1 + 1 + 1 + 1 + 1 + 1 + 1 + 1, o9), (L' + 1 + 1 + 1 + 1 + 1 + 1 + 1 + 1, o8), (L' + 1 + 1 + 1 + 1 + 1 + 1 + 1, o7), (L' + 1 + 1 + 1 + 1 + 1 + 1, o6), (L' + 1 + 1 + 1 + 1 + 1, o5), (L' + 1 + 1 + 1 + 1, o4), (L' + 1 + 1 + 1, o3), (L' + 1 + 1, o2), (L' + 1, o1)] ++ tl) → o1.data = .cell c1 → o2.data = .cell (some (.ref S)) → o3.data = .cell (some (.str (T (endOf e)) te)) → o4.data = .cell (some (.ref NM)) → o5.data = .cell (some (.int (j : Int) tj)) → o6.data = .cell (some (.int (take : Int) tt)) → o7.data = .cell c7 → o8.data = .cell (some (.ref RL)) → o9.data = .cell c9 → ml "winners" = some (.ref W) → ml "heirs" = some (.ref HA) → ml "d" = some (.int (d : Int) td) → ml "sent" = some (.str (T (sentRows r0 r1 r2)) tq) →
    wpAny (model rwp w) (callerA.deeper (envOfC "law" (fnp 22).2.2 L' fa cdv)) (execs (bodyMain.drop 5) (envOfC "law" (fnp 22).2.2 L' fa cdv)) Qb E s
noncomputable def BSeg8 (w : World) (loose : List Str) (mean : ExcName → Option Value) (mg : Str → Option Value) (mb : Str → Option Value) (h₀ : Heap) (L' : Addr) (fa : Addr) (cdv : Value) (S : Addr) (NM : Addr) (A0 : Addr) (A1 : Addr) (A2 : Addr) (W : Addr) (HA : Addr) (z0 : Nat) (z1 : Nat) (z2 : Nat) (e : Nat) (d : Nat) (j : Nat) (take : Nat) (r0 : Nat) (r1 : Nat) (r2 : Nat) (t0 : Tok) (t1 : Tok) (t2 : Tok) (te : Tok) (td : Tok) (tj : Tok) (tt : Tok) (n0 : Tok) (n1 : Tok) (n2 : Tok) (n3 : Tok) (n4 : Tok) (n5 : Tok) (n6 : Tok) (n7 : Tok) (n8 : Tok) (k0 : Nat) (k1 : Nat) (k2 : Nat) (k3 : Nat) (wl : List Value) (wx : List Int) (wn : Nat) (tl : List (Addr × Obj)) (s0 : Shared) (Qb : Flow → Shared → Prop) (E : Value → Shared → Prop) : Prop :=
  ∀ (s : Shared) (RL : Addr) (q0 q1 q2 : Tok) (WL : Addr) (lw : List (Str × Tok)) (wc : Nat) (c1 c7 : Option Value) (ml : Str → Option Value) (o1 o2 o3 o4 o5 o6 o7 o8 o9 : Obj), offC L' RL → @Ne Nat RL W → offC L' WL → @Ne Nat WL W → lw.map (·.1) = wordsOf r0 r1 r2 → Later s0 s → Fr h₀ L' s.heap ml → News h₀ L' s.heap ([(WL, listOf (strValues lw).toArray wc), (RL, listOf #[.int (r0 : Int) q0, .int (r1 : Int) q1, .int (r2 : Int) q2] 3), (W, listOf wl.toArray wn), (NM, listOf #[.ref A0, .ref A1, .ref A2] k0), (A2, listOf #[.str (Str.ofString "OPTIMIZED") n6, .str (Str.ofString "NEWLOCALS") n7, .str (Str.ofString "VARARGS") n8] k3), (A1, listOf #[.str (Str.ofString "NOFREE") n3, .str (Str.ofString "COROUTINE") n4, .str (Str.ofString "ITERABLE_COROUTINE") n5] k2), (A0, listOf #[.str (Str.ofString "0x1000") n0, .str (Str.ofString "0x2000") n1, .str (Str.ofString "0x4000") n2] k1), (S, listOf #[.int (z0 : Int) t0, .int (z1 : Int) t1, .int (z2 : Int) t2] 3), (L' + 1 + 1 + 1 + 1 + 1 + 1 + 1 + 1 + 1, o9), (L' + 1 + 1 + 1 + 1 + 1 + 1 + 1 + 1, o8), (L' + 1 + 1 + 1 + 1 + 1 + 1 + 1, o7), (L' + 1 + 1 + 1 + 1 + 1 + 1, o6), (L' + 1 + 1 + 1 + 1 + 1, o5), (L' + 1 + 1 + 1 + 1, o4), (L' + 1 + 1 + 1, o3), (L' + 1 + 1, o2), (L' + 1, o1)] ++ tl) → o1.data = .cell c1 → o2.data = .cell (some (.ref S)) → o3.data = .cell (some (.str (T (endOf e)) te)) → o4.data = .cell (some (.ref NM)) → o5.data = .cell (some (.int (j : Int) tj)) → o6.data = .cell (some (.int (take : Int) tt)) → o7.data = .cell c7 → o8.data = .cell (some (.ref RL)) → o9.data = .cell (some (.ref WL)) → ml "winners" = some (.ref W) → ml "heirs" = some (.ref HA) → ml "d" = some (.int (d : Int) td) →
    wpAny (model rwp w) (callerA.deeper (envOfC "law" (fnp 22).2.2 L' fa cdv)) (execs (bodyMain.drop 8) (envOfC "law" (fnp 22).2.2 L' fa cdv)) Qb E s
noncomputable def BSeg9 (w : World) (loose : List Str) (mean : ExcName → Option Value) (mg : Str → Option Value) (mb : Str → Option Value) (h₀ : Heap) (L' : Addr) (fa : Addr) (cdv : Value) (S : Addr) (NM : Addr) (A0 : Addr) (A1 : Addr) (A2 : Addr) (W : Addr) (HA : Addr) (z0 : Nat) (z1 : Nat) (z2 : Nat) (e : Nat) (d : Nat) (j : Nat) (take : Nat) (r0 : Nat) (r1 : Nat) (r2 : Nat) (t0 : Tok) (t1 : Tok) (t2 : Tok) (te : Tok) (td : Tok) (tj : Tok) (tt : Tok) (n0 : Tok) (n1 : Tok) (n2 : Tok) (n3 : Tok) (n4 : Tok) (n5 : Tok) (n6 : Tok) (n7 : Tok) (n8 : Tok) (k0 : Nat) (k1 : Nat) (k2 : Nat) (k3 : Nat) (wl : List Value) (wx : List Int) (wn : Nat) (tl : List (Addr × Obj)) (s0 : Shared) (Qb : Flow → Shared → Prop) (E : Value → Shared → Prop) : Prop :=
  ∀ (s : Shared) (RL : Addr) (q0 q1 q2 : Tok) (WL : Addr) (lw : List (Str × Tok)) (wc : Nat) (OL : Addr) (lo : List Value) (oc : Nat) (c1 c7 : Option Value) (ml : Str → Option Value) (o1 o2 o3 o4 o5 o6 o7 o8 o9 : Obj), offC L' RL → @Ne Nat RL W → offC L' WL → @Ne Nat WL W → offC L' OL → @Ne Nat OL W → lw.map (·.1) = wordsOf r0 r1 r2 → IntsAre lo ((oddOf r0 r1 r2).map fun k : Nat => (k : Int)) → Later s0 s → Fr h₀ L' s.heap ml → News h₀ L' s.heap ([(OL, listOf lo.toArray oc), (WL, listOf (strValues lw).toArray wc), (RL, listOf #[.int (r0 : Int) q0, .int (r1 : Int) q1, .int (r2 : Int) q2] 3), (W, listOf wl.toArray wn), (NM, listOf #[.ref A0, .ref A1, .ref A2] k0), (A2, listOf #[.str (Str.ofString "OPTIMIZED") n6, .str (Str.ofString "NEWLOCALS") n7, .str (Str.ofString "VARARGS") n8] k3), (A1, listOf #[.str (Str.ofString "NOFREE") n3, .str (Str.ofString "COROUTINE") n4, .str (Str.ofString "ITERABLE_COROUTINE") n5] k2), (A0, listOf #[.str (Str.ofString "0x1000") n0, .str (Str.ofString "0x2000") n1, .str (Str.ofString "0x4000") n2] k1), (S, listOf #[.int (z0 : Int) t0, .int (z1 : Int) t1, .int (z2 : Int) t2] 3), (L' + 1 + 1 + 1 + 1 + 1 + 1 + 1 + 1 + 1, o9), (L' + 1 + 1 + 1 + 1 + 1 + 1 + 1 + 1, o8), (L' + 1 + 1 + 1 + 1 + 1 + 1 + 1, o7), (L' + 1 + 1 + 1 + 1 + 1 + 1, o6), (L' + 1 + 1 + 1 + 1 + 1, o5), (L' + 1 + 1 + 1 + 1, o4), (L' + 1 + 1 + 1, o3), (L' + 1 + 1, o2), (L' + 1, o1)] ++ tl) → o1.data = .cell c1 → o2.data = .cell (some (.ref S)) → o3.data = .cell (some (.str (T (endOf e)) te)) → o4.data = .cell (some (.ref NM)) → o5.data = .cell (some (.int (j : Int) tj)) → o6.data = .cell (some (.int (take : Int) tt)) → o7.data = .cell c7 → o8.data = .cell (some (.ref RL)) → o9.data = .cell (some (.ref WL)) → ml "winners" = some (.ref W) → ml "heirs" = some (.ref HA) → ml "d" = some (.int (d : Int) td) → ml "odd" = some (.ref OL) →
    wpAny (model rwp w) (callerA.deeper (envOfC "law" (fnp 22).2.2 L' fa cdv)) (execs (bodyMain.drop 9) (envOfC "law" (fnp 22).2.2 L' fa cdv)) Qb E s
noncomputable def EndA (w : World) (loose : List Str) (mean : ExcName → Option Value) (mg : Str → Option Value) (mb : Str → Option Value) (h₀ : Heap) (L' : Addr) (fa : Addr) (cdv : Value) (S : Addr) (NM : Addr) (A0 : Addr) (A1 : Addr) (A2 : Addr) (W : Addr) (HA : Addr) (z0 : Nat) (z1 : Nat) (z2 : Nat) (e : Nat) (d : Nat) (j : Nat) (take : Nat) (r0 : Nat) (r1 : Nat) (r2 : Nat) (t0 : Tok) (t1 : Tok) (t2 : Tok) (te : Tok) (td : Tok) (tj : Tok) (tt : Tok) (n0 : Tok) (n1 : Tok) (n2 : Tok) (n3 : Tok) (n4 : Tok) (n5 : Tok) (n6 : Tok) (n7 : Tok) (n8 : Tok) (k0 : Nat) (k1 : Nat) (k2 : Nat) (k3 : Nat) (wl : List Value) (wx : List Int) (wn : Nat) (tl : List (Addr × Obj)) (s0 : Shared) (Qb : Flow → Shared → Prop) (E : Value → Shared → Prop) : Prop := ∀ (s : Shared) (H2 : Addr) (hl : List Value) (hc : Nat) (c1 c5 c6 c7 c8 c9 : Option Value) (ml : Str → Option Value) (o1 o2 o3 o4 o5 o6 o7 o8 o9 : Obj), Later s0 s → Fr h₀ L' s.heap ml → News h₀ L' s.heap ([(W, listOf wl.toArray wn), (NM, listOf #[.ref A0, .ref A1, .ref A2] k0), (A2, listOf #[.str (Str.ofString "OPTIMIZED") n6, .str (Str.ofString "NEWLOCALS") n7, .str (Str.ofString "VARARGS") n8] k3), (A1, listOf #[.str (Str.ofString "NOFREE") n3, .str (Str.ofString "COROUTINE") n4, .str (Str.ofString "ITERABLE_COROUTINE") n5] k2), (A0, listOf #[.str (Str.ofString "0x1000") n0, .str (Str.ofString "0x2000") n1, .str (Str.ofString "0x4000") n2] k1), (S, listOf #[.int (z0 : Int) t0, .int (z1 : Int) t1, .int (z2 : Int) t2] 3), (L' + 1 + 1 + 1 + 1 + 1 + 1 + 1 + 1 + 1, o9), (L' + 1 + 1 + 1 + 1 + 1 + 1 + 1 + 1, o8), (L' + 1 + 1 + 1 + 1 + 1 + 1 + 1, o7), (L' + 1 + 1 + 1 + 1 + 1 + 1, o6), (L' + 1 + 1 + 1 + 1 + 1, o5), (L' + 1 + 1 + 1 + 1, o4), (L' + 1 + 1 + 1, o3), (L' + 1 + 1, o2), (L' + 1, o1)] ++ ((H2, listOf hl.toArray hc) :: tl)) → o1.data = .cell c1 → o2.data = .cell (some (.ref S)) → o3.data = .cell (some (.str (T (endOf e)) te)) → o4.data = .cell (some (.ref NM)) → o5.data = .cell c5 → o6.data = .cell c6 → o7.data = .cell c7 → o8.data = .cell c8 → o9.data = .cell c9 →
  ml "winners" = some (.ref W) → ml "heirs" = some (.ref H2) → ml "d" = some (.int (d : Int) td) → (∀ b ∈ [W, NM, A2, A1, A0, S, L' + 1 + 1 + 1 + 1 + 1 + 1 + 1 + 1 + 1, L' + 1 + 1 + 1 + 1 + 1 + 1 + 1 + 1, L' + 1 + 1 + 1 + 1 + 1 + 1 + 1, L' + 1 + 1 + 1 + 1 + 1 + 1, L' + 1 + 1 + 1 + 1 + 1, L' + 1 + 1 + 1 + 1, L' + 1 + 1 + 1, L' + 1 + 1, L' + 1], @Ne Nat b H2) → (∀ p ∈ tl, @Ne Nat p.1 H2) → IntsAre hl ((heirsOf z0 z1 z2).map fun k : Nat => (k : Int)) → Qb .next s
noncomputable def EndB (w : World) (loose : List Str) (mean : ExcName → Option Value) (mg : Str → Option Value) (mb : Str → Option Value) (h₀ : Heap) (L' : Addr) (fa : Addr) (cdv : Value) (S : Addr) (NM : Addr) (A0 : Addr) (A1 : Addr) (A2 : Addr) (W : Addr) (HA : Addr) (z0 : Nat) (z1 : Nat) (z2 : Nat) (e : Nat) (d : Nat) (j : Nat) (take : Nat) (r0 : Nat) (r1 : Nat) (r2 : Nat) (t0 : Tok) (t1 : Tok) (t2 : Tok) (te : Tok) (td : Tok) (tj : Tok) (tt : Tok) (n0 : Tok) (n1 : Tok) (n2 : Tok) (n3 : Tok) (n4 : Tok) (n5 : Tok) (n6 : Tok) (n7 : Tok) (n8 : Tok) (k0 : Nat) (k1 : Nat) (k2 : Nat) (k3 : Nat) (wl : List Value) (wx : List Int) (wn : Nat) (tl : List (Addr × Obj)) (s0 : Shared) (Qb : Flow → Shared → Prop) (E : Value → Shared → Prop) : Prop := ∀ (s : Shared) (wl' : List Value) (wn' : Nat) (c1 c5 c6 c7 c8 c9 : Option Value) (ml : Str → Option Value) (o1 o2 o3 o4 o5 o6 o7 o8 o9 : Obj), Later s0 s → Fr h₀ L' s.heap ml → News h₀ L' s.heap ([(W, listOf wl'.toArray wn'), (NM, listOf #[.ref A0, .ref A1, .ref A2] k0), (A2, listOf #[.str (Str.ofString "OPTIMIZED") n6, .str (Str.ofString "NEWLOCALS") n7, .str (Str.ofString "VARARGS") n8] k3), (A1, listOf #[.str (Str.ofString "NOFREE") n3, .str (Str.ofString "COROUTINE") n4, .str (Str.ofString "ITERABLE_COROUTINE") n5] k2), (A0, listOf #[.str (Str.ofString "0x1000") n0, .str (Str.ofString "0x2000") n1, .str (Str.ofString "0x4000") n2] k1), (S, listOf #[.int (z0 : Int) t0, .int (z1 : Int) t1, .int (z2 : Int) t2] 3), (L' + 1 + 1 + 1 + 1 + 1 + 1 + 1 + 1 + 1, o9), (L' + 1 + 1 + 1 + 1 + 1 + 1 + 1 + 1, o8), (L' + 1 + 1 + 1 + 1 + 1 + 1 + 1, o7), (L' + 1 + 1 + 1 + 1 + 1 + 1, o6), (L' + 1 + 1 + 1 + 1 + 1, o5), (L' + 1 + 1 + 1 + 1, o4), (L' + 1 + 1 + 1, o3), (L' + 1 + 1, o2), (L' + 1, o1)] ++ tl) → o1.data = .cell c1 → o2.data = .cell (some (.ref S)) → o3.data = .cell (some (.str (T (endOf e)) te)) → o4.data = .cell (some (.ref NM)) → o5.data = .cell c5 → o6.data = .cell c6 → o7.data = .cell c7 → o8.data = .cell c8 → o9.data = .cell c9 →
  ml "winners" = some (.ref W) → ml "heirs" = some (.ref HA) → ml "d" = some (.int (d : Int) td) → IntsAre wl' (wx ++ if oddOf r0 r1 r2 = [] then [(j : Int)] else []) → Qb .next s
noncomputable def BSegH (w : World) (loose : List Str) (mean : ExcName → Option Value) (mg : Str → Option Value) (mb : Str → Option Value) (h₀ : Heap) (L' : Addr) (fa : Addr) (cdv : Value) (S : Addr) (NM : Addr) (A0 : Addr) (A1 : Addr) (A2 : Addr) (W : Addr) (HA : Addr) (z0 : Nat) (z1 : Nat) (z2 : Nat) (e : Nat) (d : Nat) (j : Nat) (take : Nat) (r0 : Nat) (r1 : Nat) (r2 : Nat) (t0 : Tok) (t1 : Tok) (t2 : Tok) (te : Tok) (td : Tok) (tj : Tok) (tt : Tok) (n0 : Tok) (n1 : Tok) (n2 : Tok) (n3 : Tok) (n4 : Tok) (n5 : Tok) (n6 : Tok) (n7 : Tok) (n8 : Tok) (k0 : Nat) (k1 : Nat) (k2 : Nat) (k3 : Nat) (wl : List Value) (wx : List Int) (wn : Nat) (tl : List (Addr × Obj)) (s0 : Shared) (Qb : Flow → Shared → Prop) (E : Value → Shared → Prop) : Prop :=
  ∀ (s : Shared) (RL : Addr) (q0 q1 q2 : Tok) (WL : Addr) (lw : List (Str × Tok)) (wc : Nat) (OL : Addr) (lo : List Value) (oc : Nat) (c1 c7 : Option Value) (ml : Str → Option Value) (o1 o2 o3 o4 o5 o6 o7 o8 o9 : Obj), offC L' RL → @Ne Nat RL W → offC L' WL → @Ne Nat WL W → offC L' OL → @Ne Nat OL W → lw.map (·.1) = wordsOf r0 r1 r2 → IntsAre lo ((oddOf r0 r1 r2).map fun k : Nat => (k : Int)) → Later s0 s → Fr h₀ L' s.heap ml → News h₀ L' s.heap ([(OL, listOf lo.toArray oc), (WL, listOf (strValues lw).toArray wc), (RL, listOf #[.int (r0 : Int) q0, .int (r1 : Int) q1, .int (r2 : Int) q2] 3), (W, listOf wl.toArray wn), (NM, listOf #[.ref A0, .ref A1, .ref A2] k0), (A2, listOf #[.str (Str.ofString "OPTIMIZED") n6, .str (Str.ofString "NEWLOCALS") n7, .str (Str.ofString "VARARGS") n8] k3), (A1, listOf #[.str (Str.ofString "NOFREE") n3, .str (Str.ofString "COROUTINE") n4, .str (Str.ofString "ITERABLE_COROUTINE") n5] k2), (A0, listOf #[.str (Str.ofString "0x1000") n0, .str (Str.ofString "0x2000") n1, .str (Str.ofString "0x4000") n2] k1), (S, listOf #[.int (z0 : Int) t0, .int (z1 : Int) t1, .int (z2 : Int) t2] 3), (L' + 1 + 1 + 1 + 1 + 1 + 1 + 1 + 1 + 1, o9), (L' + 1 + 1 + 1 + 1 + 1 + 1 + 1 + 1, o8), (L' + 1 + 1 + 1 + 1 + 1 + 1 + 1, o7), (L' + 1 + 1 + 1 + 1 + 1 + 1, o6), (L' + 1 + 1 + 1 + 1 + 1, o5), (L' + 1 + 1 + 1 + 1, o4), (L' + 1 + 1 + 1, o3), (L' + 1 + 1, o2), (L' + 1, o1)] ++ tl) → o1.data = .cell c1 → o2.data = .cell (some (.ref S)) → o3.data = .cell (some (.str (T (endOf e)) te)) → o4.data = .cell (some (.ref NM)) → o5.data = .cell (some (.int (j : Int) tj)) → o6.data = .cell (some (.int (take : Int) tt)) → o7.data = .cell c7 → o8.data = .cell (some (.ref RL)) → o9.data = .cell (some (.ref WL)) → ml "winners" = some (.ref W) → ml "heirs" = some (.ref HA) → ml "d" = some (.int (d : Int) td) → ml "odd" = some (.ref OL) →
    wpAny (model rwp w) (callerA.deeper (envOfC "law" (fnp 22).2.2 L' fa cdv)) (execs (highStmts) (envOfC "law" (fnp 22).2.2 L' fa cdv)) Qb E s
end Mine
local macro_rules | `(tactic| walk_at "no rule 0") => `(tactic| skip)
namespace Mine
open PySem PySem.W PySem.Calls PyProof.Rows PySem.Spec
theorem as3 {m : Str → Option Value} {v0 v1 v2 : Option Value} (h0 : m "winners" = v0) (h1 : m "heirs" = v1) (h2 : m "d" = v2) : m = fun z : Str => if z = "winners" then v0 else if z = "heirs" then v1 else if z = "d" then v2 else m z := by
  funext z
  by_cases e0 : z = "winners"
  · rw [if_pos e0, e0, h0]
  rw [if_neg e0]
  by_cases e1 : z = "heirs"
  · rw [if_pos e1, e1, h1]
  rw [if_neg e1]
  by_cases e2 : z = "d"
  · rw [if_pos e2, e2, h2]
  rw [if_neg e2]
theorem rest_i {z0 z1 z2 j take : Nat} (hj : j < 3) (ht : take ≤ [z0, z1, z2].getD j 0) (i : Nat) (hi : i < 3) : (if ((i : Nat) : Int) = (j : Int) then (([z0, z1, z2].getD ((i : Nat) : Int).toNat 0 : Nat) : Int) - (take : Int) else (([z0, z1, z2].getD ((i : Nat) : Int).toNat 0 : Nat) : Int)) = ((restAt z0 z1 z2 j take i : Nat) : Int) := by
  unfold restAt
  rw [Int.toNat_natCast]
  by_cases h : i = j
  · subst h
    rw [if_pos rfl, if_pos rfl]
    omega
  · have h' : ¬ ((i : Int) = (j : Int)) := by omega
    rw [if_neg h', if_neg h]
theorem item3 {prog : Program} {w : World} {A : Around} {E : Value → Shared → Prop} {s : Shared} {h₀ : Heap} {L D : Addr} {news : List (Addr × Obj)} {value slice : PySem.Expr} {a b c u : Tok} {n z0 z1 z2 : Nat} {k : Int} {Q : Value → Shared → Prop} (N : News h₀ L s.heap news) (hm : (D, listOf #[.int (z0 : Int) a, .int (z1 : Int) b, .int (z2 : Int) c] n) ∈ news) (h0 : 0 ≤ k) (h3 : k < 0 + ((3 - 0 : Int).toNat : Int)) (hs : subscripted slice false (.ref D) (.int k u) = operate [.ref D, .int k u] (getItem (.ref D) (.int k u)))
    (h : ∀ t, Q (.int (([z0, z1, z2].getD k.toNat 0 : Nat) : Int) t) s) :
    wpAny (model prog w) A (subscriptTail value slice (.ref D) (.int k u)) Q E s := by
  have hL := N.isList hm
  have h3' : k < 3 := h3
  obtain rfl | rfl | rfl : k = 0 ∨ k = 1 ∨ k = 2 := by omega
  · exact tail_any hL.typeIs slot_list_getitem.lookup (wpAny_getItem_list hL (by decide) (by decide) (x := .int (z0 : Int) a) rfl (h a)) hs
  · exact tail_any hL.typeIs slot_list_getitem.lookup (wpAny_getItem_list hL (by decide) (by decide) (x := .int (z1 : Int) b) rfl (h b)) hs
  · exact tail_any hL.typeIs slot_list_getitem.lookup (wpAny_getItem_list hL (by decide) (by decide) (x := .int (z2 : Int) c) rfl (h c)) hs
local macro_rules | `(tactic| walk_at "subscriptTail Name Name ref int") => `(tactic| with_reducible apply item3; k_asm; k_dflt k_mem; assumption; assumption; with_unfolding_all rfl; intro _)
theorem stop_left {M : Model} {A : Around} {E : Value → Shared → Prop} {s : Shared} {Q : Flow → Shared → Prop} {p v u r env} (h : Hold (wpAny M A (execs (.Assign [.Name (Str.ofString "left") p] v u :: r) env) Q E s)) : wpAny M A (execs (.Assign [.Name (Str.ofString "left") p] v u :: r) env) Q E s := h.1
local macro_rules | `(tactic| walk_at "execs cons") => `(tactic| with_reducible apply stop_left)
set_option maxHeartbeats 1000000 in
theorem bseg0 (w : World) (loose : List Str) (mean : ExcName → Option Value) (mg : Str → Option Value) (mb : Str → Option Value) (h₀ : Heap) (L' : Addr) (fa : Addr) (cdv : Value) (S : Addr) (NM : Addr) (A0 : Addr) (A1 : Addr) (A2 : Addr) (W : Addr) (HA : Addr) (z0 : Nat) (z1 : Nat) (z2 : Nat) (e : Nat) (d : Nat) (j : Nat) (take : Nat) (r0 : Nat) (r1 : Nat) (r2 : Nat) (t0 : Tok) (t1 : Tok) (t2 : Tok) (te : Tok) (td : Tok) (tj : Tok) (tt : Tok) (n0 : Tok) (n1 : Tok) (n2 : Tok) (n3 : Tok) (n4 : Tok) (n5 : Tok) (n6 : Tok) (n7 : Tok) (n8 : Tok) (k0 : Nat) (k1 : Nat) (k2 : Nat) (k3 : Nat) (wl : List Value) (wx : List Int) (wn : Nat) (tl : List (Addr × Obj)) (s0 : Shared) (Qb : Flow → Shared → Prop) (E : Value → Shared → Prop)
    (X : (K w.params).In h₀) (TT : Top qv loose mean mg mb h₀) (B : Below callerA h₀ [] h₀) (O : Okm w loose mean mg mb h₀ L' fa cdv S NM A0 A1 A2 W HA z0 z1 z2 e d j take r0 r1 r2 t0 t1 t2 te td tj tt n0 n1 n2 n3 n4 n5 n6 n7 n8 k0 k1 k2 k3 wl wx wn tl s0 Qb E) (h1 : BSeg1 w loose mean mg mb h₀ L' fa cdv S NM A0 A1 A2 W HA z0 z1 z2 e d j take r0 r1 r2 t0 t1 t2 te td tj tt n0 n1 n2 n3 n4 n5 n6 n7 n8 k0 k1 k2 k3 wl wx wn tl s0 Qb E) : BSeg0 w loose mean mg mb h₀ L' fa cdv S NM A0 A1 A2 W HA z0 z1 z2 e d j take r0 r1 r2 t0 t1 t2 te td tj tt n0 n1 n2 n3 n4 n5 n6 n7 n8 k0 k1 k2 k3 wl wx wn tl s0 Qb E := by
  unfold BSeg0 rwp
  revert X
  k_fill
  intro X s c1 c7 c8 c9 ml o1 o2 o3 o4 o5 o6 o7 o8 o9 hL F N d1 d2 d3 d4 d5 d6 d7 d8 d9 g0 g1 g2
  obtain ⟨hS, hz0, hz1, hz2, he, hd, hj, ht, hNM, hA0, hA1, hA2, hW, nNM, nA2, nA1, nA0, nS, hO, hr0, hr1, hr2, lr0, lr1, lr2, hwl, hwi⟩ := id O
  clear hd
  obtain ⟨p1, p2, p3, p4, p5, p6, p7, p8, p9⟩ := id hS
  simp only [List.cons_append, List.nil_append] at N
  show wpAny _ _ (execs (_ :: _) _) _ _ _
  rw [as3 g0 g1 g2] at F
  obtain ⟨hh, gs, dd, tk, os⟩ := s
  dsimp only at F N
  k_steps
  rename IntsAre _ (List.map _ _) => hI8
  rename (@Ne Nat _ _) ∧ _ => o1'
  have hI9 : IntsAre _ [(if ((0 : Nat) : Int) = (j : Int) then (([z0, z1, z2].getD ((0 : Nat) : Int).toNat 0 : Nat) : Int) - (take : Int) else (([z0, z1, z2].getD ((0 : Nat) : Int).toNat 0 : Nat) : Int)), (if ((1 : Nat) : Int) = (j : Int) then (([z0, z1, z2].getD ((1 : Nat) : Int).toNat 0 : Nat) : Int) - (take : Int) else (([z0, z1, z2].getD ((1 : Nat) : Int).toNat 0 : Nat) : Int)), (if ((2 : Nat) : Int) = (j : Int) then (([z0, z1, z2].getD ((2 : Nat) : Int).toNat 0 : Nat) : Int) - (take : Int) else (([z0, z1, z2].getD ((2 : Nat) : Int).toNat 0 : Nat) : Int))] := hI8
  obtain ⟨q0, q1, q2, e⟩ := ints3 hI9
  rw [rest_i hj ht 0 (by decide), rest_i hj ht 1 (by decide), rest_i hj ht 2 (by decide), ← hr0, ← hr1, ← hr2] at e
  subst e
  obtain ⟨oW, oN, oA2, oA1, oA0, oS, u9, u8, u7, u6, u5, u4, u3, u2, u1, -⟩ := o1'
  refine ⟨h1 _ _ q0 q1 q2 c1 c7 c9 _ o1 o2 o3 o4 o5 o6 o7 _ o9 ⟨Ne.symm u1, Ne.symm u2, Ne.symm u3, Ne.symm u4, Ne.symm u5, Ne.symm u6, Ne.symm u7, Ne.symm u8, Ne.symm u9⟩ (Ne.symm oW) ⟨hL.1, hL.2⟩ (by assumption) (by assumption) d1 d2 d3 d4 d5 d6 d7 (by assumption) d9 rfl rfl rfl⟩
end Mine
local macro_rules | `(tactic| walk_at "CompSrc") => `(tactic| k_dflt (apply LCg.CompSrc.ledger; rfl; k_asm; k_asm; k_mem; (first | size_fits | exact Nat.le_of_ble_eq_true rfl); intro _; lcg_lit))
namespace Mine
open PySem PySem.W PySem.Calls PyProof.Rows PySem.Spec
theorem led_pull {a b c d e f g : Addr × Obj} {rest : List (Addr × Obj)} {p : Addr × Obj} (hp : p ∈ g :: a :: b :: c :: d :: e :: f :: rest) : p ∈ a :: b :: c :: d :: e :: f :: g :: rest := by
  simp only [List.mem_cons] at hp ⊢
  rcases hp with h | h | h | h | h | h | h | h
  · exact .inr (.inr (.inr (.inr (.inr (.inr (.inl h))))))
  · exact .inl h
  · exact .inr (.inl h)
  · exact .inr (.inr (.inl h))
  · exact .inr (.inr (.inr (.inl h)))
  · exact .inr (.inr (.inr (.inr (.inl h))))
  · exact .inr (.inr (.inr (.inr (.inr (.inl h)))))
  · exact .inr (.inr (.inr (.inr (.inr (.inr (.inr h))))))
theorem led_push {a b c d e f g : Addr × Obj} {rest : List (Addr × Obj)} {p : Addr × Obj} (hp : p ∈ a :: b :: c :: d :: e :: f :: g :: rest) : p ∈ g :: a :: b :: c :: d :: e :: f :: rest := by
  simp only [List.mem_cons] at hp ⊢
  rcases hp with h | h | h | h | h | h | h | h
  · exact .inr (.inl h)
  · exact .inr (.inr (.inl h))
  · exact .inr (.inr (.inr (.inl h)))
  · exact .inr (.inr (.inr (.inr (.inl h))))
  · exact .inr (.inr (.inr (.inr (.inr (.inl h)))))
  · exact .inr (.inr (.inr (.inr (.inr (.inr (.inl h))))))
  · exact .inl h
  · exact .inr (.inr (.inr (.inr (.inr (.inr (.inr h))))))
theorem item3j {prog : Program} {w : World} {A : Around} {E : Value → Shared → Prop} {s : Shared} {h₀ : Heap} {L D : Addr} {news : List (Addr × Obj)} {value slice : PySem.Expr} {a b c u : Tok} {n z0 z1 z2 j : Nat} {Q : Value → Shared → Prop} (N : News h₀ L s.heap news) (hm : (D, listOf #[.int (z0 : Int) a, .int (z1 : Int) b, .int (z2 : Int) c] n) ∈ news) (hj : j < 3) (hs : subscripted slice false (.ref D) (.int (j : Int) u) = operate [.ref D, .int (j : Int) u] (getItem (.ref D) (.int (j : Int) u)))
    (h : ∀ t, Q (.int (([z0, z1, z2].getD j 0 : Nat) : Int) t) s) :
    wpAny (model prog w) A (subscriptTail value slice (.ref D) (.int (j : Int) u)) Q E s := item3 (k := (j : Int)) N hm (Int.natCast_nonneg j) (show (j : Int) < 3 by omega) hs h
theorem rest_plain {z0 z1 z2 j take r0 r1 r2 : Nat} (h0 : r0 = restAt z0 z1 z2 j take 0) (h1 : r1 = restAt z0 z1 z2 j take 1) (h2 : r2 = restAt z0 z1 z2 j take 2) (en : List Nat) : restRows [z0, z1, z2] j take en = plainRows r0 r1 r2 en := by
  subst h0 h1 h2
  simp [restRows, plainRows, restAt]
theorem rest_j {z0 z1 z2 j take r0 r1 r2 : Nat} (hj : j < 3) (h0 : r0 = restAt z0 z1 z2 j take 0) (h1 : r1 = restAt z0 z1 z2 j take 1) (h2 : r2 = restAt z0 z1 z2 j take 2) : [r0, r1, r2].getD j 0 = [z0, z1, z2].getD j 0 - take := by
  subst h0 h1 h2
  obtain rfl | rfl | rfl : j = 0 ∨ j = 1 ∨ j = 2 := by omega
  all_goals simp [restAt]
theorem rows_join (r0 r1 r2 : Nat) (en : List Nat) (a b c : Tok) : ((List.map (fun p : Str × Tok => p.1) [(T (List.replicate (r0 : Int).toNat 46 ++ en), a), (T (List.replicate (r1 : Int).toNat 46 ++ en), b), (T (List.replicate (r2 : Int).toNat 46 ++ en), c)]).flatMap fun y => y.cps.toList) = plainRows r0 r1 r2 en := by
  simp [plainRows, T]
theorem end_len (e : Nat) : (endOf e).length ≤ 2 := by
  unfold endOf
  split
  · decide
  · split <;> decide
theorem end_mem (e : Nat) : ∀ z ∈ endOf e, z = 13 ∨ z = 10 := by
  unfold endOf
  split
  · intro z hz; simp at hz; exact hz
  · split <;> (intro z hz; simp at hz; simp [hz])
theorem stop_call160 {M : Model} {A : Around} {E : Value → Shared → Prop} {s : Shared} {Q : Value → Shared → Prop} {vs : List Value} (h : Hold (wpAny M A (call (.ref 160) vs) Q E s)) : wpAny M A (call (.ref 160) vs) Q E s := h.1
theorem stop_sent {M : Model} {A : Around} {E : Value → Shared → Prop} {s : Shared} {Q : Flow → Shared → Prop} {p v u r env} (h : Hold (wpAny M A (execs (.Assign [.Name (Str.ofString "sent") p] v u :: r) env) Q E s)) : wpAny M A (execs (.Assign [.Name (Str.ofString "sent") p] v u :: r) env) Q E s := h.1
theorem ce_tail {h₀ : Heap} {L I C D : Addr} {m : Str → Option Value} {s₁ : Shared} {oI oC oD : Obj} {S : List (Addr × Obj) → Prop} {R : Value → List (Addr × Obj) → Prop} {y : Value} {h' : Heap} {tk : Nat} {rest : List (Addr × Obj)} (F : Fr h₀ L h' m) (N : News h₀ L h' ((I, oI) :: (C, oC) :: (D, oD) :: rest)) (off : LCg.Off3 I C D rest) (hS : S rest) (r : R y rest) : LCg.CompEnd h₀ L m s₁ I oI C oC D oD S R y { s₁ with heap := h', toks := tk } := LCg.CompEnd.intro F N rest (fun p hp => hp) off hS r
theorem ne_same {prog : Program} {w : World} {A : Around} {E : Value → Shared → Prop} {s : Shared} {x : Str} {t u : Tok} {Q : Value → Shared → Prop} (h : Q (.bool false) s) : wpAny (model prog w) A (compareOp .NotEq (.str x t) (.str x u)) Q E s := ne_str (by simpa using h)
end Mine
local macro_rules | `(tactic| walk_at "subscriptTail Name Name ref int") => `(tactic| with_reducible apply item3j; k_asm; k_dflt k_mem; assumption; with_unfolding_all rfl; intro _)
local macro_rules | `(tactic| walk_at "CompEnd") => `(tactic| (apply ce_tail; assumption; assumption; assumption; lcg_src))
local macro_rules | `(tactic| walk_at "compareOp NotEq str str") => `(tactic| with_reducible apply ne_same)
namespace Mine
open PySem PySem.W PySem.Calls PyProof.Rows PySem.Spec
local macro_rules | `(tactic| walk_at "call ref") => `(tactic| with_reducible apply stop_call160)
local macro_rules | `(tactic| walk_at "execs cons") => `(tactic| with_reducible apply stop_sent)
set_option maxHeartbeats 1000000 in
theorem bseg1 (w : World) (loose : List Str) (mean : ExcName → Option Value) (mg : Str → Option Value) (mb : Str → Option Value) (h₀ : Heap) (L' : Addr) (fa : Addr) (cdv : Value) (S : Addr) (NM : Addr) (A0 : Addr) (A1 : Addr) (A2 : Addr) (W : Addr) (HA : Addr) (z0 : Nat) (z1 : Nat) (z2 : Nat) (e : Nat) (d : Nat) (j : Nat) (take : Nat) (r0 : Nat) (r1 : Nat) (r2 : Nat) (t0 : Tok) (t1 : Tok) (t2 : Tok) (te : Tok) (td : Tok) (tj : Tok) (tt : Tok) (n0 : Tok) (n1 : Tok) (n2 : Tok) (n3 : Tok) (n4 : Tok) (n5 : Tok) (n6 : Tok) (n7 : Tok) (n8 : Tok) (k0 : Nat) (k1 : Nat) (k2 : Nat) (k3 : Nat) (wl : List Value) (wx : List Int) (wn : Nat) (tl : List (Addr × Obj)) (s0 : Shared) (Qb : Flow → Shared → Prop) (E : Value → Shared → Prop)
    (X : (K w.params).In h₀) (TT : Top qv loose mean mg mb h₀) (B : Below callerA h₀ [] h₀) (O : Okm w loose mean mg mb h₀ L' fa cdv S NM A0 A1 A2 W HA z0 z1 z2 e d j take r0 r1 r2 t0 t1 t2 te td tj tt n0 n1 n2 n3 n4 n5 n6 n7 n8 k0 k1 k2 k3 wl wx wn tl s0 Qb E) (h3 : BSeg3 w loose mean mg mb h₀ L' fa cdv S NM A0 A1 A2 W HA z0 z1 z2 e d j take r0 r1 r2 t0 t1 t2 te td tj tt n0 n1 n2 n3 n4 n5 n6 n7 n8 k0 k1 k2 k3 wl wx wn tl s0 Qb E) : BSeg1 w loose mean mg mb h₀ L' fa cdv S NM A0 A1 A2 W HA z0 z1 z2 e d j take r0 r1 r2 t0 t1 t2 te td tj tt n0 n1 n2 n3 n4 n5 n6 n7 n8 k0 k1 k2 k3 wl wx wn tl s0 Qb E := by
  unfold BSeg1 rwp
  revert X
  k_fill
  intro X s RL q0 q1 q2 c1 c7 c9 ml o1 o2 o3 o4 o5 o6 o7 o8 o9 hRL nRL hL F N d1 d2 d3 d4 d5 d6 d7 d8 d9 g0 g1 g2
  obtain ⟨hS, hz0, hz1, hz2, he, hd, hj, ht, hNM, hA0, hA1, hA2, hW, nNM, nA2, nA1, nA0, nS, hO, hr0, hr1, hr2, lr0, lr1, lr2, hwl, hwi⟩ := id O
  clear hd
  obtain ⟨p1, p2, p3, p4, p5, p6, p7, p8, p9⟩ := id hS
  simp only [List.cons_append, List.nil_append] at N
  show wpAny _ _ (execs (_ :: _) _) _ _ _
  rw [as3 g0 g1 g2] at F
  obtain ⟨hh, gs, dd, tk, os⟩ := s
  dsimp only at F N
  k_steps
  refine ⟨?_⟩
  have hg := rest_j (take := take) hj hr0 hr1 hr2
  obtain ⟨at', hat, hle⟩ : ∃ at' : Nat, ((d : Int) + (take : Int)).fmod ((([r0, r1, r2].getD j 0 : Nat) : Int) + 1) = (at' : Int) ∧ take + at' ≤ [z0, z1, z2].getD j 0 := by
    generalize [r0, r1, r2].getD j 0 = g at *
    have h1 := Int.fmod_nonneg_of_pos ((d : Int) + (take : Int)) (show (0 : Int) < (g : Int) + 1 by omega)
    have h2 := Int.fmod_lt_of_pos ((d : Int) + (take : Int)) (show (0 : Int) < (g : Int) + 1 by omega)
    exact ⟨(((d : Int) + (take : Int)).fmod ((g : Int) + 1)).toNat, by omega, by omega⟩
  rw [hat]
  have key : ∀ u3 rest, CtrQ w loose mean mg mb 160 ((S, listOf #[.int (z0 : Int) t0, .int (z1 : Int) t1, .int (z2 : Int) t2] 3) :: rest) [.ref S, .int (j : Int) tj, .int (take : Int) tt, .int (at' : Int) u3, .str (T (endOf e)) te, .int (d : Int) td] (fun t => .str (T (restRows [z0, z1, z2] j take (endOf e))) t) := by
    intro u3 rest
    cases hb : (((d : Int) + j + take).fmod 2 == 1) with
    | false => exact c_left_q w loose mean mg mb z0 z1 z2 hz0 hz1 hz2 j hj take at' hle d O.hd hb (endOf e) (end_len e) (end_mem e) t0 t1 t2 _ _ _ _ _ S 3 rest
    | true => exact c_left_h w loose mean mg mb z0 z1 z2 hz0 hz1 hz2 j hj take at' hle d O.hd hb (endOf e) (end_len e) (end_mem e) t0 t1 t2 _ _ _ _ _ S 3 rest
  have NK : News h₀ L' hh ((S, _) :: (RL, _) :: (W, _) :: (NM, _) :: (A2, _) :: (A1, _) :: (A0, _) :: _) := fun p hp => N p (led_pull hp)
  refine' key _ _ _ _ _ _ _ _ _ _ _ _ _ _ _ _ _ _ _ ?k1 F X NK TT ?kK ?kd ?ku ?kR
  case k1 => k_asm
  case kK => exact rfl
  case kd => ktr_room
  case ku => ktr_units
  intro t9 s9 hL9 F9 N9
  replace N9 := fun p hp => N9 p (led_push hp)
  obtain ⟨h9, gs9, d9', tk9, os9⟩ := s9
  dsimp only at F9 N9
  rw [rest_plain hr0 hr1 hr2]
  clear F N NK
  have N10 : News h₀ L' h9 _ := N9
  clear N9
  have hel := end_len e
  k_steps
  refine join_h [(T (List.replicate (r0 : Int).toNat 46 ++ endOf e), _), (T (List.replicate (r1 : Int).toNat 46 ++ endOf e), _), (T (List.replicate (r2 : Int).toNat 46 ++ endOf e), _)] (by assumption) rfl ?ok ?_
  case ok =>
    show (T _).length + ((T _).length + ((T _).length + 0)) + 3 * _ ≤ _
    rw [T_len, T_len, T_len, nil_T, T_len]
    simp only [List.length_append, List.length_replicate, List.length_nil]
    omega
  intro t' k'
  rw [join0, rows_join]
  k_steps
  refine ⟨h3 _ RL q0 q1 q2 t9 c1 c7 c9 _ o1 o2 o3 o4 o5 o6 o7 o8 o9 hRL nRL ⟨hL9.1.trans hL.1, hL9.2.trans hL.2⟩ (by assumption) (fun p hp => (by assumption : News h₀ L' _ (_ :: _)) p (List.mem_cons_of_mem _ hp)) d1 d2 d3 d4 d5 d6 d7 d8 d9 rfl rfl rfl rfl⟩
end Mine
namespace Mine
open PySem PySem.W PySem.Calls PyProof.Rows PySem.Spec
theorem as3x {m : Str → Option Value} {x : Str} {vx v0 v1 v2 : Option Value} (hx : m x = vx) (h0 : m "winners" = v0) (h1 : m "heirs" = v1) (h2 : m "d" = v2) : m = fun z : Str => if z = x then vx else if z = "winners" then v0 else if z = "heirs" then v1 else if z = "d" then v2 else m z := by
  funext z
  by_cases ex : z = x
  · rw [if_pos ex, ex, hx]
  rw [if_neg ex]
  exact congrFun (as3 h0 h1 h2) z
noncomputable def MergePost (r : Nat) (f : Nat → List Nat) (s : Shared) (v : Value) (s' : Shared) : Prop := (∃ t, v = .str (T (f r)) t) ∧ ∃ tk', s' = { s with toks := tk' }
theorem if_merge {prog : Program} {w : World} {A : Around} {E : Value → Shared → Prop} {s : Shared} {env : Env} {ex : PySem.Expr} {r : Nat} {q : Tok} {m₂ : Str → Option Value} {x : Str} {Q : Value → Shared → Prop} (hx : m₂ x = some (.int ((r : Nat) : Int) q))
    (h : wpAny (model prog w) A (eval ex env) (MergePost r sentRow s) E s) (k : ∀ t tk', Q (.str (T (sentRow r)) t) { s with toks := tk' }) : wpAny (model prog w) A (eval ex env) Q E s :=
  wpAny_mono h (fun v s' h' => by obtain ⟨⟨t, rfl⟩, tk', rfl⟩ := h'; exact k t tk') fun _ _ e => e
theorem mp_at {M : Model} {A : Around} {E : Value → Shared → Prop} {s s' : Shared} {c r f} (h : wpAny M A c (MergePost r f s') E s) : wpAny M A c (MergePost r f s') E s := h
theorem mp_pos {r : Nat} {s : Shared} {t : Tok} {tk : Nat} (h : 0 < r) : MergePost r sentRow s (.str (T (List.replicate ((r : Int) + 1).toNat 46)) t) { s with toks := tk } :=
  ⟨⟨t, by rw [show sentRow r = List.replicate (r + 1) 46 by unfold sentRow; rw [if_pos h], show ((r : Int) + 1).toNat = r + 1 by lia]⟩, tk, rfl⟩
theorem mp_neg {r : Nat} {s : Shared} {t : Tok} {tk : Nat} (h : r = 0) : MergePost r sentRow s (.str (Str.ofString "") t) { s with toks := tk } :=
  ⟨⟨t, by subst h; rw [nil_T]; rfl⟩, tk, rfl⟩
theorem crlf_T : Str.ofString "\r\n" = T [13, 10] := by decide +kernel
theorem add_crlf {w : World} {A : Around} {E : Value → Shared → Prop} {s : Shared} {t u : Tok} {a : List Nat} {Q : Value → Shared → Prop} (hl : a.length ≤ 900) (h : ∀ t' tk, Q (.str (T (a ++ [13, 10])) t') { s with toks := tk }) : wpAny (model rwp w) A (binaryOp .Add (.str (T a) t) (.str (Str.ofString "\r\n") u)) Q E s := by
  rw [crlf_T]; exact add_T (by simp only [List.length_cons, List.length_nil]; lia) h
theorem sent_len {r : Nat} (h : r < 5) : (sentRow r).length ≤ 5 := by
  unfold sentRow
  split <;> simp <;> lia
theorem plain_len {r0 r1 r2 e : Nat} (h0 : r0 < 5) (h1 : r1 < 5) (h2 : r2 < 5) : (plainRows r0 r1 r2 (endOf e)).length ≤ 100 := by
  have := end_len e
  simp [plainRows]
  lia
theorem sent_text {r0 r1 r2 e : Nat} (h0 : r0 < 5) (h1 : r1 < 5) (h2 : r2 < 5) (he : e < 3) : (⟨(dots true (crlf (T (plainRows r0 r1 r2 (endOf e))).cps.toList)).toArray⟩ : Str) = T (sentRows r0 r1 r2) := by
  have := p_sent ⟨e, he⟩ ⟨r0, h0⟩ ⟨r1, h1⟩ ⟨r2, h2⟩
  dsimp only at this
  rw [← this]
theorem sent_join (r0 r1 r2 : Nat) (a b c : Tok) : ((List.map (fun p : Str × Tok => p.1) [(T (sentRow r0 ++ [13, 10]), a), (T (sentRow r1 ++ [13, 10]), b), (T (sentRow r2 ++ [13, 10]), c)]).flatMap fun y => y.cps.toList) = sentRows r0 r1 r2 := by
  simp [sentRows, T]
theorem stop_call48 {M : Model} {A : Around} {E : Value → Shared → Prop} {s : Shared} {Q : Value → Shared → Prop} {vs : List Value} (h : Hold (wpAny M A (call (.ref 48) vs) Q E s)) : wpAny M A (call (.ref 48) vs) Q E s := h.1
local macro_rules | `(tactic| walk_at "call ref") => `(tactic| with_reducible apply stop_call48)
theorem stop_counts {M : Model} {A : Around} {E : Value → Shared → Prop} {s : Shared} {Q : Flow → Shared → Prop} {p v u r env} (h : Hold (wpAny M A (execs (.Assign [.Name (Str.ofString "counts") p] v u :: r) env) Q E s)) : wpAny M A (execs (.Assign [.Name (Str.ofString "counts") p] v u :: r) env) Q E s := h.1
local macro_rules | `(tactic| walk_at "execs cons") => `(tactic| with_reducible apply stop_counts)
local macro_rules | `(tactic| walk_at "eval IfExp") => `(tactic| ((fail_if_success with_reducible apply mp_at); k_dflt apply if_merge; assumption))
local macro_rules | `(tactic| walk_at "binaryOp Add str str") => `(tactic| with_reducible apply add_crlf; lia; intros)
set_option maxHeartbeats 1000000 in
theorem bseg3 (w : World) (loose : List Str) (mean : ExcName → Option Value) (mg : Str → Option Value) (mb : Str → Option Value) (h₀ : Heap) (L' : Addr) (fa : Addr) (cdv : Value) (S : Addr) (NM : Addr) (A0 : Addr) (A1 : Addr) (A2 : Addr) (W : Addr) (HA : Addr) (z0 : Nat) (z1 : Nat) (z2 : Nat) (e : Nat) (d : Nat) (j : Nat) (take : Nat) (r0 : Nat) (r1 : Nat) (r2 : Nat) (t0 : Tok) (t1 : Tok) (t2 : Tok) (te : Tok) (td : Tok) (tj : Tok) (tt : Tok) (n0 : Tok) (n1 : Tok) (n2 : Tok) (n3 : Tok) (n4 : Tok) (n5 : Tok) (n6 : Tok) (n7 : Tok) (n8 : Tok) (k0 : Nat) (k1 : Nat) (k2 : Nat) (k3 : Nat) (wl : List Value) (wx : List Int) (wn : Nat) (tl : List (Addr × Obj)) (s0 : Shared) (Qb : Flow → Shared → Prop) (E : Value → Shared → Prop)
    (X : (K w.params).In h₀) (TT : Top qv loose mean mg mb h₀) (B : Below callerA h₀ [] h₀) (O : Okm w loose mean mg mb h₀ L' fa cdv S NM A0 A1 A2 W HA z0 z1 z2 e d j take r0 r1 r2 t0 t1 t2 te td tj tt n0 n1 n2 n3 n4 n5 n6 n7 n8 k0 k1 k2 k3 wl wx wn tl s0 Qb E) (h5 : BSeg5 w loose mean mg mb h₀ L' fa cdv S NM A0 A1 A2 W HA z0 z1 z2 e d j take r0 r1 r2 t0 t1 t2 te td tj tt n0 n1 n2 n3 n4 n5 n6 n7 n8 k0 k1 k2 k3 wl wx wn tl s0 Qb E) : BSeg3 w loose mean mg mb h₀ L' fa cdv S NM A0 A1 A2 W HA z0 z1 z2 e d j take r0 r1 r2 t0 t1 t2 te td tj tt n0 n1 n2 n3 n4 n5 n6 n7 n8 k0 k1 k2 k3 wl wx wn tl s0 Qb E := by
  unfold BSeg3 rwp
  revert X
  k_fill
  intro X s RL q0 q1 q2 tq c1 c7 c9 ml o1 o2 o3 o4 o5 o6 o7 o8 o9 hRL nRL hL F N d1 d2 d3 d4 d5 d6 d7 d8 d9 g0 g1 g2 g3
  obtain ⟨hS, hz0, hz1, hz2, he, hd, hj, ht, hNM, hA0, hA1, hA2, hW, nNM, nA2, nA1, nA0, nS, hO, hr0, hr1, hr2, lr0, lr1, lr2, hwl, hwi⟩ := id O
  clear hd
  obtain ⟨p1, p2, p3, p4, p5, p6, p7, p8, p9⟩ := id hS
  simp only [List.cons_append, List.nil_append] at N
  show wpAny _ _ (execs (_ :: _) _) _ _ _
  rw [as3x g3 g0 g1 g2] at F
  obtain ⟨hh, gs, dd, tk, os⟩ := s
  dsimp only at F N
  k_steps
  refine ⟨?_⟩
  refine' c_quote _ _ _ _ _ _ _ _ _ _ _ _ _ _ _ _ _ _ _ _ _ _ _ _ _ ?k1 F X N TT ?kK ?kp ?kd ?ku ?kR
  case k1 => k_asm
  case kK => exact rfl
  case kp =>
    show (T _).length ≤ _
    rw [T_len]
    exact Nat.le_trans (plain_len lr0 lr1 lr2) (by decide)
  case kd => ktr_room
  case ku => ktr_units
  intro t9 h9 tk9 F9 N9
  dsimp only
  rw [sent_text lr0 lr1 lr2 he]
  clear F N
  have s0 := sent_len lr0
  have s1 := sent_len lr1
  have s2 := sent_len lr2
  k_steps
  all_goals (try (first | exact mp_pos (by lia) | exact mp_neg (by lia)))
  refine join_h [(T (sentRow r0 ++ [13, 10]), _), (T (sentRow r1 ++ [13, 10]), _), (T (sentRow r2 ++ [13, 10]), _)] (by assumption) rfl ?ok ?_
  case ok =>
    show (T _).length + ((T _).length + ((T _).length + 0)) + 3 * _ ≤ _
    rw [T_len, T_len, T_len, nil_T, T_len]
    simp only [List.length_append, List.length_cons, List.length_nil]
    lia
  intro t' k'
  rw [join0, sent_join]
  k_steps
  refine ⟨h5 _ RL q0 q1 q2 t9 c1 c7 c9 _ o1 o2 o3 o4 o5 o6 o7 o8 o9 hRL nRL ⟨hL.1, hL.2⟩ (by assumption) (fun p hp => (by assumption : News h₀ L' _ (_ :: _)) p (List.mem_cons_of_mem _ hp)) d1 d2 d3 d4 d5 d6 d7 d8 d9 rfl rfl rfl rfl⟩
end Mine
namespace Mine
open PySem PySem.W PySem.Calls PyProof.Rows PySem.Spec
theorem p_flen : ∀ (r0 r1 r2 : Fin 5), (flagText (numOf r0.val r1.val r2.val)).length ≤ 200 := by decide +kernel
noncomputable def MergeInt (r : Nat) (s : Shared) (v : Value) (s' : Shared) : Prop := (∃ t, v = .int ((r : Nat) : Int) t) ∧ ∃ tk', s' = { s with toks := tk' }
theorem int_merge {prog : Program} {w : World} {A : Around} {E : Value → Shared → Prop} {s : Shared} {env : Env} {ex : PySem.Expr} {r : Nat} {q : Tok} {m₂ : Str → Option Value} {x : Str} {Q : Value → Shared → Prop} (hx : m₂ x = some (.str (T (sentRow r)) q))
    (h : wpAny (model prog w) A (eval ex env) (MergeInt r s) E s) (k : ∀ t tk', Q (.int ((r : Nat) : Int) t) { s with toks := tk' }) : wpAny (model prog w) A (eval ex env) Q E s :=
  wpAny_mono h (fun v s' h' => by obtain ⟨⟨t, rfl⟩, tk', rfl⟩ := h'; exact k t tk') fun _ _ e => e
theorem sr_len (r : Nat) : (T (sentRow r)).length = if r > 0 then r + 1 else 0 := by
  rw [T_len]
  unfold sentRow
  split <;> simp
theorem itemc {prog : Program} {w : World} {A : Around} {E : Value → Shared → Prop} {s : Shared} {h₀ : Heap} {L D : Addr} {news : List (Addr × Obj)} {value slice : PySem.Expr} {items : Array Value} {v : Value} {u : Tok} {n : Nat} {k : Int} {Q : Value → Shared → Prop} (N : News h₀ L s.heap news) (hm : (D, listOf items n) ∈ news) (h0 : 0 ≤ k) (hk : k < 2 ^ 63) (hx : items[k.toNat]? = some v) (h : Q v s)
    (hs : subscripted slice false (.ref D) (.int k u) = operate [.ref D, .int k u] (getItem (.ref D) (.int k u)) := by with_unfolding_all rfl) :
    wpAny (model prog w) A (subscriptTail value slice (.ref D) (.int k u)) Q E s := by
  have hL := N.isList hm
  exact tail_any hL.typeIs slot_list_getitem.lookup (wpAny_getItem_list hL h0 hk (x := v) hx h) hs
theorem sents_len {r0 r1 r2 : Nat} (h0 : r0 < 5) (h1 : r1 < 5) (h2 : r2 < 5) : (T (sentRows r0 r1 r2)).length + 2 ≤ sizeLine := by
  have := sent_len h0
  have := sent_len h1
  have := sent_len h2
  have : (T (sentRows r0 r1 r2)).length ≤ 30 := by
    rw [T_len]
    simp [sentRows]
    lia
  exact Nat.le_trans (Nat.add_le_add_right this 2) (by decide)
theorem sr_ne (r : Nat) : (T (sentRow r) != Str.ofString "") = decide (0 < r) := by
  rw [nil_T]
  by_cases h : 0 < r
  · rw [decide_eq_true h]
    have hne : T (sentRow r) ≠ T [] := fun e => by
      have := congrArg Str.length e
      rw [sr_len, if_pos h] at this
      exact absurd this (by show r + 1 ≠ 0; lia)
    simp [hne]
  · rw [decide_eq_false h]
    have : r = 0 := by lia
    subst this
    rfl
theorem mi_at {M : Model} {A : Around} {E : Value → Shared → Prop} {s s' : Shared} {c r} (h : wpAny M A c (MergeInt r s') E s) : wpAny M A c (MergeInt r s') E s := h
theorem mi_pos {r : Nat} {s : Shared} {t : Tok} {tk : Nat} (h : (T (sentRow r) != Str.ofString "") = true) : MergeInt r s (.int (((sentRow r).length : Int) - 1) t) { s with toks := tk } := by
  rw [sr_ne] at h
  have h' : 0 < r := of_decide_eq_true h
  have e : ((sentRow r).length : Int) - 1 = (r : Int) := by
    have := sr_len r
    rw [T_len, if_pos h'] at this
    rw [this]
    lia
  rw [e]
  exact ⟨⟨t, rfl⟩, tk, rfl⟩
theorem mi_neg {r : Nat} {s : Shared} {t : Tok} {tk : Nat} (h : (T (sentRow r) != Str.ofString "") = false) : MergeInt r s (.int 0 t) { s with toks := tk } := by
  rw [sr_ne] at h
  have h' : ¬ 0 < r := of_decide_eq_false h
  have : r = 0 := by lia
  subst this
  exact ⟨⟨t, rfl⟩, tk, rfl⟩
theorem mi_zero {s : Shared} {t : Tok} {tk : Nat} : MergeInt 0 s (.int 0 t) { s with toks := tk } := ⟨⟨t, rfl⟩, tk, rfl⟩
theorem split_flags {w : World} {A : Around} {E : Value → Shared → Prop} {s : Shared} {h₀ : Heap} {L : Addr} {m : Str → Option Value} {news : List (Addr × Obj)} {r0 r1 r2 : Nat} {t u : Tok} {Q : Value → Shared → Prop} (F : Fr h₀ L s.heap m) (N : News h₀ L s.heap news) (lr0 : r0 < 5) (lr1 : r1 < 5) (lr2 : r2 < 5)
    (h : ∀ D l h' k, l.map (·.1) = wordsOf r0 r1 r2 → Fr h₀ L h' m → News h₀ L h' ((D, listOf (strValues l).toArray 0) :: news) → (∀ p ∈ news, @LT.lt Nat _ p.1 D) → Q (.ref D) { s with heap := h', toks := k }) :
    wpAny (model rwp w) A (call (.builtin "str.split") [.str (flagText (numOf r0 r1 r2)) t, .str (Str.ofString ", ") u]) Q E s := by
  refine KSpl.split1 F N rfl ?_ (Nat.le_trans (Nat.add_le_add_right (p_flen ⟨r0, lr0⟩ ⟨r1, lr1⟩ ⟨r2, lr2⟩) 2) (by decide))
  intro D9 l9 h9 k9 e9 a9 F9 N9 l1
  exact h D9 l9 h9 k9 (e9.trans (p_words ⟨r0, lr0⟩ ⟨r1, lr1⟩ ⟨r2, lr2⟩)) F9 N9 l1
theorem split_sents {w : World} {A : Around} {E : Value → Shared → Prop} {s : Shared} {h₀ : Heap} {L : Addr} {m : Str → Option Value} {news : List (Addr × Obj)} {r0 r1 r2 : Nat} {t u : Tok} {Q : Value → Shared → Prop} (F : Fr h₀ L s.heap m) (N : News h₀ L s.heap news) (lr0 : r0 < 5) (lr1 : r1 < 5) (lr2 : r2 < 5)
    (h : ∀ D ta tb tc tz h' k, Fr h₀ L h' m → News h₀ L h' ((D, listOf #[.str (T (sentRow r0)) ta, .str (T (sentRow r1)) tb, .str (T (sentRow r2)) tc, .str (T (sentRow 0)) tz] 0) :: news) → (∀ p ∈ news, @LT.lt Nat _ p.1 D) → Q (.ref D) { s with heap := h', toks := k }) :
    wpAny (model rwp w) A (call (.builtin "str.split") [.str (T (sentRows r0 r1 r2)) t, .str (Str.ofString "\r\n") u]) Q E s := by
  refine KSpl.split1 F N rfl ?_ (sents_len lr0 lr1 lr2)
  intro D9 l9 h9 k9 e9 a9 F9 N9 l1
  have e8 : l9.map (·.1) = [T (sentRow r0), T (sentRow r1), T (sentRow r2), T (sentRow 0)] := e9.trans (p_split ⟨r0, lr0⟩ ⟨r1, lr1⟩ ⟨r2, lr2⟩)
  obtain ⟨ta, l8, rfl, e7⟩ := KSpl.cons_of e8
  obtain ⟨tb, l7, rfl, e6⟩ := KSpl.cons_of e7
  obtain ⟨tc, l6, rfl, e5⟩ := KSpl.cons_of e6
  obtain ⟨tz, l5, rfl, e4⟩ := KSpl.cons_of e5
  have e3 := KSpl.nil_of e4
  subst e3
  exact h D9 ta tb tc tz h9 k9 F9 N9 l1
theorem stop_call {M : Model} {A : Around} {E : Value → Shared → Prop} {s : Shared} {Q : Value → Shared → Prop} {a : Addr} {vs : List Value} (h : Hold (wpAny M A (call (.ref a) vs) Q E s)) : wpAny M A (call (.ref a) vs) Q E s := h.1
local macro_rules | `(tactic| walk_at "call ref") => `(tactic| with_reducible apply stop_call)
theorem stop_built {M : Model} {A : Around} {E : Value → Shared → Prop} {s : Shared} {Q : Value → Shared → Prop} {b : String} {a : Addr} (h : Hold (wpAny M A (call (.builtin b) [.ref a]) Q E s)) : wpAny M A (call (.builtin b) [.ref a]) Q E s := h.1
local macro_rules | `(tactic| walk_at "call builtin:iter") => `(tactic| with_reducible apply stop_built)
theorem stop_odd {M : Model} {A : Around} {E : Value → Shared → Prop} {s : Shared} {Q : Flow → Shared → Prop} {p v u r env} (h : Hold (wpAny M A (execs (.Assign [.Name (Str.ofString "odd") p] v u :: r) env) Q E s)) : wpAny M A (execs (.Assign [.Name (Str.ofString "odd") p] v u :: r) env) Q E s := h.1
local macro_rules | `(tactic| walk_at "execs cons") => `(tactic| with_reducible apply stop_odd)
local macro_rules | `(tactic| walk_at "call builtin:len") => `(tactic| with_reducible apply len_T; lia)
local macro_rules | `(tactic| walk_at "call builtin:str.split") => `(tactic| (with_reducible apply split_flags; k_asm; k_asm; assumption; assumption; assumption; intro D' lw' h' k' ew' F' N' l1'; (try k_lt l1')))
local macro_rules | `(tactic| walk_at "call builtin:str.split") => `(tactic| with_reducible apply split_sents; k_asm; k_asm; assumption; assumption; assumption; intros)
local macro_rules | `(tactic| walk_at "eval IfExp") => `(tactic| ((fail_if_success with_reducible apply mi_at); k_dflt apply int_merge; assumption))
set_option maxHeartbeats 1000000 in
theorem bseg5 (w : World) (loose : List Str) (mean : ExcName → Option Value) (mg : Str → Option Value) (mb : Str → Option Value) (h₀ : Heap) (L' : Addr) (fa : Addr) (cdv : Value) (S : Addr) (NM : Addr) (A0 : Addr) (A1 : Addr) (A2 : Addr) (W : Addr) (HA : Addr) (z0 : Nat) (z1 : Nat) (z2 : Nat) (e : Nat) (d : Nat) (j : Nat) (take : Nat) (r0 : Nat) (r1 : Nat) (r2 : Nat) (t0 : Tok) (t1 : Tok) (t2 : Tok) (te : Tok) (td : Tok) (tj : Tok) (tt : Tok) (n0 : Tok) (n1 : Tok) (n2 : Tok) (n3 : Tok) (n4 : Tok) (n5 : Tok) (n6 : Tok) (n7 : Tok) (n8 : Tok) (k0 : Nat) (k1 : Nat) (k2 : Nat) (k3 : Nat) (wl : List Value) (wx : List Int) (wn : Nat) (tl : List (Addr × Obj)) (s0 : Shared) (Qb : Flow → Shared → Prop) (E : Value → Shared → Prop)
    (X : (K w.params).In h₀) (TT : Top qv loose mean mg mb h₀) (B : Below callerA h₀ [] h₀) (O : Okm w loose mean mg mb h₀ L' fa cdv S NM A0 A1 A2 W HA z0 z1 z2 e d j take r0 r1 r2 t0 t1 t2 te td tj tt n0 n1 n2 n3 n4 n5 n6 n7 n8 k0 k1 k2 k3 wl wx wn tl s0 Qb E) (h8 : BSeg8 w loose mean mg mb h₀ L' fa cdv S NM A0 A1 A2 W HA z0 z1 z2 e d j take r0 r1 r2 t0 t1 t2 te td tj tt n0 n1 n2 n3 n4 n5 n6 n7 n8 k0 k1 k2 k3 wl wx wn tl s0 Qb E) : BSeg5 w loose mean mg mb h₀ L' fa cdv S NM A0 A1 A2 W HA z0 z1 z2 e d j take r0 r1 r2 t0 t1 t2 te td tj tt n0 n1 n2 n3 n4 n5 n6 n7 n8 k0 k1 k2 k3 wl wx wn tl s0 Qb E := by
  unfold BSeg5 rwp
  revert X
  k_fill
  intro X s RL q0 q1 q2 tq c1 c7 c9 ml o1 o2 o3 o4 o5 o6 o7 o8 o9 hRL nRL hL F N d1 d2 d3 d4 d5 d6 d7 d8 d9 g0 g1 g2 g3
  obtain ⟨hS, hz0, hz1, hz2, he, hd, hj, ht, hNM, hA0, hA1, hA2, hW, nNM, nA2, nA1, nA0, nS, hO, hr0, hr1, hr2, lr0, lr1, lr2, hwl, hwi⟩ := id O
  clear hd
  obtain ⟨p1, p2, p3, p4, p5, p6, p7, p8, p9⟩ := id hS
  simp only [List.cons_append, List.nil_append] at N
  show wpAny _ _ (execs (_ :: _) _) _ _ _
  rw [as3x g3 g0 g1 g2] at F
  obtain ⟨hh, gs, dd, tk, os⟩ := s
  dsimp only at F N
  have s0 := sent_len lr0
  have s1 := sent_len lr1
  have s2 := sent_len lr2
  k_steps
  all_goals (try (first | exact mi_pos (by assumption) | exact mi_neg (by assumption) | exact mi_zero))
  refine ⟨?_⟩
  rename Fr h₀ L' _ _ => F9
  rename News h₀ L' _ _ => N9
  refine iter_list F9 N9 List.mem_cons_self ?_
  intro I hI F10 N10 lI
  k_steps
  refine ⟨?_⟩
  refine' c_varint3 w loose mean mg mb r0 r1 r2 (by lia) (by lia) (by lia) _ _ _ I _ _ _ List.mem_cons_self (fun p hp => Nat.ne_of_lt (lI p hp)) _ _ _ _ _ _ _ _ _ _ _ _ _ _ _ _ _ ?k1 F10 X N10 TT ?kK ?kd ?ku ?kR
  case k1 => k_asm
  case kK => exact rfl
  case kd => ktr_room
  case ku => ktr_units
  intro t9 s9 hL9 F11 N11
  replace N11 := fun p hp => N11 p (List.mem_cons_of_mem _ (List.mem_cons_of_mem _ (List.mem_cons_of_mem _ hp)))
  obtain ⟨h9, gs9, dd9, tk9, os9⟩ := s9
  dsimp only at F11 N11
  have N12 : News h₀ L' h9 _ := N11
  clear N11 N10 F10 N9 F9
  obtain ⟨v1, v2, v3, v4, v5, v6, v7, v8, v9⟩ := id hRL
  k_steps
  refine ⟨?_⟩
  rename Fr h₀ L' _ _ => F9
  rename News h₀ L' _ _ => N9
  refine' c_flags w loose mean mg mb (numOf r0 r1 r2) _ _ _ _ _ _ _ _ _ _ _ _ _ _ _ _ _ _ _ ?k21 F9 X N9 TT ?kK2 ?kp2 ?kd2 ?ku2 ?kR2
  case k21 => k_asm
  case kK2 => exact rfl
  case kp2 => show (r0 * 64 + r1) * 64 + r2 < 100000; lia
  case kd2 => ktr_room
  case ku2 => ktr_units
  intro t10 s10 hL10 F12 N13
  obtain ⟨h10, gs10, dd10, tk10, os10⟩ := s10
  dsimp only at F12 N13
  clear N9 F9
  dsimp only
  k_steps
  rename (@LT.lt Nat _ _ _) ∧ _ => lw1
  obtain ⟨u0, uW, u1, u2, u3, u4, u5, w9, w8, w7, w6, w5, w4, w3, w2, w1, -⟩ := lw1
  refine ⟨h8 _ RL q0 q1 q2 _ _ _ c1 c7 _ o1 o2 o3 o4 o5 o6 o7 o8 _ hRL nRL ⟨Nat.ne_of_gt w1, Nat.ne_of_gt w2, Nat.ne_of_gt w3, Nat.ne_of_gt w4, Nat.ne_of_gt w5, Nat.ne_of_gt w6, Nat.ne_of_gt w7, Nat.ne_of_gt w8, Nat.ne_of_gt w9⟩ (Nat.ne_of_gt uW) (by assumption) ⟨hL10.1.trans (hL9.1.trans hL.1), hL10.2.trans (hL9.2.trans hL.2)⟩ (by assumption) (by assumption) d1 d2 d3 d4 d5 d6 d7 d8 (by assumption) rfl rfl rfl⟩
end Mine
namespace Mine
open PySem PySem.W PySem.Calls PyProof.Rows PySem.Spec PyProof.Rows.LCg PyProof.Rows.LCt
/-- the numbers below n that are kept -/
noncomputable def keptN (n : Nat) (keep : Nat → Bool) : List Int := ((List.range n).filter keep).map fun k : Nat => (k : Int)
theorem keptN_succ (n : Nat) (keep : Nat → Bool) : keptN (n + 1) keep = keptN n keep ++ (if keep n then [(n : Int)] else []) := by
  unfold keptN
  rw [List.range_succ, List.filter_append, List.map_append]
  congr 1
  cases h : keep n <;> simp [h]
theorem ints_snoc {l : List Value} {xs : List Int} (h : IntsAre l xs) (x : Int) (t : Tok) : IntsAre (l ++ [.int x t]) (xs ++ [x]) := h.append (.cons x t .nil)
theorem ints_len {l : List Value} {xs : List Int} (h : IntsAre l xs) : l.length = xs.length := by
  induction h with
  | nil => rfl
  | cons _ _ _ ih => rw [List.length_cons, List.length_cons, ih]
theorem keptN_len (n : Nat) (keep : Nat → Bool) : (keptN n keep).length ≤ n := by
  unfold keptN
  rw [List.length_map]
  exact Nat.le_trans (List.length_filter_le _ _) (by simp)
/-- what a test leaves -/
noncomputable def TestEnd (h₀ : Heap) (L : Addr) (m : Str → Option Value) (s : Shared) (led : List (Addr × Obj)) (b : Bool) (ok : Bool) (s' : Shared) : Prop :=
  ok = b ∧ ∃ h' tk', s' = { s with heap := h', toks := tk' } ∧ Fr h₀ L h' m ∧ News h₀ L h' led
theorem TestEnd.intro {h₀ : Heap} {L : Addr} {m : Str → Option Value} {s : Shared} {led all : List (Addr × Obj)} {b ok : Bool} {h' : Heap} {tk' : Nat} (F : Fr h₀ L h' m) (N : News h₀ L h' all) (sub : ∀ p ∈ led, p ∈ all) (e : ok = b) :
    TestEnd h₀ L m s led b ok { s with heap := h', toks := tk' } := ⟨e, h', tk', rfl, F, fun p hp => N p (sub p hp)⟩
section
variable {prog : Program} {w : World} {A : Around} {E : Value → Shared → Prop} {s : Shared} {h₀ : Heap} {L : Addr} {m : Str → Option Value} {env : Env}
/-- the turns of a list comprehension over a range, with a test; what it keeps are the numbers themselves -/
theorem rest_range {ct : PySem.Expr} {x : Str} {pe : Pos} {scope : Scope} {cl : List (Str × Addr)} {Fin : List Value → List (Addr × Obj) → Prop} {news : List (Addr × Obj)} (n : Nat) (keep : Nat → Bool)
    (hkx : ∀ C, (compEnvC scope cl C env).kindOf x = some .local) (hkk : ∀ C, (compEnvC scope cl C env).scope.kind = .function) (hdx : (x == ("__debug__" : Str)) = false)
    (turn : ∀ i, i < n → ∀ t I oI C oC D m₂ ys h tk (E' : Value → Shared → Prop), NsObj oC m₂ → m₂ x = some (.int (i : Int) t) → Fr h₀ L h m → News h₀ L h ((I, oI) :: (C, oC) :: (D, lst ys) :: news) → Off3 I C D news → ((@Ne Nat I C) ∧ (@Ne Nat I D) ∧ (@Ne Nat C D)) →
      wpAny (model prog w) A (isTrue ct (compEnvC scope cl C env) (eval ct (compEnvC scope cl C env))) (TestEnd h₀ L m { s with heap := h, toks := tk } ((I, oI) :: (C, oC) :: (D, lst ys) :: news) (keep i)) E' { s with heap := h, toks := tk })
    (fin : ∀ l, IntsAre l (keptN n keep) → Fin l news) : CompRestT prog w A h₀ L m env ct (.Name x pe) x scope cl s (fun _ => True) (fun i v => ∃ t, v = .int (0 + (i : Int)) t) Fin n 0 [] news := by
  have key : ∀ (k i : Nat) (l : List Value), k + i = n → IntsAre l (keptN i keep) → CompRestT prog w A h₀ L m env ct (.Name x pe) x scope cl s (fun _ => True) (fun i v => ∃ t, v = .int (0 + (i : Int)) t) Fin k i l news := by
    intro k
    induction k with
    | zero =>
      intro i l hk hl
      have : i = n := by lia
      subst this
      exact CompRestT.zero (fin l hl)
    | succ k ih =>
      intro i l hk hl
      refine CompRestT.succ fun v I oI C oC D m₂ h tk E' hP hC hx F N off ne => ?_
      obtain ⟨t, rfl⟩ := hP
      rw [Int.zero_add] at hx
      refine wpAny_mono (turn i (by lia) t I oI C oC D m₂ l h tk E' hC hx F N off ne) (fun ok s' h' => ?_) fun _ _ e => e
      obtain ⟨rfl, h₂, tk₂, rfl, F₂, N₂⟩ := h'
      cases hb : keep i with
      | true =>
        simp only [if_true]
        refine LCgL.ld_own N₂ (List.mem_cons_of_mem _ List.mem_cons_self) hC hx ?_ (hkk _) (hkx _) hdx
        refine ⟨h₂, tk₂, news, rfl, F₂, N₂, off, trivial, ih (i + 1) _ (by lia) ?_⟩
        rw [keptN_succ, hb]
        exact ints_snoc hl _ _
      | false =>
        simp only [Bool.false_eq_true, if_false]
        refine ⟨h₂, tk₂, news, rfl, F₂, N₂, off, trivial, ih (i + 1) _ (by lia) ?_⟩
        rw [keptN_succ, hb]
        simpa using hl
  exact key n 0 [] rfl (show IntsAre [] [] from .nil)
theorem newEnv_K {scope : Scope} {globals : Addr} {cl : List (Str × Addr)} {qual x : Str} {Q : Env → Shared → Prop}
    (hcells : ∀ n, cellsFrom n scope.names cl = (x, n) :: cl) (hpush : ∀ h, pushCells h scope.names = h.push { cls := .type "cell", data := .cell none })
    (hQ : Q { scope, locals := s.heap.objs.size, globals, cells := (x, s.heap.objs.size + 1) :: cl, qual, func := none, code := env.code, frame := env.frame, builtins := env.builtins }
      { s with heap := (s.heap.push { cls := .type "dict", data := .dict #[] }).push { cls := .type "cell", data := .cell none } }) :
    wpAny (model prog w) A (newFunctionEnv scope globals cl [] qual none .none (some env)) Q E s := by
  simp only [newFunctionEnv, Option.isSome_some, if_true]
  refine wpAny_bind (wpAny_alloc ?_)
  refine wpAny_bind (wpAny_layCells _ (fun name kind cells => by cases hkc : kind == NameKind.cell <;> simp [hkc]) _ _ _ _ ?_)
  simp only [List.forIn_nil]
  refine wpAny_bind (wpAny_pure (wpAny_pure ?_))
  rw [hpush, hcells]
  simp only [Heap.size_push]
  exact hQ
theorem news_push {o : Obj} {news : List (Addr × Obj)} {h : Heap} (F : Fr h₀ L h m) (N : News h₀ L h news) (hf : o.isFreed = false) : Fr h₀ L (h.push o) m ∧ News h₀ L (h.push o) ((h.objs.size, o) :: news) :=
  ⟨F.keeps fun _ _ e => Heap.get?_push_of_some _ e, fun p hp => by
    rcases List.mem_cons.mp hp with rfl | hp
    · exact ⟨Heap.get?_push_size _ hf, Ne.symm (Nat.ne_of_lt F.ns.lt), next_is_new F⟩
    · exact N.grown (fun _ _ e => Heap.get?_push_of_some _ e) p hp⟩
/-- a list comprehension over a range whose name is a cell, with a test -/
theorem block_K {ct iter : PySem.Expr} {x : Str} {px pe : Pos} {scope : Scope} {cl : List (Str × Addr)} {pos : Pos} {s₂ : Shared} {I : Addr} {n : Nat} {news : List (Addr × Obj)} {RR : Value → Addr → Result → Shared → Prop} (keep : Nat → Bool)
    (hh : A.handled = none) (hsz : n ≤ sizeLine) (hcells : ∀ n, cellsFrom n scope.names cl = (x, n) :: cl) (hpush : ∀ h, pushCells h scope.names = h.push { cls := .type "cell", data := .cell none })
    (hkx : ∀ c C, (compEnvC scope ((x, c) :: cl) C env).kindOf x = some .cell) (hkk : ∀ c C, (compEnvC scope ((x, c) :: cl) C env).scope.kind = .function) (hdx : (x == ("__debug__" : Str)) = false)
    (F : Fr h₀ L s₂.heap m) (N : News h₀ L s₂.heap ((I, { cls := .type "range_iterator", data := .fields #[rawInt 0, rawInt n, rawInt 1] }) :: news)) (off : ∀ p ∈ news, p.1 ≠ I)
    (turn : ∀ i, i < n → ∀ t I oI C oC D ys c oK h tk (E' : Value → Shared → Prop), oK.data = .cell (some (.int (i : Int) t)) → Fr h₀ L h m → News h₀ L h ((I, oI) :: (C, oC) :: (D, lst ys) :: (c, oK) :: news) →
      wpAny (model prog w) A (isTrue ct (compEnvC scope ((x, c) :: cl) C env) (eval ct (compEnvC scope ((x, c) :: cl) C env))) (TestEnd h₀ L m { s₂ with heap := h, toks := tk } ((I, oI) :: (C, oC) :: (D, lst ys) :: (c, oK) :: news) (keep i)) E' { s₂ with heap := h, toks := tk })
    (hRR : ∀ D C h tk m' ys, Fr h₀ L h m → News h₀ L h ((D, lst ys) :: news) → (∀ p ∈ news, p.1 ≠ D) → h.Ns C m' → h₀.get? C = none → h₀.get? D = none → C ≠ L → D ≠ L → C ≠ D → (∀ p ∈ news, p.1 ≠ C) → IntsAre ys (keptN n keep) → RR (.ref D) C (.ok .next) { s₂ with heap := h, toks := tk }) :
    wpAny (model prog w) A (newList []) (fun acc s₃ => wpAny (model prog w) A (newFunctionEnv scope env.globals cl [] env.qual none .none (some env)) (fun cenv s₄ =>
      codeAny (model prog w) A (.compStart (.ListComp (.Name x pe) [⟨.Name x px, iter, [ct], 0⟩] scope pos) 0 (.ref I) acc { cenv with scope := relabel scope env }) (RR acc cenv.locals) s₄) E s₃) E s₂ := by
  refine wpAny_newObj_type (newEnv_K hcells hpush ?_)
  dsimp only
  have hlt : ∀ p ∈ (I, ({ cls := .type "range_iterator", data := .fields #[rawInt 0, rawInt n, rawInt 1] } : Obj)) :: news, p.1 < s₂.heap.objs.size := fun p hp => Heap.lt_size (N p hp).1
  obtain ⟨F1, N1⟩ := news_push (o := lst []) F N rfl
  obtain ⟨F2, N2⟩ := news_push (o := { cls := .type "dict", data := .dict #[] }) F1 N1 rfl
  obtain ⟨F3, N3⟩ := news_push (o := { cls := .type "cell", data := .cell none }) F2 N2 rfl
  simp only [Heap.size_push] at N2 N3 ⊢
  have hI : I < s₂.heap.objs.size := hlt _ List.mem_cons_self
  generalize hD : s₂.heap.objs.size = D at *
  show codeAny _ _ (.compStart _ 0 (.ref I) (.ref D) (compEnvC scope ((x, D + 1 + 1) :: cl) (D + 1) env)) (RR (.ref D) (D + 1)) _
  have hDD : D < D + 1 := Nat.lt_succ_self _
  have hD2 : D < D + 1 + 1 := Nat.lt_succ_of_lt hDD
  have hD12 : D + 1 < D + 1 + 1 := Nat.lt_succ_self _
  have ltD : ∀ p ∈ news, p.1 < D := fun p hp => hlt p (List.mem_cons_of_mem _ hp)
  have hL : L < D := hD ▸ F.ns.lt
  have hI₀ := (N3 (I, _) (List.mem_cons_of_mem _ (List.mem_cons_of_mem _ (List.mem_cons_of_mem _ List.mem_cons_self)))).2.2
  have hK₀ := (N3 _ List.mem_cons_self).2.2
  have hC₀ := (N3 _ (List.mem_cons_of_mem _ List.mem_cons_self)).2.2
  have hD₀ := (N3 _ (List.mem_cons_of_mem _ (List.mem_cons_of_mem _ List.mem_cons_self))).2.2
  dsimp only at hK₀ hC₀ hD₀ hI₀
  have hIL : L ≠ I := fun e => (N (I, _) List.mem_cons_self).2.1 e.symm
  have W := range_walks (prog := prog) (w := w) (I := I) hh 0 n
  have hlk : ((x, D + 1 + 1) :: cl).lookup x = some (D + 1 + 1) := by simp [List.lookup_cons]
  have loop : ∀ tk', codeAny (model prog w) A (.compLoop (.ListComp (.Name x pe) [⟨.Name x px, iter, [ct], 0⟩] scope pos) 0 (.ref I) (.ref D) (compEnvC scope ((x, D + 1 + 1) :: cl) (D + 1) env)) (RR (.ref D) (D + 1))
      { s₂ with heap := ((s₂.heap.push (lst [])).push { cls := .type "dict", data := .dict #[] }).push { cls := .type "cell", data := .cell none }, toks := tk' } := by
    intro tk'
    refine codeAny_compLoop_tests
      (fun k s' => ∃ (h' : Heap) (tk i : Nat) (ys : List Value) (oK : Obj) (v₀ : Option Value), s' = { s₂ with heap := h', toks := tk } ∧ i ≤ n ∧ k = n + 1 - i ∧ IntsAre ys (keptN i keep) ∧ Fr h₀ L h' m ∧
        News h₀ L h' ((I, { cls := .type "range_iterator", data := .fields #[rawInt (0 + (i : Int) * 1), rawInt ((n : Int) - (i : Int)), rawInt 1] }) :: (D + 1, { cls := .type "dict", data := .dict #[] }) :: (D, lst ys) :: (D + 1 + 1, oK) :: news) ∧ oK.data = .cell v₀) ?_ (n + 1)
      ⟨_, _, 0, [], { cls := .type "cell", data := .cell none }, none, rfl, Nat.zero_le _, rfl, .nil, F3, fun p hp => ?_, rfl⟩
    · rintro k s' ⟨h', tk, i, ys, oK, v₀, rfl, hi, rfl, hys, F', N', hK⟩
      by_cases hin : i < n
      · refine W.item i _ _ _ hin (N' _ List.mem_cons_self).1 fun v h₂ tk₂ hPv hst₂ hk₂ => ?_
        obtain ⟨t, rfl⟩ := hPv
        rw [Int.zero_add]
        have F₂ : Fr h₀ L h₂ m := fr_but F' hk₂ hIL hI₀
        have N₂ : News h₀ L h₂ ((I, { cls := .type "range_iterator", data := .fields #[rawInt (0 + ((i + 1 : Nat) : Int) * 1), rawInt ((n : Int) - ((i + 1 : Nat) : Int)), rawInt 1] }) :: (D + 1, { cls := .type "dict", data := .dict #[] }) :: (D, lst ys) :: (D + 1 + 1, oK) :: news) := fun p hp => by
          rcases List.mem_cons.mp hp with rfl | hp
          · exact ⟨hst₂, Ne.symm hIL, hI₀⟩
          · refine ⟨hk₂ _ _ ?_ (N' p (List.mem_cons_of_mem _ hp)).1, (N' p (List.mem_cons_of_mem _ hp)).2⟩
            rw [List.mem_singleton]
            simp only [List.mem_cons] at hp
            rcases hp with rfl | rfl | rfl | hp
            · exact Ne.symm (Nat.ne_of_lt (Nat.lt_trans hI hDD))
            · exact Ne.symm (Nat.ne_of_lt hI)
            · exact Ne.symm (Nat.ne_of_lt (Nat.lt_trans hI hD2))
            · exact off p hp
        refine wpAny_assign_Name (wpAny_storeName_cell (c := D + 1 + 1) (hkk _ _) (hkx _ _) hlk ⟨oK, (N₂ (D + 1 + 1, oK) (List.mem_cons_of_mem _ (List.mem_cons_of_mem _ (List.mem_cons_of_mem _ List.mem_cons_self)))).1, hK⟩ fun h₃ hv₃ hs₃ => ?_)
        obtain ⟨oK', eK', dK'⟩ := hv₃
        have F₃ : Fr h₀ L h₃ m := F₂.change hs₃ (Ne.symm (Nat.ne_of_lt (Nat.lt_trans hL hD2))) hK₀
        have N₃ := News.setAt (own := [(I, _), (D + 1, _), (D, _)]) N₂ (fun p hp => by
          simp only [List.mem_cons, List.not_mem_nil, or_false] at hp
          rcases hp with rfl | rfl | rfl
          · exact Nat.ne_of_lt (Nat.lt_trans hI hD2)
          · exact Nat.ne_of_lt hD12
          · exact Nat.ne_of_lt hD2) (fun p hp => Nat.ne_of_lt (Nat.lt_trans (ltD p hp) hD2)) hs₃ eK'
        refine wpAny_tests_one ?_
        refine wpAny_mono (turn i hin t I _ (D + 1) _ D ys (D + 1 + 1) oK' h₃ _ _ dK' F₃ N₃) (fun ok s₄ h₄ => ?_) fun _ _ e => e
        obtain ⟨rfl, h₄, tk₄, rfl, F₄, N₄⟩ := h₄
        cases hb : keep i with
        | true =>
          simp only [if_true]
          refine lcf_cell N₄ hlk (List.mem_cons_of_mem _ (List.mem_cons_of_mem _ (List.mem_cons_of_mem _ List.mem_cons_self))) dK' ?_ (hkk _ _) (hkx _ _) hdx
          refine append_at (hsz := by show ys.toArray.size ≤ sizeLine; rw [List.size_toArray, ints_len hys]; exact Nat.le_trans (Nat.le_trans (keptN_len _ _) hi) hsz) (N₄ (D, lst ys) (List.mem_cons_of_mem _ (List.mem_cons_of_mem _ List.mem_cons_self))).1 fun h₅ hs₅ hD₅ => ?_
          refine ⟨n + 1 - (i + 1), by lia, h₅, tk₄, i + 1, ys ++ [.int (i : Int) t], oK', _, rfl, hin, rfl, ?_, F₄.change hs₅ (Ne.symm (Nat.ne_of_lt hL)) hD₀, ?_, dK'⟩
          · rw [keptN_succ, hb]; exact ints_snoc hys _ _
          · exact News.setAt (own := [(I, _), (D + 1, _)]) N₄ (fun p hp => by
              simp only [List.mem_cons, List.not_mem_nil, or_false] at hp
              rcases hp with rfl | rfl
              · exact Nat.ne_of_lt hI
              · exact Ne.symm (Nat.ne_of_lt hDD)) (fun p hp => by
              rcases List.mem_cons.mp hp with rfl | hp
              · exact Ne.symm (Nat.ne_of_lt hD2)
              · exact Nat.ne_of_lt (ltD p hp)) hs₅ (hD₅.trans (congrArg some (lst_snoc ys _)))
        | false =>
          simp only [Bool.false_eq_true, if_false]
          refine ⟨n + 1 - (i + 1), by lia, h₄, tk₄, i + 1, ys, oK', _, rfl, hin, rfl, ?_, F₄, N₄, dK'⟩
          rw [keptN_succ, hb]
          simpa using hys
      · obtain rfl : i = n := Nat.le_antisymm hi (Nat.not_lt.mp hin)
        refine W.done _ _ _ (N' _ List.mem_cons_self).1 fun h₂ tk₂ hk₂ => ?_
        refine hRR D (D + 1) h₂ tk₂ (fun _ => none) ys (fr_but F' hk₂ hIL hI₀) (fun p hp => ?_) (fun p hp => Nat.ne_of_lt (ltD p hp)) ?_ hC₀ hD₀ (Ne.symm (Nat.ne_of_lt (Nat.lt_trans hL hDD))) (Ne.symm (Nat.ne_of_lt hL)) (Ne.symm (Nat.ne_of_lt hDD)) (fun p hp => Nat.ne_of_lt (Nat.lt_trans (ltD p hp) hDD)) hys
        · have hp' : p ∈ (I, ({ cls := .type "range_iterator", data := .fields #[rawInt (0 + (i : Int) * 1), rawInt ((i : Int) - (i : Int)), rawInt 1] } : Obj)) :: (D + 1, ({ cls := .type "dict", data := .dict #[] } : Obj)) :: (D, lst ys) :: (D + 1 + 1, oK) :: news := by
            rcases List.mem_cons.mp hp with rfl | hp
            · exact List.mem_cons_of_mem _ (List.mem_cons_of_mem _ List.mem_cons_self)
            · exact List.mem_cons_of_mem _ (List.mem_cons_of_mem _ (List.mem_cons_of_mem _ (List.mem_cons_of_mem _ hp)))
          refine ⟨hk₂ _ _ ?_ (N' p hp').1, (N' p hp').2⟩
          rw [List.mem_singleton]
          rcases List.mem_cons.mp hp with rfl | hp
          · exact Ne.symm (Nat.ne_of_lt hI)
          · exact off p hp
        · refine ⟨_, #[], 0, hk₂ _ _ ?_ (N' (D + 1, _) (List.mem_cons_of_mem _ List.mem_cons_self)).1, rfl, fun _ he => by simp at he, fun _ => rfl⟩
          rw [List.mem_singleton]
          exact Ne.symm (Nat.ne_of_lt (Nat.lt_trans hI hDD))
    · simp only [List.mem_cons] at hp
      rcases hp with rfl | rfl | rfl | rfl | hp
      · have := N3 (I, _) (List.mem_cons_of_mem _ (List.mem_cons_of_mem _ (List.mem_cons_of_mem _ List.mem_cons_self)))
        simpa using this
      · exact N3 _ (List.mem_cons_of_mem _ List.mem_cons_self)
      · exact N3 _ (List.mem_cons_of_mem _ (List.mem_cons_of_mem _ List.mem_cons_self))
      · exact N3 _ List.mem_cons_self
      · exact N3 _ (List.mem_cons_of_mem _ (List.mem_cons_of_mem _ (List.mem_cons_of_mem _ (List.mem_cons_of_mem _ hp))))
  refine codeAny_compStart_list (loop _) (W.self 0 _ _ _ ?_ (loop _))
  have := (N3 (I, _) (List.mem_cons_of_mem _ (List.mem_cons_of_mem _ (List.mem_cons_of_mem _ List.mem_cons_self)))).1
  exact this.trans (by simp)
/-- a range at hand, and what is to be shown of the turns and of the end -/
noncomputable def SrcK (h₀ : Heap) (L : Addr) (m : Str → Option Value) (n : Nat) (Rest : List (Addr × Obj) → Shared → Prop) (xv : Value) (s₁ : Shared) : Prop :=
  ∃ r t u v news, xv = .ref r ∧ IsRange s₁.heap r 0 (n : Int) 1 t u v ∧ Fr h₀ L s₁.heap m ∧ News h₀ L s₁.heap news ∧ Rest news s₁
noncomputable def FinK (h₀ : Heap) (L : Addr) (m : Str → Option Value) (s : Shared) (y : Str) (Q : Flow → Shared → Prop) (news : List (Addr × Obj)) (ys : List Value) : Prop :=
  ∀ D h tk, Fr h₀ L h (fun z => if z = y then some (.ref D) else m z) → News h₀ L h ((D, lst ys) :: news) → (∀ p ∈ news, p.1 ≠ D) → Q .next { s with heap := h, toks := tk }
theorem Assign_ListComp_K {ct iter : PySem.Expr} {x y : Str} {px pe py : Pos} {scope : Scope} {cl : List (Str × Addr)} {pos spos : Pos} {Q : Flow → Shared → Prop} (n : Nat) (keep : Nat → Bool) (hLe : env.locals = L)
    (hsw : swapsWith (.ListComp (.Name x pe) [⟨.Name x px, iter, [ct], 0⟩] scope pos) (some (.Name y py)) spos.line env = pure true)
    (hclos : closureFor scope env = pure cl) (hkind : scope.kind = .function) (hnames : ∀ z ∈ scope.names, z.2 = .local → scope.names.lookup z.1 = some .local)
    (hy : env.kindOf y = some .local) (hp : (env.scope.kind == .class || (env.scope.kind == .module && env.locals != env.globals)) = false)
    (hh : A.handled = none) (hsz : n ≤ sizeLine) (hsm : Builtin.Range.small 0 n 1 = true) (hrs : Builtin.Range.rangeSize 0 n 1 = ((n : Nat) : Int))
    (hcells : ∀ n, cellsFrom n scope.names cl = (x, n) :: cl) (hpush : ∀ h, pushCells h scope.names = h.push { cls := .type "cell", data := .cell none })
    (hkx : ∀ c C, (compEnvC scope ((x, c) :: cl) C env).kindOf x = some .cell) (hkk : ∀ c C, (compEnvC scope ((x, c) :: cl) C env).scope.kind = .function) (hdx : (x == ("__debug__" : Str)) = false)
    (h : wpAny (model prog w) A (eval iter env) (SrcK h₀ L m n fun news s₁ =>
      (∀ i, i < n → ∀ t I oI C oC D ys c oK h tk (E' : Value → Shared → Prop), oK.data = .cell (some (.int (i : Int) t)) → Fr h₀ L h m → News h₀ L h ((I, oI) :: (C, oC) :: (D, lst ys) :: (c, oK) :: news) →
        wpAny (model prog w) A (isTrue ct (compEnvC scope ((x, c) :: cl) C env) (eval ct (compEnvC scope ((x, c) :: cl) C env))) (TestEnd h₀ L m { s₁ with heap := h, toks := tk } ((I, oI) :: (C, oC) :: (D, lst ys) :: (c, oK) :: news) (keep i)) E' { s₁ with heap := h, toks := tk }) ∧
      (∀ ys, IntsAre ys (keptN n keep) → FinK h₀ L m s₁ y Q news ys)) E s)
    (hs : ∀ x, foldedSetIterable iter env x = pure x := by intro _; rfl) :
    wpAny (model prog w) A (exec (.Assign [.Name y py] (.ListComp (.Name x pe) [⟨.Name x px, iter, [ct], 0⟩] scope pos) spos) env) Q E s := by
  subst hLe
  rw [exec_Assign_Name_used _ _ _ _ hsw]
  refine wpAny_bind (wpAny_standAt (wpAny_bind ?_))
  show wpAny _ A (do let _ ← comprehension (.ListComp (.Name x pe) [⟨.Name x px, iter, [ct], 0⟩] scope pos) scope env _ (newList []) false (eval iter env) (some (assign (.Name y py) env))) _ _ s
  refine wpAny_bind (wpAny_mono (wpAny_comprehension_free (use := some (assign (.Name y py) env)) (Q := fun _ s' => Q .next s') rfl hs hclos hkind hnames
    (wpAny_mono h (fun xv s₁ h₁ => ?_) fun _ _ e => e)) (fun _ s' hq => wpAny_pure (wpAny_pure hq)) fun _ _ e => e)
  obtain ⟨r, t, u, v, news, rfl, hr, F, N, turn, fin⟩ := h₁
  refine wpAny_pyIter_range hr hsm ?_
  rw [hrs]
  obtain ⟨F1, N1⟩ := news_push (o := { cls := .type "range_iterator", data := .fields #[rawInt 0, rawInt (n : Int), rawInt 1] }) F N rfl
  refine block_K keep hh hsz hcells hpush hkx hkk hdx F1 N1 (fun p hp => Nat.ne_of_lt (Heap.lt_size (N p hp).1)) turn ?_
  intro D C h' tk m' ys F' N' offD hn hC₀ hD₀ hCL hDL hCD offC hI
  show wpAny _ A (assign (.Name y py) env (.ref D)) _ _ _
  refine wpAny_assign_Name (wpAny_storeName_local hy F'.ns (fun h₂ hn₂ hs₂ => ?_) hp)
  have hL₀ : h₀.get? env.locals = none := Heap.get?_none_of_le F'.above
  have F₂ : Fr h₀ env.locals h₂ (fun z => if z = y then some (.ref D) else m z) := ⟨hn₂, fun b o e => hs₂.extBut b o (fun q => by rw [q, hL₀] at e; cases e) (F'.keep b o e), F'.above⟩
  refine ⟨m', hn.sameBut hs₂ hCL, fun h'' hs'' => fin ys hI D h'' _ (F₂.change hs'' hCL hC₀) (fun p hp => ?_) offD⟩
  have z : h₂.get? p.1 = some p.2 := hs₂.extBut _ _ (N' p hp).2.1 (N' p hp).1
  refine ⟨hs''.extBut _ _ ?_ z, (N' p hp).2⟩
  rcases List.mem_cons.mp hp with rfl | hp
  · exact Ne.symm hCD
  · exact offC p hp
end
end Mine
namespace Mine
open PySem PySem.W PySem.Calls PyProof.Rows PySem.Spec PyProof.Rows.LCg PyProof.Rows.LCt
noncomputable abbrev two (elt : PySem.Expr) (x1 : Str) (p1 : Pos) (it1 : PySem.Expr) (x2 : Str) (p2 : Pos) (it2 ct : PySem.Expr) (scope : Scope) (pos : Pos) : PySem.Expr :=
  .ListComp elt [⟨.Name x1 p1, it1, [], 0⟩, ⟨.Name x2 p2, it2, [ct], 0⟩] scope pos
theorem compTurn_two0 (elt : PySem.Expr) (x1 : Str) (p1 : Pos) (it1 : PySem.Expr) (x2 : Str) (p2 : Pos) (it2 ct : PySem.Expr) (scope : Scope) (pos : Pos) (it acc : Value) (env : Env) :
    compTurn (two elt x1 p1 it1 x2 p2 it2 ct scope pos) 0 it acc env = (do
      standAt it1.pos
      match ← pyNext it with
      | none => pure (.done .next)
      | some v =>
        letOwnedTupleGo (.Name x1 p1) it v
        assign (.Name x1 p1) env v
        let x ← eval it2 env
        standAt it2.pos
        let x ← foldedSetIterable it2 env x
        let _ ← runOwn (.compStart (two elt x1 p1 it1 x2 p2 it2 ct scope pos) 1 (← holding [x] (pyIter x)) acc env) env
        again (.compLoop (two elt x1 p1 it1 x2 p2 it2 ct scope pos) 0 it acc env)) := by rfl
theorem compTurn_two1 (elt : PySem.Expr) (x1 : Str) (p1 : Pos) (it1 : PySem.Expr) (x2 : Str) (p2 : Pos) (it2 ct : PySem.Expr) (scope : Scope) (pos : Pos) (it acc : Value) (env : Env) :
    compTurn (two elt x1 p1 it1 x2 p2 it2 ct scope pos) 1 it acc env = (do
      standAt it2.pos
      match ← pyNext it with
      | none => pure (.done .next)
      | some v =>
        letOwnedTupleGo (.Name x2 p2) it v
        assign (.Name x2 p2) env v
        let mut ok := true
        for c in [ct] do
          if ok then ok ← isTrue c env (eval c env)
        if ok then
          (do let _ ← call (.builtin "list.append") [acc, ← eval elt env])
        again (.compLoop (two elt x1 p1 it1 x2 p2 it2 ct scope pos) 1 it acc env)) := by rfl
section
variable {prog : Program} {w : World} {A : Around} {E : Value → Shared → Prop} {s : Shared} {h₀ : Heap} {L : Addr} {m : Str → Option Value} {env : Env} {R : Result → Shared → Prop}
theorem loop_two1 {elt : PySem.Expr} {x1 : Str} {p1 : Pos} {it1 : PySem.Expr} {x2 : Str} {p2 : Pos} {it2 ct : PySem.Expr} {scope : Scope} {pos : Pos} {it acc : Value} {env : Env} (I : Nat → Shared → Prop)
    (turn : ∀ n s, I n s → wpAny (model prog w) A (pyNext it) (fun r s₁ => match r with
      | none => R (.ok .next) s₁
      | some v => wpAny (model prog w) A (assign (.Name x2 p2) env v) (fun _ s₂ =>
          wpAny (model prog w) A (isTrue ct env (eval ct env)) (fun ok s₃ =>
            if ok = true then wpAny (model prog w) A (eval elt env) (fun x s₄ =>
              wpAny (model prog w) A (call (.builtin "list.append") [acc, x]) (fun _ s₅ => ∃ m, m < n ∧ I m s₅) (notedBy (model prog w) A env fun e s' => R (.error e) s') s₄) (notedBy (model prog w) A env fun e s' => R (.error e) s') s₃
            else ∃ m, m < n ∧ I m s₃) (notedBy (model prog w) A env fun e s' => R (.error e) s') s₂) (notedBy (model prog w) A env fun e s' => R (.error e) s') s₁) (notedBy (model prog w) A env fun e s' => R (.error e) s') s)
    (n : Nat) (h : I n s) :
    codeAny (model prog w) A (.compLoop (two elt x1 p1 it1 x2 p2 it2 ct scope pos) 1 it acc env) R s := by
  refine codeAny_loop rfl I (fun n s hI => ?_) n h
  show wpAny _ A ((compTurn (two elt x1 p1 it1 x2 p2 it2 ct scope pos) 1 it acc env).onRaise (fun x => do noteFrame x env; theTreesLotGoes x)) _ _ s
  refine wpAny_noted ?_
  rw [compTurn_two1]
  refine wpAny_bind (wpAny_standAt (wpAny_bind (wpAny_mono (turn n s hI) (fun r s₁ h₁ => ?_) fun _ _ h' => h')))
  cases r with
  | none => exact wpAny_pure h₁
  | some v =>
    refine wpAny_bind (wpAny_of_eq (show letOwnedTupleGo (.Name x2 p2) it v = pure () from rfl) ?_)
    refine wpAny_bind (wpAny_mono h₁ (fun _ s₂ h₂ => wpAny_bind (wpAny_mono (wpAny_tests_one h₂) (fun ok s₃ h₃ => ?_) fun _ _ h' => h')) fun _ _ h' => h')
    cases ok with
    | false => exact wpAny_pure ⟨rfl, h₃⟩
    | true =>
      exact wpAny_bind (wpAny_bind (wpAny_mono h₃ (fun x s₄ h₄ => wpAny_bind (wpAny_mono h₄ (fun _ s₅ h₅ => wpAny_pure (wpAny_pure ⟨rfl, h₅⟩)) fun _ _ h' => h')) fun _ _ h' => h'))
theorem start_two1 {elt : PySem.Expr} {x1 : Str} {p1 : Pos} {it1 : PySem.Expr} {x2 : Str} {p2 : Pos} {it2 ct : PySem.Expr} {scope : Scope} {pos : Pos} {it acc : Value} {env : Env}
    (h0 : codeAny (model prog w) A (.compLoop (two elt x1 p1 it1 x2 p2 it2 ct scope pos) 1 it acc env) R s)
    (h : wpAny (model prog w) A (pyIter it) (fun it' s' => codeAny (model prog w) A (.compLoop (two elt x1 p1 it1 x2 p2 it2 ct scope pos) 1 it' acc env) R s')
      (notedBy (model prog w) A env fun x s' => R (.error x) s') s) :
    codeAny (model prog w) A (.compStart (two elt x1 p1 it1 x2 p2 it2 ct scope pos) 1 it acc env) R s := by
  refine codeAny_of_tree ?_
  show wpAny _ _ ((compStart (two elt x1 p1 it1 x2 p2 it2 ct scope pos) 1 it acc env).onRaise (fun x => do noteFrame x env; standAt theWindowsPlace)) _ _ s
  refine wpAny_notedAt ?_
  unfold compStart
  show wpAny _ _ (ask >>= _) _ _ s
  refine wpAny_bind (wpAny_askSetting (wpAny_ite ?_))
  split
  · first
      | exact wpAny_bind (wpAny_pure (wpAny_pure (And.intro rfl h0)))
      | exact wpAny_pure (And.intro rfl h0)
  · first
      | exact wpAny_bind (wpAny_rule (wpAny_bind (wpAny_standAt (wpAny_bind (wpAny_mono h (fun it' s' h' => wpAny_pure (And.intro rfl h')) fun _ _ x => x)))))
      | (refine wpAny_bind (wpAny_rule ?_); show wpAny _ _ (standAt it2.pos >>= _) _ _ s; exact wpAny_bind (wpAny_standAt (wpAny_bind (wpAny_mono h (fun it' s' h' => wpAny_pure (And.intro rfl h')) fun _ _ x => x))))
theorem loop_two0 {elt : PySem.Expr} {x1 : Str} {p1 : Pos} {it1 : PySem.Expr} {x2 : Str} {p2 : Pos} {it2 ct : PySem.Expr} {scope : Scope} {pos : Pos} {it acc : Value} {env : Env} (I : Nat → Shared → Prop)
    (hs : ∀ x, foldedSetIterable it2 env x = pure x)
    (turn : ∀ n s, I n s → wpAny (model prog w) A (pyNext it) (fun r s₁ => match r with
      | none => R (.ok .next) s₁
      | some v => wpAny (model prog w) A (assign (.Name x1 p1) env v) (fun _ s₂ =>
          wpAny (model prog w) A (eval it2 env) (fun xv s₃ => wpAny (model prog w) A (pyIter xv) (fun it' s₄ =>
            codeAny (model prog w) A (.compStart (two elt x1 p1 it1 x2 p2 it2 ct scope pos) 1 it' acc env) (fun r s₅ => match r with | .ok _ => ∃ m, m < n ∧ I m s₅ | .error e => cameBackBy (model prog w) A env (notedBy (model prog w) A env fun e s' => R (.error e) s') e s₅) s₄)
            (notedBy (model prog w) A env fun e s' => R (.error e) s') s₃) (notedBy (model prog w) A env fun e s' => R (.error e) s') s₂) (notedBy (model prog w) A env fun e s' => R (.error e) s') s₁) (notedBy (model prog w) A env fun e s' => R (.error e) s') s)
    (n : Nat) (h : I n s) :
    codeAny (model prog w) A (.compLoop (two elt x1 p1 it1 x2 p2 it2 ct scope pos) 0 it acc env) R s := by
  refine codeAny_loop rfl I (fun n s hI => ?_) n h
  show wpAny _ A ((compTurn (two elt x1 p1 it1 x2 p2 it2 ct scope pos) 0 it acc env).onRaise (fun x => do noteFrame x env; theTreesLotGoes x)) _ _ s
  refine wpAny_noted ?_
  rw [compTurn_two0]
  refine wpAny_bind (wpAny_standAt (wpAny_bind (wpAny_mono (turn n s hI) (fun r s₁ h₁ => ?_) fun _ _ h' => h')))
  cases r with
  | none => exact wpAny_pure h₁
  | some v =>
    refine wpAny_bind (wpAny_of_eq (show letOwnedTupleGo (.Name x1 p1) it v = pure () from rfl) ?_)
    refine wpAny_bind (wpAny_mono h₁ (fun _ s₂ h₂ => wpAny_bind (wpAny_mono h₂ (fun xv s₃ h₃ => ?_) fun _ _ h' => h')) fun _ _ h' => h')
    refine wpAny_bind (wpAny_standAt (wpAny_bind (wpAny_of_eq (hs xv) (wpAny_bind (wpAny_holding (wpAny_mono h₃ (fun it' s₄ h₄ => ?_) fun _ _ h' => h'))))))
    exact wpAny_bind (wpAny_runOwn (codeAny_mono h₄ (fun r s₅ h₅ => by
      cases r with
      | ok f => exact wpAny_pure ⟨rfl, h₅⟩
      | error e => exact h₅)))
/-- what the two clauses give -/
noncomputable def twoN (is : List Nat) (n : Nat) (keep : Nat → Nat → Bool) (img : Nat → Nat → Str) : List Str := is.flatMap fun i => ((List.range n).filter (keep i)).map (img i)
noncomputable def EltEnd (h₀ : Heap) (L : Addr) (m : Str → Option Value) (s : Shared) (led : List (Addr × Obj)) (y : Str) (v : Value) (s' : Shared) : Prop :=
  (∃ t, v = .str y t) ∧ ∃ h' tk', s' = { s with heap := h', toks := tk' } ∧ Fr h₀ L h' m ∧ News h₀ L h' led
theorem EltEnd.intro {s : Shared} {led all : List (Addr × Obj)} {y : Str} {t : Tok} {h' : Heap} {tk' : Nat} (F : Fr h₀ L h' m) (N : News h₀ L h' all) (sub : ∀ p ∈ led, p ∈ all) :
    EltEnd h₀ L m s led y (.str y t) { s with heap := h', toks := tk' } := ⟨⟨t, rfl⟩, h', tk', rfl, F, fun p hp => N p (sub p hp)⟩
theorem sv_len (l : List (Str × Tok)) : (strValues l).length = l.length := by
  unfold strValues
  simp
theorem sv_snoc (l : List (Str × Tok)) (y : Str) (t : Tok) : strValues l ++ [.str y t] = strValues (l ++ [(y, t)]) := by
  unfold strValues
  simp
theorem inner_two {elt : PySem.Expr} {x1 : Str} {p1 : Pos} {it1 : PySem.Expr} {x2 : Str} {p2 : Pos} {it2 ct : PySem.Expr} {scope : Scope} {cl : List (Str × Addr)} {pos : Pos} {I J C D : Addr} {oI oC : Obj} {n i : Nat} {t1 : Tok} {mC : Str → Option Value} {l : List (Str × Tok)} {news : List (Addr × Obj)} {h : Heap} {tk : Nat}
    (keep : Nat → Nat → Bool) (img : Nat → Nat → Str) (hh : A.handled = none) (hsz : l.length + n ≤ sizeLine) (hkind : scope.kind = .function) (hx2 : scope.names.lookup x2 = some .local) (h12 : x1 ≠ x2)
    (hC : NsObj oC mC) (h1 : mC x1 = some (.int (i : Int) t1)) (F : Fr h₀ L h m)
    (N : News h₀ L h ((I, oI) :: (J, { cls := .type "range_iterator", data := .fields #[rawInt 0, rawInt (n : Int), rawInt 1] }) :: (C, oC) :: (D, lst (strValues l)) :: news))
    (ltI : ∀ p ∈ news, p.1 < I) (hID : I < D) (hDC : D < C) (hCJ : C < J)
    (turn : ∀ k, k < n → ∀ t2 oJ oC m₂ ys h tk (E' : Value → Shared → Prop), NsObj oC m₂ → m₂ x1 = some (.int (i : Int) t1) → m₂ x2 = some (.int (k : Int) t2) → Fr h₀ L h m → News h₀ L h ((I, oI) :: (J, oJ) :: (C, oC) :: (D, lst ys) :: news) →
      wpAny (model prog w) A (isTrue ct (compEnvC scope cl C env) (eval ct (compEnvC scope cl C env))) (TestEnd h₀ L m { s with heap := h, toks := tk } ((I, oI) :: (J, oJ) :: (C, oC) :: (D, lst ys) :: news) (keep i k)) E' { s with heap := h, toks := tk })
    (telt : ∀ k, k < n → ∀ t2 oJ oC m₂ ys h tk (E' : Value → Shared → Prop), NsObj oC m₂ → m₂ x1 = some (.int (i : Int) t1) → m₂ x2 = some (.int (k : Int) t2) → Fr h₀ L h m → News h₀ L h ((I, oI) :: (J, oJ) :: (C, oC) :: (D, lst ys) :: news) →
      wpAny (model prog w) A (eval elt (compEnvC scope cl C env)) (EltEnd h₀ L m { s with heap := h, toks := tk } ((I, oI) :: (J, oJ) :: (C, oC) :: (D, lst ys) :: news) (img i k)) E' { s with heap := h, toks := tk })
    (hdone : ∀ h' tk' oC' mC' l', NsObj oC' mC' → Fr h₀ L h' m → News h₀ L h' ((I, oI) :: (C, oC') :: (D, lst (strValues l')) :: news) → l'.map (·.1) = l.map (·.1) ++ ((List.range n).filter (keep i)).map (img i) → R (.ok .next) { s with heap := h', toks := tk' }) :
    codeAny (model prog w) A (.compLoop (two elt x1 p1 it1 x2 p2 it2 ct scope pos) 1 (.ref J) (.ref D) (compEnvC scope cl C env)) R { s with heap := h, toks := tk } := by
  have W := range_walks (prog := prog) (w := w) (I := J) hh 0 n
  have hDJ : D < J := Nat.lt_trans hDC hCJ
  have hIC : I < C := Nat.lt_trans hID hDC
  have hIJ : I < J := Nat.lt_trans hID hDJ
  have hJ₀ := (N (J, _) (List.mem_cons_of_mem _ List.mem_cons_self)).2.2
  have hC₀ := (N (C, oC) (List.mem_cons_of_mem _ (List.mem_cons_of_mem _ List.mem_cons_self))).2.2
  have hD₀ := (N (D, _) (List.mem_cons_of_mem _ (List.mem_cons_of_mem _ (List.mem_cons_of_mem _ List.mem_cons_self)))).2.2
  have hJL := (N (J, _) (List.mem_cons_of_mem _ List.mem_cons_self)).2.1
  have hCL := (N (C, oC) (List.mem_cons_of_mem _ (List.mem_cons_of_mem _ List.mem_cons_self))).2.1
  have hDL := (N (D, _) (List.mem_cons_of_mem _ (List.mem_cons_of_mem _ (List.mem_cons_of_mem _ List.mem_cons_self)))).2.1
  dsimp only at hJ₀ hC₀ hD₀ hJL hCL hDL
  refine loop_two1
    (fun q s' => ∃ (h' : Heap) (tk k : Nat) (l' : List (Str × Tok)) (oC' : Obj) (mC' : Str → Option Value), s' = { s with heap := h', toks := tk } ∧ k ≤ n ∧ q = n + 1 - k ∧ l'.map (·.1) = l.map (·.1) ++ ((List.range k).filter (keep i)).map (img i) ∧ l'.length ≤ l.length + k ∧
      NsObj oC' mC' ∧ mC' x1 = some (.int (i : Int) t1) ∧ Fr h₀ L h' m ∧
      News h₀ L h' ((I, oI) :: (J, { cls := .type "range_iterator", data := .fields #[rawInt (0 + (k : Int) * 1), rawInt ((n : Int) - (k : Int)), rawInt 1] }) :: (C, oC') :: (D, lst (strValues l')) :: news)) ?_ (n + 1)
    ⟨h, tk, 0, l, oC, mC, rfl, Nat.zero_le _, rfl, by simp, Nat.le_refl _, hC, h1, F, by simpa using N⟩
  rintro q s' ⟨h', tk, k, l', oC', mC', rfl, hk, rfl, hl', hll, hC', h1', F', N'⟩
  by_cases hkn : k < n
  · refine W.item k _ _ _ hkn (N' _ (List.mem_cons_of_mem _ List.mem_cons_self)).1 fun v h₂ tk₂ hPv hst₂ hk₂ => ?_
    obtain ⟨t, rfl⟩ := hPv
    rw [Int.zero_add]
    have F₂ : Fr h₀ L h₂ m := fr_but F' hk₂ (Ne.symm hJL) hJ₀
    have N₂ : News h₀ L h₂ ((I, oI) :: (J, { cls := .type "range_iterator", data := .fields #[rawInt (0 + ((k + 1 : Nat) : Int) * 1), rawInt ((n : Int) - ((k + 1 : Nat) : Int)), rawInt 1] }) :: (C, oC') :: (D, lst (strValues l')) :: news) := fun p hp => by
      simp only [List.mem_cons] at hp
      rcases hp with rfl | rfl | rfl | rfl | hp
      · exact ⟨hk₂ _ _ (by rw [List.mem_singleton]; exact Nat.ne_of_lt hIJ) (N' _ List.mem_cons_self).1, (N' (I, oI) List.mem_cons_self).2⟩
      · exact ⟨hst₂, hJL, hJ₀⟩
      · have z := N' (C, oC') (List.mem_cons_of_mem _ (List.mem_cons_of_mem _ List.mem_cons_self))
        exact ⟨hk₂ _ _ (by rw [List.mem_singleton]; exact Nat.ne_of_lt hCJ) z.1, z.2⟩
      · have z := N' (D, lst (strValues l')) (List.mem_cons_of_mem _ (List.mem_cons_of_mem _ (List.mem_cons_of_mem _ List.mem_cons_self)))
        exact ⟨hk₂ _ _ (by rw [List.mem_singleton]; exact Nat.ne_of_lt hDJ) z.1, z.2⟩
      · have z := N' p (List.mem_cons_of_mem _ (List.mem_cons_of_mem _ (List.mem_cons_of_mem _ (List.mem_cons_of_mem _ hp))))
        exact ⟨hk₂ _ _ (by rw [List.mem_singleton]; exact Nat.ne_of_lt (Nat.lt_trans (ltI p hp) hIJ)) z.1, z.2⟩
    have nsC : h₂.Ns C mC' := hC'.ns (N₂ (C, oC') (List.mem_cons_of_mem _ (List.mem_cons_of_mem _ List.mem_cons_self))).1
    refine wpAny_assign_Name (wpAny_storeName_local (lookup_relabel_local hx2) nsC (fun h₃ hn₃ hs₃ => ?_) (by simp [compEnvC, relabel, hkind]))
    obtain ⟨oC₃, eC₃, hC₃⟩ := ns_obj hn₃
    have hs₃' : Heap.SameBut C h₂ h₃ := hs₃
    have F₃ : Fr h₀ L h₃ m := F₂.change hs₃' hCL hC₀
    have N₃ := News.setAt (own := [(I, oI), (J, _)]) N₂ (fun p hp => by
      simp only [List.mem_cons, List.not_mem_nil, or_false] at hp
      rcases hp with rfl | rfl
      · exact Nat.ne_of_lt hIC
      · exact Ne.symm (Nat.ne_of_lt hCJ)) (fun p hp => by
      rcases List.mem_cons.mp hp with rfl | hp
      · exact Nat.ne_of_lt hDC
      · exact Nat.ne_of_lt (Nat.lt_trans (ltI p hp) hIC)) hs₃' eC₃
    refine wpAny_mono (turn k hkn t _ oC₃ _ _ h₃ _ _ hC₃ (by simp [h12, h1']) (by simp) F₃ N₃) (fun ok s₄ h₄ => ?_) fun _ _ e => e
    obtain ⟨rfl, h₄, tk₄, rfl, F₄, N₄⟩ := h₄
    cases hb : keep i k with
    | true =>
      simp only [if_true]
      refine wpAny_mono (telt k hkn t _ oC₃ _ _ h₄ _ _ hC₃ (by simp [h12, h1']) (by simp) F₄ N₄) (fun y s₅ h₅ => ?_) fun _ _ e => e
      obtain ⟨⟨ty, rfl⟩, h₅, tk₅, rfl, F₅, N₅⟩ := h₅
      refine append_at (hsz := by show (strValues l').toArray.size ≤ sizeLine; rw [List.size_toArray, sv_len]; lia) (N₅ (D, lst (strValues l')) (List.mem_cons_of_mem _ (List.mem_cons_of_mem _ (List.mem_cons_of_mem _ List.mem_cons_self)))).1 fun h₆ hs₆ hD₆ => ?_
      refine ⟨n + 1 - (k + 1), by lia, h₆, tk₅, k + 1, l' ++ [(img i k, ty)], oC₃, _, rfl, hkn, rfl, ?_, by simp; lia, hC₃, by simp [h12, h1'], F₅.change hs₆ hDL hD₀, ?_⟩
      · rw [List.map_append, hl', List.range_succ, List.filter_append, List.map_append, List.append_assoc]
        simp [hb]
      · refine News.setAt (own := [(I, oI), (J, _), (C, _)]) N₅ (fun p hp => by
          simp only [List.mem_cons, List.not_mem_nil, or_false] at hp
          rcases hp with rfl | rfl | rfl
          · exact Nat.ne_of_lt hID
          · exact Ne.symm (Nat.ne_of_lt hDJ)
          · exact Ne.symm (Nat.ne_of_lt hDC)) (fun p hp => Nat.ne_of_lt (Nat.lt_trans (ltI p hp) hID)) hs₆ (hD₆.trans ?_)
        rw [← sv_snoc]
        exact congrArg some (lst_snoc (strValues l') _)
    | false =>
      simp only [Bool.false_eq_true, if_false]
      refine ⟨n + 1 - (k + 1), by lia, h₄, tk₄, k + 1, l', oC₃, _, rfl, hkn, rfl, ?_, by lia, hC₃, by simp [h12, h1'], F₄, N₄⟩
      rw [hl', List.range_succ, List.filter_append]
      simp [hb]
  · obtain rfl : k = n := Nat.le_antisymm hk (Nat.not_lt.mp hkn)
    refine W.done _ _ _ (N' _ (List.mem_cons_of_mem _ List.mem_cons_self)).1 fun h₂ tk₂ hk₂ => ?_
    refine hdone h₂ tk₂ oC' mC' l' hC' (fr_but F' hk₂ (Ne.symm hJL) hJ₀) (fun p hp => ?_) hl'
    simp only [List.mem_cons] at hp
    rcases hp with rfl | rfl | rfl | hp
    · have z := N' (I, oI) List.mem_cons_self
      exact ⟨hk₂ _ _ (by rw [List.mem_singleton]; exact Nat.ne_of_lt hIJ) z.1, z.2⟩
    · have z := N' (C, oC') (List.mem_cons_of_mem _ (List.mem_cons_of_mem _ List.mem_cons_self))
      exact ⟨hk₂ _ _ (by rw [List.mem_singleton]; exact Nat.ne_of_lt hCJ) z.1, z.2⟩
    · have z := N' (D, lst (strValues l')) (List.mem_cons_of_mem _ (List.mem_cons_of_mem _ (List.mem_cons_of_mem _ List.mem_cons_self)))
      exact ⟨hk₂ _ _ (by rw [List.mem_singleton]; exact Nat.ne_of_lt hDJ) z.1, z.2⟩
    · have z := N' p (List.mem_cons_of_mem _ (List.mem_cons_of_mem _ (List.mem_cons_of_mem _ (List.mem_cons_of_mem _ hp))))
      exact ⟨hk₂ _ _ (by rw [List.mem_singleton]; exact Nat.ne_of_lt (Nat.lt_trans (ltI p hp) hIJ)) z.1, z.2⟩
noncomputable def lit (ax : Addr) (i : Nat) : Obj := { cls := .type "list_iterator", data := .fields #[.ref ax, .int (i : Int) 0] }
theorem block_two {elt : PySem.Expr} {x1 : Str} {p1 : Pos} {it1 : PySem.Expr} {x2 : Str} {p2 : Pos} {it2 ct : PySem.Expr} {scope : Scope} {cl : List (Str × Addr)} {pos : Pos} {s₂ : Shared} {I ax : Addr} {its : Array Value} {cnt : Nat} {is : List Nat} {n : Nat} {news : List (Addr × Obj)} {oI₀ : Obj} {RR : Value → Addr → Result → Shared → Prop}
    (keep : Nat → Nat → Bool) (img : Nat → Nat → Str) (hh : A.handled = none) (hsz : is.length * n ≤ sizeLine) (hits : its.size = is.length) (hitv : ∀ (i : Nat) v, its[i]? = some v → ∃ a t, is[i]? = some a ∧ v = .int (a : Int) t)
    (hcell : ∀ y ∈ scope.names, y.2 ≠ .cell) (hkind : scope.kind = .function) (hx1 : scope.names.lookup x1 = some .local) (hx2 : scope.names.lookup x2 = some .local) (h12 : x1 ≠ x2)
    (hax : (ax, listOf its cnt) ∈ news) (F : Fr h₀ L s₂.heap m) (N : News h₀ L s₂.heap ((I, oI₀) :: news)) (hI0 : s₂.heap.IsListIter I ax 0) (ltI : ∀ p ∈ news, p.1 < I)
    (hs : ∀ C x, foldedSetIterable it2 (compEnvC scope cl C env) x = pure x) (hsm : Builtin.Range.small 0 n 1 = true) (hrs : Builtin.Range.rangeSize 0 n 1 = ((n : Nat) : Int))
    (hit2 : ∀ C oC m₂ led h tk (Qv E' : Value → Shared → Prop), NsObj oC m₂ → Fr h₀ L h m → News h₀ L h ((C, oC) :: led) → (∀ r t u v h' tk', IsRange h' r 0 (n : Int) 1 t u v → Fr h₀ L h' m → (∀ b o, h.get? b = some o → h'.get? b = some o) → Qv (.ref r) { s₂ with heap := h', toks := tk' }) →
      wpAny (model prog w) A (eval it2 (compEnvC scope cl C env)) Qv E' { s₂ with heap := h, toks := tk })
    (turn : ∀ i k, i ∈ is → k < n → ∀ t1 t2 I oI J oJ C oC D m₂ ys h tk (E' : Value → Shared → Prop), NsObj oC m₂ → m₂ x1 = some (.int (i : Int) t1) → m₂ x2 = some (.int (k : Int) t2) → Fr h₀ L h m → News h₀ L h ((I, oI) :: (J, oJ) :: (C, oC) :: (D, lst ys) :: news) →
      wpAny (model prog w) A (isTrue ct (compEnvC scope cl C env) (eval ct (compEnvC scope cl C env))) (TestEnd h₀ L m { s₂ with heap := h, toks := tk } ((I, oI) :: (J, oJ) :: (C, oC) :: (D, lst ys) :: news) (keep i k)) E' { s₂ with heap := h, toks := tk })
    (telt : ∀ i k, i ∈ is → k < n → ∀ t1 t2 I oI J oJ C oC D m₂ ys h tk (E' : Value → Shared → Prop), NsObj oC m₂ → m₂ x1 = some (.int (i : Int) t1) → m₂ x2 = some (.int (k : Int) t2) → Fr h₀ L h m → News h₀ L h ((I, oI) :: (J, oJ) :: (C, oC) :: (D, lst ys) :: news) →
      wpAny (model prog w) A (eval elt (compEnvC scope cl C env)) (EltEnd h₀ L m { s₂ with heap := h, toks := tk } ((I, oI) :: (J, oJ) :: (C, oC) :: (D, lst ys) :: news) (img i k)) E' { s₂ with heap := h, toks := tk })
    (hRR : ∀ D C h tk m' l, Fr h₀ L h m → News h₀ L h ((D, lst (strValues l)) :: news) → (∀ p ∈ news, p.1 ≠ D) → h.Ns C m' → h₀.get? C = none → h₀.get? D = none → C ≠ L → D ≠ L → C ≠ D → (∀ p ∈ news, p.1 ≠ C) → l.map (·.1) = twoN is n keep img → RR (.ref D) C (.ok .next) { s₂ with heap := h, toks := tk }) :
    wpAny (model prog w) A (newList []) (fun acc s₃ => wpAny (model prog w) A (newFunctionEnv scope env.globals cl [] env.qual none .none (some env)) (fun cenv s₄ =>
      codeAny (model prog w) A (.compStart (two elt x1 p1 it1 x2 p2 it2 ct scope pos) 0 (.ref I) acc { cenv with scope := relabel scope env }) (RR acc cenv.locals) s₄) E s₃) E s₂ := by
  refine wpAny_newObj_type (wpAny_newFunctionEnv hcell (by intro y hy; simp at hy) (fun h₁ hns₁ hsb₁ => ?_) hkind)
  dsimp only at hns₁ hsb₁ ⊢
  have hI : I < s₂.heap.objs.size := Heap.lt_size (N _ List.mem_cons_self).1
  obtain ⟨F1, N1⟩ := news_push (o := lst []) F N rfl
  obtain ⟨F2, N2⟩ := news_push (o := { cls := .type "dict", data := .dict #[] }) F1 N1 rfl
  simp only [Heap.size_push] at N2 hns₁ hsb₁ ⊢
  generalize hD : s₂.heap.objs.size = D at *
  have hDD : D < D + 1 := Nat.lt_succ_self _
  have hC₀ := (N2 _ List.mem_cons_self).2.2
  have hCL := (N2 _ List.mem_cons_self).2.1
  have hD₀ := (N2 _ (List.mem_cons_of_mem _ List.mem_cons_self)).2.2
  have hDL := (N2 _ (List.mem_cons_of_mem _ List.mem_cons_self)).2.1
  have hI₀ := (N2 _ (List.mem_cons_of_mem _ (List.mem_cons_of_mem _ List.mem_cons_self))).2.2
  have hIL := (N2 _ (List.mem_cons_of_mem _ (List.mem_cons_of_mem _ List.mem_cons_self))).2.1
  dsimp only at hC₀ hD₀ hI₀ hCL hDL hIL
  have hIC : I < D + 1 := Nat.lt_trans hI hDD
  have offC : ∀ p ∈ (D, lst []) :: (I, oI₀) :: news, p.1 ≠ D + 1 := fun p hp => by
    simp only [List.mem_cons] at hp
    rcases hp with rfl | rfl | hp
    · exact Nat.ne_of_lt hDD
    · exact Nat.ne_of_lt hIC
    · exact Nat.ne_of_lt (Nat.lt_trans (ltI p hp) hIC)
  have F₁ : Fr h₀ L h₁ m := F2.change hsb₁ hCL hC₀
  obtain ⟨oC, eC, hoC⟩ := ns_obj hns₁
  have N₁ : News h₀ L h₁ ((I, oI₀) :: (D + 1, oC) :: (D, lst []) :: news) := fun p hp => by
    have up : ∀ p ∈ (D, lst []) :: (I, oI₀) :: news, h₁.get? p.1 = some p.2 ∧ p.1 ≠ L ∧ h₀.get? p.1 = none := fun p hp => by
      have z := N2 p (List.mem_cons_of_mem _ hp)
      exact ⟨hsb₁.extBut _ _ (offC p hp) z.1, z.2⟩
    simp only [List.mem_cons] at hp
    rcases hp with rfl | rfl | rfl | hp
    · exact up _ (List.mem_cons_of_mem _ List.mem_cons_self)
    · exact ⟨eC, hCL, hC₀⟩
    · exact up _ List.mem_cons_self
    · exact up _ (List.mem_cons_of_mem _ (List.mem_cons_of_mem _ hp))
  have hneA : ax ≠ I := Nat.ne_of_lt (ltI _ hax)
  have W := Walks.list (prog := prog) (w := w) (A := A) hh I ax hneA its
  have stOf : ∀ (h' : Heap) (a : Nat) (oI : Obj) (led : List (Addr × Obj)), News h₀ L h' ((I, oI) :: led) → (∀ p ∈ news, p ∈ led) → (∀ h : Heap, h.get? I = some oI → h.IsListIter I ax a) → (h'.IsListIter I ax a ∧ h'.IsList ax its) := fun h' a oI led N' hsub hI' =>
    ⟨hI' _ (N' _ List.mem_cons_self).1, ⟨_, (N' _ (List.mem_cons_of_mem _ (hsub _ hax))).1, rfl, _, rfl⟩⟩
  have loop : ∀ tk', codeAny (model prog w) A (.compLoop (two elt x1 p1 it1 x2 p2 it2 ct scope pos) 0 (.ref I) (.ref D) (compEnvC scope cl (D + 1) env)) (RR (.ref D) (D + 1)) { s₂ with heap := h₁, toks := tk' } := by
    intro tk'
    refine loop_two0
      (fun q s' => ∃ (h' : Heap) (tk a : Nat) (l : List (Str × Tok)) (oI oC : Obj) (mC : Str → Option Value), s' = { s₂ with heap := h', toks := tk } ∧ a ≤ is.length ∧ q = is.length + 1 - a ∧ l.map (·.1) = twoN (is.take a) n keep img ∧ l.length ≤ a * n ∧ NsObj oC mC ∧ Fr h₀ L h' m ∧
        (∀ h : Heap, h.get? I = some oI → h.IsListIter I ax a) ∧ News h₀ L h' ((I, oI) :: (D + 1, oC) :: (D, lst (strValues l)) :: news)) (hs _) ?_ (is.length + 1)
      ⟨h₁, tk', 0, [], oI₀, oC, _, rfl, Nat.zero_le _, rfl, rfl, Nat.zero_le _, hoC, F₁, fun h e => ?_, N₁⟩
    · rintro q s' ⟨h', tk, a, l, oI, oC', mC, rfl, ha, rfl, hl, hll, hC', F', hit, N'⟩
      by_cases han : a < is.length
      · refine W.item a _ _ _ (by rw [hits]; exact han) (stOf h' a oI _ N' (fun p hp => List.mem_cons_of_mem _ (List.mem_cons_of_mem _ hp)) hit) fun v h₂ tk₂ hPv hst₂ hk₂ => ?_
        obtain ⟨i, t1, hi, rfl⟩ := hitv a v hPv
        have hmem : i ∈ is := List.mem_of_getElem? hi
        have F₂ : Fr h₀ L h₂ m := fr_but F' hk₂ (Ne.symm hIL) hI₀
        obtain ⟨⟨oI₂, eI₂, cI₂, dI₂⟩, _⟩ := hst₂
        have N₂ : News h₀ L h₂ ((I, oI₂) :: (D + 1, oC') :: (D, lst (strValues l)) :: news) := fun p hp => by
          simp only [List.mem_cons] at hp
          rcases hp with rfl | rfl | rfl | hp
          · exact ⟨eI₂, hIL, hI₀⟩
          · have z := N' (D + 1, oC') (List.mem_cons_of_mem _ List.mem_cons_self)
            exact ⟨hk₂ _ _ (by rw [List.mem_singleton]; exact Ne.symm (Nat.ne_of_lt hIC)) z.1, z.2⟩
          · have z := N' (D, lst (strValues l)) (List.mem_cons_of_mem _ (List.mem_cons_of_mem _ List.mem_cons_self))
            exact ⟨hk₂ _ _ (by rw [List.mem_singleton]; exact Ne.symm (Nat.ne_of_lt hI)) z.1, z.2⟩
          · have z := N' p (List.mem_cons_of_mem _ (List.mem_cons_of_mem _ (List.mem_cons_of_mem _ hp)))
            exact ⟨hk₂ _ _ (by rw [List.mem_singleton]; exact Nat.ne_of_lt (ltI p hp)) z.1, z.2⟩
        have nsC : h₂.Ns (D + 1) mC := hC'.ns (N₂ (D + 1, oC') (List.mem_cons_of_mem _ List.mem_cons_self)).1
        refine wpAny_assign_Name (wpAny_storeName_local (lookup_relabel_local hx1) nsC (fun h₃ hn₃ hs₃ => ?_) (by simp [compEnvC, relabel, hkind]))
        obtain ⟨oC₃, eC₃, hC₃⟩ := ns_obj hn₃
        have hs₃' : Heap.SameBut (D + 1) h₂ h₃ := hs₃
        have F₃ : Fr h₀ L h₃ m := F₂.change hs₃' hCL hC₀
        have N₃ := News.setAt (own := [(I, oI₂)]) N₂ (fun p hp => by
          rw [List.mem_singleton.mp hp]
          exact Nat.ne_of_lt hIC) (fun p hp => by
          rcases List.mem_cons.mp hp with rfl | hp
          · exact Nat.ne_of_lt hDD
          · exact Nat.ne_of_lt (Nat.lt_trans (ltI p hp) hIC)) hs₃' eC₃
        refine hit2 (D + 1) oC₃ _ ((I, oI₂) :: (D, lst (strValues l)) :: news) h₃ _ _ _ hC₃ F₃ (fun p hp => N₃ p (by
          simp only [List.mem_cons, List.cons_append, List.nil_append] at hp ⊢
          rcases hp with h | h | h | h
          · exact .inr (.inl h)
          · exact .inl h
          · exact .inr (.inr (.inl h))
          · exact .inr (.inr (.inr h)))) fun r t u v h₄ tk₄ hr F₄ hk₄ => ?_
        refine wpAny_pyIter_range hr hsm ?_
        rw [hrs]
        have N₄ : News h₀ L h₄ ((I, oI₂) :: (D + 1, oC₃) :: (D, lst (strValues l)) :: news) := fun p hp => ⟨hk₄ _ _ (N₃ p hp).1, (N₃ p hp).2⟩
        have hCJ : D + 1 < h₄.objs.size := Heap.lt_size (N₄ (D + 1, oC₃) (List.mem_cons_of_mem _ List.mem_cons_self)).1
        obtain ⟨F₅, N₅⟩ := news_push (o := { cls := .type "range_iterator", data := .fields #[rawInt 0, rawInt (n : Int), rawInt 1] }) F₄ N₄ rfl
        have N₅' : News h₀ L (h₄.push { cls := .type "range_iterator", data := .fields #[rawInt 0, rawInt (n : Int), rawInt 1] }) ((I, oI₂) :: (h₄.objs.size, { cls := .type "range_iterator", data := .fields #[rawInt 0, rawInt (n : Int), rawInt 1] }) :: (D + 1, oC₃) :: (D, lst (strValues l)) :: news) := fun p hp => N₅ p (by
          simp only [List.mem_cons] at hp ⊢
          rcases hp with h | h | h
          · exact .inr (.inl h)
          · exact .inl h
          · exact .inr (.inr h))
        have hcap : l.length + n ≤ sizeLine := by
          have h1 : (a + 1) * n ≤ is.length * n := Nat.mul_le_mul_right n han
          rw [Nat.add_mul, Nat.one_mul] at h1
          lia
        have hin : codeAny (model prog w) A (.compLoop (two elt x1 p1 it1 x2 p2 it2 ct scope pos) 1 (.ref h₄.objs.size) (.ref D) (compEnvC scope cl (D + 1) env))
            (fun r s₅ => match r with
              | .ok _ => ∃ q', q' < is.length + 1 - a ∧ ∃ (h' : Heap) (tk a : Nat) (l : List (Str × Tok)) (oI oC : Obj) (mC : Str → Option Value), s₅ = { s₂ with heap := h', toks := tk } ∧ a ≤ is.length ∧ q' = is.length + 1 - a ∧ l.map (·.1) = twoN (is.take a) n keep img ∧ l.length ≤ a * n ∧ NsObj oC mC ∧ Fr h₀ L h' m ∧
                (∀ h : Heap, h.get? I = some oI → h.IsListIter I ax a) ∧ News h₀ L h' ((I, oI) :: (D + 1, oC) :: (D, lst (strValues l)) :: news)
              | .error e => cameBackBy (model prog w) A (compEnvC scope cl (D + 1) env) (notedBy (model prog w) A (compEnvC scope cl (D + 1) env) fun e s' => RR (.ref D) (D + 1) (.error e) s') e s₅)
            { s₂ with heap := h₄.push { cls := .type "range_iterator", data := .fields #[rawInt 0, rawInt (n : Int), rawInt 1] }, toks := tk₄ } := by
          refine inner_two (s := s₂) (t1 := t1) keep img hh hcap hkind hx2 h12 hC₃ (by simp) F₅ N₅' ltI hI hDD hCJ
            (fun k hk t2 oJ oC m₂ ys h tk E' hC h1 h2 F N => turn i k hmem hk t1 t2 I oI₂ h₄.objs.size oJ (D + 1) oC D m₂ ys h tk E' hC h1 h2 F N)
            (fun k hk t2 oJ oC m₂ ys h tk E' hC h1 h2 F N => telt i k hmem hk t1 t2 I oI₂ h₄.objs.size oJ (D + 1) oC D m₂ ys h tk E' hC h1 h2 F N) ?_
          intro h₆ tk₆ oC₆ m₆ l₆ hC₆ F₆ N₆ hl₆
          refine ⟨is.length + 1 - (a + 1), by lia, h₆, tk₆, a + 1, l₆, oI₂, oC₆, m₆, rfl, han, rfl, ?_, ?_, hC₆, F₆, fun h e => ⟨oI₂, e, cI₂, dI₂⟩, N₆⟩
          · rw [hl₆, hl]
            have : is.take (a + 1) = is.take a ++ [i] := by rw [List.take_add_one, hi]; rfl
            rw [this]
            unfold twoN
            rw [List.flatMap_append]
            simp
          · have e : l₆.length = l.length + (((List.range n).filter (keep i)).map (img i)).length := by
              have := congrArg List.length hl₆
              rw [List.length_append, List.length_map, List.length_map] at this
              exact this
            have e2 : (((List.range n).filter (keep i)).map (img i)).length ≤ n := by
              rw [List.length_map]
              exact Nat.le_trans (List.length_filter_le _ _) (by simp)
            rw [Nat.add_mul, Nat.one_mul]
            lia
        refine start_two1 hin ?_
        refine (range_walks (prog := prog) (w := w) (I := h₄.objs.size) hh 0 n).self 0 _ _ _ ?_ hin
        have z := (N₅' (h₄.objs.size, _) (List.mem_cons_of_mem _ List.mem_cons_self)).1
        exact z.trans (by simp)
      · obtain rfl : a = is.length := Nat.le_antisymm ha (Nat.not_lt.mp han)
        have hst := stOf h' is.length oI _ N' (fun p hp => List.mem_cons_of_mem _ (List.mem_cons_of_mem _ hp)) hit
        rw [← hits] at hst
        refine W.done _ _ _ hst fun h₂ tk₂ hk₂ => ?_
        rw [List.take_length] at hl
        refine hRR D (D + 1) h₂ tk₂ mC l (fr_but F' hk₂ (Ne.symm hIL) hI₀) (fun p hp => ?_) (fun p hp => Nat.ne_of_lt (Nat.lt_trans (ltI p hp) hI)) ?_ hC₀ hD₀ hCL hDL (Ne.symm (Nat.ne_of_lt hDD)) (fun p hp => Nat.ne_of_lt (Nat.lt_trans (ltI p hp) hIC)) hl
        · have z := N' p (List.mem_cons_of_mem _ (List.mem_cons_of_mem _ hp))
          refine ⟨hk₂ _ _ ?_ z.1, z.2⟩
          rw [List.mem_singleton]
          rcases List.mem_cons.mp hp with rfl | hp
          · exact Ne.symm (Nat.ne_of_lt hI)
          · exact Nat.ne_of_lt (ltI p hp)
        · have z := (N' (D + 1, oC') (List.mem_cons_of_mem _ List.mem_cons_self)).1
          exact hC'.ns (hk₂ _ _ (by rw [List.mem_singleton]; exact Ne.symm (Nat.ne_of_lt hIC)) z)
    · have z := hI0
      obtain ⟨o', e', c', d'⟩ := z
      have e2 : s₂.heap.get? I = some oI₀ := (N _ List.mem_cons_self).1
      rw [e2] at e'
      cases e'
      exact ⟨oI₀, e, c', d'⟩
  refine codeAny_compStart_list (loop _) (W.self 0 _ _ _ ?_ (loop _))
  refine stOf h₁ 0 oI₀ _ N₁ (fun p hp => List.mem_cons_of_mem _ (List.mem_cons_of_mem _ hp)) fun h e => ?_
  obtain ⟨o', e', c', d'⟩ := hI0
  have e2 : s₂.heap.get? I = some oI₀ := (N _ List.mem_cons_self).1
  rw [e2] at e'
  cases e'
  exact ⟨oI₀, e, c', d'⟩
/-- a list of ints at hand in the ledger, and what is to be shown of the turns and of the end -/
noncomputable def SrcT (h₀ : Heap) (L : Addr) (m : Str → Option Value) (is : List Nat) (Rest : List (Addr × Obj) → Shared → Prop) (xv : Value) (s₁ : Shared) : Prop :=
  ∃ ax its cnt news, xv = .ref ax ∧ (ax, listOf its cnt) ∈ news ∧ its.size = is.length ∧ (∀ (i : Nat) v, its[i]? = some v → ∃ a t, is[i]? = some a ∧ v = .int (a : Int) t) ∧ Fr h₀ L s₁.heap m ∧ News h₀ L s₁.heap news ∧ Rest news s₁
theorem Assign_two {elt : PySem.Expr} {x1 y : Str} {p1 py : Pos} {it1 : PySem.Expr} {x2 : Str} {p2 : Pos} {it2 ct : PySem.Expr} {scope : Scope} {cl : List (Str × Addr)} {pos spos : Pos} {Q : Flow → Shared → Prop} (is : List Nat) (n : Nat) (keep : Nat → Nat → Bool) (img : Nat → Nat → Str) (hLe : env.locals = L)
    (hsw : swapsWith (two elt x1 p1 it1 x2 p2 it2 ct scope pos) (some (.Name y py)) spos.line env = pure true)
    (hclos : closureFor scope env = pure cl) (hkind : scope.kind = .function) (hnames : ∀ z ∈ scope.names, z.2 = .local → scope.names.lookup z.1 = some .local)
    (hy : env.kindOf y = some .local) (hp : (env.scope.kind == .class || (env.scope.kind == .module && env.locals != env.globals)) = false)
    (hcell : ∀ y ∈ scope.names, y.2 ≠ .cell) (hx1 : scope.names.lookup x1 = some .local) (hx2 : scope.names.lookup x2 = some .local) (h12 : x1 ≠ x2)
    (hh : A.handled = none) (hsz : is.length * n ≤ sizeLine) (hsm : Builtin.Range.small 0 n 1 = true) (hrs : Builtin.Range.rangeSize 0 n 1 = ((n : Nat) : Int))
    (hs2 : ∀ C x, foldedSetIterable it2 (compEnvC scope cl C env) x = pure x)
    (h : wpAny (model prog w) A (eval it1 env) (SrcT h₀ L m is fun news s₁ =>
      (∀ C oC m₂ led h tk (Qv E' : Value → Shared → Prop), NsObj oC m₂ → Fr h₀ L h m → News h₀ L h ((C, oC) :: led) → (∀ r t u v h' tk', IsRange h' r 0 (n : Int) 1 t u v → Fr h₀ L h' m → (∀ b o, h.get? b = some o → h'.get? b = some o) → Qv (.ref r) { s₁ with heap := h', toks := tk' }) →
        wpAny (model prog w) A (eval it2 (compEnvC scope cl C env)) Qv E' { s₁ with heap := h, toks := tk }) ∧
      (∀ i k, i ∈ is → k < n → ∀ t1 t2 I oI J oJ C oC D m₂ ys h tk (E' : Value → Shared → Prop), NsObj oC m₂ → m₂ x1 = some (.int (i : Int) t1) → m₂ x2 = some (.int (k : Int) t2) → Fr h₀ L h m → News h₀ L h ((I, oI) :: (J, oJ) :: (C, oC) :: (D, lst ys) :: news) →
        wpAny (model prog w) A (isTrue ct (compEnvC scope cl C env) (eval ct (compEnvC scope cl C env))) (TestEnd h₀ L m { s₁ with heap := h, toks := tk } ((I, oI) :: (J, oJ) :: (C, oC) :: (D, lst ys) :: news) (keep i k)) E' { s₁ with heap := h, toks := tk }) ∧
      (∀ i k, i ∈ is → k < n → ∀ t1 t2 I oI J oJ C oC D m₂ ys h tk (E' : Value → Shared → Prop), NsObj oC m₂ → m₂ x1 = some (.int (i : Int) t1) → m₂ x2 = some (.int (k : Int) t2) → Fr h₀ L h m → News h₀ L h ((I, oI) :: (J, oJ) :: (C, oC) :: (D, lst ys) :: news) →
        wpAny (model prog w) A (eval elt (compEnvC scope cl C env)) (EltEnd h₀ L m { s₁ with heap := h, toks := tk } ((I, oI) :: (J, oJ) :: (C, oC) :: (D, lst ys) :: news) (img i k)) E' { s₁ with heap := h, toks := tk }) ∧
      (∀ l : List (Str × Tok), l.map (·.1) = twoN is n keep img → FinK h₀ L m s₁ y Q news (strValues l))) E s)
    (hs : ∀ x, foldedSetIterable it1 env x = pure x := by intro _; rfl) :
    wpAny (model prog w) A (exec (.Assign [.Name y py] (two elt x1 p1 it1 x2 p2 it2 ct scope pos) spos) env) Q E s := by
  subst hLe
  rw [exec_Assign_Name_used _ _ _ _ hsw]
  refine wpAny_bind (wpAny_standAt (wpAny_bind ?_))
  show wpAny _ A (do let _ ← comprehension (two elt x1 p1 it1 x2 p2 it2 ct scope pos) scope env _ (newList []) false (eval it1 env) (some (assign (.Name y py) env))) _ _ s
  refine wpAny_bind (wpAny_mono (wpAny_comprehension_free (use := some (assign (.Name y py) env)) (Q := fun _ s' => Q .next s') rfl hs hclos hkind hnames
    (wpAny_mono h (fun xv s₁ h₁ => ?_) fun _ _ e => e)) (fun _ s' hq => wpAny_pure (wpAny_pure hq)) fun _ _ e => e)
  obtain ⟨ax, its, cnt, news, rfl, hax, hits, hitv, F, N, hit2, turn, telt, fin⟩ := h₁
  have hl : s₁.heap.IsList ax its := ⟨_, (N _ hax).1, rfl, _, rfl⟩
  refine wpAny_pyIter_list hl ?_
  obtain ⟨F1, N1⟩ := news_push (o := { cls := .type "list_iterator", data := .fields #[.ref ax, .int 0 0] }) F N rfl
  refine block_two keep img hh hsz hits hitv hcell hkind hx1 hx2 h12 hax F1 N1 ⟨_, Heap.get?_push_size _ rfl, rfl, rfl⟩ (fun p hp => Heap.lt_size (N p hp).1) hs2 hsm hrs hit2 turn telt ?_
  intro D C h' tk m' l F' N' offD hn hC₀ hD₀ hCL hDL hCD offC hI
  show wpAny _ A (assign (.Name y py) env (.ref D)) _ _ _
  refine wpAny_assign_Name (wpAny_storeName_local hy F'.ns (fun h₂ hn₂ hs₂ => ?_) hp)
  have hL₀ : h₀.get? env.locals = none := Heap.get?_none_of_le F'.above
  have F₂ : Fr h₀ env.locals h₂ (fun z => if z = y then some (.ref D) else m z) := ⟨hn₂, fun b o e => hs₂.extBut b o (fun q => by rw [q, hL₀] at e; cases e) (F'.keep b o e), F'.above⟩
  refine ⟨m', hn.sameBut hs₂ hCL, fun h'' hs'' => fin l hI D h'' _ (F₂.change hs'' hCL hC₀) (fun p hp => ?_) offD⟩
  have z : h₂.get? p.1 = some p.2 := hs₂.extBut _ _ (N' p hp).2.1 (N' p hp).1
  refine ⟨hs''.extBut _ _ ?_ z, (N' p hp).2⟩
  rcases List.mem_cons.mp hp with rfl | hp
  · exact Ne.symm hCD
  · exact offC p hp
end
end Mine
namespace Mine
open PySem PySem.W PySem.Calls PyProof.Rows PySem.Spec
theorem sk_canLay : ∀ xs : List Str, xs.all PyData.strOk = true → PyData.canLayAll0 (xs.map PyData.str) = true
  | [], _ => rfl
  | x :: r, h => by
    rw [List.all_cons, Bool.and_eq_true] at h
    simp [PyData.canLayAll0, PyData.canLay0, sk_canLay r h.2, h.1]
theorem sk_depth : ∀ xs : List Str, PyData.depthAll (xs.map PyData.str) = 0
  | [] => rfl
  | _ :: r => by simp [PyData.depthAll, PyData.depth, sk_depth r]
theorem sk_shaped (xs : List Str) (h : xs.all PyData.strOk = true) : SeqAt.shaped (.list (xs.map PyData.str)) = true := by
  simp [SeqAt.shaped, PyData.canLay0, PyData.depth, sk_canLay xs h, sk_depth]
theorem sk_sameAll : ∀ xs ys : List Str, PySem.Spec.sameAll (xs.map PyData.str) (ys.map PyData.str) = decide (xs = ys)
  | [], [] => by simp [PySem.Spec.sameAll]
  | [], _ :: _ => by simp [PySem.Spec.sameAll]
  | _ :: _, [] => by simp [PySem.Spec.sameAll]
  | a :: r, b :: t => by
    simp only [List.map_cons, PySem.Spec.sameAll, PySem.Spec.same, sk_sameAll r t]
    by_cases h : a = b <;> by_cases h' : r = t <;> simp [h, h']
theorem sk_same (xs ys : List Str) : PySem.Spec.same (.list (xs.map PyData.str)) (.list (ys.map PyData.str)) = decide (xs = ys) := by
  simp only [PySem.Spec.same]; exact sk_sameAll xs ys
theorem sk_carried : ∀ l : List (Str × Tok), CarriedAll (strValues l) ((l.map (·.1)).map PyData.str)
  | [] => .nil
  | p :: r => .cons (.str _ _) (sk_carried r)
section
variable {prog : Program} {w : World} {A : Around} {E : Value → Shared → Prop} {s : Shared} {a b : Addr} {l k : List (Str × Tok)} {Q : Value → Shared → Prop}
theorem ne_strs (ha : s.heap.IsList a (strValues l).toArray) (hb : s.heap.IsList b (strValues k).toArray) (hl : (l.map (·.1)).all PyData.strOk = true) (hk : (k.map (·.1)).all PyData.strOk = true) (hu : A.units + 64 < cLine) (h : Q (.bool (!decide (l.map (·.1) = k.map (·.1)))) s) :
    wpAny (model prog w) A (compareOp .NotEq (.ref a) (.ref b)) Q E s :=
  ne_dataH_same (reads_newData ha (sk_carried l)) (reads_newData hb (sk_carried k)) (sk_shaped _ hl) (sk_shaped _ hk) hu (SeqAt.noMix_of_shape (.list .str) rfl _ _ (list_map_has fun _ => rfl) (list_map_has fun _ => rfl)) (by rw [sk_same]; exact h)
end
end Mine
namespace Mine
open PySem PySem.W PySem.Calls PyProof.Rows PySem.Spec
theorem itemn {prog : Program} {w : World} {A : Around} {E : Value → Shared → Prop} {s : Shared} {h₀ : Heap} {L D : Addr} {news : List (Addr × Obj)} {value slice : PySem.Expr} {items : Array Value} {v : Value} {u : Tok} {n i : Nat} {Q : Value → Shared → Prop} (N : News h₀ L s.heap news) (hm : (D, listOf items n) ∈ news) (hk : (i : Int) < 2 ^ 63) (hx : items.toList[i]? = some v) (h : Q v s)
    (hs : subscripted slice false (.ref D) (.int (i : Int) u) = operate [.ref D, .int (i : Int) u] (getItem (.ref D) (.int (i : Int) u)) := by with_unfolding_all rfl) :
    wpAny (model prog w) A (subscriptTail value slice (.ref D) (.int (i : Int) u)) Q E s :=
  itemc N hm (Int.natCast_nonneg i) hk (by rw [Int.toNat_natCast]; simpa using hx) h hs
theorem item_ref3 {prog : Program} {w : World} {A : Around} {E : Value → Shared → Prop} {s : Shared} {h₀ : Heap} {L D : Addr} {news : List (Addr × Obj)} {value slice : PySem.Expr} {A0 A1 A2 : Addr} {u : Tok} {n i : Nat} {Q : Value → Shared → Prop} (N : News h₀ L s.heap news) (hm : (D, listOf #[.ref A0, .ref A1, .ref A2] n) ∈ news) (hi : i < 3) (hs : subscripted slice false (.ref D) (.int (i : Int) u) = operate [.ref D, .int (i : Int) u] (getItem (.ref D) (.int (i : Int) u)))
    (h : Q (.ref ([A0, A1, A2].getD i 0)) s) :
    wpAny (model prog w) A (subscriptTail value slice (.ref D) (.int (i : Int) u)) Q E s := by
  obtain rfl | rfl | rfl : i = 0 ∨ i = 1 ∨ i = 2 := by omega
  · exact itemn N hm (by decide) rfl h hs
  · exact itemn N hm (by decide) rfl h hs
  · exact itemn N hm (by decide) rfl h hs
theorem item_name {prog : Program} {w : World} {A : Around} {E : Value → Shared → Prop} {s : Shared} {h₀ : Heap} {L : Addr} {news : List (Addr × Obj)} {value slice : PySem.Expr} {A0 A1 A2 : Addr} {u n0 n1 n2 n3 n4 n5 n6 n7 n8 : Tok} {k1 k2 k3 i k : Nat} {Q : Value → Shared → Prop} (N : News h₀ L s.heap news)
    (m0 : (A0, listOf #[.str (Str.ofString "0x1000") n0, .str (Str.ofString "0x2000") n1, .str (Str.ofString "0x4000") n2] k1) ∈ news) (m1 : (A1, listOf #[.str (Str.ofString "NOFREE") n3, .str (Str.ofString "COROUTINE") n4, .str (Str.ofString "ITERABLE_COROUTINE") n5] k2) ∈ news) (m2 : (A2, listOf #[.str (Str.ofString "OPTIMIZED") n6, .str (Str.ofString "NEWLOCALS") n7, .str (Str.ofString "VARARGS") n8] k3) ∈ news) (hi : i < 3) (hk : k < 3) (hs : ∀ a : Addr, subscripted slice false (.ref a) (.int (k : Int) u) = operate [.ref a, .int (k : Int) u] (getItem (.ref a) (.int (k : Int) u)))
    (h : ∀ t, Q (.str (nameOf i k) t) s) :
    wpAny (model prog w) A (subscriptTail value slice (.ref ([A0, A1, A2].getD i 0)) (.int (k : Int) u)) Q E s := by
  obtain rfl | rfl | rfl : i = 0 ∨ i = 1 ∨ i = 2 := by omega
  all_goals obtain rfl | rfl | rfl : k = 0 ∨ k = 1 ∨ k = 2 := by omega
  · exact itemn N m0 (by decide) rfl (h n0) (hs _)
  · exact itemn N m0 (by decide) rfl (h n1) (hs _)
  · exact itemn N m0 (by decide) rfl (h n2) (hs _)
  · exact itemn N m1 (by decide) rfl (h n3) (hs _)
  · exact itemn N m1 (by decide) rfl (h n4) (hs _)
  · exact itemn N m1 (by decide) rfl (h n5) (hs _)
  · exact itemn N m2 (by decide) rfl (h n6) (hs _)
  · exact itemn N m2 (by decide) rfl (h n7) (hs _)
  · exact itemn N m2 (by decide) rfl (h n8) (hs _)
theorem kept_odd (r0 r1 r2 : Nat) : keptN 3 (fun k => ((([0, 1, 2] : List Nat).filter fun i => bitOf r0 r1 r2 i k).length % 2 == 1)) = (oddOf r0 r1 r2).map fun k : Nat => (k : Int) := by
  unfold keptN oddOf
  rw [show List.range 3 = [0, 1, 2] from rfl]
theorem par_eq (c : Nat) : ((c : Int).fmod 2 == 1) = (c % 2 == 1) := by
  rw [Int.fmod_eq_emod_of_nonneg _ (by decide)]
  have h2 : c % 2 = 0 ∨ c % 2 = 1 := by omega
  rcases h2 with h2 | h2
  · have h3 : (c : Int) % 2 = 0 := by omega
    rw [h3, h2]; rfl
  · have h3 : (c : Int) % 2 = 1 := by omega
    rw [h3, h2]; rfl
theorem in_words {prog : Program} {w : World} {A : Around} {E : Value → Shared → Prop} {s : Shared} {h₀ : Heap} {L D : Addr} {news : List (Addr × Obj)} {r0 r1 r2 i k c : Nat} {x : Str} {t : Tok} {lw : List (Str × Tok)} {Q : Value → Shared → Prop} (N : News h₀ L s.heap news) (hm : (D, listOf (strValues lw).toArray c) ∈ news) (e : lw.map (·.1) = wordsOf r0 r1 r2) (hx : x = nameOf i k) (hi : i < 3) (hk : k < 3) (l0 : r0 < 5) (l1 : r1 < 5) (l2 : r2 < 5)
    (h : Q (.bool (bitOf r0 r1 r2 i k)) s) : wpAny (model prog w) A (compareOp .In (.str x t) (.ref D)) Q E s := by
  refine in_list_strs (N.isList hm) (strsAre_of_values lw) ?_
  have := p_in ⟨r0, l0⟩ ⟨r1, l1⟩ ⟨r2, l2⟩ ⟨i, hi⟩ ⟨k, hk⟩
  dsimp only at this
  have hc : ∀ l : List Str, (l.any fun y => y == nameOf i k) = l.contains (nameOf i k) := by
    intro l
    induction l with
    | nil => rfl
    | cons a l ih =>
      rw [List.any_cons, ih, List.contains_cons]
      congr 1
      exact Bool.beq_comm
  rw [e, hx, hc, this]
  exact h
theorem nm00 : Str.ofString "0x1000" = nameOf 0 0 := rfl
theorem nm01 : Str.ofString "0x2000" = nameOf 0 1 := rfl
theorem nm02 : Str.ofString "0x4000" = nameOf 0 2 := rfl
theorem nm10 : Str.ofString "NOFREE" = nameOf 1 0 := rfl
theorem nm11 : Str.ofString "COROUTINE" = nameOf 1 1 := rfl
theorem nm12 : Str.ofString "ITERABLE_COROUTINE" = nameOf 1 2 := rfl
theorem nm20 : Str.ofString "OPTIMIZED" = nameOf 2 0 := rfl
theorem nm21 : Str.ofString "NEWLOCALS" = nameOf 2 1 := rfl
theorem nm22 : Str.ofString "VARARGS" = nameOf 2 2 := rfl
end Mine
local macro_rules | `(tactic| walk_at "subscriptTail Name Name ref int") => `(tactic| with_reducible apply item_ref3; k_asm; k_dflt k_mem; assumption; with_unfolding_all rfl)
local macro_rules | `(tactic| walk_at "subscriptTail") => `(tactic| with_reducible apply item_name; k_asm; k_dflt k_mem; k_dflt k_mem; k_dflt k_mem; assumption; assumption; intro _; with_unfolding_all rfl; intro _)
local macro_rules | `(tactic| walk_at "compareOp In str ref") => `(tactic| with_reducible apply in_words; k_asm; k_dflt k_mem; assumption; k_dflt rfl; assumption; assumption; assumption; assumption; assumption)
namespace Mine
open PySem PySem.W PySem.Calls PyProof.Rows PySem.Spec
local macro_rules | `(tactic| walk_at "CompSrcT") => `(tactic| apply Hold.h)
local macro_rules | `(tactic| walk_at "exec Assign cons ListComp") => `(tactic| apply Hold.h)
local macro_rules | `(tactic| walk_at "eval ListComp") => `(tactic| apply Hold.h)
set_option maxHeartbeats 1000000 in
theorem bseg8 (w : World) (loose : List Str) (mean : ExcName → Option Value) (mg : Str → Option Value) (mb : Str → Option Value) (h₀ : Heap) (L' : Addr) (fa : Addr) (cdv : Value) (S : Addr) (NM : Addr) (A0 : Addr) (A1 : Addr) (A2 : Addr) (W : Addr) (HA : Addr) (z0 : Nat) (z1 : Nat) (z2 : Nat) (e : Nat) (d : Nat) (j : Nat) (take : Nat) (r0 : Nat) (r1 : Nat) (r2 : Nat) (t0 : Tok) (t1 : Tok) (t2 : Tok) (te : Tok) (td : Tok) (tj : Tok) (tt : Tok) (n0 : Tok) (n1 : Tok) (n2 : Tok) (n3 : Tok) (n4 : Tok) (n5 : Tok) (n6 : Tok) (n7 : Tok) (n8 : Tok) (k0 : Nat) (k1 : Nat) (k2 : Nat) (k3 : Nat) (wl : List Value) (wx : List Int) (wn : Nat) (tl : List (Addr × Obj)) (s0 : Shared) (Qb : Flow → Shared → Prop) (E : Value → Shared → Prop)
    (X : (K w.params).In h₀) (TT : Top qv loose mean mg mb h₀) (B : Below callerA h₀ [] h₀) (O : Okm w loose mean mg mb h₀ L' fa cdv S NM A0 A1 A2 W HA z0 z1 z2 e d j take r0 r1 r2 t0 t1 t2 te td tj tt n0 n1 n2 n3 n4 n5 n6 n7 n8 k0 k1 k2 k3 wl wx wn tl s0 Qb E) (h9 : BSeg9 w loose mean mg mb h₀ L' fa cdv S NM A0 A1 A2 W HA z0 z1 z2 e d j take r0 r1 r2 t0 t1 t2 te td tj tt n0 n1 n2 n3 n4 n5 n6 n7 n8 k0 k1 k2 k3 wl wx wn tl s0 Qb E) : BSeg8 w loose mean mg mb h₀ L' fa cdv S NM A0 A1 A2 W HA z0 z1 z2 e d j take r0 r1 r2 t0 t1 t2 te td tj tt n0 n1 n2 n3 n4 n5 n6 n7 n8 k0 k1 k2 k3 wl wx wn tl s0 Qb E := by
  unfold BSeg8 rwp
  revert X
  k_fill
  intro X s RL q0 q1 q2 WL lw wc c1 c7 ml o1 o2 o3 o4 o5 o6 o7 o8 o9 hRL nRL hWL nWL ew hL F N d1 d2 d3 d4 d5 d6 d7 d8 d9 g0 g1 g2
  obtain ⟨hS, hz0, hz1, hz2, he, hd, hj, ht, hNM, hA0, hA1, hA2, hW, nNM, nA2, nA1, nA0, nS, hO, hr0, hr1, hr2, lr0, lr1, lr2, hwl, hwi⟩ := id O
  clear hd
  obtain ⟨p1, p2, p3, p4, p5, p6, p7, p8, p9⟩ := id hS
  simp only [List.cons_append, List.nil_append] at N
  show wpAny _ _ (execs (_ :: _) _) _ _ _
  rw [as3 g0 g1 g2] at F
  obtain ⟨hh, gs, dd, tk, os⟩ := s
  dsimp only at F N
  k_steps
  refine ⟨?_⟩
  refine Assign_ListComp_K (m := fun z : Str => if z = "winners" then some (.ref W) else if z = "heirs" then some (.ref HA) else if z = "d" then some (.int (d : Int) td) else ml z) (h₀ := h₀) 3 (fun k => ((([0, 1, 2] : List Nat).filter fun i => bitOf r0 r1 r2 i k).length % 2 == 1)) rfl (by with_unfolding_all rfl) (by with_unfolding_all rfl) rfl (by decide) rfl rfl rfl (by decide) (by decide) (by rfl) (fun _ => rfl) (fun _ => rfl) (fun _ _ => rfl) (fun _ _ => rfl) (by decide) ?_
  k_steps
  refine ⟨_, _, _, _, _, rfl, by assumption, by assumption, by assumption, ?turn, ?fin⟩
  case turn =>
    intro k hk t I oI C oC D ys c oK h' tk' E' hK F N
    k_steps
    refine ⟨?_⟩
    refine LCt.ListComp_T (F₀ := F) (by with_unfolding_all rfl) (by decide) (by rfl) (by decide) (by rfl) ?_
    k_steps
    refine ⟨?_⟩
    refine LCt.CompSrcT.range rfl (by assumption) (by assumption) (by assumption) (by decide) (by rfl) (by decide) ?_
    intro g'
    refine rest_range 3 (fun i => bitOf r0 r1 r2 i k) (fun _ => rfl) (fun _ => rfl) (by decide) ?iturn ?ifin
    case iturn =>
      intro i hi ti I2 oI2 C2 oC2 D2 m₂ ys2 h2 tk2 E2 hC2 hx2 F2 N2 off2 ne2
      clear off2 ne2
      k_steps
      exact TestEnd.intro (by assumption) (by assumption) (fun p hp => hp) rfl
    case ifin =>
      intro l hl D2 h2 tk2 F2 N2 off
      dsimp only
      have hDl : h2.IsList D2 l.toArray := ⟨LCg.lst l, (N2 (D2, LCg.lst l) List.mem_cons_self).1, rfl, l.length, rfl⟩
      k_steps
      refine PyProof.Rows.len_list (items := l.toArray) ?hl ?sz ?_
      case hl => exact hDl
      case sz =>
        have := keptN_len 3 (fun i => bitOf r0 r1 r2 i k)
        rw [List.size_toArray, ints_len hl]
        omega
      have hcnt : ((l.toArray.size : Nat) : Int) = (((([0, 1, 2] : List Nat).filter fun i => bitOf r0 r1 r2 i k).length : Nat) : Int) := by
        rw [List.size_toArray, ints_len hl, keptN, List.length_map]
        rfl
      rw [hcnt]
      clear hcnt
      k_steps
      refine TestEnd.intro (by assumption) (by assumption) (fun p hp => List.mem_cons_of_mem _ hp) ?_
      generalize (([0, 1, 2] : List Nat).filter fun i => bitOf r0 r1 r2 i k).length = c
      exact par_eq c
  case fin =>
    intro ys hys D h' tk' F N hD
    rw [kept_odd] at hys
    dsimp only
    exact h9 _ RL q0 q1 q2 WL lw wc D ys _ c1 c7 _ o1 o2 o3 o4 o5 o6 o7 o8 o9 hRL nRL hWL nWL ⟨fun e => hD (L' + 1, o1) (by k_mem) e.symm, fun e => hD (L' + 1 + 1, o2) (by k_mem) e.symm, fun e => hD (L' + 1 + 1 + 1, o3) (by k_mem) e.symm, fun e => hD (L' + 1 + 1 + 1 + 1, o4) (by k_mem) e.symm, fun e => hD (L' + 1 + 1 + 1 + 1 + 1, o5) (by k_mem) e.symm, fun e => hD (L' + 1 + 1 + 1 + 1 + 1 + 1, o6) (by k_mem) e.symm, fun e => hD (L' + 1 + 1 + 1 + 1 + 1 + 1 + 1, o7) (by k_mem) e.symm, fun e => hD (L' + 1 + 1 + 1 + 1 + 1 + 1 + 1 + 1, o8) (by k_mem) e.symm, fun e => hD (L' + 1 + 1 + 1 + 1 + 1 + 1 + 1 + 1 + 1, o9) (by k_mem) e.symm⟩ (fun e => hD (W, _) (by k_mem) e.symm) ew hys ⟨hL.1, hL.2⟩ F N d1 d2 d3 d4 d5 d6 d7 d8 d9 rfl rfl rfl rfl
end Mine
namespace Mine
open PySem PySem.W PySem.Calls PyProof.Rows PySem.Spec
theorem eq_led {prog : Program} {w : World} {A : Around} {E : Value → Shared → Prop} {s : Shared} {h₀ : Heap} {L a b : Addr} {news : List (Addr × Obj)} {xs ys : List Value} {ns ms : List Int} {na nb : Nat} {Q : Value → Shared → Prop} (N : News h₀ L s.heap news) (ha : (a, listOf xs.toArray na) ∈ news) (hb : (b, listOf ys.toArray nb) ∈ news) (hi : IntsAre xs ns) (hj : IntsAre ys ms) (hu : A.units + 64 < cLine) (h : Q (.bool (decide (ns = ms))) s) :
    wpAny (model prog w) A (compareOp .Eq (.ref a) (.ref b)) Q E s := ke_eq_ints (N.isList ha) (N.isList hb) hi hj hu h
theorem bit_eq : ∀ (r : Fin 5) (k : Fin 3), (((r.val : Int).fdiv (2 ^ ((k.val : Nat) : Int).toNat)).fmod 2 == 1) = (r.val / 2 ^ k.val % 2 == 1) := by decide +kernel
theorem ok_words : ∀ (r0 r1 r2 : Fin 5), (wordsOf r0.val r1.val r2.val).all PyData.strOk = true ∧ (dueOf r0.val r1.val r2.val).all PyData.strOk = true := by decide +kernel
section
variable {prog : Program} {w : World} {A : Around} {E : Value → Shared → Prop} {s : Shared} {h₀ : Heap} {L a b : Addr} {news : List (Addr × Obj)} {l lw : List (Str × Tok)} {na nb r0 r1 r2 : Nat} {Q : Value → Shared → Prop}
theorem ne_due_nil (N : News h₀ L s.heap news) (ha : (a, listOf (strValues l).toArray na) ∈ news) (hb : (b, listOf #[] nb) ∈ news) (hl : l.map (·.1) = twoN [2, 1, 0] 3 (fun i k => bitOf r0 r1 r2 i k) nameOf) (l0 : r0 < 5) (l1 : r1 < 5) (l2 : r2 < 5) (hu : A.units + 64 < cLine) (h : Q (.bool (!decide (dueOf r0 r1 r2 = []))) s) :
    wpAny (model prog w) A (compareOp .NotEq (.ref a) (.ref b)) Q E s := by
  have hl' : l.map (·.1) = dueOf r0 r1 r2 := hl
  refine ne_strs (l := l) (k := []) (N.isList ha) (N.isList hb) ?_ rfl hu ?_
  · rw [hl']; exact (ok_words ⟨r0, l0⟩ ⟨r1, l1⟩ ⟨r2, l2⟩).2
  · rw [hl']; exact h
theorem ne_words_due (N : News h₀ L s.heap news) (ha : (a, listOf (strValues lw).toArray na) ∈ news) (hb : (b, listOf (strValues l).toArray nb) ∈ news) (ew : lw.map (·.1) = wordsOf r0 r1 r2) (hl : l.map (·.1) = twoN [2, 1, 0] 3 (fun i k => bitOf r0 r1 r2 i k) nameOf) (hn : ¬ dueOf r0 r1 r2 = []) (l0 : r0 < 5) (l1 : r1 < 5) (l2 : r2 < 5) (hu : A.units + 64 < cLine) (h : Q (.bool false) s) :
    wpAny (model prog w) A (compareOp .NotEq (.ref a) (.ref b)) Q E s := by
  have hl' : l.map (·.1) = dueOf r0 r1 r2 := hl
  refine ne_strs (l := lw) (k := l) (N.isList ha) (N.isList hb) ?_ ?_ hu ?_
  · rw [ew]; exact (ok_words ⟨r0, l0⟩ ⟨r1, l1⟩ ⟨r2, l2⟩).1
  · rw [hl']; exact (ok_words ⟨r0, l0⟩ ⟨r1, l1⟩ ⟨r2, l2⟩).2
  · rw [ew, hl', show wordsOf r0 r1 r2 = dueOf r0 r1 r2 from if_neg hn]
    simpa using h
theorem ne_words_zero {t : Tok} (N : News h₀ L s.heap news) (ha : (a, listOf (strValues lw).toArray na) ∈ news) (hb : (b, listOf #[.str (Str.ofString "0x0") t] nb) ∈ news) (ew : lw.map (·.1) = wordsOf r0 r1 r2) (hn : dueOf r0 r1 r2 = []) (l0 : r0 < 5) (l1 : r1 < 5) (l2 : r2 < 5) (hu : A.units + 64 < cLine) (h : Q (.bool false) s) :
    wpAny (model prog w) A (compareOp .NotEq (.ref a) (.ref b)) Q E s := by
  have hw : wordsOf r0 r1 r2 = [Str.ofString "0x0"] := if_pos hn
  refine ne_strs (l := lw) (k := [(Str.ofString "0x0", t)]) (N.isList ha) (N.isList hb) ?_ ?_ hu ?_
  · rw [ew]; exact (ok_words ⟨r0, l0⟩ ⟨r1, l1⟩ ⟨r2, l2⟩).1
  · show ([Str.ofString "0x0"] : List Str).all PyData.strOk = true
    rw [← hw]; exact (ok_words ⟨r0, l0⟩ ⟨r1, l1⟩ ⟨r2, l2⟩).1
  · rw [ew, hw]
    simpa using h
end
theorem at_ne {M : Model} {A : Around} {E Q : Value → Shared → Prop} {s : Shared} {a b : Addr} (h : wpAny M A (compareOp .NotEq (.ref a) (.ref b)) Q E s) : wpAny M A (compareOp .NotEq (.ref a) (.ref b)) Q E s := h
theorem app_num {prog : Program} {w : World} {A : Around} {E : Value → Shared → Prop} {s : Shared} {h₀ : Heap} {L D : Addr} {m : Str → Option Value} {news news' : List (Addr × Obj)} {ws : List Value} {n : Nat} {x : Int} {u : Tok} {Q : Value → Shared → Prop} (F : Fr h₀ L s.heap m) (N : News h₀ L s.heap news) (U : Upd D (listOf ws.toArray n) (listOf (ws.toArray.push (.int x u)) (n + 1)) news news') (hl : ws.length ≤ 20)
    (h : ∀ h', Fr h₀ L h' m → News h₀ L h' news' → Q .none { s with heap := h' }) : wpAny (model prog w) A (call (.builtin "list.append") [.ref D, .int x u]) Q E s :=
  append_K F N U h (by rw [List.size_toArray]; exact Nat.le_trans hl (by decide))
local macro_rules | `(tactic| walk_at "compareOp Eq ref ref") => `(tactic| with_reducible apply eq_led; k_asm; k_dflt k_mem; k_dflt k_mem; assumption; (first | exact IntsAre.nil | assumption); ke_room)
local macro_rules | `(tactic| walk_at "call builtin:list.append") => `(tactic| (with_reducible apply app_num; k_asm; k_asm; k_dflt k_upd; assumption; intros))
local macro_rules | `(tactic| walk_at "compareOp NotEq ref ref") => `(tactic| ((with_reducible apply at_ne); k_dflt first | apply ne_words_due; k_asm; k_mem; k_mem; assumption; assumption; assumption; assumption; assumption; assumption; ke_room | apply ne_words_zero; k_asm; k_mem; k_mem; assumption; assumption; assumption; assumption; assumption; ke_room | apply ne_due_nil; k_asm; k_mem; k_mem; assumption; assumption; assumption; assumption; ke_room))
local macro_rules | `(tactic| walk_at "exec Assign cons ListComp") => `(tactic| apply Hold.h)
theorem stop_high {M : Model} {A : Around} {E : Value → Shared → Prop} {s : Shared} {Q : Flow → Shared → Prop} {p v u r env} (h : Hold (wpAny M A (execs (.Assign [.Name (Str.ofString "high") p] v u :: r) env) Q E s)) : wpAny M A (execs (.Assign [.Name (Str.ofString "high") p] v u :: r) env) Q E s := h.1
local macro_rules | `(tactic| walk_at "execs cons") => `(tactic| with_reducible apply stop_high)
set_option maxHeartbeats 1000000 in
theorem bseg9 (w : World) (loose : List Str) (mean : ExcName → Option Value) (mg : Str → Option Value) (mb : Str → Option Value) (h₀ : Heap) (L' : Addr) (fa : Addr) (cdv : Value) (S : Addr) (NM : Addr) (A0 : Addr) (A1 : Addr) (A2 : Addr) (W : Addr) (HA : Addr) (z0 : Nat) (z1 : Nat) (z2 : Nat) (e : Nat) (d : Nat) (j : Nat) (take : Nat) (r0 : Nat) (r1 : Nat) (r2 : Nat) (t0 : Tok) (t1 : Tok) (t2 : Tok) (te : Tok) (td : Tok) (tj : Tok) (tt : Tok) (n0 : Tok) (n1 : Tok) (n2 : Tok) (n3 : Tok) (n4 : Tok) (n5 : Tok) (n6 : Tok) (n7 : Tok) (n8 : Tok) (k0 : Nat) (k1 : Nat) (k2 : Nat) (k3 : Nat) (wl : List Value) (wx : List Int) (wn : Nat) (tl : List (Addr × Obj)) (s0 : Shared) (Qb : Flow → Shared → Prop) (E : Value → Shared → Prop)
    (X : (K w.params).In h₀) (TT : Top qv loose mean mg mb h₀) (B : Below callerA h₀ [] h₀) (O : Okm w loose mean mg mb h₀ L' fa cdv S NM A0 A1 A2 W HA z0 z1 z2 e d j take r0 r1 r2 t0 t1 t2 te td tj tt n0 n1 n2 n3 n4 n5 n6 n7 n8 k0 k1 k2 k3 wl wx wn tl s0 Qb E) (hH : take = 0 → ∀ Qc : Flow → Shared → Prop, (∀ s, Qb .next s → Qc .next s) → BSegH w loose mean mg mb h₀ L' fa cdv S NM A0 A1 A2 W HA z0 z1 z2 e d j take r0 r1 r2 t0 t1 t2 te td tj tt n0 n1 n2 n3 n4 n5 n6 n7 n8 k0 k1 k2 k3 wl wx wn tl s0 Qc E) (hB : take ≠ 0 → EndB w loose mean mg mb h₀ L' fa cdv S NM A0 A1 A2 W HA z0 z1 z2 e d j take r0 r1 r2 t0 t1 t2 te td tj tt n0 n1 n2 n3 n4 n5 n6 n7 n8 k0 k1 k2 k3 wl wx wn tl s0 Qb E) : BSeg9 w loose mean mg mb h₀ L' fa cdv S NM A0 A1 A2 W HA z0 z1 z2 e d j take r0 r1 r2 t0 t1 t2 te td tj tt n0 n1 n2 n3 n4 n5 n6 n7 n8 k0 k1 k2 k3 wl wx wn tl s0 Qb E := by
  unfold BSeg9 rwp
  revert X
  k_fill
  intro X s RL q0 q1 q2 WL lw wc OL lo oc c1 c7 ml o1 o2 o3 o4 o5 o6 o7 o8 o9 hRL nRL hWL nWL hOL nOL ew elo hL F N d1 d2 d3 d4 d5 d6 d7 d8 d9 g0 g1 g2 g3
  obtain ⟨hS, hz0, hz1, hz2, he, hd, hj, ht, hNM, hA0, hA1, hA2, hW, nNM, nA2, nA1, nA0, nS, hO, hr0, hr1, hr2, lr0, lr1, lr2, hwl, hwi⟩ := id O
  clear hd
  obtain ⟨p1, p2, p3, p4, p5, p6, p7, p8, p9⟩ := id hS
  simp only [List.cons_append, List.nil_append] at N
  show wpAny _ _ (execs (_ :: _) _) _ _ _
  rw [as3x g3 g0 g1 g2] at F
  obtain ⟨hh, gs, dd, tk, os⟩ := s
  dsimp only at F N
  obtain ⟨a1, a2, a3, a4, a5, a6, a7, a8, a9⟩ := id hRL
  obtain ⟨b1, b2, b3, b4, b5, b6, b7, b8, b9⟩ := id hWL
  obtain ⟨c1', c2', c3', c4', c5', c6', c7', c8', c9'⟩ := id hOL
  k_steps
  · refine ⟨?_⟩
    refine Assign_two (m := fun z : Str => if z = "odd" then some (.ref OL) else if z = "winners" then some (.ref W) else if z = "heirs" then some (.ref HA) else if z = "d" then some (.int (d : Int) td) else ml z) (h₀ := h₀) [2, 1, 0] 3 (fun i k => bitOf r0 r1 r2 i k) nameOf rfl (by with_unfolding_all rfl) (by with_unfolding_all rfl) rfl (by decide) rfl rfl (by decide) rfl rfl (by decide) rfl (by decide) (by decide) (by rfl) (fun _ _ => rfl) ?_
    k_steps
    refine ⟨_, _, _, _, rfl, List.mem_cons_self, rfl, ?itv, by assumption, by assumption, ?it2, ?turn, ?telt, ?fin⟩
    case itv =>
      intro i v hv
      match i, hv with
      | 0, hv => cases hv; exact ⟨2, _, rfl, rfl⟩
      | 1, hv => cases hv; exact ⟨1, _, rfl, rfl⟩
      | 2, hv => cases hv; exact ⟨0, _, rfl, rfl⟩
      | i + 3, hv => simp at hv
    case it2 =>
      intro C oC m₂ led h' tk' Qv E' hC F N hQ
      k_steps
      exact hQ _ _ _ _ _ _ (by assumption) (by assumption) (by assumption)
    case turn =>
      intro i k hi hk t1 t2 I oI J oJ C oC D m₂ ys h' tk' E' hC hx1 hx2 F N
      have hi' : i = 0 ∨ i = 1 ∨ i = 2 := by simp at hi; lia
      clear hi
      have hi3 : i < 3 := by lia
      have hr5 : [r0, r1, r2].getD i 0 < 5 := by
        obtain rfl | rfl | rfl := hi'
        · exact lr0
        · exact lr1
        · exact lr2
      obtain rfl | rfl | rfl : k = 0 ∨ k = 1 ∨ k = 2 := by lia
      all_goals k_steps
      · exact TestEnd.intro (by assumption) (by assumption) (fun p hp => hp) (bit_eq ⟨_, hr5⟩ ⟨0, by decide⟩)
      · exact TestEnd.intro (by assumption) (by assumption) (fun p hp => hp) (bit_eq ⟨_, hr5⟩ ⟨1, by decide⟩)
      · exact TestEnd.intro (by assumption) (by assumption) (fun p hp => hp) (bit_eq ⟨_, hr5⟩ ⟨2, by decide⟩)
    case telt =>
      intro i k hi hk t1 t2 I oI J oJ C oC D m₂ ys h' tk' E' hC hx1 hx2 F N
      have hi' : i = 0 ∨ i = 1 ∨ i = 2 := by simp at hi; lia
      clear hi
      have hi3 : i < 3 := by lia
      k_steps
      exact EltEnd.intro (by assumption) (by assumption) (fun p hp => hp)
    case fin =>
      intro l hl D h' tk' F N hD
      dsimp only
      k_steps
      all_goals rename ((take : Int) = 0) => htk
      all_goals rename Fr h₀ L' _ _ => F9
      all_goals rename News h₀ L' _ _ => N9
      all_goals refine ⟨?_⟩
      all_goals refine hH (by lia) _ (by intro s hs; exact wpAny_execs_nil hs) _ RL q0 q1 q2 WL lw wc OL lo oc c1 c7 _ o1 o2 o3 o4 o5 o6 o7 o8 o9 hRL nRL hWL nWL hOL nOL ew elo ⟨hL.1, hL.2⟩ F9 (fun p hp => N9 p (by first | exact (List.mem_cons_of_mem _ (List.mem_cons_of_mem _ (List.mem_cons_of_mem _ hp))) | exact (List.mem_cons_of_mem _ (List.mem_cons_of_mem _ (List.mem_cons_of_mem _ (List.mem_cons_of_mem _ hp)))))) d1 d2 d3 d4 d5 d6 d7 d8 d9 rfl rfl rfl rfl
  · rename (decide (List.map _ _ = []) = true) => ho'
    have ho := of_decide_eq_true ho'
    rename ¬ ((take : Int) = 0) => htk
    rename Fr h₀ L' _ _ => F9
    rename News h₀ L' _ _ => N9
    rw [List.push_toArray] at N9
    refine hB (by lia) _ _ _ c1 _ _ c7 _ _ _ o1 o2 o3 o4 o5 o6 o7 o8 o9 ⟨hL.1, hL.2⟩ F9 (fun p hp => N9 p (List.mem_cons_of_mem _ (List.mem_cons_of_mem _ (List.mem_cons_of_mem _ (List.mem_cons_of_mem _ hp))))) d1 d2 d3 d4 d5 d6 d7 d8 d9 rfl rfl rfl ?_
    rw [if_pos (List.map_eq_nil_iff.mp ho)]
    exact ints_snoc hwi _ _
  · rename (decide (List.map _ _ = []) = false) => ho'
    have ho := of_decide_eq_false ho'
    rename ¬ ((take : Int) = 0) => htk
    rename Fr h₀ L' _ _ => F9
    rename News h₀ L' _ _ => N9
    refine hB (by lia) _ _ _ c1 _ _ c7 _ _ _ o1 o2 o3 o4 o5 o6 o7 o8 o9 ⟨hL.1, hL.2⟩ F9 (fun p hp => N9 p (List.mem_cons_of_mem _ (List.mem_cons_of_mem _ (List.mem_cons_of_mem _ (List.mem_cons_of_mem _ hp))))) d1 d2 d3 d4 d5 d6 d7 d8 d9 rfl rfl rfl ?_
    rw [if_neg (fun q => ho (List.map_eq_nil_iff.mpr q)), List.append_nil]
    exact hwi
end Mine
namespace Mine
open PySem PySem.W PySem.Calls PyProof.Rows PySem.Spec
theorem p_high : ∀ (z0 z1 z2 : Fin 5) (h : Fin 3), h.val ∈ oddOf z0.val z1.val z2.val → (∀ a ∈ oddOf z0.val z1.val z2.val, a ≤ h.val) → heirsOf z0.val z1.val z2.val = ([0, 1, 2] : List Nat).filter fun i => bitOf z0.val z1.val z2.val i h.val := by decide +kernel
theorem p_none : ∀ (z0 z1 z2 : Fin 5), oddOf z0.val z1.val z2.val = [] → heirsOf z0.val z1.val z2.val = [] := by decide +kernel
theorem ne_led {prog : Program} {w : World} {A : Around} {E : Value → Shared → Prop} {s : Shared} {h₀ : Heap} {L a b : Addr} {news : List (Addr × Obj)} {xs ys : List Value} {ns ms : List Int} {na nb : Nat} {Q : Value → Shared → Prop} (N : News h₀ L s.heap news) (ha : (a, listOf xs.toArray na) ∈ news) (hb : (b, listOf ys.toArray nb) ∈ news) (hi : IntsAre xs ns) (hj : IntsAre ys ms) (hu : A.units + 64 < cLine) (h : Q (.bool (!decide (ns = ms))) s) :
    wpAny (model prog w) A (compareOp .NotEq (.ref a) (.ref b)) Q E s := ke_ne_ints (N.isList ha) (N.isList hb) hi hj hu h
theorem max_led {prog : Program} {w : World} {A : Around} {E : Value → Shared → Prop} {s : Shared} {h₀ : Heap} {L a : Addr} {m : Str → Option Value} {news : List (Addr × Obj)} {xs : List Value} {ns : List Int} {na : Nat} {Q : Value → Shared → Prop} (hh : A.handled = none) (F : Fr h₀ L s.heap m) (N : News h₀ L s.heap news) (ha : (a, listOf xs.toArray na) ∈ news) (hi : IntsAre xs ns) (hne : ¬ ns = [])
    (h : ∀ h' M (t : Tok) tk, Fr h₀ L h' m → News h₀ L h' news → M ∈ ns → (∀ a, a ∈ ns → a ≤ M) → Q (.int M t) { s with heap := h', toks := tk }) : wpAny (model prog w) A (call (.builtin "max") [.ref a]) Q E s :=
  max_list_N hh F N (N.isList ha) hi (List.length_pos_iff.mpr hne) h
theorem off1_all {D : Addr} : ∀ {l : List (Addr × Obj)}, LCg.Off1 D l → ∀ p ∈ l, @Ne Nat p.1 D
  | [], _, _, h => nomatch h
  | q :: l, h, p, hp => by
    rcases List.mem_cons.mp hp with rfl | hp
    · exact h.1
    · exact off1_all h.2 p hp
theorem ne_front {T : Addr} {A : List Addr} {pre fr tl : List (Addr × Obj)} (l : ∀ p ∈ pre ++ (fr ++ tl), @Ne Nat p.1 T) (e : fr.map Prod.fst = A) : ∀ b ∈ A, @Ne Nat b T := fun b hb => by
  rw [← e] at hb
  obtain ⟨q, hq, rfl⟩ := List.mem_map.mp hb
  exact l q (List.mem_append_right _ (List.mem_append_left _ hq))
theorem mem_sink {p d : Addr × Obj} {pre fr tl : List (Addr × Obj)} (hp : p ∈ fr ++ (d :: tl)) : p ∈ d :: (pre ++ (fr ++ tl)) := by
  simp only [List.mem_cons, List.mem_append] at hp ⊢
  rcases hp with h | h | h
  · exact .inr (.inr (.inl h))
  · exact .inl h
  · exact .inr (.inr (.inr h))
local macro_rules | `(tactic| walk_at "compareOp NotEq ref ref") => `(tactic| with_reducible apply ne_led; k_asm; k_dflt k_mem; k_dflt k_mem; assumption; (first | exact IntsAre.nil | assumption); ke_room)
local macro_rules | `(tactic| walk_at "call builtin:max") => `(tactic| with_reducible apply max_led; k_dflt rfl; k_asm; k_asm; k_dflt k_mem; assumption; apply of_decide_eq_false; assumption; intros)
local macro_rules | `(tactic| walk_at "exec Assign cons ListComp") => `(tactic| apply Hold.h)
local macro_rules | `(tactic| walk_at "CompSrcT") => `(tactic| apply Hold.h)
set_option maxHeartbeats 1000000 in
theorem bsegH (w : World) (loose : List Str) (mean : ExcName → Option Value) (mg : Str → Option Value) (mb : Str → Option Value) (h₀ : Heap) (L' : Addr) (fa : Addr) (cdv : Value) (S : Addr) (NM : Addr) (A0 : Addr) (A1 : Addr) (A2 : Addr) (W : Addr) (HA : Addr) (z0 : Nat) (z1 : Nat) (z2 : Nat) (e : Nat) (d : Nat) (j : Nat) (take : Nat) (r0 : Nat) (r1 : Nat) (r2 : Nat) (t0 : Tok) (t1 : Tok) (t2 : Tok) (te : Tok) (td : Tok) (tj : Tok) (tt : Tok) (n0 : Tok) (n1 : Tok) (n2 : Tok) (n3 : Tok) (n4 : Tok) (n5 : Tok) (n6 : Tok) (n7 : Tok) (n8 : Tok) (k0 : Nat) (k1 : Nat) (k2 : Nat) (k3 : Nat) (wl : List Value) (wx : List Int) (wn : Nat) (tl : List (Addr × Obj)) (s0 : Shared) (Qb : Flow → Shared → Prop) (E : Value → Shared → Prop)
    (X : (K w.params).In h₀) (TT : Top qv loose mean mg mb h₀) (B : Below callerA h₀ [] h₀) (O : Okm w loose mean mg mb h₀ L' fa cdv S NM A0 A1 A2 W HA z0 z1 z2 e d j take r0 r1 r2 t0 t1 t2 te td tj tt n0 n1 n2 n3 n4 n5 n6 n7 n8 k0 k1 k2 k3 wl wx wn tl s0 Qb E) (htk : take = 0) (hA : EndA w loose mean mg mb h₀ L' fa cdv S NM A0 A1 A2 W HA z0 z1 z2 e d j take r0 r1 r2 t0 t1 t2 te td tj tt n0 n1 n2 n3 n4 n5 n6 n7 n8 k0 k1 k2 k3 wl wx wn tl s0 Qb E) : BSegH w loose mean mg mb h₀ L' fa cdv S NM A0 A1 A2 W HA z0 z1 z2 e d j take r0 r1 r2 t0 t1 t2 te td tj tt n0 n1 n2 n3 n4 n5 n6 n7 n8 k0 k1 k2 k3 wl wx wn tl s0 Qb E := by
  unfold BSegH rwp
  revert X
  k_fill
  intro X s RL q0 q1 q2 WL lw wc OL lo oc c1 c7 ml o1' o2 o3 o4 o5 o6 o7 o8 o9 hRL nRL hWL nWL hOL nOL ew elo hL F N d1 d2 d3 d4 d5 d6 d7 d8 d9 g0 g1 g2 g3
  obtain ⟨hS, hz0, hz1, hz2, he, hd, hj, ht, hNM, hA0, hA1, hA2, hW, nNM, nA2, nA1, nA0, nS, hO, hr0, hr1, hr2, lr0, lr1, lr2, hwl, hwi⟩ := id O
  clear hd
  obtain ⟨p1, p2, p3, p4, p5, p6, p7, p8, p9⟩ := id hS
  simp only [List.cons_append, List.nil_append] at N
  show wpAny _ _ (execs (_ :: _) _) _ _ _
  rw [as3x g3 g0 g1 g2] at F
  obtain ⟨hh, gs, dd, tk, os⟩ := s
  dsimp only at F N
  obtain ⟨a1, a2, a3, a4, a5, a6, a7, a8, a9⟩ := id hRL
  obtain ⟨b1, b2, b3, b4, b5, b6, b7, b8, b9⟩ := id hWL
  obtain ⟨c1', c2', c3', c4', c5', c6', c7', c8', c9'⟩ := id hOL
  subst htk
  have er0 : r0 = z0 := by rw [hr0]; simp [restAt]
  have er1 : r1 = z1 := by rw [hr1]; simp [restAt]
  have er2 : r2 = z2 := by rw [hr2]; simp [restAt]
  k_steps
  · rename (decide (List.map _ _ = []) = true) => ho'
    have ho := of_decide_eq_true ho'
    rename Fr h₀ L' _ _ => F9
    refine ⟨?_⟩
    refine LCt.Assign_ListComp_T (m := fun z : Str => if z = "odd" then some (.ref OL) else if z = "winners" then some (.ref W) else if z = "heirs" then some (.ref HA) else if z = "d" then some (.int (d : Int) td) else ml z) (F₀ := F9) (by rfl) (by with_unfolding_all rfl) (by with_unfolding_all rfl) (by decide) (by rfl) (by decide) (by rfl) (by rfl) (by rfl) ?_
    k_steps
    refine ⟨?_⟩
    refine LCt.CompSrcT.range rfl (by assumption) (by assumption) (by assumption) (by decide) (by rfl) (by decide) ?_
    intro g'
    refine rest_range 3 (fun _ => false) (fun _ => rfl) (fun _ => rfl) (by decide) ?turn1 ?fin1
    case turn1 =>
      intro i hi ti I2 oI2 C2 oC2 D2 m₂ ys2 h2 tk2 E2 hC2 hx2 F2 N2 off2 ne2
      clear off2 ne2
      k_steps
      exact TestEnd.intro (by assumption) (by assumption) (fun p hp => hp) rfl
    case fin1 =>
      intro ys hys D h' tk F N o1
      have hof := off1_all o1
      dsimp only
      refine wpAny_execs_nil ?_
      refine hA { heap := h', gens := _, drawn := _, toks := _, os := _ } D ys _ c1 _ _ _ _ _ _ o1' o2 o3 o4 o5 o6 _ o8 o9 ⟨hL.1, hL.2⟩ F (fun p hp => N p (mem_sink (pre := [(_, _), (OL, _), (WL, _), (RL, _)]) (fr := [(W, _), (NM, _), (A2, _), (A1, _), (A0, _), (S, _), (L' + 1 + 1 + 1 + 1 + 1 + 1 + 1 + 1 + 1, _), (L' + 1 + 1 + 1 + 1 + 1 + 1 + 1 + 1, _), (L' + 1 + 1 + 1 + 1 + 1 + 1 + 1, _), (L' + 1 + 1 + 1 + 1 + 1 + 1, _), (L' + 1 + 1 + 1 + 1 + 1, _), (L' + 1 + 1 + 1 + 1, _), (L' + 1 + 1 + 1, _), (L' + 1 + 1, _), (L' + 1, _)]) hp)) d1 d2 d3 d4 d5 d6 (by assumption) d8 d9 rfl rfl rfl (ne_front (pre := [(_, _), (OL, _), (WL, _), (RL, _)]) (fr := [(W, _), (NM, _), (A2, _), (A1, _), (A0, _), (S, _), (L' + 1 + 1 + 1 + 1 + 1 + 1 + 1 + 1 + 1, _), (L' + 1 + 1 + 1 + 1 + 1 + 1 + 1 + 1, _), (L' + 1 + 1 + 1 + 1 + 1 + 1 + 1, _), (L' + 1 + 1 + 1 + 1 + 1 + 1, _), (L' + 1 + 1 + 1 + 1 + 1, _), (L' + 1 + 1 + 1 + 1, _), (L' + 1 + 1 + 1, _), (L' + 1 + 1, _), (L' + 1, _)]) hof rfl) (fun p hp => hof p (List.mem_append_right ([(_, _), (OL, _), (WL, _), (RL, _)] ++ [(W, _), (NM, _), (A2, _), (A1, _), (A0, _), (S, _), (L' + 1 + 1 + 1 + 1 + 1 + 1 + 1 + 1 + 1, _), (L' + 1 + 1 + 1 + 1 + 1 + 1 + 1 + 1, _), (L' + 1 + 1 + 1 + 1 + 1 + 1 + 1, _), (L' + 1 + 1 + 1 + 1 + 1 + 1, _), (L' + 1 + 1 + 1 + 1 + 1, _), (L' + 1 + 1 + 1 + 1, _), (L' + 1 + 1 + 1, _), (L' + 1 + 1, _), (L' + 1, _)]) hp)) ?_
      have hz : oddOf z0 z1 z2 = [] := by
        rw [← er0, ← er1, ← er2]
        exact List.map_eq_nil_iff.mp ho
      have hh0 : heirsOf z0 z1 z2 = [] := p_none ⟨z0, hz0⟩ ⟨z1, hz1⟩ ⟨z2, hz2⟩ hz
      rw [hh0]
      exact hys
  · rename (decide (List.map _ _ = []) = false) => ho'
    have ho := of_decide_eq_false ho'
    rename Fr h₀ L' _ _ => F9
    rename (∀ a : Int, a ∈ List.map _ _ → a ≤ _) => hle
    rename (_ ∈ List.map _ _) => hM
    obtain ⟨hn, hmem, rfl⟩ := List.mem_map.mp hM
    have hn3 : hn < 3 := by
      have := (List.mem_filter.mp hmem).1
      simp at this
      omega
    refine ⟨?_⟩
    refine LCt.Assign_ListComp_T (m := fun z : Str => if z = "odd" then some (.ref OL) else if z = "winners" then some (.ref W) else if z = "heirs" then some (.ref HA) else if z = "d" then some (.int (d : Int) td) else ml z) (F₀ := F9) (by rfl) (by with_unfolding_all rfl) (by with_unfolding_all rfl) (by decide) (by rfl) (by decide) (by rfl) (by rfl) (by rfl) ?_
    k_steps
    refine ⟨?_⟩
    refine LCt.CompSrcT.range rfl (by assumption) (by assumption) (by assumption) (by decide) (by rfl) (by decide) ?_
    intro g'
    refine rest_range 3 (fun i => bitOf r0 r1 r2 i hn) (fun _ => rfl) (fun _ => rfl) (by decide) ?turn2 ?fin2
    case turn2 =>
      intro i hi ti I2 oI2 C2 oC2 D2 m₂ ys2 h2 tk2 E2 hC2 hx2 F2 N2 off2 ne2
      clear off2 ne2
      obtain rfl | rfl | rfl : hn = 0 ∨ hn = 1 ∨ hn = 2 := by omega
      all_goals k_steps
      all_goals exact TestEnd.intro (by assumption) (by assumption) (fun p hp => hp) (Eq.symm (by assumption))
    case fin2 =>
      intro ys hys D h' tk F N o1
      have hof := off1_all o1
      dsimp only
      refine wpAny_execs_nil ?_
      refine hA { heap := h', gens := _, drawn := _, toks := _, os := _ } D ys _ c1 _ _ _ _ _ _ o1' o2 o3 o4 o5 o6 _ o8 o9 ⟨hL.1, hL.2⟩ F (fun p hp => N p (mem_sink (pre := [(_, _), (OL, _), (WL, _), (RL, _)]) (fr := [(W, _), (NM, _), (A2, _), (A1, _), (A0, _), (S, _), (L' + 1 + 1 + 1 + 1 + 1 + 1 + 1 + 1 + 1, _), (L' + 1 + 1 + 1 + 1 + 1 + 1 + 1 + 1, _), (L' + 1 + 1 + 1 + 1 + 1 + 1 + 1, _), (L' + 1 + 1 + 1 + 1 + 1 + 1, _), (L' + 1 + 1 + 1 + 1 + 1, _), (L' + 1 + 1 + 1 + 1, _), (L' + 1 + 1 + 1, _), (L' + 1 + 1, _), (L' + 1, _)]) hp)) d1 d2 d3 d4 d5 d6 (by assumption) d8 d9 rfl rfl rfl (ne_front (pre := [(_, _), (OL, _), (WL, _), (RL, _)]) (fr := [(W, _), (NM, _), (A2, _), (A1, _), (A0, _), (S, _), (L' + 1 + 1 + 1 + 1 + 1 + 1 + 1 + 1 + 1, _), (L' + 1 + 1 + 1 + 1 + 1 + 1 + 1 + 1, _), (L' + 1 + 1 + 1 + 1 + 1 + 1 + 1, _), (L' + 1 + 1 + 1 + 1 + 1 + 1, _), (L' + 1 + 1 + 1 + 1 + 1, _), (L' + 1 + 1 + 1 + 1, _), (L' + 1 + 1 + 1, _), (L' + 1 + 1, _), (L' + 1, _)]) hof rfl) (fun p hp => hof p (List.mem_append_right ([(_, _), (OL, _), (WL, _), (RL, _)] ++ [(W, _), (NM, _), (A2, _), (A1, _), (A0, _), (S, _), (L' + 1 + 1 + 1 + 1 + 1 + 1 + 1 + 1 + 1, _), (L' + 1 + 1 + 1 + 1 + 1 + 1 + 1 + 1, _), (L' + 1 + 1 + 1 + 1 + 1 + 1 + 1, _), (L' + 1 + 1 + 1 + 1 + 1 + 1, _), (L' + 1 + 1 + 1 + 1 + 1, _), (L' + 1 + 1 + 1 + 1, _), (L' + 1 + 1 + 1, _), (L' + 1 + 1, _), (L' + 1, _)]) hp)) ?_
      have hm2 : hn ∈ oddOf z0 z1 z2 := by
        rw [← er0, ← er1, ← er2]
        exact hmem
      have hl2 : ∀ a ∈ oddOf z0 z1 z2, a ≤ hn := by
        intro a ha
        rw [← er0, ← er1, ← er2] at ha
        have := hle (a : Int) (List.mem_map.mpr ⟨a, ha, rfl⟩)
        omega
      have hh1 : heirsOf z0 z1 z2 = ([0, 1, 2] : List Nat).filter fun i => bitOf z0 z1 z2 i hn := p_high ⟨z0, hz0⟩ ⟨z1, hz1⟩ ⟨z2, hz2⟩ ⟨hn, hn3⟩ hm2 hl2
      rw [hh1]
      unfold keptN at hys
      rw [er0, er1, er2] at hys
      exact hys
end Mine
namespace Mine
open PySem PySem.W PySem.Calls PyProof.Rows PySem.Spec
noncomputable def upTo (z0 z1 z2 i t : Nat) : List (Nat × Nat) := ((0, 0) :: (List.range i).flatMap fun j => (List.range ([z0, z1, z2].getD j 0)).map fun t => (j, t + 1)) ++ (List.range t).map fun t => (i, t + 1)
theorem upTo_len (z0 z1 z2 i t : Nat) (hi : i < 4) (h0 : z0 < 5) (h1 : z1 < 5) (h2 : z2 < 5) (ht : t < 5) : (upTo z0 z1 z2 i t).length ≤ 19 := by
  obtain rfl | rfl | rfl | rfl : i = 0 ∨ i = 1 ∨ i = 2 ∨ i = 3 := by lia
  all_goals (simp [upTo, List.range_succ]; try lia)
theorem upTo_next (z0 z1 z2 i : Nat) : upTo z0 z1 z2 i ([z0, z1, z2].getD i 0) = upTo z0 z1 z2 (i + 1) 0 := by
  simp [upTo, List.range_succ]
theorem upTo_snoc (z0 z1 z2 i t : Nat) : upTo z0 z1 z2 i t ++ [(i, t + 1)] = upTo z0 z1 z2 i (t + 1) := by
  simp [upTo, List.range_succ]
theorem upTo_all (z0 z1 z2 : Nat) : upTo z0 z1 z2 3 0 = movesOf z0 z1 z2 := by
  simp [upTo, movesOf, List.range_succ]
theorem MovesAre.snoc {tl tl' : List (Addr × Obj)} {its : List Value} {ms : List (Nat × Nat)} {a : Addr} {o : Obj} {j t : Nat} {ta tb : Tok} {n : Nat} (h : MovesAre tl its ms) (hs : ∀ p ∈ tl, p ∈ tl') (ha : (a, o) ∈ tl') (hc : o.cls = .type "tuple") (hd : o.data = .seq #[.int (j : Int) ta, .int (t : Int) tb] n) :
    MovesAre tl' (its ++ [.ref a]) (ms ++ [(j, t)]) := by
  obtain ⟨hl, hm⟩ := h
  refine ⟨by simp [hl], fun i p hp => ?_⟩
  by_cases hi : i < ms.length
  · rw [List.getElem?_append_left hi] at hp
    obtain ⟨a', o', ta', tb', n', h1, h2, h3⟩ := hm i p hp
    exact ⟨a', o', ta', tb', n', by rw [List.getElem?_append_left (by lia)]; exact h1, hs _ h2, h3⟩
  · rw [List.getElem?_append_right (by lia)] at hp
    have hi' : i - ms.length = 0 := by
      have := List.getElem?_eq_some_iff.mp hp
      obtain ⟨h, _⟩ := this
      simp at h; lia
    rw [hi'] at hp
    simp at hp
    subst hp
    refine ⟨a, o, ta, tb, n, ?_, ha, hc, hd⟩
    rw [List.getElem?_append_right (by lia), hl, hi']; rfl
theorem MovesAre.sub {tl tl' : List (Addr × Obj)} {its : List Value} {ms : List (Nat × Nat)} (h : MovesAre tl its ms) (hs : ∀ p ∈ tl, p ∈ tl') : MovesAre tl' its ms :=
  ⟨h.1, fun i p hp => let ⟨a, o, ta, tb, n, h1, h2, h3⟩ := h.2 i p hp; ⟨a, o, ta, tb, n, h1, hs _ h2, h3⟩⟩
/-- the moves laid so far -/
noncomputable def JM (S : Addr) (z0 z1 z2 : Nat) (t0 t1 t2 : Tok) (NM A0 A1 A2 MV : Addr) (n0 n1 n2 n3 n4 n5 n6 n7 n8 : Tok) (k0 k1 k2 k3 : Nat) (L' : Nat) (d : Nat) (td : Tok) (o1 o2 o3 o4 o7 o8 o9 : Obj) (i t : Nat) (P : Option Value → Prop) (own : List (Addr × Obj)) (m : Str → Option Value) (nx : List (Addr × Obj)) : Prop :=
  ∃ (its : List Value) (mvn : Nat) (tl : List (Addr × Obj)) (v5 v6 : Option Value) (o5 o6 : Obj), nx = ([(MV, listOf its.toArray mvn)] ++ [(NM, listOf #[.ref A0, .ref A1, .ref A2] k0), (A2, listOf #[.str (Str.ofString "OPTIMIZED") n6, .str (Str.ofString "NEWLOCALS") n7, .str (Str.ofString "VARARGS") n8] k3), (A1, listOf #[.str (Str.ofString "NOFREE") n3, .str (Str.ofString "COROUTINE") n4, .str (Str.ofString "ITERABLE_COROUTINE") n5] k2), (A0, listOf #[.str (Str.ofString "0x1000") n0, .str (Str.ofString "0x2000") n1, .str (Str.ofString "0x4000") n2] k1), (S, listOf #[.int (z0 : Int) t0, .int (z1 : Int) t1, .int (z2 : Int) t2] 3), (L' + 1 + 1 + 1 + 1 + 1 + 1 + 1 + 1 + 1, o9), (L' + 1 + 1 + 1 + 1 + 1 + 1 + 1 + 1, o8), (L' + 1 + 1 + 1 + 1 + 1 + 1 + 1, o7), (L' + 1 + 1 + 1 + 1 + 1 + 1, o6), (L' + 1 + 1 + 1 + 1 + 1, o5), (L' + 1 + 1 + 1 + 1, o4), (L' + 1 + 1 + 1, o3), (L' + 1 + 1, o2), (L' + 1, o1)]) ++ (tl ++ own) ∧ MovesAre tl its (upTo z0 z1 z2 i t) ∧
    OwnOff tl [MV, NM, A2, A1, A0, S, L' + 1 + 1 + 1 + 1 + 1 + 1 + 1 + 1 + 1, L' + 1 + 1 + 1 + 1 + 1 + 1 + 1 + 1, L' + 1 + 1 + 1 + 1 + 1 + 1 + 1, L' + 1 + 1 + 1 + 1 + 1 + 1, L' + 1 + 1 + 1 + 1 + 1, L' + 1 + 1 + 1 + 1, L' + 1 + 1 + 1, L' + 1 + 1, L' + 1] ∧ OwnOff own ([MV, NM, A2, A1, A0, S, L' + 1 + 1 + 1 + 1 + 1 + 1 + 1 + 1 + 1, L' + 1 + 1 + 1 + 1 + 1 + 1 + 1 + 1, L' + 1 + 1 + 1 + 1 + 1 + 1 + 1, L' + 1 + 1 + 1 + 1 + 1 + 1, L' + 1 + 1 + 1 + 1 + 1, L' + 1 + 1 + 1 + 1, L' + 1 + 1 + 1, L' + 1 + 1, L' + 1] ++ tl.map (·.1)) ∧ P v5 ∧ o5.data = .cell v5 ∧ o6.data = .cell v6 ∧ m "moves" = some (.ref MV) ∧ m "d" = some (.int (d : Int) td)
theorem app_2 {w : World} {A : Around} {E : Value → Shared → Prop} {s : Shared} {h₀ : Heap} {L a : Addr} {m : Str → Option Value} {items : Array Value} {c : Nat} {v : Value} {t : Addr × Obj} {rest : List (Addr × Obj)} {Q : Value → Shared → Prop} (F : Fr h₀ L s.heap m) (N : News h₀ L s.heap (t :: (a, listOf items c) :: rest)) (ht : t.1 ≠ a) (hne : ∀ p ∈ rest, p.1 ≠ a) (hl : items.size ≤ 1000)
    (h : ∀ h', Fr h₀ L h' m → News h₀ L h' (t :: (a, listOf (items.push v) (c + 1)) :: rest) → Q .none { s with heap := h' }) : wpAny (model rwp w) A (call (.builtin "list.append") [.ref a, v]) Q E s :=
  append_K F N (Upd.tail ht (Upd.head hne)) h (Nat.le_trans hl (by decide))
theorem small_z : ∀ z : Fin 5, Builtin.Range.small 1 ((z.val : Int) + 1) 1 = true := by decide +kernel
theorem size_z : ∀ z : Fin 5, Builtin.Range.rangeSize 1 ((z.val : Int) + 1) 1 = ((z.val : Nat) : Int) := by decide +kernel
theorem led_back {h₀ h : Heap} {L : Addr} {a t : Addr × Obj} {rest : List (Addr × Obj)} (N : News h₀ L h (a :: t :: rest)) : News h₀ L h (([a] ++ rest) ++ ([t] ++ [])) := fun p hp => N p (by
  simp only [List.mem_append, List.mem_cons, List.not_mem_nil, or_false] at hp ⊢
  rcases hp with (h | h) | h
  · exact .inl h
  · exact .inr (.inr h)
  · exact .inr (.inl h))
theorem LEndW.fst {h₀ : Heap} {L : Addr} {J : (Str → Option Value) → List (Addr × Obj) → Prop} {own nx : List (Addr × Obj)} {s₁ s₂ : Shared} {Q : Flow → Shared → Prop} {m' : Str → Option Value} (F : Fr h₀ L s₂.heap m') (N : News h₀ L s₂.heap (nx ++ own)) (hj : J m' nx) (hL : Later s₁ s₂) (ho : OwnOff own (nx.map (·.1))) : LEndW h₀ L J own s₁ Q .next s₂ :=
  ⟨m', nx ++ own, nx, hL, F, N, fun p hp => List.mem_append_left _ hp, fun p hp => List.mem_append_right _ hp, ho, hj⟩
theorem own_app {a b : List (Addr × Obj)} {A : List Addr} (h : OwnOff a A) (k : OwnOff b A) : OwnOff (a ++ b) A := fun p hp => by
  rcases List.mem_append.mp hp with hp | hp
  · exact h p hp
  · exact k p hp
theorem own_sub {a : List (Addr × Obj)} {A B : List Addr} (h : OwnOff a A) (hs : ∀ x ∈ B, x ∈ A) : OwnOff a B := fun p hp b hb => h p hp b (hs b hb)
theorem as2 {m : Str → Option Value} {v0 v1 : Option Value} (h0 : m "moves" = v0) (h1 : m "d" = v1) : m = fun z : Str => if z = "moves" then v0 else if z = "d" then v1 else m z := by
  funext z
  by_cases e0 : z = "moves"
  · rw [if_pos e0, e0, h0]
  rw [if_neg e0]
  by_cases e1 : z = "d"
  · rw [if_pos e1, e1, h1]
  rw [if_neg e1]
theorem led_sink {h₀ h : Heap} {L : Addr} {t a : Addr × Obj} {fr tlb own own2 tl3 : List (Addr × Obj)} (h3 : tlb ++ (own ++ own2) = tl3) (N : News h₀ L h (t :: a :: (fr ++ tl3))) : News h₀ L h ((([a] ++ fr) ++ ((t :: tlb) ++ own)) ++ own2) := fun p hp => N p (by
  subst h3
  simp only [List.mem_append, List.mem_cons, List.not_mem_nil, or_false] at hp ⊢
  rcases hp with ((h | h) | (h | h) | h) | h
  · exact .inr (.inl h)
  · exact .inr (.inr (.inl h))
  · exact .inl h
  · exact .inr (.inr (.inr (.inl h)))
  · exact .inr (.inr (.inr (.inr (.inl h))))
  · exact .inr (.inr (.inr (.inr (.inr h)))))
theorem led_end {h₀ h : Heap} {L : Addr} {a fr tlb own : List (Addr × Obj)} (N : News h₀ L h ((a ++ fr) ++ (tlb ++ own))) : News h₀ L h (((a ++ fr) ++ (tlb ++ [])) ++ own) := by
  rw [List.append_nil, List.append_assoc]
  exact N
theorem all_of {a : Addr} : ∀ {l : List (Addr × Obj)}, AllLt a l → ∀ p ∈ l, @LT.lt Nat _ p.1 a
  | [], _, _, h => nomatch h
  | q :: l, h, p, hp => by
    rcases List.mem_cons.mp hp with rfl | hp
    · exact h.1
    · exact all_of h.2 p hp
theorem lt_front {T : Addr} {A : List Addr} {fr tl : List (Addr × Obj)} (l : ∀ p ∈ fr ++ tl, @LT.lt Nat _ p.1 T) (e : fr.map Prod.fst = A) : ∀ b ∈ A, @LT.lt Nat _ b T := fun b hb => by
  rw [← e] at hb
  obtain ⟨q, hq, rfl⟩ := List.mem_map.mp hb
  exact l q (List.mem_append_left _ hq)
theorem own_T {o2 : List (Addr × Obj)} {A B : List Addr} {T : Addr} (h : OwnOff o2 (A ++ B)) (l : ∀ p ∈ o2, @LT.lt Nat _ p.1 T) : OwnOff o2 (A ++ (T :: B)) := fun p hp b hb => by
  rcases List.mem_append.mp hb with hb | hb
  · exact h p hp b (List.mem_append_left _ hb)
  · rcases List.mem_cons.mp hb with rfl | hb
    · exact Nat.ne_of_lt (l p hp)
    · exact h p hp b (List.mem_append_right _ hb)
theorem own_cons {t : Addr × Obj} {tl : List (Addr × Obj)} {A : List Addr} (h : OwnOff tl A) (l : ∀ b ∈ A, @LT.lt Nat _ b t.1) : OwnOff (t :: tl) A := fun p hp b hb => by
  rcases List.mem_cons.mp hp with rfl | hp
  · exact Nat.ne_of_gt (l b hb)
  · exact h p hp b hb
theorem tup_two {M : Model} {A : Around} {E : Value → Shared → Prop} {s : Shared} {h₀ : Heap} {L : Addr} {m : Str → Option Value} {news : List (Addr × Obj)} {a b : Int} {t u : Tok} {Q : Value → Shared → Prop} (F : Fr h₀ L s.heap m) (N : News h₀ L s.heap news)
    (h : ∀ D h', Fr h₀ L h' m → News h₀ L h' ((D, ({ cls := .type "tuple", data := .seq [.int a t, .int b u].toArray } : Obj)) :: news) → (∀ p ∈ news, p.1 < D) → Q (.ref D) { s with heap := h' }) : wpAny M A (newTuple [.int a t, .int b u]) Q E s :=
  kup_newTuple F N h (Nat.le_of_ble_eq_true rfl)
local macro_rules | `(tactic| walk_at "newTuple") => `(tactic| (with_reducible apply tup_two; k_asm; k_asm; intro D' h' F' N' l1; have n1 := (Nat.ne_of_lt (l1 _ List.mem_cons_self)).symm; dsimp only at n1))
theorem stop_for {M : Model} {A : Around} {E : Value → Shared → Prop} {s : Shared} {Q : Flow → Shared → Prop} {a b c i y o u r env} (h : Hold (wpAny M A (execs (.For (.Tuple a b c) i y o u :: r) env) Q E s)) : wpAny M A (execs (.For (.Tuple a b c) i y o u :: r) env) Q E s := h.1
local macro_rules | `(tactic| walk_at "execs cons") => `(tactic| with_reducible apply stop_for)
local macro_rules | `(tactic| walk_at "call builtin:list.append") => `(tactic| with_reducible apply app_2; k_asm; k_asm; k_ne; k_dflt k_all; (rw [List.size_toArray]; lia); intros)
set_option maxHeartbeats 1500000 in
theorem seg5 (w : World) (loose : List Str) (mean : ExcName → Option Value) (mg mb : Str → Option Value) (h₀ : Heap) (L' fa l : Addr) (cdv : Value) (s0 : Shared) (Q : Flow → Shared → Prop) (E : Value → Shared → Prop)
    (X : (K w.params).In h₀) (TT : Top qv loose mean mg mb h₀) (B : Below callerA h₀ [] h₀) (h10 : Seg10 w loose mean mg mb h₀ L' fa l cdv s0 Q E) : Seg5 w loose mean mg mb h₀ L' fa l cdv s0 Q E := by
  unfold Seg5 rwp
  revert X
  k_fill
  intro X s S z0 z1 z2 e d t0 t1 t2 te td NM A0 A1 A2 c1 n0 n1 n2 n3 n4 n5 n6 n7 n8 k0 k1 k2 k3 o1 o2 o3 o4 o5 o6 o7 o8 o9 hS hz0 hz1 hz2 he hd hNM hA0 hA1 hA2 hL0 F N d1 d2 d3 d4 d5 d6 d7 d8 d9
  obtain ⟨p1, p2, p3, p4, p5, p6, p7, p8, p9⟩ := id hS
  show wpAny _ _ (execs (_ :: _) _) _ _ _
  k_steps
  rename IsRange _ _ _ _ _ _ _ _ => RR
  rename Fr h₀ L' _ _ => FF
  rename News h₀ L' _ _ => NN
  rename (@LT.lt Nat _ _ _) ∧ _ => lM
  obtain ⟨q0, q1, q2, q3, q4, q5, q6, q7, q8, q9, q10, q11, q12, q13, q14⟩ := lM
  rename (∀ p : Addr × Obj, p ∈ _ → @LT.lt Nat _ _ _) => lT
  k_lt lT
  obtain ⟨g0, g1, g2, g3, g4, g5, g6, g7, g8, g9, g10, g11, g12, g13⟩ := lT
  rename_i T0 _ nT MV _ _ F' N' _ _ _ _ _ _
  refine for_rangeW (by rfl) RR (by decide) (n := 3) (by rfl) FF (led_back NN) (fun i => JM S z0 z1 z2 t0 t1 t2 NM A0 A1 A2 MV n0 n1 n2 n3 n4 n5 n6 n7 n8 k0 k1 k2 k3 L' d td o1 o2 o3 o4 o7 o8 o9 i 0 (fun _ => True) []) ?j0 ?step ?done
  case j0 => exact ⟨[.ref T0], 0, [(T0, _)], _, _, o5, o6, rfl, ⟨rfl, fun i p hp => by
      cases i with
      | zero => cases hp; exact ⟨T0, _, _, _, _, rfl, List.mem_singleton.mpr rfl, rfl, rfl⟩
      | succ i => cases hp⟩, by
        intro p hp b hb
        rw [List.mem_singleton.mp hp]
        show T0 ≠ b
        simp only [List.mem_cons, List.not_mem_nil, or_false] at hb
        rcases hb with rfl | rfl | rfl | rfl | rfl | rfl | rfl | rfl | rfl | rfl | rfl | rfl | rfl | rfl | rfl
        · exact Nat.ne_of_lt q0
        all_goals exact Nat.ne_of_gt (by assumption), fun p hp => (nomatch hp), trivial, d5, d6, rfl, rfl⟩
  case step =>
    intro i t m₁ news₁ s₁ own hL hi hJ ho F₁ N₁
    obtain ⟨its, mvn, tl, v5, v6, o5, o6, rfl, hM, hO, hOw, -, e5, e6, hm1, hm2⟩ := hJ
    obtain ⟨g, hgd, hg, hgz⟩ : ∃ g : Nat, [z0, z1, z2].getD i 0 = g ∧ g < 5 ∧ [(z0 : Int), (z1 : Int), (z2 : Int)].getD (0 + (i : Int)).toNat 0 = (g : Int) := by
      obtain rfl | rfl | rfl : i = 0 ∨ i = 1 ∨ i = 2 := by lia
      · exact ⟨z0, rfl, hz0, rfl⟩
      · exact ⟨z1, rfl, hz1, rfl⟩
      · exact ⟨z2, rfl, hz2, rfl⟩
    have ho' : OwnOff own ([MV, NM, A2, A1, A0, S, L' + 1 + 1 + 1 + 1 + 1 + 1 + 1 + 1 + 1, L' + 1 + 1 + 1 + 1 + 1 + 1 + 1 + 1, L' + 1 + 1 + 1 + 1 + 1 + 1 + 1, L' + 1 + 1 + 1 + 1 + 1 + 1, L' + 1 + 1 + 1 + 1 + 1, L' + 1 + 1 + 1 + 1, L' + 1 + 1 + 1, L' + 1 + 1, L' + 1] ++ (tl ++ []).map Prod.fst) := ho
    rw [List.append_nil] at ho'
    have hO1 : OwnOff own [MV, NM, A2, A1, A0, S, L' + 1 + 1 + 1 + 1 + 1 + 1 + 1 + 1 + 1, L' + 1 + 1 + 1 + 1 + 1 + 1 + 1 + 1, L' + 1 + 1 + 1 + 1 + 1 + 1 + 1, L' + 1 + 1 + 1 + 1 + 1 + 1, L' + 1 + 1 + 1 + 1 + 1, L' + 1 + 1 + 1 + 1, L' + 1 + 1 + 1, L' + 1 + 1, L' + 1] := fun p hp b hb => ho' p hp b (List.mem_append_left _ hb)
    have hO2 : OwnOff (tl ++ own) [MV, NM, A2, A1, A0, S, L' + 1 + 1 + 1 + 1 + 1 + 1 + 1 + 1 + 1, L' + 1 + 1 + 1 + 1 + 1 + 1 + 1 + 1, L' + 1 + 1 + 1 + 1 + 1 + 1 + 1, L' + 1 + 1 + 1 + 1 + 1 + 1, L' + 1 + 1 + 1 + 1 + 1, L' + 1 + 1 + 1 + 1, L' + 1 + 1 + 1, L' + 1 + 1, L' + 1] := own_app hO hO1
    rw [as2 hm1 hm2] at F₁
    simp only [List.cons_append, List.nil_append, List.append_nil, List.append_assoc] at N₁
    generalize ht2 : tl ++ own = tl2 at N₁ hO2
    obtain ⟨h₁, gs₁, d₁, tk₁, os₁⟩ := s₁
    dsimp only at F₁ N₁
    clear FF NN RR F' N'
    k_steps
    rename IsRange _ _ _ _ _ _ _ _ => RR
    rename Fr h₀ L' _ _ => FF
    rename News h₀ L' _ _ => NN
    try rw [hgz] at RR
    rename_i o5n e5n _ _ _ _ _ _ _ _ _ _ _ _ _ _
    trace_state
    refine for_rangeW (by rfl) RR (small_z ⟨g, hg⟩) (n := g) (size_z ⟨g, hg⟩) FF NN (fun t => JM S z0 z1 z2 t0 t1 t2 NM A0 A1 A2 MV n0 n1 n2 n3 n4 n5 n6 n7 n8 k0 k1 k2 k3 L' d td o1 o2 o3 o4 o7 o8 o9 i t (fun v => ∃ t, v = some (.int (0 + (i : Int)) t)) own) ?j1 ?step1 ?done1
    case j1 => exact ⟨its, mvn, tl, _, _, _, _, by rw [ht2]; rfl, hM, hO, ho', ⟨_, rfl⟩, by assumption, e6, rfl, rfl⟩
    case step1 =>
      intro t' tt m₂ news₂ s₂ own2 hL2 ht' hJ2 ho2 F₂ N₂
      obtain ⟨its2, mvn2, tlb, v5b, v6b, o5b, o6b, rfl, hM2, hOb, hOwb, ⟨tj, rfl⟩, e5b, e6b, hn1, hn2⟩ := hJ2
      have ho2' : OwnOff own2 ([MV, NM, A2, A1, A0, S, L' + 1 + 1 + 1 + 1 + 1 + 1 + 1 + 1 + 1, L' + 1 + 1 + 1 + 1 + 1 + 1 + 1 + 1, L' + 1 + 1 + 1 + 1 + 1 + 1 + 1, L' + 1 + 1 + 1 + 1 + 1 + 1, L' + 1 + 1 + 1 + 1 + 1, L' + 1 + 1 + 1 + 1, L' + 1 + 1 + 1, L' + 1 + 1, L' + 1] ++ (tlb ++ own).map Prod.fst) := ho2
      have hO2 : OwnOff own2 [MV, NM, A2, A1, A0, S, L' + 1 + 1 + 1 + 1 + 1 + 1 + 1 + 1 + 1, L' + 1 + 1 + 1 + 1 + 1 + 1 + 1 + 1, L' + 1 + 1 + 1 + 1 + 1 + 1 + 1, L' + 1 + 1 + 1 + 1 + 1 + 1, L' + 1 + 1 + 1 + 1 + 1, L' + 1 + 1 + 1 + 1, L' + 1 + 1 + 1, L' + 1 + 1, L' + 1] := fun p hp b hb => ho2' p hp b (List.mem_append_left _ hb)
      have hO1' : OwnOff own [MV, NM, A2, A1, A0, S, L' + 1 + 1 + 1 + 1 + 1 + 1 + 1 + 1 + 1, L' + 1 + 1 + 1 + 1 + 1 + 1 + 1 + 1, L' + 1 + 1 + 1 + 1 + 1 + 1 + 1, L' + 1 + 1 + 1 + 1 + 1 + 1, L' + 1 + 1 + 1 + 1 + 1, L' + 1 + 1 + 1 + 1, L' + 1 + 1 + 1, L' + 1 + 1, L' + 1] := fun p hp b hb => hOwb p hp b (List.mem_append_left _ hb)
      have hO3 : OwnOff (tlb ++ (own ++ own2)) [MV, NM, A2, A1, A0, S, L' + 1 + 1 + 1 + 1 + 1 + 1 + 1 + 1 + 1, L' + 1 + 1 + 1 + 1 + 1 + 1 + 1 + 1, L' + 1 + 1 + 1 + 1 + 1 + 1 + 1, L' + 1 + 1 + 1 + 1 + 1 + 1, L' + 1 + 1 + 1 + 1 + 1, L' + 1 + 1 + 1 + 1, L' + 1 + 1 + 1, L' + 1 + 1, L' + 1] := own_app hOb (own_app hO1' hO2)
      rw [as2 hn1 hn2] at F₂
      simp only [List.cons_append, List.nil_append, List.append_nil, List.append_assoc] at N₂
      generalize ht3 : tlb ++ (own ++ own2) = tl3 at N₂ hO3
      obtain ⟨h₂, gs₂, d₂, tk₂, os₂⟩ := s₂
      dsimp only at F₂ N₂
      clear FF NN RR
      have hlen : its2.length ≤ 100 := by
        have := upTo_len z0 z1 z2 i t' (by lia) hz0 hz1 hz2 (by lia)
        have := hM2.1
        lia
      k_steps
      rename (∀ p : Addr × Obj, p ∈ _ → @LT.lt Nat _ _ _) => lD
      rename Fr h₀ L' _ _ => F9
      rename News h₀ L' _ _ => N9
      rw [List.push_toArray] at N9
      have lA := lt_front (A := [MV, NM, A2, A1, A0, S, L' + 1 + 1 + 1 + 1 + 1 + 1 + 1 + 1 + 1, L' + 1 + 1 + 1 + 1 + 1 + 1 + 1 + 1, L' + 1 + 1 + 1 + 1 + 1 + 1 + 1, L' + 1 + 1 + 1 + 1 + 1 + 1, L' + 1 + 1 + 1 + 1 + 1, L' + 1 + 1 + 1 + 1, L' + 1 + 1 + 1, L' + 1 + 1, L' + 1]) (fr := [(MV, _)] ++ [(NM, _), (A2, _), (A1, _), (A0, _), (S, _), (L' + 1 + 1 + 1 + 1 + 1 + 1 + 1 + 1 + 1, _), (L' + 1 + 1 + 1 + 1 + 1 + 1 + 1 + 1, _), (L' + 1 + 1 + 1 + 1 + 1 + 1 + 1, _), (L' + 1 + 1 + 1 + 1 + 1 + 1, _), (L' + 1 + 1 + 1 + 1 + 1, _), (L' + 1 + 1 + 1 + 1, _), (L' + 1 + 1 + 1, _), (L' + 1 + 1, _), (L' + 1, _)]) lD rfl
      have lt3 : ∀ p ∈ tlb ++ (own ++ own2), @LT.lt Nat _ p.1 _ := fun p hp => lD p (List.mem_append_right ([(MV, _)] ++ [(NM, _), (A2, _), (A1, _), (A0, _), (S, _), (L' + 1 + 1 + 1 + 1 + 1 + 1 + 1 + 1 + 1, _), (L' + 1 + 1 + 1 + 1 + 1 + 1 + 1 + 1, _), (L' + 1 + 1 + 1 + 1 + 1 + 1 + 1, _), (L' + 1 + 1 + 1 + 1 + 1 + 1, _), (L' + 1 + 1 + 1 + 1 + 1, _), (L' + 1 + 1 + 1 + 1, _), (L' + 1 + 1 + 1, _), (L' + 1 + 1, _), (L' + 1, _)]) (ht3 ▸ hp))
      refine LEndW.fst F9 (led_sink (fr := [(NM, _), (A2, _), (A1, _), (A0, _), (S, _), (L' + 1 + 1 + 1 + 1 + 1 + 1 + 1 + 1 + 1, _), (L' + 1 + 1 + 1 + 1 + 1 + 1 + 1 + 1, _), (L' + 1 + 1 + 1 + 1 + 1 + 1 + 1, _), (L' + 1 + 1 + 1 + 1 + 1 + 1, _), (L' + 1 + 1 + 1 + 1 + 1, _), (L' + 1 + 1 + 1 + 1, _), (L' + 1 + 1 + 1, _), (L' + 1 + 1, _), (L' + 1, _)]) ht3 N9) ⟨_, _, _, _, _, _, _, rfl, ?mv, own_cons hOb lA, own_T hOwb fun p hp => lt3 p (List.mem_append_right _ (List.mem_append_left _ hp)), ⟨tj, rfl⟩, e5b, by assumption, rfl, rfl⟩ ⟨rfl, rfl⟩ ?oo
      case mv =>
        rw [← upTo_snoc]
        exact hM2.snoc (fun p hp => List.mem_cons_of_mem _ hp) List.mem_cons_self rfl (n := 0) (ta := tj) (tb := tt) (by simp [Int.add_comm])
      case oo => exact own_T ho2' fun p hp => lt3 p (List.mem_append_right _ (List.mem_append_right _ hp))
    case done1 =>
      intro m₂ news₂ s₂ hL2 hJ2 F₂ N₂
      obtain ⟨its2, mvn2, tlb, v5b, v6b, o5b, o6b, rfl, hM2, hOb, hOwb, ⟨tj, rfl⟩, e5b, e6b, hn1, hn2⟩ := hJ2
      rw [← hgd, upTo_next] at hM2
      refine wpAny_execs_nil ?_
      dsimp only
      refine wpAny_execs_nil ?_
      exact LEndW.fst F₂ (led_end N₂) ⟨_, _, _, _, _, _, _, rfl, hM2, hOb, fun p hp => (nomatch hp), trivial, e5b, e6b, hn1, hn2⟩ ⟨hL2.1, hL2.2⟩ (by rw [List.append_nil]; exact hOwb)
  case done =>
    intro m₁ news₁ s₁ hL hJ F₁ N₁
    obtain ⟨its, mvn, tl, v5, v6, o5, o6, rfl, hM, hO, hOw, -, e5, e6, hm1, hm2⟩ := hJ
    rw [upTo_all] at hM
    rw [as2 hm1 hm2] at F₁
    simp only [List.cons_append, List.nil_append, List.append_nil, List.append_assoc] at N₁
    obtain ⟨h₁, gs₁, d₁, tk₁, os₁⟩ := s₁
    dsimp only at F₁ N₁
    clear FF NN RR F' N'
    refine wpAny_execs_nil ?_
    dsimp only
    k_steps
    rename (@LT.lt Nat _ _ _) ∧ _ => lW
    obtain ⟨w0, w1, w2, w3, w4, w5, w6, w7, w8, w9, w10, w11, w12, w13, w14, w15, w16⟩ := lW
    rename (@LT.lt Nat _ _ _) ∧ _ => lH
    obtain ⟨v0, v1, v2, v3, v4, v5, v6, v7, v8, v9, v10, v11, v12, v13, v14, v15⟩ := lH
    have hlen : its.length ≤ 20 := by
      have := upTo_len z0 z1 z2 3 0 (by lia) hz0 hz1 hz2 (by lia)
      rw [upTo_all] at this
      have := hM.1
      lia
    refine ⟨h10 _ S z0 z1 z2 e d t0 t1 t2 te td _ NM A0 A1 A2 _ _ MV c1 _ _ n0 n1 n2 n3 n4 n5 n6 n7 n8 k0 k1 k2 k3 _ _ _ its tl _ o1 o2 o3 o4 o5 o6 _ o8 o9 hS hz0 hz1 hz2 he hd hNM hA0 hA1 hA2 ?a1 ?a2 ?a3 (Nat.ne_of_lt w0) (Nat.ne_of_lt w1) (Nat.ne_of_lt w2) (Nat.ne_of_lt w3) (Nat.ne_of_lt w4) (Nat.ne_of_lt w5) (Nat.ne_of_lt w6) (Nat.ne_of_gt v0) (Nat.ne_of_lt q1) (Nat.ne_of_lt q2) (Nat.ne_of_lt q3) (Nat.ne_of_lt q4) (Nat.ne_of_lt q5) (Nat.ne_of_lt v1) (Nat.ne_of_lt v2) (Nat.ne_of_lt v3) (Nat.ne_of_lt v4) (Nat.ne_of_lt v5) hM hlen ?a4 rfl rfl rfl rfl ⟨hL.1.trans hL0.1, hL.2.trans hL0.2⟩ (by assumption) (by assumption) d1 d2 d3 d4 e5 e6 (by assumption) d8 d9⟩
    case a1 => lia
    case a2 => lia
    case a3 => lia
    case a4 =>
      intro p hp b hb
      rcases List.mem_cons.mp hb with rfl | hb
      · exact Nat.ne_of_lt (all_of w16 p hp)
      · rcases List.mem_cons.mp hb with rfl | hb
        · exact Nat.ne_of_lt (all_of v15 p hp)
        · exact hO p hp b hb
end Mine
namespace Mine
open PySem PySem.W PySem.Calls PyProof.Rows PySem.Spec
theorem okm_q (w : World) (loose : List Str) (mean : ExcName → Option Value) (mg : Str → Option Value) (mb : Str → Option Value) (h₀ : Heap) (L' : Addr) (fa : Addr) (cdv : Value) (S : Addr) (NM : Addr) (A0 : Addr) (A1 : Addr) (A2 : Addr) (W : Addr) (HA : Addr) (z0 : Nat) (z1 : Nat) (z2 : Nat) (e : Nat) (d : Nat) (j : Nat) (take : Nat) (r0 : Nat) (r1 : Nat) (r2 : Nat) (t0 : Tok) (t1 : Tok) (t2 : Tok) (te : Tok) (td : Tok) (tj : Tok) (tt : Tok) (n0 : Tok) (n1 : Tok) (n2 : Tok) (n3 : Tok) (n4 : Tok) (n5 : Tok) (n6 : Tok) (n7 : Tok) (n8 : Tok) (k0 : Nat) (k1 : Nat) (k2 : Nat) (k3 : Nat) (wl : List Value) (wx : List Int) (wn : Nat) (tl : List (Addr × Obj)) (s0 : Shared) (Qb : Flow → Shared → Prop) (E : Value → Shared → Prop) (Qc : Flow → Shared → Prop) (O : Okm w loose mean mg mb h₀ L' fa cdv S NM A0 A1 A2 W HA z0 z1 z2 e d j take r0 r1 r2 t0 t1 t2 te td tj tt n0 n1 n2 n3 n4 n5 n6 n7 n8 k0 k1 k2 k3 wl wx wn tl s0 Qb E) : Okm w loose mean mg mb h₀ L' fa cdv S NM A0 A1 A2 W HA z0 z1 z2 e d j take r0 r1 r2 t0 t1 t2 te td tj tt n0 n1 n2 n3 n4 n5 n6 n7 n8 k0 k1 k2 k3 wl wx wn tl s0 Qc E := by
  obtain ⟨hS, hz0, hz1, hz2, he, hd, hj, ht, hNM, hA0, hA1, hA2, hW, nNM, nA2, nA1, nA0, nS, hO, hr0, hr1, hr2, lr0, lr1, lr2, hwl, hwi⟩ := O
  exact ⟨hS, hz0, hz1, hz2, he, hd, hj, ht, hNM, hA0, hA1, hA2, hW, nNM, nA2, nA1, nA0, nS, hO, hr0, hr1, hr2, lr0, lr1, lr2, hwl, hwi⟩
theorem body_turn (w : World) (loose : List Str) (mean : ExcName → Option Value) (mg : Str → Option Value) (mb : Str → Option Value) (h₀ : Heap) (L' : Addr) (fa : Addr) (cdv : Value) (S : Addr) (NM : Addr) (A0 : Addr) (A1 : Addr) (A2 : Addr) (W : Addr) (HA : Addr) (z0 : Nat) (z1 : Nat) (z2 : Nat) (e : Nat) (d : Nat) (j : Nat) (take : Nat) (r0 : Nat) (r1 : Nat) (r2 : Nat) (t0 : Tok) (t1 : Tok) (t2 : Tok) (te : Tok) (td : Tok) (tj : Tok) (tt : Tok) (n0 : Tok) (n1 : Tok) (n2 : Tok) (n3 : Tok) (n4 : Tok) (n5 : Tok) (n6 : Tok) (n7 : Tok) (n8 : Tok) (k0 : Nat) (k1 : Nat) (k2 : Nat) (k3 : Nat) (wl : List Value) (wx : List Int) (wn : Nat) (tl : List (Addr × Obj)) (s0 : Shared) (Qb : Flow → Shared → Prop) (E : Value → Shared → Prop)
    (X : (K w.params).In h₀) (TT : Top qv loose mean mg mb h₀) (B : Below callerA h₀ [] h₀) (O : Okm w loose mean mg mb h₀ L' fa cdv S NM A0 A1 A2 W HA z0 z1 z2 e d j take r0 r1 r2 t0 t1 t2 te td tj tt n0 n1 n2 n3 n4 n5 n6 n7 n8 k0 k1 k2 k3 wl wx wn tl s0 Qb E) (hA : take = 0 → EndA w loose mean mg mb h₀ L' fa cdv S NM A0 A1 A2 W HA z0 z1 z2 e d j take r0 r1 r2 t0 t1 t2 te td tj tt n0 n1 n2 n3 n4 n5 n6 n7 n8 k0 k1 k2 k3 wl wx wn tl s0 Qb E) (hB : take ≠ 0 → EndB w loose mean mg mb h₀ L' fa cdv S NM A0 A1 A2 W HA z0 z1 z2 e d j take r0 r1 r2 t0 t1 t2 te td tj tt n0 n1 n2 n3 n4 n5 n6 n7 n8 k0 k1 k2 k3 wl wx wn tl s0 Qb E) : BSeg0 w loose mean mg mb h₀ L' fa cdv S NM A0 A1 A2 W HA z0 z1 z2 e d j take r0 r1 r2 t0 t1 t2 te td tj tt n0 n1 n2 n3 n4 n5 n6 n7 n8 k0 k1 k2 k3 wl wx wn tl s0 Qb E := by
  refine bseg0 w loose mean mg mb h₀ L' fa cdv S NM A0 A1 A2 W HA z0 z1 z2 e d j take r0 r1 r2 t0 t1 t2 te td tj tt n0 n1 n2 n3 n4 n5 n6 n7 n8 k0 k1 k2 k3 wl wx wn tl s0 Qb E X TT B O (bseg1 w loose mean mg mb h₀ L' fa cdv S NM A0 A1 A2 W HA z0 z1 z2 e d j take r0 r1 r2 t0 t1 t2 te td tj tt n0 n1 n2 n3 n4 n5 n6 n7 n8 k0 k1 k2 k3 wl wx wn tl s0 Qb E X TT B O (bseg3 w loose mean mg mb h₀ L' fa cdv S NM A0 A1 A2 W HA z0 z1 z2 e d j take r0 r1 r2 t0 t1 t2 te td tj tt n0 n1 n2 n3 n4 n5 n6 n7 n8 k0 k1 k2 k3 wl wx wn tl s0 Qb E X TT B O (bseg5 w loose mean mg mb h₀ L' fa cdv S NM A0 A1 A2 W HA z0 z1 z2 e d j take r0 r1 r2 t0 t1 t2 te td tj tt n0 n1 n2 n3 n4 n5 n6 n7 n8 k0 k1 k2 k3 wl wx wn tl s0 Qb E X TT B O (bseg8 w loose mean mg mb h₀ L' fa cdv S NM A0 A1 A2 W HA z0 z1 z2 e d j take r0 r1 r2 t0 t1 t2 te td tj tt n0 n1 n2 n3 n4 n5 n6 n7 n8 k0 k1 k2 k3 wl wx wn tl s0 Qb E X TT B O (bseg9 w loose mean mg mb h₀ L' fa cdv S NM A0 A1 A2 W HA z0 z1 z2 e d j take r0 r1 r2 t0 t1 t2 te td tj tt n0 n1 n2 n3 n4 n5 n6 n7 n8 k0 k1 k2 k3 wl wx wn tl s0 Qb E X TT B O (fun h Qc hq => ?_) hB)))))
  refine bsegH w loose mean mg mb h₀ L' fa cdv S NM A0 A1 A2 W HA z0 z1 z2 e d j take r0 r1 r2 t0 t1 t2 te td tj tt n0 n1 n2 n3 n4 n5 n6 n7 n8 k0 k1 k2 k3 wl wx wn tl s0 Qc E X TT B (okm_q w loose mean mg mb h₀ L' fa cdv S NM A0 A1 A2 W HA z0 z1 z2 e d j take r0 r1 r2 t0 t1 t2 te td tj tt n0 n1 n2 n3 n4 n5 n6 n7 n8 k0 k1 k2 k3 wl wx wn tl s0 Qb E Qc O) h ?_
  intro s H2 hl hc c1 c5 c6 c7 c8 c9 ml o1 o2 o3 o4 o5 o6 o7 o8 o9 x1 x2 x3 x4 x5 x6 x7 x8 x9 y1 y2 y3 y4 y5 y6 y7 y8 y9
  exact hq s (hA h s H2 hl hc c1 c5 c6 c7 c8 c9 ml o1 o2 o3 o4 o5 o6 o7 o8 o9 x1 x2 x3 x4 x5 x6 x7 x8 x9 y1 y2 y3 y4 y5 y6 y7 y8 y9)
theorem moves_at {z0 z1 z2 i j t : Nat} (h : (movesOf z0 z1 z2)[i]? = some (j, t)) : j < 3 ∧ t ≤ [z0, z1, z2].getD j 0 ∧ (t = 0 ↔ i = 0) := by
  cases i with
  | zero =>
    cases h
    exact ⟨by decide, Nat.zero_le _, Iff.intro (fun _ => rfl) (fun _ => rfl)⟩
  | succ i =>
    have hm : (j, t) ∈ ([0, 1, 2] : List Nat).flatMap fun j => (List.range ([z0, z1, z2].getD j 0)).map fun t => (j, t + 1) := List.mem_of_getElem? h
    obtain ⟨j', hj', hm⟩ := List.mem_flatMap.mp hm
    obtain ⟨t', ht', e⟩ := List.mem_map.mp hm
    cases e
    have ht := List.mem_range.mp ht'
    have hj : j = 0 ∨ j = 1 ∨ j = 2 := by simpa using hj'
    exact ⟨by lia, ht, by lia⟩
theorem win_next {z0 z1 z2 i j t : Nat} (h : (movesOf z0 z1 z2)[i]? = some (j, t)) : winnersOf z0 z1 z2 ((movesOf z0 z1 z2).take (i + 1)) = winnersOf z0 z1 z2 ((movesOf z0 z1 z2).take i) ++ (if t ≠ 0 ∧ oddAt z0 z1 z2 j t = [] then [j] else []) := by
  rw [List.take_add_one, h]
  unfold winnersOf
  rw [List.filter_append, List.map_append]
  congr 1
  show List.map _ (List.filter _ [(j, t)]) = _
  by_cases h1 : t = 0
  · simp [h1]
  · by_cases h2 : oddAt z0 z1 z2 j t = []
    · simp [h1, h2]
    · simp [h1, h2]
theorem rest_lt {z0 z1 z2 j t i : Nat} (h0 : z0 < 5) (h1 : z1 < 5) (h2 : z2 < 5) : restAt z0 z1 z2 j t i < 5 := by
  have hz : [z0, z1, z2].getD i 0 < 5 := by
    match i with
    | 0 => exact h0
    | 1 => exact h1
    | 2 => exact h2
    | i + 3 => simp
  unfold restAt
  split <;> lia
theorem news_in {h₀ h : Heap} {L : Addr} {a b own : List (Addr × Obj)} (N : News h₀ L h ((a ++ b) ++ own)) : News h₀ L h (a ++ (b ++ own)) := by
  rw [← List.append_assoc]
  exact N
theorem news_out {h₀ h : Heap} {L : Addr} {a b own : List (Addr × Obj)} (N : News h₀ L h (a ++ (b ++ own))) : News h₀ L h ((a ++ b) ++ own) := by
  rw [List.append_assoc]
  exact N
theorem own_consN {t : Addr × Obj} {tl : List (Addr × Obj)} {A : List Addr} (h : OwnOff tl A) (l : ∀ b ∈ A, @Ne Nat b t.1) : OwnOff (t :: tl) A := fun p hp b hb => by
  rcases List.mem_cons.mp hp with rfl | hp
  · exact Ne.symm (l b hb)
  · exact h p hp b hb
theorem own_TN {o2 : List (Addr × Obj)} {A B : List Addr} {T : Addr} (h : OwnOff o2 (A ++ B)) (l : ∀ p ∈ o2, @Ne Nat p.1 T) : OwnOff o2 (A ++ (T :: B)) := fun p hp b hb => by
  rcases List.mem_append.mp hb with hb | hb
  · exact h p hp b (List.mem_append_left _ hb)
  · rcases List.mem_cons.mp hb with rfl | hb
    · exact l p hp
    · exact h p hp b (List.mem_append_right _ hb)
theorem win_len {z0 z1 z2 i : Nat} {wl : List Value} (h : IntsAre wl ((winnersOf z0 z1 z2 ((movesOf z0 z1 z2).take i)).map fun k : Nat => (k : Int))) (hl : (movesOf z0 z1 z2).length ≤ 20) : wl.length ≤ 20 := by
  rw [ints_len h, List.length_map]
  unfold winnersOf
  rw [List.length_map]
  refine Nat.le_trans (List.length_filter_le _ _) ?_
  rw [List.length_take]
  lia
/-- the main loop's state -/
noncomputable def JW (S NM A0 A1 A2 W L' : Addr) (z0 z1 z2 d : Nat) (t0 t1 t2 te td : Tok) (n0 n1 n2 n3 n4 n5 n6 n7 n8 : Tok) (k0 k1 k2 k3 : Nat) (e : Nat) (tl0 : List (Addr × Obj)) (i : Nat) (m : Str → Option Value) (nx : List (Addr × Obj)) : Prop :=
  ∃ (wl : List Value) (wn : Nat) (HA : Addr) (hl : List Value) (hn : Nat) (tlx : List (Addr × Obj)) (c1 c5 c6 c7 c8 c9 : Option Value) (o1 o2 o3 o4 o5 o6 o7 o8 o9 : Obj),
    nx = ([(W, listOf wl.toArray wn)] ++ [(NM, listOf #[.ref A0, .ref A1, .ref A2] k0), (A2, listOf #[.str (Str.ofString "OPTIMIZED") n6, .str (Str.ofString "NEWLOCALS") n7, .str (Str.ofString "VARARGS") n8] k3), (A1, listOf #[.str (Str.ofString "NOFREE") n3, .str (Str.ofString "COROUTINE") n4, .str (Str.ofString "ITERABLE_COROUTINE") n5] k2), (A0, listOf #[.str (Str.ofString "0x1000") n0, .str (Str.ofString "0x2000") n1, .str (Str.ofString "0x4000") n2] k1), (S, listOf #[.int (z0 : Int) t0, .int (z1 : Int) t1, .int (z2 : Int) t2] 3), (L' + 1 + 1 + 1 + 1 + 1 + 1 + 1 + 1 + 1, o9), (L' + 1 + 1 + 1 + 1 + 1 + 1 + 1 + 1, o8), (L' + 1 + 1 + 1 + 1 + 1 + 1 + 1, o7), (L' + 1 + 1 + 1 + 1 + 1 + 1, o6), (L' + 1 + 1 + 1 + 1 + 1, o5), (L' + 1 + 1 + 1 + 1, o4), (L' + 1 + 1 + 1, o3), (L' + 1 + 1, o2), (L' + 1, o1)]) ++ ((HA, listOf hl.toArray hn) :: tlx) ∧ (∀ p ∈ tl0, p ∈ tlx) ∧ OwnOff ((HA, listOf hl.toArray hn) :: tlx) [W, NM, A2, A1, A0, S, L' + 1 + 1 + 1 + 1 + 1 + 1 + 1 + 1 + 1, L' + 1 + 1 + 1 + 1 + 1 + 1 + 1 + 1, L' + 1 + 1 + 1 + 1 + 1 + 1 + 1, L' + 1 + 1 + 1 + 1 + 1 + 1, L' + 1 + 1 + 1 + 1 + 1, L' + 1 + 1 + 1 + 1, L' + 1 + 1 + 1, L' + 1 + 1, L' + 1] ∧ o1.data = .cell c1 ∧ o2.data = .cell (some (.ref S)) ∧ o3.data = .cell (some (.str (T (endOf e)) te)) ∧ o4.data = .cell (some (.ref NM)) ∧ o5.data = .cell c5 ∧ o6.data = .cell c6 ∧ o7.data = .cell c7 ∧ o8.data = .cell c8 ∧ o9.data = .cell c9 ∧
    m "winners" = some (.ref W) ∧ m "heirs" = some (.ref HA) ∧ m "d" = some (.int (d : Int) td) ∧ IntsAre wl ((winnersOf z0 z1 z2 ((movesOf z0 z1 z2).take i)).map fun k : Nat => (k : Int)) ∧ (1 ≤ i → IntsAre hl ((heirsOf z0 z1 z2).map fun k : Nat => (k : Int)))
local macro_rules | `(tactic| walk_at "exec For Tuple Name cons nil") => `(tactic| (with_reducible apply for_any; intro _; k_dflt rfl))
local macro_rules | `(tactic| walk_at "pyIter ref") => `(tactic| apply Hold.h)
theorem stop_rest {M : Model} {A : Around} {E : Value → Shared → Prop} {s : Shared} {Q : Flow → Shared → Prop} {p v u r env} (h : Hold (wpAny M A (execs (.Assign [.Name (Str.ofString "rest") p] v u :: r) env) Q E s)) : wpAny M A (execs (.Assign [.Name (Str.ofString "rest") p] v u :: r) env) Q E s := h.1
local macro_rules | `(tactic| walk_at "execs cons") => `(tactic| with_reducible apply stop_rest)
local macro_rules | `(tactic| walk_at "compareOp Eq ref ref") => `(tactic| apply Hold.h)
set_option maxHeartbeats 2000000 in
theorem seg10 (w : World) (loose : List Str) (mean : ExcName → Option Value) (mg mb : Str → Option Value) (h₀ : Heap) (L' fa l : Addr) (cdv : Value) (s0 : Shared) (Q : Flow → Shared → Prop) (E : Value → Shared → Prop)
    (X : (K w.params).In h₀) (TT : Top qv loose mean mg mb h₀) (B : Below callerA h₀ [] h₀) (hret : ∀ s' m', Later s0 s' → Fr h₀ L' s'.heap m' → Q (.ret (.bool true)) s') : Seg10 w loose mean mg mb h₀ L' fa l cdv s0 Q E := by
  unfold Seg10 rwp
  revert X
  k_fill
  intro X s S z0 z1 z2 e d t0 t1 t2 te td th NM A0 A1 A2 W HR MV c1 c5 c6 n0 n1 n2 n3 n4 n5 n6 n7 n8 k0 k1 k2 k3 mvn wn hn its tl ml o1 o2 o3 o4 o5 o6 o7 o8 o9 hS hz0 hz1 hz2 he hd hNM hA0 hA1 hA2 hW hHR hMV nHR nMV nNM nA2 nA1 nA0 nS mHR mNM mA2 mA1 mA0 mS rNM rA2 rA1 rA0 rS hM hlen hO gw gh gm gd hL F N d1 d2 d3 d4 d5 d6 d7 d8 d9
  have hdK : Hold (d < 1000000) := ⟨hd⟩
  clear hd
  obtain ⟨p1, p2, p3, p4, p5, p6, p7, p8, p9⟩ := id hS
  rw [as3x gm gw gh gd] at F
  show wpAny _ _ (execs (_ :: _) _) _ _ _
  k_steps
  refine ⟨?_⟩
  have hoff : ∀ p ∈ ([(W, listOf #[] wn)] ++ [(NM, listOf #[.ref A0, .ref A1, .ref A2] k0), (A2, listOf #[.str (Str.ofString "OPTIMIZED") n6, .str (Str.ofString "NEWLOCALS") n7, .str (Str.ofString "VARARGS") n8] k3), (A1, listOf #[.str (Str.ofString "NOFREE") n3, .str (Str.ofString "COROUTINE") n4, .str (Str.ofString "ITERABLE_COROUTINE") n5] k2), (A0, listOf #[.str (Str.ofString "0x1000") n0, .str (Str.ofString "0x2000") n1, .str (Str.ofString "0x4000") n2] k1), (S, listOf #[.int (z0 : Int) t0, .int (z1 : Int) t1, .int (z2 : Int) t2] 3), (L' + 1 + 1 + 1 + 1 + 1 + 1 + 1 + 1 + 1, o9), (L' + 1 + 1 + 1 + 1 + 1 + 1 + 1 + 1, o8), (L' + 1 + 1 + 1 + 1 + 1 + 1 + 1, o7), (L' + 1 + 1 + 1 + 1 + 1 + 1, o6), (L' + 1 + 1 + 1 + 1 + 1, o5), (L' + 1 + 1 + 1 + 1, o4), (L' + 1 + 1 + 1, o3), (L' + 1 + 1, o2), (L' + 1, o1)]) ++ ((HR, listOf #[] hn) :: tl), p.1 ≠ MV := by
    intro p hp
    simp only [List.mem_append, List.mem_cons, List.not_mem_nil, or_false] at hp
    rcases hp with (rfl | rfl | rfl | rfl | rfl | rfl | rfl | rfl | rfl | rfl | rfl | rfl | rfl | rfl | rfl) | rfl | hp
    · exact Ne.symm nMV
    · exact mNM
    · exact mA2
    · exact mA1
    · exact mA0
    · exact mS
    all_goals try k_ne
    exact hO p hp MV (by simp)
  have hsub : ∀ p ∈ ([(W, listOf #[] wn)] ++ [(NM, listOf #[.ref A0, .ref A1, .ref A2] k0), (A2, listOf #[.str (Str.ofString "OPTIMIZED") n6, .str (Str.ofString "NEWLOCALS") n7, .str (Str.ofString "VARARGS") n8] k3), (A1, listOf #[.str (Str.ofString "NOFREE") n3, .str (Str.ofString "COROUTINE") n4, .str (Str.ofString "ITERABLE_COROUTINE") n5] k2), (A0, listOf #[.str (Str.ofString "0x1000") n0, .str (Str.ofString "0x2000") n1, .str (Str.ofString "0x4000") n2] k1), (S, listOf #[.int (z0 : Int) t0, .int (z1 : Int) t1, .int (z2 : Int) t2] 3), (L' + 1 + 1 + 1 + 1 + 1 + 1 + 1 + 1 + 1, o9), (L' + 1 + 1 + 1 + 1 + 1 + 1 + 1 + 1, o8), (L' + 1 + 1 + 1 + 1 + 1 + 1 + 1, o7), (L' + 1 + 1 + 1 + 1 + 1 + 1, o6), (L' + 1 + 1 + 1 + 1 + 1, o5), (L' + 1 + 1 + 1 + 1, o4), (L' + 1 + 1 + 1, o3), (L' + 1 + 1, o2), (L' + 1, o1)]) ++ ((HR, listOf #[] hn) :: tl), p ∈ (W, listOf #[] wn) :: (HR, listOf #[] hn) :: (MV, listOf its.toArray mvn) :: ([(NM, listOf #[.ref A0, .ref A1, .ref A2] k0), (A2, listOf #[.str (Str.ofString "OPTIMIZED") n6, .str (Str.ofString "NEWLOCALS") n7, .str (Str.ofString "VARARGS") n8] k3), (A1, listOf #[.str (Str.ofString "NOFREE") n3, .str (Str.ofString "COROUTINE") n4, .str (Str.ofString "ITERABLE_COROUTINE") n5] k2), (A0, listOf #[.str (Str.ofString "0x1000") n0, .str (Str.ofString "0x2000") n1, .str (Str.ofString "0x4000") n2] k1), (S, listOf #[.int (z0 : Int) t0, .int (z1 : Int) t1, .int (z2 : Int) t2] 3), (L' + 1 + 1 + 1 + 1 + 1 + 1 + 1 + 1 + 1, o9), (L' + 1 + 1 + 1 + 1 + 1 + 1 + 1 + 1, o8), (L' + 1 + 1 + 1 + 1 + 1 + 1 + 1, o7), (L' + 1 + 1 + 1 + 1 + 1 + 1, o6), (L' + 1 + 1 + 1 + 1 + 1, o5), (L' + 1 + 1 + 1 + 1, o4), (L' + 1 + 1 + 1, o3), (L' + 1 + 1, o2), (L' + 1, o1)] ++ tl) := by
    intro p hp
    rw [List.append_assoc, List.mem_append, List.mem_append] at hp
    simp only [List.mem_cons, List.mem_append]
    rcases hp with hp | hp | hp
    · exact .inl (List.mem_singleton.mp hp)
    · exact .inr (.inr (.inr (.inl (by simpa using hp))))
    · rcases List.mem_cons.mp hp with hp | hp
      · exact .inr (.inl hp)
      · exact .inr (.inr (.inr (.inr hp)))
  refine for_listW (D := MV) (items := its.toArray) (news := ([(W, listOf #[] wn)] ++ [(NM, listOf #[.ref A0, .ref A1, .ref A2] k0), (A2, listOf #[.str (Str.ofString "OPTIMIZED") n6, .str (Str.ofString "NEWLOCALS") n7, .str (Str.ofString "VARARGS") n8] k3), (A1, listOf #[.str (Str.ofString "NOFREE") n3, .str (Str.ofString "COROUTINE") n4, .str (Str.ofString "ITERABLE_COROUTINE") n5] k2), (A0, listOf #[.str (Str.ofString "0x1000") n0, .str (Str.ofString "0x2000") n1, .str (Str.ofString "0x4000") n2] k1), (S, listOf #[.int (z0 : Int) t0, .int (z1 : Int) t1, .int (z2 : Int) t2] 3), (L' + 1 + 1 + 1 + 1 + 1 + 1 + 1 + 1 + 1, o9), (L' + 1 + 1 + 1 + 1 + 1 + 1 + 1 + 1, o8), (L' + 1 + 1 + 1 + 1 + 1 + 1 + 1, o7), (L' + 1 + 1 + 1 + 1 + 1 + 1, o6), (L' + 1 + 1 + 1 + 1 + 1, o5), (L' + 1 + 1 + 1 + 1, o4), (L' + 1 + 1 + 1, o3), (L' + 1 + 1, o2), (L' + 1, o1)]) ++ ((HR, listOf #[] hn) :: tl)) (all := (W, listOf #[] wn) :: (HR, listOf #[] hn) :: (MV, listOf its.toArray mvn) :: ([(NM, listOf #[.ref A0, .ref A1, .ref A2] k0), (A2, listOf #[.str (Str.ofString "OPTIMIZED") n6, .str (Str.ofString "NEWLOCALS") n7, .str (Str.ofString "VARARGS") n8] k3), (A1, listOf #[.str (Str.ofString "NOFREE") n3, .str (Str.ofString "COROUTINE") n4, .str (Str.ofString "ITERABLE_COROUTINE") n5] k2), (A0, listOf #[.str (Str.ofString "0x1000") n0, .str (Str.ofString "0x2000") n1, .str (Str.ofString "0x4000") n2] k1), (S, listOf #[.int (z0 : Int) t0, .int (z1 : Int) t1, .int (z2 : Int) t2] 3), (L' + 1 + 1 + 1 + 1 + 1 + 1 + 1 + 1 + 1, o9), (L' + 1 + 1 + 1 + 1 + 1 + 1 + 1 + 1, o8), (L' + 1 + 1 + 1 + 1 + 1 + 1 + 1, o7), (L' + 1 + 1 + 1 + 1 + 1 + 1, o6), (L' + 1 + 1 + 1 + 1 + 1, o5), (L' + 1 + 1 + 1 + 1, o4), (L' + 1 + 1 + 1, o3), (L' + 1 + 1, o2), (L' + 1, o1)] ++ tl)) rfl (.inr ⟨listOf its.toArray mvn, by simp, rfl, _, rfl⟩) F N hsub hoff (JW S NM A0 A1 A2 W L' z0 z1 z2 d t0 t1 t2 te td n0 n1 n2 n3 n4 n5 n6 n7 n8 k0 k1 k2 k3 e tl) ?j0 ?step ?done
  case j0 =>
    refine ⟨[], wn, HR, [], hn, tl, c1, c5, c6, _, _, _, o1, o2, o3, o4, o5, o6, o7, o8, o9, rfl, fun p hp => hp, ?_, d1, d2, d3, d4, d5, d6, d7, d8, d9, rfl, rfl, rfl, .nil, fun h => absurd h (by decide)⟩
    intro p hp b hb
    rcases List.mem_cons.mp hp with rfl | hp
    · show HR ≠ b
      simp only [List.mem_cons, List.not_mem_nil, or_false] at hb
      rcases hb with rfl | rfl | rfl | rfl | rfl | rfl | rfl | rfl | rfl | rfl | rfl | rfl | rfl | rfl | rfl
      · exact nHR
      · exact Ne.symm rNM
      · exact Ne.symm rA2
      · exact Ne.symm rA1
      · exact Ne.symm rA0
      · exact Ne.symm rS
      all_goals k_ne
    · exact hO p hp b (by
        simp only [List.mem_cons, List.not_mem_nil, or_false] at hb ⊢
        rcases hb with h | h | h | h | h | h | h <;> simp [h])
  case step =>
    intro i v m₁ news₁ s₁ own hL₁ hv hJ ho F₁ N₁
    obtain ⟨wl, wn, HA, hl, hn, tlx, c1, c5, c6, c7, c8, c9, o1, o2, o3, o4, o5, o6, o7, o8, o9, rfl, hsubx, hOx, d1, d2, d3, d4, d5, d6, d7, d8, d9, g0, g1, g2, hwI, hhI⟩ := hJ
    have hlenM : (movesOf z0 z1 z2).length = its.length := hM.1.symm
    have hi : i < (movesOf z0 z1 z2).length := by
      obtain ⟨h, _⟩ := Array.getElem?_eq_some_iff.mp hv
      rw [List.size_toArray] at h
      lia
    obtain ⟨⟨j, take⟩, hp⟩ : ∃ p, (movesOf z0 z1 z2)[i]? = some p := ⟨_, List.getElem?_eq_getElem hi⟩
    obtain ⟨a, ob, ta, tb, nn, hia, hmem, hc, hdt⟩ := hM.2 i (j, take) hp
    have hva : v = .ref a := by
      have e : its.toArray[i]? = its[i]? := by simp
      rw [e, hia] at hv
      exact (Option.some.inj hv).symm
    subst hva
    obtain ⟨hj, htk, hzero⟩ := moves_at hp
    have hT : IsTup s₁.heap a #[.int (j : Int) ta, .int (take : Int) tb] := ⟨ob, (N₁ (a, ob) (List.mem_append_left _ (List.mem_append_right _ (List.mem_cons_of_mem _ (hsubx _ hmem))))).1, hc, _, hdt⟩
    have hOw : OwnOff own ([W, NM, A2, A1, A0, S, L' + 1 + 1 + 1 + 1 + 1 + 1 + 1 + 1 + 1, L' + 1 + 1 + 1 + 1 + 1 + 1 + 1 + 1, L' + 1 + 1 + 1 + 1 + 1 + 1 + 1, L' + 1 + 1 + 1 + 1 + 1 + 1, L' + 1 + 1 + 1 + 1 + 1, L' + 1 + 1 + 1 + 1, L' + 1 + 1 + 1, L' + 1 + 1, L' + 1] ++ (HA :: tlx.map Prod.fst)) := ho
    have hOo : OwnOff own [W, NM, A2, A1, A0, S, L' + 1 + 1 + 1 + 1 + 1 + 1 + 1 + 1 + 1, L' + 1 + 1 + 1 + 1 + 1 + 1 + 1 + 1, L' + 1 + 1 + 1 + 1 + 1 + 1 + 1, L' + 1 + 1 + 1 + 1 + 1 + 1, L' + 1 + 1 + 1 + 1 + 1, L' + 1 + 1 + 1 + 1, L' + 1 + 1 + 1, L' + 1 + 1, L' + 1] := fun p hp b hb => hOw p hp b (List.mem_append_left _ hb)
    have hOT : OwnOff (((HA, listOf hl.toArray hn) :: tlx) ++ own) [W, NM, A2, A1, A0, S, L' + 1 + 1 + 1 + 1 + 1 + 1 + 1 + 1 + 1, L' + 1 + 1 + 1 + 1 + 1 + 1 + 1 + 1, L' + 1 + 1 + 1 + 1 + 1 + 1 + 1, L' + 1 + 1 + 1 + 1 + 1 + 1, L' + 1 + 1 + 1 + 1 + 1, L' + 1 + 1 + 1 + 1, L' + 1 + 1 + 1, L' + 1 + 1, L' + 1] := own_app hOx hOo
    have hwlen := win_len hwI (by lia)
    replace N₁ := news_in N₁
    generalize hTL : ((HA, listOf hl.toArray hn) :: tlx) ++ own = TL at N₁ hOT
    rw [as3 g0 g1 g2] at F₁
    simp only [List.cons_append, List.nil_append] at N₁
    refine unpackN_ F₁ N₁ hT rfl rfl rfl fun h₂ F₂ N₂ => ?_
    obtain ⟨h₁, gs₁, dd₁, tk₁, os₁⟩ := s₁
    try dsimp only at F₂ N₂
    clear F₁ N₁ F N hT
    k_steps
    refine ⟨?_⟩
    rename Fr h₀ L' _ _ => F9
    rename News h₀ L' _ _ => N9
    refine body_turn w loose mean mg mb h₀ L' fa cdv S NM A0 A1 A2 W HA z0 z1 z2 e d j take (restAt z0 z1 z2 j take 0) (restAt z0 z1 z2 j take 1) (restAt z0 z1 z2 j take 2) t0 t1 t2 te td _ _ n0 n1 n2 n3 n4 n5 n6 n7 n8 k0 k1 k2 k3 wl _ wn TL { heap := h₁, gens := gs₁, drawn := dd₁, toks := tk₁, os := os₁ } _ _ X TT B ⟨hS, hz0, hz1, hz2, he, hdK.h, hj, htk, hNM, hA0, hA1, hA2, hW, nNM, nA2, nA1, nA0, nS, hOT, rfl, rfl, rfl, rest_lt hz0 hz1 hz2, rest_lt hz0 hz1 hz2, rest_lt hz0 hz1 hz2, hwlen, hwI⟩ ?hA ?hB _ c1 c7 c8 c9 _ o1 o2 o3 o4 _ _ o7 o8 o9 ⟨rfl, rfl⟩ F9 N9 d1 d2 d3 d4 (by assumption) (by assumption) d7 d8 d9 rfl rfl rfl
    case hA =>
      intro h0 s H2 hl' hc' c1 c5 c6 c7 c8 c9 ml o1 o2 o3 o4 o5 o6 o7 o8 o9 x1 x2 x3 x4 x5 x6 x7 x8 x9 y1 y2 y3 y4 y5 y6 y7 y8 y9
      subst hTL
      refine LEndW.fst (nx := ([(W, listOf wl.toArray wn)] ++ [(NM, listOf #[.ref A0, .ref A1, .ref A2] k0), (A2, listOf #[.str (Str.ofString "OPTIMIZED") n6, .str (Str.ofString "NEWLOCALS") n7, .str (Str.ofString "VARARGS") n8] k3), (A1, listOf #[.str (Str.ofString "NOFREE") n3, .str (Str.ofString "COROUTINE") n4, .str (Str.ofString "ITERABLE_COROUTINE") n5] k2), (A0, listOf #[.str (Str.ofString "0x1000") n0, .str (Str.ofString "0x2000") n1, .str (Str.ofString "0x4000") n2] k1), (S, listOf #[.int (z0 : Int) t0, .int (z1 : Int) t1, .int (z2 : Int) t2] 3), (L' + 1 + 1 + 1 + 1 + 1 + 1 + 1 + 1 + 1, o9), (L' + 1 + 1 + 1 + 1 + 1 + 1 + 1 + 1, o8), (L' + 1 + 1 + 1 + 1 + 1 + 1 + 1, o7), (L' + 1 + 1 + 1 + 1 + 1 + 1, o6), (L' + 1 + 1 + 1 + 1 + 1, o5), (L' + 1 + 1 + 1 + 1, o4), (L' + 1 + 1 + 1, o3), (L' + 1 + 1, o2), (L' + 1, o1)]) ++ ((H2, listOf hl'.toArray hc') :: ((HA, listOf hl.toArray hn) :: tlx))) x2 (news_out x3) ⟨wl, wn, H2, hl', hc', (HA, listOf hl.toArray hn) :: tlx, c1, c5, c6, c7, c8, c9, o1, o2, o3, o4, o5, o6, o7, o8, o9, rfl, fun p hp => List.mem_cons_of_mem _ (hsubx p hp), own_consN hOx y7, x4, x5, x6, x7, x8, x9, y1, y2, y3, y4, y5, y6, ?_, fun _ => y9⟩ x1 (own_TN hOw fun p hp => y8 p (List.mem_append_right _ hp))
      rw [win_next hp, if_neg (fun q => q.1 h0), List.append_nil]
      exact hwI
    case hB =>
      intro h0 s wl' wn' c1 c5 c6 c7 c8 c9 ml o1 o2 o3 o4 o5 o6 o7 o8 o9 x1 x2 x3 x4 x5 x6 x7 x8 x9 y1 y2 y3 y4 y5 y6 y7
      subst hTL
      refine LEndW.fst (nx := ([(W, listOf wl'.toArray wn')] ++ [(NM, listOf #[.ref A0, .ref A1, .ref A2] k0), (A2, listOf #[.str (Str.ofString "OPTIMIZED") n6, .str (Str.ofString "NEWLOCALS") n7, .str (Str.ofString "VARARGS") n8] k3), (A1, listOf #[.str (Str.ofString "NOFREE") n3, .str (Str.ofString "COROUTINE") n4, .str (Str.ofString "ITERABLE_COROUTINE") n5] k2), (A0, listOf #[.str (Str.ofString "0x1000") n0, .str (Str.ofString "0x2000") n1, .str (Str.ofString "0x4000") n2] k1), (S, listOf #[.int (z0 : Int) t0, .int (z1 : Int) t1, .int (z2 : Int) t2] 3), (L' + 1 + 1 + 1 + 1 + 1 + 1 + 1 + 1 + 1, o9), (L' + 1 + 1 + 1 + 1 + 1 + 1 + 1 + 1, o8), (L' + 1 + 1 + 1 + 1 + 1 + 1 + 1, o7), (L' + 1 + 1 + 1 + 1 + 1 + 1, o6), (L' + 1 + 1 + 1 + 1 + 1, o5), (L' + 1 + 1 + 1 + 1, o4), (L' + 1 + 1 + 1, o3), (L' + 1 + 1, o2), (L' + 1, o1)]) ++ ((HA, listOf hl.toArray hn) :: tlx)) x2 (news_out x3) ⟨wl', wn', HA, hl, hn, tlx, c1, c5, c6, c7, c8, c9, o1, o2, o3, o4, o5, o6, o7, o8, o9, rfl, hsubx, hOx, x4, x5, x6, x7, x8, x9, y1, y2, y3, y4, y5, y6, ?_, fun _ => hhI (by lia)⟩ x1 hOw
      rw [win_next hp, List.map_append]
      by_cases hod : oddAt z0 z1 z2 j take = []
      · rw [if_pos ⟨h0, hod⟩]
        rw [if_pos (show oddOf (restAt z0 z1 z2 j take 0) (restAt z0 z1 z2 j take 1) (restAt z0 z1 z2 j take 2) = [] from hod)] at y7
        exact y7
      · rw [if_neg (fun q => hod q.2)]
        rw [if_neg (show ¬ oddOf (restAt z0 z1 z2 j take 0) (restAt z0 z1 z2 j take 1) (restAt z0 z1 z2 j take 2) = [] from hod)] at y7
        exact y7
  case done =>
    intro m₁ news₁ s₁ hL₁ hJ F₁ N₁
    obtain ⟨wl, wn, HA, hl, hn, tlx, c1, c5, c6, c7, c8, c9, o1, o2, o3, o4, o5, o6, o7, o8, o9, rfl, hsubx, hOx, d1, d2, d3, d4, d5, d6, d7, d8, d9, g0, g1, g2, hwI, hhI⟩ := hJ
    have hsz : its.toArray.size = (movesOf z0 z1 z2).length := by rw [List.size_toArray]; exact hM.1
    rw [hsz, List.take_length, p_nim ⟨z0, hz0⟩ ⟨z1, hz1⟩ ⟨z2, hz2⟩] at hwI
    have hone : 1 ≤ its.toArray.size := by rw [hsz]; exact Nat.succ_le_succ (Nat.zero_le _)
    have hhJ := hhI hone
    rw [as3 g0 g1 g2] at F₁
    obtain ⟨h₁, gs₁, dd₁, tk₁, os₁⟩ := s₁
    try dsimp only at F₁ N₁
    have N₂ := N₁
    simp only [List.cons_append, List.nil_append] at N₁
    refine wpAny_execs_nil ?_
    k_steps
    refine ⟨?_⟩
    refine eq_led N₂ (List.mem_append_left _ (List.mem_append_left _ List.mem_cons_self)) (List.mem_append_right _ List.mem_cons_self) hwI hhJ (by ke_room) ?_
    rw [decide_eq_true rfl]
    k_steps
    exact hret _ _ ⟨hL₁.1.trans hL.1, hL₁.2.trans hL.2⟩ F₁
end Mine
namespace Mine
open PySem PySem.W PySem.Calls PyProof.Rows PySem.Spec
theorem nums_b (ns : List Int) : ∀ x ∈ List.map (fun k' : Int => k'.fmod 1000000) (List.take 5 ns) ++ [0, 0, 0, 0, 0], 0 ≤ x ∧ x < 1000000 := by
  intro x hx
  rcases List.mem_append.mp hx with h | h
  · obtain ⟨y, _, rfl⟩ := List.mem_map.mp h
    exact ⟨Int.fmod_nonneg_of_pos y (by decide), Int.fmod_lt_of_pos y (by decide)⟩
  · have : x = 0 := by simpa using h
    subst this; decide
theorem stop_sizes {M : Model} {A : Around} {E : Value → Shared → Prop} {s : Shared} {Q : Flow → Shared → Prop} {p v u r env} (h : Hold (wpAny M A (execs (.Assign [.Name (Str.ofString "sizes") p] v u :: r) env) Q E s)) : wpAny M A (execs (.Assign [.Name (Str.ofString "sizes") p] v u :: r) env) Q E s := h.1
local macro_rules | `(tactic| walk_at "execs cons") => `(tactic| with_reducible apply stop_sizes)
set_option maxHeartbeats 4000000 in
theorem seg0 (w : World) (loose : List Str) (mean : ExcName → Option Value) (mg mb : Str → Option Value) (h₀ : Heap) (L' fa l : Addr) (cdv : Value) (s0 : Shared) (Q : Flow → Shared → Prop) (E : Value → Shared → Prop) (vs : List Value) (ns : List Int)
    (X : (K w.params).In h₀) (TT : Top qv loose mean mg mb h₀) (B : Below callerA h₀ [] h₀) (hl : h₀.IsList l vs.toArray) (hI : IntsAre vs ns) (h63 : ns.length ≤ 63) (h1 : Seg1 w loose mean mg mb h₀ L' fa l cdv s0 Q E) : Seg0 w loose mean mg mb h₀ L' fa l cdv s0 Q E := by
  unfold Seg0 rwp
  revert X
  k_fill
  intro X s o1 o2 o3 o4 o5 o6 o7 o8 o9 hL F N d1 d2 d3 d4 d5 d6 d7 d8 d9
  show wpAny _ _ (execs (_ :: _) _) _ _ _
  k_steps
  refine ⟨h1 _ _ _ _ _ o2 o3 o4 o5 o6 o7 o8 o9 ?_ (by assumption) ?_ (nums_b ns) ⟨hL.1, hL.2⟩ (by assumption) (cb_drop (by assumption) ?_) (by assumption) d2 d3 d4 d5 d6 d7 d8 d9⟩
  · omega
  · rw [List.length_append]; exact Nat.le_add_left _ _
  · intro p hp
    simp only [List.mem_cons] at hp ⊢
    rcases hp with h | h
    · exact .inl h
    · exact .inr (.inr (.inr (.inr h)))
end Mine
namespace Mine
open PySem PySem.W PySem.Calls PyProof.Rows PySem.Spec
theorem end0 : Str.ofString "\r\n" = T (endOf 0) := by decide +kernel
theorem end1 : Str.ofString "\n" = T (endOf 1) := by decide +kernel
theorem end2 : Str.ofString "\r" = T (endOf 2) := by decide +kernel
theorem item_end {prog : Program} {w : World} {A : Around} {E : Value → Shared → Prop} {s : Shared} {h₀ : Heap} {L D : Addr} {news : List (Addr × Obj)} {value slice : PySem.Expr} {a b c u : Tok} {n : Nat} {x : Int} {Q : Value → Shared → Prop} (N : News h₀ L s.heap news) (hm : (D, listOf #[.str (Str.ofString "\r\n") a, .str (Str.ofString "\n") b, .str (Str.ofString "\r") c] n) ∈ news) (hs : subscripted slice false (.ref D) (.int (x.fmod 3) u) = operate [.ref D, .int (x.fmod 3) u] (getItem (.ref D) (.int (x.fmod 3) u)))
    (h : ∀ e t, e < 3 → Q (.str (T (endOf e)) t) s) :
    wpAny (model prog w) A (subscriptTail value slice (.ref D) (.int (x.fmod 3) u)) Q E s := by
  have h1 := Int.fmod_nonneg_of_pos x (show (0 : Int) < 3 by decide)
  have h2 := Int.fmod_lt_of_pos x (show (0 : Int) < 3 by decide)
  have hL := N.isList hm
  obtain e | e | e : x.fmod 3 = 0 ∨ x.fmod 3 = 1 ∨ x.fmod 3 = 2 := by omega
  · rw [e] at hs ⊢
    refine tail_any hL.typeIs slot_list_getitem.lookup (wpAny_getItem_list hL (by decide) (by decide) (x := .str (Str.ofString "\r\n") a) rfl ?_) hs
    rw [end0]; exact h 0 a (by decide)
  · rw [e] at hs ⊢
    refine tail_any hL.typeIs slot_list_getitem.lookup (wpAny_getItem_list hL (by decide) (by decide) (x := .str (Str.ofString "\n") b) rfl ?_) hs
    rw [end1]; exact h 1 b (by decide)
  · rw [e] at hs ⊢
    refine tail_any hL.typeIs slot_list_getitem.lookup (wpAny_getItem_list hL (by decide) (by decide) (x := .str (Str.ofString "\r") c) rfl ?_) hs
    rw [end2]; exact h 2 c (by decide)
local macro_rules | `(tactic| walk_at "subscriptTail") => `(tactic| with_reducible apply item_end; k_asm; k_dflt k_mem; with_unfolding_all rfl; intros)
theorem stop_moves {M : Model} {A : Around} {E : Value → Shared → Prop} {s : Shared} {Q : Flow → Shared → Prop} {p v u r env} (h : Hold (wpAny M A (execs (.Assign [.Name (Str.ofString "moves") p] v u :: r) env) Q E s)) : wpAny M A (execs (.Assign [.Name (Str.ofString "moves") p] v u :: r) env) Q E s := h.1
local macro_rules | `(tactic| walk_at "execs cons") => `(tactic| with_reducible apply stop_moves)
theorem led_drop2 {h₀ h : Heap} {L : Addr} {a b c d x y z : Addr × Obj} {r : List (Addr × Obj)} (N : News h₀ L h (a :: b :: c :: d :: x :: y :: z :: r)) : News h₀ L h (a :: b :: c :: d :: y :: r) := fun p hp => N p (by
  simp only [List.mem_cons] at hp ⊢
  rcases hp with h | h | h | h | h | h
  · exact .inl h
  · exact .inr (.inl h)
  · exact .inr (.inr (.inl h))
  · exact .inr (.inr (.inr (.inl h)))
  · exact .inr (.inr (.inr (.inr (.inr (.inl h)))))
  · exact .inr (.inr (.inr (.inr (.inr (.inr (.inr h)))))))
set_option maxHeartbeats 4000000 in
theorem seg2 (w : World) (loose : List Str) (mean : ExcName → Option Value) (mg mb : Str → Option Value) (h₀ : Heap) (L' fa l : Addr) (cdv : Value) (s0 : Shared) (Q : Flow → Shared → Prop) (E : Value → Shared → Prop)
    (X : (K w.params).In h₀) (TT : Top qv loose mean mg mb h₀) (B : Below callerA h₀ [] h₀) (h5 : Seg5 w loose mean mg mb h₀ L' fa l cdv s0 Q E) : Seg2 w loose mean mg mb h₀ L' fa l cdv s0 Q E := by
  unfold Seg2 rwp
  revert X
  k_fill
  intro X s NUM ws xs S z0 z1 z2 t0 t1 t2 o1 o2 o3 o4 o5 o6 o7 o8 o9 hNUM hI hlen hb hS hNS hz0 hz1 hz2 hL F N d1 d2 d3 d4 d5 d6 d7 d8 d9
  obtain ⟨p1, p2, p3, p4, p5, p6, p7, p8, p9⟩ := id hS
  show wpAny _ _ (execs (_ :: _) _) _ _ _
  obtain ⟨dn, hdn, ed⟩ : ∃ dn : Nat, dn < 1000000 ∧ xs.getD (4 : Int).toNat 0 = (dn : Int) := by
    have h4 : xs.getD 4 0 ∈ xs := by
      rw [List.getD_eq_getElem?_getD, List.getElem?_eq_getElem (by omega)]
      exact List.getElem_mem _
    obtain ⟨b1, b2⟩ := hb _ h4
    exact ⟨(xs.getD 4 0).toNat, by omega, by show xs.getD 4 0 = _; omega⟩
  k_steps
  rename Fr h₀ L' _ _ => F9
  rename News h₀ L' _ _ => N9
  rw [ed] at F9
  refine' ⟨h5 _ S z0 z1 z2 _ dn t0 t1 t2 _ _ _ _ _ _ _ _ _ _ _ _ _ _ _ _ _ _ _ _ _ _ _ _ _ _ _ _ _ hS hz0 hz1 hz2 (by assumption) hdn ?g01 ?g02 ?g03 ?g04 ⟨hL.1, hL.2⟩ F9 (led_drop2 N9) d1 d2 (by assumption) (by assumption) d5 d6 d7 d8 d9⟩
  case g01 => omega
  case g02 => omega
  case g03 => omega
  case g04 => omega
end Mine
namespace Mine
open PySem PySem.W PySem.Calls PyProof.Rows PySem.Spec
theorem kc_nine {P : Prop} {cm : Str → Option Value} {n₁ n₂ n₃ n₄ n₅ n₆ n₇ n₈ n₉ : Str} {c₁ c₂ c₃ c₄ c₅ c₆ c₇ c₈ c₉ : Addr} {cells : List (Addr × Obj)} (x : CellsAre cm [(n₁, c₁), (n₂, c₂), (n₃, c₃), (n₄, c₄), (n₅, c₅), (n₆, c₆), (n₇, c₇), (n₈, c₈), (n₉, c₉)] cells)
    (k : ∀ o₁ o₂ o₃ o₄ o₅ o₆ o₇ o₈ o₉, cells = [(c₁, o₁), (c₂, o₂), (c₃, o₃), (c₄, o₄), (c₅, o₅), (c₆, o₆), (c₇, o₇), (c₈, o₈), (c₉, o₉)] → o₁.data = .cell (cm n₁) → o₂.data = .cell (cm n₂) → o₃.data = .cell (cm n₃) → o₄.data = .cell (cm n₄) → o₅.data = .cell (cm n₅) → o₆.data = .cell (cm n₆) → o₇.data = .cell (cm n₇) → o₈.data = .cell (cm n₈) → o₉.data = .cell (cm n₉) → P) : P := by
  cases x with | cons h r => obtain ⟨o₂, o₃, o₄, o₅, o₆, o₇, o₈, o₉, rfl, h₂, h₃, h₄, h₅, h₆, h₇, h₈, h₉⟩ := kc_eight r; exact k _ o₂ o₃ o₄ o₅ o₆ o₇ o₈ o₉ rfl h h₂ h₃ h₄ h₅ h₆ h₇ h₈ h₉
local macro_rules | `(tactic| cells_open $x:ident) => `(tactic| (apply kc_nine $x; intro _ _ _ _ _ _ _ _ _ he; intros; subst he))
theorem good_true {c : ClaimW} {cl : Str → Option Addr} {mean : ExcName → Option Value} {args : List WData} {s₁ s' : Shared} (hn : ∀ cls, c.raises args cls = false) (hp : c.post args (.bool true) args = true) (hk : ∀ b o, s₁.heap.get? b = some o → s'.heap.get? b = some o) (hos : s'.os = s₁.os) (hb : bareOf s'.gens = true) : GoodWG c cl mean args s₁ (.ok (.ret (.bool true))) s' :=
  ⟨.inl ⟨.bool true, .bool true, [], rfl, hn, .bool true, hp, unshared_nil⟩, .of_keep hk, hos, fun y hy => by
    obtain ⟨i, hi, rfl⟩ := Array.mem_iff_getElem.mp hy
    exact (bareOf_iff _).mp hb i _ (Array.getElem?_eq_getElem hi)⟩
set_option maxHeartbeats 4000000 in
theorem hold : PySem.Challenge.rw_sr0066_02.Holds := by
  w_on
  refine holds_law (by decide +kernel) fun said => ?_
  refine holds_open (q := qv) (loose := loose) (Xt := Xt) (XP := XL qv []) (Yf := HK.obs) (Ya := HK.val) (YP := HK.says) (N := 28502) left HK.of HK.keeps (fun s e => xl_of s (Bool.and_eq_true_iff.mp e).1) XL.keeps (by rfl) (by rfl) (by rfl) (fun s e => recFacts_of (Bool.and_eq_true_iff.mp e).2) (by rfl) (by first | assumption | decide +kernel) (by decide +kernel) ⟨rfl, rfl, rfl, rfl, rfl, by decide +kernel⟩ ?hw ?hc
  (case hw => w_witness2)
  k_fill
  intro w s₀ s₁ mg mb G Y fa o pm cd doc dV kV ho hd hcd hD hmg hg args vals as hpre hlay hrd hwl hlo
  have KX := kIn_of Y
  have X := (Ground.X G).1
  have V := (Ground.X G).2
  refine Ground.open G ?_
  intro T B D TE TW
  try (refine guard_noD D (by decide +kernel) ?_; clear D)
  obtain ⟨_, _, M⟩ := bmod_of_top T
  have TA := at_of_top T
  try (obtain ⟨_, _, he, B0⟩ := based_of_top T rfl hmg ho hd; have he' : cd = _ := he; subst he'; clear he)
  clear hmg
  wrow_args hpre hlay hrd hwl hlo
  all_goals (
    first | refine enter_call ?_ | w_how
    w_top on
    have K0 := below_caller (Top.heap T)
    w_call any ho hd hcd hD T F
    clear hd TA
    k_drop
    skip)
  all_goals try k_fold
  rename s₁.heap.IsList _ _ => hl
  rename IntsAre _ _ => hI
  rename ¬ ((63 : Int) < _) => h63
  rename Fr s₁.heap _ _ _ => F9
  rename News s₁.heap _ _ _ => N9
  rename_i w1 w2 w3 w4 w5 w6 w7 w8 w9 e1 e2 e3 e4 e5 e6 e7 e8 e9 X0
  refine seg0 w _ _ _ _ s₁.heap s₁.heap.objs.size fa _ _ { heap := _, gens := s₁.gens, drawn := _, toks := _, os := s₁.os } qk ek _ _ KX T K0 hl hI (by omega) (seg1 _ _ _ _ _ _ _ _ _ _ _ _ _ KX T K0 (seg2 _ _ _ _ _ _ _ _ _ _ _ _ _ KX T K0 (seg5 _ _ _ _ _ _ _ _ _ _ _ _ _ KX T K0 (seg10 _ _ _ _ _ _ _ _ _ _ _ _ _ KX T K0 ?hret)))) _ _ _ _ _ _ _ _ _ _ ⟨rfl, rfl⟩ F9 N9 ?d1 ?d2 ?d3 ?d4 ?d5 ?d6 ?d7 ?d8 ?d9
  case hret =>
    intro s' m' hLt hF
    refine good_true ?nr ?post hF.keep (congrArg Prod.fst hLt.2) ((congrArg Prod.snd hLt.2).trans (by show bareOf s₁.gens = true; rw [hg]; exact (bareOf_iff _).mpr (fun i y e => by simp at e)))
    case nr => intro cls; rfl
    case post =>
      refine' postW_of ?pps ?ppv ?ppe
      case pps => o_shape
      case ppv => wtm_val
      case ppe => w_fin
  case d1 => exact e9
  case d2 => exact e8
  case d3 => exact e7
  case d4 => exact e6
  case d5 => exact e5
  case d6 => exact e4
  case d7 => exact e3
  case d8 => exact e2
  case d9 => exact e1
end Mine
theorem PySem.Challenge.cw_sr0066_02_holds : PySem.Challenge.rw_sr0066_02.Holds :=
  Mine.hold
