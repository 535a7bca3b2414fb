import PyProof.Rows.All
import Wide.All
import OpenK.AllK
import Wide.FinOn
import KE.KTreeD
import KE.KLcPair
import KE.KDictLetter
import KE.KSetAt
import KE.KxMul
import KE.KLcTest
import PySem.Challenge.RW_sr0066_01
set_option linter.unusedVariables false
set_option Elab.async false
set_option maxRecDepth 100000
set_option compiler.extract_closed false
namespace Mine
open PySem
/-- a goal that the walk is to leave alone -/
structure Hold (p : Prop) : Prop where
  h : p
theorem ne_suc {a b : Nat} (h : a ≠ b) : a + 1 ≠ b + 1 := fun e => h (Nat.succ.inj e)
theorem lt_suc {a b : Nat} (h : a < b) : a < b + 1 := Nat.lt_succ_of_lt h
theorem big_down {a b : Nat} (h : a + 1 < b) : a < b := Nat.lt_of_succ_lt h
theorem for_any {M : Model} {A : Around} {E : Value → Shared → Prop} {s : Shared} {env : Env} {target iter body orelse pos} {Q : Flow → Shared → Prop} (hs : ∀ x, foldedSetIterable iter env x = pure x)
    (h : wpAny M A (eval iter env) (fun x s₁ => wpAny M A (pyIter x) (fun it s₂ =>
      codeAny M A (.forLoop target it body orelse env) (fun r s' => match r with | .ok f => Q f s' | .error e => cameBackBy M A env E e s') s₂) E s₁) E s) :
    wpAny M A (exec (.For target iter body orelse pos) env) Q E s := wpAny_For h hs
end Mine
local macro_rules | `(tactic| k_ne) => `(tactic| (refine PySem.W.neN ?_; (try dsimp only); first
  | with_reducible assumption
  | (refine Ne.symm ?_; with_reducible assumption)
  | ((repeat (with_reducible refine Mine.ne_suc ?_)); first | (refine Nat.ne_of_lt ?_; (repeat (first | with_reducible exact Nat.lt_add_one _ | with_reducible refine Mine.lt_suc ?_)); done) | (refine Nat.ne_of_gt ?_; (repeat (first | with_reducible exact Nat.lt_add_one _ | with_reducible refine Mine.lt_suc ?_)); done))
  | (refine Nat.ne_of_gt ?_; (iterate 10 (try (first | with_reducible assumption | with_reducible refine Mine.big_down ?_))); done)
  | (refine Nat.ne_of_lt ?_; (iterate 10 (try (first | with_reducible assumption | with_reducible refine Mine.big_down ?_))); done)
  | ((iterate 40 (try (rename _ ∧ _ => hc; have hf := And.left hc; replace hc := And.right hc))); first | with_reducible assumption | (refine Ne.symm ?_; with_reducible assumption))
  | omega))
local macro_rules | `(tactic| walk_at "~om") => `(tactic| first | omega | (simp <;> omega))
local macro_rules | `(tactic| walk_at "~ln") => `(tactic| (simp only [List.length_append, List.length_replicate, List.length_cons, List.length_nil]; walk_at "~om"))
local macro_rules | `(tactic| walk_at "~k") => `(tactic| (k_asm; k_asm; assumption; assumption))
local macro_rules | `(tactic| walk_at "~call") => `(tactic| (k_asm; k_asm; k_asm; k_asm; k_asm; (first | exact rfl | assumption); ktr_room; ktr_units; intro _ _ _ _ _; try dsimp only))
namespace Mine
open PySem PySem.W PySem.Calls PyProof.Rows

section
variable {tb : String → Option Builtin} {pr : Program} {w : World} {n₀ : Nat} {ann : Option Value} {b : Nat}

theorem segGo_add : ∀ {n m : Nat} {s s' : Shared} {t t' : Thread} {r : Option (Shared × Thread)}, segGo tb pr w n₀ ann b n s t = some (s', t') → segGo tb pr w n₀ ann b m s' t' = r → segGo tb pr w n₀ ann b (n + m) s t = r
  | 0, m, s, s', t, t', r, h, k => by
    obtain ⟨rfl, rfl⟩ : s = s' ∧ t = t' := by simpa [segGo] using h
    rw [Nat.zero_add]; exact k
  | n + 1, m, s, s', t, t', r, h, k => by
    rw [show n + 1 + m = n + m + 1 by omega]
    unfold segGo at h ⊢
    cases he : endAt b t with
    | some f => rw [he] at h; cases h
    | none =>
      rw [he] at h
      cases hk : stepOk n₀ ann t with
      | false => rw [hk] at h; cases h
      | true =>
        rw [hk] at h
        cases hs : step (denote tb) pr w s t with
        | halt o s₂ => rw [hs] at h; cases h
        | go s₂ t₂ => rw [hs] at h; exact segGo_add h k

theorem segGo_one {n : Nat} {s s₁ : Shared} {t t₁ : Thread} {r : Option (Shared × Thread)} (he : endAt b t = none) (hk : stepOk n₀ ann t = true) (hs : step (denote tb) pr w s t = .go s₁ t₁) (k : segGo tb pr w n₀ ann b n s₁ t₁ = r) :
    segGo tb pr w n₀ ann b (n + 1) s t = r := by
  unfold segGo
  rw [he, hk, hs]
  exact k

theorem endAt_cons {f : Frame} {st : List Frame} {cur : Sem Fin} {c : Code} {p : Pos} (h : b ≤ st.length) : endAt b ⟨cur, c, p, f :: st⟩ = none := by
  have : ((f :: st).length == b) = false := beq_eq_false_iff_ne.mpr (by rw [List.length_cons]; omega)
  unfold endAt
  rw [this]

theorem endAt_off {cur : Sem Fin} {c : Code} {p : Pos} {st : List Frame} (h : ∀ f, cur ≠ .pure (.done f)) : endAt b ⟨cur, c, p, st⟩ = none := by
  unfold endAt
  split
  · rename_i f h1 h2; exact absurd h2 (h f)
  · rfl

theorem step_load {o : Obj} {q : Option Value} {a : Addr} {k : Obj → Sem Fin} {s : Shared} {c : Code} {p : Pos} {st : List Frame} (ho : s.heap.get? a = some o) : step (denote tb) pr w s ⟨.load a q k, c, p, st⟩ = .go s ⟨k o, c, p, st⟩ := by
  obtain ⟨h, g, d, t, os⟩ := s
  simp only at ho
  simp only [step, ho]
theorem step_update {o : Obj} {q : Option Value} {a : Addr} {f : Obj → Obj} {k : Unit → Sem Fin} {s : Shared} {c : Code} {p : Pos} {st : List Frame} (ho : s.heap.get? a = some o) :
    step (denote tb) pr w s ⟨.update a q f k, c, p, st⟩ = .go { s with heap := s.heap.update a f } ⟨k (), c, p, st⟩ := by
  obtain ⟨h, g, d, t, os⟩ := s
  simp only at ho
  simp only [step, ho, Option.isSome_some, if_true]
theorem step_call {s : Shared} {c code : Code} {p : Pos} {st : List Frame} (g : Bool) (l : List Value) (k : Result → Sem Fin) : ∃ kept, step (denote tb) pr w s ⟨.call c none g l k, code, p, st⟩ = .go s ⟨denote tb c, c, p, .ret k none g l code p kept :: st⟩ := by
  obtain ⟨h, gs, d, t, os⟩ := s
  exact ⟨_, rfl⟩
theorem wrap_id : ∀ m : Sem Fin, m.wrap .pure .raise id id = m := fun m => by
  rw [← Sem.bind_eq_wrap, Sem.bind_pure]
end
section
variable (tb : String → Option Builtin) (pr : Program) (w : World) (n₀ : Nat)

/-- an exact run of a tree without handlers, generators or a look at the stack: from a state and a place to an answer, in so many steps -/
noncomputable def Ev {α : Type} (m : Sem α) (s : Shared) (p : Pos) (a : α) (s' : Shared) (p' : Pos) (n : Nat) : Prop :=
  ∀ (ann : Option Value) (b : Nat) (K : α → Sem Fin) (H : Value → Sem Fin) (gd : Bool → Bool) (lv : List Value → List Value) (code : Code) (st : List Frame), b ≤ st.length →
    segGo tb pr w n₀ ann b n s ⟨m.wrap K H gd lv, code, p, st⟩ = some (s', ⟨K a, code, p', st⟩)
end

section
variable {tb : String → Option Builtin} {pr : Program} {w : World} {n₀ : Nat} {ann : Option Value} {b : Nat}
theorem Ev.run {α : Type} {m : Sem α} {s s' : Shared} {p p' : Pos} {a : α} {n : Nat} (h : Ev tb pr w n₀ m s p a s' p' n) :
    ∀ (K : α → Sem Fin) (H : Value → Sem Fin) (code : Code) (st : List Frame), b ≤ st.length → segGo tb pr w n₀ ann b n s ⟨m.wrap K H id id, code, p, st⟩ = some (s', ⟨K a, code, p', st⟩) :=
  fun K H code st hb => h ann b K H id id code st hb
end
section
variable {tb : String → Option Builtin} {pr : Program} {w : World} {n₀ : Nat} {α : Type} {s s' : Shared} {p p' : Pos} {a : α} {n : Nat}
theorem Ev.pure (a : α) (s : Shared) (p : Pos) : Ev tb pr w n₀ (.pure a) s p a s p 0 := fun _ _ _ _ _ _ _ _ _ => rfl
theorem Ev.rule {t : String} {k : Unit → Sem α} (h : Ev tb pr w n₀ (k ()) s p a s' p' n) : Ev tb pr w n₀ (.rule t k) s p a s' p' (n + 1) := fun ann b K H gd lv code st hb =>
  segGo_one (endAt_off (fun f e => by cases e)) rfl rfl (h ann b K H gd lv code st hb)
theorem Ev.at {q : Pos} {k : Unit → Sem α} (h : Ev tb pr w n₀ (k ()) s q a s' p' n) : Ev tb pr w n₀ (.at q k) s p a s' p' (n + 1) := fun ann b K H gd lv code st hb =>
  segGo_one (endAt_off (fun f e => by cases e)) rfl rfl (h ann b K H gd lv code st hb)
theorem Ev.point {l : List Value} {k : Unit → Sem α} (h : Ev tb pr w n₀ (k ()) s p a s' p' n) : Ev tb pr w n₀ (.point l k) s p a s' p' (n + 1) := fun ann b K H gd lv code st hb =>
  segGo_one (endAt_off (fun f e => by cases e)) rfl rfl (h ann b K H gd lv code st hb)
theorem Ev.ask {k : Setting → Sem α} (h : Ev tb pr w n₀ (k ⟨pr, w.params⟩) s p a s' p' n) : Ev tb pr w n₀ (.ask k) s p a s' p' (n + 1) := fun ann b K H gd lv code st hb =>
  segGo_one (endAt_off (fun f e => by cases e)) rfl rfl (h ann b K H gd lv code st hb)
theorem Ev.load {b : Addr} {q : Option Value} {o : Obj} {k : Obj → Sem α} (ho : s.heap.get? b = some o) (h : Ev tb pr w n₀ (k o) s p a s' p' n) : Ev tb pr w n₀ (.load b q k) s p a s' p' (n + 1) := fun ann b K H gd lv code st hb =>
  segGo_one (endAt_off (fun f e => by cases e)) rfl (step_load ho) (h ann b K H gd lv code st hb)
theorem Ev.update {b : Addr} {q : Option Value} {f : Obj → Obj} {o : Obj} {k : Unit → Sem α} (hb : Nat.ble n₀ b = true ∨ b = mainNs) (ho : s.heap.get? b = some o)
    (h : Ev tb pr w n₀ (k ()) { s with heap := s.heap.update b f } p a s' p' n) : Ev tb pr w n₀ (.update b q f k) s p a s' p' (n + 1) := fun ann b' K H gd lv code st hb' => by
  refine segGo_one (endAt_off (fun f e => by cases e)) ?_ (step_update ho) (h ann b' K H gd lv code st hb')
  rcases hb with e | e
  · unfold stepOk Thread.calm Thread.atCollectorCode Thread.yieldsInsideHandler Sem.wrap
    simp [e]
  · subst e
    unfold stepOk Thread.calm Thread.atCollectorCode Thread.yieldsInsideHandler Sem.wrap
    simp
theorem Ev.alloc {o : Obj} {k : Addr → Sem α} (h : Ev tb pr w n₀ (k s.heap.objs.size) { s with heap := s.heap.push o } p a s' p' n) : Ev tb pr w n₀ (.alloc o k) s p a s' p' (n + 1) := fun ann b K H gd lv code st hb =>
  segGo_one (endAt_off (fun f e => by cases e)) rfl rfl (h ann b K H gd lv code st hb)
theorem Ev.fresh {k : Tok → Sem α} (h : Ev tb pr w n₀ (k s.toks) { s with toks := s.toks + 1 } p a s' p' n) : Ev tb pr w n₀ (.fresh k) s p a s' p' (n + 1) := fun ann b K H gd lv code st hb =>
  segGo_one (endAt_off (fun f e => by cases e)) rfl rfl (h ann b K H gd lv code st hb)
theorem Ev.call {c : Code} {g : Bool} {l : List Value} {k : Result → Sem α} {s₁ : Shared} {p₁ : Pos} {f : Flow} {n₁ : Nat} (h₁ : Ev tb pr w n₀ (denote tb c) s p (.done f) s₁ p₁ n₁)
    (h : Ev tb pr w n₀ (k (.ok f)) s₁ p a s' p' n) : Ev tb pr w n₀ (.call c none g l k) s p a s' p' (n₁ + 1 + n + 1) := fun ann b K H gd lv code st hb => by
  obtain ⟨kept, hst⟩ := step_call (tb := tb) (pr := pr) (w := w) (s := s) (c := c) (code := code) (p := p) (st := st) (gd g) (lv l) (fun x => (k x).wrap K H gd lv)
  refine segGo_one (endAt_off (fun f e => by cases e)) rfl hst ?_
  have z := h₁ ann b .pure .raise id id c (.ret (fun x => (k x).wrap K H gd lv) none (gd g) (lv l) code p kept :: st) (Nat.le_succ_of_le hb)
  rw [wrap_id] at z
  rw [Nat.add_assoc, Nat.add_comm 1 n]
  exact segGo_add z (segGo_one (endAt_cons hb) rfl rfl (h ann b K H gd lv code st hb))
theorem Ev.callAgain {c c₂ : Code} {g : Bool} {l : List Value} {k : Result → Sem α} {s₁ s₂ : Shared} {p₁ p₂ : Pos} {f : Flow} {n₁ n₂ : Nat} (h₁ : Ev tb pr w n₀ (denote tb c) s p (.again c₂) s₁ p₁ n₁)
    (hc : ∀ t : Thread, t.cur = .pure (.again c₂) → t.calm = true) (h₂ : Ev tb pr w n₀ (denote tb c₂) s₁ p₁ (.done f) s₂ p₂ n₂)
    (h : Ev tb pr w n₀ (k (.ok f)) s₂ p a s' p' n) : Ev tb pr w n₀ (.call c none g l k) s p a s' p' (n₁ + (n₂ + (n + 1) + 1) + 1) := fun ann b K H gd lv code st hb => by
  obtain ⟨kept, hst⟩ := step_call (tb := tb) (pr := pr) (w := w) (s := s) (c := c) (code := code) (p := p) (st := st) (gd g) (lv l) (fun x => (k x).wrap K H gd lv)
  refine segGo_one (endAt_off (fun f e => by cases e)) rfl hst ?_
  have z := h₁ ann b .pure .raise id id c (.ret (fun x => (k x).wrap K H gd lv) none (gd g) (lv l) code p kept :: st) (Nat.le_succ_of_le hb)
  rw [wrap_id] at z
  refine segGo_add z ?_
  refine segGo_one (endAt_cons hb) ?_ step_again ?_
  · unfold stepOk
    rw [hc _ rfl]
    rfl
  have z₂ := h₂ ann b .pure .raise id id c₂ (.ret (fun x => (k x).wrap K H gd lv) none (gd g) (lv l) code p (keptBy c c₂ (lv l) kept) :: st) (Nat.le_succ_of_le hb)
  rw [wrap_id] at z₂
  exact segGo_add z₂ (segGo_one (endAt_cons hb) rfl rfl (h ann b K H gd lv code st hb))
theorem Ev.bind {β : Type} {m : Sem α} {f : α → Sem β} {s₁ : Shared} {p₁ : Pos} {r : β} {n₁ : Nat} (h₁ : Ev tb pr w n₀ m s p a s₁ p₁ n₁) (h : Ev tb pr w n₀ (f a) s₁ p₁ r s' p' n) :
    Ev tb pr w n₀ (m.bind f) s p r s' p' (n₁ + n) := fun ann b K H gd lv code st hb => by
  rw [Sem.bind_eq_wrap, Sem.wrap_wrap]
  exact segGo_add (h₁ ann b _ _ _ _ code st hb) (h ann b K H gd lv code st hb)
theorem Ev.keep {m : Sem α} (vs : List Value) (h : Ev tb pr w n₀ m s p a s' p' n) : Ev tb pr w n₀ (m.keep vs) s p a s' p' n := fun ann b K H gd lv code st hb => by
  rw [Sem.keep_eq_wrap, Sem.wrap_wrap]
  exact h ann b _ _ _ _ code st hb
theorem Ev.holding {m : Sem α} {vs : List Value} (h : Ev tb pr w n₀ m s p a s' p' n) : Ev tb pr w n₀ (holding vs m) s p a s' p' n := by
  rw [holding_eq_keep]
  exact h.keep _
theorem Ev.onRaise {m : Sem α} {H : Value → Sem Unit} (h : Ev tb pr w n₀ m s p a s' p' n) : Ev tb pr w n₀ (m.onRaise H) s p a s' p' n := fun ann b K H' gd lv code st hb => by
  rw [Sem.onRaise_eq_wrap, Sem.wrap_wrap]
  exact h ann b _ _ _ _ code st hb
end
section
variable {tb : String → Option Builtin} {pr : Program} {w : World} {n₀ : Nat}
theorem Ev.pb {α β : Type} {m : Sem α} {f : α → Sem β} {s s' : Shared} {p p' : Pos} {a : α} {r : β} {n : Nat} (e : m = .pure a) (h : Ev tb pr w n₀ (f a) s p r s' p' n) : Ev tb pr w n₀ (m >>= f) s p r s' p' n := by
  subst e
  exact h
theorem Ev.sb {α β : Type} {m : Sem α} {f : α → Sem β} {s s₁ s' : Shared} {p p₁ p' : Pos} {a : α} {r : β} {n₁ n₂ n : Nat} (h₁ : Ev tb pr w n₀ m s p a s₁ p₁ n₁) (h : Ev tb pr w n₀ (f a) s₁ p₁ r s' p' n₂) (e : n = n₁ + n₂) :
    Ev tb pr w n₀ (m >>= f) s p r s' p' n := by
  subst e
  exact h₁.bind h
theorem Ev.to {α : Type} {m : Sem α} {s s' s'' : Shared} {p p' : Pos} {a : α} {n n' : Nat} (h : Ev tb pr w n₀ m s p a s' p' n) (es : s' = s'') (en : n = n') : Ev tb pr w n₀ m s p a s'' p' n' := by
  subst es en
  exact h
end
end Mine
namespace Mine
open PySem PySem.W PySem.Calls PyProof.Rows
section
variable {pr : Program} {w : World} {n₀ : Nat}

theorem special_hash (n : Int) (t : Tok) : specialOf (.int n t) "__hash__" = Sem.pure (some (.builtin "int.__hash__")) := by
  show typeLookup (.type "int") "__hash__" = _
  rw [typeLookup_type, builtinLookup_eq_fast]
  kernel_rfl
theorem bind_hash (n : Int) (t : Tok) : bindSpecial (.builtin "int.__hash__") (.int n t) = Sem.pure (.builtin "int.__hash__", [.int n t]) := by
  kernel_rfl
theorem denote_of {tb : String → Option Builtin} {id : String} {b : Builtin} {args : Args} (h : entryFor tb id = some b) : denote tb (.builtin id args) = b args := by
  unfold denote
  simp only [h]
theorem entry_hash : entryFor treeTable "int.__hash__" = some Builtin.«int.__hash__» := by
  rw [← table_eq_tree]
  exact entryFor_of_fast (by kernel_rfl)
theorem hash_tree (n : Int) (t : Tok) (h0 : 0 ≤ n) (h1 : n < 1152921504606846976) : Builtin.«int.__hash__» ⟨[.int n t], []⟩ = Sem.fresh fun k => .pure (.done (.ret (.int n k))) := by
  have e : Builtin.«int.__hash__» ⟨[.int n t], []⟩ = (retInt (if (if n < 0 then -((n.natAbs % (2 ^ 61 - 1 : Nat) : Nat) : Int) else ((n.natAbs % (2 ^ 61 - 1 : Nat) : Nat) : Int)) == -1 then -2 else (if n < 0 then -((n.natAbs % (2 ^ 61 - 1 : Nat) : Nat) : Int) else ((n.natAbs % (2 ^ 61 - 1 : Nat) : Nat) : Int)))) := by rfl
  rw [e, if_neg (show ¬ n < 0 by omega), Nat.mod_eq_of_lt (show n.natAbs < 2 ^ 61 - 1 by omega), Int.natAbs_of_nonneg h0]
  rw [if_neg (by simp; omega)]
  rfl

theorem ev_pyHash (n : Int) (t : Tok) (h0 : 0 ≤ n) (h1 : n < 1152921504606846976) (s : Shared) (p : Pos) : Ev treeTable pr w n₀ (pyHash (.int n t)) s p n { s with toks := s.toks + 1 } p 5 := by
  show Ev treeTable pr w n₀ (pyHashByItsType (.int n t)) s p n { s with toks := s.toks + 1 } p 5
  unfold pyHashByItsType callSpecialIfBoundUnlessNone? bindSpecialIfBound?
  simp only [special_hash]
  refine Ev.pb (a := ()) rfl ?_
  refine Ev.pb rfl ?_
  refine Ev.pb rfl ?_
  refine Ev.sb (s₁ := { s with toks := s.toks + 1 }) (p₁ := p) (n₁ := 5) (n₂ := 0) (a := some (.int n s.toks)) (Ev.holding ?_) ?_ rfl
  · refine Ev.sb (s₁ := s) (p₁ := p) (n₁ := 1) (n₂ := 4) (a := some (.builtin "int.__hash__", [.int n t])) ?_ ?_ rfl
    · refine Ev.pb rfl ?_
      refine Ev.ask ?_
      show Ev _ _ _ _ (if w.params.followText "special-get-raises" = true then _ else _) _ _ _ _ _ _
      split <;> exact .pure _ _ _
    · refine Ev.sb (s₁ := { s with toks := s.toks + 1 }) (p₁ := p) (n₁ := 4) (n₂ := 0) (a := Value.int n s.toks) ?_ (.pure _ _ _) rfl
      refine Ev.callAgain (c₂ := .builtin "int.__hash__" ⟨[.int n t], []⟩) (s₁ := s) (p₁ := p) (s₂ := { s with toks := s.toks + 1 }) (p₂ := p) (n₁ := 0) (n₂ := 1) (n := 0) (f := .ret (.int n s.toks)) (.pure _ _ _) ?_ ?_ (.pure _ _ _)
      · intro th e
        obtain ⟨cur, c, p, st⟩ := th
        subst e
        kernel_rfl
      · rw [denote_of entry_hash, hash_tree n t h0 h1]
        exact .fresh (.pure _ _ _)
  · show Ev _ _ _ _ (pyHashByItsType.reduced n) _ _ _ _ _ _
    unfold pyHashByItsType.reduced
    rw [if_pos (by simp; omega), if_neg (by simp; omega)]
    exact .pure _ _ _
end
end Mine
namespace Mine
open PySem PySem.W PySem.Calls PyProof.Rows

noncomputable abbrev hp (l : List Obj) (life : Life) : Heap := ⟨l.toArray, life⟩
theorem hp_push (l : List Obj) (life : Life) (o : Obj) : (hp l life).push o = hp (l ++ [o]) life := by
  show Heap.mk _ _ = Heap.mk _ _
  rw [List.push_toArray]
theorem hp_size (l : List Obj) (life : Life) : (hp l life).objs.size = l.length := by
  show l.toArray.size = _
  rw [List.size_toArray]
noncomputable abbrev dob (es : List DictEntry) : Obj := { cls := .type "dict", data := .dict es.toArray es.length }
theorem hp_dict {l : List Obj} {life : Life} {a : Nat} {es : List DictEntry} (h : l[a]? = some (dob es)) : (hp l life).get? a = some (dob es) := by
  unfold Heap.get?
  show (match l.toArray[a]? with | some ⟨_, _, .freed, _⟩ => none | o => o) = _
  rw [List.getElem?_toArray, h]
theorem modify_at {α : Type} (f : α → α) : ∀ (B : List α) (o : α) (r : List α), (B ++ o :: r).modify B.length f = B ++ f o :: r
  | [], _, _ => rfl
  | b :: B, o, r => by
    show b :: ((B ++ o :: r).modify B.length f) = _
    rw [modify_at f B o r]
    rfl
theorem hp_update (B : List Obj) (o : Obj) (r : List Obj) (life : Life) (f : Obj → Obj) : (hp (B ++ o :: r) life).update B.length f = hp (B ++ f o :: r) life := by
  show Heap.mk _ _ = Heap.mk _ _
  rw [List.modify_toArray, modify_at]
theorem at_len {α : Type} (B : List α) (o : α) (r : List α) : (B ++ o :: r)[B.length]? = some o := by
  simp

theorem places_none {es : List DictEntry} {h : Int} (hn : ∀ e ∈ es, e.hash ≠ h) : placesWithHash es.toArray.size (fun i => (es.toArray[i]?).map (·.hash)) h = [] := by
  unfold placesWithHash
  rw [List.filter_eq_nil_iff]
  intro i hi
  dsimp only
  rw [List.getElem?_toArray]
  cases e : es[i]? with
  | none => simp
  | some x =>
    have := hn x (List.mem_of_getElem? e)
    simpa using this

section
variable {pr : Program} {w : World} {n₀ : Nat}

theorem ev_dictFind {d : Addr} {n : Int} {t : Tok} {h : Int} {es : List DictEntry} {s : Shared} {p : Pos} (hd : s.heap.get? d = some (dob es)) (hn : ∀ e ∈ es, e.hash ≠ h) : Ev treeTable pr w n₀ (dictFind d (.int n t) h) s p none s p 1 := by
  unfold dictFind
  refine Ev.holding (Ev.sb (n₁ := 1) (n₂ := 0) (s₁ := s) (p₁ := p) (a := es.toArray) (.load hd (.pure _ _ _)) ?_ rfl)
  dsimp only
  rw [places_none hn]
  exact .pure _ _ _

theorem ev_find_any {d : Addr} {k : Value} {h : Int} {es : List DictEntry} {s : Shared} {p : Pos} (hk : ∃ n t, k = .int n t) (hd : s.heap.get? d = some (dob es)) (hn : ∀ e ∈ es, e.hash ≠ h) : Ev treeTable pr w n₀ (dictFind d k h) s p none s p 1 := by
  obtain ⟨n, t, rfl⟩ := hk
  exact ev_dictFind hd hn

theorem dob_push (es : List DictEntry) (e : DictEntry) : Obj.mapDictKeys (·.push e) (dob es) = dob (es ++ [e]) := by
  show Obj.mk _ _ (.dict (es.toArray.push e) (es.length + 1)) _ = Obj.mk _ _ (.dict (es ++ [e]).toArray (es ++ [e]).length) _
  rw [List.push_toArray, List.length_append]
  rfl

theorem ev_updateKeys {B r : List Obj} {life : Life} {es : List DictEntry} {e : DictEntry} {part : Option Value} {gs : Array GenState} {dr : Drawn} {tk : Nat} {os : OsState} {p : Pos} (hb : Nat.ble n₀ B.length = true) (hz : es.length ≤ 10000) :
    Ev treeTable pr w n₀ (updateDictKeys B.length (·.push e) part) ⟨hp (B ++ dob es :: r) life, gs, dr, tk, os⟩ p () ⟨hp (B ++ dob (es ++ [e]) :: r) life, gs, dr, tk, os⟩ p 3 := by
  unfold updateDictKeys
  have g : (hp (B ++ dob es :: r) life).get? B.length = some (dob es) := hp_dict (at_len _ _ _)
  have g' : (hp (B ++ dob (es ++ [e]) :: r) life).get? B.length = some (dob (es ++ [e])) := hp_dict (at_len _ _ _)
  refine Ev.sb (n₁ := 1) (n₂ := 2) (s₁ := ⟨hp (B ++ dob es :: r) life, gs, dr, tk, os⟩) (p₁ := p) (.load g (.pure _ _ _)) ?_ rfl
  refine Ev.sb (n₁ := 1) (n₂ := 1) (s₁ := ⟨hp (B ++ dob (es ++ [e]) :: r) life, gs, dr, tk, os⟩) (p₁ := p) (a := ()) ?_ ?_ rfl
  · refine Ev.update (.inl hb) g ?_
    show Ev _ _ _ _ _ ⟨(hp (B ++ dob es :: r) life).update B.length _, gs, dr, tk, os⟩ _ _ _ _ _
    rw [hp_update, dob_push]
    exact .pure _ _ _
  · refine Ev.sb (n₁ := 1) (n₂ := 0) (s₁ := ⟨hp (B ++ dob (es ++ [e]) :: r) life, gs, dr, tk, os⟩) (p₁ := p) (.load g' (.pure _ _ _)) ?_ rfl
    have : (dob (es ++ [e])).data.pastItsLine = none := by
      show (if (es ++ [e]).toArray.size > sizeLine + 1 then some "dict:memory" else none) = none
      rw [if_neg]
      rw [List.size_toArray, List.length_append, List.length_singleton]
      show ¬ (es.length + 1 > 2 ^ 24 + 1)
      lia
    rw [this]
    exact .pure _ _ _

theorem ev_dictSet {B r : List Obj} {life : Life} {es : List DictEntry} {n : Int} {t : Tok} {v : Value} {gs : Array GenState} {dr : Drawn} {tk : Nat} {os : OsState} {p : Pos} (hb : Nat.ble n₀ B.length = true) (hz : es.length ≤ 10000)
    (h0 : 0 ≤ n) (h1 : n < 1152921504606846976) (hn : ∀ e ∈ es, e.hash ≠ n) :
    Ev treeTable pr w n₀ (dictSet B.length (.int n t) v) ⟨hp (B ++ dob es :: r) life, gs, dr, tk, os⟩ p () ⟨hp (B ++ dob (es ++ [⟨n, .int n t, v⟩]) :: r) life, gs, dr, tk + 1, os⟩ p 10 := by
  unfold dictSet
  refine Ev.holding ?_
  refine Ev.sb (n₁ := 5) (n₂ := 5) (s₁ := ⟨hp (B ++ dob es :: r) life, gs, dr, tk + 1, os⟩) (p₁ := p) (a := n) (ev_pyHash n t h0 h1 _ p) ?_ rfl
  unfold dictSetHashed
  refine Ev.holding ?_
  refine Ev.sb (n₁ := 1) (n₂ := 4) (s₁ := ⟨hp (B ++ dob es :: r) life, gs, dr, tk + 1, os⟩) (p₁ := p) (ev_dictFind (hp_dict (at_len _ _ _)) hn) ?_ rfl
  refine Ev.sb (n₁ := 1) (n₂ := 3) (s₁ := ⟨hp (B ++ dob es :: r) life, gs, dr, tk + 1, os⟩) (p₁ := p) (a := ()) (.rule (.pure _ _ _)) ?_ rfl
  exact ev_updateKeys hb hz

/-- a key's tree, a value's tree -/
noncomputable abbrev kT (n : Int) : Sem Value := mkInt n
noncomputable abbrev vT (pos : Pos) (x : Str) : Sem Value := do
  let v ← mkText x
  standAt pos
  pure v
noncomputable abbrev tr (pos : Pos) (q : Int × Str) : Sem Value × Sem Value := (kT q.1, vT pos q.2)

noncomputable def ents : List (Int × Str) → Nat → List DictEntry
  | [], _ => []
  | (n, x) :: r, t => ⟨n, .int n t, .str x (t + 1)⟩ :: ents r (t + 3)
theorem ents_length : ∀ (ps : List (Int × Str)) (t : Nat), (ents ps t).length = ps.length
  | [], _ => rfl
  | (_, _) :: r, t => by rw [ents, List.length_cons, List.length_cons, ents_length r]
theorem ents_append : ∀ (ps qs : List (Int × Str)) (t : Nat), ents (ps ++ qs) t = ents ps t ++ ents qs (t + 3 * ps.length)
  | [], qs, t => by rw [List.nil_append, List.length_nil, Nat.mul_zero, Nat.add_zero]; rfl
  | (n, x) :: r, qs, t => by
    rw [List.cons_append, ents, ents, ents_append r qs, List.cons_append, List.length_cons, show t + 3 + 3 * r.length = t + 3 * (r.length + 1) by lia]

/-- strictly rising keys above lo, below 2^60 -/
noncomputable def Inc : Int → List (Int × Str) → Prop
  | _, [] => True
  | lo, (n, _) :: r => lo < n ∧ n < 1152921504606846976 ∧ Inc n r
noncomputable def incB : Int → List (Int × Str) → Bool
  | _, [] => true
  | lo, (n, _) :: r => decide (lo < n) && decide (n < 1152921504606846976) && incB n r
theorem inc_of : ∀ {lo : Int} {ps : List (Int × Str)}, incB lo ps = true → Inc lo ps
  | _, [], _ => trivial
  | lo, (n, x) :: r, h => by
    simp only [incB, Bool.and_eq_true, decide_eq_true_eq] at h
    exact ⟨h.1.1, h.1.2, inc_of h.2⟩

/-- the last key of a list above lo -/
noncomputable def top : Int → List (Int × Str) → Int
  | lo, [] => lo
  | _, (n, _) :: r => top n r
theorem top_ge : ∀ {lo : Int} {ps : List (Int × Str)}, Inc lo ps → lo ≤ top lo ps
  | lo, [], _ => Int.le_refl lo
  | lo, (n, x) :: r, h => Int.le_trans (Int.le_of_lt h.1) (top_ge h.2.2)
theorem ents_top : ∀ {lo : Int} {ps : List (Int × Str)} {t : Nat}, Inc lo ps → ∀ e ∈ ents ps t, e.hash ≤ top lo ps
  | lo, [], t, _, e, he => nomatch he
  | lo, (n, x) :: r, t, h, e, he => by
    rcases List.mem_cons.mp he with rfl | he
    · exact top_ge h.2.2
    · exact ents_top h.2.2 e he

noncomputable abbrev setBody (d : Addr) : Sem Value × Sem Value → PUnit → Sem (ForInStep PUnit) := fun x _ => match x with
  | (k, v) => do
    let kv ← k
    let vv ← holding [kv] v
    holding [kv, vv] (dictSet d kv vv)
    pure (ForInStep.yield PUnit.unit)

noncomputable def lastPos (pos p : Pos) : List (Int × Str) → Pos
  | [] => p
  | _ :: _ => pos
theorem lastPos_self (pos : Pos) : ∀ ps, lastPos pos pos ps = pos
  | [] => rfl
  | _ :: _ => rfl
theorem ev_sets {B r : List Obj} {life : Life} {gs : Array GenState} {dr : Drawn} {os : OsState} {pos : Pos} (hb : Nat.ble n₀ B.length = true) :
    ∀ (ps : List (Int × Str)) (es : List DictEntry) (lo : Int) (tk : Nat) (p : Pos), 0 ≤ lo → Inc lo ps → (∀ e ∈ es, e.hash ≤ lo) → es.length + ps.length ≤ 10000 →
    Ev treeTable pr w n₀ (forIn (ps.map (tr pos)) PUnit.unit (setBody B.length)) ⟨hp (B ++ dob es :: r) life, gs, dr, tk, os⟩ p PUnit.unit ⟨hp (B ++ dob (es ++ ents ps tk) :: r) life, gs, dr, tk + 3 * ps.length, os⟩ (lastPos pos p ps) (13 * ps.length)
  | [], es, lo, tk, p, _, _, _, _ => by rw [ents, List.append_nil]; exact .pure _ _ _
  | (n, x) :: ps, es, lo, tk, p, h0, hi, he, hz => by
    rw [List.length_cons] at hz
    have hn : 0 ≤ n := Int.le_trans h0 (Int.le_of_lt hi.1)
    have ih := ev_sets (r := r) (life := life) (gs := gs) (dr := dr) (os := os) (pos := pos) hb ps (es ++ [⟨n, .int n tk, .str x (tk + 1)⟩]) n (tk + 3) pos hn hi.2.2 (fun e hm => by
      rcases List.mem_append.mp hm with hm | hm
      · exact Int.le_trans (he e hm) (Int.le_of_lt hi.1)
      · rw [List.mem_singleton.mp hm]; exact Int.le_refl n) (by rw [List.length_append, List.length_singleton]; lia)
    rw [lastPos_self] at ih
    rw [List.map_cons, List.forIn_cons]
    refine Ev.sb (n₁ := 13) (n₂ := 13 * ps.length) (a := ForInStep.yield PUnit.unit) (s₁ := ⟨hp (B ++ dob (es ++ [⟨n, .int n tk, .str x (tk + 1)⟩]) :: r) life, gs, dr, tk + 3, os⟩) (p₁ := pos) ?_ ?_ (by rw [List.length_cons]; lia)
    · refine Ev.sb (n₁ := 1) (n₂ := 12) (a := .int n tk) (s₁ := ⟨hp (B ++ dob es :: r) life, gs, dr, tk + 1, os⟩) (p₁ := p) (.fresh (.pure _ _ _)) ?_ rfl
      refine Ev.sb (n₁ := 2) (n₂ := 10) (a := .str x (tk + 1)) (s₁ := ⟨hp (B ++ dob es :: r) life, gs, dr, tk + 2, os⟩) (p₁ := pos) (Ev.holding (.fresh (.at (.pure _ _ _)))) ?_ rfl
      refine Ev.sb (n₁ := 10) (n₂ := 0) (a := ()) (s₁ := ⟨hp (B ++ dob (es ++ [⟨n, .int n tk, .str x (tk + 1)⟩]) :: r) life, gs, dr, tk + 3, os⟩) (p₁ := pos) (Ev.holding (ev_dictSet hb (by lia) hn hi.2.1 fun e hm => Int.ne_of_lt (Int.lt_of_le_of_lt (he e hm) hi.1))) (.pure _ _ _) rfl
    · have e : es ++ ents ((n, x) :: ps) tk = es ++ [⟨n, .int n tk, .str x (tk + 1)⟩] ++ ents ps (tk + 3) := by rw [ents, List.append_assoc]; rfl
      rw [e, List.length_cons, show tk + 3 * (ps.length + 1) = tk + 3 + 3 * ps.length by lia]
      exact ih
end
end Mine
namespace Mine
open PySem PySem.W PySem.Calls PyProof.Rows
section
variable {pr : Program} {w : World} {n₀ : Nat}

theorem ev_subLong {Cl : List Obj} {life : Life} {gs : Array GenState} {dr : Drawn} {os : OsState} {pos : Pos} {ps : List (Int × Str)} {lo : Int} {tk : Nat} {p : Pos} (hb : Nat.ble n₀ Cl.length = true) (h0 : 0 ≤ lo) (hi : Inc lo ps) (hl : ps.length = 17) :
    Ev treeTable pr w n₀ (subDict (ps.map (tr pos))) ⟨hp Cl life, gs, dr, tk, os⟩ p Cl.length ⟨hp (Cl ++ [dob (ents ps tk)]) life, gs, dr, tk + 51, os⟩ pos 223 := by
  unfold subDict
  refine Ev.sb (n₁ := 1) (n₂ := 222) (a := Cl.length) (s₁ := ⟨hp (Cl ++ [dob []]) life, gs, dr, tk, os⟩) (p₁ := p) ?_ ?_ rfl
  · refine Ev.alloc ?_
    show Ev _ _ _ _ (.pure (hp Cl life).objs.size) ⟨(hp Cl life).push _, gs, dr, tk, os⟩ _ _ _ _ _
    rw [hp_push, hp_size]
    exact .pure _ _ _
  · refine Ev.sb (n₁ := 222) (n₂ := 0) (a := ()) (s₁ := ⟨hp (Cl ++ [dob (ents ps tk)]) life, gs, dr, tk + 51, os⟩) (p₁ := pos) (Ev.holding ?_) (.pure _ _ _) rfl
    rw [if_neg (by rw [List.length_map, hl]; lia)]
    refine Ev.sb (n₁ := 1) (n₂ := 221) (a := ()) (s₁ := ⟨hp (Cl ++ [dob []]) life, gs, dr, tk, os⟩) (p₁ := p) (.rule (.pure _ _ _)) ?_ rfl
    have z := ev_sets (pr := pr) (w := w) (r := []) (life := life) (gs := gs) (dr := dr) (os := os) (pos := pos) hb ps [] lo tk p h0 hi (fun e he => nomatch he) (by rw [hl]; decide)
    rw [hl, List.nil_append, show lastPos pos p ps = pos by cases ps with | nil => cases hl | cons => rfl] at z
    exact Ev.sb (n₁ := 221) (n₂ := 0) z (.pure _ _ _) rfl

noncomputable def vals : List (Int × Str) → Nat → List (Value × Value)
  | [], _ => []
  | (n, x) :: r, t => (.int n t, .str x (t + 1)) :: vals r (t + 2)
noncomputable def ents2 : List (Int × Str) → Nat → List DictEntry
  | [], _ => []
  | (n, x) :: r, t => ⟨n, .int n t, .str x (t + 1)⟩ :: ents2 r (t + 2)
theorem ents2_length : ∀ (ps : List (Int × Str)) (t : Nat), (ents2 ps t).length = ps.length
  | [], _ => rfl
  | (_, _) :: r, t => by rw [ents2, List.length_cons, List.length_cons, ents2_length r]

theorem ev_pairs {H : Heap} {gs : Array GenState} {dr : Drawn} {os : OsState} {pos : Pos} : ∀ (ps : List (Int × Str)) (tk : Nat) (p : Pos),
    Ev treeTable pr w n₀ (evalPairs (ps.map (tr pos))) ⟨H, gs, dr, tk, os⟩ p (vals ps tk) ⟨H, gs, dr, tk + 2 * ps.length, os⟩ (lastPos pos p ps) (3 * ps.length)
  | [], tk, p => .pure _ _ _
  | (n, x) :: ps, tk, p => by
    have ih := ev_pairs (H := H) (gs := gs) (dr := dr) (os := os) (pos := pos) ps (tk + 2) pos
    rw [lastPos_self] at ih
    rw [List.map_cons, evalPairs, List.length_cons, show tk + 2 * (ps.length + 1) = tk + 2 + 2 * ps.length by lia]
    refine Ev.sb (n₁ := 1) (n₂ := 2 + 3 * ps.length) (a := .int n tk) (s₁ := ⟨H, gs, dr, tk + 1, os⟩) (p₁ := p) (.fresh (.pure _ _ _)) ?_ (by lia)
    refine Ev.sb (n₁ := 2) (n₂ := 3 * ps.length) (a := .str x (tk + 1)) (s₁ := ⟨H, gs, dr, tk + 2, os⟩) (p₁ := pos) (Ev.holding (.fresh (.at (.pure _ _ _)))) ?_ rfl
    exact Ev.sb (n₁ := 3 * ps.length) (n₂ := 0) (Ev.holding ih) (.pure _ _ _) rfl

noncomputable abbrev setBody2 (d : Addr) : Value × Value → PUnit → Sem (ForInStep PUnit) := fun x _ => match x with
  | (k, v) => do
    dictSet d k v
    pure (ForInStep.yield PUnit.unit)
theorem ev_sets2 {B r : List Obj} {life : Life} {gs : Array GenState} {dr : Drawn} {os : OsState} {p : Pos} (hb : Nat.ble n₀ B.length = true) :
    ∀ (ps : List (Int × Str)) (es : List DictEntry) (lo : Int) (t tk : Nat), 0 ≤ lo → Inc lo ps → (∀ e ∈ es, e.hash ≤ lo) → es.length + ps.length ≤ 10000 →
    Ev treeTable pr w n₀ (forIn (vals ps t) PUnit.unit (setBody2 B.length)) ⟨hp (B ++ dob es :: r) life, gs, dr, tk, os⟩ p PUnit.unit ⟨hp (B ++ dob (es ++ ents2 ps t) :: r) life, gs, dr, tk + ps.length, os⟩ p (10 * ps.length)
  | [], es, lo, t, tk, _, _, _, _ => by rw [ents2, List.append_nil]; exact .pure _ _ _
  | (n, x) :: ps, es, lo, t, tk, h0, hi, he, hz => by
    rw [List.length_cons] at hz
    have hn : 0 ≤ n := Int.le_trans h0 (Int.le_of_lt hi.1)
    have ih := ev_sets2 (r := r) (life := life) (gs := gs) (dr := dr) (os := os) (p := p) hb ps (es ++ [⟨n, .int n t, .str x (t + 1)⟩]) n (t + 2) (tk + 1) hn hi.2.2 (fun e hm => by
      rcases List.mem_append.mp hm with hm | hm
      · exact Int.le_trans (he e hm) (Int.le_of_lt hi.1)
      · rw [List.mem_singleton.mp hm]; exact Int.le_refl n) (by rw [List.length_append, List.length_singleton]; lia)
    rw [vals, List.forIn_cons]
    refine Ev.sb (n₁ := 10) (n₂ := 10 * ps.length) (a := ForInStep.yield PUnit.unit) (s₁ := ⟨hp (B ++ dob (es ++ [⟨n, .int n t, .str x (t + 1)⟩]) :: r) life, gs, dr, tk + 1, os⟩) (p₁ := p) ?_ ?_ (by rw [List.length_cons]; lia)
    · exact Ev.sb (n₁ := 10) (n₂ := 0) (a := ()) (s₁ := ⟨hp (B ++ dob (es ++ [⟨n, .int n t, .str x (t + 1)⟩]) :: r) life, gs, dr, tk + 1, os⟩) (p₁ := p) (ev_dictSet hb (by lia) hn hi.2.1 fun e hm => Int.ne_of_lt (Int.lt_of_le_of_lt (he e hm) hi.1)) (.pure _ _ _) rfl
    · have e : es ++ ents2 ((n, x) :: ps) t = es ++ [⟨n, .int n t, .str x (t + 1)⟩] ++ ents2 ps (t + 2) := by rw [ents2, List.append_assoc]; rfl
      rw [e, List.length_cons, show tk + (ps.length + 1) = tk + 1 + ps.length by lia]
      exact ih

theorem ev_subShort {Cl : List Obj} {life : Life} {gs : Array GenState} {dr : Drawn} {os : OsState} {pos : Pos} {ps : List (Int × Str)} {lo : Int} {tk : Nat} {p : Pos} (hb : Nat.ble n₀ Cl.length = true) (h0 : 0 ≤ lo) (hi : Inc lo ps) (hl : ps.length ≤ 15) :
    Ev treeTable pr w n₀ (subDict (ps.map (tr pos))) ⟨hp Cl life, gs, dr, tk, os⟩ p Cl.length ⟨hp (Cl ++ [dob (ents2 ps tk)]) life, gs, dr, tk + 3 * ps.length, os⟩ (lastPos pos p ps) (13 * ps.length + 1) := by
  unfold subDict
  refine Ev.sb (n₁ := 1) (n₂ := 13 * ps.length) (a := Cl.length) (s₁ := ⟨hp (Cl ++ [dob []]) life, gs, dr, tk, os⟩) (p₁ := p) ?_ ?_ (by lia)
  · refine Ev.alloc ?_
    show Ev _ _ _ _ (.pure (hp Cl life).objs.size) ⟨(hp Cl life).push _, gs, dr, tk, os⟩ _ _ _ _ _
    rw [hp_push, hp_size]
    exact .pure _ _ _
  · refine Ev.sb (n₁ := 13 * ps.length) (n₂ := 0) (a := ()) (s₁ := ⟨hp (Cl ++ [dob (ents2 ps tk)]) life, gs, dr, tk + 3 * ps.length, os⟩) (p₁ := lastPos pos p ps) (Ev.holding ?_) (.pure _ _ _) rfl
    rw [if_pos (by rw [List.length_map]; exact hl)]
    refine Ev.sb (n₁ := 3 * ps.length) (n₂ := 10 * ps.length) (ev_pairs ps tk p) (Ev.holding ?_) (by lia)
    have z := ev_sets2 (pr := pr) (w := w) (r := []) (life := life) (gs := gs) (dr := dr) (os := os) (p := lastPos pos p ps) hb ps [] lo tk (tk + 2 * ps.length) h0 hi (fun e he => nomatch he) (by rw [List.length_nil]; lia)
    rw [List.nil_append, show tk + 2 * ps.length + ps.length = tk + 3 * ps.length by lia] at z
    exact Ev.sb (n₁ := 10 * ps.length) (n₂ := 0) z (.pure _ _ _) rfl

/-- rising entries under int keys above lo -/
noncomputable def RiseE : Int → List DictEntry → Prop
  | _, [] => True
  | lo, e :: r => lo < e.hash ∧ (∃ n t, e.key = .int n t) ∧ RiseE e.hash r
theorem rise_ents : ∀ {lo : Int} {ps : List (Int × Str)} {t : Nat}, Inc lo ps → RiseE lo (ents ps t)
  | _, [], _, _ => trivial
  | lo, (n, x) :: r, t, h => ⟨h.1, ⟨n, t, rfl⟩, rise_ents h.2.2⟩
theorem rise_ents2 : ∀ {lo : Int} {ps : List (Int × Str)} {t : Nat}, Inc lo ps → RiseE lo (ents2 ps t)
  | _, [], _, _ => trivial
  | lo, (n, x) :: r, t, h => ⟨h.1, ⟨n, t, rfl⟩, rise_ents2 h.2.2⟩

theorem isDict : isSubtype (.type "dict") (.type "dict") = Sem.pure true := by
  kernel_rfl
theorem dictIter : typeLookup (.type "dict") "__iter__" = Sem.pure (some (.builtin "dict.__iter__")) := by
  rw [typeLookup_type, builtinLookup_eq_fast]
  kernel_rfl

noncomputable abbrev mergeBody (d a : Addr) (epoch : Nat) : Nat → PUnit → Sem (ForInStep PUnit) := fun i _ => do
  match (← dictEntries a)[i]? with
  | some e => do
    holding [e.key, e.val] (dictPut d e.hash e.key e.val)
    if ((← dictEpoch a) != epoch) = true then do
      unsupported "dict.changed-during-merge"
      pure (ForInStep.yield PUnit.unit)
    else pure (ForInStep.yield PUnit.unit)
  | _ => do
    unsupported "dict.changed-during-merge"
    pure (ForInStep.yield PUnit.unit)

theorem ev_merge {B M : List Obj} {life : Life} {gs : Array GenState} {dr : Drawn} {os : OsState} {p : Pos} {tk : Nat} {fs : List DictEntry} (hb : Nat.ble n₀ B.length = true) :
    ∀ (rest pre es : List DictEntry) (lo : Int), fs = pre ++ rest → RiseE lo rest → (∀ e ∈ es, e.hash ≤ lo) → es.length + rest.length ≤ 10000 →
    Ev treeTable pr w n₀ (forIn (List.range' pre.length rest.length) PUnit.unit (mergeBody B.length (B.length + 1 + M.length) fs.length)) ⟨hp (B ++ dob es :: (M ++ [dob fs])) life, gs, dr, tk, os⟩ p PUnit.unit
      ⟨hp (B ++ dob (es ++ rest) :: (M ++ [dob fs])) life, gs, dr, tk, os⟩ p (6 * rest.length)
  | [], pre, es, lo, _, _, _, _ => by rw [List.append_nil]; exact .pure _ _ _
  | e :: rest, pre, es, lo, hf, hr, he, hz => by
    rw [List.length_cons] at hz
    have ih := ev_merge (M := M) (life := life) (gs := gs) (dr := dr) (os := os) (p := p) (tk := tk) (fs := fs) hb rest (pre ++ [e]) (es ++ [e]) e.hash (by rw [hf, List.append_assoc]; rfl) hr.2.2 (fun x hm => by
      rcases List.mem_append.mp hm with hm | hm
      · exact Int.le_trans (he x hm) (Int.le_of_lt hr.1)
      · rw [List.mem_singleton.mp hm]; exact Int.le_refl _) (by rw [List.length_append, List.length_singleton]; lia)
    have ga : ∀ es', (hp (B ++ dob es' :: (M ++ [dob fs])) life).get? (B.length + 1 + M.length) = some (dob fs) := fun es' => hp_dict (by
      rw [show B ++ dob es' :: (M ++ [dob fs]) = (B ++ dob es' :: M) ++ dob fs :: [] by simp, show B.length + 1 + M.length = (B ++ dob es' :: M).length by simp; lia]
      exact at_len _ _ _)
    have hat : fs.toArray[pre.length]? = some e := by rw [List.getElem?_toArray, hf]; exact at_len _ _ _
    rw [List.length_cons, List.range'_succ, List.forIn_cons]
    refine Ev.sb (n₁ := 6) (n₂ := 6 * rest.length) (a := ForInStep.yield PUnit.unit) (s₁ := ⟨hp (B ++ dob (es ++ [e]) :: (M ++ [dob fs])) life, gs, dr, tk, os⟩) (p₁ := p) ?_ ?_ (by lia)
    · refine Ev.sb (n₁ := 1) (n₂ := 5) (a := fs.toArray) (s₁ := ⟨hp (B ++ dob es :: (M ++ [dob fs])) life, gs, dr, tk, os⟩) (p₁ := p) (.load (ga _) (.pure _ _ _)) ?_ rfl
      rw [hat]
      refine Ev.sb (n₁ := 4) (n₂ := 1) (a := ()) (s₁ := ⟨hp (B ++ dob (es ++ [e]) :: (M ++ [dob fs])) life, gs, dr, tk, os⟩) (p₁ := p) (Ev.holding ?_) ?_ rfl
      · unfold dictPut
        refine Ev.sb (n₁ := 1) (n₂ := 3) (a := none) (s₁ := ⟨hp (B ++ dob es :: (M ++ [dob fs])) life, gs, dr, tk, os⟩) (p₁ := p) (ev_find_any hr.2.1 (hp_dict (at_len _ _ _)) fun x hm => Int.ne_of_lt (Int.lt_of_le_of_lt (he x hm) hr.1)) ?_ rfl
        exact ev_updateKeys hb (by lia)
      · refine Ev.sb (n₁ := 1) (n₂ := 0) (a := fs.length) (s₁ := ⟨hp (B ++ dob (es ++ [e]) :: (M ++ [dob fs])) life, gs, dr, tk, os⟩) (p₁ := p) (.load (ga _) (.pure _ _ _)) ?_ rfl
        rw [if_neg (by simp)]
        exact .pure _ _ _
    · rw [show es ++ e :: rest = es ++ [e] ++ rest by simp]
      rw [List.length_append, List.length_singleton] at ih
      exact ih

theorem ev_mergeMapping {B M : List Obj} {life : Life} {gs : Array GenState} {dr : Drawn} {os : OsState} {p : Pos} {tk : Nat} {es fs : List DictEntry} {lo : Int} (hb : Nat.ble n₀ B.length = true) (hB : 2 ≤ B.length) (hne : es ≠ [])
    (hr : RiseE lo fs) (he : ∀ e ∈ es, e.hash ≤ lo) (hz : es.length + fs.length ≤ 10000) :
    Ev treeTable pr w n₀ (mergeMapping B.length (.ref (B.length + 1 + M.length)) false) ⟨hp (B ++ dob es :: (M ++ [dob fs])) life, gs, dr, tk, os⟩ p () ⟨hp (B ++ dob (es ++ fs) :: (M ++ [dob fs])) life, gs, dr, tk, os⟩ p (6 * fs.length + 5) := by
  have ga : ∀ es', (hp (B ++ dob es' :: (M ++ [dob fs])) life).get? (B.length + 1 + M.length) = some (dob fs) := fun es' => hp_dict (by
    rw [show B ++ dob es' :: (M ++ [dob fs]) = (B ++ dob es' :: M) ++ dob fs :: [] by simp, show B.length + 1 + M.length = (B ++ dob es' :: M).length by simp; lia]
    exact at_len _ _ _)
  unfold mergeMapping isInstance specialOf typeOf
  refine Ev.sb (n₁ := 1) (n₂ := 6 * fs.length + 4) (a := true) (s₁ := ⟨hp (B ++ dob es :: (M ++ [dob fs])) life, gs, dr, tk, os⟩) (p₁ := p) ?_ ?_ (by lia)
  · refine Ev.sb (n₁ := 1) (n₂ := 0) (a := .type "dict") (s₁ := ⟨hp (B ++ dob es :: (M ++ [dob fs])) life, gs, dr, tk, os⟩) (p₁ := p) (.load (ga _) (.pure _ _ _)) ?_ rfl
    rw [isDict]
    exact .pure _ _ _
  refine Ev.sb (n₁ := 1) (n₂ := 6 * fs.length + 3) (a := some (.builtin "dict.__iter__")) (s₁ := ⟨hp (B ++ dob es :: (M ++ [dob fs])) life, gs, dr, tk, os⟩) (p₁ := p) ?_ ?_ (by lia)
  · refine Ev.sb (n₁ := 1) (n₂ := 0) (a := .type "dict") (s₁ := ⟨hp (B ++ dob es :: (M ++ [dob fs])) life, gs, dr, tk, os⟩) (p₁ := p) (.load (ga _) (.pure _ _ _)) ?_ rfl
    rw [dictIter]
    exact .pure _ _ _
  refine Ev.pb (a := true) rfl ?_
  dsimp only
  rw [if_neg (by
    rw [beq_iff_eq]
    intro h
    have h' : B.length + 1 + M.length = 1 := h
    lia)]
  refine Ev.sb (n₁ := 1) (n₂ := 6 * fs.length + 2) (a := es.toArray) (s₁ := ⟨hp (B ++ dob es :: (M ++ [dob fs])) life, gs, dr, tk, os⟩) (p₁ := p) (.load (hp_dict (at_len _ _ _)) (.pure _ _ _)) ?_ (by lia)
  rw [if_neg (by simpa using hne)]
  refine Ev.sb (n₁ := 1) (n₂ := 6 * fs.length + 1) (a := fs.toArray) (s₁ := ⟨hp (B ++ dob es :: (M ++ [dob fs])) life, gs, dr, tk, os⟩) (p₁ := p) (.load (ga _) (.pure _ _ _)) ?_ (by lia)
  refine Ev.sb (n₁ := 1) (n₂ := 6 * fs.length) (a := fs.length) (s₁ := ⟨hp (B ++ dob es :: (M ++ [dob fs])) life, gs, dr, tk, os⟩) (p₁ := p) (.load (ga _) (.pure _ _ _)) ?_ (by lia)
  have z := ev_merge (pr := pr) (w := w) (M := M) (life := life) (gs := gs) (dr := dr) (os := os) (p := p) (tk := tk) (fs := fs) hb fs [] es lo rfl hr he hz
  rw [List.length_nil, ← List.range_eq_range'] at z
  refine Ev.sb (n₁ := 6 * fs.length) (n₂ := 0) (a := ()) (s₁ := ⟨hp (B ++ dob (es ++ fs) :: (M ++ [dob fs])) life, gs, dr, tk, os⟩) (p₁ := p) ?_ (.pure _ _ _) rfl
  rw [List.size_toArray]
  exact z
end
end Mine
namespace Mine
open PySem PySem.W PySem.Calls PyProof.Rows

noncomputable abbrev P2 := Sem Value × Sem Value
noncomputable abbrev It := Option (Sem Value) × Sem Value
noncomputable abbrev someK (q : P2) : It := (some q.1, q.2)
noncomputable abbrev flushF : List P2 → Option Addr → Sem (Option Addr) := fun run main =>
  if run.isEmpty = true then pure main else match main with
    | none => do
      let a ← subDict run
      pure (some a)
    | some d => do
      let sub ← holding [.ref d] (subDict run)
      (holding [.ref d, .ref sub] (mergeMapping d (.ref sub) false)).onRaise fun x => do
        let _ ← holding [.ref d, x] (runValue (.builtin "proto.let_go" {}))
        pure ()
      pure (some d)

section
variable {f : It → Option Addr × List P2 → Sem (ForInStep (Option Addr × List P2))}
theorem acc (hf : ∀ k v main run, f (some k, v) (main, run) = if ((run ++ [(k, v)]).length == 17) = true then (flushF (run ++ [(k, v)]) main >>= fun m => pure (ForInStep.yield (m, []))) else pure (ForInStep.yield (main, run ++ [(k, v)]))) :
    ∀ (c : List P2) (rest : List It) (main : Option Addr) (r : List P2), r.length + c.length < 17 → forIn (c.map someK ++ rest) (main, r) f = forIn rest (main, r ++ c) f
  | [], rest, main, r, _ => by rw [List.map_nil, List.nil_append, List.append_nil]
  | (k, v) :: c, rest, main, r, h => by
    rw [List.length_cons] at h
    rw [List.map_cons, List.cons_append, List.forIn_cons]
    show f (some k, v) (main, r) >>= _ = _
    rw [hf, if_neg (by rw [List.length_append, List.length_singleton, beq_iff_eq]; lia)]
    show forIn (c.map someK ++ rest) (main, r ++ [(k, v)]) f = _
    rw [acc hf c rest main (r ++ [(k, v)]) (by rw [List.length_append, List.length_singleton]; lia), List.append_assoc]
    rfl
theorem chunk (hf : ∀ k v main run, f (some k, v) (main, run) = if ((run ++ [(k, v)]).length == 17) = true then (flushF (run ++ [(k, v)]) main >>= fun m => pure (ForInStep.yield (m, []))) else pure (ForInStep.yield (main, run ++ [(k, v)])))
    (c : List P2) (rest : List It) (main : Option Addr) (h : c.length = 17) : forIn (c.map someK ++ rest) (main, []) f = (flushF c main >>= fun m => forIn rest (m, []) f) := by
  obtain ⟨c', q, rfl⟩ : ∃ c' q, c = c' ++ [q] := by
    rcases List.eq_nil_or_concat c with e | ⟨c', q, e⟩
    · subst e; cases h
    · exact ⟨c', q, by rw [e, List.concat_eq_append]⟩
  obtain ⟨k, v⟩ := q
  rw [List.length_append, List.length_singleton] at h
  rw [List.map_append, List.append_assoc, acc hf c' _ main [] (by rw [List.length_nil]; lia), List.nil_append, List.map_cons, List.map_nil, List.cons_append, List.nil_append, List.forIn_cons]
  show f (some k, v) (main, c') >>= _ = _
  rw [hf, if_pos (by rw [List.length_append, List.length_singleton, beq_iff_eq]; lia)]
  rw [bind_assoc]
  rfl
end

section
variable {pr : Program} {w : World} {n₀ : Nat}
theorem inc_append : ∀ {lo : Int} {a b : List (Int × Str)}, Inc lo (a ++ b) → Inc lo a ∧ Inc (top lo a) b
  | lo, [], b, h => ⟨trivial, h⟩
  | lo, (n, x) :: a, b, h => ⟨⟨h.1, h.2.1, (inc_append h.2.2).1⟩, (inc_append h.2.2).2⟩
theorem isEmpty_of {c : List (Int × Str)} {pos : Pos} (h : c ≠ []) : ¬ ((c.map (tr pos)).isEmpty = true) := by
  cases c with
  | nil => exact absurd rfl h
  | cons => simp
theorem ne_of_len {c : List (Int × Str)} (h : c.length = 17) : c ≠ [] := by rintro rfl; cases h

theorem ev_flushFirst {B : List Obj} {life : Life} {gs : Array GenState} {dr : Drawn} {os : OsState} {pos : Pos} {c : List (Int × Str)} {lo : Int} {tk : Nat} {p : Pos} (hb : Nat.ble n₀ B.length = true) (h0 : 0 ≤ lo) (hi : Inc lo c) (hl : c.length = 17) :
    Ev treeTable pr w n₀ (flushF (c.map (tr pos)) none) ⟨hp B life, gs, dr, tk, os⟩ p (some B.length) ⟨hp (B ++ [dob (ents c tk)]) life, gs, dr, tk + 51, os⟩ pos 223 := by
  unfold flushF
  rw [if_neg (isEmpty_of (ne_of_len hl))]
  exact Ev.sb (n₁ := 223) (n₂ := 0) (ev_subLong hb h0 hi hl) (.pure _ _ _) rfl

theorem ev_flushMore {B M : List Obj} {life : Life} {gs : Array GenState} {dr : Drawn} {os : OsState} {es fs : List DictEntry} {run : List P2} {lo : Int} {tk tk' : Nat} {p p' : Pos} {n : Nat} (hb : Nat.ble n₀ B.length = true) (hB : 2 ≤ B.length) (hne : es ≠ []) (hrun : ¬ (run.isEmpty = true))
    (hr : RiseE lo fs) (he : ∀ e ∈ es, e.hash ≤ lo) (hz : es.length + fs.length ≤ 10000)
    (sub : Ev treeTable pr w n₀ (subDict run) ⟨hp (B ++ dob es :: M) life, gs, dr, tk, os⟩ p (B ++ dob es :: M).length ⟨hp ((B ++ dob es :: M) ++ [dob fs]) life, gs, dr, tk', os⟩ p' n) :
    Ev treeTable pr w n₀ (flushF run (some B.length)) ⟨hp (B ++ dob es :: M) life, gs, dr, tk, os⟩ p (some B.length) ⟨hp (B ++ dob (es ++ fs) :: (M ++ [dob fs])) life, gs, dr, tk', os⟩ p' (n + (6 * fs.length + 5)) := by
  unfold flushF
  rw [if_neg hrun]
  refine Ev.sb (n₁ := n) (n₂ := 6 * fs.length + 5) (Ev.holding sub) ?_ rfl
  rw [show (B ++ dob es :: M).length = B.length + 1 + M.length by simp; lia, show (B ++ dob es :: M) ++ [dob fs] = B ++ dob es :: (M ++ [dob fs]) by simp]
  exact Ev.sb (n₁ := 6 * fs.length + 5) (n₂ := 0) (Ev.onRaise (Ev.holding (ev_mergeMapping hb hB hne hr he hz))) (.pure _ _ _) rfl

theorem ev_tail {f : It → Option Addr × List P2 → Sem (ForInStep (Option Addr × List P2))}
    (hf : ∀ k v main run, f (some k, v) (main, run) = if ((run ++ [(k, v)]).length == 17) = true then (flushF (run ++ [(k, v)]) main >>= fun m => pure (ForInStep.yield (m, []))) else pure (ForInStep.yield (main, run ++ [(k, v)])))
    {s : Shared} {p : Pos} {d : Option Addr} (l : List P2) (h : l.length < 17) : Ev treeTable pr w n₀ (forIn (l.map someK) (d, []) f) s p (d, l) s p 0 := by
  have a0 := acc hf l [] d [] (by rw [List.length_nil]; lia)
  rw [List.append_nil, List.nil_append] at a0
  rw [a0]
  exact .pure _ _ _

noncomputable def midE : List (List (Int × Str)) → Nat → List DictEntry
  | [], _ => []
  | c :: r, t => ents c t ++ midE r (t + 51)
noncomputable def midO : List (List (Int × Str)) → Nat → List Obj
  | [], _ => []
  | c :: r, t => dob (ents c t) :: midO r (t + 51)
noncomputable def Full : List (List (Int × Str)) → Prop
  | [] => True
  | c :: r => c.length = 17 ∧ Full r

theorem ev_mid {f : It → Option Addr × List P2 → Sem (ForInStep (Option Addr × List P2))}
    (hf : ∀ k v main run, f (some k, v) (main, run) = if ((run ++ [(k, v)]).length == 17) = true then (flushF (run ++ [(k, v)]) main >>= fun m => pure (ForInStep.yield (m, []))) else pure (ForInStep.yield (main, run ++ [(k, v)])))
    {B : List Obj} {life : Life} {gs : Array GenState} {dr : Drawn} {os : OsState} {pos : Pos} (hb : Nat.ble n₀ B.length = true) (hB : 2 ≤ B.length) {rest : List It} {r : Option Addr × List P2} {s' : Shared} {p' : Pos} :
    ∀ (cs : List (List (Int × Str))) (es : List DictEntry) (M : List Obj) (lo : Int) (tk n : Nat), 0 ≤ lo → Full cs → Inc lo cs.flatten → es ≠ [] → (∀ e ∈ es, e.hash ≤ lo) → es.length + 17 * cs.length ≤ 5000 →
    Ev treeTable pr w n₀ (forIn rest (some B.length, []) f) ⟨hp (B ++ dob (es ++ midE cs tk) :: (M ++ midO cs tk)) life, gs, dr, tk + 51 * cs.length, os⟩ pos r s' p' n →
    Ev treeTable pr w n₀ (forIn ((cs.flatten.map (tr pos)).map someK ++ rest) (some B.length, []) f) ⟨hp (B ++ dob es :: M) life, gs, dr, tk, os⟩ pos r s' p' (330 * cs.length + n)
  | [], es, M, lo, tk, n, _, _, _, _, _, _, h => by
    rw [midE, midO, List.append_nil, List.append_nil, List.length_nil, Nat.mul_zero, Nat.add_zero] at h
    rw [List.flatten_nil, List.map_nil, List.map_nil, List.nil_append, List.length_nil, Nat.mul_zero, Nat.zero_add]
    exact h
  | c :: cs, es, M, lo, tk, n, h0, hF, hi, hne, he, hz, h => by
    rw [List.flatten_cons] at hi
    rw [List.length_cons] at hz
    obtain ⟨i1, i2⟩ := inc_append hi
    have et : ∀ e ∈ es ++ ents c tk, e.hash ≤ top lo c := fun e hm => by
      rcases List.mem_append.mp hm with hm | hm
      · exact Int.le_trans (he e hm) (top_ge i1)
      · exact ents_top i1 e hm
    have lc : (ents c tk).length = 17 := (ents_length c tk).trans hF.1
    have z := ev_mid hf hb hB cs (es ++ ents c tk) (M ++ [dob (ents c tk)]) (top lo c) (tk + 51) n (Int.le_trans h0 (top_ge i1)) hF.2 i2 (by intro q; exact hne (List.append_eq_nil_iff.mp q).1) et (by rw [List.length_append, lc]; lia) (by
      rw [midE, midO, List.length_cons, show tk + 51 * (cs.length + 1) = tk + 51 + 51 * cs.length by lia] at h
      rw [List.append_assoc, List.append_assoc]
      exact h)
    rw [List.flatten_cons, List.map_append, List.map_append, List.append_assoc, chunk hf _ _ _ (by rw [List.length_map]; exact hF.1)]
    have y := ev_flushMore (pr := pr) (w := w) (M := M) (life := life) (gs := gs) (dr := dr) (os := os) (fs := ents c tk) (run := c.map (tr pos)) (tk := tk) (tk' := tk + 51) (p := pos) (p' := pos) (n := 223) hb hB hne (isEmpty_of (ne_of_len hF.1)) (rise_ents i1) he (by rw [lc]; lia)
      (ev_subLong (by simp only [List.length_append, List.length_cons]; exact Nat.ble_eq_true_of_le (Nat.le_trans (Nat.le_of_ble_eq_true hb) (Nat.le_add_right _ _))) h0 i1 hF.1)
    rw [lc] at y
    exact Ev.sb (n₁ := 330) (n₂ := 330 * cs.length + n) y z (by rw [List.length_cons]; lia)

/-- the whole display: a first run of 17, more of them, a last one of 15 at most -/
theorem ev_display {B : List Obj} {life : Life} {gs : Array GenState} {dr : Drawn} {os : OsState} {pos p : Pos} {tk : Nat} (hb : Nat.ble n₀ B.length = true) (hB : 2 ≤ B.length) {c : List (Int × Str)} {cs : List (List (Int × Str))} {l : List (Int × Str)}
    (hc : c.length = 17) (hF : Full cs) (hl : l.length ≤ 15) (hl0 : l ≠ []) (hi : Inc 0 (c ++ (cs.flatten ++ l))) (hz : cs.length ≤ 200) :
    Ev treeTable pr w n₀ (dictDisplay (((c ++ (cs.flatten ++ l)).map (tr pos)).map someK)) ⟨hp B life, gs, dr, tk, os⟩ p (.ref B.length)
      ⟨hp (B ++ dob (ents c tk ++ midE cs (tk + 51) ++ ents2 l (tk + 51 + 51 * cs.length)) :: (midO cs (tk + 51) ++ [dob (ents2 l (tk + 51 + 51 * cs.length))])) life, gs, dr, tk + 51 + 51 * cs.length + 3 * l.length, os⟩ pos
      (223 + (330 * cs.length + (13 * l.length + 1 + (6 * l.length + 5)))) := by
  obtain ⟨i1, i2⟩ := inc_append hi
  obtain ⟨i2, i3⟩ := inc_append i2
  have lc : (ents c tk).length = 17 := (ents_length c tk).trans hc
  have nc : ents c tk ≠ [] := by intro q; rw [q] at lc; cases lc
  have ll : (ents2 l (tk + 51 + 51 * cs.length)).length = l.length := ents2_length _ _
  have midLen : ∀ (cs : List (List (Int × Str))) (t : Nat), Full cs → (midE cs t).length = 17 * cs.length := by
    intro cs
    induction cs with
    | nil => intro t _; rfl
    | cons c r ih => intro t h; rw [midE, List.length_append, ents_length, h.1, ih _ h.2, List.length_cons]; lia
  have midTop : ∀ (cs : List (List (Int × Str))) (t : Nat) (lo : Int), Inc lo cs.flatten → ∀ e ∈ midE cs t, e.hash ≤ top lo cs.flatten := by
    intro cs
    induction cs with
    | nil => intro t lo _ e he; exact nomatch he
    | cons c r ih =>
      intro t lo h e he
      rw [List.flatten_cons] at h
      obtain ⟨j1, j2⟩ := inc_append h
      have tt : ∀ (a b : List (Int × Str)) (lo : Int), top lo (a ++ b) = top (top lo a) b := by
        intro a
        induction a with
        | nil => intro b lo; rfl
        | cons q a ih => intro b lo; exact ih b q.1
      rw [List.flatten_cons, tt]
      rcases List.mem_append.mp he with he | he
      · exact Int.le_trans (ents_top j1 e he) (top_ge j2)
      · exact ih _ _ j2 e he
  have hlo : 0 ≤ top 0 c := top_ge i1
  unfold dictDisplay
  dsimp only
  rw [List.map_append, List.map_append, List.map_append, List.map_append]
  rw [chunk (fun _ _ _ _ => rfl) _ _ _ (by rw [List.length_map]; exact hc)]
  refine Ev.sb (n₁ := 223 + 330 * cs.length) (n₂ := 13 * l.length + 1 + (6 * l.length + 5)) (a := (some B.length, l.map (tr pos))) (s₁ := ⟨hp (B ++ dob (ents c tk ++ midE cs (tk + 51)) :: midO cs (tk + 51)) life, gs, dr, tk + 51 + 51 * cs.length, os⟩) (p₁ := pos) ?_ ?_ (by lia)
  · refine Ev.sb (n₁ := 223) (n₂ := 330 * cs.length) (a := some B.length) (ev_flushFirst hb (Int.le_refl 0) i1 hc) ?_ rfl
    refine (ev_mid (fun _ _ _ _ => rfl) hb hB cs (ents c tk) [] (top 0 c) (tk + 51) 0 hlo hF i2 nc (fun e he => ents_top i1 e he) (by rw [lc]; lia) ?_).to rfl rfl
    exact ev_tail (fun _ _ _ _ => rfl) _ (by rw [List.length_map]; lia)
  · have y := ev_flushMore (pr := pr) (w := w) (B := B) (M := midO cs (tk + 51)) (life := life) (gs := gs) (dr := dr) (os := os) (es := ents c tk ++ midE cs (tk + 51)) (fs := ents2 l (tk + 51 + 51 * cs.length)) (run := l.map (tr pos)) (tk := tk + 51 + 51 * cs.length) (p := pos) (p' := lastPos pos pos l) (n := 13 * l.length + 1) (lo := top (top 0 c) cs.flatten)
      hb hB (by intro q; exact nc (List.append_eq_nil_iff.mp q).1) (isEmpty_of hl0) (rise_ents2 i3) (fun e he => by
        rcases List.mem_append.mp he with he | he
        · exact Int.le_trans (ents_top i1 e he) (top_ge i2)
        · exact midTop cs _ _ i2 e he) (by rw [List.length_append, lc, midLen _ _ hF, ll]; lia)
      (ev_subShort (by simp only [List.length_append, List.length_cons]; exact Nat.ble_eq_true_of_le (Nat.le_trans (Nat.le_of_ble_eq_true hb) (Nat.le_add_right _ _))) (Int.le_trans hlo (top_ge i2)) i3 hl)
    rw [lastPos_self, ll] at y
    exact Ev.sb (n₁ := 13 * l.length + 1 + (6 * l.length + 5)) (n₂ := 0) y (.pure _ _ _) rfl
end
end Mine
namespace Mine
open PySem PySem.W PySem.Calls PyProof.Rows
/-- the int that a key of a display is, the text that a value is -/
noncomputable def litK : Option Expr → Option Int
  | some (.Constant (.int n) _ _) => some n
  | _ => none
noncomputable def litV : Expr → Option Str
  | .Constant (.str x) _ _ => some x
  | _ => none
theorem litV_some {v : Expr} {x : Str} (h : litV v = some x) : ∃ a b, v = .Constant (.str x) a b := by
  cases v with
  | Constant c a b =>
    cases c with
    | str y => cases h; exact ⟨a, b, rfl⟩
    | _ => cases h
  | _ => cases h
theorem litK_some {k : Option Expr} {n : Int} (h : litK k = some n) : ∃ a b, k = some (.Constant (.int n) a b) := by
  cases k with
  | none => cases h
  | some v =>
    cases v with
    | Constant c a b =>
      cases c with
      | int y => cases h; exact ⟨a, b, rfl⟩
      | _ => cases h
    | _ => cases h
noncomputable def litPs0 : List (Option Expr) → List Expr → List (Int × Str)
  | k :: ks, v :: vs => match litK k with
    | some n => match litV v with
      | some x => (n, x) :: litPs0 ks vs
      | none => []
    | none => []
  | _, _ => []
theorem items_of (env : Env) (dp : Pos) (ks : List (Option Expr)) : ∀ (vs : List Expr), (litPs0 ks vs).length = ks.length → ks.length = vs.length →
    (evalEachOpt ks env).zip ((evalEach vs env).map fun v => do let x ← v; standAt dp; pure x) = ((litPs0 ks vs).map (tr dp)).map someK := by
  induction ks with
  | nil => intro vs _ h2; cases vs with
    | nil => rfl
    | cons => cases h2
  | cons k ks ih => intro vs h1 h2; cases vs with
    | nil => cases h2
    | cons v vs =>
      have e : litPs0 (k :: ks) (v :: vs) = match litK k with
        | some n => match litV v with
          | some x => (n, x) :: litPs0 ks vs
          | none => []
        | none => [] := rfl
      cases hk : litK k with
      | none => rw [e, hk] at h1; cases h1
      | some n => cases hv : litV v with
        | none => rw [e, hk, hv] at h1; cases h1
        | some x =>
          rw [hk, hv] at e
          rw [e] at h1
          rw [e]
          obtain ⟨a, b, rfl⟩ := litK_some hk
          obtain ⟨c, d, rfl⟩ := litV_some hv
          have z := ih vs (Nat.succ.inj h1) (Nat.succ.inj h2)
          rw [evalEachOpt, evalEach]
          rw [List.map_cons, List.zip_cons_cons, z]
          rfl
section
variable {tb : String → Option Builtin} {pr : Program} {w : World} {n₀ : Nat} {ann : Option Value} {b : Nat}
theorem wrap_bind {α β : Type} (m : Sem α) (f : α → Sem β) (K : β → Sem Fin) (H : Value → Sem Fin) : (m.bind f).wrap K H id id = m.wrap (fun a => (f a).wrap K H id id) H id id := by
  induction m with
  | pure a => rfl
  | raise | unsupported | finish => rfl
  | _ => rename_i ih; simp only [Sem.bind, Sem.wrap, id, ih]
theorem seg_first {α β : Type} {m : Sem α} {T : α → Sem β} {s s₁ : Shared} {p p₁ : Pos} {a : α} {n N M : Nat} {K : β → Sem Fin} {H : Value → Sem Fin} {c : Code} {st : List Frame} {r : Flow × Shared × Code × Pos} (hb : b ≤ st.length) (h : Ev tb pr w n₀ m s p a s₁ p₁ n)
    (k : segRun tb pr w n₀ ann b N s₁ ⟨(T a).wrap K H id id, c, p₁, st⟩ = some r) (e : M = n + N) : segRun tb pr w n₀ ann b M s ⟨(m >>= T).wrap K H id id, c, p, st⟩ = some r := by
  subst e
  have z := h.run (b := b) (ann := ann) (fun a => (T a).wrap K H id id) H c st hb
  rw [← wrap_bind] at z
  exact seg_go z k
/-- a name at the top bound to a display of written ints and texts -/
theorem seg_dict {x : Str} {np sp dp p : Pos} {ks : List (Option Expr)} {vs : List Expr} {env : Env} {s s₁ : Shared} {d : Value} {n N M : Nat} {c : Code} {st : List Frame} {r : Flow × Shared × Code × Pos} (hb : b ≤ st.length)
    (hl : (litPs0 ks vs).length = ks.length) (hv : ks.length = vs.length)
    (h : Ev tb pr w n₀ (dictDisplay (((litPs0 ks vs).map (tr dp)).map someK)) s dp d s₁ dp n)
    (k : segRun tb pr w n₀ ann b N s₁ ⟨(do standAt np; bindName env x d; pure .next : Sem Flow).wrap doneF deadEnd id id, c, dp, st⟩ = some r) (e : M = n + 2 + N) :
    segRun tb pr w n₀ ann b M s ⟨(execs [.Assign [.Name x np] (.Dict ks vs dp) sp] env).wrap doneF deadEnd id id, c, p, st⟩ = some r := by
  subst e
  have t : execs [.Assign [.Name x np] (.Dict ks vs dp) sp] env = (standAt sp >>= fun _ => standAt dp >>= fun _ => dictDisplay (((litPs0 ks vs).map (tr dp)).map someK) >>= fun v => (do standAt np; bindName env x v; pure .next : Sem Flow)) := by
    rw [execs_cons, exec_Assign_Name _ _ _ _ _ rfl]
    have e : eval (.Dict ks vs dp) env = (do standAt dp; dictDisplay ((evalEachOpt ks env).zip ((evalEach vs env).map fun v => do let x ← v; standAt dp; pure x))) := rfl
    rw [e, items_of env dp ks vs hl hv]
    simp only [bind_assoc, pure_bind]
    rfl
  rw [t]
  refine seg_first (M := n + 2 + N) (N := n + 1 + N) (n := 1) (s₁ := s) (p₁ := sp) (a := ()) hb (.at (.pure _ _ _)) ?_ (by omega)
  refine seg_first (N := n + N) (n := 1) (s₁ := s) (p₁ := dp) (a := ()) hb (.at (.pure _ _ _)) ?_ (by omega)
  exact seg_first hb h k rfl
end
end Mine
namespace Mine
open PySem PySem.W PySem.Calls PyProof.Rows
noncomputable abbrev pw : Program := PySem.Challenge.pw_sr0066_01
noncomputable def fnp (i : Nat) : Arguments × FuncBody × Scope := match pw.main.body[i]? with
  | some (.FunctionDef _ a b _ _ _ sc _ _ _) => (a, .stmts b, sc)
  | _ => default
noncomputable abbrev envM : Env := { scope := pw.main.scope, locals := mainNs, globals := mainNs, cells := [], code := (.ref 30), frame := some 31 }
noncomputable abbrev bodyM : List Stmt := behindTheImports pw
noncomputable abbrev cM : Code := .body bodyM envM
noncomputable abbrev q0 : Pos := ⟨0, 0, 0, 0⟩
noncomputable def sts (i j : Nat) : List Stmt := (bodyM.drop i).take (j - i)
noncomputable def btOf (l : List Obj) : Nat → Nat → Nat → BT
  | 0, _, _ => .nil
  | f + 1, a, b => match l[b]? with
    | some o => .node o (btOf l f (2 * a) (a + b)) (btOf l f (2 * a) (2 * a + b))
    | none => .nil
noncomputable abbrev btr (l : List Obj) : BT := btOf l 10 1 0

noncomputable def b3parts : List (Option Expr) × List Expr × Pos := match (bodyM[15]? : Option Stmt) with
  | some (.Assign _ (.Dict ks vs dp) _) => (ks, vs, dp)
  | _ => default
noncomputable def b3ps : List (Int × Str) := litPs0 b3parts.1 b3parts.2.1
noncomputable def cutIn : Nat → List (Int × Str) → List (List (Int × Str))
  | 0, _ => []
  | k + 1, l => l.take 17 :: cutIn k (l.drop 17)
noncomputable def b3c : List (Int × Str) := b3ps.take 17
noncomputable def b3cs : List (List (Int × Str)) := cutIn 37 (b3ps.drop 17)
noncomputable def b3l : List (Int × Str) := b3ps.drop 646
noncomputable def b3main : Obj := dob (ents b3c 496 ++ midE b3cs 547 ++ ents2 b3l 2434)
noncomputable def b3subs : List Obj := midO b3cs 547 ++ [dob (ents2 b3l 2434)]

noncomputable def o0_0 (P : Params) : Obj := ⟨(.type "dict"), none, (.dict #[⟨PyData.keyHash P ⟨#[95, 95, 110, 97, 109, 101, 95, 95]⟩, (.str ⟨#[95, 95, 110, 97, 109, 101, 95, 95]⟩ 1), (.str ⟨#[98, 117, 105, 108, 116, 105, 110, 115]⟩ 160)⟩, ⟨PyData.keyHash P ⟨#[95, 95, 100, 111, 99, 95, 95]⟩, (.str ⟨#[95, 95, 100, 111, 99, 95, 95]⟩ 2), (.builtin "builtins.__doc__:str#opaque")⟩, ⟨PyData.keyHash P ⟨#[95, 95, 112, 97, 99, 107, 97, 103, 101, 95, 95]⟩, (.str ⟨#[95, 95, 112, 97, 99, 107, 97, 103, 101, 95, 95]⟩ 3), (.builtin "builtins.__package__:str#opaque")⟩, ⟨PyData.keyHash P ⟨#[95, 95, 108, 111, 97, 100, 101, 114, 95, 95]⟩, (.str ⟨#[95, 95, 108, 111, 97, 100, 101, 114, 95, 95]⟩ 4), (.builtin "builtins.__loader__:shared#opaque")⟩, ⟨PyData.keyHash P ⟨#[95, 95, 115, 112, 101, 99, 95, 95]⟩, (.str ⟨#[95, 95, 115, 112, 101, 99, 95, 95]⟩ 5), (.builtin "builtins.__spec__#opaque")⟩, ⟨PyData.keyHash P ⟨#[95, 95, 98, 117, 105, 108, 100, 95, 99, 108, 97, 115, 115, 95, 95]⟩, (.str ⟨#[95, 95, 98, 117, 105, 108, 100, 95, 99, 108, 97, 115, 115, 95, 95]⟩ 6), (.builtin "__build_class__")⟩, ⟨PyData.keyHash P ⟨#[95, 95, 105, 109, 112, 111, 114, 116, 95, 95]⟩, (.str ⟨#[95, 95, 105, 109, 112, 111, 114, 116, 95, 95]⟩ 7), (.builtin "__import__")⟩, ⟨PyData.keyHash P ⟨#[97, 98, 115]⟩, (.str ⟨#[97, 98, 115]⟩ 8), (.builtin "abs")⟩, ⟨PyData.keyHash P ⟨#[97, 108, 108]⟩, (.str ⟨#[97, 108, 108]⟩ 9), (.builtin "all")⟩, ⟨PyData.keyHash P ⟨#[97, 110, 121]⟩, (.str ⟨#[97, 110, 121]⟩ 10), (.builtin "any")⟩, ⟨PyData.keyHash P ⟨#[97, 115, 99, 105, 105]⟩, (.str ⟨#[97, 115, 99, 105, 105]⟩ 11), (.builtin "ascii")⟩, ⟨PyData.keyHash P ⟨#[98, 105, 110]⟩, (.str ⟨#[98, 105, 110]⟩ 12), (.builtin "bin")⟩, ⟨PyData.keyHash P ⟨#[98, 114, 101, 97, 107, 112, 111, 105, 110, 116]⟩, (.str ⟨#[98, 114, 101, 97, 107, 112, 111, 105, 110, 116]⟩ 13), (.builtin "breakpoint")⟩, ⟨PyData.keyHash P ⟨#[99, 97, 108, 108, 97, 98, 108, 101]⟩, (.str ⟨#[99, 97, 108, 108, 97, 98, 108, 101]⟩ 14), (.builtin "callable")⟩, ⟨PyData.keyHash P ⟨#[99, 104, 114]⟩, (.str ⟨#[99, 104, 114]⟩ 15), (.builtin "chr")⟩, ⟨PyData.keyHash P ⟨#[99, 111, 109, 112, 105, 108, 101]⟩, (.str ⟨#[99, 111, 109, 112, 105, 108, 101]⟩ 16), (.builtin "compile")⟩, ⟨PyData.keyHash P ⟨#[100, 101, 108, 97, 116, 116, 114]⟩, (.str ⟨#[100, 101, 108, 97, 116, 116, 114]⟩ 17), (.builtin "delattr")⟩, ⟨PyData.keyHash P ⟨#[100, 105, 114]⟩, (.str ⟨#[100, 105, 114]⟩ 18), (.builtin "dir")⟩, ⟨PyData.keyHash P ⟨#[100, 105, 118, 109, 111, 100]⟩, (.str ⟨#[100, 105, 118, 109, 111, 100]⟩ 19), (.builtin "divmod")⟩, ⟨PyData.keyHash P ⟨#[101, 118, 97, 108]⟩, (.str ⟨#[101, 118, 97, 108]⟩ 20), (.builtin "eval")⟩, ⟨PyData.keyHash P ⟨#[101, 120, 101, 99]⟩, (.str ⟨#[101, 120, 101, 99]⟩ 21), (.builtin "exec")⟩, ⟨PyData.keyHash P ⟨#[102, 111, 114, 109, 97, 116]⟩, (.str ⟨#[102, 111, 114, 109, 97, 116]⟩ 22), (.builtin "format")⟩, ⟨PyData.keyHash P ⟨#[103, 101, 116, 97, 116, 116, 114]⟩, (.str ⟨#[103, 101, 116, 97, 116, 116, 114]⟩ 23), (.builtin "getattr")⟩, ⟨PyData.keyHash P ⟨#[103, 108, 111, 98, 97, 108, 115]⟩, (.str ⟨#[103, 108, 111, 98, 97, 108, 115]⟩ 24), (.builtin "globals")⟩, ⟨PyData.keyHash P ⟨#[104, 97, 115, 97, 116, 116, 114]⟩, (.str ⟨#[104, 97, 115, 97, 116, 116, 114]⟩ 25), (.builtin "hasattr")⟩, ⟨PyData.keyHash P ⟨#[104, 97, 115, 104]⟩, (.str ⟨#[104, 97, 115, 104]⟩ 26), (.builtin "hash")⟩, ⟨PyData.keyHash P ⟨#[104, 101, 120]⟩, (.str ⟨#[104, 101, 120]⟩ 27), (.builtin "hex")⟩, ⟨PyData.keyHash P ⟨#[105, 100]⟩, (.str ⟨#[105, 100]⟩ 28), (.builtin "id")⟩, ⟨PyData.keyHash P ⟨#[105, 110, 112, 117, 116]⟩, (.str ⟨#[105, 110, 112, 117, 116]⟩ 29), (.builtin "input")⟩, ⟨PyData.keyHash P ⟨#[105, 115, 105, 110, 115, 116, 97, 110, 99, 101]⟩, (.str ⟨#[105, 115, 105, 110, 115, 116, 97, 110, 99, 101]⟩ 30), (.builtin "isinstance")⟩, ⟨PyData.keyHash P ⟨#[105, 115, 115, 117, 98, 99, 108, 97, 115, 115]⟩, (.str ⟨#[105, 115, 115, 117, 98, 99, 108, 97, 115, 115]⟩ 31), (.builtin "issubclass")⟩, ⟨PyData.keyHash P ⟨#[105, 116, 101, 114]⟩, (.str ⟨#[105, 116, 101, 114]⟩ 32), (.builtin "iter")⟩, ⟨PyData.keyHash P ⟨#[97, 105, 116, 101, 114]⟩, (.str ⟨#[97, 105, 116, 101, 114]⟩ 33), (.builtin "aiter")⟩, ⟨PyData.keyHash P ⟨#[108, 101, 110]⟩, (.str ⟨#[108, 101, 110]⟩ 34), (.builtin "len")⟩, ⟨PyData.keyHash P ⟨#[108, 111, 99, 97, 108, 115]⟩, (.str ⟨#[108, 111, 99, 97, 108, 115]⟩ 35), (.builtin "locals")⟩, ⟨PyData.keyHash P ⟨#[109, 97, 120]⟩, (.str ⟨#[109, 97, 120]⟩ 36), (.builtin "max")⟩, ⟨PyData.keyHash P ⟨#[109, 105, 110]⟩, (.str ⟨#[109, 105, 110]⟩ 37), (.builtin "min")⟩, ⟨PyData.keyHash P ⟨#[110, 101, 120, 116]⟩, (.str ⟨#[110, 101, 120, 116]⟩ 38), (.builtin "next")⟩, ⟨PyData.keyHash P ⟨#[97, 110, 101, 120, 116]⟩, (.str ⟨#[97, 110, 101, 120, 116]⟩ 39), (.builtin "anext")⟩, ⟨PyData.keyHash P ⟨#[111, 99, 116]⟩, (.str ⟨#[111, 99, 116]⟩ 40), (.builtin "oct")⟩, ⟨PyData.keyHash P ⟨#[111, 114, 100]⟩, (.str ⟨#[111, 114, 100]⟩ 41), (.builtin "ord")⟩, ⟨PyData.keyHash P ⟨#[112, 111, 119]⟩, (.str ⟨#[112, 111, 119]⟩ 42), (.builtin "pow")⟩, ⟨PyData.keyHash P ⟨#[112, 114, 105, 110, 116]⟩, (.str ⟨#[112, 114, 105, 110, 116]⟩ 43), (.builtin "print")⟩, ⟨PyData.keyHash P ⟨#[114, 101, 112, 114]⟩, (.str ⟨#[114, 101, 112, 114]⟩ 44), (.builtin "repr")⟩, ⟨PyData.keyHash P ⟨#[114, 111, 117, 110, 100]⟩, (.str ⟨#[114, 111, 117, 110, 100]⟩ 45), (.builtin "round")⟩, ⟨PyData.keyHash P ⟨#[115, 101, 116, 97, 116, 116, 114]⟩, (.str ⟨#[115, 101, 116, 97, 116, 116, 114]⟩ 46), (.builtin "setattr")⟩, ⟨PyData.keyHash P ⟨#[115, 111, 114, 116, 101, 100]⟩, (.str ⟨#[115, 111, 114, 116, 101, 100]⟩ 47), (.builtin "sorted")⟩, ⟨PyData.keyHash P ⟨#[115, 117, 109]⟩, (.str ⟨#[115, 117, 109]⟩ 48), (.builtin "sum")⟩, ⟨PyData.keyHash P ⟨#[118, 97, 114, 115]⟩, (.str ⟨#[118, 97, 114, 115]⟩ 49), (.builtin "vars")⟩, ⟨PyData.keyHash P ⟨#[78, 111, 110, 101]⟩, (.str ⟨#[78, 111, 110, 101]⟩ 50), .none⟩, ⟨PyData.keyHash P ⟨#[69, 108, 108, 105, 112, 115, 105, 115]⟩, (.str ⟨#[69, 108, 108, 105, 112, 115, 105, 115]⟩ 51), .ellipsis⟩, ⟨PyData.keyHash P ⟨#[78, 111, 116, 73, 109, 112, 108, 101, 109, 101, 110, 116, 101, 100]⟩, (.str ⟨#[78, 111, 116, 73, 109, 112, 108, 101, 109, 101, 110, 116, 101, 100]⟩ 52), .notImplemented⟩, ⟨PyData.keyHash P ⟨#[70, 97, 108, 115, 101]⟩, (.str ⟨#[70, 97, 108, 115, 101]⟩ 53), (.bool false)⟩, ⟨PyData.keyHash P ⟨#[84, 114, 117, 101]⟩, (.str ⟨#[84, 114, 117, 101]⟩ 54), (.bool true)⟩, ⟨PyData.keyHash P ⟨#[98, 111, 111, 108]⟩, (.str ⟨#[98, 111, 111, 108]⟩ 55), (.type "bool")⟩, ⟨PyData.keyHash P ⟨#[109, 101, 109, 111, 114, 121, 118, 105, 101, 119]⟩, (.str ⟨#[109, 101, 109, 111, 114, 121, 118, 105, 101, 119]⟩ 56), (.type "memoryview")⟩, ⟨PyData.keyHash P ⟨#[98, 121, 116, 101, 97, 114, 114, 97, 121]⟩, (.str ⟨#[98, 121, 116, 101, 97, 114, 114, 97, 121]⟩ 57), (.type "bytearray")⟩, ⟨PyData.keyHash P ⟨#[98, 121, 116, 101, 115]⟩, (.str ⟨#[98, 121, 116, 101, 115]⟩ 58), (.type "bytes")⟩, ⟨PyData.keyHash P ⟨#[99, 108, 97, 115, 115, 109, 101, 116, 104, 111, 100]⟩, (.str ⟨#[99, 108, 97, 115, 115, 109, 101, 116, 104, 111, 100]⟩ 59), (.type "classmethod")⟩, ⟨PyData.keyHash P ⟨#[99, 111, 109, 112, 108, 101, 120]⟩, (.str ⟨#[99, 111, 109, 112, 108, 101, 120]⟩ 60), (.type "complex")⟩, ⟨PyData.keyHash P ⟨#[100, 105, 99, 116]⟩, (.str ⟨#[100, 105, 99, 116]⟩ 61), (.type "dict")⟩, ⟨PyData.keyHash P ⟨#[101, 110, 117, 109, 101, 114, 97, 116, 101]⟩, (.str ⟨#[101, 110, 117, 109, 101, 114, 97, 116, 101]⟩ 62), (.type "enumerate")⟩, ⟨PyData.keyHash P ⟨#[102, 105, 108, 116, 101, 114]⟩, (.str ⟨#[102, 105, 108, 116, 101, 114]⟩ 63), (.type "filter")⟩, ⟨PyData.keyHash P ⟨#[102, 108, 111, 97, 116]⟩, (.str ⟨#[102, 108, 111, 97, 116]⟩ 64), (.type "float")⟩, ⟨PyData.keyHash P ⟨#[102, 114, 111, 122, 101, 110, 115, 101, 116]⟩, (.str ⟨#[102, 114, 111, 122, 101, 110, 115, 101, 116]⟩ 65), (.type "frozenset")⟩, ⟨PyData.keyHash P ⟨#[112, 114, 111, 112, 101, 114, 116, 121]⟩, (.str ⟨#[112, 114, 111, 112, 101, 114, 116, 121]⟩ 66), (.type "property")⟩, ⟨PyData.keyHash P ⟨#[105, 110, 116]⟩, (.str ⟨#[105, 110, 116]⟩ 67), (.type "int")⟩, ⟨PyData.keyHash P ⟨#[108, 105, 115, 116]⟩, (.str ⟨#[108, 105, 115, 116]⟩ 68), (.type "list")⟩, ⟨PyData.keyHash P ⟨#[109, 97, 112]⟩, (.str ⟨#[109, 97, 112]⟩ 69), (.type "map")⟩, ⟨PyData.keyHash P ⟨#[111, 98, 106, 101, 99, 116]⟩, (.str ⟨#[111, 98, 106, 101, 99, 116]⟩ 70), (.type "object")⟩, ⟨PyData.keyHash P ⟨#[114, 97, 110, 103, 101]⟩, (.str ⟨#[114, 97, 110, 103, 101]⟩ 71), (.type "range")⟩, ⟨PyData.keyHash P ⟨#[114, 101, 118, 101, 114, 115, 101, 100]⟩, (.str ⟨#[114, 101, 118, 101, 114, 115, 101, 100]⟩ 72), (.type "reversed")⟩, ⟨PyData.keyHash P ⟨#[115, 101, 116]⟩, (.str ⟨#[115, 101, 116]⟩ 73), (.type "set")⟩, ⟨PyData.keyHash P ⟨#[115, 108, 105, 99, 101]⟩, (.str ⟨#[115, 108, 105, 99, 101]⟩ 74), (.type "slice")⟩, ⟨PyData.keyHash P ⟨#[115, 116, 97, 116, 105, 99, 109, 101, 116, 104, 111, 100]⟩, (.str ⟨#[115, 116, 97, 116, 105, 99, 109, 101, 116, 104, 111, 100]⟩ 75), (.type "staticmethod")⟩, ⟨PyData.keyHash P ⟨#[115, 116, 114]⟩, (.str ⟨#[115, 116, 114]⟩ 76), (.type "str")⟩, ⟨PyData.keyHash P ⟨#[115, 117, 112, 101, 114]⟩, (.str ⟨#[115, 117, 112, 101, 114]⟩ 77), (.type "super")⟩, ⟨PyData.keyHash P ⟨#[116, 117, 112, 108, 101]⟩, (.str ⟨#[116, 117, 112, 108, 101]⟩ 78), (.type "tuple")⟩, ⟨PyData.keyHash P ⟨#[116, 121, 112, 101]⟩, (.str ⟨#[116, 121, 112, 101]⟩ 79), (.type "type")⟩, ⟨PyData.keyHash P ⟨#[122, 105, 112]⟩, (.str ⟨#[122, 105, 112]⟩ 80), (.type "zip")⟩, ⟨PyData.keyHash P ⟨#[95, 95, 100, 101, 98, 117, 103, 95, 95]⟩, (.str ⟨#[95, 95, 100, 101, 98, 117, 103, 95, 95]⟩ 81), (.bool true)⟩, ⟨PyData.keyHash P ⟨#[66, 97, 115, 101, 69, 120, 99, 101, 112, 116, 105, 111, 110]⟩, (.str ⟨#[66, 97, 115, 101, 69, 120, 99, 101, 112, 116, 105, 111, 110]⟩ 82), (.type "BaseException")⟩, ⟨PyData.keyHash P ⟨#[66, 97, 115, 101, 69, 120, 99, 101, 112, 116, 105, 111, 110, 71, 114, 111, 117, 112]⟩, (.str ⟨#[66, 97, 115, 101, 69, 120, 99, 101, 112, 116, 105, 111, 110, 71, 114, 111, 117, 112]⟩ 83), (.type "BaseExceptionGroup")⟩, ⟨PyData.keyHash P ⟨#[69, 120, 99, 101, 112, 116, 105, 111, 110]⟩, (.str ⟨#[69, 120, 99, 101, 112, 116, 105, 111, 110]⟩ 84), (.type "Exception")⟩, ⟨PyData.keyHash P ⟨#[71, 101, 110, 101, 114, 97, 116, 111, 114, 69, 120, 105, 116]⟩, (.str ⟨#[71, 101, 110, 101, 114, 97, 116, 111, 114, 69, 120, 105, 116]⟩ 85), (.type "GeneratorExit")⟩, ⟨PyData.keyHash P ⟨#[75, 101, 121, 98, 111, 97, 114, 100, 73, 110, 116, 101, 114, 114, 117, 112, 116]⟩, (.str ⟨#[75, 101, 121, 98, 111, 97, 114, 100, 73, 110, 116, 101, 114, 114, 117, 112, 116]⟩ 86), (.type "KeyboardInterrupt")⟩, ⟨PyData.keyHash P ⟨#[83, 121, 115, 116, 101, 109, 69, 120, 105, 116]⟩, (.str ⟨#[83, 121, 115, 116, 101, 109, 69, 120, 105, 116]⟩ 87), (.type "SystemExit")⟩, ⟨PyData.keyHash P ⟨#[65, 114, 105, 116, 104, 109, 101, 116, 105, 99, 69, 114, 114, 111, 114]⟩, (.str ⟨#[65, 114, 105, 116, 104, 109, 101, 116, 105, 99, 69, 114, 114, 111, 114]⟩ 88), (.type "ArithmeticError")⟩, ⟨PyData.keyHash P ⟨#[65, 115, 115, 101, 114, 116, 105, 111, 110, 69, 114, 114, 111, 114]⟩, (.str ⟨#[65, 115, 115, 101, 114, 116, 105, 111, 110, 69, 114, 114, 111, 114]⟩ 89), (.type "AssertionError")⟩, ⟨PyData.keyHash P ⟨#[65, 116, 116, 114, 105, 98, 117, 116, 101, 69, 114, 114, 111, 114]⟩, (.str ⟨#[65, 116, 116, 114, 105, 98, 117, 116, 101, 69, 114, 114, 111, 114]⟩ 90), (.type "AttributeError")⟩, ⟨PyData.keyHash P ⟨#[66, 117, 102, 102, 101, 114, 69, 114, 114, 111, 114]⟩, (.str ⟨#[66, 117, 102, 102, 101, 114, 69, 114, 114, 111, 114]⟩ 91), (.type "BufferError")⟩, ⟨PyData.keyHash P ⟨#[69, 79, 70, 69, 114, 114, 111, 114]⟩, (.str ⟨#[69, 79, 70, 69, 114, 114, 111, 114]⟩ 92), (.type "EOFError")⟩, ⟨PyData.keyHash P ⟨#[73, 109, 112, 111, 114, 116, 69, 114, 114, 111, 114]⟩, (.str ⟨#[73, 109, 112, 111, 114, 116, 69, 114, 114, 111, 114]⟩ 93), (.type "ImportError")⟩, ⟨PyData.keyHash P ⟨#[76, 111, 111, 107, 117, 112, 69, 114, 114, 111, 114]⟩, (.str ⟨#[76, 111, 111, 107, 117, 112, 69, 114, 114, 111, 114]⟩ 94), (.type "LookupError")⟩, ⟨PyData.keyHash P ⟨#[77, 101, 109, 111, 114, 121, 69, 114, 114, 111, 114]⟩, (.str ⟨#[77, 101, 109, 111, 114, 121, 69, 114, 114, 111, 114]⟩ 95), (.type "MemoryError")⟩, ⟨PyData.keyHash P ⟨#[78, 97, 109, 101, 69, 114, 114, 111, 114]⟩, (.str ⟨#[78, 97, 109, 101, 69, 114, 114, 111, 114]⟩ 96), (.type "NameError")⟩, ⟨PyData.keyHash P ⟨#[79, 83, 69, 114, 114, 111, 114]⟩, (.str ⟨#[79, 83, 69, 114, 114, 111, 114]⟩ 97), (.type "OSError")⟩, ⟨PyData.keyHash P ⟨#[82, 101, 102, 101, 114, 101, 110, 99, 101, 69, 114, 114, 111, 114]⟩, (.str ⟨#[82, 101, 102, 101, 114, 101, 110, 99, 101, 69, 114, 114, 111, 114]⟩ 98), (.type "ReferenceError")⟩, ⟨PyData.keyHash P ⟨#[82, 117, 110, 116, 105, 109, 101, 69, 114, 114, 111, 114]⟩, (.str ⟨#[82, 117, 110, 116, 105, 109, 101, 69, 114, 114, 111, 114]⟩ 99), (.type "RuntimeError")⟩, ⟨PyData.keyHash P ⟨#[83, 116, 111, 112, 65, 115, 121, 110, 99, 73, 116, 101, 114, 97, 116, 105, 111, 110]⟩, (.str ⟨#[83, 116, 111, 112, 65, 115, 121, 110, 99, 73, 116, 101, 114, 97, 116, 105, 111, 110]⟩ 100), (.type "StopAsyncIteration")⟩, ⟨PyData.keyHash P ⟨#[83, 116, 111, 112, 73, 116, 101, 114, 97, 116, 105, 111, 110]⟩, (.str ⟨#[83, 116, 111, 112, 73, 116, 101, 114, 97, 116, 105, 111, 110]⟩ 101), (.type "StopIteration")⟩, ⟨PyData.keyHash P ⟨#[83, 121, 110, 116, 97, 120, 69, 114, 114, 111, 114]⟩, (.str ⟨#[83, 121, 110, 116, 97, 120, 69, 114, 114, 111, 114]⟩ 102), (.type "SyntaxError")⟩, ⟨PyData.keyHash P ⟨#[83, 121, 115, 116, 101, 109, 69, 114, 114, 111, 114]⟩, (.str ⟨#[83, 121, 115, 116, 101, 109, 69, 114, 114, 111, 114]⟩ 103), (.type "SystemError")⟩, ⟨PyData.keyHash P ⟨#[84, 121, 112, 101, 69, 114, 114, 111, 114]⟩, (.str ⟨#[84, 121, 112, 101, 69, 114, 114, 111, 114]⟩ 104), (.type "TypeError")⟩, ⟨PyData.keyHash P ⟨#[86, 97, 108, 117, 101, 69, 114, 114, 111, 114]⟩, (.str ⟨#[86, 97, 108, 117, 101, 69, 114, 114, 111, 114]⟩ 105), (.type "ValueError")⟩, ⟨PyData.keyHash P ⟨#[87, 97, 114, 110, 105, 110, 103]⟩, (.str ⟨#[87, 97, 114, 110, 105, 110, 103]⟩ 106), (.type "Warning")⟩, ⟨PyData.keyHash P ⟨#[70, 108, 111, 97, 116, 105, 110, 103, 80, 111, 105, 110, 116, 69, 114, 114, 111, 114]⟩, (.str ⟨#[70, 108, 111, 97, 116, 105, 110, 103, 80, 111, 105, 110, 116, 69, 114, 114, 111, 114]⟩ 107), (.type "FloatingPointError")⟩, ⟨PyData.keyHash P ⟨#[79, 118, 101, 114, 102, 108, 111, 119, 69, 114, 114, 111, 114]⟩, (.str ⟨#[79, 118, 101, 114, 102, 108, 111, 119, 69, 114, 114, 111, 114]⟩ 108), (.type "OverflowError")⟩, ⟨PyData.keyHash P ⟨#[90, 101, 114, 111, 68, 105, 118, 105, 115, 105, 111, 110, 69, 114, 114, 111, 114]⟩, (.str ⟨#[90, 101, 114, 111, 68, 105, 118, 105, 115, 105, 111, 110, 69, 114, 114, 111, 114]⟩ 109), (.type "ZeroDivisionError")⟩, ⟨PyData.keyHash P ⟨#[66, 121, 116, 101, 115, 87, 97, 114, 110, 105, 110, 103]⟩, (.str ⟨#[66, 121, 116, 101, 115, 87, 97, 114, 110, 105, 110, 103]⟩ 110), (.type "BytesWarning")⟩, ⟨PyData.keyHash P ⟨#[68, 101, 112, 114, 101, 99, 97, 116, 105, 111, 110, 87, 97, 114, 110, 105, 110, 103]⟩, (.str ⟨#[68, 101, 112, 114, 101, 99, 97, 116, 105, 111, 110, 87, 97, 114, 110, 105, 110, 103]⟩ 111), (.type "DeprecationWarning")⟩, ⟨PyData.keyHash P ⟨#[69, 110, 99, 111, 100, 105, 110, 103, 87, 97, 114, 110, 105, 110, 103]⟩, (.str ⟨#[69, 110, 99, 111, 100, 105, 110, 103, 87, 97, 114, 110, 105, 110, 103]⟩ 112), (.type "EncodingWarning")⟩, ⟨PyData.keyHash P ⟨#[70, 117, 116, 117, 114, 101, 87, 97, 114, 110, 105, 110, 103]⟩, (.str ⟨#[70, 117, 116, 117, 114, 101, 87, 97, 114, 110, 105, 110, 103]⟩ 113), (.type "FutureWarning")⟩, ⟨PyData.keyHash P ⟨#[73, 109, 112, 111, 114, 116, 87, 97, 114, 110, 105, 110, 103]⟩, (.str ⟨#[73, 109, 112, 111, 114, 116, 87, 97, 114, 110, 105, 110, 103]⟩ 114), (.type "ImportWarning")⟩, ⟨PyData.keyHash P ⟨#[80, 101, 110, 100, 105, 110, 103, 68, 101, 112, 114, 101, 99, 97, 116, 105, 111, 110, 87, 97, 114, 110, 105, 110, 103]⟩, (.str ⟨#[80, 101, 110, 100, 105, 110, 103, 68, 101, 112, 114, 101, 99, 97, 116, 105, 111, 110, 87, 97, 114, 110, 105, 110, 103]⟩ 115), (.type "PendingDeprecationWarning")⟩, ⟨PyData.keyHash P ⟨#[82, 101, 115, 111, 117, 114, 99, 101, 87, 97, 114, 110, 105, 110, 103]⟩, (.str ⟨#[82, 101, 115, 111, 117, 114, 99, 101, 87, 97, 114, 110, 105, 110, 103]⟩ 116), (.type "ResourceWarning")⟩, ⟨PyData.keyHash P ⟨#[82, 117, 110, 116, 105, 109, 101, 87, 97, 114, 110, 105, 110, 103]⟩, (.str ⟨#[82, 117, 110, 116, 105, 109, 101, 87, 97, 114, 110, 105, 110, 103]⟩ 117), (.type "RuntimeWarning")⟩, ⟨PyData.keyHash P ⟨#[83, 121, 110, 116, 97, 120, 87, 97, 114, 110, 105, 110, 103]⟩, (.str ⟨#[83, 121, 110, 116, 97, 120, 87, 97, 114, 110, 105, 110, 103]⟩ 118), (.type "SyntaxWarning")⟩, ⟨PyData.keyHash P ⟨#[85, 110, 105, 99, 111, 100, 101, 87, 97, 114, 110, 105, 110, 103]⟩, (.str ⟨#[85, 110, 105, 99, 111, 100, 101, 87, 97, 114, 110, 105, 110, 103]⟩ 119), (.type "UnicodeWarning")⟩, ⟨PyData.keyHash P ⟨#[85, 115, 101, 114, 87, 97, 114, 110, 105, 110, 103]⟩, (.str ⟨#[85, 115, 101, 114, 87, 97, 114, 110, 105, 110, 103]⟩ 120), (.type "UserWarning")⟩, ⟨PyData.keyHash P ⟨#[66, 108, 111, 99, 107, 105, 110, 103, 73, 79, 69, 114, 114, 111, 114]⟩, (.str ⟨#[66, 108, 111, 99, 107, 105, 110, 103, 73, 79, 69, 114, 114, 111, 114]⟩ 121), (.type "BlockingIOError")⟩, ⟨PyData.keyHash P ⟨#[67, 104, 105, 108, 100, 80, 114, 111, 99, 101, 115, 115, 69, 114, 114, 111, 114]⟩, (.str ⟨#[67, 104, 105, 108, 100, 80, 114, 111, 99, 101, 115, 115, 69, 114, 114, 111, 114]⟩ 122), (.type "ChildProcessError")⟩, ⟨PyData.keyHash P ⟨#[67, 111, 110, 110, 101, 99, 116, 105, 111, 110, 69, 114, 114, 111, 114]⟩, (.str ⟨#[67, 111, 110, 110, 101, 99, 116, 105, 111, 110, 69, 114, 114, 111, 114]⟩ 123), (.type "ConnectionError")⟩, ⟨PyData.keyHash P ⟨#[70, 105, 108, 101, 69, 120, 105, 115, 116, 115, 69, 114, 114, 111, 114]⟩, (.str ⟨#[70, 105, 108, 101, 69, 120, 105, 115, 116, 115, 69, 114, 114, 111, 114]⟩ 124), (.type "FileExistsError")⟩, ⟨PyData.keyHash P ⟨#[70, 105, 108, 101, 78, 111, 116, 70, 111, 117, 110, 100, 69, 114, 114, 111, 114]⟩, (.str ⟨#[70, 105, 108, 101, 78, 111, 116, 70, 111, 117, 110, 100, 69, 114, 114, 111, 114]⟩ 125), (.type "FileNotFoundError")⟩, ⟨PyData.keyHash P ⟨#[73, 110, 116, 101, 114, 114, 117, 112, 116, 101, 100, 69, 114, 114, 111, 114]⟩, (.str ⟨#[73, 110, 116, 101, 114, 114, 117, 112, 116, 101, 100, 69, 114, 114, 111, 114]⟩ 126), (.type "InterruptedError")⟩, ⟨PyData.keyHash P ⟨#[73, 115, 65, 68, 105, 114, 101, 99, 116, 111, 114, 121, 69, 114, 114, 111, 114]⟩, (.str ⟨#[73, 115, 65, 68, 105, 114, 101, 99, 116, 111, 114, 121, 69, 114, 114, 111, 114]⟩ 127), (.type "IsADirectoryError")⟩, ⟨PyData.keyHash P ⟨#[78, 111, 116, 65, 68, 105, 114, 101, 99, 116, 111, 114, 121, 69, 114, 114, 111, 114]⟩, (.str ⟨#[78, 111, 116, 65, 68, 105, 114, 101, 99, 116, 111, 114, 121, 69, 114, 114, 111, 114]⟩ 128), (.type "NotADirectoryError")⟩, ⟨PyData.keyHash P ⟨#[80, 101, 114, 109, 105, 115, 115, 105, 111, 110, 69, 114, 114, 111, 114]⟩, (.str ⟨#[80, 101, 114, 109, 105, 115, 115, 105, 111, 110, 69, 114, 114, 111, 114]⟩ 129), (.type "PermissionError")⟩, ⟨PyData.keyHash P ⟨#[80, 114, 111, 99, 101, 115, 115, 76, 111, 111, 107, 117, 112, 69, 114, 114, 111, 114]⟩, (.str ⟨#[80, 114, 111, 99, 101, 115, 115, 76, 111, 111, 107, 117, 112, 69, 114, 114, 111, 114]⟩ 130), (.type "ProcessLookupError")⟩, ⟨PyData.keyHash P ⟨#[84, 105, 109, 101, 111, 117, 116, 69, 114, 114, 111, 114]⟩, (.str ⟨#[84, 105, 109, 101, 111, 117, 116, 69, 114, 114, 111, 114]⟩ 131), (.type "TimeoutError")⟩, ⟨PyData.keyHash P ⟨#[73, 110, 100, 101, 110, 116, 97, 116, 105, 111, 110, 69, 114, 114, 111, 114]⟩, (.str ⟨#[73, 110, 100, 101, 110, 116, 97, 116, 105, 111, 110, 69, 114, 114, 111, 114]⟩ 132), (.type "IndentationError")⟩, ⟨PyData.keyHash P ⟨#[95, 73, 110, 99, 111, 109, 112, 108, 101, 116, 101, 73, 110, 112, 117, 116, 69, 114, 114, 111, 114]⟩, (.str ⟨#[95, 73, 110, 99, 111, 109, 112, 108, 101, 116, 101, 73, 110, 112, 117, 116, 69, 114, 114, 111, 114]⟩ 133), (.type "_IncompleteInputError")⟩, ⟨PyData.keyHash P ⟨#[73, 110, 100, 101, 120, 69, 114, 114, 111, 114]⟩, (.str ⟨#[73, 110, 100, 101, 120, 69, 114, 114, 111, 114]⟩ 134), (.type "IndexError")⟩, ⟨PyData.keyHash P ⟨#[75, 101, 121, 69, 114, 114, 111, 114]⟩, (.str ⟨#[75, 101, 121, 69, 114, 114, 111, 114]⟩ 135), (.type "KeyError")⟩, ⟨PyData.keyHash P ⟨#[77, 111, 100, 117, 108, 101, 78, 111, 116, 70, 111, 117, 110, 100, 69, 114, 114, 111, 114]⟩, (.str ⟨#[77, 111, 100, 117, 108, 101, 78, 111, 116, 70, 111, 117, 110, 100, 69, 114, 114, 111, 114]⟩ 136), (.type "ModuleNotFoundError")⟩, ⟨PyData.keyHash P ⟨#[78, 111, 116, 73, 109, 112, 108, 101, 109, 101, 110, 116, 101, 100, 69, 114, 114, 111, 114]⟩, (.str ⟨#[78, 111, 116, 73, 109, 112, 108, 101, 109, 101, 110, 116, 101, 100, 69, 114, 114, 111, 114]⟩ 137), (.type "NotImplementedError")⟩, ⟨PyData.keyHash P ⟨#[80, 121, 116, 104, 111, 110, 70, 105, 110, 97, 108, 105, 122, 97, 116, 105, 111, 110, 69, 114, 114, 111, 114]⟩, (.str ⟨#[80, 121, 116, 104, 111, 110, 70, 105, 110, 97, 108, 105, 122, 97, 116, 105, 111, 110, 69, 114, 114, 111, 114]⟩ 138), (.type "PythonFinalizationError")⟩, ⟨PyData.keyHash P ⟨#[82, 101, 99, 117, 114, 115, 105, 111, 110, 69, 114, 114, 111, 114]⟩, (.str ⟨#[82, 101, 99, 117, 114, 115, 105, 111, 110, 69, 114, 114, 111, 114]⟩ 139), (.type "RecursionError")⟩, ⟨PyData.keyHash P ⟨#[85, 110, 98, 111, 117, 110, 100, 76, 111, 99, 97, 108, 69, 114, 114, 111, 114]⟩, (.str ⟨#[85, 110, 98, 111, 117, 110, 100, 76, 111, 99, 97, 108, 69, 114, 114, 111, 114]⟩ 140), (.type "UnboundLocalError")⟩, ⟨PyData.keyHash P ⟨#[85, 110, 105, 99, 111, 100, 101, 69, 114, 114, 111, 114]⟩, (.str ⟨#[85, 110, 105, 99, 111, 100, 101, 69, 114, 114, 111, 114]⟩ 141), (.type "UnicodeError")⟩, ⟨PyData.keyHash P ⟨#[66, 114, 111, 107, 101, 110, 80, 105, 112, 101, 69, 114, 114, 111, 114]⟩, (.str ⟨#[66, 114, 111, 107, 101, 110, 80, 105, 112, 101, 69, 114, 114, 111, 114]⟩ 142), (.type "BrokenPipeError")⟩, ⟨PyData.keyHash P ⟨#[67, 111, 110, 110, 101, 99, 116, 105, 111, 110, 65, 98, 111, 114, 116, 101, 100, 69, 114, 114, 111, 114]⟩, (.str ⟨#[67, 111, 110, 110, 101, 99, 116, 105, 111, 110, 65, 98, 111, 114, 116, 101, 100, 69, 114, 114, 111, 114]⟩ 143), (.type "ConnectionAbortedError")⟩, ⟨PyData.keyHash P ⟨#[67, 111, 110, 110, 101, 99, 116, 105, 111, 110, 82, 101, 102, 117, 115, 101, 100, 69, 114, 114, 111, 114]⟩, (.str ⟨#[67, 111, 110, 110, 101, 99, 116, 105, 111, 110, 82, 101, 102, 117, 115, 101, 100, 69, 114, 114, 111, 114]⟩ 144), (.type "ConnectionRefusedError")⟩, ⟨PyData.keyHash P ⟨#[67, 111, 110, 110, 101, 99, 116, 105, 111, 110, 82, 101, 115, 101, 116, 69, 114, 114, 111, 114]⟩, (.str ⟨#[67, 111, 110, 110, 101, 99, 116, 105, 111, 110, 82, 101, 115, 101, 116, 69, 114, 114, 111, 114]⟩ 145), (.type "ConnectionResetError")⟩, ⟨PyData.keyHash P ⟨#[84, 97, 98, 69, 114, 114, 111, 114]⟩, (.str ⟨#[84, 97, 98, 69, 114, 114, 111, 114]⟩ 146), (.type "TabError")⟩, ⟨PyData.keyHash P ⟨#[85, 110, 105, 99, 111, 100, 101, 68, 101, 99, 111, 100, 101, 69, 114, 114, 111, 114]⟩, (.str ⟨#[85, 110, 105, 99, 111, 100, 101, 68, 101, 99, 111, 100, 101, 69, 114, 114, 111, 114]⟩ 147), (.type "UnicodeDecodeError")⟩, ⟨PyData.keyHash P ⟨#[85, 110, 105, 99, 111, 100, 101, 69, 110, 99, 111, 100, 101, 69, 114, 114, 111, 114]⟩, (.str ⟨#[85, 110, 105, 99, 111, 100, 101, 69, 110, 99, 111, 100, 101, 69, 114, 114, 111, 114]⟩ 148), (.type "UnicodeEncodeError")⟩, ⟨PyData.keyHash P ⟨#[85, 110, 105, 99, 111, 100, 101, 84, 114, 97, 110, 115, 108, 97, 116, 101, 69, 114, 114, 111, 114]⟩, (.str ⟨#[85, 110, 105, 99, 111, 100, 101, 84, 114, 97, 110, 115, 108, 97, 116, 101, 69, 114, 114, 111, 114]⟩ 149), (.type "UnicodeTranslateError")⟩, ⟨PyData.keyHash P ⟨#[69, 120, 99, 101, 112, 116, 105, 111, 110, 71, 114, 111, 117, 112]⟩, (.str ⟨#[69, 120, 99, 101, 112, 116, 105, 111, 110, 71, 114, 111, 117, 112]⟩ 150), (.type "ExceptionGroup")⟩, ⟨PyData.keyHash P ⟨#[69, 110, 118, 105, 114, 111, 110, 109, 101, 110, 116, 69, 114, 114, 111, 114]⟩, (.str ⟨#[69, 110, 118, 105, 114, 111, 110, 109, 101, 110, 116, 69, 114, 114, 111, 114]⟩ 151), (.type "OSError")⟩, ⟨PyData.keyHash P ⟨#[73, 79, 69, 114, 114, 111, 114]⟩, (.str ⟨#[73, 79, 69, 114, 114, 111, 114]⟩ 152), (.type "OSError")⟩, ⟨PyData.keyHash P ⟨#[111, 112, 101, 110]⟩, (.str ⟨#[111, 112, 101, 110]⟩ 153), (.builtin "open")⟩, ⟨PyData.keyHash P ⟨#[113, 117, 105, 116]⟩, (.str ⟨#[113, 117, 105, 116]⟩ 154), (.builtin "builtins.quit#opaque")⟩, ⟨PyData.keyHash P ⟨#[101, 120, 105, 116]⟩, (.str ⟨#[101, 120, 105, 116]⟩ 155), (.builtin "builtins.exit#opaque")⟩, ⟨PyData.keyHash P ⟨#[99, 111, 112, 121, 114, 105, 103, 104, 116]⟩, (.str ⟨#[99, 111, 112, 121, 114, 105, 103, 104, 116]⟩ 156), (.builtin "builtins.copyright#opaque")⟩, ⟨PyData.keyHash P ⟨#[99, 114, 101, 100, 105, 116, 115]⟩, (.str ⟨#[99, 114, 101, 100, 105, 116, 115]⟩ 157), (.builtin "builtins.credits#opaque")⟩, ⟨PyData.keyHash P ⟨#[108, 105, 99, 101, 110, 115, 101]⟩, (.str ⟨#[108, 105, 99, 101, 110, 115, 101]⟩ 158), (.builtin "builtins.license#opaque")⟩, ⟨PyData.keyHash P ⟨#[104, 101, 108, 112]⟩, (.str ⟨#[104, 101, 108, 112]⟩ 159), (.builtin "builtins.help#opaque")⟩] 159), #[]⟩
noncomputable def o1_0 (P : Params) : Obj := ⟨(.type "dict"), none, (.dict #[⟨PyData.keyHash P ⟨#[98, 117, 105, 108, 116, 105, 110, 115]⟩, (.str ⟨#[98, 117, 105, 108, 116, 105, 110, 115]⟩ 162), (.ref 4)⟩, ⟨PyData.keyHash P ⟨#[95, 95, 109, 97, 105, 110, 95, 95]⟩, (.str ⟨#[95, 95, 109, 97, 105, 110, 95, 95]⟩ 163), (.ref 5)⟩, ⟨PyData.keyHash P ⟨#[95, 115, 114, 101]⟩, (.str ⟨#[95, 115, 114, 101]⟩ 244), (.ref 12)⟩] 3), #[]⟩
noncomputable def o2_0 (P : Params) : Obj := ⟨.none, none, (.dict #[⟨PyData.keyHash P ⟨#[105, 109, 112, 111, 114, 116, 46, 108, 111, 97, 100, 101, 100, 46, 95, 115, 114, 101]⟩, (.str ⟨#[105, 109, 112, 111, 114, 116, 46, 108, 111, 97, 100, 101, 100, 46, 95, 115, 114, 101]⟩ 183), (.bool true)⟩, ⟨PyData.keyHash P ⟨#[99, 108, 97, 115, 115, 46, 95, 102, 114, 111, 122, 101, 110, 95, 105, 109, 112, 111, 114, 116, 108, 105, 98, 46, 66, 117, 105, 108, 116, 105, 110, 73, 109, 112, 111, 114, 116, 101, 114]⟩, (.str ⟨#[99, 108, 97, 115, 115, 46, 95, 102, 114, 111, 122, 101, 110, 95, 105, 109, 112, 111, 114, 116, 108, 105, 98, 46, 66, 117, 105, 108, 116, 105, 110, 73, 109, 112, 111, 114, 116, 101, 114]⟩ 185), (.ref 14)⟩, ⟨PyData.keyHash P ⟨#[119, 97, 116, 99, 104, 101, 100, 46, 105, 109, 112, 111, 114, 116]⟩, (.str ⟨#[119, 97, 116, 99, 104, 101, 100, 46, 105, 109, 112, 111, 114, 116]⟩ 206), (.ref 18)⟩, ⟨PyData.keyHash P ⟨#[99, 108, 97, 115, 115, 46, 95, 102, 114, 111, 122, 101, 110, 95, 105, 109, 112, 111, 114, 116, 108, 105, 98, 46, 77, 111, 100, 117, 108, 101, 83, 112, 101, 99]⟩, (.str ⟨#[99, 108, 97, 115, 115, 46, 95, 102, 114, 111, 122, 101, 110, 95, 105, 109, 112, 111, 114, 116, 108, 105, 98, 46, 77, 111, 100, 117, 108, 101, 83, 112, 101, 99]⟩ 216), (.ref 22)⟩, ⟨PyData.keyHash P ⟨#[115, 121, 115, 46, 109, 111, 100, 117, 108, 101, 115, 46, 98, 111, 111, 107, 101, 100, 45, 101, 112, 111, 99, 104]⟩, (.str ⟨#[115, 121, 115, 46, 109, 111, 100, 117, 108, 101, 115, 46, 98, 111, 111, 107, 101, 100, 45, 101, 112, 111, 99, 104]⟩ 245), (.int 3 0)⟩, ⟨PyData.keyHash P ⟨#[105, 109, 112, 111, 114, 116, 46, 108, 97, 116, 101, 114, 45, 108, 97, 105, 100, 46, 95, 115, 114, 101]⟩, (.str ⟨#[105, 109, 112, 111, 114, 116, 46, 108, 97, 116, 101, 114, 45, 108, 97, 105, 100, 46, 95, 115, 114, 101]⟩ 270), (.bool true)⟩, ⟨PyData.keyHash P ⟨#[119, 97, 116, 99, 104, 101, 100, 46, 108, 105, 98, 114, 97, 114, 121]⟩, (.str ⟨#[119, 97, 116, 99, 104, 101, 100, 46, 108, 105, 98, 114, 97, 114, 121]⟩ 272), (.ref 27)⟩, ⟨PyData.keyHash P ⟨#[119, 97, 116, 99, 104, 101, 100, 46, 108, 105, 98, 114, 97, 114, 121, 45, 111, 98, 106, 101, 99, 116, 115]⟩, (.str ⟨#[119, 97, 116, 99, 104, 101, 100, 46, 108, 105, 98, 114, 97, 114, 121, 45, 111, 98, 106, 101, 99, 116, 115]⟩ 0), (.str ⟨#[12]⟩ 0)⟩, ⟨PyData.keyHash P ⟨#[119, 97, 116, 99, 104, 101, 100, 46, 108, 105, 98, 114, 97, 114, 121, 45, 100, 101, 101, 112, 46, 95, 115, 114, 101]⟩, (.str ⟨#[119, 97, 116, 99, 104, 101, 100, 46, 108, 105, 98, 114, 97, 114, 121, 45, 100, 101, 101, 112, 46, 95, 115, 114, 101]⟩ 273), (.str ⟨#[4, 0, 0, 11, 4, 0, 0, 11, 4, 0, 0, 3, 4, 0, 0, 11, 8, 4, 100, 105, 99, 116, 2]⟩ 0)⟩] 9), #[]⟩
noncomputable def o3_0 (P : Params) : Obj := ⟨(.type "dict"), none, (.dict #[⟨PyData.keyHash P ⟨#[95, 95, 110, 97, 109, 101, 95, 95]⟩, (.str ⟨#[95, 95, 110, 97, 109, 101, 95, 95]⟩ 165), (.str ⟨#[95, 95, 109, 97, 105, 110, 95, 95]⟩ 164)⟩, ⟨PyData.keyHash P ⟨#[95, 95, 100, 111, 99, 95, 95]⟩, (.str ⟨#[95, 95, 100, 111, 99, 95, 95]⟩ 166), .none⟩, ⟨PyData.keyHash P ⟨#[95, 95, 112, 97, 99, 107, 97, 103, 101, 95, 95]⟩, (.str ⟨#[95, 95, 112, 97, 99, 107, 97, 103, 101, 95, 95]⟩ 167), .none⟩, ⟨PyData.keyHash P ⟨#[95, 95, 108, 111, 97, 100, 101, 114, 95, 95]⟩, (.str ⟨#[95, 95, 108, 111, 97, 100, 101, 114, 95, 95]⟩ 168), (.builtin "__main__.__loader__#opaque")⟩, ⟨PyData.keyHash P ⟨#[95, 95, 115, 112, 101, 99, 95, 95]⟩, (.str ⟨#[95, 95, 115, 112, 101, 99, 95, 95]⟩ 169), .none⟩, ⟨PyData.keyHash P ⟨#[95, 95, 97, 110, 110, 111, 116, 97, 116, 105, 111, 110, 115, 95, 95]⟩, (.str ⟨#[95, 95, 97, 110, 110, 111, 116, 97, 116, 105, 111, 110, 115, 95, 95]⟩ 170), (.ref 6)⟩, ⟨PyData.keyHash P ⟨#[95, 95, 98, 117, 105, 108, 116, 105, 110, 115, 95, 95]⟩, (.str ⟨#[95, 95, 98, 117, 105, 108, 116, 105, 110, 115, 95, 95]⟩ 171), (.ref 4)⟩, ⟨PyData.keyHash P ⟨#[95, 95, 102, 105, 108, 101, 95, 95]⟩, (.str ⟨#[95, 95, 102, 105, 108, 101, 95, 95]⟩ 173), (.str ⟨#[47, 99, 108, 97, 105, 109, 47, 99, 117, 116, 46, 112, 121]⟩ 172)⟩, ⟨PyData.keyHash P ⟨#[95, 95, 99, 97, 99, 104, 101, 100, 95, 95]⟩, (.str ⟨#[95, 95, 99, 97, 99, 104, 101, 100, 95, 95]⟩ 174), .none⟩, ⟨PyData.keyHash P ⟨#[95, 115, 114, 101]⟩, (.str ⟨#[95, 115, 114, 101]⟩ 275), (.ref 12)⟩] 10), #[]⟩
noncomputable def o4_0 (_ : Params) : Obj := ⟨(.type "module"), (some 0), .plain, #[]⟩
noncomputable def o5_0 (_ : Params) : Obj := ⟨(.type "module"), (some 3), .plain, #[]⟩
noncomputable def o6_0 (_ : Params) : Obj := ⟨(.type "dict"), none, (.dict #[] 0), #[]⟩
noncomputable def o7_0 (_ : Params) : Obj := ⟨(.type "tuple"), none, (.seq #[] 0), #[]⟩
noncomputable def o8_0 (_ : Params) : Obj := ⟨.none, none, (.fields #[]), #[]⟩
noncomputable def o9_0 (_ : Params) : Obj := ⟨(.type "code"), none, (.fields #[(.str ⟨#[60, 109, 111, 100, 117, 108, 101, 62]⟩ 176), (.str ⟨#[60, 109, 111, 100, 117, 108, 101, 62]⟩ 177), (.str ⟨#[47, 99, 108, 97, 105, 109, 47, 99, 117, 116, 46, 112, 121]⟩ 178), (.int 1 0), (.int 0 0), (.int 0 0), (.int 0 0), (.int 0 0), (.ref 7), (.bool false), (.int 175 0), (.ref 8), .none, .none, .none, .none, (.int 179 0), (.int 1 0), (.str ⟨#[47, 99, 108, 97, 105, 109, 47, 99, 117, 116, 46, 112, 121]⟩ 180)]), #[]⟩
noncomputable def o10_0 (_ : Params) : Obj := ⟨(.type "frame"), none, .plain, #[(some (.ref 9)), (some (.ref 3)), (some (.ref 3)), none, (some (.str ⟨#[95, 95, 109, 97, 105, 110, 95, 95]⟩ 164)), none, (some (.ref 0))]⟩
noncomputable def o11_0 (P : Params) : Obj := ⟨(.type "dict"), none, (.dict #[⟨PyData.keyHash P ⟨#[95, 95, 110, 97, 109, 101, 95, 95]⟩, (.str ⟨#[95, 95, 110, 97, 109, 101, 95, 95]⟩ 247), (.str ⟨#[95, 115, 114, 101]⟩ 246)⟩, ⟨PyData.keyHash P ⟨#[95, 95, 100, 111, 99, 95, 95]⟩, (.str ⟨#[95, 95, 100, 111, 99, 95, 95]⟩ 248), .none⟩, ⟨PyData.keyHash P ⟨#[95, 95, 112, 97, 99, 107, 97, 103, 101, 95, 95]⟩, (.str ⟨#[95, 95, 112, 97, 99, 107, 97, 103, 101, 95, 95]⟩ 250), (.str ⟨#[]⟩ 249)⟩, ⟨PyData.keyHash P ⟨#[95, 95, 108, 111, 97, 100, 101, 114, 95, 95]⟩, (.str ⟨#[95, 95, 108, 111, 97, 100, 101, 114, 95, 95]⟩ 251), (.builtin "off-the-table:_sre.__loader__:shared#opaque")⟩, ⟨PyData.keyHash P ⟨#[95, 95, 115, 112, 101, 99, 95, 95]⟩, (.str ⟨#[95, 95, 115, 112, 101, 99, 95, 95]⟩ 252), (.builtin "off-the-table:_sre.__spec__:shared#opaque")⟩, ⟨PyData.keyHash P ⟨#[99, 111, 109, 112, 105, 108, 101]⟩, (.str ⟨#[99, 111, 109, 112, 105, 108, 101]⟩ 253), (.builtin "_sre.compile")⟩, ⟨PyData.keyHash P ⟨#[116, 101, 109, 112, 108, 97, 116, 101]⟩, (.str ⟨#[116, 101, 109, 112, 108, 97, 116, 101]⟩ 254), (.builtin "off-the-table:_sre.template:shared#opaque")⟩, ⟨PyData.keyHash P ⟨#[103, 101, 116, 99, 111, 100, 101, 115, 105, 122, 101]⟩, (.str ⟨#[103, 101, 116, 99, 111, 100, 101, 115, 105, 122, 101]⟩ 255), (.builtin "off-the-table:_sre.getcodesize:shared#opaque")⟩, ⟨PyData.keyHash P ⟨#[97, 115, 99, 105, 105, 95, 105, 115, 99, 97, 115, 101, 100]⟩, (.str ⟨#[97, 115, 99, 105, 105, 95, 105, 115, 99, 97, 115, 101, 100]⟩ 256), (.builtin "off-the-table:_sre.ascii_iscased:shared#opaque")⟩, ⟨PyData.keyHash P ⟨#[117, 110, 105, 99, 111, 100, 101, 95, 105, 115, 99, 97, 115, 101, 100]⟩, (.str ⟨#[117, 110, 105, 99, 111, 100, 101, 95, 105, 115, 99, 97, 115, 101, 100]⟩ 257), (.builtin "off-the-table:_sre.unicode_iscased:shared#opaque")⟩, ⟨PyData.keyHash P ⟨#[97, 115, 99, 105, 105, 95, 116, 111, 108, 111, 119, 101, 114]⟩, (.str ⟨#[97, 115, 99, 105, 105, 95, 116, 111, 108, 111, 119, 101, 114]⟩ 258), (.builtin "off-the-table:_sre.ascii_tolower:shared#opaque")⟩, ⟨PyData.keyHash P ⟨#[117, 110, 105, 99, 111, 100, 101, 95, 116, 111, 108, 111, 119, 101, 114]⟩, (.str ⟨#[117, 110, 105, 99, 111, 100, 101, 95, 116, 111, 108, 111, 119, 101, 114]⟩ 259), (.builtin "off-the-table:_sre.unicode_tolower:shared#opaque")⟩, ⟨PyData.keyHash P ⟨#[77, 65, 71, 73, 67]⟩, (.str ⟨#[77, 65, 71, 73, 67]⟩ 261), (.int 20230612 260)⟩, ⟨PyData.keyHash P ⟨#[67, 79, 68, 69, 83, 73, 90, 69]⟩, (.str ⟨#[67, 79, 68, 69, 83, 73, 90, 69]⟩ 263), (.int 4 262)⟩, ⟨PyData.keyHash P ⟨#[77, 65, 88, 82, 69, 80, 69, 65, 84]⟩, (.str ⟨#[77, 65, 88, 82, 69, 80, 69, 65, 84]⟩ 265), (.int 4294967295 264)⟩, ⟨PyData.keyHash P ⟨#[77, 65, 88, 71, 82, 79, 85, 80, 83]⟩, (.str ⟨#[77, 65, 88, 71, 82, 79, 85, 80, 83]⟩ 267), (.int 1073741823 266)⟩, ⟨PyData.keyHash P ⟨#[99, 111, 112, 121, 114, 105, 103, 104, 116]⟩, (.str ⟨#[99, 111, 112, 121, 114, 105, 103, 104, 116]⟩ 269), (.str ⟨#[32, 83, 82, 69, 32, 50, 46, 50, 46, 50, 32, 67, 111, 112, 121, 114, 105, 103, 104, 116, 32, 40, 99, 41, 32, 49, 57, 57, 55, 45, 50, 48, 48, 50, 32, 98, 121, 32, 83, 101, 99, 114, 101, 116, 32, 76, 97, 98, 115, 32, 65, 66, 32]⟩ 268)⟩] 17), #[]⟩
noncomputable def o12_0 (_ : Params) : Obj := ⟨(.type "module"), (some 11), .plain, #[]⟩
noncomputable def o13_0 (P : Params) : Obj := ⟨(.type "dict"), none, (.dict #[⟨PyData.keyHash P ⟨#[95, 95, 109, 111, 100, 117, 108, 101, 95, 95]⟩, (.str ⟨#[95, 95, 109, 111, 100, 117, 108, 101, 95, 95]⟩ 189), (.str ⟨#[95, 102, 114, 111, 122, 101, 110, 95, 105, 109, 112, 111, 114, 116, 108, 105, 98]⟩ 186)⟩, ⟨PyData.keyHash P ⟨#[95, 95, 102, 105, 114, 115, 116, 108, 105, 110, 101, 110, 111, 95, 95]⟩, (.str ⟨#[95, 95, 102, 105, 114, 115, 116, 108, 105, 110, 101, 110, 111, 95, 95]⟩ 190), (.int 971 187)⟩, ⟨PyData.keyHash P ⟨#[95, 95, 100, 111, 99, 95, 95]⟩, (.str ⟨#[95, 95, 100, 111, 99, 95, 95]⟩ 191), (.builtin "_frozen_importlib.BuiltinImporter.__doc__:str#opaque")⟩, ⟨PyData.keyHash P ⟨#[95, 79, 82, 73, 71, 73, 78]⟩, (.str ⟨#[95, 79, 82, 73, 71, 73, 78]⟩ 192), (.str ⟨#[98, 117, 105, 108, 116, 45, 105, 110]⟩ 188)⟩, ⟨PyData.keyHash P ⟨#[102, 105, 110, 100, 95, 115, 112, 101, 99]⟩, (.str ⟨#[102, 105, 110, 100, 95, 115, 112, 101, 99]⟩ 193), (.builtin "_frozen_importlib.BuiltinImporter.find_spec#opaque")⟩, ⟨PyData.keyHash P ⟨#[99, 114, 101, 97, 116, 101, 95, 109, 111, 100, 117, 108, 101]⟩, (.str ⟨#[99, 114, 101, 97, 116, 101, 95, 109, 111, 100, 117, 108, 101]⟩ 194), (.builtin "_frozen_importlib.BuiltinImporter.create_module#opaque")⟩, ⟨PyData.keyHash P ⟨#[101, 120, 101, 99, 95, 109, 111, 100, 117, 108, 101]⟩, (.str ⟨#[101, 120, 101, 99, 95, 109, 111, 100, 117, 108, 101]⟩ 195), (.builtin "_frozen_importlib.BuiltinImporter.exec_module#opaque")⟩, ⟨PyData.keyHash P ⟨#[103, 101, 116, 95, 99, 111, 100, 101]⟩, (.str ⟨#[103, 101, 116, 95, 99, 111, 100, 101]⟩ 196), (.builtin "_frozen_importlib.BuiltinImporter.get_code#opaque")⟩, ⟨PyData.keyHash P ⟨#[103, 101, 116, 95, 115, 111, 117, 114, 99, 101]⟩, (.str ⟨#[103, 101, 116, 95, 115, 111, 117, 114, 99, 101]⟩ 197), (.builtin "_frozen_importlib.BuiltinImporter.get_source#opaque")⟩, ⟨PyData.keyHash P ⟨#[105, 115, 95, 112, 97, 99, 107, 97, 103, 101]⟩, (.str ⟨#[105, 115, 95, 112, 97, 99, 107, 97, 103, 101]⟩ 198), (.builtin "_frozen_importlib.BuiltinImporter.is_package#opaque")⟩, ⟨PyData.keyHash P ⟨#[108, 111, 97, 100, 95, 109, 111, 100, 117, 108, 101]⟩, (.str ⟨#[108, 111, 97, 100, 95, 109, 111, 100, 117, 108, 101]⟩ 199), (.builtin "_frozen_importlib.BuiltinImporter.load_module#opaque")⟩, ⟨PyData.keyHash P ⟨#[95, 95, 115, 116, 97, 116, 105, 99, 95, 97, 116, 116, 114, 105, 98, 117, 116, 101, 115, 95, 95]⟩, (.str ⟨#[95, 95, 115, 116, 97, 116, 105, 99, 95, 97, 116, 116, 114, 105, 98, 117, 116, 101, 115, 95, 95]⟩ 200), (.ref 15)⟩, ⟨PyData.keyHash P ⟨#[95, 95, 100, 105, 99, 116, 95, 95]⟩, (.str ⟨#[95, 95, 100, 105, 99, 116, 95, 95]⟩ 202), (.ref 16)⟩, ⟨PyData.keyHash P ⟨#[95, 95, 119, 101, 97, 107, 114, 101, 102, 95, 95]⟩, (.str ⟨#[95, 95, 119, 101, 97, 107, 114, 101, 102, 95, 95]⟩ 204), (.ref 17)⟩] 14), #[]⟩
noncomputable def o14_0 (_ : Params) : Obj := ⟨(.type "type"), none, (.cls { name := ⟨#[66, 117, 105, 108, 116, 105, 110, 73, 109, 112, 111, 114, 116, 101, 114]⟩, bases := [(.type "object")], mro := [(.ref 14), (.type "object")], ns := 13, qualname := ⟨#[66, 117, 105, 108, 116, 105, 110, 73, 109, 112, 111, 114, 116, 101, 114]⟩, hasDict := true, slotNames := [], subclasses := [], abstract := false, collection := none, hasDel := false }), #[]⟩
noncomputable def o15_0 (_ : Params) : Obj := ⟨(.type "tuple"), none, (.seq #[] 0), #[]⟩
noncomputable def o16_0 (_ : Params) : Obj := ⟨(.type "getset_descriptor"), none, (.fields #[(.str ⟨#[95, 95, 100, 105, 99, 116, 95, 95]⟩ 201), (.ref 14), (.builtin "function.__dict__"), (.builtin "function.__dict__#set")]), #[]⟩
noncomputable def o17_0 (_ : Params) : Obj := ⟨(.type "getset_descriptor"), none, (.fields #[(.str ⟨#[95, 95, 119, 101, 97, 107, 114, 101, 102, 95, 95]⟩ 203), (.ref 14), (.builtin "ExceptionGroup.__weakref__"), .none]), #[]⟩
noncomputable def o18_0 (_ : Params) : Obj := ⟨.none, none, (.seq #[(.int 13 0), (.str ⟨#[6, 189, 10, 95, 95, 109, 111, 100, 117, 108, 101, 95, 95, 6, 186, 17, 95, 102, 114, 111, 122, 101, 110, 95, 105, 109, 112, 111, 114, 116, 108, 105, 98, 6, 190, 15, 95, 95, 102, 105, 114, 115, 116, 108, 105, 110, 101, 110, 111, 95, 95, 4, 187, 0, 971, 6, 191, 7, 95, 95, 100, 111, 99, 95, 95, 9, 52, 95, 102, 114, 111, 122, 101, 110, 95, 105, 109, 112, 111, 114, 116, 108, 105, 98, 46, 66, 117, 105, 108, 116, 105, 110, 73, 109, 112, 111, 114, 116, 101, 114, 46, 95, 95, 100, 111, 99, 95, 95, 58, 115, 116, 114, 35, 111, 112, 97, 113, 117, 101, 6, 192, 7, 95, 79, 82, 73, 71, 73, 78, 6, 188, 8, 98, 117, 105, 108, 116, 45, 105, 110, 6, 193, 9, 102, 105, 110, 100, 95, 115, 112, 101, 99, 9, 50, 95, 102, 114, 111, 122, 101, 110, 95, 105, 109, 112, 111, 114, 116, 108, 105, 98, 46, 66, 117, 105, 108, 116, 105, 110, 73, 109, 112, 111, 114, 116, 101, 114, 46, 102, 105, 110, 100, 95, 115, 112, 101, 99, 35, 111, 112, 97, 113, 117, 101, 6, 194, 13, 99, 114, 101, 97, 116, 101, 95, 109, 111, 100, 117, 108, 101, 9, 54, 95, 102, 114, 111, 122, 101, 110, 95, 105, 109, 112, 111, 114, 116, 108, 105, 98, 46, 66, 117, 105, 108, 116, 105, 110, 73, 109, 112, 111, 114, 116, 101, 114, 46, 99, 114, 101, 97, 116, 101, 95, 109, 111, 100, 117, 108, 101, 35, 111, 112, 97, 113, 117, 101, 6, 195, 11, 101, 120, 101, 99, 95, 109, 111, 100, 117, 108, 101, 9, 52, 95, 102, 114, 111, 122, 101, 110, 95, 105, 109, 112, 111, 114, 116, 108, 105, 98, 46, 66, 117, 105, 108, 116, 105, 110, 73, 109, 112, 111, 114, 116, 101, 114, 46, 101, 120, 101, 99, 95, 109, 111, 100, 117, 108, 101, 35, 111, 112, 97, 113, 117, 101, 6, 196, 8, 103, 101, 116, 95, 99, 111, 100, 101, 9, 49, 95, 102, 114, 111, 122, 101, 110, 95, 105, 109, 112, 111, 114, 116, 108, 105, 98, 46, 66, 117, 105, 108, 116, 105, 110, 73, 109, 112, 111, 114, 116, 101, 114, 46, 103, 101, 116, 95, 99, 111, 100, 101, 35, 111, 112, 97, 113, 117, 101, 6, 197, 10, 103, 101, 116, 95, 115, 111, 117, 114, 99, 101, 9, 51, 95, 102, 114, 111, 122, 101, 110, 95, 105, 109, 112, 111, 114, 116, 108, 105, 98, 46, 66, 117, 105, 108, 116, 105, 110, 73, 109, 112, 111, 114, 116, 101, 114, 46, 103, 101, 116, 95, 115, 111, 117, 114, 99, 101, 35, 111, 112, 97, 113, 117, 101, 6, 198, 10, 105, 115, 95, 112, 97, 99, 107, 97, 103, 101, 9, 51, 95, 102, 114, 111, 122, 101, 110, 95, 105, 109, 112, 111, 114, 116, 108, 105, 98, 46, 66, 117, 105, 108, 116, 105, 110, 73, 109, 112, 111, 114, 116, 101, 114, 46, 105, 115, 95, 112, 97, 99, 107, 97, 103, 101, 35, 111, 112, 97, 113, 117, 101, 6, 199, 11, 108, 111, 97, 100, 95, 109, 111, 100, 117, 108, 101, 9, 52, 95, 102, 114, 111, 122, 101, 110, 95, 105, 109, 112, 111, 114, 116, 108, 105, 98, 46, 66, 117, 105, 108, 116, 105, 110, 73, 109, 112, 111, 114, 116, 101, 114, 46, 108, 111, 97, 100, 95, 109, 111, 100, 117, 108, 101, 35, 111, 112, 97, 113, 117, 101, 6, 200, 21, 95, 95, 115, 116, 97, 116, 105, 99, 95, 97, 116, 116, 114, 105, 98, 117, 116, 101, 115, 95, 95, 4, 0, 0, 15, 6, 202, 8, 95, 95, 100, 105, 99, 116, 95, 95, 4, 0, 0, 16, 6, 204, 11, 95, 95, 119, 101, 97, 107, 114, 101, 102, 95, 95, 4, 0, 0, 17]⟩ 0), (.bool true), (.bool true), (.str ⟨#[]⟩ 205), (.int 21 0), (.str ⟨#[6, 227, 10, 95, 95, 109, 111, 100, 117, 108, 101, 95, 95, 6, 217, 17, 95, 102, 114, 111, 122, 101, 110, 95, 105, 109, 112, 111, 114, 116, 108, 105, 98, 6, 228, 15, 95, 95, 102, 105, 114, 115, 116, 108, 105, 110, 101, 110, 111, 95, 95, 4, 218, 0, 562, 6, 229, 7, 95, 95, 100, 111, 99, 95, 95, 9, 47, 95, 102, 114, 111, 122, 101, 110, 95, 105, 109, 112, 111, 114, 116, 108, 105, 98, 46, 77, 111, 100, 117, 108, 101, 83, 112, 101, 99, 46, 95, 95, 100, 111, 99, 95, 95, 58, 115, 116, 114, 35, 111, 112, 97, 113, 117, 101, 6, 230, 8, 95, 95, 105, 110, 105, 116, 95, 95, 9, 44, 95, 102, 114, 111, 122, 101, 110, 95, 105, 109, 112, 111, 114, 116, 108, 105, 98, 46, 77, 111, 100, 117, 108, 101, 83, 112, 101, 99, 46, 95, 95, 105, 110, 105, 116, 95, 95, 35, 111, 112, 97, 113, 117, 101, 6, 231, 8, 95, 95, 114, 101, 112, 114, 95, 95, 9, 44, 95, 102, 114, 111, 122, 101, 110, 95, 105, 109, 112, 111, 114, 116, 108, 105, 98, 46, 77, 111, 100, 117, 108, 101, 83, 112, 101, 99, 46, 95, 95, 114, 101, 112, 114, 95, 95, 35, 111, 112, 97, 113, 117, 101, 6, 232, 6, 95, 95, 101, 113, 95, 95, 9, 42, 95, 102, 114, 111, 122, 101, 110, 95, 105, 109, 112, 111, 114, 116, 108, 105, 98, 46, 77, 111, 100, 117, 108, 101, 83, 112, 101, 99, 46, 95, 95, 101, 113, 95, 95, 35, 111, 112, 97, 113, 117, 101, 6, 233, 6, 99, 97, 99, 104, 101, 100, 9, 42, 95, 102, 114, 111, 122, 101, 110, 95, 105, 109, 112, 111, 114, 116, 108, 105, 98, 46, 77, 111, 100, 117, 108, 101, 83, 112, 101, 99, 46, 99, 97, 99, 104, 101, 100, 35, 111, 112, 97, 113, 117, 101, 6, 234, 6, 112, 97, 114, 101, 110, 116, 9, 42, 95, 102, 114, 111, 122, 101, 110, 95, 105, 109, 112, 111, 114, 116, 108, 105, 98, 46, 77, 111, 100, 117, 108, 101, 83, 112, 101, 99, 46, 112, 97, 114, 101, 110, 116, 35, 111, 112, 97, 113, 117, 101, 6, 235, 12, 104, 97, 115, 95, 108, 111, 99, 97, 116, 105, 111, 110, 9, 48, 95, 102, 114, 111, 122, 101, 110, 95, 105, 109, 112, 111, 114, 116, 108, 105, 98, 46, 77, 111, 100, 117, 108, 101, 83, 112, 101, 99, 46, 104, 97, 115, 95, 108, 111, 99, 97, 116, 105, 111, 110, 35, 111, 112, 97, 113, 117, 101, 6, 236, 21, 95, 95, 115, 116, 97, 116, 105, 99, 95, 97, 116, 116, 114, 105, 98, 117, 116, 101, 115, 95, 95, 4, 0, 0, 23, 6, 238, 8, 95, 95, 100, 105, 99, 116, 95, 95, 4, 0, 0, 24, 6, 240, 11, 95, 95, 119, 101, 97, 107, 114, 101, 102, 95, 95, 4, 0, 0, 25, 6, 241, 8, 95, 95, 104, 97, 115, 104, 95, 95, 0]⟩ 0), (.bool true), (.bool true), (.str ⟨#[]⟩ 242)] 1), #[]⟩
noncomputable def o19_0 (_ : Params) : Obj := ⟨(.type "list"), none, (.seq #[] 0), #[]⟩
noncomputable def o20_0 (P : Params) : Obj := ⟨(.type "dict"), none, (.dict #[⟨PyData.keyHash P ⟨#[110, 97, 109, 101]⟩, (.str ⟨#[110, 97, 109, 101]⟩ 208), (.str ⟨#[95, 115, 114, 101]⟩ 207)⟩, ⟨PyData.keyHash P ⟨#[108, 111, 97, 100, 101, 114]⟩, (.str ⟨#[108, 111, 97, 100, 101, 114]⟩ 209), (.ref 14)⟩, ⟨PyData.keyHash P ⟨#[111, 114, 105, 103, 105, 110]⟩, (.str ⟨#[111, 114, 105, 103, 105, 110]⟩ 210), (.str ⟨#[98, 117, 105, 108, 116, 45, 105, 110]⟩ 184)⟩, ⟨PyData.keyHash P ⟨#[108, 111, 97, 100, 101, 114, 95, 115, 116, 97, 116, 101]⟩, (.str ⟨#[108, 111, 97, 100, 101, 114, 95, 115, 116, 97, 116, 101]⟩ 211), .none⟩, ⟨PyData.keyHash P ⟨#[115, 117, 98, 109, 111, 100, 117, 108, 101, 95, 115, 101, 97, 114, 99, 104, 95, 108, 111, 99, 97, 116, 105, 111, 110, 115]⟩, (.str ⟨#[115, 117, 98, 109, 111, 100, 117, 108, 101, 95, 115, 101, 97, 114, 99, 104, 95, 108, 111, 99, 97, 116, 105, 111, 110, 115]⟩ 212), .none⟩, ⟨PyData.keyHash P ⟨#[95, 117, 110, 105, 110, 105, 116, 105, 97, 108, 105, 122, 101, 100, 95, 115, 117, 98, 109, 111, 100, 117, 108, 101, 115]⟩, (.str ⟨#[95, 117, 110, 105, 110, 105, 116, 105, 97, 108, 105, 122, 101, 100, 95, 115, 117, 98, 109, 111, 100, 117, 108, 101, 115]⟩ 213), (.ref 19)⟩, ⟨PyData.keyHash P ⟨#[95, 115, 101, 116, 95, 102, 105, 108, 101, 97, 116, 116, 114]⟩, (.str ⟨#[95, 115, 101, 116, 95, 102, 105, 108, 101, 97, 116, 116, 114]⟩ 214), (.bool false)⟩, ⟨PyData.keyHash P ⟨#[95, 99, 97, 99, 104, 101, 100]⟩, (.str ⟨#[95, 99, 97, 99, 104, 101, 100]⟩ 215), .none⟩, ⟨PyData.keyHash P ⟨#[95, 105, 110, 105, 116, 105, 97, 108, 105, 122, 105, 110, 103]⟩, (.str ⟨#[95, 105, 110, 105, 116, 105, 97, 108, 105, 122, 105, 110, 103]⟩ 243), (.bool false)⟩] 9), #[]⟩
noncomputable def o21_0 (P : Params) : Obj := ⟨(.type "dict"), none, (.dict #[⟨PyData.keyHash P ⟨#[95, 95, 109, 111, 100, 117, 108, 101, 95, 95]⟩, (.str ⟨#[95, 95, 109, 111, 100, 117, 108, 101, 95, 95]⟩ 227), (.str ⟨#[95, 102, 114, 111, 122, 101, 110, 95, 105, 109, 112, 111, 114, 116, 108, 105, 98]⟩ 217)⟩, ⟨PyData.keyHash P ⟨#[95, 95, 102, 105, 114, 115, 116, 108, 105, 110, 101, 110, 111, 95, 95]⟩, (.str ⟨#[95, 95, 102, 105, 114, 115, 116, 108, 105, 110, 101, 110, 111, 95, 95]⟩ 228), (.int 562 218)⟩, ⟨PyData.keyHash P ⟨#[95, 95, 100, 111, 99, 95, 95]⟩, (.str ⟨#[95, 95, 100, 111, 99, 95, 95]⟩ 229), (.builtin "_frozen_importlib.ModuleSpec.__doc__:str#opaque")⟩, ⟨PyData.keyHash P ⟨#[95, 95, 105, 110, 105, 116, 95, 95]⟩, (.str ⟨#[95, 95, 105, 110, 105, 116, 95, 95]⟩ 230), (.builtin "_frozen_importlib.ModuleSpec.__init__#opaque")⟩, ⟨PyData.keyHash P ⟨#[95, 95, 114, 101, 112, 114, 95, 95]⟩, (.str ⟨#[95, 95, 114, 101, 112, 114, 95, 95]⟩ 231), (.builtin "_frozen_importlib.ModuleSpec.__repr__#opaque")⟩, ⟨PyData.keyHash P ⟨#[95, 95, 101, 113, 95, 95]⟩, (.str ⟨#[95, 95, 101, 113, 95, 95]⟩ 232), (.builtin "_frozen_importlib.ModuleSpec.__eq__#opaque")⟩, ⟨PyData.keyHash P ⟨#[99, 97, 99, 104, 101, 100]⟩, (.str ⟨#[99, 97, 99, 104, 101, 100]⟩ 233), (.builtin "_frozen_importlib.ModuleSpec.cached#opaque")⟩, ⟨PyData.keyHash P ⟨#[112, 97, 114, 101, 110, 116]⟩, (.str ⟨#[112, 97, 114, 101, 110, 116]⟩ 234), (.builtin "_frozen_importlib.ModuleSpec.parent#opaque")⟩, ⟨PyData.keyHash P ⟨#[104, 97, 115, 95, 108, 111, 99, 97, 116, 105, 111, 110]⟩, (.str ⟨#[104, 97, 115, 95, 108, 111, 99, 97, 116, 105, 111, 110]⟩ 235), (.builtin "_frozen_importlib.ModuleSpec.has_location#opaque")⟩, ⟨PyData.keyHash P ⟨#[95, 95, 115, 116, 97, 116, 105, 99, 95, 97, 116, 116, 114, 105, 98, 117, 116, 101, 115, 95, 95]⟩, (.str ⟨#[95, 95, 115, 116, 97, 116, 105, 99, 95, 97, 116, 116, 114, 105, 98, 117, 116, 101, 115, 95, 95]⟩ 236), (.ref 23)⟩, ⟨PyData.keyHash P ⟨#[95, 95, 100, 105, 99, 116, 95, 95]⟩, (.str ⟨#[95, 95, 100, 105, 99, 116, 95, 95]⟩ 238), (.ref 24)⟩, ⟨PyData.keyHash P ⟨#[95, 95, 119, 101, 97, 107, 114, 101, 102, 95, 95]⟩, (.str ⟨#[95, 95, 119, 101, 97, 107, 114, 101, 102, 95, 95]⟩ 240), (.ref 25)⟩, ⟨PyData.keyHash P ⟨#[95, 95, 104, 97, 115, 104, 95, 95]⟩, (.str ⟨#[95, 95, 104, 97, 115, 104, 95, 95]⟩ 241), .none⟩] 13), #[]⟩
noncomputable def o22_0 (_ : Params) : Obj := ⟨(.type "type"), none, (.cls { name := ⟨#[77, 111, 100, 117, 108, 101, 83, 112, 101, 99]⟩, bases := [(.type "object")], mro := [(.ref 22), (.type "object")], ns := 21, qualname := ⟨#[77, 111, 100, 117, 108, 101, 83, 112, 101, 99]⟩, hasDict := true, slotNames := [], subclasses := [], abstract := false, collection := none, hasDel := false }), #[]⟩
noncomputable def o23_0 (_ : Params) : Obj := ⟨(.type "tuple"), none, (.seq #[(.str ⟨#[95, 99, 97, 99, 104, 101, 100]⟩ 219), (.str ⟨#[95, 115, 101, 116, 95, 102, 105, 108, 101, 97, 116, 116, 114]⟩ 220), (.str ⟨#[95, 117, 110, 105, 110, 105, 116, 105, 97, 108, 105, 122, 101, 100, 95, 115, 117, 98, 109, 111, 100, 117, 108, 101, 115]⟩ 221), (.str ⟨#[108, 111, 97, 100, 101, 114]⟩ 222), (.str ⟨#[108, 111, 97, 100, 101, 114, 95, 115, 116, 97, 116, 101]⟩ 223), (.str ⟨#[110, 97, 109, 101]⟩ 224), (.str ⟨#[111, 114, 105, 103, 105, 110]⟩ 225), (.str ⟨#[115, 117, 98, 109, 111, 100, 117, 108, 101, 95, 115, 101, 97, 114, 99, 104, 95, 108, 111, 99, 97, 116, 105, 111, 110, 115]⟩ 226)] 0), #[]⟩
noncomputable def o24_0 (_ : Params) : Obj := ⟨(.type "getset_descriptor"), none, (.fields #[(.str ⟨#[95, 95, 100, 105, 99, 116, 95, 95]⟩ 237), (.ref 22), (.builtin "function.__dict__"), (.builtin "function.__dict__#set")]), #[]⟩
noncomputable def o25_0 (_ : Params) : Obj := ⟨(.type "getset_descriptor"), none, (.fields #[(.str ⟨#[95, 95, 119, 101, 97, 107, 114, 101, 102, 95, 95]⟩ 239), (.ref 22), (.builtin "ExceptionGroup.__weakref__"), .none]), #[]⟩
noncomputable def o26_0 (_ : Params) : Obj := ⟨(.ref 22), (some 20), .plain, #[]⟩
noncomputable def o27_0 (_ : Params) : Obj := ⟨.none, none, (.seq #[(.int 11 0), (.str ⟨#[6, 247, 8, 95, 95, 110, 97, 109, 101, 95, 95, 6, 246, 4, 95, 115, 114, 101, 6, 248, 7, 95, 95, 100, 111, 99, 95, 95, 0, 6, 250, 11, 95, 95, 112, 97, 99, 107, 97, 103, 101, 95, 95, 6, 249, 0, 6, 251, 10, 95, 95, 108, 111, 97, 100, 101, 114, 95, 95, 4, 0, 0, 14, 6, 252, 8, 95, 95, 115, 112, 101, 99, 95, 95, 4, 0, 0, 26, 6, 253, 7, 99, 111, 109, 112, 105, 108, 101, 9, 12, 95, 115, 114, 101, 46, 99, 111, 109, 112, 105, 108, 101, 6, 254, 8, 116, 101, 109, 112, 108, 97, 116, 101, 9, 13, 95, 115, 114, 101, 46, 116, 101, 109, 112, 108, 97, 116, 101, 6, 255, 11, 103, 101, 116, 99, 111, 100, 101, 115, 105, 122, 101, 9, 16, 95, 115, 114, 101, 46, 103, 101, 116, 99, 111, 100, 101, 115, 105, 122, 101, 6, 256, 13, 97, 115, 99, 105, 105, 95, 105, 115, 99, 97, 115, 101, 100, 9, 18, 95, 115, 114, 101, 46, 97, 115, 99, 105, 105, 95, 105, 115, 99, 97, 115, 101, 100, 6, 257, 15, 117, 110, 105, 99, 111, 100, 101, 95, 105, 115, 99, 97, 115, 101, 100, 9, 20, 95, 115, 114, 101, 46, 117, 110, 105, 99, 111, 100, 101, 95, 105, 115, 99, 97, 115, 101, 100, 6, 258, 13, 97, 115, 99, 105, 105, 95, 116, 111, 108, 111, 119, 101, 114, 9, 18, 95, 115, 114, 101, 46, 97, 115, 99, 105, 105, 95, 116, 111, 108, 111, 119, 101, 114, 6, 259, 15, 117, 110, 105, 99, 111, 100, 101, 95, 116, 111, 108, 111, 119, 101, 114, 9, 20, 95, 115, 114, 101, 46, 117, 110, 105, 99, 111, 100, 101, 95, 116, 111, 108, 111, 119, 101, 114, 6, 261, 5, 77, 65, 71, 73, 67, 4, 260, 0, 20230612, 6, 263, 8, 67, 79, 68, 69, 83, 73, 90, 69, 4, 262, 0, 4, 6, 265, 9, 77, 65, 88, 82, 69, 80, 69, 65, 84, 4, 264, 0, 4294967295, 6, 267, 9, 77, 65, 88, 71, 82, 79, 85, 80, 83, 4, 266, 0, 1073741823, 6, 269, 9, 99, 111, 112, 121, 114, 105, 103, 104, 116, 6, 268, 53, 32, 83, 82, 69, 32, 50, 46, 50, 46, 50, 32, 67, 111, 112, 121, 114, 105, 103, 104, 116, 32, 40, 99, 41, 32, 49, 57, 57, 55, 45, 50, 48, 48, 50, 32, 98, 121, 32, 83, 101, 99, 114, 101, 116, 32, 76, 97, 98, 115, 32, 65, 66, 32]⟩ 0), (.bool true), (.bool false), (.str ⟨#[95, 115, 114, 101]⟩ 271)] 0), #[]⟩
noncomputable def o28_0 (_ : Params) : Obj := ⟨(.type "tuple"), none, (.seq #[] 0), #[]⟩
noncomputable def o29_0 (_ : Params) : Obj := ⟨.none, none, (.fields #[]), #[]⟩
noncomputable def o30_0 (_ : Params) : Obj := ⟨(.type "code"), none, (.fields #[(.str ⟨#[60, 109, 111, 100, 117, 108, 101, 62]⟩ 277), (.str ⟨#[60, 109, 111, 100, 117, 108, 101, 62]⟩ 278), (.str ⟨#[47, 99, 108, 97, 105, 109, 47, 99, 117, 116, 46, 112, 121]⟩ 279), (.int 1 0), (.int 0 0), (.int 0 0), (.int 0 0), (.int 0 0), (.ref 28), (.bool false), (.int 276 0), (.ref 29), .none, .none, .none, .none, (.int 280 0), (.int 1 0), (.str ⟨#[47, 99, 108, 97, 105, 109, 47, 99, 117, 116, 46, 112, 121]⟩ 281)]), #[]⟩
noncomputable def o31_0 (_ : Params) : Obj := ⟨(.type "frame"), none, .plain, #[(some (.ref 30)), (some (.ref 3)), (some (.ref 3)), none, (some (.str ⟨#[95, 95, 109, 97, 105, 110, 95, 95]⟩ 164)), none, (some (.ref 0))]⟩
noncomputable def o3_1 (P : Params) : Obj := ⟨(.type "dict"), none, (.dict #[⟨PyData.keyHash P ⟨#[95, 95, 110, 97, 109, 101, 95, 95]⟩, (.str ⟨#[95, 95, 110, 97, 109, 101, 95, 95]⟩ 165), (.str ⟨#[99, 112, 121, 51, 49, 51, 46, 100, 105, 115]⟩ 282)⟩, ⟨PyData.keyHash P ⟨#[95, 95, 100, 111, 99, 95, 95]⟩, (.str ⟨#[95, 95, 100, 111, 99, 95, 95]⟩ 166), .none⟩, ⟨PyData.keyHash P ⟨#[95, 95, 112, 97, 99, 107, 97, 103, 101, 95, 95]⟩, (.str ⟨#[95, 95, 112, 97, 99, 107, 97, 103, 101, 95, 95]⟩ 167), .none⟩, ⟨PyData.keyHash P ⟨#[95, 95, 108, 111, 97, 100, 101, 114, 95, 95]⟩, (.str ⟨#[95, 95, 108, 111, 97, 100, 101, 114, 95, 95]⟩ 168), (.builtin "__main__.__loader__#opaque")⟩, ⟨PyData.keyHash P ⟨#[95, 95, 115, 112, 101, 99, 95, 95]⟩, (.str ⟨#[95, 95, 115, 112, 101, 99, 95, 95]⟩ 169), .none⟩, ⟨PyData.keyHash P ⟨#[95, 95, 97, 110, 110, 111, 116, 97, 116, 105, 111, 110, 115, 95, 95]⟩, (.str ⟨#[95, 95, 97, 110, 110, 111, 116, 97, 116, 105, 111, 110, 115, 95, 95]⟩ 170), (.ref 6)⟩, ⟨PyData.keyHash P ⟨#[95, 95, 98, 117, 105, 108, 116, 105, 110, 115, 95, 95]⟩, (.str ⟨#[95, 95, 98, 117, 105, 108, 116, 105, 110, 115, 95, 95]⟩ 171), (.ref 4)⟩, ⟨PyData.keyHash P ⟨#[95, 95, 102, 105, 108, 101, 95, 95]⟩, (.str ⟨#[95, 95, 102, 105, 108, 101, 95, 95]⟩ 173), (.str ⟨#[47, 99, 108, 97, 105, 109, 47, 99, 117, 116, 46, 112, 121]⟩ 172)⟩, ⟨PyData.keyHash P ⟨#[95, 95, 99, 97, 99, 104, 101, 100, 95, 95]⟩, (.str ⟨#[95, 95, 99, 97, 99, 104, 101, 100, 95, 95]⟩ 174), .none⟩, ⟨PyData.keyHash P ⟨#[95, 115, 114, 101]⟩, (.str ⟨#[95, 115, 114, 101]⟩ 275), (.ref 12)⟩] 10), #[]⟩
noncomputable def o3_2 (P : Params) : Obj := ⟨(.type "dict"), none, (.dict #[⟨PyData.keyHash P ⟨#[95, 95, 110, 97, 109, 101, 95, 95]⟩, (.str ⟨#[95, 95, 110, 97, 109, 101, 95, 95]⟩ 165), (.str ⟨#[99, 112, 121, 51, 49, 51, 46, 100, 105, 115]⟩ 282)⟩, ⟨PyData.keyHash P ⟨#[95, 95, 100, 111, 99, 95, 95]⟩, (.str ⟨#[95, 95, 100, 111, 99, 95, 95]⟩ 166), .none⟩, ⟨PyData.keyHash P ⟨#[95, 95, 112, 97, 99, 107, 97, 103, 101, 95, 95]⟩, (.str ⟨#[95, 95, 112, 97, 99, 107, 97, 103, 101, 95, 95]⟩ 167), .none⟩, ⟨PyData.keyHash P ⟨#[95, 95, 108, 111, 97, 100, 101, 114, 95, 95]⟩, (.str ⟨#[95, 95, 108, 111, 97, 100, 101, 114, 95, 95]⟩ 168), (.builtin "__main__.__loader__#opaque")⟩, ⟨PyData.keyHash P ⟨#[95, 95, 115, 112, 101, 99, 95, 95]⟩, (.str ⟨#[95, 95, 115, 112, 101, 99, 95, 95]⟩ 169), .none⟩, ⟨PyData.keyHash P ⟨#[95, 95, 97, 110, 110, 111, 116, 97, 116, 105, 111, 110, 115, 95, 95]⟩, (.str ⟨#[95, 95, 97, 110, 110, 111, 116, 97, 116, 105, 111, 110, 115, 95, 95]⟩ 170), (.ref 6)⟩, ⟨PyData.keyHash P ⟨#[95, 95, 98, 117, 105, 108, 116, 105, 110, 115, 95, 95]⟩, (.str ⟨#[95, 95, 98, 117, 105, 108, 116, 105, 110, 115, 95, 95]⟩ 171), (.ref 4)⟩, ⟨PyData.keyHash P ⟨#[95, 95, 102, 105, 108, 101, 95, 95]⟩, (.str ⟨#[95, 95, 102, 105, 108, 101, 95, 95]⟩ 173), (.str ⟨#[47, 99, 108, 97, 105, 109, 47, 99, 117, 116, 46, 112, 121]⟩ 172)⟩, ⟨PyData.keyHash P ⟨#[95, 95, 99, 97, 99, 104, 101, 100, 95, 95]⟩, (.str ⟨#[95, 95, 99, 97, 99, 104, 101, 100, 95, 95]⟩ 174), .none⟩, ⟨PyData.keyHash P ⟨#[95, 115, 114, 101]⟩, (.str ⟨#[95, 115, 114, 101]⟩ 275), (.ref 12)⟩, ⟨PyData.keyHash P ⟨#[67, 79, 77, 80, 73, 76, 69, 82, 95, 70, 76, 65, 71, 95, 78, 65, 77, 69, 83]⟩, (.str ⟨#[67, 79, 77, 80, 73, 76, 69, 82, 95, 70, 76, 65, 71, 95, 78, 65, 77, 69, 83]⟩ 314), (.ref 32)⟩] 11), #[]⟩
noncomputable def o32_0 (_ : Params) : Obj := ⟨(.type "dict"), none, (.dict #[⟨1, (.int 1 284), (.str ⟨#[79, 80, 84, 73, 77, 73, 90, 69, 68]⟩ 285)⟩, ⟨2, (.int 2 286), (.str ⟨#[78, 69, 87, 76, 79, 67, 65, 76, 83]⟩ 287)⟩, ⟨4, (.int 4 288), (.str ⟨#[86, 65, 82, 65, 82, 71, 83]⟩ 289)⟩, ⟨8, (.int 8 290), (.str ⟨#[86, 65, 82, 75, 69, 89, 87, 79, 82, 68, 83]⟩ 291)⟩, ⟨16, (.int 16 292), (.str ⟨#[78, 69, 83, 84, 69, 68]⟩ 293)⟩, ⟨32, (.int 32 294), (.str ⟨#[71, 69, 78, 69, 82, 65, 84, 79, 82]⟩ 295)⟩, ⟨64, (.int 64 296), (.str ⟨#[78, 79, 70, 82, 69, 69]⟩ 297)⟩, ⟨128, (.int 128 298), (.str ⟨#[67, 79, 82, 79, 85, 84, 73, 78, 69]⟩ 299)⟩, ⟨256, (.int 256 300), (.str ⟨#[73, 84, 69, 82, 65, 66, 76, 69, 95, 67, 79, 82, 79, 85, 84, 73, 78, 69]⟩ 301)⟩, ⟨512, (.int 512 302), (.str ⟨#[65, 83, 89, 78, 67, 95, 71, 69, 78, 69, 82, 65, 84, 79, 82]⟩ 303)⟩] 10), #[]⟩
noncomputable def o3_3 (P : Params) : Obj := ⟨(.type "dict"), none, (.dict #[⟨PyData.keyHash P ⟨#[95, 95, 110, 97, 109, 101, 95, 95]⟩, (.str ⟨#[95, 95, 110, 97, 109, 101, 95, 95]⟩ 165), (.str ⟨#[99, 112, 121, 51, 49, 51, 46, 115, 116, 114, 105, 110, 103, 112, 114, 101, 112]⟩ 427)⟩, ⟨PyData.keyHash P ⟨#[95, 95, 100, 111, 99, 95, 95]⟩, (.str ⟨#[95, 95, 100, 111, 99, 95, 95]⟩ 166), .none⟩, ⟨PyData.keyHash P ⟨#[95, 95, 112, 97, 99, 107, 97, 103, 101, 95, 95]⟩, (.str ⟨#[95, 95, 112, 97, 99, 107, 97, 103, 101, 95, 95]⟩ 167), .none⟩, ⟨PyData.keyHash P ⟨#[95, 95, 108, 111, 97, 100, 101, 114, 95, 95]⟩, (.str ⟨#[95, 95, 108, 111, 97, 100, 101, 114, 95, 95]⟩ 168), (.builtin "__main__.__loader__#opaque")⟩, ⟨PyData.keyHash P ⟨#[95, 95, 115, 112, 101, 99, 95, 95]⟩, (.str ⟨#[95, 95, 115, 112, 101, 99, 95, 95]⟩ 169), .none⟩, ⟨PyData.keyHash P ⟨#[95, 95, 97, 110, 110, 111, 116, 97, 116, 105, 111, 110, 115, 95, 95]⟩, (.str ⟨#[95, 95, 97, 110, 110, 111, 116, 97, 116, 105, 111, 110, 115, 95, 95]⟩ 170), (.ref 6)⟩, ⟨PyData.keyHash P ⟨#[95, 95, 98, 117, 105, 108, 116, 105, 110, 115, 95, 95]⟩, (.str ⟨#[95, 95, 98, 117, 105, 108, 116, 105, 110, 115, 95, 95]⟩ 171), (.ref 4)⟩, ⟨PyData.keyHash P ⟨#[95, 95, 102, 105, 108, 101, 95, 95]⟩, (.str ⟨#[95, 95, 102, 105, 108, 101, 95, 95]⟩ 173), (.str ⟨#[47, 99, 108, 97, 105, 109, 47, 99, 117, 116, 46, 112, 121]⟩ 172)⟩, ⟨PyData.keyHash P ⟨#[95, 95, 99, 97, 99, 104, 101, 100, 95, 95]⟩, (.str ⟨#[95, 95, 99, 97, 99, 104, 101, 100, 95, 95]⟩ 174), .none⟩, ⟨PyData.keyHash P ⟨#[95, 115, 114, 101]⟩, (.str ⟨#[95, 115, 114, 101]⟩ 275), (.ref 12)⟩, ⟨PyData.keyHash P ⟨#[67, 79, 77, 80, 73, 76, 69, 82, 95, 70, 76, 65, 71, 95, 78, 65, 77, 69, 83]⟩, (.str ⟨#[67, 79, 77, 80, 73, 76, 69, 82, 95, 70, 76, 65, 71, 95, 78, 65, 77, 69, 83]⟩ 314), (.ref 32)⟩, ⟨PyData.keyHash P ⟨#[112, 114, 101, 116, 116, 121, 95, 102, 108, 97, 103, 115]⟩, (.str ⟨#[112, 114, 101, 116, 116, 121, 95, 102, 108, 97, 103, 115]⟩ 324), (.ref 39)⟩, ⟨PyData.keyHash P ⟨#[95, 112, 97, 114, 115, 101, 95, 118, 97, 114, 105, 110, 116]⟩, (.str ⟨#[95, 112, 97, 114, 115, 101, 95, 118, 97, 114, 105, 110, 116]⟩ 333), (.ref 46)⟩, ⟨PyData.keyHash P ⟨#[95, 105, 116, 101, 114, 95, 101, 115, 99, 97, 112, 101, 100, 95, 99, 104, 97, 114, 115]⟩, (.str ⟨#[95, 105, 116, 101, 114, 95, 101, 115, 99, 97, 112, 101, 100, 95, 99, 104, 97, 114, 115]⟩ 345), (.ref 53)⟩, ⟨PyData.keyHash P ⟨#[95, 115, 116, 114, 105, 112, 95, 113, 117, 111, 116, 101, 100, 95, 114, 101, 97, 108, 110, 97, 109, 101, 115]⟩, (.str ⟨#[95, 115, 116, 114, 105, 112, 95, 113, 117, 111, 116, 101, 100, 95, 114, 101, 97, 108, 110, 97, 109, 101, 115]⟩ 357), (.ref 60)⟩, ⟨PyData.keyHash P ⟨#[95, 116, 119, 105, 110, 95, 114, 101, 95, 49]⟩, (.str ⟨#[95, 116, 119, 105, 110, 95, 114, 101, 95, 49]⟩ 375), (.ref 65)⟩, ⟨PyData.keyHash P ⟨#[95, 116, 119, 105, 110, 95, 114, 101, 95, 50]⟩, (.str ⟨#[95, 116, 119, 105, 110, 95, 114, 101, 95, 50]⟩ 417), (.ref 70)⟩, ⟨PyData.keyHash P ⟨#[67, 82, 76, 70]⟩, (.str ⟨#[67, 82, 76, 70]⟩ 419), (.str ⟨#[13, 10]⟩ 418)⟩, ⟨PyData.keyHash P ⟨#[113, 117, 111, 116, 101, 100, 97, 116, 97]⟩, (.str ⟨#[113, 117, 111, 116, 101, 100, 97, 116, 97]⟩ 426), (.ref 77)⟩] 19), #[]⟩
noncomputable def o29_1 (_ : Params) : Obj := ⟨.none, none, (.fields #[(.int 4 0), (.int 0 0), (.ref 38), (.int 16 0), (.int 0 0), (.ref 45), (.int 25 0), (.int 0 0), (.ref 52), (.int 38 0), (.int 0 0), (.ref 59), (.int 60 0), (.int 0 0), (.ref 76)]), #[]⟩
noncomputable def o33_0 (_ : Params) : Obj := ⟨(.type "tuple"), none, (.seq #[] 0), #[]⟩
noncomputable def o34_0 (_ : Params) : Obj := ⟨.none, none, (.fields #[]), #[]⟩
noncomputable def o35_0 (_ : Params) : Obj := ⟨(.type "tuple"), none, (.seq #[(.str ⟨#[102, 108, 97, 103, 115]⟩ 318), (.str ⟨#[110, 97, 109, 101, 115]⟩ 319), (.str ⟨#[105]⟩ 320), (.str ⟨#[102, 108, 97, 103]⟩ 321)] 0), #[]⟩
noncomputable def o36_0 (_ : Params) : Obj := ⟨(.type "tuple"), none, (.seq #[] 0), #[]⟩
noncomputable def o37_0 (_ : Params) : Obj := ⟨.none, none, (.func { name := ⟨#[112, 114, 101, 116, 116, 121, 95, 102, 108, 97, 103, 115]⟩, qualname := ⟨#[112, 114, 101, 116, 116, 121, 95, 102, 108, 97, 103, 115]⟩, params := (fnp 3).1, body := (fnp 3).2.1, scope := (fnp 3).2.2, globals := 0, closure := [], defaults := .none, kwdefaults := .none, doc := .none, pyModule := .none, annotations := none, code := .none, closureTuple := .none, builtins := 0 }), #[]⟩
noncomputable def o38_0 (_ : Params) : Obj := ⟨(.type "code"), none, (.fields #[(.str ⟨#[112, 114, 101, 116, 116, 121, 95, 102, 108, 97, 103, 115]⟩ 315), (.str ⟨#[112, 114, 101, 116, 116, 121, 95, 102, 108, 97, 103, 115]⟩ 316), (.str ⟨#[47, 99, 108, 97, 105, 109, 47, 99, 117, 116, 46, 112, 121]⟩ 317), (.int 4 0), (.int 1 0), (.int 0 0), (.int 0 0), (.int 3 0), (.ref 33), (.bool true), (.int 276 0), (.ref 34), .none, (.ref 35), (.ref 36), (.ref 37), (.int 322 0), (.int 4 0), (.str ⟨#[47, 99, 108, 97, 105, 109, 47, 99, 117, 116, 46, 112, 121]⟩ 323)]), #[]⟩
noncomputable def o39_0 (_ : Params) : Obj := ⟨(.type "function"), none, (.func { name := ⟨#[112, 114, 101, 116, 116, 121, 95, 102, 108, 97, 103, 115]⟩, qualname := ⟨#[112, 114, 101, 116, 116, 121, 95, 102, 108, 97, 103, 115]⟩, params := (fnp 3).1, body := (fnp 3).2.1, scope := (fnp 3).2.2, globals := 3, closure := [], defaults := .none, kwdefaults := .none, doc := .none, pyModule := (.str ⟨#[99, 112, 121, 51, 49, 51, 46, 100, 105, 115]⟩ 282), annotations := none, code := (.ref 38), closureTuple := .none, builtins := 0 }), #[]⟩
noncomputable def o40_0 (_ : Params) : Obj := ⟨(.type "tuple"), none, (.seq #[] 0), #[]⟩
noncomputable def o41_0 (_ : Params) : Obj := ⟨.none, none, (.fields #[]), #[]⟩
noncomputable def o42_0 (_ : Params) : Obj := ⟨(.type "tuple"), none, (.seq #[(.str ⟨#[105, 116, 101, 114, 97, 116, 111, 114]⟩ 328), (.str ⟨#[98]⟩ 329), (.str ⟨#[118, 97, 108]⟩ 330)] 0), #[]⟩
noncomputable def o43_0 (_ : Params) : Obj := ⟨(.type "tuple"), none, (.seq #[] 0), #[]⟩
noncomputable def o44_0 (_ : Params) : Obj := ⟨.none, none, (.func { name := ⟨#[95, 112, 97, 114, 115, 101, 95, 118, 97, 114, 105, 110, 116]⟩, qualname := ⟨#[95, 112, 97, 114, 115, 101, 95, 118, 97, 114, 105, 110, 116]⟩, params := (fnp 4).1, body := (fnp 4).2.1, scope := (fnp 4).2.2, globals := 0, closure := [], defaults := .none, kwdefaults := .none, doc := .none, pyModule := .none, annotations := none, code := .none, closureTuple := .none, builtins := 0 }), #[]⟩
noncomputable def o45_0 (_ : Params) : Obj := ⟨(.type "code"), none, (.fields #[(.str ⟨#[95, 112, 97, 114, 115, 101, 95, 118, 97, 114, 105, 110, 116]⟩ 325), (.str ⟨#[95, 112, 97, 114, 115, 101, 95, 118, 97, 114, 105, 110, 116]⟩ 326), (.str ⟨#[47, 99, 108, 97, 105, 109, 47, 99, 117, 116, 46, 112, 121]⟩ 327), (.int 16 0), (.int 1 0), (.int 0 0), (.int 0 0), (.int 3 0), (.ref 40), (.bool true), (.int 276 0), (.ref 41), .none, (.ref 42), (.ref 43), (.ref 44), (.int 331 0), (.int 16 0), (.str ⟨#[47, 99, 108, 97, 105, 109, 47, 99, 117, 116, 46, 112, 121]⟩ 332)]), #[]⟩
noncomputable def o46_0 (_ : Params) : Obj := ⟨(.type "function"), none, (.func { name := ⟨#[95, 112, 97, 114, 115, 101, 95, 118, 97, 114, 105, 110, 116]⟩, qualname := ⟨#[95, 112, 97, 114, 115, 101, 95, 118, 97, 114, 105, 110, 116]⟩, params := (fnp 4).1, body := (fnp 4).2.1, scope := (fnp 4).2.2, globals := 3, closure := [], defaults := .none, kwdefaults := .none, doc := .none, pyModule := (.str ⟨#[99, 112, 121, 51, 49, 51, 46, 100, 105, 115]⟩ 282), annotations := none, code := (.ref 45), closureTuple := .none, builtins := 0 }), #[]⟩
noncomputable def o47_0 (_ : Params) : Obj := ⟨(.type "tuple"), none, (.seq #[] 0), #[]⟩
noncomputable def o48_0 (_ : Params) : Obj := ⟨.none, none, (.fields #[]), #[]⟩
noncomputable def o49_0 (_ : Params) : Obj := ⟨(.type "tuple"), none, (.seq #[(.str ⟨#[97, 100, 100, 114]⟩ 339), (.str ⟨#[112, 111, 115]⟩ 340), (.str ⟨#[101, 115, 99, 97, 112, 101]⟩ 341), (.str ⟨#[99, 104]⟩ 342)] 0), #[]⟩
noncomputable def o50_0 (_ : Params) : Obj := ⟨(.type "tuple"), none, (.seq #[] 0), #[]⟩
noncomputable def o51_0 (_ : Params) : Obj := ⟨.none, none, (.func { name := ⟨#[95, 105, 116, 101, 114, 95, 101, 115, 99, 97, 112, 101, 100, 95, 99, 104, 97, 114, 115]⟩, qualname := ⟨#[95, 105, 116, 101, 114, 95, 101, 115, 99, 97, 112, 101, 100, 95, 99, 104, 97, 114, 115]⟩, params := (fnp 6).1, body := (fnp 6).2.1, scope := (fnp 6).2.2, globals := 0, closure := [], defaults := .none, kwdefaults := .none, doc := .none, pyModule := .none, annotations := none, code := .none, closureTuple := .none, builtins := 0 }), #[]⟩
noncomputable def o52_0 (_ : Params) : Obj := ⟨(.type "code"), none, (.fields #[(.str ⟨#[95, 105, 116, 101, 114, 95, 101, 115, 99, 97, 112, 101, 100, 95, 99, 104, 97, 114, 115]⟩ 336), (.str ⟨#[95, 105, 116, 101, 114, 95, 101, 115, 99, 97, 112, 101, 100, 95, 99, 104, 97, 114, 115]⟩ 337), (.str ⟨#[47, 99, 108, 97, 105, 109, 47, 99, 117, 116, 46, 112, 121]⟩ 338), (.int 25 0), (.int 1 0), (.int 0 0), (.int 0 0), (.int 35 0), (.ref 47), (.bool true), (.int 276 0), (.ref 48), .none, (.ref 49), (.ref 50), (.ref 51), (.int 343 0), (.int 25 0), (.str ⟨#[47, 99, 108, 97, 105, 109, 47, 99, 117, 116, 46, 112, 121]⟩ 344)]), #[]⟩
noncomputable def o53_0 (_ : Params) : Obj := ⟨(.type "function"), none, (.func { name := ⟨#[95, 105, 116, 101, 114, 95, 101, 115, 99, 97, 112, 101, 100, 95, 99, 104, 97, 114, 115]⟩, qualname := ⟨#[95, 105, 116, 101, 114, 95, 101, 115, 99, 97, 112, 101, 100, 95, 99, 104, 97, 114, 115]⟩, params := (fnp 6).1, body := (fnp 6).2.1, scope := (fnp 6).2.2, globals := 3, closure := [], defaults := .none, kwdefaults := .none, doc := .none, pyModule := (.str ⟨#[99, 112, 121, 51, 49, 51, 46, 101, 109, 97, 105, 108, 46, 117, 116, 105, 108, 115]⟩ 334), annotations := none, code := (.ref 52), closureTuple := .none, builtins := 0 }), #[]⟩
noncomputable def o54_0 (_ : Params) : Obj := ⟨(.type "tuple"), none, (.seq #[] 0), #[]⟩
noncomputable def o55_0 (_ : Params) : Obj := ⟨.none, none, (.fields #[]), #[]⟩
noncomputable def o56_0 (_ : Params) : Obj := ⟨(.type "tuple"), none, (.seq #[(.str ⟨#[97, 100, 100, 114]⟩ 349), (.str ⟨#[115, 116, 97, 114, 116]⟩ 350), (.str ⟨#[111, 112, 101, 110, 95, 112, 111, 115]⟩ 351), (.str ⟨#[114, 101, 115, 117, 108, 116]⟩ 352), (.str ⟨#[112, 111, 115]⟩ 353), (.str ⟨#[99, 104]⟩ 354)] 0), #[]⟩
noncomputable def o57_0 (_ : Params) : Obj := ⟨(.type "tuple"), none, (.seq #[] 0), #[]⟩
noncomputable def o58_0 (_ : Params) : Obj := ⟨.none, none, (.func { name := ⟨#[95, 115, 116, 114, 105, 112, 95, 113, 117, 111, 116, 101, 100, 95, 114, 101, 97, 108, 110, 97, 109, 101, 115]⟩, qualname := ⟨#[95, 115, 116, 114, 105, 112, 95, 113, 117, 111, 116, 101, 100, 95, 114, 101, 97, 108, 110, 97, 109, 101, 115]⟩, params := (fnp 7).1, body := (fnp 7).2.1, scope := (fnp 7).2.2, globals := 0, closure := [], defaults := .none, kwdefaults := .none, doc := .none, pyModule := .none, annotations := none, code := .none, closureTuple := .none, builtins := 0 }), #[]⟩
noncomputable def o59_0 (_ : Params) : Obj := ⟨(.type "code"), none, (.fields #[(.str ⟨#[95, 115, 116, 114, 105, 112, 95, 113, 117, 111, 116, 101, 100, 95, 114, 101, 97, 108, 110, 97, 109, 101, 115]⟩ 346), (.str ⟨#[95, 115, 116, 114, 105, 112, 95, 113, 117, 111, 116, 101, 100, 95, 114, 101, 97, 108, 110, 97, 109, 101, 115]⟩ 347), (.str ⟨#[47, 99, 108, 97, 105, 109, 47, 99, 117, 116, 46, 112, 121]⟩ 348), (.int 38 0), (.int 1 0), (.int 0 0), (.int 0 0), (.int 3 0), (.ref 54), (.bool true), (.int 276 0), (.ref 55), .none, (.ref 56), (.ref 57), (.ref 58), (.int 355 0), (.int 38 0), (.str ⟨#[47, 99, 108, 97, 105, 109, 47, 99, 117, 116, 46, 112, 121]⟩ 356)]), #[]⟩
noncomputable def o60_0 (_ : Params) : Obj := ⟨(.type "function"), none, (.func { name := ⟨#[95, 115, 116, 114, 105, 112, 95, 113, 117, 111, 116, 101, 100, 95, 114, 101, 97, 108, 110, 97, 109, 101, 115]⟩, qualname := ⟨#[95, 115, 116, 114, 105, 112, 95, 113, 117, 111, 116, 101, 100, 95, 114, 101, 97, 108, 110, 97, 109, 101, 115]⟩, params := (fnp 7).1, body := (fnp 7).2.1, scope := (fnp 7).2.2, globals := 3, closure := [], defaults := .none, kwdefaults := .none, doc := .none, pyModule := (.str ⟨#[99, 112, 121, 51, 49, 51, 46, 101, 109, 97, 105, 108, 46, 117, 116, 105, 108, 115]⟩ 334), annotations := none, code := (.ref 59), closureTuple := .none, builtins := 0 }), #[]⟩
noncomputable def o61_0 (_ : Params) : Obj := ⟨(.type "list"), none, (.seq #[(.int 14 363), (.int 4 364), (.int 0 365), (.int 1 366), (.int 1 367), (.int 6 368), (.int 1 369), (.int 16 370), (.int 46 371), (.int 1 372)] 0), #[]⟩
noncomputable def o62_0 (_ : Params) : Obj := ⟨(.type "dict"), none, (.dict #[] 0), #[]⟩
noncomputable def o63_0 (_ : Params) : Obj := ⟨(.type "tuple"), none, (.seq #[.none] 0), #[]⟩
noncomputable def o64_0 (_ : Params) : Obj := ⟨(.type "tuple"), none, (.seq #[(.int 14 0), (.int 4 0), (.int 0 0), (.int 1 0), (.int 1 0), (.int 6 0), (.int 1 0), (.int 16 0), (.int 46 0), (.int 1 0)] 0), #[]⟩
noncomputable def o65_0 (_ : Params) : Obj := ⟨(.type "re.Pattern"), none, (.fields #[(.str ⟨#[40, 63, 109, 41, 94, 92, 46]⟩ 361), (.int 40 374), (.int 0 0), .none, .none, (.ref 64), (.int 0 0)]), #[]⟩
noncomputable def o66_0 (_ : Params) : Obj := ⟨(.type "list"), none, (.seq #[(.int 14 379), (.int 9 380), (.int 4 381), (.int 1 382), (.int 2 383), (.int 16 384), (.int 10 385), (.int 16 386), (.int 13 387), (.int 0 388), (.int 7 389), (.int 7 390), (.int 16 391), (.int 13 392), (.int 16 393), (.int 10 394), (.int 15 395), (.int 18 396), (.int 5 397), (.int 16 398), (.int 10 399), (.int 15 400), (.int 13 401), (.int 11 402), (.int 16 403), (.int 13 404), (.int 5 405), (.int 5 406), (.int 0 407), (.int 16 408), (.int 10 409), (.int 1 410), (.int 15 411), (.int 2 412), (.int 0 413), (.int 1 414)] 0), #[]⟩
noncomputable def o67_0 (_ : Params) : Obj := ⟨(.type "dict"), none, (.dict #[] 0), #[]⟩
noncomputable def o68_0 (_ : Params) : Obj := ⟨(.type "tuple"), none, (.seq #[.none] 0), #[]⟩
noncomputable def o69_0 (_ : Params) : Obj := ⟨(.type "tuple"), none, (.seq #[(.int 14 0), (.int 9 0), (.int 4 0), (.int 1 0), (.int 2 0), (.int 16 0), (.int 10 0), (.int 16 0), (.int 13 0), (.int 0 0), (.int 7 0), (.int 7 0), (.int 16 0), (.int 13 0), (.int 16 0), (.int 10 0), (.int 15 0), (.int 18 0), (.int 5 0), (.int 16 0), (.int 10 0), (.int 15 0), (.int 13 0), (.int 11 0), (.int 16 0), (.int 13 0), (.int 5 0), (.int 5 0), (.int 0 0), (.int 16 0), (.int 10 0), (.int 1 0), (.int 15 0), (.int 2 0), (.int 0 0), (.int 1 0)] 0), #[]⟩
noncomputable def o70_0 (_ : Params) : Obj := ⟨(.type "re.Pattern"), none, (.fields #[(.str ⟨#[40, 63, 58, 92, 114, 92, 110, 124, 92, 110, 124, 92, 114, 40, 63, 33, 92, 110, 41, 41]⟩ 377), (.int 32 416), (.int 0 0), .none, .none, (.ref 69), (.int 0 0)]), #[]⟩
noncomputable def o71_0 (_ : Params) : Obj := ⟨(.type "tuple"), none, (.seq #[] 0), #[]⟩
noncomputable def o72_0 (_ : Params) : Obj := ⟨.none, none, (.fields #[]), #[]⟩
noncomputable def o73_0 (_ : Params) : Obj := ⟨(.type "tuple"), none, (.seq #[(.str ⟨#[100, 97, 116, 97]⟩ 423)] 0), #[]⟩
noncomputable def o74_0 (_ : Params) : Obj := ⟨(.type "tuple"), none, (.seq #[] 0), #[]⟩
noncomputable def o75_0 (_ : Params) : Obj := ⟨.none, none, (.func { name := ⟨#[113, 117, 111, 116, 101, 100, 97, 116, 97]⟩, qualname := ⟨#[113, 117, 111, 116, 101, 100, 97, 116, 97]⟩, params := (fnp 12).1, body := (fnp 12).2.1, scope := (fnp 12).2.2, globals := 0, closure := [], defaults := .none, kwdefaults := .none, doc := .none, pyModule := .none, annotations := none, code := .none, closureTuple := .none, builtins := 0 }), #[]⟩
noncomputable def o76_0 (_ : Params) : Obj := ⟨(.type "code"), none, (.fields #[(.str ⟨#[113, 117, 111, 116, 101, 100, 97, 116, 97]⟩ 420), (.str ⟨#[113, 117, 111, 116, 101, 100, 97, 116, 97]⟩ 421), (.str ⟨#[47, 99, 108, 97, 105, 109, 47, 99, 117, 116, 46, 112, 121]⟩ 422), (.int 60 0), (.int 1 0), (.int 0 0), (.int 0 0), (.int 3 0), (.ref 71), (.bool true), (.int 276 0), (.ref 72), .none, (.ref 73), (.ref 74), (.ref 75), (.int 424 0), (.int 60 0), (.str ⟨#[47, 99, 108, 97, 105, 109, 47, 99, 117, 116, 46, 112, 121]⟩ 425)]), #[]⟩
noncomputable def o77_0 (_ : Params) : Obj := ⟨(.type "function"), none, (.func { name := ⟨#[113, 117, 111, 116, 101, 100, 97, 116, 97]⟩, qualname := ⟨#[113, 117, 111, 116, 101, 100, 97, 116, 97]⟩, params := (fnp 12).1, body := (fnp 12).2.1, scope := (fnp 12).2.2, globals := 3, closure := [], defaults := .none, kwdefaults := .none, doc := .none, pyModule := (.str ⟨#[99, 112, 121, 51, 49, 51, 46, 115, 109, 116, 112, 108, 105, 98]⟩ 358), annotations := none, code := (.ref 76), closureTuple := .none, builtins := 0 }), #[]⟩
noncomputable def o3_4 (P : Params) : Obj := ⟨(.type "dict"), none, (.dict #[⟨PyData.keyHash P ⟨#[95, 95, 110, 97, 109, 101, 95, 95]⟩, (.str ⟨#[95, 95, 110, 97, 109, 101, 95, 95]⟩ 165), (.str ⟨#[99, 112, 121, 51, 49, 51, 46, 115, 116, 114, 105, 110, 103, 112, 114, 101, 112]⟩ 427)⟩, ⟨PyData.keyHash P ⟨#[95, 95, 100, 111, 99, 95, 95]⟩, (.str ⟨#[95, 95, 100, 111, 99, 95, 95]⟩ 166), .none⟩, ⟨PyData.keyHash P ⟨#[95, 95, 112, 97, 99, 107, 97, 103, 101, 95, 95]⟩, (.str ⟨#[95, 95, 112, 97, 99, 107, 97, 103, 101, 95, 95]⟩ 167), .none⟩, ⟨PyData.keyHash P ⟨#[95, 95, 108, 111, 97, 100, 101, 114, 95, 95]⟩, (.str ⟨#[95, 95, 108, 111, 97, 100, 101, 114, 95, 95]⟩ 168), (.builtin "__main__.__loader__#opaque")⟩, ⟨PyData.keyHash P ⟨#[95, 95, 115, 112, 101, 99, 95, 95]⟩, (.str ⟨#[95, 95, 115, 112, 101, 99, 95, 95]⟩ 169), .none⟩, ⟨PyData.keyHash P ⟨#[95, 95, 97, 110, 110, 111, 116, 97, 116, 105, 111, 110, 115, 95, 95]⟩, (.str ⟨#[95, 95, 97, 110, 110, 111, 116, 97, 116, 105, 111, 110, 115, 95, 95]⟩ 170), (.ref 6)⟩, ⟨PyData.keyHash P ⟨#[95, 95, 98, 117, 105, 108, 116, 105, 110, 115, 95, 95]⟩, (.str ⟨#[95, 95, 98, 117, 105, 108, 116, 105, 110, 115, 95, 95]⟩ 171), (.ref 4)⟩, ⟨PyData.keyHash P ⟨#[95, 95, 102, 105, 108, 101, 95, 95]⟩, (.str ⟨#[95, 95, 102, 105, 108, 101, 95, 95]⟩ 173), (.str ⟨#[47, 99, 108, 97, 105, 109, 47, 99, 117, 116, 46, 112, 121]⟩ 172)⟩, ⟨PyData.keyHash P ⟨#[95, 95, 99, 97, 99, 104, 101, 100, 95, 95]⟩, (.str ⟨#[95, 95, 99, 97, 99, 104, 101, 100, 95, 95]⟩ 174), .none⟩, ⟨PyData.keyHash P ⟨#[95, 115, 114, 101]⟩, (.str ⟨#[95, 115, 114, 101]⟩ 275), (.ref 12)⟩, ⟨PyData.keyHash P ⟨#[67, 79, 77, 80, 73, 76, 69, 82, 95, 70, 76, 65, 71, 95, 78, 65, 77, 69, 83]⟩, (.str ⟨#[67, 79, 77, 80, 73, 76, 69, 82, 95, 70, 76, 65, 71, 95, 78, 65, 77, 69, 83]⟩ 314), (.ref 32)⟩, ⟨PyData.keyHash P ⟨#[112, 114, 101, 116, 116, 121, 95, 102, 108, 97, 103, 115]⟩, (.str ⟨#[112, 114, 101, 116, 116, 121, 95, 102, 108, 97, 103, 115]⟩ 324), (.ref 39)⟩, ⟨PyData.keyHash P ⟨#[95, 112, 97, 114, 115, 101, 95, 118, 97, 114, 105, 110, 116]⟩, (.str ⟨#[95, 112, 97, 114, 115, 101, 95, 118, 97, 114, 105, 110, 116]⟩ 333), (.ref 46)⟩, ⟨PyData.keyHash P ⟨#[95, 105, 116, 101, 114, 95, 101, 115, 99, 97, 112, 101, 100, 95, 99, 104, 97, 114, 115]⟩, (.str ⟨#[95, 105, 116, 101, 114, 95, 101, 115, 99, 97, 112, 101, 100, 95, 99, 104, 97, 114, 115]⟩ 345), (.ref 53)⟩, ⟨PyData.keyHash P ⟨#[95, 115, 116, 114, 105, 112, 95, 113, 117, 111, 116, 101, 100, 95, 114, 101, 97, 108, 110, 97, 109, 101, 115]⟩, (.str ⟨#[95, 115, 116, 114, 105, 112, 95, 113, 117, 111, 116, 101, 100, 95, 114, 101, 97, 108, 110, 97, 109, 101, 115]⟩ 357), (.ref 60)⟩, ⟨PyData.keyHash P ⟨#[95, 116, 119, 105, 110, 95, 114, 101, 95, 49]⟩, (.str ⟨#[95, 116, 119, 105, 110, 95, 114, 101, 95, 49]⟩ 375), (.ref 65)⟩, ⟨PyData.keyHash P ⟨#[95, 116, 119, 105, 110, 95, 114, 101, 95, 50]⟩, (.str ⟨#[95, 116, 119, 105, 110, 95, 114, 101, 95, 50]⟩ 417), (.ref 70)⟩, ⟨PyData.keyHash P ⟨#[67, 82, 76, 70]⟩, (.str ⟨#[67, 82, 76, 70]⟩ 419), (.str ⟨#[13, 10]⟩ 418)⟩, ⟨PyData.keyHash P ⟨#[113, 117, 111, 116, 101, 100, 97, 116, 97]⟩, (.str ⟨#[113, 117, 111, 116, 101, 100, 97, 116, 97]⟩ 426), (.ref 77)⟩, ⟨PyData.keyHash P ⟨#[98, 49, 95, 115, 101, 116]⟩, (.str ⟨#[98, 49, 95, 115, 101, 116]⟩ 488), (.ref 85)⟩] 20), #[]⟩
noncomputable def o78_0 (_ : Params) : Obj := ⟨(.type "list"), none, (.seq #[(.int 173 429), (.int 847 430), (.int 6150 431), (.int 6155 432), (.int 6156 433), (.int 6157 434), (.int 8203 435), (.int 8204 436), (.int 8205 437), (.int 8288 438), (.int 65279 439)] 0), #[]⟩
noncomputable def o79_0 (_ : Params) : Obj := ⟨(.type "range"), none, (.fields #[(.int 65024 440), (.int 65040 441), (.int 1 442)]), #[]⟩
noncomputable def o80_0 (_ : Params) : Obj := ⟨(.type "list"), none, (.seq #[(.int 65024 445), (.int 65025 446), (.int 65026 447), (.int 65027 448), (.int 65028 449), (.int 65029 450), (.int 65030 451), (.int 65031 452), (.int 65032 453), (.int 65033 454), (.int 65034 455), (.int 65035 456), (.int 65036 457), (.int 65037 458), (.int 65038 459), (.int 65039 460)] 18), #[]⟩
noncomputable def o81_0 (_ : Params) : Obj := ⟨(.type "range_iterator"), none, (.fields #[(.int 65040 0), (.int 0 0), (.int 1 0)]), #[]⟩
noncomputable def o82_0 (_ : Params) : Obj := ⟨(.type "tuple"), none, (.seq #[] 0), #[]⟩
noncomputable def o83_0 (_ : Params) : Obj := ⟨(.type "StopIteration"), none, (.fields #[(.ref 82), .none, .none, .none, (.bool false), .none]), #[]⟩
noncomputable def o84_0 (_ : Params) : Obj := ⟨(.type "list"), none, (.seq #[(.int 173 429), (.int 847 430), (.int 6150 431), (.int 6155 432), (.int 6156 433), (.int 6157 434), (.int 8203 435), (.int 8204 436), (.int 8205 437), (.int 8288 438), (.int 65279 439), (.int 65024 445), (.int 65025 446), (.int 65026 447), (.int 65027 448), (.int 65028 449), (.int 65029 450), (.int 65030 451), (.int 65031 452), (.int 65032 453), (.int 65033 454), (.int 65034 455), (.int 65035 456), (.int 65036 457), (.int 65037 458), (.int 65038 459), (.int 65039 460)] 0), #[]⟩
noncomputable def o85_0 (P : Params) : Obj := ⟨(.type "set"), none, (.set #[(65024, (.int 65024 445)), (65025, (.int 65025 446)), (65026, (.int 65026 447)), (65027, (.int 65027 448)), (65028, (.int 65028 449)), (65029, (.int 65029 450)), (6150, (.int 6150 431)), (65030, (.int 65030 451)), (65031, (.int 65031 452)), (65032, (.int 65032 453)), (65033, (.int 65033 454)), (6155, (.int 6155 432)), (6156, (.int 6156 433)), (6157, (.int 6157 434)), (8203, (.int 8203 435)), (8204, (.int 8204 436)), (8205, (.int 8205 437)), (65034, (.int 65034 455)), (65035, (.int 65035 456)), (65036, (.int 65036 457)), (65037, (.int 65037 458)), (65038, (.int 65038 459)), (65039, (.int 65039 460)), (173, (.int 173 429)), (847, (.int 847 430)), (8288, (.int 8288 438)), (65279, (.int 65279 439))] 29 ⟨127, #[0, 1, 2, 3, 4, 5, 6, 7, 8, 9, 10, 11, 12, 13, 14, 15, 16, 17, 18, 19, 20, 21, 22, 45, 79, 96, 127], #[], 0, !P.followText "set-order", 2, true⟩), #[]⟩
noncomputable def o86_0 (_ : Params) : Obj := ⟨(.type "list_iterator"), none, (.fields #[.none, (.int 27 0)]), #[]⟩
noncomputable def o87_0 (_ : Params) : Obj := ⟨(.type "tuple"), none, (.seq #[] 0), #[]⟩
noncomputable def o88_0 (_ : Params) : Obj := ⟨(.type "StopIteration"), none, (.fields #[(.ref 87), .none, .none, .none, (.bool false), .none]), #[]⟩
noncomputable def o3_5 (P : Params) : Obj := ⟨(.type "dict"), none, (.dict #[⟨PyData.keyHash P ⟨#[95, 95, 110, 97, 109, 101, 95, 95]⟩, (.str ⟨#[95, 95, 110, 97, 109, 101, 95, 95]⟩ 165), (.str ⟨#[99, 112, 121, 51, 49, 51, 46, 115, 116, 114, 105, 110, 103, 112, 114, 101, 112]⟩ 427)⟩, ⟨PyData.keyHash P ⟨#[95, 95, 100, 111, 99, 95, 95]⟩, (.str ⟨#[95, 95, 100, 111, 99, 95, 95]⟩ 166), .none⟩, ⟨PyData.keyHash P ⟨#[95, 95, 112, 97, 99, 107, 97, 103, 101, 95, 95]⟩, (.str ⟨#[95, 95, 112, 97, 99, 107, 97, 103, 101, 95, 95]⟩ 167), .none⟩, ⟨PyData.keyHash P ⟨#[95, 95, 108, 111, 97, 100, 101, 114, 95, 95]⟩, (.str ⟨#[95, 95, 108, 111, 97, 100, 101, 114, 95, 95]⟩ 168), (.builtin "__main__.__loader__#opaque")⟩, ⟨PyData.keyHash P ⟨#[95, 95, 115, 112, 101, 99, 95, 95]⟩, (.str ⟨#[95, 95, 115, 112, 101, 99, 95, 95]⟩ 169), .none⟩, ⟨PyData.keyHash P ⟨#[95, 95, 97, 110, 110, 111, 116, 97, 116, 105, 111, 110, 115, 95, 95]⟩, (.str ⟨#[95, 95, 97, 110, 110, 111, 116, 97, 116, 105, 111, 110, 115, 95, 95]⟩ 170), (.ref 6)⟩, ⟨PyData.keyHash P ⟨#[95, 95, 98, 117, 105, 108, 116, 105, 110, 115, 95, 95]⟩, (.str ⟨#[95, 95, 98, 117, 105, 108, 116, 105, 110, 115, 95, 95]⟩ 171), (.ref 4)⟩, ⟨PyData.keyHash P ⟨#[95, 95, 102, 105, 108, 101, 95, 95]⟩, (.str ⟨#[95, 95, 102, 105, 108, 101, 95, 95]⟩ 173), (.str ⟨#[47, 99, 108, 97, 105, 109, 47, 99, 117, 116, 46, 112, 121]⟩ 172)⟩, ⟨PyData.keyHash P ⟨#[95, 95, 99, 97, 99, 104, 101, 100, 95, 95]⟩, (.str ⟨#[95, 95, 99, 97, 99, 104, 101, 100, 95, 95]⟩ 174), .none⟩, ⟨PyData.keyHash P ⟨#[95, 115, 114, 101]⟩, (.str ⟨#[95, 115, 114, 101]⟩ 275), (.ref 12)⟩, ⟨PyData.keyHash P ⟨#[67, 79, 77, 80, 73, 76, 69, 82, 95, 70, 76, 65, 71, 95, 78, 65, 77, 69, 83]⟩, (.str ⟨#[67, 79, 77, 80, 73, 76, 69, 82, 95, 70, 76, 65, 71, 95, 78, 65, 77, 69, 83]⟩ 314), (.ref 32)⟩, ⟨PyData.keyHash P ⟨#[112, 114, 101, 116, 116, 121, 95, 102, 108, 97, 103, 115]⟩, (.str ⟨#[112, 114, 101, 116, 116, 121, 95, 102, 108, 97, 103, 115]⟩ 324), (.ref 39)⟩, ⟨PyData.keyHash P ⟨#[95, 112, 97, 114, 115, 101, 95, 118, 97, 114, 105, 110, 116]⟩, (.str ⟨#[95, 112, 97, 114, 115, 101, 95, 118, 97, 114, 105, 110, 116]⟩ 333), (.ref 46)⟩, ⟨PyData.keyHash P ⟨#[95, 105, 116, 101, 114, 95, 101, 115, 99, 97, 112, 101, 100, 95, 99, 104, 97, 114, 115]⟩, (.str ⟨#[95, 105, 116, 101, 114, 95, 101, 115, 99, 97, 112, 101, 100, 95, 99, 104, 97, 114, 115]⟩ 345), (.ref 53)⟩, ⟨PyData.keyHash P ⟨#[95, 115, 116, 114, 105, 112, 95, 113, 117, 111, 116, 101, 100, 95, 114, 101, 97, 108, 110, 97, 109, 101, 115]⟩, (.str ⟨#[95, 115, 116, 114, 105, 112, 95, 113, 117, 111, 116, 101, 100, 95, 114, 101, 97, 108, 110, 97, 109, 101, 115]⟩ 357), (.ref 60)⟩, ⟨PyData.keyHash P ⟨#[95, 116, 119, 105, 110, 95, 114, 101, 95, 49]⟩, (.str ⟨#[95, 116, 119, 105, 110, 95, 114, 101, 95, 49]⟩ 375), (.ref 65)⟩, ⟨PyData.keyHash P ⟨#[95, 116, 119, 105, 110, 95, 114, 101, 95, 50]⟩, (.str ⟨#[95, 116, 119, 105, 110, 95, 114, 101, 95, 50]⟩ 417), (.ref 70)⟩, ⟨PyData.keyHash P ⟨#[67, 82, 76, 70]⟩, (.str ⟨#[67, 82, 76, 70]⟩ 419), (.str ⟨#[13, 10]⟩ 418)⟩, ⟨PyData.keyHash P ⟨#[113, 117, 111, 116, 101, 100, 97, 116, 97]⟩, (.str ⟨#[113, 117, 111, 116, 101, 100, 97, 116, 97]⟩ 426), (.ref 77)⟩, ⟨PyData.keyHash P ⟨#[98, 49, 95, 115, 101, 116]⟩, (.str ⟨#[98, 49, 95, 115, 101, 116]⟩ 488), (.ref 85)⟩, ⟨PyData.keyHash P ⟨#[105, 110, 95, 116, 97, 98, 108, 101, 95, 98, 49]⟩, (.str ⟨#[105, 110, 95, 116, 97, 98, 108, 101, 95, 98, 49]⟩ 495), (.ref 95)⟩] 21), #[]⟩
noncomputable def o29_2 (_ : Params) : Obj := ⟨.none, none, (.fields #[(.int 4 0), (.int 0 0), (.ref 38), (.int 16 0), (.int 0 0), (.ref 45), (.int 25 0), (.int 0 0), (.ref 52), (.int 38 0), (.int 0 0), (.ref 59), (.int 60 0), (.int 0 0), (.ref 76), (.int 64 0), (.int 0 0), (.ref 94)]), #[]⟩
noncomputable def o89_0 (_ : Params) : Obj := ⟨(.type "tuple"), none, (.seq #[] 0), #[]⟩
noncomputable def o90_0 (_ : Params) : Obj := ⟨.none, none, (.fields #[]), #[]⟩
noncomputable def o91_0 (_ : Params) : Obj := ⟨(.type "tuple"), none, (.seq #[(.str ⟨#[99, 111, 100, 101]⟩ 492)] 0), #[]⟩
noncomputable def o92_0 (_ : Params) : Obj := ⟨(.type "tuple"), none, (.seq #[] 0), #[]⟩
noncomputable def o93_0 (_ : Params) : Obj := ⟨.none, none, (.func { name := ⟨#[105, 110, 95, 116, 97, 98, 108, 101, 95, 98, 49]⟩, qualname := ⟨#[105, 110, 95, 116, 97, 98, 108, 101, 95, 98, 49]⟩, params := (fnp 15).1, body := (fnp 15).2.1, scope := (fnp 15).2.2, globals := 0, closure := [], defaults := .none, kwdefaults := .none, doc := .none, pyModule := .none, annotations := none, code := .none, closureTuple := .none, builtins := 0 }), #[]⟩
noncomputable def o94_0 (_ : Params) : Obj := ⟨(.type "code"), none, (.fields #[(.str ⟨#[105, 110, 95, 116, 97, 98, 108, 101, 95, 98, 49]⟩ 489), (.str ⟨#[105, 110, 95, 116, 97, 98, 108, 101, 95, 98, 49]⟩ 490), (.str ⟨#[47, 99, 108, 97, 105, 109, 47, 99, 117, 116, 46, 112, 121]⟩ 491), (.int 64 0), (.int 1 0), (.int 0 0), (.int 0 0), (.int 3 0), (.ref 89), (.bool true), (.int 276 0), (.ref 90), .none, (.ref 91), (.ref 92), (.ref 93), (.int 493 0), (.int 64 0), (.str ⟨#[47, 99, 108, 97, 105, 109, 47, 99, 117, 116, 46, 112, 121]⟩ 494)]), #[]⟩
noncomputable def o95_0 (_ : Params) : Obj := ⟨(.type "function"), none, (.func { name := ⟨#[105, 110, 95, 116, 97, 98, 108, 101, 95, 98, 49]⟩, qualname := ⟨#[105, 110, 95, 116, 97, 98, 108, 101, 95, 98, 49]⟩, params := (fnp 15).1, body := (fnp 15).2.1, scope := (fnp 15).2.2, globals := 3, closure := [], defaults := .none, kwdefaults := .none, doc := .none, pyModule := (.str ⟨#[99, 112, 121, 51, 49, 51, 46, 115, 116, 114, 105, 110, 103, 112, 114, 101, 112]⟩ 427), annotations := none, code := (.ref 94), closureTuple := .none, builtins := 0 }), #[]⟩
noncomputable def o3_6 (P : Params) : Obj := ⟨(.type "dict"), none, (.dict #[⟨PyData.keyHash P ⟨#[95, 95, 110, 97, 109, 101, 95, 95]⟩, (.str ⟨#[95, 95, 110, 97, 109, 101, 95, 95]⟩ 165), (.str ⟨#[99, 112, 121, 51, 49, 51, 46, 115, 116, 114, 105, 110, 103, 112, 114, 101, 112]⟩ 427)⟩, ⟨PyData.keyHash P ⟨#[95, 95, 100, 111, 99, 95, 95]⟩, (.str ⟨#[95, 95, 100, 111, 99, 95, 95]⟩ 166), .none⟩, ⟨PyData.keyHash P ⟨#[95, 95, 112, 97, 99, 107, 97, 103, 101, 95, 95]⟩, (.str ⟨#[95, 95, 112, 97, 99, 107, 97, 103, 101, 95, 95]⟩ 167), .none⟩, ⟨PyData.keyHash P ⟨#[95, 95, 108, 111, 97, 100, 101, 114, 95, 95]⟩, (.str ⟨#[95, 95, 108, 111, 97, 100, 101, 114, 95, 95]⟩ 168), (.builtin "__main__.__loader__#opaque")⟩, ⟨PyData.keyHash P ⟨#[95, 95, 115, 112, 101, 99, 95, 95]⟩, (.str ⟨#[95, 95, 115, 112, 101, 99, 95, 95]⟩ 169), .none⟩, ⟨PyData.keyHash P ⟨#[95, 95, 97, 110, 110, 111, 116, 97, 116, 105, 111, 110, 115, 95, 95]⟩, (.str ⟨#[95, 95, 97, 110, 110, 111, 116, 97, 116, 105, 111, 110, 115, 95, 95]⟩ 170), (.ref 6)⟩, ⟨PyData.keyHash P ⟨#[95, 95, 98, 117, 105, 108, 116, 105, 110, 115, 95, 95]⟩, (.str ⟨#[95, 95, 98, 117, 105, 108, 116, 105, 110, 115, 95, 95]⟩ 171), (.ref 4)⟩, ⟨PyData.keyHash P ⟨#[95, 95, 102, 105, 108, 101, 95, 95]⟩, (.str ⟨#[95, 95, 102, 105, 108, 101, 95, 95]⟩ 173), (.str ⟨#[47, 99, 108, 97, 105, 109, 47, 99, 117, 116, 46, 112, 121]⟩ 172)⟩, ⟨PyData.keyHash P ⟨#[95, 95, 99, 97, 99, 104, 101, 100, 95, 95]⟩, (.str ⟨#[95, 95, 99, 97, 99, 104, 101, 100, 95, 95]⟩ 174), .none⟩, ⟨PyData.keyHash P ⟨#[95, 115, 114, 101]⟩, (.str ⟨#[95, 115, 114, 101]⟩ 275), (.ref 12)⟩, ⟨PyData.keyHash P ⟨#[67, 79, 77, 80, 73, 76, 69, 82, 95, 70, 76, 65, 71, 95, 78, 65, 77, 69, 83]⟩, (.str ⟨#[67, 79, 77, 80, 73, 76, 69, 82, 95, 70, 76, 65, 71, 95, 78, 65, 77, 69, 83]⟩ 314), (.ref 32)⟩, ⟨PyData.keyHash P ⟨#[112, 114, 101, 116, 116, 121, 95, 102, 108, 97, 103, 115]⟩, (.str ⟨#[112, 114, 101, 116, 116, 121, 95, 102, 108, 97, 103, 115]⟩ 324), (.ref 39)⟩, ⟨PyData.keyHash P ⟨#[95, 112, 97, 114, 115, 101, 95, 118, 97, 114, 105, 110, 116]⟩, (.str ⟨#[95, 112, 97, 114, 115, 101, 95, 118, 97, 114, 105, 110, 116]⟩ 333), (.ref 46)⟩, ⟨PyData.keyHash P ⟨#[95, 105, 116, 101, 114, 95, 101, 115, 99, 97, 112, 101, 100, 95, 99, 104, 97, 114, 115]⟩, (.str ⟨#[95, 105, 116, 101, 114, 95, 101, 115, 99, 97, 112, 101, 100, 95, 99, 104, 97, 114, 115]⟩ 345), (.ref 53)⟩, ⟨PyData.keyHash P ⟨#[95, 115, 116, 114, 105, 112, 95, 113, 117, 111, 116, 101, 100, 95, 114, 101, 97, 108, 110, 97, 109, 101, 115]⟩, (.str ⟨#[95, 115, 116, 114, 105, 112, 95, 113, 117, 111, 116, 101, 100, 95, 114, 101, 97, 108, 110, 97, 109, 101, 115]⟩ 357), (.ref 60)⟩, ⟨PyData.keyHash P ⟨#[95, 116, 119, 105, 110, 95, 114, 101, 95, 49]⟩, (.str ⟨#[95, 116, 119, 105, 110, 95, 114, 101, 95, 49]⟩ 375), (.ref 65)⟩, ⟨PyData.keyHash P ⟨#[95, 116, 119, 105, 110, 95, 114, 101, 95, 50]⟩, (.str ⟨#[95, 116, 119, 105, 110, 95, 114, 101, 95, 50]⟩ 417), (.ref 70)⟩, ⟨PyData.keyHash P ⟨#[67, 82, 76, 70]⟩, (.str ⟨#[67, 82, 76, 70]⟩ 419), (.str ⟨#[13, 10]⟩ 418)⟩, ⟨PyData.keyHash P ⟨#[113, 117, 111, 116, 101, 100, 97, 116, 97]⟩, (.str ⟨#[113, 117, 111, 116, 101, 100, 97, 116, 97]⟩ 426), (.ref 77)⟩, ⟨PyData.keyHash P ⟨#[98, 49, 95, 115, 101, 116]⟩, (.str ⟨#[98, 49, 95, 115, 101, 116]⟩ 488), (.ref 85)⟩, ⟨PyData.keyHash P ⟨#[105, 110, 95, 116, 97, 98, 108, 101, 95, 98, 49]⟩, (.str ⟨#[105, 110, 95, 116, 97, 98, 108, 101, 95, 98, 49]⟩ 495), (.ref 95)⟩, ⟨PyData.keyHash P ⟨#[98, 51, 95, 101, 120, 99, 101, 112, 116, 105, 111, 110, 115]⟩, (.str ⟨#[98, 51, 95, 101, 120, 99, 101, 112, 116, 105, 111, 110, 115]⟩ 2446), (.ref 96)⟩] 22), #[]⟩
noncomputable def o3_7 (P : Params) : Obj := ⟨(.type "dict"), none, (.dict #[⟨PyData.keyHash P ⟨#[95, 95, 110, 97, 109, 101, 95, 95]⟩, (.str ⟨#[95, 95, 110, 97, 109, 101, 95, 95]⟩ 165), (.str ⟨#[108, 97, 119, 95, 115, 114, 48, 48, 54, 54, 95, 48, 49]⟩ 2455)⟩, ⟨PyData.keyHash P ⟨#[95, 95, 100, 111, 99, 95, 95]⟩, (.str ⟨#[95, 95, 100, 111, 99, 95, 95]⟩ 166), .none⟩, ⟨PyData.keyHash P ⟨#[95, 95, 112, 97, 99, 107, 97, 103, 101, 95, 95]⟩, (.str ⟨#[95, 95, 112, 97, 99, 107, 97, 103, 101, 95, 95]⟩ 167), .none⟩, ⟨PyData.keyHash P ⟨#[95, 95, 108, 111, 97, 100, 101, 114, 95, 95]⟩, (.str ⟨#[95, 95, 108, 111, 97, 100, 101, 114, 95, 95]⟩ 168), (.builtin "__main__.__loader__#opaque")⟩, ⟨PyData.keyHash P ⟨#[95, 95, 115, 112, 101, 99, 95, 95]⟩, (.str ⟨#[95, 95, 115, 112, 101, 99, 95, 95]⟩ 169), .none⟩, ⟨PyData.keyHash P ⟨#[95, 95, 97, 110, 110, 111, 116, 97, 116, 105, 111, 110, 115, 95, 95]⟩, (.str ⟨#[95, 95, 97, 110, 110, 111, 116, 97, 116, 105, 111, 110, 115, 95, 95]⟩ 170), (.ref 6)⟩, ⟨PyData.keyHash P ⟨#[95, 95, 98, 117, 105, 108, 116, 105, 110, 115, 95, 95]⟩, (.str ⟨#[95, 95, 98, 117, 105, 108, 116, 105, 110, 115, 95, 95]⟩ 171), (.ref 4)⟩, ⟨PyData.keyHash P ⟨#[95, 95, 102, 105, 108, 101, 95, 95]⟩, (.str ⟨#[95, 95, 102, 105, 108, 101, 95, 95]⟩ 173), (.str ⟨#[47, 99, 108, 97, 105, 109, 47, 99, 117, 116, 46, 112, 121]⟩ 172)⟩, ⟨PyData.keyHash P ⟨#[95, 95, 99, 97, 99, 104, 101, 100, 95, 95]⟩, (.str ⟨#[95, 95, 99, 97, 99, 104, 101, 100, 95, 95]⟩ 174), .none⟩, ⟨PyData.keyHash P ⟨#[95, 115, 114, 101]⟩, (.str ⟨#[95, 115, 114, 101]⟩ 275), (.ref 12)⟩, ⟨PyData.keyHash P ⟨#[67, 79, 77, 80, 73, 76, 69, 82, 95, 70, 76, 65, 71, 95, 78, 65, 77, 69, 83]⟩, (.str ⟨#[67, 79, 77, 80, 73, 76, 69, 82, 95, 70, 76, 65, 71, 95, 78, 65, 77, 69, 83]⟩ 314), (.ref 32)⟩, ⟨PyData.keyHash P ⟨#[112, 114, 101, 116, 116, 121, 95, 102, 108, 97, 103, 115]⟩, (.str ⟨#[112, 114, 101, 116, 116, 121, 95, 102, 108, 97, 103, 115]⟩ 324), (.ref 39)⟩, ⟨PyData.keyHash P ⟨#[95, 112, 97, 114, 115, 101, 95, 118, 97, 114, 105, 110, 116]⟩, (.str ⟨#[95, 112, 97, 114, 115, 101, 95, 118, 97, 114, 105, 110, 116]⟩ 333), (.ref 46)⟩, ⟨PyData.keyHash P ⟨#[95, 105, 116, 101, 114, 95, 101, 115, 99, 97, 112, 101, 100, 95, 99, 104, 97, 114, 115]⟩, (.str ⟨#[95, 105, 116, 101, 114, 95, 101, 115, 99, 97, 112, 101, 100, 95, 99, 104, 97, 114, 115]⟩ 345), (.ref 53)⟩, ⟨PyData.keyHash P ⟨#[95, 115, 116, 114, 105, 112, 95, 113, 117, 111, 116, 101, 100, 95, 114, 101, 97, 108, 110, 97, 109, 101, 115]⟩, (.str ⟨#[95, 115, 116, 114, 105, 112, 95, 113, 117, 111, 116, 101, 100, 95, 114, 101, 97, 108, 110, 97, 109, 101, 115]⟩ 357), (.ref 60)⟩, ⟨PyData.keyHash P ⟨#[95, 116, 119, 105, 110, 95, 114, 101, 95, 49]⟩, (.str ⟨#[95, 116, 119, 105, 110, 95, 114, 101, 95, 49]⟩ 375), (.ref 65)⟩, ⟨PyData.keyHash P ⟨#[95, 116, 119, 105, 110, 95, 114, 101, 95, 50]⟩, (.str ⟨#[95, 116, 119, 105, 110, 95, 114, 101, 95, 50]⟩ 417), (.ref 70)⟩, ⟨PyData.keyHash P ⟨#[67, 82, 76, 70]⟩, (.str ⟨#[67, 82, 76, 70]⟩ 419), (.str ⟨#[13, 10]⟩ 418)⟩, ⟨PyData.keyHash P ⟨#[113, 117, 111, 116, 101, 100, 97, 116, 97]⟩, (.str ⟨#[113, 117, 111, 116, 101, 100, 97, 116, 97]⟩ 426), (.ref 77)⟩, ⟨PyData.keyHash P ⟨#[98, 49, 95, 115, 101, 116]⟩, (.str ⟨#[98, 49, 95, 115, 101, 116]⟩ 488), (.ref 85)⟩, ⟨PyData.keyHash P ⟨#[105, 110, 95, 116, 97, 98, 108, 101, 95, 98, 49]⟩, (.str ⟨#[105, 110, 95, 116, 97, 98, 108, 101, 95, 98, 49]⟩ 495), (.ref 95)⟩, ⟨PyData.keyHash P ⟨#[98, 51, 95, 101, 120, 99, 101, 112, 116, 105, 111, 110, 115]⟩, (.str ⟨#[98, 51, 95, 101, 120, 99, 101, 112, 116, 105, 111, 110, 115]⟩ 2446), (.ref 96)⟩, ⟨PyData.keyHash P ⟨#[109, 97, 112, 95, 116, 97, 98, 108, 101, 95, 98, 51]⟩, (.str ⟨#[109, 97, 112, 95, 116, 97, 98, 108, 101, 95, 98, 51]⟩ 2454), (.ref 141)⟩, ⟨PyData.keyHash P ⟨#[95, 108, 97, 119, 95, 110, 97, 109, 101, 115]⟩, (.str ⟨#[95, 108, 97, 119, 95, 110, 97, 109, 101, 115]⟩ 2462), (.ref 148)⟩, ⟨PyData.keyHash P ⟨#[95, 108, 97, 119, 95, 115, 112, 101, 108, 108, 101, 100]⟩, (.str ⟨#[95, 108, 97, 119, 95, 115, 112, 101, 108, 108, 101, 100]⟩ 2474), (.ref 155)⟩, ⟨PyData.keyHash P ⟨#[95, 108, 97, 119, 95, 112, 114, 101, 112, 97, 114, 101, 100]⟩, (.str ⟨#[95, 108, 97, 119, 95, 112, 114, 101, 112, 97, 114, 101, 100]⟩ 2480), (.ref 160)⟩, ⟨PyData.keyHash P ⟨#[95, 108, 97, 119, 95, 112, 108, 97, 105, 110]⟩, (.str ⟨#[95, 108, 97, 119, 95, 112, 108, 97, 105, 110]⟩ 2486), (.ref 165)⟩, ⟨PyData.keyHash P ⟨#[95, 108, 97, 119, 95, 115, 101, 110, 116]⟩, (.str ⟨#[95, 108, 97, 119, 95, 115, 101, 110, 116]⟩ 2492), (.ref 170)⟩, ⟨PyData.keyHash P ⟨#[95, 108, 97, 119, 95, 102, 101, 108, 108, 111, 119, 115]⟩, (.str ⟨#[95, 108, 97, 119, 95, 102, 101, 108, 108, 111, 119, 115]⟩ 2506), (.ref 177)⟩, ⟨PyData.keyHash P ⟨#[108, 97, 119]⟩, (.str ⟨#[108, 97, 119]⟩ 2512), (.ref 182)⟩] 30), #[]⟩
noncomputable def o29_3 (_ : Params) : Obj := ⟨.none, none, (.fields #[(.int 4 0), (.int 0 0), (.ref 38), (.int 16 0), (.int 0 0), (.ref 45), (.int 25 0), (.int 0 0), (.ref 52), (.int 38 0), (.int 0 0), (.ref 59), (.int 60 0), (.int 0 0), (.ref 76), (.int 64 0), (.int 0 0), (.ref 94), (.int 67 0), (.int 0 0), (.ref 140), (.int 73 0), (.int 0 0), (.ref 147), (.int 75 0), (.int 0 0), (.ref 154), (.int 87 0), (.int 0 0), (.ref 159), (.int 89 0), (.int 0 0), (.ref 164), (.int 91 0), (.int 0 0), (.ref 169), (.int 93 0), (.int 0 0), (.ref 176), (.int 106 0), (.int 0 0), (.ref 181)]), #[]⟩
noncomputable def o135_0 (_ : Params) : Obj := ⟨(.type "tuple"), none, (.seq #[] 0), #[]⟩
noncomputable def o136_0 (_ : Params) : Obj := ⟨.none, none, (.fields #[]), #[]⟩
noncomputable def o137_0 (_ : Params) : Obj := ⟨(.type "tuple"), none, (.seq #[(.str ⟨#[99, 111, 100, 101]⟩ 2450), (.str ⟨#[114]⟩ 2451)] 0), #[]⟩
noncomputable def o138_0 (_ : Params) : Obj := ⟨(.type "tuple"), none, (.seq #[] 0), #[]⟩
noncomputable def o139_0 (_ : Params) : Obj := ⟨.none, none, (.func { name := ⟨#[109, 97, 112, 95, 116, 97, 98, 108, 101, 95, 98, 51]⟩, qualname := ⟨#[109, 97, 112, 95, 116, 97, 98, 108, 101, 95, 98, 51]⟩, params := (fnp 17).1, body := (fnp 17).2.1, scope := (fnp 17).2.2, globals := 0, closure := [], defaults := .none, kwdefaults := .none, doc := .none, pyModule := .none, annotations := none, code := .none, closureTuple := .none, builtins := 0 }), #[]⟩
noncomputable def o140_0 (_ : Params) : Obj := ⟨(.type "code"), none, (.fields #[(.str ⟨#[109, 97, 112, 95, 116, 97, 98, 108, 101, 95, 98, 51]⟩ 2447), (.str ⟨#[109, 97, 112, 95, 116, 97, 98, 108, 101, 95, 98, 51]⟩ 2448), (.str ⟨#[47, 99, 108, 97, 105, 109, 47, 99, 117, 116, 46, 112, 121]⟩ 2449), (.int 67 0), (.int 1 0), (.int 0 0), (.int 0 0), (.int 3 0), (.ref 135), (.bool true), (.int 276 0), (.ref 136), .none, (.ref 137), (.ref 138), (.ref 139), (.int 2452 0), (.int 67 0), (.str ⟨#[47, 99, 108, 97, 105, 109, 47, 99, 117, 116, 46, 112, 121]⟩ 2453)]), #[]⟩
noncomputable def o141_0 (_ : Params) : Obj := ⟨(.type "function"), none, (.func { name := ⟨#[109, 97, 112, 95, 116, 97, 98, 108, 101, 95, 98, 51]⟩, qualname := ⟨#[109, 97, 112, 95, 116, 97, 98, 108, 101, 95, 98, 51]⟩, params := (fnp 17).1, body := (fnp 17).2.1, scope := (fnp 17).2.2, globals := 3, closure := [], defaults := .none, kwdefaults := .none, doc := .none, pyModule := (.str ⟨#[99, 112, 121, 51, 49, 51, 46, 115, 116, 114, 105, 110, 103, 112, 114, 101, 112]⟩ 427), annotations := none, code := (.ref 140), closureTuple := .none, builtins := 0 }), #[]⟩
noncomputable def o142_0 (_ : Params) : Obj := ⟨(.type "tuple"), none, (.seq #[] 0), #[]⟩
noncomputable def o143_0 (_ : Params) : Obj := ⟨.none, none, (.fields #[]), #[]⟩
noncomputable def o144_0 (_ : Params) : Obj := ⟨(.type "tuple"), none, (.seq #[] 0), #[]⟩
noncomputable def o145_0 (_ : Params) : Obj := ⟨(.type "tuple"), none, (.seq #[] 0), #[]⟩
noncomputable def o146_0 (_ : Params) : Obj := ⟨.none, none, (.func { name := ⟨#[95, 108, 97, 119, 95, 110, 97, 109, 101, 115]⟩, qualname := ⟨#[95, 108, 97, 119, 95, 110, 97, 109, 101, 115]⟩, params := (fnp 19).1, body := (fnp 19).2.1, scope := (fnp 19).2.2, globals := 0, closure := [], defaults := .none, kwdefaults := .none, doc := .none, pyModule := .none, annotations := none, code := .none, closureTuple := .none, builtins := 0 }), #[]⟩
noncomputable def o147_0 (_ : Params) : Obj := ⟨(.type "code"), none, (.fields #[(.str ⟨#[95, 108, 97, 119, 95, 110, 97, 109, 101, 115]⟩ 2457), (.str ⟨#[95, 108, 97, 119, 95, 110, 97, 109, 101, 115]⟩ 2458), (.str ⟨#[47, 99, 108, 97, 105, 109, 47, 99, 117, 116, 46, 112, 121]⟩ 2459), (.int 73 0), (.int 0 0), (.int 0 0), (.int 0 0), (.int 3 0), (.ref 142), (.bool true), (.int 276 0), (.ref 143), .none, (.ref 144), (.ref 145), (.ref 146), (.int 2460 0), (.int 73 0), (.str ⟨#[47, 99, 108, 97, 105, 109, 47, 99, 117, 116, 46, 112, 121]⟩ 2461)]), #[]⟩
noncomputable def o148_0 (_ : Params) : Obj := ⟨(.type "function"), none, (.func { name := ⟨#[95, 108, 97, 119, 95, 110, 97, 109, 101, 115]⟩, qualname := ⟨#[95, 108, 97, 119, 95, 110, 97, 109, 101, 115]⟩, params := (fnp 19).1, body := (fnp 19).2.1, scope := (fnp 19).2.2, globals := 3, closure := [], defaults := .none, kwdefaults := .none, doc := .none, pyModule := (.str ⟨#[108, 97, 119, 95, 115, 114, 48, 48, 54, 54, 95, 48, 49]⟩ 2455), annotations := none, code := (.ref 147), closureTuple := .none, builtins := 0 }), #[]⟩
noncomputable def o149_0 (_ : Params) : Obj := ⟨(.type "tuple"), none, (.seq #[] 0), #[]⟩
noncomputable def o150_0 (_ : Params) : Obj := ⟨.none, none, (.fields #[]), #[]⟩
noncomputable def o151_0 (_ : Params) : Obj := ⟨(.type "tuple"), none, (.seq #[(.str ⟨#[108, 101, 116, 116, 101, 114]⟩ 2466), (.str ⟨#[100]⟩ 2467), (.str ⟨#[119, 104, 105, 99, 104]⟩ 2468), (.str ⟨#[102, 114, 111, 110, 116, 115]⟩ 2469), (.str ⟨#[108, 111, 110, 101]⟩ 2470), (.str ⟨#[112, 108, 97, 99, 101]⟩ 2471)] 0), #[]⟩
noncomputable def o152_0 (_ : Params) : Obj := ⟨(.type "tuple"), none, (.seq #[] 0), #[]⟩
noncomputable def o153_0 (_ : Params) : Obj := ⟨.none, none, (.func { name := ⟨#[95, 108, 97, 119, 95, 115, 112, 101, 108, 108, 101, 100]⟩, qualname := ⟨#[95, 108, 97, 119, 95, 115, 112, 101, 108, 108, 101, 100]⟩, params := (fnp 20).1, body := (fnp 20).2.1, scope := (fnp 20).2.2, globals := 0, closure := [], defaults := .none, kwdefaults := .none, doc := .none, pyModule := .none, annotations := none, code := .none, closureTuple := .none, builtins := 0 }), #[]⟩
noncomputable def o154_0 (_ : Params) : Obj := ⟨(.type "code"), none, (.fields #[(.str ⟨#[95, 108, 97, 119, 95, 115, 112, 101, 108, 108, 101, 100]⟩ 2463), (.str ⟨#[95, 108, 97, 119, 95, 115, 112, 101, 108, 108, 101, 100]⟩ 2464), (.str ⟨#[47, 99, 108, 97, 105, 109, 47, 99, 117, 116, 46, 112, 121]⟩ 2465), (.int 75 0), (.int 2 0), (.int 0 0), (.int 0 0), (.int 3 0), (.ref 149), (.bool true), (.int 276 0), (.ref 150), .none, (.ref 151), (.ref 152), (.ref 153), (.int 2472 0), (.int 75 0), (.str ⟨#[47, 99, 108, 97, 105, 109, 47, 99, 117, 116, 46, 112, 121]⟩ 2473)]), #[]⟩
noncomputable def o155_0 (_ : Params) : Obj := ⟨(.type "function"), none, (.func { name := ⟨#[95, 108, 97, 119, 95, 115, 112, 101, 108, 108, 101, 100]⟩, qualname := ⟨#[95, 108, 97, 119, 95, 115, 112, 101, 108, 108, 101, 100]⟩, params := (fnp 20).1, body := (fnp 20).2.1, scope := (fnp 20).2.2, globals := 3, closure := [], defaults := .none, kwdefaults := .none, doc := .none, pyModule := (.str ⟨#[108, 97, 119, 95, 115, 114, 48, 48, 54, 54, 95, 48, 49]⟩ 2455), annotations := none, code := (.ref 154), closureTuple := .none, builtins := 0 }), #[]⟩
noncomputable def o156_0 (_ : Params) : Obj := ⟨(.type "tuple"), none, (.seq #[] 0), #[]⟩
noncomputable def o157_0 (_ : Params) : Obj := ⟨.none, none, (.fields #[]), #[]⟩
noncomputable def o158_0 (_ : Params) : Obj := ⟨.none, none, (.func { name := ⟨#[95, 108, 97, 119, 95, 112, 114, 101, 112, 97, 114, 101, 100]⟩, qualname := ⟨#[95, 108, 97, 119, 95, 112, 114, 101, 112, 97, 114, 101, 100]⟩, params := (fnp 21).1, body := (fnp 21).2.1, scope := (fnp 21).2.2, globals := 0, closure := [], defaults := .none, kwdefaults := .none, doc := .none, pyModule := .none, annotations := none, code := .none, closureTuple := .none, builtins := 0 }), #[]⟩
noncomputable def o159_0 (_ : Params) : Obj := ⟨(.type "code"), none, (.fields #[(.str ⟨#[95, 108, 97, 119, 95, 112, 114, 101, 112, 97, 114, 101, 100]⟩ 2475), (.str ⟨#[95, 108, 97, 119, 95, 112, 114, 101, 112, 97, 114, 101, 100]⟩ 2476), (.str ⟨#[47, 99, 108, 97, 105, 109, 47, 99, 117, 116, 46, 112, 121]⟩ 2477), (.int 87 0), (.int 1 0), (.int 0 0), (.int 0 0), (.int 3 0), (.ref 156), (.bool true), (.int 276 0), (.ref 157), .none, .none, .none, (.ref 158), (.int 2478 0), (.int 87 0), (.str ⟨#[47, 99, 108, 97, 105, 109, 47, 99, 117, 116, 46, 112, 121]⟩ 2479)]), #[]⟩
noncomputable def o160_0 (_ : Params) : Obj := ⟨(.type "function"), none, (.func { name := ⟨#[95, 108, 97, 119, 95, 112, 114, 101, 112, 97, 114, 101, 100]⟩, qualname := ⟨#[95, 108, 97, 119, 95, 112, 114, 101, 112, 97, 114, 101, 100]⟩, params := (fnp 21).1, body := (fnp 21).2.1, scope := (fnp 21).2.2, globals := 3, closure := [], defaults := .none, kwdefaults := .none, doc := .none, pyModule := (.str ⟨#[108, 97, 119, 95, 115, 114, 48, 48, 54, 54, 95, 48, 49]⟩ 2455), annotations := none, code := (.ref 159), closureTuple := .none, builtins := 0 }), #[]⟩
noncomputable def o161_0 (_ : Params) : Obj := ⟨(.type "tuple"), none, (.seq #[] 0), #[]⟩
noncomputable def o162_0 (_ : Params) : Obj := ⟨.none, none, (.fields #[]), #[]⟩
noncomputable def o163_0 (_ : Params) : Obj := ⟨.none, none, (.func { name := ⟨#[95, 108, 97, 119, 95, 112, 108, 97, 105, 110]⟩, qualname := ⟨#[95, 108, 97, 119, 95, 112, 108, 97, 105, 110]⟩, params := (fnp 22).1, body := (fnp 22).2.1, scope := (fnp 22).2.2, globals := 0, closure := [], defaults := .none, kwdefaults := .none, doc := .none, pyModule := .none, annotations := none, code := .none, closureTuple := .none, builtins := 0 }), #[]⟩
noncomputable def o164_0 (_ : Params) : Obj := ⟨(.type "code"), none, (.fields #[(.str ⟨#[95, 108, 97, 119, 95, 112, 108, 97, 105, 110]⟩ 2481), (.str ⟨#[95, 108, 97, 119, 95, 112, 108, 97, 105, 110]⟩ 2482), (.str ⟨#[47, 99, 108, 97, 105, 109, 47, 99, 117, 116, 46, 112, 121]⟩ 2483), (.int 89 0), (.int 2 0), (.int 0 0), (.int 0 0), (.int 3 0), (.ref 161), (.bool true), (.int 276 0), (.ref 162), .none, .none, .none, (.ref 163), (.int 2484 0), (.int 89 0), (.str ⟨#[47, 99, 108, 97, 105, 109, 47, 99, 117, 116, 46, 112, 121]⟩ 2485)]), #[]⟩
noncomputable def o165_0 (_ : Params) : Obj := ⟨(.type "function"), none, (.func { name := ⟨#[95, 108, 97, 119, 95, 112, 108, 97, 105, 110]⟩, qualname := ⟨#[95, 108, 97, 119, 95, 112, 108, 97, 105, 110]⟩, params := (fnp 22).1, body := (fnp 22).2.1, scope := (fnp 22).2.2, globals := 3, closure := [], defaults := .none, kwdefaults := .none, doc := .none, pyModule := (.str ⟨#[108, 97, 119, 95, 115, 114, 48, 48, 54, 54, 95, 48, 49]⟩ 2455), annotations := none, code := (.ref 164), closureTuple := .none, builtins := 0 }), #[]⟩
noncomputable def o166_0 (_ : Params) : Obj := ⟨(.type "tuple"), none, (.seq #[] 0), #[]⟩
noncomputable def o167_0 (_ : Params) : Obj := ⟨.none, none, (.fields #[]), #[]⟩
noncomputable def o168_0 (_ : Params) : Obj := ⟨.none, none, (.func { name := ⟨#[95, 108, 97, 119, 95, 115, 101, 110, 116]⟩, qualname := ⟨#[95, 108, 97, 119, 95, 115, 101, 110, 116]⟩, params := (fnp 23).1, body := (fnp 23).2.1, scope := (fnp 23).2.2, globals := 0, closure := [], defaults := .none, kwdefaults := .none, doc := .none, pyModule := .none, annotations := none, code := .none, closureTuple := .none, builtins := 0 }), #[]⟩
noncomputable def o169_0 (_ : Params) : Obj := ⟨(.type "code"), none, (.fields #[(.str ⟨#[95, 108, 97, 119, 95, 115, 101, 110, 116]⟩ 2487), (.str ⟨#[95, 108, 97, 119, 95, 115, 101, 110, 116]⟩ 2488), (.str ⟨#[47, 99, 108, 97, 105, 109, 47, 99, 117, 116, 46, 112, 121]⟩ 2489), (.int 91 0), (.int 2 0), (.int 0 0), (.int 0 0), (.int 3 0), (.ref 166), (.bool true), (.int 276 0), (.ref 167), .none, .none, .none, (.ref 168), (.int 2490 0), (.int 91 0), (.str ⟨#[47, 99, 108, 97, 105, 109, 47, 99, 117, 116, 46, 112, 121]⟩ 2491)]), #[]⟩
noncomputable def o170_0 (_ : Params) : Obj := ⟨(.type "function"), none, (.func { name := ⟨#[95, 108, 97, 119, 95, 115, 101, 110, 116]⟩, qualname := ⟨#[95, 108, 97, 119, 95, 115, 101, 110, 116]⟩, params := (fnp 23).1, body := (fnp 23).2.1, scope := (fnp 23).2.2, globals := 3, closure := [], defaults := .none, kwdefaults := .none, doc := .none, pyModule := (.str ⟨#[108, 97, 119, 95, 115, 114, 48, 48, 54, 54, 95, 48, 49]⟩ 2455), annotations := none, code := (.ref 169), closureTuple := .none, builtins := 0 }), #[]⟩
noncomputable def o171_0 (_ : Params) : Obj := ⟨(.type "tuple"), none, (.seq #[] 0), #[]⟩
noncomputable def o172_0 (_ : Params) : Obj := ⟨.none, none, (.fields #[]), #[]⟩
noncomputable def o173_0 (_ : Params) : Obj := ⟨(.type "tuple"), none, (.seq #[(.str ⟨#[114, 111, 119, 115]⟩ 2496), (.str ⟨#[110, 117, 109, 115]⟩ 2497), (.str ⟨#[112, 97, 114, 116]⟩ 2498), (.str ⟨#[108, 111, 110, 101]⟩ 2499), (.str ⟨#[105]⟩ 2500), (.str ⟨#[115, 105, 122, 101]⟩ 2501), (.str ⟨#[106]⟩ 2502), (.str ⟨#[116, 117, 114, 110]⟩ 2503)] 0), #[]⟩
noncomputable def o174_0 (_ : Params) : Obj := ⟨(.type "tuple"), none, (.seq #[] 0), #[]⟩
noncomputable def o175_0 (_ : Params) : Obj := ⟨.none, none, (.func { name := ⟨#[95, 108, 97, 119, 95, 102, 101, 108, 108, 111, 119, 115]⟩, qualname := ⟨#[95, 108, 97, 119, 95, 102, 101, 108, 108, 111, 119, 115]⟩, params := (fnp 24).1, body := (fnp 24).2.1, scope := (fnp 24).2.2, globals := 0, closure := [], defaults := .none, kwdefaults := .none, doc := .none, pyModule := .none, annotations := none, code := .none, closureTuple := .none, builtins := 0 }), #[]⟩
noncomputable def o176_0 (_ : Params) : Obj := ⟨(.type "code"), none, (.fields #[(.str ⟨#[95, 108, 97, 119, 95, 102, 101, 108, 108, 111, 119, 115]⟩ 2493), (.str ⟨#[95, 108, 97, 119, 95, 102, 101, 108, 108, 111, 119, 115]⟩ 2494), (.str ⟨#[47, 99, 108, 97, 105, 109, 47, 99, 117, 116, 46, 112, 121]⟩ 2495), (.int 93 0), (.int 2 0), (.int 0 0), (.int 0 0), (.int 3 0), (.ref 171), (.bool true), (.int 276 0), (.ref 172), .none, (.ref 173), (.ref 174), (.ref 175), (.int 2504 0), (.int 93 0), (.str ⟨#[47, 99, 108, 97, 105, 109, 47, 99, 117, 116, 46, 112, 121]⟩ 2505)]), #[]⟩
noncomputable def o177_0 (_ : Params) : Obj := ⟨(.type "function"), none, (.func { name := ⟨#[95, 108, 97, 119, 95, 102, 101, 108, 108, 111, 119, 115]⟩, qualname := ⟨#[95, 108, 97, 119, 95, 102, 101, 108, 108, 111, 119, 115]⟩, params := (fnp 24).1, body := (fnp 24).2.1, scope := (fnp 24).2.2, globals := 3, closure := [], defaults := .none, kwdefaults := .none, doc := .none, pyModule := (.str ⟨#[108, 97, 119, 95, 115, 114, 48, 48, 54, 54, 95, 48, 49]⟩ 2455), annotations := none, code := (.ref 176), closureTuple := .none, builtins := 0 }), #[]⟩
noncomputable def o178_0 (_ : Params) : Obj := ⟨(.type "tuple"), none, (.seq #[] 0), #[]⟩
noncomputable def o179_0 (_ : Params) : Obj := ⟨.none, none, (.fields #[]), #[]⟩
noncomputable def o180_0 (_ : Params) : Obj := ⟨.none, none, (.func { name := ⟨#[108, 97, 119]⟩, qualname := ⟨#[108, 97, 119]⟩, params := (fnp 25).1, body := (fnp 25).2.1, scope := (fnp 25).2.2, globals := 0, closure := [], defaults := .none, kwdefaults := .none, doc := .none, pyModule := .none, annotations := none, code := .none, closureTuple := .none, builtins := 0 }), #[]⟩
noncomputable def o181_0 (_ : Params) : Obj := ⟨(.type "code"), none, (.fields #[(.str ⟨#[108, 97, 119]⟩ 2507), (.str ⟨#[108, 97, 119]⟩ 2508), (.str ⟨#[47, 99, 108, 97, 105, 109, 47, 99, 117, 116, 46, 112, 121]⟩ 2509), (.int 106 0), (.int 1 0), (.int 0 0), (.int 0 0), (.int 3 0), (.ref 178), (.bool true), (.int 276 0), (.ref 179), .none, .none, .none, (.ref 180), (.int 2510 0), (.int 106 0), (.str ⟨#[47, 99, 108, 97, 105, 109, 47, 99, 117, 116, 46, 112, 121]⟩ 2511)]), #[]⟩
noncomputable def o182_0 (_ : Params) : Obj := ⟨(.type "function"), none, (.func { name := ⟨#[108, 97, 119]⟩, qualname := ⟨#[108, 97, 119]⟩, params := (fnp 25).1, body := (fnp 25).2.1, scope := (fnp 25).2.2, globals := 3, closure := [], defaults := .none, kwdefaults := .none, doc := .none, pyModule := (.str ⟨#[108, 97, 119, 95, 115, 114, 48, 48, 54, 54, 95, 48, 49]⟩ 2455), annotations := none, code := (.ref 181), closureTuple := .none, builtins := 0 }), #[]⟩
noncomputable def LS (P : Params) : List Obj := [o0_0 P, o1_0 P, o2_0 P, o3_0 P, o4_0 P, o5_0 P, o6_0 P, o7_0 P, o8_0 P, o9_0 P, o10_0 P, o11_0 P, o12_0 P, o13_0 P, o14_0 P, o15_0 P, o16_0 P, o17_0 P, o18_0 P, o19_0 P, o20_0 P, o21_0 P, o22_0 P, o23_0 P, o24_0 P, o25_0 P, o26_0 P, o27_0 P]
noncomputable def LA (P : Params) : List Obj := [o0_0 P, o1_0 P, o2_0 P, o3_0 P, o4_0 P, o5_0 P, o6_0 P, o7_0 P, o8_0 P, o9_0 P, o10_0 P, o11_0 P, o12_0 P, o13_0 P, o14_0 P, o15_0 P, o16_0 P, o17_0 P, o18_0 P, o19_0 P, o20_0 P, o21_0 P, o22_0 P, o23_0 P, o24_0 P, o25_0 P, o26_0 P, o27_0 P, o28_0 P, o29_0 P, o30_0 P, o31_0 P]
noncomputable def L1 (P : Params) : List Obj := [o0_0 P, o1_0 P, o2_0 P, o3_1 P, o4_0 P, o5_0 P, o6_0 P, o7_0 P, o8_0 P, o9_0 P, o10_0 P, o11_0 P, o12_0 P, o13_0 P, o14_0 P, o15_0 P, o16_0 P, o17_0 P, o18_0 P, o19_0 P, o20_0 P, o21_0 P, o22_0 P, o23_0 P, o24_0 P, o25_0 P, o26_0 P, o27_0 P, o28_0 P, o29_0 P, o30_0 P, o31_0 P]
noncomputable def L2 (P : Params) : List Obj := [o0_0 P, o1_0 P, o2_0 P, o3_2 P, o4_0 P, o5_0 P, o6_0 P, o7_0 P, o8_0 P, o9_0 P, o10_0 P, o11_0 P, o12_0 P, o13_0 P, o14_0 P, o15_0 P, o16_0 P, o17_0 P, o18_0 P, o19_0 P, o20_0 P, o21_0 P, o22_0 P, o23_0 P, o24_0 P, o25_0 P, o26_0 P, o27_0 P, o28_0 P, o29_0 P, o30_0 P, o31_0 P, o32_0 P]
noncomputable def L13 (P : Params) : List Obj := [o0_0 P, o1_0 P, o2_0 P, o3_3 P, o4_0 P, o5_0 P, o6_0 P, o7_0 P, o8_0 P, o9_0 P, o10_0 P, o11_0 P, o12_0 P, o13_0 P, o14_0 P, o15_0 P, o16_0 P, o17_0 P, o18_0 P, o19_0 P, o20_0 P, o21_0 P, o22_0 P, o23_0 P, o24_0 P, o25_0 P, o26_0 P, o27_0 P, o28_0 P, o29_1 P, o30_0 P, o31_0 P, o32_0 P, o33_0 P, o34_0 P, o35_0 P, o36_0 P, o37_0 P, o38_0 P, o39_0 P, o40_0 P, o41_0 P, o42_0 P, o43_0 P, o44_0 P, o45_0 P, o46_0 P, o47_0 P, o48_0 P, o49_0 P, o50_0 P, o51_0 P, o52_0 P, o53_0 P, o54_0 P, o55_0 P, o56_0 P, o57_0 P, o58_0 P, o59_0 P, o60_0 P, o61_0 P, o62_0 P, o63_0 P, o64_0 P, o65_0 P, o66_0 P, o67_0 P, o68_0 P, o69_0 P, o70_0 P, o71_0 P, o72_0 P, o73_0 P, o74_0 P, o75_0 P, o76_0 P, o77_0 P]
noncomputable def L14 (P : Params) : List Obj := [o0_0 P, o1_0 P, o2_0 P, o3_4 P, o4_0 P, o5_0 P, o6_0 P, o7_0 P, o8_0 P, o9_0 P, o10_0 P, o11_0 P, o12_0 P, o13_0 P, o14_0 P, o15_0 P, o16_0 P, o17_0 P, o18_0 P, o19_0 P, o20_0 P, o21_0 P, o22_0 P, o23_0 P, o24_0 P, o25_0 P, o26_0 P, o27_0 P, o28_0 P, o29_1 P, o30_0 P, o31_0 P, o32_0 P, o33_0 P, o34_0 P, o35_0 P, o36_0 P, o37_0 P, o38_0 P, o39_0 P, o40_0 P, o41_0 P, o42_0 P, o43_0 P, o44_0 P, o45_0 P, o46_0 P, o47_0 P, o48_0 P, o49_0 P, o50_0 P, o51_0 P, o52_0 P, o53_0 P, o54_0 P, o55_0 P, o56_0 P, o57_0 P, o58_0 P, o59_0 P, o60_0 P, o61_0 P, o62_0 P, o63_0 P, o64_0 P, o65_0 P, o66_0 P, o67_0 P, o68_0 P, o69_0 P, o70_0 P, o71_0 P, o72_0 P, o73_0 P, o74_0 P, o75_0 P, o76_0 P, o77_0 P, o78_0 P, o79_0 P, o80_0 P, o81_0 P, o82_0 P, o83_0 P, o84_0 P, o85_0 P, o86_0 P, o87_0 P, o88_0 P]
noncomputable def L15 (P : Params) : List Obj := [o0_0 P, o1_0 P, o2_0 P, o3_5 P, o4_0 P, o5_0 P, o6_0 P, o7_0 P, o8_0 P, o9_0 P, o10_0 P, o11_0 P, o12_0 P, o13_0 P, o14_0 P, o15_0 P, o16_0 P, o17_0 P, o18_0 P, o19_0 P, o20_0 P, o21_0 P, o22_0 P, o23_0 P, o24_0 P, o25_0 P, o26_0 P, o27_0 P, o28_0 P, o29_2 P, o30_0 P, o31_0 P, o32_0 P, o33_0 P, o34_0 P, o35_0 P, o36_0 P, o37_0 P, o38_0 P, o39_0 P, o40_0 P, o41_0 P, o42_0 P, o43_0 P, o44_0 P, o45_0 P, o46_0 P, o47_0 P, o48_0 P, o49_0 P, o50_0 P, o51_0 P, o52_0 P, o53_0 P, o54_0 P, o55_0 P, o56_0 P, o57_0 P, o58_0 P, o59_0 P, o60_0 P, o61_0 P, o62_0 P, o63_0 P, o64_0 P, o65_0 P, o66_0 P, o67_0 P, o68_0 P, o69_0 P, o70_0 P, o71_0 P, o72_0 P, o73_0 P, o74_0 P, o75_0 P, o76_0 P, o77_0 P, o78_0 P, o79_0 P, o80_0 P, o81_0 P, o82_0 P, o83_0 P, o84_0 P, o85_0 P, o86_0 P, o87_0 P, o88_0 P, o89_0 P, o90_0 P, o91_0 P, o92_0 P, o93_0 P, o94_0 P, o95_0 P]
noncomputable def L16 (P : Params) : List Obj := [o0_0 P, o1_0 P, o2_0 P, o3_6 P, o4_0 P, o5_0 P, o6_0 P, o7_0 P, o8_0 P, o9_0 P, o10_0 P, o11_0 P, o12_0 P, o13_0 P, o14_0 P, o15_0 P, o16_0 P, o17_0 P, o18_0 P, o19_0 P, o20_0 P, o21_0 P, o22_0 P, o23_0 P, o24_0 P, o25_0 P, o26_0 P, o27_0 P, o28_0 P, o29_2 P, o30_0 P, o31_0 P, o32_0 P, o33_0 P, o34_0 P, o35_0 P, o36_0 P, o37_0 P, o38_0 P, o39_0 P, o40_0 P, o41_0 P, o42_0 P, o43_0 P, o44_0 P, o45_0 P, o46_0 P, o47_0 P, o48_0 P, o49_0 P, o50_0 P, o51_0 P, o52_0 P, o53_0 P, o54_0 P, o55_0 P, o56_0 P, o57_0 P, o58_0 P, o59_0 P, o60_0 P, o61_0 P, o62_0 P, o63_0 P, o64_0 P, o65_0 P, o66_0 P, o67_0 P, o68_0 P, o69_0 P, o70_0 P, o71_0 P, o72_0 P, o73_0 P, o74_0 P, o75_0 P, o76_0 P, o77_0 P, o78_0 P, o79_0 P, o80_0 P, o81_0 P, o82_0 P, o83_0 P, o84_0 P, o85_0 P, o86_0 P, o87_0 P, o88_0 P, o89_0 P, o90_0 P, o91_0 P, o92_0 P, o93_0 P, o94_0 P, o95_0 P] ++ (b3main :: b3subs ++ [])
noncomputable def L25 (P : Params) : List Obj := [o0_0 P, o1_0 P, o2_0 P, o3_7 P, o4_0 P, o5_0 P, o6_0 P, o7_0 P, o8_0 P, o9_0 P, o10_0 P, o11_0 P, o12_0 P, o13_0 P, o14_0 P, o15_0 P, o16_0 P, o17_0 P, o18_0 P, o19_0 P, o20_0 P, o21_0 P, o22_0 P, o23_0 P, o24_0 P, o25_0 P, o26_0 P, o27_0 P, o28_0 P, o29_3 P, o30_0 P, o31_0 P, o32_0 P, o33_0 P, o34_0 P, o35_0 P, o36_0 P, o37_0 P, o38_0 P, o39_0 P, o40_0 P, o41_0 P, o42_0 P, o43_0 P, o44_0 P, o45_0 P, o46_0 P, o47_0 P, o48_0 P, o49_0 P, o50_0 P, o51_0 P, o52_0 P, o53_0 P, o54_0 P, o55_0 P, o56_0 P, o57_0 P, o58_0 P, o59_0 P, o60_0 P, o61_0 P, o62_0 P, o63_0 P, o64_0 P, o65_0 P, o66_0 P, o67_0 P, o68_0 P, o69_0 P, o70_0 P, o71_0 P, o72_0 P, o73_0 P, o74_0 P, o75_0 P, o76_0 P, o77_0 P, o78_0 P, o79_0 P, o80_0 P, o81_0 P, o82_0 P, o83_0 P, o84_0 P, o85_0 P, o86_0 P, o87_0 P, o88_0 P, o89_0 P, o90_0 P, o91_0 P, o92_0 P, o93_0 P, o94_0 P, o95_0 P] ++ (b3main :: b3subs ++ [o135_0 P, o136_0 P, o137_0 P, o138_0 P, o139_0 P, o140_0 P, o141_0 P, o142_0 P, o143_0 P, o144_0 P, o145_0 P, o146_0 P, o147_0 P, o148_0 P, o149_0 P, o150_0 P, o151_0 P, o152_0 P, o153_0 P, o154_0 P, o155_0 P, o156_0 P, o157_0 P, o158_0 P, o159_0 P, o160_0 P, o161_0 P, o162_0 P, o163_0 P, o164_0 P, o165_0 P, o166_0 P, o167_0 P, o168_0 P, o169_0 P, o170_0 P, o171_0 P, o172_0 P, o173_0 P, o174_0 P, o175_0 P, o176_0 P, o177_0 P, o178_0 P, o179_0 P, o180_0 P, o181_0 P, o182_0 P])
end Mine
namespace Mine
open PySem PySem.W PySem.Calls PyProof.Rows
theorem abs_LA (P : Params) : absHeap (btr (LA P)) 32 {} = hp (LA P) {} := by kernel_rfl
theorem abs_L1 (P : Params) : absHeap (btr (L1 P)) 32 {} = hp (L1 P) {} := by kernel_rfl
theorem abs_L2 (P : Params) : absHeap (btr (L2 P)) 33 {} = hp (L2 P) {} := by kernel_rfl
theorem abs_L13 (P : Params) : absHeap (btr (L13 P)) 78 {} = hp (L13 P) {} := by kernel_rfl
theorem abs_L14 (P : Params) : absHeap (btr (L14 P)) 89 {} = hp (L14 P) {} := by kernel_rfl
theorem preT (w : World) : (fun os => topGo treeTable pw w 28 (some (.ref 6)) 12 ⟨hp (LS w.params) {}, #[], {}, 276, os⟩ (topStub pw)) = fun os => some (⟨hp (LA w.params) {}, #[], {}, 282, os⟩, ⟨denote treeTable cM, cM, ⟨0, 0, 0, 0⟩, [topFrame q0]⟩) := by kernel_rfl
theorem blockT (w : World) : (fun os => segRun treeTable pw w 28 (some (.ref 6)) 1 1 ⟨hp (LA w.params) {}, #[], {}, 282, os⟩ (blockOf bodyM envM cM ⟨0, 0, 0, 0⟩ [topFrame q0])) = fun os => some (.next, ⟨hp (LA w.params) {}, #[], {}, 282, os⟩, cM, ⟨0, 0, 0, 0⟩) := by kernel_rfl
theorem pc1T (w : World) : (fun os => segRunT treeTable pw w 28 (some (.ref 6)) 1 10 ⟨btr (LA w.params), 32, {}, #[], {}, 282, os⟩ (piecesOf (sts 0 1) envM cM ⟨0, 0, 0, 0⟩ [topFrame q0])) = fun os => some (.next, ⟨btr (L1 w.params), 32, {}, #[], {}, 284, os⟩, cM, ⟨2, 0, 2, 8⟩) := by kernel_rfl
theorem pc1 (w : World) (os : OsState) : segRun treeTable pw w 28 (some (.ref 6)) 1 10 ⟨hp (LA w.params) {}, #[], {}, 282, os⟩ (piecesOf (sts 0 1) envM cM ⟨0, 0, 0, 0⟩ [topFrame q0]) = some (.next, ⟨hp (L1 w.params) {}, #[], {}, 284, os⟩, cM, ⟨2, 0, 2, 8⟩) := by
  have z := segRun_of (congrFun (pc1T w) os)
  unfold SharedT.abs at z
  rw [abs_LA w.params, abs_L1 w.params] at z
  exact z
noncomputable abbrev pc2P (w : World) : Prop := (fun os => segRunT treeTable pw w 28 (some (.ref 6)) 1 141 ⟨btr (L1 w.params), 32, {}, #[], {}, 284, os⟩ (piecesOf (sts 1 2) envM cM ⟨2, 0, 2, 8⟩ [topFrame q0])) = fun os => some (.next, ⟨btr (L2 w.params), 33, {}, #[], {}, 315, os⟩, cM, ⟨3, 0, 3, 19⟩)
theorem pc2F (w : World) : pc2P (w.withFollow "special-get-raises" false) := by kernel_rfl
theorem pc2G (w : World) : pc2P (w.withFollow "special-get-raises" true) := by kernel_rfl
theorem pc2T (w : World) : pc2P w := byRow2 "special-get-raises" pc2F pc2G w
theorem pc2 (w : World) (os : OsState) : segRun treeTable pw w 28 (some (.ref 6)) 1 141 ⟨hp (L1 w.params) {}, #[], {}, 284, os⟩ (piecesOf (sts 1 2) envM cM ⟨2, 0, 2, 8⟩ [topFrame q0]) = some (.next, ⟨hp (L2 w.params) {}, #[], {}, 315, os⟩, cM, ⟨3, 0, 3, 19⟩) := by
  have z := segRun_of (congrFun (pc2T w) os)
  unfold SharedT.abs at z
  rw [abs_L1 w.params, abs_L2 w.params] at z
  exact z
theorem pc13T (w : World) : (fun os => segRunT treeTable pw w 28 (some (.ref 6)) 1 339 ⟨btr (L2 w.params), 33, {}, #[], {}, 315, os⟩ (piecesOf (sts 2 13) envM cM ⟨3, 0, 3, 19⟩ [topFrame q0])) = fun os => some (.next, ⟨btr (L13 w.params), 78, {}, #[], {}, 429, os⟩, cM, ⟨62, 0, 62, 8⟩) := by kernel_rfl
theorem pc13 (w : World) (os : OsState) : segRun treeTable pw w 28 (some (.ref 6)) 1 339 ⟨hp (L2 w.params) {}, #[], {}, 315, os⟩ (piecesOf (sts 2 13) envM cM ⟨3, 0, 3, 19⟩ [topFrame q0]) = some (.next, ⟨hp (L13 w.params) {}, #[], {}, 429, os⟩, cM, ⟨62, 0, 62, 8⟩) := by
  have z := segRun_of (congrFun (pc13T w) os)
  unfold SharedT.abs at z
  rw [abs_L2 w.params, abs_L13 w.params] at z
  exact z
end Mine
namespace Mine
open PySem PySem.W PySem.Calls PyProof.Rows

noncomputable def listNew : { b : Builtin // Builtin.«list.__new__» = b } := by
  refine ⟨?b, ?h⟩
  case h =>
    delta Builtin.«list.__new__»
    rw [splitQ_eq]
noncomputable def myTable (id : String) : Option Builtin := if id = "list.__new__" then some listNew.1 else treeTable id
theorem myTable_eq : treeTable = myTable := by
  funext id
  unfold myTable
  by_cases h : id = "list.__new__"
  · subst h
    rw [if_pos rfl, ← listNew.2]
    kernel_rfl
  · rw [if_neg h]
noncomputable abbrev B1Q (tb : String → Option Builtin) (w : World) : Prop := (fun os => segRunT tb pw w 28 (some (.ref 6)) 1 999 ⟨btr (L13 w.params), 78, {}, #[], {}, 429, os⟩ (piecesOf (sts 13 14) envM cM ⟨62, 0, 62, 8⟩ [topFrame q0])) = fun os => some (.next, ⟨btr (L14 w.params), 89, {}, #[], {}, 489, os⟩, cM, ⟨63, 0, 63, 6⟩)
noncomputable abbrev B1P (w : World) : Prop := B1Q myTable w
theorem b1_ff (w : World) : B1P ((w.withFollow "special-get-raises" false).withFollow "set-order" false) := by kernel_rfl
theorem b1_ft (w : World) : B1P ((w.withFollow "special-get-raises" true).withFollow "set-order" false) := by kernel_rfl
theorem b1_tf (w : World) : B1P ((w.withFollow "special-get-raises" false).withFollow "set-order" true) := by kernel_rfl
theorem b1_tt (w : World) : B1P ((w.withFollow "special-get-raises" true).withFollow "set-order" true) := by kernel_rfl
theorem b1Q (w : World) : B1P w := byRow2 "set-order" (byRow2 "special-get-raises" (P := fun w => B1P (w.withFollow "set-order" false)) b1_ff b1_ft) (byRow2 "special-get-raises" (P := fun w => B1P (w.withFollow "set-order" true)) b1_tf b1_tt) w
theorem b1T (w : World) : B1Q treeTable w := by
  rw [myTable_eq]
  exact b1Q w
theorem pc14 (w : World) (os : OsState) : segRun treeTable pw w 28 (some (.ref 6)) 1 999 ⟨hp (L13 w.params) {}, #[], {}, 429, os⟩ (piecesOf (sts 13 14) envM cM ⟨62, 0, 62, 8⟩ [topFrame q0]) = some (.next, ⟨hp (L14 w.params) {}, #[], {}, 489, os⟩, cM, ⟨63, 0, 63, 6⟩) := by
  have z := segRun_of (congrFun (b1T w) os)
  unfold SharedT.abs at z
  rw [abs_L13 w.params, abs_L14 w.params] at z
  exact z
end Mine
namespace Mine
open PySem PySem.W PySem.Calls PyProof.Rows
theorem abs_L15 (P : Params) : absHeap (btr (L15 P)) 96 {} = hp (L15 P) {} := by kernel_rfl
theorem abs_L16 (P : Params) : absHeap (btr (L16 P)) 135 {} = hp (L16 P) {} := by kernel_rfl
theorem abs_L25 (P : Params) : absHeap (btr (L25 P)) 183 {} = hp (L25 P) {} := by kernel_rfl
theorem pc15T (w : World) : (fun os => segRunT treeTable pw w 28 (some (.ref 6)) 1 30 ⟨btr (L14 w.params), 89, {}, #[], {}, 489, os⟩ (piecesOf (sts 14 15) envM cM ⟨63, 0, 63, 6⟩ [topFrame q0])) = fun os => some (.next, ⟨btr (L15 w.params), 96, {}, #[], {}, 496, os⟩, cM, ⟨64, 0, 65, 30⟩) := by kernel_rfl
theorem pc15 (w : World) (os : OsState) : segRun treeTable pw w 28 (some (.ref 6)) 1 30 ⟨hp (L14 w.params) {}, #[], {}, 489, os⟩ (piecesOf (sts 14 15) envM cM ⟨63, 0, 63, 6⟩ [topFrame q0]) = some (.next, ⟨hp (L15 w.params) {}, #[], {}, 496, os⟩, cM, ⟨64, 0, 65, 30⟩) := by
  have z := segRun_of (congrFun (pc15T w) os)
  unfold SharedT.abs at z
  rw [abs_L14 w.params, abs_L15 w.params] at z
  exact z
theorem pc25T (w : World) : (fun os => segRunT treeTable pw w 28 (some (.ref 6)) 1 242 ⟨btr (L16 w.params), 135, {}, #[], {}, 2447, os⟩ (piecesOf (sts 16 25) envM cM ⟨66, 0, 66, 13⟩ [topFrame q0])) = fun os => some (.next, ⟨btr (L25 w.params), 183, {}, #[], {}, 2513, os⟩, cM, ⟨106, 0, 157, 53⟩) := by kernel_rfl
theorem pc25 (w : World) (os : OsState) : segRun treeTable pw w 28 (some (.ref 6)) 1 242 ⟨hp (L16 w.params) {}, #[], {}, 2447, os⟩ (piecesOf (sts 16 25) envM cM ⟨66, 0, 66, 13⟩ [topFrame q0]) = some (.next, ⟨hp (L25 w.params) {}, #[], {}, 2513, os⟩, cM, ⟨106, 0, 157, 53⟩) := by
  have z := segRun_of (congrFun (pc25T w) os)
  unfold SharedT.abs at z
  rw [abs_L16 w.params, abs_L25 w.params] at z
  exact z

noncomputable def b3st : Str × Pos × Pos := match (bodyM[15]? : Option Stmt) with
  | some (.Assign [.Name x np] _ sp) => (x, np, sp)
  | _ => default
theorem b3_st : sts 15 16 = [.Assign [.Name b3st.1 b3st.2.1] (.Dict b3parts.1 b3parts.2.1 b3parts.2.2) b3st.2.2] := by kernel_rfl
theorem b3_len1 : (litPs0 b3parts.1 b3parts.2.1).length = b3parts.1.length := by kernel_rfl
theorem b3_len2 : b3parts.1.length = b3parts.2.1.length := by kernel_rfl
theorem b3_split : litPs0 b3parts.1 b3parts.2.1 = b3c ++ (b3cs.flatten ++ b3l) := by kernel_rfl
theorem b3_full : Full b3cs := by
  have h : b3cs.all (fun c => c.length == 17) = true := by kernel_rfl
  have g : ∀ cs : List (List (Int × Str)), cs.all (fun c => c.length == 17) = true → Full cs := by
    intro cs
    induction cs with
    | nil => intro _; trivial
    | cons c r ih =>
      intro h
      simp only [List.all_cons, Bool.and_eq_true, beq_iff_eq] at h
      exact ⟨h.1, ih h.2⟩
  exact g _ h
theorem b3_inc : Inc 0 (b3c ++ (b3cs.flatten ++ b3l)) := inc_of (by kernel_rfl)
theorem b3_disp (w : World) (os : OsState) : Ev treeTable pw w 28 (dictDisplay (((litPs0 b3parts.1 b3parts.2.1).map (tr b3parts.2.2)).map someK)) ⟨hp (L15 w.params) {}, #[], {}, 496, os⟩ b3parts.2.2 (.ref 96)
    ⟨hp (L15 w.params ++ (b3main :: b3subs)) {}, #[], {}, 2446, os⟩ b3parts.2.2 12515 := by
  rw [b3_split]
  have lc : b3c.length = 17 := by kernel_rfl
  have lcs : b3cs.length = 37 := by kernel_rfl
  have ll : b3l.length = 4 := by kernel_rfl
  have lB : (L15 w.params).length = 96 := rfl
  have z := ev_display (pr := pw) (w := w) (n₀ := 28) (B := L15 w.params) (life := {}) (gs := #[]) (dr := {}) (os := os) (pos := b3parts.2.2) (p := b3parts.2.2) (tk := 496) (by rw [lB]; rfl) (by rw [lB]; decide) (c := b3c) (cs := b3cs) (l := b3l) lc b3_full (by rw [ll]; decide) (by intro q; rw [q] at ll; cases ll) b3_inc (by rw [lcs]; decide)
  rw [lB, lcs, ll] at z
  exact z
theorem abs_Ld (P : Params) : absHeap (btr (L15 P ++ (b3main :: b3subs))) 135 {} = hp (L15 P ++ (b3main :: b3subs)) {} := by kernel_rfl
theorem b3_tailT (w : World) : (fun os => segRunT treeTable pw w 28 (some (.ref 6)) 1 8 ⟨btr (L15 w.params ++ (b3main :: b3subs)), 135, {}, #[], {}, 2446, os⟩ ⟨(do standAt b3st.2.1; bindName envM b3st.1 (.ref 96); pure .next : Sem Flow).wrap doneF deadEnd id id, cM, b3parts.2.2, [topFrame q0]⟩) = fun os => some (.next, ⟨btr (L16 w.params), 135, {}, #[], {}, 2447, os⟩, cM, ⟨66, 0, 66, 13⟩) := by kernel_rfl
theorem pc16 (w : World) (os : OsState) : segRun treeTable pw w 28 (some (.ref 6)) 1 12525 ⟨hp (L15 w.params) {}, #[], {}, 496, os⟩ (piecesOf (sts 15 16) envM cM ⟨64, 0, 65, 30⟩ [topFrame q0]) = some (.next, ⟨hp (L16 w.params) {}, #[], {}, 2447, os⟩, cM, ⟨66, 0, 66, 13⟩) := by
  have z := segRun_of (congrFun (b3_tailT w) os)
  unfold SharedT.abs at z
  rw [abs_L16 w.params, abs_Ld w.params] at z
  unfold piecesOf
  rw [b3_st]
  exact seg_dict (Nat.le_refl _) b3_len1 b3_len2 (b3_disp w os) z rfl
theorem finT (w : World) (os : OsState) : topRun treeTable pw w 28 (some (.ref 6)) 2 ⟨hp (L25 w.params) {}, #[], {}, 2513, os⟩ ⟨doneF .next, cM, ⟨106, 0, 157, 53⟩, [topFrame q0]⟩ = some ⟨hp (L25 w.params) {}, #[], {}, 2513, os⟩ := by kernel_rfl
end Mine
namespace Mine
open PySem PySem.W PySem.Calls PyProof.Rows
theorem openT (w : World) : (fencedOpening treeTable pw w 28684).map (fun s => (s.heap, s.gens, s.drawn, s.toks)) = some (hp (LS w.params) {}, #[], {}, 276) := by kernel_rfl
end Mine
namespace Mine
open PySem PySem.W PySem.Calls PyProof.Rows

noncomputable def qv : Program := view pw [0, 2, 3, 4, 6, 7, 9, 10, 11, 12, 14, 15, 16, 17, 19, 20, 21, 22, 23, 24, 25]
noncomputable abbrev loose : List Str := [Str.ofString "COMPILER_FLAG_NAMES", Str.ofString "_twin_re_1", Str.ofString "_twin_re_2", Str.ofString "b1_set", Str.ofString "b3_exceptions"]
noncomputable abbrev asK : List Addr := [2, 3, 6, 11, 12, 32, 33, 35, 36, 38, 39, 40, 42, 43, 45, 46, 47, 49, 50, 52, 53, 54, 56, 57, 59, 60, 64, 65, 69, 70, 71, 73, 74, 76, 77, 85, 89, 91, 92, 94, 95, 96, 135, 137, 138, 140, 141, 142, 144, 145, 147, 148, 149, 151, 152, 154, 155, 156, 159, 160, 161, 164, 165, 166, 169, 170, 171, 173, 174, 176, 177, 178, 181, 182]
noncomputable def K (P : Params) : Frag := (nat_lit 2, o2_0 P) :: (nat_lit 3, o3_7 P) :: (nat_lit 6, o6_0 P) :: (nat_lit 11, o11_0 P) :: (nat_lit 12, o12_0 P) :: (nat_lit 32, o32_0 P) :: (nat_lit 33, o33_0 P) :: (nat_lit 35, o35_0 P) :: (nat_lit 36, o36_0 P) :: (nat_lit 38, o38_0 P) :: (nat_lit 39, o39_0 P) :: (nat_lit 40, o40_0 P) :: (nat_lit 42, o42_0 P) :: (nat_lit 43, o43_0 P) :: (nat_lit 45, o45_0 P) :: (nat_lit 46, o46_0 P) :: (nat_lit 47, o47_0 P) :: (nat_lit 49, o49_0 P) :: (nat_lit 50, o50_0 P) :: (nat_lit 52, o52_0 P) :: (nat_lit 53, o53_0 P) :: (nat_lit 54, o54_0 P) :: (nat_lit 56, o56_0 P) :: (nat_lit 57, o57_0 P) :: (nat_lit 59, o59_0 P) :: (nat_lit 60, o60_0 P) :: (nat_lit 64, o64_0 P) :: (nat_lit 65, o65_0 P) :: (nat_lit 69, o69_0 P) :: (nat_lit 70, o70_0 P) :: (nat_lit 71, o71_0 P) :: (nat_lit 73, o73_0 P) :: (nat_lit 74, o74_0 P) :: (nat_lit 76, o76_0 P) :: (nat_lit 77, o77_0 P) :: (nat_lit 85, o85_0 P) :: (nat_lit 89, o89_0 P) :: (nat_lit 91, o91_0 P) :: (nat_lit 92, o92_0 P) :: (nat_lit 94, o94_0 P) :: (nat_lit 95, o95_0 P) :: (nat_lit 96, b3main) :: (nat_lit 135, o135_0 P) :: (nat_lit 137, o137_0 P) :: (nat_lit 138, o138_0 P) :: (nat_lit 140, o140_0 P) :: (nat_lit 141, o141_0 P) :: (nat_lit 142, o142_0 P) :: (nat_lit 144, o144_0 P) :: (nat_lit 145, o145_0 P) :: (nat_lit 147, o147_0 P) :: (nat_lit 148, o148_0 P) :: (nat_lit 149, o149_0 P) :: (nat_lit 151, o151_0 P) :: (nat_lit 152, o152_0 P) :: (nat_lit 154, o154_0 P) :: (nat_lit 155, o155_0 P) :: (nat_lit 156, o156_0 P) :: (nat_lit 159, o159_0 P) :: (nat_lit 160, o160_0 P) :: (nat_lit 161, o161_0 P) :: (nat_lit 164, o164_0 P) :: (nat_lit 165, o165_0 P) :: (nat_lit 166, o166_0 P) :: (nat_lit 169, o169_0 P) :: (nat_lit 170, o170_0 P) :: (nat_lit 171, o171_0 P) :: (nat_lit 173, o173_0 P) :: (nat_lit 174, o174_0 P) :: (nat_lit 176, o176_0 P) :: (nat_lit 177, o177_0 P) :: (nat_lit 178, o178_0 P) :: (nat_lit 181, o181_0 P) :: (nat_lit 182, o182_0 P) :: []
theorem K_keys (P : Params) : asK = (K P).map (·.1) := rfl
noncomputable abbrev HK : Hook := kHook K asK K_keys
noncomputable abbrev Xt (s : Shared) : Bool := xlAt qv [] s && recOk [] s
theorem body_split : bodyM = sts 0 1 ++ (sts 1 2 ++ (sts 2 13 ++ (sts 13 14 ++ (sts 14 15 ++ (sts 15 16 ++ (sts 16 25 ++ [])))))) := by kernel_rfl
theorem sizeT (w : World) : ((hp (LS w.params) {}).isNs mainGlobals && (#[] : Array GenState).size == 0, (hp (LS w.params) {}).objs.size, (hp (LS w.params) {}).nsMap mainGlobals "__annotations__") = (true, 28, (some (.ref 6))) := by kernel_rfl
theorem runT (w : World) (os : OsState) : topRun treeTable pw w 28 (some (.ref 6)) (12 + (1 + (10 + (141 + (339 + (999 + (30 + (12525 + (242 + (2)))))))))) ⟨hp (LS w.params) {}, #[], {}, 276, os⟩ (topStub pw) = some ⟨hp (L25 w.params) {}, #[], {}, 2513, os⟩ := by
  refine go_top (congrFun (preT w) os) ?_
  refine piece_block (congrFun (blockT w) os) ?_
  have e : restOf bodyM envM cM ⟨0, 0, 0, 0⟩ [topFrame q0] = restOf (sts 0 1 ++ (sts 1 2 ++ (sts 2 13 ++ (sts 13 14 ++ (sts 14 15 ++ (sts 15 16 ++ (sts 16 25 ++ []))))))) envM cM ⟨0, 0, 0, 0⟩ [topFrame q0] := congrArg (fun l => restOf l envM cM ⟨0, 0, 0, 0⟩ [topFrame q0]) body_split
  rw [e]
  exact piece_app (pc1 w os) (piece_app (pc2 w os) (piece_app (pc13 w os) (piece_app (pc14 w os) (piece_app (pc15 w os) (piece_app (pc16 w os) (piece_app (pc25 w os) (piece_nil (finT w os))))))))
end Mine
namespace Mine
open PySem PySem.W PySem.Calls PyProof.Rows

theorem lk1 (w : World) : (fun os => (staticsOk (importedModules pw.main.body) (hp (LS w.params) {}) (hp (L25 w.params) {}) && namesBound pw (hp (L25 w.params) {}) && gensDone ⟨hp (L25 w.params) {}, #[], {}, 2513, os⟩ && laidKept (hp (LS w.params) {}) (hp (L25 w.params) {}))) = fun (_ : OsState) => true := by kernel_rfl
theorem lk2 (w : World) : (fun os => openSeen qv loose (importedModules pw.main.body) Xt true ⟨hp (L25 w.params) {}, #[], {}, 2513, os⟩) = fun (_ : OsState) => openGood qv loose := by kernel_rfl
theorem lk3 (w : World) : (fun os => HK.obs ⟨hp (L25 w.params) {}, #[], {}, 2513, os⟩) = fun (_ : OsState) => HK.val w := by kernel_rfl
theorem left : LeftO pw qv loose Xt HK.obs HK.val 28684 := LeftO.of_pieces (H₀ := fun P => hp (LS P) {}) (H₁ := fun P => hp (L25 P) {}) (gs₀ := #[]) (gs₁ := #[]) (d₀ := {}) (d₁ := {}) (k₀ := 276) (k₁ := 2513) (m₀ := 28) (ann := (some (.ref 6))) (M := 12 + (1 + (10 + (141 + (339 + (999 + (30 + (12525 + (242 + (2))))))))))
  openT sizeT runT (by rfl) fun w => funext fun os => looks_pair (congrFun (lk1 w) os) (looks_pair (congrFun (lk2 w) os) (congrFun (lk3 w) os))
end Mine
namespace Mine
open PySem PySem.W PySem.Calls PyProof.Rows PySem.Spec

noncomputable abbrev rwp : Program := PySem.Challenge.rw_sr0066_01.prog
noncomputable abbrev Ctr (w : World) (loose : List Str) (mean : ExcName → Option Value) (mg mb : Str → Option Value) (f : Addr) (pre : Prop) (vs : List Value) (R : Tok → Value) : Prop :=
  ∀ news : List (Addr × Obj), CbClaim rwp w (K w.params) qv loose mean mg mb f news [] pre vs R

/-- a contract, ready for `apply` -/
noncomputable abbrev CtrU (w : World) (loose : List Str) (mean : ExcName → Option Value) (mg mb : Str → Option Value) (f : Addr) (vs : List Value) (R : Tok → Value) : Prop :=
  ∀ {news : List (Addr × Obj)} {dp un : Nat} {gd : Option (List Code)} {cn : Str} {cs : Scope} {a : Addr} {ccd : Value} {cl : List (Str × Addr)} {outer : List Env} {A₀ : Around} {base h₀ : Heap} {L : Addr} {m : Str → Option Value} {s : Shared} {Q E : Value → Shared → Prop},
    Below A₀ base outer h₀ → Fr h₀ L s.heap m → (K w.params).In h₀ → News h₀ L s.heap news → Top qv loose mean mg mb h₀ → cs.kind = .function →
    dp + 1 < recursionLimit → un + 8 < cLine → CbRet h₀ L m news s Q R → wpAny (model rwp w) (ktrTop dp un gd cn cs L a ccd cl outer) (call (.ref f) vs) Q E s
theorem ctr_use {w : World} {loose : List Str} {mean : ExcName → Option Value} {mg mb : Str → Option Value} {f : Addr} {vs : List Value} {R : Tok → Value} (C : Ctr w loose mean mg mb f True vs R) : CtrU w loose mean mg mb f vs R :=
  fun k1 k2 k3 k4 k5 kK kd ku kR => C _ _ _ _ _ _ _ _ _ _ _ _ _ _ _ _ _ _ k1 k2 k3 k4 k5 kK trivial kd ku kR
noncomputable def dumP : Params := { strHash := fun _ => 0, shareClass := fun _ => 0, mergeTok := fun t => t, idOf := fun _ => 0, idOfShared := fun _ _ => 0, followText := fun _ => false, idOfImm := fun _ => 0 }
noncomputable def b1es : Array (Int × Value) := match (o85_0 dumP).data with
  | .set es _ _ => es
  | _ => #[]
noncomputable def inB1 (n : Int) : Bool := b1es.toList.any fun e => Value.isInt n e.2
theorem b1_obj (P : Params) : ∃ t, o85_0 P = { cls := .type "set", dict := none, data := .set b1es 29 t } ∧ t.fits 27 = true := ⟨_, rfl, rfl⟩
theorem b1_size : b1es.size = 27 := rfl
theorem b1_all : b1es.toList.all (fun e => match e.2 with | .int n _ => e.1 == hashInt n | _ => false) = true := by kernel_rfl
theorem b1_set (prog : Program) (w : World) (P : Params) : (o85_0 P).SetObjOf (intKind prog w) inB1 27 := by
  obtain ⟨t, e, hf⟩ := b1_obj P
  refine ⟨by rw [e]; exact ⟨rfl, rfl, rfl⟩, b1es, 29, t, by rw [e], fun x hx => ?_, fun k => ?_, b1_size, by rw [b1_size]; exact hf⟩
  · have h := List.all_eq_true.mp b1_all x hx
    obtain ⟨hh, v⟩ := x
    cases v with
    | int n tk => exact ⟨⟨n, intKind_is prog w n tk, by show hh = hashInt n; simpa using h⟩, rfl⟩
    | _ => cases h
  · unfold inB1
    rw [List.any_eq_true]
    rfl
theorem in_b1 {w : World} {A : Around} {E : Value → Shared → Prop} {s : Shared} {h₀ : Heap} {L : Addr} {m : Str → Option Value} {n : Int} {t : Tok} {Q : Value → Shared → Prop} (F : Fr h₀ L s.heap m) (X : (K w.params).In h₀)
    (h : Q (.bool (inB1 n)) { s with toks := s.toks + 1 }) : wpAny (model rwp w) A (compareOp .In (.int n t) (.ref 85)) Q E s :=
  wpAny_inSet_of (knd := intKind rwp w) (intKind_is _ _ _ _) rfl ((b1_set rwp w w.params).setOf (F.keep _ _ (X 85 _ rfl)) (by decide)) h
local macro_rules | `(tactic| walk_at "compareOp In int ref") => `(tactic| with_reducible apply in_b1; k_asm; k_asm)

set_option maxHeartbeats 8000000 in
theorem c_in_b1 (w : World) (loose : List Str) (mean : ExcName → Option Value) (mg mb : Str → Option Value) (c : Nat) (t : Tok) :
   Ctr w loose mean mg mb 95 True [.str ⟨#[c]⟩ t] (fun _ => .bool (inB1 c)) := by
  unfold Ctr rwp
  k_fill
  dsimp only [CbClaim, CbLists, CbRet]
  intros; rename_i hret
  refine wpAny_call ?_
  k_dflt cell_enter
  k_steps
  all_goals cb_end hret
theorem call_in_b1 {w : World} {loose : List Str} {mean : ExcName → Option Value} {mg mb : Str → Option Value} {c : Nat} {t : Tok} : CtrU w loose mean mg mb 95 [.str ⟨#[c]⟩ t] (fun _ => .bool (inB1 c)) := ctr_use (c_in_b1 w loose mean mg mb c t)
theorem at95 {M : Model} {A : Around} {E Q : Value → Shared → Prop} {s : Shared} {vs} (h : wpAny M A (call (.ref 95) vs) Q E s) : wpAny M A (call (.ref 95) vs) Q E s := h
end Mine
namespace Mine
open PySem PySem.W PySem.Calls PyProof.Rows PySem.Spec

noncomputable def b3es : Array DictEntry := match b3main.data with
  | .dict es _ => es
  | _ => #[]
theorem b3_obj : b3main = { cls := .type "dict", data := .dict b3es 650 } := by kernel_rfl
theorem b3_all : b3es.toList.all (fun e => match e.key, e.val with | .int n _, .str _ _ => e.hash == hashInt n | _, _ => false) = true := by kernel_rfl
noncomputable def b3f (n : Int) : Option Value := findBy Value.isInt b3es n
theorem b3_shape {e : DictEntry} (he : e ∈ b3es) : ∃ n tk x u, e.hash = hashInt n ∧ e.key = .int n tk ∧ e.val = .str x u := by
  have h := List.all_eq_true.mp b3_all e (Array.mem_toList_iff.mpr he)
  obtain ⟨hh, key, val⟩ := e
  cases key with
  | int n tk =>
    cases val with
    | str x u => exact ⟨n, tk, x, u, eq_of_beq h, rfl, rfl⟩
    | _ => cases h
  | _ => cases h
theorem b3_keys (prog : Program) (w : World) : KeysOf (intKind prog w) b3es := fun e he => by
  obtain ⟨n, tk, x, u, a, b, c⟩ := b3_shape he
  exact ⟨n, b ▸ intKind_is prog w n tk, a⟩
theorem b3_map {prog : Program} {w : World} {h : Heap} (hx : h.get? 96 = some b3main) : h.MapOf (intKind prog w) 96 b3f :=
  ⟨_, b3es, 650, hx, (by rw [b3_obj]; exact ⟨rfl, rfl, rfl⟩), (by rw [b3_obj]), b3_keys prog w, fun _ => rfl⟩
theorem b3_str {n : Int} {v : Value} (h : b3f n = some v) : ∃ x t, v = .str x t := by
  unfold b3f findBy at h
  obtain ⟨e, he, hv⟩ := Option.map_eq_some_iff.mp h
  obtain ⟨n, tk, x, u, a, b, c⟩ := b3_shape (Array.mem_of_find?_eq_some he)
  exact ⟨x, u, hv.symm.trans c⟩
/-- what map_table_b3 gives of one sign -/
noncomputable def b3 (c : Nat) : Str := match b3f c with
  | some (.str x _) => x
  | _ => Txt.lower ⟨#[c]⟩
theorem b3_some {c : Nat} {x : Str} {t : Tok} (h : b3f c = some (.str x t)) : b3 c = x := by unfold b3; rw [h]
theorem b3_none {c : Nat} (h : b3f c = none) : b3 c = Txt.lower ⟨#[c]⟩ := by unfold b3; rw [h]
section
variable {w : World} {A : Around} {E : Value → Shared → Prop} {s : Shared} {h₀ : Heap} {L : Addr} {m : Str → Option Value}
theorem meth_b3 {pl : Sem Bool} {Q : Value × List Value → Shared → Prop} (F : Fr h₀ L s.heap m) (X : (K w.params).In h₀) (h : Q (.builtin "dict.get", [.ref 96]) s) : wpAny (model rwp w) A (getMethod (.ref 96) "get" pl) Q E s :=
  have hm : s.heap.MapOf (intKind rwp w) 96 b3f := b3_map (F.keep _ _ (X 96 _ rfl))
  getMethod_builtin hm.typeIs PySem.F.plainAttrs_dict PySem.F.slot_dict_get PySem.F.type_dict_get hm.noDict h
theorem get_b3 {n : Int} {t : Tok} {Q : Value → Shared → Prop} (F : Fr h₀ L s.heap m) (X : (K w.params).In h₀) (h1 : ∀ x u, b3f n = some (.str x u) → Q (.str x u) { s with toks := s.toks + 1 }) (h2 : b3f n = none → Q .none { s with toks := s.toks + 1 }) :
    wpAny (model rwp w) A (call (.builtin "dict.get") [.ref 96, .int n t]) Q E s := by
  have hm : s.heap.MapOf (intKind rwp w) 96 b3f := b3_map (F.keep _ _ (X 96 _ rfl))
  refine call_meetsIn PySem.F.slot_dict_get hm.typeIs PySem.F.entry_dict_get (PySem.F.args_dict_get_2 _ _) (meets_dict_get (intKind rwp w) 96 (intKind_is _ _ _ _) rfl) ⟨_, hm, ?_⟩
  cases e : b3f n with
  | none => exact h2 e
  | some v =>
    obtain ⟨x, u, rfl⟩ := b3_str e
    exact h1 x u e
end
local macro_rules | `(tactic| walk_at "getMethod ref") => `(tactic| with_reducible apply meth_b3; k_asm; k_asm)
local macro_rules | `(tactic| walk_at "call builtin:dict.get") => `(tactic| with_reducible apply get_b3; k_asm; k_asm; intros)

theorem low_short (c : Nat) : PySem.Builtin.Str.tooLong (Txt.lower ⟨#[c]⟩).length = false := PyProof.Rows.fit_lower (show (1 : Nat) ≤ 5592405 by decide)
theorem low_one {w : World} {A : Around} {E : Value → Shared → Prop} {s : Shared} {c : Nat} {t : Tok} {Q : Value → Shared → Prop} (h : Q (.str (Txt.lower ⟨#[c]⟩) s.toks) { s with toks := s.toks + 1 }) : wpAny (model rwp w) A (call (.builtin "str.lower") [.str ⟨#[c]⟩ t]) Q E s := SC.lower (low_short c) h
local macro_rules | `(tactic| walk_at "call builtin:str.lower") => `(tactic| k_dflt apply low_one)
set_option maxHeartbeats 8000000 in
theorem c_b3 (w : World) (loose : List Str) (mean : ExcName → Option Value) (mg mb : Str → Option Value) (c : Nat) (t : Tok) :
   Ctr w loose mean mg mb 141 True [.str ⟨#[c]⟩ t] (fun t => .str (b3 c) t) := by
  unfold Ctr rwp
  k_fill
  dsimp only [CbClaim, CbLists, CbRet]
  intros; rename_i hret
  refine wpAny_call ?_
  k_dflt cell_enter
  k_steps
  · rename b3f _ = some _ => hb
    rw [b3_some hb] at hret
    cb_end hret
  · rename b3f _ = none => hb
    rw [b3_none hb] at hret
    cb_end hret
theorem call_b3 {w : World} {loose : List Str} {mean : ExcName → Option Value} {mg mb : Str → Option Value} {c : Nat} {t : Tok} : CtrU w loose mean mg mb 141 [.str ⟨#[c]⟩ t] (fun t => .str (b3 c) t) := ctr_use (c_b3 w loose mean mg mb c t)
theorem at141 {M : Model} {A : Around} {E Q : Value → Shared → Prop} {s : Shared} {vs} (h : wpAny M A (call (.ref 141) vs) Q E s) : wpAny M A (call (.ref 141) vs) Q E s := h
end Mine
namespace Mine
open PySem PySem.Sre PySem.Sre.M

theorem runFor_done {m : M} (h : m.outcome.isSome = true) : ∀ n, runFor n m = m
  | 0 => rfl
  | n + 1 => by show (if m.outcome.isSome = true then m else _) = m; rw [if_pos h]
theorem step_done {m : M} (h : m.outcome.isSome = true) : m.step = m := by unfold M.step; rw [if_pos h]
theorem runFor_succ (n : Nat) (m : M) : runFor (n + 1) m = runFor n m.step := by
  show (if m.outcome.isSome = true then m else runFor n m.step) = _
  by_cases h : m.outcome.isSome = true
  · rw [if_pos h, step_done h, runFor_done h]
  · rw [if_neg h]
theorem runFor_add : ∀ (a b : Nat) (m : M), runFor (a + b) m = runFor b (runFor a m)
  | 0, b, m => by rw [Nat.zero_add]; rfl
  | a + 1, b, m => by rw [Nat.succ_add, runFor_succ, runFor_succ, runFor_add a b]
/-- a run of k steps at most ends at m' -/
noncomputable def Ends (k : Nat) (m m' : M) : Prop := runFor k m = m' ∧ m'.outcome.isSome = true
theorem Ends.more {k n : Nat} {m m' : M} (h : Ends k m m') (hn : k ≤ n) : Ends n m m' := by
  obtain ⟨d, rfl⟩ := Nat.le.dest hn
  exact ⟨by rw [runFor_add, h.1, runFor_done h.2], h.2⟩
theorem Ends.step {k : Nat} {m m' : M} (h : Ends k m.step m') : Ends (k + 1) m m' := ⟨by rw [runFor_succ]; exact h.1, h.2⟩
theorem Ends.here {m : M} (h : m.outcome.isSome = true) : Ends 0 m m := ⟨rfl, h⟩

section
variable {Md : Model} {A : Around} {E : Value → Shared → Prop} {s : Shared} {Q : M → Shared → Prop}
open PySem.Builtin.Re
theorem wp_drive : ∀ (turns j : Nat) (m m' : M), j < turns → Ends (4 * (j + 1)) m m' → Q m' s → wpAny Md A (reDrive turns m) Q E s
  | 0, j, m, m', h, _, _ => absurd h (Nat.not_lt_zero _)
  | turns + 1, j, m, m', h, he, hq => by
    show wpAny Md A (if (runFor 4 m).outcome.isSome = true then pure (runFor 4 m) else (rule "sre.turn" >>= fun _ => reDrive turns (runFor 4 m))) Q E s
    by_cases ho : (runFor 4 m).outcome.isSome = true
    · rw [if_pos ho]
      have : runFor 4 m = m' := by rw [← he.1, show 4 * (j + 1) = 4 + 4 * j by omega, runFor_add, runFor_done ho]
      rw [this]
      exact wpAny_pure hq
    · rw [if_neg ho]
      refine wpAny_bind (wpAny_rule ?_)
      cases j with
      | zero => exact absurd (by rw [show runFor 4 m = m' from he.1]; exact he.2) ho
      | succ j =>
        refine wp_drive turns j _ m' (by omega) ⟨?_, he.2⟩ hq
        rw [← he.1, show 4 * (j + 1 + 1) = 4 + 4 * (j + 1) by omega, runFor_add]
theorem wp_rules {m : M} {Q : PUnit → Shared → Prop} (h : Q ⟨⟩ s) : ∀ l : List Nat, wpAny Md A (forIn l PUnit.unit fun i _ => do
    if m.seen.has i then rule (Sre.names.getD i "")
    pure (ForInStep.yield PUnit.unit)) Q E s := fun l =>
  wpAny_forIn_list _ (fun _ _ s' => s' = s) Q (fun x l b s' hs => by
    subst hs
    dsimp only
    split
    · exact wpAny_bind (wpAny_rule (wpAny_pure rfl))
    · exact wpAny_pure rfl) (fun b s' hs => by subst hs; exact h) l _ rfl
theorem wp_toEnd {m m' : M} {k : Nat} {Q : Option M → Shared → Prop} (he : Ends k m m') (hk : k ≤ 2 ^ 64)
    (h1 : m'.outcome = some .matched → Q (some m') s) (h2 : m'.outcome = some .failed → Q none s) (h3 : ∀ why, m'.outcome ≠ some (.stuck why)) : wpAny Md A (reRunToEnd m) Q E s := by
  unfold reRunToEnd
  refine wpAny_bind (wp_drive (2 ^ 64) (2 ^ 62) m m' (by decide) (he.more (by omega)) ?_)
  refine wpAny_bind (wp_rules ?_ _)
  have := he.2
  cases ho : m'.outcome with
  | none => rw [ho] at this; cases this
  | some o =>
    cases o with
    | matched => exact wpAny_pure (h1 ho)
    | failed => exact wpAny_pure (h2 ho)
    | stuck why => exact absurd ho (h3 why)
end
end Mine
set_option linter.unusedSimpArgs false
namespace Mine
open PySem PySem.Sre PySem.Sre.M

/-- a machine without marks and loops -/
noncomputable abbrev mst (C x : Array Nat) (lim start last : Nat) (must : Bool) (pc pos handed : Nat) (out : Bool) (frames : List Sre.Frame) (weight : Nat) (answer : Option Bool) (seen : Seen) (outcome : Option Sre.Outcome) : M :=
  { code := C, text := x, lim := lim, start := start, lastStart := last, mustAdvance := must, pc := pc, pos := pos, handed := handed, outermost := out, marks := #[], frames := frames, weight := weight, answer := answer, seen := seen, outcome := outcome }
noncomputable abbrev fr0 (wt : Wait) (pc pos : Nat) (out : Bool) : Sre.Frame := { wait := wt, pc := pc, pos := pos, outermost := out }

section
variable {C x : Array Nat} {lim start last pc pos handed wg : Nat} {must out : Bool} {fs : List Sre.Frame} {seen : Seen}
theorem st_lit_no (hw : C.getD pc 0 = 16) (hpc : pc < C.size) (hp : ¬ pos < lim ∨ x.getD pos 0 ≠ C.getD (pc + 1) 0) :
    ∃ seen', M.step (mst C x lim start last must pc pos handed out fs wg none seen none) = mst C x lim start last must pc pos handed out fs wg (some false) seen' none := by
  have ho : ops[(16 : Nat)]? = some Op.LITERAL := rfl
  by_cases h : pos < lim
  · have hc : (x.getD pos 0 == C.getD (pc + 1) 0) = false := by
      rcases hp with hp | hp
      · exact absurd h hp
      · simpa using hp
    refine ⟨seen.add 16, ?_⟩
    simp only [M.step, Option.isSome_none, Bool.false_eq_true, if_false, hpc, if_true, M.exec, M.word, Nat.add_zero, hw, ho, show ¬ pos ≥ lim by omega, accepts, hc, M.say]
  · refine ⟨seen.add 16, ?_⟩
    simp only [M.step, Option.isSome_none, Bool.false_eq_true, if_false, hpc, if_true, M.exec, M.word, Nat.add_zero, hw, ho, show pos ≥ lim by omega, M.say]
theorem st_lit (hw : C.getD pc 0 = 16) (hpc : pc < C.size) (hp : pos < lim) (hc : x.getD pos 0 = C.getD (pc + 1) 0) :
    ∃ seen', M.step (mst C x lim start last must pc pos handed out fs wg none seen none) = mst C x lim start last must (pc + 2) (pos + 1) handed out fs wg none seen' none := by
  have ho : ops[(16 : Nat)]? = some Op.LITERAL := rfl
  have hc : (x.getD pos 0 == C.getD (pc + 1) 0) = true := by simpa using hc
  refine ⟨seen.add 16, ?_⟩
  simp only [M.step, Option.isSome_none, Bool.false_eq_true, if_false, hpc, if_true, M.exec, M.word, Nat.add_zero, hw, ho, show ¬ pos ≥ lim by omega, accepts, hc, itemWidth]
theorem st_jump (hw : C.getD pc 0 = 15) (hpc : pc < C.size) :
    ∃ seen', M.step (mst C x lim start last must pc pos handed out fs wg none seen none) = mst C x lim start last must (pc + 1 + C.getD (pc + 1) 0) pos handed out fs wg none seen' none := by
  have ho : ops[(15 : Nat)]? = some Op.JUMP := rfl
  refine ⟨seen.add 15, ?_⟩
  simp only [M.step, Option.isSome_none, Bool.false_eq_true, if_false, hpc, if_true, M.exec, M.word, Nat.add_zero, hw, ho]
theorem st_succ (hw : C.getD pc 0 = 1) (hpc : pc < C.size) (hm : out = false ∨ pos ≠ start) :
    ∃ seen', M.step (mst C x lim start last must pc pos handed out fs wg none seen none) = mst C x lim start last must pc pos pos out fs wg (some true) seen' none := by
  have ho : ops[(1 : Nat)]? = some Op.SUCCESS := rfl
  have hc : (out && (false && (pos != lim) || must && pos == start)) = false := by
    rcases hm with rfl | hm
    · rfl
    · rw [Bool.false_and, Bool.false_or, show (pos == start) = false by simpa using hm, Bool.and_false, Bool.and_false]
  refine ⟨seen.add 1, ?_⟩
  simp only [M.step, Option.isSome_none, Bool.false_eq_true, if_false, hpc, if_true, M.exec, M.word, Nat.add_zero, hw, ho, hc, M.say]
/-- AT_BEGINNING_LINE -/
theorem st_at (hw : C.getD pc 0 = 6) (hw1 : C.getD (pc + 1) 0 = 1) (hpc : pc < C.size) (b : Bool) (hb : (pos == 0 || x.getD (pos - 1) 0 == 10) = b) :
    ∃ seen', M.step (mst C x lim start last must pc pos handed out fs wg none seen none) = (if b = true then mst C x lim start last must (pc + 2) pos handed out fs wg none seen' none else mst C x lim start last must pc pos handed out fs wg (some false) seen' none) := by
  have ho : ops[(6 : Nat)]? = some Op.AT := rfl
  refine ⟨(seen.add 6).add (43 + 1), ?_⟩
  simp only [M.step, Option.isSome_none, Bool.false_eq_true, if_false, hpc, if_true, M.exec, M.word, Nat.add_zero, hw, hw1, ho, M.isAt, hb, M.say]
theorem st_yes0 : M.step (mst C x lim start last must pc pos handed out [] wg (some true) seen none) = mst C x lim start last must pc pos handed out [] wg (some true) seen (some .matched) := rfl
theorem st_no0 : M.step (mst C x lim start last must pc pos handed out [] wg (some false) seen none) = mst C x lim start last must pc pos handed out [] wg (some false) seen (some .failed) := rfl
/-- a frame that hands a yes on -/
theorem st_yes {wt : Wait} {p q : Nat} {o : Bool} {k : Sre.Kept} (h : wt = .nextStart ∨ wt = .nextBranch) :
    M.step (mst C x lim start last must pc pos handed out ({ wait := wt, pc := p, pos := q, outermost := o, kept := k } :: fs) wg (some true) seen none) = mst C x lim start last must p q handed o fs (wg - (1 + k.marks.size)) (some true) seen none := by
  rcases h with rfl | rfl <;> rfl
end

/-- the code of the line ends: \r\n, \n, or \r without \n behind it -/
noncomputable def C2 : Array Nat := #[14, 9, 4, 1, 2, 16, 10, 16, 13, 0, 7, 7, 16, 13, 16, 10, 15, 18, 5, 16, 10, 15, 13, 11, 16, 13, 5, 5, 0, 16, 10, 1, 15, 2, 0, 1]
/-- the code of a dot at a line's begin -/
noncomputable def C1 : Array Nat := #[14, 4, 0, 1, 1, 6, 1, 16, 46, 1]

theorem c2_set (c : Nat) (seen : Seen) : ∃ seen', inSet C2 c C2.size 5 true seen = .ok (c == 10 || c == 13, seen') := by
  by_cases h10 : c = 10
  · subst h10; exact ⟨_, rfl⟩
  · by_cases h13 : c = 13
    · subst h13; exact ⟨_, rfl⟩
    · have e1 : (c == 10) = false := by simpa using h10
      have e2 : (c == 13) = false := by simpa using h13
      refine ⟨((seen.add 16).add 16).add 0, ?_⟩
      rw [e1, e2]
      show (if (c == 10) = true then _ else if (c == 13) = true then _ else _) = _
      rw [e1, e2]
      rfl
end Mine
set_option linter.unusedSimpArgs false
namespace Mine
open PySem PySem.Sre PySem.Sre.M

section
variable {C x : Array Nat} {lim start last pc pos handed wg : Nat} {must out : Bool} {fs : List Sre.Frame} {seen : Seen}
theorem att_eq {a : Option Bool} {oc : Option Sre.Outcome} {f : Sre.Frame} {t fm : Nat} {o : Bool} (hf : f.kept.marks.size = 0) (hw : wg < 1000) :
    M.attempt (mst C x lim start last must pc pos handed out fs wg a seen oc) f t fm o = mst C x lim start last must t fm fm o (f :: fs) (wg + 1) a seen oc := by
  unfold M.attempt
  rw [hf]
  rw [if_neg (by show ¬ wg + 1 + 0 > 16777216; omega)]
theorem st_branch (hw : wg < 1000) :
    ∃ seen', M.step (mst C2 x lim start last must 10 pos handed out fs wg none seen none) = mst C2 x lim start last must 12 pos pos out (fr0 .nextBranch 11 pos out :: fs) (wg + 1) none seen' none := by
  refine ⟨seen.add 7, ?_⟩
  show M.attempt (mst C2 x lim start last must 10 pos handed out fs wg none (seen.add 7) none) (fr0 .nextBranch 11 pos out) 12 pos out = _
  rw [att_eq rfl hw]
theorem st_next1 {p q : Nat} {o : Bool} (hw : wg < 1000) :
    M.step (mst C2 x lim start last must pc pos handed out (fr0 .nextBranch 11 q o :: fs) wg (some false) seen none) = mst C2 x lim start last must 19 q q o (fr0 .nextBranch 18 q o :: fs) (wg - 1 + 1) none seen none := by
  show M.attempt (mst C2 x lim start last must 11 q handed o fs (wg - 1) none seen none) (fr0 .nextBranch 18 q o) 19 q o = _
  rw [att_eq rfl (by omega)]
theorem st_next2 {p q : Nat} {o : Bool} (hw : wg < 1000) :
    M.step (mst C2 x lim start last must pc pos handed out (fr0 .nextBranch 18 q o :: fs) wg (some false) seen none) = mst C2 x lim start last must 24 q q o (fr0 .nextBranch 23 q o :: fs) (wg - 1 + 1) none seen none := by
  show M.attempt (mst C2 x lim start last must 18 q handed o fs (wg - 1) none seen none) (fr0 .nextBranch 23 q o) 24 q o = _
  rw [att_eq rfl (by omega)]
theorem st_assert (hw : wg < 1000) :
    ∃ seen', M.step (mst C2 x lim start last must 26 pos handed out fs wg none seen none) = mst C2 x lim start last must 29 pos pos false (fr0 .lookNot 26 pos out :: fs) (wg + 1) none seen' none := by
  refine ⟨seen.add 5, ?_⟩
  show M.attempt (mst C2 x lim start last must 26 pos handed out fs wg none (seen.add 5) none) (fr0 .lookNot 26 pos out) 29 pos false = _
  rw [att_eq rfl hw]
theorem st_lookNo {q : Nat} {o : Bool} :
    M.step (mst C2 x lim start last must pc pos handed out (fr0 .lookNot 26 q o :: fs) wg (some false) seen none) = mst C2 x lim start last must 32 q handed o fs (wg - 1) none seen none := rfl
end

/-- the end of a line end that begins at b -/
noncomputable def e2 (x : Array Nat) (b : Nat) : Nat := if x.getD b 0 = 13 ∧ b + 1 < x.size ∧ x.getD (b + 1) 0 = 10 then b + 2 else b + 1

theorem ends_of {k : Nat} {m m₁ m' : M} (e : m.step = m₁) (h : Ends k m₁ m') : Ends (k + 1) m m' := Ends.step (e ▸ h)

theorem run2_at {x : Array Nat} {start last b handed wg : Nat} {must out : Bool} {seen : Seen} (hb : b < x.size) (hc : x.getD b 0 = 10 ∨ x.getD b 0 = 13) (hw : wg < 900) {o : Bool} {q p : Nat} (hs : start = b) :
    ∃ m' : M, Ends 25 (mst C2 x x.size start last must 10 b handed out [fr0 .nextStart p q o] wg none seen none) m' ∧ m'.outcome = some .matched ∧ m'.start = b ∧ m'.handed = e2 x b := by
  obtain ⟨s1, h1⟩ := st_branch (x := x) (lim := x.size) (start := start) (last := last) (must := must) (pos := b) (handed := handed) (out := out) (fs := [fr0 .nextStart p q o]) (wg := wg) (seen := seen) (by omega)
  by_cases h13 : x.getD b 0 = 13
  · obtain ⟨s2, h2⟩ := st_lit (C := C2) (x := x) (lim := x.size) (start := start) (last := last) (must := must) (pc := 12) (pos := b) (handed := b) (out := out) (fs := [fr0 .nextBranch 11 b out, fr0 .nextStart p q o]) (wg := wg + 1) (seen := s1) rfl (by decide) hb h13
    by_cases h10 : b + 1 < x.size ∧ x.getD (b + 1) 0 = 10
    · obtain ⟨s3, h3⟩ := st_lit (C := C2) (x := x) (lim := x.size) (start := start) (last := last) (must := must) (pc := 14) (pos := b + 1) (handed := b) (out := out) (fs := [fr0 .nextBranch 11 b out, fr0 .nextStart p q o]) (wg := wg + 1) (seen := s2) rfl (by decide) h10.1 h10.2
      obtain ⟨s4, h4⟩ := st_jump (C := C2) (x := x) (lim := x.size) (start := start) (last := last) (must := must) (pc := 16) (pos := b + 2) (handed := b) (out := out) (fs := [fr0 .nextBranch 11 b out, fr0 .nextStart p q o]) (wg := wg + 1) (seen := s3) rfl (by decide)
      obtain ⟨s5, h5⟩ := st_succ (C := C2) (x := x) (lim := x.size) (start := start) (last := last) (must := must) (pc := 35) (pos := b + 2) (handed := b) (out := out) (fs := [fr0 .nextBranch 11 b out, fr0 .nextStart p q o]) (wg := wg + 1) (seen := s4) rfl (by decide) (.inr (by omega))
      refine ⟨_, Ends.more (ends_of h1 (ends_of h2 (ends_of h3 (ends_of h4 (ends_of h5 (ends_of (st_yes (.inr rfl)) (ends_of (st_yes (.inl rfl)) (ends_of st_yes0 (Ends.here rfl))))))))) (by decide), rfl, hs, ?_⟩
      show b + 2 = e2 x b
      unfold e2; rw [if_pos ⟨h13, h10⟩]
    · obtain ⟨s3, h3⟩ := st_lit_no (C := C2) (x := x) (lim := x.size) (start := start) (last := last) (must := must) (pc := 14) (pos := b + 1) (handed := b) (out := out) (fs := [fr0 .nextBranch 11 b out, fr0 .nextStart p q o]) (wg := wg + 1) (seen := s2) rfl (by decide) (Decidable.not_and_iff_or_not.mp h10)
      obtain ⟨s4, h4⟩ := st_lit_no (C := C2) (x := x) (lim := x.size) (start := start) (last := last) (must := must) (pc := 19) (pos := b) (handed := b) (out := out) (fs := [fr0 .nextBranch 18 b out, fr0 .nextStart p q o]) (wg := wg + 1 - 1 + 1) (seen := s3) rfl (by decide) (.inr (by rw [h13]; decide))
      obtain ⟨s5, h5⟩ := st_lit (C := C2) (x := x) (lim := x.size) (start := start) (last := last) (must := must) (pc := 24) (pos := b) (handed := b) (out := out) (fs := [fr0 .nextBranch 23 b out, fr0 .nextStart p q o]) (wg := wg + 1 - 1 + 1 - 1 + 1) (seen := s4) rfl (by decide) hb h13
      obtain ⟨s6, h6⟩ := st_assert (x := x) (lim := x.size) (start := start) (last := last) (must := must) (pos := b + 1) (handed := b) (out := out) (fs := [fr0 .nextBranch 23 b out, fr0 .nextStart p q o]) (wg := wg + 1 - 1 + 1 - 1 + 1) (seen := s5) (by omega)
      obtain ⟨s7, h7⟩ := st_lit_no (C := C2) (x := x) (lim := x.size) (start := start) (last := last) (must := must) (pc := 29) (pos := b + 1) (handed := b + 1) (out := false) (fs := [fr0 .lookNot 26 (b + 1) out, fr0 .nextBranch 23 b out, fr0 .nextStart p q o]) (wg := wg + 1 - 1 + 1 - 1 + 1 + 1) (seen := s6) rfl (by decide) (Decidable.not_and_iff_or_not.mp h10)
      obtain ⟨s8, h8⟩ := st_jump (C := C2) (x := x) (lim := x.size) (start := start) (last := last) (must := must) (pc := 32) (pos := b + 1) (handed := b + 1) (out := out) (fs := [fr0 .nextBranch 23 b out, fr0 .nextStart p q o]) (wg := wg + 1 - 1 + 1 - 1 + 1 + 1 - 1) (seen := s7) rfl (by decide)
      obtain ⟨s9, h9⟩ := st_succ (C := C2) (x := x) (lim := x.size) (start := start) (last := last) (must := must) (pc := 35) (pos := b + 1) (handed := b + 1) (out := out) (fs := [fr0 .nextBranch 23 b out, fr0 .nextStart p q o]) (wg := wg + 1 - 1 + 1 - 1 + 1 + 1 - 1) (seen := s8) rfl (by decide) (.inr (by omega))
      refine ⟨_, Ends.more (ends_of h1 (ends_of h2 (ends_of h3 (ends_of (st_next1 (p := 0) (by omega)) (ends_of h4 (ends_of (st_next2 (p := 0) (by omega)) (ends_of h5 (ends_of h6 (ends_of h7 (ends_of st_lookNo (ends_of h8 (ends_of h9 (ends_of (st_yes (.inr rfl)) (ends_of (st_yes (.inl rfl)) (ends_of st_yes0 (Ends.here rfl)))))))))))))))) (by decide), rfl, hs, ?_⟩
      show b + 1 = e2 x b
      unfold e2; rw [if_neg (fun h => h10 h.2)]
  · have h10 : x.getD b 0 = 10 := hc.resolve_right h13
    obtain ⟨s2, h2⟩ := st_lit_no (C := C2) (x := x) (lim := x.size) (start := start) (last := last) (must := must) (pc := 12) (pos := b) (handed := b) (out := out) (fs := [fr0 .nextBranch 11 b out, fr0 .nextStart p q o]) (wg := wg + 1) (seen := s1) rfl (by decide) (.inr h13)
    obtain ⟨s4, h4⟩ := st_lit (C := C2) (x := x) (lim := x.size) (start := start) (last := last) (must := must) (pc := 19) (pos := b) (handed := b) (out := out) (fs := [fr0 .nextBranch 18 b out, fr0 .nextStart p q o]) (wg := wg + 1 - 1 + 1) (seen := s2) rfl (by decide) hb h10
    obtain ⟨s5, h5⟩ := st_jump (C := C2) (x := x) (lim := x.size) (start := start) (last := last) (must := must) (pc := 21) (pos := b + 1) (handed := b) (out := out) (fs := [fr0 .nextBranch 18 b out, fr0 .nextStart p q o]) (wg := wg + 1 - 1 + 1) (seen := s4) rfl (by decide)
    obtain ⟨s6, h6⟩ := st_succ (C := C2) (x := x) (lim := x.size) (start := start) (last := last) (must := must) (pc := 35) (pos := b + 1) (handed := b) (out := out) (fs := [fr0 .nextBranch 18 b out, fr0 .nextStart p q o]) (wg := wg + 1 - 1 + 1) (seen := s5) rfl (by decide) (.inr (by omega))
    refine ⟨_, Ends.more (ends_of h1 (ends_of h2 (ends_of (st_next1 (p := 0) (by omega)) (ends_of h4 (ends_of h5 (ends_of h6 (ends_of (st_yes (.inr rfl)) (ends_of (st_yes (.inl rfl)) (ends_of st_yes0 (Ends.here rfl)))))))))) (by decide), rfl, hs, ?_⟩
    show b + 1 = e2 x b
    unfold e2; rw [if_neg (fun h => h13 h.1)]
end Mine
set_option linter.unusedSimpArgs false
namespace Mine
open PySem PySem.Sre PySem.Sre.M

/-- the first line end at s or behind -/
noncomputable def find2 (x : Array Nat) : (fuel s : Nat) → Option Nat
  | 0, _ => none
  | fuel + 1, s => if s ≥ x.size then none else if x.getD s 0 == 10 || x.getD s 0 == 13 then some s else find2 x fuel (s + 1)
theorem find2_some {x : Array Nat} : ∀ {fuel s b : Nat}, find2 x fuel s = some b → s ≤ b ∧ b < x.size ∧ (x.getD b 0 = 10 ∨ x.getD b 0 = 13) ∧ ∀ j, s ≤ j → j < b → x.getD j 0 ≠ 10 ∧ x.getD j 0 ≠ 13
  | 0, s, b, h => by cases h
  | fuel + 1, s, b, h => by
    unfold find2 at h
    by_cases h1 : s ≥ x.size
    · rw [if_pos h1] at h; cases h
    · rw [if_neg h1] at h
      by_cases h2 : (x.getD s 0 == 10 || x.getD s 0 == 13) = true
      · rw [if_pos h2] at h
        cases h
        exact ⟨Nat.le_refl _, by omega, by simpa using h2, fun j a c => by omega⟩
      · rw [if_neg h2] at h
        obtain ⟨a, b', c, d⟩ := find2_some h
        refine ⟨by omega, b', c, fun j hj hb => ?_⟩
        by_cases e : j = s
        · subst e; simpa using h2
        · exact d j (by omega) hb
theorem find2_none {x : Array Nat} : ∀ {fuel s : Nat}, x.size < fuel + s → find2 x fuel s = none → ∀ j, s ≤ j → j < x.size → x.getD j 0 ≠ 10 ∧ x.getD j 0 ≠ 13
  | 0, s, hf, _ => fun j a b => by omega
  | fuel + 1, s, hf, h => by
    unfold find2 at h
    by_cases h1 : s ≥ x.size
    · intro j a b; omega
    · rw [if_neg h1] at h
      by_cases h2 : (x.getD s 0 == 10 || x.getD s 0 == 13) = true
      · rw [if_pos h2] at h; cases h
      · rw [if_neg h2] at h
        intro j a b
        by_cases e : j = s
        · subst e; simpa using h2
        · exact find2_none (by omega) h j (by omega) b
theorem adm_eq (m : M) (hc : m.code = C2) (hl : m.lim = m.text.size) : ∀ fuel s seen, ∃ seen', admitted m fuel s seen = .ok (find2 m.text fuel s, seen')
  | 0, s, seen => ⟨seen, rfl⟩
  | fuel + 1, s, seen => by
    unfold admitted find2
    by_cases h1 : s ≥ m.text.size
    · refine ⟨seen, ?_⟩
      rw [if_pos h1, if_pos (by rw [hl]; exact h1)]
    · rw [if_neg h1, if_neg (by rw [hl]; exact h1)]
      obtain ⟨s1, e⟩ := c2_set (m.text.getD s 0) seen
      rw [hc, e]
      cases h2 : (m.text.getD s 0 == 10 || m.text.getD s 0 == 13) with
      | true => exact ⟨s1, rfl⟩
      | false =>
        obtain ⟨s2, e2⟩ := adm_eq m hc hl fuel (s + 1) s1
        refine ⟨s2, ?_⟩
        show admitted m fuel (s + 1) s1 = _
        rw [e2]; rfl

theorem run2 (x : Array Nat) (start : Nat) (must : Bool) (h : start ≤ x.size) :
    ∃ m' : M, Ends 25 (forSearch C2 x 0 start x.size must) m' ∧
      ((find2 x (x.size + 1 - start) start = none ∧ m'.outcome = some .failed) ∨
       ∃ b, find2 x (x.size + 1 - start) start = some b ∧ m'.outcome = some .matched ∧ m'.start = b ∧ m'.handed = e2 x b) := by
  let m0 : M := mst C2 x x.size start 0 must 10 start start true [] 0 none (({} : Seen).add 14) none
  have e0 : forSearch C2 x 0 start x.size must = if (start > x.size ∨ x.size - start < 1) then m0.say false else M.attemptFrom { m0 with lastStart := x.size } start true := by
    unfold forSearch
    show (if (start > x.size || decide (x.size - start < 1)) = true then m0.say false else M.attemptFrom { m0 with lastStart := x.size } start true) = _
    simp only [Bool.or_eq_true, decide_eq_true_eq]
  by_cases hl : x.size - start < 1
  · rw [e0, if_pos (.inr hl)]
    refine ⟨_, Ends.more (ends_of st_no0 (Ends.here rfl)) (by decide), .inl ⟨?_, rfl⟩⟩
    have : start = x.size := by omega
    rw [this, show x.size + 1 - x.size = 1 by omega]
    unfold find2
    rw [if_pos (Nat.le_refl _)]
  · rw [e0, if_neg (by omega)]
    obtain ⟨s1, e1⟩ := adm_eq { m0 with lastStart := x.size } rfl rfl (x.size + 1 - start) start (({} : Seen).add 14)
    have e2' : M.attemptFrom { m0 with lastStart := x.size } start true = (match (Except.ok (find2 x (x.size + 1 - start) start, s1) : Except String (Option Nat × Seen)) with
        | .ok (some s, seen) => M.attemptAt { { m0 with lastStart := x.size } with mustAdvance := false, seen := seen } s true
        | .ok (none, seen) => M.say { { m0 with lastStart := x.size } with seen := seen } false
        | .error why => M.stick { m0 with lastStart := x.size } why) := by
      rw [← e1]; rfl
    rw [e2']
    cases hf : find2 x (x.size + 1 - start) start with
    | none => exact ⟨_, Ends.more (ends_of st_no0 (Ends.here rfl)) (by decide), .inl ⟨rfl, rfl⟩⟩
    | some b =>
      obtain ⟨_, hb, hc, _⟩ := find2_some hf
      have e3 : M.attemptAt { { m0 with lastStart := x.size } with mustAdvance := false, seen := s1 } b true = mst C2 x x.size b x.size false 10 b b true [fr0 .nextStart 10 b true] 1 none s1 none := by
        show M.attempt (mst C2 x x.size b x.size false 10 b start true [] 0 none s1 none) (fr0 .nextStart 10 b true) 10 b true = _
        rw [att_eq rfl (by decide)]
      obtain ⟨m', a1, a2, a3, a4⟩ := run2_at (x := x) (start := b) (last := x.size) (b := b) (handed := b) (wg := 1) (must := false) (out := true) (seen := s1) hb hc (by decide) (o := true) (q := b) (p := 10) rfl
      exact ⟨m', by rw [← e3] at a1; exact a1, .inr ⟨b, rfl, a2, a3, a4⟩⟩

/-! the dot at a line's begin -/
noncomputable def isDot (x : Array Nat) (s : Nat) : Bool := (s == 0 || x.getD (s - 1) 0 == 10) && (decide (s < x.size) && x.getD s 0 == 46)
noncomputable def find1 (x : Array Nat) : (fuel s : Nat) → Option Nat
  | 0, _ => none
  | fuel + 1, s => if isDot x s = true then some s else find1 x fuel (s + 1)
theorem run1_at {x : Array Nat} : ∀ (fuel s handed wg : Nat) (out : Bool) (must : Bool) (seen : Seen), s + fuel = x.size + 1 → wg < 900 → (0 < fuel) →
    ∃ m' : M, Ends (4 * fuel + 6) (mst C1 x x.size s x.size must 5 s handed out [fr0 .nextStart 5 s out] wg none seen none) m' ∧
      ((find1 x fuel s = none ∧ m'.outcome = some .failed) ∨ ∃ b, find1 x fuel s = some b ∧ m'.outcome = some .matched ∧ m'.start = b ∧ m'.handed = b + 1)
  | 0, s, handed, wg, out, must, seen, hf, hw, h0 => absurd h0 (Nat.lt_irrefl _)
  | fuel + 1, s, handed, wg, out, must, seen, hf, hw, h0 => by
    have next : ∀ (pc pos hd : Nat) (o : Bool) (sn : Seen), isDot x s = false → ∃ m' : M, Ends (4 * fuel + 7) (mst C1 x x.size s x.size must pc pos hd o [fr0 .nextStart 5 s out] wg (some false) sn none) m' ∧
      ((find1 x (fuel + 1) s = none ∧ m'.outcome = some .failed) ∨ ∃ b, find1 x (fuel + 1) s = some b ∧ m'.outcome = some .matched ∧ m'.start = b ∧ m'.handed = b + 1) := by
      intro pc pos hd o sn hd'
      have ef : find1 x (fuel + 1) s = find1 x fuel (s + 1) := by
        show (if isDot x s = true then some s else find1 x fuel (s + 1)) = _
        rw [if_neg (by rw [hd']; decide)]
      rw [ef]
      by_cases hlt : s < x.size
      · obtain ⟨m', a1, a2⟩ := run1_at (x := x) fuel (s + 1) (s + 1) (wg - 1 + 1) false false sn (by omega) (by omega) (by omega)
        have es : M.step (mst C1 x x.size s x.size must pc pos hd o [fr0 .nextStart 5 s out] wg (some false) sn none) = mst C1 x x.size (s + 1) x.size false 5 (s + 1) (s + 1) false [fr0 .nextStart 5 (s + 1) false] (wg - 1 + 1) none sn none := by
          show (if s < x.size then M.attemptAt (mst C1 x x.size s x.size false 5 s hd out [] (wg - 1) none sn none) (s + 1) false else _) = _
          rw [if_pos hlt]
          show M.attempt (mst C1 x x.size (s + 1) x.size false 5 (s + 1) hd out [] (wg - 1) none sn none) (fr0 .nextStart 5 (s + 1) false) 5 (s + 1) false = _
          rw [att_eq rfl (by omega)]
        exact ⟨m', Ends.more (ends_of es a1) (by omega), a2⟩
      · have es : M.step (mst C1 x x.size s x.size must pc pos hd o [fr0 .nextStart 5 s out] wg (some false) sn none) = mst C1 x x.size s x.size must 5 s hd out [] (wg - 1) (some false) sn none := by
          show (if s < x.size then M.attemptAt (mst C1 x x.size s x.size false 5 s hd out [] (wg - 1) none sn none) (s + 1) false else _) = _
          rw [if_neg hlt]
          rfl
        refine ⟨_, Ends.more (ends_of es (ends_of st_no0 (Ends.here rfl))) (by omega), .inl ⟨?_, rfl⟩⟩
        have : fuel = 0 := by omega
        subst this; rfl
    obtain ⟨s1, h1⟩ := st_at (C := C1) (x := x) (lim := x.size) (start := s) (last := x.size) (must := must) (pc := 5) (pos := s) (handed := handed) (out := out) (fs := [fr0 .nextStart 5 s out]) (wg := wg) (seen := seen) rfl rfl (by decide) _ rfl
    cases hb : (s == 0 || x.getD (s - 1) 0 == 10) with
    | false =>
      rw [hb] at h1
      obtain ⟨m', a1, a2⟩ := next 5 s handed out s1 (by unfold isDot; rw [hb]; rfl)
      exact ⟨m', Ends.more (ends_of h1 a1) (by omega), a2⟩
    | true =>
      rw [hb] at h1
      by_cases hd : s < x.size ∧ x.getD s 0 = 46
      · obtain ⟨s2, h2⟩ := st_lit (C := C1) (x := x) (lim := x.size) (start := s) (last := x.size) (must := must) (pc := 7) (pos := s) (handed := handed) (out := out) (fs := [fr0 .nextStart 5 s out]) (wg := wg) (seen := s1) rfl (by decide) hd.1 hd.2
        obtain ⟨s3, h3⟩ := st_succ (C := C1) (x := x) (lim := x.size) (start := s) (last := x.size) (must := must) (pc := 9) (pos := s + 1) (handed := handed) (out := out) (fs := [fr0 .nextStart 5 s out]) (wg := wg) (seen := s2) rfl (by decide) (.inr (by omega))
        refine ⟨_, Ends.more (ends_of h1 (ends_of h2 (ends_of h3 (ends_of (st_yes (.inl rfl)) (ends_of st_yes0 (Ends.here rfl)))))) (by omega), .inr ⟨s, ?_, rfl, rfl, rfl⟩⟩
        have : isDot x s = true := by
          unfold isDot; rw [hb]; simp [hd.1, hd.2]
        show (if isDot x s = true then some s else find1 x fuel (s + 1)) = _
        rw [if_pos this]
      · obtain ⟨s2, h2⟩ := st_lit_no (C := C1) (x := x) (lim := x.size) (start := s) (last := x.size) (must := must) (pc := 7) (pos := s) (handed := handed) (out := out) (fs := [fr0 .nextStart 5 s out]) (wg := wg) (seen := s1) rfl (by decide) (Decidable.not_and_iff_or_not.mp hd)
        have hnd : isDot x s = false := by
          unfold isDot
          rcases Decidable.not_and_iff_or_not.mp hd with q | q
          · simp [q]
          · rw [beq_eq_false_iff_ne.mpr q, Bool.and_false, Bool.and_false]
        obtain ⟨m', a1, a2⟩ := next 7 s handed out s2 hnd
        exact ⟨m', Ends.more (ends_of h1 (ends_of h2 a1)) (by omega), a2⟩
theorem run1 (x : Array Nat) (start : Nat) (must : Bool) (h : start ≤ x.size) :
    ∃ m' : M, Ends (4 * x.size + 20) (forSearch C1 x 0 start x.size must) m' ∧
      ((find1 x (x.size + 1 - start) start = none ∧ m'.outcome = some .failed) ∨
       ∃ b, find1 x (x.size + 1 - start) start = some b ∧ m'.outcome = some .matched ∧ m'.start = b ∧ m'.handed = b + 1) := by
  let m0 : M := mst C1 x x.size start 0 must 5 start start true [] 0 none (({} : Seen).add 14) none
  have e0 : forSearch C1 x 0 start x.size must = if (start > x.size ∨ x.size - start < 1) then m0.say false else M.attemptFrom { m0 with lastStart := x.size } start true := by
    unfold forSearch
    show (if (start > x.size || decide (x.size - start < 1)) = true then m0.say false else M.attemptFrom { m0 with lastStart := x.size } start true) = _
    simp only [Bool.or_eq_true, decide_eq_true_eq]
  by_cases hl : x.size - start < 1
  · rw [e0, if_pos (.inr hl)]
    refine ⟨_, Ends.more (ends_of st_no0 (Ends.here rfl)) (by omega), .inl ⟨?_, rfl⟩⟩
    have : start = x.size := by omega
    rw [this, show x.size + 1 - x.size = 1 by omega]
    show (if isDot x x.size = true then _ else none) = none
    rw [if_neg (by unfold isDot; simp)]
  · rw [e0, if_neg (by omega)]
    have e3 : M.attemptFrom { m0 with lastStart := x.size } start true = mst C1 x x.size start x.size must 5 start start true [fr0 .nextStart 5 start true] 1 none (({} : Seen).add 14) none := by
      show M.attempt (mst C1 x x.size start x.size must 5 start start true [] 0 none (({} : Seen).add 14) none) (fr0 .nextStart 5 start true) 5 start true = _
      rw [att_eq rfl (by decide)]
    obtain ⟨m', a1, a2⟩ := run1_at (x := x) (x.size + 1 - start) start start 1 true must (({} : Seen).add 14) (by omega) (by decide) (by omega)
    refine ⟨m', Ends.more (by rw [← e3] at a1; exact a1) (by omega), a2⟩
end Mine
namespace Mine
open PySem PyProof.Rows
open PySem.Builtin.Re
theorem plainAttrs_rx : PlainAttrs "re.Pattern" :=
  ⟨⟨"object.__getattribute__", by rw [typeLookup_type, builtinLookup_eq_fast]; kernel_rfl, by decide +kernel⟩, by rw [typeLookup_type, builtinLookup_eq_fast]; kernel_rfl⟩
theorem slot_rx_sub : Slot "re.Pattern" "sub" "re.Pattern.sub" :=
  .of (owner := "re.Pattern") (n := "sub") (by rw [typeLookup_type, builtinLookup_eq_fast]; kernel_rfl) (by decide +kernel) (by decide +kernel) (by decide +kernel)
    (by first | exact .inl (by decide +kernel) | exact .inr (by decide +kernel)) (by rw [isSubtype_type]; kernel_rfl)
theorem type_rx_sub : typeOf (.builtin "re.Pattern.sub") = pure (.type "method_descriptor") := by show builtinType _ = _; rw [builtinType_eq_fast]; kernel_rfl
theorem entry_rx_sub : entryFor table "re.Pattern.sub" = some Builtin.«re.Pattern.sub» := entryFor_of_tree (by kernel_rfl)
theorem entry_rx_loop : entryFor table "re.Pattern.sub.loop" = some Builtin.«re.Pattern.sub.loop» := entryFor_of_tree (by kernel_rfl)
theorem plain_rx_loop : plainId "re.Pattern.sub.loop" = true := by decide +kernel
theorem args_rx_sub (a b c : Value) : argsOk "re.Pattern.sub" ⟨[a, b, c], []⟩ := by
  unfold argsOk; kernel_rfl

noncomputable def cat (l : List Str) : List Nat := (l.map (·.cps.toList)).flatten
theorem str_eq {a b : Str} (h : a.cps.toList = b.cps.toList) : a = b := by
  cases a; cases b; congr; exact Array.toList_inj.mp h
theorem toList_append (a b : Str) : (a ++ b).cps.toList = a.cps.toList ++ b.cps.toList := by
  show (a.cps ++ b.cps).toList = _
  simp
theorem join_cat : ∀ l : List Str, Txt.join ⟨#[]⟩ l = ⟨(cat l).toArray⟩ := by
  intro l
  show Builtin.Str.glued _ _ = _
  rw [StrLaws.glued_eq_join]
  apply str_eq
  induction l with
  | nil => rfl
  | cons a r ih =>
    rw [PyProof.Rows.join_nil_cons, toList_append, ih]
    simp [cat]
theorem len_cat (l : List Str) : (cat l).length = (l.map (·.length)).sum := by
  induction l with
  | nil => rfl
  | cons a r ih => simp only [cat, List.map_cons, List.flatten_cons, List.length_append, List.sum_cons] at ih ⊢; rw [ih]; rfl

section
variable {prog : Program} {w : World} {A : Around} {E : Value → Shared → Prop} {s : Shared}
theorem wp_fields {a : Addr} {o : Obj} {vs : Array Value} {Q : Array Value → Shared → Prop} (ho : s.heap.get? a = some o) (hd : o.data = .fields vs) (h : Q vs s) : wpAny (model prog w) A (fieldsOf (.ref a)) Q E s := by
  unfold fieldsOf
  refine wpAny_bind (wpAny_load ho ?_)
  rw [hd]
  exact wpAny_pure h
theorem wp_items {a : Addr} {o : Obj} {vs : Array Value} {n : Nat} {Q : Option (Array Value) → Shared → Prop} (ho : s.heap.get? a = some o) (hd : o.data = .seq vs n) (h : Q (some vs) s) : wpAny (model prog w) A (seqItems? (.ref a)) Q E s := by
  unfold seqItems?
  refine wpAny_bind (wpAny_load ho ?_)
  rw [hd]
  exact wpAny_pure h
/-- what the interpreter reads of a text's pattern -/
structure Pat (h : Heap) (a b : Addr) (C : Array Nat) : Prop where
  one : ∃ o fs, h.get? a = some o ∧ o.cls = .type "re.Pattern" ∧ o.dict = none ∧ o.data = .fields fs ∧ fs.getD 5 .none = .ref b ∧ reRawNat (fs.getD 6 .none) = 0 ∧ reRawNat (fs.getD 2 .none) = 0
  two : ∃ o its n, h.get? b = some o ∧ o.data = .seq its n ∧ (its.map reRawOf).map (·.toNat) = C
theorem Pat.keep {h h' : Heap} {a b : Addr} {C : Array Nat} (p : Pat h a b C) (ka : ∀ o, h.get? a = some o → h'.get? a = some o) (kb : ∀ o, h.get? b = some o → h'.get? b = some o) : Pat h' a b C := by
  obtain ⟨⟨o, fs, h1, r1⟩, ⟨o2, its, n, h2, r2⟩⟩ := p
  exact ⟨⟨o, fs, ka _ h1, r1⟩, ⟨o2, its, n, kb _ h2, r2⟩⟩
noncomputable abbrev tgt (a : Addr) (C : Array Nat) (x : Str) (t : Tok) : ReTarget := { pattern := .ref a, string := .str x t, code := C, text := x.cps, kind := 0, groups := 0, pos := 0, lim := x.cps.size }
theorem wp_target {a b : Addr} {C : Array Nat} {x : Str} {t : Tok} {Q : ReTarget → Shared → Prop} (p : Pat s.heap a b C) (h : Q (tgt a C x t) s) : wpAny (model prog w) A (reWholeTarget (.ref a) (.str x t)) Q E s := by
  obtain ⟨⟨o, fs, h1, hc, hn, hd, h5, h6, h2⟩, ⟨o2, its, n, h3, h4, hC⟩⟩ := p
  unfold reWholeTarget
  refine wpAny_bind (wp_fields h1 hd ?_)
  show wpAny _ _ (if (reRawNat (fs.getD 6 .none) == 0 && (0 : Nat) == 1) = true then _ else _) _ _ _
  rw [h6]
  show wpAny _ _ (reRawItems (fs.getD 5 .none) >>= _) _ _ _
  rw [h5]
  refine wpAny_bind ?_
  unfold reRawItems
  refine wpAny_bind (wp_items h3 h4 (wpAny_pure (wpAny_pure ?_)))
  show Q { pattern := .ref a, string := .str x t, code := (its.map reRawOf).map (·.toNat), text := x.cps, kind := 0, groups := reRawNat (fs.getD 2 .none), pos := 0, lim := x.cps.size } s
  rw [hC, h2]; exact h
end
end Mine
namespace Mine
open PySem PyProof.Rows PySem.Builtin.Re PySem.Sre

noncomputable def Finds (C : Array Nat) (x : Array Nat) (fnd : Nat → Option (Nat × Nat)) : Prop :=
  ∀ d must, d ≤ x.size → ∃ k m', Ends k (forSearch C x 0 d x.size must) m' ∧ k ≤ 2 ^ 64 ∧ ((fnd d = none ∧ m'.outcome = some .failed) ∨ ∃ b e, fnd d = some (b, e) ∧ m'.outcome = some .matched ∧ m'.start = b ∧ m'.handed = e ∧ d ≤ b ∧ b < e ∧ e ≤ x.size)
noncomputable def subT (fnd : Nat → Option (Nat × Nat)) (x : Array Nat) (rep : List Nat) : Nat → Nat → List Nat
  | 0, _ => []
  | f + 1, d => match fnd d with
    | none => (x.extract d x.size).toList
    | some (b, e) => (x.extract d b).toList ++ rep ++ subT fnd x rep f e

section
variable {prog : Program} {w : World} {A : Around}
theorem wp_next {C : Array Nat} {a : Addr} {x : Str} {t : Tok} {fnd : Nat → Option (Nat × Nat)} {E : Value → Shared → Prop} {s : Shared} {Q : Option M → Shared → Prop} (hf : Finds C x.cps fnd) {d : Nat} {must : Bool} (hd : d ≤ x.cps.size)
    (h0 : fnd d = none → Q none s) (h1 : ∀ m' b e, fnd d = some (b, e) → m'.start = b → m'.handed = e → d ≤ b → b < e → e ≤ x.cps.size → Q (some m') s) :
    wpAny (model prog w) A (reNextFound (tgt a C x t) d must) Q E s := by
  obtain ⟨k, m', he, hk, hr⟩ := hf d must hd
  refine wp_toEnd he hk (fun ho => ?_) (fun ho => ?_) (fun why ho => ?_)
  · rcases hr with ⟨_, h⟩ | ⟨b, e, h2, h3, h4, h5, h6, h7, h8⟩
    · rw [ho] at h; cases h
    · exact h1 m' b e h2 h4 h5 h6 h7 h8
  · rcases hr with ⟨h, _⟩ | ⟨b, e, h2, h3, _⟩
    · exact h0 h
    · rw [ho] at h3; cases h3
  · rcases hr with ⟨_, h⟩ | ⟨b, e, h2, h3, _⟩
    · rw [ho] at h; cases h
    · rw [ho] at h3; cases h3

theorem wp_push {E : Value → Shared → Prop} {s : Shared} {P : Addr} {l : List (Str × Tok)} {c : Nat} {y : Str} {v : Tok} {Q : Unit → Shared → Prop}
    (hP : s.heap.get? P = some { cls := .type "list", dict := none, data := .seq (strValues l).toArray c, slots := #[] }) (hl : l.length ≤ 3000000)
    (h : ∀ h' c', h'.get? P = some { cls := .type "list", dict := none, data := .seq (strValues (l ++ [(y, v)])).toArray c', slots := #[] } → (∀ b o, b ≠ P → s.heap.get? b = some o → h'.get? b = some o) → Q () { s with heap := h' }) :
    wpAny (model prog w) A (updateSeq P fun xs => xs.push (.str y v)) Q E s := by
  have hs : (strValues l).toArray.size = l.length := by simp [strValues]
  have hsl : sizeLine = 16777216 := rfl
  have e1 : (strValues l).toArray.push (.str y v) = (strValues (l ++ [(y, v)])).toArray := by simp [strValues]
  have hex : ∃ c', (s.heap.update P (Obj.mapSeq fun xs => xs.push (.str y v))).get? P = some { cls := .type "list", dict := none, data := .seq (strValues (l ++ [(y, v)])).toArray c', slots := #[] } := by
    refine ⟨if ((strValues l).toArray.push (.str y v)).size == (strValues l).toArray.size then c else c + 1, (Heap.get?_update_self _ hP rfl).trans ?_⟩
    rw [← e1]; rfl
  obtain ⟨c', hc'⟩ := hex
  refine wpAny_updateSeq hP rfl (h _ c' hc' fun b o hb e => ?_) (by rw [hs, hsl]; lia) (by rw [Array.size_push, hs, hsl]; lia)
  exact (Heap.get?_update_other _ _ (Ne.symm hb)).trans e
theorem wp_slice {E : Value → Shared → Prop} {s : Shared} {x : Array Nat} {d b : Nat} {Q : Value → Shared → Prop} (hx : x.size ≤ 1048576) (h : Q (.str ⟨x.extract d b⟩ s.toks) { s with toks := s.toks + 1 }) : wpAny (model prog w) A (reSlice x 0 d b) Q E s := by
  have hsl : sizeLine = 16777216 := rfl
  show wpAny _ _ (mkStr ⟨x.extract d b⟩) _ _ _
  refine wpAny_mkStr h ?_
  show (x.extract d b).size ≤ sizeLine
  rw [Array.size_extract, hsl]; lia
noncomputable def tailT (x : Array Nat) (n : Int) (P : Addr) : Sem Fin := do
  let joiner ← reSlice x 0 0 0
  let text ← if ((← seqItems? (.ref P)).getD #[]).isEmpty then pure joiner
    else call (.builtin (if (0 : Nat) == 0 then "str.join" else "bytes.join")) [joiner, .ref P]
  if false then ret (← holding [text] do newTuple [text, ← mkInt n]) else ret text
theorem wp_tail {s : Shared} {x : Array Nat} {n : Int} {P : Addr} {l : List (Str × Tok)} {c : Nat} {Q : Fin → Shared → Prop} {E : Value → Shared → Prop} (hx : x.size ≤ 1048576)
    (hP : s.heap.get? P = some { cls := .type "list", dict := none, data := .seq (strValues l).toArray c, slots := #[] }) (hc : (cat (l.map (·.1))).length ≤ 3000000)
    (h : ∀ t' tk, Q (.done (.ret (.str ⟨(cat (l.map (·.1))).toArray⟩ t'))) { s with toks := tk }) : wpAny (model prog w) A (tailT x n P) Q E s := by
  unfold tailT
  refine wpAny_bind (wp_slice hx ?_)
  refine wpAny_bind (wp_items hP rfl ?_)
  cases l with
  | nil =>
    show wpAny _ _ (pure _ >>= fun text => ret text) _ _ _
    refine wpAny_bind (wpAny_pure (wpAny_pure ?_))
    have : x.extract 0 0 = ([] : List Nat).toArray := by simp
    rw [this]
    exact h _ _
  | cons p r =>
    show wpAny _ _ (call (.builtin "str.join") [.str ⟨x.extract 0 0⟩ s.toks, .ref P] >>= fun text => ret text) _ _ _
    have : x.extract 0 0 = #[] := by simp
    rw [this]
    refine wpAny_bind (SC.join (l := p :: r) ⟨_, hP, rfl, _, rfl⟩ rfl (joinOk_of ?_) fun t' k => wpAny_pure ?_)
    · rw [← len_cat]; show _ + _ * 0 ≤ _; lia
    · rw [join_cat]; exact h _ _
theorem ext_len (x : Array Nat) (d b : Nat) (hb : b ≤ x.size) : (x.extract d b).size ≤ b - d := by rw [Array.size_extract]; lia

theorem ext_lenL (x : Array Nat) (d b : Nat) : (x.extract d b).toList.length = min b x.size - d := by rw [Array.length_toList, Array.size_extract]

noncomputable abbrev loopArgs (a : Addr) (x : Str) (t : Tok) (rep : Str) (u : Tok) (n d : Nat) (must : Bool) (P : Addr) : Args :=
  ⟨[.ref a, .str x t, .str rep u, rawInt 0, rawInt 0, rawInt (n : Int), rawInt (d : Int), rawInt (d : Int), .bool must, .ref P, .bool false], []⟩

theorem sub_loop {C : Array Nat} {a b₀ P : Addr} {x rep : Str} {t u : Tok} {fnd : Nat → Option (Nat × Nat)} (hf : Finds C x.cps fnd) (hrep : rep.length ≤ 2) (hx : x.cps.size ≤ 1048576) (hPa : P ≠ a) (hPb : P ≠ b₀) {R : Result → Shared → Prop} :
    ∀ (f d n : Nat) (must : Bool) (s : Shared) (l : List (Str × Tok)) (c : Nat), x.cps.size < f + d → d ≤ x.cps.size → Pat s.heap a b₀ C → s.heap.get? P = some { cls := .type "list", dict := none, data := .seq (strValues l).toArray c, slots := #[] } →
      l.length ≤ 2 * d → (cat (l.map (·.1))).length ≤ 2 * d →
      (∀ tk t' h', (∀ b o, b ≠ P → s.heap.get? b = some o → h'.get? b = some o) → R (.ok (.ret (.str ⟨(cat (l.map (·.1)) ++ subT fnd x.cps rep.cps.toList f d).toArray⟩ t'))) { s with heap := h', toks := tk }) →
      codeAny (model prog w) A (.builtin "re.Pattern.sub.loop" (loopArgs a x t rep u n d must P)) R s := by
  intro f
  induction f with
  | zero => intro d n must s l c h1 h2; lia
  | succ f ih =>
    intro d n must s l c hfd hdx hp hP hl hc hR
    refine codeAny_builtin entry_rx_loop ?_
    rw [Around.under_plainId plain_rx_loop _]
    unfold Builtin.«re.Pattern.sub.loop»
    dsimp only [loopArgs, rawInt]
    refine wpAny_bind (wp_target hp ?_)
    show wpAny _ _ (reLiteralCannotBeTurned (Value.str rep u) >>= _) _ _ _
    rw [show reLiteralCannotBeTurned (Value.str rep u) = pure () from rfl]
    refine wpAny_bind (wpAny_pure ?_)
    show wpAny _ _ (reNextFound (tgt a C x t) (d : Int).toNat must >>= _) _ _ _
    rw [Int.toNat_natCast]
    refine wpAny_bind (wp_next hf hdx (fun hn => ?_) (fun m' b e hn hs he hdb hbe hex => ?_))
    · have hsub : subT fnd x.cps rep.cps.toList (f + 1) d = (x.cps.extract d x.cps.size).toList := by
        show (match fnd d with | none => _ | some (b, e) => _) = _
        rw [hn]
      rw [hsub] at hR
      show wpAny _ _ (if d < x.cps.size then reSlice x.cps 0 d x.cps.size >>= fun v => updateSeq P (fun x => x.push v) >>= fun _ => tailT x.cps n P else tailT x.cps n P) _ _ _
      by_cases hlt : d < x.cps.size
      · rw [if_pos hlt]
        refine wpAny_bind (wp_slice hx (wpAny_bind (wp_push (s := { s with toks := s.toks + 1 }) hP (by lia) fun h' c' hP' hk => ?_)))
        have hcat : cat ((l ++ [((⟨x.cps.extract d x.cps.size⟩ : Str), s.toks)]).map (·.1)) = cat (l.map (·.1)) ++ (x.cps.extract d x.cps.size).toList := by simp [cat]
        refine wp_tail hx hP' (by rw [hcat, List.length_append, ext_lenL]; lia) fun t' tk => ?_
        rw [hcat]
        exact hR tk t' h' hk
      · rw [if_neg hlt]
        refine wp_tail hx hP (by lia) fun t' tk => ?_
        have : (x.cps.extract d x.cps.size).toList = [] := by
          apply List.eq_nil_of_length_eq_zero
          rw [ext_lenL]; lia
        rw [this, List.append_nil] at hR
        exact hR tk t' s.heap fun _ _ _ e => e
    · subst hs he
      have hsub : subT fnd x.cps rep.cps.toList (f + 1) d = (x.cps.extract d m'.start).toList ++ rep.cps.toList ++ subT fnd x.cps rep.cps.toList f m'.handed := by
        show (match fnd d with | none => _ | some (b, e) => _) = _
        rw [hn]
      rw [hsub] at hR
      show wpAny _ _ (if d < m'.start then reSlice x.cps 0 d m'.start >>= fun v => updateSeq P (fun x => x.push v) >>= fun _ => updateSeq P (fun x => x.push (.str rep u)) >>= fun _ => again (.builtin "re.Pattern.sub.loop" (loopArgs a x t rep u (n + 1) m'.handed (m'.handed == m'.start) P)) else updateSeq P (fun x => x.push (.str rep u)) >>= fun _ => again (.builtin "re.Pattern.sub.loop" (loopArgs a x t rep u (n + 1) m'.handed (m'.handed == m'.start) P))) _ _ _
      have two : ∀ (s₁ : Shared) (l₁ : List (Str × Tok)) (c₁ : Nat), (∀ b o, b ≠ P → s.heap.get? b = some o → s₁.heap.get? b = some o) → s₁ = { s with heap := s₁.heap, toks := s₁.toks } →
          s₁.heap.get? P = some { cls := .type "list", dict := none, data := .seq (strValues l₁).toArray c₁, slots := #[] } → l₁.length + 1 ≤ 2 * m'.handed → cat (l₁.map (·.1)) = cat (l.map (·.1)) ++ (x.cps.extract d m'.start).toList →
          wpAny (model prog w) A.in1 (updateSeq P (fun x => x.push (.str rep u)) >>= fun _ => again (.builtin "re.Pattern.sub.loop" (loopArgs a x t rep u (n + 1) m'.handed (m'.handed == m'.start) P)))
            (fun fin s' => match fin with | .done f => R (.ok f) s' | .again c' => c'.quiet = true ∧ codeAny (model prog w) A c' R s') (fun e s' => R (.error e) s') s₁ := by
        intro s₁ l₁ c₁ hk₁ es hP₁ hl₁ hc₁
        refine wpAny_bind (wp_push hP₁ (by lia) fun h' c' hP' hk => wpAny_pure ⟨plainId_quiet plain_rx_loop _, ?_⟩)
        have hcat : cat ((l₁ ++ [(rep, u)]).map (·.1)) = cat (l.map (·.1)) ++ ((x.cps.extract d m'.start).toList ++ rep.cps.toList) := by
          rw [← List.append_assoc, ← hc₁]
          simp [cat]
        refine ih m'.handed (n + 1) _ _ _ c' (by lia) hex (hp.keep (fun o q => hk _ _ (Ne.symm hPa) (hk₁ _ _ (Ne.symm hPa) q)) fun o q => hk _ _ (Ne.symm hPb) (hk₁ _ _ (Ne.symm hPb) q)) hP' ?_ ?_ fun tk t' h'' hk'' => ?_
        · rw [List.length_append, List.length_singleton]; exact hl₁
        · rw [hcat, List.length_append, List.length_append, ext_lenL]
          have : rep.cps.toList.length ≤ 2 := hrep
          lia
        · rw [hcat, List.append_assoc]
          have := hR tk t' h'' fun b o q1 q2 => hk'' b o q1 (hk b o q1 (hk₁ b o q1 q2))
          rw [es]
          simpa using this
      by_cases hlt : d < m'.start
      · rw [if_pos hlt]
        refine wpAny_bind (wp_slice hx (wpAny_bind (wp_push (s := { s with toks := s.toks + 1 }) hP (by lia) fun h' c' hP' hk => ?_)))
        exact two _ _ c' hk rfl hP' (by rw [List.length_append, List.length_singleton]; lia) (by simp [cat])
      · rw [if_neg hlt]
        have : (x.cps.extract d m'.start).toList = [] := by
          apply List.eq_nil_of_length_eq_zero
          rw [ext_lenL]; lia
        exact two s l c (fun _ _ _ q => q) rfl hP (by lia) (by rw [this, List.append_nil])
end
end Mine
namespace Mine
open PySem PyProof.Rows PySem.Builtin.Re PySem.Sre
theorem str_no_call : typeLookup (.type "str") "__call__" = pure none := by rw [typeLookup_type, builtinLookup_eq_fast]; kernel_rfl
theorem named_sub (a b : Value) : reNamed "re.Pattern.sub" "sub" ["repl", "string", "count"] 2 [a, b] [] = pure [some a, some b, none] := by kernel_rfl
section
variable {prog : Program} {w : World} {A : Around} {E : Value → Shared → Prop} {s : Shared}
theorem call_sub {C : Array Nat} {a b₀ : Addr} {x rep : Str} {t u : Tok} {fnd : Nat → Option (Nat × Nat)} {Q : Value → Shared → Prop} (hp : Pat s.heap a b₀ C) (hf : Finds C x.cps fnd) (hrep : rep.length ≤ 2) (hno : rep.cps.contains 92 = false) (hx : x.cps.size ≤ 1048576)
    (h : ∀ tk t' h', (∀ b o, s.heap.get? b = some o → h'.get? b = some o) → Q (.str ⟨(subT fnd x.cps rep.cps.toList (x.cps.size + 1) 0).toArray⟩ t') { s with heap := h', toks := tk }) :
    wpAny (model prog w) A (call (.builtin "re.Pattern.sub") [.ref a, .str rep u, .str x t]) Q E s := by
  have hT : s.TypeIs (.ref a) "re.Pattern" := by
    obtain ⟨⟨o, fs, h1, h2, _⟩, _⟩ := hp
    exact ⟨o, h1, h2⟩
  refine wpAny_call (codeAny_call_builtin slot_rx_sub.plain entry_rx_sub (slot_rx_sub.check _ _ _ _ _ _ _ _ hT (args_rx_sub _ _ _) ?_))
  unfold Builtin.«re.Pattern.sub» reSubstitute
  dsimp only
  refine wpAny_bind ?_
  rw [named_sub]
  refine wpAny_pure ?_
  refine wpAny_bind (wpAny_pure ?_)
  refine wpAny_bind (wpAny_specialOf (typeIs_str _ _ _) str_no_call ?_)
  show wpAny _ _ ((pure !rep.cps.contains 92 : Sem Bool) >>= fun literal => if literal = true then
      (reWholeTarget (Value.ref a) (Value.str x t) >>= fun _ => newList [] >>= fun l => again (.builtin "re.Pattern.sub.loop" ⟨[.ref a, .str x t, .str rep u, rawInt 0, rawInt 0, rawInt 0, rawInt 0, rawInt 0, .bool false, l, .bool false], []⟩)) else _) _ _ _
  rw [hno]
  refine wpAny_bind (wpAny_pure ?_)
  show wpAny _ _ (reWholeTarget (Value.ref a) (Value.str x t) >>= fun _ => newList [] >>= fun l => again (.builtin "re.Pattern.sub.loop" ⟨[.ref a, .str x t, .str rep u, rawInt 0, rawInt 0, rawInt 0, rawInt 0, rawInt 0, .bool false, l, .bool false], []⟩)) _ _ _
  refine wpAny_bind (wp_target hp (wpAny_bind (wpAny_newObj_type (wpAny_pure ⟨plainId_quiet plain_rx_loop _, ?_⟩))))
  have up : ∀ b o, s.heap.get? b = some o → (s.heap.push { cls := .type "list", dict := none, data := .seq ([] : List Value).toArray }).get? b = some o := fun b o e => Heap.get?_push_of_some _ e
  have ha : s.heap.objs.size ≠ a := fun e => by
    obtain ⟨⟨o, fs, h1, _⟩, _⟩ := hp
    exact absurd (Heap.lt_size h1) (by rw [e]; exact Nat.lt_irrefl _)
  have hb : s.heap.objs.size ≠ b₀ := fun e => by
    obtain ⟨_, ⟨o, its, n, h1, _⟩⟩ := hp
    exact absurd (Heap.lt_size h1) (by rw [e]; exact Nat.lt_irrefl _)
  refine sub_loop (P := s.heap.objs.size) hf hrep hx ha hb (x.cps.size + 1) 0 0 false _ [] 0 (by omega) (Nat.zero_le _) (hp.keep (up _) (up _)) (Heap.get?_push_size _ rfl) (Nat.le_refl _) (Nat.le_refl _) fun tk t' h' hk => ?_
  refine h tk t' h' fun b o e => hk b o (fun q => ?_) (up b o e)
  exact absurd (Heap.lt_size e) (by rw [q]; exact Nat.lt_irrefl _)
end
end Mine
namespace Mine
open PySem PyProof.Rows PySem.Sre

noncomputable def fnd2 (x : Array Nat) (d : Nat) : Option (Nat × Nat) := (find2 x (x.size + 1 - d) d).map fun b => (b, e2 x b)
noncomputable def fnd1 (x : Array Nat) (d : Nat) : Option (Nat × Nat) := (find1 x (x.size + 1 - d) d).map fun b => (b, b + 1)
theorem e2_le {x : Array Nat} {b : Nat} (h : b < x.size) : b < e2 x b ∧ e2 x b ≤ x.size := by
  unfold e2
  by_cases h' : x.getD b 0 = 13 ∧ b + 1 < x.size ∧ x.getD (b + 1) 0 = 10
  · rw [if_pos h']; exact ⟨by lia, by lia⟩
  · rw [if_neg h']; exact ⟨by lia, by lia⟩
theorem finds2 (x : Array Nat) : Finds C2 x (fnd2 x) := by
  intro d must hd
  obtain ⟨m', he, hr⟩ := run2 x d must hd
  refine ⟨25, m', he, by decide, ?_⟩
  rcases hr with ⟨h1, h2⟩ | ⟨b, h1, h2, h3, h4⟩
  · exact .inl ⟨by unfold fnd2; rw [h1]; rfl, h2⟩
  · obtain ⟨f1, f2, _⟩ := find2_some h1
    exact .inr ⟨b, e2 x b, by unfold fnd2; rw [h1]; rfl, h2, h3, h4, f1, (e2_le f2).1, (e2_le f2).2⟩
theorem find1_some {x : Array Nat} : ∀ {fuel s b : Nat}, find1 x fuel s = some b → s ≤ b ∧ isDot x b = true ∧ ∀ j, s ≤ j → j < b → isDot x j = false
  | 0, s, b, h => by cases h
  | fuel + 1, s, b, h => by
    unfold find1 at h
    by_cases h2 : isDot x s = true
    · rw [if_pos h2] at h
      cases h
      exact ⟨Nat.le_refl _, h2, fun j a c => by lia⟩
    · rw [if_neg h2] at h
      obtain ⟨a, b', d⟩ := find1_some h
      refine ⟨by lia, b', fun j hj hb => ?_⟩
      by_cases e : j = s
      · subst e; simpa using h2
      · exact d j (by lia) hb
theorem find1_none {x : Array Nat} : ∀ {fuel s : Nat}, x.size < fuel + s → find1 x fuel s = none → ∀ j, s ≤ j → j < x.size → isDot x j = false
  | 0, s, hf, _ => fun j a b => by lia
  | fuel + 1, s, hf, h => by
    unfold find1 at h
    by_cases h2 : isDot x s = true
    · rw [if_pos h2] at h; cases h
    · rw [if_neg h2] at h
      intro j a b
      by_cases e : j = s
      · subst e; simpa using h2
      · exact find1_none (by lia) h j (by lia) b
theorem isDot_lt {x : Array Nat} {b : Nat} (h : isDot x b = true) : b < x.size ∧ x.getD b 0 = 46 ∧ (b = 0 ∨ x.getD (b - 1) 0 = 10) := by
  unfold isDot at h
  rw [Bool.and_eq_true, Bool.and_eq_true, Bool.or_eq_true, decide_eq_true_eq, beq_iff_eq, beq_iff_eq, beq_iff_eq] at h
  exact ⟨h.2.1, h.2.2, h.1⟩
theorem finds1 (x : Array Nat) (hx : x.size ≤ 1048576) : Finds C1 x (fnd1 x) := by
  intro d must hd
  obtain ⟨m', he, hr⟩ := run1 x d must hd
  refine ⟨_, m', he, by lia, ?_⟩
  rcases hr with ⟨h1, h2⟩ | ⟨b, h1, h2, h3, h4⟩
  · exact .inl ⟨by unfold fnd1; rw [h1]; rfl, h2⟩
  · obtain ⟨f1, f2, _⟩ := find1_some h1
    have := isDot_lt f2
    exact .inr ⟨b, b + 1, by unfold fnd1; rw [h1]; rfl, h2, h3, h4, f1, by lia, by lia⟩

/-! what they make of a text -/
noncomputable def crlf : List Nat → List Nat
  | [] => []
  | 13 :: 10 :: r => 13 :: 10 :: crlf r
  | c :: r => if c = 13 ∨ c = 10 then 13 :: 10 :: crlf r else c :: crlf r
theorem crlf_13 {r : List Nat} (h : r.head? ≠ some 10) : crlf (13 :: r) = 13 :: 10 :: crlf r := by
  cases r with
  | nil => rfl
  | cons c r =>
    have hc : c ≠ 10 := fun e => h (by rw [e]; rfl)
    conv => lhs; unfold crlf
    split
    · rename_i e; cases e
    · rename_i e; cases e; exact absurd rfl hc
    · rename_i e; cases e; rfl
theorem crlf_10 (r : List Nat) : crlf (10 :: r) = 13 :: 10 :: crlf r := by
  conv => lhs; unfold crlf
  split
  · rename_i e; cases e
  · rename_i e; cases e
  · rename_i e; cases e; rfl
theorem crlf_c {c : Nat} (h1 : c ≠ 13) (h2 : c ≠ 10) (r : List Nat) : crlf (c :: r) = c :: crlf r := by
  conv => lhs; unfold crlf
  split
  · rename_i e; cases e
  · rename_i e; cases e; exact absurd rfl h1
  · rename_i e; cases e; rw [if_neg (by lia)]
theorem crlf_skip : ∀ (a r : List Nat), (∀ c ∈ a, c ≠ 10 ∧ c ≠ 13) → crlf (a ++ r) = a ++ crlf r
  | [], r, _ => rfl
  | c :: a, r, h => by
    have := h c List.mem_cons_self
    rw [List.cons_append, crlf_c this.2 this.1, crlf_skip a r fun d hd => h d (List.mem_cons_of_mem _ hd)]; rfl
theorem ext_list (x : Array Nat) (d b : Nat) : (x.extract d b).toList = (x.toList.drop d).take (b - d) := by simp
theorem getD_list (x : Array Nat) (j : Nat) : x.getD j 0 = x.toList.getD j 0 := by
  simp [Array.getD_eq_getD_getElem?, List.getD_eq_getElem?_getD]
theorem drop_cut (l : List Nat) {d b : Nat} (h : d ≤ b) : l.drop d = (l.drop d).take (b - d) ++ l.drop b := by
  conv => lhs; rw [← List.take_append_drop (b - d) (l.drop d)]
  rw [List.drop_drop, show d + (b - d) = b by lia]
theorem drop_at (l : List Nat) {b : Nat} (h : b < l.length) : l.drop b = l.getD b 0 :: l.drop (b + 1) := by
  rw [List.drop_eq_getElem_cons h]
  simp [h]
theorem mem_cut {l : List Nat} {d b c : Nat} (h : c ∈ (l.drop d).take (b - d)) : ∃ j, d ≤ j ∧ j < b ∧ j < l.length ∧ l.getD j 0 = c := by
  obtain ⟨i, hi, rfl⟩ := List.mem_iff_getElem.mp h
  rw [List.length_take, List.length_drop] at hi
  refine ⟨d + i, by lia, by lia, by lia, ?_⟩
  rw [List.getElem_take, List.getElem_drop]
  simp [show d + i < l.length by lia]
theorem sub2_eq (x : Array Nat) : ∀ f d, x.size < f + d → d ≤ x.size → subT (fnd2 x) x [13, 10] f d = crlf (x.toList.drop d) := by
  intro f
  induction f with
  | zero => intro d h1 h2; lia
  | succ f ih =>
    intro d h1 h2
    show (match fnd2 x d with | none => _ | some (b, e) => _) = _
    unfold fnd2
    cases hf : find2 x (x.size + 1 - d) d with
    | none =>
      have hn := find2_none (by lia) hf
      show (x.extract d x.size).toList = _
      rw [ext_list]
      have e : (x.toList.drop d).take (x.size - d) = x.toList.drop d := List.take_of_length_le (by rw [List.length_drop, Array.length_toList]; lia)
      rw [e]
      have := crlf_skip (x.toList.drop d) [] fun c hc => by
        rw [← e] at hc
        obtain ⟨j, a1, a2, a3, a4⟩ := mem_cut hc
        rw [← a4, ← getD_list]
        exact hn j a1 a2
      rw [List.append_nil] at this
      rw [this]; simp [crlf]
    | some b =>
      obtain ⟨f1, f2, f3, f4⟩ := find2_some hf
      have hl : b < x.toList.length := by rw [Array.length_toList]; exact f2
      show (x.extract d b).toList ++ [13, 10] ++ subT (fnd2 x) x [13, 10] f (e2 x b) = _
      rw [ih (e2 x b) (by have := e2_le f2; lia) (e2_le f2).2, drop_cut x.toList f1, ext_list, crlf_skip, List.append_assoc]
      · congr 1
        rw [drop_at _ hl, ← getD_list]
        unfold e2
        by_cases h13 : x.getD b 0 = 13
        · rw [h13]
          by_cases h10 : b + 1 < x.size ∧ x.getD (b + 1) 0 = 10
          · rw [if_pos ⟨rfl, h10⟩, drop_at x.toList (b := b + 1) (by rw [Array.length_toList]; exact h10.1), ← getD_list, h10.2]
            rfl
          · rw [if_neg (fun h => h10 h.2), crlf_13]
            · rfl
            · intro hh
              apply h10
              have hlt : b + 1 < x.toList.length := by
                apply Decidable.byContradiction
                intro hge
                rw [List.drop_eq_nil_of_le (by lia)] at hh
                cases hh
              rw [drop_at _ hlt, ← getD_list] at hh
              exact ⟨by rw [← Array.length_toList]; exact hlt, Option.some.inj hh⟩
        · have h10 := f3.resolve_right h13
          rw [if_neg (fun h => h13 h.1), h10, crlf_10]
          rfl
      · intro c hc
        obtain ⟨j, a1, a2, a3, a4⟩ := mem_cut hc
        rw [← a4, ← getD_list]
        exact f4 j a1 a2

noncomputable def dots : Bool → List Nat → List Nat
  | _, [] => []
  | b, c :: r => if b = true ∧ c = 46 then 46 :: 46 :: dots false r else c :: dots (c == 10) r
noncomputable def bol (x : Array Nat) (d : Nat) : Bool := d == 0 || x.getD (d - 1) 0 == 10
theorem bol_succ (x : Array Nat) (d : Nat) : bol x (d + 1) = (x.getD d 0 == 10) := by unfold bol; simp
theorem dots_skip (x : Array Nat) : ∀ (k d : Nat), d + k ≤ x.size → (∀ j, d ≤ j → j < d + k → isDot x j = false) → dots (bol x d) (x.toList.drop d) = (x.toList.drop d).take k ++ dots (bol x (d + k)) (x.toList.drop (d + k))
  | 0, d, _, _ => rfl
  | k + 1, d, hk, h => by
    have hl : d < x.toList.length := by rw [Array.length_toList]; lia
    have h0 := h d (Nat.le_refl _) (by lia)
    rw [drop_at _ hl]
    have hn : ¬ (bol x d = true ∧ x.toList.getD d 0 = 46) := by
      rintro ⟨h1, h2⟩
      rw [← getD_list] at h2
      unfold isDot at h0
      unfold bol at h1
      rw [h1, h2] at h0
      simp at h0
      lia
    show (if bol x d = true ∧ x.toList.getD d 0 = 46 then _ else x.toList.getD d 0 :: dots (x.toList.getD d 0 == 10) (x.toList.drop (d + 1))) = _
    rw [if_neg hn, ← getD_list, ← bol_succ, dots_skip x k (d + 1) (by lia) fun j a b => h j (by lia) (by lia), show d + 1 + k = d + (k + 1) by lia]
    rfl
theorem sub1_eq (x : Array Nat) : ∀ f d, x.size < f + d → d ≤ x.size → subT (fnd1 x) x [46, 46] f d = dots (bol x d) (x.toList.drop d) := by
  intro f
  induction f with
  | zero => intro d h1 h2; lia
  | succ f ih =>
    intro d h1 h2
    show (match fnd1 x d with | none => _ | some (b, e) => _) = _
    unfold fnd1
    cases hf : find1 x (x.size + 1 - d) d with
    | none =>
      have hn := find1_none (by lia) hf
      show (x.extract d x.size).toList = _
      have := dots_skip x (x.size - d) d (by lia) fun j a b => hn j a (by lia)
      have e : x.toList.drop x.size = [] := List.drop_eq_nil_of_le (by rw [Array.length_toList]; exact Nat.le_refl _)
      rw [this, ext_list, show d + (x.size - d) = x.size by lia, e]
      simp [dots]
    | some b =>
      obtain ⟨f1, f2, f4⟩ := find1_some hf
      obtain ⟨g1, g2, g3⟩ := isDot_lt f2
      have hl : b < x.toList.length := by rw [Array.length_toList]; exact g1
      show (x.extract d b).toList ++ [46, 46] ++ subT (fnd1 x) x [46, 46] f (b + 1) = _
      have := dots_skip x (b - d) d (by lia) fun j a c => f4 j a (by lia)
      rw [ih (b + 1) (by lia) (by lia), this, ext_list, List.append_assoc, show d + (b - d) = b by lia]
      congr 1
      have hb : bol x b = true := by unfold bol; rcases g3 with h | h <;> simp [h]
      rw [drop_at _ hl, ← getD_list, g2, hb, bol_succ, g2]
      rfl
end Mine
local macro_rules | `(tactic| walk_at "no rule 0") => `(tactic| skip)
namespace Mine
open PySem PySem.W PySem.Calls PyProof.Rows PySem.Spec

section
variable {w : World} {A : Around} {E : Value → Shared → Prop} {s : Shared} {h₀ : Heap} {L : Addr} {m : Str → Option Value}
theorem pat1 (F : Fr h₀ L s.heap m) (X : (K w.params).In h₀) : Pat s.heap 65 64 C1 :=
  ⟨⟨_, _, F.keep _ _ (X 65 _ rfl), rfl, rfl, rfl, rfl, rfl, rfl⟩, ⟨_, _, _, F.keep _ _ (X 64 _ rfl), rfl, by kernel_rfl⟩⟩
theorem pat2 (F : Fr h₀ L s.heap m) (X : (K w.params).In h₀) : Pat s.heap 70 69 C2 :=
  ⟨⟨_, _, F.keep _ _ (X 70 _ rfl), rfl, rfl, rfl, rfl, rfl, rfl⟩, ⟨_, _, _, F.keep _ _ (X 69 _ rfl), rfl, by kernel_rfl⟩⟩
theorem meth_rx {pl : Sem Bool} {a b : Addr} {C : Array Nat} {Q : Value × List Value → Shared → Prop} (p : Pat s.heap a b C) (h : Q (.builtin "re.Pattern.sub", [.ref a]) s) : wpAny (model rwp w) A (getMethod (.ref a) "sub" pl) Q E s := by
  obtain ⟨⟨o, fs, h1, h2, h3, _⟩, _⟩ := p
  exact getMethod_builtin (T := "re.Pattern") ⟨o, h1, h2⟩ plainAttrs_rx slot_rx_sub type_rx_sub (fun a e => by cases e; exact ⟨o, h1, h3⟩) h
theorem meth_p1 {pl : Sem Bool} {Q : Value × List Value → Shared → Prop} (F : Fr h₀ L s.heap m) (X : (K w.params).In h₀) (h : Q (.builtin "re.Pattern.sub", [.ref 65]) s) : wpAny (model rwp w) A (getMethod (.ref 65) (Str.ofString "sub") pl) Q E s := meth_rx (pat1 F X) h
theorem meth_p2 {pl : Sem Bool} {Q : Value × List Value → Shared → Prop} (F : Fr h₀ L s.heap m) (X : (K w.params).In h₀) (h : Q (.builtin "re.Pattern.sub", [.ref 70]) s) : wpAny (model rwp w) A (getMethod (.ref 70) (Str.ofString "sub") pl) Q E s := meth_rx (pat2 F X) h
theorem sub1 {x : Str} {t u : Tok} {news : List (Addr × Obj)} {Q : Value → Shared → Prop} (F : Fr h₀ L s.heap m) (N : News h₀ L s.heap news) (X : (K w.params).In h₀) (hx : x.cps.size ≤ 1048576)
    (h : ∀ tk t' h', Fr h₀ L h' m → News h₀ L h' news → Q (.str ⟨(dots true x.cps.toList).toArray⟩ t') { s with heap := h', toks := tk }) :
    wpAny (model rwp w) A (call (.builtin "re.Pattern.sub") [.ref 65, .str (Str.ofString "..") u, .str x t]) Q E s := by
  refine call_sub (pat1 F X) (finds1 x.cps hx) (by decide +kernel) (by decide +kernel) hx fun tk t' h' hk => ?_
  have e : subT (fnd1 x.cps) x.cps (Str.ofString "..").cps.toList (x.cps.size + 1) 0 = dots true x.cps.toList := sub1_eq x.cps (x.cps.size + 1) 0 (by lia) (Nat.zero_le _)
  rw [e]
  exact h tk t' h' (F.keeps hk) (N.grown hk)
theorem sub2 {x : Str} {t u : Tok} {news : List (Addr × Obj)} {Q : Value → Shared → Prop} (F : Fr h₀ L s.heap m) (N : News h₀ L s.heap news) (X : (K w.params).In h₀) (hx : x.cps.size ≤ 1048576)
    (h : ∀ tk t' h', Fr h₀ L h' m → News h₀ L h' news → Q (.str ⟨(crlf x.cps.toList).toArray⟩ t') { s with heap := h', toks := tk }) :
    wpAny (model rwp w) A (call (.builtin "re.Pattern.sub") [.ref 70, .str ⟨#[13, 10]⟩ u, .str x t]) Q E s := by
  refine call_sub (pat2 F X) (finds2 x.cps) (by decide +kernel) (by decide +kernel) hx fun tk t' h' hk => ?_
  have e : subT (fnd2 x.cps) x.cps (Str.mk #[13, 10]).cps.toList (x.cps.size + 1) 0 = crlf x.cps.toList := sub2_eq x.cps (x.cps.size + 1) 0 (by lia) (Nat.zero_le _)
  rw [e]
  exact h tk t' h' (F.keeps hk) (N.grown hk)
end
theorem crlf_len : ∀ (n : Nat) (l : List Nat), l.length ≤ n → (crlf l).length ≤ 2 * l.length
  | _, [], _ => Nat.le_refl _
  | 0, _ :: _, h => by cases h
  | n + 1, c :: r, h => by
    have ih := crlf_len n r (Nat.le_of_succ_le_succ h)
    by_cases h13 : c = 13
    · subst h13
      cases r with
      | nil => exact Nat.le_refl _
      | cons d r =>
        by_cases h10 : d = 10
        · subst h10
          have ih := crlf_len n r (by simp only [List.length_cons] at h; lia)
          show (13 :: 10 :: crlf r).length ≤ _
          simp only [List.length_cons] at ih ⊢; lia
        · rw [crlf_13 (by intro e; exact h10 (Option.some.inj e))]
          simp only [List.length_cons] at ih ⊢; lia
    · by_cases h10 : c = 10
      · subst h10
        rw [crlf_10]
        simp only [List.length_cons] at ih ⊢; lia
      · rw [crlf_c h13 h10]
        simp only [List.length_cons] at ih ⊢; lia
theorem crlf_fit {x : Str} (h : x.cps.size ≤ 100000) : (Str.mk (crlf x.cps.toList).toArray).cps.size ≤ 1048576 := by
  have := crlf_len _ x.cps.toList (Nat.le_refl _)
  have e : x.cps.toList.length = x.cps.size := Array.length_toList
  rw [e] at this
  show (crlf x.cps.toList).toArray.size ≤ _
  rw [List.size_toArray]; lia
local macro_rules | `(tactic| walk_at "getMethod ref") => `(tactic| with_reducible apply meth_p1; k_asm; k_asm)
local macro_rules | `(tactic| walk_at "getMethod ref") => `(tactic| with_reducible apply meth_p2; k_asm; k_asm)
local macro_rules | `(tactic| walk_at "call builtin:re.Pattern.sub") => `(tactic| ((k_dflt first | apply sub2; k_asm; k_asm; k_asm; lia | apply sub1; k_asm; k_asm; k_asm; apply crlf_fit; assumption); intros))

set_option maxHeartbeats 8000000 in
theorem c_quote (w : World) (loose : List Str) (mean : ExcName → Option Value) (mg mb : Str → Option Value) (x : Str) (t : Tok) :
   Ctr w loose mean mg mb 77 (x.cps.size ≤ 100000) [.str x t] (fun t => .str ⟨(dots true (crlf x.cps.toList)).toArray⟩ t) := by
  unfold Ctr rwp
  k_fill
  dsimp only [CbClaim, CbLists, CbRet]
  intros; rename_i hret
  refine wpAny_call ?_
  k_dflt cell_enter
  k_steps
  all_goals cb_end hret
end Mine
namespace Mine
open PySem PySem.W PySem.Calls PyProof.Rows PySem.Spec

/-- the same run, further on -/
noncomputable def bareOf (g : Array GenState) : Bool := g.all GenState.bare
noncomputable def Later (s s' : Shared) : Prop := s'.drawn = s.drawn ∧ (s'.os, bareOf s'.gens) = (s.os, bareOf s.gens)
theorem Later.refl (s : Shared) : Later s s := ⟨rfl, rfl⟩
theorem Later.trans {a b c : Shared} (x : Later a b) (y : Later b c) : Later a c := ⟨y.1.trans x.1, y.2.trans x.2⟩
/-- how a turn ends -/
noncomputable def LEnd (h₀ : Heap) (L : Addr) (J : (Str → Option Value) → List (Addr × Obj) → Prop) (own : List (Addr × Obj)) (adr : List Addr) (s₁ : Shared) (Q : Flow → Shared → Prop) (f : Flow) (s₂ : Shared) : Prop :=
  match f with
  | .ret v => Q (.ret v) s₂
  | .brk => Q .next s₂
  | _ => ∃ m' news' nx, Later s₁ s₂ ∧ Fr h₀ L s₂.heap m' ∧ News h₀ L s₂.heap news' ∧ (∀ p ∈ nx, p ∈ news') ∧ (∀ p ∈ own, p ∈ news') ∧ nx.map (·.1) = adr ∧ J m' nx
section
variable {prog : Program} {w : World} {A : Around} {E : Value → Shared → Prop} {s : Shared} {env : Env} {h₀ : Heap}
theorem loop_gen {target : PySem.Expr} {body orelse : List Stmt} {I : Addr} {fp wr : List Addr} {n : Nat} {P : Nat → Value → Prop} {St : Nat → Heap → Prop} {m : Str → Option Value} {news : List (Addr × Obj)} {Q : Flow → Shared → Prop}
    (W : Walks prog w A I fp wr n P St) (hLf : env.locals ∉ fp) (hwr : ∀ b ∈ wr, h₀.get? b = none) (hnw : ∀ p ∈ news, p.1 ∉ wr) (hst : St 0 s.heap) (F : Fr h₀ env.locals s.heap m) (N : News h₀ env.locals s.heap news)
    (J : Nat → (Str → Option Value) → List (Addr × Obj) → Prop) (h0 : J 0 m news)
    (go : ∀ i v (s' : Shared) (Q' E' : _), P i v → St (i + 1) s'.heap → Q' () s' → wpAny (model prog w) A (letOwnedTupleGo target (.ref I) v) Q' E' s')
    (step : ∀ i v m₁ news₁ (s₁ : Shared) own, Later s s₁ → i < n → P i v → J i m₁ news₁ → news₁.map (·.1) = news.map (·.1) → OwnOff own (news.map (·.1)) → Fr h₀ env.locals s₁.heap m₁ → News h₀ env.locals s₁.heap (news₁ ++ own) →
      wpAny (model prog w) A (assign target env v) (fun _ s₂ => wpAny (model prog w) A (execs body env) (LEnd h₀ env.locals (J (i + 1)) own (news.map (·.1)) s₁ Q) (fun _ _ => False) s₂) (fun _ _ => False) s₁)
    (done : ∀ m₁ news₁ (s₁ : Shared), Later s s₁ → J n m₁ news₁ → Fr h₀ env.locals s₁.heap m₁ → News h₀ env.locals s₁.heap news₁ → wpAny (model prog w) A (execs orelse env) (fun f s₃ => Q f s₃) (fun _ _ => False) s₁)
    (hfpn : ∀ p ∈ news, p.1 ∉ fp) :
    codeAny (model prog w) A (.forLoop target (.ref I) body orelse env) (fun r s' => match r with | .ok f => Q f s' | .error e => cameBackBy (model prog w) A env E e s') s := by
  have hLw : env.locals ∉ wr := fun h => hLf (W.sub _ h)
  have old : ∀ b o, h₀.get? b = some o → b ∉ wr := fun b o e hb => by rw [hwr b hb] at e; cases e
  refine codeAny_forLoop_any
    (fun k s' => ∃ i m' news', Later s s' ∧ St i s'.heap ∧ Fr h₀ env.locals s'.heap m' ∧ News h₀ env.locals s'.heap news' ∧ news'.map (·.1) = news.map (·.1) ∧ J i m' news' ∧ i ≤ n ∧ k = n + 1 - i) ?_ (n + 1)
    ⟨0, m, news, .refl s, hst, F, N, rfl, h0, Nat.zero_le _, rfl⟩
  rintro k s' ⟨i, m', news', hls, hst', F', N', had, hJ, hi, rfl⟩
  have hnw' : ∀ p ∈ news', p.1 ∉ wr := fun p hp => by
    have : p.1 ∈ news.map (·.1) := had ▸ List.mem_map.mpr ⟨p, hp, rfl⟩
    obtain ⟨q, hq, e⟩ := List.mem_map.mp this
    rw [← e]; exact hnw q hq
  have next : ∀ h₁ : Heap, (∀ b o, b ∉ wr → s'.heap.get? b = some o → h₁.get? b = some o) → Fr h₀ env.locals h₁ m' ∧ News h₀ env.locals h₁ news' := fun h₁ hk₁ =>
    ⟨⟨F'.ns.at' fun o e => hk₁ _ o hLw e, fun b o e => hk₁ b o (old b o e) (F'.keep b o e), F'.above⟩, fun p hp => ⟨hk₁ _ _ (hnw' p hp) (N' p hp).1, (N' p hp).2⟩⟩
  by_cases hlt : i < n
  · refine W.item i _ _ _ hlt hst' fun v h₁ tk₁ hP hst₁ hk₁ => ?_
    obtain ⟨F₁, N₁⟩ := next h₁ hk₁
    refine go i v _ _ _ hP hst₁ ?_
    have hl₁ : Later s { s' with heap := h₁, toks := tk₁ } := hls
    have Nown : News h₀ env.locals h₁ (ownOf h₀ fp h₁) := news_ownOf hLf
    have hoff : OwnOff (ownOf h₀ fp h₁) (news.map (·.1)) := by
      intro p hp b hb e
      obtain ⟨q, hq, rfl⟩ := List.mem_map.mp hb
      exact hfpn q hq (e ▸ ownOf_sub p hp)
    refine wpAny_mono (step i v m' news' _ (ownOf h₀ fp h₁) hl₁ hlt hP hJ had hoff F₁ (N₁.append Nown)) (fun _ s₂ h₂ => wpAny_mono h₂ (fun f s₃ h₃ => ?_) fun _ _ e => e.elim) fun _ _ e => e.elim
    have fin : (∃ m₂ news₂ nx, Later { s' with heap := h₁, toks := tk₁ } s₃ ∧ Fr h₀ env.locals s₃.heap m₂ ∧ News h₀ env.locals s₃.heap news₂ ∧ (∀ p ∈ nx, p ∈ news₂) ∧ (∀ p ∈ ownOf h₀ fp h₁, p ∈ news₂) ∧ nx.map (·.1) = news.map (·.1) ∧ J (i + 1) m₂ nx) →
        ∃ k', k' < n + 1 - i ∧ ∃ i m' news', Later s s₃ ∧ St i s₃.heap ∧ Fr h₀ env.locals s₃.heap m' ∧ News h₀ env.locals s₃.heap news' ∧ news'.map (·.1) = news.map (·.1) ∧ J i m' news' ∧ i ≤ n ∧ k' = n + 1 - i := by
      rintro ⟨m₂, news₂, nx, hl₃, F₃, N₃, hn, ho, ha, hj⟩
      refine ⟨n + 1 - (i + 1), by omega, i + 1, m₂, nx, hl₁.trans hl₃, ?_, F₃, fun p hp => N₃ p (hn p hp), ha, hj, hlt, rfl⟩
      refine W.frame _ _ _ hst₁ fun b hb o e => ?_
      cases hn₀ : h₀.get? b with
      | some o₀ =>
        have : o₀ = o := by have := F₁.keep b o₀ hn₀; rw [e] at this; exact (Option.some.inj this).symm
        exact this ▸ F₃.keep b o₀ hn₀
      | none => exact (N₃ _ (ho _ (mem_ownOf hb hn₀ e))).1
    cases f with
    | ret v => exact h₃
    | brk => exact h₃
    | cont => exact fin h₃
    | next => exact fin h₃
  · have hin : i = n := by omega
    subst hin
    refine W.done _ _ _ hst' fun h₁ tk₁ hk₁ => ?_
    obtain ⟨F₁, N₁⟩ := next h₁ hk₁
    exact wpAny_mono (done m' news' _ hls hJ F₁ N₁) (fun _ _ h => h) fun _ _ e => e.elim
theorem go_list {target : PySem.Expr} {I l : Addr} {i : Nat} {v : Value} {Q' : Unit → Shared → Prop} {E' : Value → Shared → Prop} (hit : s.heap.IsListIter I l i) (hQ : Q' () s) :
    wpAny (model prog w) A (letOwnedTupleGo target (.ref I) v) Q' E' s := by
  obtain ⟨o, ho, hc, hd⟩ := hit
  have core : wpAny (model prog w) A (do
      let (.ref r, .ref a) := ((.ref I, v) : Value × Value) | return
      let o ← load r
      match o.cls, o.data with
      | .type n, .fields vs =>
        if ["enumerate", "zip", "dict_itemiterator", "dict_reverseitemiterator", "odict_iterator", "itertools.zip_longest", "itertools.pairwise"].contains n && vs[0]? == some (rawInt a) then
          rule "for.unpacks-the-owned-tuple"
          updateField r 0 .none
      | _, _ => pure ()) Q' E' s := by
    cases v with
    | ref T =>
      refine wpAny_bind (wpAny_load ho ?_)
      rw [hc, hd]
      exact wpAny_pure hQ
    | _ => exact wpAny_pure hQ
  cases target with
  | Tuple elts x1 pos => exact core
  | List elts pos => exact core
  | _ => exact wpAny_pure hQ

theorem for_list {target : PySem.Expr} {body orelse : List Stmt} {D : Addr} {items : Array Value} {m : Str → Option Value} {news all : List (Addr × Obj)} {Q : Flow → Shared → Prop} (hh : A.handled = none) (hl : LCg.SrcAt h₀ D items all)
    (F : Fr h₀ env.locals s.heap m) (N : News h₀ env.locals s.heap all) (sub : ∀ p ∈ news, p ∈ all) (off : ∀ p ∈ news, p.1 ≠ D)
    (J : Nat → (Str → Option Value) → List (Addr × Obj) → Prop) (h0 : J 0 m news)
    (step : ∀ i v m₁ news₁ (s₁ : Shared) own, Later s s₁ → items[i]? = some v → J i m₁ news₁ → news₁.map (·.1) = news.map (·.1) → OwnOff own (news.map (·.1)) → Fr h₀ env.locals s₁.heap m₁ → News h₀ env.locals s₁.heap (news₁ ++ own) →
      wpAny (model prog w) A (assign target env v) (fun _ s₂ => wpAny (model prog w) A (execs body env) (LEnd h₀ env.locals (J (i + 1)) own (news.map (·.1)) s₁ Q) (fun _ _ => False) s₂) (fun _ _ => False) s₁)
    (done : ∀ m₁ news₁ (s₁ : Shared), Later s s₁ → J items.size m₁ news₁ → Fr h₀ env.locals s₁.heap m₁ → News h₀ env.locals s₁.heap news₁ → wpAny (model prog w) A (execs orelse env) (fun f s₃ => Q f s₃) (fun _ _ => False) s₁) :
    wpAny (model prog w) A (pyIter (.ref D)) (fun it s₂ => codeAny (model prog w) A (.forLoop target it body orelse env) (fun r s' => match r with | .ok f => Q f s' | .error e => cameBackBy (model prog w) A env E e s') s₂) E s := by
  have hls : s.heap.IsList D items := hl.elim (fun x => x.at fun o e => F.keep D o e) fun ⟨o, hm, c, n, d⟩ => ⟨o, (N _ hm).1, c, n, d⟩
  have hDL : env.locals ≠ D := hl.elim (fun ⟨o, e, _⟩ q => absurd (Heap.lt_size e) (by rw [← q]; exact Nat.not_lt.mpr F.above)) fun ⟨o, hm, _⟩ q => (N _ hm).2.1 q.symm
  have hne : D ≠ s.heap.objs.size := by obtain ⟨o, e, _⟩ := id hls; exact Nat.ne_of_lt (Heap.lt_size e)
  refine wpAny_pyIter_list hls ?_
  have W := Walks.list (prog := prog) (w := w) hh s.heap.objs.size D hne items
  have up : ∀ b o, s.heap.get? b = some o → (s.heap.push { cls := .type "list_iterator", data := .fields #[.ref D, .int 0 0] }).get? b = some o := fun b o e => Heap.get?_push_of_some _ e
  have N' : News h₀ env.locals s.heap news := fun p hp => N p (sub p hp)
  have offI : ∀ p ∈ news, p.1 ≠ s.heap.objs.size := fun p hp => Nat.ne_of_lt (Heap.lt_size (N' p hp).1)
  refine loop_gen W (news := news) (m := m) ?_ ?_ (fun p hp hI => offI p hp (List.mem_singleton.mp hI)) ⟨⟨_, Heap.get?_push_size _ rfl, rfl, rfl⟩, hls.at (up D)⟩ (F.keeps up) (N'.grown up) J h0
    (fun i v s' Q' E' _ st hq => go_list st.1 hq) (fun i v m₁ news₁ s₁ own hL hlt hP hJ ha ho F₁ N₁ => step i v m₁ news₁ s₁ own ?_ hP hJ ha ho F₁ N₁) (fun m₁ news₁ s₁ hL hJ F₁ N₁ => done m₁ news₁ s₁ ?_ hJ F₁ N₁) ?_
  · intro hm
    rcases List.mem_cons.mp hm with e | hm
    · exact absurd F.ns.lt (by rw [e]; exact Nat.lt_irrefl _)
    · exact hDL (List.mem_singleton.mp hm)
  · intro b hb
    rw [List.mem_singleton.mp hb]
    exact next_is_new F
  · exact hL
  · exact hL
  · intro p hp hm
    rcases List.mem_cons.mp hm with e | hm
    · exact offI p hp e
    · exact off p hp (List.mem_singleton.mp hm)

theorem for_range {x : Str} {px : Pos} {body orelse : List Stmt} {r : Addr} {a b : Int} {t u v : Tok} {n : Nat} {m : Str → Option Value} {news : List (Addr × Obj)} {Q : Flow → Shared → Prop} (hh : A.handled = none)
    (hr : IsRange s.heap r a b 1 t u v) (hsm : Builtin.Range.small a b 1 = true) (hn : Builtin.Range.rangeSize a b 1 = ((n : Nat) : Int)) (F : Fr h₀ env.locals s.heap m) (N : News h₀ env.locals s.heap news)
    (J : Nat → (Str → Option Value) → List (Addr × Obj) → Prop) (h0 : J 0 m news)
    (step : ∀ (i : Nat) t m₁ news₁ (s₁ : Shared) own, Later s s₁ → i < n → J i m₁ news₁ → news₁.map (·.1) = news.map (·.1) → OwnOff own (news.map (·.1)) → Fr h₀ env.locals s₁.heap m₁ → News h₀ env.locals s₁.heap (news₁ ++ own) →
      wpAny (model prog w) A (assign (.Name x px) env (.int (a + (i : Int)) t)) (fun _ s₂ => wpAny (model prog w) A (execs body env) (LEnd h₀ env.locals (J (i + 1)) own (news.map (·.1)) s₁ Q) (fun _ _ => False) s₂) (fun _ _ => False) s₁)
    (done : ∀ m₁ news₁ (s₁ : Shared), Later s s₁ → J n m₁ news₁ → Fr h₀ env.locals s₁.heap m₁ → News h₀ env.locals s₁.heap news₁ → wpAny (model prog w) A (execs orelse env) (fun f s₃ => Q f s₃) (fun _ _ => False) s₁) :
    wpAny (model prog w) A (pyIter (.ref r)) (fun it s₂ => codeAny (model prog w) A (.forLoop (.Name x px) it body orelse env) (fun r s' => match r with | .ok f => Q f s' | .error e => cameBackBy (model prog w) A env E e s') s₂) E s := by
  refine wpAny_pyIter_range hr hsm ?_
  have offI : ∀ p ∈ news, p.1 ≠ s.heap.objs.size := fun p hp => Nat.ne_of_lt (Heap.lt_size (N p hp).1)
  refine loop_gen (LCg.range_walks (prog := prog) (w := w) (I := s.heap.objs.size) hh a n) (news := news) (m := m) ?_ ?_ (fun p hp hI => offI p hp (List.mem_singleton.mp hI)) (by show IsRangeIter _ _ _ _ _; rw [hn]; simpa using Heap.get?_push_size _ rfl)
    (F.keeps fun _ _ e => Heap.get?_push_of_some _ e) (N.grown fun _ _ e => Heap.get?_push_of_some _ e) J h0
    (fun i v s' Q' E' _ st hq => wpAny_pure hq) (fun i v m₁ news₁ s₁ own hL hlt hP hJ ha ho F₁ N₁ => ?_) (fun m₁ news₁ s₁ hL hJ F₁ N₁ => done m₁ news₁ s₁ ?_ hJ F₁ N₁) (fun p hp hI => offI p hp (List.mem_singleton.mp hI))
  · intro hm
    exact absurd F.ns.lt (by rw [List.mem_singleton.mp hm]; exact Nat.lt_irrefl _)
  · intro b hb
    rw [List.mem_singleton.mp hb]
    exact next_is_new F
  · obtain ⟨t', rfl⟩ := hP
    exact step i t' m₁ news₁ s₁ own hL hlt hJ ha ho F₁ N₁
  · exact hL
end
end Mine
namespace Mine
open PySem PySem.W PySem.Calls PyProof.Rows PySem.Spec

/-! bits -/
theorem and_pow (n i : Nat) : n &&& 2 ^ i = if n.testBit i = true then 2 ^ i else 0 := by
  apply Nat.eq_of_testBit_eq
  intro j
  rw [Nat.testBit_and, Nat.testBit_two_pow]
  by_cases h : i = j
  · subst h
    by_cases hb : n.testBit i = true
    · rw [if_pos hb, hb, Nat.testBit_two_pow]; rfl
    · rw [if_neg hb]; simp at hb; simp [hb]
  · rw [show decide (i = j) = false by simpa using h, Bool.and_false]
    split
    · rw [Nat.testBit_two_pow]; simp [h]
    · simp
theorem low_div (n i : Nat) : (n - n % 2 ^ i) / 2 ^ i = n / 2 ^ i := by
  have h := Nat.div_add_mod n (2 ^ i)
  have hp : 0 < 2 ^ i := Nat.two_pow_pos i
  have : n - n % 2 ^ i = 2 ^ i * (n / 2 ^ i) := by lia
  rw [this, Nat.mul_div_cancel_left _ hp]
theorem low_bit (n i : Nat) : (n - n % 2 ^ i).testBit i = n.testBit i := by
  rw [Nat.testBit_eq_decide_div_mod_eq, Nat.testBit_eq_decide_div_mod_eq, low_div]
theorem low_next (n i : Nat) : n - n % 2 ^ (i + 1) = if n.testBit i = true then n - n % 2 ^ i - 2 ^ i else n - n % 2 ^ i := by
  have h := @Nat.mod_pow_succ n 2 i
  rw [Nat.testBit_eq_decide_div_mod_eq, h]
  have : n / 2 ^ i % 2 < 2 := Nat.mod_lt _ (by decide)
  by_cases hb : n / 2 ^ i % 2 = 1
  · rw [hb]; simp; lia
  · have : n / 2 ^ i % 2 = 0 := by lia
    rw [this]; simp
theorem low_ge {n i : Nat} (h : n.testBit i = true) : 2 ^ i ≤ n - n % 2 ^ i := by
  rw [Nat.testBit_eq_decide_div_mod_eq, decide_eq_true_eq] at h
  have h1 := Nat.div_add_mod n (2 ^ i)
  have h2 : 1 ≤ n / 2 ^ i := by
    cases hq : n / 2 ^ i with
    | zero => rw [hq] at h; simp at h
    | succ k => lia
  have : 2 ^ i * 1 ≤ 2 ^ i * (n / 2 ^ i) := Nat.mul_le_mul_left _ h2
  lia
theorem bitAnd_nat (a b : Nat) : Builtin.bitAnd (a : Int) (b : Int) = ((a &&& b : Nat) : Int) := by
  unfold Builtin.bitAnd
  simp
theorem flag_and (n i : Nat) : Builtin.bitAnd ((n - n % 2 ^ i : Nat) : Int) ((2 ^ i : Nat) : Int) = if n.testBit i = true then ((2 ^ i : Nat) : Int) else 0 := by
  rw [bitAnd_nat, and_pow, low_bit]
  split <;> rfl
theorem flag_xor {n i : Nat} (h : n.testBit i = true) : Builtin.bitXor ((n - n % 2 ^ i : Nat) : Int) ((2 ^ i : Nat) : Int) = ((n - n % 2 ^ (i + 1) : Nat) : Int) := by
  rw [PyProof.Rows.bitXor_and, flag_and, if_pos h, low_next, if_pos h]
  have := low_ge h
  lia
/-- the name of a flag's bit -/
noncomputable def cfn (n : Int) : Option Value := match (o32_0 dumP).data with
  | .dict es _ => findBy Value.isInt es n
  | _ => none
noncomputable def flagName (i : Nat) : Str := match cfn ((2 ^ i : Nat) : Int) with
  | some (.str x _) => x
  | _ => baseText "0x" 16 ((2 ^ i : Nat) : Int)
noncomputable def flagNames (N : Nat) (i : Nat) : List Str := ((List.range i).filter fun k => N.testBit k).map flagName
theorem flagNames_yes {N i : Nat} (h : N.testBit i = true) : flagNames N (i + 1) = flagNames N i ++ [flagName i] := by
  unfold flagNames
  rw [List.range_succ, List.filter_append, List.map_append]
  simp [h]
theorem flagNames_no {N i : Nat} (h : N.testBit i = false) : flagNames N (i + 1) = flagNames N i := by
  unfold flagNames
  rw [List.range_succ, List.filter_append, List.map_append]
  simp [h]
theorem hex_fit : ∀ i : Fin 33, (baseText "0x" 16 ((2 ^ i.val : Nat) : Int)).length ≤ 100 := by decide +kernel
theorem cfn_map {prog : Program} {w : World} {P : Params} {h : Heap} (hx : h.get? 32 = some (o32_0 P)) : h.MapOf (intKind prog w) 32 cfn := by
  refine ⟨_, _, 10, hx, ⟨rfl, rfl, rfl⟩, rfl, ?_, fun _ => rfl⟩
  intro e he
  have hall : (match (o32_0 dumP).data with | .dict es _ => es | _ => #[]).toList.all (fun e => match e.key with | .int n _ => e.hash == hashInt n | _ => false) = true := by kernel_rfl
  have h := List.all_eq_true.mp hall e (Array.mem_toList_iff.mpr he)
  obtain ⟨hh, key, val⟩ := e
  cases key with
  | int n tk => exact ⟨n, intKind_is prog w n tk, by show hh = hashInt n; simpa using h⟩
  | _ => cases h
theorem cfn_str : ∀ i : Fin 33, (match cfn ((2 ^ i.val : Nat) : Int) with | none => true | some (.str x _) => decide (x.length ≤ 100) | _ => false) = true := by decide +kernel
section
variable {w : World} {A : Around} {E : Value → Shared → Prop} {s : Shared} {h₀ : Heap} {L : Addr} {m : Str → Option Value}
theorem meth_cfn {pl : Sem Bool} {Q : Value × List Value → Shared → Prop} (F : Fr h₀ L s.heap m) (X : (K w.params).In h₀) (h : Q (.builtin "dict.get", [.ref 32]) s) : wpAny (model rwp w) A (getMethod (.ref 32) "get" pl) Q E s :=
  have hm : s.heap.MapOf (intKind rwp w) 32 cfn := cfn_map (F.keep _ _ (X 32 _ rfl))
  getMethod_builtin hm.typeIs PySem.F.plainAttrs_dict PySem.F.slot_dict_get PySem.F.type_dict_get hm.noDict h
theorem get_cfn {i : Nat} {t t' : Tok} {Q : Value → Shared → Prop} (F : Fr h₀ L s.heap m) (X : (K w.params).In h₀) (hi : i < 32) (h1 : ∀ u, Q (.str (flagName i) u) { s with toks := s.toks + 1 }) :
    wpAny (model rwp w) A (call (.builtin "dict.get") [.ref 32, .int ((2 ^ i : Nat) : Int) t, .str (baseText "0x" 16 ((2 ^ i : Nat) : Int)) t']) Q E s := by
  have hm : s.heap.MapOf (intKind rwp w) 32 cfn := cfn_map (F.keep _ _ (X 32 _ rfl))
  refine call_meetsIn PySem.F.slot_dict_get hm.typeIs PySem.F.entry_dict_get (PySem.F.args_dict_get_3 _ _ _) (meets_dict_get_default (intKind rwp w) 32 (intKind_is _ _ _ _) rfl _) ⟨_, hm, ?_⟩
  have hs := cfn_str ⟨i, by lia⟩
  unfold flagName at h1
  dsimp only at hs h1
  cases e : cfn ((2 ^ i : Nat) : Int) with
  | none => rw [e] at h1; exact h1 t'
  | some v =>
    rw [e] at hs h1
    cases v with
    | str x u => exact h1 u
    | _ => cases hs
theorem hex_flag {i : Nat} {t : Tok} {Q : Value → Shared → Prop} (hi : i < 32) (h : Q (.str (baseText "0x" 16 ((2 ^ i : Nat) : Int)) s.toks) { s with toks := s.toks + 1 }) : wpAny (model rwp w) A (call (.builtin "hex") [.int ((2 ^ i : Nat) : Int) t]) Q E s :=
  P.hex_of_int h (Nat.le_trans (hex_fit ⟨i, by lia⟩) (by decide))
theorem shl_flag {i : Nat} {t u : Tok} {Q : Value → Shared → Prop} (hi : i < 32) (h : Q (.int ((2 ^ i : Nat) : Int) s.toks) { s with toks := s.toks + 1 }) : wpAny (model rwp w) A (binaryOp .LShift (.int 1 t) (.int (0 + (i : Int)) u)) Q E s := by
  refine lshift_int_small (by lia) (by lia) (by decide) ?_
  rw [Int.zero_add, Int.toNat_natCast, Int.one_mul]
  have : (2 : Int) ^ i = ((2 ^ i : Nat) : Int) := by simp
  rw [this]; exact h
theorem and_flag {n i : Nat} {t u : Tok} {Q : Value → Shared → Prop} (h1 : n.testBit i = true → ((2 ^ i : Nat) : Int) ≠ 0 → Q (.int ((2 ^ i : Nat) : Int) s.toks) { s with toks := s.toks + 1 }) (h2 : n.testBit i = false → Q (.int 0 s.toks) { s with toks := s.toks + 1 }) :
    wpAny (model rwp w) A (binaryOp .BitAnd (.int ((n - n % 2 ^ i : Nat) : Int) t) (.int ((2 ^ i : Nat) : Int) u)) Q E s := by
  refine and_int ?_
  rw [flag_and]
  cases hb : n.testBit i with
  | true => rw [if_pos rfl]; exact h1 hb (by have := Nat.two_pow_pos i; lia)
  | false => rw [if_neg (by decide)]; exact h2 hb
theorem xor_flag {n i : Nat} {t u : Tok} {Q : Value → Shared → Prop} (hb : n.testBit i = true) (h : Q (.int ((n - n % 2 ^ (i + 1) : Nat) : Int) s.toks) { s with toks := s.toks + 1 }) :
    wpAny (model rwp w) A (inplaceOp .BitXor (.int ((n - n % 2 ^ i : Nat) : Int) t) (.int ((2 ^ i : Nat) : Int) u)) Q E s := by
  refine ixor_int ?_
  rw [flag_xor hb]; exact h
theorem app_ne {rest own : List (Addr × Obj)} {a : Addr} (h1 : ∀ p ∈ rest, p.1 < a) (ho : OwnOff own (a :: rest.map (·.1))) : ∀ p ∈ rest ++ own, p.1 ≠ a := by
  intro p hp
  rcases List.mem_append.mp hp with h | h
  · exact Nat.ne_of_lt (h1 p h)
  · exact ho p h a (List.mem_cons_self)
theorem app_str {a : Addr} {l : List (Str × Tok)} {c : Nat} {x : Str} {t : Tok} {rest : List (Addr × Obj)} {Q : Value → Shared → Prop} (F : Fr h₀ L s.heap m) (N : News h₀ L s.heap ((a, listOf (strValues l).toArray c) :: rest)) (hne : ∀ p ∈ rest, p.1 ≠ a) (hl : l.length ≤ 1000)
    (h : ∀ h', Fr h₀ L h' m → News h₀ L h' ((a, listOf (strValues (l ++ [(x, t)])).toArray (c + 1)) :: rest) → Q .none { s with heap := h' }) : wpAny (model rwp w) A (call (.builtin "list.append") [.ref a, .str x t]) Q E s := by
  have e : (strValues l).toArray.push (.str x t) = (strValues (l ++ [(x, t)])).toArray := by simp [strValues]
  have hs : (strValues l).toArray.size = l.length := by simp [strValues]
  refine append_K F N (Upd.head hne) (fun h' F' N' => h h' F' (by rw [e] at N'; exact N')) ?_
  rw [hs]
  exact Nat.le_trans hl (by decide)
end
theorem names_len {l : List (Str × Tok)} {n i : Nat} (h : l.map (·.1) = flagNames n i) (hi : i < 33) : l.length ≤ 1000 := by
  have e : l.length = (flagNames n i).length := by rw [← h, List.length_map]
  rw [e]
  unfold flagNames
  rw [List.length_map]
  have := List.length_filter_le (fun k => n.testBit k) (List.range i)
  rw [List.length_range] at this
  lia
local macro_rules | `(tactic| walk_at "binaryOp LShift int int") => `(tactic| (k_dflt apply shl_flag; assumption))
local macro_rules | `(tactic| walk_at "binaryOp BitAnd int int") => `(tactic| (k_dflt apply and_flag; intros))
local macro_rules | `(tactic| walk_at "inplaceOp BitXor int int") => `(tactic| (k_dflt apply xor_flag; assumption))
local macro_rules | `(tactic| walk_at "call builtin:hex") => `(tactic| (k_dflt apply hex_flag; assumption))
local macro_rules | `(tactic| walk_at "getMethod ref") => `(tactic| with_reducible apply meth_cfn; k_asm; k_asm)
local macro_rules | `(tactic| walk_at "call builtin:dict.get") => `(tactic| (k_dflt apply get_cfn; k_asm; k_asm; assumption; intros))
local macro_rules | `(tactic| walk_at "call builtin:list.append") => `(tactic| k_dflt (apply app_str; k_asm; k_asm; apply app_ne; assumption; assumption; apply names_len; assumption; lia; intros))
noncomputable def JF (a : Addr) (rest : List (Addr × Obj)) (m₀ : Str → Option Value) (N : Nat) (i : Nat) (m : Str → Option Value) (nx : List (Addr × Obj)) : Prop :=
  ∃ t u1 u2 l c, (m = fun z : Str => if z = "flags" then some (.int ((N - N % 2 ^ i : Nat) : Int) t) else if z = "flag" then u1 else if z = "i" then u2 else m₀ z) ∧ nx = (a, listOf (strValues l).toArray c) :: rest ∧ l.map (·.1) = flagNames N i ∧ (N = 0 ∨ 2 ^ i ≤ N)
theorem JF.start {a : Addr} {rest : List (Addr × Obj)} {m₀ : Str → Option Value} {N : Nat} {t : Tok} (h1 : m₀ "flags" = some (.int (N : Int) t)) (h2 : m₀ "flag" = none) (h3 : m₀ "i" = none) : JF a rest m₀ N 0 m₀ ((a, listOf #[] 0) :: rest) := by
  refine ⟨t, none, none, [], 0, ?_, rfl, rfl, ?_⟩
  · funext z
    by_cases e1 : z = "flags"
    · rw [if_pos e1, e1, h1]; simp [Nat.mod_one]
    · rw [if_neg e1]
      by_cases e2 : z = "flag"
      · rw [if_pos e2, e2, h2]
      · rw [if_neg e2]
        by_cases e3 : z = "i"
        · rw [if_pos e3, e3, h3]
        · rw [if_neg e3]
  · lia
section
variable {m₀ : Str → Option Value} {v1 v2 v3 v4 v5 v6 : Option Value}
theorem map_yes : (fun y : Str => if y = "flags" then v1 else if y = "flag" then v2 else if y = "i" then v3 else if y = "flags" then v4 else if y = "flag" then v5 else if y = "i" then v6 else m₀ y) =
    fun z : Str => if z = "flags" then v1 else if z = "flag" then v2 else if z = "i" then v3 else m₀ z := by
  funext y
  by_cases e1 : y = "flags"
  · simp only [if_pos e1]
  · by_cases e2 : y = "flag"
    · simp only [if_neg e1, if_pos e2]
    · by_cases e3 : y = "i"
      · simp only [if_neg e1, if_neg e2, if_pos e3]
      · simp only [if_neg e1, if_neg e2, if_neg e3]
theorem map_no : (fun y : Str => if y = "flag" then v1 else if y = "i" then v2 else if y = "flags" then v3 else if y = "flag" then v4 else if y = "i" then v5 else m₀ y) =
    fun z : Str => if z = "flags" then v3 else if z = "flag" then v1 else if z = "i" then v2 else m₀ z := by
  have n1 : ¬ (("flag" : Str) = "flags") := by decide +kernel
  have n2 : ¬ (("i" : Str) = "flags") := by decide +kernel
  funext y
  by_cases e2 : y = "flag"
  · have e1 : ¬ y = "flags" := fun e => n1 (e2 ▸ e)
    simp only [if_neg e1, if_pos e2]
  · by_cases e3 : y = "i"
    · have e1 : ¬ y = "flags" := fun e => n2 (e3 ▸ e)
      simp only [if_neg e1, if_neg e2, if_pos e3]
    · by_cases e1 : y = "flags"
      · simp only [if_pos e1, if_neg e2, if_neg e3]
      · simp only [if_neg e1, if_neg e2, if_neg e3]
theorem JF.yes {a : Addr} {rest : List (Addr × Obj)} {n i : Nat} {l : List (Str × Tok)} {c : Nat} {t u : Tok} (hb : n.testBit i = true) (hl : l.map (·.1) = flagNames n i) (h0 : ((n - n % 2 ^ (i + 1) : Nat) : Int) ≠ 0) :
    JF a rest m₀ n (i + 1) (fun y : Str => if y = "flags" then some (.int ((n - n % 2 ^ (i + 1) : Nat) : Int) t) else if y = "flag" then v2 else if y = "i" then v3 else if y = "flags" then v4 else if y = "flag" then v5 else if y = "i" then v6 else m₀ y)
      ((a, listOf (strValues (l ++ [(flagName i, u)])).toArray (c + 1)) :: rest) := by
  refine ⟨t, v2, v3, _, _, map_yes, rfl, ?_, .inr ?_⟩
  · rw [List.map_append, hl, flagNames_yes hb]; rfl
  · apply Decidable.byContradiction
    intro h
    apply h0
    rw [Nat.mod_eq_of_lt (by lia), Nat.sub_self]; rfl
theorem JF.no {a : Addr} {rest : List (Addr × Obj)} {n i : Nat} {l : List (Str × Tok)} {c : Nat} {t : Tok} (hb : n.testBit i = false) (hl : l.map (·.1) = flagNames n i) (hN : n = 0 ∨ 2 ^ i ≤ n) :
    JF a rest m₀ n (i + 1) (fun y : Str => if y = "flag" then v1 else if y = "i" then v2 else if y = "flags" then some (.int ((n - n % 2 ^ i : Nat) : Int) t) else if y = "flag" then v4 else if y = "i" then v5 else m₀ y)
      ((a, listOf (strValues l).toArray c) :: rest) := by
  refine ⟨t, v1, v2, l, c, ?_, rfl, ?_, ?_⟩
  · rw [map_no]
    have : n - n % 2 ^ (i + 1) = n - n % 2 ^ i := by rw [low_next, if_neg (by rw [hb]; decide)]
    rw [this]
  · rw [hl, flagNames_no hb]
  · rcases hN with h | h
    · exact .inl h
    · right
      apply Decidable.byContradiction
      intro hlt
      have h1 : n / 2 ^ i = 1 := by
        have := Nat.pow_succ (n := 2) (m := i)
        apply Nat.div_eq_of_lt_le <;> lia
      rw [Nat.testBit_eq_decide_div_mod_eq, h1] at hb
      cases hb
end
theorem LEnd.of {h₀ : Heap} {L : Addr} {J : (Str → Option Value) → List (Addr × Obj) → Prop} {own nx : List (Addr × Obj)} {adr : List Addr} {s₁ s₂ : Shared} {Q : Flow → Shared → Prop} {m' : Str → Option Value} (hj : J m' nx) (F : Fr h₀ L s₂.heap m') (N : News h₀ L s₂.heap (nx ++ own)) (hL : Later s₁ s₂) (ha : nx.map (·.1) = adr) : LEnd h₀ L J own adr s₁ Q .next s₂ :=
  ⟨m', _, nx, hL, F, N, fun p hp => List.mem_append_left _ hp, fun p hp => List.mem_append_right _ hp, ha, hj⟩
theorem flagNames_top {n k : Nat} (hn : n < 2 ^ k) : ∀ d, flagNames n (k + d) = flagNames n k
  | 0 => rfl
  | d + 1 => by
    rw [← flagNames_top hn d, ← Nat.add_assoc, flagNames_no]
    exact Nat.testBit_lt_two_pow (Nat.lt_of_lt_of_le hn (Nat.pow_le_pow_right (by decide) (by lia)))
noncomputable def flagText (n : Nat) : Str := Txt.join ", " (if n = 0 then [baseText "0x" 16 0] else flagNames n 32)
theorem flagName_len {i : Nat} (hi : i < 33) : (flagName i).length ≤ 100 := by
  have hs := cfn_str ⟨i, hi⟩
  have hx := hex_fit ⟨i, hi⟩
  unfold flagName
  dsimp only at hs hx
  cases e : cfn ((2 ^ i : Nat) : Int) with
  | none => exact hx
  | some v =>
    rw [e] at hs
    cases v with
    | str x u => exact of_decide_eq_true hs
    | _ => cases hs
theorem ok_names {l : List (Str × Tok)} {n i : Nat} {x : Str} {u : Tok} (hl : l.map (·.1) = flagNames n i) (hi : i < 33) (hx : x.length ≤ 100) : JoinOk (Str.ofString ", ") ((l ++ [(x, u)]).map (·.1)) = true := by
  refine joinOk_of ?_
  have h1 := names_len hl hi
  have h2 : ∀ y ∈ (l ++ [(x, u)]).map (·.1), y.length ≤ 100 := by
    intro y hy
    rw [List.map_append, hl] at hy
    rcases List.mem_append.mp hy with h | h
    · unfold flagNames at h
      obtain ⟨k, hk, rfl⟩ := List.mem_map.mp h
      have := (List.mem_filter.mp hk).1
      exact flagName_len (by have := List.mem_range.mp this; lia)
    · rw [List.mem_singleton.mp h]; exact hx
  have h3 : ∀ ys : List Str, (∀ y ∈ ys, y.length ≤ 100) → (ys.map (·.length)).sum ≤ ys.length * 100 := by
    intro ys
    induction ys with
    | nil => intro _; exact Nat.le_refl _
    | cons y r ih =>
      intro h
      have a1 := h y List.mem_cons_self
      have a2 := ih fun z hz => h z (List.mem_cons_of_mem _ hz)
      simp only [List.map_cons, List.sum_cons, List.length_cons]
      lia
  have h4 := h3 _ h2
  have h5 : ((l ++ [(x, u)]).map (·.1)).length = l.length + 1 := by simp
  have h6 : (Str.ofString ", ").length = 2 := by decide +kernel
  rw [h5] at h4 ⊢
  rw [h6]
  lia
theorem join_led {w : World} {A : Around} {E : Value → Shared → Prop} {s : Shared} {h₀ : Heap} {L a : Addr} {x : Str} {l : List (Str × Tok)} {c : Nat} {t : Tok} {rest : List (Addr × Obj)} {Q : Value → Shared → Prop} (N : News h₀ L s.heap ((a, listOf (strValues l).toArray c) :: rest)) (hok : JoinOk x (l.map (·.1)) = true)
    (h : ∀ t' k, Q (.str (Txt.join x (l.map (·.1))) t') { s with toks := k }) : wpAny (model rwp w) A (call (.builtin "str.join") [.str x t, .ref a]) Q E s :=
  SC.join (l := l) ⟨_, (N _ List.mem_cons_self).1, rfl, _, rfl⟩ rfl hok h
local macro_rules | `(tactic| walk_at "call builtin:str.join") => `(tactic| k_dflt (apply join_led; k_asm; apply ok_names; assumption; lia; (first | (apply flagName_len; lia) | decide +kernel); intros))

/-- a contract whose callee may lay generators -/
noncomputable abbrev CtrL (w : World) (loose : List Str) (mean : ExcName → Option Value) (mg mb : Str → Option Value) (f : Addr) (pre : Prop) (vs : List Value) (R : Tok → Value) : Prop :=
  ∀ (news : List (Addr × Obj)) (dp un : Nat) (gd : Option (List Code)) (cn : Str) (cs : Scope) (a : Addr) (ccd : Value) (cl : List (Str × Addr)) (outer : List Env) (A₀ : Around) (base h₀ : Heap) (L : Addr) (m : Str → Option Value) (s : Shared) (Q E : Value → Shared → Prop),
    Below A₀ base outer h₀ → Fr h₀ L s.heap m → (K w.params).In h₀ → News h₀ L s.heap news → Top qv loose mean mg mb h₀ → cs.kind = .function →
    pre → dp + 1 < recursionLimit → un + 8 < cLine → (∀ (t : Tok) (s' : Shared), Later s s' → Fr h₀ L s'.heap m → News h₀ L s'.heap news → Q (R t) s') →
      wpAny (model rwp w) (ktrTop dp un gd cn cs L a ccd cl outer) (call (.ref f) vs) Q E s
theorem text_yes {n i : Nat} {l : List (Str × Tok)} {u : Tok} (hb : n.testBit i = true) (hi : i < 32) (hl : l.map (·.1) = flagNames n i) (h0 : ((n - n % 2 ^ (i + 1) : Nat) : Int) = 0) : Txt.join (Str.ofString ", ") ((l ++ [(flagName i, u)]).map (·.1)) = flagText n := by
  have hn : n ≠ 0 := fun e => by rw [e] at hb; simp at hb
  have hlt : n < 2 ^ (i + 1) := by
    have h1 := Nat.mod_lt n (Nat.two_pow_pos (i + 1))
    lia
  unfold flagText
  rw [if_neg hn, List.map_append, hl]
  have e := flagNames_top hlt (32 - (i + 1))
  rw [show i + 1 + (32 - (i + 1)) = 32 by lia] at e
  rw [e, flagNames_yes hb]; rfl
theorem text_no {l : List (Str × Tok)} {u : Tok} (hl : l.map (·.1) = flagNames 0 32) : Txt.join (Str.ofString ", ") ((l ++ [(baseText "0x" 16 0, u)]).map (·.1)) = flagText 0 := by
  have e : flagNames 0 32 = [] := by
    have := flagNames_top (n := 0) (k := 0) (by decide) 32
    rw [Nat.zero_add] at this
    rw [this]; rfl
  unfold flagText
  rw [if_pos rfl, List.map_append, hl, e]; rfl
theorem hex_zero {w : World} {A : Around} {E : Value → Shared → Prop} {s : Shared} {t : Tok} {Q : Value → Shared → Prop} (h : Q (.str (baseText "0x" 16 0) s.toks) { s with toks := s.toks + 1 }) : wpAny (model rwp w) A (call (.builtin "hex") [.int ((0 - 0 % 2 ^ 32 : Nat) : Int) t]) Q E s :=
  P.hex_of_int h (by decide +kernel)
theorem app_led {w : World} {A : Around} {E : Value → Shared → Prop} {s : Shared} {h₀ : Heap} {L a : Addr} {m : Str → Option Value} {l : List (Str × Tok)} {c : Nat} {x : Str} {t : Tok} {rest : List (Addr × Obj)} {Q : Value → Shared → Prop} (F : Fr h₀ L s.heap m) (N : News h₀ L s.heap ((a, listOf (strValues l).toArray c) :: rest)) (hne : ∀ p ∈ rest, p.1 < a) (hl : l.length ≤ 1000)
    (h : ∀ h', Fr h₀ L h' m → News h₀ L h' ((a, listOf (strValues (l ++ [(x, t)])).toArray (c + 1)) :: rest) → Q .none { s with heap := h' }) : wpAny (model rwp w) A (call (.builtin "list.append") [.ref a, .str x t]) Q E s :=
  app_str F N (fun p hp => Nat.ne_of_lt (hne p hp)) hl h
local macro_rules | `(tactic| walk_at "call builtin:hex") => `(tactic| k_dflt apply hex_zero)
local macro_rules | `(tactic| walk_at "call builtin:list.append") => `(tactic| k_dflt (apply app_led; k_asm; k_asm; assumption; apply names_len; assumption; lia; intros))
set_option maxHeartbeats 8000000 in
theorem c_flags (w : World) (loose : List Str) (mean : ExcName → Option Value) (mg mb : Str → Option Value) (n : Nat) (t : Tok) :
   CtrL w loose mean mg mb 39 (n < 100000) [.int (n : Int) t] (fun t => .str (flagText n) t) := by
  unfold CtrL rwp
  k_fill
  intros; rename_i hret
  refine wpAny_call ?_
  k_dflt cell_enter
  k_steps
  refine wpAny_For ?_ (by intro _; rfl)
  k_steps
  rename Fr _ _ _ _ => FF
  rename News _ _ _ _ => NN
  rename IsRange _ _ _ _ _ _ _ _ => RR
  refine for_range (by rfl) RR (by decide) (n := 32) (by rfl) FF NN (JF _ _ _ n) (JF.start (by rfl) (by rfl) (by rfl)) ?step ?done
  case step =>
    intro i t m₁ news₁ s₁ own hL hi hJ ha ho F₁ N₁
    obtain ⟨tf, u1, u2, l, c, rfl, rfl, hl, hN⟩ := hJ
    obtain ⟨h₁, gs₁, d₁, tk₁, os₁⟩ := s₁
    dsimp only at F₁ N₁
    simp only [List.map_cons, List.cons_append] at ho N₁
    k_steps
    · exact LEnd.of (JF.yes (by assumption) hl (by assumption)) (by assumption) (by assumption) ⟨rfl, rfl⟩ rfl
    · dsimp only [LEnd]
      k_steps
      rw [text_yes (by assumption) hi hl (by assumption)]
      exact hret _ _ ⟨hL.1, hL.2⟩ (by assumption) (cb_drop (by assumption) fun p hp => List.mem_cons_of_mem _ (List.mem_append_left _ hp))
    · contradiction
    · exact LEnd.of (JF.no (by assumption) hl hN) (by assumption) (by assumption) ⟨rfl, rfl⟩ rfl
  case done =>
    intro m₁ news₁ s₁ hL hJ F₁ N₁
    obtain ⟨tf, u1, u2, l, c, rfl, rfl, hl, hN⟩ := hJ
    obtain ⟨h₁, gs₁, d₁, tk₁, os₁⟩ := s₁
    dsimp only at F₁ N₁
    have h0 : n = 0 := by
      rcases hN with h | h
      · exact h
      · have : (2 : Nat) ^ 32 = 4294967296 := by decide
        lia
    subst h0
    k_steps
    rw [text_no hl]
    exact hret _ _ ⟨hL.1, hL.2⟩ (by assumption) (cb_drop (by assumption) fun p hp => List.mem_cons_of_mem _ hp)
end Mine
namespace Mine
open PySem PySem.W PySem.Calls PyProof.Rows PySem.Spec

noncomputable abbrev itObj (D : Addr) (i : Nat) : Obj := { cls := .type "list_iterator", dict := none, data := .fields #[.ref D, .int (i : Int) 0], slots := #[] }
section
variable {prog : Program} {w : World} {A : Around} {E : Value → Shared → Prop} {s : Shared} {h₀ : Heap} {L : Addr} {m : Str → Option Value}
theorem special_list {it l : Addr} {i : Nat} {items : Array Value} {x : Value} {Q : Option Value → Shared → Prop} (hit : s.heap.get? it = some (itObj l i)) (hl : s.heap.IsList l items) (hx : items[i]? = some x)
    (hQ : ∀ h', h'.get? it = some (itObj l (i + 1)) → Heap.SameBut it s.heap h' → Q (some x) { s with heap := h' }) :
    wpAny (model prog w) A (callSpecial? (.ref it) (Str.ofString "__next__")) Q E s := by
  have hit' : s.heap.IsListIter it l i := ⟨_, hit, rfl, rfl⟩
  obtain ⟨ol, hol, _, nl, hdl⟩ := hl
  refine wpAny_callSpecial?_slot (name := Str.ofString "__next__") hit'.typeIs slot_listiter_next
    (wpAny_call_entry slot_listiter_next hit'.typeIs entry_listiter_next ?_ (args_listiter_next _))
  show wpAny _ _ (field (.ref it) 0 >>= _) _ _ s
  refine wpAny_bind (wpAny_field hit rfl (x := .ref l) rfl ?_)
  show wpAny _ _ (if (Value.ref l == Value.none) = true then _ else _) _ _ s
  rw [if_neg (show ¬ ((Value.ref l == Value.none) = true) from Bool.false_ne_true)]
  show wpAny _ _ (field (.ref it) 1 >>= _) _ _ s
  refine wpAny_bind (wpAny_field hit rfl (x := .int i 0) rfl ?_)
  show wpAny _ _ (seqItems? (.ref l) >>= _) _ _ s
  refine wpAny_bind (wpAny_seqItems hol hdl ?_)
  simp only [Int.toNat_natCast, hx]
  refine wpAny_bind (wpAny_setField hit rfl (by simp) (wpAny_pure ⟨x, rfl, hQ _ ?_ (Heap.SameBut.update ..)⟩))
  exact Heap.get?_update_self _ hit rfl
theorem next_list {it l : Addr} {i : Nat} {items : Array Value} {n : Nat} {x : Value} {rest : List (Addr × Obj)} {Q : Value → Shared → Prop} (F : Fr h₀ L s.heap m) (N : News h₀ L s.heap ((it, itObj l i) :: rest)) (hl : (l, listOf items n) ∈ rest) (hx : items[i]? = some x) (hne : ∀ p ∈ rest, p.1 ≠ it)
    (h : ∀ h', Fr h₀ L h' m → News h₀ L h' ((it, itObj l (i + 1)) :: rest) → Q x { s with heap := h' }) :
    wpAny (model prog w) A (call (.builtin "next") [.ref it]) Q E s := by
  have hm := N (it, itObj l i) List.mem_cons_self
  have hls : s.heap.IsList l items := ⟨_, (N _ (List.mem_cons_of_mem _ hl)).1, rfl, _, rfl⟩
  have hT : s.TypeIs (.ref it) "list_iterator" := ⟨_, hm.1, rfl⟩
  refine call_function_entry (by decide +kernel) (by decide +kernel) kdk_entry_next (kdk_args_next _) ?_
  unfold Builtin.«next»
  refine wpAny_bind (m := someArgs "next" 1 2 _) (wpAny_of_eq (a := [Value.ref it]) (by first | rfl | kernel_rfl!) ?_)
  dsimp only
  refine wpAny_bind (wpAny_specialOf (name := Str.ofString "__next__") hT slot_listiter_next.lookup ?_)
  refine wpAny_ite_split (fun hab => absurd hab (by decide)) (fun _ => ?_)
  refine wpAny_bind (special_list hm.1 hls hx fun h' ho' hs => ?_)
  exact wpAny_pure ⟨_, rfl, h h' (F.change hs hm.2.1 hm.2.2) (N.setHead hne hs ho')⟩
theorem next30 {it l : Addr} {a b c : Value} {n : Nat} {rest : List (Addr × Obj)} {Q : Value → Shared → Prop} (F : Fr h₀ L s.heap m) (N : News h₀ L s.heap ((it, itObj l 0) :: rest)) (hl : (l, listOf #[a, b, c] n) ∈ rest) (hne : ∀ p ∈ rest, p.1 ≠ it)
    (h : ∀ h', Fr h₀ L h' m → News h₀ L h' ((it, itObj l 1) :: rest) → Q a { s with heap := h' }) :
    wpAny (model prog w) A (call (.builtin "next") [.ref it]) Q E s := next_list F N hl rfl hne h
theorem next31 {it l : Addr} {a b c : Value} {n : Nat} {rest : List (Addr × Obj)} {Q : Value → Shared → Prop} (F : Fr h₀ L s.heap m) (N : News h₀ L s.heap ((it, itObj l 1) :: rest)) (hl : (l, listOf #[a, b, c] n) ∈ rest) (hne : ∀ p ∈ rest, p.1 ≠ it)
    (h : ∀ h', Fr h₀ L h' m → News h₀ L h' ((it, itObj l 2) :: rest) → Q b { s with heap := h' }) :
    wpAny (model prog w) A (call (.builtin "next") [.ref it]) Q E s := next_list F N hl rfl hne h
theorem next32 {it l : Addr} {a b c : Value} {n : Nat} {rest : List (Addr × Obj)} {Q : Value → Shared → Prop} (F : Fr h₀ L s.heap m) (N : News h₀ L s.heap ((it, itObj l 2) :: rest)) (hl : (l, listOf #[a, b, c] n) ∈ rest) (hne : ∀ p ∈ rest, p.1 ≠ it)
    (h : ∀ h', Fr h₀ L h' m → News h₀ L h' ((it, itObj l 3) :: rest) → Q c { s with heap := h' }) :
    wpAny (model prog w) A (call (.builtin "next") [.ref it]) Q E s := next_list F N hl rfl hne h
theorem next20 {it l : Addr} {a b : Value} {n : Nat} {rest : List (Addr × Obj)} {Q : Value → Shared → Prop} (F : Fr h₀ L s.heap m) (N : News h₀ L s.heap ((it, itObj l 0) :: rest)) (hl : (l, listOf #[a, b] n) ∈ rest) (hne : ∀ p ∈ rest, p.1 ≠ it)
    (h : ∀ h', Fr h₀ L h' m → News h₀ L h' ((it, itObj l 1) :: rest) → Q a { s with heap := h' }) :
    wpAny (model prog w) A (call (.builtin "next") [.ref it]) Q E s := next_list F N hl rfl hne h
theorem next21 {it l : Addr} {a b : Value} {n : Nat} {rest : List (Addr × Obj)} {Q : Value → Shared → Prop} (F : Fr h₀ L s.heap m) (N : News h₀ L s.heap ((it, itObj l 1) :: rest)) (hl : (l, listOf #[a, b] n) ∈ rest) (hne : ∀ p ∈ rest, p.1 ≠ it)
    (h : ∀ h', Fr h₀ L h' m → News h₀ L h' ((it, itObj l 2) :: rest) → Q b { s with heap := h' }) :
    wpAny (model prog w) A (call (.builtin "next") [.ref it]) Q E s := next_list F N hl rfl hne h
theorem iter_list {l : Addr} {items : Array Value} {n : Nat} {news : List (Addr × Obj)} {Q : Value → Shared → Prop} (F : Fr h₀ L s.heap m) (N : News h₀ L s.heap news) (hl : (l, listOf items n) ∈ news)
    (h : ∀ I h', Fr h₀ L h' m → News h₀ L h' ((I, itObj l 0) :: news) → (∀ p ∈ news, p.1 < I) → Q (.ref I) { s with heap := h' }) :
    wpAny (model prog w) A (call (.builtin "iter") [.ref l]) Q E s := by
  have hls : s.heap.IsList l items := ⟨_, (N _ hl).1, rfl, _, rfl⟩
  refine call_function_entry (by decide +kernel) (by decide +kernel) kdk_entry_iter (kdk_args_iter _) ?_
  unfold Builtin.«iter»
  refine wpAny_bind (m := someArgs "iter" 1 2 _) (wpAny_of_eq (a := [Value.ref l]) (by first | rfl | kernel_rfl!) ?_)
  show wpAny _ _ (pyIter (.ref l) >>= _) _ _ _
  refine wpAny_bind (wpAny_pyIter_list hls ?_)
  exact wpAny_pure ⟨_, rfl, h _ _ (F.push _) (News.push F N _ rfl) (fun q hq => Heap.lt_size (N q hq).1)⟩
end
section
variable {prog : Program} {w : World} {A : Around} {R : Result → Shared → Prop} {s : Shared}
theorem while_turn {test : PySem.Expr} {body orelse : List Stmt} {env : Env}
    (h : wpAny (model prog w) A (isTrue test env (eval test env)) (fun b s₂ =>
        if b then wpAny (model prog w) A (execs body env) (fun f s₃ => match f with
            | .brk => R (.ok .next) s₃
            | .ret v => R (.ok (.ret v)) s₃
            | _ => codeAny (model prog w) A (.whileLoop test body orelse env) R s₃) (fun _ _ => False) s₂
        else wpAny (model prog w) A (execs orelse env) (fun f s₃ => R (.ok f) s₃) (fun _ _ => False) s₂) (fun _ _ => False) s) :
    codeAny (model prog w) A (.whileLoop test body orelse env) R s := by
  refine codeAny_of_tree ?_
  show wpAny _ A ((whileTurn test body orelse env).onRaise (fun x => do noteFrame x env; theTreesLotGoes x)) _ _ s
  refine wpAny_noted ?_
  simp only [whileTurn]
  refine wpAny_bind (wpAny_mono h (fun b s₂ h₂ => ?_) fun _ _ h' => h'.elim)
  cases b with
  | false =>
    simp only [Bool.false_eq_true, if_false] at h₂ ⊢
    exact wpAny_bind (wpAny_mono h₂ (fun f s₃ h₃ => wpAny_pure h₃) fun _ _ h' => h'.elim)
  | true =>
    simp only [if_true] at h₂ ⊢
    refine wpAny_bind (wpAny_mono h₂ (fun f s₃ h₃ => ?_) fun _ _ h' => h'.elim)
    cases f with
    | next => exact wpAny_pure ⟨rfl, h₃⟩
    | cont => exact wpAny_pure ⟨rfl, h₃⟩
    | brk => exact wpAny_pure h₃
    | ret v => exact wpAny_pure h₃
end
/-! the octets' bits -/
theorem and63 {c : Nat} (h : c < 64) : Builtin.bitAnd ((64 + c : Nat) : Int) 63 = (c : Int) := by
  rw [PyProof.Rows.bitAnd_m6]; lia
theorem and63' {c : Nat} (h : c < 64) : Builtin.bitAnd (c : Int) 63 = (c : Int) := by
  rw [PyProof.Rows.bitAnd_m6]; lia
theorem and64 {c : Nat} (h : c < 64) : Builtin.bitAnd ((64 + c : Nat) : Int) 64 = 64 := by
  have := bitAnd_nat (64 + c) (2 ^ 6)
  rw [and_pow, Nat.testBit_eq_decide_div_mod_eq, show (64 + c) / 2 ^ 6 = 1 by lia] at this
  exact this
theorem and64' {c : Nat} (h : c < 64) : Builtin.bitAnd (c : Int) 64 = 0 := by
  have := bitAnd_nat c (2 ^ 6)
  rw [and_pow, Nat.testBit_eq_decide_div_mod_eq, show c / 2 ^ 6 = 0 by lia] at this
  exact this
theorem or6 {v c : Nat} (h : c < 64) : Builtin.bitOr ((v * 64 : Nat) : Int) (c : Int) = ((v * 64 + c : Nat) : Int) := by
  have h1 := PyProof.Rows.bitXor_and ((v * 64 : Nat) : Int) (c : Int)
  have h2 : Builtin.bitAnd ((v * 64 : Nat) : Int) (c : Int) = 0 := by
    rw [bitAnd_nat]
    have : v * 64 &&& c = 0 := by
      apply Nat.eq_of_testBit_eq
      intro j
      rw [Nat.testBit_and, Nat.zero_testBit, Nat.mul_comm, show (64 : Nat) = 2 ^ 6 from rfl, Nat.testBit_two_pow_mul]
      by_cases hj : 6 ≤ j
      · have : c.testBit j = false := Nat.testBit_lt_two_pow (Nat.lt_of_lt_of_le h (show 2 ^ 6 ≤ 2 ^ j from Nat.pow_le_pow_right (by decide) hj))
        rw [this, Bool.and_false]
      · simp [hj]
    rw [this]; rfl
  unfold Builtin.bitXor at h1
  lia
section
variable {w : World} {A : Around} {E : Value → Shared → Prop} {s : Shared} {t u : Tok} {Q : Value → Shared → Prop} {c v : Nat}
theorem r_and63 (hc : c < 64) (h : Q (.int (c : Int) s.toks) { s with toks := s.toks + 1 }) : wpAny (model rwp w) A (binaryOp .BitAnd (.int ((64 + c : Nat) : Int) t) (.int 63 u)) Q E s := and_int (by rw [and63 hc]; exact h)
theorem r_and63' (hc : c < 64) (h : Q (.int (c : Int) s.toks) { s with toks := s.toks + 1 }) : wpAny (model rwp w) A (binaryOp .BitAnd (.int (c : Int) t) (.int 63 u)) Q E s := and_int (by rw [and63' hc]; exact h)
theorem r_and64 (hc : c < 64) (h : Q (.int 64 s.toks) { s with toks := s.toks + 1 }) : wpAny (model rwp w) A (binaryOp .BitAnd (.int ((64 + c : Nat) : Int) t) (.int 64 u)) Q E s := and_int (by rw [and64 hc]; exact h)
theorem r_and64' (hc : c < 64) (h : Q (.int 0 s.toks) { s with toks := s.toks + 1 }) : wpAny (model rwp w) A (binaryOp .BitAnd (.int (c : Int) t) (.int 64 u)) Q E s := and_int (by rw [and64' hc]; exact h)
theorem r_shl6 (hv : v < 100000) (h : Q (.int ((v * 64 : Nat) : Int) s.toks) { s with toks := s.toks + 1 }) : wpAny (model rwp w) A (inplaceOp .LShift (.int (v : Int) t) (.int 6 u)) Q E s := by
  refine ilshift_int_small (by decide) (by decide) (by lia) ?_
  have : (v : Int) * 2 ^ (6 : Int).toNat = ((v * 64 : Nat) : Int) := by
    show (v : Int) * 2 ^ 6 = _
    lia
  rw [this]; exact h
theorem r_or6 (hc : c < 64) (h : Q (.int ((v * 64 + c : Nat) : Int) s.toks) { s with toks := s.toks + 1 }) : wpAny (model rwp w) A (inplaceOp .BitOr (.int ((v * 64 : Nat) : Int) t) (.int (c : Int) u)) Q E s := ior_int (by rw [or6 hc]; exact h)
end
local macro_rules | `(tactic| walk_at "binaryOp BitAnd int int") => `(tactic| with_reducible apply r_and63'; assumption)
local macro_rules | `(tactic| walk_at "binaryOp BitAnd int int") => `(tactic| with_reducible apply r_and64'; assumption)
local macro_rules | `(tactic| walk_at "binaryOp BitAnd int int") => `(tactic| with_reducible apply r_and63; assumption)
local macro_rules | `(tactic| walk_at "binaryOp BitAnd int int") => `(tactic| with_reducible apply r_and64; assumption)
local macro_rules | `(tactic| walk_at "inplaceOp LShift int int") => `(tactic| with_reducible apply r_shl6; lia)
local macro_rules | `(tactic| walk_at "inplaceOp BitOr int int") => `(tactic| with_reducible apply r_or6; assumption)
local macro_rules | `(tactic| walk_at "call builtin:next") => `(tactic| ((k_dflt first | apply next30; walk_at "~k" | apply next31; walk_at "~k" | apply next32; walk_at "~k" | apply next20; walk_at "~k" | apply next21; walk_at "~k"); intros))

local macro_rules | `(tactic| walk_at "exec") => `(tactic| with_reducible apply wpAny_While; k_dflt apply while_turn)

/-- a contract with one ledger ahead and another behind -/
noncomputable abbrev CtrN (w : World) (loose : List Str) (mean : ExcName → Option Value) (mg mb : Str → Option Value) (f : Addr) (news news' : List (Addr × Obj)) (vs : List Value) (R : Tok → Value) : Prop :=
  ∀ (dp un : Nat) (gd : Option (List Code)) (cn : Str) (cs : Scope) (a : Addr) (ccd : Value) (cl : List (Str × Addr)) (outer : List Env) (A₀ : Around) (base h₀ : Heap) (L : Addr) (m : Str → Option Value) (s : Shared) (Q E : Value → Shared → Prop),
    Below A₀ base outer h₀ → Fr h₀ L s.heap m → (K w.params).In h₀ → News h₀ L s.heap news → Top qv loose mean mg mb h₀ → cs.kind = .function →
    dp + 1 < recursionLimit → un + 8 < cLine → (∀ (t : Tok) (s' : Shared), Later s s' → Fr h₀ L s'.heap m → News h₀ L s'.heap news' → Q (R t) s') →
      wpAny (model rwp w) (ktrTop dp un gd cn cs L a ccd cl outer) (call (.ref f) vs) Q E s
set_option maxHeartbeats 8000000 in
theorem c_varint2 (w : World) (loose : List Str) (mean : ExcName → Option Value) (mg mb : Str → Option Value) (c0 c1 : Nat) (h0 : c0 < 64) (h1 : c1 < 64) (t0 t1 : Tok) (I D : Addr) (n : Nat) (rest : List (Addr × Obj)) (hD : (D, listOf #[.int ((64 + c0 : Nat) : Int) t0, .int (c1 : Int) t1] n) ∈ rest) (hne : ∀ p ∈ rest, p.1 ≠ I) :
   CtrN w loose mean mg mb 46 ((I, itObj D 0) :: rest) rest [.ref I] (fun t => .int ((c0 * 64 + c1 : Nat) : Int) t) := by
  unfold CtrN rwp
  k_fill
  intros; rename_i hret
  refine wpAny_call ?_
  k_dflt cell_enter
  k_steps
  refine while_turn ?_
  k_steps
  exact hret _ _ ⟨rfl, rfl⟩ (by assumption) (cb_drop (by assumption) fun p hp => List.mem_cons_of_mem _ hp)
end Mine
namespace Mine
open PySem PySem.W PySem.Calls PyProof.Rows PySem.Spec

section
variable {M : Model} {A : Around} {R : GenEnd} {Y : Protocol} {n : Nat} {s₀ : Shared} {c : Code} {fs : List Frame} {s : Shared} {env : Env}
  {K : Flow → Sem Fin} {H : Value → Sem Fin} {gd : Bool → Bool} {lv : List Value → List Value}
theorem seg_For {target iter : PySem.Expr} {body orelse : List Stmt} {pos : Pos} (hs : ∀ x, foldedSetIterable iter env x = pure x)
    (h : wpAny M (A.over c fs) (eval iter env) (fun x s₁ => wpAny M (A.over c fs) (pyIter x) (fun it s₂ => ∀ p, Seg M A R Y n s₀ (.forLoop target it body orelse env) (M.den (.forLoop target it body orelse env))
      (.ret (fun r => ((match r with | .ok f => (.pure f : Sem Flow) | .error e => .raise e).onRaise fun (x : Value) => do
        if (← field x 1) == Value.none then unsupported "frame.own-activation:exception-without-traceback"
        setFlight x env.frame).wrap K H gd lv) none (gd false) (lv []) c p [] :: fs) s₂) (fun _ _ => False) s₁) (fun _ _ => False) s) :
    Seg M A R Y n s₀ c ((exec (.For target iter body orelse pos) env).wrap K H gd lv) fs s := by
  rw [arm_exec_For]
  refine seg_at ?_
  show Seg M A R Y n s₀ c ((eval iter env >>= fun x => foldedSetIterable iter env x >>= fun x => standAt iter.pos >>= fun _ => holding [x] (pyIter x) >>= fun it => runOwn (.forLoop target it body orelse env) env).wrap K H gd lv) fs s
  rw [Sem.bind_eq_wrap', Sem.wrap_wrap]
  refine seg_wrap (wpAny_mono h (fun x s₁ h₁ => ?_) fun _ _ e => e.elim)
  rw [hs x]
  refine seg_at ?_
  show Seg M A R Y n s₀ c ((holding [x] (pyIter x) >>= fun it => runOwn (.forLoop target it body orelse env) env).wrap K H gd lv) fs s₁
  rw [Sem.bind_eq_wrap', Sem.wrap_wrap]
  refine seg_wrap (wpAny_holding (wpAny_mono h₁ (fun it s₂ h₂ => ?_) fun _ _ e => e.elim))
  exact seg_call h₂
end
section
variable {prog : Program} {w : World} {A : Around} {R : GenEnd} {Y : Protocol} {n : Nat} {s₀ : Shared} {fs : List Frame} {s : Shared} {env : Env}
theorem seg_forLoop {target : PySem.Expr} {it : Value} {body orelse : List Stmt}
    (h : wpAny (model prog w) (A.over (.forLoop target it body orelse env) fs) (pyNext it) (fun r s₁ => match r with
        | none => Seg (model prog w) A R Y n s₀ (.forLoop target it body orelse env) (.pure (.again (.block orelse env))) fs s₁
        | some v => wpAny (model prog w) (A.over (.forLoop target it body orelse env) fs) (letOwnedTupleGo target it v) (fun _ s₂ => wpAny (model prog w) (A.over (.forLoop target it body orelse env) fs) (assign target env v) (fun _ s₃ =>
          Seg (model prog w) A R Y n s₀ (.forLoop target it body orelse env) ((execs body env).wrap (fun f => match f with
            | .next | .cont => .pure (.again (.forLoop target it body orelse env))
            | .brk => .pure (.done .next)
            | .ret v => .pure (.done (.ret v))) (fun e => (do noteFrame e env; theTreesLotGoes e : Sem Unit).wrap (fun _ => .raise e) .raise id id) id id) fs s₃) (fun _ _ => False) s₂) (fun _ _ => False) s₁) (fun _ _ => False) s) :
    Seg (model prog w) A R Y n s₀ (.forLoop target it body orelse env) ((model prog w).den (.forLoop target it body orelse env)) fs s := by
  show Seg _ A R Y n s₀ _ ((forTurn target it body orelse env).onRaise (fun x => do noteFrame x env; theTreesLotGoes x)) fs s
  unfold forTurn
  rw [Sem.onRaise_eq_wrap]
  refine seg_at ?_
  show Seg _ A R Y n s₀ _ ((((pyNext it).onRaise (fun _ => standAt { target.pos with line := 0 })) >>= _).wrap _ _ _ _) fs s
  rw [Sem.bind_eq_wrap', Sem.wrap_wrap]
  refine seg_wrap (wpAny_onRaise (wpAny_mono h (fun r s₁ h₁ => ?_) fun _ _ e => e.elim))
  cases r with
  | none => exact h₁
  | some v =>
    show Seg _ A R Y n s₀ _ ((letOwnedTupleGo target it v >>= fun _ => assign target env v >>= fun _ => execs body env >>= _).wrap _ _ _ _) fs s₁
    rw [Sem.bind_eq_wrap', Sem.wrap_wrap]
    refine seg_wrap (wpAny_mono h₁ (fun _ s₂ h₂ => ?_) fun _ _ e => e.elim)
    rw [Sem.bind_eq_wrap', Sem.wrap_wrap]
    refine seg_wrap (wpAny_mono h₂ (fun _ s₃ h₃ => ?_) fun _ _ e => e.elim)
    rw [Sem.bind_eq_wrap', Sem.wrap_wrap]
    rw [Sem.wrap_congr (execs body env) _ _ (K' := fun f => match f with
            | .next | .cont => .pure (.again (.forLoop target it body orelse env))
            | .brk => .pure (.done .next)
            | .ret v => .pure (.done (.ret v))) (H' := (fun e => (do noteFrame e env; theTreesLotGoes e : Sem Unit).wrap (fun _ => .raise e) .raise id id))
        (fun f => by cases f <;> rfl)
        (fun e => by first | exact Sem.bind_eq_wrap _ _ | (show (do noteFrame e env; theTreesLotGoes e : Sem Unit).bind (fun _ => .raise e) = _; rw [Sem.bind_eq_wrap]))]
    exact h₃
end
end Mine
namespace Mine
open PySem PySem.W PySem.Calls PyProof.Rows PySem.Spec

/-- the same run, whatever its generators are -/
noncomputable def LaterO (s s' : Shared) : Prop := s'.drawn = s.drawn ∧ s'.os = s.os
theorem LaterO.refl (s : Shared) : LaterO s s := ⟨rfl, rfl⟩
theorem LaterO.trans {a b c : Shared} (x : LaterO a b) (y : LaterO b c) : LaterO a c := ⟨y.1.trans x.1, y.2.trans x.2⟩
theorem Later.o {a b : Shared} (x : Later a b) : LaterO a b := ⟨x.1, congrArg Prod.fst x.2⟩
theorem bareOf_iff (a : Array GenState) : bareOf a = true ↔ ∀ (i : Nat) y, a[i]? = some y → y.bare = true := by
  unfold bareOf
  rw [Array.all_eq_true]
  constructor
  · intro h i y e
    obtain ⟨hi, e'⟩ := Array.getElem?_eq_some_iff.mp e
    exact e' ▸ h i hi
  · intro h i hi
    exact h i _ (Array.getElem?_eq_getElem hi)
theorem bareOf_only {g : Nat} {a b : Array GenState} (x : GenOnly g a b) (ha : ∀ y, a[g]? = some y → y.bare = true) (hb : ∀ y, b[g]? = some y → y.bare = true) : bareOf b = bareOf a := by
  rw [Bool.eq_iff_iff, bareOf_iff, bareOf_iff]
  constructor
  · intro h i y e
    by_cases hi : i = g
    · exact ha y (hi ▸ e)
    · exact h i y ((x.2 i hi).trans e)
  · intro h i y e
    by_cases hi : i = g
    · exact hb y (hi ▸ e)
    · exact h i y ((x.2 i hi).symm.trans e)
theorem later_push {o : OsState} {g : Array GenState} {c : Code} : (o, bareOf (g.push (.fresh c))) = (o, bareOf g) := by
  unfold bareOf
  rw [Array.all_push]
  simp [GenState.bare]
theorem bare_push {g : Array GenState} {c : Code} : ∀ y, (g.push (.fresh c))[g.size]? = some y → y.bare = true := by
  intro y h
  rw [Array.getElem?_push_size] at h
  cases h
  rfl
/-- what the generator owns is kept: its names and what was laid behind them -/
noncomputable def GKeep (Lg B : Addr) (s s' : Shared) : Prop := ∀ b o, (b = Lg ∨ B ≤ b) → s.heap.get? b = some o → s'.heap.get? b = some o
/-- what it does not own it keeps -/
noncomputable def GStep (Lg B : Addr) (s s' : Shared) : Prop := (∀ b o, b < B → b ≠ Lg → s.heap.get? b = some o → s'.heap.get? b = some o) ∧ s'.gens = s.gens ∧ Later s s'
theorem GStep.refl (Lg B : Addr) (s : Shared) : GStep Lg B s s := ⟨fun _ _ _ _ e => e, rfl, .refl s⟩
theorem GStep.trans {Lg B : Addr} {a b c : Shared} (x : GStep Lg B a b) (y : GStep Lg B b c) : GStep Lg B a c :=
  ⟨fun b o h h' e => y.1 b o h h' (x.1 b o h h' e), y.2.1.trans x.2.1, x.2.2.trans y.2.2⟩
noncomputable abbrev tupOf (items : Array Value) : Obj := { cls := .type "tuple", data := .seq items }
noncomputable def GPro (h₀ : Heap) (Lg B : Addr) (N : Nat) (P : Nat → Array Value → Prop) : Protocol := fun m s₀ v s kap =>
  (∃ T items, v = .ref T ∧ B ≤ T ∧ s.heap.get? T = some (tupOf items) ∧ P (N - 1 - m) items) ∧ GStep Lg B s₀ s ∧
    ∀ s'', GKeep Lg B s s'' → (∀ b o, h₀.get? b = some o → s''.heap.get? b = some o) → B ≤ s''.heap.objs.size → kap (.send .none) s''
noncomputable abbrev GFin (Lg B : Addr) : GenEnd := fun n s₀ r s₁ => r = .ok (.ret .none) ∧ (n = 0 ∧ GStep Lg B s₀ s₁)
noncomputable def GAt (prog : Program) (w : World) (A : Around) (h₀ : Heap) (a : Addr) (g : Nat) (Lg B : Addr) (N : Nat) (P : Nat → Array Value → Prop) (i : Nat) (s : Shared) : Prop :=
  s.heap.IsGen a g ∧ ∃ gs, s.gens[g]? = some gs ∧ ∀ s'', GKeep Lg B s s'' → (∀ b o, h₀.get? b = some o → s''.heap.get? b = some o) → B ≤ s''.heap.objs.size →
    gs.Goes (model prog w) A.in1 (GFin Lg B) (GPro h₀ Lg B N P) (N - i) (.send .none) s''
/-- how a turn ends where generators live -/
noncomputable def LEndG (h₀ : Heap) (L : Addr) (J : (Str → Option Value) → List (Addr × Obj) → Prop) (own : List (Addr × Obj)) (adr : List Addr) (s₁ : Shared) (Q : Flow → Shared → Prop) (f : Flow) (s₂ : Shared) : Prop :=
  match f with
  | .ret v => Q (.ret v) s₂
  | .brk => Q .next s₂
  | _ => ∃ m' news' nx, Later s₁ s₂ ∧ s₂.gens = s₁.gens ∧ Fr h₀ L s₂.heap m' ∧ News h₀ L s₂.heap news' ∧ (∀ p ∈ nx, p ∈ news') ∧ (∀ p ∈ own, p ∈ news') ∧ nx.map (·.1) = adr ∧ J m' nx
section
variable {prog : Program} {w : World} {A : Around} {E : Value → Shared → Prop} {s : Shared} {env : Env} {h₀ : Heap}
theorem go_gen {target : PySem.Expr} {a : Addr} {g : Nat} {v : Value} {Q' : Unit → Shared → Prop} {E' : Value → Shared → Prop} (hg : s.heap.IsGen a g) (hQ : Q' () s) :
    wpAny (model prog w) A (letOwnedTupleGo target (.ref a) v) Q' E' s := by
  obtain ⟨o, nm, qn, ho, hc, hd, hs⟩ := hg
  have core : wpAny (model prog w) A (do
      let (.ref r, .ref a) := ((.ref a, v) : Value × Value) | return
      let o ← load r
      match o.cls, o.data with
      | .type n, .fields vs =>
        if ["enumerate", "zip", "dict_itemiterator", "dict_reverseitemiterator", "odict_iterator", "itertools.zip_longest", "itertools.pairwise"].contains n && vs[0]? == some (rawInt a) then
          rule "for.unpacks-the-owned-tuple"
          updateField r 0 .none
      | _, _ => pure ()) Q' E' s := by
    cases v with
    | ref T =>
      refine wpAny_bind (wpAny_load ho ?_)
      rw [hc, hd]
      exact wpAny_pure hQ
    | _ => exact wpAny_pure hQ
  cases target with
  | Tuple elts x1 pos => exact core
  | List elts pos => exact core
  | _ => exact wpAny_pure hQ

theorem for_gen {target : PySem.Expr} {body orelse : List Stmt} {a : Addr} {g : Nat} {Lg B : Addr} {N : Nat} {P : Nat → Array Value → Prop} {m : Str → Option Value} {news : List (Addr × Obj)} {Q : Flow → Shared → Prop}
    (hh : A.handled = none) (hroom : A.depth < recursionLimit) (haB : a + 1 = B) (haL : a ≠ Lg) (hL : env.locals < B) (hLL : env.locals ≠ Lg) (hLa : env.locals ≠ a)
    (hnw : ∀ p ∈ news, p.1 < B ∧ p.1 ≠ Lg ∧ p.1 ≠ a) (hlim : h₀.NoLimit) (hB : h₀.objs.size ≤ Lg) (hB' : h₀.objs.size ≤ B) (hB'' : h₀.objs.size ≤ a)
    (G : GAt prog w A h₀ a g Lg B N P 0 s) (F : Fr h₀ env.locals s.heap m) (Nw : News h₀ env.locals s.heap news)
    (J : Nat → (Str → Option Value) → List (Addr × Obj) → Prop) (h0 : J 0 m news)
    (step : ∀ i T items m₁ news₁ (s₁ : Shared) own, LaterO s s₁ → i < N → P i items → J i m₁ news₁ → news₁.map (·.1) = news.map (·.1) → OwnOff ((T, tupOf items) :: own) (news.map (·.1)) → Fr h₀ env.locals s₁.heap m₁ → News h₀ env.locals s₁.heap (news₁ ++ (T, tupOf items) :: own) →
      wpAny (model prog w) A (assign target env (.ref T)) (fun _ s₂ => wpAny (model prog w) A (execs body env) (LEndG h₀ env.locals (J (i + 1)) own (news.map (·.1)) s₁ Q) (fun _ _ => False) s₂) (fun _ _ => False) s₁)
    (done : ∀ m₁ news₁ (s₁ : Shared), Later s s₁ → J N m₁ news₁ → Fr h₀ env.locals s₁.heap m₁ → News h₀ env.locals s₁.heap news₁ → wpAny (model prog w) A (execs orelse env) (fun f s₃ => Q f s₃) (fun _ _ => False) s₁) (hbare : ∀ y, s.gens[g]? = some y → y.bare = true) :
    wpAny (model prog w) A (pyIter (.ref a)) (fun it s₂ => codeAny (model prog w) A (.forLoop target it body orelse env) (fun r s' => match r with | .ok f => Q f s' | .error e => cameBackBy (model prog w) A env E e s') s₂) E s := by
  have ha : a < B := haB ▸ Nat.lt_succ_self a
  refine wpAny_pyIter_gen G.1 ?_
  have old : ∀ b o, h₀.get? b = some o → b < B ∧ b ≠ Lg := fun b o e => ⟨Nat.lt_of_lt_of_le (Heap.lt_size e) hB', Nat.ne_of_lt (Nat.lt_of_lt_of_le (Heap.lt_size e) hB)⟩
  refine codeAny_forLoop_any
    (fun k s' => ∃ i m' news', (LaterO s s' ∧ GenOnly g s.gens s'.gens) ∧ GAt prog w A h₀ a g Lg B N P i s' ∧ Fr h₀ env.locals s'.heap m' ∧ News h₀ env.locals s'.heap news' ∧ news'.map (·.1) = news.map (·.1) ∧ J i m' news' ∧ i ≤ N ∧ k = N + 1 - i) ?_ (N + 1)
    ⟨0, m, news, ⟨.refl s, rfl, fun _ _ => rfl⟩, G, F, Nw, rfl, h0, Nat.zero_le _, rfl⟩
  rintro k s' ⟨i, m', news', hls, G', F', N', had, hJ, hi, rfl⟩
  have hnw' : ∀ p ∈ news', p.1 < B ∧ p.1 ≠ Lg ∧ p.1 ≠ a := fun p hp => by
    have : p.1 ∈ news.map (·.1) := had ▸ List.mem_map.mpr ⟨p, hp, rfl⟩
    obtain ⟨q, hq, e⟩ := List.mem_map.mp this
    rw [← e]; exact hnw q hq
  have next : ∀ h₁ : Heap, (∀ b o, b < B → b ≠ Lg → s'.heap.get? b = some o → h₁.get? b = some o) → Fr h₀ env.locals h₁ m' ∧ News h₀ env.locals h₁ news' := fun h₁ hk₁ =>
    ⟨⟨F'.ns.at' fun o e => hk₁ _ o hL hLL e, fun b o e => hk₁ b o (old b o e).1 (old b o e).2 (F'.keep b o e), F'.above⟩,
      fun p hp => ⟨hk₁ _ _ (hnw' p hp).1 (hnw' p hp).2.1 (N' p hp).1, (N' p hp).2⟩⟩
  obtain ⟨hgen, gs, hgs, hgo⟩ := G'
  have hl : s'.heap.NoLimit := hlim.keeps F'.keep
  have hBs : B ≤ s'.heap.objs.size := haB ▸ (let ⟨o, nm, qn, ho, r⟩ := hgen; Heap.lt_size ho)
  by_cases hlt : i < N
  · obtain ⟨n, hn⟩ : ∃ n, N - i = n + 1 := ⟨N - i - 1, by lia⟩
    rw [hn] at hgo
    refine wpAny_pyNext_gen (P := fun n s₀ s₁ => n = 0 ∧ GStep Lg B s₀ s₁) hh hl hroom hgen hgs (hgo _ (fun _ _ _ e => e) F'.keep hBs) (fun v s₁ gs' hv => ?_) (fun s₁ hp h' hk => ?_)
    · obtain ⟨⟨T, items, rfl, hBT, hT, hP⟩, ⟨hk₁, hg₁, hl₁⟩, hkap⟩ := hv
      rw [show N - 1 - (n + 1 - 1) = i by lia] at hP
      obtain ⟨F₁, N₁⟩ := next s₁.heap hk₁
      have hgen₁ : s₁.heap.IsGen a g := let ⟨o, nm, qn, ho, r⟩ := hgen; ⟨o, nm, qn, hk₁ a o ha haL ho, r⟩
      refine go_gen (g := g) hgen₁ ?_
      have hLat : LaterO s (s₁.setGen g gs') := hls.1.trans ⟨hl₁.o.1, hl₁.o.2⟩
      have hGo : GenOnly g s.gens (s₁.setGen g gs').gens := by
        have e1 := GenOnly.setGen s₁ g gs'
        rw [hg₁] at e1
        exact hls.2.trans ((GenOnly.setGen s' g .running).trans e1)
      let fp : List Addr := a :: Lg :: (List.range s₁.heap.objs.size).filter fun b => B ≤ b
      have hfp : ∀ b ∈ fp, b = a ∨ b = Lg ∨ B ≤ b := fun b hb => by
        rcases List.mem_cons.mp hb with e | hb
        · exact .inl e
        rcases List.mem_cons.mp hb with e | hb
        · exact .inr (.inl e)
        · exact .inr (.inr (of_decide_eq_true (List.mem_filter.mp hb).2))
      have hLf : env.locals ∉ fp := fun hb => by
        rcases hfp _ hb with e | e | e
        · exact hLa e
        · exact hLL e
        · exact absurd hL (Nat.not_lt.mpr e)
      have Nown : News h₀ env.locals s₁.heap (ownOf h₀ fp s₁.heap) := news_ownOf hLf
      have hoff : OwnOff ((T, tupOf items) :: ownOf h₀ fp s₁.heap) (news.map (·.1)) := by
        intro p hp b hb e
        obtain ⟨q, hq, rfl⟩ := List.mem_map.mp hb
        have := hnw q hq
        rcases List.mem_cons.mp hp with rfl | hp
        · exact absurd this.1 (Nat.not_lt.mpr (e ▸ hBT))
        · rcases hfp _ (ownOf_sub p hp) with x | x | x
          · exact this.2.2 (e ▸ x)
          · exact this.2.1 (e ▸ x)
          · exact absurd this.1 (Nat.not_lt.mpr (e ▸ x))
      have hTn : h₀.get? T = none := by
        cases e : h₀.get? T with
        | none => rfl
        | some o => exact absurd (old T o e).1 (Nat.not_lt.mpr hBT)
      have NT : News h₀ env.locals s₁.heap [(T, tupOf items)] := fun p hp => by
        rw [List.mem_singleton.mp hp]
        exact ⟨hT, fun e => absurd hL (Nat.not_lt.mpr (e ▸ hBT)), hTn⟩
      refine wpAny_mono (step i T items m' news' (s₁.setGen g gs') (ownOf h₀ fp s₁.heap) hLat hlt hP hJ had hoff F₁ (N₁.append (NT.append Nown))) (fun _ s₂ h₂ => wpAny_mono h₂ (fun f s₃ h₃ => ?_) fun _ _ e => e.elim) fun _ _ e => e.elim
      have fin : (∃ m₂ news₂ nx, Later (s₁.setGen g gs') s₃ ∧ s₃.gens = (s₁.setGen g gs').gens ∧ Fr h₀ env.locals s₃.heap m₂ ∧ News h₀ env.locals s₃.heap news₂ ∧ (∀ p ∈ nx, p ∈ news₂) ∧ (∀ p ∈ ownOf h₀ fp s₁.heap, p ∈ news₂) ∧ nx.map (·.1) = news.map (·.1) ∧ J (i + 1) m₂ nx) →
          ∃ k', k' < N + 1 - i ∧ ∃ i m' news', (LaterO s s₃ ∧ GenOnly g s.gens s₃.gens) ∧ GAt prog w A h₀ a g Lg B N P i s₃ ∧ Fr h₀ env.locals s₃.heap m' ∧ News h₀ env.locals s₃.heap news' ∧ news'.map (·.1) = news.map (·.1) ∧ J i m' news' ∧ i ≤ N ∧ k' = N + 1 - i := by
        rintro ⟨m₂, news₂, nx, hl₃, hg₃, F₃, N₃, hn', ho, hadr, hj⟩
        have kept : ∀ b ∈ fp, ∀ o, s₁.heap.get? b = some o → s₃.heap.get? b = some o := fun b hb o e => by
          cases hn₀ : h₀.get? b with
          | some o₀ =>
            have : o₀ = o := by have := F₁.keep b o₀ hn₀; rw [e] at this; exact (Option.some.inj this).symm
            exact this ▸ F₃.keep b o₀ hn₀
          | none => exact (N₃ _ (ho _ (mem_ownOf hb hn₀ e))).1
        refine ⟨N + 1 - (i + 1), by lia, i + 1, m₂, nx, ⟨hLat.trans hl₃.o, hg₃ ▸ hGo⟩, ⟨?_, gs', ?_, fun s'' hK hk0 hB₀ => ?_⟩, F₃, fun p hp => N₃ p (hn' p hp), hadr, hj, hlt, rfl⟩
        · exact let ⟨o, nm, qn, ho, r⟩ := hgen₁; ⟨o, nm, qn, kept a (List.mem_cons_self ..) o ho, r⟩
        · rw [hg₃]
          exact setGen_self (gs := .running) (by rw [hg₁]; exact setGen_self hgs)
        · rw [show N - (i + 1) = n by lia]
          refine hkap s'' (fun b o hb e => hK b o hb (kept b ?_ o e)) hk0 hB₀
          rcases hb with rfl | hb
          · exact List.mem_cons_of_mem _ (List.mem_cons_self ..)
          · exact List.mem_cons_of_mem _ (List.mem_cons_of_mem _ (List.mem_filter.mpr ⟨List.mem_range.mpr (Heap.lt_size e), decide_eq_true hb⟩))
      cases f with
      | ret v => exact h₃
      | brk => exact h₃
      | cont => exact fin h₃
      | next => exact fin h₃
    · exact absurd hp.1 (Nat.succ_ne_zero n)
  · have hin : i = N := by lia
    subst hin
    rw [Nat.sub_self] at hgo
    refine wpAny_pyNext_gen (P := fun n s₀ s₁ => n = 0 ∧ GStep Lg B s₀ s₁) hh hl hroom hgen hgs (hgo _ (fun _ _ _ e => e) F'.keep hBs) (fun v s₁ gs' hv => ?_) (fun s₁ hp h' hk => ?_)
    · obtain ⟨_, hst, hkap⟩ := hv
      exact (hkap s₁ (fun _ _ _ e => e) (fun b o e => (next s₁.heap hst.1).1.keep b o e) (haB ▸ (let ⟨o, nm, qn, ho, r⟩ := hgen; Heap.lt_size (hst.1 a o ha haL ho)))).elim
    · obtain ⟨_, hk₁, hg₁, hl₁⟩ := hp
      obtain ⟨F₁, N₁⟩ := next h' fun b o hb hb' e => hk b o (hk₁ b o hb hb' e)
      have hGf : GenOnly g s.gens (s₁.setGen g .finished).gens := by
        have e1 := GenOnly.setGen s₁ g .finished
        rw [hg₁] at e1
        exact hls.2.trans ((GenOnly.setGen s' g .running).trans e1)
      have hgf : (s₁.setGen g .finished).gens[g]? = some .finished := setGen_self (gs := .running) (by rw [hg₁]; exact setGen_self hgs)
      have hbo : bareOf (s₁.setGen g .finished).gens = bareOf s.gens := bareOf_only hGf hbare (fun y e => by rw [hgf] at e; cases e; rfl)
      exact wpAny_mono (done m' news' _ ⟨hl₁.o.1.trans hls.1.1, Prod.ext (hl₁.o.2.trans hls.1.2) hbo⟩ hJ F₁ N₁) (fun _ _ h => h) fun _ _ e => e.elim
end
end Mine
namespace Mine
open PySem PySem.W PySem.Calls PyProof.Rows PySem.Spec

section
variable {prog : Program} {w : World} {A : Around} {s : Shared} {h₀ : Heap} {L : Addr} {m : Str → Option Value} {news : List (Addr × Obj)} {K : Frag} {p : Program} {loose : List Str} {mean : ExcName → Option Value} {mg mb : Str → Option Value}
/-- a def that makes a generator is called -/
theorem code_gen {R : Result → Shared → Prop} {name qual : Str} {params : Arguments} {body : List Stmt} {scope : Scope} {dV kV doc pm cdv ct oc : Value} {an od : Option Addr} {osl : Array (Option Value)} {f : Addr} {args : Args} {binds : List (Str × Value)}
    (F : Fr h₀ L s.heap m) (X₀ : K.In h₀) (N : News h₀ L s.heap news) (T : Top p loose mean mg mb h₀)
    (ho : K.lookup f = some ⟨oc, od, .func (fnOf name qual params body scope dV kV doc pm an cdv ct), osl⟩) (hcd : codeIn K cdv qual = true) (hroom : A.depth < recursionLimit)
    (hbind : BindsTo s (fnOf name qual params body scope dV kV doc pm an cdv ct) args binds) (hloc : ∀ y ∈ binds, scope.names.lookup y.1 = some .local)
    (h : ∀ h₁ tk, Fr h₀ L h₁ m → News h₀ L h₁ news → Fr h₀ s.heap.objs.size h₁ (fun y => binds.reverse.lookup y) → h₁.IsGen (s.heap.objs.size + 1) s.gens.size → h₁.objs.size = s.heap.objs.size + 2 → L < s.heap.objs.size → (∀ p ∈ news, p.1 < s.heap.objs.size) →
      R (.ok (.ret (.ref (s.heap.objs.size + 1)))) ⟨h₁, s.gens.push (.fresh (.func body (envOf qual scope s.heap.objs.size f cdv))), s.drawn, tk, s.os⟩)
    (hco : scope.isCoroutine = false) (hgen : scope.isGenerator = true) (hk : scope.kind = .function) (hcell : ∀ x ∈ scope.names, x.2 ≠ .cell) : codeAny (model prog w) A (.call (.ref f) args) R s := by
  have X := X₀.keeps F.keep
  have hlim := T.nolimit.keeps F.keep
  refine codeAny_call_generator (fd := fnOf name qual params body scope dV kV doc pm an cdv ct) (body := body) hroom (X _ _ ho) rfl hco hgen rfl (codeRec_of X hcd) (hbind _ _ _ _ (wpAny_newFunctionEnv hcell hloc (fun h₁ hns hsb => ⟨hlim.fresh _ hsb, ?_⟩) hk))
  have up : ∀ b o, s.heap.get? b = some o → h₁.get? b = some o := fun b o e => hsb.extBut b o (Nat.ne_of_lt (Heap.lt_size e)) (Heap.get?_push_of_some _ e)
  have hsz : h₁.objs.size = s.heap.objs.size + 1 := by rw [hsb.1, Heap.size_push]
  have up₂ : ∀ (o' : Obj) b o, h₁.get? b = some o → (h₁.push o').get? b = some o := fun o' b o e => Heap.get?_push_of_some _ e
  have hL : L < s.heap.objs.size := F.ns.lt
  have := h (h₁.push { cls := .type "generator", data := .fields #[.int s.gens.size 0, .str name (s.toks + binds.length), .str qual (s.toks + binds.length + 1)] }) (s.toks + binds.length + 1 + 1)
    (F.keeps fun b o e => up₂ _ b o (up b o e)) (N.grown fun b o e => up₂ _ b o (up b o e)) ⟨hns.keeps (up₂ _), fun b o e => up₂ _ b o (up b o (F.keep b o e)), Nat.le_trans F.above (Nat.le_of_lt hL)⟩
    (by rw [← hsz]; exact ⟨_, _, _, Heap.get?_push_size _ rfl, rfl, rfl, rfl⟩) (by rw [Heap.size_push, hsz]) hL (fun q hq => Heap.lt_size (N q hq).1)
  rw [← hsz] at this
  exact this
end

section
variable {M : Model} {A : Around} {R : GenEnd} {Y : Protocol} {n : Nat} {s₀ : Shared} {c : Code} {fs : List Frame} {s : Shared} {env : Env}
  {K : Flow → Sem Fin} {H : Value → Sem Fin} {gd : Bool → Bool} {lv : List Value → List Value}
theorem seg_If {test : PySem.Expr} {body orelse : List Stmt} {pos : Pos}
    (h : wpAny M (A.over c fs) (isTrue test env (eval test env)) (fun b s' => if b = true then Seg M A R Y n s₀ c ((execs body env).wrap K H gd lv) fs s' else Seg M A R Y n s₀ c ((execs orelse env).wrap K H gd lv) fs s') (fun x s' => Seg M A R Y n s₀ c (H x) fs s') s) :
    Seg M A R Y n s₀ c ((exec (.If test body orelse pos) env).wrap K H gd lv) fs s := by
  rw [exec_If]
  refine seg_at ?_
  show Seg M A R Y n s₀ c ((isTrue test env (eval test env) >>= fun b => if b = true then execs body env else execs orelse env).wrap K H gd lv) fs s
  rw [Sem.bind_eq_wrap', Sem.wrap_wrap]
  refine seg_wrap (wpAny_mono h (fun b s' hb => ?_) fun _ _ x => x)
  cases b with
  | true => exact hb
  | false => exact hb
theorem seg_block {body : List Stmt} {prog : Program} {w : World} (hs : body = [])
    (h : Seg (model prog w) A R Y n s₀ (.block body env) (leafOf (.ok .next)) fs s) : Seg (model prog w) A R Y n s₀ (.block body env) ((model prog w).den (.block body env)) fs s := by
  subst hs
  exact h
end
theorem draws_strU {prog : Program} {w : World} {A : Around} (hh : A.handled = none) (it : Addr) (x : Str) (t : Tok) :
    Draws prog w A it [it] x.cps.size (fun i v => ∃ c u, x.cps[i]? = some c ∧ v = .str ⟨#[c]⟩ u) (fun i h => h.IsStrIter it (strIterType x) x t i) := by
  unfold strIterType
  by_cases e : (x.cps.all (· < 128)) = true
  · rw [if_pos e]; exact Draws.strAscii hh it x t
  · rw [if_neg e]; exact Draws.strWide hh it x t

section
variable {prog : Program} {w : World} {A : Around} {s : Shared} {h₀ : Heap} {Lg B : Addr} {q : Str} {sc : Scope} {f : Addr} {cd : Value}
noncomputable abbrev PChar (x : Str) (i : Nat) (items : Array Value) : Prop := ∃ c t u, x.cps[i]? = some c ∧ items = #[.int (i : Int) t, .str ⟨#[c]⟩ u]
/-- the loop of _iter_escaped_chars over a text without a backslash -/
theorem seg_charsLoop {p1 p2 p3 p4 p5 p6 p7 p8 p9 q1 q2 q3 q4 q5 q6 q7 q8 q9 r1 r2 r3 r4 r5 r6 r7 d6 d7 : Pos} {k1 k2 k3 k4 k5 k6 k7 : Nat} {x : Str} {t : Tok} {e it : Addr} {fs : List Frame}
    (hh : A.handled = none) (hk : sc.kind = .function) (hco : sc.isCoroutine = false)
    (n1 : (envOf q sc Lg f cd).kindOf "pos" = some .local) (n2 : (envOf q sc Lg f cd).kindOf "escape" = some .local) (n3 : (envOf q sc Lg f cd).kindOf "ch" = some .local)
    (hx : ∀ c ∈ x.cps.toList, c ≠ 92) (hei : e ≠ it) (hBe : B ≤ e) (hBi : B ≤ it) (hLe : Lg ≠ e) (hLi : Lg ≠ it) (h0B : h₀.objs.size ≤ B)
    (hms : (marksOver fs (none, none)).1 = none) (hfs : splitAtGen fs = none) (hfg : fs.any Frame.guarded = false)
    (fin : ∀ c s₀ (s' : Shared) m, Fr h₀ Lg s'.heap m → m "escape" = some (.bool false) → GStep Lg B s₀ s' → Seg (model prog w) A (GFin Lg B) (GPro h₀ Lg B x.cps.size (PChar x)) 0 s₀ c (leafOf (.ok .next)) fs s') :
    ∀ (k i : Nat) (s₀ s : Shared) (m : Str → Option Value), x.cps.size - i = k → i ≤ x.cps.size → Fr h₀ Lg s.heap m → m "escape" = some (.bool false) → (∃ old, IsEnum s.heap e it i old) → s.heap.IsStrIter it (strIterType x) x t i → GStep Lg B s₀ s →
      Seg (model prog w) A (GFin Lg B) (GPro h₀ Lg B x.cps.size (PChar x)) k s₀
        (.forLoop (.Tuple [.Name "pos" p1, .Name "ch" p2] k1 p3) (.ref e) [.If (.Name "escape" p4)
            [.Expr (.Yield (some (.Tuple [.Name "pos" p5, .BinOp (.Constant (.str "\\") k2 p6) .Add (.Name "ch" p7) p8] k3 p9)) q1) q2, .Assign [.Name "escape" q3] (.Constant (.bool false) k4 q4) q5]
            [.If (.Compare (.Name "ch" q6) [.Eq] [.Constant (.str "\\") k5 q7] q8) [.Assign [.Name "escape" q9] (.Constant (.bool true) k6 r1) r2] [.Expr (.Yield (some (.Tuple [.Name "pos" r3, .Name "ch" r4] k7 r5)) r6) r7] d6] d7] [] (envOf q sc Lg f cd))
        ((model prog w).den (.forLoop (.Tuple [.Name "pos" p1, .Name "ch" p2] k1 p3) (.ref e) [.If (.Name "escape" p4)
            [.Expr (.Yield (some (.Tuple [.Name "pos" p5, .BinOp (.Constant (.str "\\") k2 p6) .Add (.Name "ch" p7) p8] k3 p9)) q1) q2, .Assign [.Name "escape" q3] (.Constant (.bool false) k4 q4) q5]
            [.If (.Compare (.Name "ch" q6) [.Eq] [.Constant (.str "\\") k5 q7] q8) [.Assign [.Name "escape" q9] (.Constant (.bool true) k6 r1) r2] [.Expr (.Yield (some (.Tuple [.Name "pos" r3, .Name "ch" r4] k7 r5)) r6) r7] d6] d7] [] (envOf q sc Lg f cd))) fs s := by
  have ho : ∀ c, (A.over c fs).handled = none := fun c => by show (marksOver fs (A.handled, A.handled)).1 = none; rw [hh]; exact hms
  have D : ∀ c, Draws prog w (A.over c fs).in1 it [it] x.cps.size (fun i v => ∃ c u, x.cps[i]? = some c ∧ v = .str ⟨#[c]⟩ u) (fun i h => h.IsStrIter it (strIterType x) x t i) := fun c => draws_strU (A := (A.over c fs).in1) (ho c) it x t
  intro k
  induction k with
  | zero =>
    intro i s₀ s m hki hi F me he hit hst
    have hin : i = x.cps.size := by omega
    subst hin
    obtain ⟨old, he⟩ := he
    refine seg_forLoop ?_
    refine wpAny_pyNext_enum_endD (D _) he hit fun h' hx' => ?_
    have old' : ∀ b o, h₀.get? b = some o → b ≠ it := fun b o e' => Nat.ne_of_lt (Nat.lt_of_lt_of_le (Heap.lt_size e') (Nat.le_trans h0B hBi))
    refine seg_again rfl (seg_block rfl (fin _ _ _ m ⟨F.ns.at' fun o e' => hx' _ _ hLi e', fun b o e' => hx' _ _ (old' b o e') (F.keep b o e'), F.above⟩ me (hst.trans ⟨fun b o hb _ e' => hx' _ _ (Nat.ne_of_lt (Nat.lt_of_lt_of_le hb hBi)) e', rfl, .refl _⟩)))
  | succ k ih =>
    intro i s₀ s m hki hi F me he hit hst
    have hlt : i < x.cps.size := by omega
    obtain ⟨old, he⟩ := he
    refine seg_forLoop ?_
    refine wpAny_pyNext_enum_itemD (D _) he hit hlt hei (fun h => hei (List.mem_singleton.mp h)) fun v h₁ tk hP he₁ hit₁ hT hsz₁ hk₁ => ?_
    obtain ⟨c, u, hc, rfl⟩ := hP
    have hTs : s.heap.objs.size ≠ e := Nat.ne_of_gt (Heap.lt_size he)
    have hei' : e ≠ it := hei
    have old' : ∀ b o, h₀.get? b = some o → b ≠ e ∧ b ≠ it := fun b o e' => ⟨Nat.ne_of_lt (Nat.lt_of_lt_of_le (Heap.lt_size e') (Nat.le_trans h0B hBe)), Nat.ne_of_lt (Nat.lt_of_lt_of_le (Heap.lt_size e') (Nat.le_trans h0B hBi))⟩
    refine wpAny_letOwnedTupleGo_enum he₁ fun h₂ he₂ hs₂ => ?_
    have hT₂ : h₂.get? s.heap.objs.size = some (tupOf #[.int i tk, .str ⟨#[c]⟩ u]) := (hs₂.2 _ hTs).trans hT
    have F₂ : Fr h₀ Lg h₂ m := ⟨F.ns.at' fun o e' => (hs₂.2 _ hLe).trans (hk₁ _ _ hLe hLi e'), fun b o e' => (hs₂.2 _ (old' b o e').1).trans (hk₁ _ _ (old' b o e').1 (old' b o e').2 (F.keep b o e')), F.above⟩
    have st₂ : ∀ b o, b < B → b ≠ Lg → s.heap.get? b = some o → h₂.get? b = some o := fun b o hb _ e' => (hs₂.2 _ (Nat.ne_of_lt (Nat.lt_of_lt_of_le hb hBe))).trans (hk₁ _ _ (Nat.ne_of_lt (Nat.lt_of_lt_of_le hb hBe)) (Nat.ne_of_lt (Nat.lt_of_lt_of_le hb hBi)) e')
    have hit₂ : h₂.IsStrIter it (strIterType x) x t (i + 1) := let ⟨o, ho, r⟩ := hit₁; ⟨o, (hs₂.2 it hei.symm).trans ho, r⟩
    have hsz₂ : h₂.objs.size = s.heap.objs.size + 1 := by rw [hs₂.1, hsz₁]
    -- the tuple is taken apart
    have hf : (sc.kind == .class || (sc.kind == .module && Lg != mainGlobals)) = false := by rw [hk]; rfl
    refine assign_Tuple_tuple (ho _) ⟨_, hT₂, rfl, _, rfl⟩ rfl rfl fun h₃ hx₃ => ?_
    have F₃ : Fr h₀ Lg h₃ m := F₂.extBut hx₃ (Nat.le_refl _)
    have hsz₃ : s.heap.objs.size < h₃.objs.size := Heap.lt_size (hx₃ _ _ (Nat.ne_of_lt (by rw [hsz₂]; exact Nat.lt_succ_self _)) hT₂)
    have e₃ : ∀ b o, b < s.heap.objs.size → h₂.get? b = some o → h₃.get? b = some o := fun b o hb e' => hx₃ b o (Nat.ne_of_lt (by rw [hsz₂]; exact Nat.lt_succ_of_lt hb)) e'
    refine assignInOrder_cons (wpAny_assign_Name (wpAny_storeName_local n1 F₃.ns (fun h₄ hn₄ hs₄ => ?_) hf))
    refine assignInOrder_cons (wpAny_assign_Name (wpAny_storeName_local n3 hn₄ (fun h₅ hn₅ hs₅ => ?_) hf))
    refine assignInOrder_nil ?_
    have F₅ : Fr h₀ Lg h₅ _ := (F₃.set hn₄ hs₄).set hn₅ hs₅
    have m5e : (fun z => if z = Str.ofString "ch" then some (Value.str ⟨#[c]⟩ u) else if z = Str.ofString "pos" then some (Value.int i tk) else m z) (Str.ofString "escape") = some (.bool false) := by
      show (if Str.ofString "escape" = Str.ofString "ch" then _ else if Str.ofString "escape" = Str.ofString "pos" then _ else m "escape") = _
      rw [if_neg (by decide), if_neg (by decide)]; exact me
    have up : ∀ b o, b ≠ Lg → b < s.heap.objs.size → h₂.get? b = some o → h₅.get? b = some o := fun b o hb hb' e' => hs₅.extBut b o hb (hs₄.extBut b o hb (e₃ b o hb' e'))
    have he₅ : IsEnum h₅ e it ((i + 1 : Nat) : Int) (.str ⟨#[c]⟩ u) := up e _ (Ne.symm hLe) (Heap.lt_size he) he₂
    have hit₅ : h₅.IsStrIter it (strIterType x) x t (i + 1) := let ⟨o, ho', r⟩ := hit₂; ⟨o, up it o (Ne.symm hLi) (by obtain ⟨o', ho'', _⟩ := hit; exact Heap.lt_size ho'') ho', r⟩
    have st₅ : GStep Lg B s₀ ⟨h₅, s.gens, s.drawn, tk + 1 + 1 + 1, s.os⟩ := hst.trans ⟨fun b o hb hb' e' => up b o hb' (Heap.lt_size e') (st₂ b o hb hb' e'), rfl, .refl _⟩
    -- the body
    refine seg_execs_cons (seg_If (wpAny_isTrue_value (ld F₅ m5e (wpAny_truthy_bool ?_) hk n2)))
    rw [if_neg Bool.false_ne_true]
    refine seg_execs_cons (seg_If (wpAny_isTrue_Compare1 (ld F₅ (v := .str ⟨#[c]⟩ u) (by show (if Str.ofString "ch" = Str.ofString "ch" then _ else _) = _; rw [if_pos rfl]) (wpAny_Constant_str (eq_str (wpAny_truthy_bool ?_))) hk n3)))
    have hcx : c ≠ 92 := hx c (by
      have : x.cps.toList[i]? = some c := by simpa using hc
      exact List.mem_of_getElem? this)
    have hne : ((⟨#[c]⟩ : Str) == Str.ofString "\\") = false := by
      have e92 : Str.ofString "\\" = ⟨#[92]⟩ := by decide +kernel
      rw [e92]
      refine beq_false_of_ne fun e' => hcx ?_
      injection e' with e'
      simpa using e'
    rw [hne, if_neg Bool.false_ne_true]
    refine seg_execs_cons (seg_Expr_Yield hfs rfl hfg (wpAny_Tuple_spliced (spliced_more (ld F₅ (v := .int i tk) ?mp (spliced_more (ld F₅ (v := .str ⟨#[c]⟩ u) ?mc (spliced_none ?_) hk n3)) hk n1))) hco ?int)
    case mp => show (if Str.ofString "pos" = Str.ofString "ch" then _ else if Str.ofString "pos" = Str.ofString "pos" then _ else _) = _; rw [if_neg (by decide), if_pos rfl]
    case mc => show (if Str.ofString "ch" = Str.ofString "ch" then _ else _) = _; rw [if_pos rfl]
    case int => unfold interactive; rw [show (envOf q sc Lg f cd).scope.kind = .function from hk]; rfl
    refine ⟨show 2 ≤ sizeLine by decide, fun kap hkap => ?_⟩
    have hup : ∀ b o, h₅.get? b = some o → (h₅.push (tupOf #[.int i tk, .str ⟨#[c]⟩ u])).get? b = some o := fun b o e' => Heap.get?_push_of_some _ e'
    have hB5 : B ≤ h₅.objs.size := Nat.le_trans hBe (Nat.le_of_lt (Heap.lt_size he₅))
    refine ⟨⟨h₅.objs.size, #[.int i tk, .str ⟨#[c]⟩ u], rfl, hB5, Heap.get?_push_size _ rfl, ?_⟩, st₅.trans ⟨fun b o _ _ e' => hup b o e', rfl, .refl _⟩, fun s'' hK hk0 hB₀ => ?_⟩
    · exact ⟨c, tk, u, by rw [show x.cps.size - 1 - k = i by omega]; exact hc, by rw [show x.cps.size - 1 - k = i by omega]⟩
    · refine hkap _ _ (seg_again rfl (ih (i + 1) s'' s'' _ (by omega) hlt ⟨F₅.ns.at' fun o e' => hK _ _ (.inl rfl) (hup _ _ e'), hk0, F₅.above⟩ m5e ⟨_, hK _ _ (.inr hBe) (hup _ _ he₅)⟩ ?_ (.refl _ _ _)))
      exact let ⟨o, ho', r⟩ := hit₅; ⟨o, hK _ _ (.inr hBi) (hup _ _ ho'), r⟩

/-- _iter_escaped_chars over a text without a backslash, from its start -/
theorem seg_chars {p1 p2 p3 p4 p5 p6 p7 p8 p9 q1 q2 q3 q4 q5 q6 q7 q8 q9 r1 r2 r3 r4 r5 r6 r7 a1 a2 a3 b1 b2 b3 c1 c2 c3 c4 d1 d2 d3 d4 d5 d6 d7 e1 e2 : Pos} {k1 k2 k3 k4 k5 k6 k7 k8 k9 l1 l2 : Nat} {x : Str} {t : Tok}
    (hh : A.handled = none) (hk : sc.kind = .function) (hco : sc.isCoroutine = false)
    (n1 : (envOf q sc Lg f cd).kindOf "pos" = some .local) (n2 : (envOf q sc Lg f cd).kindOf "escape" = some .local) (n3 : (envOf q sc Lg f cd).kindOf "ch" = some .local) (n4 : (envOf q sc Lg f cd).kindOf "addr" = some .local)
    (hx : ∀ c ∈ x.cps.toList, c ≠ 92) (hLB : Lg < B) (h0B : h₀.objs.size ≤ B)
    (hen : ∀ (A' : Around) (s' : Shared) m (Q E : Value → Shared → Prop), Fr h₀ Lg s'.heap m → Q (.type "enumerate") s' → wpAny (model prog w) A' (eval (.Name "enumerate" c1) (envOf q sc Lg f cd)) Q E s')
    (s : Shared) (m : Str → Option Value) (F : Fr h₀ Lg s.heap m) (ma : m "addr" = some (.str x t)) (hB : B ≤ s.heap.objs.size) :
      Seg (model prog w) A (GFin Lg B) (GPro h₀ Lg B x.cps.size (PChar x)) x.cps.size s
        (.func [.Assign [.Name "pos" a1] (.Constant (.int 0) k8 a2) a3, .Assign [.Name "escape" b1] (.Constant (.bool false) k9 b2) b3,
          .For (.Tuple [.Name "pos" p1, .Name "ch" p2] k1 p3) (.Call (.Name "enumerate" c1) [.Name "addr" c2] [] c3) [.If (.Name "escape" p4)
            [.Expr (.Yield (some (.Tuple [.Name "pos" p5, .BinOp (.Constant (.str "\\") k2 p6) .Add (.Name "ch" p7) p8] k3 p9)) q1) q2, .Assign [.Name "escape" q3] (.Constant (.bool false) k4 q4) q5]
            [.If (.Compare (.Name "ch" q6) [.Eq] [.Constant (.str "\\") k5 q7] q8) [.Assign [.Name "escape" q9] (.Constant (.bool true) k6 r1) r2] [.Expr (.Yield (some (.Tuple [.Name "pos" r3, .Name "ch" r4] k7 r5)) r6) r7] d6] d7] [] c4,
          .If (.Name "escape" d1) [.Expr (.Yield (some (.Tuple [.Name "pos" d2, .Constant (.str "\\") l1 d3] l2 d4)) d5) e1] [] e2] (envOf q sc Lg f cd))
        ((model prog w).den (.func [.Assign [.Name "pos" a1] (.Constant (.int 0) k8 a2) a3, .Assign [.Name "escape" b1] (.Constant (.bool false) k9 b2) b3,
          .For (.Tuple [.Name "pos" p1, .Name "ch" p2] k1 p3) (.Call (.Name "enumerate" c1) [.Name "addr" c2] [] c3) [.If (.Name "escape" p4)
            [.Expr (.Yield (some (.Tuple [.Name "pos" p5, .BinOp (.Constant (.str "\\") k2 p6) .Add (.Name "ch" p7) p8] k3 p9)) q1) q2, .Assign [.Name "escape" q3] (.Constant (.bool false) k4 q4) q5]
            [.If (.Compare (.Name "ch" q6) [.Eq] [.Constant (.str "\\") k5 q7] q8) [.Assign [.Name "escape" q9] (.Constant (.bool true) k6 r1) r2] [.Expr (.Yield (some (.Tuple [.Name "pos" r3, .Name "ch" r4] k7 r5)) r6) r7] d6] d7] [] c4,
          .If (.Name "escape" d1) [.Expr (.Yield (some (.Tuple [.Name "pos" d2, .Constant (.str "\\") l1 d3] l2 d4)) d5) e1] [] e2] (envOf q sc Lg f cd))) [] s := by
  have hf : (sc.kind == .class || (sc.kind == .module && Lg != mainGlobals)) = false := by rw [hk]; rfl
  refine seg_func ?_
  refine seg_execs_cons (seg_wrap (wpAny_Assign_Name (wpAny_Constant_int (wpAny_storeName_local n1 F.ns (fun h₁ hn₁ hs₁ => ?_) hf))))
  refine seg_execs_cons (seg_wrap (wpAny_Assign_Name (wpAny_Constant_bool (wpAny_storeName_local n2 hn₁ (fun h₂ hn₂ hs₂ => ?_) hf))))
  have F₂ : Fr h₀ Lg h₂ _ := (F.set hn₁ hs₁).set hn₂ hs₂
  have z₂ : h₂.objs.size = s.heap.objs.size := by rw [hs₂.1, hs₁.1]
  have st₂ : ∀ b o, b < B → b ≠ Lg → s.heap.get? b = some o → h₂.get? b = some o := fun b o _ hb e => hs₂.extBut b o hb (hs₁.extBut b o hb e)
  have ma₂ : (fun z => if z = Str.ofString "escape" then some (Value.bool false) else if z = Str.ofString "pos" then some (Value.int 0 s.toks) else m z) (Str.ofString "addr") = some (.str x t) := by
    show (if Str.ofString "addr" = Str.ofString "escape" then _ else if Str.ofString "addr" = Str.ofString "pos" then _ else m "addr") = _
    rw [if_neg (by decide), if_neg (by decide)]; exact ma
  have me₂ : (fun z => if z = Str.ofString "escape" then some (Value.bool false) else if z = Str.ofString "pos" then some (Value.int 0 s.toks) else m z) (Str.ofString "escape") = some (.bool false) := by
    show (if Str.ofString "escape" = Str.ofString "escape" then _ else _) = _
    rw [if_pos rfl]
  refine seg_execs_cons (seg_For (fun _ => rfl) ?_)
  rw [arm_eval_Call_Name']
  refine wpAny_bind (hen _ _ _ _ _ F₂ ?_)
  refine Pv.callWith_type1 (spliced_more (ld F₂ ma₂ (spliced_none ?_) hk n4))
  refine call_enumerate_str fun h₃ he hit hz hup => ?_
  refine wpAny_pyIter_enum he fun pp => ?_
  have hle : B ≤ h₂.objs.size := z₂ ▸ hB
  have hLt : Lg < h₂.objs.size := F₂.ns.lt
  refine seg_charsLoop hh hk hco n1 n2 n3 hx ?_ ?_ ?_ ?_ ?_ h0B ?_ rfl rfl ?_ x.cps.size 0 s _ _ (Nat.sub_zero _) (Nat.zero_le _) (F₂.keeps hup) me₂ ⟨_, he⟩ hit ⟨fun b o hb hb' e => hup _ _ (st₂ b o hb hb' e), rfl, .refl _⟩
  · exact Nat.succ_ne_self _
  · exact Nat.le_trans hle (Nat.le_succ _)
  · exact hle
  · exact Nat.ne_of_lt (Nat.lt_succ_of_lt hLt)
  · exact Nat.ne_of_lt hLt
  · rfl
  · intro c s₀ s' m' F' me' hst'
    refine seg_leaf (.ok .next) ?_
    refine seg_execs_cons (seg_If (wpAny_isTrue_value (ld F' me' (wpAny_truthy_bool ?_) hk n2)))
    rw [if_neg Bool.false_ne_true]
    refine seg_execs_nil (seg_execs_nil ?_)
    exact seg_end (.ok (.ret .none)) ⟨rfl, rfl, hst'⟩
end
end Mine
namespace Mine
open PySem PySem.W PySem.Calls PyProof.Rows PySem.Spec

/-- a text as a list of signs -/
noncomputable abbrev T (l : List Nat) : Str := ⟨l.toArray⟩
theorem T_len (l : List Nat) : (T l).length = l.length := by show l.toArray.size = _; simp
theorem nil_T : Str.ofString "" = T [] := by decide +kernel
theorem str_eqT {x y : Str} (h : x.cps.toList = y.cps.toList) : x = y := by
  cases x with | mk a => cases y with | mk b => exact congrArg Str.mk (Array.toList_inj.mp h)
theorem toList_addT (x y : Str) : (x ++ y).cps.toList = x.cps.toList ++ y.cps.toList := by
  show (x.cps ++ y.cps).toList = _; simp
theorem app_T (a b : List Nat) : T a ++ T b = T (a ++ b) := str_eqT (by rw [toList_addT])
/-- the empty text between texts -/
theorem sjoin0 : ∀ ys : List Str, Str.join (Str.ofString "") ys = T (ys.flatMap fun y => y.cps.toList)
  | [] => rfl
  | [y] => str_eqT (by simp [Str.join])
  | y :: z :: r => by
    show y ++ Str.ofString "" ++ Str.join (Str.ofString "") (z :: r) = _
    rw [sjoin0 (z :: r)]
    refine str_eqT ?_
    rw [toList_addT, toList_addT, nil_T]
    simp [List.flatMap_cons]
theorem join0 (ys : List Str) : Txt.join (Str.ofString "") ys = T (ys.flatMap fun y => y.cps.toList) := by
  unfold Txt.join
  rw [StrLaws.glued_eq_join]
  exact sjoin0 ys
theorem slice_a {l a r : List Nat} (hl : l = a ++ r) : Txt.slice (T l) (some 0) (some (a.length : Int)) = T a := by
  show StrLaws.sliceText (T l) (some ((0 : Nat) : Int)) (some (a.length : Int)) = T a
  rw [StrLaws.sliceText_nat _ (Nat.zero_le _) (by rw [T_len, hl]; simp)]
  subst hl
  simp
theorem slice_c {l a c : List Nat} {S : Int} (hl : l = a ++ c) (hS : S = (a.length : Int)) : Txt.slice (T l) (some S) none = T c := by
  show StrLaws.sliceText (T l) (some S) none = T c
  subst hS
  rw [StrLaws.sliceText_from ⟨by lia, by subst hl; simp; lia⟩]
  subst hl
  have e1 : (a ++ c).toArray.toList.length = a.length + c.length := by simp
  have e2 : (((a.length : Nat) : Int)).toNat = a.length := by lia
  show T (((a ++ c).drop _).take _) = T c
  rw [e2]
  simp
  rw [show ((a.length : Int) + (c.length : Int)).toNat - a.length = c.length by lia, List.take_length]
section
variable {prog : Program} {w : World} {A : Around} {E : Value → Shared → Prop} {s : Shared} {t u : Tok} {c : Nat} {k : Int} {l a b : List Nat} {Q : Value → Shared → Prop}
theorem join_h {h₀ : Heap} {L D : Addr} {x : Str} {its : Array Value} {n : Nat} {rest : List (Addr × Obj)} (ys : List (Str × Tok)) (N : News h₀ L s.heap ((D, listOf its n) :: rest)) (e : its = (strValues ys).toArray) (hok : (ys.map (·.1.length)).sum + ys.length * x.length ≤ 16777216)
    (h : ∀ t' k, Q (.str (Txt.join x (ys.map (·.1))) t') { s with toks := k }) : wpAny (model prog w) A (call (.builtin "str.join") [.str x t, .ref D]) Q E s := by
  subst e
  exact SC.join (l := ys) ⟨_, (N _ List.mem_cons_self).1, rfl, _, rfl⟩ rfl (joinOk_of (by rw [List.map_map, List.length_map]; exact hok)) h
end
end Mine
namespace Mine
open PySem PySem.W PySem.Calls PyProof.Rows PySem.Spec

section
variable {w : World} {A : Around} {E : Value → Shared → Prop} {s : Shared} {t u : Tok} {c : Nat} {k : Int} {l a b : List Nat} {Q : Value → Shared → Prop}
theorem contains_q (h : 34 ∈ l) : Txt.contains (T l) (Str.ofString "\"") = true := by
  unfold Txt.contains
  rw [show Str.ofString "\"" = ⟨#[34]⟩ by decide +kernel, StrLaws.found_one]
  exact decide_eq_true (by simpa using h)
theorem len_T (hs : l.length ≤ 100000) (h : Q (.int (l.length : Int) (s.toks + 1)) { s with toks := s.toks + 1 + 1 }) : wpAny (model rwp w) A (call (.builtin "len") [.str (T l) t]) Q E s := by
  have e : (T l).length = l.length := T_len l
  refine len_str (by rw [e]; lia) ?_
  rw [e]; exact h
theorem notin_q (hl : 34 ∈ l) (h : Q (.bool false) s) : wpAny (model rwp w) A (compareOp .NotIn (.str (Str.ofString "\"") u) (.str (T l) t)) Q E s := by
  refine SB.notContains ?_
  rw [contains_q hl]; exact h
theorem quote_T : Str.ofString "\"" = ⟨#[34]⟩ := by decide +kernel
theorem notin_n (hl : ¬ 34 ∈ l) (h : Q (.bool true) s) : wpAny (model rwp w) A (compareOp .NotIn (.str (Str.ofString "\"") u) (.str (T l) t)) Q E s := by
  refine SB.notContains ?_
  have e : Txt.contains (T l) (Str.ofString "\"") = false := by
    unfold Txt.contains
    rw [show Str.ofString "\"" = ⟨#[34]⟩ by decide +kernel, StrLaws.found_one]
    exact decide_eq_false (by simpa using hl)
  rw [e]; exact h
theorem eq_q1 (h : Q (.bool true) s) : wpAny (model rwp w) A (compareOp .Eq (.str ⟨#[34]⟩ t) (.str (Str.ofString "\"") u)) Q E s := by
  refine eq_str ?_
  rw [quote_T, beq_self_eq_true]; exact h
theorem eq_q0 (hc : c ≠ 34) (h : Q (.bool false) s) : wpAny (model rwp w) A (compareOp .Eq (.str ⟨#[c]⟩ t) (.str (Str.ofString "\"") u)) Q E s := by
  refine eq_str ?_
  rw [quote_T, beq_false_of_ne (fun e => hc (by injection e with e; simpa using e))]; exact h
end
section
variable {m : Str → Option Value} {v1 v2 v3 v4 : Option Value}
theorem as4 (h1 : m "start" = v1) (h2 : m "open_pos" = v2) (h3 : m "result" = v3) (h4 : m "addr" = v4) : m = fun z : Str => if z = "start" then v1 else if z = "open_pos" then v2 else if z = "result" then v3 else if z = "addr" then v4 else m z := by
  funext z
  by_cases e1 : z = "start"
  · rw [if_pos e1, e1, h1]
  rw [if_neg e1]
  by_cases e2 : z = "open_pos"
  · rw [if_pos e2, e2, h2]
  rw [if_neg e2]
  by_cases e3 : z = "result"
  · rw [if_pos e3, e3, h3]
  rw [if_neg e3]
  by_cases e4 : z = "addr"
  · rw [if_pos e4, e4, h4]
  rw [if_neg e4]
end
theorem led_ne {Z : Addr} {t : Addr × Obj} {rest own : List (Addr × Obj)} (h : ∀ p ∈ rest, p.1 < Z) (ho : OwnOff (t :: own) (Z :: rest.map (·.1))) : ∀ p ∈ t :: (rest ++ own), p.1 ≠ Z := fun p hp => by
  rcases List.mem_cons.mp hp with h' | h'
  · exact ho p (h' ▸ List.mem_cons_self) Z List.mem_cons_self
  · rcases List.mem_append.mp h' with h' | h'
    · exact Nat.ne_of_lt (h p h')
    · exact ho p (List.mem_cons_of_mem _ h') Z List.mem_cons_self
theorem led_swap {h₀ h : Heap} {L : Addr} {z t : Addr × Obj} {rest own : List (Addr × Obj)} (N : News h₀ L h (z :: (rest ++ t :: own))) : News h₀ L h (z :: t :: (rest ++ own)) := fun p hp => N p (by
  simp only [List.mem_cons, List.mem_append] at hp ⊢
  rcases hp with h | h | h | h
  · exact .inl h
  · exact .inr (.inr (.inl h))
  · exact .inr (.inl h)
  · exact .inr (.inr (.inr h)))
theorem LEndG.of {h₀ : Heap} {L : Addr} {J : (Str → Option Value) → List (Addr × Obj) → Prop} {own nx news' : List (Addr × Obj)} {adr : List Addr} {s₁ s₂ : Shared} {Q : Flow → Shared → Prop} {m' : Str → Option Value} (hj : J m' nx) (F : Fr h₀ L s₂.heap m') (N : News h₀ L s₂.heap news') (hL : Later s₁ s₂) (hg : s₂.gens = s₁.gens) (ha : nx.map (·.1) = adr) (hn : ∀ p ∈ nx, p ∈ news') (ho : ∀ p ∈ own, p ∈ news') : LEndG h₀ L J own adr s₁ Q .next s₂ :=
  ⟨m', _, nx, hL, hg, F, N, hn, ho, ha, hj⟩
/-- what stands outside of the quotation marks, and whether one is open -/
noncomputable def ostep (q : Bool × List Nat) (c : Nat) : Bool × List Nat := if c = 34 then (!q.1, q.2) else if q.1 then q else (q.1, q.2 ++ [c])
noncomputable def ost (l : List Nat) : Bool × List Nat := l.foldl ostep (false, [])
theorem ost_app (a b : List Nat) : ost (a ++ b) = b.foldl ostep (ost a) := List.foldl_append
theorem ost_succ {l : List Nat} {i ch : Nat} (h : l[i]? = some ch) : ost (l.take (i + 1)) = ostep (ost (l.take i)) ch := by
  rw [List.take_succ, h, ost_app]; rfl
theorem ost_len (l : List Nat) : (ost l).2.length ≤ l.length := by
  have key : ∀ (r : List Nat) (q : Bool × List Nat), (r.foldl ostep q).2.length ≤ q.2.length + r.length := by
    intro r
    induction r with
    | nil => intro q; exact Nat.le_refl _
    | cons c r ih =>
      intro q
      refine Nat.le_trans (ih _) ?_
      rw [List.length_cons]
      unfold ostep
      split
      · exact Nat.add_le_add_left (Nat.le_succ _) _
      · split
        · exact Nat.add_le_add_left (Nat.le_succ _) _
        · simp only [List.length_append, List.length_singleton]; exact Nat.le_of_eq (by rw [Nat.add_assoc, Nat.add_comm 1])
  exact Nat.le_trans (key l _) (Nat.le_of_eq (Nat.zero_add _))
theorem ost_plain : ∀ {r : List Nat}, ¬ 34 ∈ r → ∀ a, r.foldl ostep (false, a) = (false, a ++ r)
  | [], _, a => by rw [List.append_nil]; rfl
  | c :: r, h, a => by
    have hc : c ≠ 34 := fun e => h (e ▸ List.mem_cons_self)
    rw [List.foldl_cons, show ostep (false, a) c = (false, a ++ [c]) by unfold ostep; rw [if_neg hc]; rfl, ost_plain (fun q => h (List.mem_cons_of_mem _ q)), List.append_assoc]; rfl
theorem ost_in : ∀ {r : List Nat}, ¬ 34 ∈ r → ∀ a, r.foldl ostep (true, a) = (true, a)
  | [], _, a => rfl
  | c :: r, h, a => by
    have hc : c ≠ 34 := fun e => h (e ▸ List.mem_cons_self)
    rw [List.foldl_cons, show ostep (true, a) c = (true, a) by unfold ostep; rw [if_neg hc]; rfl, ost_in (fun q => h (List.mem_cons_of_mem _ q))]
noncomputable def catR (R : List (Str × Tok)) : List Nat := (R.map (·.1)).flatMap fun y => y.cps.toList
theorem catR_add (R : List (Str × Tok)) (l : List Nat) (t : Tok) : catR (R ++ [(T l, t)]) = catR R ++ l := by
  unfold catR
  rw [List.map_append, List.flatMap_append]
  simp
theorem catR_len (R : List (Str × Tok)) : (R.map (·.1.length)).sum = (catR R).length := by
  induction R with
  | nil => rfl
  | cons p R ih =>
    show p.1.length + (R.map (·.1.length)).sum = (p.1.cps.toList ++ catR R).length
    rw [ih, List.length_append]; rfl
theorem take_more {l : List Nat} {S i ch : Nat} (h : l[i]? = some ch) (hS : S ≤ i) : (l.drop S).take (i + 1 - S) = (l.drop S).take (i - S) ++ [ch] := by
  rw [Nat.succ_sub hS, List.take_succ, List.getElem?_drop, Nat.add_sub_cancel' hS, h]; rfl
theorem slice_m {l : List Nat} {a b : Nat} (hab : a ≤ b) (hb : b ≤ l.length) : Txt.slice (T l) (some (a : Int)) (some (b : Int)) = T ((l.drop a).take (b - a)) := by
  show StrLaws.sliceText (T l) (some (a : Int)) (some (b : Int)) = _
  rw [StrLaws.sliceText_nat _ hab (by rw [T_len]; exact hb)]
theorem slice_f {l : List Nat} {S : Nat} (hS : S ≤ l.length) : Txt.slice (T l) (some (S : Int)) none = T (l.drop S) :=
  slice_c (List.take_append_drop S l).symm (by rw [List.length_take, Nat.min_eq_left hS])
/-- the loop of _strip_quoted_realnames -/
noncomputable def JS1 (Z : Addr) (rest : List (Addr × Obj)) (l : List Nat) (i : Nat) (m : Str → Option Value) (nx : List (Addr × Obj)) : Prop :=
  ∃ (ta tr : Tok) (R : List (Str × Tok)) (c S : Nat) (SI : Int), SI = (S : Int) ∧ m "addr" = some (.str (T l) ta) ∧ m "result" = some (.ref Z) ∧ m "start" = some (.int SI tr) ∧ nx = (Z, listOf (strValues R).toArray c) :: rest ∧ R.length ≤ i ∧
    ((m "open_pos" = some .none ∧ S ≤ i ∧ ost (l.take i) = (false, catR R ++ (l.drop S).take (i - S))) ∨
     (∃ (p : Nat) (tp : Tok) (PI : Int), PI = (p : Int) ∧ m "open_pos" = some (.int PI tp) ∧ S ≤ p ∧ p < i ∧ ost (l.take i) = (true, catR R ++ (l.drop S).take (p - S))))
theorem JS1.start {Z : Addr} {rest : List (Addr × Obj)} {l : List Nat} {m : Str → Option Value} {ta tr : Tok} (h1 : m "addr" = some (.str (T l) ta)) (h2 : m "result" = some (.ref Z)) (h3 : m "start" = some (.int 0 tr)) (h4 : m "open_pos" = some .none) : JS1 Z rest l 0 m ((Z, listOf #[] 0) :: rest) :=
  ⟨ta, tr, [], 0, 0, 0, rfl, h1, h2, h3, rfl, Nat.le_refl _, .inl ⟨h4, Nat.le_refl _, by simp [ost, catR]⟩⟩
theorem led_lt {h₀ h : Heap} {L Z : Addr} {ob : Obj} {rest : List (Addr × Obj)} (N : News h₀ L h ((Z, ob) :: rest)) (h1 : ∀ p ∈ rest, p.1 < Z) : ∀ p ∈ rest, p.1 ≠ Z := fun p hp => Nat.ne_of_lt (h1 p hp)
theorem LEndG.js1 {h₀ : Heap} {L Z : Addr} {l : List Nat} {i : Nat} {ob ob₀ : Obj} {t : Addr × Obj} {own rest : List (Addr × Obj)} {s₁ s₂ : Shared} {Q : Flow → Shared → Prop} {m' : Str → Option Value} (N : News h₀ L s₂.heap ((Z, ob) :: t :: (rest ++ own))) (F : Fr h₀ L s₂.heap m') (hj : JS1 Z rest l i m' ((Z, ob) :: rest)) (hL : Later s₁ s₂) (hg : s₂.gens = s₁.gens) :
    LEndG h₀ L (JS1 Z rest l i) own (((Z, ob₀) :: rest).map (·.1)) s₁ Q .next s₂ :=
  LEndG.of hj F N hL hg rfl (fun p hp => by
    rcases List.mem_cons.mp hp with h | h
    · exact h ▸ List.mem_cons_self
    · exact List.mem_cons_of_mem _ (List.mem_cons_of_mem _ (List.mem_append_left _ h))) fun p hp => List.mem_cons_of_mem _ (List.mem_cons_of_mem _ (List.mem_append_right _ hp))
local macro_rules | `(tactic| walk_at "compareOp Eq str str") => `(tactic| with_reducible apply eq_q0; assumption)
local macro_rules | `(tactic| walk_at "compareOp Eq str str") => `(tactic| with_reducible apply eq_q1)
local macro_rules | `(tactic| walk_at "call builtin:list.append") => `(tactic| k_dflt (apply app_str; k_asm; k_asm; assumption; assumption; intros))
local macro_rules | `(tactic| walk_at "call builtin:len") => `(tactic| with_reducible apply len_T; lia)
local macro_rules | `(tactic| walk_at "compareOp NotIn str str") => `(tactic| with_reducible apply notin_q; assumption)
local macro_rules | `(tactic| walk_at "compareOp NotIn str str") => `(tactic| with_reducible apply notin_n; assumption)
/-- a contract with room for two calls, and only the run's later state known -/
noncomputable abbrev CtrR (w : World) (loose : List Str) (mean : ExcName → Option Value) (mg mb : Str → Option Value) (f : Addr) (pre : Prop) (vs : List Value) (R : Tok → Value) : Prop :=
  ∀ (news : List (Addr × Obj)) (dp un : Nat) (gd : Option (List Code)) (cn : Str) (cs : Scope) (a : Addr) (ccd : Value) (cl : List (Str × Addr)) (outer : List Env) (A₀ : Around) (base h₀ : Heap) (L : Addr) (m : Str → Option Value) (s : Shared) (Q E : Value → Shared → Prop),
    Below A₀ base outer h₀ → Fr h₀ L s.heap m → (K w.params).In h₀ → News h₀ L s.heap news → Top qv loose mean mg mb h₀ → cs.kind = .function →
    pre → dp + 3 < recursionLimit → un + 30 < cLine → (∀ (t : Tok) (s' : Shared), Later s s' → Fr h₀ L s'.heap m → News h₀ L s'.heap news → Q (R t) s') →
      wpAny (model rwp w) (ktrTop dp un gd cn cs L a ccd cl outer) (call (.ref f) vs) Q E s
set_option maxHeartbeats 2000000 in
theorem c_strip1 (w : World) (loose : List Str) (mean : ExcName → Option Value) (mg mb : Str → Option Value) (l : List Nat) (hq : 34 ∈ l) (hx : ∀ z ∈ l, z ≠ 92) (hb : (ost l).1 = false) (hsz : l.length ≤ 1000) (t : Tok) :
   CtrR w loose mean mg mb 60 True [.str (T l) t] (fun t => .str (T (ost l).2) t) := by
  unfold CtrR rwp
  k_fill
  intros; rename_i hret
  refine wpAny_call ?_
  k_dflt cell_enter
  k_steps
  refine wpAny_For ?_ (by intro _; rfl)
  k_steps
  refine wpAny_call ?_
  k_dflt (refine' code_gen ?k1 ?k2 ?k3 ?k4 ?k6 ?k7 ?k8 ?k9 ?kB ?_ ?c2 ?c3 ?c4 ?c5)
  case k1 => k_asm
  case k2 => k_asm
  case k3 => k_asm
  case k4 => k_asm
  case k6 => k_is
  case k7 => k_is
  case k8 => ktr_room
  case k9 => exact BindsTo.of_eq rfl
  case kB => exact locs rfl
  case c2 => exact rfl
  case c3 => exact rfl
  case c4 => exact rfl
  case c5 => decide
  intro hg tkg FG NG Fg Ig zg hLg hNg
  dsimp only at FG NG Fg Ig zg hLg hNg ⊢

  rename_i h9 _ _
  generalize hLgE : h9.objs.size = Lg at FG NG Fg Ig zg hLg hNg ⊢
  refine' for_gen (g := ?gg) (N := (T l).cps.size) (P := PChar (T l)) (B := Lg + 2) (by rfl) (by ktr_room) (by rfl) (Nat.succ_ne_self _) (Nat.lt_of_lt_of_le hLg (Nat.le_add_right _ 2)) (Nat.ne_of_lt hLg) (Nat.ne_of_lt (Nat.lt_succ_of_lt hLg)) (fun p hp => ⟨Nat.lt_of_lt_of_le (hNg p hp) (Nat.le_add_right _ 2), Nat.ne_of_lt (hNg p hp), Nat.ne_of_lt (Nat.lt_succ_of_lt (hNg p hp))⟩)
    (Top.nolimit (by assumption)) Fg.above (Nat.le_trans Fg.above (Nat.le_add_right _ 2)) (Nat.le_trans Fg.above (Nat.le_succ _)) ?G FG NG (JS1 ?Zz ?rr l) ?J0 ?step ?done ?bare
  case J0 =>
    refine' JS1.start ?h1 ?h2 ?h3 ?h4
    case h1 => rfl
    case h2 => rfl
    case h3 => rfl
    case h4 => rfl
  case G =>
    refine' ⟨Ig, ?gs, ?e1, ?e2⟩
    case e1 => exact Array.getElem?_push_size
    intro s'' hK hk0 hB
    refine ⟨rfl, ?_⟩
    have hx' : ∀ c ∈ (T l).cps.toList, c ≠ 92 := by simpa using hx
    refine' seg_chars ?a1 ?a2 ?a3 ?a4 ?a5 ?a6 ?a7 hx' (Nat.lt_succ_of_lt (Nat.lt_succ_self _)) (Nat.le_trans Fg.above (Nat.le_add_right _ 2)) ?hen s'' _ ⟨Fg.ns.at' fun o e => hK _ _ (.inl rfl) e, hk0, Fg.above⟩ ?a8 hB
    case a1 => rfl
    case a2 => rfl
    case a3 => rfl
    case a4 => rfl
    case a5 => rfl
    case a6 => rfl
    case a7 => rfl
    case a8 => rfl
    case hen =>
      intro A' s' m' Q' E' F₁ hQ
      k_steps
      exact hQ
  case bare => exact bare_push
  case step =>
    intro i T' items m₁ news₁ s₁ own hL hi hP hJ ha' ho F₁ N₁
    obtain ⟨ch, tp, tc, hch, rfl⟩ := hP
    obtain ⟨ta, tr, R, c, S, SI, hSI, g1, g2, j2, rfl, hRl, hJ⟩ := hJ
    obtain ⟨h₁, gs₁, d₁, tk₁, os₁⟩ := s₁
    dsimp only at F₁ N₁
    have hch' : l[i]? = some ch := by simpa using hch
    have hos := ost_succ hch'
    have hil : i < l.length := (List.getElem?_eq_some_iff.mp hch').1
    have hR1 : R.length ≤ 1000 := Nat.le_trans hRl (Nat.le_trans (Nat.le_of_lt hil) hsz)
    rcases hJ with ⟨j3, hSi, hst⟩ | ⟨p, tq, PI, hPI, j3, hSp, hpi, hst⟩
    · rw [as4 j2 j3 g2 g1] at F₁
      simp only [List.map_cons, List.cons_append] at ho N₁
      replace N₁ := led_swap N₁
      by_cases h34 : ch = 34
      · subst h34
        k_steps
        refine LEndG.js1 (by assumption) (by assumption) ⟨ta, tr, R, c, S, SI, hSI, by rfl, by rfl, by rfl, rfl, Nat.le_succ_of_le hRl, .inr ⟨i, tp, _, rfl, by rfl, hSi, Nat.lt_succ_self _, ?_⟩⟩ ⟨rfl, rfl⟩ rfl
        rw [hos, hst]; rfl
      · k_steps
        refine LEndG.js1 (by assumption) (by assumption) ⟨ta, tr, R, c, S, SI, hSI, by rfl, by rfl, by rfl, rfl, Nat.le_succ_of_le hRl, .inl ⟨by rfl, Nat.le_succ_of_le hSi, ?_⟩⟩ ⟨rfl, rfl⟩ rfl
        rw [hos, hst, take_more hch' hSi, ← List.append_assoc]
        unfold ostep
        rw [if_neg h34]; rfl
    · subst hSI hPI
      rw [as4 j2 j3 g2 g1] at F₁
      simp only [List.map_cons, List.cons_append] at ho N₁
      replace N₁ := led_swap N₁
      have hne := led_ne (by assumption) ho
      by_cases h34 : ch = 34
      · subst h34
        k_steps
        · rw [slice_m hSp (Nat.le_trans (Nat.le_of_lt hpi) (Nat.le_of_lt hil))] at *
          refine LEndG.js1 (by assumption) (by assumption) ⟨ta, _, _, _, i + 1, (i : Int) + 1, rfl, by rfl, by rfl, by rfl, rfl, by rw [List.length_append]; exact Nat.add_le_add_right hRl 1, .inl ⟨by rfl, Nat.le_refl _, ?_⟩⟩ ⟨rfl, rfl⟩ rfl
          rw [hos, hst, catR_add, Nat.sub_self, List.take_zero, List.append_nil]; rfl
        · have e : S = p := by lia
          refine LEndG.js1 (by assumption) (by assumption) ⟨ta, _, R, c, i + 1, (i : Int) + 1, rfl, by rfl, by rfl, by rfl, rfl, Nat.le_succ_of_le hRl, .inl ⟨by rfl, Nat.le_refl _, ?_⟩⟩ ⟨rfl, rfl⟩ rfl
          rw [hos, hst, e, Nat.sub_self, Nat.sub_self, List.take_zero, List.take_zero]; rfl
      · k_steps
        refine LEndG.js1 (by assumption) (by assumption) ⟨ta, tr, R, c, S, _, rfl, by rfl, by rfl, by rfl, rfl, Nat.le_succ_of_le hRl, .inr ⟨p, tq, _, rfl, by rfl, hSp, Nat.lt_succ_of_lt hpi, ?_⟩⟩ ⟨rfl, rfl⟩ rfl
        rw [hos, hst]
        unfold ostep
        rw [if_neg h34]; rfl
  case done =>
    intro m₁ news₁ s₁ hL hJ F₁ N₁
    obtain ⟨ta, tr, R, c, S, SI, hSI, g1, g2, j2, rfl, hRl, hJ⟩ := hJ
    obtain ⟨h₁, gs₁, d₁, tk₁, os₁⟩ := s₁
    dsimp only at F₁ N₁
    have hln : (T l).cps.size = l.length := by simp
    rw [hln] at hRl hJ
    have hR1 : R.length ≤ 1000 := Nat.le_trans hRl hsz
    have hol := ost_len l
    rcases hJ with ⟨j3, hSi, hst⟩ | ⟨p, tq, PI, hPI, j3, hSp, hpi, hst⟩
    · rw [List.take_length] at hst
      subst hSI
      rw [as4 j2 j3 g2 g1] at F₁
      have hne := led_lt N₁ (by assumption)
      have hacc : (ost l).2 = catR R ++ l.drop S := by rw [hst, List.take_of_length_le (Nat.le_of_eq List.length_drop)]
      rw [hacc, List.length_append] at hol
      have zl : (Str.ofString "").length = 0 := by rw [nil_T, T_len]; rfl
      k_steps
      · rw [slice_f hSi] at *
        refine join_h (R ++ [(_, _)]) (by assumption) rfl ?ok1 ?_
        case ok1 =>
          rw [catR_len, catR_add, zl, Nat.mul_zero, Nat.add_zero, List.length_append]
          exact Nat.le_trans (Nat.le_trans hol hsz) (by decide)
        intro t' k'
        k_steps
        have e : ∀ tt : Tok, ((R ++ [(T (l.drop S), tt)]).map (·.1)).flatMap (fun y : Str => y.cps.toList) = (ost l).2 := fun tt => by rw [hacc]; exact catR_add R _ tt
        rw [join0, e]
        exact hret _ _ ⟨hL.1, hL.2.trans later_push⟩ (by assumption) (cb_drop (by assumption) fun p hp => List.mem_cons_of_mem _ hp)
      · have e0 : S = l.length := by lia
        refine join_h R (by assumption) rfl ?ok2 ?_
        case ok2 =>
          rw [catR_len, zl, Nat.mul_zero, Nat.add_zero]
          exact Nat.le_trans (Nat.le_trans (Nat.le_add_right _ _) (Nat.le_trans hol hsz)) (by decide)
        intro t' k'
        k_steps
        have e : (R.map (·.1)).flatMap (fun y : Str => y.cps.toList) = (ost l).2 := by rw [hacc, e0, List.drop_length, List.append_nil]; rfl
        rw [join0, e]
        exact hret _ _ ⟨hL.1, hL.2.trans later_push⟩ (by assumption) (cb_drop (by assumption) fun p hp => List.mem_cons_of_mem _ hp)
    · rw [List.take_length] at hst
      rw [hst] at hb; cases hb
theorem c_strip0 (w : World) (loose : List Str) (mean : ExcName → Option Value) (mg mb : Str → Option Value) (l : List Nat) (hq : ¬ 34 ∈ l) (t : Tok) :
   CtrR w loose mean mg mb 60 True [.str (T l) t] (fun t => .str (T l) t) := by
  unfold CtrR rwp
  k_fill
  intros; rename_i hret
  refine wpAny_call ?_
  k_dflt cell_enter
  k_steps
  exact hret _ _ ⟨rfl, rfl⟩ (by assumption) (by assumption)
end Mine
namespace Mine
open PySem PySem.W PySem.Calls PyProof.Rows PySem.Spec PyProof.Rows.LCg PyProof.Rows.LCt

section
variable {prog : Program} {w : World} {A : Around} {E : Value → Shared → Prop} {s : Shared} {h₀ : Heap} {L : Addr} {m : Str → Option Value} {env : Env}
theorem walks_strU (hh : A.handled = none) (I : Addr) (x : Str) (t : Tok) : Walks prog w A I [I] [I] x.cps.size (SignAt x) (fun i h => h.IsStrIter I (strIterType x) x t i) := by
  unfold strIterType
  by_cases e : (x.cps.all (· < 128)) = true
  · rw [if_pos e]; exact Walks.strAscii hh I x t
  · rw [if_neg e]; exact Walks.strWide hh I x t
theorem str_st {I : Addr} {y : Str} {t : Tok} : ∀ i (h h' : Heap) (o : Obj) (nw : List (Addr × Obj)), h.IsStrIter I (strIterType y) y t i → h.get? I = some o → h'.get? I = some o → (∀ b o, h₀.get? b = some o → h'.get? b = some o) → News h₀ L h' nw → True → h'.IsStrIter I (strIterType y) y t i :=
  fun i h h' o nw st e e' _ _ _ => by obtain ⟨o', q, r⟩ := st; rw [e] at q; cases q; exact ⟨o, e', r⟩
/-- a list comprehension with one test over a text -/
theorem ListComp_S {ct elt iter : PySem.Expr} {x : Str} {px : Pos} {scope : Scope} {cl : List (Str × Addr)} {pos : Pos} {Q : Value → Shared → Prop}
    (hclos : closureFor scope env = pure cl) (hcell : ∀ y ∈ scope.names, y.2 ≠ .cell) (hkind : scope.kind = .function)
    (hnames : ∀ y ∈ scope.names, y.2 = .local → scope.names.lookup y.1 = some .local) (hx : scope.names.lookup x = some .local) (hh : A.handled = none)
    (h : wpAny (model prog w) A (eval iter env) (fun xv s₁ => ∃ (y : Str) (t : Tok) (news : List (Addr × Obj)), xv = .str y t ∧ Fr h₀ L s₁.heap m ∧ News h₀ L s₁.heap news ∧ y.cps.size ≤ sizeLine ∧
      ∀ s₂ : Shared, (∃ h, s₂ = { s₁ with heap := h }) → CompRestT prog w A h₀ L m env ct elt x scope cl s₂ (fun _ => True) (SignAt y) (FinE h₀ L m s₂ Q) y.cps.size 0 [] news) E s)
    (hs : ∀ x, foldedSetIterable iter env x = pure x := by intro _; rfl) :
    wpAny (model prog w) A (eval (.ListComp elt [⟨.Name x px, iter, [ct], 0⟩] scope pos) env) Q E s := by
  rw [eval_ListComp]
  refine wpAny_comprehension_free (use := none) rfl hs hclos hkind hnames (wpAny_mono h (fun xv s₁ h₁ => ?_) fun _ _ e => e)
  obtain ⟨y, t, news, rfl, F, N, hsz, R⟩ := h₁
  have up : ∀ b o, s₁.heap.get? b = some o → (s₁.heap.push { cls := .type (strIterType y), data := .fields #[.str y t, .int 0 0] }).get? b = some o := fun b o e => Heap.get?_push_of_some _ e
  refine wpAny_pyIter_strU ?_
  refine block_T (walks_strU hh s₁.heap.objs.size y t) hsz (fun i h st => let ⟨o, e, _⟩ := st; ⟨o, e⟩) str_st hcell hkind hx ⟨_, Heap.get?_push_size _ rfl, rfl, rfl⟩ (fun b hb => ?_)
    (F.keeps up) (N.grown up) (Nat.ne_of_lt F.ns.lt) (next_is_new F) (fun p hp => Nat.ne_of_lt (Heap.lt_size (N p hp).1)) trivial (R _ ⟨_, rfl⟩) ?_
  · rw [List.mem_singleton.mp hb]
    show s₁.heap.objs.size < (s₁.heap.push _).objs.size
    rw [Heap.size_push]; exact Nat.lt_succ_self _
  · intro D C h tk m' ys news' F' N' o1 hn hC₀ hD₀ hCL hDL hCD offC fin
    refine ⟨m', hn, fun h'' hs'' => fin D h'' tk (F'.change hs'' hCL hC₀) (fun p hp => ?_) o1⟩
    refine ⟨hs''.extBut _ _ ?_ (N' p hp).1, (N' p hp).2⟩
    rcases List.mem_cons.mp hp with rfl | hp
    · exact Ne.symm hCD
    · exact offC p hp
/-- its turns, where each sign is kept or not and told by a text -/
theorem rest_text {ct elt : PySem.Expr} {x : Str} {scope : Scope} {cl : List (Str × Addr)} {S : List (Addr × Obj) → Prop} {Fin : List Value → List (Addr × Obj) → Prop} {news : List (Addr × Obj)} (keep : Nat → Bool) (img : Nat → Str) (y : Str)
    (turn : ∀ c t I oI C oC D m₂ ys h tk (E' : Value → Shared → Prop), c ∈ y.cps.toList → NsObj oC m₂ → m₂ x = some (.str ⟨#[c]⟩ t) → Fr h₀ L h m → News h₀ L h ((I, oI) :: (C, oC) :: (D, lst ys) :: news) → Off3 I C D news → ((@Ne Nat I C) ∧ (@Ne Nat I D) ∧ (@Ne Nat C D)) →
      wpAny (model prog w) A (isTrue ct (compEnvC scope cl C env) (eval ct (compEnvC scope cl C env))) (fun ok s' => if ok = true then
        wpAny (model prog w) A (eval elt (compEnvC scope cl C env)) (CompEnd h₀ L m { s with heap := h, toks := tk } I oI C oC D (lst ys) S (fun y news' => keep c = true ∧ news' = news ∧ ∃ t, y = .str (img c) t)) E' s'
        else CompEnd h₀ L m { s with heap := h, toks := tk } I oI C oC D (lst ys) S (fun _ news' => keep c = false ∧ news' = news) Value.none s') E' { s with heap := h, toks := tk })
    (fin : ∀ l : List (Str × Tok), l.map (·.1) = (y.cps.toList.filter keep).map img → Fin (strValues l) news) : CompRestT prog w A h₀ L m env ct elt x scope cl s S (SignAt y) Fin y.cps.size 0 [] news := by
  have key : ∀ (k i : Nat) (l : List (Str × Tok)), k + i = y.cps.size → l.map (·.1) = ((y.cps.toList.take i).filter keep).map img → CompRestT prog w A h₀ L m env ct elt x scope cl s S (SignAt y) Fin k i (strValues l) news := by
    intro k
    induction k with
    | zero =>
      intro i l hk hl
      refine CompRestT.zero (fin l ?_)
      rw [hl, List.take_of_length_le (by simp; lia)]
    | succ k ih =>
      intro i l hk hl
      refine CompRestT.succ fun v I oI C oC D m₂ h tk E' hP hC hx F N off ne => ?_
      obtain ⟨c, t, hc, rfl⟩ := hP
      have hc' : y.cps.toList[i]? = some c := by simpa using hc
      refine wpAny_mono (turn c t I oI C oC D m₂ (strValues l) h tk E' (List.mem_of_getElem? hc') hC hx F N off ne) (fun ok s' h' => ?_) fun _ _ e => e
      have tk1 : y.cps.toList.take (i + 1) = y.cps.toList.take i ++ [c] := by rw [List.take_add_one, hc']; rfl
      cases ok with
      | true =>
        simp only [if_true] at h' ⊢
        refine wpAny_mono h' (fun y' s'' h'' => ?_) fun _ _ e => e
        obtain ⟨h₂, tk₂, nw, e, F₂, N₂, off₂, hS₂, hk₂, rfl, u, rfl⟩ := h''
        refine ⟨h₂, tk₂, nw, e, F₂, N₂, off₂, hS₂, ?_⟩
        have := ih (i + 1) (l ++ [(img c, u)]) (by lia) (by rw [List.map_append, hl, tk1, List.filter_append, List.map_append]; simp [hk₂])
        simpa [strValues] using this
      | false =>
        simp only [Bool.false_eq_true, if_false] at h' ⊢
        obtain ⟨h₂, tk₂, nw, e, F₂, N₂, off₂, hS₂, hk₂, rfl⟩ := h'
        refine ⟨h₂, tk₂, nw, e, F₂, N₂, off₂, hS₂, ?_⟩
        exact ih (i + 1) l (by lia) (by rw [hl, tk1, List.filter_append]; simp [hk₂])
  exact key y.cps.size 0 [] rfl (by simp)
end
end Mine
namespace Mine
open PySem PySem.W PySem.Calls PyProof.Rows PySem.Spec PyProof.Rows.LCg PyProof.Rows.LCt
noncomputable def keepB (c : Nat) : Bool := !(inB1 (c : Int))
/-- a text prepared: table B.1 left out, all else folded -/
noncomputable def prep (l : List Nat) : List Nat := (l.filter keepB).flatMap fun c => (b3 c).cps.toList
theorem ListComp_N {prog : Program} {w : World} {A : Around} {E : Value → Shared → Prop} {s : Shared} {h₀ : Heap} {L : Addr} {m : Str → Option Value} {env : Env} {ct elt iter : PySem.Expr} {x : Str} {px : Pos} {scope : Scope} {cl : List (Str × Addr)} {pos : Pos} {Q : Value → Shared → Prop} {y : Str} {t : Tok} {news : List (Addr × Obj)}
    (F : Fr h₀ L s.heap m) (N : News h₀ L s.heap news)
    (hclos : closureFor scope env = pure cl) (hcell : ∀ y ∈ scope.names, y.2 ≠ .cell) (hkind : scope.kind = .function)
    (hnames : ∀ y ∈ scope.names, y.2 = .local → scope.names.lookup y.1 = some .local) (hx : scope.names.lookup x = some .local) (hh : A.handled = none)
    (hev : ∀ Q' : Value → Shared → Prop, Q' (.str y t) s → wpAny (model prog w) A (eval iter env) Q' E s) (hsz : y.cps.size ≤ sizeLine)
    (R : ∀ g, CompRestT prog w A h₀ L m env ct elt x scope cl { s with heap := g } (fun _ => True) (SignAt y) (FinE h₀ L m { s with heap := g } Q) y.cps.size 0 [] news)
    (hs : ∀ x, foldedSetIterable iter env x = pure x := by intro _; rfl) :
    wpAny (model prog w) A (eval (.ListComp elt [⟨.Name x px, iter, [ct], 0⟩] scope pos) env) Q E s :=
  ListComp_S hclos hcell hkind hnames hx hh (hev _ ⟨y, t, news, rfl, F, N, hsz, fun s₂ ⟨g, e⟩ => e ▸ R g⟩) hs
theorem prep_app (a b : List Nat) : prep (a ++ b) = prep a ++ prep b := by
  unfold prep; rw [List.filter_append, List.flatMap_append]
theorem prep_ok {l : List (Str × Tok)} {r : List Nat} (hl : l.map (·.1) = (r.filter keepB).map b3) (hr : (prep r).length ≤ 1000) : (l.map (·.1.length)).sum + l.length * (Str.ofString "").length ≤ 16777216 := by
  have e : (l.map (·.1.length)).sum = (prep r).length := by
    rw [catR_len]
    unfold catR prep
    rw [hl, List.flatMap_map]
  have z : (Str.ofString "").length = 0 := by rw [nil_T, T_len]; rfl
  rw [e, z, Nat.mul_zero, Nat.add_zero]
  exact Nat.le_trans hr (by decide)
local macro_rules | `(tactic| walk_at "eval ListComp") => `(tactic| apply Hold.h)
local macro_rules | `(tactic| walk_at "call ref") => `(tactic| ((with_reducible apply at95); k_dflt apply call_in_b1; walk_at "~call"))
local macro_rules | `(tactic| walk_at "call ref") => `(tactic| ((with_reducible apply at141); k_dflt apply call_b3; walk_at "~call"))
set_option maxHeartbeats 2000000 in
theorem c_prep (w : World) (loose : List Str) (mean : ExcName → Option Value) (mg mb : Str → Option Value) (l : List Nat) (hl0 : l.length ≤ 1000) (hp : (prep l).length ≤ 1000) (t : Tok) :
   CtrR w loose mean mg mb 160 True [.str (T l) t] (fun t => .str (T (prep l)) t) := by
  unfold CtrR rwp
  k_fill
  intros; rename_i hret
  rename_i news _ _ _ _ _ _ _ _ _ _ _ _ _ _ _ _ _ _ _ _ _ _ _ _ _ _
  have hsz : (T l).cps.size ≤ sizeLine := by
    show (T l).length ≤ _
    rw [T_len]
    exact Nat.le_trans hl0 (by decide)
  refine wpAny_call ?_
  k_dflt cell_enter
  k_steps
  refine ⟨?_⟩
  k_dflt (refine' ListComp_N ?fF ?fN ?l1 ?l2 ?l3 ?l4 ?l5 ?l6 ?l7 ?l8 ?l9)
  case fF => k_asm
  case fN => k_asm
  case l1 => with_unfolding_all rfl
  case l2 => decide
  case l3 => with_unfolding_all rfl
  case l4 => decide
  case l5 => with_unfolding_all rfl
  case l6 => with_unfolding_all rfl
  case l7 => intro Q' hQ'; k_dflt (exact ld (by k_asm) (by rfl) hQ')
  case l8 => assumption
  intro g
  refine rest_text keepB b3 _ ?turn ?fin
  case turn =>
    intro c t I oI C oC D m₂ ys h tk E' hmem hC hx F N off ne
    have off0 := off
    k_steps
    all_goals (try (walk_at "call ref"; k_steps))
    all_goals (try (walk_at "call ref"; k_steps))
    · refine CompEnd.intro (by assumption) (by assumption) _ ?_ off0 trivial ⟨?_, rfl⟩
      · intro p hp; exact hp
      · unfold keepB; rw [show inB1 (c : Int) = true by assumption]; rfl
    · refine CompEnd.intro (by assumption) (by assumption) _ ?_ off0 trivial ⟨?_, rfl, _, rfl⟩
      · intro p hp; exact hp
      · unfold keepB; rw [show inB1 (c : Int) = false by assumption]; rfl
  case fin =>
    intro r hr D h tk F N off
    have hr' : r.map (·.1) = (l.filter keepB).map b3 := by rw [hr]
    k_steps
    refine join_h r (by assumption) rfl ?ok ?_
    case ok => exact prep_ok hr' hp
    intro t' k'
    rw [join0, hr', List.flatMap_map]
    k_steps
    exact hret _ _ ⟨rfl, rfl⟩ (by assumption) (cb_drop (by assumption) fun p hp => List.mem_cons_of_mem _ hp)
/-- the same, gone over as a list: quicker to compute -/
noncomputable def b3L (c : Nat) : Str := match ((b3es.toList.find? fun e : DictEntry => Value.isInt (c : Int) e.key).map fun e : DictEntry => e.val : Option Value) with
  | some (.str x _) => x
  | _ => Txt.lower ⟨#[c]⟩
theorem b3_L (c : Nat) : b3 c = b3L c := by
  unfold b3 b3L b3f findBy
  rw [← Array.find?_toList] <;> rfl
theorem prep_L (l : List Nat) : prep l = (l.filter keepB).flatMap fun c => (b3L c).cps.toList := by
  unfold prep
  simp only [b3_L]
end Mine
namespace Mine
open PySem PySem.W PySem.Calls PyProof.Rows PySem.Spec
noncomputable def fronts : List Int := [119808, 119860, 119912, 120016, 120172, 120224, 120276, 120328, 120380, 120432]
noncomputable def lone : List Int := [173, 847, 6150, 6155, 6156, 6157, 8203, 8204, 8205, 8288, 65279]
noncomputable def unseen (n : Int) : Nat := (if n.fmod 27 < 11 then lone.getD (n.fmod 27).toNat 0 else 65013 + n.fmod 27).toNat
/-- one letter as the law spells it -/
noncomputable def spelled (c : Nat) (d : Int) : List Nat :=
  if d.fmod 4 = 0 then [c] else if d.fmod 4 = 1 then [((c : Int) - 32).toNat] else if d.fmod 4 = 2 then [(fronts.getD ((d.fdiv 4).fmod 10).toNat 0 + (c : Int) - 97).toNat] else [c, unseen (d.fdiv 4)]
theorem getD_b {l : List Int} {a b : Int} (hl : ∀ x ∈ l, a ≤ x ∧ x ≤ b) (h0 : a ≤ 0) (h1 : 0 ≤ b) (k : Nat) : a ≤ l.getD k 0 ∧ l.getD k 0 ≤ b := by
  by_cases h : k < l.length
  · rw [List.getD_eq_getElem?_getD, List.getElem?_eq_getElem h]
    exact hl _ (List.getElem_mem h)
  · rw [List.getD_eq_getElem?_getD, List.getElem?_eq_none (Nat.le_of_not_lt h)]
    exact ⟨h0, h1⟩
theorem fmod_27 (n : Int) : 0 ≤ n.fmod 27 ∧ n.fmod 27 < 27 := ⟨Int.fmod_nonneg_of_pos n (by decide), Int.fmod_lt_of_pos n (by decide)⟩
section
variable {w : World} {A : Around} {E : Value → Shared → Prop} {s : Shared}
theorem chr_lo {n : Int} {t : Tok} {Q : Value → Shared → Prop} (hn : n.fmod 27 < 11) (h : Q (.str ⟨#[unseen n]⟩ s.toks) { s with toks := s.toks + 1 }) : wpAny (model rwp w) A (call (.builtin "chr") [.int (lone.getD (n.fmod 27).toNat 0) t]) Q E s := by
  have b := getD_b (l := lone) (a := 0) (b := 1114111) (by decide) (by decide) (by decide) (n.fmod 27).toNat
  exact chr_of_range b.1 b.2 (by rw [show (lone.getD (n.fmod 27).toNat 0).toNat = unseen n by unfold unseen; rw [if_pos hn]]; exact h)
theorem chr_hi {n : Int} {t : Tok} {Q : Value → Shared → Prop} (hn : ¬ n.fmod 27 < 11) (h : Q (.str ⟨#[unseen n]⟩ s.toks) { s with toks := s.toks + 1 }) : wpAny (model rwp w) A (call (.builtin "chr") [.int (65013 + n.fmod 27) t]) Q E s :=
  chr_of_range (by have := fmod_27 n; lia) (by have := fmod_27 n; lia) (by rw [show (65013 + n.fmod 27).toNat = unseen n by unfold unseen; rw [if_neg hn]]; exact h)
theorem chr_cap {c : Nat} {t : Tok} {Q : Value → Shared → Prop} (h1 : 97 ≤ c) (h2 : c ≤ 122) (h : Q (.str ⟨#[((c : Int) - 32).toNat]⟩ s.toks) { s with toks := s.toks + 1 }) : wpAny (model rwp w) A (call (.builtin "chr") [.int ((c : Int) - 32) t]) Q E s :=
  chr_of_range (by lia) (by lia) h
theorem chr_math {c k : Nat} {t : Tok} {Q : Value → Shared → Prop} (h1 : 97 ≤ c) (h2 : c ≤ 122) (h : Q (.str ⟨#[(fronts.getD k 0 + (c : Int) - 97).toNat]⟩ s.toks) { s with toks := s.toks + 1 }) : wpAny (model rwp w) A (call (.builtin "chr") [.int (fronts.getD k 0 + (c : Int) - 97) t]) Q E s := by
  have b := getD_b (l := fronts) (a := 0) (b := 200000) (by decide) (by decide) (by decide) k
  exact chr_of_range (by lia) (by lia) h
end
local macro_rules | `(tactic| walk_at "call builtin:chr") => `(tactic| k_dflt first | apply chr_lo; assumption | apply chr_hi; assumption | apply chr_cap; assumption; assumption | apply chr_math; assumption; assumption)
theorem sp0 {c : Nat} {d : Int} (h : d.fmod 4 = 0) : (⟨#[c]⟩ : Str) = T (spelled c d) := by unfold spelled; rw [if_pos h]
theorem sp1 {c : Nat} {d : Int} (h : d.fmod 4 = 1) : (⟨#[((c : Int) - 32).toNat]⟩ : Str) = T (spelled c d) := by unfold spelled; rw [if_neg (by rw [h]; decide), if_pos h]
theorem sp2 {c : Nat} {d : Int} (h : d.fmod 4 = 2) : (⟨#[(fronts.getD ((d.fdiv 4).fmod 10).toNat 0 + (c : Int) - 97).toNat]⟩ : Str) = T (spelled c d) := by unfold spelled; rw [if_neg (by rw [h]; decide), if_neg (by rw [h]; decide), if_pos h]
theorem sp3 {c : Nat} {d : Int} (h0 : d.fmod 4 ≠ 0) (h1 : d.fmod 4 ≠ 1) (h2 : d.fmod 4 ≠ 2) : (⟨#[c]⟩ : Str) ++ (⟨#[unseen (d.fdiv 4)]⟩ : Str) = T (spelled c d) := by unfold spelled; rw [if_neg h0, if_neg h1, if_neg h2]; exact app_T [c] [_]
set_option maxHeartbeats 4000000 in
theorem c_spelled (w : World) (loose : List Str) (mean : ExcName → Option Value) (mg mb : Str → Option Value) (c : Nat) (h1 : 97 ≤ c) (h2 : c ≤ 122) (d : Int) (t u : Tok) :
   Ctr w loose mean mg mb 155 True [.str ⟨#[c]⟩ t, .int d u] (fun t => .str (T (spelled c d)) t) := by
  unfold Ctr rwp
  k_fill
  dsimp only [CbClaim, CbLists, CbRet]
  intros; rename_i hret
  refine wpAny_call ?_
  k_dflt cell_enter
  k_steps
  · rw [sp0 (by assumption)]; exact hret _ _ _ (by assumption) (by assumption)
  · rw [sp1 (by assumption)]; exact hret _ _ _ (by assumption) (by assumption)
  · rw [sp2 (by assumption)]; exact hret _ _ _ (by assumption) (cb_drop (by assumption) fun p hp => List.mem_cons_of_mem _ hp)
  · rw [sp3 (by assumption) (by assumption) (by assumption)]; exact hret _ _ _ (by assumption) (cb_drop (by assumption) fun p hp => List.mem_cons_of_mem _ hp)
  · rw [sp3 (by assumption) (by assumption) (by assumption)]; exact hret _ _ _ (by assumption) (cb_drop (by assumption) fun p hp => List.mem_cons_of_mem _ hp)
theorem call_spelled {w : World} {loose : List Str} {mean : ExcName → Option Value} {mg mb : Str → Option Value} {c : Nat} (h1 : 97 ≤ c) (h2 : c ≤ 122) {d : Int} {t u : Tok} : CtrU w loose mean mg mb 155 [.str ⟨#[c]⟩ t, .int d u] (fun t => .str (T (spelled c d)) t) := ctr_use (c_spelled w loose mean mg mb c h1 h2 d t u)
theorem at155 {M : Model} {A : Around} {E Q : Value → Shared → Prop} {s : Shared} {vs} (h : wpAny M A (call (.ref 155) vs) Q E s) : wpAny M A (call (.ref 155) vs) Q E s := h
/-! what is spelled is folded again -/
noncomputable def isLet (c : Nat) : Prop := c = 102 ∨ c = 107 ∨ c = 115
theorem prep_let (k : Fin 3) : prep [[102, 107, 115].getD k.val 0] = [[102, 107, 115].getD k.val 0] := by rw [prep_L]; revert k; decide +kernel
theorem prep_cap (k : Fin 3) : prep [[102, 107, 115].getD k.val 0 - 32] = [[102, 107, 115].getD k.val 0] := by rw [prep_L]; revert k; decide +kernel
theorem prep_math (k : Fin 3) (i : Fin 10) : prep [(fronts.getD i.val 0 + (([102, 107, 115].getD k.val 0 : Nat) : Int) - 97).toNat] = [[102, 107, 115].getD k.val 0] := by rw [prep_L]; revert k i; decide +kernel
theorem prep_lone (i : Fin 27) : prep [unseen (i.val : Int)] = [] := by rw [prep_L]; revert i; decide +kernel
end Mine
namespace Mine
open PySem PySem.W PySem.Calls PyProof.Rows PySem.Spec PyProof.Rows.LCg PyProof.Rows.LCt
theorem mul_T (c : Nat) (k : Int) : Txt.mul (T [c]) k = T (List.replicate k.toNat c) := by
  have rep : ∀ (n : Nat) (acc : List Nat), ((List.replicate n (#[c] : Array Nat)).foldl (· ++ ·) acc.toArray) = (acc ++ List.replicate n c).toArray := by
    intro n
    induction n with
    | zero => intro acc; simp
    | succ n ih =>
      intro acc
      rw [List.replicate_succ, List.foldl_cons, show acc.toArray ++ #[c] = (acc ++ [c]).toArray by simp, ih, List.replicate_succ]
      simp
  unfold Txt.mul
  by_cases h1 : k < 1
  · rw [if_pos h1, show k.toNat = 0 by lia]; rfl
  · rw [if_neg h1]
    by_cases h2 : k = 1
    · subst h2; rfl
    · rw [if_neg (by rw [beq_false_of_ne h2]; simp; rw [T_len]; simp)]
      have := rep k.toNat []
      apply str_eqT
      show (List.foldl (fun x1 x2 => x1 ++ x2) #[] (List.replicate k.toNat #[c])).toList = _
      rw [show (#[] : Array Nat) = ([] : List Nat).toArray from rfl, this]
      simp
section
variable {w : World} {A : Around} {E : Value → Shared → Prop} {s : Shared} {t u : Tok} {c z : Nat} {a b : List Nat} {Q : Value → Shared → Prop}
theorem mul_c (h1 : z ≤ 20) (h : ∀ t' tk, Q (.str (T (List.replicate z c)) t') { s with toks := tk }) : wpAny (model rwp w) A (binaryOp .Mult (.str ⟨#[c]⟩ t) (.int (z : Int) u)) Q E s := by
  have e : Txt.mul (T [c]) (z : Int) = T (List.replicate z c) := by rw [mul_T, Int.toNat_natCast]
  rw [← e] at h
  exact SB.mul (mulOk_of 16 1048576 (show (1 : Nat) ≤ 16 by decide) (by lia) (by lia) (by decide) (by decide)) h
theorem add_T (hl : a.length + b.length ≤ 1000) (h : ∀ t' tk, Q (.str (T (a ++ b)) t') { s with toks := tk }) : wpAny (model rwp w) A (binaryOp .Add (.str (T a) t) (.str (T b) u)) Q E s :=
  SB.add (fun t' tk => by rw [app_T]; exact h t' tk) (by rw [T_len, T_len]; exact Nat.le_trans hl (by decide))
theorem iadd_T (hl : a.length + b.length ≤ 1000) (h : ∀ t' tk, Q (.str (T (a ++ b)) t') { s with toks := tk }) : wpAny (model rwp w) A (inplaceOp .Add (.str (T a) t) (.str (T b) u)) Q E s :=
  SB.iadd (fun t' tk => by rw [app_T]; exact h t' tk) (by rw [T_len, T_len]; exact Nat.le_trans hl (by decide))
theorem dot_T : Str.ofString "." = T [46] := by decide +kernel
theorem dots_T : Str.ofString ".." = T [46, 46] := by decide +kernel
theorem crlf_T : Str.ofString "\r\n" = T [13, 10] := by decide +kernel
theorem qdot_T : Str.ofString "\"." = T [34, 46] := by decide +kernel
theorem q_T : Str.ofString "\"" = T [34] := by decide +kernel
theorem dot_add (hl : b.length ≤ 900) (h : ∀ t' tk, Q (.str (T (46 :: b)) t') { s with toks := tk }) : wpAny (model rwp w) A (binaryOp .Add (.str (Str.ofString ".") t) (.str (T b) u)) Q E s := by
  rw [dot_T]; exact add_T (a := [46]) (Nat.le_trans (Nat.add_le_add_left hl 1) (by decide)) h
theorem dots_add (hl : b.length ≤ 900) (h : ∀ t' tk, Q (.str (T (46 :: 46 :: b)) t') { s with toks := tk }) : wpAny (model rwp w) A (binaryOp .Add (.str (Str.ofString "..") t) (.str (T b) u)) Q E s := by
  rw [dots_T]; exact add_T (a := [46, 46]) (Nat.le_trans (Nat.add_le_add_left hl 2) (by decide)) h
theorem add_crlf (hl : a.length ≤ 900) (h : ∀ t' tk, Q (.str (T (a ++ [13, 10])) t') { s with toks := tk }) : wpAny (model rwp w) A (binaryOp .Add (.str (T a) t) (.str (Str.ofString "\r\n") u)) Q E s := by
  rw [crlf_T]; exact add_T (b := [13, 10]) (Nat.le_trans (Nat.add_le_add_right hl 2) (by decide)) h
end
/-- a list of rows: tuples of a size and an end -/
noncomputable def RowsAre (news : List (Addr × Obj)) (its : List Value) (rows : List (Nat × Nat)) : Prop := its.length = rows.length ∧ ∀ (i : Nat) (p : Nat × Nat), rows[i]? = some p → ∃ (a : Addr) (o : Obj) (ta tb : Tok) (n : Nat), its[i]? = some (Value.ref a) ∧ (a, o) ∈ news ∧ o.cls = .type "tuple" ∧ o.data = .seq #[.int (p.1 : Int) ta, .str (T [p.2]) tb] n
theorem RowsAre.more {news news' : List (Addr × Obj)} {its : List Value} {rows : List (Nat × Nat)} (h : RowsAre news its rows) (hs : ∀ p ∈ news, p ∈ news') : RowsAre news' its rows :=
  ⟨h.1, fun i p e => by obtain ⟨a, o, ta, tb, n, q, m, r⟩ := h.2 i p e; exact ⟨a, o, ta, tb, n, q, hs _ m, r⟩⟩
section
variable {prog : Program} {w : World} {A : Around} {E : Value → Shared → Prop} {s : Shared} {h₀ : Heap} {L : Addr} {m : Str → Option Value} {env : Env}
theorem rest_rows {elt : PySem.Expr} {x x₂ : Str} {scope : Scope} {cl : List (Str × Addr)} {S : List (Addr × Obj) → Prop} {Fin : List Value → List (Addr × Obj) → Prop} {news : List (Addr × Obj)} {its : List Value} {rows : List (Nat × Nat)} (img : Nat × Nat → List Nat) (hr : RowsAre news its rows)
    (turn : ∀ (p : Nat × Nat) (ta tb : Tok) I oI C oC D m₂ ys h tk (E' : Value → Shared → Prop), p ∈ rows → NsObj oC m₂ → m₂ x = some (.int (p.1 : Int) ta) → m₂ x₂ = some (.str (T [p.2]) tb) → Fr h₀ L h m → News h₀ L h ((I, oI) :: (C, oC) :: (D, lst ys) :: news) → Off3 I C D news → ((@Ne Nat I C) ∧ (@Ne Nat I D) ∧ (@Ne Nat C D)) →
      wpAny (model prog w) A (eval elt (compEnvC scope cl C env)) (CompEnd h₀ L m { s with heap := h, toks := tk } I oI C oC D (lst ys) S (fun y news' => news' = news ∧ ∃ t, y = .str (T (img p)) t)) E' { s with heap := h, toks := tk })
    (fin : ∀ l : List (Str × Tok), l.map (·.1) = rows.map (fun p => T (img p)) → Fin (strValues l) news) :
    LCp.CompRestP prog w A h₀ L m env elt x x₂ scope cl s S (fun i v => its.toArray[i]? = some v) Fin its.toArray.size 0 [] news := by
  have key : ∀ (k i : Nat) (l : List (Str × Tok)), k + i = rows.length → l.map (·.1) = (rows.take i).map (fun p => T (img p)) → LCp.CompRestP prog w A h₀ L m env elt x x₂ scope cl s S (fun i v => its.toArray[i]? = some v) Fin k i (strValues l) news := by
    intro k
    induction k with
    | zero =>
      intro i l hk hl
      refine LCp.CompRestP.zero (fin l ?_)
      rw [hl, List.take_of_length_le (by lia)]
    | succ k ih =>
      intro i l hk hl
      refine LCp.CompRestP.succ fun v hv => ?_
      have hi : i < rows.length := by lia
      obtain ⟨a, o, ta, tb, n, q, hm, hc, hd⟩ := hr.2 i rows[i] (List.getElem?_eq_getElem hi)
      have hv' : v = .ref a := by
        rw [List.getElem?_toArray, q] at hv
        exact (Option.some.inj hv).symm
      refine ⟨a, o, _, _, n, hv', hm, hc, hd, fun I oI C oC D m₂ h tk E' hC h1 h2 F N off ne => ?_⟩
      refine wpAny_mono (turn rows[i] ta tb I oI C oC D m₂ (strValues l) h tk E' (List.getElem_mem hi) hC h1 h2 F N off ne) (fun y' s'' h'' => ?_) fun _ _ e => e
      obtain ⟨h₂, tk₂, nw, e, F₂, N₂, off₂, hS₂, rfl, u, rfl⟩ := h''
      refine ⟨h₂, tk₂, nw, e, F₂, N₂, off₂, hS₂, ?_⟩
      have := ih (i + 1) (l ++ [(T (img rows[i]), u)]) (by lia) (by rw [List.map_append, hl, List.take_add_one, List.getElem?_eq_getElem hi, List.map_append]; rfl)
      simpa [strValues] using this
  have e : its.toArray.size = rows.length := by rw [List.size_toArray, hr.1]
  rw [e]
  exact key rows.length 0 [] rfl (by simp)
end
end Mine
open PySem PySem.W PySem.Calls PyProof.Rows PySem.Spec Mine
local macro_rules | `(tactic| walk_at "~ll") => `(tactic| (simp only [List.length_append, List.length_replicate, List.length_cons, List.length_nil]; lia))
local macro_rules | `(tactic| walk_at "binaryOp Mult str int") => `(tactic| with_reducible apply mul_c; assumption; intros)
local macro_rules | `(tactic| walk_at "binaryOp Add str str") => `(tactic| with_reducible apply add_T; walk_at "~ll"; intros)
local macro_rules | `(tactic| walk_at "binaryOp Add str str") => `(tactic| with_reducible apply dot_add; walk_at "~ll"; intros)
namespace Mine
open PySem PySem.W PySem.Calls PyProof.Rows PySem.Spec PyProof.Rows.LCg PyProof.Rows.LCt
/-- a contract whose arguments lie in the ledger -/
noncomputable abbrev CtrZ (w : World) (loose : List Str) (mean : ExcName → Option Value) (mg mb : Str → Option Value) (f : Addr) (news : List (Addr × Obj)) (vs : List Value) (R : Tok → Value) : Prop :=
  ∀ (dp un : Nat) (gd : Option (List Code)) (cn : Str) (cs : Scope) (a : Addr) (ccd : Value) (cl : List (Str × Addr)) (outer : List Env) (A₀ : Around) (base h₀ : Heap) (L : Addr) (m : Str → Option Value) (s : Shared) (Q E : Value → Shared → Prop),
    Below A₀ base outer h₀ → Fr h₀ L s.heap m → (K w.params).In h₀ → News h₀ L s.heap news → Top qv loose mean mg mb h₀ → cs.kind = .function →
    dp + 3 < recursionLimit → un + 30 < cLine → (∀ (t : Tok) (s' : Shared), Later s s' → Fr h₀ L s'.heap m → News h₀ L s'.heap news → Q (R t) s') →
      wpAny (model rwp w) (ktrTop dp un gd cn cs L a ccd cl outer) (call (.ref f) vs) Q E s
noncomputable def rowP (c : Nat) (p : Nat × Nat) : List Nat := 46 :: List.replicate p.1 c ++ [p.2]
noncomputable def plain (c : Nat) (rows : List (Nat × Nat)) : List Nat := rows.flatMap (rowP c)
noncomputable def rowS (c : Nat) (p : Nat × Nat) : List Nat := 46 :: 46 :: List.replicate p.1 c ++ [13, 10]
noncomputable def sent (c : Nat) (rows : List (Nat × Nat)) : List Nat := rows.flatMap (rowS c)
theorem img_len {img : Nat × Nat → List Nat} {rows : List (Nat × Nat)} (h : ∀ p ∈ rows, (img p).length ≤ 24) : (rows.flatMap img).length ≤ rows.length * 24 := by
  induction rows with
  | nil => exact Nat.le_refl _
  | cons p r ih =>
    rw [List.flatMap_cons, List.length_append, List.length_cons, Nat.succ_mul, Nat.add_comm]
    exact Nat.add_le_add (ih fun q hq => h q (List.mem_cons_of_mem _ hq)) (h p List.mem_cons_self)
theorem rows_ok {img : Nat × Nat → List Nat} {l : List (Str × Tok)} {rows : List (Nat × Nat)} (hl : l.map (·.1) = rows.map (fun p => T (img p))) (h : ∀ p ∈ rows, (img p).length ≤ 24) (hn : rows.length ≤ 20) : (l.map (·.1.length)).sum + l.length * (Str.ofString "").length ≤ 16777216 := by
  have e : catR l = rows.flatMap img := by
    unfold catR
    rw [hl, List.flatMap_map]
  have z : (Str.ofString "").length = 0 := by rw [nil_T, T_len]; rfl
  rw [catR_len, e, z, Nat.mul_zero, Nat.add_zero]
  exact Nat.le_trans (img_len h) (Nat.le_trans (Nat.mul_le_mul_right 24 hn) (by decide))
theorem rows_cat {img : Nat × Nat → List Nat} {l : List (Str × Tok)} {rows : List (Nat × Nat)} (hl : l.map (·.1) = rows.map (fun p => T (img p))) : (l.map (·.1)).flatMap (fun y : Str => y.cps.toList) = rows.flatMap img := by
  rw [hl, List.flatMap_map]
theorem rowP_len {c : Nat} {p : Nat × Nat} (h : p.1 ≤ 20) : (rowP c p).length ≤ 24 := by
  unfold rowP; simp only [List.length_append, List.length_cons, List.length_replicate, List.length_nil]; lia
theorem rowS_len {c : Nat} {p : Nat × Nat} (h : p.1 ≤ 20) : (rowS c p).length ≤ 24 := by
  unfold rowS; simp only [List.length_append, List.length_cons, List.length_replicate, List.length_nil]; lia
local macro_rules | `(tactic| walk_at "eval ListComp") => `(tactic| apply Hold.h)
local macro_rules | `(tactic| walk_at "binaryOp Add str str") => `(tactic| with_reducible apply dots_add; walk_at "~ll"; intros)
local macro_rules | `(tactic| walk_at "binaryOp Add str str") => `(tactic| with_reducible apply add_crlf; walk_at "~ll"; intros)
set_option maxHeartbeats 2000000 in
theorem c_plain (w : World) (loose : List Str) (mean : ExcName → Option Value) (mg mb : Str → Option Value) (c : Nat) (rows : List (Nat × Nat)) (its : List Value) (Z : Addr) (n : Nat) (news : List (Addr × Obj)) (hZ : (Z, listOf its.toArray n) ∈ news) (hr : RowsAre news its rows)
    (hlen : rows.length ≤ 20) (hs : ∀ p ∈ rows, p.1 ≤ 20) (t : Tok) : CtrZ w loose mean mg mb 165 news [.str ⟨#[c]⟩ t, .ref Z] (fun t => .str (T (plain c rows)) t) := by
  unfold CtrZ rwp
  k_fill
  intros; rename_i hret
  refine wpAny_call ?_
  k_dflt (refine' code_defC ?k1 ?k2 ?k3 ?k4 ?k5 ?kA ?kF ?kK ?k6 ?k7 ?k8 ?k9 ?kB ?kD ?_ ?c2 ?c3 ?c4)
  case kA => exact rfl
  case kF => exact rfl
  case kK => assumption
  case k1 => k_asm
  case k2 => k_asm
  case k3 => k_asm
  case k4 => k_asm
  case k5 => k_asm
  case k6 => k_is
  case k7 => k_is
  case k8 => ktr_room
  case k9 => exact BindsTo.of_eq rfl
  case kB => exact rfl
  case kD => decide +kernel
  case c2 => exact rfl
  case c3 => exact rfl
  case c4 => exact rfl
  intro g' L' h' tk' cells' FG' F' N' Y' B' X' T' l1
  try k_lt l1
  obtain ⟨o1, hE, d1'⟩ := PyProof.Rows.CellsAre.one Y'
  subst hE
  clear Y'
  have F : Fr g' L' h' (fun y : Str => if y = "rows" then some (.ref Z) else none) := F'
  have d1 : o1.data = .cell (some (.str ⟨#[c]⟩ t)) := d1'
  clear F' d1'
  simp only [List.cons_append, List.nil_append] at N'
  dsimp only
  try k_lift B'
  try k_fold
  k_steps
  refine ⟨?_⟩
  k_dflt (refine LCp.ListComp_P (F₀ := by k_asm) (by with_unfolding_all rfl) (by decide) (by rfl) (by decide) (by rfl) (by rfl) (by decide) ?_)
  walk1
  have hS : SrcAt g' Z its.toArray ((L' + 1, o1) :: news) := .inr ⟨_, List.mem_cons_of_mem _ hZ, rfl, _, rfl⟩
  k_dflt (refine LCp.SrcLP.ledger (by rfl) F N' (List.mem_cons_of_mem _ hZ) (by rw [List.size_toArray, hr.1]; exact Nat.le_trans hlen (by decide)) ?_)
  intro g
  refine rest_rows (rowP c) (hr.more fun _ => List.mem_cons_of_mem _) ?turn ?fin
  case turn =>
    intro p ta tb I oI C oC D m₂ ys h tk E' hp hC h1 h2 F2 N2 off ne
    have hz : p.1 ≤ 20 := hs p hp
    have off0 := off
    obtain ⟨z, e⟩ := p
    clear F N'
    dsimp only at h1 h2 hz
    k_steps
    trace "TURN"
    refine CompEnd.intro (by assumption) (by assumption) _ ?_ off0 hS ⟨rfl, _, rfl⟩
    intro p hp; exact hp
  case fin =>
    intro r hr' D h tk F2 N2 off
    clear F N'
    k_steps
    refine join_h r (by assumption) rfl ?ok ?_
    case ok => exact rows_ok hr' (fun p hp => rowP_len (hs p hp)) hlen
    intro t' k'
    rw [join0, rows_cat hr']
    k_steps
    exact hret _ _ ⟨rfl, rfl⟩ (by assumption) (cb_drop (by assumption) fun p hp => List.mem_cons_of_mem _ (List.mem_cons_of_mem _ hp))
set_option maxHeartbeats 2000000 in
theorem c_sent (w : World) (loose : List Str) (mean : ExcName → Option Value) (mg mb : Str → Option Value) (c : Nat) (rows : List (Nat × Nat)) (its : List Value) (Z : Addr) (n : Nat) (news : List (Addr × Obj)) (hZ : (Z, listOf its.toArray n) ∈ news) (hr : RowsAre news its rows)
    (hlen : rows.length ≤ 20) (hs : ∀ p ∈ rows, p.1 ≤ 20) (t : Tok) : CtrZ w loose mean mg mb 170 news [.str ⟨#[c]⟩ t, .ref Z] (fun t => .str (T (sent c rows)) t) := by
  unfold CtrZ rwp
  k_fill
  intros; rename_i hret
  refine wpAny_call ?_
  k_dflt (refine' code_defC ?k1 ?k2 ?k3 ?k4 ?k5 ?kA ?kF ?kK ?k6 ?k7 ?k8 ?k9 ?kB ?kD ?_ ?c2 ?c3 ?c4)
  case kA => exact rfl
  case kF => exact rfl
  case kK => assumption
  case k1 => k_asm
  case k2 => k_asm
  case k3 => k_asm
  case k4 => k_asm
  case k5 => k_asm
  case k6 => k_is
  case k7 => k_is
  case k8 => ktr_room
  case k9 => exact BindsTo.of_eq rfl
  case kB => exact rfl
  case kD => decide +kernel
  case c2 => exact rfl
  case c3 => exact rfl
  case c4 => exact rfl
  intro g' L' h' tk' cells' FG' F' N' Y' B' X' T' l1
  try k_lt l1
  obtain ⟨o1, hE, d1'⟩ := PyProof.Rows.CellsAre.one Y'
  subst hE
  clear Y'
  have F : Fr g' L' h' (fun y : Str => if y = "rows" then some (.ref Z) else none) := F'
  have d1 : o1.data = .cell (some (.str ⟨#[c]⟩ t)) := d1'
  clear F' d1'
  simp only [List.cons_append, List.nil_append] at N'
  dsimp only
  try k_lift B'
  try k_fold
  k_steps
  refine ⟨?_⟩
  k_dflt (refine LCp.ListComp_P (F₀ := by k_asm) (by with_unfolding_all rfl) (by decide) (by rfl) (by decide) (by rfl) (by rfl) (by decide) ?_)
  walk1
  have hS : SrcAt g' Z its.toArray ((L' + 1, o1) :: news) := .inr ⟨_, List.mem_cons_of_mem _ hZ, rfl, _, rfl⟩
  k_dflt (refine LCp.SrcLP.ledger (by rfl) F N' (List.mem_cons_of_mem _ hZ) (by rw [List.size_toArray, hr.1]; exact Nat.le_trans hlen (by decide)) ?_)
  intro g
  refine rest_rows (rowS c) (hr.more fun _ => List.mem_cons_of_mem _) ?turn ?fin
  case turn =>
    intro p ta tb I oI C oC D m₂ ys h tk E' hp hC h1 h2 F2 N2 off ne
    have hz : p.1 ≤ 20 := hs p hp
    have off0 := off
    obtain ⟨z, e⟩ := p
    clear F N'
    dsimp only at h1 h2 hz
    k_steps
    trace "TURN"
    refine CompEnd.intro (by assumption) (by assumption) _ ?_ off0 hS ⟨rfl, _, rfl⟩
    intro p hp; exact hp
  case fin =>
    intro r hr' D h tk F2 N2 off
    clear F N'
    k_steps
    refine join_h r (by assumption) rfl ?ok ?_
    case ok => exact rows_ok hr' (fun p hp => rowS_len (hs p hp)) hlen
    intro t' k'
    rw [join0, rows_cat hr']
    k_steps
    exact hret _ _ ⟨rfl, rfl⟩ (by assumption) (cb_drop (by assumption) fun p hp => List.mem_cons_of_mem _ (List.mem_cons_of_mem _ hp))
end Mine
local macro_rules | `(tactic| walk_at "exec For Name Call cons nil") => `(tactic| (with_reducible apply for_any; intro _; k_dflt rfl))
namespace Mine
open PySem PySem.W PySem.Calls PyProof.Rows PyProof.V PySem.Spec PyProof.Rows.LCg PyProof.Rows.LCt
/-- one turn of the pairing: what part each row has, and which sizes wait for a fellow -/
noncomputable def fstep (rows : List (Nat × Nat)) (ns : List Int) (st : List Int × List (Int × Int)) (i : Nat) : List Int × List (Int × Int) :=
  let z : Int := ((rows.getD i (0, 0)).1 : Int)
  if kdfHas st.2 z = true then
    let j := kdfLook st.2 z 0
    let tn := (ns.getD ((i : Int).fmod (ns.length : Int)).toNat 0 + j).fmod 2
    ((st.1.set i (1 + tn)).set j.toNat (2 - tn), kdyDel st.2 z)
  else (st.1, kdfPut st.2 z (i : Int))
noncomputable def fst (rows : List (Nat × Nat)) (ns : List Int) : Nat → List Int × List (Int × Int)
  | 0 => (List.replicate rows.length 0, [])
  | i + 1 => fstep rows ns (fst rows ns i) i
noncomputable def fell (rows : List (Nat × Nat)) (ns : List Int) : List Int := (fst rows ns rows.length).1
theorem fstep_len {rows : List (Nat × Nat)} {ns : List Int} {st : List Int × List (Int × Int)} {i n : Nat} (a : st.1.length = n) (b : st.2.length ≤ i) : (fstep rows ns st i).1.length = n ∧ (fstep rows ns st i).2.length ≤ i + 1 := by
  unfold fstep
  dsimp only
  split
  · exact ⟨by rw [List.length_set, List.length_set, a], Nat.le_trans (kdyDel_len _ _) (Nat.le_succ_of_le b)⟩
  · exact ⟨a, Nat.le_trans (kdfPut_len _ _ _) (Nat.succ_le_succ b)⟩
theorem fst_len (rows : List (Nat × Nat)) (ns : List Int) : ∀ i, (fst rows ns i).1.length = rows.length ∧ (fst rows ns i).2.length ≤ i
  | 0 => ⟨List.length_replicate, Nat.le_refl _⟩
  | i + 1 => fstep_len (fst_len rows ns i).1 (fst_len rows ns i).2
theorem fstep_at {rows : List (Nat × Nat)} {ns : List Int} {st : List Int × List (Int × Int)} {i : Nat} (ih : ∀ p ∈ st.2, 0 ≤ p.2 ∧ p.2 < (i : Int)) : ∀ p ∈ (fstep rows ns st i).2, 0 ≤ p.2 ∧ p.2 < ((i + 1 : Nat) : Int) := by
  intro p
  unfold fstep
  dsimp only
  split
  · intro hp
    have h := ih p (List.mem_filter.mp hp).1
    exact ⟨h.1, by lia⟩
  · intro hp
    unfold kdfPut at hp
    split at hp
    · obtain ⟨q, hq, rfl⟩ := List.mem_map.mp hp
      have h := ih q hq
      split
      · exact ⟨by lia, by lia⟩
      · exact ⟨h.1, by lia⟩
    · rcases List.mem_append.mp hp with hp | hp
      · have h := ih p hp
        exact ⟨h.1, by lia⟩
      · rw [List.mem_singleton.mp hp]
        exact ⟨by lia, by lia⟩
/-- the waiting places lie behind -/
theorem fst_at (rows : List (Nat × Nat)) (ns : List Int) : ∀ i, ∀ p ∈ (fst rows ns i).2, 0 ≤ p.2 ∧ p.2 < (i : Int)
  | 0 => fun p hp => by cases hp
  | i + 1 => fstep_at (fst_at rows ns i)
theorem look_mem {c : List (Int × Int)} {k : Int} (h : kdfHas c k = true) : ∃ p ∈ c, p.2 = kdfLook c k 0 := by
  unfold kdfHas at h
  unfold kdfLook
  cases e : c.find? (fun p => decide (p.1 = k)) with
  | none =>
    obtain ⟨p, hp, hk⟩ := List.any_eq_true.mp h
    exact absurd hk (List.find?_eq_none.mp e p hp)
  | some p => exact ⟨p, List.mem_of_find?_eq_some e, rfl⟩
theorem look_at {rows : List (Nat × Nat)} {ns : List Int} {i : Nat} {k : Int} (h : kdfHas (fst rows ns i).2 k = true) : 0 ≤ kdfLook (fst rows ns i).2 k 0 ∧ kdfLook (fst rows ns i).2 k 0 < (i : Int) := by
  obtain ⟨p, hp, e⟩ := look_mem h
  exact e ▸ fst_at rows ns i p hp
theorem small_n : ∀ z : Fin 21, Builtin.Range.small 0 (z.val : Int) 1 = true := by decide +kernel
theorem size_n : ∀ z : Fin 21, Builtin.Range.rangeSize 0 (z.val : Int) 1 = ((z.val : Nat) : Int) := by decide +kernel
theorem as4n {m : Str → Option Value} {v0 v1 v2 v3 : Option Value} (h0 : m "rows" = v0) (h1 : m "nums" = v1) (h2 : m "part" = v2) (h3 : m "lone" = v3) : m = fun z : Str => if z = "rows" then v0 else if z = "nums" then v1 else if z = "part" then v2 else if z = "lone" then v3 else m z := by
  funext z
  by_cases e0 : z = "rows"
  · rw [if_pos e0, e0, h0]
  rw [if_neg e0]
  by_cases e1 : z = "nums"
  · rw [if_pos e1, e1, h1]
  rw [if_neg e1]
  by_cases e2 : z = "part"
  · rw [if_pos e2, e2, h2]
  rw [if_neg e2]
  by_cases e3 : z = "lone"
  · rw [if_pos e3, e3, h3]
  rw [if_neg e3]
section
variable {prog : Program} {w : World} {A : Around} {E : Value → Shared → Prop} {s : Shared} {h₀ : Heap} {L : Addr} {m : Str → Option Value} {news : List (Addr × Obj)} {t u : Tok}
theorem len_rows {D : Addr} {its : List Value} {c : Nat} {rows : List (Nat × Nat)} {Q : Value → Shared → Prop} (N : News h₀ L s.heap news) (hm : (D, listOf its.toArray c) ∈ news) (hs : its.length = rows.length) (hf : rows.length ≤ 20) (h : Q (.int (rows.length : Int) (s.toks + 1)) { s with toks := s.toks + 1 + 1 }) :
    wpAny (model prog w) A (call (.builtin "len") [.ref D]) Q E s := KM.len_K N hm (by rw [List.size_toArray, hs]) (Nat.lt_of_le_of_lt hf (by decide)) h
theorem len_ints {D : Addr} {its : List Value} {c : Nat} {ns : List Int} {Q : Value → Shared → Prop} (N : News h₀ L s.heap news) (hm : (D, listOf its.toArray c) ∈ news) (hI : IntsAre its ns) (hf : ns.length ≤ 20) (h : Q (.int (ns.length : Int) (s.toks + 1)) { s with toks := s.toks + 1 + 1 }) :
    wpAny (model prog w) A (call (.builtin "len") [.ref D]) Q E s := KM.len_K N hm (by rw [List.size_toArray, hI.length]) (Nat.lt_of_le_of_lt hf (by decide)) h
theorem mul_zero_list {l : Addr} {n : Nat} {rows : List (Nat × Nat)} {Q : Value → Shared → Prop} (F : Fr h₀ L s.heap m) (N : News h₀ L s.heap ((l, listOf #[.int 0 t] n) :: news)) (hf : rows.length ≤ 20)
    (h : ∀ D h' ps, Fr h₀ L h' m → News h₀ L h' ((D, listOf (List.toArray ps) 0) :: (l, listOf #[.int 0 t] n) :: news) → (∀ p ∈ (l, listOf #[.int 0 t] n) :: news, p.1 < D) → IntsAre ps (List.replicate rows.length 0) → Q (.ref D) { s with heap := h' }) :
    wpAny (model prog w) A (binaryOp .Mult (.ref l) (.int (rows.length : Int) u)) Q E s := by
  refine KM.mul (vs := [.int 0 t]) (ns := [0]) F N (N.isList List.mem_cons_self) (.cons 0 t .nil) (by lia) (by lia) (by rw [Int.toNat_natCast]; exact Nat.le_trans (Nat.mul_le_mul_left 1 hf) (by decide)) fun D h' F' N' l1 hi _ _ _ _ _ => h D h' _ F' N' l1 ?_
  rw [Int.toNat_natCast] at hi ⊢
  have e : (List.replicate rows.length [(0 : Int)]).flatten = List.replicate rows.length 0 := by
    induction rows.length with
    | zero => rfl
    | succ k ih => rw [List.replicate_succ, List.flatten_cons, ih]; rfl
  rw [← e]; exact hi
theorem item_row {Z : Addr} {its : List Value} {n : Nat} {rows : List (Nat × Nat)} {i : Nat} {x y : Addr × Obj} {value slice : PySem.Expr} {Q : Value → Shared → Prop} (N : News h₀ L s.heap (x :: y :: news)) (hm : (Z, listOf its.toArray n) ∈ news) (hr : RowsAre news its rows) (hf : rows.length ≤ 20) (hi : i < rows.length)
    (hs : subscripted slice false (.ref Z) (.int (i : Int) u) = operate [.ref Z, .int (i : Int) u] (getItem (.ref Z) (.int (i : Int) u)))
    (h : ∀ a o ta tb k, (a, o) ∈ news → o.cls = .type "tuple" → o.data = .seq #[.int ((rows.getD i (0, 0)).1 : Int) ta, .str (T [(rows.getD i (0, 0)).2]) tb] k → Q (.ref a) s) :
    wpAny (model prog w) A (subscriptTail value slice (.ref Z) (.int (i : Int) u)) Q E s := by
  obtain ⟨a, o, ta, tb, k, e, hmem, hc, hd⟩ := hr.2 i rows[i] (List.getElem?_eq_getElem hi)
  have eg : rows.getD i (0, 0) = rows[i] := by rw [List.getD_eq_getElem?_getD, List.getElem?_eq_getElem hi]; rfl
  have hil : i < its.length := by rw [hr.1]; exact hi
  have hl := N.isList (List.mem_cons_of_mem _ (List.mem_cons_of_mem _ hm))
  refine tail_any hl.typeIs slot_list_getitem.lookup (wpAny_getItem_list hl (by lia) (by lia) (x := .ref a) ?_ (h a o ta tb k hmem hc (by rw [eg]; exact hd))) hs
  rw [Int.toNat_natCast, List.getElem?_toArray]; exact e
theorem tup_fst {a : Addr} {o : Obj} {x : Int} {y : Value} {ta : Tok} {k : Nat} {value slice : PySem.Expr} {Q : Value → Shared → Prop} (N : News h₀ L s.heap news) (hm : (a, o) ∈ news) (hc : o.cls = .type "tuple") (hd : o.data = .seq #[.int x ta, y] k)
    (hs : subscripted slice false (.ref a) (.int 0 u) = operate [.ref a, .int 0 u] (getItem (.ref a) (.int 0 u))) (h : Q (.int x ta) s) :
    wpAny (model prog w) A (subscriptTail value slice (.ref a) (.int 0 u)) Q E s := by
  have ht : IsTup s.heap a #[.int x ta, y] := ⟨o, (N _ hm).1, hc, k, hd⟩
  exact tail_any ht.typeIs slot_tuple_getitem.lookup (getItem_tuple ht (by decide) (by decide) (j := 0) (by rfl) (by rfl) h) hs
theorem in_lone {D : Addr} {od : Obj} {kvs : List (Int × Value)} {c : List (Int × Int)} {k : Int} {Q : Value → Shared → Prop} (N : News h₀ L s.heap ((D, od) :: news)) (lo : (D == sysModules) = false) (hd : od.IsDictOf (intKind prog w) kvs) (hf : FlatPairs PyData.int kvs (kdfD c)) (h : Q (.bool (kdfHas c k)) { s with toks := s.toks + 1 }) :
    wpAny (model prog w) A (compareOp .In (.int k t) (.ref D)) Q E s := kdf_in (TabAt.ofNews N List.mem_cons_self lo hd hf) h
theorem in_lone_t {D : Addr} {od : Obj} {kvs : List (Int × Value)} {c : List (Int × Int)} {k : Int} {Q : Value → Shared → Prop} (N : News h₀ L s.heap ((D, od) :: news)) (lo : (D == sysModules) = false) (hd : od.IsDictOf (intKind prog w) kvs) (hf : FlatPairs PyData.int kvs (kdfD c)) (hk : kdfHas c k = true) (h : Q (.bool true) { s with toks := s.toks + 1 }) :
    wpAny (model prog w) A (compareOp .In (.int k t) (.ref D)) Q E s := in_lone N lo hd hf (by rw [hk]; exact h)
theorem in_lone_f {D : Addr} {od : Obj} {kvs : List (Int × Value)} {c : List (Int × Int)} {k : Int} {Q : Value → Shared → Prop} (N : News h₀ L s.heap ((D, od) :: news)) (lo : (D == sysModules) = false) (hd : od.IsDictOf (intKind prog w) kvs) (hf : FlatPairs PyData.int kvs (kdfD c)) (hk : kdfHas c k = false) (h : Q (.bool false) { s with toks := s.toks + 1 }) :
    wpAny (model prog w) A (compareOp .In (.int k t) (.ref D)) Q E s := in_lone N lo hd hf (by rw [hk]; exact h)
theorem pop_lone {D P : Addr} {od op : Obj} {kvs : List (Int × Value)} {c : List (Int × Int)} {k : Int} {Q : Value → Shared → Prop} (F : Fr h₀ L s.heap m) (N : News h₀ L s.heap ((D, od) :: (P, op) :: news)) (hPD : P ≠ D) (hne : ∀ p ∈ news, p.1 ≠ D) (hd : od.IsDictOf (intKind prog w) kvs) (hf : FlatPairs PyData.int kvs (kdfD c)) (hk : kdfHas c k = true) (hc : c.length ≤ 20)
    (h : ∀ h' o' kvs' t', Fr h₀ L h' m → News h₀ L h' ((D, o') :: (P, op) :: news) → o'.IsDictOf (intKind prog w) kvs' → FlatPairs PyData.int kvs' (kdfD (kdyDel c k)) → Q (.int (kdfLook c k 0) t') { s with heap := h', toks := s.toks + 1 }) :
    wpAny (model prog w) A (call (.builtin "dict.pop") [.ref D, .int k t]) Q E s :=
  kdy_pop (more := []) (.inl rfl) (PySem.F.args_dict_pop_2 _ _) F N (UpdF.head (List.forall_mem_cons.mpr ⟨hPD, hne⟩)) hd hf hk (Nat.le_trans hc (by decide)) h
theorem set_lone {D P : Addr} {od op : Obj} {kvs : List (Int × Value)} {c : List (Int × Int)} {k e : Int} {Q : Unit → Shared → Prop} (F : Fr h₀ L s.heap m) (N : News h₀ L s.heap ((D, od) :: (P, op) :: news)) (hPD : P ≠ D) (hne : ∀ p ∈ news, p.1 ≠ D) (hd : od.IsDictOf (intKind prog w) kvs) (hf : FlatPairs PyData.int kvs (kdfD c)) (hc : c.length ≤ 20)
    (h : ∀ h' o' kvs', Fr h₀ L h' m → News h₀ L h' ((D, o') :: (P, op) :: news) → o'.IsDictOf (intKind prog w) kvs' → FlatPairs PyData.int kvs' (kdfD (kdfPut c k e)) → Q () { s with heap := h', toks := s.toks + 1 }) :
    wpAny (model prog w) A (setItem (.ref D) (.int k t) (.int e u)) Q E s :=
  kdf_setItem F N (UpdF.head (List.forall_mem_cons.mpr ⟨hPD, hne⟩)) hd hf (Nat.le_trans hc (by decide)) h
theorem set_part {D P : Addr} {od : Obj} {vs : List Value} {ns : List Int} {k x : Int} {Q : Unit → Shared → Prop} (F : Fr h₀ L s.heap m) (N : News h₀ L s.heap ((D, od) :: (P, listOf vs.toArray 0) :: news)) (hPD : P ≠ D) (hne : ∀ p ∈ news, p.1 ≠ P) (hi : IntsAre vs ns) (h0 : 0 ≤ k) (h1 : k < ns.length) (hl : ns.length ≤ 20)
    (h : ∀ h' vs', Fr h₀ L h' m → News h₀ L h' ((D, od) :: (P, listOf (List.toArray vs') 0) :: news) → IntsAre vs' (ns.set k.toNat x) → Q () { s with heap := h' }) :
    wpAny (model prog w) A (setItem (.ref P) (.int k t) (.int x u)) Q E s :=
  ksa_set F N (Upd.tail (Ne.symm hPD) (Upd.head hne)) hi h0 h1 (by lia) fun h' F' N' hi' _ _ => h h' _ F' N' hi'
end
theorem mem_of {a : Addr × Obj} {l : List (Addr × Obj)} (h : a ∈ l) : List.Mem a l := h
theorem LEnd.fst {h₀ : Heap} {L : Addr} {J : (Str → Option Value) → List (Addr × Obj) → Prop} {own nx : List (Addr × Obj)} {adr : List Addr} {s₁ s₂ : Shared} {Q : Flow → Shared → Prop} {m' : Str → Option Value} (F : Fr h₀ L s₂.heap m') (N : News h₀ L s₂.heap (nx ++ own)) (hj : J m' nx) (hL : Later s₁ s₂) (ha : nx.map (·.1) = adr) : LEnd h₀ L J own adr s₁ Q .next s₂ :=
  ⟨m', _, nx, hL, F, N, fun p hp => List.mem_append_left _ hp, fun p hp => List.mem_append_right _ hp, ha, hj⟩
theorem allLt_ne {d : Addr} : ∀ {l : List (Addr × Obj)}, AllLt d l → ∀ p ∈ l, p.1 ≠ d
  | [], _, p, hp => by cases hp
  | q :: r, h, p, hp => by
    rcases List.mem_cons.mp hp with rfl | hp
    · exact Nat.ne_of_lt h.1
    · exact allLt_ne h.2 p hp
theorem ne_all {g h : Heap} {L a d : Addr} {o : Obj} {x y : Addr × Obj} {l : List (Addr × Obj)} (N : News g L h (x :: y :: (a, o) :: l)) (hl : a < d ∧ AllLt d l) : ∀ p ∈ (a, o) :: l, p.1 ≠ d := List.forall_mem_cons.mpr ⟨Nat.ne_of_lt hl.1, allLt_ne hl.2⟩
/-- the ledger of a turn with its passive part hidden -/
theorem pack {g h : Heap} {L D P Z U : Addr} {x y q : Addr × Obj} {l own : List (Addr × Obj)} {oz ou : Obj} {its : List Value} {rows : List (Nat × Nat)} (N : News g L h (x :: y :: q :: (l ++ own))) (hD : ∀ p ∈ q :: l, p.1 ≠ D) (hP : ∀ p ∈ q :: l, p.1 ≠ P)
    (hoD : ∀ p ∈ own, p.1 ≠ D) (hoP : ∀ p ∈ own, p.1 ≠ P) (hZ : (Z, oz) ∈ l) (hU : (U, ou) ∈ l) (hr : RowsAre l its rows) :
    ∃ tl, News g L h (x :: y :: tl) ∧ (∀ p ∈ tl, p.1 ≠ D) ∧ (∀ p ∈ tl, p.1 ≠ P) ∧ (Z, oz) ∈ tl ∧ (U, ou) ∈ tl ∧ RowsAre tl its rows ∧ (∀ p ∈ q :: l, p ∈ tl) ∧ ∀ p ∈ own, p ∈ tl := by
  have s1 : ∀ p ∈ q :: l, p ∈ q :: (l ++ own) := fun p hp => by
    rcases List.mem_cons.mp hp with rfl | hp
    · exact List.mem_cons_self
    · exact List.mem_cons_of_mem _ (List.mem_append_left _ hp)
  have s2 : ∀ p ∈ own, p ∈ q :: (l ++ own) := fun p hp => List.mem_cons_of_mem _ (List.mem_append_right _ hp)
  have nn : ∀ {d : Addr}, (∀ p ∈ q :: l, p.1 ≠ d) → (∀ p ∈ own, p.1 ≠ d) → ∀ p ∈ q :: (l ++ own), p.1 ≠ d := fun h1 h2 p hp => by
    rcases List.mem_cons.mp hp with rfl | hp
    · exact h1 _ List.mem_cons_self
    · exact (List.mem_append.mp hp).elim (fun hp => h1 p (List.mem_cons_of_mem _ hp)) (h2 p)
  exact ⟨_, N, nn hD hoD, nn hP hoP, s1 _ (List.mem_cons_of_mem _ hZ), s1 _ (List.mem_cons_of_mem _ hU), hr.more fun p hp => s1 _ (List.mem_cons_of_mem _ hp), s1, s2⟩
theorem led_more {x y : Addr × Obj} {tl : List (Addr × Obj)} {q : Addr × Obj} {l : List (Addr × Obj)} (hs : ∀ p ∈ q :: l, p ∈ tl) : ∀ p ∈ x :: y :: q :: l, p ∈ x :: y :: tl := fun p hp => by
  rcases List.mem_cons.mp hp with rfl | hp
  · exact List.mem_cons_self
  · rcases List.mem_cons.mp hp with rfl | hp
    · exact List.mem_cons_of_mem _ List.mem_cons_self
    · exact List.mem_cons_of_mem _ (List.mem_cons_of_mem _ (hs p hp))
theorem led_p {d p q : Addr × Obj} {l : List (Addr × Obj)} : ∀ x ∈ p :: l, x ∈ d :: p :: q :: l := fun x hx => by
  rcases List.mem_cons.mp hx with rfl | hx
  · exact List.mem_cons_of_mem _ List.mem_cons_self
  · exact List.mem_cons_of_mem _ (List.mem_cons_of_mem _ (List.mem_cons_of_mem _ hx))
theorem LEnd.of2 {h₀ : Heap} {L : Addr} {J : (Str → Option Value) → List (Addr × Obj) → Prop} {own nx : List (Addr × Obj)} {adr : List Addr} {s₁ s₂ : Shared} {Q : Flow → Shared → Prop} {m' : Str → Option Value} {x y : Addr × Obj} {tl : List (Addr × Obj)} (F : Fr h₀ L s₂.heap m') (N : News h₀ L s₂.heap (x :: y :: tl)) (hj : J m' nx) (hL : Later s₁ s₂) (ha : nx.map (·.1) = adr)
    (h1 : ∀ p ∈ nx, p ∈ x :: y :: tl) (h2 : ∀ p ∈ own, p ∈ tl) : LEnd h₀ L J own adr s₁ Q .next s₂ :=
  ⟨m', _, nx, hL, F, N, h1, fun p hp => List.mem_cons_of_mem _ (List.mem_cons_of_mem _ (h2 p hp)), ha, hj⟩
theorem fst_t {rows : List (Nat × Nat)} {ns : List Int} {i : Nat} (hk : kdfHas (fst rows ns i).2 ((rows.getD i (0, 0)).1 : Int) = true) :
    fst rows ns (i + 1) = (((fst rows ns i).1.set i (1 + (ns.getD ((i : Int).fmod (ns.length : Int)).toNat 0 + kdfLook (fst rows ns i).2 ((rows.getD i (0, 0)).1 : Int) 0).fmod 2)).set (kdfLook (fst rows ns i).2 ((rows.getD i (0, 0)).1 : Int) 0).toNat (2 - (ns.getD ((i : Int).fmod (ns.length : Int)).toNat 0 + kdfLook (fst rows ns i).2 ((rows.getD i (0, 0)).1 : Int) 0).fmod 2), kdyDel (fst rows ns i).2 ((rows.getD i (0, 0)).1 : Int)) := if_pos hk
theorem fst_f {rows : List (Nat × Nat)} {ns : List Int} {i : Nat} (hk : kdfHas (fst rows ns i).2 ((rows.getD i (0, 0)).1 : Int) = false) :
    fst rows ns (i + 1) = ((fst rows ns i).1, kdfPut (fst rows ns i).2 ((rows.getD i (0, 0)).1 : Int) (i : Int)) := if_neg (by rw [hk]; decide)
noncomputable def JW (w : World) (rows : List (Nat × Nat)) (ns : List Int) (Z U P D : Addr) (rest : List (Addr × Obj)) (i : Nat) (m : Str → Option Value) (nx : List (Addr × Obj)) : Prop :=
  ∃ ps od kvs, m "rows" = some (.ref Z) ∧ m "nums" = some (.ref U) ∧ m "part" = some (.ref P) ∧ m "lone" = some (.ref D) ∧ nx = (D, od) :: (P, listOf (List.toArray ps) 0) :: rest ∧ IntsAre ps (fst rows ns i).1 ∧ od.IsDictOf (intKind rwp w) kvs ∧ FlatPairs PyData.int kvs (kdfD (fst rows ns i).2)
end Mine
local macro_rules | `(tactic| walk_at "subscriptTail") => `(tactic| with_reducible apply tup_fst; k_asm; k_dflt k_mem; assumption; assumption; with_unfolding_all rfl)
local macro_rules | `(tactic| k_mem) => `(tactic| with_reducible first | assumption | (refine mem_of ?_; assumption))
local macro_rules | `(tactic| walk_at "call builtin:len") => `(tactic| with_reducible apply len_rows; k_asm; k_dflt k_mem; assumption; assumption)
local macro_rules | `(tactic| walk_at "call builtin:len") => `(tactic| with_reducible apply len_ints; k_asm; k_dflt k_mem; assumption; assumption)
namespace Mine
open PySem PySem.W PySem.Calls PyProof.Rows PyProof.V PySem.Spec PyProof.Rows.LCg PyProof.Rows.LCt
local macro_rules | `(tactic| walk_at "subscriptTail Name Name ref int") => `(tactic| with_reducible apply item_row; k_asm; k_dflt k_mem; assumption; assumption; assumption; with_unfolding_all rfl; intro _ _ _ _ _ _ _ _)
local macro_rules | `(tactic| walk_at "compareOp In int ref") => `(tactic| with_reducible apply in_lone_t; k_asm; assumption; assumption; assumption; assumption)
local macro_rules | `(tactic| walk_at "compareOp In int ref") => `(tactic| with_reducible apply in_lone_f; k_asm; assumption; assumption; assumption; assumption)
local macro_rules | `(tactic| walk_at "call builtin:dict.pop") => `(tactic| with_reducible apply pop_lone; k_asm; k_asm; assumption; assumption; assumption; assumption; assumption; assumption; intro _ _ _ _ _ _ _ _)
local macro_rules | `(tactic| walk_at "setItem ref int") => `(tactic| with_reducible apply set_lone; k_asm; k_asm; assumption; assumption; assumption; assumption; assumption; intro _ _ _ _ _ _ _)
local macro_rules | `(tactic| walk_at "setItem ref int") => `(tactic| with_reducible apply set_part; k_asm; k_asm; assumption; assumption; assumption; lia; ((try simp only [List.length_set]); lia); ((try simp only [List.length_set]); lia); intro _ _ _ _ _)
local macro_rules | `(tactic| walk_at "binaryOp Mult ref int") => `(tactic| with_reducible apply mul_zero_list; k_asm; k_asm; assumption; intro _ _ _ _ _ _ _)
set_option maxHeartbeats 400000 in
theorem c_fellows (w : World) (loose : List Str) (mean : ExcName → Option Value) (mg mb : Str → Option Value) (rows : List (Nat × Nat)) (its : List Value) (Z : Addr) (n : Nat) (ns : List Int) (ws : List Value) (U : Addr) (k : Nat) (news : List (Addr × Obj)) (hZ : (Z, listOf its.toArray n) ∈ news) (hU : (U, listOf ws.toArray k) ∈ news)
    (hr : RowsAre news its rows) (hI : IntsAre ws ns) (hlen : rows.length ≤ 20) (hn0 : 3 ≤ ns.length) (hn1 : ns.length ≤ 20) :
  ∀ (dp un : Nat) (gd : Option (List Code)) (cn : Str) (cs : Scope) (a : Addr) (ccd : Value) (cl : List (Str × Addr)) (outer : List Env) (A₀ : Around) (base h₀ : Heap) (L : Addr) (m : Str → Option Value) (s : Shared) (Q E : Value → Shared → Prop),
    Below A₀ base outer h₀ → Fr h₀ L s.heap m → (K w.params).In h₀ → News h₀ L s.heap news → Top qv loose mean mg mb h₀ → cs.kind = .function →
    dp + 3 < recursionLimit → un + 30 < cLine → (∀ (P : Addr) (ps : List Value) (s' : Shared), Later s s' → Fr h₀ L s'.heap m → News h₀ L s'.heap ((P, listOf (List.toArray ps) 0) :: news) → (∀ p ∈ news, p.1 < P) → IntsAre ps (fell rows ns) → Q (.ref P) s') →
      wpAny (model rwp w) (ktrTop dp un gd cn cs L a ccd cl outer) (call (.ref 177) [.ref Z, .ref U]) Q E s := by
  unfold rwp
  k_fill
  intros; rename_i hret
  have hrl := hr.1
  refine wpAny_call ?_
  k_dflt (refine' code_def (binds := [(Str.ofString "rows", .ref Z), (Str.ofString "nums", .ref U)]) ?k1 ?k2 ?k3 ?k4 ?k5 ?kA ?kF ?kK ?k6 ?k7 ?k8 ?k9 ?kB ?_ ?c2 ?c3 ?c4 ?c5)
  case kA => exact rfl
  case kF => exact rfl
  case kK => assumption
  case k1 => k_asm
  case k2 => k_asm
  case k3 => k_asm
  case k4 => k_asm
  case k5 => k_asm
  case k6 => k_is
  case k7 => k_is
  case k8 => ktr_room
  case k9 => exact BindsTo.of_eq rfl
  case c5 => decide
  case kB => exact locs rfl
  case c2 => exact rfl
  case c3 => exact rfl
  case c4 => exact rfl
  intro g' L' h' FG' F' N' B' X' T'
  dsimp only
  try k_lift B'
  try k_fold
  k_steps
  rename Fr _ _ _ _ => FF
  rename News _ _ _ _ => NN
  rename IsRange _ _ _ _ _ _ _ _ => RR
  rename ∀ p ∈ (_ :: _ : List (Addr × Obj)), p.1 < _ => lP
  rename IntsAre _ (List.replicate _ _) => hps
  rename Obj.IsDictOf (PySem.intKind _ _) _ _ => hdi
  rename FlatPairs PyData.int _ _ => hdf
  rename (_ == sysModules) = false => hlo
  rename _ < _ ∧ _ ∧ AllLt _ _ => lD
  have hPD := Nat.ne_of_lt lD.1
  have hD0 := ne_all NN lD.2
  have hP0 := fun p hp => Nat.ne_of_lt (lP p hp)
  have hsz : rows.length < 21 := by lia
  refine' for_range (by rfl) RR (small_n ⟨rows.length, hsz⟩) (n := rows.length) (size_n ⟨rows.length, hsz⟩) FF NN (JW w rows ns Z U ?Pp ?Dd ?rr) ?j0 ?step ?done
  case j0 => exact ⟨_, _, _, by rfl, by rfl, by rfl, by rfl, by rfl, hps, hdi, hdf⟩
  case step =>
    intro i tt m₁ news₁ s₁ own hL hi hJ ha ho F₁ N₁
    obtain ⟨ps, od, kvs, g0, g1, g2, g3, rfl, hps1, hdi1, hdf1⟩ := hJ
    rw [as4n g0 g1 g2 g3] at F₁
    obtain ⟨h₁, gs₁, d₁, tk₁, os₁⟩ := s₁
    dsimp only at F₁ N₁
    simp only [List.cons_append] at N₁
    obtain ⟨tl, N₂, hD1, hP1, hZ1, hU1, hr1, hs1, hs2⟩ := pack N₁ hD0 hP0 (fun p hp => ho p hp _ List.mem_cons_self) (fun p hp => ho p hp _ (List.mem_cons_of_mem _ List.mem_cons_self)) hZ hU hr
    clear N₁ NN FF hZ hU hr hD0 hP0 lP lD
    obtain ⟨hLa, hLb⟩ := fst_len rows ns i
    have hLc : (fst rows ns i).2.length ≤ 20 := by lia
    rw [Int.zero_add]
    cases hk : kdfHas (fst rows ns i).2 ((rows.getD i (0, 0)).1 : Int) with
    | true =>
      obtain ⟨hj0, hj1⟩ := look_at hk
      k_steps
      trace "A"
      refine LEnd.of2 (by assumption) (by assumption) ⟨_, _, _, by rfl, by rfl, by rfl, by rfl, rfl, ?_, by assumption, ?_⟩ ⟨rfl, rfl⟩ (by rfl) (led_more hs1) hs2
      · rw [fst_t hk]; rename IntsAre _ _ => hh; rw [Int.toNat_natCast] at hh; exact hh
      · rw [fst_t hk]; assumption
    | false =>
      k_steps
      trace "B"
      refine LEnd.of2 (by assumption) (by assumption) ⟨_, _, _, by rfl, by rfl, by rfl, by rfl, rfl, ?_, by assumption, ?_⟩ ⟨rfl, rfl⟩ (by rfl) (led_more hs1) hs2
      · rw [fst_f hk]; assumption
      · rw [fst_f hk]; assumption
  case done =>
    intro m₁ news₁ s₁ hL hJ F₁ N₁
    obtain ⟨ps, od, kvs, g0, g1, g2, g3, rfl, hps1, hdi1, hdf1⟩ := hJ
    rw [as4n g0 g1 g2 g3] at F₁
    obtain ⟨h₁, gs₁, d₁, tk₁, os₁⟩ := s₁
    dsimp only at F₁ N₁
    k_steps
    trace "C"
    refine hret _ ps _ ⟨hL.1, hL.2⟩ (by assumption) ?_ ?_ hps1
    · exact cb_drop (by assumption) (led_p)
    · intro p hp; exact lP p (List.mem_cons_of_mem _ hp)
end Mine
namespace Mine
open PySem PySem.W
/-! how many of the first i -/
noncomputable def NN (f : Nat → Bool) : Nat → Nat
  | 0 => 0
  | i + 1 => NN f i + if f i then 1 else 0
theorem NN_congr {f g : Nat → Bool} : ∀ {i : Nat}, (∀ x, x < i → f x = g x) → NN f i = NN g i
  | 0, _ => rfl
  | i + 1, h => by
    show NN f i + _ = NN g i + _
    rw [NN_congr fun x hx => h x (Nat.lt_succ_of_lt hx), h i (Nat.lt_succ_self i)]
theorem NN_upd {f g : Nat → Bool} {y : Nat} (hfg : ∀ x, x ≠ y → g x = f x) : ∀ {i : Nat}, y < i → NN g i + (if f y then 1 else 0) = NN f i + (if g y then 1 else 0)
  | 0, h => absurd h (Nat.not_lt_zero _)
  | i + 1, h => by
    show NN g i + _ + _ = NN f i + _ + _
    by_cases e : y = i
    · subst e
      rw [NN_congr (f := g) (g := f) fun x hx => hfg x (Nat.ne_of_lt hx)]
      exact Nat.add_right_comm _ _ _
    · have := NN_upd hfg (Nat.lt_of_le_of_ne (Nat.le_of_lt_succ h) e)
      rw [hfg i (Ne.symm e)]
      lia
theorem has_del (c : List (Int × Int)) (k j : Int) : kdfHas (kdyDel c k) j = (!decide (j = k) && kdfHas c j) := by
  unfold kdfHas kdyDel
  induction c with
  | nil => simp
  | cons p r ih =>
    rw [List.filter_cons]
    by_cases h : p.1 = k
    · rw [if_neg (by simp [h]), ih]
      by_cases hj : j = k
      · simp [hj]
      · have : ¬ p.1 = j := fun q => hj (q ▸ h)
        simp [hj, this]
    · rw [if_pos (by simp [h]), List.any_cons, ih, List.any_cons]
      by_cases hj : p.1 = j
      · have : ¬ j = k := fun q => h (hj.trans q)
        simp [hj, this]
      · simp [hj]
/-- the size of row x -/
noncomputable def sz (rows : List (Nat × Nat)) (x : Nat) : Nat := (rows.getD x (0, 0)).1
noncomputable def hit (rows : List (Nat × Nat)) (ps : List Int) (z : Nat) (v : Int) (x : Nat) : Bool := (sz rows x == z) && (ps.getD x 0 == v)
/-- what holds of the pairing after i turns -/
structure FI (rows : List (Nat × Nat)) (st : List Int × List (Int × Int)) (i : Nat) : Prop where
  len : st.1.length = rows.length
  out : ∀ x, i ≤ x → st.1.getD x 0 = 0
  val : ∀ x, st.1.getD x 0 = 0 ∨ st.1.getD x 0 = 1 ∨ st.1.getD x 0 = 2
  two : ∀ z, NN (hit rows st.1 z 1) i = NN (hit rows st.1 z 2) i
  one : ∀ z : Nat, NN (hit rows st.1 z 0) i = if kdfHas st.2 (z : Int) then 1 else 0
  at' : ∀ p ∈ st.2, ∃ j : Nat, p.2 = (j : Int) ∧ j < i ∧ p.1 = (sz rows j : Int) ∧ st.1.getD j 0 = 0
theorem look_key {c : List (Int × Int)} {k : Int} (h : kdfHas c k = true) : ∃ p ∈ c, p.1 = k ∧ p.2 = kdfLook c k 0 := by
  unfold kdfHas at h
  unfold kdfLook
  cases e : c.find? (fun p => decide (p.1 = k)) with
  | none =>
    obtain ⟨p, hp, hk⟩ := List.any_eq_true.mp h
    exact absurd hk (List.find?_eq_none.mp e p hp)
  | some p => exact ⟨p, List.mem_of_find?_eq_some e, by have := List.find?_some e; exact of_decide_eq_true this, rfl⟩
theorem getD_set {l : List Int} {i j : Nat} {v : Int} (h : i < l.length) : (l.set i v).getD j 0 = if j = i then v else l.getD j 0 := by
  rw [List.getD_eq_getElem?_getD, List.getElem?_set]
  by_cases e : i = j
  · subst e; simp [h]
  · rw [if_neg e, if_neg (Ne.symm e), List.getD_eq_getElem?_getD]
theorem FI.step {rows : List (Nat × Nat)} {ns : List Int} {st : List Int × List (Int × Int)} {i : Nat} (H : FI rows st i) (hi : i < rows.length) : FI rows (fstep rows ns st i) (i + 1) := by
  have hsz : ((rows.getD i (0, 0)).1 : Int) = (sz rows i : Int) := rfl
  unfold fstep
  dsimp only
  rw [hsz]
  by_cases hk : kdfHas st.2 (sz rows i : Int) = true
  · rw [if_pos hk]
    obtain ⟨p, hp, hp1, hp2⟩ := look_key hk
    obtain ⟨j, hj2, hji, hj1, hj0⟩ := H.at' p hp
    have hsj : sz rows j = sz rows i := by rw [hp1] at hj1; exact (Int.ofNat.inj hj1).symm
    rw [← hp2, hj2, Int.toNat_natCast]
    generalize htn : (ns.getD ((i : Int).fmod (ns.length : Int)).toNat 0 + (j : Int)).fmod 2 = tn
    have ht : tn = 0 ∨ tn = 1 := by
      have a := Int.fmod_nonneg_of_pos (ns.getD ((i : Int).fmod (ns.length : Int)).toNat 0 + (j : Int)) (show (0 : Int) < 2 by decide)
      have b := Int.fmod_lt_of_pos (ns.getD ((i : Int).fmod (ns.length : Int)).toNat 0 + (j : Int)) (show (0 : Int) < 2 by decide)
      lia
    have hl : i < st.1.length := by rw [H.len]; exact hi
    have hl' : j < (st.1.set i (1 + tn)).length := by rw [List.length_set]; exact Nat.lt_trans hji hl
    have hne : i ≠ j := Nat.ne_of_gt hji
    have g : ∀ x, ((st.1.set i (1 + tn)).set j (2 - tn)).getD x 0 = if x = j then 2 - tn else if x = i then 1 + tn else st.1.getD x 0 := fun x => by rw [getD_set hl', getD_set hl]
    -- how the counts move
    have cnt : ∀ (z : Nat) (v : Int), NN (hit rows ((st.1.set i (1 + tn)).set j (2 - tn)) z v) (i + 1) + (if hit rows st.1 z v j then 1 else 0) =
        NN (hit rows st.1 z v) i + (if (sz rows j == z && (2 - tn) == v) = true then 1 else 0) + (if (sz rows i == z && (1 + tn) == v) = true then 1 else 0) := fun z v => by
      have e1 : hit rows ((st.1.set i (1 + tn)).set j (2 - tn)) z v j = (sz rows j == z && (2 - tn) == v) := by unfold hit; rw [g, if_pos rfl]
      have e2 : hit rows ((st.1.set i (1 + tn)).set j (2 - tn)) z v i = (sz rows i == z && (1 + tn) == v) := by unfold hit; rw [g, if_neg hne, if_pos rfl]
      have e3 : NN (hit rows ((st.1.set i (1 + tn)).set j (2 - tn)) z v) i = NN (fun x => if x = j then (sz rows j == z && (2 - tn) == v) else hit rows st.1 z v x) i := NN_congr fun x hx => by
        by_cases e : x = j
        · rw [if_pos e, e, e1]
        · rw [if_neg e]; unfold hit; rw [g, if_neg e, if_neg (Nat.ne_of_lt hx)]
      show NN _ i + (if _ then 1 else 0) + _ = _
      rw [e2, e3]
      have := NN_upd (f := hit rows st.1 z v) (g := fun x => if x = j then (sz rows j == z && (2 - tn) == v) else hit rows st.1 z v x) (y := j) (fun x hx => if_neg hx) hji
      simp only [if_pos] at this
      lia
    refine ⟨by rw [List.length_set, List.length_set, H.len], fun x hx => ?_, fun x => ?_, fun z => ?_, fun z => ?_, fun q hq => ?_⟩
    · rw [g, if_neg (by lia), if_neg (by lia)]; exact H.out x (by lia)
    · rw [g]
      split
      · rcases ht with rfl | rfl
        · exact .inr (.inr rfl)
        · exact .inr (.inl rfl)
      · split
        · rcases ht with rfl | rfl
          · exact .inr (.inl rfl)
          · exact .inr (.inr rfl)
        · exact H.val x
    · have c1 := cnt z 1
      have c2 := cnt z 2
      have h1 := H.two z
      have q1 : hit rows st.1 z 1 j = false := by unfold hit; rw [hj0]; simp
      have q2 : hit rows st.1 z 2 j = false := by unfold hit; rw [hj0]; simp
      rw [q1] at c1
      rw [q2] at c2
      rw [hsj] at c1 c2
      by_cases hz : sz rows i = z
      · rcases ht with rfl | rfl <;> simp [hz] at c1 c2 <;> lia
      · simp [hz] at c1 c2; lia
    · have c0 := cnt z 0
      have h0 := H.one z
      rw [has_del]
      by_cases hz : sz rows i = z
      · have q0 : hit rows st.1 z 0 j = true := by unfold hit; rw [hj0, hsj, hz]; simp
        rw [q0, hsj] at c0
        rw [← hz, hk] at h0
        rw [hz] at h0
        rcases ht with rfl | rfl <;> simp [hz] at c0 h0 ⊢ <;> lia
      · have q0 : hit rows st.1 z 0 j = false := by unfold hit; rw [hsj]; simp [hz]
        rw [q0, hsj] at c0
        have hz' : ¬ (z : Int) = (sz rows i : Int) := fun e => hz (Int.ofNat.inj e).symm
        simp [hz, hz'] at c0 ⊢
        rw [← h0]; exact c0
    · have hq' := List.mem_filter.mp hq
      obtain ⟨k, hk2, hki, hk1, hk0⟩ := H.at' q hq'.1
      have hkj : k ≠ j := by
        intro e
        have : q.1 = (sz rows i : Int) := by rw [hk1, e, hsj]
        simp [this] at hq'
      exact ⟨k, hk2, Nat.lt_succ_of_lt hki, hk1, by rw [g, if_neg hkj, if_neg (Nat.ne_of_lt hki)]; exact hk0⟩
  · rw [if_neg hk]
    have hk' : kdfHas st.2 (sz rows i : Int) = false := by simpa using hk
    have o := H.out i (Nat.le_refl i)
    refine ⟨H.len, fun x hx => H.out x (Nat.le_of_succ_le hx), H.val, fun z => ?_, fun z => ?_, fun q hq => ?_⟩
    · show NN _ i + _ = NN _ i + _
      rw [H.two z]
      unfold hit
      rw [o]; simp
    · show NN _ i + _ = _
      rw [H.one z, kdyHas_put]
      unfold hit
      rw [o]
      by_cases hz : sz rows i = z
      · subst hz; simp [hk']
      · have hz' : ¬ (z : Int) = (sz rows i : Int) := fun e => hz (Int.ofNat.inj e).symm
        simp [hz, hz']
    · unfold kdfPut at hq
      rw [if_neg (by unfold kdfHas at hk'; rw [hk']; decide)] at hq
      rcases List.mem_append.mp hq with hq | hq
      · obtain ⟨k, hk2, hki, hk1, hk0⟩ := H.at' q hq
        exact ⟨k, hk2, Nat.lt_succ_of_lt hki, hk1, hk0⟩
      · rw [List.mem_singleton.mp hq]
        exact ⟨i, rfl, Nat.lt_succ_self i, rfl, o⟩
theorem FI.all (rows : List (Nat × Nat)) (ns : List Int) : ∀ i, i ≤ rows.length → FI rows (fst rows ns i) i
  | 0, _ => ⟨List.length_replicate, fun x _ => by show (List.replicate rows.length (0 : Int)).getD x 0 = 0; rw [List.getD_eq_getElem?_getD, List.getElem?_replicate]; split <;> rfl, fun x => .inl (by show (List.replicate rows.length (0 : Int)).getD x 0 = 0; rw [List.getD_eq_getElem?_getD, List.getElem?_replicate]; split <;> rfl), fun z => rfl, fun z => rfl, fun p hp => by cases hp⟩
  | i + 1, h => (FI.all rows ns i (Nat.le_of_succ_le h)).step h
end Mine
namespace Mine
open PySem PySem.W
/-- what a row leaves -/
noncomputable def leaves (p : Nat × Nat) (v : Int) : List (Nat × Nat) := if v = 1 then [] else if v = 2 then [(2 * p.1, p.2)] else [p]
noncomputable def lftN (rows : List (Nat × Nat)) (ps : List Int) : Nat → List (Nat × Nat)
  | 0 => []
  | i + 1 => lftN rows ps i ++ leaves (rows.getD i (0, 0)) (ps.getD i 0)
noncomputable def lft (rows : List (Nat × Nat)) (ps : List Int) : List (Nat × Nat) := lftN rows ps rows.length
noncomputable def cnt (l : List (Nat × Nat)) (m : Nat) : Nat := (l.filter fun p => p.1 == m).length
theorem cnt_app (a b : List (Nat × Nat)) (m : Nat) : cnt (a ++ b) m = cnt a m + cnt b m := by unfold cnt; rw [List.filter_append, List.length_append]
theorem cnt_one (p : Nat × Nat) (m : Nat) : cnt [p] m = if p.1 = m then 1 else 0 := by
  unfold cnt
  by_cases h : p.1 = m <;> simp [h]
theorem cnt_rows (rows : List (Nat × Nat)) (m : Nat) : ∀ i, i ≤ rows.length → cnt (rows.take i) m = NN (fun x => sz rows x == m) i
  | 0, _ => rfl
  | i + 1, h => by
    rw [List.take_succ, cnt_app, cnt_rows rows m i (Nat.le_of_succ_le h), List.getElem?_eq_getElem h]
    show _ + cnt [rows[i]] m = NN _ i + if (sz rows i == m) = true then 1 else 0
    rw [cnt_one]
    have : sz rows i = rows[i].1 := by unfold sz; rw [List.getD_eq_getElem?_getD, List.getElem?_eq_getElem h]; rfl
    rw [this]
    by_cases e : rows[i].1 = m <;> simp [e]
theorem NN_three {rows : List (Nat × Nat)} {ps : List Int} (hv : ∀ x, ps.getD x 0 = 0 ∨ ps.getD x 0 = 1 ∨ ps.getD x 0 = 2) (z : Nat) : ∀ i, NN (fun x => sz rows x == z) i = NN (hit rows ps z 0) i + NN (hit rows ps z 1) i + NN (hit rows ps z 2) i
  | 0 => rfl
  | i + 1 => by
    show NN _ i + _ = NN _ i + _ + (NN _ i + _) + (NN _ i + _)
    rw [NN_three hv z i]
    unfold hit
    have h := hv i
    generalize ps.getD i 0 = v at h ⊢
    by_cases e : sz rows i = z
    · rcases h with rfl | rfl | rfl <;> simp [e] <;> lia
    · simp [e]
theorem cnt_leaves (p : Nat × Nat) (m : Nat) {v : Int} (hv : v = 0 ∨ v = 1 ∨ v = 2) : cnt (leaves p v) m = (if p.1 = m ∧ v = 0 then 1 else 0) + if m % 2 = 0 ∧ p.1 = m / 2 ∧ v = 2 then 1 else 0 := by
  unfold leaves
  rcases hv with rfl | rfl | rfl
  · rw [if_neg (by decide), if_neg (by decide), cnt_one]; simp
  · rw [if_pos rfl]; simp [cnt]
  · rw [if_neg (by decide), if_pos rfl, cnt_one]
    simp
    by_cases h : 2 * p.1 = m
    · rw [if_pos h, if_pos (by lia)]
    · rw [if_neg h, if_neg (by lia)]
theorem cnt_lftN {rows : List (Nat × Nat)} {ps : List Int} (hv : ∀ x, ps.getD x 0 = 0 ∨ ps.getD x 0 = 1 ∨ ps.getD x 0 = 2) (m : Nat) : ∀ i, cnt (lftN rows ps i) m = NN (hit rows ps m 0) i + if m % 2 = 0 then NN (hit rows ps (m / 2) 2) i else 0
  | 0 => by simp [lftN, cnt, NN]
  | i + 1 => by
    show cnt (lftN rows ps i ++ _) m = _
    rw [cnt_app, cnt_lftN hv m i, cnt_leaves _ m (hv i)]
    show _ = NN _ i + _ + if m % 2 = 0 then NN _ i + _ else 0
    unfold hit sz
    by_cases h2 : m % 2 = 0 <;> simp [h2] <;> lia
/-- one time: the fellows become one row of twice the size -/
theorem cnt_fell (rows : List (Nat × Nat)) (ns : List Int) (m : Nat) : cnt (lft rows (fell rows ns)) m = cnt rows m % 2 + if m % 2 = 0 then cnt rows (m / 2) / 2 else 0 := by
  have H := FI.all rows ns rows.length (Nat.le_refl _)
  have key : ∀ z, NN (hit rows (fell rows ns) z 0) rows.length = cnt rows z % 2 ∧ NN (hit rows (fell rows ns) z 2) rows.length = cnt rows z / 2 := fun z => by
    have h0 := H.one z
    have h12 := H.two z
    have h3 := NN_three (rows := rows) H.val z rows.length
    have hc := cnt_rows rows z rows.length (Nat.le_refl _)
    rw [List.take_length] at hc
    rw [← hc] at h3
    show NN (hit rows (fst rows ns rows.length).1 z 0) rows.length = _ ∧ NN (hit rows (fst rows ns rows.length).1 z 2) rows.length = _
    have hb : NN (hit rows (fst rows ns rows.length).1 z 0) rows.length ≤ 1 := by rw [h0]; split <;> decide
    lia
  have e := cnt_lftN (rows := rows) H.val m rows.length
  have k1 := (key m).1
  have k2 := (key (m / 2)).2
  show cnt (lftN rows (fst rows ns rows.length).1 rows.length) m = _
  unfold fell at k1 k2
  rw [e, k1, k2]
/-- two times -/
noncomputable def rows2 (rows : List (Nat × Nat)) (ns : List Int) : List (Nat × Nat) := lft (lft rows (fell rows ns)) (fell (lft rows (fell rows ns)) ns)
theorem cnt_two (rows : List (Nat × Nat)) (ns : List Int) {z b : Nat} (hz : z % 2 = 1) (hb : cnt rows z = b) (h2 : cnt rows (2 * z) = 0) (h4 : cnt rows (4 * z) = 0) :
    cnt (rows2 rows ns) z = b % 2 ∧ cnt (rows2 rows ns) (2 * z) = b / 2 % 2 ∧ cnt (rows2 rows ns) (4 * z) = b / 4 := by
  have a1 := cnt_fell rows ns z
  have a2 := cnt_fell rows ns (2 * z)
  have a4 := cnt_fell rows ns (4 * z)
  have c1 := cnt_fell (lft rows (fell rows ns)) ns z
  have c2 := cnt_fell (lft rows (fell rows ns)) ns (2 * z)
  have c4 := cnt_fell (lft rows (fell rows ns)) ns (4 * z)
  rw [if_neg (by lia)] at a1 c1
  rw [if_pos (by lia), show 2 * z / 2 = z by lia] at a2 c2
  rw [if_pos (by lia), show 4 * z / 2 = 2 * z by lia] at a4 c4
  unfold rows2
  rw [c1, c2, c4, a1, a2, a4, hb, h2, h4]
  lia
theorem leaves_ok {p q : Nat × Nat} {v : Int} (h : q ∈ leaves p v) : q.1 ≤ 2 * p.1 ∧ q.2 = p.2 := by
  unfold leaves at h
  split at h
  · cases h
  · split at h
    · rw [List.mem_singleton.mp h]; exact ⟨Nat.le_refl _, rfl⟩
    · rw [List.mem_singleton.mp h]; exact ⟨by lia, rfl⟩
theorem leaves_len (p : Nat × Nat) (v : Int) : (leaves p v).length ≤ 1 := by
  unfold leaves
  split
  · exact Nat.zero_le _
  · split <;> exact Nat.le_refl _
theorem lftN_len (rows : List (Nat × Nat)) (ps : List Int) : ∀ i, (lftN rows ps i).length ≤ i
  | 0 => Nat.le_refl _
  | i + 1 => by
    show (lftN rows ps i ++ leaves _ _).length ≤ _
    rw [List.length_append]
    exact Nat.add_le_add (lftN_len rows ps i) (leaves_len _ _)
theorem lftN_mem {rows : List (Nat × Nat)} {ps : List Int} {q : Nat × Nat} : ∀ {i}, i ≤ rows.length → q ∈ lftN rows ps i → ∃ p ∈ rows, q.1 ≤ 2 * p.1 ∧ q.2 = p.2
  | 0, _, h => by cases h
  | i + 1, hi, h => by
    rcases List.mem_append.mp h with h | h
    · exact lftN_mem (Nat.le_of_succ_le hi) h
    · have := leaves_ok h
      rw [List.getD_eq_getElem?_getD, List.getElem?_eq_getElem hi] at this
      exact ⟨_, List.getElem_mem hi, this⟩
end Mine
namespace Mine
open PySem PySem.W
theorem plain_cons (c : Nat) (p : Nat × Nat) (r : List (Nat × Nat)) : plain c (p :: r) = rowP c p ++ plain c r := List.flatMap_cons
theorem plain_app (c : Nat) (a b : List (Nat × Nat)) : plain c (a ++ b) = plain c a ++ plain c b := List.flatMap_append
theorem plain_head (c : Nat) (rows : List (Nat × Nat)) : (plain c rows).head? ≠ some 10 := by
  cases rows with
  | nil => simp [plain]
  | cons p r => rw [plain_cons]; unfold rowP; simp
theorem dots_rep {c : Nat} (h1 : c ≠ 46) (h2 : c ≠ 10) (r : List Nat) : ∀ n, dots false (List.replicate n c ++ r) = List.replicate n c ++ dots false r
  | 0 => rfl
  | n + 1 => by
    rw [List.replicate_succ, List.cons_append, List.cons_append]
    conv => lhs; unfold dots
    rw [if_neg (fun q => h1 q.2), show (c == 10) = false by simp [h2], dots_rep h1 h2 r n]
/-- quotedata of rows -/
theorem quote_rows {c : Nat} (h1 : c ≠ 46) (h2 : c ≠ 10) (h3 : c ≠ 13) : ∀ {rows : List (Nat × Nat)}, (∀ p ∈ rows, p.2 = 10 ∨ p.2 = 13) → dots true (crlf (plain c rows)) = sent c rows
  | [], _ => rfl
  | p :: r, h => by
    have ih := quote_rows h1 h2 h3 (rows := r) fun q hq => h q (List.mem_cons_of_mem _ hq)
    have e : crlf (plain c (p :: r)) = 46 :: (List.replicate p.1 c ++ 13 :: 10 :: crlf (plain c r)) := by
      rw [plain_cons]
      show crlf (((46 :: List.replicate p.1 c) ++ [p.2]) ++ plain c r) = _
      rw [List.append_assoc, crlf_skip (46 :: List.replicate p.1 c) _ (fun z hz => by
        rcases List.mem_cons.mp hz with rfl | hz
        · exact ⟨by decide, by decide⟩
        · rw [(List.mem_replicate.mp hz).2]; exact ⟨h2, h3⟩)]
      show 46 :: List.replicate p.1 c ++ crlf (p.2 :: plain c r) = _
      rcases h p List.mem_cons_self with e | e
      · rw [e, crlf_10]; rfl
      · rw [e, crlf_13 (plain_head c r)]; rfl
    rw [e]
    show 46 :: 46 :: dots false (List.replicate p.1 c ++ 13 :: 10 :: crlf (plain c r)) = rowS c p ++ sent c r
    rw [dots_rep h1 h2]
    show 46 :: 46 :: (List.replicate p.1 c ++ (13 :: 10 :: dots true (crlf (plain c r)))) = _
    rw [ih]
    unfold rowS
    simp
theorem sent_len (c : Nat) (rows : List (Nat × Nat)) : (sent c rows).length = (plain c rows).length + 2 * rows.length := by
  induction rows with
  | nil => rfl
  | cons p r ih =>
    show (rowS c p ++ sent c r).length = (rowP c p ++ plain c r).length + _
    rw [List.length_append, List.length_append, ih]
    unfold rowS rowP
    simp only [List.length_append, List.length_cons, List.length_replicate, List.length_nil]
    lia
/-! what is told by the double sign -/
noncomputable def pairOf (k : Nat) : Nat × Nat := [(102, 64256), (107, 13261), (115, 223)].getD k (0, 0)
theorem prep_base : prep [46] = [46] ∧ prep [10] = [10] ∧ prep [13] = [13] := by rw [prep_L, prep_L, prep_L]; decide +kernel
theorem prep_pair (k : Fin 3) : prep [(pairOf k.val).1] = [(pairOf k.val).1] ∧ prep [(pairOf k.val).2] = [(pairOf k.val).1, (pairOf k.val).1] := by rw [prep_L, prep_L]; revert k; decide +kernel
theorem prep_end {e : Nat} (h : e = 10 ∨ e = 13) : prep [e] = [e] := by
  rcases h with rfl | rfl
  · exact prep_base.2.1
  · exact prep_base.2.2
theorem prep_cons (x : Nat) (r : List Nat) : prep (x :: r) = prep [x] ++ prep r := prep_app [x] r
theorem prep_rep {c : Nat} (h : prep [c] = [c]) : ∀ n, prep (List.replicate n c) = List.replicate n c
  | 0 => rfl
  | n + 1 => by rw [List.replicate_succ, prep_cons, h, prep_rep h n]; rfl
theorem prep_dbl {c d : Nat} (h : prep [d] = [c, c]) : ∀ n, prep (List.replicate n d) = List.replicate (2 * n) c
  | 0 => rfl
  | n + 1 => by
    rw [List.replicate_succ, prep_cons, h, prep_dbl h n, show 2 * (n + 1) = 2 * n + 1 + 1 by lia, List.replicate_succ, List.replicate_succ]; rfl
theorem prep_plain {c : Nat} (h : prep [c] = [c]) : ∀ {rows : List (Nat × Nat)}, (∀ p ∈ rows, p.2 = 10 ∨ p.2 = 13) → prep (plain c rows) = plain c rows
  | [], _ => rfl
  | p :: r, hr => by
    rw [plain_cons, prep_app, prep_plain h fun q hq => hr q (List.mem_cons_of_mem _ hq)]
    unfold rowP
    rw [prep_app, prep_cons, prep_base.1, prep_rep h, prep_end (hr p List.mem_cons_self)]; rfl
/-- what the law tells of a row whose part is v -/
noncomputable def told (c d : Nat) (p : Nat × Nat) (v : Int) : List Nat := if v = 1 then 34 :: 46 :: (List.replicate p.1 c ++ [p.2, 34]) else if v = 2 then 46 :: (List.replicate p.1 d ++ [p.2]) else 46 :: (List.replicate p.1 c ++ [p.2])
noncomputable def outside (c d : Nat) (p : Nat × Nat) (v : Int) : List Nat := if v = 1 then [] else if v = 2 then 46 :: (List.replicate p.1 d ++ [p.2]) else 46 :: (List.replicate p.1 c ++ [p.2])
theorem no_q {c e n : Nat} (hc : c ≠ 34) (he : e ≠ 34) : ¬ 34 ∈ 46 :: (List.replicate n c ++ [e]) := fun h => by
  rcases List.mem_cons.mp h with h | h
  · exact absurd h (by decide)
  · rcases List.mem_append.mp h with h | h
    · exact hc (List.mem_replicate.mp h).2.symm
    · exact he (List.mem_singleton.mp h).symm
theorem ost_told {c d : Nat} (hc : c ≠ 34) (hd : d ≠ 34) {p : Nat × Nat} (he : p.2 ≠ 34) (v : Int) (a : List Nat) : (told c d p v).foldl ostep (false, a) = (false, a ++ outside c d p v) := by
  unfold told outside
  split
  · rw [List.append_nil, show (34 :: 46 :: (List.replicate p.1 c ++ [p.2, 34])) = [34] ++ ((46 :: (List.replicate p.1 c ++ [p.2])) ++ [34]) by simp, List.foldl_append, List.foldl_append,
      show [34].foldl ostep (false, a) = (true, a) from rfl, ost_in (no_q hc he)]; rfl
  · split
    · exact ost_plain (no_q hd he) a
    · exact ost_plain (no_q hc he) a
theorem prep_outside {c d : Nat} (hc : prep [c] = [c]) (hd : prep [d] = [c, c]) {p : Nat × Nat} (he : p.2 = 10 ∨ p.2 = 13) (v : Int) : prep (outside c d p v) = plain c (leaves p v) := by
  unfold outside leaves
  split
  · rfl
  · split
    · rw [prep_cons, prep_base.1, prep_app, prep_dbl hd, prep_end he]
      show _ = rowP c _ ++ []
      rw [List.append_nil]; rfl
    · rw [prep_cons, prep_base.1, prep_app, prep_rep hc, prep_end he]
      show _ = rowP c _ ++ []
      rw [List.append_nil]; rfl
theorem told_len (c d : Nat) (p : Nat × Nat) (v : Int) : (told c d p v).length ≤ p.1 + 4 := by
  unfold told
  split
  · simp
  · split <;> simp <;> lia
theorem told_92 {c d : Nat} (hc : c ≠ 92) (hd : d ≠ 92) {p : Nat × Nat} (he : p.2 ≠ 92) (v : Int) : ∀ z ∈ told c d p v, z ≠ 92 := by
  have r : ∀ (x n z : Nat), x ≠ 92 → z ∈ List.replicate n x → z ≠ 92 := fun x n z hx h => (List.mem_replicate.mp h).2 ▸ hx
  intro z
  unfold told
  split
  · intro h
    simp only [List.mem_cons, List.mem_append, List.not_mem_nil, or_false] at h
    rcases h with rfl | rfl | h | rfl | rfl
    · decide
    · decide
    · exact r _ _ _ hc h
    · exact he
    · decide
  · split
    · intro h
      simp only [List.mem_cons, List.mem_append, List.not_mem_nil, or_false] at h
      rcases h with rfl | h | rfl
      · decide
      · exact r _ _ _ hd h
      · exact he
    · intro h
      simp only [List.mem_cons, List.mem_append, List.not_mem_nil, or_false] at h
      rcases h with rfl | h | rfl
      · decide
      · exact r _ _ _ hc h
      · exact he
/-! spelled letters -/
theorem unseen_27 (n : Int) : unseen n = unseen (n.fmod 27) := by
  have h : (n.fmod 27).fmod 27 = n.fmod 27 := by
    have := fmod_27 n
    rw [Int.fmod_eq_of_lt this.1 this.2]
  unfold unseen
  rw [h]
theorem prep_unseen (n : Int) : prep [unseen n] = [] := by
  rw [unseen_27]
  have h := fmod_27 n
  have := prep_lone ⟨(n.fmod 27).toNat, by lia⟩
  rwa [show (((n.fmod 27).toNat : Nat) : Int) = n.fmod 27 by lia] at this
theorem spelled_prep (k : Fin 3) (d : Int) : prep (spelled (pairOf k.val).1 d) = [(pairOf k.val).1] := by
  have e : (pairOf k.val).1 = [102, 107, 115].getD k.val 0 := by revert k; decide
  unfold spelled
  split
  · exact (prep_pair k).1
  · split
    · rw [e]; have := prep_cap k; rwa [show ((([102, 107, 115].getD k.val 0 : Nat) : Int) - 32).toNat = [102, 107, 115].getD k.val 0 - 32 by lia]
    · split
      · have h1 := Int.fmod_nonneg_of_pos (d.fdiv 4) (show (0 : Int) < 10 by decide)
        have h2 := Int.fmod_lt_of_pos (d.fdiv 4) (show (0 : Int) < 10 by decide)
        rw [e]; exact prep_math k ⟨((d.fdiv 4).fmod 10).toNat, by lia⟩
      · rw [prep_cons, (prep_pair k).1, prep_unseen]; rfl
theorem spelled_len (c : Nat) (d : Int) : (spelled c d).length ≤ 2 := by
  unfold spelled
  split
  · exact Nat.le_succ 1
  · split
    · exact Nat.le_succ 1
    · split
      · exact Nat.le_succ 1
      · exact Nat.le_refl 2
end Mine
namespace Mine
open PySem PySem.W
/-- rows of one, three and five letters, so many of each -/
structure Built (rows : List (Nat × Nat)) (a b c : Nat) : Prop where
  sizes : ∀ p ∈ rows, p.1 = 1 ∨ p.1 = 3 ∨ p.1 = 5
  ends : ∀ p ∈ rows, p.2 = 10 ∨ p.2 = 13
  one : cnt rows 1 = a
  three : cnt rows 3 = b
  five : cnt rows 5 = c
  len : rows.length = a + b + c
theorem Built.nil : Built [] 0 0 0 := ⟨fun _ h => absurd h List.not_mem_nil, fun _ h => absurd h List.not_mem_nil, rfl, rfl, rfl, rfl⟩
/-- a row laid in -/
noncomputable def laid (rows : List (Nat × Nat)) (at' : Nat) (p : Nat × Nat) : List (Nat × Nat) := rows.take at' ++ [p] ++ rows.drop at'
theorem cnt_laid (rows : List (Nat × Nat)) (at' : Nat) (p : Nat × Nat) (m : Nat) : cnt (laid rows at' p) m = cnt rows m + if p.1 = m then 1 else 0 := by
  unfold laid
  rw [cnt_app, cnt_app, cnt_one]
  have : cnt rows m = cnt (rows.take at') m + cnt (rows.drop at') m := by rw [← cnt_app, List.take_append_drop]
  lia
theorem mem_laid {rows : List (Nat × Nat)} {at' : Nat} {p q : Nat × Nat} (h : q ∈ laid rows at' p) : q ∈ rows ∨ q = p := by
  unfold laid at h
  rcases List.mem_append.mp h with h | h
  · rcases List.mem_append.mp h with h | h
    · exact .inl (List.mem_of_mem_take h)
    · exact .inr (List.mem_singleton.mp h)
  · exact .inl (List.mem_of_mem_drop h)
theorem len_laid (rows : List (Nat × Nat)) (at' : Nat) (p : Nat × Nat) : (laid rows at' p).length = rows.length + 1 := by
  unfold laid
  have : rows.length = (rows.take at').length + (rows.drop at').length := by rw [← List.length_append, List.take_append_drop]
  rw [List.length_append, List.length_append, List.length_singleton]
  lia
theorem Built.lay {rows : List (Nat × Nat)} {a b c at' k e : Nat} (B : Built rows a b c) (hk : k < 3) (he : e = 10 ∨ e = 13) : Built (laid rows at' (2 * k + 1, e)) (a + if k = 0 then 1 else 0) (b + if k = 1 then 1 else 0) (c + if k = 2 then 1 else 0) := by
  refine ⟨fun p h => ?_, fun p h => ?_, ?_, ?_, ?_, ?_⟩
  · rcases mem_laid h with h | rfl
    · exact B.sizes p h
    · show 2 * k + 1 = 1 ∨ 2 * k + 1 = 3 ∨ 2 * k + 1 = 5
      lia
  · rcases mem_laid h with h | rfl
    · exact B.ends p h
    · exact he
  · rw [cnt_laid, B.one]; show a + (if 2 * k + 1 = 1 then 1 else 0) = _; congr 1; by_cases h : k = 0 <;> simp [h]; lia
  · rw [cnt_laid, B.three]; show b + (if 2 * k + 1 = 3 then 1 else 0) = _; congr 1; by_cases h : k = 1 <;> simp [h]; lia
  · rw [cnt_laid, B.five]; show c + (if 2 * k + 1 = 5 then 1 else 0) = _; congr 1; by_cases h : k = 2 <;> simp [h]; lia
  · rw [len_laid, B.len]
    obtain rfl | rfl | rfl : k = 0 ∨ k = 1 ∨ k = 2 := by lia
    · simp; lia
    · simp; lia
    · simp; lia
theorem Built.none {rows : List (Nat × Nat)} {a b c m : Nat} (B : Built rows a b c) (h1 : m ≠ 1) (h3 : m ≠ 3) (h5 : m ≠ 5) : cnt rows m = 0 := by
  unfold cnt
  rw [List.length_eq_zero_iff, List.filter_eq_nil_iff]
  intro p hp q
  have e : p.1 = m := by simpa using q
  rcases B.sizes p hp with h | h | h
  · exact h1 (e ▸ h)
  · exact h3 (e ▸ h)
  · exact h5 (e ▸ h)
noncomputable def nameK (k : Nat) : Str := ["OPTIMIZED", "NEWLOCALS", "VARARGS", "VARKEYWORDS", "NESTED", "GENERATOR", "NOFREE", "COROUTINE"].getD k ""
noncomputable def unlike (k : Nat) : Nat := (2 * (k / 3) + 1) * 2 ^ (k % 3)
/-- the flags that are due for rows -/
noncomputable def dueOf (rows : List (Nat × Nat)) : List Str := (List.range 8).flatMap fun k => List.replicate (cnt rows (unlike k)) (nameK k)
noncomputable def dueN (n : Nat) : List Str := (List.range 8).flatMap fun k => List.replicate (n / 2 ^ k % 2) (nameK k)
noncomputable def wordsN (n : Nat) : List Str := if dueN n = [] then [Str.ofString "0x0"] else dueN n
theorem digits : ∀ n : Fin 256, n.val % 8 % 2 = n.val / 2 ^ 0 % 2 ∧ n.val % 8 / 2 % 2 = n.val / 2 ^ 1 % 2 ∧ n.val % 8 / 4 = n.val / 2 ^ 2 % 2 ∧ n.val / 8 % 8 % 2 = n.val / 2 ^ 3 % 2 ∧ n.val / 8 % 8 / 2 % 2 = n.val / 2 ^ 4 % 2 ∧ n.val / 8 % 8 / 4 = n.val / 2 ^ 5 % 2 ∧ n.val / 64 % 8 % 2 = n.val / 2 ^ 6 % 2 ∧ n.val / 64 % 8 / 2 % 2 = n.val / 2 ^ 7 % 2 := by decide +kernel
/-- Glaisher: after two times the flags due are the number's -/
theorem due_two {rows : List (Nat × Nat)} {a b c n : Nat} (ns : List Int) (B : Built rows a b c) (ha : a = n % 8) (hb : b = n / 8 % 8) (hc : c = n / 64 % 8) (hn : n < 256) : dueOf (rows2 rows ns) = dueN n := by
  obtain ⟨a0, a1, a2⟩ := cnt_two rows ns (z := 1) (by decide) B.one (B.none (by decide) (by decide) (by decide)) (B.none (by decide) (by decide) (by decide))
  obtain ⟨b0, b1, b2⟩ := cnt_two rows ns (z := 3) (by decide) B.three (B.none (by decide) (by decide) (by decide)) (B.none (by decide) (by decide) (by decide))
  obtain ⟨c0, c1, c2⟩ := cnt_two rows ns (z := 5) (by decide) B.five (B.none (by decide) (by decide) (by decide)) (B.none (by decide) (by decide) (by decide))
  have key : ∀ k, k < 8 → cnt (rows2 rows ns) (unlike k) = n / 2 ^ k % 2 := by
    intro k hk
    obtain ⟨d0, d1, d2, d3, d4, d5, d6, d7⟩ := digits ⟨n, hn⟩
    subst ha hb hc
    match k, hk with
    | 0, _ => exact a0.trans d0
    | 1, _ => exact a1.trans d1
    | 2, _ => exact a2.trans d2
    | 3, _ => exact b0.trans d3
    | 4, _ => exact b1.trans d4
    | 5, _ => exact b2.trans d5
    | 6, _ => exact c0.trans d6
    | 7, _ => exact c1.trans d7
  unfold dueOf dueN
  rw [List.flatMap_def, List.flatMap_def]
  congr 1
  refine List.map_congr_left fun k hk => ?_
  rw [key k (List.mem_range.mp hk)]
theorem num_of {n : Nat} (hn : n < 256) : (n / 64 % 8) * 64 + (8 * (n / 8 % 8) + n % 8) = n := by lia
end Mine
namespace Mine
open PySem PySem.W PySem.Calls PyProof.Rows PySem.Spec
noncomputable def lawBody : List Stmt := match (fnp 25).2.1 with
  | .stmts b => b
  | _ => []
/-- what stands from the fourth statement on: the number, the numbers, the letter and its double sign -/
structure Bs (L' : Addr) (m : Str → Option Value) (n : Nat) (g : Fin 3) (ns : List Int) (ws : List Value) (U : Addr) (uc : Nat) (tl : List (Addr × Obj)) : Prop where
  hn : n < 256
  n3 : 3 ≤ ns.length
  n20 : ns.length ≤ 20
  nb : ∀ x ∈ ns, 0 ≤ x ∧ x < 1000000
  hI : IntsAre ws ns
  hU : (U, listOf ws.toArray uc) ∈ tl
  off : OwnOff tl [L' + 1 + 1 + 1 + 1, L' + 1 + 1 + 1, L' + 1 + 1, L' + 1]
  mn : ∃ t, m "number" = some (.int (n : Int) t)
  mU : m "nums" = some (.ref U)
  mc : ∃ t, m "letter" = some (.str ⟨#[(pairOf g.val).1]⟩ t)
  md : ∃ t, m "double" = some (.str ⟨#[(pairOf g.val).2]⟩ t)
theorem own_off {L' : Nat} {tl : List (Addr × Obj)} (h : ∀ p ∈ tl, @LT.lt Nat _ (L' + 4) p.1) : OwnOff tl [L' + 1 + 1 + 1 + 1, L' + 1 + 1 + 1, L' + 1 + 1, L' + 1] := fun p hp b hb => by
  have := h p hp
  simp only [List.mem_cons, List.not_mem_nil, or_false] at hb
  rcases hb with rfl | rfl | rfl | rfl <;> lia
theorem OwnOff.one {L' : Nat} {d : Addr} {o : Obj} {tl : List (Addr × Obj)} (h : OwnOff tl [L' + 1 + 1 + 1 + 1, L' + 1 + 1 + 1, L' + 1 + 1, L' + 1]) (hd : @LT.lt Nat _ (L' + 1 + 1 + 1 + 1) d) : OwnOff ((d, o) :: tl) [L' + 1 + 1 + 1 + 1, L' + 1 + 1 + 1, L' + 1 + 1, L' + 1] := fun p hp => by
  rcases List.mem_cons.mp hp with rfl | hp
  · intro b hb
    simp only [List.mem_cons, List.not_mem_nil, or_false] at hb
    rcases hb with rfl | rfl | rfl | rfl <;> dsimp only <;> lia
  · exact h p hp
theorem OwnOff.app {a b : List (Addr × Obj)} {l : List Addr} (h : OwnOff a l) (hb : OwnOff b l) : OwnOff (a ++ b) l := fun p hp => (List.mem_append.mp hp).elim (h p) (hb p)
theorem Bs.set {L' : Addr} {m m' : Str → Option Value} {n : Nat} {g : Fin 3} {ns : List Int} {ws : List Value} {U : Addr} {uc : Nat} {tl tl' : List (Addr × Obj)} (B : Bs L' m n g ns ws U uc tl) (h1 : m' "number" = m "number") (h2 : m' "nums" = m "nums") (h3 : m' "letter" = m "letter") (h4 : m' "double" = m "double")
    (hs : ∀ p ∈ tl, p ∈ tl') (ho : OwnOff tl' [L' + 1 + 1 + 1 + 1, L' + 1 + 1 + 1, L' + 1 + 1, L' + 1]) : Bs L' m' n g ns ws U uc tl' :=
  ⟨B.hn, B.n3, B.n20, B.nb, B.hI, hs _ B.hU, ho, by rw [h1]; exact B.mn, by rw [h2]; exact B.mU, by rw [h3]; exact B.mc, by rw [h4]; exact B.md⟩
theorem Bs.frame {L' : Addr} {m : Str → Option Value} {n : Nat} {g : Fin 3} {ns : List Int} {ws : List Value} {U : Addr} {uc : Nat} {tl : List (Addr × Obj)} (B : Bs L' m n g ns ws U uc tl) : ∃ (m₀ : Str → Option Value) (t tc td : Tok),
    m = fun z : Str => if z = "number" then some (.int (n : Int) t) else if z = "nums" then some (.ref U) else if z = "letter" then some (.str ⟨#[(pairOf g.val).1]⟩ tc) else if z = "double" then some (.str ⟨#[(pairOf g.val).2]⟩ td) else m₀ z := by
  obtain ⟨t, h0⟩ := B.mn
  have h1 := B.mU
  obtain ⟨tc, h2⟩ := B.mc
  obtain ⟨td, h3⟩ := B.md
  refine ⟨m, t, tc, td, ?_⟩
  funext z
  by_cases e0 : z = "number"
  · rw [if_pos e0, e0, h0]
  rw [if_neg e0]
  by_cases e1 : z = "nums"
  · rw [if_pos e1, e1, h1]
  rw [if_neg e1]
  by_cases e2 : z = "letter"
  · rw [if_pos e2, e2, h2]
  rw [if_neg e2]
  by_cases e3 : z = "double"
  · rw [if_pos e3, e3, h3]
  rw [if_neg e3]
theorem cells_in {g h : Heap} {L : Addr} {q a b c d : Addr × Obj} {tl : List (Addr × Obj)} (N : News g L h (q :: a :: b :: c :: d :: tl)) : News g L h ([a, b, c, d] ++ (q :: tl)) := fun p hp => N p (by
  simp only [List.cons_append, List.nil_append, List.mem_cons] at hp ⊢
  rcases hp with h | h | h | h | h | h <;> simp [h])
theorem subs_cons {a : Addr × Obj} {r l : List (Addr × Obj)} (h1 : List.Mem a l) (h2 : ∀ p ∈ r, p ∈ l) : ∀ p ∈ a :: r, p ∈ l := List.forall_mem_cons.mpr ⟨h1, h2⟩
theorem pack4 {g h : Heap} {L : Addr} {a b c d : Addr × Obj} {tl own : List (Addr × Obj)} (N : News g L h ([a, b, c, d] ++ tl ++ own)) : News g L h (a :: b :: c :: d :: (tl ++ own)) := by
  simpa only [List.cons_append, List.nil_append, List.append_assoc] using N
noncomputable def Seg0 (w : World) (loose : List Str) (mean : ExcName → Option Value) (mg mb : Str → Option Value) (h₀ : Heap) (L' fa l : Addr) (cdv : Value) (s0 : Shared) (Q : Flow → Shared → Prop) (E : Value → Shared → Prop) : Prop :=
  ∀ (s : Shared) (o1 o2 o3 o4 : Obj), Later s0 s → Fr h₀ L' s.heap (fun y : Str => if y = "script" then some (Value.ref l) else none) → News h₀ L' s.heap [(L' + 1 + 1 + 1 + 1, o4), (L' + 1 + 1 + 1, o3), (L' + 1 + 1, o2), (L' + 1, o1)] →
    o1.data = .cell none → o2.data = .cell none → o3.data = .cell none → o4.data = .cell none → wpAny (model rwp w) (callerA.deeper (envOfC "law" (fnp 25).2.2 L' fa cdv)) (execs (lawBody.drop 0) (envOfC "law" (fnp 25).2.2 L' fa cdv)) Q E s
noncomputable def Seg4 (w : World) (loose : List Str) (mean : ExcName → Option Value) (mg mb : Str → Option Value) (h₀ : Heap) (L' fa l : Addr) (cdv : Value) (s0 : Shared) (Q : Flow → Shared → Prop) (E : Value → Shared → Prop) : Prop :=
  ∀ (s : Shared) (m : Str → Option Value) (n : Nat) (g : Fin 3) (ns : List Int) (ws : List Value) (U : Addr) (uc : Nat) (tl : List (Addr × Obj))  (o1 o2 o3 o4 : Obj), Bs L' m n g ns ws U uc tl →  Later s0 s → Fr h₀ L' s.heap m → News h₀ L' s.heap ([(L' + 1 + 1 + 1 + 1, o4), (L' + 1 + 1 + 1, o3), (L' + 1 + 1, o2), (L' + 1, o1)] ++ tl) →
    o1.data = .cell none → o2.data = .cell none → o3.data = .cell none → o4.data = .cell none → wpAny (model rwp w) (callerA.deeper (envOfC "law" (fnp 25).2.2 L' fa cdv)) (execs (lawBody.drop 4) (envOfC "law" (fnp 25).2.2 L' fa cdv)) Q E s
noncomputable def Seg6 (w : World) (loose : List Str) (mean : ExcName → Option Value) (mg mb : Str → Option Value) (h₀ : Heap) (L' fa l : Addr) (cdv : Value) (s0 : Shared) (Q : Flow → Shared → Prop) (E : Value → Shared → Prop) : Prop :=
  ∀ (s : Shared) (m : Str → Option Value) (n : Nat) (g : Fin 3) (ns : List Int) (ws : List Value) (U : Addr) (uc : Nat) (tl : List (Addr × Obj)) (rows : List (Nat × Nat)) (its : List Value) (R : Addr) (rn : Nat) (v2 : Option Value) (o1 o2 o3 o4 : Obj), Bs L' m n g ns ws U uc tl → (R, listOf its.toArray rn) ∈ tl → RowsAre tl its rows → Built rows (n % 8) (n / 8 % 8) (n / 64 % 8) → Later s0 s → Fr h₀ L' s.heap m → News h₀ L' s.heap ([(L' + 1 + 1 + 1 + 1, o4), (L' + 1 + 1 + 1, o3), (L' + 1 + 1, o2), (L' + 1, o1)] ++ tl) →
    o1.data = .cell (some (.ref R)) → o2.data = .cell v2 → o3.data = .cell none → o4.data = .cell none → wpAny (model rwp w) (callerA.deeper (envOfC "law" (fnp 25).2.2 L' fa cdv)) (execs (lawBody.drop 6) (envOfC "law" (fnp 25).2.2 L' fa cdv)) Q E s
noncomputable def Seg8 (w : World) (loose : List Str) (mean : ExcName → Option Value) (mg mb : Str → Option Value) (h₀ : Heap) (L' fa l : Addr) (cdv : Value) (s0 : Shared) (Q : Flow → Shared → Prop) (E : Value → Shared → Prop) : Prop :=
  ∀ (s : Shared) (m : Str → Option Value) (n : Nat) (g : Fin 3) (ns : List Int) (ws : List Value) (U : Addr) (uc : Nat) (tl : List (Addr × Obj)) (rows : List (Nat × Nat)) (its : List Value) (R : Addr) (rn : Nat) (v2 : Option Value) (ml : List Nat) (tm : Tok) (o1 o2 o3 o4 : Obj), Bs L' m n g ns ws U uc tl → (R, listOf its.toArray rn) ∈ tl → RowsAre tl its rows → Built rows (n % 8) (n / 8 % 8) (n / 64 % 8) → m "mail" = some (.str (T ml) tm) → ml.length ≤ 1000 → prep ml = plain (pairOf g.val).1 rows → Later s0 s → Fr h₀ L' s.heap m → News h₀ L' s.heap ([(L' + 1 + 1 + 1 + 1, o4), (L' + 1 + 1 + 1, o3), (L' + 1 + 1, o2), (L' + 1, o1)] ++ tl) →
    o1.data = .cell (some (.ref R)) → o2.data = .cell v2 → o3.data = .cell none → o4.data = .cell none → wpAny (model rwp w) (callerA.deeper (envOfC "law" (fnp 25).2.2 L' fa cdv)) (execs (lawBody.drop 8) (envOfC "law" (fnp 25).2.2 L' fa cdv)) Q E s
noncomputable def Seg10 (w : World) (loose : List Str) (mean : ExcName → Option Value) (mg mb : Str → Option Value) (h₀ : Heap) (L' fa l : Addr) (cdv : Value) (s0 : Shared) (Q : Flow → Shared → Prop) (E : Value → Shared → Prop) : Prop :=
  ∀ (s : Shared) (m : Str → Option Value) (n : Nat) (g : Fin 3) (ns : List Int) (ws : List Value) (U : Addr) (uc : Nat) (tl : List (Addr × Obj)) (rows : List (Nat × Nat)) (its : List Value) (R : Addr) (rn : Nat) (v2 : Option Value) (o1 o2 o3 o4 : Obj), Bs L' m n g ns ws U uc tl → (R, listOf its.toArray rn) ∈ tl → RowsAre tl its rows → Built rows (n % 8) (n / 8 % 8) (n / 64 % 8) → Later s0 s → Fr h₀ L' s.heap m → News h₀ L' s.heap ([(L' + 1 + 1 + 1 + 1, o4), (L' + 1 + 1 + 1, o3), (L' + 1 + 1, o2), (L' + 1, o1)] ++ tl) →
    o1.data = .cell (some (.ref R)) → o2.data = .cell v2 → o3.data = .cell none → o4.data = .cell none → wpAny (model rwp w) (callerA.deeper (envOfC "law" (fnp 25).2.2 L' fa cdv)) (execs (lawBody.drop 10) (envOfC "law" (fnp 25).2.2 L' fa cdv)) Q E s
noncomputable def Seg12 (w : World) (loose : List Str) (mean : ExcName → Option Value) (mg mb : Str → Option Value) (h₀ : Heap) (L' fa l : Addr) (cdv : Value) (s0 : Shared) (Q : Flow → Shared → Prop) (E : Value → Shared → Prop) : Prop :=
  ∀ (s : Shared) (m : Str → Option Value) (n : Nat) (g : Fin 3) (ns : List Int) (ws : List Value) (U : Addr) (uc : Nat) (tl : List (Addr × Obj)) (rows : List (Nat × Nat)) (its : List Value) (R : Addr) (rn : Nat) (v2 : Option Value) (G : Addr) (gn : Nat) (t0 t1 t2 : Tok) (o1 o2 o3 o4 : Obj), Bs L' m n g ns ws U uc tl → (R, listOf its.toArray rn) ∈ tl → RowsAre tl its rows → Built rows (n % 8) (n / 8 % 8) (n / 64 % 8) → m "grown" = some (.ref G) → (G, listOf #[.int ((n % 8 : Nat) : Int) t0, .int ((n / 8 % 8 : Nat) : Int) t1, .int ((n / 64 % 8 : Nat) : Int) t2] gn) ∈ tl → Later s0 s → Fr h₀ L' s.heap m → News h₀ L' s.heap ([(L' + 1 + 1 + 1 + 1, o4), (L' + 1 + 1 + 1, o3), (L' + 1 + 1, o2), (L' + 1, o1)] ++ tl) →
    o1.data = .cell (some (.ref R)) → o2.data = .cell v2 → o3.data = .cell none → o4.data = .cell none → wpAny (model rwp w) (callerA.deeper (envOfC "law" (fnp 25).2.2 L' fa cdv)) (execs (lawBody.drop 12) (envOfC "law" (fnp 25).2.2 L' fa cdv)) Q E s
noncomputable def Seg16 (w : World) (loose : List Str) (mean : ExcName → Option Value) (mg mb : Str → Option Value) (h₀ : Heap) (L' fa l : Addr) (cdv : Value) (s0 : Shared) (Q : Flow → Shared → Prop) (E : Value → Shared → Prop) : Prop :=
  ∀ (s : Shared) (m : Str → Option Value) (n : Nat) (g : Fin 3) (ns : List Int) (ws : List Value) (U : Addr) (uc : Nat) (tl : List (Addr × Obj)) (rows : List (Nat × Nat)) (its : List Value) (R : Addr) (rn : Nat) (v2 : Option Value) (NM FL : Addr) (nk fk : Nat) (fl nl : List (Str × Tok)) (o1 o2 o3 o4 : Obj), Bs L' m n g ns ws U uc tl → (R, listOf its.toArray rn) ∈ tl → RowsAre tl its rows → Built rows (n % 8) (n / 8 % 8) (n / 64 % 8) → (NM, listOf (strValues nl).toArray nk) ∈ tl → nl.map (·.1) = (List.range 8).map nameK → m "flags" = some (.ref FL) → (FL, listOf (strValues fl).toArray fk) ∈ tl → fl.map (·.1) = wordsN n → Later s0 s → Fr h₀ L' s.heap m → News h₀ L' s.heap ([(L' + 1 + 1 + 1 + 1, o4), (L' + 1 + 1 + 1, o3), (L' + 1 + 1, o2), (L' + 1, o1)] ++ tl) →
    o1.data = .cell (some (.ref R)) → o2.data = .cell v2 → o3.data = .cell (some (.ref NM)) → o4.data = .cell none → wpAny (model rwp w) (callerA.deeper (envOfC "law" (fnp 25).2.2 L' fa cdv)) (execs (lawBody.drop 16) (envOfC "law" (fnp 25).2.2 L' fa cdv)) Q E s
noncomputable def Seg17 (w : World) (loose : List Str) (mean : ExcName → Option Value) (mg mb : Str → Option Value) (h₀ : Heap) (L' fa l : Addr) (cdv : Value) (s0 : Shared) (Q : Flow → Shared → Prop) (E : Value → Shared → Prop) : Prop :=
  ∀ (s : Shared) (m : Str → Option Value) (n : Nat) (g : Fin 3) (ns : List Int) (ws : List Value) (U : Addr) (uc : Nat) (tl : List (Addr × Obj)) (rows : List (Nat × Nat)) (its : List Value) (R : Addr) (rn : Nat) (v2 : Option Value) (NM FL : Addr) (nk fk : Nat) (fl nl : List (Str × Tok)) (rows0 : List (Nat × Nat)) (ml : List Nat) (tm : Tok) (o1 o2 o3 o4 : Obj), Bs L' m n g ns ws U uc tl → (R, listOf its.toArray rn) ∈ tl → RowsAre tl its rows → Built rows0 (n % 8) (n / 8 % 8) (n / 64 % 8) → rows = rows2 rows0 ns → (NM, listOf (strValues nl).toArray nk) ∈ tl → nl.map (·.1) = (List.range 8).map nameK → m "flags" = some (.ref FL) → (FL, listOf (strValues fl).toArray fk) ∈ tl → fl.map (·.1) = wordsN n → m "mail" = some (.str (T ml) tm) → ml = plain (pairOf g.val).1 rows → Later s0 s → Fr h₀ L' s.heap m → News h₀ L' s.heap ([(L' + 1 + 1 + 1 + 1, o4), (L' + 1 + 1 + 1, o3), (L' + 1 + 1, o2), (L' + 1, o1)] ++ tl) →
    o1.data = .cell (some (.ref R)) → o2.data = .cell v2 → o3.data = .cell (some (.ref NM)) → o4.data = .cell none → wpAny (model rwp w) (callerA.deeper (envOfC "law" (fnp 25).2.2 L' fa cdv)) (execs (lawBody.drop 17) (envOfC "law" (fnp 25).2.2 L' fa cdv)) Q E s
end Mine
namespace Mine
open PySem PySem.W PySem.Calls PyProof.Rows PySem.Spec
theorem stop_rows {M : Model} {A : Around} {E : Value → Shared → Prop} {s : Shared} {Q : Flow → Shared → Prop} {p v u r env} (h : Hold (wpAny M A (execs (.Assign [.Name (Str.ofString "rows") p] v u :: r) env) Q E s)) : wpAny M A (execs (.Assign [.Name (Str.ofString "rows") p] v u :: r) env) Q E s := h.1
local macro_rules | `(tactic| walk_at "execs cons") => `(tactic| with_reducible apply stop_rows)
/-- the numbers that the law goes by -/
noncomputable def numsOf (xs : List Int) : List Int := (List.take (min 12 xs.length - 1) (List.drop 1 xs)).map (fun k => k.fmod 1000000) ++ [6, 75, 11]
theorem numsOf_ok {xs : List Int} : 3 ≤ (numsOf xs).length ∧ (numsOf xs).length ≤ 20 ∧ ∀ x ∈ numsOf xs, 0 ≤ x ∧ x < 1000000 := by
  unfold numsOf
  refine ⟨by rw [List.length_append]; exact Nat.le_add_left _ _, ?_, fun x hx => ?_⟩
  · rw [List.length_append, List.length_map, List.length_take]
    show min (min 12 xs.length - 1) _ + 3 ≤ 20
    lia
  · rcases List.mem_append.mp hx with hx | hx
    · obtain ⟨y, _, rfl⟩ := List.mem_map.mp hx
      exact ⟨Int.fmod_nonneg_of_pos _ (by decide), Int.fmod_lt_of_pos _ (by decide)⟩
    · simp only [List.mem_cons, List.not_mem_nil, or_false] at hx
      rcases hx with rfl | rfl | rfl <;> decide
theorem fks0 : Txt.item (Str.ofString "fks") 0 = ⟨#[102]⟩ := by decide +kernel
theorem fks1 : Txt.item (Str.ofString "fks") 1 = ⟨#[107]⟩ := by decide +kernel
theorem fks2 : Txt.item (Str.ofString "fks") 2 = ⟨#[115]⟩ := by decide +kernel
theorem news_swap {h₀ h : Heap} {L : Addr} {a b : List (Addr × Obj)} (N : News h₀ L h (a ++ b)) : News h₀ L h (b ++ a) := fun p hp => N p ((List.mem_append.mp hp).elim (List.mem_append_right _) (List.mem_append_left _))
theorem tail_two {h₀ h : Heap} {L : Addr} {a b c d e f : Addr × Obj} {r : List (Addr × Obj)} (N : News h₀ L h (a :: b :: c :: d :: e :: f :: r)) : News h₀ L h (r ++ [b]) := fun p hp => N p (by
  rcases List.mem_append.mp hp with hp | hp
  · exact List.mem_cons_of_mem _ (List.mem_cons_of_mem _ (List.mem_cons_of_mem _ (List.mem_cons_of_mem _ (List.mem_cons_of_mem _ (List.mem_cons_of_mem _ hp)))))
  · rw [List.mem_singleton.mp hp]; exact List.mem_cons_of_mem _ List.mem_cons_self)
theorem number_ok (z : Int) : ∃ n : Nat, n < 256 ∧ (z + 84).fmod 256 = (n : Int) := by
  have a := Int.fmod_nonneg_of_pos (z + 84) (show (0 : Int) < 256 by decide)
  have b := Int.fmod_lt_of_pos (z + 84) (show (0 : Int) < 256 by decide)
  exact ⟨((z + 84).fmod 256).toNat, by lia, by lia⟩
set_option maxHeartbeats 1600000 in
theorem seg0 (w : World) (loose : List Str) (mean : ExcName → Option Value) (mg mb : Str → Option Value) (h₀ : Heap) (L' fa l : Addr) (cdv : Value) (s0 : Shared) (Q : Flow → Shared → Prop) (E : Value → Shared → Prop) (vs : List Value) (xs : List Int)
    (X : (K w.params).In h₀) (TT : Top qv loose mean mg mb h₀) (B : Below callerA h₀ [] h₀) (hl : h₀.IsList l vs.toArray) (hI : IntsAre vs xs) (h63 : xs.length ≤ 63) (h4 : Seg4 w loose mean mg mb h₀ L' fa l cdv s0 Q E) : Seg0 w loose mean mg mb h₀ L' fa l cdv s0 Q E := by
  unfold Seg0 rwp
  revert X
  k_fill
  intro X s o1 o2 o3 o4 hL F N d1 d2 d3 d4
  show wpAny _ _ (execs (_ :: _) _) _ _ _
  k_steps
  all_goals (refine ⟨?_⟩; rename Fr h₀ L' _ _ => F9; rename News h₀ L' _ _ => N9; rename IntsAre _ (_ ++ [6, 75, 11]) => hI9)
  all_goals (obtain ⟨n, hn, en⟩ := number_ok (List.take 1 xs).sum)
  all_goals (rename Int.fmod _ 3 = _ => e3)
  all_goals (rw [en, e3] at F9)
  all_goals (obtain ⟨b1, b2, b3⟩ := numsOf_ok (xs := xs))
  · rw [fks0] at F9
    refine h4 _ _ n 0 _ _ _ 0 [(_, _)] o1 o2 o3 o4 ⟨hn, b1, b2, b3, hI9, List.mem_cons_self, ?_, ⟨_, by rfl⟩, by rfl, ⟨_, by rfl⟩, ⟨_, by rfl⟩⟩ ⟨hL.1, hL.2⟩ F9 (tail_two N9) d1 d2 d3 d4
    refine own_off fun p hp => ?_
    rw [List.mem_singleton.mp hp]
    dsimp only
    omega
  · rw [fks1] at F9
    refine h4 _ _ n 1 _ _ _ 0 [(_, _)] o1 o2 o3 o4 ⟨hn, b1, b2, b3, hI9, List.mem_cons_self, ?_, ⟨_, by rfl⟩, by rfl, ⟨_, by rfl⟩, ⟨_, by rfl⟩⟩ ⟨hL.1, hL.2⟩ F9 (tail_two N9) d1 d2 d3 d4
    refine own_off fun p hp => ?_
    rw [List.mem_singleton.mp hp]
    dsimp only
    omega
  · rw [fks2] at F9
    refine h4 _ _ n 2 _ _ _ 0 [(_, _)] o1 o2 o3 o4 ⟨hn, b1, b2, b3, hI9, List.mem_cons_self, ?_, ⟨_, by rfl⟩, by rfl, ⟨_, by rfl⟩, ⟨_, by rfl⟩⟩ ⟨hL.1, hL.2⟩ F9 (tail_two N9) d1 d2 d3 d4
    refine own_off fun p hp => ?_
    rw [List.mem_singleton.mp hp]
    dsimp only
    omega
end Mine
namespace Mine
open PySem PySem.W PySem.Calls PyProof.Rows PyProof.V PySem.Spec
section
variable {prog : Program} {w : World} {A : Around} {E : Value → Shared → Prop} {s : Shared} {h₀ : Heap} {L R : Addr} {m : Str → Option Value} {news : List (Addr × Obj)} {its : List Value} {rn : Nat} {x : Int} {t u : Tok} {value slice : PySem.Expr} {Q : Value → Shared → Prop}
theorem pick_to {α : Nat} (h : 0 ≤ x) : (slicePick its.toArray none (some x) none).toList = its.take x.toNat := by
  have e : sliceBounds none (some x) none its.toArray.size = (((0 : Nat) : Int), ((min x.toNat its.toArray.size : Nat) : Int), 1) := by
    simp only [sliceBounds, Option.getD_none, show (1 : Int) > 0 by decide, if_true, if_neg (show ¬ (x < 0) by omega)]
    congr 1
    congr 1
    omega
  rw [kmk_pick_nat _ e]
  show (its.drop 0).take (min x.toNat its.toArray.size - 0) = _
  rw [List.drop_zero, Nat.sub_zero, List.size_toArray, kmk_take_min]
theorem pick_from {α : Nat} (h : 0 ≤ x) : (slicePick its.toArray (some x) none none).toList = its.drop x.toNat := by
  have e : sliceBounds (some x) none none its.toArray.size = (((min x.toNat its.toArray.size : Nat) : Int), ((its.toArray.size : Nat) : Int), 1) := by
    simp only [sliceBounds, Option.getD_none, show (1 : Int) > 0 by decide, if_true, if_neg (show ¬ (x < 0) by omega)]
    congr 1
    omega
  rw [kmk_pick_nat _ e]
  show (its.drop (min x.toNat its.toArray.size)).take (its.toArray.size - min x.toNat its.toArray.size) = _
  rw [List.size_toArray, kmk_drop_min, List.take_of_length_le (by rw [List.length_drop]; omega)]
theorem rows_to (F : Fr h₀ L s.heap m) (N : News h₀ L s.heap news) (hm : (R, listOf its.toArray rn) ∈ news) (hx : 0 ≤ x) (hz : its.length ≤ 20)
    (hs : subscripted slice false (.ref R) (.ref s.heap.objs.size) = operate [.ref s.heap.objs.size, .ref R] (getItem (.ref R) (.ref s.heap.objs.size))) (ht : ∀ r, letTemporaryGo value (.ref R) r = pure ())
    (h : ∀ D h', Fr h₀ L h' m → News h₀ L h' ((D, listOf (its.take x.toNat).toArray 0) :: news) → (∀ p ∈ news, p.1 < D) → Q (.ref D) { s with heap := h' }) :
    wpAny (model prog w) A (subscriptTail value slice (.ref R) (.ref s.heap.objs.size)) Q E { s with heap := s.heap.push { cls := .type "slice", data := .fields #[.none, .int x t, .none] } } :=
  kmk_slice_lit F N (N.isList hm) IsPart.none (IsPart.int _ _) (pick_to (α := 0) hx) h hs ht (by rw [List.size_toArray]; exact Nat.le_trans hz (by decide))
theorem rows_from (F : Fr h₀ L s.heap m) (N : News h₀ L s.heap news) (hm : (R, listOf its.toArray rn) ∈ news) (hx : 0 ≤ x) (hz : its.length ≤ 20)
    (hs : subscripted slice false (.ref R) (.ref s.heap.objs.size) = operate [.ref s.heap.objs.size, .ref R] (getItem (.ref R) (.ref s.heap.objs.size))) (ht : ∀ r, letTemporaryGo value (.ref R) r = pure ())
    (h : ∀ D h', Fr h₀ L h' m → News h₀ L h' ((D, listOf (its.drop x.toNat).toArray 0) :: news) → (∀ p ∈ news, p.1 < D) → Q (.ref D) { s with heap := h' }) :
    wpAny (model prog w) A (subscriptTail value slice (.ref R) (.ref s.heap.objs.size)) Q E { s with heap := s.heap.push { cls := .type "slice", data := .fields #[.int x t, .none, .none] } } :=
  kmk_slice_lit F N (N.isList hm) (IsPart.int _ _) IsPart.none (pick_from (α := 0) hx) h hs ht (by rw [List.size_toArray]; exact Nat.le_trans hz (by decide))
theorem rows_add {a b : Addr} {vs ws : List Value} {n1 n2 : Nat} (F : Fr h₀ L s.heap m) (N : News h₀ L s.heap news) (ha : (a, listOf vs.toArray n1) ∈ news) (hb : (b, listOf ws.toArray n2) ∈ news) (hz : vs.length + ws.length ≤ 1000)
    (h : ∀ D h', Fr h₀ L h' m → News h₀ L h' ((D, listOf (vs ++ ws).toArray 0) :: news) → (∀ p ∈ news, p.1 < D) → Q (.ref D) { s with heap := h' }) : wpAny (model prog w) A (binaryOp .Add (.ref a) (.ref b)) Q E s :=
  kmk_add_lit F N (N.isList ha) (N.isList hb) (by rfl) h (Nat.le_trans hz (by decide))
theorem item_ends {d : Int} (hs : subscripted slice false (.str (Str.ofString "\n\r") t) (.int (d.fmod 2) u) = operate [.str (Str.ofString "\n\r") t, .int (d.fmod 2) u] (getItem (.str (Str.ofString "\n\r") t) (.int (d.fmod 2) u)))
    (h : True) : True := trivial
end
theorem RowsAre.lay {tl : List (Addr × Obj)} {its : List Value} {rows : List (Nat × Nat)} {D : Addr} {o : Obj} {p : Nat × Nat} {ta tb : Tok} {k a : Nat} (h : RowsAre tl its rows) (hm : (D, o) ∈ tl) (hc : o.cls = .type "tuple") (hd : o.data = .seq #[.int (p.1 : Int) ta, .str (T [p.2]) tb] k) :
    RowsAre tl (its.take a ++ [.ref D] ++ its.drop a) (laid rows a p) := by
  have hl := h.1
  refine ⟨?_, fun i q hq => ?_⟩
  · unfold laid
    rw [List.length_append, List.length_append, List.length_append, List.length_append, List.length_take, List.length_take, List.length_drop, List.length_drop, hl]; rfl
  · unfold laid at hq
    by_cases h1 : i < min a rows.length
    · have e1 : (rows.take a ++ [p] ++ rows.drop a)[i]? = rows[i]? := by
        rw [List.append_assoc, List.getElem?_append_left (by rw [List.length_take]; exact h1), List.getElem?_take_of_lt (by omega)]
      have e2 : (its.take a ++ [Value.ref D] ++ its.drop a)[i]? = its[i]? := by
        rw [List.append_assoc, List.getElem?_append_left (by rw [List.length_take, hl]; exact h1), List.getElem?_take_of_lt (by omega)]
      rw [e1] at hq
      rw [e2]
      exact h.2 i q hq
    · rw [List.append_assoc, List.getElem?_append_right (by rw [List.length_take]; omega), List.length_take] at hq
      rw [List.append_assoc, List.getElem?_append_right (by rw [List.length_take, hl]; omega), List.length_take, hl]
      cases hj : i - min a rows.length with
      | zero =>
        rw [hj] at hq
        have : p = q := Option.some.inj hq
        subst this
        exact ⟨D, o, ta, tb, k, rfl, hm, hc, hd⟩
      | succ j =>
        rw [hj] at hq
        simp only [List.singleton_append, List.getElem?_cons_succ] at hq ⊢
        rw [List.getElem?_drop] at hq ⊢
        exact h.2 _ q hq
end Mine
namespace Mine
open PySem PySem.W PySem.Calls PyProof.Rows PyProof.V PySem.Spec
noncomputable def cA (n i t : Nat) : Nat := if i = 0 then t else n % 8
noncomputable def cB (n i t : Nat) : Nat := if i = 0 then 0 else if i = 1 then t else n / 8 % 8
noncomputable def cC (n i t : Nat) : Nat := if i < 2 then 0 else if i = 2 then t else n / 64 % 8
theorem c_bound {n i t : Nat} (hn : n < 256) (hi : i < 3) (ht : t ≤ n / 8 ^ i % 8) : cA n i t + cB n i t + cC n i t ≤ 17 := by
  obtain rfl | rfl | rfl : i = 0 ∨ i = 1 ∨ i = 2 := by lia
  · simp only [cA, cB, cC] at *; simp at *; lia
  · simp only [cA, cB, cC] at *; simp at *; lia
  · simp only [cA, cB, cC] at *; simp at *; lia
theorem c_next {n i : Nat} (hi : i < 3) : cA n i (n / 8 ^ i % 8) = cA n (i + 1) 0 ∧ cB n i (n / 8 ^ i % 8) = cB n (i + 1) 0 ∧ cC n i (n / 8 ^ i % 8) = cC n (i + 1) 0 := by
  obtain rfl | rfl | rfl : i = 0 ∨ i = 1 ∨ i = 2 := by lia
  · simp [cA, cB, cC]
  · simp [cA, cB, cC]
  · simp [cA, cB, cC]
theorem c_step {n i t : Nat} (hi : i < 3) : cA n i t + (if i = 0 then 1 else 0) = cA n i (t + 1) ∧ cB n i t + (if i = 1 then 1 else 0) = cB n i (t + 1) ∧ cC n i t + (if i = 2 then 1 else 0) = cC n i (t + 1) := by
  obtain rfl | rfl | rfl : i = 0 ∨ i = 1 ∨ i = 2 := by lia
  · simp [cA, cB, cC]
  · simp [cA, cB, cC]
  · simp [cA, cB, cC]
theorem item_nr (d : Int) : ∃ e, (e = 10 ∨ e = 13) ∧ Txt.item (Str.ofString "\n\r") (d.fmod 2) = T [e] := by
  have a := Int.fmod_nonneg_of_pos d (show (0 : Int) < 2 by decide)
  have b := Int.fmod_lt_of_pos d (show (0 : Int) < 2 by decide)
  obtain h | h : d.fmod 2 = 0 ∨ d.fmod 2 = 1 := by lia
  · exact ⟨10, .inl rfl, by rw [h]; decide +kernel⟩
  · exact ⟨13, .inr rfl, by rw [h]; decide +kernel⟩
section
variable {prog : Program} {w : World} {A : Around} {E : Value → Shared → Prop} {s : Shared} {h₀ : Heap} {L : Addr} {m : Str → Option Value} {news : List (Addr × Obj)} {t u : Tok} {Q : Value → Shared → Prop}
theorem tup_row {z d : Int} (F : Fr h₀ L s.heap m) (N : News h₀ L s.heap news)
    (h : ∀ D h' e, (e = 10 ∨ e = 13) → Fr h₀ L h' m → News h₀ L h' ((D, ({ cls := .type "tuple", data := .seq [.int z t, .str (T [e]) u].toArray } : Obj)) :: news) → (∀ p ∈ news, p.1 < D) → Q (.ref D) { s with heap := h' }) :
    wpAny (model prog w) A (newTuple [.int z t, .str (Txt.item (Str.ofString "\n\r") (d.fmod 2)) u]) Q E s := by
  obtain ⟨e, he, ee⟩ := item_nr d
  rw [ee]
  exact kup_newTuple F N (fun D h' F' N' l => h D h' e he F' N' l) (Nat.le_of_ble_eq_true rfl)
end
end Mine
namespace Mine
open PySem PySem.W PySem.Calls PyProof.Rows PySem.Spec
/-- how a turn ends -/
noncomputable def LEndW (h₀ : Heap) (L : Addr) (J : (Str → Option Value) → List (Addr × Obj) → Prop) (own : List (Addr × Obj)) (s₁ : Shared) (Q : Flow → Shared → Prop) (f : Flow) (s₂ : Shared) : Prop :=
  match f with
  | .ret v => Q (.ret v) s₂
  | .brk => Q .next s₂
  | _ => ∃ m' news' nx, Later s₁ s₂ ∧ Fr h₀ L s₂.heap m' ∧ News h₀ L s₂.heap news' ∧ (∀ p ∈ nx, p ∈ news') ∧ (∀ p ∈ own, p ∈ news') ∧ OwnOff own (nx.map (·.1)) ∧ J m' nx
section
variable {prog : Program} {w : World} {A : Around} {E : Value → Shared → Prop} {s : Shared} {env : Env} {h₀ : Heap}
theorem loop_grow {target : PySem.Expr} {body orelse : List Stmt} {I : Addr} {fp wr : List Addr} {n : Nat} {P : Nat → Value → Prop} {St : Nat → Heap → Prop} {m : Str → Option Value} {news : List (Addr × Obj)} {Q : Flow → Shared → Prop}
    (W : Walks prog w A I fp wr n P St) (hLf : env.locals ∉ fp) (hwr : ∀ b ∈ wr, h₀.get? b = none) (hnw : ∀ p ∈ news, p.1 ∉ wr) (hst : St 0 s.heap) (F : Fr h₀ env.locals s.heap m) (N : News h₀ env.locals s.heap news)
    (J : Nat → (Str → Option Value) → List (Addr × Obj) → Prop) (h0 : J 0 m news)
    (go : ∀ i v (s' : Shared) (Q' E' : _), P i v → St (i + 1) s'.heap → Q' () s' → wpAny (model prog w) A (letOwnedTupleGo target (.ref I) v) Q' E' s')
    (step : ∀ i v m₁ news₁ (s₁ : Shared) own, Later s s₁ → i < n → P i v → J i m₁ news₁ → OwnOff own (news₁.map (·.1)) → Fr h₀ env.locals s₁.heap m₁ → News h₀ env.locals s₁.heap (news₁ ++ own) →
      wpAny (model prog w) A (assign target env v) (fun _ s₂ => wpAny (model prog w) A (execs body env) (LEndW h₀ env.locals (J (i + 1)) own s₁ Q) (fun _ _ => False) s₂) (fun _ _ => False) s₁)
    (KP : Heap → Prop) (hK : ∀ i h₁ h₂, St i h₁ → (∀ b o, b ∉ wr → h₁.get? b = some o → h₂.get? b = some o) → KP h₂)
    (done : ∀ m₁ news₁ (s₁ : Shared), Later s s₁ → J n m₁ news₁ → Fr h₀ env.locals s₁.heap m₁ → News h₀ env.locals s₁.heap news₁ → KP s₁.heap → wpAny (model prog w) A (execs orelse env) (fun f s₃ => Q f s₃) (fun _ _ => False) s₁)
    (hfpn : ∀ p ∈ news, p.1 ∉ fp) (hlive : ∀ i h, St i h → ∀ b ∈ fp, ∃ o, h.get? b = some o) :
    codeAny (model prog w) A (.forLoop target (.ref I) body orelse env) (fun r s' => match r with | .ok f => Q f s' | .error e => cameBackBy (model prog w) A env E e s') s := by
  have hLw : env.locals ∉ wr := fun h => hLf (W.sub _ h)
  have old : ∀ b o, h₀.get? b = some o → b ∉ wr := fun b o e hb => by rw [hwr b hb] at e; cases e
  refine codeAny_forLoop_any
    (fun k s' => ∃ i m' news', Later s s' ∧ St i s'.heap ∧ Fr h₀ env.locals s'.heap m' ∧ News h₀ env.locals s'.heap news' ∧ (∀ p ∈ news', p.1 ∉ fp) ∧ J i m' news' ∧ i ≤ n ∧ k = n + 1 - i) ?_ (n + 1)
    ⟨0, m, news, .refl s, hst, F, N, hfpn, h0, Nat.zero_le _, rfl⟩
  rintro k s' ⟨i, m', news', hls, hst', F', N', had, hJ, hi, rfl⟩
  have hnw' : ∀ p ∈ news', p.1 ∉ wr := fun p hp h => had p hp (W.sub _ h)
  have next : ∀ h₁ : Heap, (∀ b o, b ∉ wr → s'.heap.get? b = some o → h₁.get? b = some o) → Fr h₀ env.locals h₁ m' ∧ News h₀ env.locals h₁ news' := fun h₁ hk₁ =>
    ⟨⟨F'.ns.at' fun o e => hk₁ _ o hLw e, fun b o e => hk₁ b o (old b o e) (F'.keep b o e), F'.above⟩, fun p hp => ⟨hk₁ _ _ (hnw' p hp) (N' p hp).1, (N' p hp).2⟩⟩
  by_cases hlt : i < n
  · refine W.item i _ _ _ hlt hst' fun v h₁ tk₁ hP hst₁ hk₁ => ?_
    obtain ⟨F₁, N₁⟩ := next h₁ hk₁
    refine go i v _ _ _ hP hst₁ ?_
    have hl₁ : Later s { s' with heap := h₁, toks := tk₁ } := hls
    have Nown : News h₀ env.locals h₁ (ownOf h₀ fp h₁) := news_ownOf hLf
    have hoff : OwnOff (ownOf h₀ fp h₁) (news'.map (·.1)) := by
      intro p hp b hb e
      obtain ⟨q, hq, rfl⟩ := List.mem_map.mp hb
      exact had q hq (e ▸ ownOf_sub p hp)
    refine wpAny_mono (step i v m' news' _ (ownOf h₀ fp h₁) hl₁ hlt hP hJ hoff F₁ (N₁.append Nown)) (fun _ s₂ h₂ => wpAny_mono h₂ (fun f s₃ h₃ => ?_) fun _ _ e => e.elim) fun _ _ e => e.elim
    have fin : (∃ m₂ news₂ nx, Later { s' with heap := h₁, toks := tk₁ } s₃ ∧ Fr h₀ env.locals s₃.heap m₂ ∧ News h₀ env.locals s₃.heap news₂ ∧ (∀ p ∈ nx, p ∈ news₂) ∧ (∀ p ∈ ownOf h₀ fp h₁, p ∈ news₂) ∧ OwnOff (ownOf h₀ fp h₁) (nx.map (·.1)) ∧ J (i + 1) m₂ nx) →
        ∃ k', k' < n + 1 - i ∧ ∃ i m' news', Later s s₃ ∧ St i s₃.heap ∧ Fr h₀ env.locals s₃.heap m' ∧ News h₀ env.locals s₃.heap news' ∧ (∀ p ∈ news', p.1 ∉ fp) ∧ J i m' news' ∧ i ≤ n ∧ k' = n + 1 - i := by
      rintro ⟨m₂, news₂, nx, hl₃, F₃, N₃, hn, ho, ha, hj⟩
      refine ⟨n + 1 - (i + 1), by omega, i + 1, m₂, nx, hl₁.trans hl₃, ?_, F₃, fun p hp => N₃ p (hn p hp), ?_, hj, hlt, rfl⟩
      rotate_left
      · intro p hp hb
        obtain ⟨o, ho'⟩ := hlive _ _ hst₁ _ hb
        exact ha _ (mem_ownOf hb (N₃ p (hn p hp)).2.2 ho') _ (List.mem_map.mpr ⟨p, hp, rfl⟩) rfl
      refine W.frame _ _ _ hst₁ fun b hb o e => ?_
      cases hn₀ : h₀.get? b with
      | some o₀ =>
        have : o₀ = o := by have := F₁.keep b o₀ hn₀; rw [e] at this; exact (Option.some.inj this).symm
        exact this ▸ F₃.keep b o₀ hn₀
      | none => exact (N₃ _ (ho _ (mem_ownOf hb hn₀ e))).1
    cases f with
    | ret v => exact h₃
    | brk => exact h₃
    | cont => exact fin h₃
    | next => exact fin h₃
  · have hin : i = n := by omega
    subst hin
    refine W.done _ _ _ hst' fun h₁ tk₁ hk₁ => ?_
    obtain ⟨F₁, N₁⟩ := next h₁ hk₁
    exact wpAny_mono (done m' news' _ hls hJ F₁ N₁ (hK _ _ _ hst' hk₁)) (fun _ _ h => h) fun _ _ e => e.elim
theorem Walks.plus {I : Addr} {fp wr : List Addr} {n : Nat} {P : Nat → Value → Prop} {St : Nat → Heap → Prop} {D : Addr} {o : Obj} (W : Walks prog w A I fp wr n P St) (hD : D ∈ fp) (hw : D ∉ wr) : Walks prog w A I fp wr n P (fun i h => St i h ∧ h.get? D = some o) :=
  { W with
    frame := fun i h h' st hk => ⟨W.frame i h h' st.1 hk, hk D hD o st.2⟩
    item := fun i s Q E hi st hQ => W.item i s Q E hi st.1 fun v h₁ tk hP hs hk => hQ v h₁ tk hP ⟨hs, hk D o hw st.2⟩ hk
    done := fun s Q E st hQ => W.done s Q E st.1 hQ
    self := fun i s Q E st hQ => W.self i s Q E st.1 hQ }
theorem for_listW {target : PySem.Expr} {body orelse : List Stmt} {D : Addr} {items : Array Value} {m : Str → Option Value} {news all : List (Addr × Obj)} {Q : Flow → Shared → Prop} (hh : A.handled = none) (hl : LCg.SrcAt h₀ D items all)
    (F : Fr h₀ env.locals s.heap m) (N : News h₀ env.locals s.heap all) (sub : ∀ p ∈ news, p ∈ all) (off : ∀ p ∈ news, p.1 ≠ D)
    (J : Nat → (Str → Option Value) → List (Addr × Obj) → Prop) (h0 : J 0 m news)
    (step : ∀ i v m₁ news₁ (s₁ : Shared) own, Later s s₁ → items[i]? = some v → J i m₁ news₁ → OwnOff own (news₁.map (·.1)) → Fr h₀ env.locals s₁.heap m₁ → News h₀ env.locals s₁.heap (news₁ ++ own) →
      wpAny (model prog w) A (assign target env v) (fun _ s₂ => wpAny (model prog w) A (execs body env) (LEndW h₀ env.locals (J (i + 1)) own s₁ Q) (fun _ _ => False) s₂) (fun _ _ => False) s₁)
    (done : ∀ m₁ news₁ (s₁ : Shared), Later s s₁ → J items.size m₁ news₁ → Fr h₀ env.locals s₁.heap m₁ → News h₀ env.locals s₁.heap news₁ → (∀ o, s.heap.get? D = some o → s₁.heap.get? D = some o) → wpAny (model prog w) A (execs orelse env) (fun f s₃ => Q f s₃) (fun _ _ => False) s₁) :
    wpAny (model prog w) A (pyIter (.ref D)) (fun it s₂ => codeAny (model prog w) A (.forLoop target it body orelse env) (fun r s' => match r with | .ok f => Q f s' | .error e => cameBackBy (model prog w) A env E e s') s₂) E s := by
  have hls : s.heap.IsList D items := hl.elim (fun x => x.at fun o e => F.keep D o e) fun ⟨o, hm, c, n, d⟩ => ⟨o, (N _ hm).1, c, n, d⟩
  have hDL : env.locals ≠ D := hl.elim (fun ⟨o, e, _⟩ q => absurd (Heap.lt_size e) (by rw [← q]; exact Nat.not_lt.mpr F.above)) fun ⟨o, hm, _⟩ q => (N _ hm).2.1 q.symm
  have hne : D ≠ s.heap.objs.size := by obtain ⟨o, e, _⟩ := id hls; exact Nat.ne_of_lt (Heap.lt_size e)
  refine wpAny_pyIter_list hls ?_
  obtain ⟨oD, eD⟩ : ∃ o, s.heap.get? D = some o := ⟨_, hls.choose_spec.1⟩
  have W := Walks.plus (o := oD) (Walks.list (prog := prog) (w := w) hh s.heap.objs.size D hne items) (List.mem_cons_of_mem _ List.mem_cons_self) (fun hm => hne (List.mem_singleton.mp hm))
  have up : ∀ b o, s.heap.get? b = some o → (s.heap.push { cls := .type "list_iterator", data := .fields #[.ref D, .int 0 0] }).get? b = some o := fun b o e => Heap.get?_push_of_some _ e
  have N' : News h₀ env.locals s.heap news := fun p hp => N p (sub p hp)
  have offI : ∀ p ∈ news, p.1 ≠ s.heap.objs.size := fun p hp => Nat.ne_of_lt (Heap.lt_size (N' p hp).1)
  refine loop_grow W (news := news) (m := m) ?_ ?_ (fun p hp hI => offI p hp (List.mem_singleton.mp hI)) ⟨⟨⟨_, Heap.get?_push_size _ rfl, rfl, rfl⟩, hls.at (up D)⟩, up _ _ eD⟩ (F.keeps up) (N'.grown up) J h0
    (fun i v s' Q' E' _ st hq => go_list st.1.1 hq) (fun i v m₁ news₁ s₁ own hL hlt hP hJ ho F₁ N₁ => step i v m₁ news₁ s₁ own ?_ hP hJ ho F₁ N₁) (fun h => h.get? D = some oD) (fun i h₁ h₂ st hk => hk _ _ (fun hm => hne (List.mem_singleton.mp hm)) st.2) (fun m₁ news₁ s₁ hL hJ F₁ N₁ hI => done m₁ news₁ s₁ ?_ hJ F₁ N₁ (fun o e => by rw [eD] at e; rw [hI, e])) ?_ (fun i h st b hb => by
      rcases List.mem_cons.mp hb with e | hb
      · obtain ⟨o, e', _⟩ := st.1.1; exact ⟨o, e ▸ e'⟩
      · obtain ⟨o, e', _⟩ := st.1.2; exact ⟨o, (List.mem_singleton.mp hb) ▸ e'⟩)
  · intro hm
    rcases List.mem_cons.mp hm with e | hm
    · exact absurd F.ns.lt (by rw [e]; exact Nat.lt_irrefl _)
    · exact hDL (List.mem_singleton.mp hm)
  · intro b hb
    rw [List.mem_singleton.mp hb]
    exact next_is_new F
  · exact hL
  · exact hL
  · intro p hp hm
    rcases List.mem_cons.mp hm with e | hm
    · exact offI p hp e
    · exact off p hp (List.mem_singleton.mp hm)

theorem for_rangeW {x : Str} {px : Pos} {body orelse : List Stmt} {r : Addr} {a b : Int} {t u v : Tok} {n : Nat} {m : Str → Option Value} {news : List (Addr × Obj)} {Q : Flow → Shared → Prop} (hh : A.handled = none)
    (hr : IsRange s.heap r a b 1 t u v) (hsm : Builtin.Range.small a b 1 = true) (hn : Builtin.Range.rangeSize a b 1 = ((n : Nat) : Int)) (F : Fr h₀ env.locals s.heap m) (N : News h₀ env.locals s.heap news)
    (J : Nat → (Str → Option Value) → List (Addr × Obj) → Prop) (h0 : J 0 m news)
    (step : ∀ (i : Nat) t m₁ news₁ (s₁ : Shared) own, Later s s₁ → i < n → J i m₁ news₁ → OwnOff own (news₁.map (·.1)) → Fr h₀ env.locals s₁.heap m₁ → News h₀ env.locals s₁.heap (news₁ ++ own) →
      wpAny (model prog w) A (assign (.Name x px) env (.int (a + (i : Int)) t)) (fun _ s₂ => wpAny (model prog w) A (execs body env) (LEndW h₀ env.locals (J (i + 1)) own s₁ Q) (fun _ _ => False) s₂) (fun _ _ => False) s₁)
    (done : ∀ m₁ news₁ (s₁ : Shared), Later s s₁ → J n m₁ news₁ → Fr h₀ env.locals s₁.heap m₁ → News h₀ env.locals s₁.heap news₁ → wpAny (model prog w) A (execs orelse env) (fun f s₃ => Q f s₃) (fun _ _ => False) s₁) :
    wpAny (model prog w) A (pyIter (.ref r)) (fun it s₂ => codeAny (model prog w) A (.forLoop (.Name x px) it body orelse env) (fun r s' => match r with | .ok f => Q f s' | .error e => cameBackBy (model prog w) A env E e s') s₂) E s := by
  refine wpAny_pyIter_range hr hsm ?_
  have offI : ∀ p ∈ news, p.1 ≠ s.heap.objs.size := fun p hp => Nat.ne_of_lt (Heap.lt_size (N p hp).1)
  refine loop_grow (LCg.range_walks (prog := prog) (w := w) (I := s.heap.objs.size) hh a n) (news := news) (m := m) ?_ ?_ (fun p hp hI => offI p hp (List.mem_singleton.mp hI)) (by show IsRangeIter _ _ _ _ _; rw [hn]; simpa using Heap.get?_push_size _ rfl)
    (F.keeps fun _ _ e => Heap.get?_push_of_some _ e) (N.grown fun _ _ e => Heap.get?_push_of_some _ e) J h0
    (fun i v s' Q' E' _ st hq => wpAny_pure hq) (fun i v m₁ news₁ s₁ own hL hlt hP hJ ho F₁ N₁ => ?_) (fun _ => True) (fun _ _ _ _ _ => trivial) (fun m₁ news₁ s₁ hL hJ F₁ N₁ _ => done m₁ news₁ s₁ ?_ hJ F₁ N₁) (fun p hp hI => offI p hp (List.mem_singleton.mp hI)) (fun i h st b hb => by rw [List.mem_singleton.mp hb]; exact ⟨_, st⟩)
  · intro hm
    exact absurd F.ns.lt (by rw [List.mem_singleton.mp hm]; exact Nat.lt_irrefl _)
  · intro b hb
    rw [List.mem_singleton.mp hb]
    exact next_is_new F
  · obtain ⟨t', rfl⟩ := hP
    exact step i t' m₁ news₁ s₁ own hL hlt hJ ho F₁ N₁
  · exact hL
end
end Mine
namespace Mine
open PySem PySem.W PySem.Calls PyProof.Rows PyProof.V PySem.Spec
section
variable {prog : Program} {w : World} {A : Around} {E : Value → Shared → Prop} {s : Shared} {t u : Tok} {Q : Value → Shared → Prop}
theorem pow8 {i : Nat} (hi : i < 3) (h : Q (.int ((8 ^ i : Nat) : Int) s.toks) { s with toks := s.toks + 1 }) : wpAny (model prog w) A (binaryOp .Pow (.int 8 t) (.int (i : Int) u)) Q E s := by
  refine pow_int_small (by lia) (by lia) (by decide) ?_
  rw [Int.toNat_natCast, show ((8 : Int) ^ i) = ((8 ^ i : Nat) : Int) by rw [Int.natCast_pow]; rfl]
  exact h
theorem div8 {n i : Nat} (hi : i < 3) (h : Q (.int ((n / 8 ^ i : Nat) : Int) s.toks) { s with toks := s.toks + 1 }) : wpAny (model prog w) A (binaryOp .FloorDiv (.int (n : Int) t) (.int ((8 ^ i : Nat) : Int) u)) Q E s := by
  have h8 : (8 ^ i : Nat) ≠ 0 := Nat.ne_of_gt (Nat.pow_pos (by decide))
  have hb : (8 ^ i : Nat) ≤ 64 := by
    obtain rfl | rfl | rfl : i = 0 ∨ i = 1 ∨ i = 2 := by lia
    · decide
    · decide
    · decide
  refine floordiv_int (by intro e; exact h8 (Int.ofNat.inj e)) ?_ (Or.inl (PyProof.noPylong_small (by rw [Int.natAbs_natCast]; exact Nat.lt_of_le_of_lt hb (by decide))))
  rw [show ((n : Int).fdiv ((8 ^ i : Nat) : Int)) = ((n / 8 ^ i : Nat) : Int) by rw [Int.fdiv_eq_ediv_of_nonneg _ (Int.natCast_nonneg _)]; rfl]
  exact h
theorem mod8 {n i : Nat} (h : Q (.int ((n / 8 ^ i % 8 : Nat) : Int) s.toks) { s with toks := s.toks + 1 }) : wpAny (model prog w) A (binaryOp .Mod (.int ((n / 8 ^ i : Nat) : Int) t) (.int 8 u)) Q E s := by
  refine mod_int' (by decide) ?_
  rw [show (((n / 8 ^ i : Nat) : Int).fmod 8) = ((n / 8 ^ i % 8 : Nat) : Int) by rw [Int.fmod_eq_emod_of_nonneg _ (by decide)]; rfl]
  exact h
end
theorem nr_item {d : Int} {value slice : PySem.Expr} (h : Q (.str (Txt.item (Str.ofString "\n\r") (d.fmod 2)) s.toks) { s with toks := s.toks + 1 })
    (hs : subscripted slice false (.str (Str.ofString "\n\r") t) (.int (d.fmod 2) u) = operate [.str (Str.ofString "\n\r") t, .int (d.fmod 2) u] (getItem (.str (Str.ofString "\n\r") t) (.int (d.fmod 2) u))) (ht : ∀ r, letTemporaryGo value (.str (Str.ofString "\n\r") t) r = pure ()) :
    wpAny (model prog w) A (subscriptTail value slice (.str (Str.ofString "\n\r") t) (.int (d.fmod 2) u)) Q E s := item_str_fmod (by decide) (by decide) (by decide) (fun _ => h) hs ht
theorem small_8 : ∀ z : Fin 8, Builtin.Range.small 0 (z.val : Int) 1 = true := by decide +kernel
theorem size_8 : ∀ z : Fin 8, Builtin.Range.rangeSize 0 (z.val : Int) 1 = ((z.val : Nat) : Int) := by decide +kernel
theorem unpack4 {g h : Heap} {L : Addr} {a b c d : Addr × Obj} {tl own : List (Addr × Obj)} (N : News g L h (a :: b :: c :: d :: (tl ++ own))) : News g L h ([a, b, c, d] ++ tl ++ own) := by
  simpa only [List.cons_append, List.nil_append, List.append_assoc] using N
theorem pack5 {g h : Heap} {L : Addr} {a b c d : Addr × Obj} {tl k own : List (Addr × Obj)} (N : News g L h ([a, b, c, d] ++ tl ++ k ++ own)) : News g L h (a :: b :: c :: d :: (tl ++ (k ++ own))) := by
  simpa only [List.cons_append, List.nil_append, List.append_assoc] using N
/-- the rows while they are laid -/
noncomputable def JR (keep : List (Addr × Obj)) (L' : Addr) (n : Nat) (g : Fin 3) (ns : List Int) (ws : List Value) (U : Addr) (uc : Nat) (a b c : Nat) (v2 : Option Value) (m : Str → Option Value) (nx : List (Addr × Obj)) : Prop :=
  ∃ tl rows its R rn o1 o2 o3 o4, nx = [(L' + 1 + 1 + 1 + 1, o4), (L' + 1 + 1 + 1, o3), (L' + 1 + 1, o2), (L' + 1, o1)] ++ tl ++ keep ∧ Bs L' m n g ns ws U uc tl ∧ OwnOff keep (([(L' + 1 + 1 + 1 + 1, o4), (L' + 1 + 1 + 1, o3), (L' + 1 + 1, o2), (L' + 1, o1)] ++ tl).map (·.1)) ∧ (R, listOf (List.toArray its) rn) ∈ tl ∧ RowsAre tl its rows ∧ Built rows a b c ∧ o1.data = .cell (some (.ref R)) ∧ o2.data = .cell v2 ∧ o3.data = .cell none ∧ o4.data = .cell none
theorem allLt_off {own tl : List (Addr × Obj)} {d : Addr} (hs : ∀ p ∈ own, p ∈ tl) (hd : AllLt d tl) : ∀ p ∈ own, p.1 ≠ d := fun p hp => allLt_ne hd p (hs p hp)
/-- what is one's own stays apart from what is laid anew -/
theorem off_lay {own tl tl4 keep cs cs' : List (Addr × Obj)} {R D : Addr} {oR oD : Obj} (h : OwnOff own ((cs ++ tl ++ keep).map (·.1))) (hc : cs'.map (·.1) = cs.map (·.1)) (hs : ∀ p ∈ own, p ∈ tl4) (hR : AllLt R tl4) (hD : AllLt D tl4) :
    OwnOff own ((cs' ++ ((R, oR) :: (D, oD) :: tl) ++ keep).map (·.1)) := fun p hp b hb => by
  rw [List.map_append, List.map_append] at h hb
  rw [hc] at hb
  rcases List.mem_append.mp hb with hb | hb
  · rcases List.mem_append.mp hb with hb | hb
    · exact h p hp b (List.mem_append_left _ (List.mem_append_left _ hb))
    · rcases List.mem_cons.mp hb with rfl | hb
      · exact allLt_off hs hR p hp
      · rcases List.mem_cons.mp hb with rfl | hb
        · exact allLt_off hs hD p hp
        · exact h p hp b (List.mem_append_left _ (List.mem_append_right _ hb))
  · exact h p hp b (List.mem_append_right _ hb)
theorem lay_end {h₀ : Heap} {L' : Addr} {m m' : Str → Option Value} {n : Nat} {g : Fin 3} {ns : List Int} {ws : List Value} {U : Addr} {uc : Nat} {tl tl4 own own3 : List (Addr × Obj)} {its : List Value} {rows : List (Nat × Nat)} {a b c at' i e : Nat} {R D : Addr} {oD o1 o2 o3 o4 q2 q1 : Obj} {x1 x2 x3 x5 : Addr × Obj} {rn kk : Nat} {v2 : Option Value} {ta tb : Tok} {s₁ s₂ : Shared} {Q : Flow → Shared → Prop}
    (hB : Bs L' m n g ns ws U uc tl) (F : Fr h₀ L' s₂.heap m') (N : News h₀ L' s₂.heap ((R, listOf (its.take at' ++ [Value.ref D] ++ its.drop at').toArray rn) :: x1 :: x2 :: x3 :: (D, oD) :: x5 :: (L' + 1 + 1 + 1 + 1, o4) :: (L' + 1 + 1 + 1, o3) :: (L' + 1 + 1, o2) :: (L' + 1, o1) :: tl4)) (sub : ∀ p ∈ tl, p ∈ tl4) (hk : ∀ p ∈ own, p ∈ tl4) (hk3 : ∀ p ∈ own3, p ∈ tl4)
    (ho : OwnOff own (([(L' + 1 + 1 + 1 + 1, o4), (L' + 1 + 1 + 1, o3), (L' + 1 + 1, q2), (L' + 1, q1)] ++ tl).map (·.1))) (ho3 : OwnOff own3 (([(L' + 1 + 1 + 1 + 1, o4), (L' + 1 + 1 + 1, o3), (L' + 1 + 1, q2), (L' + 1, q1)] ++ tl ++ own).map (·.1)))
    (lR : AllLt R (x1 :: x2 :: x3 :: (D, oD) :: x5 :: (L' + 1 + 1 + 1 + 1, o4) :: (L' + 1 + 1 + 1, o3) :: (L' + 1 + 1, o2) :: (L' + 1, o1) :: tl4)) (lD : AllLt D (x5 :: (L' + 1 + 1 + 1 + 1, o4) :: (L' + 1 + 1 + 1, o3) :: (L' + 1 + 1, o2) :: (L' + 1, o1) :: tl4)) (hr : RowsAre tl its rows) (hBu : Built rows a b c) (hi : i < 3) (hcl : oD.cls = .type "tuple") (hda : oD.data = .seq #[.int (((2 * i + 1, e) : Nat × Nat).1 : Int) ta, .str (T [((2 * i + 1, e) : Nat × Nat).2]) tb] kk) (he : e = 10 ∨ e = 13)
    (h1 : m' "number" = m "number") (h2 : m' "nums" = m "nums") (h3 : m' "letter" = m "letter") (h4 : m' "double" = m "double") (d1 : o1.data = .cell (some (.ref R))) (d2 : o2.data = .cell v2) (d3 : o3.data = .cell none) (d4 : o4.data = .cell none) (hL : Later s₁ s₂) :
    LEndW h₀ L' (fun m nx => JR own L' n g ns ws U uc (a + if i = 0 then 1 else 0) (b + if i = 1 then 1 else 0) (c + if i = 2 then 1 else 0) v2 m nx) own3 s₁ Q .next s₂ := by
  have tR : AllLt R tl4 := lR.2.2.2.2.2.2.2.2.2
  have tD : AllLt D tl4 := lD.2.2.2.2.2
  have cR : @LT.lt Nat _ (L' + 1 + 1 + 1 + 1) R := lR.2.2.2.2.2.1
  have cD : @LT.lt Nat _ (L' + 1 + 1 + 1 + 1) D := lD.2.1
  have sub2 : ∀ p ∈ tl, p ∈ (R, listOf (its.take at' ++ [Value.ref D] ++ its.drop at').toArray rn) :: (D, oD) :: tl := fun p hp => List.mem_cons_of_mem _ (List.mem_cons_of_mem _ hp)
  have ho' : OwnOff own (([(L' + 1 + 1 + 1 + 1, o4), (L' + 1 + 1 + 1, o3), (L' + 1 + 1, o2), (L' + 1, o1)] ++ ((R, listOf (its.take at' ++ [Value.ref D] ++ its.drop at').toArray rn) :: (D, oD) :: tl)).map (·.1)) := by
    have z := off_lay (oR := listOf (its.take at' ++ [Value.ref D] ++ its.drop at').toArray rn) (oD := oD) (cs' := [(L' + 1 + 1 + 1 + 1, o4), (L' + 1 + 1 + 1, o3), (L' + 1 + 1, o2), (L' + 1, o1)]) (keep := []) (by rw [List.append_nil]; exact ho) rfl hk tR tD
    rwa [List.append_nil] at z
  refine ⟨m', _, [(L' + 1 + 1 + 1 + 1, o4), (L' + 1 + 1 + 1, o3), (L' + 1 + 1, o2), (L' + 1, o1)] ++ ((R, listOf (its.take at' ++ [Value.ref D] ++ its.drop at').toArray rn) :: (D, oD) :: tl) ++ own, hL, F, N, fun p hp => ?_, fun p hp => ?_, off_lay ho3 rfl hk3 tR tD,
    ⟨_, laid rows at' (2 * i + 1, e), _, R, rn, o1, o2, o3, o4, rfl, hB.set h1 h2 h3 h4 sub2 (OwnOff.one (OwnOff.one hB.off cD) cR), ho', List.mem_cons_self, (hr.more sub2).lay (List.mem_cons_of_mem _ List.mem_cons_self) hcl hda, hBu.lay hi he, d1, d2, d3, d4⟩⟩
  · rcases List.mem_append.mp hp with hp | hp
    · simp only [List.cons_append, List.nil_append, List.mem_cons] at hp ⊢
      rcases hp with hp | hp | hp | hp | hp | hp | hp
      · simp [hp]
      · simp [hp]
      · simp [hp]
      · simp [hp]
      · simp [hp]
      · simp [hp]
      · have := sub p hp
        simp [this]
    · have := hk p hp
      simp [this]
  · have := hk3 p hp
    simp [this]
theorem cut1 {l : List Value} {x : Value} {k : Nat} (h : l.length ≤ 20) : (l.take k).length + [x].length ≤ 1000 := by
  have := List.length_take_le' k l
  rw [List.length_singleton]
  lia
theorem cut2 {l : List Value} {x : Value} {k : Nat} (h : l.length ≤ 20) : (l.take k ++ [x]).length + (l.drop k).length ≤ 1000 := by
  have := List.length_take_le' k l
  rw [List.length_append, List.length_singleton, List.length_drop]
  lia
local macro_rules | `(tactic| walk_at "subscriptTail Constant BinOp str int") => `(tactic| with_reducible apply nr_item; rotate_left; with_unfolding_all rfl; kmk_pure)
local macro_rules | `(tactic| walk_at "subscriptTail Name Slice ref ref") => `(tactic| ((first | with_reducible apply rows_to | with_reducible apply rows_from); k_asm; k_asm; k_dflt k_mem; exact Int.fmod_nonneg_of_pos _ (by lia); lia; with_unfolding_all rfl; kmk_pure; (intro D' h' F' N' l1; k_lt l1)))
local macro_rules | `(tactic| walk_at "binaryOp Add ref ref") => `(tactic| (with_reducible apply rows_add; k_asm; k_asm; k_dflt k_mem; k_dflt k_mem; (first | apply cut1 | apply cut2); assumption; (intro D' h' F' N' l1; k_lt l1)))
local macro_rules | `(tactic| walk_at "newTuple") => `(tactic| (with_reducible apply tup_row; k_asm; k_asm; (intro D' h' e' he' F' N' l1; k_lt l1)))
local macro_rules | `(tactic| walk_at "binaryOp Pow int int") => `(tactic| with_reducible apply pow8; assumption)
local macro_rules | `(tactic| walk_at "binaryOp FloorDiv int int") => `(tactic| with_reducible apply div8; assumption)
local macro_rules | `(tactic| walk_at "binaryOp Mod int int") => `(tactic| with_reducible apply mod8)
set_option maxHeartbeats 800000 in
theorem seg4 (w : World) (loose : List Str) (mean : ExcName → Option Value) (mg mb : Str → Option Value) (h₀ : Heap) (L' fa l : Addr) (cdv : Value) (s0 : Shared) (Q : Flow → Shared → Prop) (E : Value → Shared → Prop)
    (X : (K w.params).In h₀) (TT : Top qv loose mean mg mb h₀) (B : Below callerA h₀ [] h₀) (h6 : Seg6 w loose mean mg mb h₀ L' fa l cdv s0 Q E) : Seg4 w loose mean mg mb h₀ L' fa l cdv s0 Q E := by
  unfold Seg4 rwp
  revert X
  k_fill
  intro X s m n g ns ws U uc tl o1 o2 o3 o4 hB hL F N d1 d2 d3 d4
  have hO := hB.off
  have hU := hB.hU
  obtain ⟨hh, gs, dd, tk, os⟩ := s
  dsimp only at F N
  show wpAny _ _ (execs (_ :: _) _) _ _ _
  simp only [List.cons_append, List.nil_append] at N
  k_steps
  rename Fr _ _ _ _ => FF
  rename News _ _ _ _ => NN
  rename IsRange _ _ _ _ _ _ _ _ => RR
  rename _ < _ ∧ _ ∧ _ ∧ _ ∧ AllLt _ _ => lN
  refine' for_rangeW (by rfl) RR (by decide) (n := 3) (by rfl) FF (cells_in NN) (fun i m nx => ∃ v2, JR [] L' n g ns ws U uc (cA n i 0) (cB n i 0) (cC n i 0) v2 m nx) ?j0 ?step ?done
  case j0 =>
    refine ⟨_, _, [], [], _, 0, _, _, _, _, by exact (List.append_nil _).symm, hB.set rfl rfl rfl rfl (fun p hp => List.mem_cons_of_mem _ hp) (OwnOff.one hO lN.1), (fun p hp => absurd hp List.not_mem_nil), List.mem_cons_self, ⟨rfl, (fun i p e => by cases e)⟩, ?_, by assumption, by assumption, by assumption, by assumption⟩
    exact Built.nil
  case step =>
    intro i tt m₁ news₁ s₁ own hL₁ hi hJ ho F₁ N₁
    obtain ⟨v2, tl₁, rows, its, R, rn, p1, p2, p3, p4, rfl, hB₁, _, hR, hr, hBu, e1, e2, e3, e4⟩ := hJ
    rw [List.append_nil] at N₁ ho
    have ho0 := ho
    replace N₁ := pack4 N₁
    have ho1 : OwnOff own [L' + 1 + 1 + 1 + 1, L' + 1 + 1 + 1, L' + 1 + 1, L' + 1] := fun p hp b hb => ho p hp b (by
      simp only [List.map_append, List.map_cons, List.map_nil]
      exact List.mem_append_left _ hb)
    have hB₂ := hB₁.set (tl' := tl₁ ++ own) rfl rfl rfl rfl (fun p hp => List.mem_append_left _ hp) (OwnOff.app hB₁.off ho1)
    have hR₂ := List.mem_append_left own hR
    have hr₂ := hr.more (news' := tl₁ ++ own) fun p hp => List.mem_append_left _ hp
    have hs₂ : ∀ p ∈ tl₁ ++ own, p ∈ tl₁ ++ own := fun p hp => hp
    generalize ht2 : tl₁ ++ own = tl₂ at N₁ hB₂ hR₂ hr₂
    have hO₂ := hB₂.off
    have hU₂ := hB₂.hU
    obtain ⟨h₁, gs₁, d₁, tk₁, os₁⟩ := s₁
    dsimp only at F₁ N₁
    obtain ⟨m₂, t, tc, td, rfl⟩ := hB₁.frame
    rw [Int.zero_add]
    k_steps
    rename Fr _ _ _ _ => FF1
    rename News _ _ _ _ => NN1
    rename IsRange _ _ _ _ _ _ _ _ => RR1
    have h8 : n / 8 ^ i % 8 < 8 := Nat.mod_lt _ (by decide)
    rw [← ht2] at NN1
    refine' for_rangeW (by rfl) RR1 (small_8 ⟨n / 8 ^ i % 8, h8⟩) (n := n / 8 ^ i % 8) (size_8 ⟨n / 8 ^ i % 8, h8⟩) FF1 (unpack4 NN1) (fun t m nx => JR own L' n g ns ws U uc (cA n i t) (cB n i t) (cC n i t) (some (.int (i : Int) tt)) m nx) ?j1 ?step1 ?done1
    case j1 => exact ⟨tl₁, rows, its, R, rn, _, _, _, _, by rfl, hB₁, by exact ho0, hR, hr, hBu, by assumption, by assumption, by assumption, by assumption⟩
    case done1 =>
      intro m₃ news₃ s₃ hL₃ hJ F₃ N₃
      obtain ⟨tl₃, rows, its, R, rn, p1, p2, p3, p4, rfl, hB₃, hk₃, hR, hr, hBu, e1, e2, e3, e4⟩ := hJ
      refine wpAny_execs_nil ?_
      refine wpAny_execs_nil ?_
      obtain ⟨ca, cb, cc⟩ := c_next (n := n) hi
      rw [ca, cb, cc] at hBu
      exact ⟨_, _, _, ⟨hL₃.1, hL₃.2⟩, F₃, N₃, (fun p hp => List.mem_append_left _ hp), (fun p hp => List.mem_append_right _ hp), hk₃, ⟨_, tl₃, rows, its, R, rn, _, _, _, _, by exact (List.append_nil _).symm, hB₃, (fun p hp => absurd hp List.not_mem_nil), hR, hr, hBu, e1, e2, e3, e4⟩⟩
    case step1 =>
      intro t2 tt2 m₃ news₃ s₃ own₃ hL₃ hi₃ hJ ho₃ F₃ N₃
      obtain ⟨tl₃, rows, its, R, rn, p1, p2, p3, p4, rfl, hB₃, hk₃, hR, hr, hBu, e1, e2, e3, e4⟩ := hJ
      have ho3 : OwnOff own₃ [L' + 1 + 1 + 1 + 1, L' + 1 + 1 + 1, L' + 1 + 1, L' + 1] := fun p hp b hb => ho₃ p hp b (by
        simp only [List.map_append, List.map_cons, List.map_nil]
        exact List.mem_append_left _ (List.mem_append_left _ hb))
      have ho4 : OwnOff own [L' + 1 + 1 + 1 + 1, L' + 1 + 1 + 1, L' + 1 + 1, L' + 1] := fun p hp b hb => hk₃ p hp b (by
        simp only [List.map_append, List.map_cons, List.map_nil]
        exact List.mem_append_left _ hb)
      have sub : ∀ p ∈ tl₃, p ∈ tl₃ ++ (own ++ own₃) := fun p hp => List.mem_append_left _ hp
      have hk₄ : ∀ p ∈ own, p ∈ tl₃ ++ (own ++ own₃) := fun p hp => List.mem_append_right _ (List.mem_append_left _ hp)
      have hk₅ : ∀ p ∈ own₃, p ∈ tl₃ ++ (own ++ own₃) := fun p hp => List.mem_append_right _ (List.mem_append_right _ hp)
      have hB₄ := hB₃.set (tl' := tl₃ ++ (own ++ own₃)) rfl rfl rfl rfl sub (OwnOff.app hB₃.off (OwnOff.app ho4 ho3))
      have hR₄ := sub _ hR
      have hr₄ := hr.more sub
      replace N₃ := pack5 N₃
      clear hL₃ NN1 FF1 RR1 F₁ hB₁ hB₂ hR₂ hr₂ ht2
      generalize tl₃ ++ (own ++ own₃) = tl₄ at N₃ hB₄ hR₄ hr₄ hk₄ hk₅ sub
      have hO₄ := hB₄.off
      have hU₄ := hB₄.hU
      have hI := hB₄.hI
      have hn3 := hB₄.n3
      have hn20 := hB₄.n20
      have hrl := hr.1
      have hl17 : rows.length ≤ 17 := by rw [hBu.len]; exact c_bound hB₄.hn hi (Nat.le_of_lt hi₃)
      have hl20 : rows.length ≤ 20 := Nat.le_trans hl17 (by decide)
      have hi20 : its.length ≤ 20 := by rw [hr.1]; exact hl20
      obtain ⟨h₃, gs₃, d₃, tk₃, os₃⟩ := s₃
      dsimp only at F₃ N₃
      obtain ⟨m₅, t, tc, td, hm₅⟩ := hB₃.frame
      rw [hm₅] at F₃
      k_steps
      rename Fr _ _ _ _ => FF2
      rename News _ _ _ _ => NN2
      rename _ < _ ∧ _ ∧ _ ∧ _ ∧ _ ∧ _ ∧ _ ∧ _ ∧ _ ∧ AllLt _ _ => lR
      rename _ < _ ∧ _ ∧ _ ∧ _ ∧ _ ∧ AllLt _ _ => lD
      rename _ = 10 ∨ _ = 13 => he
      obtain ⟨ca, cb, cc⟩ := c_step (n := n) (t := t2) hi
      rw [← ca, ← cb, ← cc]
      exact lay_end hB₃ FF2 NN2 sub hk₄ hk₅ hk₃ ho₃ lR lD hr hBu hi rfl rfl he (by rw [hm₅]; rfl) (by rw [hm₅]; rfl) (by rw [hm₅]; rfl) (by rw [hm₅]; rfl) (by assumption) (by assumption) (by assumption) (by assumption) ⟨rfl, rfl⟩
  case done =>
    intro m₁ news₁ s₁ hL₁ hJ F₁ N₁
    obtain ⟨v2, tl₁, rows, its, R, rn, p1, p2, p3, p4, rfl, hB₁, _, hR, hr, hBu, e1, e2, e3, e4⟩ := hJ
    rw [List.append_nil] at N₁
    refine wpAny_execs_nil ?_
    exact h6 s₁ m₁ n g ns ws U uc tl₁ rows its R rn v2 p1 p2 p3 p4 hB₁ hR hr hBu ⟨hL₁.1.trans hL.1, hL₁.2.trans hL.2⟩ F₁ N₁ e1 e2 e3 e4
end Mine
local macro_rules | `(tactic| walk_at "no rule 1") => `(tactic| skip)
namespace Mine
open PySem PySem.W PySem.Calls PyProof.Rows PyProof.V PySem.Spec
theorem asM {m : Str → Option Value} {x : Str} {v : Option Value} (h : m x = v) : ∃ m' : Str → Option Value, m = fun z : Str => if z = x then v else m' z := ⟨m, by
  funext z
  by_cases e : z = x
  · rw [if_pos e, e, h]
  · rw [if_neg e]⟩
section
variable {prog : Program} {w : World} {A : Around} {E : Value → Shared → Prop} {s : Shared} {t u : Tok} {Q : Value → Shared → Prop} {a : List Nat}
theorem len_Tx (hl : a.length ≤ 1000) (h : Q (.int (a.length : Int) (s.toks + 1)) { s with toks := s.toks + 1 + 1 }) : wpAny (model prog w) A (call (.builtin "len") [.str (T a) t]) Q E s := by
  rw [← T_len a] at h hl
  exact len_str (by omega) h
theorem iadd_dot (hl : a.length ≤ 900) (h : ∀ t' tk, Q (.str (T (a ++ [46])) t') { s with toks := tk }) : wpAny (model rwp w) A (inplaceOp .Add (.str (T a) t) (.str (Str.ofString ".") u)) Q E s := by
  rw [dot_T]; exact iadd_T (b := [46]) (by simp only [List.length_cons, List.length_nil]; lia) h
theorem iadd_sp {c : Nat} {d : Int} (hl : a.length ≤ 900) (h : ∀ t' tk, Q (.str (T (a ++ spelled c d)) t') { s with toks := tk }) : wpAny (model rwp w) A (inplaceOp .Add (.str (T a) t) (.str (T (spelled c d)) u)) Q E s :=
  iadd_T (Nat.le_trans (Nat.add_le_add hl (spelled_len c d)) (by decide)) h
theorem iadd_end {e : Nat} (hl : a.length ≤ 900) (h : ∀ t' tk, Q (.str (T (a ++ [e])) t') { s with toks := tk }) : wpAny (model rwp w) A (inplaceOp .Add (.str (T a) t) (.str (T [e]) u)) Q E s :=
  iadd_T (b := [e]) (by simp only [List.length_cons, List.length_nil]; lia) h
end
theorem Bs.mix {L' : Addr} {m m' : Str → Option Value} {n : Nat} {g : Fin 3} {ns : List Int} {ws : List Value} {U : Addr} {uc : Nat} {tl tl' : List (Addr × Obj)} (B : Bs L' m n g ns ws U uc tl) (C : Bs L' m' n g ns ws U uc tl') : Bs L' m n g ns ws U uc tl' :=
  ⟨B.hn, B.n3, B.n20, B.nb, B.hI, C.hU, C.off, B.mn, B.mU, B.mc, B.md⟩
theorem over4 {a b c d : Addr × Obj} {l l' : List (Addr × Obj)} (h : ∀ q ∈ l, q ∈ l') : ∀ q ∈ a :: b :: c :: d :: l, q ∈ a :: b :: c :: d :: l' := fun q hq => by
  simp only [List.mem_cons] at hq ⊢
  rcases hq with h' | h' | h' | h' | h'
  · exact .inl h'
  · exact .inr (.inl h')
  · exact .inr (.inr (.inl h'))
  · exact .inr (.inr (.inr (.inl h')))
  · exact .inr (.inr (.inr (.inr (h q h'))))
theorem under4 {a b c d : Addr × Obj} {l l' : List (Addr × Obj)} (h : ∀ q ∈ l, q ∈ l') : ∀ q ∈ l, q ∈ a :: b :: c :: d :: l' := fun q hq => List.mem_cons_of_mem _ (List.mem_cons_of_mem _ (List.mem_cons_of_mem _ (List.mem_cons_of_mem _ (h q hq))))
theorem letter_ok (g : Fin 3) : 97 ≤ (pairOf g.val).1 ∧ (pairOf g.val).1 ≤ 122 := by revert g; decide
/-- the ledger without the list that is gone over -/
noncomputable def sans (R : Addr) (tl : List (Addr × Obj)) : List (Addr × Obj) := tl.filter fun p => decide (p.1 ≠ R)
theorem sans_mem {R : Addr} {tl : List (Addr × Obj)} {p : Addr × Obj} : p ∈ sans R tl ↔ p ∈ tl ∧ p.1 ≠ R := by
  unfold sans
  rw [List.mem_filter]
  exact ⟨fun h => ⟨h.1, of_decide_eq_true h.2⟩, fun h => ⟨h.1, decide_eq_true h.2⟩⟩
theorem same_at {g h : Heap} {L : Addr} {l : List (Addr × Obj)} {a : Addr} {o o' : Obj} (N : News g L h l) (h1 : (a, o) ∈ l) (h2 : (a, o') ∈ l) : o = o' := by
  have e1 := (N _ h1).1
  have e2 := (N _ h2).1
  dsimp only at e1 e2
  rw [e1] at e2
  exact Option.some.inj e2
theorem sans_rows {g h : Heap} {L : Addr} {cs tl : List (Addr × Obj)} {R : Addr} {its : List Value} {rn : Nat} {rows : List (Nat × Nat)} (N : News g L h (cs ++ tl)) (hR : (R, listOf its.toArray rn) ∈ tl) (hr : RowsAre tl its rows) : RowsAre (sans R tl) its rows :=
  ⟨hr.1, fun i p e => by
    obtain ⟨a, o, ta, tb, k, q, hm, hc, hd⟩ := hr.2 i p e
    refine ⟨a, o, ta, tb, k, q, sans_mem.mpr ⟨hm, fun ea => ?_⟩, hc, hd⟩
    dsimp only at ea
    subst ea
    have := same_at N (List.mem_append_right _ hm) (List.mem_append_right _ hR)
    rw [this] at hc
    exact absurd (show Value.type "list" = Value.type "tuple" from hc) (by decide)⟩
theorem sans_bs {g h : Heap} {L : Addr} {cs tl : List (Addr × Obj)} {R L' : Addr} {its ws : List Value} {rn n uc : Nat} {rows : List (Nat × Nat)} {m : Str → Option Value} {gg : Fin 3} {ns : List Int} {U : Addr} (B : Bs L' m n gg ns ws U uc tl) (N : News g L h (cs ++ tl)) (hR : (R, listOf its.toArray rn) ∈ tl) (hr : RowsAre tl its rows) : Bs L' m n gg ns ws U uc (sans R tl) :=
  ⟨B.hn, B.n3, B.n20, B.nb, B.hI, sans_mem.mpr ⟨B.hU, fun ea => by
    dsimp only at ea
    have hU := B.hU
    rw [ea] at hU
    have e := same_at N (List.mem_append_right _ hU) (List.mem_append_right _ hR)
    have e2 : Data.seq ws.toArray uc = Data.seq its.toArray rn := congrArg Obj.data e
    injection e2 with e3 _
    have e4 : ws = its := by simpa using congrArg Array.toList e3
    subst e4
    have n3 := B.n3
    cases B.hI with
    | nil => exact absurd n3 (by decide)
    | cons x t hI =>
      have hl := hr.1
      cases hrow : rows with
      | nil => rw [hrow] at hl; cases hl
      | cons p r =>
        obtain ⟨a, o, ta, tb, k, q, _⟩ := hr.2 0 p (by rw [hrow]; rfl)
        cases q⟩, fun p hp => B.off p (sans_mem.mp hp).1, B.mn, B.mU, B.mc, B.md⟩
theorem sans_back {g h h' : Heap} {L : Addr} {cs tl nx : List (Addr × Obj)} {R : Addr} {oR : Obj} (N : News g L h (cs ++ tl)) (hR : (R, oR) ∈ tl) (N' : News g L h' (cs ++ nx)) (hI : ∀ o, h.get? R = some o → h'.get? R = some o) : News g L h' (cs ++ ((R, oR) :: nx)) := fun p hp => by
  rcases List.mem_append.mp hp with hp | hp
  · exact N' p (List.mem_append_left _ hp)
  · rcases List.mem_cons.mp hp with rfl | hp
    · have := N _ (List.mem_append_right _ hR)
      exact ⟨hI _ this.1, this.2⟩
    · exact N' p (List.mem_append_right _ hp)
theorem sans_off {cs tl : List (Addr × Obj)} {R : Addr} {oR : Obj} {CA : List Addr} (hO : OwnOff tl CA) (hR : (R, oR) ∈ tl) (hc : cs.map (·.1) = CA) : ∀ p ∈ cs ++ sans R tl, p.1 ≠ R := fun p hp => by
  rcases List.mem_append.mp hp with hp | hp
  · exact Ne.symm (hO _ hR p.1 (hc ▸ List.mem_map.mpr ⟨p, hp, rfl⟩))
  · exact (sans_mem.mp hp).2
theorem sans_sub {cs tl : List (Addr × Obj)} {R : Addr} : ∀ p ∈ cs ++ sans R tl, p ∈ cs ++ tl := fun p hp => (List.mem_append.mp hp).elim (List.mem_append_left _) fun hp => List.mem_append_right _ (sans_mem.mp hp).1
/-- the mail while it is written -/
noncomputable def JM (L' : Addr) (n : Nat) (g : Fin 3) (ns : List Int) (ws : List Value) (U : Addr) (uc : Nat) (tl NX : List (Addr × Obj)) (r : List Nat) (z : Nat) (ex : (Str → Option Value) → Prop) (m : Str → Option Value) (nx : List (Addr × Obj)) : Prop :=
  ∃ ml tm, nx = NX ∧ Bs L' m n g ns ws U uc tl ∧ m "mail" = some (.str (T ml) tm) ∧ prep ml = r ∧ ml.length ≤ z ∧ ex m
local macro_rules | `(tactic| walk_at "exec For Tuple Name cons nil") => `(tactic| (with_reducible apply for_any; intro _; k_dflt rfl))
local macro_rules | `(tactic| walk_at "call builtin:len") => `(tactic| with_reducible apply len_Tx; lia)
local macro_rules | `(tactic| walk_at "inplaceOp Add str str") => `(tactic| with_reducible apply iadd_dot; lia; intros)
local macro_rules | `(tactic| walk_at "inplaceOp Add str str") => `(tactic| with_reducible apply iadd_sp; lia; intros)
local macro_rules | `(tactic| walk_at "inplaceOp Add str str") => `(tactic| with_reducible apply iadd_end; lia; intros)
local macro_rules | `(tactic| walk_at "call ref") => `(tactic| ((with_reducible apply at155); k_dflt (apply call_spelled; assumption; assumption; walk_at "~call")))
local macro_rules | `(tactic| walk_at "pyIter ref") => `(tactic| apply Hold.h)
set_option maxHeartbeats 800000 in
theorem seg6 (w : World) (loose : List Str) (mean : ExcName → Option Value) (mg mb : Str → Option Value) (h₀ : Heap) (L' fa l : Addr) (cdv : Value) (s0 : Shared) (Q : Flow → Shared → Prop) (E : Value → Shared → Prop)
    (X : (K w.params).In h₀) (TT : Top qv loose mean mg mb h₀) (B : Below callerA h₀ [] h₀) (h8 : Seg8 w loose mean mg mb h₀ L' fa l cdv s0 Q E) : Seg6 w loose mean mg mb h₀ L' fa l cdv s0 Q E := by
  unfold Seg6 rwp
  revert X
  k_fill
  intro X s m n g ns ws U uc tl rows its R rn v2 o1 o2 o3 o4 hB hR hr hBu hL F N d1 d2 d3 d4
  have hO := hB.off
  have hU := hB.hU
  obtain ⟨hh, gs, dd, tk, os⟩ := s
  dsimp only at F N
  show wpAny _ _ (execs (_ :: _) _) _ _ _
  obtain ⟨m₂, t, tc, td, hm₂⟩ := hB.frame
  have hrs := sans_rows N hR hr
  have hBs := sans_bs hB N hR hr
  rw [hm₂] at F
  simp only [List.cons_append, List.nil_append] at N
  k_steps
  refine ⟨?_⟩
  rename Fr _ _ _ _ => FF
  rename News _ _ _ _ => NN
  obtain ⟨gc1, gc2⟩ := prep_pair g
  refine' for_listW (by rfl) (.inr ⟨_, List.mem_append_right [(_, _), (_, _), (_, _), (_, _)] hR, rfl, _, rfl⟩) FF NN sans_sub (sans_off hO hR rfl) (fun i m nx => JM L' n g ns ws U uc (sans R tl) ([_, _, _, _] ++ sans R tl) (plain (pairOf g.val).1 (rows.take i)) (12 * i) (fun _ => True) m nx) ?j0 ?step ?done
  case j0 => exact ⟨[], _, by rfl, hBs.set (by rw [hm₂]; rfl) (by rw [hm₂]; rfl) (by rw [hm₂]; rfl) (by rw [hm₂]; rfl) (fun p hp => hp) hBs.off, by rw [← nil_T]; rfl, rfl, Nat.le_refl _, trivial⟩
  case done =>
    intro m₁ news₁ s₁ hL₁ hJ F₁ N₁ hI
    obtain ⟨ml, tm, rfl, hB₁, hm, hp, hlen, _⟩ := hJ
    refine wpAny_execs_nil ?_
    have hsz : its.toArray.size = rows.length := by rw [List.size_toArray, hr.1]
    rw [hsz, List.take_length] at hp
    rw [hsz] at hlen
    have hl17 : rows.length ≤ 17 := by rw [hBu.len]; exact c_bound (i := 2) hB.hn (by decide) (Nat.le_refl _)
    have Nb := sans_back NN (tl := tl) (cs := [_, _, _, _]) hR N₁ hI
    have sub1 : ∀ p ∈ sans R tl, p ∈ (R, listOf its.toArray rn) :: sans R tl := fun p hp => List.mem_cons_of_mem _ hp
    exact h8 s₁ m₁ n g ns ws U uc ((R, listOf its.toArray rn) :: sans R tl) rows its R rn v2 ml tm o1 o2 o3 o4 (hB₁.set rfl rfl rfl rfl sub1 (List.forall_mem_cons.mpr ⟨hO _ hR, hB₁.off⟩)) List.mem_cons_self (hrs.more sub1) hBu hm (by lia) hp ⟨hL₁.1.trans hL.1, hL₁.2.trans hL.2⟩ F₁ Nb d1 d2 d3 d4
  case step =>
    intro i v m₁ news₁ s₁ own hL₁ hv hJ ho F₁ N₁
    obtain ⟨ml, tm, rfl, hB₁, hm, hp, hlen, _⟩ := hJ
    have hi : i < rows.length := by
      have := (Array.getElem?_eq_some_iff.mp hv).1
      rw [List.size_toArray, hr.1] at this
      exact this
    obtain ⟨p, hpi⟩ : ∃ p, rows[i]? = some p := ⟨_, List.getElem?_eq_getElem hi⟩
    obtain ⟨a, ob, ta, tb, nn, hia, hmem, hc, hdt⟩ := hrs.2 i p hpi
    have hva : v = .ref a := by
      rw [List.getElem?_toArray, hia] at hv
      exact (Option.some.inj hv).symm
    subst hva
    have hpm : p ∈ rows := List.mem_of_getElem? hpi
    have hsz := hBu.sizes _ hpm
    have hed := hBu.ends _ hpm
    have hz21 : p.1 < 21 := by rcases hsz with h | h | h <;> rw [h] <;> decide
    have hpl : plain (pairOf g.val).1 (rows.take (i + 1)) = plain (pairOf g.val).1 (rows.take i) ++ rowP (pairOf g.val).1 p := by
      rw [List.take_add_one, hpi, plain_app]
      show _ ++ (rowP _ p ++ []) = _
      rw [List.append_nil]
    have hl17 : rows.length ≤ 17 := by rw [hBu.len]; exact c_bound (i := 2) hB.hn (by decide) (Nat.le_refl _)
    have ho1 : OwnOff own [L' + 1 + 1 + 1 + 1, L' + 1 + 1 + 1, L' + 1 + 1, L' + 1] := fun p hp b hb => ho p hp b (by
      simp only [List.map_append, List.map_cons, List.map_nil]
      exact List.mem_append_left _ hb)
    have hs1 : ∀ q ∈ sans R tl, q ∈ sans R tl ++ own := fun q hq => List.mem_append_left _ hq
    have hs2 : ∀ q ∈ own, q ∈ sans R tl ++ own := fun q hq => List.mem_append_right _ hq
    have hB₂ := hB₁.set rfl rfl rfl rfl hs1 (OwnOff.app hB₁.off ho1)
    replace N₁ := pack4 N₁
    have hT : IsTup s₁.heap a #[.int (p.1 : Int) ta, .str (T [p.2]) tb] := ⟨ob, (N₁ (a, ob) (List.mem_cons_of_mem _ (List.mem_cons_of_mem _ (List.mem_cons_of_mem _ (List.mem_cons_of_mem _ (hs1 _ hmem)))))).1, hc, nn, hdt⟩
    clear FF NN
    generalize sans R tl ++ own = tl₂ at N₁ hB₂ hs1 hs2
    have hO₂ := hB₂.off
    have hU₂ := hB₂.hU
    have hI := hB₂.hI
    have hn3 := hB₂.n3
    have hn20 := hB₂.n20
    obtain ⟨h₁, gs₁, d₁, tk₁, os₁⟩ := s₁
    dsimp only at F₁ N₁ hT
    obtain ⟨m₃, rfl⟩ := asM hm
    have hB₃ := hB₂.set (m' := m₃) rfl rfl rfl rfl (fun p hp => hp) hB₂.off
    obtain ⟨m₄, t', tc', td', rfl⟩ := hB₃.frame
    have hml : ml.length ≤ 900 := by lia
    obtain ⟨hc1, hc2⟩ := letter_ok g
    k_steps
    refine ⟨?_⟩
    rename Fr _ _ _ _ => F₂
    rename News _ _ _ _ => N₂
    rename IsRange _ _ _ _ _ _ _ _ => RR
    have hp0 : prep (ml ++ [46]) = plain (pairOf g.val).1 (rows.take i) ++ 46 :: List.replicate 0 (pairOf g.val).1 := by rw [prep_app, hp, prep_base.1]; rfl
    refine' for_rangeW (by rfl) RR (small_n ⟨p.1, hz21⟩) (n := p.1) (size_n ⟨p.1, hz21⟩) F₂ N₂ (fun j m nx => JM L' n g ns ws U uc tl₂ ((L' + 1 + 1 + 1 + 1, o4) :: (L' + 1 + 1 + 1, o3) :: (L' + 1 + 1, o2) :: (L' + 1, o1) :: tl₂) (plain (pairOf g.val).1 (rows.take i) ++ 46 :: List.replicate j (pairOf g.val).1) (12 * i + 1 + 2 * j) (fun m => m "end" = some (.str (T [p.2]) tb)) m nx) ?j1 ?step1 ?done1
    case j1 => exact ⟨_, _, rfl, hB₃.set rfl rfl rfl rfl (fun p hp => hp) hB₂.off, by rfl, hp0, by rw [List.length_append]; simp only [List.length_cons, List.length_nil]; lia, by rfl⟩
    case step1 =>
      intro j tt m₅ news₅ s₅ own₅ hL₅ hj hJ ho₅ F₅ N₅
      obtain ⟨ml₅, tm₅, rfl, hB₅, hm₅, hp₅, hlen₅, hend⟩ := hJ
      have ho5 : OwnOff own₅ [L' + 1 + 1 + 1 + 1, L' + 1 + 1 + 1, L' + 1 + 1, L' + 1] := fun p hp b hb => ho₅ p hp b (by
        simp only [List.map_cons]
        simp only [List.mem_cons, List.not_mem_nil, or_false] at hb ⊢
        rcases hb with h | h | h | h <;> simp [h])
      have hs5 : ∀ q ∈ tl₂, q ∈ tl₂ ++ own₅ := fun q hq => List.mem_append_left _ hq
      have hs6 : ∀ q ∈ own₅, q ∈ tl₂ ++ own₅ := fun q hq => List.mem_append_right _ hq
      have hB₆ := hB₅.set rfl rfl rfl rfl hs5 (OwnOff.app hB₅.off ho5)
      simp only [List.cons_append] at N₅
      clear F₂ N₂ RR
      generalize tl₂ ++ own₅ = tl₆ at N₅ hB₆ hs5 hs6
      have hO₆ := hB₆.off
      have hU₆ := hB₆.hU
      obtain ⟨h₅, gs₅, d₅, tk₅, os₅⟩ := s₅
      dsimp only at F₅ N₅
      obtain ⟨m₆, rfl⟩ := asM hm₅
      have hB₇ := hB₆.set (m' := m₆) rfl rfl rfl rfl (fun p hp => hp) hB₆.off
      have hend' : m₆ "end" = some (.str (T [p.2]) tb) := hend
      obtain ⟨m₇, rfl⟩ := asM hend'
      have hB₈ := hB₇.set (m' := m₇) rfl rfl rfl rfl (fun p hp => hp) hB₆.off
      obtain ⟨m₈, t8, tc8, td8, rfl⟩ := hB₈.frame
      have hml5 : ml₅.length ≤ 900 := by lia
      clear hB₅ hB₆ hB₇
      k_steps
      rename Fr _ _ _ _ => F₇
      rename News _ _ _ _ => N₇
      refine ⟨_, _, _, ⟨rfl, rfl⟩, F₇, N₇, over4 hs5, under4 hs6, ho₅, _, _, rfl, (hB₈.mix hB₂).set rfl rfl rfl rfl (fun p hp => hp) hB₂.off, by rfl, ?_, ?_, by rfl⟩
      · rw [prep_app, hp₅, spelled_prep g, List.append_assoc, List.replicate_succ']; rfl
      · rw [List.length_append]
        have := spelled_len (pairOf g.val).1 (ns.getD ((ml₅.length : Int).fmod (ns.length : Int)).toNat 0 + (ml₅.length : Int))
        lia
    case done1 =>
      intro m₅ news₅ s₅ hL₅ hJ F₅ N₅
      obtain ⟨ml₅, tm₅, rfl, hB₅, hm₅, hp₅, hlen₅, hend⟩ := hJ
      refine wpAny_execs_nil ?_
      clear F₂ N₂ RR
      have hlen6 : ml₅.length ≤ 12 * i + 11 := by rcases hsz with h | h | h <;> rw [h] at hlen₅ <;> lia
      obtain ⟨h₅, gs₅, d₅, tk₅, os₅⟩ := s₅
      dsimp only at F₅ N₅
      obtain ⟨m₆, rfl⟩ := asM hm₅
      have hend' : m₆ "end" = some (.str (T [p.2]) tb) := hend
      obtain ⟨m₇, rfl⟩ := asM hend'
      have hB₈ := hB₅.set (m' := m₇) rfl rfl rfl rfl (fun p hp => hp) hB₅.off
      obtain ⟨m₈, t8, tc8, td8, rfl⟩ := hB₈.frame
      have hml5 : ml₅.length ≤ 900 := by lia
      clear hB₅
      show wpAny _ _ (execs (_ :: _) _) _ _ _
      k_steps
      rename Fr _ _ _ _ => F₇
      rename News _ _ _ _ => N₇
      refine ⟨_, _, _, ⟨hL₅.1, hL₅.2⟩, F₇, N₇, over4 hs1, under4 hs2, ho, _, _, rfl, (hB₈.mix hB₁).set rfl rfl rfl rfl (fun p hp => hp) hB₁.off, by rfl, ?_, ?_, trivial⟩
      · rw [prep_app, hp₅, prep_end hed, hpl, List.append_assoc]; rfl
      · rw [List.length_append]
        simp only [List.length_cons, List.length_nil]
        lia
end Mine
namespace Mine
open PySem PySem.W PySem.Calls PyProof.Rows PyProof.V PySem.Spec
theorem stop_grown {M : Model} {A : Around} {E : Value → Shared → Prop} {s : Shared} {Q : Flow → Shared → Prop} {p v u r env} (h : Hold (wpAny M A (execs (.Assign [.Name (Str.ofString "grown") p] v u :: r) env) Q E s)) : wpAny M A (execs (.Assign [.Name (Str.ofString "grown") p] v u :: r) env) Q E s := h.1
theorem at_ref {M : Model} {A : Around} {E Q : Value → Shared → Prop} {s : Shared} {vs} (f : Addr) (h : wpAny M A (call (.ref f) vs) Q E s) : wpAny M A (call (.ref f) vs) Q E s := h
theorem use_prep {w : World} {loose : List Str} {mean : ExcName → Option Value} {mg mb : Str → Option Value} {l : List Nat} {t : Tok} (hl0 : l.length ≤ 1000) (hp : (prep l).length ≤ 1000) : CtrR w loose mean mg mb 160 True [.str (T l) t] (fun t => .str (T (prep l)) t) := c_prep w loose mean mg mb l hl0 hp t
/-- a contract for a list of rows in the ledger -/
noncomputable abbrev CtrY (w : World) (loose : List Str) (mean : ExcName → Option Value) (mg mb : Str → Option Value) (f : Addr) (rows : List (Nat × Nat)) (its : List Value) (Z : Addr) (n : Nat) (vs : List Value) (R : Tok → Value) : Prop :=
  ∀ (dp un : Nat) (gd : Option (List Code)) (cn : Str) (cs : Scope) (a : Addr) (ccd : Value) (cl : List (Str × Addr)) (outer : List Env) (A₀ : Around) (base h₀ : Heap) (L : Addr) (m : Str → Option Value) (s : Shared) (Q E : Value → Shared → Prop) (news : List (Addr × Obj)),
    Below A₀ base outer h₀ → Fr h₀ L s.heap m → (K w.params).In h₀ → News h₀ L s.heap news → Top qv loose mean mg mb h₀ → cs.kind = .function →
    dp + 3 < recursionLimit → un + 30 < cLine → (Z, listOf its.toArray n) ∈ news → RowsAre news its rows → rows.length ≤ 20 → (∀ p ∈ rows, p.1 ≤ 20) → (∀ (t : Tok) (s' : Shared), Later s s' → Fr h₀ L s'.heap m → News h₀ L s'.heap news → Q (R t) s') →
      wpAny (model rwp w) (ktrTop dp un gd cn cs L a ccd cl outer) (call (.ref f) vs) Q E s
theorem use_plain {w : World} {loose : List Str} {mean : ExcName → Option Value} {mg mb : Str → Option Value} {c : Nat} {t : Tok} {rows : List (Nat × Nat)} {its : List Value} {Z : Addr} {n : Nat} : CtrY w loose mean mg mb 165 rows its Z n [.str ⟨#[c]⟩ t, .ref Z] (fun t => .str (T (plain c rows)) t) :=
  fun _ _ _ _ _ _ _ _ _ _ _ _ _ _ _ _ _ _ k0 k1 k2 k3 k4 k5 k6 k7 hZ hr hlen hs kR => c_plain w loose mean mg mb c rows its Z n _ hZ hr hlen hs t _ _ _ _ _ _ _ _ _ _ _ _ _ _ _ _ _ k0 k1 k2 k3 k4 k5 k6 k7 kR
theorem use_sent {w : World} {loose : List Str} {mean : ExcName → Option Value} {mg mb : Str → Option Value} {c : Nat} {t : Tok} {rows : List (Nat × Nat)} {its : List Value} {Z : Addr} {n : Nat} : CtrY w loose mean mg mb 170 rows its Z n [.str ⟨#[c]⟩ t, .ref Z] (fun t => .str (T (sent c rows)) t) :=
  fun _ _ _ _ _ _ _ _ _ _ _ _ _ _ _ _ _ _ k0 k1 k2 k3 k4 k5 k6 k7 hZ hr hlen hs kR => c_sent w loose mean mg mb c rows its Z n _ hZ hr hlen hs t _ _ _ _ _ _ _ _ _ _ _ _ _ _ _ _ _ k0 k1 k2 k3 k4 k5 k6 k7 kR
section
variable {prog : Program} {w : World} {A : Around} {E : Value → Shared → Prop} {s : Shared} {t u : Tok} {Q : Value → Shared → Prop} {a b : List Nat}
theorem ne_same (e : a = b) (h : Q (.bool false) s) : wpAny (model prog w) A (compareOp .NotEq (.str (T a) t) (.str (T b) u)) Q E s := by
  subst e
  refine ne_str ?_
  simpa using h
theorem eq_same (e : a = b) (h : Q (.bool true) s) : wpAny (model prog w) A (compareOp .Eq (.str (T a) t) (.str (T b) u)) Q E s := by
  subst e
  refine eq_str ?_
  simpa using h
end
theorem plain_len {c : Nat} {rows : List (Nat × Nat)} (hlen : rows.length ≤ 20) (hs : ∀ p ∈ rows, p.1 ≤ 20) : (plain c rows).length ≤ 480 :=
  Nat.le_trans (img_len (img := rowP c) fun p hp => rowP_len (hs p hp)) (Nat.le_trans (Nat.mul_le_mul_right 24 hlen) (by decide))
theorem Built.small {rows : List (Nat × Nat)} {a b c : Nat} (B : Built rows a b c) : ∀ p ∈ rows, p.1 ≤ 20 := fun p hp => by rcases B.sizes p hp with h | h | h <;> rw [h] <;> decide
theorem Built.few {rows : List (Nat × Nat)} {n : Nat} (B : Built rows (n % 8) (n / 8 % 8) (n / 64 % 8)) (hn : n < 256) : rows.length ≤ 17 := by rw [B.len]; exact c_bound (i := 2) hn (by decide) (Nat.le_refl _)
end Mine
local macro_rules | `(tactic| walk_at "~rows") => `(tactic| first | assumption | exact RowsAre.more (by assumption) (fun p hp => by with_reducible repeat first | exact hp | apply List.mem_cons_of_mem))
local macro_rules | `(tactic| walk_at "~callR") => `(tactic| (k_asm; k_asm; k_asm; k_asm; k_asm; (first | exact rfl | assumption); trivial; ktr_room; ktr_units; (intro t' s' hL' F' N'; obtain ⟨h', gs', dd', tk', os'⟩ := s'); try dsimp only at F' N' ⊢))
local macro_rules | `(tactic| walk_at "call ref") => `(tactic| ((with_reducible apply at_ref 160); k_dflt (apply use_prep; assumption; assumption; walk_at "~callR")))
local macro_rules | `(tactic| walk_at "~callY") => `(tactic| (k_asm; k_asm; k_asm; k_asm; k_asm; (first | exact rfl | assumption); ktr_room; ktr_units; k_mem; walk_at "~rows"; assumption; assumption; (intro t' s' hL' F' N'; obtain ⟨h', gs', dd', tk', os'⟩ := s'); try dsimp only at F' N' ⊢))
local macro_rules | `(tactic| walk_at "call ref") => `(tactic| ((with_reducible apply at_ref 165); k_dflt (apply use_plain; walk_at "~callY")))
local macro_rules | `(tactic| walk_at "compareOp NotEq str str") => `(tactic| with_reducible apply ne_same; assumption)
namespace Mine
open PySem PySem.W PySem.Calls PyProof.Rows PyProof.V PySem.Spec
local macro_rules | `(tactic| walk_at "execs cons") => `(tactic| with_reducible apply stop_grown)
local macro_rules | `(tactic| walk_at "execs cons Assign cons") => `(tactic| with_reducible apply stop_grown)
set_option maxHeartbeats 800000 in
theorem seg8 (w : World) (loose : List Str) (mean : ExcName → Option Value) (mg mb : Str → Option Value) (h₀ : Heap) (L' fa l : Addr) (cdv : Value) (s0 : Shared) (Q : Flow → Shared → Prop) (E : Value → Shared → Prop)
    (X : (K w.params).In h₀) (TT : Top qv loose mean mg mb h₀) (B : Below callerA h₀ [] h₀) (h10 : Seg10 w loose mean mg mb h₀ L' fa l cdv s0 Q E) : Seg8 w loose mean mg mb h₀ L' fa l cdv s0 Q E := by
  unfold Seg8 rwp
  revert X
  k_fill
  intro X s m n g ns ws U uc tl rows its R rn v2 ml tm o1 o2 o3 o4 hB hR hr hBu hm hml hp hL F N d1 d2 d3 d4
  have hO := hB.off
  have hl20 : rows.length ≤ 20 := Nat.le_trans (hBu.few hB.hn) (by decide)
  have hs20 := hBu.small
  have hpl : (prep ml).length ≤ 1000 := by rw [hp]; exact Nat.le_trans (plain_len hl20 hs20) (by decide)
  obtain ⟨hh, gs, dd, tk, os⟩ := s
  dsimp only at F N
  show wpAny _ _ (execs (_ :: _) _) _ _ _
  obtain ⟨m₁, rfl⟩ := asM hm
  have hB' := hB.set (m' := m₁) rfl rfl rfl rfl (fun p hp => hp) hO
  obtain ⟨m₂, t, tc, td, rfl⟩ := hB'.frame
  simp only [List.cons_append, List.nil_append] at N
  k_steps
  refine ⟨?_⟩
  rename Fr _ _ _ _ => F₉
  rename News _ _ _ _ => N₉
  rename Later _ _ => l3
  rename Later ⟨_, gs, dd, _, os⟩ _ => l2
  exact h10 _ _ n g ns ws U uc tl rows its R rn v2 o1 o2 o3 o4 (hB'.set rfl rfl rfl rfl (fun p hp => hp) hO) hR hr hBu ⟨l3.1.trans (l2.1.trans hL.1), l3.2.trans (l2.2.trans hL.2)⟩ F₉ N₉ d1 d2 d3 d4
end Mine
namespace Mine
open PySem PySem.W PySem.Calls PyProof.Rows PyProof.V PySem.Spec PyProof.Rows.LCg PyProof.Rows.LCt
theorem RowsAre.snoc {news : List (Addr × Obj)} {its : List Value} {rows : List (Nat × Nat)} {p : Nat × Nat} {a : Addr} {o : Obj} {ta tb : Tok} {k : Nat} (h : RowsAre news its rows) (hm : (a, o) ∈ news) (hc : o.cls = .type "tuple") (hd : o.data = .seq #[.int (p.1 : Int) ta, .str (T [p.2]) tb] k) : RowsAre news (its ++ [.ref a]) (rows ++ [p]) := by
  refine ⟨by rw [List.length_append, List.length_append, h.1]; rfl, fun i q hq => ?_⟩
  by_cases hi : i < rows.length
  · rw [List.getElem?_append_left hi] at hq
    rw [List.getElem?_append_left (by rw [h.1]; exact hi)]
    exact h.2 i q hq
  · rw [List.getElem?_append_right (Nat.le_of_not_lt hi)] at hq
    rw [List.getElem?_append_right (by rw [h.1]; exact Nat.le_of_not_lt hi), h.1]
    cases hj : i - rows.length with
    | zero =>
      rw [hj] at hq
      have e : p = q := Option.some.inj hq
      subst e
      exact ⟨a, o, ta, tb, k, rfl, hm, hc, hd⟩
    | succ j => rw [hj] at hq; cases hq
section
variable {prog : Program} {w : World} {A : Around} {E : Value → Shared → Prop} {s : Shared} {h₀ : Heap} {L : Addr} {m : Str → Option Value} {env : Env}
/-- the rows that are kept -/
theorem rest_keep {ct elt : PySem.Expr} {x : Str} {scope : Scope} {cl : List (Str × Addr)} {S : List (Addr × Obj) → Prop} {Fin : List Value → List (Addr × Obj) → Prop} {news : List (Addr × Obj)} {its : List Value} {rows : List (Nat × Nat)} (keep : Nat × Nat → Bool) (hr : RowsAre news its rows)
    (turn : ∀ (p : Nat × Nat) (a : Addr) (o : Obj) (ta tb : Tok) (kk : Nat) I oI C oC D m₂ ys h tk (E' : Value → Shared → Prop), p ∈ rows → (a, o) ∈ news → o.cls = .type "tuple" → o.data = .seq #[.int (p.1 : Int) ta, .str (T [p.2]) tb] kk → NsObj oC m₂ → m₂ x = some (.ref a) → Fr h₀ L h m → News h₀ L h ((I, oI) :: (C, oC) :: (D, lst ys) :: news) → Off3 I C D news → ((@Ne Nat I C) ∧ (@Ne Nat I D) ∧ (@Ne Nat C D)) →
      wpAny (model prog w) A (isTrue ct (compEnvC scope cl C env) (eval ct (compEnvC scope cl C env))) (fun ok s' => if ok = true then
        wpAny (model prog w) A (eval elt (compEnvC scope cl C env)) (CompEnd h₀ L m { s with heap := h, toks := tk } I oI C oC D (lst ys) S (fun y news' => keep p = true ∧ news' = news ∧ y = .ref a)) E' s'
        else CompEnd h₀ L m { s with heap := h, toks := tk } I oI C oC D (lst ys) S (fun _ news' => keep p = false ∧ news' = news) Value.none s') E' { s with heap := h, toks := tk })
    (fin : ∀ its' : List Value, RowsAre news its' (rows.filter keep) → Fin its' news) : CompRestT prog w A h₀ L m env ct elt x scope cl s S (fun i v => its.toArray[i]? = some v) Fin its.toArray.size 0 [] news := by
  have key : ∀ (k i : Nat) (l : List Value), k + i = rows.length → RowsAre news l ((rows.take i).filter keep) → CompRestT prog w A h₀ L m env ct elt x scope cl s S (fun i v => its.toArray[i]? = some v) Fin k i l news := by
    intro k
    induction k with
    | zero =>
      intro i l hk hl
      refine CompRestT.zero (fin l ?_)
      rwa [List.take_of_length_le (by lia)] at hl
    | succ k ih =>
      intro i l hk hl
      refine CompRestT.succ fun v I oI C oC D m₂ h tk E' hP hC hx F N off ne => ?_
      have hi : i < rows.length := by lia
      obtain ⟨a, o, ta, tb, n, q, hm, hc, hd⟩ := hr.2 i rows[i] (List.getElem?_eq_getElem hi)
      have hv' : v = .ref a := by
        rw [List.getElem?_toArray, q] at hP
        exact (Option.some.inj hP).symm
      subst hv'
      have tk1 : rows.take (i + 1) = rows.take i ++ [rows[i]] := by rw [List.take_add_one, List.getElem?_eq_getElem hi]; rfl
      refine wpAny_mono (turn rows[i] a o ta tb n I oI C oC D m₂ l h tk E' (List.getElem_mem hi) hm hc hd hC hx F N off ne) (fun ok s' h' => ?_) fun _ _ e => e
      cases ok with
      | true =>
        simp only [if_true] at h' ⊢
        refine wpAny_mono h' (fun y' s'' h'' => ?_) fun _ _ e => e
        obtain ⟨h₂, tk₂, nw, e, F₂, N₂, off₂, hS₂, hk₂, rfl, rfl⟩ := h''
        refine ⟨h₂, tk₂, nw, e, F₂, N₂, off₂, hS₂, ?_⟩
        refine ih (i + 1) _ (by lia) ?_
        rw [tk1, List.filter_append, List.filter_cons_of_pos hk₂]
        exact hl.snoc hm hc hd
      | false =>
        simp only [Bool.false_eq_true, if_false] at h' ⊢
        obtain ⟨h₂, tk₂, nw, e, F₂, N₂, off₂, hS₂, hk₂, rfl⟩ := h'
        refine ⟨h₂, tk₂, nw, e, F₂, N₂, off₂, hS₂, ?_⟩
        refine ih (i + 1) _ (by lia) ?_
        rw [tk1, List.filter_append, List.filter_cons_of_neg (by rw [hk₂]; decide), List.filter_nil, List.append_nil]
        exact hl
  have e : its.toArray.size = rows.length := by rw [List.size_toArray, hr.1]
  rw [e]
  exact key rows.length 0 [] rfl ⟨rfl, fun i p e => by cases e⟩
end
theorem ctr_use2 {w : World} {loose : List Str} {mean : ExcName → Option Value} {mg mb : Str → Option Value} {f : Addr} {pre : Prop} {vs : List Value} {R : Tok → Value} (hp : pre) (C : Ctr w loose mean mg mb f pre vs R) : CtrU w loose mean mg mb f vs R :=
  fun k1 k2 k3 k4 k5 kK kd ku kR => C _ _ _ _ _ _ _ _ _ _ _ _ _ _ _ _ _ _ k1 k2 k3 k4 k5 kK hp kd ku kR
theorem sent_le {c : Nat} {rows : List (Nat × Nat)} (hlen : rows.length ≤ 20) (hs : ∀ p ∈ rows, p.1 ≤ 20) : (sent c rows).length ≤ 480 :=
  Nat.le_trans (img_len (img := rowS c) fun p hp => rowS_len (hs p hp)) (Nat.le_trans (Nat.mul_le_mul_right 24 hlen) (by decide))
theorem quote_mail (w : World) (loose : List Str) (mean : ExcName → Option Value) (mg mb : Str → Option Value) {c : Nat} {rows : List (Nat × Nat)} {t : Tok} (h1 : 97 ≤ c) (he : ∀ p ∈ rows, p.2 = 10 ∨ p.2 = 13) :
    Ctr w loose mean mg mb 77 ((T (plain c rows)).cps.size ≤ 100000) [.str (T (plain c rows)) t] (fun t => .str (T (sent c rows)) t) := by
  have C := c_quote w loose mean mg mb (T (plain c rows)) t
  have e : (⟨(dots true (crlf (T (plain c rows)).cps.toList)).toArray⟩ : Str) = T (sent c rows) := by
    have e2 : (T (plain c rows)).cps.toList = plain c rows := rfl
    rw [e2, quote_rows (by lia) (by lia) (by lia) he]
  rw [e] at C
  exact C
/-- quotedata of a plain mail -/
theorem use_quote {w : World} {loose : List Str} {mean : ExcName → Option Value} {mg mb : Str → Option Value} {c : Nat} {rows : List (Nat × Nat)} {t : Tok} (h1 : 97 ≤ c) (he : ∀ p ∈ rows, p.2 = 10 ∨ p.2 = 13) (hlen : rows.length ≤ 20) (hs : ∀ p ∈ rows, p.1 ≤ 20) :
    CtrU w loose mean mg mb 77 [.str (T (plain c rows)) t] (fun t => .str (T (sent c rows)) t) :=
  ctr_use2 (Nat.le_trans (show (plain c rows).length ≤ 480 from plain_len hlen hs) (by decide)) (quote_mail w loose mean mg mb h1 he)
theorem app_two {w : World} {A : Around} {E : Value → Shared → Prop} {s : Shared} {h₀ : Heap} {L a : Addr} {m : Str → Option Value} {vs : List Value} {c : Nat} {v : Value} {t : Addr × Obj} {rest : List (Addr × Obj)} {Q : Value → Shared → Prop} (F : Fr h₀ L s.heap m) (N : News h₀ L s.heap (t :: (a, listOf vs.toArray c) :: rest)) (ht : t.1 ≠ a) (hne : ∀ p ∈ rest, p.1 ≠ a) (hl : vs.length ≤ 1000)
    (h : ∀ h', Fr h₀ L h' m → News h₀ L h' (t :: (a, listOf (vs ++ [v]).toArray (c + 1)) :: rest) → Q .none { s with heap := h' }) : wpAny (model rwp w) A (call (.builtin "list.append") [.ref a, v]) Q E s :=
  append_K F N (Upd.tail ht (Upd.head hne)) (fun h' F' N' => h h' F' (by simpa using N')) (by rw [List.size_toArray]; exact Nat.le_trans hl (by decide))
section
variable {prog : Program} {w : World} {A : Around} {E : Value → Shared → Prop} {s : Shared} {t u : Tok} {Q : Value → Shared → Prop} {c : Nat} {rows : List (Nat × Nat)}
theorem len_sent (hlen : rows.length ≤ 20) (hs : ∀ p ∈ rows, p.1 ≤ 20) (h : Q (.int ((sent c rows).length : Int) (s.toks + 1)) { s with toks := s.toks + 1 + 1 }) : wpAny (model prog w) A (call (.builtin "len") [.str (T (sent c rows)) t]) Q E s :=
  len_Tx (Nat.le_trans (sent_le hlen hs) (by decide)) h
theorem len_plain (hlen : rows.length ≤ 20) (hs : ∀ p ∈ rows, p.1 ≤ 20) (h : Q (.int ((plain c rows).length : Int) (s.toks + 1)) { s with toks := s.toks + 1 + 1 }) : wpAny (model prog w) A (call (.builtin "len") [.str (T (plain c rows)) t]) Q E s :=
  len_Tx (Nat.le_trans (plain_len hlen hs) (by decide)) h
theorem half_rows (h : Q (.int (rows.length : Int) s.toks) { s with toks := s.toks + 1 }) : wpAny (model prog w) A (binaryOp .FloorDiv (.int (((sent c rows).length : Int) - ((plain c rows).length : Int)) t) (.int 2 u)) Q E s := by
  refine floordiv_int (by decide) ?_ (Or.inl (PyProof.noPylong_small (by decide)))
  have e : (((sent c rows).length : Int) - ((plain c rows).length : Int)).fdiv 2 = (rows.length : Int) := by
    rw [sent_len, Int.fdiv_eq_ediv_of_nonneg _ (by decide)]
    lia
  rw [e]; exact h
end
end Mine
local macro_rules | `(tactic| walk_at "call ref") => `(tactic| ((with_reducible apply at_ref 77); k_dflt (apply use_quote; assumption; assumption; assumption; assumption; walk_at "~call")))
namespace Mine
open PySem PySem.W PySem.Calls PyProof.Rows PyProof.V PySem.Spec PyProof.Rows.LCg PyProof.Rows.LCt
noncomputable def cntsN (n : Nat) : List Int := [((n % 8 : Nat) : Int), ((n / 8 % 8 : Nat) : Int), ((n / 64 % 8 : Nat) : Int)]
theorem cnts_next {n i : Nat} {rows : List (Nat × Nat)} (B : Built rows (n % 8) (n / 8 % 8) (n / 64 % 8)) (hi : i < 3) : (cntsN n).take (i + 1) = (cntsN n).take i ++ [((rows.filter (fun p => p.1 == 2 * i + 1)).length : Int)] := by
  have a := B.one
  have b := B.three
  have c := B.five
  unfold cnt at a b c
  obtain rfl | rfl | rfl : i = 0 ∨ i = 1 ∨ i = 2 := by lia
  · rw [show 2 * 0 + 1 = 1 from rfl, a]; rfl
  · rw [show 2 * 1 + 1 = 3 from rfl, b]; rfl
  · rw [show 2 * 2 + 1 = 5 from rfl, c]; rfl
theorem three_ints {gl : List Value} {n : Nat} (h : IntsAre gl ((cntsN n).take 3)) : ∃ t0 t1 t2, gl = [.int ((n % 8 : Nat) : Int) t0, .int ((n / 8 % 8 : Nat) : Int) t1, .int ((n / 64 % 8 : Nat) : Int) t2] := by
  have h' : IntsAre gl [((n % 8 : Nat) : Int), ((n / 8 % 8 : Nat) : Int), ((n / 64 % 8 : Nat) : Int)] := h
  cases h' with
  | cons _ t0 h' => cases h' with
    | cons _ t1 h' => cases h' with
      | cons _ t2 h' => cases h'; exact ⟨t0, t1, t2, rfl⟩
/-- the counts so far -/
noncomputable def JG (L' : Addr) (n : Nat) (g : Fin 3) (ns : List Int) (ws : List Value) (U : Addr) (uc : Nat) (tl : List (Addr × Obj)) (G : Addr) (o1 o3 o4 : Obj) (i : Nat) (m : Str → Option Value) (nx : List (Addr × Obj)) : Prop :=
  ∃ gl gn o2 v2, nx = (G, listOf (List.toArray gl) gn) :: ([(L' + 1 + 1 + 1 + 1, o4), (L' + 1 + 1 + 1, o3), (L' + 1 + 1, o2), (L' + 1, o1)] ++ tl) ∧ Bs L' m n g ns ws U uc tl ∧ m "grown" = some (.ref G) ∧ IntsAre gl ((cntsN n).take i) ∧ o2.data = .cell v2
local macro_rules | `(tactic| walk_at "eval ListComp") => `(tactic| apply Hold.h)
local macro_rules | `(tactic| walk_at "call builtin:len") => `(tactic| with_reducible apply len_sent; assumption; assumption)
local macro_rules | `(tactic| walk_at "call builtin:len") => `(tactic| with_reducible apply len_plain; assumption; assumption)
local macro_rules | `(tactic| walk_at "binaryOp FloorDiv int int") => `(tactic| with_reducible apply half_rows)
local macro_rules | `(tactic| walk_at "call builtin:list.append") => `(tactic| with_reducible apply app_two; k_asm; k_asm; assumption; assumption; assumption; intro _ _ _)
set_option maxHeartbeats 800000 in
theorem seg10 (w : World) (loose : List Str) (mean : ExcName → Option Value) (mg mb : Str → Option Value) (h₀ : Heap) (L' fa l : Addr) (cdv : Value) (s0 : Shared) (Q : Flow → Shared → Prop) (E : Value → Shared → Prop)
    (X : (K w.params).In h₀) (TT : Top qv loose mean mg mb h₀) (B : Below callerA h₀ [] h₀) (h12 : Seg12 w loose mean mg mb h₀ L' fa l cdv s0 Q E) : Seg10 w loose mean mg mb h₀ L' fa l cdv s0 Q E := by
  unfold Seg10 rwp
  revert X
  k_fill
  intro X s m n g ns ws U uc tl rows its R rn v2 o1 o2 o3 o4 hB hR hr hBu hL F N d1 d2 d3 d4
  have hO := hB.off
  obtain ⟨hh, gs, dd, tk, os⟩ := s
  dsimp only at F N
  show wpAny _ _ (execs (_ :: _) _) _ _ _
  obtain ⟨m₂, t, tc, td, rfl⟩ := hB.frame
  simp only [List.cons_append, List.nil_append] at N
  k_steps
  rename Fr _ _ _ _ => FF
  rename News _ _ _ _ => NN
  rename IsRange _ _ _ _ _ _ _ _ => RR
  rename _ < _ ∧ _ ∧ _ ∧ _ ∧ AllLt _ _ => lN
  rename_i G x1 x2 x3 x4 x5 x6 x7 x8 x9 x10
  have hl20 : rows.length ≤ 20 := Nat.le_trans (hBu.few hB.hn) (by decide)
  have hs20 := hBu.small
  obtain ⟨hc1, hc2⟩ := letter_ok g
  have lG1 := lN.1
  have lG2 := lN.2.1
  have lG3 := lN.2.2.1
  have lG4 := lN.2.2.2.1
  have lG5 := allLt_ne lN.2.2.2.2
  refine' for_rangeW (by rfl) RR (by decide) (n := 3) (by rfl) FF NN (JG L' n g ns ws U uc tl G o1 o3 o4) ?j0 ?step ?done
  case j0 => exact ⟨[], 0, _, _, by rfl, hB.set rfl rfl rfl rfl (fun p hp => hp) hO, by rfl, .nil, d2⟩
  case done =>
    intro m₁ news₁ s₁ hL₁ hJ F₁ N₁
    obtain ⟨gl, gn, q2, w2, rfl, hB₁, hg, hgl, e2⟩ := hJ
    refine wpAny_execs_nil ?_
    obtain ⟨t0, t1, t2, rfl⟩ := three_ints hgl
    have sub1 : ∀ p ∈ tl, p ∈ (G, listOf [Value.int ((n % 8 : Nat) : Int) t0, .int ((n / 8 % 8 : Nat) : Int) t1, .int ((n / 64 % 8 : Nat) : Int) t2].toArray gn) :: tl := fun p hp => List.mem_cons_of_mem _ hp
    exact h12 s₁ m₁ n g ns ws U uc _ rows its R rn w2 G gn t0 t1 t2 o1 q2 o3 o4 (hB₁.set rfl rfl rfl rfl sub1 (OwnOff.one hO lG1)) (sub1 _ hR) (hr.more sub1) hBu hg List.mem_cons_self ⟨hL₁.1.trans hL.1, hL₁.2.trans hL.2⟩ F₁ (cells_in N₁) d1 e2 d3 d4
  case step =>
    intro i tt m₁ news₁ s₁ own hL₁ hi hJ ho F₁ N₁
    obtain ⟨gl, gn, q2, w2, rfl, hB₁, hg, hgl, e2⟩ := hJ
    have ho1 : OwnOff own [L' + 1 + 1 + 1 + 1, L' + 1 + 1 + 1, L' + 1 + 1, L' + 1] := fun p hp b hb => ho p hp b (by
      simp only [List.map_append, List.map_cons, List.map_nil]
      exact List.mem_cons_of_mem _ (List.mem_append_left _ hb))
    have hOG : OwnOff (tl ++ own) [G, L' + 1 + 1 + 1 + 1, L' + 1 + 1 + 1, L' + 1 + 1, L' + 1] := fun p hp b hb => by
      rcases List.mem_append.mp hp with hp | hp
      · rcases List.mem_cons.mp hb with rfl | hb
        · exact lG5 p hp
        · exact hO p hp b hb
      · rcases List.mem_cons.mp hb with rfl | hb
        · exact ho p hp b (by simp)
        · exact ho1 p hp b hb
    have hs1 : ∀ q ∈ tl, q ∈ tl ++ own := fun q hq => List.mem_append_left _ hq
    have hs2 : ∀ q ∈ own, q ∈ tl ++ own := fun q hq => List.mem_append_right _ hq
    have hB₂ := hB₁.set rfl rfl rfl rfl hs1 (OwnOff.app hB₁.off ho1)
    have hR₂ := hs1 _ hR
    have hr₂ := hr.more hs1
    simp only [List.cons_append, List.nil_append] at N₁
    clear NN FF RR
    generalize tl ++ own = tl₂ at N₁ hB₂ hs1 hs2 hOG hR₂ hr₂
    have hU₂ := hB₂.hU
    obtain ⟨h₁, gs₁, dd₁, tk₁, os₁⟩ := s₁
    dsimp only at F₁ N₁
    obtain ⟨m₃, rfl⟩ := asM hg
    have hB₃ := hB₂.set (m' := m₃) rfl rfl rfl rfl (fun p hp => hp) hB₂.off
    obtain ⟨m₄, t', tc', td', rfl⟩ := hB₃.frame
    rw [Int.zero_add]
    k_steps
    refine ⟨?_⟩
    k_dflt (refine ListComp_T (F₀ := by k_asm) (by with_unfolding_all rfl) (by decide) (by rfl) (by decide) (by rfl) ?_)
    walk1
    rename Fr _ _ _ _ => F₅
    rename News _ _ _ _ => N₅
    rename Obj.data _ = .cell (some (.int (i : Int) tt)) => d5
    rename Obj => oK
    have hrL := hr₂.more (news' := (G, listOf gl.toArray gn) :: (L' + 1 + 1 + 1 + 1, o4) :: (L' + 1 + 1 + 1, o3) :: (L' + 1 + 1, oK) :: (L' + 1, o1) :: tl₂) fun p hp => List.mem_cons_of_mem _ (under4 (fun _ h => h) p hp)
    have hRL : (R, listOf its.toArray rn) ∈ (G, listOf gl.toArray gn) :: (L' + 1 + 1 + 1 + 1, o4) :: (L' + 1 + 1 + 1, o3) :: (L' + 1 + 1, oK) :: (L' + 1, o1) :: tl₂ := List.mem_cons_of_mem _ (under4 (fun _ h => h) _ hR₂)
    have hS : SrcAt h₀ R its.toArray ((G, listOf gl.toArray gn) :: (L' + 1 + 1 + 1 + 1, o4) :: (L' + 1 + 1 + 1, o3) :: (L' + 1 + 1, oK) :: (L' + 1, o1) :: tl₂) := .inr ⟨_, hRL, rfl, _, rfl⟩
    k_dflt (refine CompSrcT.ledger (by rfl) F₅ N₅ hRL (by rw [List.size_toArray, hr.1]; exact Nat.le_trans hl20 (by decide)) ?_)
    intro g9
    refine rest_keep (fun p => p.1 == 2 * i + 1) hrL ?turn ?fin
    case turn =>
      intro p a o ta tb kk I oI C oC D m₅ ys h5 tk5 E' hp hm hc hd hC hx F₆ N₆ off ne
      have off0 := off
      clear F₅ N₅
      have hm2 := List.mem_cons_of_mem (I, oI) (List.mem_cons_of_mem (C, oC) (List.mem_cons_of_mem (D, lst ys) hm))
      k_steps
      · rename _ = (2 * (i : Int) + 1) => hq
        exact CompEnd.intro F₆ N₆ _ (fun p hp => hp) off0 hS ⟨beq_iff_eq.mpr (by lia), rfl, rfl⟩
      · rename _ ≠ (2 * (i : Int) + 1) => hq
        exact CompEnd.intro F₆ N₆ _ (fun p hp => hp) off0 hS ⟨beq_eq_false_iff_ne.mpr (by lia), rfl⟩
    case fin =>
      intro its' hr' D h6 tk6 F₇ N₇ off
      clear F₅ N₅
      have hlf : (rows.filter fun p => p.1 == 2 * i + 1).length ≤ 20 := Nat.le_trans (List.length_filter_le _ _) hl20
      have hsf : ∀ p ∈ rows.filter (fun p => p.1 == 2 * i + 1), p.1 ≤ 20 := fun p hp => hs20 p (List.mem_filter.mp hp).1
      have hef : ∀ p ∈ rows.filter (fun p => p.1 == 2 * i + 1), p.2 = 10 ∨ p.2 = 13 := fun p hp => hBu.ends p (List.mem_filter.mp hp).1
      generalize hfe : rows.filter (fun p => p.1 == 2 * i + 1) = rf at hr' hlf hsf hef
      have hDG : D ≠ G := Ne.symm off.1
      have hGr : ∀ p ∈ (L' + 1 + 1 + 1 + 1, o4) :: (L' + 1 + 1 + 1, o3) :: (L' + 1 + 1, oK) :: (L' + 1, o1) :: tl₂, p.1 ≠ G := by
        simp only [List.mem_cons]
        rintro p (rfl | rfl | rfl | rfl | hp)
        · exact Nat.ne_of_lt lG1
        · exact Nat.ne_of_lt lG2
        · exact Nat.ne_of_lt lG3
        · exact Nat.ne_of_lt lG4
        · exact hOG p hp G List.mem_cons_self
      have hgl9 : gl.length ≤ 1000 := by
        rw [hgl.length, List.length_take]
        exact Nat.le_trans (Nat.min_le_right _ _) (show 3 ≤ 1000 by decide)
      k_steps
      rename Fr _ _ _ _ => F₉
      rename News _ _ _ _ => N₉
      rename Later ⟨_, gs₁, dd₁, _, os₁⟩ _ => lx
      obtain ⟨gl₉, gn₉, hgl₉, N₁₀⟩ : ∃ gl₉ gn₉, IntsAre gl₉ ((cntsN n).take (i + 1)) ∧ News h₀ L' _ ((D, lst its') :: (G, listOf (List.toArray gl₉) gn₉) :: (L' + 1 + 1 + 1 + 1, o4) :: (L' + 1 + 1 + 1, o3) :: (L' + 1 + 1, oK) :: (L' + 1, o1) :: tl₂) := ⟨_, _, by rw [cnts_next hBu hi, hfe]; exact hgl.append (.cons _ _ .nil), N₉⟩
      refine ⟨_, _, (G, listOf (List.toArray gl₉) gn₉) :: ([(L' + 1 + 1 + 1 + 1, o4), (L' + 1 + 1 + 1, o3), (L' + 1 + 1, oK), (L' + 1, o1)] ++ tl), ⟨lx.1, lx.2⟩, F₉, N₁₀, ?_, fun p hp => List.mem_cons_of_mem _ (List.mem_cons_of_mem _ (under4 hs2 p hp)), ho, gl₉, gn₉, oK, _, rfl, (hB₃.mix hB₁).set rfl rfl rfl rfl (fun p hp => hp) hO, by rfl, hgl₉, d5⟩
      exact fun p hp => List.mem_cons_of_mem _ ((List.mem_cons.mp hp).elim (fun h => h ▸ List.mem_cons_self) fun h => List.mem_cons_of_mem _ (over4 hs1 p h))
end Mine
namespace Mine
open PySem PySem.W PySem.Builtin PySem.Builtin.Str PySem.StrLaws
/-- where a word stands in a text, gone over as a list: quicker to compute -/
noncomputable def occL (y : List Nat) : List Nat → Nat → Nat → List Nat
  | [], _, _ => []
  | a :: r, i, f => if f ≤ i ∧ (a :: r).take y.length = y then i :: occL y r (i + 1) (i + y.length) else occL y r (i + 1) f
theorem occ_run (x y : Str) (hy : 1 ≤ y.length) : ∀ (r : List Nat) (i f : Nat) (acc : Array Nat), x.cps.toList.drop i = r → acc.size ≤ i → i + r.length = x.length →
    (forIn (List.range' i (r.length + 1)) (acc, f) (occBody x y x.length (x.length + 1))).run.fst.toList = acc.toList ++ occL y.cps.toList r i f
  | [], i, f, acc, hr, ha, hl => by
    rw [List.length_nil, List.range'_succ, List.forIn_cons]
    unfold occBody
    rw [if_neg (fun h => by have := h.1.2; simp only [List.length_nil] at hl; lia)]
    simp [occL]
  | a :: r, i, f, acc, hr, ha, hl => by
    rw [List.length_cons] at hl ⊢
    rw [List.range'_succ, List.forIn_cons]
    have hd : x.cps.toList.drop (i + 1) = r := by
      rw [← List.drop_drop, hr]; rfl
    have hsub : subAt x y i = true ↔ (a :: r).take y.cps.toList.length = y.cps.toList := by
      rw [subAt_eq, hr, beq_iff_eq]
      exact Iff.rfl
    unfold occL
    by_cases hc : f ≤ i ∧ (a :: r).take y.cps.toList.length = y.cps.toList
    · have hle : i + y.length ≤ x.length := by
        have h := congrArg List.length hc.2
        rw [List.length_take, List.length_cons] at h
        have e : y.cps.toList.length = y.length := by simp [Str.length]
        lia
      rw [if_pos hc]
      conv => lhs; unfold occBody
      rw [if_pos ⟨⟨⟨by show acc.size < _; lia, hc.1⟩, hle⟩, hsub.mpr hc.2⟩]
      have e : y.cps.toList.length = y.length := by simp [Str.length]
      have ih := occ_run x y hy r (i + 1) (i + y.length) (acc.push i) hd (by simp; lia) (by lia)
      rw [e]
      refine ih.trans ?_
      simp
    · rw [if_neg hc]
      conv => lhs; unfold occBody
      rw [if_neg (fun h => hc ⟨h.1.1.2, hsub.mp h.2⟩)]
      exact occ_run x y hy r (i + 1) f acc hd (by lia) (by lia)
theorem occ_L (x y : Str) (hy : 1 ≤ y.length) : occurrences x y 0 x.length (x.length + 1) = occL y.cps.toList x.cps.toList 0 0 := by
  rw [occ_eq]
  have e : x.cps.toList.length = x.length := by simp [Str.length]
  have h := occ_run x y hy x.cps.toList 0 0 #[] rfl (by simp) (by lia)
  rw [e] at h
  exact h.trans (by simp)
noncomputable def partsL (l : List Nat) (w : Nat) : Nat → List Nat → List (List Nat)
  | a, [] => [l.drop a]
  | a, c :: r => (l.drop a).take (c - a) :: partsL l w (c + w) r
theorem parts_L (x : Str) (w : Nat) : ∀ (a : Nat) (cuts : List Nat), (partsFrom x w a cuts).map (fun s => s.cps.toList) = partsL x.cps.toList w a cuts
  | a, [] => by
    have e : x.cps.toList.length = x.length := by simp [Str.length]
    show [(strSub x a x.length).cps.toList] = [x.cps.toList.drop a]
    rw [strSub_toList]
    congr 1
    rw [List.take_of_length_le]
    rw [List.length_drop]; lia
  | a, c :: r => by
    show (strSub x a c).cps.toList :: (partsFrom x w (c + w) r).map (fun s => s.cps.toList) = _
    rw [strSub_toList, parts_L x w (c + w) r]
    rfl
theorem strs_eq : ∀ {a b : List Str}, a.map (fun s => s.cps.toList) = b.map (fun s => s.cps.toList) → a = b
  | [], [], _ => rfl
  | [], _ :: _, h => by simp at h
  | _ :: _, [], h => by simp at h
  | x :: a, y :: b, h => by
    rw [List.map_cons, List.map_cons] at h
    injection h with h1 h2
    rw [strs_eq h2, Str.ext' (Array.toList_inj.mp h1)]
noncomputable def splitL (l y : List Nat) : List (List Nat) := match occL y l 0 0 with
  | [] => [l]
  | c :: r => partsL l y.length 0 (c :: r)
theorem split_L (x y : Str) (hy : 1 ≤ y.length) (hk : strKind y = 1) (hl : ¬ x.length < y.length) : (Txt.split x y).map (fun s => s.cps.toList) = splitL x.cps.toList y.cps.toList := by
  unfold Txt.split splitL
  rw [occ_L x y hy, hk]
  have h : ¬ strKind x < 1 := by unfold Builtin.Str.strKind; split <;> (try split) <;> decide
  simp only [h, hl, decide_false, Bool.or_false, Bool.false_eq_true, if_false]
  cases e : occL y.cps.toList x.cps.toList 0 0 with
  | nil => rfl
  | cons c r =>
    rw [if_neg (by simp), partsBetween_eq, parts_L]
    simp [Str.length]
theorem re4 (n : Nat) : n % 4 + 4 * (n / 4 % 4) + 16 * (n / 16 % 4) + 64 * (n / 64) = n := by lia
noncomputable def okN (n : Nat) : Prop := splitL (flagText n).cps.toList [44, 32] = (wordsN n).map (fun s => s.cps.toList) ∧ 2 ≤ (flagText n).cps.toList.length ∧ (flagText n).cps.toList.length ≤ 200
theorem ok_0 : ∀ (a b c : Fin 4), okN (a.val + 4 * b.val + 16 * c.val + 0) := by
  unfold okN
  decide +kernel
theorem ok_1 : ∀ (a b c : Fin 4), okN (a.val + 4 * b.val + 16 * c.val + 64) := by
  unfold okN
  decide +kernel
theorem ok_2 : ∀ (a b c : Fin 4), okN (a.val + 4 * b.val + 16 * c.val + 128) := by
  unfold okN
  decide +kernel
theorem ok_3 : ∀ (a b c : Fin 4), okN (a.val + 4 * b.val + 16 * c.val + 192) := by
  unfold okN
  decide +kernel
theorem p_ok {n : Nat} (h : n < 256) : okN n := by
  have e := re4 n
  rw [← e]
  have hq : n / 64 < 4 := Nat.div_lt_of_lt_mul h
  have p (k : Nat) : k % 4 < 4 := Nat.mod_lt _ (by decide)
  generalize n / 64 = q at hq
  match q, hq with
  | 0, _ => exact ok_0 ⟨_, p n⟩ ⟨_, p _⟩ ⟨_, p _⟩
  | 1, _ => exact ok_1 ⟨_, p n⟩ ⟨_, p _⟩ ⟨_, p _⟩
  | 2, _ => exact ok_2 ⟨_, p n⟩ ⟨_, p _⟩ ⟨_, p _⟩
  | 3, _ => exact ok_3 ⟨_, p n⟩ ⟨_, p _⟩ ⟨_, p _⟩
theorem p_words {n : Nat} (h : n < 256) : Txt.split (flagText n) (Str.ofString ", ") = wordsN n := by
  have o := p_ok h
  have e : (flagText n).cps.toList.length = (flagText n).length := by simp [Str.length]
  refine strs_eq ((split_L _ _ (by decide +kernel) (by decide +kernel) ?_).trans o.1)
  rw [show (Str.ofString ", ").length = 2 by decide +kernel]
  have := o.2.1
  lia
theorem p_flen {n : Nat} (h : n < 256) : (flagText n).length ≤ 200 := by
  have := (p_ok h).2.2
  simpa [Str.length] using this
end Mine
namespace Mine
open PySem PySem.W PySem.Calls PyProof.Rows PyProof.V PySem.Spec PyProof.Rows.LCg PyProof.Rows.LCt
section
variable {prog : Program} {w : World} {A : Around} {E : Value → Shared → Prop} {s : Shared} {t u : Tok} {Q : Value → Shared → Prop} {h₀ : Heap} {L : Addr} {m : Str → Option Value} {news : List (Addr × Obj)}
theorem add_64 {c : Nat} (h : Q (.int ((64 + c : Nat) : Int) s.toks) { s with toks := s.toks + 1 }) : wpAny (model prog w) A (binaryOp .Add (.int 64 t) (.int (c : Int) u)) Q E s :=
  PyProof.Rows.add_int (by rw [show (64 : Int) + (c : Int) = ((64 + c : Nat) : Int) by lia]; exact h)
theorem add_nat {a b : Nat} (h : Q (.int ((a + b : Nat) : Int) s.toks) { s with toks := s.toks + 1 }) : wpAny (model prog w) A (binaryOp .Add (.int (a : Int) t) (.int (b : Int) u)) Q E s :=
  PyProof.Rows.add_int (by rw [show (a : Int) + (b : Int) = ((a + b : Nat) : Int) by lia]; exact h)
theorem mul_8 {c : Nat} (hc : c < 1000) (h : Q (.int ((8 * c : Nat) : Int) s.toks) { s with toks := s.toks + 1 }) : wpAny (model prog w) A (binaryOp .Mult (.int 8 t) (.int (c : Int) u)) Q E s := by
  refine PyProof.Rows.mul_int (by rw [show (8 : Int) * (c : Int) = ((8 * c : Nat) : Int) by lia]; exact h) ?_
  mul_fits
theorem ne_nn {a : Int} (h : Q (.bool false) s) : wpAny (model prog w) A (compareOp .NotEq (.int a t) (.int a u)) Q E s :=
  PyProof.Rows.ne_int (by rw [show (a != a) = false by simp]; exact h)
theorem grown_at {G : Addr} {a b c : Value} {gn : Nat} {k : Int} {x : Value} {value slice : PySem.Expr} (N : News h₀ L s.heap news) (hm : (G, listOf #[a, b, c] gn) ∈ news) (h0 : 0 ≤ k) (h3 : k < 3) (hx : (#[a, b, c] : Array Value)[k.toNat]? = some x)
    (hs : subscripted slice false (.ref G) (.int k u) = operate [.ref G, .int k u] (getItem (.ref G) (.int k u))) (h : Q x s) :
    wpAny (model prog w) A (subscriptTail value slice (.ref G) (.int k u)) Q E s :=
  tail_any (N.isList hm).typeIs slot_list_getitem.lookup (wpAny_getItem_list (N.isList hm) h0 (Int.lt_trans h3 (by decide)) hx h) hs
theorem grown_0 {G : Addr} {a b c : Value} {gn : Nat} {value slice : PySem.Expr} (N : News h₀ L s.heap news) (hm : (G, listOf #[a, b, c] gn) ∈ news)
    (hs : subscripted slice false (.ref G) (.int 0 u) = operate [.ref G, .int 0 u] (getItem (.ref G) (.int 0 u))) (h : Q a s) :
    wpAny (model prog w) A (subscriptTail value slice (.ref G) (.int 0 u)) Q E s := grown_at N hm (by decide) (by decide) rfl hs h
theorem grown_1 {G : Addr} {a b c : Value} {gn : Nat} {value slice : PySem.Expr} (N : News h₀ L s.heap news) (hm : (G, listOf #[a, b, c] gn) ∈ news)
    (hs : subscripted slice false (.ref G) (.int 1 u) = operate [.ref G, .int 1 u] (getItem (.ref G) (.int 1 u))) (h : Q b s) :
    wpAny (model prog w) A (subscriptTail value slice (.ref G) (.int 1 u)) Q E s := grown_at N hm (by decide) (by decide) rfl hs h
theorem grown_2 {G : Addr} {a b c : Value} {gn : Nat} {value slice : PySem.Expr} (N : News h₀ L s.heap news) (hm : (G, listOf #[a, b, c] gn) ∈ news)
    (hs : subscripted slice false (.ref G) (.int 2 u) = operate [.ref G, .int 2 u] (getItem (.ref G) (.int 2 u))) (h : Q c s) :
    wpAny (model prog w) A (subscriptTail value slice (.ref G) (.int 2 u)) Q E s := grown_at N hm (by decide) (by decide) rfl hs h
theorem split_words {n : Nat} (F : Fr h₀ L s.heap m) (N : News h₀ L s.heap news) (hn : n < 256)
    (h : ∀ D l h' k, l.map (·.1) = wordsN n → Fr h₀ L h' m → News h₀ L h' ((D, listOf (strValues l).toArray 0) :: news) → (∀ p ∈ news, @LT.lt Nat _ p.1 D) → Q (.ref D) { s with heap := h', toks := k }) :
    wpAny (model prog w) A (call (.builtin "str.split") [.str (flagText n) t, .str (Str.ofString ", ") u]) Q E s :=
  KSpl.split1 F N rfl (fun D l h' k e _ F' N' l1 => h D l h' k (e.trans (p_words hn)) F' N' l1) (Nat.le_trans (Nat.add_le_add_right (p_flen hn) 2) (by decide))
end
theorem cells_in7 {g h : Heap} {L : Addr} {y z q a b c d : Addr × Obj} {tl : List (Addr × Obj)} (N : News g L h (y :: z :: q :: a :: b :: c :: d :: tl)) : News g L h ([a, b, c, d] ++ (y :: q :: tl)) := fun p hp => N p (by
  simp only [List.cons_append, List.nil_append, List.mem_cons] at hp ⊢
  rcases hp with h | h | h | h | h | h | h <;> simp [h])
theorem use_varint {w : World} {loose : List Str} {mean : ExcName → Option Value} {mg mb : Str → Option Value} {n : Nat} (hn : n < 256) {t0 t1 : Tok} {I D : Addr} {k : Nat} {rest : List (Addr × Obj)} (hD : (D, listOf #[.int ((64 + n / 64 % 8 : Nat) : Int) t0, .int ((8 * (n / 8 % 8) + n % 8 : Nat) : Int) t1] k) ∈ rest) (hne : ∀ p ∈ rest, p.1 ≠ I) :
    CtrN w loose mean mg mb 46 ((I, itObj D 0) :: rest) rest [.ref I] (fun t => .int (n : Int) t) := by
  have C := c_varint2 w loose mean mg mb (n / 64 % 8) (8 * (n / 8 % 8) + n % 8) (by lia) (by lia) t0 t1 I D k rest hD hne
  rw [num_of hn] at C
  exact C
theorem stop_call {M : Model} {A : Around} {E : Value → Shared → Prop} {s : Shared} {Q : Value → Shared → Prop} {a : Addr} {vs : List Value} (h : Hold (wpAny M A (call (.ref a) vs) Q E s)) : wpAny M A (call (.ref a) vs) Q E s := h.1
theorem stop_built {M : Model} {A : Around} {E : Value → Shared → Prop} {s : Shared} {Q : Value → Shared → Prop} {b : String} {a : Addr} (h : Hold (wpAny M A (call (.builtin b) [.ref a]) Q E s)) : wpAny M A (call (.builtin b) [.ref a]) Q E s := h.1
theorem stop_built2 {M : Model} {A : Around} {E : Value → Shared → Prop} {s : Shared} {Q : Value → Shared → Prop} {b : String} {x y : Value} (h : Hold (wpAny M A (call (.builtin b) [x, y]) Q E s)) : wpAny M A (call (.builtin b) [x, y]) Q E s := h.1
theorem stop_for {M : Model} {A : Around} {E : Value → Shared → Prop} {s : Shared} {Q : Flow → Shared → Prop} {p it b o u r env} (h : Hold (wpAny M A (execs (.For (.Name (Str.ofString "turn") p) it b o u :: r) env) Q E s)) : wpAny M A (execs (.For (.Name (Str.ofString "turn") p) it b o u :: r) env) Q E s := h.1
end Mine
namespace Mine
open PySem PySem.W PySem.Calls PyProof.Rows PyProof.V PySem.Spec PyProof.Rows.LCg PyProof.Rows.LCt
local macro_rules | `(tactic| walk_at "binaryOp Add int int") => `(tactic| with_reducible apply add_64)
local macro_rules | `(tactic| walk_at "binaryOp Add int int") => `(tactic| with_reducible apply add_nat)
local macro_rules | `(tactic| walk_at "binaryOp Mult int int") => `(tactic| with_reducible apply mul_8; lia)
local macro_rules | `(tactic| walk_at "compareOp NotEq int int") => `(tactic| with_reducible apply ne_nn)
local macro_rules | `(tactic| walk_at "subscriptTail") => `(tactic| with_reducible apply grown_0; k_asm; k_dflt k_mem; with_unfolding_all rfl)
local macro_rules | `(tactic| walk_at "subscriptTail") => `(tactic| with_reducible apply grown_1; k_asm; k_dflt k_mem; with_unfolding_all rfl)
local macro_rules | `(tactic| walk_at "subscriptTail") => `(tactic| with_reducible apply grown_2; k_asm; k_dflt k_mem; with_unfolding_all rfl)
local macro_rules | `(tactic| walk_at "call ref") => `(tactic| ((with_reducible apply at_ref 46); apply Hold.h))
local macro_rules | `(tactic| walk_at "call ref") => `(tactic| ((with_reducible apply at_ref 39); apply Hold.h))
local macro_rules | `(tactic| walk_at "call builtin:iter") => `(tactic| with_reducible apply stop_built)
local macro_rules | `(tactic| walk_at "call builtin:str.split") => `(tactic| with_reducible apply stop_built2)
local macro_rules | `(tactic| walk_at "execs cons") => `(tactic| with_reducible apply stop_for)
local macro_rules | `(tactic| walk_at "execs cons For cons") => `(tactic| with_reducible apply stop_for)
set_option maxHeartbeats 800000 in
theorem seg12 (w : World) (loose : List Str) (mean : ExcName → Option Value) (mg mb : Str → Option Value) (h₀ : Heap) (L' fa l : Addr) (cdv : Value) (s0 : Shared) (Q : Flow → Shared → Prop) (E : Value → Shared → Prop)
    (X : (K w.params).In h₀) (TT : Top qv loose mean mg mb h₀) (B : Below callerA h₀ [] h₀) (h16 : Seg16 w loose mean mg mb h₀ L' fa l cdv s0 Q E) : Seg12 w loose mean mg mb h₀ L' fa l cdv s0 Q E := by
  unfold Seg12 rwp
  revert X
  k_fill
  intro X s m n g ns ws U uc tl rows its R rn v2 G gn t0 t1 t2 o1 o2 o3 o4 hB hR hr hBu hg hG hL F N d1 d2 d3 d4
  have hO := hB.off
  have hn := hB.hn
  obtain ⟨hh, gs, dd, tk, os⟩ := s
  dsimp only at F N
  show wpAny _ _ (execs (_ :: _) _) _ _ _
  obtain ⟨m₁, rfl⟩ := asM hg
  have hB' := hB.set (m' := m₁) rfl rfl rfl rfl (fun p hp => hp) hO
  obtain ⟨m₂, t, tc, td, rfl⟩ := hB'.frame
  simp only [List.cons_append, List.nil_append] at N
  k_steps
  refine ⟨?_⟩
  rename Fr h₀ L' _ _ => F9
  rename News h₀ L' _ _ => N9
  refine iter_list F9 N9 List.mem_cons_self ?_
  intro I hI F10 N10 lI
  k_steps
  refine ⟨?_⟩
  refine' use_varint hn List.mem_cons_self (fun p hp => Nat.ne_of_lt (lI p hp)) _ _ _ _ _ _ _ _ _ _ _ _ _ _ _ _ _ ?k1 F10 ?kX N10 TT ?kK ?kd ?ku ?kR
  case k1 => k_asm
  case kX => k_asm
  case kK => exact rfl
  case kd => ktr_room
  case ku => ktr_units
  intro t9 s9 hL9 F11 N11
  obtain ⟨h9, gs9, dd9, tk9, os9⟩ := s9
  dsimp only at F11 N11
  clear F10 N10 F9 N9
  k_steps
  refine ⟨?_⟩
  rename Fr h₀ L' _ _ => F12
  rename News h₀ L' _ _ => N12
  refine' c_flags w loose mean mg mb n _ _ _ _ _ _ _ _ _ _ _ _ _ _ _ _ _ _ _ ?k2 F12 ?kX2 N12 TT ?kK2 ?pre ?kd2 ?ku2 ?kR2
  case k2 => k_asm
  case kX2 => k_asm
  case kK2 => exact rfl
  case pre => lia
  case kd2 => ktr_room
  case ku2 => ktr_units
  intro t13 s13 hL13 F13 N13
  obtain ⟨h13, gs13, dd13, tk13, os13⟩ := s13
  dsimp only at F13 N13
  clear F12 N12
  k_steps
  refine ⟨?_⟩
  rename Fr h₀ L' _ _ => F14
  rename News h₀ L' _ _ => N14
  refine split_words F14 N14 hn ?_
  intro D fl h15 k15 ew F15 N15 lD
  clear F14 N14
  k_steps
  refine ⟨?_⟩
  rename Fr h₀ L' _ _ => F16
  rename News h₀ L' _ _ => N16
  rename _ < _ ∧ _ ∧ _ ∧ _ ∧ AllLt _ _ => lN
  rename Obj.data _ = .cell (some (.ref _)) => dN
  have lD4 : @LT.lt Nat _ (L' + 1 + 1 + 1 + 1) D := lD (L' + 1 + 1 + 1 + 1, o4) (by simp)
  exact h16 _ _ n g ns ws U uc _ rows its R rn v2 _ D 0 0 fl [(_, _), (_, _), (_, _), (_, _), (_, _), (_, _), (_, _), (_, _)] o1 o2 _ o4 (hB'.set rfl rfl rfl rfl (fun p hp => List.mem_cons_of_mem _ (List.mem_cons_of_mem _ hp)) (OwnOff.one (OwnOff.one hO lN.1) lD4)) (List.mem_cons_of_mem _ (List.mem_cons_of_mem _ hR)) (hr.more fun p hp => List.mem_cons_of_mem _ (List.mem_cons_of_mem _ hp)) hBu (List.mem_cons_of_mem _ List.mem_cons_self) (by rfl) (by rfl) List.mem_cons_self ew ⟨hL13.1.trans (hL9.1.trans hL.1), hL13.2.trans (hL9.2.trans hL.2)⟩ F16 (cells_in7 N16) d1 d2 dN d4
end Mine
namespace Mine
open PySem PySem.W PySem.Calls PyProof.Rows PyProof.V PySem.Spec PyProof.Rows.LCg PyProof.Rows.LCt
/-- what is told of the first i rows -/
noncomputable def tellN (c d : Nat) (rows : List (Nat × Nat)) (ps : List Int) : Nat → List Nat
  | 0 => []
  | i + 1 => tellN c d rows ps i ++ told c d (rows.getD i (0, 0)) (ps.getD i 0)
theorem getD_mem {rows : List (Nat × Nat)} {i : Nat} (hi : i < rows.length) : rows.getD i (0, 0) ∈ rows := by
  rw [List.getD_eq_getElem?_getD, List.getElem?_eq_getElem hi]
  exact List.getElem_mem hi
section
variable {c d : Nat} {rows : List (Nat × Nat)} {ps : List Int}
theorem tell_len (hs : ∀ p ∈ rows, p.1 ≤ 20) : ∀ {i : Nat}, i ≤ rows.length → (tellN c d rows ps i).length ≤ 24 * i
  | 0, _ => Nat.le_refl _
  | i + 1, h => by
    show (tellN c d rows ps i ++ told _ _ _ _).length ≤ _
    rw [List.length_append]
    have a := tell_len hs (i := i) (Nat.le_of_succ_le h)
    have b := told_len c d (rows.getD i (0, 0)) (ps.getD i 0)
    have e := hs _ (getD_mem h)
    lia
theorem tell_92 (hc : c ≠ 92) (hd : d ≠ 92) (he : ∀ p ∈ rows, p.2 = 10 ∨ p.2 = 13) : ∀ {i : Nat}, i ≤ rows.length → ∀ z ∈ tellN c d rows ps i, z ≠ 92
  | 0, _ => fun z hz => absurd hz List.not_mem_nil
  | i + 1, h => fun z hz => by
    rcases List.mem_append.mp hz with hz | hz
    · exact tell_92 hc hd he (Nat.le_of_succ_le h) z hz
    · exact told_92 hc hd (by rcases he _ (getD_mem h) with e | e <;> rw [e] <;> decide) _ z hz
theorem tell_ost (hc : c ≠ 34) (hd : d ≠ 34) (pc : prep [c] = [c]) (pd : prep [d] = [c, c]) (he : ∀ p ∈ rows, p.2 = 10 ∨ p.2 = 13) : ∀ {i : Nat}, i ≤ rows.length → ∃ o, ost (tellN c d rows ps i) = (false, o) ∧ prep o = plain c (lftN rows ps i)
  | 0, _ => ⟨[], rfl, rfl⟩
  | i + 1, h => by
    obtain ⟨o, h1, h2⟩ := tell_ost hc hd pc pd he (i := i) (Nat.le_of_succ_le h)
    have hm := he _ (getD_mem h)
    refine ⟨o ++ outside c d (rows.getD i (0, 0)) (ps.getD i 0), ?_, ?_⟩
    · show ost (tellN c d rows ps i ++ told _ _ _ _) = _
      rw [ost_app, h1]
      exact ost_told hc hd (by rcases hm with e | e <;> rw [e] <;> decide) _ _
    · rw [prep_app, h2, prep_outside pc pd hm]
      show _ = plain c (lftN rows ps i ++ leaves _ _)
      rw [plain_app]
variable {i : Nat} {p : Nat × Nat} {v : Int}
theorem tell1 (hp : rows.getD i (0, 0) = p) (hv : ps.getD i 0 = v) (q : v = 1) : tellN c d rows ps i ++ (34 :: 46 :: List.replicate p.1 c ++ [p.2] ++ [34]) = tellN c d rows ps (i + 1) := by
  show _ = tellN c d rows ps i ++ told c d (rows.getD i (0, 0)) (ps.getD i 0)
  rw [hp, hv]
  unfold told
  rw [if_pos q]
  simp
theorem tell2 (hp : rows.getD i (0, 0) = p) (hv : ps.getD i 0 = v) (q1 : v ≠ 1) (q : v = 2) : tellN c d rows ps i ++ (46 :: List.replicate p.1 d ++ [p.2]) = tellN c d rows ps (i + 1) := by
  show _ = tellN c d rows ps i ++ told c d (rows.getD i (0, 0)) (ps.getD i 0)
  rw [hp, hv]
  unfold told
  rw [if_neg q1, if_pos q]
  simp
theorem tell0 (hp : rows.getD i (0, 0) = p) (hv : ps.getD i 0 = v) (q1 : v ≠ 1) (q : v ≠ 2) : tellN c d rows ps i ++ (46 :: List.replicate p.1 c ++ [p.2]) = tellN c d rows ps (i + 1) := by
  show _ = tellN c d rows ps i ++ told c d (rows.getD i (0, 0)) (ps.getD i 0)
  rw [hp, hv]
  unfold told
  rw [if_neg q1, if_neg q]
  simp
theorem left1 (hp : rows.getD i (0, 0) = p) (hv : ps.getD i 0 = v) (q : v = 1) : lftN rows ps (i + 1) = lftN rows ps i := by
  show lftN rows ps i ++ leaves (rows.getD i (0, 0)) (ps.getD i 0) = _
  rw [hp, hv]
  unfold leaves
  rw [if_pos q, List.append_nil]
theorem left2 (hp : rows.getD i (0, 0) = p) (hv : ps.getD i 0 = v) (q1 : v ≠ 1) (q : v = 2) : lftN rows ps (i + 1) = lftN rows ps i ++ [(2 * p.1, p.2)] := by
  show lftN rows ps i ++ leaves (rows.getD i (0, 0)) (ps.getD i 0) = _
  rw [hp, hv]
  unfold leaves
  rw [if_neg q1, if_pos q]
theorem left0 (hp : rows.getD i (0, 0) = p) (hv : ps.getD i 0 = v) (q1 : v ≠ 1) (q : v ≠ 2) : lftN rows ps (i + 1) = lftN rows ps i ++ [p] := by
  show lftN rows ps i ++ leaves (rows.getD i (0, 0)) (ps.getD i 0) = _
  rw [hp, hv]
  unfold leaves
  rw [if_neg q1, if_neg q]
end
/-- the rows after i times -/
noncomputable def turns (rows : List (Nat × Nat)) (ns : List Int) : Nat → List (Nat × Nat)
  | 0 => rows
  | i + 1 => lft (turns rows ns i) (fell (turns rows ns i) ns)
theorem turns_two (rows : List (Nat × Nat)) (ns : List Int) : turns rows ns 2 = rows2 rows ns := rfl
theorem fell_len (rows : List (Nat × Nat)) (ns : List Int) : (fell rows ns).length = rows.length := (fst_len rows ns rows.length).1
theorem turns_ok {rows : List (Nat × Nat)} {ns : List Int} {z : Nat} (hz : ∀ p ∈ rows, p.1 ≤ z) (he : ∀ p ∈ rows, p.2 = 10 ∨ p.2 = 13) : ∀ i, (turns rows ns i).length ≤ rows.length ∧ (∀ p ∈ turns rows ns i, p.1 ≤ z * 2 ^ i) ∧ ∀ p ∈ turns rows ns i, p.2 = 10 ∨ p.2 = 13
  | 0 => ⟨Nat.le_refl _, fun p hp => by rw [Nat.pow_zero, Nat.mul_one]; exact hz p hp, he⟩
  | i + 1 => by
    obtain ⟨a, b, c⟩ := turns_ok (ns := ns) hz he i
    refine ⟨Nat.le_trans (lftN_len _ _ _) a, fun p hp => ?_, fun p hp => ?_⟩
    · obtain ⟨q, hq, h1, _⟩ := lftN_mem (Nat.le_refl _) hp
      have := b q hq
      rw [Nat.pow_succ, ← Nat.mul_assoc]
      lia
    · obtain ⟨q, hq, _, h2⟩ := lftN_mem (Nat.le_refl _) hp
      rw [h2]; exact c q hq
theorem Built.five' {rows : List (Nat × Nat)} {a b c : Nat} (B : Built rows a b c) : ∀ p ∈ rows, p.1 ≤ 5 := fun p hp => by rcases B.sizes p hp with h | h | h <;> rw [h] <;> decide
theorem pair_no (g : Fin 3) : (pairOf g.val).1 ≠ 34 ∧ (pairOf g.val).1 ≠ 92 ∧ (pairOf g.val).2 ≠ 34 ∧ (pairOf g.val).2 ≠ 92 := by revert g; decide
theorem ost_self {l : List Nat} (h : ¬ 34 ∈ l) : (ost l).2 = l := by
  unfold ost
  rw [ost_plain h]; rfl
theorem use_strip {w : World} {loose : List Str} {mean : ExcName → Option Value} {mg mb : Str → Option Value} {l : List Nat} {t : Tok} (hx : ∀ z ∈ l, z ≠ 92) (hb : (ost l).1 = false) (hsz : l.length ≤ 900) : CtrR w loose mean mg mb 60 True [.str (T l) t] (fun t => .str (T (ost l).2) t) := by
  by_cases h : 34 ∈ l
  · exact c_strip1 w loose mean mg mb l h hx hb (Nat.le_trans hsz (by decide)) t
  · rw [ost_self h]
    exact c_strip0 w loose mean mg mb l h t
noncomputable abbrev CtrF (w : World) (loose : List Str) (mean : ExcName → Option Value) (mg mb : Str → Option Value) (rows : List (Nat × Nat)) (its : List Value) (Z : Addr) (n : Nat) (ns : List Int) (ws : List Value) (U : Addr) (k : Nat) (qs : List Int) : Prop :=
  ∀ (dp un : Nat) (gd : Option (List Code)) (cn : Str) (cs : Scope) (a : Addr) (ccd : Value) (cl : List (Str × Addr)) (outer : List Env) (A₀ : Around) (base h₀ : Heap) (L : Addr) (m : Str → Option Value) (s : Shared) (Q E : Value → Shared → Prop) (news : List (Addr × Obj)),
    Below A₀ base outer h₀ → Fr h₀ L s.heap m → (K w.params).In h₀ → News h₀ L s.heap news → Top qv loose mean mg mb h₀ → cs.kind = .function →
    dp + 3 < recursionLimit → un + 30 < cLine → (Z, listOf its.toArray n) ∈ news → (U, listOf ws.toArray k) ∈ news → RowsAre news its rows → IntsAre ws ns → rows.length ≤ 20 → 3 ≤ ns.length → ns.length ≤ 20 →
    (∀ (P : Addr) (ps : List Value) (s' : Shared), Later s s' → Fr h₀ L s'.heap m → News h₀ L s'.heap ((P, listOf (List.toArray ps) 0) :: news) → (∀ p ∈ news, p.1 < P) → IntsAre ps qs → Q (.ref P) s') →
      wpAny (model rwp w) (ktrTop dp un gd cn cs L a ccd cl outer) (call (.ref 177) [.ref Z, .ref U]) Q E s
theorem use_fellows {w : World} {loose : List Str} {mean : ExcName → Option Value} {mg mb : Str → Option Value} {rows : List (Nat × Nat)} {its : List Value} {Z : Addr} {n : Nat} {ns : List Int} {ws : List Value} {U : Addr} {k : Nat} : CtrF w loose mean mg mb rows its Z n ns ws U k (fell rows ns) :=
  fun _ _ _ _ _ _ _ _ _ _ _ _ _ _ _ _ _ _ k0 k1 k2 k3 k4 k5 k6 k7 hZ hU hr hI hlen hn0 hn1 kR => c_fellows w loose mean mg mb rows its Z n ns ws U k _ hZ hU hr hI hlen hn0 hn1 _ _ _ _ _ _ _ _ _ _ _ _ _ _ _ _ _ k0 k1 k2 k3 k4 k5 k6 k7 kR
section
variable {prog : Program} {w : World} {A : Around} {E : Value → Shared → Prop} {s : Shared} {t u : Tok} {Q : Value → Shared → Prop} {h₀ : Heap} {L : Addr} {m : Str → Option Value} {news : List (Addr × Obj)} {a b : List Nat}
theorem item_row3 {Z : Addr} {its : List Value} {n : Nat} {rows : List (Nat × Nat)} {p : Nat × Nat} {i : Nat} {value slice : PySem.Expr} (N : News h₀ L s.heap news) (hm : (Z, listOf its.toArray n) ∈ news) (hr : RowsAre news its rows) (hf : rows.length ≤ 20) (hi : i < rows.length) (hp : rows.getD i (0, 0) = p)
    (hs : subscripted slice false (.ref Z) (.int (i : Int) u) = operate [.ref Z, .int (i : Int) u] (getItem (.ref Z) (.int (i : Int) u)))
    (h : ∀ a ta tb, IsTup s.heap a #[.int (p.1 : Int) ta, .str (T [p.2]) tb] → Q (.ref a) s) :
    wpAny (model prog w) A (subscriptTail value slice (.ref Z) (.int (i : Int) u)) Q E s := by
  obtain ⟨a, o, ta, tb, k, e, hmem, hc, hd⟩ := hr.2 i rows[i] (List.getElem?_eq_getElem hi)
  have eg : rows.getD i (0, 0) = rows[i] := by rw [List.getD_eq_getElem?_getD, List.getElem?_eq_getElem hi]; rfl
  rw [← eg, hp] at hd
  have hl := N.isList hm
  refine tail_any hl.typeIs slot_list_getitem.lookup (wpAny_getItem_list hl (by lia) (by lia) (x := .ref a) ?_ (h a ta tb ⟨o, (N _ hmem).1, hc, k, hd⟩)) hs
  rw [Int.toNat_natCast, List.getElem?_toArray]; exact e
theorem item_part {P : Addr} {vs : List Value} {n : Nat} {ps : List Int} {v : Int} {i : Nat} {value slice : PySem.Expr} (N : News h₀ L s.heap news) (hm : (P, listOf vs.toArray n) ∈ news) (hI : IntsAre vs ps) (hf : ps.length ≤ 20) (hi : i < ps.length) (hv : ps.getD i 0 = v)
    (hs : subscripted slice false (.ref P) (.int (i : Int) u) = operate [.ref P, .int (i : Int) u] (getItem (.ref P) (.int (i : Int) u)))
    (h : ∀ tv, Q (.int v tv) s) :
    wpAny (model prog w) A (subscriptTail value slice (.ref P) (.int (i : Int) u)) Q E s := by
  have hl := N.isList hm
  have hil : i < vs.length := by rw [hI.length]; exact hi
  have e : vs[i]? = some vs[i] := List.getElem?_eq_getElem hil
  obtain ⟨tv, ev⟩ := hI.int_at i vs[i] e
  rw [ev, hv] at e
  refine tail_any hl.typeIs slot_list_getitem.lookup (wpAny_getItem_list hl (by lia) (by lia) (x := .int v tv) ?_ (h tv)) hs
  rw [Int.toNat_natCast, List.getElem?_toArray]; exact e
theorem mul_2 {z : Nat} (hz : z ≤ 20) (h : Q (.int ((2 * z : Nat) : Int) s.toks) { s with toks := s.toks + 1 }) : wpAny (model prog w) A (binaryOp .Mult (.int 2 t) (.int (z : Int) u)) Q E s := by
  refine PyProof.Rows.mul_int (by rw [show (2 : Int) * (z : Int) = ((2 * z : Nat) : Int) by lia]; exact h) ?_
  mul_fits
theorem tup_two {x : Int} {e : Nat} (F : Fr h₀ L s.heap m) (N : News h₀ L s.heap news)
    (h : ∀ D h', Fr h₀ L h' m → News h₀ L h' ((D, ({ cls := .type "tuple", data := .seq [.int x t, .str (T [e]) u].toArray } : Obj)) :: news) → (∀ p ∈ news, p.1 < D) → Q (.ref D) { s with heap := h' }) :
    wpAny (model prog w) A (newTuple [.int x t, .str (T [e]) u]) Q E s :=
  kup_newTuple F N h (Nat.le_of_ble_eq_true rfl)
theorem qdot_add (hl : b.length ≤ 900) (h : ∀ t' tk, Q (.str (T (34 :: 46 :: b)) t') { s with toks := tk }) : wpAny (model rwp w) A (binaryOp .Add (.str (Str.ofString "\".") t) (.str (T b) u)) Q E s := by
  rw [qdot_T]; exact add_T (a := [34, 46]) (Nat.le_trans (Nat.add_le_add_left hl 2) (by decide)) h
theorem add_q (hl : a.length ≤ 900) (h : ∀ t' tk, Q (.str (T (a ++ [34])) t') { s with toks := tk }) : wpAny (model rwp w) A (binaryOp .Add (.str (T a) t) (.str (Str.ofString "\"") u)) Q E s := by
  rw [q_T]; exact add_T (b := [34]) (Nat.le_trans (Nat.add_le_add_right hl 1) (by decide)) h
theorem len_gone {D : Addr} {its : List Value} {c : Nat} {rows : List (Nat × Nat)} (N : News h₀ L s.heap news) (hm : (D, listOf its.toArray c) ∈ news) (hr : RowsAre news its rows) (hf : rows.length ≤ 20) (h : Q (.int (rows.length : Int) (s.toks + 1)) { s with toks := s.toks + 1 + 1 }) :
    wpAny (model prog w) A (call (.builtin "len") [.ref D]) Q E s := len_rows N hm hr.1 hf h
end
theorem Bs.up {L' : Addr} {m : Str → Option Value} {n : Nat} {g : Fin 3} {ns : List Int} {ws : List Value} {U : Addr} {uc : Nat} {tl tl' : List (Addr × Obj)} (B : Bs L' m n g ns ws U uc tl) (hs : ∀ p ∈ tl, p ∈ tl') (ho : OwnOff tl' [L' + 1 + 1 + 1 + 1, L' + 1 + 1 + 1, L' + 1 + 1, L' + 1]) : Bs L' m n g ns ws U uc tl' :=
  B.set rfl rfl rfl rfl hs ho
theorem packI {g h : Heap} {L : Addr} {z a b c d : Addr × Obj} {nt tl own : List (Addr × Obj)} (N : News g L h (z :: ([a, b, c, d] ++ (nt ++ tl)) ++ own)) : News g L h (z :: a :: b :: c :: d :: (nt ++ (tl ++ own))) := by
  simpa only [List.cons_append, List.nil_append, List.append_assoc] using N
theorem order6 {g h : Heap} {L : Addr} {z y a b c d : Addr × Obj} {tl : List (Addr × Obj)} (N : News g L h (z :: y :: a :: b :: c :: d :: tl)) : News g L h (z :: ([a, b, c, d] ++ ([] ++ (y :: tl)))) := fun p hp => N p (by
  simp only [List.cons_append, List.nil_append, List.mem_cons] at hp ⊢
  rcases hp with h | h | h | h | h | h | h <;> simp [h])
theorem over5 {z a b c d : Addr × Obj} {l l' : List (Addr × Obj)} (h : ∀ q ∈ l, q ∈ l') : ∀ q ∈ z :: ([a, b, c, d] ++ l), q ∈ z :: a :: b :: c :: d :: l' := fun q hq => by
  rcases List.mem_cons.mp hq with rfl | hq
  · exact List.mem_cons_self
  · exact List.mem_cons_of_mem _ (over4 h q hq)
theorem overD {y z a b c d : Addr × Obj} {nt tl l' : List (Addr × Obj)} (h : ∀ q ∈ nt ++ tl, q ∈ l') : ∀ q ∈ z :: ([a, b, c, d] ++ ((y :: nt) ++ tl)), q ∈ y :: z :: a :: b :: c :: d :: l' := fun q hq => by
  simp only [List.cons_append, List.nil_append, List.mem_cons] at hq ⊢
  rcases hq with h' | h' | h' | h' | h' | h' | h'
  · simp [h']
  · simp [h']
  · simp [h']
  · simp [h']
  · simp [h']
  · simp [h']
  · simp [h q h']
theorem under5 {z a b c d : Addr × Obj} {l l' : List (Addr × Obj)} (h : ∀ q ∈ l, q ∈ l') : ∀ q ∈ l, q ∈ z :: a :: b :: c :: d :: l' := fun q hq => List.mem_cons_of_mem _ (under4 h q hq)
theorem offD {z z' a b c d : Addr × Obj} {own nt tl l' : List (Addr × Obj)} {D : Addr} {oD : Obj} (h : OwnOff own ((z :: ([a, b, c, d] ++ (nt ++ tl))).map (·.1))) (hz : z'.1 = z.1) (hs : ∀ p ∈ own, p ∈ l') (hD : AllLt D l') : OwnOff own ((z' :: ([a, b, c, d] ++ (((D, oD) :: nt) ++ tl))).map (·.1)) := fun p hp x hx => by
  simp only [List.cons_append, List.nil_append, List.map_cons, List.mem_cons] at hx
  have k : ∀ {x}, x ∈ (z :: ([a, b, c, d] ++ (nt ++ tl))).map (·.1) → p.1 ≠ x := fun {x} => h p hp x
  simp only [List.cons_append, List.nil_append, List.map_cons, List.mem_cons] at k
  rcases hx with h' | h' | h' | h' | h' | h' | h'
  · exact k (.inl (h'.trans hz))
  · exact k (by simp [h'])
  · exact k (by simp [h'])
  · exact k (by simp [h'])
  · exact k (by simp [h'])
  · rw [h']; exact allLt_ne hD p (hs p hp)
  · exact k (by simp only [h', or_true])
theorem over5' {z a b c d : Addr × Obj} {l l' : List (Addr × Obj)} (h : ∀ q ∈ l, q ∈ l') : ∀ q ∈ [a, b, c, d] ++ (z :: l), q ∈ z :: a :: b :: c :: d :: l' := fun q hq => by
  simp only [List.cons_append, List.nil_append, List.mem_cons] at hq ⊢
  rcases hq with h' | h' | h' | h' | h' | h'
  · simp [h']
  · simp [h']
  · simp [h']
  · simp [h']
  · simp [h']
  · simp [h q h']
theorem Bs.frame8 {L' : Addr} {m : Str → Option Value} {n : Nat} {g : Fin 3} {ns : List Int} {ws : List Value} {U : Addr} {uc : Nat} {tl : List (Addr × Obj)} {v1 v2 v3 v4 : Option Value} (B : Bs L' m n g ns ws U uc tl) (h1 : m "mail" = v1) (h2 : m "part" = v2) (h3 : m "left" = v3) (h4 : m "flags" = v4) : ∃ (m₀ : Str → Option Value) (t tc td : Tok),
    m = fun z : Str => if z = "mail" then v1 else if z = "part" then v2 else if z = "left" then v3 else if z = "flags" then v4 else if z = "number" then some (.int (n : Int) t) else if z = "nums" then some (.ref U) else if z = "letter" then some (.str ⟨#[(pairOf g.val).1]⟩ tc) else if z = "double" then some (.str ⟨#[(pairOf g.val).2]⟩ td) else m₀ z := by
  obtain ⟨m₀, t, tc, td, e⟩ := B.frame
  refine ⟨m₀, t, tc, td, ?_⟩
  funext z
  by_cases e0 : z = "mail"
  · rw [if_pos e0, e0, h1]
  rw [if_neg e0]
  by_cases e1 : z = "part"
  · rw [if_pos e1, e1, h2]
  rw [if_neg e1]
  by_cases e2 : z = "left"
  · rw [if_pos e2, e2, h3]
  rw [if_neg e2]
  by_cases e3 : z = "flags"
  · rw [if_pos e3, e3, h4]
  rw [if_neg e3]
  exact congrFun e z
theorem own_more {own nt : List (Addr × Obj)} {y : Addr × Obj} (h : OwnOff own (nt.map (·.1))) (hy : ∀ p ∈ own, p.1 ≠ y.1) : OwnOff own ((y :: nt).map (·.1)) := fun p hp b hb => by
  rcases List.mem_cons.mp hb with rfl | hb
  · exact hy p hp
  · exact h p hp b hb
theorem off_next {own nt tl : List (Addr × Obj)} {a b c d : Addr × Obj} {LF : Addr} {oL : Obj} (h1 : OwnOff own [a.1, b.1, c.1, d.1]) (h2 : ∀ p ∈ own, p.1 ≠ LF) (h3 : OwnOff own (nt.map (·.1))) (h4 : OwnOff own (tl.map (·.1))) : OwnOff own (([a, b, c, d] ++ ((LF, oL) :: (nt ++ tl))).map (·.1)) := fun p hp x hx => by
  rw [List.map_append] at hx
  rcases List.mem_append.mp hx with hx | hx
  · exact h1 p hp x hx
  · rcases List.mem_cons.mp hx with rfl | hx
    · exact h2 p hp
    · rw [List.map_append] at hx
      exact (List.mem_append.mp hx).elim (h3 p hp x) (h4 p hp x)
theorem pow_b {i : Nat} (hi : i < 2) : 5 * 2 ^ i ≤ 10 ∧ 5 * 2 ^ (i + 1) ≤ 20 := by
  obtain rfl | rfl : i = 0 ∨ i = 1 := by lia
  · decide
  · decide
/-- between the times -/
noncomputable def JT (L' : Addr) (n : Nat) (g : Fin 3) (ns : List Int) (ws : List Value) (U : Addr) (uc : Nat) (rows0 : List (Nat × Nat)) (NM FL : Addr) (nk fk : Nat) (fl nl : List (Str × Tok)) (o3 o4 : Obj) (i : Nat) (m : Str → Option Value) (nx : List (Addr × Obj)) : Prop :=
  ∃ tl its R rn o1 o2 v2, nx = [(L' + 1 + 1 + 1 + 1, o4), (L' + 1 + 1 + 1, o3), (L' + 1 + 1, o2), (L' + 1, o1)] ++ tl ∧ Bs L' m n g ns ws U uc tl ∧ (R, listOf (List.toArray its) rn) ∈ tl ∧ RowsAre tl its (turns rows0 ns i) ∧ (NM, listOf (strValues nl).toArray nk) ∈ tl ∧ m "flags" = some (.ref FL) ∧ (FL, listOf (strValues fl).toArray fk) ∈ tl ∧ (0 < i → ∃ ml tm, m "mail" = some (.str (T ml) tm) ∧ ml = plain (pairOf g.val).1 (turns rows0 ns i)) ∧ o1.data = .cell (some (.ref R)) ∧ o2.data = .cell v2
/-- within one -/
noncomputable def JI (L' : Addr) (n : Nat) (g : Fin 3) (ns : List Int) (ws : List Value) (U : Addr) (uc : Nat) (tl own : List (Addr × Obj)) (r : List (Nat × Nat)) (ps : List Int) (LF P FL : Addr) (o1 o2 o3 o4 : Obj) (i : Nat) (m : Str → Option Value) (nx : List (Addr × Obj)) : Prop :=
  ∃ nt lits ln tm, nx = (LF, listOf (List.toArray lits) ln) :: ([(L' + 1 + 1 + 1 + 1, o4), (L' + 1 + 1 + 1, o3), (L' + 1 + 1, o2), (L' + 1, o1)] ++ (nt ++ tl)) ∧ Bs L' m n g ns ws U uc tl ∧ RowsAre nt lits (lftN r ps i) ∧ (∀ p ∈ nt, @LT.lt Nat _ LF p.1) ∧ OwnOff own (nt.map (·.1)) ∧ m "mail" = some (.str (T (tellN (pairOf g.val).1 (pairOf g.val).2 r ps i)) tm) ∧ m "part" = some (.ref P) ∧ m "left" = some (.ref LF) ∧ m "flags" = some (.ref FL)
end Mine
local macro_rules | `(tactic| walk_at "binaryOp Mult int int") => `(tactic| with_reducible apply mul_2; assumption)
namespace Mine
open PySem PySem.W PySem.Calls PyProof.Rows PyProof.V PySem.Spec PyProof.Rows.LCg PyProof.Rows.LCt
local macro_rules | `(tactic| walk_at "call ref") => `(tactic| ((with_reducible apply at_ref 177); k_dflt (apply use_fellows; k_asm; k_asm; k_asm; k_asm; k_asm; (first | exact rfl | assumption); ktr_room; ktr_units; k_mem; k_mem; walk_at "~rows"; assumption; assumption; assumption; assumption; (intro P' ps' s' hL' F' N' l1' hI'; obtain ⟨h', gs', dd', tk', os'⟩ := s'; (try dsimp only at F' N' ⊢); k_lt l1'))))
local macro_rules | `(tactic| walk_at "call ref") => `(tactic| ((with_reducible apply at_ref 60); k_dflt (apply use_strip; assumption; assumption; assumption; walk_at "~callR")))
local macro_rules | `(tactic| walk_at "call builtin:len") => `(tactic| with_reducible apply len_gone; k_asm; k_dflt k_mem; walk_at "~rows"; assumption)
local macro_rules | `(tactic| walk_at "subscriptTail Name Name ref int") => `(tactic| with_reducible apply item_row3; k_asm; k_dflt k_mem; walk_at "~rows"; assumption; assumption; assumption; with_unfolding_all rfl; intro _ _ _ _)
local macro_rules | `(tactic| walk_at "subscriptTail Name Name ref int") => `(tactic| with_reducible apply item_part; k_asm; k_dflt k_mem; assumption; assumption; assumption; assumption; with_unfolding_all rfl; intro _)
local macro_rules | `(tactic| walk_at "binaryOp Add str str") => `(tactic| with_reducible apply qdot_add; walk_at "~ll"; intros)
local macro_rules | `(tactic| walk_at "binaryOp Add str str") => `(tactic| with_reducible apply add_q; walk_at "~ll"; intros)
local macro_rules | `(tactic| walk_at "inplaceOp Add str str") => `(tactic| with_reducible apply iadd_T; walk_at "~ll"; intros)
local macro_rules | `(tactic| walk_at "newTuple") => `(tactic| (with_reducible apply tup_two; k_asm; k_asm; (intro D' h' F' N' l1; k_lt l1)))
local macro_rules | `(tactic| walk_at "call builtin:list.append") => `(tactic| with_reducible apply app_two; k_asm; k_asm; exact Nat.ne_of_gt (And.left (by assumption)); assumption; assumption; intro _ _ _)
set_option maxHeartbeats 1600000 in
theorem seg16 (w : World) (loose : List Str) (mean : ExcName → Option Value) (mg mb : Str → Option Value) (h₀ : Heap) (L' fa l : Addr) (cdv : Value) (s0 : Shared) (Q : Flow → Shared → Prop) (E : Value → Shared → Prop)
    (X : (K w.params).In h₀) (TT : Top qv loose mean mg mb h₀) (B : Below callerA h₀ [] h₀) (h17 : Seg17 w loose mean mg mb h₀ L' fa l cdv s0 Q E) : Seg16 w loose mean mg mb h₀ L' fa l cdv s0 Q E := by
  unfold Seg16 rwp
  revert X
  k_fill
  intro X s m n g ns ws U uc tl rows0 its R rn v2 NM FL nk fk fl nl o1 o2 o3 o4 hB hR hr hBu hNM hnl hfl hFL hfw hL F N d1 d2 d3 d4
  have hO := hB.off
  obtain ⟨hh, gs, dd, tk, os⟩ := s
  dsimp only at F N
  show wpAny _ _ (execs (_ :: _) _) _ _ _
  obtain ⟨m₁, rfl⟩ := asM hfl
  have hB' := hB.set (m' := m₁) rfl rfl rfl rfl (fun p hp => hp) hO
  obtain ⟨m₂, t, tc, td, rfl⟩ := hB'.frame
  simp only [List.cons_append, List.nil_append] at N
  k_steps
  rename Fr _ _ _ _ => FF
  rename News _ _ _ _ => NN
  rename IsRange _ _ _ _ _ _ _ _ => RR
  obtain ⟨hc1, hc2⟩ := letter_ok g
  obtain ⟨pc, pd⟩ := prep_pair g
  obtain ⟨c34, c92, d34, d92⟩ := pair_no g
  have hl20 : rows0.length ≤ 20 := Nat.le_trans (hBu.few hB.hn) (by decide)
  have hTok := turns_ok (ns := ns) hBu.five' hBu.ends
  refine' for_rangeW (by rfl) RR (by decide) (n := 2) (by rfl) FF NN (JT L' n g ns ws U uc rows0 NM FL nk fk fl nl o3 o4) ?j0 ?step ?done
  case j0 => exact ⟨tl, its, R, rn, o1, o2, _, by rfl, hB.set rfl rfl rfl rfl (fun p hp => hp) hO, hR, hr, hNM, by rfl, hFL, (fun h => absurd h (Nat.lt_irrefl 0)), d1, d2⟩
  case done =>
    intro m₁ news₁ s₁ hL₁ hJ F₁ N₁
    obtain ⟨tl₁, its₁, R₁, rn₁, q1, q2, w2, rfl, hB₁, hR₁, hr₁, hNM₁, hfl₁, hFL₁, hml, e1, e2⟩ := hJ
    refine wpAny_execs_nil ?_
    obtain ⟨ml, tm, hm1, hm2⟩ := hml (by decide)
    exact h17 s₁ m₁ n g ns ws U uc tl₁ _ its₁ R₁ rn₁ w2 NM FL nk fk fl nl rows0 ml tm q1 q2 o3 o4 hB₁ hR₁ hr₁ hBu rfl hNM₁ hnl hfl₁ hFL₁ hfw hm1 hm2 ⟨hL₁.1.trans hL.1, hL₁.2.trans hL.2⟩ F₁ N₁ e1 e2 d3 d4
  case step =>
    intro i tt m₁ news₁ s₁ own hL₁ hi hJ ho F₁ N₁
    obtain ⟨tl₁, its₁, R₁, rn₁, q1, q2, w2, rfl, hB₁, hR₁, hr₁, hNM₁, hfl₁, hFL₁, hml, e1, e2⟩ := hJ
    have ho1 : OwnOff own [L' + 1 + 1 + 1 + 1, L' + 1 + 1 + 1, L' + 1 + 1, L' + 1] := fun p hp b hb => ho p hp b (by
      simp only [List.map_append, List.map_cons, List.map_nil]
      exact List.mem_append_left _ hb)
    have hs1 : ∀ q ∈ tl₁, q ∈ tl₁ ++ own := fun q hq => List.mem_append_left _ hq
    have hs2 : ∀ q ∈ own, q ∈ tl₁ ++ own := fun q hq => List.mem_append_right _ hq
    have hB₂ := hB₁.up hs1 (OwnOff.app hB₁.off ho1)
    have hR₂ := hs1 _ hR₁
    have hr₂ := hr₁.more hs1
    replace N₁ := pack4 N₁
    clear NN FF RR
    obtain ⟨lt1, lt2, lt3⟩ := hTok i
    have hr1e : turns rows0 ns (i + 1) = lft (turns rows0 ns i) (fell (turns rows0 ns i) ns) := rfl
    obtain ⟨lu1, lu2, lu3⟩ := hTok (i + 1)
    have lu4 : ∀ p ∈ turns rows0 ns (i + 1), p.1 ≤ 20 := fun p hp => Nat.le_trans (lu2 p hp) (pow_b hi).2
    have lt4 : ∀ p ∈ turns rows0 ns i, p.1 ≤ 10 := fun p hp => Nat.le_trans (lt2 p hp) (pow_b hi).1
    have lu5 : (turns rows0 ns (i + 1)).length ≤ 20 := Nat.le_trans lu1 hl20
    generalize hr1g : turns rows0 ns i = r₁ at hr₁ hr₂ lt1 lt2 lt3 lt4 hr1e
    generalize hr2g : turns rows0 ns (i + 1) = r₂ at hr1e lu1 lu2 lu3 lu4 lu5
    clear lt2 lu2
    generalize tl₁ ++ own = tl₂ at N₁ hB₂ hs1 hs2 hR₂ hr₂
    have hU₂ := hB₂.hU
    have hI₂ := hB₂.hI
    have hn3 := hB₂.n3
    have hn20 := hB₂.n20
    have hO₂ := hB₂.off
    have hrl : r₁.length ≤ 17 := Nat.le_trans lt1 (hBu.few hB.hn)
    have hrl20 : r₁.length ≤ 20 := Nat.le_trans hrl (by decide)
    obtain ⟨h₁, gs₁, dd₁, tk₁, os₁⟩ := s₁
    dsimp only at F₁ N₁
    obtain ⟨m₃, rfl⟩ := asM hfl₁
    have hB₃ := hB₂.set (m' := m₃) rfl rfl rfl rfl (fun p hp => hp) hB₂.off
    obtain ⟨m₄, t', tc', td', rfl⟩ := hB₃.frame
    rw [Int.zero_add]
    k_steps
    rename Fr _ _ _ _ => F₂
    rename News _ _ _ _ => N₂
    rename IsRange _ _ _ _ _ _ _ _ => RR₂
    rename IntsAre _ (fell _ _) => hps
    rename _ < _ ∧ _ ∧ _ ∧ _ ∧ AllLt _ _ => lP
    rename _ < _ ∧ _ ∧ _ ∧ _ ∧ _ ∧ AllLt _ _ => lF
    rename Later _ _ => lA
    rename_i P ps x1 gs₂ dd₂ x2 os₂ x3 x4 x5 LF x6 x7 F' N' x8 x9 x10 x11 x12 x13
    have hsz : r₁.length < 21 := Nat.lt_of_le_of_lt hrl20 (by decide)
    have hfl : (fell r₁ ns).length = r₁.length := fell_len r₁ ns
    have hO₃ : OwnOff ((P, listOf ps.toArray 0) :: tl₂) [L' + 1 + 1 + 1 + 1, L' + 1 + 1 + 1, L' + 1 + 1, L' + 1] := OwnOff.one hO₂ lP.1
    have hP₃ : (P, listOf ps.toArray 0) ∈ (P, listOf ps.toArray 0) :: tl₂ := List.mem_cons_self
    have hs3 : ∀ q ∈ tl₂, q ∈ (P, listOf ps.toArray 0) :: tl₂ := fun q hq => List.mem_cons_of_mem _ hq
    have hR₃ := hs3 _ hR₂
    have hr₃ := hr₂.more hs3
    have hne₃ : ∀ q ∈ (P, listOf ps.toArray 0) :: tl₂, q.1 ≠ LF := List.forall_mem_cons.mpr ⟨Nat.ne_of_lt lF.1, allLt_ne lF.2.2.2.2.2⟩
    have hown₃ : ∀ q ∈ own, q.1 ≠ LF := fun q hq => allLt_ne lF.2.2.2.2.2 q (hs2 q hq)
    have hB₄ := hB₃.up hs3 hO₃
    have lC := lF.2.1
    refine' for_rangeW (by rfl) RR₂ (small_n ⟨r₁.length, hsz⟩) (n := r₁.length) (size_n ⟨r₁.length, hsz⟩) F₂ (order6 N₂) (JI L' n g ns ws U uc ((P, listOf ps.toArray 0) :: tl₂) own r₁ (fell r₁ ns) LF P FL q1 q2 o3 o4) ?j1 ?step1 ?done1
    case j1 => exact ⟨[], [], 0, _, by rfl, hB₄.set rfl rfl rfl rfl (fun p hp => hp) hO₃, ⟨rfl, (fun i p e => by cases e)⟩, (fun p hp => absurd hp List.not_mem_nil), (fun p _ b hb => absurd hb List.not_mem_nil), by rw [show (tellN (pairOf g.val).1 (pairOf g.val).2 r₁ (fell r₁ ns) 0) = [] from rfl, ← nil_T]; rfl, by rfl, by rfl, by rfl⟩
    case step1 =>
      intro j tt₅ m₅ news₅ s₅ own₅ hL₅ hj hJ ho₅ F₅ N₅
      obtain ⟨nt, lits, ln, tm, rfl, hB₅, hrl₅, hlt₅, hown₅, g1, g2, g3, g4⟩ := hJ
      clear F₂ N₂ RR₂ F' N' x13 hml
      have ho5 : OwnOff own₅ [L' + 1 + 1 + 1 + 1, L' + 1 + 1 + 1, L' + 1 + 1, L' + 1] := fun p hp b hb => ho₅ p hp b (by
        simp only [List.map_cons, List.map_append]
        exact List.mem_cons_of_mem _ (List.mem_append_left _ hb))
      have hlf5 : ∀ q ∈ own₅, q.1 ≠ LF := fun q hq => ho₅ q hq LF List.mem_cons_self
      replace N₅ := packI N₅
      have hsA : ∀ q ∈ nt ++ ((P, listOf ps.toArray 0) :: tl₂), q ∈ nt ++ (((P, listOf ps.toArray 0) :: tl₂) ++ own₅) := fun q hq => (List.mem_append.mp hq).elim (List.mem_append_left _) fun h => List.mem_append_right _ (List.mem_append_left _ h)
      have hsO : ∀ q ∈ own₅, q ∈ nt ++ (((P, listOf ps.toArray 0) :: tl₂) ++ own₅) := fun q hq => List.mem_append_right _ (List.mem_append_right _ hq)
      have hsT : ∀ q ∈ (P, listOf ps.toArray 0) :: tl₂, q ∈ nt ++ (((P, listOf ps.toArray 0) :: tl₂) ++ own₅) := fun q hq => List.mem_append_right _ (List.mem_append_left _ hq)
      have hO₆ : OwnOff (nt ++ (((P, listOf ps.toArray 0) :: tl₂) ++ own₅)) [L' + 1 + 1 + 1 + 1, L' + 1 + 1 + 1, L' + 1 + 1, L' + 1] := OwnOff.app (own_off fun p hp => Nat.lt_trans lC (hlt₅ p hp)) (OwnOff.app hO₃ ho5)
      have hLF₆ : ∀ q ∈ nt ++ (((P, listOf ps.toArray 0) :: tl₂) ++ own₅), q.1 ≠ LF := fun q hq => (List.mem_append.mp hq).elim (fun h => Nat.ne_of_gt (hlt₅ q h)) fun h => (List.mem_append.mp h).elim (hne₃ q) (hlf5 q)
      have hR₆ := hsT _ hR₃
      have hr₆ := hr₃.more hsT
      have hP₆ := hsT _ hP₃
      have hs7 : ∀ q ∈ own, q ∈ nt ++ (((P, listOf ps.toArray 0) :: tl₂) ++ own₅) := fun q hq => hsT q (hs3 q (hs2 q hq))
      have hB₆ := hB₅.up hsT hO₆
      generalize nt ++ (((P, listOf ps.toArray 0) :: tl₂) ++ own₅) = tl₆ at N₅ hsA hsO hsT hO₆ hLF₆ hR₆ hr₆ hP₆ hs7 hB₆
      have hGr : ∀ p ∈ (L' + 1 + 1 + 1 + 1, o4) :: (L' + 1 + 1 + 1, o3) :: (L' + 1 + 1, q2) :: (L' + 1, q1) :: tl₆, p.1 ≠ LF := by
        simp only [List.mem_cons]
        rintro p (rfl | rfl | rfl | rfl | hp)
        · exact Nat.ne_of_lt lF.2.1
        · exact Nat.ne_of_lt lF.2.2.1
        · exact Nat.ne_of_lt lF.2.2.2.1
        · exact Nat.ne_of_lt lF.2.2.2.2.1
        · exact hLF₆ p hp
      have hj20 : j < (fell r₁ ns).length := by rw [hfl]; exact hj
      have hf20 : (fell r₁ ns).length ≤ 20 := by rw [hfl]; exact hrl20
      have hml₅ := tell_len (c := (pairOf g.val).1) (d := (pairOf g.val).2) (ps := fell r₁ ns) (fun p hp => Nat.le_trans (lt4 p hp) (by decide)) (Nat.le_of_lt hj)
      have hll : lits.length ≤ 1000 := by
        rw [hrl₅.1]
        exact Nat.le_trans (lftN_len _ _ _) (by lia)
      obtain ⟨p, hp⟩ : ∃ p, r₁.getD j (0, 0) = p := ⟨_, rfl⟩
      obtain ⟨v, hv⟩ : ∃ v, (fell r₁ ns).getD j 0 = v := ⟨_, rfl⟩
      have hz10 : p.1 ≤ 10 := hp ▸ lt4 _ (getD_mem hj)
      have hz20 : p.1 ≤ 20 := Nat.le_trans hz10 (by decide)
      generalize htl : tellN (pairOf g.val).1 (pairOf g.val).2 r₁ (fell r₁ ns) j = ml at g1 hml₅
      obtain ⟨h₅, gs₅, dd₅, tk₅, os₅⟩ := s₅
      dsimp only at F₅ N₅
      obtain ⟨m₈, t8, tc8, td8, e8⟩ := hB₅.frame8 g1 g2 g3 g4
      rw [e8] at F₅
      rw [Int.zero_add]
      have hB₇ := hB₅
      rw [e8] at hB₇
      k_steps
      · rename Fr _ _ _ _ => F₇
        rename News _ _ _ _ => N₇
        rename v = 1 => hq
        refine ⟨_, _, (LF, listOf lits.toArray ln) :: ([_, _, _, _] ++ (nt ++ ((P, listOf ps.toArray 0) :: tl₂))), ⟨rfl, rfl⟩, F₇, N₇, over5 hsA, under5 hsO, ho₅, nt, lits, ln, _, rfl, hB₇.set rfl rfl rfl rfl (fun p hp => hp) hO₃, by rw [left1 hp hv hq]; exact hrl₅, hlt₅, hown₅, by rw [← tell1 hp hv hq, htl]; rfl, by rfl, by rfl, by rfl⟩
      · rename Fr _ _ _ _ => F₇
        rename News _ _ _ _ => N₇
        rename v = 2 => hq2
        rename v ≠ 1 => hq1
        rename _ < _ ∧ _ ∧ _ ∧ _ ∧ _ ∧ AllLt _ _ => lD
        refine ⟨_, _, (LF, _) :: ([_, _, _, _] ++ (((_, _) :: nt) ++ ((P, listOf ps.toArray 0) :: tl₂))), ⟨rfl, rfl⟩, F₇, N₇, overD hsA, fun p hp => List.mem_cons_of_mem _ (under5 hsO p hp), offD ho₅ rfl hsO lD.2.2.2.2.2, _ :: nt, _, _, _, rfl, hB₇.set rfl rfl rfl rfl (fun p hp => hp) hO₃, ?_, List.forall_mem_cons.mpr ⟨lD.1, hlt₅⟩, own_more hown₅ (fun q hq => allLt_ne lD.2.2.2.2.2 q (hs7 q hq)), by rw [← tell2 hp hv hq1 hq2, htl]; rfl, by rfl, by rfl, by rfl⟩
        rw [left2 hp hv hq1 hq2]
        exact (hrl₅.more fun q hq => List.mem_cons_of_mem _ hq).snoc List.mem_cons_self rfl rfl
      · rename Fr _ _ _ _ => F₇
        rename News _ _ _ _ => N₇
        rename v ≠ 2 => hq2
        rename v ≠ 1 => hq1
        rename _ < _ ∧ _ ∧ _ ∧ _ ∧ _ ∧ AllLt _ _ => lD
        refine ⟨_, _, (LF, _) :: ([_, _, _, _] ++ (((_, _) :: nt) ++ ((P, listOf ps.toArray 0) :: tl₂))), ⟨rfl, rfl⟩, F₇, N₇, overD hsA, fun p hp => List.mem_cons_of_mem _ (under5 hsO p hp), offD ho₅ rfl hsO lD.2.2.2.2.2, _ :: nt, _, _, _, rfl, hB₇.set rfl rfl rfl rfl (fun p hp => hp) hO₃, ?_, List.forall_mem_cons.mpr ⟨lD.1, hlt₅⟩, own_more hown₅ (fun q hq => allLt_ne lD.2.2.2.2.2 q (hs7 q hq)), by rw [← tell0 hp hv hq1 hq2, htl]; rfl, by rfl, by rfl, by rfl⟩
        rw [left0 hp hv hq1 hq2]
        exact (hrl₅.more fun q hq => List.mem_cons_of_mem _ hq).snoc List.mem_cons_self rfl rfl
    case done1 =>
      intro m₅ news₅ s₅ hL₅ hJ F₅ N₅
      obtain ⟨nt, lits, ln, tm, rfl, hB₅, hrl₅, hlt₅, hown₅, g1, g2, g3, g4⟩ := hJ
      refine wpAny_execs_nil ?_
      clear F₂ N₂ RR₂ F' N' x13 hml
      have hO₅ : OwnOff (nt ++ tl₁) [L' + 1 + 1 + 1 + 1, L' + 1 + 1 + 1, L' + 1 + 1, L' + 1] := OwnOff.app (own_off fun p hp => Nat.lt_trans lC (hlt₅ p hp)) hB₁.off
      have hO₆ : OwnOff (nt ++ ((P, listOf ps.toArray 0) :: tl₂)) [L' + 1 + 1 + 1 + 1, L' + 1 + 1 + 1, L' + 1 + 1, L' + 1] := OwnOff.app (own_off fun p hp => Nat.lt_trans lC (hlt₅ p hp)) hO₃
      have hsA : ∀ q ∈ nt ++ tl₁, q ∈ nt ++ ((P, listOf ps.toArray 0) :: tl₂) := fun q hq => (List.mem_append.mp hq).elim (List.mem_append_left _) fun h => List.mem_append_right _ (hs3 q (hs1 q h))
      have hsW : ∀ q ∈ own, q ∈ nt ++ ((P, listOf ps.toArray 0) :: tl₂) := fun q hq => List.mem_append_right _ (hs3 q (hs2 q hq))
      have hrE : RowsAre nt lits r₂ := by rw [hr1e]; exact hrl₅
      have hrE₆ : RowsAre (nt ++ ((P, listOf ps.toArray 0) :: tl₂)) lits r₂ := hrE.more fun q hq => List.mem_append_left _ hq
      have hB₆ := hB₅.up (fun q hq => List.mem_append_right nt hq) hO₆
      have hLF₆ : ∀ q ∈ nt ++ ((P, listOf ps.toArray 0) :: tl₂), q.1 ≠ LF := fun q hq => (List.mem_append.mp hq).elim (fun h => Nat.ne_of_gt (hlt₅ q h)) (hne₃ q)
      replace N₅ : News h₀ L' s₅.heap ((LF, listOf lits.toArray ln) :: (L' + 1 + 1 + 1 + 1, o4) :: (L' + 1 + 1 + 1, o3) :: (L' + 1 + 1, q2) :: (L' + 1, q1) :: (nt ++ ((P, listOf ps.toArray 0) :: tl₂))) := N₅
      generalize nt ++ ((P, listOf ps.toArray 0) :: tl₂) = tl₆ at N₅ hsA hsW hO₆ hLF₆ hrE₆ hB₆
      obtain ⟨o, ho2, ho3⟩ := tell_ost (ps := fell r₁ ns) c34 d34 pc pd lt3 (i := r₁.length) (Nat.le_refl _)
      have hml := tell_len (c := (pairOf g.val).1) (d := (pairOf g.val).2) (ps := fell r₁ ns) (fun p hp => Nat.le_trans (lt4 p hp) (by decide)) (Nat.le_refl r₁.length)
      have h92 := tell_92 (ps := fell r₁ ns) c92 d92 lt3 (Nat.le_refl r₁.length)
      have hpp : prep (ost (tellN (pairOf g.val).1 (pairOf g.val).2 r₁ (fell r₁ ns) r₁.length)).2 = plain (pairOf g.val).1 r₂ := by rw [ho2, hr1e]; exact ho3
      have hb : (ost (tellN (pairOf g.val).1 (pairOf g.val).2 r₁ (fell r₁ ns) r₁.length)).1 = false := by rw [ho2]
      clear ho2 ho3
      generalize tellN (pairOf g.val).1 (pairOf g.val).2 r₁ (fell r₁ ns) r₁.length = ml at g1 hml h92 hpp hb
      have hml9 : ml.length ≤ 900 := by lia
      have hol : (ost ml).2.length ≤ 1000 := Nat.le_trans (ost_len ml) (by lia)
      have hpl : (prep (ost ml).2).length ≤ 1000 := by rw [hpp]; exact Nat.le_trans (plain_len lu5 lu4) (by decide)
      obtain ⟨h₅, gs₅, dd₅, tk₅, os₅⟩ := s₅
      dsimp only at F₅ N₅
      obtain ⟨m₈, t8, tc8, td8, e8⟩ := hB₅.frame8 g1 g2 g3 g4
      rw [e8] at F₅
      have hB₇ := hB₅
      rw [e8] at hB₇
      have lCa := lF.2.1
      have lCb := lF.2.2.1
      have lCc := lF.2.2.2.1
      have lCd := lF.2.2.2.2.1
      show wpAny _ _ (execs (_ :: _) _) _ _ _
      have hX := hB₁.up (tl' := (LF, listOf lits.toArray ln) :: (nt ++ tl₁)) (fun q hq => List.mem_cons_of_mem _ (List.mem_append_right _ hq)) (OwnOff.one hO₅ lF.2.1)
      have hY := hB₇.mix hX
      k_steps
      rename Fr _ _ _ _ => F₉
      rename News _ _ _ _ => N₉
      rename Later _ _ => l3
      revert l3
      rename Later _ _ => l2
      revert l2
      rename Later _ _ => l1
      intro l2 l3
      rename Obj.data _ = .cell (some (.ref LF)) => dN
      refine ⟨_, _, [_, _, _, _] ++ ((LF, listOf lits.toArray ln) :: (nt ++ tl₁)), ⟨l3.1.trans (l2.1.trans (l1.1.trans (hL₅.1.trans lA.1))), l3.2.trans (l2.2.trans (l1.2.trans (hL₅.2.trans lA.2)))⟩, F₉, N₉, over5' hsA, under5 hsW, off_next ho1 hown₃ hown₅ (fun p hp b hb => ho p hp b (by
        rw [List.map_append]
        exact List.mem_append_right _ hb)), (LF, listOf lits.toArray ln) :: (nt ++ tl₁), lits, LF, ln, _, q2, w2, rfl, hY.set rfl rfl rfl rfl (fun p hp => hp) hX.off, List.mem_cons_self, ?_, List.mem_cons_of_mem _ (List.mem_append_right _ hNM₁), by rfl, List.mem_cons_of_mem _ (List.mem_append_right _ hFL₁), (fun _ => ⟨_, _, by rfl, by rw [hr2g]; exact hpp⟩), dN, e2⟩
      rw [hr2g]
      exact hrE.more fun q hq => List.mem_cons_of_mem _ (List.mem_append_left _ hq)
end Mine
namespace Mine
open PySem PySem.W PySem.Calls PyProof.Rows PySem.Spec PyProof.Rows.LCg
/-- a list comprehension of two clauses: a name out of the first, a pair out of the second, one test -/
noncomputable abbrev lc2 (elt i0 i1 ct : Expr) (x y z : Str) (px py pz tp : Pos) (tc : Nat) (scope : Scope) (pos : Pos) : Expr :=
  .ListComp elt [⟨.Name x px, i0, [], 0⟩, ⟨.Tuple [.Name y py, .Name z pz] tc tp, i1, [ct], 0⟩] scope pos
theorem turn2_outer (elt target i0 target₂ i1 : Expr) (ifs : List Expr) (scope : Scope) (pos : Pos) (it acc : Value) (env : Env) :
    compTurn (.ListComp elt [⟨target, i0, [], 0⟩, ⟨target₂, i1, ifs, 0⟩] scope pos) 0 it acc env = (do
      standAt i0.pos
      match ← pyNext it with
      | none => pure (.done .next)
      | some v =>
        letOwnedTupleGo target it v
        assign target env v
        let mut ok := true
        for c in ([] : List Expr) do
          if ok then ok ← isTrue c env (eval c env)
        if ok then
          let x ← eval i1 env
          standAt i1.pos
          let x ← foldedSetIterable i1 env x
          let _ ← runOwn (.compStart (.ListComp elt [⟨target, i0, [], 0⟩, ⟨target₂, i1, ifs, 0⟩] scope pos) 1 (← holding [x] (pyIter x)) acc env) env
        again (.compLoop (.ListComp elt [⟨target, i0, [], 0⟩, ⟨target₂, i1, ifs, 0⟩] scope pos) 0 it acc env)) := by rfl
theorem turn2_inner (elt target i0 target₂ i1 : Expr) (ifs ifs₂ : List Expr) (scope : Scope) (pos : Pos) (it acc : Value) (env : Env) :
    compTurn (.ListComp elt [⟨target, i0, ifs, 0⟩, ⟨target₂, i1, ifs₂, 0⟩] scope pos) 1 it acc env = (do
      standAt i1.pos
      match ← pyNext it with
      | none => pure (.done .next)
      | some v =>
        letOwnedTupleGo target₂ it v
        assign target₂ env v
        let mut ok := true
        for c in ifs₂ do
          if ok then ok ← isTrue c env (eval c env)
        if ok then
          (do let _ ← call (.builtin "list.append") [acc, ← eval elt env])
        again (.compLoop (.ListComp elt [⟨target, i0, ifs, 0⟩, ⟨target₂, i1, ifs₂, 0⟩] scope pos) 1 it acc env)) := by rfl
section
variable {prog : Program} {w : World} {A : Around} {E : Value → Shared → Prop} {s : Shared} {h₀ : Heap} {L : Addr} {m : Str → Option Value} {env : Env} {R : Result → Shared → Prop}
theorem start2_inner {elt target iter target₂ i1 : Expr} {ifs ifs₂ : List Expr} {scope : Scope} {pos : Pos} {it acc : Value}
    (h0 : codeAny (model prog w) A (.compLoop (.ListComp elt [⟨target, iter, ifs, 0⟩, ⟨target₂, i1, ifs₂, 0⟩] scope pos) 1 it acc env) R s)
    (h : wpAny (model prog w) A (pyIter it) (fun it' s' => codeAny (model prog w) A (.compLoop (.ListComp elt [⟨target, iter, ifs, 0⟩, ⟨target₂, i1, ifs₂, 0⟩] scope pos) 1 it' acc env) R s')
      (notedBy (model prog w) A env fun x s' => R (.error x) s') s) :
    codeAny (model prog w) A (.compStart (.ListComp elt [⟨target, iter, ifs, 0⟩, ⟨target₂, i1, ifs₂, 0⟩] scope pos) 1 it acc env) R s := by
  refine codeAny_of_tree ?_
  show wpAny _ _ ((compStart (.ListComp elt [⟨target, iter, ifs, 0⟩, ⟨target₂, i1, ifs₂, 0⟩] scope pos) 1 it acc env).onRaise (fun x => do noteFrame x env; standAt theWindowsPlace)) _ _ s
  refine wpAny_notedAt ?_
  unfold compStart
  show wpAny _ _ (ask >>= _) _ _ s
  refine wpAny_bind (wpAny_askSetting (wpAny_ite ?_))
  split
  · first
      | exact wpAny_bind (wpAny_pure (wpAny_pure (And.intro rfl h0)))
      | exact wpAny_pure (And.intro rfl h0)
  · first
      | exact wpAny_bind (wpAny_rule (wpAny_bind (wpAny_standAt (wpAny_bind (wpAny_mono h (fun it' s' h' => wpAny_pure (And.intro rfl h')) fun _ _ x => x)))))
      | (refine wpAny_bind (wpAny_rule ?_); show wpAny _ _ (standAt i1.pos >>= _) _ _ s; exact wpAny_bind (wpAny_standAt (wpAny_bind (wpAny_mono h (fun it' s' h' => wpAny_pure (And.intro rfl h')) fun _ _ x => x))))
theorem loop2_inner {elt i0 i1 ct : Expr} {x y z : Str} {px py pz tp : Pos} {tc : Nat} {scope : Scope} {pos : Pos} {it acc : Value} (I : Nat → Shared → Prop)
    (turn : ∀ n s, I n s → wpAny (model prog w) A (pyNext it) (fun r s₁ => match r with
      | none => R (.ok .next) s₁
      | some v => wpAny (model prog w) A (letOwnedTupleGo (.Tuple [.Name y py, .Name z pz] tc tp) it v) (fun _ s₁' => wpAny (model prog w) A (assign (.Tuple [.Name y py, .Name z pz] tc tp) env v) (fun _ s₂ =>
          wpAny (model prog w) A (isTrue ct env (eval ct env)) (fun ok s₃ => if ok = true then
            wpAny (model prog w) A (eval elt env) (fun x s₄ =>
              wpAny (model prog w) A (call (.builtin "list.append") [acc, x]) (fun _ s₅ => ∃ m, m < n ∧ I m s₅) (notedBy (model prog w) A env fun e s' => R (.error e) s') s₄) (notedBy (model prog w) A env fun e s' => R (.error e) s') s₃
            else ∃ m, m < n ∧ I m s₃) (notedBy (model prog w) A env fun e s' => R (.error e) s') s₂)
          (notedBy (model prog w) A env fun e s' => R (.error e) s') s₁') (notedBy (model prog w) A env fun e s' => R (.error e) s') s₁) (notedBy (model prog w) A env fun e s' => R (.error e) s') s)
    (n : Nat) (h : I n s) : codeAny (model prog w) A (.compLoop (lc2 elt i0 i1 ct x y z px py pz tp tc scope pos) 1 it acc env) R s := by
  refine codeAny_loop rfl I (fun n s hI => ?_) n h
  show wpAny _ A ((compTurn (lc2 elt i0 i1 ct x y z px py pz tp tc scope pos) 1 it acc env).onRaise (fun x => do noteFrame x env; theTreesLotGoes x)) _ _ s
  refine wpAny_noted ?_
  rw [turn2_inner]
  refine wpAny_bind (wpAny_standAt (wpAny_bind (wpAny_mono (turn n s hI) (fun r s₁ h₁ => ?_) fun _ _ h' => h')))
  cases r with
  | none => exact wpAny_pure h₁
  | some v =>
    refine wpAny_bind (wpAny_mono h₁ (fun _ s₁' h₁' => ?_) fun _ _ h' => h')
    refine wpAny_bind (wpAny_mono h₁' (fun _ s₂ h₂ => wpAny_bind (wpAny_tests_one (wpAny_mono h₂ (fun ok s₃ h₃ => ?_) fun _ _ h' => h'))) fun _ _ h' => h')
    cases ok with
    | false => exact wpAny_pure ⟨rfl, h₃⟩
    | true =>
      exact wpAny_bind (wpAny_bind (wpAny_mono h₃ (fun x s₄ h₄ => wpAny_bind (wpAny_mono h₄ (fun _ s₅ h₅ => wpAny_pure (wpAny_pure ⟨rfl, h₅⟩)) fun _ _ h' => h')) fun _ _ h' => h'))
theorem loop2_outer {elt i0 i1 ct : Expr} {x y z : Str} {px py pz tp : Pos} {tc : Nat} {scope : Scope} {pos : Pos} {it acc : Value} (I : Nat → Shared → Prop)
    (hs : ∀ v, foldedSetIterable i1 env v = pure v)
    (turn : ∀ n s, I n s → wpAny (model prog w) A (pyNext it) (fun r s₁ => match r with
      | none => R (.ok .next) s₁
      | some v => wpAny (model prog w) A (assign (.Name x px) env v) (fun _ s₂ => wpAny (model prog w) A (eval i1 env) (fun xv s₃ => wpAny (model prog w) A (pyIter xv) (fun it' s₄ =>
          codeAny (model prog w) A (.compStart (lc2 elt i0 i1 ct x y z px py pz tp tc scope pos) 1 it' acc env) (fun r s₅ => match r with
            | .ok _ => ∃ m, m < n ∧ I m s₅
            | .error e => cameBackBy (model prog w) A env (notedBy (model prog w) A env fun e s' => R (.error e) s') e s₅) s₄)
          (notedBy (model prog w) A env fun e s' => R (.error e) s') s₃) (notedBy (model prog w) A env fun e s' => R (.error e) s') s₂)
          (notedBy (model prog w) A env fun e s' => R (.error e) s') s₁) (notedBy (model prog w) A env fun e s' => R (.error e) s') s)
    (n : Nat) (h : I n s) : codeAny (model prog w) A (.compLoop (lc2 elt i0 i1 ct x y z px py pz tp tc scope pos) 0 it acc env) R s := by
  refine codeAny_loop rfl I (fun n s hI => ?_) n h
  show wpAny _ A ((compTurn (lc2 elt i0 i1 ct x y z px py pz tp tc scope pos) 0 it acc env).onRaise (fun x => do noteFrame x env; theTreesLotGoes x)) _ _ s
  refine wpAny_noted ?_
  rw [turn2_outer]
  refine wpAny_bind (wpAny_standAt (wpAny_bind (wpAny_mono (turn n s hI) (fun r s₁ h₁ => ?_) fun _ _ h' => h')))
  cases r with
  | none => exact wpAny_pure h₁
  | some v =>
    refine wpAny_bind (wpAny_of_eq (show letOwnedTupleGo (.Name x px) it v = pure () from rfl) ?_)
    refine wpAny_bind (wpAny_mono h₁ (fun _ s₂ h₂ => wpAny_bind (wpAny_mono (wpAny_tests_nil (Q := fun ok s₃ => ok = true ∧ s₃ = s₂) ⟨rfl, rfl⟩) (fun ok s₃ h₃ => ?_) fun _ _ h' => h')) fun _ _ h' => h')
    obtain ⟨rfl, rfl⟩ := h₃
    simp only [if_true]
    refine wpAny_bind (wpAny_mono h₂ (fun xv s₃ h₃ => wpAny_bind (wpAny_standAt (wpAny_bind (wpAny_of_eq (hs xv) (wpAny_bind (wpAny_holding (wpAny_mono h₃ (fun it' s₄ h₄ => ?_) fun _ _ h' => h'))))))) fun _ _ h' => h')
    refine wpAny_bind (wpAny_runOwn (codeAny_mono h₄ fun r s₅ h₅ => ?_))
    cases r with
    | ok f => exact wpAny_pure ⟨rfl, h₅⟩
    | error e => exact h₅
end
end Mine
namespace Mine
open PySem PySem.W PySem.Calls PyProof.Rows PySem.Spec PyProof.Rows.LCg
/-- what a look leaves: the frame and the ledger as they were -/
noncomputable def Nd (h₀ : Heap) (L : Addr) (m : Str → Option Value) (s : Shared) (led : List (Addr × Obj)) (s' : Shared) : Prop := ∃ h' tk, s' = { s with heap := h', toks := tk } ∧ Fr h₀ L h' m ∧ News h₀ L h' led
theorem Nd.intro {h₀ : Heap} {L : Addr} {m : Str → Option Value} {s : Shared} {led : List (Addr × Obj)} {h' : Heap} {tk : Nat} (F : Fr h₀ L h' m) (N : News h₀ L h' led) : Nd h₀ L m s led { s with heap := h', toks := tk } := ⟨h', tk, rfl, F, N⟩
/-- one turn of the inner loop -/
noncomputable def Stp (prog : Program) (w : World) (A : Around) (h₀ : Heap) (L : Addr) (m : Str → Option Value) (env : Env) (ct elt : Expr) (x y z : Str) (scope : Scope) (cl : List (Str × Addr)) (s : Shared) (nz : List (Addr × Obj)) (P : Nat → Value → Value → Prop) (Acc : Nat → Nat → List Value → Prop) (k j : Nat) : Prop :=
  ∀ t v1 v2 J oJ C oC D ys m₂ h tk (E' : Value → Shared → Prop), P j v1 v2 → Acc k j ys → NsObj oC m₂ → m₂ x = some (.int (k : Int) t) → m₂ y = some v1 → m₂ z = some v2 → Fr h₀ L h m → News h₀ L h ((J, oJ) :: (C, oC) :: (D, lst ys) :: nz) →
    wpAny (model prog w) A (isTrue ct (compEnvC scope cl C env) (eval ct (compEnvC scope cl C env))) (fun ok s' => if ok = true then
      wpAny (model prog w) A (eval elt (compEnvC scope cl C env)) (fun v s'' => Nd h₀ L m { s with heap := h, toks := tk } ((J, oJ) :: (C, oC) :: (D, lst ys) :: nz) s'' ∧ Acc k (j + 1) (ys ++ [v])) E' s'
      else Nd h₀ L m { s with heap := h, toks := tk } ((J, oJ) :: (C, oC) :: (D, lst ys) :: nz) s' ∧ Acc k (j + 1) ys) E' { s with heap := h, toks := tk }
/-- the second clause's iterable -/
noncomputable def Itr (prog : Program) (w : World) (A : Around) (h₀ : Heap) (L : Addr) (m : Str → Option Value) (env : Env) (i1 : Expr) (x : Str) (scope : Scope) (cl : List (Str × Addr)) (s : Shared) (nz : List (Addr × Obj)) (ax : Addr) (k : Nat) : Prop :=
  ∀ t C oC D oD m₂ h tk (E' : Value → Shared → Prop), NsObj oC m₂ → m₂ x = some (.int (k : Int) t) → Fr h₀ L h m → News h₀ L h ((C, oC) :: (D, oD) :: nz) →
    wpAny (model prog w) A (eval i1 (compEnvC scope cl C env)) (fun v s' => v = .ref ax ∧ Nd h₀ L m { s with heap := h, toks := tk } ((C, oC) :: (D, oD) :: nz) s') E' { s with heap := h, toks := tk }
section
variable {prog : Program} {w : World} {A : Around} {E : Value → Shared → Prop} {s : Shared} {h₀ : Heap} {L : Addr} {m : Str → Option Value} {env : Env}
theorem two_inner {elt i0 i1 ct : Expr} {x y z : Str} {px py pz tp : Pos} {tc : Nat} {scope : Scope} {pos : Pos} {cl : List (Str × Addr)} {nz : List (Addr × Obj)} {P : Nat → Value → Value → Prop} {Acc : Nat → Nat → List Value → Prop} {RR : Result → Shared → Prop}
    (hh : A.handled = none) {k : Nat} {t : Tok} (hkind : scope.kind = .function) (hy : scope.names.lookup y = some .local) (hz : scope.names.lookup z = some .local) (hxy : x ≠ y) (hxz : x ≠ z) (hyz : y ≠ z)
    {J C D ax : Addr} {its : Array Value} (hsz : its.size ≤ sizeLine) (hitem : ∀ j v, its[j]? = some v → ∃ (p : Addr) (ot : Obj) (v1 v2 : Value) (nt : Nat), v = .ref p ∧ (p, ot) ∈ nz ∧ ot.cls = .type "tuple" ∧ ot.data = .seq #[v1, v2] nt ∧ P j v1 v2)
    (hJC : J ≠ C) (hJD : J ≠ D) (hCD : C ≠ D) (hJL : L ≠ J) (hJ₀ : h₀.get? J = none) (hCL : C ≠ L) (hC₀ : h₀.get? C = none) (hDL : D ≠ L) (hD₀ : h₀.get? D = none)
    (off : ∀ p ∈ nz, p.1 ≠ J ∧ p.1 ≠ C ∧ p.1 ≠ D) (hax : SrcAt h₀ ax its nz) (haJ : ax ≠ J) (hlen : ∀ j ys, Acc k j ys → ys.length ≤ sizeLine)
    (hstep : ∀ j, j < its.size → Stp prog w A h₀ L m env ct elt x y z scope cl s nz P Acc k j)
    {m' : Str → Option Value} {ys : List Value} (hst : s.heap.IsListIter J ax 0) (F : Fr h₀ L s.heap m) (hn : s.heap.Ns C m') (hmx : m' x = some (.int (k : Int) t)) (N : News h₀ L s.heap ((D, lst ys) :: nz)) (hA : Acc k 0 ys)
    (hR : ∀ h' tk m'' ys', Fr h₀ L h' m → h'.Ns C m'' → News h₀ L h' ((D, lst ys') :: nz) → Acc k its.size ys' → RR (.ok .next) { s with heap := h', toks := tk }) :
    codeAny (model prog w) A (.compLoop (lc2 elt i0 i1 ct x y z px py pz tp tc scope pos) 1 (.ref J) (.ref D) (compEnvC scope cl C env)) RR s := by
  have W := Walks.list (prog := prog) (w := w) hh J ax haJ its
  refine loop2_inner
    (fun k' s' => ∃ h' tk i ys m', s' = { s with heap := h', toks := tk } ∧ i ≤ its.size ∧ k' = its.size + 1 - i ∧ h'.IsListIter J ax i ∧ Fr h₀ L h' m ∧ h'.Ns C m' ∧ m' x = some (.int (k : Int) t) ∧ News h₀ L h' ((D, lst ys) :: nz) ∧ Acc k i ys) ?_ (its.size + 1)
    ⟨s.heap, s.toks, 0, ys, m', rfl, Nat.zero_le _, rfl, hst, F, hn, hmx, N, hA⟩
  rintro k' s' ⟨h', tk, i, ys, m', rfl, hi, rfl, hst', F', hn', hmx', N', hA'⟩
  have hl' : h'.IsList ax its := hax.list F'.keep fun p hp => N' p (List.mem_cons_of_mem _ hp)
  by_cases hlt : i < its.size
  · refine W.item i _ _ _ hlt ⟨hst', hl'⟩ fun v h₂ tk₂ hPv hst₂ hk₂ => ?_
    obtain ⟨p, ot, v₁, v₂, nt, rfl, hmt, hct, hdt, hP⟩ := hitem i v hPv
    have N₂ : News h₀ L h₂ ((D, lst ys) :: nz) := news_but N' hk₂ fun p hp => by
      rcases List.mem_cons.mp hp with rfl | hp
      · exact Ne.symm hJD
      · exact (off p hp).1
    have ht : IsTup h₂ p #[v₁, v₂] := ⟨ot, (N₂ _ (List.mem_cons_of_mem _ hmt)).1, hct, nt, hdt⟩
    refine wpAny_letOwnedTupleGo_listiter hst₂.1 ?_
    refine assign_Tuple_tuple hh ht rfl rfl fun h₅ he => ?_
    have he' : ∀ b o, h₂.get? b = some o → h₅.get? b = some o := fun b o e => he b o (Nat.ne_of_lt (Heap.lt_size e)) e
    refine assignInOrder_cons (wpAny_assign_Name (wpAny_storeName_local (lookup_relabel_local hy) ((hn'.at' fun o e => hk₂ _ o (by simpa using Ne.symm hJC) e).at' fun o e => he' _ o e) (fun h₆ hn₆ hs₆ => ?_) (by simp [compEnvC, relabel, hkind])))
    refine assignInOrder_cons (wpAny_assign_Name (wpAny_storeName_local (lookup_relabel_local hz) hn₆ (fun h₃ hn₃ hs₃ => ?_) (by simp [compEnvC, relabel, hkind])))
    refine assignInOrder_nil ?_
    have old3 : ∀ b o, b ≠ C → h₂.get? b = some o → h₃.get? b = some o := fun b o hb e => hs₃.extBut b o hb (hs₆.extBut b o hb (he' b o e))
    have hst₃ : h₃.IsListIter J ax (i + 1) := hst₂.1.at fun o e => old3 J o hJC e
    have hst₃' := hst₃
    obtain ⟨oJ, heJ, hrJ⟩ := hst₃
    obtain ⟨oC, heC, hoC⟩ := ns_obj hn₃
    have F₃ : Fr h₀ L h₃ m := (((fr_but F' hk₂ hJL hJ₀).keeps he').change hs₆ hCL hC₀).change hs₃ hCL hC₀
    have N₃ : News h₀ L h₃ ((J, oJ) :: (C, oC) :: (D, lst ys) :: nz) := fun p hp => by
      rcases List.mem_cons.mp hp with rfl | hp
      · exact ⟨heJ, Ne.symm hJL, hJ₀⟩
      · rcases List.mem_cons.mp hp with rfl | hp
        · exact ⟨heC, hCL, hC₀⟩
        · have z := N₂ p hp
          refine ⟨old3 _ _ ?_ z.1, z.2⟩
          rcases List.mem_cons.mp hp with rfl | hp
          · exact Ne.symm hCD
          · exact (off p hp).2.1
    refine wpAny_mono (hstep i hlt t v₁ v₂ J oJ C oC D ys _ h₃ _ _ hP hA' hoC (by simp [hxy, hxz, hmx']) (by simp [hyz]) (by simp) F₃ N₃) (fun ok s₄ h₄ => ?_) fun _ _ e => e
    cases ok with
    | true =>
      simp only [if_true] at h₄ ⊢
      refine wpAny_mono h₄ (fun v s₅ h₅ => ?_) fun _ _ e => e
      obtain ⟨⟨h₄, tk₄, rfl, F₄, N₄⟩, hA₄⟩ := h₅
      have zJ := (N₄ (J, oJ) List.mem_cons_self).1
      have zC := (N₄ (C, oC) (List.mem_cons_of_mem _ List.mem_cons_self)).1
      have zD := (N₄ (D, lst ys) (List.mem_cons_of_mem _ (List.mem_cons_of_mem _ List.mem_cons_self))).1
      have N₄' : News h₀ L h₄ nz := fun p hp => N₄ p (List.mem_cons_of_mem _ (List.mem_cons_of_mem _ (List.mem_cons_of_mem _ hp)))
      refine append_at (hsz := by show ys.toArray.size ≤ sizeLine; rw [List.size_toArray]; exact hlen _ _ hA') zD fun h₅ hs₅ hD₅ => ?_
      refine ⟨its.size + 1 - (i + 1), by omega, h₅, tk₄, i + 1, ys ++ [v], _, rfl, hlt, rfl, ⟨oJ, hs₅.extBut _ _ hJD zJ, hrJ⟩, F₄.change hs₅ hDL hD₀, (hoC.ns zC).sameBut hs₅ hCD, by simp [hxy, hxz, hmx'], fun p hp => ?_, hA₄⟩
      rcases List.mem_cons.mp hp with rfl | hp
      · exact ⟨hD₅.trans (congrArg some (lst_snoc ys v)), hDL, hD₀⟩
      · exact ⟨hs₅.extBut _ _ (off p hp).2.2 (N₄' p hp).1, (N₄' p hp).2⟩
    | false =>
      simp only [Bool.false_eq_true, if_false] at h₄ ⊢
      obtain ⟨⟨h₅, tk₄, rfl, F₄, N₄⟩, hA₄⟩ := h₄
      have zJ := (N₄ (J, oJ) List.mem_cons_self).1
      have zC := (N₄ (C, oC) (List.mem_cons_of_mem _ List.mem_cons_self)).1
      exact ⟨its.size + 1 - (i + 1), by omega, h₅, tk₄, i + 1, ys, _, rfl, hlt, rfl, ⟨oJ, zJ, hrJ⟩, F₄, hoC.ns zC, by simp [hxy, hxz, hmx'], fun p hp => N₄ p (List.mem_cons_of_mem _ (List.mem_cons_of_mem _ hp)), hA₄⟩
  · obtain rfl : i = its.size := Nat.le_antisymm hi (Nat.not_lt.mp hlt)
    refine W.done _ _ _ ⟨hst', hl'⟩ fun h₂ tk₂ hk₂ => ?_
    exact hR h₂ tk₂ _ ys (fr_but F' hk₂ hJL hJ₀) (hn'.at' fun o e => hk₂ _ o (by simpa using Ne.symm hJC) e) (news_but N' hk₂ fun p hp => by
      rcases List.mem_cons.mp hp with rfl | hp
      · exact Ne.symm hJD
      · exact (off p hp).1) hA'
end
end Mine
namespace Mine
open PySem PySem.W PySem.Calls PyProof.Rows PySem.Spec PyProof.Rows.LCg
section
variable {prog : Program} {w : World} {A : Around} {E : Value → Shared → Prop} {s : Shared} {h₀ : Heap} {L : Addr} {m : Str → Option Value} {env : Env}
theorem two_block {elt i0 i1 ct : Expr} {x y z : Str} {px py pz tp : Pos} {tc : Nat} {scope : Scope} {pos : Pos} {cl : List (Str × Addr)} {s₂ : Shared} {news : List (Addr × Obj)} {P : Nat → Value → Value → Prop} {Acc : Nat → Nat → List Value → Prop} {RR : Value → Addr → Result → Shared → Prop}
    {I : Addr} {n : Nat} (hh : A.handled = none) (hcell : ∀ y ∈ scope.names, y.2 ≠ .cell) (hkind : scope.kind = .function) (hx : scope.names.lookup x = some .local) (hy : scope.names.lookup y = some .local) (hz : scope.names.lookup z = some .local) (hxy : x ≠ y) (hxz : x ≠ z) (hyz : y ≠ z)
    {ax : Addr} {its : Array Value} (hsz : its.size ≤ sizeLine) (hitem : ∀ j v, its[j]? = some v → ∃ (p : Addr) (ot : Obj) (v1 v2 : Value) (nt : Nat), v = .ref p ∧ (p, ot) ∈ news ∧ ot.cls = .type "tuple" ∧ ot.data = .seq #[v1, v2] nt ∧ P j v1 v2)
    (hax : SrcAt h₀ ax its news) (hlen : ∀ i j ys, Acc i j ys → ys.length ≤ sizeLine) (hnext : ∀ i ys, i < n → Acc i its.size ys → Acc (i + 1) 0 ys)
    (hs : ∀ C v, foldedSetIterable i1 (compEnvC scope cl C env) v = pure v)
    (hitr : ∀ i oI, i < n → Itr prog w A h₀ L m env i1 x scope cl s₂ ((I, oI) :: news) ax i)
    (hstep : ∀ i j oI, i < n → j < its.size → Stp prog w A h₀ L m env ct elt x y z scope cl s₂ ((I, oI) :: news) P Acc i j)
    (hst : IsRangeIter s₂.heap I (0 + ((0 : Nat) : Int) * 1) ((n : Int) - (0 : Nat)) 1)
    (F : Fr h₀ L s₂.heap m) (N : News h₀ L s₂.heap news) (hIL : L ≠ I) (hI₀ : h₀.get? I = none) (off : ∀ p ∈ news, p.1 ≠ I) (hA : Acc 0 0 [])
    (hRR : ∀ D C h tk m' ys, Fr h₀ L h m → News h₀ L h ((D, lst ys) :: news) → Off1 D news → h.Ns C m' → h₀.get? C = none → h₀.get? D = none → C ≠ L → D ≠ L → C ≠ D → (∀ p ∈ news, p.1 ≠ C) → Acc n 0 ys → RR (.ref D) C (.ok .next) { s₂ with heap := h, toks := tk }) :
    wpAny (model prog w) A (newList []) (fun acc s₃ => wpAny (model prog w) A (newFunctionEnv scope env.globals cl [] env.qual none .none (some env)) (fun cenv s₄ =>
      codeAny (model prog w) A (.compStart (lc2 elt i0 i1 ct x y z px py pz tp tc scope pos) 0 (.ref I) acc { cenv with scope := relabel scope env }) (RR acc cenv.locals) s₄) E s₃) E s₂ := by
  have W := range_walks (prog := prog) (w := w) (I := I) hh 0 n
  refine wpAny_newObj_type (wpAny_newFunctionEnv hcell (by intro y hy; simp at hy) (fun h₁ hns₁ hsb₁ => ?_) hkind)
  dsimp only at hns₁ hsb₁ ⊢
  generalize hH2 : s₂.heap.push { cls := .type "list", dict := none, data := .seq ([] : List Value).toArray } = H2 at hns₁ hsb₁ ⊢
  have hC : H2.objs.size = s₂.heap.objs.size + 1 := by rw [← hH2, Heap.size_push]
  have hDC : s₂.heap.objs.size ≠ H2.objs.size := by rw [hC]; exact Nat.ne_of_lt (Nat.lt_succ_self _)
  have below : ∀ b, b < s₂.heap.objs.size → b ≠ H2.objs.size ∧ b ≠ s₂.heap.objs.size := fun b hb => ⟨by rw [hC]; exact Nat.ne_of_lt (Nat.lt_succ_of_lt hb), Nat.ne_of_lt hb⟩
  have hIlt : I < s₂.heap.objs.size := Heap.lt_size hst
  have old : ∀ b o, s₂.heap.get? b = some o → h₁.get? b = some o := fun b o e => hsb₁.extBut b o (below b (Heap.lt_size e)).1 (Heap.get?_push_of_some _ (hH2 ▸ Heap.get?_push_of_some _ e))
  have hacc : h₁.get? s₂.heap.objs.size = some (lst []) := hsb₁.extBut _ _ hDC (Heap.get?_push_of_some _ (hH2 ▸ Heap.get?_push_size _ rfl))
  have fresh : ∀ a, s₂.heap.objs.size ≤ a → s₂.heap.get? a = none := fun a ha => by
    cases e : s₂.heap.get? a with
    | none => rfl
    | some o' => exact absurd (Heap.lt_size e) (Nat.not_lt.mpr ha)
  have fresh₀ : ∀ a, s₂.heap.objs.size ≤ a → h₀.get? a = none := fun a ha => by
    cases e : h₀.get? a with
    | none => rfl
    | some o' => have := F.keep a o' e; rw [fresh a ha] at this; cases this
  have hD₀ : h₀.get? s₂.heap.objs.size = none := fresh₀ _ (Nat.le_refl _)
  have hC₀ : h₀.get? H2.objs.size = none := fresh₀ _ (by rw [hC]; exact Nat.le_succ _)
  have hLlt : L < s₂.heap.objs.size := F.ns.lt
  have hDL : s₂.heap.objs.size ≠ L := Ne.symm (below L hLlt).2
  have hCL : H2.objs.size ≠ L := Ne.symm (below L hLlt).1
  have hCI : I ≠ H2.objs.size := (below I hIlt).1
  have hDI : I ≠ s₂.heap.objs.size := (below I hIlt).2
  have hst₁ : IsRangeIter h₁ I (0 + ((0 : Nat) : Int) * 1) ((n : Int) - (0 : Nat)) 1 := old _ _ hst
  have off₀ : ∀ p ∈ news, p.1 ≠ I ∧ p.1 ≠ H2.objs.size ∧ p.1 ≠ s₂.heap.objs.size := fun p hp => ⟨off p hp, (below _ (Heap.lt_size (N p hp).1)).1, (below _ (Heap.lt_size (N p hp).1)).2⟩
  have loop : ∀ s₃ : Shared, s₃ = { s₂ with heap := h₁, toks := s₂.toks + ([] : List (Str × Value)).length } →
      codeAny (model prog w) A (.compLoop (lc2 elt i0 i1 ct x y z px py pz tp tc scope pos) 0 (.ref I) (.ref s₂.heap.objs.size) (compEnvC scope cl H2.objs.size env))
        (RR (.ref s₂.heap.objs.size) H2.objs.size) s₃ := by
    rintro s₃ rfl
    refine loop2_outer
      (fun k s' => ∃ h' tk i ys m', s' = { s₂ with heap := h', toks := tk } ∧ i ≤ n ∧ k = n + 1 - i ∧ IsRangeIter h' I (0 + (i : Nat) * 1) ((n : Int) - (i : Nat)) 1 ∧ Fr h₀ L h' m ∧ h'.Ns H2.objs.size m' ∧ News h₀ L h' ((s₂.heap.objs.size, lst ys) :: news) ∧ Acc i 0 ys) (hs _) ?_ (n + 1)
      ⟨h₁, _, 0, [], _, rfl, Nat.zero_le _, rfl, hst₁, F.keeps old, hns₁, fun p hp => ?_, hA⟩
    · rintro k s' ⟨h', tk, i, ys, m', rfl, hi, rfl, hst', F', hn', N', hA'⟩
      by_cases hlt : i < n
      · refine W.item i _ _ _ hlt hst' fun v h₂ tk₂ hPv hst₂ hk₂ => ?_
        obtain ⟨t, rfl⟩ := hPv
        rw [Int.zero_add]
        refine wpAny_assign_Name (wpAny_storeName_local (lookup_relabel_local hx) (hn'.at' fun o e => hk₂ _ o (by simpa using Ne.symm hCI) e) (fun h₃ hn₃ hs₃ => ?_) (by simp [compEnvC, relabel, hkind]))
        have hst₃ : IsRangeIter h₃ I (0 + ((i + 1 : Nat) : Nat) * 1) ((n : Int) - ((i + 1 : Nat) : Nat)) 1 := hs₃.extBut I _ hCI hst₂
        obtain ⟨oC, heC, hoC⟩ := ns_obj hn₃
        have F₃ : Fr h₀ L h₃ m := (fr_but F' hk₂ hIL hI₀).change hs₃ hCL hC₀
        have N₂ : News h₀ L h₂ ((s₂.heap.objs.size, lst ys) :: news) := news_but N' hk₂ fun p hp => by
          rcases List.mem_cons.mp hp with rfl | hp
          · exact Ne.symm hDI
          · exact (off₀ p hp).1
        obtain ⟨oI, hoI⟩ : ∃ oI, h₃.get? I = some oI := ⟨_, hst₃⟩
        have hoI' : ∀ h : Heap, h.get? I = some oI → IsRangeIter h I (0 + ((i + 1 : Nat) : Nat) * 1) ((n : Int) - ((i + 1 : Nat) : Nat)) 1 := fun h e => by
          have q : h₃.get? I = some _ := hst₃
          show h.get? I = some _
          rw [e, ← hoI]; exact q
        have N₃ : News h₀ L h₃ ((H2.objs.size, oC) :: (s₂.heap.objs.size, lst ys) :: (I, oI) :: news) := fun p hp => by
          rcases List.mem_cons.mp hp with rfl | hp
          · exact ⟨heC, hCL, hC₀⟩
          · rcases List.mem_cons.mp hp with rfl | hp
            · have z := N₂ _ List.mem_cons_self
              exact ⟨hs₃.extBut _ _ hDC z.1, z.2⟩
            · rcases List.mem_cons.mp hp with rfl | hp
              · exact ⟨hoI, Ne.symm hIL, hI₀⟩
              · have z := N₂ p (List.mem_cons_of_mem _ hp)
                exact ⟨hs₃.extBut _ _ (off₀ p hp).2.1 z.1, z.2⟩
        refine wpAny_mono (hitr i oI hlt t _ oC _ _ _ h₃ _ _ hoC (by simp) F₃ N₃) (fun xv s₄ h₄ => ?_) fun _ _ e => e
        obtain ⟨rfl, h₄, tk₄, rfl, F₄, N₄⟩ := h₄
        have N₄' : News h₀ L h₄ news := fun p hp => N₄ p (List.mem_cons_of_mem _ (List.mem_cons_of_mem _ (List.mem_cons_of_mem _ hp)))
        have zC := (N₄ (H2.objs.size, oC) List.mem_cons_self).1
        have zD := (N₄ (s₂.heap.objs.size, lst ys) (List.mem_cons_of_mem _ List.mem_cons_self)).1
        have zI := (N₄ (I, oI) (List.mem_cons_of_mem _ (List.mem_cons_of_mem _ List.mem_cons_self))).1
        have hl := hax.list F₄.keep N₄'
        have hal : ax < h₄.objs.size := by obtain ⟨_, e, _⟩ := hl; exact Heap.lt_size e
        refine wpAny_pyIter_list hl ?_
        have up : ∀ b o, h₄.get? b = some o → (h₄.push { cls := .type "list_iterator", data := .fields #[.ref ax, .int 0 0] }).get? b = some o := fun b o e => Heap.get?_push_of_some _ e
        have hJ₀ : h₀.get? h₄.objs.size = none := next_is_new F₄
        have hit : (h₄.push { cls := .type "list_iterator", data := .fields #[.ref ax, .int 0 0] }).IsListIter h₄.objs.size ax 0 := ⟨_, Heap.get?_push_size _ rfl, rfl, rfl⟩
        have main : codeAny (model prog w) A (.compLoop (lc2 elt i0 i1 ct x y z px py pz tp tc scope pos) 1 (.ref h₄.objs.size) (.ref s₂.heap.objs.size) (compEnvC scope cl H2.objs.size env)) (fun r s₅ => match r with
            | .ok _ => ∃ m₁, m₁ < n + 1 - i ∧ ∃ h' tk i ys m', s₅ = { s₂ with heap := h', toks := tk } ∧ i ≤ n ∧ m₁ = n + 1 - i ∧ IsRangeIter h' I (0 + (i : Nat) * 1) ((n : Int) - (i : Nat)) 1 ∧ Fr h₀ L h' m ∧ h'.Ns H2.objs.size m' ∧ News h₀ L h' ((s₂.heap.objs.size, lst ys) :: news) ∧ Acc i 0 ys
            | .error e => cameBackBy (model prog w) A (compEnvC scope cl H2.objs.size env) (notedBy (model prog w) A (compEnvC scope cl H2.objs.size env) fun e s' => RR (.ref s₂.heap.objs.size) H2.objs.size (.error e) s') e s₅)
            { s₂ with heap := h₄.push { cls := .type "list_iterator", data := .fields #[.ref ax, .int 0 0] }, toks := tk₄ } := by
          refine two_inner (nz := (I, oI) :: news) hh hkind hy hz hxy hxz hyz hsz (fun j v e => ?_) (Nat.ne_of_gt (Heap.lt_size zC)) (Nat.ne_of_gt (Heap.lt_size zD)) (Ne.symm hDC) (Nat.ne_of_lt F₄.ns.lt) hJ₀ hCL hC₀ hDL hD₀ (fun p hp => ?_) ?_ (Nat.ne_of_lt hal) (hlen i) (fun j hj => hstep i j oI hlt hj) hit (F₄.keeps up) (m' := _) (ys := ys) (t := t) ((hoC.ns zC).at' fun o e => up _ o e) (by simp) (fun p hp => ?_) hA' ?_
          · obtain ⟨p, ot, v1, v2, nt, e1, hm, r⟩ := hitem j v e
            exact ⟨p, ot, v1, v2, nt, e1, List.mem_cons_of_mem _ hm, r⟩
          · rcases List.mem_cons.mp hp with rfl | hp
            · exact ⟨Nat.ne_of_lt (Heap.lt_size zI), hCI, hDI⟩
            · exact ⟨Nat.ne_of_lt (Heap.lt_size (N₄' p hp).1), (off₀ p hp).2⟩
          · rcases hax with h | ⟨o, h, r⟩
            · exact .inl h
            · exact .inr ⟨o, List.mem_cons_of_mem _ h, r⟩
          · have z := N₄ p (List.mem_cons_of_mem _ hp)
            exact ⟨up _ _ z.1, z.2⟩
          · intro h₇ tk₇ m'' ys' F₇ hn₇ N₇ hA₇
            exact ⟨n + 1 - (i + 1), by omega, h₇, tk₇, i + 1, ys', m'', rfl, hlt, rfl, hoI' _ (N₇ (I, oI) (List.mem_cons_of_mem _ List.mem_cons_self)).1, F₇, hn₇, fun p hp => N₇ p (by
              rcases List.mem_cons.mp hp with rfl | hp
              · exact List.mem_cons_self
              · exact List.mem_cons_of_mem _ (List.mem_cons_of_mem _ hp)), hnext i ys' hlt hA₇⟩
        exact start2_inner main (wpAny_pyIter_listiter hit main)
      · obtain rfl : i = n := Nat.le_antisymm hi (Nat.not_lt.mp hlt)
        refine W.done _ _ _ hst' fun h₂ tk₂ hk₂ => ?_
        exact hRR _ _ h₂ tk₂ _ ys (fr_but F' hk₂ hIL hI₀) (news_but N' hk₂ fun p hp => by
          rcases List.mem_cons.mp hp with rfl | hp
          · exact Ne.symm hDI
          · exact (off₀ p hp).1) (Off3.of off₀).one (hn'.at' fun o e => hk₂ _ o (by simpa using Ne.symm hCI) e) hC₀ hD₀ hCL hDL (Ne.symm hDC) (fun p hp => (off₀ p hp).2.1) hA'
    · rcases List.mem_cons.mp hp with rfl | hp
      · exact ⟨hacc, hDL, hD₀⟩
      · exact ⟨old _ _ (N p hp).1, (N p hp).2⟩
  exact codeAny_compStart_list (loop _ rfl) (W.self 0 _ _ _ hst₁ (loop _ rfl))
theorem two_Assign {elt i0 i1 ct : Expr} {x y z q : Str} {px py pz tp pq : Pos} {tc : Nat} {scope : Scope} {pos spos : Pos} {cl : List (Str × Addr)} {P : Nat → Value → Value → Prop} {Acc : Nat → Nat → List Value → Prop} {Q : Flow → Shared → Prop} {n : Nat} (hLe : env.locals = L)
    (hh : A.handled = none) (hsw : swapsWith (lc2 elt i0 i1 ct x y z px py pz tp tc scope pos) (some (.Name q pq)) spos.line env = pure true)
    (hclos : closureFor scope env = pure cl) (hcell : ∀ y ∈ scope.names, y.2 ≠ .cell) (hkind : scope.kind = .function) (hnames : ∀ z ∈ scope.names, z.2 = .local → scope.names.lookup z.1 = some .local)
    (hx : scope.names.lookup x = some .local) (hy : scope.names.lookup y = some .local) (hz : scope.names.lookup z = some .local) (hxy : x ≠ y) (hxz : x ≠ z) (hyz : y ≠ z)
    (hq : env.kindOf q = some .local) (hp : (env.scope.kind == .class || (env.scope.kind == .module && env.locals != env.globals)) = false)
    {ax : Addr} {its : Array Value} (hsz : its.size ≤ sizeLine) (hlen : ∀ i j ys, Acc i j ys → ys.length ≤ sizeLine) (hnext : ∀ i ys, i < n → Acc i its.size ys → Acc (i + 1) 0 ys) (hA : Acc 0 0 [])
    (hs₀ : ∀ v, foldedSetIterable i0 env v = pure v) (hs : ∀ C v, foldedSetIterable i1 (compEnvC scope cl C env) v = pure v)
    (h : wpAny (model prog w) A (eval i0 env) (fun xv s₁ => ∃ (r : Addr) (t u v : Tok) (news : List (Addr × Obj)), xv = .ref r ∧ Fr h₀ L s₁.heap m ∧ News h₀ L s₁.heap news ∧ IsRange s₁.heap r 0 n 1 t u v ∧ Builtin.Range.small 0 n 1 = true ∧ Builtin.Range.rangeSize 0 n 1 = (n : Int) ∧
      (∀ j v, its[j]? = some v → ∃ (p : Addr) (ot : Obj) (v1 v2 : Value) (nt : Nat), v = .ref p ∧ (p, ot) ∈ news ∧ ot.cls = .type "tuple" ∧ ot.data = .seq #[v1, v2] nt ∧ P j v1 v2) ∧ SrcAt h₀ ax its news ∧
      (∀ I i oI, i < n → Itr prog w A h₀ L m env i1 x scope cl s₁ ((I, oI) :: news) ax i) ∧ (∀ I i j oI, i < n → j < its.size → Stp prog w A h₀ L m env ct elt x y z scope cl s₁ ((I, oI) :: news) P Acc i j) ∧
      ∀ D h tk ys, Fr h₀ L h (fun z => if z = q then some (.ref D) else m z) → News h₀ L h ((D, lst ys) :: news) → Off1 D news → Acc n 0 ys → Q .next { s₁ with heap := h, toks := tk }) E s) :
    wpAny (model prog w) A (exec (.Assign [.Name q pq] (lc2 elt i0 i1 ct x y z px py pz tp tc scope pos) spos) env) Q E s := by
  subst hLe
  rw [exec_Assign_Name_used _ _ _ _ hsw]
  refine wpAny_bind (wpAny_standAt (wpAny_bind ?_))
  show wpAny _ A (do let _ ← comprehension (lc2 elt i0 i1 ct x y z px py pz tp tc scope pos) scope env _ (newList []) false (eval i0 env) (some (assign (.Name q pq) env))) _ _ s
  refine wpAny_bind (wpAny_mono (wpAny_comprehension_free (use := some (assign (.Name q pq) env)) (Q := fun _ s' => Q .next s') rfl hs₀ hclos hkind hnames
    (wpAny_mono h (fun xv s₁ h₁ => ?_) fun _ _ e => e)) (fun _ s' hq => wpAny_pure (wpAny_pure hq)) fun _ _ e => e)
  obtain ⟨r, t, u, v, news, rfl, F, N, hr, hsm, hn, hitem, hax, hitr, hstep, fin⟩ := h₁
  refine wpAny_pyIter_range hr hsm ?_
  refine two_block (n := n) hh hcell hkind hx hy hz hxy hxz hyz hsz hitem hax hlen hnext hs (fun i oI hi => hitr _ i oI hi) (fun i j oI hi hj => hstep _ i j oI hi hj) (by show IsRangeIter _ _ _ _ _; rw [hn]; simpa using Heap.get?_push_size _ rfl)
    (F.keeps fun _ _ e => Heap.get?_push_of_some _ e) (N.grown fun _ _ e => Heap.get?_push_of_some _ e) (Nat.ne_of_lt F.ns.lt) (next_is_new F) (fun p hp => Nat.ne_of_lt (Heap.lt_size (N p hp).1)) hA ?_
  intro D C h' tk m' ys F' N' o1 hn hC₀ hD₀ hCL hDL hCD offC hA'
  show wpAny _ A (assign (.Name q pq) env (.ref D)) _ _ _
  refine wpAny_assign_Name (wpAny_storeName_local hq F'.ns (fun h₂ hn₂ hs₂ => ?_) hp)
  have hL₀ : h₀.get? env.locals = none := Heap.get?_none_of_le F'.above
  have F₂ : Fr h₀ env.locals h₂ (fun z => if z = q then some (.ref D) else m z) := ⟨hn₂, fun b o e => hs₂.extBut b o (fun q => by rw [q, hL₀] at e; cases e) (F'.keep b o e), F'.above⟩
  refine ⟨m', hn.sameBut hs₂ hCL, fun h'' hs'' => fin D h'' _ ys (F₂.change hs'' hCL hC₀) (fun p hp => ?_) o1 hA'⟩
  have z : h₂.get? p.1 = some p.2 := hs₂.extBut _ _ (N' p hp).2.1 (N' p hp).1
  refine ⟨hs''.extBut _ _ ?_ z, (N' p hp).2⟩
  rcases List.mem_cons.mp hp with rfl | hp
  · exact Ne.symm hCD
  · exact offC p hp
end
end Mine
namespace Mine
open PySem PySem.W PySem.Calls PyProof.Rows PySem.Spec
noncomputable def accL (rows : List (Nat × Nat)) (k j : Nat) : List Str := ((List.range k).flatMap fun k => List.replicate (cnt rows (unlike k)) (nameK k)) ++ List.replicate (cnt (rows.take j) (unlike k)) (nameK k)
/-- the names laid down so far -/
noncomputable def AccR (rows : List (Nat × Nat)) (k j : Nat) (ys : List Value) : Prop := k ≤ 8 ∧ ∃ l : List (Str × Tok), ys = strValues l ∧ l.map (·.1) = accL rows k j
theorem acc_zero (rows : List (Nat × Nat)) : AccR rows 0 0 [] := ⟨by decide, [], rfl, by simp [accL, cnt]⟩
theorem cnt_le (rows : List (Nat × Nat)) (m : Nat) : cnt rows m ≤ rows.length := List.length_filter_le _ _
theorem acc_flat {rows : List (Nat × Nat)} (hl : rows.length ≤ 20) : ∀ k, ((List.range k).flatMap fun k => List.replicate (cnt rows (unlike k)) (nameK k)).length ≤ 20 * k
  | 0 => Nat.le_refl _
  | k + 1 => by
    rw [List.range_succ, List.flatMap_append, List.length_append]
    have h1 := acc_flat hl k
    have h2 := cnt_le rows (unlike k)
    have h3 : (List.flatMap (fun k => List.replicate (cnt rows (unlike k)) (nameK k)) [k]).length = cnt rows (unlike k) := by simp
    rw [h3]
    lia
theorem acc_len {rows : List (Nat × Nat)} (hl : rows.length ≤ 20) {k j : Nat} {ys : List Value} (h : AccR rows k j ys) : ys.length ≤ 180 := by
  obtain ⟨hk, l, rfl, e⟩ := h
  have e2 : (strValues l).length = (accL rows k j).length := by rw [← e, List.length_map]; exact List.length_map _
  rw [e2]
  unfold accL
  rw [List.length_append, List.length_replicate]
  have h1 := acc_flat hl k
  have h2 := cnt_le (rows.take j) (unlike k)
  have h3 : (rows.take j).length ≤ rows.length := by rw [List.length_take]; exact Nat.min_le_right _ _
  lia
theorem acc_take {rows : List (Nat × Nat)} {j m : Nat} {p : Nat × Nat} (hp : rows[j]? = some p) : cnt (rows.take (j + 1)) m = cnt (rows.take j) m + if p.1 = m then 1 else 0 := by
  rw [List.take_add_one, hp, cnt_app, ← cnt_one]; rfl
theorem acc_yes {rows : List (Nat × Nat)} {k j : Nat} {p : Nat × Nat} {ys : List Value} {t : Tok} (h : AccR rows k j ys) (hp : rows[j]? = some p) (he : p.1 = unlike k) : AccR rows k (j + 1) (ys ++ [.str (nameK k) t]) := by
  obtain ⟨hk, l, rfl, e⟩ := h
  refine ⟨hk, l ++ [(nameK k, t)], by simp [strValues], ?_⟩
  rw [List.map_append, e]
  unfold accL
  rw [acc_take hp, if_pos he, List.replicate_succ', List.append_assoc]; rfl
theorem acc_no {rows : List (Nat × Nat)} {k j : Nat} {p : Nat × Nat} {ys : List Value} (h : AccR rows k j ys) (hp : rows[j]? = some p) (he : p.1 ≠ unlike k) : AccR rows k (j + 1) ys := by
  obtain ⟨hk, l, rfl, e⟩ := h
  refine ⟨hk, l, rfl, ?_⟩
  rw [e]
  unfold accL
  rw [acc_take hp, if_neg he]; rfl
theorem acc_next {rows : List (Nat × Nat)} {k : Nat} {ys : List Value} (hk : k < 8) (h : AccR rows k rows.length ys) : AccR rows (k + 1) 0 ys := by
  obtain ⟨_, l, rfl, e⟩ := h
  refine ⟨hk, l, rfl, ?_⟩
  rw [e]
  unfold accL
  rw [List.range_succ, List.flatMap_append, List.take_length]
  simp [cnt]
theorem acc_end {rows : List (Nat × Nat)} {ys : List Value} (h : AccR rows 8 0 ys) : ∃ l : List (Str × Tok), ys = strValues l ∧ l.map (·.1) = dueOf rows := by
  obtain ⟨_, l, rfl, e⟩ := h
  refine ⟨l, rfl, ?_⟩
  rw [e]
  unfold accL dueOf
  simp [cnt]
end Mine
namespace Mine
open PySem PySem.W PySem.Calls PyProof.Rows PySem.Spec
theorem sk_canLay : ∀ xs : List Str, xs.all PyData.strOk = true → PyData.canLayAll0 (xs.map PyData.str) = true
  | [], _ => rfl
  | x :: r, h => by
    rw [List.all_cons, Bool.and_eq_true] at h
    simp [PyData.canLayAll0, PyData.canLay0, sk_canLay r h.2, h.1]
theorem sk_depth : ∀ xs : List Str, PyData.depthAll (xs.map PyData.str) = 0
  | [] => rfl
  | _ :: r => by simp [PyData.depthAll, PyData.depth, sk_depth r]
theorem sk_shaped (xs : List Str) (h : xs.all PyData.strOk = true) : SeqAt.shaped (.list (xs.map PyData.str)) = true := by
  simp [SeqAt.shaped, PyData.canLay0, PyData.depth, sk_canLay xs h, sk_depth]
theorem sk_sameAll : ∀ xs ys : List Str, PySem.Spec.sameAll (xs.map PyData.str) (ys.map PyData.str) = decide (xs = ys)
  | [], [] => by simp [PySem.Spec.sameAll]
  | [], _ :: _ => by simp [PySem.Spec.sameAll]
  | _ :: _, [] => by simp [PySem.Spec.sameAll]
  | a :: r, b :: t => by
    simp only [List.map_cons, PySem.Spec.sameAll, PySem.Spec.same, sk_sameAll r t]
    by_cases h : a = b <;> by_cases h' : r = t <;> simp [h, h']
theorem sk_same (xs ys : List Str) : PySem.Spec.same (.list (xs.map PyData.str)) (.list (ys.map PyData.str)) = decide (xs = ys) := by
  simp only [PySem.Spec.same]; exact sk_sameAll xs ys
theorem sk_carried : ∀ l : List (Str × Tok), CarriedAll (strValues l) ((l.map (·.1)).map PyData.str)
  | [] => .nil
  | p :: r => .cons (.str _ _) (sk_carried r)
section
variable {prog : Program} {w : World} {A : Around} {E : Value → Shared → Prop} {s : Shared} {a b : Addr} {l k : List (Str × Tok)} {Q : Value → Shared → Prop}
theorem ne_strs (ha : s.heap.IsList a (strValues l).toArray) (hb : s.heap.IsList b (strValues k).toArray) (hl : (l.map (·.1)).all PyData.strOk = true) (hk : (k.map (·.1)).all PyData.strOk = true) (hu : A.units + 64 < cLine) (h : Q (.bool (!decide (l.map (·.1) = k.map (·.1)))) s) :
    wpAny (model prog w) A (compareOp .NotEq (.ref a) (.ref b)) Q E s :=
  ne_dataH_same (reads_newData ha (sk_carried l)) (reads_newData hb (sk_carried k)) (sk_shaped _ hl) (sk_shaped _ hk) hu (SeqAt.noMix_of_shape (.list .str) rfl _ _ (list_map_has fun _ => rfl) (list_map_has fun _ => rfl)) (by rw [sk_same]; exact h)
end
end Mine
namespace Mine
open PySem PySem.W PySem.Calls PyProof.Rows PyProof.V PySem.Spec PyProof.Rows.LCg PyProof.Rows.LCt
theorem nameK_ok : ∀ k : Fin 8, PyData.strOk (nameK k.val) = true := by decide +kernel
theorem dueN_ok (n : Nat) : (dueN n).all PyData.strOk = true := by
  rw [List.all_eq_true]
  intro x hx
  unfold dueN at hx
  rw [List.mem_flatMap] at hx
  obtain ⟨k, hk, hx⟩ := hx
  rw [List.eq_of_mem_replicate hx]
  exact nameK_ok ⟨k, List.mem_range.mp hk⟩
theorem wordsN_ok (n : Nat) : (wordsN n).all PyData.strOk = true := by
  unfold wordsN
  split
  · decide +kernel
  · exact dueN_ok n
noncomputable def unlI : List Int := (List.range 8).map fun k : Nat => ((unlike k : Nat) : Int)
theorem unlI_at : ∀ k : Fin 8, unlI.getD k.val 0 = ((unlike k.val : Nat) : Int) := by decide
theorem unlI_len : unlI.length = 8 := rfl
section
variable {prog : Program} {w : World} {A : Around} {E : Value → Shared → Prop} {s : Shared} {t u : Tok} {Q : Value → Shared → Prop} {h₀ : Heap} {L : Addr} {m : Str → Option Value} {news : List (Addr × Obj)}
theorem item_unl {P : Addr} {vs : List Value} {n k : Nat} {value slice : PySem.Expr} (N : News h₀ L s.heap news) (hm : (P, listOf vs.toArray n) ∈ news) (hI : IntsAre vs unlI) (hk : k < 8)
    (hs : subscripted slice false (.ref P) (.int (k : Int) u) = operate [.ref P, .int (k : Int) u] (getItem (.ref P) (.int (k : Int) u)))
    (h : ∀ tv, Q (.int ((unlike k : Nat) : Int) tv) s) :
    wpAny (model prog w) A (subscriptTail value slice (.ref P) (.int (k : Int) u)) Q E s :=
  item_part N hm hI (by decide) hk (unlI_at ⟨k, hk⟩) hs h
theorem item_name8 {P : Addr} {nl : List (Str × Tok)} {n k : Nat} {value slice : PySem.Expr} (N : News h₀ L s.heap news) (hm : (P, listOf (strValues nl).toArray n) ∈ news) (hn : nl.map (·.1) = (List.range 8).map nameK) (hk : k < 8)
    (hs : subscripted slice false (.ref P) (.int (k : Int) u) = operate [.ref P, .int (k : Int) u] (getItem (.ref P) (.int (k : Int) u)))
    (h : ∀ tv, Q (.str (nameK k) tv) s) :
    wpAny (model prog w) A (subscriptTail value slice (.ref P) (.int (k : Int) u)) Q E s := by
  have hl := N.isList hm
  have h8 : nl.length = 8 := by
    have := congrArg List.length hn
    rwa [List.length_map, List.length_map, List.length_range] at this
  have hkl : k < nl.length := by rw [h8]; exact hk
  have e : (nl.map (·.1))[k]? = some (nameK k) := by rw [hn, List.getElem?_map, List.getElem?_range hk]; rfl
  rw [List.getElem?_map, List.getElem?_eq_getElem hkl] at e
  have e1 : nl[k].1 = nameK k := Option.some.inj e
  refine tail_any hl.typeIs slot_list_getitem.lookup (wpAny_getItem_list hl (by lia) (by lia) (x := .str (nameK k) nl[k].2) ?_ (h _)) hs
  rw [Int.toNat_natCast, List.getElem?_toArray]
  unfold strValues
  rw [List.getElem?_map, List.getElem?_eq_getElem hkl, ← e1]; rfl
theorem eq_hit {a b : Nat} (e : a = b) (h : Q (.bool true) s) : wpAny (model prog w) A (compareOp .Eq (.int (a : Int) t) (.int (b : Int) u)) Q E s := by
  subst e
  exact PyProof.Rows.eq_int (by simpa using h)
theorem eq_miss {a b : Nat} (e : a ≠ b) (h : Q (.bool false) s) : wpAny (model prog w) A (compareOp .Eq (.int (a : Int) t) (.int (b : Int) u)) Q E s := by
  refine PyProof.Rows.eq_int ?_
  rw [show ((a : Int) == (b : Int)) = false from beq_eq_false_iff_ne.mpr fun q => e (by lia)]
  exact h
variable {a b : Addr} {dl fl : List (Str × Tok)} {na nb n : Nat}
theorem ne_due_nil (N : News h₀ L s.heap news) (ha : (a, listOf (strValues dl).toArray na) ∈ news) (hb : (b, listOf #[] nb) ∈ news) (hl : dl.map (·.1) = dueN n) (hz : dueN n = []) (hu : A.units + 64 < cLine) (h : Q (.bool false) s) :
    wpAny (model prog w) A (compareOp .NotEq (.ref a) (.ref b)) Q E s := by
  refine ne_strs (l := dl) (k := []) (N.isList ha) (N.isList hb) ?_ rfl hu ?_
  · rw [hl]; exact dueN_ok n
  · rw [hl, hz]; exact h
theorem ne_due_some (N : News h₀ L s.heap news) (ha : (a, listOf (strValues dl).toArray na) ∈ news) (hb : (b, listOf #[] nb) ∈ news) (hl : dl.map (·.1) = dueN n) (hz : ¬ dueN n = []) (hu : A.units + 64 < cLine) (h : Q (.bool true) s) :
    wpAny (model prog w) A (compareOp .NotEq (.ref a) (.ref b)) Q E s := by
  refine ne_strs (l := dl) (k := []) (N.isList ha) (N.isList hb) ?_ rfl hu ?_
  · rw [hl]; exact dueN_ok n
  · rw [hl, List.map_nil, decide_eq_false hz]; exact h
theorem ne_fl_due (N : News h₀ L s.heap news) (ha : (a, listOf (strValues fl).toArray na) ∈ news) (hb : (b, listOf (strValues dl).toArray nb) ∈ news) (hf : fl.map (·.1) = wordsN n) (hl : dl.map (·.1) = dueN n) (hz : ¬ dueN n = []) (hu : A.units + 64 < cLine) (h : Q (.bool false) s) :
    wpAny (model prog w) A (compareOp .NotEq (.ref a) (.ref b)) Q E s := by
  refine ne_strs (l := fl) (k := dl) (N.isList ha) (N.isList hb) ?_ ?_ hu ?_
  · rw [hf]; exact wordsN_ok n
  · rw [hl]; exact dueN_ok n
  · rw [hf, hl, show wordsN n = dueN n from if_neg hz]
    simpa using h
theorem ne_fl_zero {t : Tok} (N : News h₀ L s.heap news) (ha : (a, listOf (strValues fl).toArray na) ∈ news) (hb : (b, listOf #[.str (Str.ofString "0x0") t] nb) ∈ news) (hf : fl.map (·.1) = wordsN n) (hz : dueN n = []) (hu : A.units + 64 < cLine) (h : Q (.bool false) s) :
    wpAny (model prog w) A (compareOp .NotEq (.ref a) (.ref b)) Q E s := by
  have hw : wordsN n = [Str.ofString "0x0"] := if_pos hz
  refine ne_strs (l := fl) (k := [(Str.ofString "0x0", t)]) (N.isList ha) (N.isList hb) ?_ ?_ hu ?_
  · rw [hf]; exact wordsN_ok n
  · show ([Str.ofString "0x0"] : List Str).all PyData.strOk = true
    decide +kernel
  · rw [hf, hw]
    simpa using h
end
theorem stop_due {M : Model} {A : Around} {E : Value → Shared → Prop} {s : Shared} {Q : Flow → Shared → Prop} {t elt g₁ g₂ sc p v env} (h : Hold (wpAny M A (exec (.Assign t (.ListComp elt [g₁, g₂] sc p) v) env) Q E s)) : wpAny M A (exec (.Assign t (.ListComp elt [g₁, g₂] sc p) v) env) Q E s := h.1
theorem at_ne {M : Model} {A : Around} {E Q : Value → Shared → Prop} {s : Shared} {a b : Addr} (h : wpAny M A (compareOp .NotEq (.ref a) (.ref b)) Q E s) : wpAny M A (compareOp .NotEq (.ref a) (.ref b)) Q E s := h
end Mine
namespace Mine
open PySem PySem.W PySem.Calls PyProof.Rows PyProof.V PySem.Spec PyProof.Rows.LCg PyProof.Rows.LCt
section
variable {prog : Program} {w : World} {A : Around} {E : Value → Shared → Prop} {s : Shared} {t u : Tok} {Q : Value → Shared → Prop}
theorem unl_fdiv {k : Nat} (h : Q (.int ((k / 3 : Nat) : Int) s.toks) { s with toks := s.toks + 1 }) : wpAny (model prog w) A (binaryOp .FloorDiv (.int (k : Int) t) (.int 3 u)) Q E s := by
  refine floordiv_int (by decide) ?_ (Or.inl (PyProof.noPylong_small (by decide)))
  rw [Int.fdiv_eq_ediv_of_nonneg _ (by decide)]; exact h
theorem unl_mod {k : Nat} (h : Q (.int ((k % 3 : Nat) : Int) s.toks) { s with toks := s.toks + 1 }) : wpAny (model prog w) A (binaryOp .Mod (.int (k : Int) t) (.int 3 u)) Q E s := by
  refine PyProof.Rows.mod_int (by decide) ?_
  rw [Int.fmod_eq_emod_of_nonneg _ (by decide)]; exact h
theorem unl_one {k : Nat} (h : Q (.int ((k + 1 : Nat) : Int) s.toks) { s with toks := s.toks + 1 }) : wpAny (model prog w) A (binaryOp .Add (.int (k : Int) t) (.int 1 u)) Q E s :=
  PyProof.Rows.add_int h
theorem unl_pow {k : Nat} (hk : k ≤ 100) (h : Q (.int ((2 ^ k : Nat) : Int) s.toks) { s with toks := s.toks + 1 }) : wpAny (model prog w) A (binaryOp .Pow (.int 2 t) (.int (k : Int) u)) Q E s := by
  refine pow_int_small (by lia) (by lia) (by decide) ?_
  rw [Int.toNat_natCast, show (2 : Int) ^ k = ((2 ^ k : Nat) : Int) from (Int.natCast_pow 2 k).symm]; exact h
theorem unl_bits : ∀ k : Fin 8, Builtin.Int.intBits ((2 * (k.val / 3) + 1 : Nat) : Int) ≤ 64 := by decide
theorem unl_mul {k : Nat} (hk : k < 8) (h : Q (.int ((unlike k : Nat) : Int) s.toks) { s with toks := s.toks + 1 }) : wpAny (model prog w) A (binaryOp .Mult (.int ((2 * (k / 3) + 1 : Nat) : Int) t) (.int ((2 ^ (k % 3) : Nat) : Int) u)) Q E s := by
  refine PyProof.Rows.mul_int ?_ (IntMulOk.of_left (unl_bits ⟨k, hk⟩))
  rw [← Int.natCast_mul]; exact h
theorem unl_take : ∀ i : Fin 8, unlI.take (i.val + 1) = unlI.take i.val ++ [((unlike i.val : Nat) : Int)] := by decide
variable {h₀ : Heap} {L : Addr} {m : Str → Option Value} {env : Env}
/-- the unlike lengths, one after another -/
theorem rest_unl {elt : PySem.Expr} {x : Str} {scope : Scope} {cl : List (Str × Addr)} {Fin : List Value → List (Addr × Obj) → Prop} {news : List (Addr × Obj)}
    (turn : ∀ (i : Nat) (ti : Tok) I oI C oC D m₂ ys h tk (E' : Value → Shared → Prop), i < 8 → NsObj oC m₂ → m₂ x = some (.int (i : Int) ti) → Fr h₀ L h m → News h₀ L h ((I, oI) :: (C, oC) :: (D, lst ys) :: news) →
      wpAny (model prog w) A (eval elt (compEnvC scope cl C env)) (fun v s' => (∃ tv, v = .int ((unlike i : Nat) : Int) tv) ∧ Nd h₀ L m { s with heap := h, toks := tk } ((I, oI) :: (C, oC) :: (D, lst ys) :: news) s') E' { s with heap := h, toks := tk })
    (fin : ∀ vs, IntsAre vs unlI → Fin vs news) : CompRest prog w A h₀ L m env elt x scope cl s (fun _ => True) (fun i v => ∃ t, v = .int (0 + (i : Int)) t) Fin 8 0 [] news := by
  have key : ∀ (k i : Nat) (l : List Value), k + i = 8 → IntsAre l (unlI.take i) → CompRest prog w A h₀ L m env elt x scope cl s (fun _ => True) (fun i v => ∃ t, v = .int (0 + (i : Int)) t) Fin k i l news := by
    intro k
    induction k with
    | zero =>
      intro i l hk hl
      obtain rfl : i = 8 := by lia
      exact CompRest.zero (fin l hl)
    | succ k ih =>
      intro i l hk hl
      refine CompRest.succ fun v I oI C oC D m₂ h tk E' hP hC hx F N off ne => ?_
      have hi : i < 8 := by lia
      obtain ⟨ti, rfl⟩ := hP
      rw [Int.zero_add] at hx
      refine wpAny_mono (turn i ti I oI C oC D m₂ l h tk E' hi hC hx F N) (fun y s' h' => ?_) fun _ _ e => e
      obtain ⟨⟨tv, rfl⟩, h₂, tk₂, rfl, F₂, N₂⟩ := h'
      refine ⟨h₂, tk₂, news, rfl, F₂, N₂, off, trivial, ?_⟩
      refine ih (i + 1) _ (by lia) ?_
      rw [unl_take ⟨i, hi⟩]
      exact hl.append (.cons _ tv .nil)
  exact key 8 0 [] rfl .nil
end
theorem stop_comp {M : Model} {A : Around} {E : Value → Shared → Prop} {s : Shared} {Q : Value → Shared → Prop} {elt gs sc p env} (h : Hold (wpAny M A (eval (.ListComp elt gs sc p) env) Q E s)) : wpAny M A (eval (.ListComp elt gs sc p) env) Q E s := h.1
theorem stop_asg {M : Model} {A : Around} {E : Value → Shared → Prop} {s : Shared} {Q : Flow → Shared → Prop} {p v q r env} (h : Hold (wpAny M A (execs (.Assign [.Name (Str.ofString "due") p] v q :: r) env) Q E s)) : wpAny M A (execs (.Assign [.Name (Str.ofString "due") p] v q :: r) env) Q E s := h.1
theorem stop_if {M : Model} {A : Around} {E : Value → Shared → Prop} {s : Shared} {Q : Flow → Shared → Prop} {c b o p r env} (h : Hold (wpAny M A (execs (.If c b o p :: r) env) Q E s)) : wpAny M A (execs (.If c b o p :: r) env) Q E s := h.1
theorem stop_ret {M : Model} {A : Around} {E : Value → Shared → Prop} {s : Shared} {Q : Flow → Shared → Prop} {v p r env} (h : Hold (wpAny M A (execs (.Return v p :: r) env) Q E s)) : wpAny M A (execs (.Return v p :: r) env) Q E s := h.1
/-- the unlike lengths are written -/
noncomputable def Seg18 (w : World) (loose : List Str) (mean : ExcName → Option Value) (mg mb : Str → Option Value) (h₀ : Heap) (L' fa l : Addr) (cdv : Value) (s0 : Shared) (Q : Flow → Shared → Prop) (E : Value → Shared → Prop) : Prop :=
  ∀ (s : Shared) (m : Str → Option Value) (n : Nat) (g : Fin 3) (ns : List Int) (ws : List Value) (U : Addr) (uc : Nat) (tl : List (Addr × Obj)) (rows : List (Nat × Nat)) (its : List Value) (R : Addr) (rn : Nat) (v2 : Option Value) (NM FL UL : Addr) (nk fk un : Nat) (fl nl : List (Str × Tok)) (uvs : List Value) (ml : List Nat) (tm : Tok) (o1 o2 o3 o4 : Obj), Bs L' m n g ns ws U uc tl → (R, listOf its.toArray rn) ∈ tl → RowsAre tl its rows → rows.length ≤ 17 → (∀ p ∈ rows, p.1 ≤ 20) → (∀ p ∈ rows, p.2 = 10 ∨ p.2 = 13) → dueOf rows = dueN n → (NM, listOf (strValues nl).toArray nk) ∈ tl → nl.map (·.1) = (List.range 8).map nameK → (UL, listOf uvs.toArray un) ∈ tl → IntsAre uvs unlI → m "flags" = some (.ref FL) → (FL, listOf (strValues fl).toArray fk) ∈ tl → fl.map (·.1) = wordsN n → m "mail" = some (.str (T ml) tm) → ml = plain (pairOf g.val).1 rows → Later s0 s → Fr h₀ L' s.heap m → News h₀ L' s.heap ([(L' + 1 + 1 + 1 + 1, o4), (L' + 1 + 1 + 1, o3), (L' + 1 + 1, o2), (L' + 1, o1)] ++ tl) →
    o1.data = .cell (some (.ref R)) → o2.data = .cell v2 → o3.data = .cell (some (.ref NM)) → o4.data = .cell (some (.ref UL)) → wpAny (model rwp w) (callerA.deeper (envOfC "law" (fnp 25).2.2 L' fa cdv)) (execs (lawBody.drop 18) (envOfC "law" (fnp 25).2.2 L' fa cdv)) Q E s
/-- the names due are written -/
noncomputable def Seg19 (w : World) (loose : List Str) (mean : ExcName → Option Value) (mg mb : Str → Option Value) (h₀ : Heap) (L' fa l : Addr) (cdv : Value) (s0 : Shared) (Q : Flow → Shared → Prop) (E : Value → Shared → Prop) : Prop :=
  ∀ (s : Shared) (m : Str → Option Value) (n : Nat) (g : Fin 3) (ns : List Int) (ws : List Value) (U : Addr) (uc : Nat) (tl : List (Addr × Obj)) (rows : List (Nat × Nat)) (its : List Value) (R : Addr) (rn : Nat) (v2 v3 v4 : Option Value) (DU FL : Addr) (dk fk : Nat) (fl dl : List (Str × Tok)) (ml : List Nat) (tm : Tok) (o1 o2 o3 o4 : Obj), Bs L' m n g ns ws U uc tl → (R, listOf its.toArray rn) ∈ tl → RowsAre tl its rows → rows.length ≤ 17 → (∀ p ∈ rows, p.1 ≤ 20) → (∀ p ∈ rows, p.2 = 10 ∨ p.2 = 13) → m "due" = some (.ref DU) → (DU, listOf (strValues dl).toArray dk) ∈ tl → dl.map (·.1) = dueN n → m "flags" = some (.ref FL) → (FL, listOf (strValues fl).toArray fk) ∈ tl → fl.map (·.1) = wordsN n → m "mail" = some (.str (T ml) tm) → ml = plain (pairOf g.val).1 rows → Later s0 s → Fr h₀ L' s.heap m → News h₀ L' s.heap ([(L' + 1 + 1 + 1 + 1, o4), (L' + 1 + 1 + 1, o3), (L' + 1 + 1, o2), (L' + 1, o1)] ++ tl) →
    o1.data = .cell (some (.ref R)) → o2.data = .cell v2 → o3.data = .cell v3 → o4.data = .cell v4 → wpAny (model rwp w) (callerA.deeper (envOfC "law" (fnp 25).2.2 L' fa cdv)) (execs (lawBody.drop 19) (envOfC "law" (fnp 25).2.2 L' fa cdv)) Q E s
end Mine
namespace Mine
open PySem PySem.W PySem.Calls PyProof.Rows PyProof.V PySem.Spec PyProof.Rows.LCg PyProof.Rows.LCt
local macro_rules | `(tactic| walk_at "eval ListComp") => `(tactic| (with_reducible apply stop_comp))
local macro_rules | `(tactic| walk_at "CompSrc") => `(tactic| apply Hold.h)
local macro_rules | `(tactic| walk_at "execs cons") => `(tactic| (with_reducible apply stop_asg))
local macro_rules | `(tactic| walk_at "execs cons Assign cons") => `(tactic| (with_reducible apply stop_asg))
local macro_rules | `(tactic| walk_at "binaryOp FloorDiv int int") => `(tactic| with_reducible apply unl_fdiv)
local macro_rules | `(tactic| walk_at "binaryOp Mod int int") => `(tactic| with_reducible apply unl_mod)
local macro_rules | `(tactic| walk_at "binaryOp Mult int int") => `(tactic| with_reducible apply unl_mul; assumption)
local macro_rules | `(tactic| walk_at "binaryOp Add int int") => `(tactic| with_reducible apply unl_one)
local macro_rules | `(tactic| walk_at "binaryOp Pow int int") => `(tactic| with_reducible apply unl_pow; assumption)
set_option maxHeartbeats 800000 in
theorem seg17 (w : World) (loose : List Str) (mean : ExcName → Option Value) (mg mb : Str → Option Value) (h₀ : Heap) (L' fa l : Addr) (cdv : Value) (s0 : Shared) (Q : Flow → Shared → Prop) (E : Value → Shared → Prop)
    (X : (K w.params).In h₀) (TT : Top qv loose mean mg mb h₀) (B : Below callerA h₀ [] h₀) (h18 : Seg18 w loose mean mg mb h₀ L' fa l cdv s0 Q E) : Seg17 w loose mean mg mb h₀ L' fa l cdv s0 Q E := by
  unfold Seg17 rwp
  revert X
  k_fill
  intro X s m n g ns ws U uc tl rows its R rn v2 NM FL nk fk fl nl rows0 ml tm o1 o2 o3 o4 hB hR hr hBu hrw hNM hnl hfl hFL hfw hml hpl hL F N d1 d2 d3 d4
  have hO := hB.off
  obtain ⟨hh, gs, dd, tk, os⟩ := s
  dsimp only at F N
  show wpAny _ _ (execs (_ :: _) _) _ _ _
  obtain ⟨m₀, rfl⟩ := asM hml
  have hB' := hB.set (m' := m₀) rfl rfl rfl rfl (fun p hp => hp) hO
  obtain ⟨m₁, rfl⟩ := asM (show m₀ "flags" = some (.ref FL) from hfl)
  have hB'' := hB'.set (m' := m₁) rfl rfl rfl rfl (fun p hp => hp) hO
  obtain ⟨m₂, t, tc, td, rfl⟩ := hB''.frame
  simp only [List.cons_append, List.nil_append] at N
  k_steps
  refine ⟨?_⟩
  k_dflt (refine ListComp_U (F₀ := by k_asm) (by with_unfolding_all rfl) (by decide) (by rfl) (by decide) (by rfl) ?_)
  k_steps
  refine ⟨?_⟩
  rename Fr _ _ _ _ => F₁
  rename News _ _ _ _ => N₁
  rename IsRange _ _ _ _ _ _ _ _ => RR
  k_dflt (refine CompSrc.range (by rfl) F₁ N₁ RR (by decide) (n := 8) (by rfl) (by decide) ?_)
  intro g9
  refine rest_unl ?turn ?fin
  case turn =>
    intro i ti I oI C oC D m₂ ys h tk E' hi hC hx F₂ N₂
    clear F₁ N₁ RR
    have hi1 : i / 3 ≤ 20 := by lia
    have hi2 : i % 3 ≤ 100 := by lia
    k_steps
    exact Nd.intro F₂ N₂
  case fin =>
    intro vs hI D h6 tk6 F₂ N₂ off
    clear F₁ N₁ RR
    k_steps
    rename Fr _ _ _ _ => F₃
    rename News _ _ _ _ => N₃
    rename Obj.data _ = .cell (some (.ref D)) => d5
    refine ⟨?_⟩
    have hOD : OwnOff ((D, lst vs) :: tl) [L' + 1 + 1 + 1 + 1, L' + 1 + 1 + 1, L' + 1 + 1, L' + 1] := fun p hp b hb => by
      rcases List.mem_cons.mp hp with rfl | hp
      · simp only [List.mem_cons, List.not_mem_nil, or_false] at hb
        rcases hb with rfl | rfl | rfl | rfl
        · exact Ne.symm off.1
        · exact Ne.symm off.2.1
        · exact Ne.symm off.2.2.1
        · exact Ne.symm off.2.2.2.1
      · exact hO p hp b hb
    have sub : ∀ p ∈ tl, p ∈ (D, lst vs) :: tl := fun p hp => List.mem_cons_of_mem _ hp
    obtain ⟨ta, tb, tc'⟩ := turns_ok (ns := ns) hBu.five' hBu.ends 2
    rw [turns_two, ← hrw] at ta tb tc'
    exact h18 _ _ n g ns ws U uc ((D, lst vs) :: tl) rows its R rn v2 NM FL D nk fk vs.length fl nl vs ml tm o1 o2 o3 _ (hB''.set rfl rfl rfl rfl sub hOD) (sub _ hR) (hr.more sub) (Nat.le_trans ta (hBu.few hB.hn)) tb tc' (by rw [hrw]; exact due_two ns hBu rfl rfl rfl hB.hn) (sub _ hNM) hnl List.mem_cons_self hI (by rfl) (sub _ hFL) hfw (by rfl) hpl ⟨hL.1, hL.2⟩ F₃ (cells_in N₃) d1 d2 d3 d5
end Mine
namespace Mine
open PySem PySem.W PySem.Calls PyProof.Rows PyProof.V PySem.Spec PyProof.Rows.LCg PyProof.Rows.LCt
local macro_rules | `(tactic| walk_at "exec Assign cons ListComp") => `(tactic| (with_reducible apply stop_due))
local macro_rules | `(tactic| walk_at "Exists") => `(tactic| apply Hold.h)
local macro_rules | `(tactic| walk_at "execs cons") => `(tactic| (with_reducible apply stop_if))
local macro_rules | `(tactic| walk_at "execs cons If cons") => `(tactic| (with_reducible apply stop_if))
local macro_rules | `(tactic| walk_at "subscriptTail Name Name ref int") => `(tactic| with_reducible apply item_unl; k_asm; k_dflt k_mem; assumption; assumption; with_unfolding_all rfl; intro _)
local macro_rules | `(tactic| walk_at "subscriptTail Name Name ref int") => `(tactic| with_reducible apply item_name8; k_asm; k_dflt k_mem; assumption; assumption; with_unfolding_all rfl; intro _)
local macro_rules | `(tactic| walk_at "compareOp Eq int int") => `(tactic| with_reducible apply eq_hit; assumption)
local macro_rules | `(tactic| walk_at "compareOp Eq int int") => `(tactic| with_reducible apply eq_miss; assumption)
set_option maxHeartbeats 800000 in
theorem seg18 (w : World) (loose : List Str) (mean : ExcName → Option Value) (mg mb : Str → Option Value) (h₀ : Heap) (L' fa l : Addr) (cdv : Value) (s0 : Shared) (Q : Flow → Shared → Prop) (E : Value → Shared → Prop)
    (X : (K w.params).In h₀) (TT : Top qv loose mean mg mb h₀) (B : Below callerA h₀ [] h₀) (h19 : Seg19 w loose mean mg mb h₀ L' fa l cdv s0 Q E) : Seg18 w loose mean mg mb h₀ L' fa l cdv s0 Q E := by
  unfold Seg18 rwp
  revert X
  k_fill
  intro X s m n g ns ws U uc tl rows its R rn v2 NM FL UL nk fk un fl nl uvs ml tm o1 o2 o3 o4 hB hR hr hl17 hs20 hends hdue hNM hnl hUL hI hfl hFL hfw hml hpl hL F N d1 d2 d3 d4
  have hO := hB.off
  obtain ⟨hh, gs, dd, tk, os⟩ := s
  dsimp only at F N
  show wpAny _ _ (execs (_ :: _) _) _ _ _
  obtain ⟨m₀, rfl⟩ := asM hml
  have hB' := hB.set (m' := m₀) rfl rfl rfl rfl (fun p hp => hp) hO
  obtain ⟨m₁, rfl⟩ := asM (show m₀ "flags" = some (.ref FL) from hfl)
  have hB'' := hB'.set (m' := m₁) rfl rfl rfl rfl (fun p hp => hp) hO
  obtain ⟨m₂, t, tc, td, rfl⟩ := hB''.frame
  simp only [List.cons_append, List.nil_append] at N
  have hl20 : rows.length ≤ 20 := Nat.le_trans hl17 (by decide)
  have hisz : its.toArray.size = rows.length := by rw [List.size_toArray, hr.1]
  k_steps
  refine ⟨?_⟩
  k_dflt (refine two_Assign (h₀ := h₀) (m := fun z : Str => if z = "mail" then some (.str (T ml) tm) else if z = "flags" then some (.ref FL) else if z = "number" then some (.int (n : Int) t) else if z = "nums" then some (.ref U) else if z = "letter" then some (.str ⟨#[(pairOf g.val).1]⟩ tc) else if z = "double" then some (.str ⟨#[(pairOf g.val).2]⟩ td) else m₂ z) (n := 8) (ax := R) (its := its.toArray) (P := fun j v1 v2 => ∃ p ta tb, rows[j]? = some p ∧ v1 = .int (p.1 : Int) ta ∧ v2 = .str (T [p.2]) tb) (Acc := AccR rows) (by rfl) (by rfl) (by with_unfolding_all rfl) (by with_unfolding_all rfl) (by decide) (by rfl) (by decide) (by rfl) (by rfl) (by rfl) (by decide) (by decide) (by decide) (by rfl) (by rfl) ?sz ?len ?next (acc_zero rows) (fun _ => by rfl) (fun _ _ => by rfl) ?h)
  case sz => rw [hisz]; exact Nat.le_trans hl20 (by decide)
  case len => exact fun i j ys h => Nat.le_trans (acc_len hl20 h) (by decide)
  case next => exact fun i ys hi h => acc_next hi (by rw [hisz] at h; exact h)
  case h =>
    k_steps
    refine ⟨?_⟩
    rename Fr _ _ _ _ => F₁
    rename News _ _ _ _ => N₁
    rename IsRange _ _ _ _ _ _ _ _ => RR
    refine ⟨_, _, _, _, _, rfl, F₁, N₁, RR, by decide, by rfl, ?item, ?src, ?itr, ?stp, ?fin⟩
    case item =>
      intro j v hv
      rw [List.getElem?_toArray] at hv
      have hj : j < rows.length := by rw [← hr.1]; exact (List.getElem?_eq_some_iff.mp hv).1
      obtain ⟨a, o, ta, tb, k, e, hm, hc, hd⟩ := hr.2 j rows[j] (List.getElem?_eq_getElem hj)
      rw [e] at hv
      exact ⟨a, o, _, _, k, (Option.some.inj hv).symm, under4 (fun _ h => h) _ hm, hc, hd, rows[j], ta, tb, List.getElem?_eq_getElem hj, rfl, rfl⟩
    case src => exact .inr ⟨_, under4 (fun _ h => h) _ hR, rfl, _, rfl⟩
    case itr =>
      intro I i oI hi ti C oC D oD m₂ h tk E' hC hx F₂ N₂
      clear F₁ N₁ RR
      k_steps
      exact Nd.intro F₂ N₂
    case stp =>
      intro I i j oI hi hj ti v1 v2 J oJ C oC D ys m₂ h tk E' hP hA hC hx hy hz F₂ N₂
      clear F₁ N₁ RR
      obtain ⟨p, ta, tb, hp, rfl, rfl⟩ := hP
      by_cases he : p.1 = unlike i
      · k_steps
        · exact Nd.intro F₂ N₂
        · exact acc_yes hA hp he
      · k_steps
        · exact Nd.intro F₂ N₂
        · exact acc_no hA hp he
    case fin =>
      intro D h6 tk6 ys F₂ N₂ off hA
      clear F₁ N₁ RR
      obtain ⟨dl, rfl, hdl⟩ := acc_end hA
      k_steps
      rename Fr _ _ _ _ => F₃
      rename News _ _ _ _ => N₃
      refine ⟨?_⟩
      have hOD : OwnOff ((D, lst (strValues dl)) :: tl) [L' + 1 + 1 + 1 + 1, L' + 1 + 1 + 1, L' + 1 + 1, L' + 1] := fun p hp b hb => by
        rcases List.mem_cons.mp hp with rfl | hp
        · simp only [List.mem_cons, List.not_mem_nil, or_false] at hb
          rcases hb with rfl | rfl | rfl | rfl
          · exact Ne.symm off.1
          · exact Ne.symm off.2.1
          · exact Ne.symm off.2.2.1
          · exact Ne.symm off.2.2.2.1
        · exact hO p hp b hb
      have sub : ∀ p ∈ tl, p ∈ (D, lst (strValues dl)) :: tl := fun p hp => List.mem_cons_of_mem _ hp
      exact h19 _ _ n g ns ws U uc ((D, lst (strValues dl)) :: tl) rows its R rn v2 _ _ D FL (strValues dl).length fk fl dl ml tm o1 o2 o3 o4 (hB''.set rfl rfl rfl rfl sub hOD) (sub _ hR) (hr.more sub) hl17 hs20 hends (by rfl) List.mem_cons_self (hdl.trans hdue) (by rfl) (sub _ hFL) hfw (by rfl) hpl ⟨hL.1, hL.2⟩ F₃ (cells_in N₃) d1 d2 d3 d4
end Mine
namespace Mine
open PySem PySem.W PySem.Calls PyProof.Rows PyProof.V PySem.Spec PyProof.Rows.LCg PyProof.Rows.LCt
/-- the last line -/
noncomputable def Seg20 (w : World) (loose : List Str) (mean : ExcName → Option Value) (mg mb : Str → Option Value) (h₀ : Heap) (L' fa l : Addr) (cdv : Value) (s0 : Shared) (Q : Flow → Shared → Prop) (E : Value → Shared → Prop) : Prop :=
  ∀ (s : Shared) (m : Str → Option Value) (n : Nat) (g : Fin 3) (ns : List Int) (ws : List Value) (U : Addr) (uc : Nat) (tl : List (Addr × Obj)) (rows : List (Nat × Nat)) (its : List Value) (R : Addr) (rn : Nat) (v2 v3 v4 : Option Value) (ml : List Nat) (tm : Tok) (o1 o2 o3 o4 : Obj), Bs L' m n g ns ws U uc tl → (R, listOf its.toArray rn) ∈ tl → RowsAre tl its rows → rows.length ≤ 20 → (∀ p ∈ rows, p.1 ≤ 20) → (∀ p ∈ rows, p.2 = 10 ∨ p.2 = 13) → m "mail" = some (.str (T ml) tm) → ml = plain (pairOf g.val).1 rows → Later s0 s → Fr h₀ L' s.heap m → News h₀ L' s.heap ([(L' + 1 + 1 + 1 + 1, o4), (L' + 1 + 1 + 1, o3), (L' + 1 + 1, o2), (L' + 1, o1)] ++ tl) →
    o1.data = .cell (some (.ref R)) → o2.data = .cell v2 → o3.data = .cell v3 → o4.data = .cell v4 → wpAny (model rwp w) (callerA.deeper (envOfC "law" (fnp 25).2.2 L' fa cdv)) (execs (lawBody.drop 20) (envOfC "law" (fnp 25).2.2 L' fa cdv)) Q E s
local macro_rules | `(tactic| walk_at "call ref") => `(tactic| ((with_reducible apply at_ref 170); k_dflt (apply use_sent; walk_at "~callY")))
local macro_rules | `(tactic| walk_at "compareOp Eq str str") => `(tactic| with_reducible apply eq_same; exact rfl)
set_option maxHeartbeats 800000 in
theorem seg20 (w : World) (loose : List Str) (mean : ExcName → Option Value) (mg mb : Str → Option Value) (h₀ : Heap) (L' fa l : Addr) (cdv : Value) (s0 : Shared) (Q : Flow → Shared → Prop) (E : Value → Shared → Prop)
    (X : (K w.params).In h₀) (TT : Top qv loose mean mg mb h₀) (B : Below callerA h₀ [] h₀) (hQ : ∀ s m, Later s0 s → Fr h₀ L' s.heap m → Q (.ret (.bool true)) s) : Seg20 w loose mean mg mb h₀ L' fa l cdv s0 Q E := by
  unfold Seg20 rwp
  revert X
  k_fill
  intro X s m n g ns ws U uc tl rows its R rn v2 v3 v4 ml tm o1 o2 o3 o4 hB hR hr hl20 hs20 hends hml hpl hL F N d1 d2 d3 d4
  subst hpl
  have hO := hB.off
  obtain ⟨hh, gs, dd, tk, os⟩ := s
  dsimp only at F N
  show wpAny _ _ (execs (_ :: _) _) _ _ _
  obtain ⟨m₀, rfl⟩ := asM hml
  have hB' := hB.set (m' := m₀) rfl rfl rfl rfl (fun p hp => hp) hO
  obtain ⟨m₃, t, tc, td, rfl⟩ := hB'.frame
  simp only [List.cons_append, List.nil_append] at N
  obtain ⟨hc1, hc2⟩ := letter_ok g
  k_steps
  rename Later _ _ => l1
  rename Fr _ _ _ _ => F₁
  exact hQ _ _ ⟨l1.1.trans hL.1, l1.2.trans hL.2⟩ F₁
end Mine
namespace Mine
open PySem PySem.W PySem.Calls PyProof.Rows PyProof.V PySem.Spec PyProof.Rows.LCg PyProof.Rows.LCt
local macro_rules | `(tactic| walk_at "execs cons") => `(tactic| (with_reducible apply stop_ret))
local macro_rules | `(tactic| walk_at "execs cons Return cons") => `(tactic| (with_reducible apply stop_ret))
local macro_rules | `(tactic| walk_at "compareOp NotEq ref ref") => `(tactic| ((with_reducible apply at_ne); k_dflt (apply ne_due_nil; k_asm; k_mem; k_mem; assumption; assumption; ke_room)))
local macro_rules | `(tactic| walk_at "compareOp NotEq ref ref") => `(tactic| ((with_reducible apply at_ne); k_dflt (apply ne_due_some; k_asm; k_mem; k_mem; assumption; assumption; ke_room)))
local macro_rules | `(tactic| walk_at "compareOp NotEq ref ref") => `(tactic| ((with_reducible apply at_ne); k_dflt (apply ne_fl_due; k_asm; k_mem; k_mem; assumption; assumption; assumption; ke_room)))
local macro_rules | `(tactic| walk_at "compareOp NotEq ref ref") => `(tactic| ((with_reducible apply at_ne); k_dflt (apply ne_fl_zero; k_asm; k_mem; k_mem; assumption; assumption; ke_room)))
set_option maxHeartbeats 800000 in
theorem seg19 (w : World) (loose : List Str) (mean : ExcName → Option Value) (mg mb : Str → Option Value) (h₀ : Heap) (L' fa l : Addr) (cdv : Value) (s0 : Shared) (Q : Flow → Shared → Prop) (E : Value → Shared → Prop)
    (X : (K w.params).In h₀) (TT : Top qv loose mean mg mb h₀) (B : Below callerA h₀ [] h₀) (h20 : Seg20 w loose mean mg mb h₀ L' fa l cdv s0 Q E) : Seg19 w loose mean mg mb h₀ L' fa l cdv s0 Q E := by
  unfold Seg19 rwp
  revert X
  k_fill
  intro X s m n g ns ws U uc tl rows its R rn v2 v3 v4 DU FL dk fk fl dl ml tm o1 o2 o3 o4 hB hR hr hl17 hs20 hends hdu hDU hdl hfl hFL hfw hml hpl hL F N d1 d2 d3 d4
  subst hpl
  have hO := hB.off
  obtain ⟨hh, gs, dd, tk, os⟩ := s
  dsimp only at F N
  show wpAny _ _ (execs (_ :: _) _) _ _ _
  obtain ⟨m₀, rfl⟩ := asM hml
  have hB' := hB.set (m' := m₀) rfl rfl rfl rfl (fun p hp => hp) hO
  obtain ⟨m₁, rfl⟩ := asM (show m₀ "flags" = some (.ref FL) from hfl)
  have hB'' := hB'.set (m' := m₁) rfl rfl rfl rfl (fun p hp => hp) hO
  obtain ⟨m₂, rfl⟩ := asM (show m₁ "due" = some (.ref DU) from hdu)
  have hB3 := hB''.set (m' := m₂) rfl rfl rfl rfl (fun p hp => hp) hO
  obtain ⟨m₃, t, tc, td, rfl⟩ := hB3.frame
  simp only [List.cons_append, List.nil_append] at N
  have hl20 : rows.length ≤ 20 := Nat.le_trans hl17 (by decide)
  obtain ⟨hc1, hc2⟩ := letter_ok g
  by_cases hz : dueN n = []
  · k_steps
    rename Fr _ _ _ _ => F₁
    rename News _ _ _ _ => N₁
    refine ⟨?_⟩
    exact h20 _ _ n g ns ws U uc tl rows its R rn v2 v3 v4 _ tm o1 o2 o3 o4 (hB3.set rfl rfl rfl rfl (fun p hp => hp) hO) hR hr hl20 hs20 hends (by rfl) rfl ⟨hL.1, hL.2⟩ F₁ (fun p hp => N₁ p (by first | exact List.mem_cons_of_mem _ hp | exact List.mem_cons_of_mem _ (List.mem_cons_of_mem _ hp))) d1 d2 d3 d4
  · k_steps
    rename Fr _ _ _ _ => F₁
    rename News _ _ _ _ => N₁
    refine ⟨?_⟩
    exact h20 _ _ n g ns ws U uc tl rows its R rn v2 v3 v4 _ tm o1 o2 o3 o4 (hB3.set rfl rfl rfl rfl (fun p hp => hp) hO) hR hr hl20 hs20 hends (by rfl) rfl ⟨hL.1, hL.2⟩ F₁ (fun p hp => N₁ p (by first | exact List.mem_cons_of_mem _ hp | exact List.mem_cons_of_mem _ (List.mem_cons_of_mem _ hp))) d1 d2 d3 d4
end Mine
namespace Mine
open PySem PySem.W PySem.Calls PyProof.Rows PySem.Spec
theorem good_true {c : ClaimW} {cl : Str → Option Addr} {mean : ExcName → Option Value} {args : List WData} {s₁ s' : Shared} (hn : ∀ cls, c.raises args cls = false) (hp : c.post args (.bool true) args = true) (hk : ∀ b o, s₁.heap.get? b = some o → s'.heap.get? b = some o) (hos : s'.os = s₁.os) (hb : bareOf s'.gens = true) : GoodWG c cl mean args s₁ (.ok (.ret (.bool true))) s' :=
  ⟨.inl ⟨.bool true, .bool true, [], rfl, hn, .bool true, hp, unshared_nil⟩, .of_keep hk, hos, fun y hy => by
    obtain ⟨i, hi, rfl⟩ := Array.mem_iff_getElem.mp hy
    exact (bareOf_iff _).mp hb i _ (Array.getElem?_eq_getElem hi)⟩
set_option maxHeartbeats 4000000 in
theorem hold : PySem.Challenge.rw_sr0066_01.Holds := by
  w_on
  refine holds_law (by decide +kernel) fun said => ?_
  refine holds_open (q := qv) (loose := loose) (Xt := Xt) (XP := XL qv []) (Yf := HK.obs) (Ya := HK.val) (YP := HK.says) (N := 28684) left HK.of HK.keeps (fun s e => xl_of s (Bool.and_eq_true_iff.mp e).1) XL.keeps (by rfl) (by rfl) (by rfl) (fun s e => recFacts_of (Bool.and_eq_true_iff.mp e).2) (by rfl) (by first | assumption | decide +kernel) (by decide +kernel) ⟨rfl, rfl, rfl, rfl, rfl, by decide +kernel⟩ ?hw ?hc
  (case hw => w_witness2)
  k_fill
  intro w s₀ s₁ mg mb G Y fa o pm cd doc dV kV ho hd hcd hD hmg hg args vals as hpre hlay hrd hwl hlo
  have KX := kIn_of Y
  have X := (Ground.X G).1
  have V := (Ground.X G).2
  refine Ground.open G ?_
  intro T B D TE TW
  try (refine guard_noD D (by decide +kernel) ?_; clear D)
  obtain ⟨_, _, M⟩ := bmod_of_top T
  have TA := at_of_top T
  try (obtain ⟨_, _, he, B0⟩ := based_of_top T rfl hmg ho hd; have he' : cd = _ := he; subst he'; clear he)
  clear hmg
  wrow_args hpre hlay hrd hwl hlo
  all_goals (
    first | refine enter_call ?_ | w_how
    w_top on
    have K0 := below_caller (Top.heap T)
    w_call any ho hd hcd hD T F
    clear hd TA
    k_drop
    skip)
  all_goals try k_fold
  rename s₁.heap.IsList _ _ => hl
  rename IntsAre _ _ => hI
  rename ¬ ((63 : Int) < _) => h63
  rename Fr s₁.heap _ _ _ => F9
  rename News s₁.heap _ _ _ => N9
  rename_i w1 w2 w3 w4 e1 e2 e3 e4 X0
  refine seg0 w _ _ _ _ s₁.heap s₁.heap.objs.size fa _ _ { heap := _, gens := s₁.gens, drawn := _, toks := _, os := s₁.os } qk ek _ _ KX T K0 hl hI (by omega) (seg4 _ _ _ _ _ _ _ _ _ _ _ _ _ KX T K0 (seg6 _ _ _ _ _ _ _ _ _ _ _ _ _ KX T K0 (seg8 _ _ _ _ _ _ _ _ _ _ _ _ _ KX T K0 (seg10 _ _ _ _ _ _ _ _ _ _ _ _ _ KX T K0 (seg12 _ _ _ _ _ _ _ _ _ _ _ _ _ KX T K0 (seg16 _ _ _ _ _ _ _ _ _ _ _ _ _ KX T K0 (seg17 _ _ _ _ _ _ _ _ _ _ _ _ _ KX T K0 (seg18 _ _ _ _ _ _ _ _ _ _ _ _ _ KX T K0 (seg19 _ _ _ _ _ _ _ _ _ _ _ _ _ KX T K0 (seg20 _ _ _ _ _ _ _ _ _ _ _ _ _ KX T K0 ?hret)))))))))) _ _ _ _ _ ⟨rfl, rfl⟩ F9 N9 ?d1 ?d2 ?d3 ?d4
  case hret =>
    intro s' m' hLt hF
    refine good_true ?nr ?post hF.keep (congrArg Prod.fst hLt.2) ((congrArg Prod.snd hLt.2).trans (by show bareOf s₁.gens = true; rw [hg]; exact (bareOf_iff _).mpr (fun i y e => by simp at e)))
    case nr => intro cls; rfl
    case post =>
      refine' postW_of ?pps ?ppv ?ppe
      case pps => o_shape
      case ppv => wtm_val
      case ppe => w_fin
  case d1 => exact e4
  case d2 => exact e3
  case d3 => exact e2
  case d4 => exact e1
end Mine
theorem PySem.Challenge.cw_sr0066_01_holds : PySem.Challenge.rw_sr0066_01.Holds :=
  Mine.hold
