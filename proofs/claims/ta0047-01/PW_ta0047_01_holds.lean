import PyProof.Rows.All
import PyProof.CallFns
import PyProof.CompUse
import PyProof.ToksMono
import PyProof.CompFree
import PyProof.ListOps
import PyProof.DictKinds
import PyProof.DictCalls
import PyProof.EnumFor
import PyProof.EnumStmt
import PyProof.EnumMake
import PyProof.SeqInW
import PyProof.IsRules
import PyProof.EqKinds
import PyProof.NeKinds
import PyProof.SliceStr2
import PyProof.StrOps
import PyProof.StrBlockI
import PyProof.ForAppend
import PyProof.WalksMore
import PyProof.RangeFor
import PyProof.IsiStr
import PyProof.LetGo
import PyProof.ListMulRoad
import PyProof.Rows.TupAssign
import PyProof.Rows.TupSub
import PyProof.StrLawsIdx
import PyProof.WalksPairs
import PyProof.StrCalls2
import PyProof.Rows.StrBin
import PyProof.Rows.BitMore
import PyProof.Rows.SeqIn
import PyProof.StrBlock2
import PyProof.SeqI3
import PyProof.SliceMore
import PyProof.StrLawsTight
import PyProof.Rows.SumAny
import PyProof.Rows.SortWalk
import PyProof.Rows.SortRev
import PyProof.SetRoads
import KE.BitLaws
import Open.Head
import KE.KSortTup
import Open.Tops
import Wide.FinOn
import OpenK.AllK
import Wide.All
import Lean
import PySem.Challenge.RW_ta0047_01
set_option Elab.async false

section
open PySem PySem.W PyProof.Rows
set_option Elab.async false
namespace Mine

/-- a run of a tree, heap and all, with an upper bound of its steps; every step is one that the top may take -/
inductive Runs (tb : String → Option Builtin) (p : Program) (w : World) (n₀ : Nat) : Nat → {α : Type} → Sem α → Shared → α → Shared → Prop
  | pure {α : Type} (a : α) (s : Shared) : Runs tb p w n₀ 0 (.pure a) s a s
  | more {α : Type} {n m : Nat} {t : Sem α} {s s' : Shared} {a : α} (h : Runs tb p w n₀ n t s a s') (le : n ≤ m) : Runs tb p w n₀ m t s a s'
  | rule {α : Type} {n : Nat} {g : String} {k : Unit → Sem α} {s s' : Shared} {a : α} (h : Runs tb p w n₀ n (k ()) s a s') : Runs tb p w n₀ (n + 1) (.rule g k) s a s'
  | «at» {α : Type} {n : Nat} {q : Pos} {k : Unit → Sem α} {s s' : Shared} {a : α} (h : Runs tb p w n₀ n (k ()) s a s') : Runs tb p w n₀ (n + 1) (.at q k) s a s'
  | load {α : Type} {n : Nat} {x : Addr} {o : Obj} {part : Option Value} {k : Obj → Sem α} {s s' : Shared} {a : α} (ho : s.heap.get? x = some o) (h : Runs tb p w n₀ n (k o) s a s') : Runs tb p w n₀ (n + 1) (.load x part k) s a s'
  | update {α : Type} {n : Nat} {x : Addr} {o : Obj} {part : Option Value} {f : Obj → Obj} {k : Unit → Sem α} {s s' : Shared} {a : α} (ho : s.heap.get? x = some o) (hx : n₀ ≤ x)
      (h : Runs tb p w n₀ n (k ()) { s with heap := s.heap.update x f } a s') : Runs tb p w n₀ (n + 1) (.update x part f k) s a s'
  | alloc {α : Type} {n : Nat} {o : Obj} {k : Addr → Sem α} {s s' : Shared} {a : α} (h : Runs tb p w n₀ n (k s.heap.objs.size) { s with heap := s.heap.push o } a s') : Runs tb p w n₀ (n + 1) (.alloc o k) s a s'
  | point {α : Type} {n : Nat} {l : List Value} {k : Unit → Sem α} {s s' : Shared} {a : α} (h : Runs tb p w n₀ n (k ()) s a s') : Runs tb p w n₀ (n + 1) (.point l k) s a s'
  | fresh {α : Type} {n : Nat} {k : Tok → Sem α} {s s' : Shared} {a : α} (h : Runs tb p w n₀ n (k s.toks) { s with toks := s.toks + 1 } a s') : Runs tb p w n₀ (n + 1) (.fresh k) s a s'
  | ask {α : Type} {n : Nat} {k : Setting → Sem α} {s s' : Shared} {a : α} (h : Runs tb p w n₀ n (k ⟨p, w.params⟩) s a s') : Runs tb p w n₀ (n + 1) (.ask k) s a s'
  | call {α : Type} {n₁ n₂ n₃ : Nat} {c c' : Code} {hd : Option Value} {g : Bool} {l : List Value} {k : Result → Sem α} {s s₁ s₂ s' : Shared} {f : Flow} {a : α}
      (q : ∀ cd ps st, Thread.calm ⟨.pure (.again c'), cd, ps, st⟩ = true)
      (h₁ : Runs tb p w n₀ n₁ (denote tb c) s (.again c') s₁) (h₂ : Runs tb p w n₀ n₂ (denote tb c') s₁ (.done f) s₂) (h₃ : Runs tb p w n₀ n₃ (k (.ok f)) s₂ a s') :
      Runs tb p w n₀ (n₁ + n₂ + n₃ + 3) (.call c hd g l k) s a s'

section
variable {tb : String → Option Builtin} {p : Program} {w : World} {n₀ : Nat} {ann : Option Value}

theorem topRun_succ {N : Nat} {s s' r : Shared} {t t' : Thread} (ht : through t = false) (hk : stepOk n₀ ann t = true) (hs : step (denote tb) p w s t = .go s' t')
    (h : topRun tb p w n₀ ann N s' t' = some r) : topRun tb p w n₀ ann (N + 1) s t = some r := by
  unfold topRun
  rw [ht, hk, hs]
  exact h

theorem again_step {s : Shared} {c' cd c : Code} {ps q : Pos} {K : Result → Sem PySem.Fin} {hd : Option Value} {g : Bool} {l kept : List Value} {st : List Frame} :
    ∃ kept', step (denote tb) p w s ⟨.pure (.again c'), cd, ps, .ret K hd g l c q kept :: st⟩ = .go s ⟨denote tb c', c', ps, .ret K hd g l c q kept' :: st⟩ := by
  obtain ⟨heap, gens, drawn, toks, os⟩ := s
  exact ⟨_, PySem.W.step_again⟩

theorem call_step {s : Shared} {c cd : Code} {ps : Pos} {K : Result → Sem PySem.Fin} {hd : Option Value} {g : Bool} {l : List Value} {st : List Frame} :
    ∃ kept, step (denote tb) p w s ⟨.call c hd g l K, cd, ps, st⟩ = .go s ⟨denote tb c, c, ps, .ret K hd g l cd ps kept :: st⟩ := by
  obtain ⟨heap, gens, drawn, toks, os⟩ := s
  exact ⟨_, rfl⟩
theorem wrap_pure (t : Sem PySem.Fin) : t.wrap .pure .raise id id = t := by
  rw [← Sem.bind_eq_wrap]
  induction t <;> simp only [Sem.bind, *]

theorem Runs.top {n : Nat} {α : Type} {t : Sem α} {s s' : Shared} {a : α} (h : Runs tb p w n₀ n t s a s') :
    ∀ (K : α → Sem PySem.Fin) (H : Value → Sem PySem.Fin) (gd : Bool → Bool) (lv : List Value → List Value) (cd : Code) (ps : Pos) (st : List Frame), ∃ k ps', k ≤ n ∧ ∀ N r,
      topRun tb p w n₀ ann N s' ⟨K a, cd, ps', st⟩ = some r → topRun tb p w n₀ ann (N + k) s ⟨t.wrap K H gd lv, cd, ps, st⟩ = some r := by
  induction h with
  | pure a s => intro K H gd lv cd ps st; exact ⟨0, ps, Nat.le_refl _, fun N r e => e⟩
  | more _ le ih => intro K H gd lv cd ps st; obtain ⟨k, ps', h1, h2⟩ := ih K H gd lv cd ps st; exact ⟨k, ps', Nat.le_trans h1 le, h2⟩
  | rule _ ih | point _ ih =>
    intro K H gd lv cd ps st; obtain ⟨k, ps', h1, h2⟩ := ih K H gd lv cd ps st
    exact ⟨k + 1, ps', Nat.succ_le_succ h1, fun N r e => topRun_succ (by simp only [Sem.wrap, through, Bool.and_false]) rfl rfl (h2 N r e)⟩
  | @«at» _ _ q _ _ _ _ _ ih =>
    intro K H gd lv cd ps st; obtain ⟨k, ps', h1, h2⟩ := ih K H gd lv cd q st
    exact ⟨k + 1, ps', Nat.succ_le_succ h1, fun N r e => topRun_succ (by simp only [Sem.wrap, through, Bool.and_false]) rfl rfl (h2 N r e)⟩
  | load ho _ ih =>
    intro K H gd lv cd ps st; obtain ⟨k, ps', h1, h2⟩ := ih K H gd lv cd ps st
    refine ⟨k + 1, ps', Nat.succ_le_succ h1, fun N r e => topRun_succ (by simp only [Sem.wrap, through, Bool.and_false]) rfl ?_ (h2 N r e)⟩
    simp only [Sem.wrap, step, ho]
  | update ho hx _ ih =>
    intro K H gd lv cd ps st; obtain ⟨k, ps', h1, h2⟩ := ih K H gd lv cd ps st
    refine ⟨k + 1, ps', Nat.succ_le_succ h1, fun N r e => topRun_succ (by simp only [Sem.wrap, through, Bool.and_false]) ?_ ?_ (h2 N r e)⟩
    · simp only [Sem.wrap, stepOk, Thread.calm, Thread.atCollectorCode, Thread.yieldsInsideHandler, Nat.ble_eq_true_of_le hx]; rfl
    · simp only [Sem.wrap, step, ho, Option.isSome_some, if_true]
  | alloc _ ih | fresh _ ih | ask _ ih =>
    intro K H gd lv cd ps st; obtain ⟨k, ps', h1, h2⟩ := ih K H gd lv cd ps st
    exact ⟨k + 1, ps', Nat.succ_le_succ h1, fun N r e => topRun_succ (by simp only [Sem.wrap, through, Bool.and_false]) rfl (by simp only [Sem.wrap, step]) (h2 N r e)⟩
  | @call _ n₁ n₂ n₃ c c' hd g l k s s₁ s₂ s' f a q _ _ _ i₁ i₂ i₃ =>
    intro K H gd lv cd ps st
    obtain ⟨k₃, p₃, b₃, e₃⟩ := i₃ K H gd lv cd ps st
    -- the callee's tree, then its last code, above the frame of the call
    have go : ∀ kept, ∃ k', k' ≤ n₁ + n₂ + n₃ + 2 ∧ ∀ N r, topRun tb p w n₀ ann N s' ⟨K a, cd, p₃, st⟩ = some r →
        topRun tb p w n₀ ann (N + k') s ⟨denote tb c, c, ps, .ret (fun x => (k x).wrap K H gd lv) hd (gd g) (lv l) cd ps kept :: st⟩ = some r := by
      intro kept
      obtain ⟨k₁, p₁, b₁, e₁⟩ := i₁ .pure .raise id id c ps (.ret (fun x => (k x).wrap K H gd lv) hd (gd g) (lv l) cd ps kept :: st)
      obtain ⟨kept', hst⟩ := again_step (tb := tb) (p := p) (w := w) (s := s₁) (c' := c') (cd := c) (c := cd) (ps := p₁) (q := ps) (K := fun x => (k x).wrap K H gd lv) (hd := hd) (g := gd g) (l := lv l) (kept := kept) (st := st)
      obtain ⟨k₂, p₂, b₂, e₂⟩ := i₂ .pure .raise id id c' p₁ (.ret (fun x => (k x).wrap K H gd lv) hd (gd g) (lv l) cd ps kept' :: st)
      refine ⟨k₃ + 1 + k₂ + 1 + k₁, by omega, fun N r e => ?_⟩
      have h3 := e₃ N r e
      have h2' : topRun tb p w n₀ ann (N + k₃ + 1) s₂ ⟨.pure (.done f), c', p₂, .ret (fun x => (k x).wrap K H gd lv) hd (gd g) (lv l) cd ps kept' :: st⟩ = some r :=
        topRun_succ rfl rfl rfl h3
      have h2 := e₂ _ _ h2'
      rw [wrap_pure] at h2
      have h1' : topRun tb p w n₀ ann (N + k₃ + 1 + k₂ + 1) s₁ ⟨.pure (.again c'), c, p₁, .ret (fun x => (k x).wrap K H gd lv) hd (gd g) (lv l) cd ps kept :: st⟩ = some r :=
        topRun_succ rfl (by simp only [stepOk, q, Bool.true_and]) hst h2
      have h1 := e₁ _ _ h1'
      rw [wrap_pure] at h1
      rw [show N + (k₃ + 1 + k₂ + 1 + k₁) = N + k₃ + 1 + k₂ + 1 + k₁ by omega]
      exact h1
    obtain ⟨kept, hst⟩ := call_step (tb := tb) (p := p) (w := w) (s := s) (c := c) (cd := cd) (ps := ps) (K := fun x => (k x).wrap K H gd lv) (hd := hd) (g := gd g) (l := lv l) (st := st)
    obtain ⟨k', b', e'⟩ := go kept
    exact ⟨k' + 1, p₃, by omega, fun N r e => topRun_succ (by simp only [Sem.wrap, through, Bool.and_false]) rfl hst (e' N r e)⟩

theorem Runs.bind {α β : Type} {n m : Nat} {t : Sem α} {f : α → Sem β} {s s₁ s₂ : Shared} {a : α} {b : β} (h : Runs tb p w n₀ n t s a s₁) (h' : Runs tb p w n₀ m (f a) s₁ b s₂) :
    Runs tb p w n₀ (n + m) (t >>= f) s b s₂ := by
  show Runs tb p w n₀ (n + m) (t.bind f) s b s₂
  induction h with
  | pure a s => exact h'.more (by omega)
  | more _ le ih => exact (ih h').more (by omega)
  | rule _ ih => exact (Runs.rule (ih h')).more (by omega)
  | «at» _ ih => exact (Runs.at (ih h')).more (by omega)
  | load ho _ ih => exact (Runs.load ho (ih h')).more (by omega)
  | update ho hx _ ih => exact (Runs.update ho hx (ih h')).more (by omega)
  | alloc _ ih => exact (Runs.alloc (ih h')).more (by omega)
  | point _ ih => exact (Runs.point (ih h')).more (by omega)
  | fresh _ ih => exact (Runs.fresh (ih h')).more (by omega)
  | ask _ ih => exact (Runs.ask (ih h')).more (by omega)
  | call q h₁ h₂ _ _ _ ih => exact (Runs.call q h₁ h₂ (ih h')).more (by omega)

theorem Runs.keep {α : Type} {n : Nat} {t : Sem α} {s s₁ : Shared} {a : α} (vs : List Value) (h : Runs tb p w n₀ n t s a s₁) : Runs tb p w n₀ n (t.keep vs) s a s₁ := by
  induction h with
  | pure a s => exact .pure a s
  | more _ le ih => exact .more ih le
  | rule _ ih => exact .rule ih
  | «at» _ ih => exact .at ih
  | load ho _ ih => exact .load ho ih
  | update ho hx _ ih => exact .update ho hx ih
  | alloc _ ih => exact .alloc ih
  | point _ ih => exact .point ih
  | fresh _ ih => exact .fresh ih
  | ask _ ih => exact .ask ih
  | call q h₁ h₂ _ _ _ ih => exact .call q h₁ h₂ ih

theorem Runs.holding {α : Type} {n : Nat} {t : Sem α} {s s₁ : Shared} {a : α} {vs : List Value} (h : Runs tb p w n₀ n t s a s₁) : Runs tb p w n₀ n (PySem.holding vs t) s a s₁ := by
  unfold PySem.holding
  split
  · exact h
  · exact h.keep _

theorem Runs.onRaise {α : Type} {n : Nat} {t : Sem α} {s s₁ : Shared} {a : α} {H : Value → Sem Unit} (h : Runs tb p w n₀ n t s a s₁) : Runs tb p w n₀ n (t.onRaise H) s a s₁ := by
  induction h with
  | pure a s => exact .pure a s
  | more _ le ih => exact .more ih le
  | rule _ ih => exact .rule ih
  | «at» _ ih => exact .at ih
  | load ho _ ih => exact .load ho ih
  | update ho hx _ ih => exact .update ho hx ih
  | alloc _ ih => exact .alloc ih
  | point _ ih => exact .point ih
  | fresh _ ih => exact .fresh ih
  | ask _ ih => exact .ask ih
  | call q h₁ h₂ _ _ _ ih => exact .call q h₁ h₂ ih

theorem Runs.tryCatch {α : Type} {n : Nat} {t : Sem α} {s s₁ : Shared} {a : α} {H : Value → Sem α} (h : Runs tb p w n₀ n t s a s₁) : Runs tb p w n₀ n (MonadExcept.tryCatch t H) s a s₁ := by
  show Runs tb p w n₀ n (Sem.tryCatch t H) s a s₁
  induction h with
  | pure a s => exact .pure a s
  | more _ le ih => exact .more ih le
  | rule _ ih => exact .rule ih
  | «at» _ ih => exact .at ih
  | load ho _ ih => exact .load ho ih
  | update ho hx _ ih => exact .update ho hx ih
  | alloc _ ih => exact .alloc ih
  | point _ ih => exact .point ih
  | fresh _ ih => exact .fresh ih
  | ask _ ih => exact .ask ih
  | call q h₁ h₂ _ _ _ ih => exact .call q h₁ h₂ ih
end
end Mine
end

section
open PySem PySem.W PyProof.Rows
set_option Elab.async false
set_option maxRecDepth 100000
namespace Mine
abbrev Pair := Sem Value × Sem Value

theorem check_hash (i : Int) (t : Tok) : checkBuiltinCall "int.__hash__" ⟨[.int i t], []⟩ = (pure () : Sem Unit) := by kernel_rfl
theorem den_hash (i : Int) (t : Tok) : denote treeTable (.builtin "int.__hash__" ⟨[.int i t], []⟩) = (do ret (← mkInt (rawHash i)) : Sem PySem.Fin) := by
  show (match entryFor treeTable "int.__hash__" with | some b => b ⟨[.int i t], []⟩ | none => unsupported ((withoutEnding? "int.__hash__" "#data").getD "int.__hash__")) = _
  rw [← table_eq_tree, entry_int_hash]; rfl
theorem sub_dict : isSubtype (.type "dict") (.type "dict") = pure true := by rw [isSubtype_type]; kernel_rfl
theorem iter_dict : typeLookup (.type "dict") "__iter__" = pure (some (.builtin "dict.__iter__")) := by rw [typeLookup_type, builtinLookup_eq_fast]; kernel_rfl

section
variable {p : Program} {w : World} {n₀ : Nat}

theorem runs_eq {α : Type} {n : Nat} {t t' : Sem α} {s s' : Shared} {a : α} (e : t = t') (h : Runs treeTable p w n₀ n t' s a s') : Runs treeTable p w n₀ n t s a s' := e ▸ h

theorem runs_int (i : Int) (s : Shared) : Runs treeTable p w n₀ 1 (mkInt i) s (.int i s.toks) { s with toks := s.toks + 1 } := .fresh (.pure _ _)
theorem runs_text (x : Str) (s : Shared) : Runs treeTable p w n₀ 1 (mkText x) s (.str x s.toks) { s with toks := s.toks + 1 } := .fresh (.pure _ _)

theorem calm_hash (args : Args) (cd : Code) (ps : Pos) (st : List Frame) : Thread.calm ⟨.pure (.again (.builtin "int.__hash__" args)), cd, ps, st⟩ = true := by
  simp only [Thread.calm, Thread.atCollectorCode, Thread.yieldsInsideHandler]
  rw [show "int.__hash__".startsWith "lifetime." = false from by decide +kernel]
  rfl

theorem runs_callHash (i : Int) (t : Tok) (s : Shared) :
    Runs treeTable p w n₀ 4 (call (.builtin "int.__hash__") [.int i t]) s (.int (rawHash i) s.toks) { s with toks := s.toks + 1 } := by
  show Runs treeTable p w n₀ 4 ((Sem.call (.call (.builtin "int.__hash__") ⟨[.int i t], []⟩) none false [] fun | .ok f => .pure f | .error e => .raise e) >>= _) s _ _
  refine (Runs.bind (n := 4) (m := 0) (a := .ret (.int (rawHash i) s.toks)) (Runs.call (n₁ := 0) (n₂ := 1) (n₃ := 0) (s₁ := s) (f := .ret (.int (rawHash i) s.toks)) (c' := .builtin "int.__hash__" ⟨[.int i t], []⟩) (calm_hash _) ?_ ?_ (.pure _ _)) (.pure _ _))
  · show Runs treeTable p w n₀ 0 (checkBuiltinCall "int.__hash__" ⟨[.int i t], []⟩ >>= fun _ => again (.builtin "int.__hash__" ⟨[.int i t], []⟩)) s _ s
    rw [check_hash]; exact .pure _ _
  · rw [den_hash]; exact .fresh (.pure _ _)

theorem runs_hash (i : Int) (t : Tok) (s : Shared) : Runs treeTable p w n₀ 6 (pyHash (.int i t)) s (hashInt i) { s with toks := s.toks + 1 } := by
  have hr := rawHash_range i
  have hv : [Value.int i t].any Value.onHeap = false := rfl
  unfold pyHash pyHashByItsType
  refine (Runs.bind (n := 0) (m := 6) (a := ()) (s₁ := s) ?_ ?_)
  · rw [cRoomFor, if_neg (by rw [hv]; exact Bool.false_ne_true)]; exact .pure _ _
  have hsp : specialOf (.int i t) "__hash__" = pure (some (.builtin "int.__hash__")) := by
    show (typeOf (.int i t) >>= fun T => typeLookup T "__hash__") = _
    exact slot_int_hash.lookup
  rw [hsp]
  refine (Runs.bind (n := 0) (m := 6) (a := some (Value.builtin "int.__hash__")) (s₁ := s) (.pure _ _) ?_)
  rw [if_neg (by decide +kernel)]
  refine (Runs.bind (n := 0) (m := 6) (a := some (Value.builtin "int.__hash__")) (s₁ := s) (.pure _ _) ?_)
  rw [show (some (Value.builtin "int.__hash__")).isNone = false from rfl]
  simp only [Bool.false_eq_true, if_false]
  refine (Runs.bind (n := 5) (m := 0) (a := some (Value.int (rawHash i) s.toks)) (s₁ := { s with toks := s.toks + 1 }) ?_ ?_).more (by omega)
  · simp only [callSpecialIfBoundUnlessNone?, bindSpecialIfBound?, hsp]
    refine Runs.holding ?_
    refine (Runs.bind (n := 1) (m := 4) (a := some (Value.builtin "int.__hash__", [Value.int i t])) (s₁ := s) ?_ ?_)
    · refine (Runs.bind (n := 0) (m := 1) (a := some (Value.builtin "int.__hash__")) (s₁ := s) (.pure _ _) ?_)
      simp only [slot_int_hash.bind]
      refine (Runs.bind (n := 1) (m := 0) (a := (⟨p, w.params⟩ : Setting)) (s₁ := s) (.ask (.pure _ _)) ?_)
      split
      · exact Runs.bind (n := 0) (m := 0) (.pure _ _) (.pure _ _)
      · exact Runs.tryCatch (Runs.bind (n := 0) (m := 0) (.pure _ _) (.pure _ _))
    · show Runs treeTable p w n₀ 4 (if (Value.builtin "int.__hash__" == Value.none) = true then _ else _) s _ _
      rw [if_neg (by decide +kernel)]
      exact Runs.bind (n := 4) (m := 0) (runs_callHash i t s) (.pure _ _)
  · show Runs treeTable p w n₀ 0 (if (decide (-(2 : Int) ^ 63 ≤ rawHash i) && decide (rawHash i < 2 ^ 63)) = true then _ else _) _ _ _
    rw [if_pos (by rw [decide_eq_true hr.1, decide_eq_true hr.2]; rfl)]
    exact .pure _ _
end
end Mine
end

section
open PySem PySem.W PyProof.Rows
set_option Elab.async false
set_option maxRecDepth 100000
namespace Mine
abbrev DO (es : List DictEntry) (ep : Nat) : Obj := { cls := .type "dict", data := .dict es.toArray ep }
/-- a heap whose newest objects are written out -/
abbrev HH (A : Array Obj) (l : Life) (os : List Obj) : Heap := ⟨A ++ os.toArray, l⟩

theorem HH.get {A : Array Obj} {l : Life} {os₁ os₂ : List Obj} {es : List DictEntry} {ep : Nat} {n : Nat} (hn : n = A.size + os₁.length) : (HH A l (os₁ ++ DO es ep :: os₂)).get? n = some (DO es ep) := by
  subst hn
  unfold Heap.get?
  have : (A ++ (os₁ ++ DO es ep :: os₂).toArray)[A.size + os₁.length]? = some (DO es ep) := by
    rw [Array.getElem?_append_right (by omega), List.getElem?_toArray, Nat.add_sub_cancel_left]
    simp
  rw [this]
theorem HH.upd {A : Array Obj} {l : Life} {os₁ os₂ : List Obj} {o : Obj} {f : Obj → Obj} {n : Nat} (hn : n = A.size + os₁.length) : (HH A l (os₁ ++ o :: os₂)).update n f = HH A l (os₁ ++ f o :: os₂) := by
  subst hn
  show Heap.mk _ _ = Heap.mk _ _
  congr 1
  apply Array.ext_getElem?
  intro i
  rw [Array.getElem?_modify]
  by_cases h : i < A.size
  · rw [Array.getElem?_append_left h, Array.getElem?_append_left h, if_neg (by omega)]
  · rw [Array.getElem?_append_right (by omega), Array.getElem?_append_right (by omega), List.getElem?_toArray, List.getElem?_toArray]
    by_cases e : A.size + os₁.length = i
    · subst e
      simp
    · rw [if_neg e]
      by_cases h2 : i - A.size < os₁.length
      · rw [List.getElem?_append_left h2, List.getElem?_append_left h2]
      · rw [List.getElem?_append_right (by omega), List.getElem?_append_right (by omega)]
        obtain ⟨j, hj⟩ : ∃ j, i - A.size - os₁.length = j + 1 := ⟨i - A.size - os₁.length - 1, by omega⟩
        rw [hj]; rfl
theorem HH.psh {A : Array Obj} {l : Life} {os : List Obj} {o : Obj} : (HH A l os).push o = HH A l (os ++ [o]) := by
  show Heap.mk _ _ = Heap.mk _ _
  congr 1
  apply Array.ext'
  simp
theorem HH.size {A : Array Obj} {l : Life} {os : List Obj} : (HH A l os).objs.size = A.size + os.length := by simp

section
variable {p : Program} {w : World} {n₀ : Nat} {s : Shared} {d : Addr} {es : List DictEntry} {ep : Nat}

theorem no_place {es : List DictEntry} {h : Int} (no : ∀ e ∈ es, e.hash ≠ h) : placesWithHash es.toArray.size (fun i => es.toArray[i]?.map (·.hash)) h = [] := by
  unfold placesWithHash
  rw [List.filter_eq_nil_iff]
  intro i _ hq
  cases q : es[i]? with
  | none => simp [q] at hq
  | some e =>
    have : e ∈ es := List.mem_of_getElem? q
    simp [q] at hq
    exact no e this hq

theorem runs_find {k h : Int} {t : Tok} (ho : s.heap.get? d = some (DO es ep)) (no : ∀ e ∈ es, e.hash ≠ h) : Runs treeTable p w n₀ 1 (dictFind d (.int k t) h) s none s := by
  unfold dictFind
  refine Runs.holding ?_
  refine (Runs.bind (n := 1) (m := 0) (a := es.toArray) (s₁ := s) ?_ ?_)
  · unfold dictEntries
    refine (Runs.bind (n := 1) (m := 0) (a := DO es ep) (s₁ := s) (.load ho (.pure _ _)) (.pure _ _))
  · dsimp only
    rw [no_place no]
    simp only [List.filterMap_nil, List.all_cons, List.all_nil, carriedByValue, Bool.and_self, if_true]
    unfold dictWalkPlain
    exact .pure _ _

theorem runs_keys {part : Option Value} {e : DictEntry} (hd : n₀ ≤ d) (ho : s.heap.get? d = some (DO es ep)) (hl : es.length < 100000) {H : Heap} (hu : s.heap.update d (Obj.mapDictKeys (·.push e)) = H) (hH : H.get? d = some (DO (es ++ [e]) (ep + 1))) :
    Runs treeTable p w n₀ 3 (updateDictKeys d (·.push e) part) s () { s with heap := H } := by
  unfold updateDictKeys
  refine (Runs.bind (n := 1) (m := 2) (a := DO es ep) (s₁ := s) (.load ho (.pure _ _)) ?_)
  refine (Runs.bind (n := 1) (m := 1) (a := ()) (s₁ := { s with heap := H }) ?_ ?_)
  · exact hu ▸ .update ho hd (.pure _ _)
  · unfold lookBehind
    refine (Runs.bind (n := 1) (m := 0) (a := DO (es ++ [e]) (ep + 1)) (s₁ := { s with heap := H }) (.load hH (.pure _ _)) ?_)
    have : (DO (es ++ [e]) (ep + 1)).data.pastItsLine = none := by
      show (if _ > sizeLine + 1 then some "dict:memory" else none) = none
      rw [if_neg]
      have : sizeLine = 16777216 := by decide +kernel
      simp only [List.size_toArray, List.length_append, List.length_singleton]
      omega
    rw [this]
    exact .pure _ _

/-- an entry as the dict's table holds it -/
abbrev en (k : Int) (t : Tok) (v : Value) : DictEntry := ⟨hashInt k, .int k t, v⟩

theorem runs_set {k : Int} {t : Tok} {v : Value} (hd : n₀ ≤ d) (ho : s.heap.get? d = some (DO es ep)) (no : ∀ e ∈ es, e.hash ≠ hashInt k) (hl : es.length < 100000) {H : Heap}
    (hu : s.heap.update d (Obj.mapDictKeys (·.push (en k t v))) = H) (hH : H.get? d = some (DO (es ++ [en k t v]) (ep + 1))) :
    Runs treeTable p w n₀ 11 (dictSet d (.int k t) v) s () { s with heap := H, toks := s.toks + 1 } := by
  unfold dictSet
  refine Runs.holding ((Runs.bind (n := 6) (m := 5) (runs_hash k t s) ?_))
  unfold dictSetHashed
  refine Runs.holding ((Runs.bind (n := 1) (m := 4) (s₁ := { s with toks := s.toks + 1 }) (runs_find (es := es) (ep := ep) ho no) ?_))
  exact Runs.bind (n := 1) (m := 3) (.rule (.pure _ _)) (runs_keys (s := { s with toks := s.toks + 1 }) hd ho hl hu hH)

theorem runs_put {k : Int} {t : Tok} {v : Value} (hd : n₀ ≤ d) (ho : s.heap.get? d = some (DO es ep)) (no : ∀ e ∈ es, e.hash ≠ hashInt k) (hl : es.length < 100000) {H : Heap}
    (hu : s.heap.update d (Obj.mapDictKeys (·.push (en k t v))) = H) (hH : H.get? d = some (DO (es ++ [en k t v]) (ep + 1))) :
    Runs treeTable p w n₀ 4 (dictPut d (hashInt k) (.int k t) v) s () { s with heap := H } := by
  unfold dictPut
  exact Runs.bind (n := 1) (m := 3) (runs_find (es := es) (ep := ep) ho no) (runs_keys hd ho hl hu hH)

theorem push_DO (e : DictEntry) : Obj.mapDictKeys (·.push e) (DO es ep) = DO (es ++ [e]) (ep + 1) := by
  show ({ cls := .type "dict", data := .dict (es.toArray.push e) (ep + 1) } : Obj) = _
  simp
end

/-- the pairs of a display: int, text -/
abbrev IT := Int × Str
def pairR (pos : Pos) (q : IT) : Pair := (mkInt q.1, do let x ← mkText q.2; standAt pos; pure x)
/-- what the pairs lay, from the token t on, three tokens a pair -/
def lays (t : Nat) : List IT → List DictEntry
  | [] => []
  | q :: r => en q.1 t (.str q.2 (t + 1)) :: lays (t + 3) r
theorem lays_length : ∀ (l : List IT) (t : Nat), (lays t l).length = l.length
  | [], _ => rfl
  | _ :: r, t => by simp [lays, lays_length r]
/-- no key's hash twice -/
def Apart (ks : List Int) : Prop := ks.Pairwise fun a b => hashInt a ≠ hashInt b
def Off (es : List DictEntry) (l : List IT) : Prop := ∀ e ∈ es, ∀ q ∈ l, e.hash ≠ hashInt q.1

section
variable {p : Program} {w : World} {n₀ : Nat} {A : Array Obj} {life : Life} {os₁ os₂ : List Obj} {d : Addr}

theorem runs_long (pos : Pos) : ∀ (l : List IT) (s : Shared) (es : List DictEntry) (ep : Nat), n₀ ≤ d → d = A.size + os₁.length → s.heap = HH A life (os₁ ++ DO es ep :: os₂) → Apart (l.map (·.1)) → Off es l → es.length + l.length < 100000 →
    Runs treeTable p w n₀ (14 * l.length) (forIn (l.map (pairR pos)) PUnit.unit fun (x : Pair) (_ : PUnit) => (do let kv ← x.1; let vv ← holding [kv] x.2; holding [kv, vv] (dictSet d kv vv); pure (ForInStep.yield PUnit.unit) : Sem (ForInStep PUnit))) s PUnit.unit
      { s with heap := HH A life (os₁ ++ DO (es ++ lays s.toks l) (ep + l.length) :: os₂), toks := s.toks + 3 * l.length }
  | [], s, es, ep, _, _, hh, _, _, _ => by
    have : ({ s with heap := HH A life (os₁ ++ DO (es ++ lays s.toks []) (ep + ([] : List IT).length) :: os₂), toks := s.toks + 3 * ([] : List IT).length } : Shared) = s := by
      obtain ⟨h, g, dr, tk, o⟩ := s
      simp only at hh
      subst hh
      simp [lays]
    rw [this]
    exact .pure _ _
  | q :: r, s, es, ep, hn, hd, hh, ha, hoff, hl => by
    obtain ⟨ha1, ha2⟩ := List.pairwise_cons.mp ha
    rw [List.map_cons, List.forIn_cons]
    have ho : s.heap.get? d = some (DO es ep) := by rw [hh]; exact HH.get hd
    have hu : s.heap.update d (Obj.mapDictKeys (·.push (en q.1 s.toks (.str q.2 (s.toks + 1))))) = HH A life (os₁ ++ DO (es ++ [en q.1 s.toks (.str q.2 (s.toks + 1))]) (ep + 1) :: os₂) := by
      rw [hh, HH.upd hd, push_DO]
    have one : Runs treeTable p w n₀ 14 (do let kv ← (pairR pos q).1; let vv ← holding [kv] (pairR pos q).2; holding [kv, vv] (dictSet d kv vv); pure (ForInStep.yield PUnit.unit) : Sem (ForInStep PUnit)) s (.yield PUnit.unit)
        { s with heap := HH A life (os₁ ++ DO (es ++ [en q.1 s.toks (.str q.2 (s.toks + 1))]) (ep + 1) :: os₂), toks := s.toks + 3 } := by
      refine (Runs.bind (n := 1) (m := 13) (runs_int q.1 s) ?_)
      refine (Runs.bind (n := 2) (m := 11) (a := .str q.2 (s.toks + 1)) (s₁ := { s with toks := s.toks + 2 }) (Runs.holding ?_) ?_)
      · exact Runs.bind (n := 1) (m := 1) (runs_text q.2 _) (Runs.bind (n := 1) (m := 0) (.at (.pure _ _)) (.pure _ _))
      · refine (Runs.bind (n := 11) (m := 0) (a := ()) (Runs.holding (runs_set (s := { s with toks := s.toks + 2 }) (es := es) (ep := ep) hn ho (fun e he => hoff e he q (.head _)) (by simp at hl; omega) hu (HH.get hd))) (.pure _ _))
    refine (Runs.bind (n := 14) (m := 14 * r.length) one ?_).more (by rw [List.length_cons]; omega)
    have := runs_long pos r { s with heap := HH A life (os₁ ++ DO (es ++ [en q.1 s.toks (.str q.2 (s.toks + 1))]) (ep + 1) :: os₂), toks := s.toks + 3 } _ _ hn hd rfl ha2
      (fun e he x hx => by
        rcases List.mem_append.mp he with he | he
        · exact hoff e he x (.tail _ hx)
        · rw [List.mem_singleton.mp he]
          exact ha1 x.1 (List.mem_map_of_mem hx)) (by simp at hl ⊢; omega)
    have e1 : es ++ lays s.toks (q :: r) = es ++ [en q.1 s.toks (.str q.2 (s.toks + 1))] ++ lays (s.toks + 3) r := by simp [lays]
    have e2 : ep + (q :: r).length = ep + 1 + r.length := by simp; omega
    have e3 : s.toks + 3 * (q :: r).length = s.toks + 3 + 3 * r.length := by simp; omega
    rw [e1, e2, e3]
    exact this
end
end Mine
end

section
open PySem PySem.W PyProof.Rows
set_option Elab.async false
set_option maxRecDepth 100000
namespace Mine
section
variable {p : Program} {w : World} {n₀ : Nat} {A : Array Obj} {life : Life} {subs : List Obj} {d a : Addr}

theorem runs_entries {s : Shared} {es : List DictEntry} {ep : Nat} {part : Option Value} (ho : s.heap.get? d = some (DO es ep)) : Runs treeTable p w n₀ 1 (dictEntries d part) s es.toArray s := by
  unfold dictEntries
  exact Runs.bind (n := 1) (m := 0) (a := DO es ep) (s₁ := s) (.load ho (.pure _ _)) (.pure _ _)
theorem runs_epoch {s : Shared} {es : List DictEntry} {ep : Nat} {part : Option Value} (ho : s.heap.get? d = some (DO es ep)) : Runs treeTable p w n₀ 1 (dictEpoch d part) s ep s := by
  unfold dictEpoch
  exact Runs.bind (n := 1) (m := 0) (a := DO es ep) (s₁ := s) (.load ho (.pure _ _)) (.pure _ _)

def AllEn (es : List DictEntry) : Prop := ∀ e ∈ es, ∃ k t v, e = en k t v
def OffE (es : List DictEntry) (l : List DictEntry) : Prop := ∀ e ∈ es, ∀ x ∈ l, e.hash ≠ x.hash

theorem range'_cons (i n : Nat) : List.range' i (n + 1) = i :: List.range' (i + 1) n := by rw [List.range'_succ]

theorem runs_mergeLoop (hn : n₀ ≤ d) (hd : d = A.size) (ha : a = A.size + 1 + subs.length) (sub : List DictEntry) (q : Nat) (hen : AllEn sub) (hap : sub.Pairwise fun x y => x.hash ≠ y.hash) :
    ∀ (n i : Nat) (s : Shared) (es : List DictEntry) (ep : Nat), i + n = sub.length → s.heap = HH A life (DO es ep :: (subs ++ [DO sub q])) → OffE es (sub.drop i) → es.length + n < 100000 →
      Runs treeTable p w n₀ (6 * n) (forIn (List.range' i n) PUnit.unit fun (i : Nat) (_ : PUnit) => (do
          let x ← dictEntries a
          match x[i]? with
            | some e => do
              holding [e.key, e.val] (dictPut d e.hash e.key e.val)
              let y ← dictEpoch a
              if (y != q) = true then do
                  unsupported "dict.changed-during-merge"
                  pure (ForInStep.yield PUnit.unit)
                else pure (ForInStep.yield PUnit.unit)
            | _ => do
              unsupported "dict.changed-during-merge"
              pure (ForInStep.yield PUnit.unit) : Sem (ForInStep PUnit))) s PUnit.unit
        { s with heap := HH A life (DO (es ++ sub.drop i) (ep + n) :: (subs ++ [DO sub q])) }
  | 0, i, s, es, ep, hi, hh, _, _ => by
    have : sub.drop i = [] := by rw [List.drop_eq_nil_iff]; omega
    rw [this, List.append_nil, Nat.add_zero, ← hh]
    exact .pure _ _
  | n + 1, i, s, es, ep, hi, hh, hoff, hl => by
    rw [range'_cons, List.forIn_cons]
    have hi' : i < sub.length := by omega
    have hcut : sub.drop i = sub[i] :: sub.drop (i + 1) := List.drop_eq_getElem_cons hi'
    obtain ⟨k, t, v, hk⟩ := hen sub[i] (List.getElem_mem hi')
    have hox : ∀ (H : Heap) (es' : List DictEntry) (ep' : Nat), H = HH A life (DO es' ep' :: (subs ++ [DO sub q])) → H.get? a = some (DO sub q) := fun H es' ep' e => by
      rw [e, show DO es' ep' :: (subs ++ [DO sub q]) = (DO es' ep' :: subs) ++ DO sub q :: [] from rfl]
      exact HH.get (by rw [ha, List.length_cons]; omega)
    have hod : ∀ (H : Heap) (es' : List DictEntry) (ep' : Nat), H = HH A life (DO es' ep' :: (subs ++ [DO sub q])) → H.get? d = some (DO es' ep') := fun H es' ep' e => by
      rw [e]; exact HH.get (os₁ := []) (by rw [hd]; rfl)
    have hu : s.heap.update d (Obj.mapDictKeys (·.push (en k t v))) = HH A life (DO (es ++ [en k t v]) (ep + 1) :: (subs ++ [DO sub q])) := by
      rw [hh]; exact (HH.upd (os₁ := []) (by rw [hd]; rfl)).trans (by rw [push_DO]; rfl)
    have no : ∀ e ∈ es, e.hash ≠ hashInt k := fun e he => by
      have := hoff e he sub[i] (by rw [hcut]; exact .head _)
      rwa [hk] at this
    refine (Runs.bind (n := 6) (m := 6 * n) (a := ForInStep.yield PUnit.unit) (s₁ := { s with heap := HH A life (DO (es ++ [en k t v]) (ep + 1) :: (subs ++ [DO sub q])) }) ?_ ?_).more (by omega)
    · refine (Runs.bind (n := 1) (m := 5) (runs_entries (hox _ _ _ hh)) ?_)
      rw [show (sub.toArray)[i]? = some (en k t v) from by rw [List.getElem?_toArray, List.getElem?_eq_getElem hi', hk]]
      dsimp only
      refine (Runs.bind (n := 4) (m := 1) (Runs.holding (runs_put hn (hod _ _ _ hh) no (by omega) hu (hod _ _ _ rfl))) ?_)
      refine (Runs.bind (n := 1) (m := 0) (runs_epoch (s := { s with heap := HH A life (DO (es ++ [en k t v]) (ep + 1) :: (subs ++ [DO sub q])) }) (hox _ _ _ rfl)) ?_)
      rw [if_neg (by simp)]
      exact .pure _ _
    · have := runs_mergeLoop hn hd ha sub q hen hap n (i + 1) { s with heap := HH A life (DO (es ++ [en k t v]) (ep + 1) :: (subs ++ [DO sub q])) } (es ++ [en k t v]) (ep + 1) (by omega) rfl
        (fun e he x hx => by
          rcases List.mem_append.mp he with he | he
          · exact hoff e he x (by rw [hcut]; exact .tail _ hx)
          · rw [List.mem_singleton.mp he, ← hk]
            have hp := List.Pairwise.sublist (List.drop_sublist i sub) hap
            rw [hcut] at hp
            exact (List.pairwise_cons.mp hp).1 x hx) (by simp; omega)
      rw [hcut, hk, show es ++ en k t v :: sub.drop (i + 1) = es ++ [en k t v] ++ sub.drop (i + 1) by simp, show ep + (n + 1) = ep + 1 + n by omega]
      exact this

theorem runs_merge (hn : n₀ ≤ d) (hd : d = A.size) (ha : a = A.size + 1 + subs.length) (hsys : (a == sysModules) = false) (sub : List DictEntry) (q : Nat) (hen : AllEn sub) (hap : sub.Pairwise fun x y => x.hash ≠ y.hash)
    (s : Shared) (es : List DictEntry) (ep : Nat) (hne : es ≠ []) (hh : s.heap = HH A life (DO es ep :: (subs ++ [DO sub q]))) (hoff : OffE es sub) (hl : es.length + sub.length < 100000) :
    Runs treeTable p w n₀ (6 * sub.length + 5) (mergeMapping d (.ref a) false) s () { s with heap := HH A life (DO (es ++ sub) (ep + sub.length) :: (subs ++ [DO sub q])) } := by
  have hox : s.heap.get? a = some (DO sub q) := by
    rw [hh, show DO es ep :: (subs ++ [DO sub q]) = (DO es ep :: subs) ++ DO sub q :: [] from rfl]
    exact HH.get (by rw [ha, List.length_cons]; omega)
  have hod : s.heap.get? d = some (DO es ep) := by rw [hh]; exact HH.get (os₁ := []) (by rw [hd]; rfl)
  unfold mergeMapping
  simp only [Bool.false_eq_true, if_false]
  refine (Runs.bind (n := 1) (m := 6 * sub.length + 4) (a := true) (s₁ := s) ?_ ?_).more (by omega)
  · show Runs treeTable p w n₀ 1 (do let T ← loadPart a (some headPart) >>= fun o => pure o.cls; isSubtype T (.type "dict")) s _ _
    refine Runs.bind (n := 1) (m := 0) (Runs.bind (n := 1) (m := 0) (a := DO sub q) (s₁ := s) (.load hox (.pure _ _)) (.pure _ _)) ?_
    rw [sub_dict]; exact .pure _ _
  simp only [if_true]
  refine (Runs.bind (n := 1) (m := 6 * sub.length + 3) (a := some (Value.builtin "dict.__iter__")) (s₁ := s) ?_ ?_).more (by omega)
  · show Runs treeTable p w n₀ 1 (do let T ← loadPart a (some headPart) >>= fun o => pure o.cls; typeLookup T "__iter__") s _ _
    refine Runs.bind (n := 1) (m := 0) (Runs.bind (n := 1) (m := 0) (a := DO sub q) (s₁ := s) (.load hox (.pure _ _)) (.pure _ _)) ?_
    rw [iter_dict]; exact .pure _ _
  refine (Runs.bind (n := 0) (m := 6 * sub.length + 3) (a := true) (s₁ := s) ?_ ?_).more (by omega)
  · rw [show (some (Value.builtin "dict.__iter__") == some (Value.builtin "dict.__iter__")) = true from by decide +kernel]; exact .pure _ _
  dsimp only
  rw [if_neg (by rw [hsys]; exact Bool.false_ne_true)]
  refine (Runs.bind (n := 1) (m := 6 * sub.length + 2) (runs_entries hod) ?_).more (by omega)
  rw [if_neg (by simpa using hne)]
  refine (Runs.bind (n := 1) (m := 6 * sub.length + 1) (runs_entries hox) ?_).more (by omega)
  refine (Runs.bind (n := 1) (m := 6 * sub.length) (runs_epoch hox) ?_).more (by omega)
  refine (Runs.bind (n := 6 * sub.length) (m := 0) (a := PUnit.unit) ?_ (.pure _ _))
  rw [List.size_toArray, List.range_eq_range']
  exact runs_mergeLoop hn hd ha sub q hen hap sub.length 0 s es ep (by omega) hh (by rw [List.drop_zero]; exact hoff) hl
end
end Mine
end

section
open PySem PySem.W PyProof.Rows
set_option Elab.async false
set_option maxRecDepth 100000
namespace Mine
def laysS (t : Nat) : List IT → List DictEntry
  | [] => []
  | q :: r => en q.1 t (.str q.2 (t + 1)) :: laysS (t + 2) r
def laysV (t : Nat) : List IT → List (Value × Value)
  | [] => []
  | q :: r => (.int q.1 t, .str q.2 (t + 1)) :: laysV (t + 2) r
theorem laysS_length : ∀ (l : List IT) (t : Nat), (laysS t l).length = l.length
  | [], _ => rfl
  | _ :: r, t => by simp [laysS, laysS_length r]
theorem laysV_length : ∀ (l : List IT) (t : Nat), (laysV t l).length = l.length
  | [], _ => rfl
  | _ :: r, t => by simp [laysV, laysV_length r]
theorem lays_en : ∀ (l : List IT) (t : Nat), AllEn (lays t l)
  | [], _ => fun e he => nomatch he
  | q :: r, t => fun e he => by
    rcases List.mem_cons.mp he with h | h
    · exact ⟨_, _, _, h⟩
    · exact lays_en r _ e h
theorem laysS_en : ∀ (l : List IT) (t : Nat), AllEn (laysS t l)
  | [], _ => fun e he => nomatch he
  | q :: r, t => fun e he => by
    rcases List.mem_cons.mp he with h | h
    · exact ⟨_, _, _, h⟩
    · exact laysS_en r _ e h
theorem lays_hash : ∀ (l : List IT) (t : Nat), (lays t l).map (·.hash) = l.map fun q => hashInt q.1
  | [], _ => rfl
  | q :: r, t => by simp [lays, lays_hash r]
theorem laysS_hash : ∀ (l : List IT) (t : Nat), (laysS t l).map (·.hash) = l.map fun q => hashInt q.1
  | [], _ => rfl
  | q :: r, t => by simp [laysS, laysS_hash r]
theorem apart_of {l : List IT} {es : List DictEntry} (h : es.map (·.hash) = l.map fun q => hashInt q.1) (ha : Apart (l.map (·.1))) : es.Pairwise fun x y => x.hash ≠ y.hash := by
  have : (es.map (·.hash)).Pairwise (· ≠ ·) := by
    rw [h, List.pairwise_map]
    unfold Apart at ha
    rwa [List.pairwise_map] at ha
  rwa [List.pairwise_map] at this
theorem offE_of {l : List IT} {es es' : List DictEntry} (h : es'.map (·.hash) = l.map fun q => hashInt q.1) (ho : Off es l) : OffE es es' := by
  intro e he x hx
  have : x.hash ∈ es'.map (·.hash) := List.mem_map_of_mem hx
  rw [h] at this
  obtain ⟨q, hq, e'⟩ := List.mem_map.mp this
  rw [← e']
  exact ho e he q hq

section
variable {p : Program} {w : World} {n₀ : Nat} {A : Array Obj} {life : Life} {os : List Obj}

theorem runs_subLong (pos : Pos) (l : List IT) (s : Shared) (hn : n₀ ≤ A.size) (hh : s.heap = HH A life os) (ha : Apart (l.map (·.1))) (h15 : 15 < l.length) (hl : l.length < 100000) :
    Runs treeTable p w n₀ (14 * l.length + 2) (subDict (l.map (pairR pos))) s (A.size + os.length) { s with heap := HH A life (os ++ [DO (lays s.toks l) l.length]), toks := s.toks + 3 * l.length } := by
  unfold subDict
  have hsz : s.heap.objs.size = A.size + os.length := by rw [hh]; exact HH.size
  refine (Runs.bind (n := 1) (m := 14 * l.length + 1) (a := A.size + os.length) (s₁ := { s with heap := HH A life (os ++ [DO [] 0]) }) ?_ ?_).more (by omega)
  · have := Runs.alloc (tb := treeTable) (p := p) (w := w) (n₀ := n₀) (n := 0) (o := DO [] 0) (k := Sem.pure) (s := s) (.pure _ _)
    rw [hh] at this
    rw [HH.psh, HH.size] at this
    exact this
  refine (Runs.bind (n := 14 * l.length + 1) (m := 0) (a := ()) (Runs.holding ?_) (.pure _ _))
  rw [if_neg (by rw [List.length_map]; omega)]
  refine (Runs.bind (n := 1) (m := 14 * l.length) (.rule (.pure _ _)) ?_).more (by omega)
  refine (Runs.bind (n := 14 * l.length) (m := 0) (a := PUnit.unit) ?_ (.pure _ _))
  have := runs_long (p := p) (w := w) (n₀ := n₀) (A := A) (life := life) (os₁ := os) (os₂ := []) (d := A.size + os.length) pos l { s with heap := HH A life (os ++ [DO [] 0]) } [] 0 (by have : A.size ≤ A.size + os.length := Nat.le_add_right _ _; exact Nat.le_trans hn this) rfl rfl ha (fun e he => nomatch he) (by simpa using hl)
  rw [List.nil_append, Nat.zero_add] at this
  exact this

theorem runs_evalPairs (pos : Pos) : ∀ (l : List IT) (s : Shared), Runs treeTable p w n₀ (3 * l.length) (evalPairs (l.map (pairR pos))) s (laysV s.toks l) { s with toks := s.toks + 2 * l.length }
  | [], s => .pure _ _
  | q :: r, s => by
    rw [List.map_cons]
    show Runs treeTable p w n₀ (3 * (q :: r).length) (evalPairs ((mkInt q.1, (pairR pos q).2) :: r.map (pairR pos))) s _ _
    rw [evalPairs]
    refine (Runs.bind (n := 1) (m := 3 * r.length + 2) (runs_int q.1 s) ?_).more (by rw [List.length_cons]; omega)
    refine (Runs.bind (n := 2) (m := 3 * r.length) (a := .str q.2 (s.toks + 1)) (s₁ := { s with toks := s.toks + 2 }) (Runs.holding ?_) ?_).more (by omega)
    · exact Runs.bind (n := 1) (m := 1) (runs_text q.2 _) (Runs.bind (n := 1) (m := 0) (.at (.pure _ _)) (.pure _ _))
    · refine (Runs.bind (n := 3 * r.length) (m := 0) (a := laysV (s.toks + 2) r) (Runs.holding (runs_evalPairs pos r { s with toks := s.toks + 2 })) ?_)
      have e : s.toks + 2 + 2 * r.length = s.toks + 2 * (q :: r).length := by rw [List.length_cons]; omega
      show Runs treeTable p w n₀ 0 (pure _) { s with toks := s.toks + 2 + 2 * r.length } _ _
      rw [e]
      exact .pure _ _

theorem runs_storeAll : ∀ (l : List IT) (t : Nat) (s : Shared) (es : List DictEntry) (ep : Nat), n₀ ≤ A.size → s.heap = HH A life (os ++ [DO es ep]) → Apart (l.map (·.1)) → Off es l → es.length + l.length < 100000 →
    Runs treeTable p w n₀ (11 * l.length) (forIn (laysV t l) PUnit.unit fun (x : Value × Value) (_ : PUnit) => (do dictSet (A.size + os.length) x.1 x.2; pure (ForInStep.yield PUnit.unit) : Sem (ForInStep PUnit))) s PUnit.unit
      { s with heap := HH A life (os ++ [DO (es ++ laysS t l) (ep + l.length)]), toks := s.toks + l.length }
  | [], t, s, es, ep, _, hh, _, _, _ => by
    have : ({ s with heap := HH A life (os ++ [DO (es ++ laysS t []) (ep + ([] : List IT).length)]), toks := s.toks + ([] : List IT).length } : Shared) = s := by
      obtain ⟨h, g, dr, tk, o⟩ := s
      simp only at hh
      subst hh
      simp [laysS]
    rw [this]
    exact .pure _ _
  | q :: r, t, s, es, ep, hn, hh, ha, hoff, hl => by
    obtain ⟨ha1, ha2⟩ := List.pairwise_cons.mp ha
    rw [laysV, List.forIn_cons]
    have ho : s.heap.get? (A.size + os.length) = some (DO es ep) := by rw [hh]; exact HH.get (os₂ := []) rfl
    have hu : s.heap.update (A.size + os.length) (Obj.mapDictKeys (·.push (en q.1 t (.str q.2 (t + 1))))) = HH A life (os ++ [DO (es ++ [en q.1 t (.str q.2 (t + 1))]) (ep + 1)]) := by
      rw [hh]; exact (HH.upd (os₂ := []) rfl).trans (by rw [push_DO])
    have hd : n₀ ≤ A.size + os.length := Nat.le_trans hn (Nat.le_add_right _ _)
    refine (Runs.bind (n := 11) (m := 11 * r.length) (a := ForInStep.yield PUnit.unit) (s₁ := { s with heap := HH A life (os ++ [DO (es ++ [en q.1 t (.str q.2 (t + 1))]) (ep + 1)]), toks := s.toks + 1 }) ?_ ?_).more (by rw [List.length_cons]; omega)
    · exact Runs.bind (n := 11) (m := 0) (a := ()) (runs_set hd ho (fun e he => hoff e he q (.head _)) (by simp at hl; omega) hu (HH.get (os₂ := []) rfl)) (.pure _ _)
    · have := runs_storeAll r (t + 2) { s with heap := HH A life (os ++ [DO (es ++ [en q.1 t (.str q.2 (t + 1))]) (ep + 1)]), toks := s.toks + 1 } _ _ hn rfl ha2
        (fun e he x hx => by
          rcases List.mem_append.mp he with he | he
          · exact hoff e he x (.tail _ hx)
          · rw [List.mem_singleton.mp he]
            exact ha1 x.1 (List.mem_map_of_mem hx)) (by simp at hl ⊢; omega)
      have e1 : es ++ laysS t (q :: r) = es ++ [en q.1 t (.str q.2 (t + 1))] ++ laysS (t + 2) r := by simp [laysS]
      have e2 : ep + (q :: r).length = ep + 1 + r.length := by simp; omega
      have e3 : s.toks + (q :: r).length = s.toks + 1 + r.length := by simp; omega
      rw [e1, e2, e3]
      exact this

theorem runs_subShort (pos : Pos) (l : List IT) (s : Shared) (hn : n₀ ≤ A.size) (hh : s.heap = HH A life os) (ha : Apart (l.map (·.1))) (h15 : l.length ≤ 15) :
    Runs treeTable p w n₀ (14 * l.length + 1) (subDict (l.map (pairR pos))) s (A.size + os.length) { s with heap := HH A life (os ++ [DO (laysS s.toks l) l.length]), toks := s.toks + 3 * l.length } := by
  unfold subDict
  have hsz : s.heap.objs.size = A.size + os.length := by rw [hh]; exact HH.size
  refine (Runs.bind (n := 1) (m := 14 * l.length) (a := A.size + os.length) (s₁ := { s with heap := HH A life (os ++ [DO [] 0]) }) ?_ ?_).more (by omega)
  · have := Runs.alloc (tb := treeTable) (p := p) (w := w) (n₀ := n₀) (n := 0) (o := DO [] 0) (k := Sem.pure) (s := s) (.pure _ _)
    rw [hh] at this
    rw [HH.psh, HH.size] at this
    exact this
  refine (Runs.bind (n := 14 * l.length) (m := 0) (a := ()) (Runs.holding ?_) (.pure _ _))
  rw [if_pos (by rw [List.length_map]; exact h15)]
  refine (Runs.bind (n := 3 * l.length) (m := 11 * l.length) (runs_evalPairs pos l _) ?_).more (by omega)
  refine Runs.holding ?_
  refine (Runs.bind (n := 11 * l.length) (m := 0) (a := PUnit.unit) ?_ (.pure _ _))
  have := runs_storeAll (p := p) (w := w) (n₀ := n₀) (A := A) (life := life) (os := os) l s.toks { s with heap := HH A life (os ++ [DO [] 0]), toks := s.toks + 2 * l.length } [] 0 hn rfl ha (fun e he => nomatch he) (by simp; omega)
  rw [List.nil_append, Nat.zero_add, show (s.toks + 2 * l.length) + l.length = s.toks + 3 * l.length by omega] at this
  exact this
end
end Mine
end

section
open PySem PySem.W PyProof.Rows
set_option Elab.async false
set_option maxRecDepth 100000
namespace Mine
def flushQ (run : List Pair) (main : Option Addr) : Sem (Option Addr) :=
  if run.isEmpty then pure main
  else match main with
    | none => do let x ← subDict run; pure (some x)
    | some d => do
      let sub ← holding [.ref d] (subDict run)
      (holding [.ref d, .ref sub] (mergeMapping d (.ref sub) false)).onRaise fun x => do let _ ← holding [.ref d, x] (runValue (.builtin "proto.let_go" {}))
      pure (some d)
abbrev Item := Option (Sem Value) × Sem Value
def itemOf (pos : Pos) (q : IT) : Item := (some (mkInt q.1), (pairR pos q).2)

/-- what a display's loop does of an item with a key -/
structure Loop (f : Item → Option Addr × List Pair → Sem (ForInStep (Option Addr × List Pair))) : Prop where
  few : ∀ k v main run, run.length + 1 ≠ 17 → f (some k, v) (main, run) = pure (.yield (main, run ++ [(k, v)]))
  full : ∀ k v main run, run.length + 1 = 17 → f (some k, v) (main, run) = (flushQ (run ++ [(k, v)]) main >>= fun m => pure (.yield (m, [])))

theorem display_loop (items : List Item) : ∃ f, Loop f ∧ dictDisplay items = (forIn items (none, []) f >>= fun r => flushQ r.2 r.1 >>= fun x => match x with | some d => pure (.ref d) | none => newDict) := by
  unfold dictDisplay
  dsimp only
  refine ⟨_, ⟨fun k v main run h => ?_, fun k v main run h => ?_⟩, rfl⟩
  · dsimp only
    rw [if_neg (by simpa using h)]
  · dsimp only
    rw [if_pos (by simpa using h)]
    rfl

section
variable {f : Item → Option Addr × List Pair → Sem (ForInStep (Option Addr × List Pair))}
theorem Loop.acc (F : Loop f) (pos : Pos) (main : Option Addr) (rest : List Item) : ∀ (l : List IT) (run : List Pair), run.length + l.length ≤ 16 →
    forIn (l.map (itemOf pos) ++ rest) (main, run) f = forIn rest (main, run ++ l.map (pairR pos)) f
  | [], run, _ => by simp
  | q :: r, run, h => by
    rw [List.map_cons, List.cons_append, List.forIn_cons]
    show (f (some (mkInt q.1), (pairR pos q).2) (main, run) >>= _) = _
    rw [F.few _ _ _ _ (by simp at h; omega), pure_bind]
    have := Loop.acc F pos main rest r (run ++ [pairR pos q]) (by simp at h ⊢; omega)
    rw [List.map_cons, show run ++ pairR pos q :: r.map (pairR pos) = run ++ [pairR pos q] ++ r.map (pairR pos) by simp]
    exact this
theorem Loop.chunk (F : Loop f) (pos : Pos) (main : Option Addr) (rest : List Item) (l : List IT) (h : l.length = 17) :
    forIn (l.map (itemOf pos) ++ rest) (main, []) f = (flushQ (l.map (pairR pos)) main >>= fun m => forIn rest (m, []) f) := by
  obtain ⟨l', q, rfl⟩ : ∃ l' q, l = l' ++ [q] := ⟨l.dropLast, l.getLast (by intro e; simp [e] at h), (List.dropLast_concat_getLast _).symm⟩
  have hl' : l'.length = 16 := by simp at h; omega
  rw [List.map_append, List.append_assoc, F.acc pos main _ l' [] (by simp; omega), List.nil_append]
  show forIn ((some (mkInt q.1), (pairR pos q).2) :: rest) (main, l'.map (pairR pos)) f = _
  rw [List.forIn_cons, F.full _ _ _ _ (by simp; omega), bind_assoc]
  rw [List.map_append]
  simp only [pure_bind]
  rfl
end

structure St where
  es : List DictEntry
  ep : Nat
  subs : List Obj
  tk : Nat
def St.first (t : Nat) (c : List IT) : St := ⟨lays t c, c.length, [], t + 3 * c.length⟩
def St.step (x : St) (c : List IT) : St := ⟨x.es ++ lays x.tk c, x.ep + c.length, x.subs ++ [DO (lays x.tk c) c.length], x.tk + 3 * c.length⟩
def St.last (x : St) (c : List IT) : St := ⟨x.es ++ laysS x.tk c, x.ep + c.length, x.subs ++ [DO (laysS x.tk c) c.length], x.tk + 3 * c.length⟩
def St.at (x : St) (A : Array Obj) (life : Life) (s : Shared) : Shared := { s with heap := HH A life (DO x.es x.ep :: x.subs), toks := x.tk }

section
variable {p : Program} {w : World} {n₀ : Nat} {A : Array Obj} {life : Life}

theorem Off.of_hash {es : List DictEntry} {l₁ l₂ : List IT} (h : es.map (·.hash) = l₁.map fun q => hashInt q.1) (ha : Apart ((l₁ ++ l₂).map (·.1))) : Off es l₂ := by
  intro e he q hq
  have : e.hash ∈ es.map (·.hash) := List.mem_map_of_mem he
  rw [h] at this
  obtain ⟨x, hx, e'⟩ := List.mem_map.mp this
  rw [← e']
  unfold Apart at ha
  rw [List.map_append, List.pairwise_append] at ha
  exact ha.2.2 x.1 (List.mem_map_of_mem hx) q.1 (List.mem_map_of_mem hq)

theorem runs_flushFirst (pos : Pos) (c : List IT) (s : Shared) (hn : n₀ ≤ A.size) (hh : s.heap = ⟨A, life⟩) (ha : Apart (c.map (·.1))) (hc : c.length = 17) :
    Runs treeTable p w n₀ 400 (flushQ (c.map (pairR pos)) none) s (some A.size) ((St.first s.toks c).at A life s) := by
  unfold flushQ
  rw [if_neg (by cases c with | nil => simp at hc | cons => simp)]
  dsimp only
  have h1 := runs_subLong (p := p) (w := w) (n₀ := n₀) (A := A) (life := life) (os := []) pos c s hn (by rw [hh]; simp [HH]) ha (by rw [hc]; decide) (by rw [hc]; decide)
  have h2 : Runs treeTable p w n₀ (14 * c.length + 2 + 0) (subDict (c.map (pairR pos)) >>= fun x => (pure (some x) : Sem (Option Addr))) s (some (A.size + ([] : List Obj).length)) ((St.first s.toks c).at A life s) := Runs.bind h1 (.pure _ _)
  exact h2.more (by rw [hc]; decide)

theorem runs_flushNext (pos : Pos) (c : List IT) (x : St) (s : Shared) (hn : n₀ ≤ A.size) (hsys : @LT.lt Nat _ sysModules A.size) (ha : Apart (c.map (·.1))) (hc : c.length = 17) (hne : x.es ≠ []) (hoff : Off x.es c) (hl : x.es.length < 50000) :
    Runs treeTable p w n₀ 400 (flushQ (c.map (pairR pos)) (some A.size)) (x.at A life s) (some A.size) ((x.step c).at A life s) := by
  unfold flushQ
  rw [if_neg (by cases c with | nil => simp at hc | cons => simp)]
  refine (Runs.bind (n := 14 * c.length + 2) (m := 6 * c.length + 5) (a := A.size + (DO x.es x.ep :: x.subs).length) (Runs.holding (runs_subLong (A := A) (life := life) (os := DO x.es x.ep :: x.subs) pos c (x.at A life s) hn rfl ha (by omega) (by omega))) ?_).more (by omega)
  refine (Runs.bind (n := 6 * c.length + 5) (m := 0) (a := ()) (Runs.onRaise (Runs.holding ?_)) (.pure _ _))
  have hlen := lays_length c x.tk
  have := runs_merge (p := p) (w := w) (n₀ := n₀) (A := A) (life := life) (subs := x.subs) (d := A.size) (a := A.size + (DO x.es x.ep :: x.subs).length) hn rfl (by show @Eq Nat _ _; rw [List.length_cons]; omega)
    (by rw [beq_eq_false_iff_ne]; intro e; have : @LE.le Nat _ A.size sysModules := e ▸ Nat.le_add_right _ _; omega) (lays x.tk c) c.length (lays_en _ _) (apart_of (lays_hash _ _) ha)
    { x.at A life s with heap := HH A life (DO x.es x.ep :: (x.subs ++ [DO (lays x.tk c) c.length])), toks := x.tk + 3 * c.length } x.es x.ep hne rfl (offE_of (lays_hash _ _) hoff) (by omega)
  rw [hlen] at this
  exact this

theorem runs_flushLast (pos : Pos) (c : List IT) (x : St) (s : Shared) (hn : n₀ ≤ A.size) (hsys : @LT.lt Nat _ sysModules A.size) (ha : Apart (c.map (·.1))) (hc : c.length ≤ 15) (hc0 : c ≠ []) (hne : x.es ≠ []) (hoff : Off x.es c) (hl : x.es.length < 50000) :
    Runs treeTable p w n₀ 400 (flushQ (c.map (pairR pos)) (some A.size)) (x.at A life s) (some A.size) ((x.last c).at A life s) := by
  unfold flushQ
  rw [if_neg (by cases c with | nil => exact absurd rfl hc0 | cons => simp)]
  refine (Runs.bind (n := 14 * c.length + 1) (m := 6 * c.length + 5) (a := A.size + (DO x.es x.ep :: x.subs).length) (Runs.holding (runs_subShort (A := A) (life := life) (os := DO x.es x.ep :: x.subs) pos c (x.at A life s) hn rfl ha hc)) ?_).more (by omega)
  refine (Runs.bind (n := 6 * c.length + 5) (m := 0) (a := ()) (Runs.onRaise (Runs.holding ?_)) (.pure _ _))
  have hlen := laysS_length c x.tk
  have := runs_merge (p := p) (w := w) (n₀ := n₀) (A := A) (life := life) (subs := x.subs) (d := A.size) (a := A.size + (DO x.es x.ep :: x.subs).length) hn rfl (by show @Eq Nat _ _; rw [List.length_cons]; omega)
    (by rw [beq_eq_false_iff_ne]; intro e; have : @LE.le Nat _ A.size sysModules := e ▸ Nat.le_add_right _ _; omega) (laysS x.tk c) c.length (laysS_en _ _) (apart_of (laysS_hash _ _) ha)
    { x.at A life s with heap := HH A life (DO x.es x.ep :: (x.subs ++ [DO (laysS x.tk c) c.length])), toks := x.tk + 3 * c.length } x.es x.ep hne rfl (offE_of (laysS_hash _ _) hoff) (by omega)
  rw [hlen] at this
  exact this

theorem runs_chunks (pos : Pos) (s : Shared) (hn : n₀ ≤ A.size) (hsys : @LT.lt Nat _ sysModules A.size) {f : Item → Option Addr × List Pair → Sem (ForInStep (Option Addr × List Pair))} (F : Loop f) (tail : List IT) (ht : tail.length ≤ 15) :
    ∀ (cs : List (List IT)) (x : St) (done : List IT), x.es.map (·.hash) = done.map (fun q => hashInt q.1) → x.es ≠ [] → Apart ((done ++ (cs.flatten ++ tail)).map (·.1)) → (∀ c ∈ cs, c.length = 17) → done.length + 17 * cs.length < 50000 →
      Runs treeTable p w n₀ (400 * cs.length) (forIn ((cs.flatten ++ tail).map (itemOf pos)) (some A.size, []) f) (x.at A life s) (some A.size, tail.map (pairR pos)) ((cs.foldl St.step x).at A life s)
  | [], x, done, _, _, _, _, _ => by
    rw [show ([] : List (List IT)).flatten ++ tail = tail from rfl]
    have := F.acc pos (some A.size) [] tail [] (by simp; omega)
    rw [List.append_nil] at this
    rw [this]
    exact .pure _ _
  | c :: cs, x, done, hx, hne, ha, hlen, hb => by
    have hc := hlen c (.head _)
    have hlx : x.es.length = done.length := by have := congrArg List.length hx; simpa using this
    rw [show (c :: cs).flatten ++ tail = c ++ (cs.flatten ++ tail) by simp, List.map_append, F.chunk pos _ _ c hc]
    rw [show done ++ ((c :: cs).flatten ++ tail) = (done ++ c) ++ (cs.flatten ++ tail) by simp] at ha
    have hac : Apart ((done ++ c).map (·.1)) := by
      unfold Apart at ha ⊢
      rw [List.map_append, List.pairwise_append] at ha
      exact ha.1
    have hac' : Apart (c.map (·.1)) := by
      unfold Apart at hac ⊢
      rw [List.map_append, List.pairwise_append] at hac
      exact hac.2.1
    have hoff : Off x.es c := Off.of_hash hx hac
    simp only [List.length_cons] at hb
    refine (Runs.bind (n := 400) (m := 400 * cs.length) (runs_flushNext pos c x s hn hsys hac' hc hne hoff (by omega)) ?_).more (by rw [List.length_cons]; omega)
    refine runs_chunks pos s hn hsys F tail ht cs (x.step c) (done ++ c) ?_ (by simp [St.step, hne]) ha (fun c' h' => hlen c' (.tail _ h')) (by rw [List.length_append]; omega)
    show (x.es ++ lays x.tk c).map (·.hash) = _
    rw [List.map_append, List.map_append, hx, lays_hash]

theorem flat_len : ∀ (cs : List (List IT)), (∀ c ∈ cs, c.length = 17) → cs.flatten.length = 17 * cs.length
  | [], _ => rfl
  | c :: cs, h => by
    rw [List.flatten_cons, List.length_append, flat_len cs fun c' h' => h c' (.tail _ h'), h c (.head _), List.length_cons]; omega

theorem runs_display (pos : Pos) (c₀ : List IT) (cs : List (List IT)) (tail : List IT) (s : Shared) (hn : n₀ ≤ A.size) (hsys : @LT.lt Nat _ sysModules A.size) (hh : s.heap = ⟨A, life⟩) (h0 : c₀.length = 17) (ht : tail.length ≤ 15) (ht0 : tail ≠ [])
    (ha : Apart ((c₀ ++ (cs.flatten ++ tail)).map (·.1))) (hlen : ∀ c ∈ cs, c.length = 17) (hb : 17 * cs.length < 40000) :
    Runs treeTable p w n₀ (400 * cs.length + 800) (dictDisplay ((c₀ ++ (cs.flatten ++ tail)).map (itemOf pos))) s (.ref A.size) (((cs.foldl St.step (St.first s.toks c₀)).last tail).at A life s) := by
  obtain ⟨f, F, e⟩ := display_loop ((c₀ ++ (cs.flatten ++ tail)).map (itemOf pos))
  rw [e, List.map_append, F.chunk pos _ _ c₀ h0]
  have ha0 : Apart (c₀.map (·.1)) := by
    unfold Apart at ha ⊢
    rw [List.map_append, List.pairwise_append] at ha
    exact ha.1
  have hhash : (St.first s.toks c₀).es.map (·.hash) = c₀.map fun q => hashInt q.1 := lays_hash _ _
  have hne : (St.first s.toks c₀).es ≠ [] := by
    intro e'
    have := lays_length c₀ s.toks
    rw [show lays s.toks c₀ = [] from e', h0] at this
    cases this
  have fold : ∀ (cs : List (List IT)) (x : St) (done : List IT), x.es.map (·.hash) = done.map (fun q => hashInt q.1) → (cs.foldl St.step x).es.map (·.hash) = (done ++ cs.flatten).map fun q => hashInt q.1 := by
    intro cs
    induction cs with
    | nil => intro x done h; simpa using h
    | cons c cs ih =>
      intro x done h
      have := ih (x.step c) (done ++ c) (by show (x.es ++ lays x.tk c).map (·.hash) = _; rw [List.map_append, List.map_append, h, lays_hash])
      simpa using this
  have hf := fold cs (St.first s.toks c₀) c₀ hhash
  have hflen : (cs.foldl St.step (St.first s.toks c₀)).es.length = 17 + (cs.flatten).length := by
    have := congrArg List.length hf
    rwa [List.length_map, List.length_map, List.length_append, h0] at this
  have hfl : cs.flatten.length = 17 * cs.length := flat_len cs hlen
  have ha' : Apart (((c₀ ++ cs.flatten) ++ tail).map (·.1)) := by rw [List.append_assoc]; exact ha
  have hat : Apart (tail.map (·.1)) := by
    unfold Apart at ha' ⊢
    rw [List.map_append, List.pairwise_append] at ha'
    exact ha'.2.1
  refine (Runs.bind (n := 400 + 400 * cs.length) (m := 400) (a := (some A.size, tail.map (pairR pos))) (s₁ := (cs.foldl St.step (St.first s.toks c₀)).at A life s) ?_ ?_).more (by omega)
  · refine (Runs.bind (n := 400) (m := 400 * cs.length) (runs_flushFirst pos c₀ s hn hh ha0 h0) ?_)
    exact runs_chunks pos s hn hsys F tail ht cs _ c₀ hhash hne ha hlen (by omega)
  · refine (Runs.bind (n := 400) (m := 0) (runs_flushLast pos tail _ s hn hsys hat ht ht0 ?_ (Off.of_hash hf ha') (by omega)) (.pure _ _))
    intro e'
    rw [e'] at hflen
    simp at hflen
    omega
end
end Mine
end

section
open PySem PySem.W PyProof.Rows
set_option Elab.async false
set_option maxRecDepth 100000
set_option maxHeartbeats 0
namespace Mine
abbrev PW : Program := PySem.Challenge.pw_ta0047_01
abbrev q0 : Pos := { line := 0, col := 0, endLine := 0, endCol := 0 }
@[irreducible] def env1 : Env := { scope := PW.main.scope, locals := mainNs, globals := mainNs, cells := [], code := .ref 30, frame := some 31 }
noncomputable abbrev cdB : Code := Code.body (behindTheImports PW) env1
/-- a world of these parameters that does not follow the one row that the top asks beside a set's -/
noncomputable abbrev W0 (P : Params) : World := World.withFollow ⟨fun _ _ => 0, P⟩ "special-get-raises" false
@[irreducible] noncomputable def H₀ (P : Params) : Heap := match fencedOpening treeTable PW (W0 P) 60000 with | some s => s.heap | none => ⟨#[], {}⟩
theorem opens (w : World) : (fencedOpening treeTable PW w 60000).map (fun s => (s.heap, s.gens, s.drawn, s.toks)) = some (H₀ w.params, #[], {}, 276) := by
  unfold H₀ fencedOpening
  rw [PySem.W.Fast.te10274390034422433532, PySem.W.Fast.te14289696077712309145, PySem.W.Fast.te1435165496053646825, PySem.W.Fast.te14364793385576792824]
  kernel_rfl
end Mine
end

section
open PySem PySem.W PyProof.Rows
set_option Elab.async false
set_option maxRecDepth 100000
set_option maxHeartbeats 0
namespace Mine
theorem sizes (w : World) : ((H₀ w.params).isNs mainGlobals && (#[] : Array GenState).size == 0, (H₀ w.params).objs.size, (H₀ w.params).nsMap mainGlobals "__annotations__") = (true, 28, some (.ref 6)) := by
  unfold H₀ fencedOpening
  rw [PySem.W.Fast.te10274390034422433532, PySem.W.Fast.te14289696077712309145, PySem.W.Fast.te1435165496053646825, PySem.W.Fast.te14364793385576792824]
  kernel_rfl
@[irreducible] noncomputable def H32 (P : Params) : Heap := match topGo treeTable PW (W0 P) 28 (some (.ref 6)) 12 ⟨H₀ P, #[], {}, 276, {}⟩ (topStub PW) with | some (s, _) => s.heap | none => ⟨#[], {}⟩
theorem toBlock (w : World) (os : OsState) : topGo treeTable PW w 28 (some (.ref 6)) 12 ⟨H₀ w.params, #[], {}, 276, os⟩ (topStub PW) = some (⟨H32 w.params, #[], {}, 282, os⟩, ⟨denote treeTable cdB, cdB, q0, [topFrame q0]⟩) := by
  unfold H32 H₀ fencedOpening
  rw [PySem.W.Fast.te10274390034422433532, PySem.W.Fast.te14289696077712309145, PySem.W.Fast.te1435165496053646825, PySem.W.Fast.te15667345088766844465, PySem.W.Fast.te11892475500146522536, PySem.W.Fast.te14364793385576792824]
  kernel_rfl
def insAll : BT → Nat → List Obj → BT
  | t, _, [] => t
  | t, n, o :: r => insAll (t.ins n o) (n + 1) r
def insOk : BT → Nat → List Obj → Bool
  | _, _, [] => true
  | t, n, o :: r => ((t.ins n o).get n).isSome && insOk (t.ins n o) (n + 1) r
theorem insAll_abs (life : Life) : ∀ (os : List Obj) (t : BT) (n : Nat) (A : Array Obj) (pre : List Obj), insOk t n os = true → absHeap t n life = HH A life pre → absHeap (insAll t n os) (n + os.length) life = HH A life (pre ++ os)
  | [], t, n, A, pre, _, h => by simpa [insAll] using h
  | o :: r, t, n, A, pre, hk, h => by
    simp only [insOk, Bool.and_eq_true] at hk
    have h1 : absHeap (t.ins n o) (n + 1) life = HH A life (pre ++ [o]) := by rw [absHeap_ins hk.1, h, HH.psh]
    have := insAll_abs life r (t.ins n o) (n + 1) A (pre ++ [o]) hk.2 h1
    rw [show n + (o :: r).length = n + 1 + r.length by simp; omega, show pre ++ o :: r = pre ++ [o] ++ r by simp]
    exact this
@[irreducible] noncomputable def T32 (P : Params) : BT := insAll .nil 0 (H32 P).objs.toList
theorem T32_all (P : Params) : (insOk .nil 0 (H32 P).objs.toList && ((H32 P).objs.toList.length == 32), (H32 P).life) = (true, {}) := by
  unfold H32 H₀ fencedOpening
  rw [PySem.W.Fast.te10274390034422433532, PySem.W.Fast.te14289696077712309145, PySem.W.Fast.te1435165496053646825, PySem.W.Fast.te15667345088766844465, PySem.W.Fast.te14364793385576792824]
  kernel_rfl
theorem T32_look (P : Params) : (insOk .nil 0 (H32 P).objs.toList && ((H32 P).objs.toList.length == 32)) = true := congrArg Prod.fst (T32_all P)
theorem H32_life (P : Params) : (H32 P).life = {} := congrArg Prod.snd (T32_all P)
theorem heap_eq (P : Params) : H32 P = absHeap (T32 P) 32 {} := by
  have h := T32_look P
  rw [Bool.and_eq_true, beq_iff_eq] at h
  have e := insAll_abs {} (H32 P).objs.toList .nil 0 #[] [] h.1 rfl
  rw [h.2] at e
  unfold T32
  rw [show (32 : Nat) = 0 + 32 from rfl, e]
  have hl := H32_life P
  revert hl
  generalize H32 P = H
  intro hl
  obtain ⟨a, l⟩ := H
  obtain rfl : l = {} := hl
  simp [HH]
end Mine
end

section
open PySem PySem.W PyProof.Rows
set_option Elab.async false
set_option maxRecDepth 100000
set_option maxHeartbeats 0
namespace Mine
abbrev pB : Pos := { line := 46, col := 0, endLine := 46, endCol := 8 }
noncomputable abbrev S32 (w : World) (os : OsState) : SharedT := { tree := T32 w.params, n := 32, life := { }, gens := { toList := [] }, drawn := { }, toks := 282, os := os }
@[irreducible] noncomputable def stA : List Stmt := (behindTheImports PW).take 18
@[irreducible] noncomputable def runA (w : World) (os : OsState) := PySem.W.Fast.tw10110043849684766642 PySem.W.Fast.tw14364793385576792824 PW w 28 (some (Value.ref 6)) 1 999 (S32 w os) (piecesOf stA env1 cdB q0 [topFrame q0])
@[irreducible] noncomputable def TA (P : Params) : BT := match runA (W0 P) {} with | some (_, s, _, _) => s.tree | none => .nil
noncomputable abbrev S0 (w : World) (os : OsState) : SharedT := { tree := TA w.params, n := 113, life := { }, gens := { toList := [] }, drawn := { }, toks := 465, os := os }
theorem pieceA (w : World) (os : OsState) : segRunT treeTable PW w 28 (some (.ref 6)) 1 999 (S32 w os) (piecesOf stA env1 cdB q0 [topFrame q0]) = some (.next, S0 w os, cdB, pB) := by
  revert os
  refine byRow2 "special-get-raises" (P := fun w => ∀ os, segRunT treeTable PW w 28 (some (.ref 6)) 1 999 (S32 w os) (piecesOf stA env1 cdB q0 [topFrame q0]) = some (.next, S0 w os, cdB, pB)) ?_ ?_ w
  · intro w os
    rw [PySem.W.Fast.te10110043849684766642, PySem.W.Fast.te14364793385576792824]
    kernel_rfl
  · intro w os
    rw [PySem.W.Fast.te10110043849684766642, PySem.W.Fast.te14364793385576792824]
    kernel_rfl
end Mine
end

section
open PySem PySem.W PyProof.Rows
set_option Elab.async false
set_option maxRecDepth 100000
set_option maxHeartbeats 0
namespace Mine
abbrev pB1 : Pos := { line := 47, col := 0, endLine := 47, endCol := 6 }
abbrev pB' : Pos := { line := 48, col := 0, endLine := 49, endCol := 30 }

def intOfC : Expr → Int
  | .Constant (.int i) _ _ => i
  | _ => 0
/-- the ints that the text hands to the set, in its order -/
def b1Ints : List Int := match (PW.main.body.drop 19) with
  | .Assign _ (.Call _ [.BinOp (.List es _) _ (.Call _ [.Call _ [a, b] _ _] _ _) _] _ _) _ :: _ => es.map intOfC ++ (List.range (intOfC b - intOfC a).toNat).map fun (i : Nat) => intOfC a + (i : Int)
  | _ => []
/-- where the set's table has them -/
def b1Order : List Nat := [11, 12, 13, 14, 15, 16, 2, 17, 18, 19, 20, 3, 4, 5, 6, 7, 8, 21, 22, 23, 24, 25, 26, 0, 1, 9, 10]
def b1At (i : Nat) : Value := .int (b1Ints.getD i 0) (if i < 11 then 465 + i else 470 + i)
def b1Set (P : Params) : Obj := { cls := .type "set", data := .set ((b1Order.map fun i => (b1Ints.getD i 0, b1At i)).toArray) 29 { mask := 127, place := #[0, 1, 2, 3, 4, 5, 6, 7, 8, 9, 10, 11, 12, 13, 14, 15, 16, 17, 18, 19, 20, 21, 22, 45, 79, 96, 127], dummies := #[], finger := 0, led := !P.followText "set-order", moves := 2, plain := true } }
def mkTup : Obj := { cls := .type "tuple", data := .seq #[] }
def mkStop (a : Addr) : Obj := { cls := .type "StopIteration", data := .fields #[.ref a, .none, .none, .none, .bool false, .none] }
@[irreducible] noncomputable def TB1 (P : Params) : BT := ((((((((((((TA P).set 3 (Obj.mapDictKeys (·.push ⟨PyData.keyHash P "b1_set", .str "b1_set" 524, .ref 120⟩))).ins 113 { cls := .type "list", data := .seq ((List.range 11).map b1At).toArray }).ins
  114 { cls := .type "range", data := .fields #[.int 65024 476, .int 65040 477, .int 1 478] }).ins 115 { cls := .type "list", data := .seq ((List.range 16).map fun i => b1At (i + 11)).toArray 18 }).ins 116 { cls := .type "range_iterator", data := .fields #[.int 65040 0, .int 0 0, .int 1 0] }).ins
  117 mkTup).ins 118 (mkStop 117)).ins 119 { cls := .type "list", data := .seq ((List.range 27).map b1At).toArray }).ins 120 (b1Set P)).ins 121 { cls := .type "list_iterator", data := .fields #[.none, .int 27 0] }).ins 122 mkTup).ins 123 (mkStop 122)
noncomputable abbrev SB1 (w : World) (os : OsState) : SharedT := { tree := TB1 w.params, n := 124, life := { }, gens := { toList := [] }, drawn := { }, toks := 525, os := os }
@[irreducible] noncomputable def stB1 : List Stmt := (PW.main.body.drop 19).take 1
@[irreducible] noncomputable def stB2 : List Stmt := (PW.main.body.drop 20).take 1
theorem pieceB1 (w : World) (os : OsState) : segRunT treeTable PW w 28 (some (.ref 6)) 1 999 (S0 w os) (piecesOf stB1 env1 cdB pB [topFrame q0]) = some (.next, SB1 w os, cdB, pB1) := by
  revert os
  refine byRow2 "special-get-raises" (P := fun w => ∀ os, segRunT treeTable PW w 28 (some (.ref 6)) 1 999 (S0 w os) (piecesOf stB1 env1 cdB pB [topFrame q0]) = some (.next, SB1 w os, cdB, pB1)) ?_ ?_ w
  · intro w os
    rw [PySem.W.Fast.te10110043849684766642, PySem.W.Fast.te14364793385576792824]
    kernel_rfl
  · intro w os
    rw [PySem.W.Fast.te10110043849684766642, PySem.W.Fast.te14364793385576792824]
    kernel_rfl
@[irreducible] noncomputable def runB (w : World) (os : OsState) := PySem.W.Fast.tw10110043849684766642 PySem.W.Fast.tw14364793385576792824 PW w 28 (some (Value.ref 6)) 1 30 (SB1 w os) (piecesOf stB2 env1 cdB pB1 [topFrame q0])
@[irreducible] noncomputable def TB (P : Params) : BT := match runB (W0 P) {} with | some (_, s, _, _) => s.tree | none => .nil
noncomputable abbrev SB (w : World) (os : OsState) : SharedT := { tree := TB w.params, n := 131, life := { }, gens := { toList := [] }, drawn := { }, toks := 532, os := os }
theorem pieceB2 (w : World) (os : OsState) : segRunT treeTable PW w 28 (some (.ref 6)) 1 30 (SB1 w os) (piecesOf stB2 env1 cdB pB1 [topFrame q0]) = some (.next, SB w os, cdB, pB') := by
  rw [PySem.W.Fast.te10110043849684766642, PySem.W.Fast.te14364793385576792824]
  kernel_rfl
end Mine
end

section
open PySem PySem.W PyProof.Rows
set_option Elab.async false
set_option maxRecDepth 100000
set_option maxHeartbeats 0
namespace Mine
@[irreducible] def b3Parts : List (Option Expr) × List Expr × Pos × Pos × Pos := match PW.main.body.drop 21 with
  | .Assign [.Name _ tp] (.Dict ks vs dp) sp :: _ => (ks, vs, dp, tp, sp)
  | _ => ([], [], q0, q0, q0)
abbrev b3Keys := b3Parts.1
abbrev b3Vals := b3Parts.2.1
abbrev b3Dp : Pos := b3Parts.2.2.1
abbrev b3Tp : Pos := b3Parts.2.2.2.1
abbrev b3Sp : Pos := b3Parts.2.2.2.2
def itOf (k : Option Expr) (v : Expr) : IT := (match k with | some (.Constant (.int i) _ _) => i | _ => 0, match v with | .Constant (.str x) _ _ => x | _ => Str.empty)
@[irreducible] def b3L : List IT := List.zipWith itOf b3Keys b3Vals
theorem b3Items_eq : (evalEachOpt b3Keys env1).zip ((evalEach b3Vals env1).map fun v => do let x ← v; standAt b3Dp; pure x) = b3L.map (itemOf b3Dp) := by kernel_rfl
theorem b3Stmt_eq : PW.main.body.drop 21 = .Assign [.Name "b3_exceptions" b3Tp] (.Dict b3Keys b3Vals b3Dp) b3Sp :: PW.main.body.drop 22 := by kernel_rfl
@[irreducible] def c0 : List IT := b3L.take 17
@[irreducible] def cs : List (List IT) := (List.range 37).map fun i => (b3L.drop (17 * (i + 1))).take 17
@[irreducible] def tail : List IT := b3L.drop (17 * 38)
theorem b3L_cut : b3L = c0 ++ (cs.flatten ++ tail) := by kernel_rfl
theorem c0_len : c0.length = 17 := by kernel_rfl
theorem cs_len : ∀ c ∈ cs, c.length = 17 := by
  have : cs.all (fun c => c.length == 17) = true := by kernel_rfl
  intro c hc
  simpa using List.all_eq_true.mp this c hc
theorem tail_len : tail.length = 4 := by kernel_rfl
/-- keys rise, from 0 on, to less than 2 ^ 60 -/
def rises : Nat → List Int → Bool
  | _, [] => true
  | n, .ofNat k :: r => Nat.ble n k && Nat.blt k 1152921504606846976 && rises (k + 1) r
  | _, .negSucc _ :: _ => false
theorem hash_small {k : Nat} (h : k < 1152921504606846976) : hashInt (k : Int) = k := by
  have h1 : (((k : Int).natAbs : Int) % ((2 ^ 61 - 1 : Nat) : Int)) = (k : Int) := by
    rw [Int.natAbs_natCast]
    exact Int.emod_eq_of_lt (by omega) (by have : ((2 ^ 61 - 1 : Nat) : Int) = 2305843009213693951 := by decide
                                           omega)
  have h3 : ¬ ((k : Int) < 0) := by omega
  have h4 : ((k : Int) == -1) = false := by rw [beq_eq_false_iff_ne]; omega
  have h2 : rawHash (k : Int) = k := by
    simp only [rawHash, h1, if_neg h3, h4, Bool.false_eq_true, if_false]
  unfold hashInt
  rw [h2, h4]
  rfl
theorem rises_ge : ∀ (l : List Int) (n : Nat), rises n l = true → ∀ x ∈ l, ∃ k : Nat, x = k ∧ n ≤ k ∧ k < 1152921504606846976
  | .ofNat k :: r, n, h, x, hx => by
    simp only [rises, Bool.and_eq_true] at h
    have h1 := Nat.le_of_ble_eq_true h.1.1
    have h2 : k < 1152921504606846976 := Nat.le_of_ble_eq_true h.1.2
    rcases List.mem_cons.mp hx with e | hx
    · exact ⟨k, e, h1, h2⟩
    · obtain ⟨j, e, a, b⟩ := rises_ge r (k + 1) h.2 x hx
      exact ⟨j, e, by omega, b⟩
  | .negSucc _ :: _, _, h, _, _ => by simp [rises] at h
theorem rises_apart : ∀ (l : List Int) (n : Nat), rises n l = true → Apart l
  | [], _, _ => .nil
  | .ofNat k :: r, n, h => by
    have h' := h
    simp only [rises, Bool.and_eq_true] at h
    have h2 : k < 1152921504606846976 := Nat.le_of_ble_eq_true h.1.2
    refine List.Pairwise.cons (fun x hx => ?_) (rises_apart r (k + 1) h.2)
    obtain ⟨j, e, a, b⟩ := rises_ge r (k + 1) h.2 x hx
    rw [e, show (Int.ofNat k) = (k : Int) from rfl, hash_small h2, hash_small b]
    omega
  | .negSucc _ :: _, _, h => by simp [rises] at h
theorem b3_apart : Apart (b3L.map (·.1)) := rises_apart _ 0 (by kernel_rfl)
@[irreducible] noncomputable def FF : St := (cs.foldl St.step (St.first 532 c0)).last tail
theorem FF_eq : FF = (cs.foldl St.step (St.first 532 c0)).last tail := by kernel_rfl
theorem FF_tk : FF.tk = 2482 := by kernel_rfl
theorem FF_subs : FF.subs.length = 38 := by kernel_rfl
end Mine
end

section
open PySem PySem.W PyProof.Rows
set_option Elab.async false
set_option maxRecDepth 100000
set_option maxHeartbeats 0
namespace Mine
@[irreducible] noncomputable def objsB : List Obj := DO FF.es FF.ep :: FF.subs
theorem objsB_eq : objsB = DO FF.es FF.ep :: FF.subs := by kernel_rfl
theorem objsB_len : objsB.length = 39 := by rw [objsB_eq, List.length_cons, FF_subs]
@[irreducible] noncomputable def T2 (P : Params) : BT := insAll (TB P) 131 objsB
theorem T2_eq (P : Params) : T2 P = insAll (TB P) 131 objsB := by kernel_rfl
theorem T2_ok (P : Params) : insOk (TB P) 131 objsB = true := by kernel_rfl
theorem T2_abs (P : Params) : absHeap (T2 P) 170 {} = HH (absHeap (TB P) 131 {}).objs {} objsB := by
  have := insAll_abs {} objsB (TB P) 131 (absHeap (TB P) 131 {}).objs [] (T2_ok P) (by show absHeap (TB P) 131 {} = Heap.mk ((absHeap (TB P) 131 {}).objs ++ #[]) {}; rw [Array.append_empty]; rfl)
  rw [objsB_len] at this
  rw [T2_eq]
  exact this
noncomputable abbrev SS2 (w : World) (os : OsState) : SharedT := { tree := T2 w.params, n := 170, life := { }, gens := { toList := [] }, drawn := { }, toks := 2482, os := os }
@[irreducible] noncomputable def T3 (P : Params) : BT := (T2 P).set 3 (Obj.mapDictKeys (·.push ⟨PyData.keyHash P "b3_exceptions", .str "b3_exceptions" 2482, .ref 131⟩))
noncomputable abbrev S3 (w : World) (os : OsState) : SharedT := { tree := T3 w.params, n := 170, life := { }, gens := { toList := [] }, drawn := { }, toks := 2483, os := os }
theorem pieceS (w : World) (os : OsState) (ps : Pos) : segRunT treeTable PW w 28 (some (.ref 6)) 1 20 (SS2 w os) ⟨(do standAt b3Tp; bindName env1 "b3_exceptions" (.ref 131); pure .next : Sem Flow).wrap doneF deadEnd id id, cdB, ps, [topFrame q0]⟩ = some (.next, S3 w os, cdB, b3Tp) := by
  rw [PySem.W.Fast.te10110043849684766642, PySem.W.Fast.te14364793385576792824]
  kernel_rfl
@[irreducible] noncomputable def stC : List Stmt := PW.main.body.drop 22
abbrev pC : Pos := { line := 100, col := 0, endLine := 143, endCol := 31 }
@[irreducible] noncomputable def runC (w : World) (os : OsState) := PySem.W.Fast.tw10110043849684766642 PySem.W.Fast.tw14364793385576792824 PW w 28 (some (Value.ref 6)) 1 300 (S3 w os) (piecesOf stC env1 cdB b3Tp [topFrame q0])
@[irreducible] noncomputable def TC (P : Params) : BT := match runC (W0 P) {} with | some (_, s, _, _) => s.tree | none => .nil
noncomputable abbrev SC (w : World) (os : OsState) : SharedT := { tree := TC w.params, n := 211, life := { }, gens := { toList := [] }, drawn := { }, toks := 2542, os := os }
theorem pieceC (w : World) (os : OsState) : segRunT treeTable PW w 28 (some (.ref 6)) 1 300 (S3 w os) (piecesOf stC env1 cdB b3Tp [topFrame q0]) = some (.next, SC w os, cdB, pC) := by
  rw [PySem.W.Fast.te10110043849684766642, PySem.W.Fast.te14364793385576792824]
  kernel_rfl

/-- the store of a long display, with all that is known of it as premises -/
theorem store_display {w : World} {N c : Nat} {r s₁ s₂ s₃ : Shared} {x : Str} {ks : List (Option Expr)} {vs : List Expr} {dp tp sp ps pe : Pos} {env : Env} {cd : Code} {rest : List Stmt} {v : Value}
    (disp : Mine.Runs treeTable PW w 28 c (dictDisplay ((evalEachOpt ks env).zip ((evalEach vs env).map fun v => do let x ← v; standAt dp; pure x))) s₁ v s₂)
    (piece : ∀ ps, segRun treeTable PW w 28 (some (.ref 6)) 1 20 s₂ ⟨(do standAt tp; bindName env x v; pure .next : Sem Flow).wrap doneF deadEnd id id, cd, ps, [topFrame q0]⟩ = some (.next, s₃, cd, pe))
    (h : topRun treeTable PW w 28 (some (.ref 6)) N s₃ (restOf rest env cd pe [topFrame q0]) = some r) :
    ∃ k, k ≤ c + 22 ∧ topRun treeTable PW w 28 (some (.ref 6)) (N + k) s₁ (restOf (.Assign [.Name x tp] (.Dict ks vs dp) sp :: rest) env cd ps [topFrame q0]) = some r := by
  have hs : swapsWith (.Dict ks vs dp) (some (.Name x tp)) sp.line env = pure false := rfl
  have dict : Mine.Runs treeTable PW w 28 (1 + c) (eval (.Dict ks vs dp) env) s₁ v s₂ := by
    rw [arm_eval_Dict]
    exact Mine.Runs.bind (n := 1) (m := c) (.at (.pure _ _)) disp
  have ex : exec (.Assign [.Name x tp] (.Dict ks vs dp) sp) env = ((standAt sp >>= fun _ => eval (.Dict ks vs dp) env) >>= fun v => (do standAt tp; bindName env x v; pure .next) : Sem Flow) := by
    rw [exec_Assign_Name _ _ _ _ _ hs, bind_assoc]
  have head : Mine.Runs treeTable PW w 28 (1 + (1 + c)) (standAt sp >>= fun _ => eval (.Dict ks vs dp) env) s₁ v s₂ := Mine.Runs.bind (n := 1) (m := 1 + c) (.at (.pure _ _)) dict
  let K : Flow → Sem PySem.Fin := fun f => match f with | .next => (execs rest env).wrap doneF (leaveH env) id id | f => doneF f
  obtain ⟨k, ps', hk, hN⟩ := head.top (ann := some (.ref 6)) (fun v => (do standAt tp; bindName env x v; pure .next : Sem Flow).wrap K (leaveH env) id id) (leaveH env) id id cd ps [topFrame q0]
  refine ⟨20 + k, by omega, ?_⟩
  obtain ⟨a, ha, hM⟩ := seg_top (res := id) (K' := K) (H' := leaveH env) (B := [topFrame q0]) rfl 20 s₂ ⟨(do standAt tp; bindName env x v; pure .next : Sem Flow).wrap doneF deadEnd id id, cd, ps', [topFrame q0]⟩
    ⟨(do standAt tp; bindName env x v; pure .next : Sem Flow).wrap K (leaveH env) id id, cd, ps', [topFrame q0]⟩ _ _ _ _ ⟨rfl, rfl, .inl ⟨rfl, rfl, _, rfl, rfl⟩⟩ (piece ps')
  obtain rfl : a = .next := ha
  have h3 := hN (20 + N) r (hM N r h)
  rw [show N + (20 + k) = 20 + N + k by omega]
  unfold restOf
  rw [execs_cons_wrap, ex, Sem.bind_eq_wrap', Sem.wrap_wrap]
  exact h3

theorem st_at {A : Array Obj} {life : Life} {s s' : Shared} {x : St} (h : HH A life (DO x.es x.ep :: x.subs) = s'.heap) (h1 : s'.gens = s.gens) (h2 : s'.drawn = s.drawn) (h3 : s'.toks = x.tk) (h4 : s'.os = s.os) : x.at A life s = s' := by
  obtain ⟨a, b, c, d, e⟩ := s'
  obtain ⟨a', b', c', d', e'⟩ := s
  simp only at h h1 h2 h3 h4
  subst h h1 h2 h3 h4
  rfl
theorem disp_eq {A : Array Obj} {life : Life} {w : World} {s s' : Shared} {ks : List (Option Expr)} {vs : List Expr} {env : Env} {dp : Pos} {c₀ tail L : List IT} {cs : List (List IT)} {n : Nat}
    (hi : (evalEachOpt ks env).zip ((evalEach vs env).map fun v => do let x ← v; standAt dp; pure x) = L.map (itemOf dp)) (hL : L = c₀ ++ (cs.flatten ++ tail)) (hA : A.size = n) (hn : 28 ≤ n) (hh : s.heap = ⟨A, life⟩) (h0 : c₀.length = 17) (ht : tail.length = 4)
    (ha : Apart (L.map (·.1))) (hlen : ∀ c ∈ cs, c.length = 17) (hcs : cs.length = 37) (hs : ((cs.foldl St.step (St.first s.toks c₀)).last tail).at A life s = s') :
    Mine.Runs treeTable PW w 28 15600 (dictDisplay ((evalEachOpt ks env).zip ((evalEach vs env).map fun v => do let x ← v; standAt dp; pure x))) s (.ref n) s' := by
  rw [hi, hL, ← hs, ← hA]
  rw [hL] at ha
  exact (runs_display dp c₀ cs tail s (by rw [hA]; exact hn) (by rw [hA]; exact Nat.lt_of_lt_of_le (by decide) hn) hh h0 (by rw [ht]; decide) (by intro e; rw [e] at ht; cases ht) ha hlen (by rw [hcs]; decide)).more (by rw [hcs]; decide)
theorem cs_count : cs.length = 37 := by kernel_rfl
theorem at_S2 (w : World) (os : OsState) : ((cs.foldl St.step (St.first (SB w os).abs.toks c0)).last tail).at (absHeap (TB w.params) 131 {}).objs {} (SB w os).abs = (SS2 w os).abs :=
  by
    refine st_at ?_ rfl rfl ?_ rfl
    · show HH (absHeap (TB w.params) 131 {}).objs {} (DO ((cs.foldl St.step (St.first 532 c0)).last tail).es ((cs.foldl St.step (St.first 532 c0)).last tail).ep :: ((cs.foldl St.step (St.first 532 c0)).last tail).subs) = absHeap (T2 w.params) 170 {}
      rw [← FF_eq, T2_abs, objsB_eq]
    · show 2482 = ((cs.foldl St.step (St.first 532 c0)).last tail).tk
      rw [← FF_eq, FF_tk]
theorem runsB3 (w : World) (os : OsState) : Mine.Runs treeTable PW w 28 15600 (dictDisplay ((evalEachOpt b3Keys env1).zip ((evalEach b3Vals env1).map fun v => do let x ← v; standAt b3Dp; pure x))) (SB w os).abs (.ref 131) (SS2 w os).abs :=
  disp_eq (A := (absHeap (TB w.params) 131 {}).objs) (life := {}) b3Items_eq b3L_cut (absHeap_size ..) (by decide) rfl c0_len tail_len b3_apart cs_len cs_count (at_S2 w os)
theorem stC_eq : stC = PW.main.body.drop 22 := by kernel_rfl
theorem chainB3 {w : World} {os : OsState} {N : Nat} {r : Shared} (h : topRun treeTable PW w 28 (some (.ref 6)) N (S3 w os).abs (restOf stC env1 cdB b3Tp [topFrame q0]) = some r) :
    ∃ k, k ≤ 15622 ∧ topRun treeTable PW w 28 (some (.ref 6)) (N + k) (SB w os).abs (restOf (PW.main.body.drop 21) env1 cdB pB' [topFrame q0]) = some r := by
  rw [b3Stmt_eq]
  rw [stC_eq] at h
  exact store_display (ps := pB') (x := "b3_exceptions") (runsB3 w os) (fun ps => segRun_of (pieceS w os ps)) h

noncomputable def H₁ (P : Params) : Heap := absHeap (TC P) 211 {}
theorem fin (w : World) (os : OsState) : topRun treeTable PW w 28 (some (.ref 6)) 2 (SC w os).abs ⟨doneF .next, cdB, pC, [topFrame q0]⟩ = some (SC w os).abs := by
  rw [PySem.W.Fast.te14082659384304107361, PySem.W.Fast.te14364793385576792824]
  kernel_rfl
theorem app_nil_run {w : World} {N : Nat} {s r : Shared} {l : List Stmt} {env : Env} {cd : Code} {ps : Pos} (h : topRun treeTable PW w 28 (some (.ref 6)) N s (restOf (l ++ []) env cd ps [topFrame q0]) = some r) :
    topRun treeTable PW w 28 (some (.ref 6)) N s (restOf l env cd ps [topFrame q0]) = some r := by rwa [List.append_nil] at h
theorem fromB (w : World) (os : OsState) : ∃ k, k ≤ 16000 ∧ topRun treeTable PW w 28 (some (.ref 6)) k (SB w os).abs (restOf (PW.main.body.drop 21) env1 cdB pB' [topFrame q0]) = some (SC w os).abs := by
  have h1 := piece_app (rest := []) (segRun_of (pieceC w os)) (piece_nil (fin w os))
  obtain ⟨k, hk, h2⟩ := chainB3 (app_nil_run h1)
  exact ⟨300 + 2 + k, by omega, h2⟩
theorem body_eq : behindTheImports PW = stA ++ (stB1 ++ (stB2 ++ PW.main.body.drop 21)) := by kernel_rfl
theorem blockRun (w : World) (s : Shared) : segRun treeTable PW w 28 (some (.ref 6)) 1 1 s (blockOf (behindTheImports PW) env1 cdB q0 [topFrame q0]) = some (.next, s, cdB, q0) := by kernel_rfl
theorem runAll (w : World) (os : OsState) : topRun treeTable PW w 28 (some (.ref 6)) 50000 ⟨H₀ w.params, #[], {}, 276, os⟩ (topStub PW) = some ⟨H₁ w.params, #[], {}, 2542, os⟩ := by
  obtain ⟨k, hk, h0⟩ := fromB w os
  have h1 := piece_app (segRun_of (pieceB1 w os)) (piece_app (segRun_of (pieceB2 w os)) h0)
  have h2 := piece_app (segRun_of (pieceA w os)) h1
  rw [← body_eq] at h2
  have h3 := piece_block (blockRun w _) h2
  have h4 := toBlock w os
  rw [heap_eq] at h4
  have h5 := go_top h4 h3
  have h6 := topRun_mono (50000 - (12 + (1 + (999 + (999 + (30 + k)))))) _ _ _ _ h5
  rw [show 12 + (1 + (999 + (999 + (30 + k)))) + (50000 - (12 + (1 + (999 + (999 + (30 + k)))))) = 50000 by
    show 12 + (1 + (999 + (999 + (30 + k)))) + (50000 - (12 + (1 + (999 + (999 + (30 + k)))))) = 50000
    omega] at h6
  exact h6
end Mine
end

section
open PySem PySem.W PyProof.Rows
set_option Elab.async false
set_option maxRecDepth 100000
set_option maxHeartbeats 0
namespace Mine
/-- the text without the five statements whose values are told apart -/
@[irreducible] def QV : Program := { PW with main := { PW.main with body := ([0, 1, 3, 4, 5, 6, 7, 8, 9, 10, 11, 12, 13, 16, 17, 18, 20, 22, 23, 24, 25, 26, 27, 28, 29] : List Nat).filterMap fun i => PW.main.body[i]? } }
def looseN : List Str := [Str.ofString "COMPILER_FLAG_NAMES", Str.ofString "_twin_re_1", Str.ofString "_twin_re_2", Str.ofString "b1_set", Str.ofString "b3_exceptions"]
def pat (src : Str) (t : Nat) (fl : Int) (ft : Nat) (c : Addr) : Obj := { cls := .type "re.Pattern", data := .fields #[.str src t, .int fl ft, .int 0 0, .none, .none, .ref c, .int 0 0] }
def biNames0 : List Str := ["range", "hex", "len", "sum", "chr", "ord", "min", "sorted", "enumerate", "hasattr"]
noncomputable def Yf (s : Shared) : (List (Option Value) × List (Option Obj)) × (Nat × Option Value × List (Option Value) × Bool × Option Value × Bool) :=
  ((looseN.map (s.heap.nsMap mainGlobals), [32, 99, 100, 104, 105, 120, 131].map s.heap.get?),
   (s.toks, s.heap.nsMap mainGlobals (Str.ofString "CRLF"), biNames0.map (s.heap.nsMap mainGlobals), s.heap.isNs mainGlobals, s.heap.nsMap cStatics sharingNotToldKey, s.heap.isNs cStatics))
noncomputable def Ya (w : World) : (List (Option Value) × List (Option Obj)) × (Nat × Option Value × List (Option Value) × Bool × Option Value × Bool) :=
  (([some (.ref 32), some (.ref 100), some (.ref 105), some (.ref 120), some (.ref 131)],
   [32, 99, 100, 104, 105, 120, 131].map (H₁ w.params).get?),
   (2542, (H₁ w.params).nsMap mainGlobals (Str.ofString "CRLF"), biNames0.map fun _ => none, true, none, true))
theorem looks (w : World) (os : OsState) : ((staticsOk (importedModules PW.main.body) (H₀ w.params) (H₁ w.params) && namesBound PW (H₁ w.params) && gensDone ⟨H₁ w.params, #[], {}, 2542, os⟩ && laidKept (H₀ w.params) (H₁ w.params)),
    openSeen QV looseN (importedModules PW.main.body) (fun _ => true) true ⟨H₁ w.params, #[], {}, 2542, os⟩, Yf ⟨H₁ w.params, #[], {}, 2542, os⟩) = (true, openGood QV looseN, Ya w) := by
  rw [PySem.W.Fast.te4187177175401517315]
  kernel_rfl
theorem left : LeftO PW QV looseN (fun _ => true) Yf Ya 60000 :=
  LeftO.of_pieces opens sizes runAll (by decide) fun w => funext fun os => looks w os
end Mine
end

section
open PySem PySem.W PyProof.Rows
set_option Elab.async false
set_option linter.unusedVariables false
namespace Mine

/-- what the run's values are, apart from where they lie -/
inductive PV where
  | none | bool (b : Bool) | int (i : Int) | str (s : List Nat) | strX (s : List Nat) | list (xs : List PV) | tup (xs : List PV) | raw (v : Value)

/-- a plain list object, a plain tuple object -/
abbrev IsLs (h : Heap) (a : Addr) (items : Array Value) (n : Nat) : Prop := h.get? a = some { cls := .type "list", dict := Option.none, data := .seq items n, slots := #[] }
abbrev IsTp (h : Heap) (a : Addr) (items : Array Value) (n : Nat) : Prop := h.get? a = some { cls := .type "tuple", dict := Option.none, data := .seq items n, slots := #[] }

/-- what values may not touch: addresses that a store turns; tokens of some strs -/
structure Fb where
  ad : List Addr
  tk : Tok → Prop
  z : tk 0
def Fb.add (O : Fb) (x : Addr) : Fb := ⟨x :: O.ad, O.tk, O.z⟩

/-- a state's value reads as such; none of its lists lies in O, none of its strs has a token of O, but those that are said to; no token is above the state's -/
inductive Rep (O : Fb) (h : Shared) : PV → Value → Prop
  | none : Rep O h .none .none
  | bool {b} : Rep O h (.bool b) (.bool b)
  | int {i t} : Rep O h (.int i) (.int i t)
  | str {s t} (ht : ¬ O.tk t) (hb : t < h.toks) : Rep O h (.str s) (.str ⟨s.toArray⟩ t)
  | strX {s t} (ht : O.tk t) (h0 : t ≠ 0) (hb : t < h.toks) : Rep O h (.strX s) (.str ⟨s.toArray⟩ t)
  | raw {v} : Rep O h (.raw v) v
  | list {xs a items n} (ho : a ∉ O.ad) (hl : IsLs h.heap a items n) (hz : items.size ≤ sizeLine) (hn : xs.length = items.size)
      (hi : ∀ (i : Nat) (x : PV) (v : Value), xs[i]? = some x → items[i]? = some v → Rep O h x v) : Rep O h (.list xs) (.ref a)
  | tup {xs a items n} (ho : a ∉ O.ad) (hl : IsTp h.heap a items n) (hz : items.size ≤ sizeLine) (hn : xs.length = items.size)
      (hi : ∀ (i : Nat) (x : PV) (v : Value), xs[i]? = some x → items[i]? = some v → Rep O h x v) : Rep O h (.tup xs) (.ref a)

theorem Rep.turn {O O' : Fb} {h h' : Shared} (kl : ∀ a items n c, a ∉ O.ad → h.heap.get? a = some { cls := c, dict := Option.none, data := .seq items n, slots := #[] } → a ∉ O'.ad ∧ h'.heap.get? a = some { cls := c, dict := Option.none, data := .seq items n, slots := #[] })
    (kt : O'.tk = O.tk) (kb : h.toks ≤ h'.toks) {pv : PV} {v : Value} (r : Rep O h pv v) : Rep O' h' pv v := by
  induction r with
  | none => exact .none
  | bool => exact .bool
  | int => exact .int
  | str ht hb => exact .str (by rw [kt]; exact ht) (Nat.lt_of_lt_of_le hb kb)
  | strX ht h0 hb => exact .strX (by rw [kt]; exact ht) h0 (Nat.lt_of_lt_of_le hb kb)
  | raw => exact .raw
  | list ho hl hz hn _ ih => exact .list (kl _ _ _ _ ho hl).1 (kl _ _ _ _ ho hl).2 hz hn ih
  | tup ho hl hz hn _ ih => exact .tup (kl _ _ _ _ ho hl).1 (kl _ _ _ _ ho hl).2 hz hn ih

/-- more objects and tokens, the old ones as they were -/
def Kp (s s' : Shared) : Prop := ∃ h' tk, s' = { s with heap := h', toks := tk } ∧ s.toks ≤ tk ∧ ∀ b o, s.heap.get? b = some o → h'.get? b = some o
theorem Kp.refl' (s : Shared) : Kp s s := ⟨s.heap, s.toks, rfl, Nat.le_refl _, fun _ _ e => e⟩
theorem Kp.trans' {s s' s'' : Shared} (x : Kp s s') (y : Kp s' s'') : Kp s s'' := by
  obtain ⟨h, t, rfl, l, k⟩ := x
  obtain ⟨h', t', rfl, l', k'⟩ := y
  exact ⟨h', t', rfl, Nat.le_trans l l', fun b o e => k' b o (k b o e)⟩
theorem Kp.get {s s' : Shared} (x : Kp s s') : ∀ b o, s.heap.get? b = some o → s'.heap.get? b = some o := by
  obtain ⟨h, t, rfl, _, k⟩ := x; exact k
theorem Kp.le {s s' : Shared} (x : Kp s s') : s.toks ≤ s'.toks := by
  obtain ⟨h, t, rfl, l, k⟩ := x; exact l
theorem Kp.tok (s : Shared) (t : Nat) (h : s.toks ≤ t := by omega) : Kp s { s with toks := t } := ⟨s.heap, t, rfl, h, fun _ _ e => e⟩
theorem Kp.push (s : Shared) (o : Obj) : Kp s { s with heap := s.heap.push o } := ⟨_, s.toks, rfl, Nat.le_refl _, fun _ _ e => Heap.get?_push_of_some _ e⟩

theorem Rep.keepO {O : Fb} {h h' : Shared} (k : ∀ b o, b ∉ O.ad → h.heap.get? b = some o → h'.heap.get? b = some o) (kb : h.toks ≤ h'.toks) {pv : PV} {v : Value} (r : Rep O h pv v) : Rep O h' pv v :=
  r.turn (fun a _ _ _ ho hl => ⟨ho, k a _ ho hl⟩) rfl kb
theorem Rep.keep {O : Fb} {h h' : Shared} (k : Kp h h') {pv : PV} {v : Value} (r : Rep O h pv v) : Rep O h' pv v :=
  r.keepO (fun b o _ e => k.get b o e) k.le
theorem Rep.less {O O' : Fb} {h : Shared} (k : ∀ b, b ∈ O'.ad → b ∈ O.ad) {pv : PV} {v : Value} (r : Rep O h pv v) (kt : O'.tk = O.tk := by rfl) : Rep O' h pv v :=
  r.turn (fun _ _ _ _ ho hl => ⟨fun q => ho (k _ q), hl⟩) kt (Nat.le_refl _)
theorem Rep.fresh {O : Fb} {x : Addr} {h : Shared} (hx : h.heap.get? x = Option.none) {pv : PV} {v : Value} (r : Rep O h pv v) : Rep (O.add x) h pv v :=
  r.turn (O := O) (O' := O.add x) (fun a _ _ _ ho hl => ⟨fun q => by
      rcases List.mem_cons.mp q with e | q
      · rw [e, hx] at hl; cases hl
      · exact ho q, hl⟩) rfl (Nat.le_refl _)
/-- what is no sequence -/
def NoSeq (h : Heap) (L : Addr) : Prop := ∀ o x n, h.get? L = some o → o.data ≠ .seq x n
/-- an object that is no sequence may turn -/
theorem Rep.but {O : Fb} {h h' : Shared} {L : Addr} (hs : Heap.SameBut L h.heap h'.heap) (hL : NoSeq h.heap L) (kb : h.toks ≤ h'.toks) {pv : PV} {v : Value} (r : Rep O h pv v) : Rep O h' pv v :=
  r.turn (fun a items n c ho hl => ⟨ho, hs.extBut a _ (fun e => hL _ items n (e ▸ hl) rfl) hl⟩) rfl kb

theorem ns_no_seq {h : Heap} {L : Addr} {m : Str → Option Value} (n : h.Ns L m) : NoSeq h L := by
  obtain ⟨o, es, ep, ho, hd, _⟩ := n
  intro o' x k ho' hk; rw [ho] at ho'; cases ho'; rw [hd] at hk; cases hk
theorem cell_no_seq {h : Heap} {L : Addr} {v : Option Value} (n : h.IsCell L v) : NoSeq h L := by
  obtain ⟨o, ho, hd⟩ := n
  intro o' x k ho' hk; rw [ho] at ho'; cases ho'; rw [hd] at hk; cases hk
theorem ns_inj {h : Heap} {L : Addr} {m m' : Str → Option Value} (x : h.Ns L m) (y : h.Ns L m') : m = m' := x.eq_nsMap.trans y.eq_nsMap.symm
theorem cell_inj {h : Heap} {L : Addr} {v v' : Option Value} (x : h.IsCell L v) (y : h.IsCell L v') : v = v' := by
  obtain ⟨o, ho, hd⟩ := x; obtain ⟨o', ho', hd'⟩ := y
  rw [ho] at ho'; cases ho'; rw [hd] at hd'; cases hd'; rfl
theorem ns_no_cell {h : Heap} {L : Addr} {m : Str → Option Value} {v : Option Value} (n : h.Ns L m) (c : h.IsCell L v) : False := by
  obtain ⟨o, es, ep, ho, hd, _⟩ := n
  obtain ⟨o', ho', hd'⟩ := c
  rw [ho] at ho'; cases ho'; rw [hd] at hd'; cases hd'

theorem fresh_size (h : Heap) : h.get? h.objs.size = none := by
  cases e : h.get? h.objs.size with
  | none => rfl
  | some o => exact absurd (Heap.lt_size e) (Nat.lt_irrefl _)

/-- what stands behind all frames -/
structure Bk where
  prog : Program
  w : World
  top : Heap
  mg : Str → Option Value
  mb : Str → Option Value
  /-- tokens from lo on may be forbidden; the top's are below t₀ -/
  lo : Nat
  t₀ : Nat
structure Bk.Ok (B : Bk) : Prop where
  g : B.top.Ns mainGlobals B.mg
  b : B.top.Ns builtinsNs B.mb
  lim : B.top.NoLimit
def Bk.On (B : Bk) (s : Shared) : Prop := (∀ b o, B.top.get? b = some o → s.heap.get? b = some o) ∧ B.t₀ ≤ s.toks
theorem Bk.On.keeps {B : Bk} {s s' : Shared} (x : B.On s) (k : Kp s s') : B.On s' := ⟨fun b o e => k.get b o (x.1 b o e), Nat.le_trans x.2 k.le⟩

structure Cx where
  A : Around
  env : Env
  s₀ : Shared
  O : Fb
abbrev Vars := Str → Option PV
def upd (σ : Vars) (n : Str) (pv : PV) : Vars := fun y => if y = n then some pv else σ y
theorem upd_self (σ : Vars) (n : Str) (pv : PV) : upd σ n pv n = some pv := by simp [upd]
theorem upd_ne {σ : Vars} {n m : Str} {pv : PV} (h : (m == n) = false) : upd σ n pv m = σ m := by
  have : m ≠ n := by simpa using h
  simp [upd, this]
abbrev Own := Option (Addr × List PV)

def Look (C : Cx) (n : Str) (v : Value) (s : Shared) : Prop :=
  (C.env.kindOf n = some .local ∧ ∃ m, s.heap.Ns C.env.locals m ∧ m n = some v) ∨
  ((C.env.kindOf n = some .cell ∨ C.env.kindOf n = some .free) ∧ ∃ c, C.env.cells.lookup n = some c ∧ s.heap.IsCell c (some v))

def Lo (B : Bk) (O : Fb) : Prop := ∀ t, O.tk t → t = 0 ∨ B.lo ≤ t
structure Cx.Ok (B : Bk) (C : Cx) : Prop where
  top : B.Ok
  kind : C.env.scope.kind = .function
  g : C.env.globals = mainGlobals
  b : C.env.builtins = builtinsNs
  hh : C.A.handled = none
  un : C.A.units < cLine
  on : B.On C.s₀
  lo : Lo B C.O
structure Cx.Owns (C : Cx) : Prop where
  loc : C.s₀.heap.get? C.env.locals = none
  all : ∀ n, C.env.kindOf n = some .cell → ∃ c, C.env.cells.lookup n = some c ∧ C.s₀.heap.get? c = none ∧ ∀ n', C.env.cells.lookup n' = some c → n' = n
/-- the cells that a frame reads are there -/
def Cx.Cel (C : Cx) : Prop := ∀ n, C.env.kindOf n = some .cell ∨ C.env.kindOf n = some .free → (C.env.cells.lookup n).isSome = true
/-- where a frame's stores may go -/
def Cx.Ml (C : Cx) : List Addr := C.env.locals :: ((C.env.cells.filter fun x => C.env.cells.lookup x.1 == some x.2).map Prod.snd ++ C.O.ad)
def Cx.M (C : Cx) : Fb := ⟨C.Ml, C.O.tk, C.O.z⟩
theorem Cx.cell_mem {C : Cx} {n : Str} {c : Addr} (h : C.env.cells.lookup n = some c) : c ∈ C.M.ad :=
  List.mem_cons_of_mem _ (List.mem_append_left _ (List.mem_map.mpr ⟨(n, c), List.mem_filter.mpr ⟨mem_of_lookup h, by simp [h]⟩, rfl⟩))
theorem Cx.mem_M {C : Cx} {b : Addr} (h : b ∈ C.M.ad) : b = C.env.locals ∨ (∃ n, C.env.cells.lookup n = some b) ∨ b ∈ C.O.ad := by
  rcases List.mem_cons.mp h with e | h
  · exact .inl e
  · rcases List.mem_append.mp h with h | h
    · obtain ⟨⟨n, c⟩, hm, rfl⟩ := List.mem_map.mp h
      exact .inr (.inl ⟨n, by simpa using (List.mem_filter.mp hm).2⟩)
    · exact .inr (.inr h)
theorem Cx.loc_mem {C : Cx} : C.env.locals ∈ C.M.ad := List.mem_cons_self
/-- a name that the frame may store to -/
def Bound (C : Cx) (n : Str) : Prop := C.env.kindOf n = some .local ∨
  (C.env.kindOf n = some .cell ∧ ∃ c, C.env.cells.lookup n = some c ∧ C.s₀.heap.get? c = none ∧ ∀ n', C.env.cells.lookup n' = some c → n' = n)
def Sft (C : Cx) (s s' : Shared) : Prop := (∀ b o, b ∉ C.M.ad → s.heap.get? b = some o → s'.heap.get? b = some o) ∧ s.toks ≤ s'.toks
theorem Sft.trans {C : Cx} {s s' s'' : Shared} (x : Sft C s s') (y : Sft C s' s'') : Sft C s s'' := ⟨fun b o hb e => y.1 b o hb (x.1 b o hb e), Nat.le_trans x.2 y.2⟩
theorem Kp.sft {C : Cx} {s s' : Shared} (x : Kp s s') : Sft C s s' := ⟨fun b o _ e => x.get b o e, x.le⟩

structure Fok (C : Cx) (σ : Vars) (ow : Own) (s : Shared) : Prop where
  keeps : Kp C.s₀ s
  look : ∀ n pv, σ n = some pv → ∃ v, Rep C.O s pv v ∧ Look C n v s
  ns : ∃ m, s.heap.Ns C.env.locals m
  cells : ∀ n c, C.env.cells.lookup n = some c → ∃ v, s.heap.IsCell c v
  own : ∀ x xs, ow = some (x, xs) → x ∈ C.O.ad ∧ C.s₀.heap.get? x = none ∧ ∃ items n, IsLs s.heap x items n ∧ xs.length = items.size ∧
    ∀ (i : Nat) (y : PV) (v : Value), xs[i]? = some y → items[i]? = some v → Rep C.O s y v
  ex : ∀ x ∈ C.O.ad, ∃ o, s.heap.get? x = some o
  tk : ∀ t, C.O.tk t → t < s.toks

theorem Look.keep {C : Cx} {n : Str} {v : Value} {s s' : Shared} (x : Look C n v s) (k : Kp s s') : Look C n v s' := by
  rcases x with ⟨h, m, hn, hm⟩ | ⟨h, c, hc, hv⟩
  · exact .inl ⟨h, m, hn.keeps k.get, hm⟩
  · exact .inr ⟨h, c, hc, hv.keeps k.get⟩
theorem Fok.keep {C : Cx} {σ : Vars} {ow : Own} {s s' : Shared} (x : Fok C σ ow s) (k : Kp s s') : Fok C σ ow s' where
  keeps := Kp.trans' x.keeps k
  look n pv e := let ⟨v, r, l⟩ := x.look n pv e; ⟨v, r.keep k, l.keep k⟩
  ns := let ⟨m, h⟩ := x.ns; ⟨m, h.keeps k.get⟩
  cells n c e := let ⟨v, h⟩ := x.cells n c e; ⟨v, h.keeps k.get⟩
  own y ys e := let ⟨h1, h2, items, n, h3, h4, h5⟩ := x.own y ys e; ⟨h1, h2, items, n, k.get _ _ h3, h4, fun i a v q r => (h5 i a v q r).keep k⟩
  ex y hy := let ⟨o, e⟩ := x.ex y hy; ⟨o, k.get _ _ e⟩
  tk t h := Nat.lt_of_lt_of_le (x.tk t h) k.le
theorem Fok.less {C : Cx} {σ σ' : Vars} {ow : Own} {s : Shared} (x : Fok C σ ow s) (h : ∀ n pv, σ' n = some pv → σ n = some pv) : Fok C σ' ow s :=
  ⟨x.keeps, fun n pv e => x.look n pv (h n pv e), x.ns, x.cells, x.own, x.ex, x.tk⟩
theorem Fok.noOwn {C : Cx} {σ : Vars} {ow : Own} {s : Shared} (x : Fok C σ ow s) : Fok C σ none s :=
  ⟨x.keeps, x.look, x.ns, x.cells, (fun _ _ e => nomatch e), x.ex, x.tk⟩

/-- no list lies where a frame's stores go -/
theorem Fok.up {C : Cx} {σ : Vars} {ow : Own} {s : Shared} {p : PV} {v : Value} (f : Fok C σ ow s) (r : Rep C.O s p v) : Rep C.M s p v :=
  r.turn (O := C.O) (O' := C.M) (kb := Nat.le_refl _) (fun a items n c ho hl => ⟨fun hm => by
    rcases Cx.mem_M hm with e | ⟨n', e⟩ | e
    · obtain ⟨m, hm'⟩ := f.ns
      exact ns_no_seq hm' _ items n (e ▸ hl) rfl
    · obtain ⟨v, hv⟩ := f.cells n' a e
      exact cell_no_seq hv _ items n hl rfl
    · exact ho e, hl⟩) rfl
theorem Cx.o_mem {C : Cx} {b : Addr} (h : b ∈ C.O.ad) : b ∈ C.M.ad := List.mem_cons_of_mem _ (List.mem_append_right _ h)
theorem Fok.rep {C : Cx} {σ : Vars} {ow : Own} {s s' : Shared} {p : PV} {v : Value} (f : Fok C σ ow s) (k : Sft C s s') (r : Rep C.O s p v) : Rep C.O s' p v :=
  ((f.up r).keepO k.1 k.2).less fun _ h => Cx.o_mem h

/-- a new address lies in no list of old ones -/
theorem not_mem_fresh {C : Cx} {σ : Vars} {ow : Own} {s : Shared} (x : Fok C σ ow s) : s.heap.objs.size ∉ C.O.ad := fun hm => by
  obtain ⟨o, e⟩ := x.ex _ hm
  exact absurd (Heap.lt_size e) (Nat.lt_irrefl _)

def Ev (B : Bk) (C : Cx) (σ : Vars) (ow : Own) (e : Expr) (pv : PV) : Prop :=
  ∀ s Q E, Fok C σ ow s → (∀ v s', Kp s s' → Rep C.O s' pv v → Q v s') → wpAny (model B.prog B.w) C.A (eval e C.env) Q E s
def Tr (B : Bk) (C : Cx) (σ : Vars) (ow : Own) (e : Expr) (b : Bool) : Prop :=
  ∀ s Q E, Fok C σ ow s → (∀ s', Kp s s' → Q b s') → wpAny (model B.prog B.w) C.A (isTrue e C.env (eval e C.env)) Q E s

inductive Out where
  | next (σ : Vars) (ow : Own) | brk (σ : Vars) (ow : Own) | ret (pv : PV)
/-- the state in which a statement ends -/
def OutOk (C : Cx) (P : Out → Prop) (f : Flow) (s : Shared) : Prop := match f with
  | .next => ∃ σ ow, P (.next σ ow) ∧ Fok C σ ow s
  | .cont => False
  | .brk => ∃ σ ow, P (.brk σ ow) ∧ Fok C σ ow s
  | .ret v => ∃ pv, P (.ret pv) ∧ Kp C.s₀ s ∧ Rep C.O s pv v
def S1 (B : Bk) (C : Cx) (σ : Vars) (ow : Own) (st : Stmt) (P : Out → Prop) : Prop :=
  ∀ s Q E, Fok C σ ow s → (∀ f s', Sft C s s' → OutOk C P f s' → Q f s') → wpAny (model B.prog B.w) C.A (exec st C.env) Q E s
def Ss (B : Bk) (C : Cx) (σ : Vars) (ow : Own) (ss : List Stmt) (P : Out → Prop) : Prop :=
  ∀ s Q E, Fok C σ ow s → (∀ f s', Sft C s s' → OutOk C P f s' → Q f s') → wpAny (model B.prog B.w) C.A (execs ss C.env) Q E s

section
variable {B : Bk} {C : Cx} {σ : Vars} {ow : Own}

theorem OutOk.mono {P P' : Out → Prop} {f : Flow} {s : Shared} (x : OutOk C P f s) (h : ∀ o, P o → P' o) : OutOk C P' f s := by
  cases f with
  | next => obtain ⟨σ, ow, p, k⟩ := x; exact ⟨σ, ow, h _ p, k⟩
  | cont => exact x
  | brk => obtain ⟨σ, ow, p, k⟩ := x; exact ⟨σ, ow, h _ p, k⟩
  | ret v => obtain ⟨pv, p, k⟩ := x; exact ⟨pv, h _ p, k⟩
theorem S1.mono {st : Stmt} {P P' : Out → Prop} (x : S1 B C σ ow st P) (h : ∀ o, P o → P' o) : S1 B C σ ow st P' :=
  fun s Q E f q => x s Q E f fun f s' k o => q f s' k (o.mono h)
theorem Ss.mono {ss : List Stmt} {P P' : Out → Prop} (x : Ss B C σ ow ss P) (h : ∀ o, P o → P' o) : Ss B C σ ow ss P' :=
  fun s Q E f q => x s Q E f fun f s' k o => q f s' k (o.mono h)

theorem Ss_nil {P : Out → Prop} (h : P (.next σ ow)) : Ss B C σ ow [] P := fun s _ _ f q => wpAny_execs_nil (q .next _ (Kp.refl' s).sft ⟨σ, ow, h, f⟩)
/-- what a statement must end in for the rest to go on -/
def Then (B : Bk) (C : Cx) (rest : List Stmt) (P : Out → Prop) : Out → Prop
  | .next σ ow => Ss B C σ ow rest P
  | .brk σ ow => P (.brk σ ow)
  | .ret pv => P (.ret pv)
theorem Ss_cons {st : Stmt} {rest : List Stmt} {P : Out → Prop} (h : S1 B C σ ow st (Then B C rest P)) : Ss B C σ ow (st :: rest) P := fun s Q E f q =>
  wpAny_execs_cons (h s _ E f fun fl s' k₁ o => by
    cases fl with
    | next => obtain ⟨σ', ow', p, k⟩ := o; exact p s' Q E k fun fl s'' k₂ o => q fl s'' (k₁.trans k₂) o
    | cont => exact o.elim
    | brk => obtain ⟨σ', ow', p, k⟩ := o; exact q .brk s' k₁ ⟨σ', ow', p, k⟩
    | ret v => obtain ⟨pv, p, k⟩ := o; exact q (.ret v) s' k₁ ⟨pv, p, k⟩)

theorem S1_return {e : Expr} {pos : Pos} {pv : PV} {P : Out → Prop} (he : Ev B C σ ow e pv) (h : P (.ret pv)) : S1 B C σ ow (.Return (some e) pos) P := fun s Q E f q =>
  wpAny_Return_some (he s _ E f fun v s' k r => q (.ret v) s' k.sft ⟨pv, h, Kp.trans' f.keeps k, r⟩)
theorem S1_break {pos : Pos} {P : Out → Prop} (h : P (.brk σ ow)) : S1 B C σ ow (.Break pos) P := fun s Q E f q => wpAny_Break (q .brk s (Kp.refl' s).sft ⟨σ, ow, h, f⟩)
theorem S1_if {test : Expr} {body orelse : List Stmt} {pos : Pos} {b : Bool} {P : Out → Prop} (ht : Tr B C σ ow test b)
    (h1 : b = true → Ss B C σ ow body P) (h2 : b = false → Ss B C σ ow orelse P) : S1 B C σ ow (.If test body orelse pos) P := fun s Q E f q =>
  wpAny_If (ht s _ E f fun s' k => by
    cases b with
    | true => exact h1 rfl s' Q E (f.keep k) fun fl s'' k₂ o => q fl s'' (k.sft.trans k₂) o
    | false => exact h2 rfl s' Q E (f.keep k) fun fl s'' k₂ o => q fl s'' (k.sft.trans k₂) o)

theorem Ev_int {i : Int} {k : Nat} {pos : Pos} : Ev B C σ ow (.Constant (.int i) k pos) (.int i) := fun _ _ _ _ q => wpAny_Constant_int (q _ _ (Kp.tok ..) .int)
theorem Fok.notk {s : Shared} (f : Fok C σ ow s) {t : Nat} (h : s.toks ≤ t) : ¬ C.O.tk t := fun q => Nat.lt_irrefl _ (Nat.lt_of_lt_of_le (f.tk t q) h)
theorem Ev_str {x : Str} {k : Nat} {pos : Pos} : Ev B C σ ow (.Constant (.str x) k pos) (.str x.cps.toList) := fun _ _ _ f q => wpAny_Constant_str (q _ _ (Kp.tok ..) (by
  have : x = ⟨x.cps.toList.toArray⟩ := by rw [Array.toArray_toList]
  rw (occs := .pos [2]) [this]; exact .str (f.notk (Nat.le_refl _)) (Nat.lt_succ_self _)))
theorem Ev_true {b : Bool} {k : Nat} {pos : Pos} : Ev B C σ ow (.Constant (.bool b) k pos) (.bool b) := fun _ _ _ _ q => Constant_bool (q _ _ (Kp.refl' _) .bool)
theorem Ev_none {k : Nat} {pos : Pos} : Ev B C σ ow (.Constant .none k pos) .none := fun _ _ _ _ q => Constant_none (q _ _ (Kp.refl' _) .none)

theorem Fok.on (hC : C.Ok B) {s : Shared} (f : Fok C σ ow s) : B.On s := hC.on.keeps f.keeps

theorem load_ok (hC : C.Ok B) {n : Str} {pv : PV} (e : σ n = some pv) (hn : (n == ("__classdict__" : Str)) = false) {s : Shared} {Q : Value → Shared → Prop} {E : Value → Shared → Prop} (f : Fok C σ ow s)
    (q : ∀ v s', Kp s s' → Rep C.O s' pv v → Q v s') : wpAny (model B.prog B.w) C.A (loadName C.env n) Q E s := by
  obtain ⟨v, r, l⟩ := f.look n pv e
  rcases l with ⟨hk, m, hm, hv⟩ | ⟨hk | hk, c, hc, hv⟩
  · exact wpAny_loadName_local hC.kind hk hm hv (q v s (Kp.refl' _) r)
  · exact wpAny_loadName_cell hC.kind hk hc hv (q v s (Kp.refl' _) r)
  · exact wpAny_loadName_free hC.kind hk hc hv (q v s (Kp.refl' _) r) hn
theorem Ev_name (hC : C.Ok B) {n : Str} {pos : Pos} {pv : PV} (e : σ n = some pv) (hd : (n == ("__debug__" : Str)) = false) (hn : (n == ("__classdict__" : Str)) = false) :
    Ev B C σ ow (.Name n pos) pv := fun _ _ _ f q => wpAny_Name (load_ok hC e hn f q) hd

/-- a store to a name of the frame's own -/
theorem store_ok (hC : C.Ok B) (hO : C.s₀.heap.get? C.env.locals = none) {n : Str} {pv : PV} {v : Value} (hk : Bound C n) {s : Shared}
    {Q : Unit → Shared → Prop} {E : Value → Shared → Prop} (f : Fok C σ ow s) (r : Rep C.O s pv v) (q : ∀ s', Sft C s s' → Fok C (upd σ n pv) ow s' → Q () s') : wpAny (model B.prog B.w) C.A (storeName C.env n v) Q E s := by
  rcases hk with hl | ⟨hl, c, hc, hlo, hap⟩
  · obtain ⟨m, hm⟩ := f.ns
    refine wpAny_storeName_local hl hm (fun h' hn' hs' => q _ ⟨fun b o hb e => hs'.extBut b o (fun e' => hb (e' ▸ Cx.loc_mem)) e, (by first | exact Nat.le_refl _ | exact Nat.le_succ _)⟩ ?_) (by rw [hC.kind]; rfl)
    have hseq := ns_no_seq hm
    have kb : ∀ b o, b ≠ C.env.locals → s.heap.get? b = some o → h'.get? b = some o := fun b o hb e => hs'.extBut b o hb e
    refine ⟨?_, ?_, ⟨_, hn'⟩, ?_, ?_, ?_, fun t h => Nat.lt_succ_of_lt (f.tk t h)⟩
    · obtain ⟨h1, t1, rfl, l1, k1⟩ := f.keeps
      exact ⟨h', _, rfl, by first | exact Nat.le_succ_of_le l1 | exact l1, fun b o e => hs'.extBut b o (fun e' => by rw [e', hO] at e; cases e) (k1 b o e)⟩
    · intro y pv' e
      by_cases hy : y = n
      · subst hy
        rw [upd_self] at e; cases e
        exact ⟨v, r.but hs' hseq (by first | exact Nat.le_refl _ | exact Nat.le_succ _), .inl ⟨hl, _, hn', by simp⟩⟩
      · rw [upd_ne (by simpa using hy)] at e
        obtain ⟨v', r', l'⟩ := f.look y pv' e
        refine ⟨v', r'.but hs' hseq (by first | exact Nat.le_refl _ | exact Nat.le_succ _), ?_⟩
        rcases l' with ⟨hk', m', hm', hv'⟩ | ⟨hk', c, hc, hv'⟩
        · have := ns_inj hm hm'; subst this
          exact .inl ⟨hk', _, hn', by simpa [hy] using hv'⟩
        · exact .inr ⟨hk', c, hc, hv'.sameBut hs' fun e' => ns_no_cell hm (e' ▸ hv')⟩
    · intro y c hc
      obtain ⟨v', hv'⟩ := f.cells y c hc
      exact ⟨v', hv'.sameBut hs' fun e' => ns_no_cell hm (e' ▸ hv')⟩
    · intro x xs e
      obtain ⟨h1, h2, items, n', h3, h4, h5⟩ := f.own x xs e
      exact ⟨h1, h2, items, n', hs'.extBut _ _ (fun e' => hseq _ items n' (e' ▸ h3) rfl) h3, h4, fun i a v' q r => (h5 i a v' q r).but hs' hseq (by first | exact Nat.le_refl _ | exact Nat.le_succ _)⟩
    · intro x hx
      obtain ⟨o, e⟩ := f.ex x hx
      by_cases hxl : x = C.env.locals
      · obtain ⟨o', _, _, ho', _⟩ := hn'
        exact ⟨o', hxl ▸ ho'⟩
      · exact ⟨o, kb x o hxl e⟩
  · obtain ⟨v₀, hv₀⟩ := f.cells n c hc
    refine wpAny_storeName_cell hC.kind hl hc hv₀ fun h' hc' hs' => q _ ⟨fun b o hb e => hs'.extBut b o (fun e' => hb (e' ▸ Cx.cell_mem hc)) e, (by first | exact Nat.le_refl _ | exact Nat.le_succ _)⟩ ?_
    have hseq := cell_no_seq hv₀
    have kb : ∀ b o, b ≠ c → s.heap.get? b = some o → h'.get? b = some o := fun b o hb e => hs'.extBut b o hb e
    refine ⟨?_, ?_, ?_, ?_, ?_, ?_, fun t h => f.tk t h⟩
    · obtain ⟨h1, t1, rfl, l1, k1⟩ := f.keeps
      exact ⟨h', _, rfl, by first | exact Nat.le_succ_of_le l1 | exact l1, fun b o e => hs'.extBut b o (fun e' => by rw [e', hlo] at e; cases e) (k1 b o e)⟩
    · intro y pv' e
      by_cases hy : y = n
      · subst hy
        rw [upd_self] at e; cases e
        exact ⟨v, r.but hs' hseq (by first | exact Nat.le_refl _ | exact Nat.le_succ _), .inr ⟨.inl hl, c, hc, hc'⟩⟩
      · rw [upd_ne (by simpa using hy)] at e
        obtain ⟨v', r', l'⟩ := f.look y pv' e
        refine ⟨v', r'.but hs' hseq (by first | exact Nat.le_refl _ | exact Nat.le_succ _), ?_⟩
        rcases l' with ⟨hk', m', hm', hv'⟩ | ⟨hk', c', hc2, hv'⟩
        · exact .inl ⟨hk', m', hm'.sameBut hs' fun e' => ns_no_cell hm' (e' ▸ hv₀), hv'⟩
        · exact .inr ⟨hk', c', hc2, hv'.sameBut hs' fun e' => hy (hap y (e' ▸ hc2))⟩
    · obtain ⟨m, hm⟩ := f.ns
      exact ⟨m, hm.sameBut hs' fun e' => ns_no_cell hm (e' ▸ hv₀)⟩
    · intro y c' hy
      by_cases hcc : c' = c
      · subst hcc; exact ⟨_, hc'⟩
      · obtain ⟨v', hv'⟩ := f.cells y c' hy
        exact ⟨v', hv'.sameBut hs' hcc⟩
    · intro x xs e
      obtain ⟨h1, h2, items, n', h3, h4, h5⟩ := f.own x xs e
      exact ⟨h1, h2, items, n', hs'.extBut _ _ (fun e' => hseq _ items n' (e' ▸ h3) rfl) h3, h4, fun i a v' q r => (h5 i a v' q r).but hs' hseq (by first | exact Nat.le_refl _ | exact Nat.le_succ _)⟩
    · intro x hx
      obtain ⟨o, e⟩ := f.ex x hx
      by_cases hxl : x = c
      · obtain ⟨o', ho', _⟩ := hc'
        exact ⟨o', hxl ▸ ho'⟩
      · exact ⟨o, kb x o hxl e⟩

theorem Bound.of (hO : C.Owns) {n : Str} (h : C.env.kindOf n = some .local ∨ C.env.kindOf n = some .cell) : Bound C n := h.imp id fun h => ⟨h, hO.all n h⟩

theorem S1_assign (hC : C.Ok B) (hO : C.Owns) {n : Str} {p pos : Pos} {e : Expr} {pv : PV} {P : Out → Prop} (he : Ev B C σ ow e pv) (hk : Bound C n) (h : P (.next (upd σ n pv) ow))
    (hs : swapsWith e (some (.Name n p)) pos.line C.env = pure false) : S1 B C σ ow (.Assign [.Name n p] e pos) P := fun s Q E f q =>
  wpAny_Assign_Name (he s _ E f fun v s' k r => store_ok hC hO.loc hk (f.keep k) r fun s'' k₂ f' => q .next s'' (k.sft.trans k₂) ⟨_, ow, h, f'⟩) hs
end
end Mine
end

section
open PySem PySem.W PyProof.Rows
set_option Elab.async false
set_option linter.unusedVariables false
namespace Mine

def Ex (O : Fb) (s : Shared) : Prop := (∀ x ∈ O.ad, ∃ o, s.heap.get? x = some o) ∧ ∀ t, O.tk t → t < s.toks
theorem Ex.fresh {O : Fb} {s : Shared} (x : Ex O s) : s.heap.objs.size ∉ O.ad := fun hm => by
  obtain ⟨o, e⟩ := x.1 _ hm
  exact absurd (Heap.lt_size e) (Nat.lt_irrefl _)
theorem Ex.keep {O : Fb} {s s' : Shared} (x : Ex O s) (k : Kp s s') : Ex O s' := ⟨fun y hy => let ⟨o, e⟩ := x.1 y hy; ⟨o, k.get _ _ e⟩, fun t h => Nat.lt_of_lt_of_le (x.2 t h) k.le⟩
theorem Ex.notk {O : Fb} {s : Shared} (x : Ex O s) {t : Nat} (h : s.toks ≤ t) : ¬ O.tk t := fun q => Nat.lt_irrefl _ (Nat.lt_of_lt_of_le (x.2 t q) h)
theorem Fok.exO {C : Cx} {σ : Vars} {ow : Own} {s : Shared} (f : Fok C σ ow s) : Ex C.O s := ⟨f.ex, f.tk⟩

/-- what the machine's steps do with values that read so -/
def Bi (B : Bk) (op : Operator) (p q r : PV) : Prop := ∀ A O s v u Q E, Rep O s p v → Rep O s q u → Ex O s →
  (∀ v' s', Kp s s' → Rep O s' r v' → Q v' s') → wpAny (model B.prog B.w) A (binaryOp op v u) Q E s
def In (B : Bk) (op : Operator) (p q r : PV) : Prop := ∀ A O s v u Q E, Rep O s p v → Rep O s q u → Ex O s →
  (∀ v' s', Kp s s' → Rep O s' r v' → Q v' s') → wpAny (model B.prog B.w) A (inplaceOp op v u) Q E s
def Co (B : Bk) (op : CmpOp) (p q : PV) (b : Bool) : Prop := ∀ A O s v u Q E, A.handled = none → A.units < cLine → B.On s → Rep O s p v → Rep O s q u → Ex O s →
  (∀ s', Kp s s' → Q (.bool b) s') → wpAny (model B.prog B.w) A (compareOp op v u) Q E s
def Th (B : Bk) (p : PV) (b : Bool) : Prop := ∀ A O s v Q E, Rep O s p v → (∀ s', Kp s s' → Q b s') → wpAny (model B.prog B.w) A (truthy v) Q E s

section
variable {B : Bk} {C : Cx} {σ : Vars} {ow : Own}

theorem Ev_binop {l r : Expr} {op : Operator} {pos : Pos} {p q t : PV} (h1 : Ev B C σ ow l p) (h2 : Ev B C σ ow r q) (ho : Bi B op p q t) : Ev B C σ ow (.BinOp l op r pos) t := fun s Q E f k =>
  wpAny_BinOp (h1 s _ E f fun v s₁ k₁ r₁ => h2 s₁ _ E (f.keep k₁) fun u s₂ k₂ r₂ => ho C.A C.O s₂ v u Q E (r₁.keep k₂) r₂ (f.keep (Kp.trans' k₁ k₂)).exO fun v' s₃ k₃ r₃ => k v' s₃ (Kp.trans' (Kp.trans' k₁ k₂) k₃) r₃)
theorem Ev_compare (hC : C.Ok B) {l r : Expr} {op : CmpOp} {pos : Pos} {p q : PV} {b : Bool} (h1 : Ev B C σ ow l p) (h2 : Ev B C σ ow r q) (ho : Co B op p q b) (hm : behindInMarks op r = false := by with_unfolding_all rfl) :
    Ev B C σ ow (.Compare l [op] [r] pos) (.bool b) := fun s Q E f k =>
  wpAny_Compare1 (h1 s _ E f fun v s₁ k₁ r₁ => h2 s₁ _ E (f.keep k₁) fun u s₂ k₂ r₂ => ho C.A C.O s₂ v u Q E hC.hh hC.un (Fok.on hC (f.keep (Kp.trans' k₁ k₂))) (r₁.keep k₂) r₂ (f.keep (Kp.trans' k₁ k₂)).exO fun s₃ k₃ => k _ s₃ (Kp.trans' (Kp.trans' k₁ k₂) k₃) .bool) hm
theorem Tr_compare (hC : C.Ok B) {l r : Expr} {op : CmpOp} {pos : Pos} {p q : PV} {b : Bool} (h1 : Ev B C σ ow l p) (h2 : Ev B C σ ow r q) (ho : Co B op p q b) (hm : behindInMarks op r = false := by with_unfolding_all rfl) :
    Tr B C σ ow (.Compare l [op] [r] pos) b := fun s Q E f k =>
  wpAny_isTrue_Compare1 (h1 s _ E f fun v s₁ k₁ r₁ => h2 s₁ _ E (f.keep k₁) fun u s₂ k₂ r₂ => ho C.A C.O s₂ v u _ E hC.hh hC.un (Fok.on hC (f.keep (Kp.trans' k₁ k₂))) (r₁.keep k₂) r₂ (f.keep (Kp.trans' k₁ k₂)).exO fun s₃ k₃ =>
    wpAny_truthy_bool (k s₃ (Kp.trans' (Kp.trans' k₁ k₂) k₃))) hm
theorem Tr_plain {e : Expr} {p : PV} {b : Bool} (h : Ev B C σ ow e p) (ht : Th B p b) (he : isTrue e C.env (eval e C.env) = (do let v ← eval e C.env; standAt e.pos; holding [v] (truthy v)) := by rfl) : Tr B C σ ow e b := fun s Q E f k =>
  isTrue_plain (h s _ E f fun v s₁ k₁ r₁ => ht C.A C.O s₁ v Q E r₁ fun s₂ k₂ => k s₂ (Kp.trans' k₁ k₂)) he
theorem Tr_not {e : Expr} {pos : Pos} {b : Bool} (h : Tr B C σ ow e b) : Tr B C σ ow (.UnaryOp .Not e pos) (!b) := fun s Q E f k =>
  isTrue_not (h s _ E f fun s₁ k₁ => k s₁ k₁)
theorem Tr_and_nil {pos : Pos} : Tr B C σ ow (.BoolOp .And [] pos) true := fun s Q E f k => isTrue_and_nil (k s (Kp.refl' s))
theorem Tr_or_nil {pos : Pos} : Tr B C σ ow (.BoolOp .Or [] pos) false := fun s Q E f k => isTrue_or_nil (k s (Kp.refl' s))
theorem Tr_and {e : Expr} {rest : List Expr} {pos : Pos} {b b' : Bool} (h : Tr B C σ ow e b) (hr : b = true → Tr B C σ ow (.BoolOp .And rest pos) b') : Tr B C σ ow (.BoolOp .And (e :: rest) pos) (b && b') := fun s Q E f k =>
  isTrue_and (h s _ E f fun s₁ k₁ => by
    cases b with
    | true => exact hr rfl s₁ Q E (f.keep k₁) fun s₂ k₂ => k s₂ (Kp.trans' k₁ k₂)
    | false => exact k s₁ k₁)
theorem Tr_or {e : Expr} {rest : List Expr} {pos : Pos} {b b' : Bool} (h : Tr B C σ ow e b) (hr : b = false → Tr B C σ ow (.BoolOp .Or rest pos) b') : Tr B C σ ow (.BoolOp .Or (e :: rest) pos) (b || b') := fun s Q E f k =>
  isTrue_or (h s _ E f fun s₁ k₁ => by
    cases b with
    | false => exact hr rfl s₁ Q E (f.keep k₁) fun s₂ k₂ => k s₂ (Kp.trans' k₁ k₂)
    | true => exact k s₁ k₁)
theorem Ev_ifexp {test body orelse : Expr} {pos : Pos} {b : Bool} {p : PV} (ht : Tr B C σ ow test b) (h1 : b = true → Ev B C σ ow body p) (h2 : b = false → Ev B C σ ow orelse p) : Ev B C σ ow (.IfExp test body orelse pos) p := fun s Q E f k =>
  IfExp_ (ht s _ E f fun s₁ k₁ => by
    cases b with
    | true => exact h1 rfl s₁ Q E (f.keep k₁) fun v s₂ k₂ r => k v s₂ (Kp.trans' k₁ k₂) r
    | false => exact h2 rfl s₁ Q E (f.keep k₁) fun v s₂ k₂ r => k v s₂ (Kp.trans' k₁ k₂) r)
theorem Ev_neg {e : Expr} {pos : Pos} {i : Int} (h : Ev B C σ ow e (.int i)) : Ev B C σ ow (.UnaryOp .USub e pos) (.int (-i)) := fun s Q E f k =>
  UnaryOp_ (h s _ E f fun v s₁ k₁ r => by
    cases r
    exact P.neg_int (k _ _ (Kp.trans' k₁ (Kp.tok ..)) .int))
end

/-! the int's operators -/
section
variable {B : Bk} {a b : Int}
theorem Bi_add : Bi B .Add (.int a) (.int b) (.int (a + b)) := fun A O s v u Q E r₁ r₂ _ k => by cases r₁; cases r₂; exact P.add_int (k _ _ (Kp.tok ..) .int)
theorem Bi_sub : Bi B .Sub (.int a) (.int b) (.int (a - b)) := fun A O s v u Q E r₁ r₂ _ k => by cases r₁; cases r₂; exact P.sub_int (k _ _ (Kp.tok ..) .int)
theorem Bi_mul (hm : IntMulOk a b) : Bi B .Mult (.int a) (.int b) (.int (a * b)) := fun A O s v u Q E r₁ r₂ _ k => by cases r₁; cases r₂; exact P.mul_int (k _ _ (Kp.tok ..) .int) hm
theorem Bi_mod (hb : b ≠ 0) : Bi B .Mod (.int a) (.int b) (.int (a.fmod b)) := fun A O s v u Q E r₁ r₂ _ k => by cases r₁; cases r₂; exact mod_int' hb (k _ _ (Kp.tok ..) .int)
theorem Bi_div (hb : b ≠ 0) (hp : Builtin.divisionGoesByPylong a b = false) : Bi B .FloorDiv (.int a) (.int b) (.int (a.fdiv b)) := fun A O s v u Q E r₁ r₂ _ k => by
  cases r₁; cases r₂; exact floordiv_int hb (k _ _ (Kp.tok ..) .int) (.inl hp)
theorem Bi_pow (hn : 0 ≤ b) (hsz : (Builtin.Int.intBits a : Int) * b ≤ 2 ^ 27) : Bi B .Pow (.int a) (.int b) (.int (a ^ b.toNat)) := fun A O s v u Q E r₁ r₂ _ k => by
  cases r₁; cases r₂; exact pow_int hn hsz (k _ _ (Kp.tok ..) .int)
theorem Bi_shl (hn : 0 ≤ b) (hn2 : b ≤ 1000000) (ha : a.natAbs < 2 ^ 64) : Bi B .LShift (.int a) (.int b) (.int (a * 2 ^ b.toNat)) := fun A O s v u Q E r₁ r₂ _ k => by
  cases r₁; cases r₂; exact lshift_int_small hn hn2 ha (k _ _ (Kp.tok ..) .int)
theorem Bi_and : Bi B .BitAnd (.int a) (.int b) (.int (Builtin.bitAnd a b)) := fun A O s v u Q E r₁ r₂ _ k => by cases r₁; cases r₂; exact and_int (k _ _ (Kp.tok ..) .int)
theorem In_add : In B .Add (.int a) (.int b) (.int (a + b)) := fun A O s v u Q E r₁ r₂ _ k => by cases r₁; cases r₂; exact P.iadd_int (k _ _ (Kp.tok ..) .int)
theorem In_xor : In B .BitXor (.int a) (.int b) (.int (Builtin.bitXor a b)) := fun A O s v u Q E r₁ r₂ _ k => by cases r₁; cases r₂; exact ixor_int (k _ _ (Kp.tok ..) .int)
theorem Co_eq : Co B .Eq (.int a) (.int b) (a == b) := fun A O s v u Q E _ _ _ r₁ r₂ _ k => by cases r₁; cases r₂; exact P.eq_int (k _ (Kp.refl' _))
theorem Co_ne : Co B .NotEq (.int a) (.int b) (a != b) := fun A O s v u Q E _ _ _ r₁ r₂ _ k => by cases r₁; cases r₂; exact P.ne_int (k _ (Kp.refl' _))
theorem Co_lt : Co B .Lt (.int a) (.int b) (decide (a < b)) := fun A O s v u Q E _ _ _ r₁ r₂ _ k => by cases r₁; cases r₂; exact P.lt_int (k _ (Kp.refl' _))
theorem Co_gt : Co B .Gt (.int a) (.int b) (decide (a > b)) := fun A O s v u Q E _ _ _ r₁ r₂ _ k => by cases r₁; cases r₂; exact P.gt_int (k _ (Kp.refl' _))
theorem Th_int : Th B (.int a) (a != 0) := fun A O s v Q E r k => by cases r; exact P.truthy_int (k _ (Kp.refl' _))
end

/-! strs -/
section
variable {B : Bk} {x y : List Nat}
theorem Co_eq_str : Co B .Eq (.str x) (.str y) (x == y) := fun A O s v u Q E _ _ _ r₁ r₂ _ k => by cases r₁; cases r₂; exact P.eq_str (by simpa using k _ (Kp.refl' _))
theorem Co_ne_str : Co B .NotEq (.str x) (.str y) (x != y) := fun A O s v u Q E _ _ _ r₁ r₂ _ k => by cases r₁; cases r₂; exact P.ne_str (by simpa using k _ (Kp.refl' _))
end
end Mine
end

section
open PySem PySem.W PyProof.Rows PySem.Calls
set_option Elab.async false
set_option linter.unusedVariables false
namespace Mine

inductive RepAll (O : Fb) (h : Shared) : List PV → List Value → Prop
  | nil : RepAll O h [] []
  | cons {p ps v vs} : Rep O h p v → RepAll O h ps vs → RepAll O h (p :: ps) (v :: vs)
theorem RepAll.keep {O : Fb} {h h' : Shared} (k : Kp h h') : ∀ {ps : List PV} {vs : List Value}, RepAll O h ps vs → RepAll O h' ps vs
  | _, _, .nil => .nil
  | _, _, .cons r t => .cons (r.keep k) (t.keep k)
theorem RepAll.length {O : Fb} {h : Shared} : ∀ {ps : List PV} {vs : List Value}, RepAll O h ps vs → ps.length = vs.length
  | _, _, .nil => rfl
  | _, _, .cons _ t => by simp [t.length]

def plainArg : Expr → Bool
  | .Starred .. => false
  | _ => true
theorem starEach_cons {e : Expr} {rest : List Expr} {env : Env} (h : plainArg e = true) : starEach (e :: rest) env = (false, eval e env) :: starEach rest env := by
  cases e <;> first | rfl | cases h

def Evs (B : Bk) (C : Cx) (σ : Vars) (ow : Own) (es : List Expr) (ps : List PV) : Prop :=
  ∀ pos s Q E, Fok C σ ow s → (∀ vs s', Kp s s' → RepAll C.O s' ps vs → Q vs s') → wpAny (model B.prog B.w) C.A (spliced (backTo pos (starEach es C.env))) Q E s

section
variable {B : Bk} {C : Cx} {σ : Vars} {ow : Own}
theorem Evs_nil : Evs B C σ ow [] [] := fun pos s Q E f k => args_nil (k [] s (Kp.refl' s) .nil)
theorem Evs_cons {e : Expr} {es : List Expr} {p : PV} {ps : List PV} (h : Ev B C σ ow e p) (hs : Evs B C σ ow es ps) (he : plainArg e = true := by rfl) : Evs B C σ ow (e :: es) (p :: ps) := fun pos s Q E f k =>
  args_cons (h s _ E f fun v s₁ k₁ r₁ => hs pos s₁ _ E (f.keep k₁) fun vs s₂ k₂ r₂ => k _ s₂ (Kp.trans' k₁ k₂) (.cons (r₁.keep k₂) r₂)) (starEach_cons he)

/-- room for calls: k bounds both depths -/
def Rm (A : Around) (k : Nat) : Prop := A.depth ≤ k ∧ A.units ≤ 4 * k

/-- a def of the text, and what a call of it gives back -/
structure IsDef (B : Bk) (n : Str) (d : DefRec) (a : Addr) : Prop where
  name : B.mg n = some (.ref a)
  obj : ∃ o pm cd doc, B.top.get? a = some o ∧ o.data = .func (docDef d.name d.params d.body d.scope pm cd doc) ∧ B.top.CodeRec cd d.name
def Fn (B : Bk) (k : Nat) (n : Str) (ps : List PV) (r : PV) : Prop := ∃ d a, IsDef B n d a ∧ ∀ A O s vs Q E, A.handled = none → Rm A k → Lo B O → B.On s → RepAll O s ps vs → Ex O s →
  (∀ v s', Kp s s' → Rep O s' r v → Q v s') → wpAny (model B.prog B.w) A (call (.ref a) vs) Q E s

theorem Ev_global (hC : C.Ok B) {n : Str} {pos : Pos} {v : Value} (hx : C.env.kindOf n = some .globalImplicit) (hg : B.mg n = some v) (hd : (n == ("__debug__" : Str)) = false) : Ev B C σ ow (.Name n pos) (.raw v) := fun s Q E f k =>
  Name_function_global hC.kind hx (loadGlobal_global (by rw [hC.g]; exact hC.top.g.keeps (Fok.on hC f).1) hg (k v s (Kp.refl' s) .raw)) hd
theorem Ev_builtin (hC : C.Ok B) {n : Str} {pos : Pos} {v : Value} (hx : C.env.kindOf n = some .globalImplicit) (hg : B.mg n = none) (hb : B.mb n = some v) (hd : (n == ("__debug__" : Str)) = false) : Ev B C σ ow (.Name n pos) (.raw v) := fun s Q E f k =>
  Name_function_global hC.kind hx (loadGlobal_builtin (by rw [hC.g]; exact hC.top.g.keeps (Fok.on hC f).1) hg (by rw [hC.b]; exact hC.top.b.keeps (Fok.on hC f).1) hb (k v s (Kp.refl' s) .raw)) hd

theorem Rep.raw_inv {O : Fb} {h : Shared} {u v : Value} (r : Rep O h (.raw u) v) : v = u := by cases r; rfl

theorem call_body (hC : C.Ok B) {k : Nat} {ps : List PV} {r : PV} {d : DefRec} {a : Addr} {o : Obj} {pm cd doc : Value} (ho : B.top.get? a = some o) (hdat : o.data = .func (docDef d.name d.params d.body d.scope pm cd doc))
    (call : ∀ A O s vs Q E, A.handled = none → Rm A k → Lo B O → B.On s → RepAll O s ps vs → Ex O s → (∀ v s', Kp s s' → Rep O s' r v → Q v s') → wpAny (model B.prog B.w) A (PySem.call (.ref a) vs) Q E s) (hk : Rm C.A k)
    {s s₁ : Shared} {Q : Value → Shared → Prop} {E : Value → Shared → Prop} (f : Fok C σ ow s) (k₁ : Kp s s₁) (q : ∀ v s', Kp s s' → Rep C.O s' r v → Q v s') {vs : List Value} {s₂ : Shared} (k₂ : Kp s₁ s₂) (r₂ : RepAll C.O s₂ ps vs) :
    (s₂.heap.get? a = some o ∧ o.data = .func (docDef d.name d.params d.body d.scope pm cd doc)) ∧ wpAny (model B.prog B.w) C.A (PySem.call (.ref a) vs) Q E s₂ := by
  have on₂ : B.On s₂ := Fok.on hC (f.keep (Kp.trans' k₁ k₂))
  exact ⟨⟨on₂.1 a o ho, hdat⟩, call C.A C.O s₂ vs Q E hC.hh hk hC.lo on₂ r₂ (f.keep (Kp.trans' k₁ k₂)).exO fun v s₃ k₃ r₃ => q v s₃ (Kp.trans' (Kp.trans' k₁ k₂) k₃) r₃⟩

theorem Ev_call (hC : C.Ok B) {k : Nat} {n : Str} {e : Expr} {es : List Expr} {p pos : Pos} {ps : List PV} {r : PV} (hF : Fn B k n ps r) (hx : C.env.kindOf n = some .globalImplicit) (hd : (n == ("__debug__" : Str)) = false) (hk : Rm C.A k)
    (ha : Evs B C σ ow (e :: es) ps) (hp : plainArg e = true := by rfl)
    (he : eval (.Call (.Name n p) (e :: es) [] pos) C.env = (do callWith pos (← eval (.Name n p) C.env) [] (backTo pos (starEach (e :: es) C.env)) (backToKw pos (keywordEach [] C.env))) := by rfl) :
    Ev B C σ ow (.Call (.Name n p) (e :: es) [] pos) r := fun s Q E f q => by
  obtain ⟨d, a, hdef, call⟩ := hF
  obtain ⟨o, pm, cd, doc, ho, hdat, _⟩ := hdef.obj
  refine Call_ (Ev_global (pos := p) hC hx hdef.name hd s _ E f fun v s₁ k₁ r₁ => ?_) he
  cases r₁.raw_inv
  refine callWith_function (o := o) (fd := docDef d.name d.params d.body d.scope pm cd doc) ?_
  have h := ha pos s₁ (fun vs s₂ => (s₂.heap.get? a = some o ∧ o.data = .func (docDef d.name d.params d.body d.scope pm cd doc)) ∧ wpAny (model B.prog B.w) C.A (PySem.call (.ref a) vs) Q E s₂) E (f.keep k₁)
    fun vs s₂ k₂ r₂ => call_body hC ho hdat call hk f k₁ q k₂ r₂
  rw [starEach_cons hp] at h ⊢
  exact evalArgs_plain h
theorem Ev_call0 (hC : C.Ok B) {k : Nat} {n : Str} {p pos : Pos} {r : PV} (hF : Fn B k n [] r) (hx : C.env.kindOf n = some .globalImplicit) (hd : (n == ("__debug__" : Str)) = false) (hk : Rm C.A k)
    (he : eval (.Call (.Name n p) [] [] pos) C.env = (do callWith pos (← eval (.Name n p) C.env) [] (backTo pos (starEach [] C.env)) (backToKw pos (keywordEach [] C.env))) := by rfl) :
    Ev B C σ ow (.Call (.Name n p) [] [] pos) r := fun s Q E f q => by
  obtain ⟨d, a, hdef, call⟩ := hF
  obtain ⟨o, pm, cd, doc, ho, hdat, _⟩ := hdef.obj
  refine Call_ (Ev_global (pos := p) hC hx hdef.name hd s _ E f fun v s₁ k₁ r₁ => ?_) he
  cases r₁.raw_inv
  exact callWith_function (PyProof.Rows.evalArgs_none (call_body hC ho hdat call hk f k₁ q (Kp.refl' _) .nil))

/-- names bound one by one -/
def binds : List Str → List PV → Vars → Vars
  | n :: ns, p :: ps, σ => binds ns ps (upd σ n p)
  | _, _, σ => σ

theorem binds_look {O : Fb} {h : Shared} {kindOf : Str → Option NameKind} : ∀ (ns : List Str) (ps : List PV) (vs : List Value) (σ : Vars) (m cm : Str → Option Value), RepAll O h ps vs → (∀ x ∈ ns, kindOf x = some .local ∨ kindOf x = some .cell) →
    (∀ n pv, σ n = some pv → ∃ v, Rep O h pv v ∧ ((kindOf n = some .local ∧ m n = some v) ∨ (kindOf n = some .cell ∧ cm n = some v))) →
    ∀ n pv, binds ns ps σ n = some pv → ∃ v, Rep O h pv v ∧ ((kindOf n = some .local ∧ bindL kindOf (ns.zip vs) m n = some v) ∨ (kindOf n = some .cell ∧ bindC kindOf (ns.zip vs) cm n = some v))
  | [], ps, vs, σ, m, cm, _, _, h => by simpa [binds, bindL, bindC] using h
  | n :: ns, [], _, σ, m, cm, .nil, _, h => by simpa [binds, bindL, bindC] using h
  | n :: ns, p :: ps, v :: vs, σ, m, cm, .cons r rs, hk, h => by
    simp only [binds, List.zip_cons_cons, bindL, bindC]
    refine binds_look ns ps vs _ _ _ rs (fun x hx => hk x (List.mem_cons_of_mem _ hx)) fun y pv e => ?_
    by_cases hy : y = n
    · subst hy
      rw [upd_self] at e; cases e
      rcases hk y List.mem_cons_self with hl | hl
      · exact ⟨v, r, .inl ⟨hl, by simp [hl]⟩⟩
      · exact ⟨v, r, .inr ⟨hl, by simp [hl]⟩⟩
    · rw [upd_ne (by simpa using hy)] at e
      obtain ⟨v', r', h'⟩ := h y pv e
      refine ⟨v', r', ?_⟩
      rcases h' with ⟨hl, hm⟩ | ⟨hl, hm⟩
      · refine .inl ⟨hl, ?_⟩
        by_cases hn : kindOf n = some .local
        · rw [if_pos hn]; simpa [hy] using hm
        · rw [if_neg hn]; exact hm
      · refine .inr ⟨hl, ?_⟩
        by_cases hn : kindOf n = some .local
        · rw [if_pos hn]; exact hm
        · rw [if_neg hn]; simpa [hy] using hm

theorem cellsFrom_some : ∀ (names : List (Str × NameKind)) (k : Nat) (acc : List (Str × Addr)) (n : Str), (acc.lookup n).isSome = true → ((cellsFrom k names acc).lookup n).isSome = true
  | [], _, _, _, h => h
  | (m, kd) :: r, k, acc, n, h => by
    unfold cellsFrom
    split
    · refine cellsFrom_some r _ _ n ?_
      rw [List.lookup_cons]; split <;> simp_all
    · exact cellsFrom_some r _ _ n h
theorem cellsFrom_all : ∀ (names : List (Str × NameKind)) (k : Nat) (acc : List (Str × Addr)) (n : Str), names.lookup n = some .cell → ((cellsFrom k names acc).lookup n).isSome = true
  | (m, kd) :: r, k, acc, n, h => by
    unfold cellsFrom
    rw [List.lookup_cons] at h
    split at h
    · cases h
      rename_i hb
      rw [if_pos (by rfl)]
      refine cellsFrom_some r _ _ n ?_
      rw [List.lookup_cons, hb]; rfl
    · split
      · exact cellsFrom_all r _ _ n h
      · exact cellsFrom_all r _ _ n h

/-- a call of a def, its tokens counted -/
theorem call_cells {prog : Program} {w : World} {A : Around} {s : Shared} {R : Result → Shared → Prop} {a : Addr} {o : Obj} {fd : FuncData} {body : List Stmt} {vals : List Value} {binds : List (Str × Value)}
    (hroom : A.depth < recursionLimit) (ho : s.heap.get? a = some o) (hdata : o.data = .func fd) (hlim : s.heap.NoLimit) (hcd : s.heap.CodeRec fd.code fd.qualname)
    (hbody : fd.body = .stmts body) (hbind : bindArgs fd ⟨vals, []⟩ = pure binds) (hclo : fd.closure = [])
    (hkind : ∀ x ∈ binds, fd.scope.names.lookup x.1 = some .local ∨ (fd.scope.names.lookup x.1 = some .cell ∧ ((cellsFrom (s.heap.objs.size + 1) fd.scope.names []).lookup x.1).isSome = true))
    (h : ∀ s₁, s.toks ≤ s₁.toks → InCallC s (callEnvC fd s.heap.objs.size a).locals (bindL (callEnvC fd s.heap.objs.size a).kindOf binds fun _ => none) (callEnvC fd s.heap.objs.size a).cells
        (bindC (callEnvC fd s.heap.objs.size a).kindOf binds fun _ => none) s₁ →
      wpAny (model prog w) (A.deeper (callEnvC fd s.heap.objs.size a)) (execs body (callEnvC fd s.heap.objs.size a)) (fun f s' => R (.ok (.ret (match f with | .ret v => v | _ => .none))) s')
        (fun e s' => wpAny (model prog w) (A.deeper (callEnvC fd s.heap.objs.size a)) («leaving» (callEnvC fd s.heap.objs.size a) e) (fun _ s'' => R (.error e) s'') (fun e' s'' => R (.error e') s'') s') s₁)
    (hco : fd.scope.isCoroutine = false := by rfl) (hgen : fd.scope.isGenerator = false := by rfl) (hk : fd.scope.kind = .function := by rfl) :
    codeAny (model prog w) A (.call (.ref a) ⟨vals, []⟩) R s := by
  refine codeAny_call_function hroom ho hdata hco hgen hbody hcd ?_
  rw [hbind, hclo]
  refine wpAny_pure (wpAny_with_toks (n := s.toks) (Nat.le_refl _) (wpAny_newFunctionEnv_cells hk hkind fun env he s' x => fun htk => ?_))
  subst he
  exact ⟨hlim.keeps x.toInCall.keep, codeAny_func (h s' htk x)⟩

/-- what a body must end in for its call to give this back -/
def Gives' (r : PV) : Out → Prop
  | .ret pv => pv = r
  | .next _ _ => r = .none
  | .brk _ _ => False

theorem Fn_at (hB : B.Ok) {k : Nat} {n : Str} {d : DefRec} {a : Addr} {ns : List Str} {ps : List PV} {r : PV} (hdef : IsDef B n d a) (hlen : ns.length = ps.length)
    (hbind : ∀ pm cd doc (vs : List Value), vs.length = ns.length → bindArgs (docDef d.name d.params d.body d.scope pm cd doc) ⟨vs, []⟩ = pure (ns.zip vs))
    (hkind' : (ns.all fun x => d.scope.names.lookup x == some .local || d.scope.names.lookup x == some .cell) = true) (hroom : k < 900)
    (hco : d.scope.isCoroutine = false) (hgen : d.scope.isGenerator = false) (hk : d.scope.kind = .function)
    (hfree : (d.scope.names.all fun x => !(x.2 == .free)) = true) {A : Around} {O : Fb} {s : Shared} {vs : List Value} {Q : Value → Shared → Prop} {E : Value → Shared → Prop}
    (h : ∀ C : Cx, C.O = O → C.Ok B → C.Owns → C.Cel → C.env.scope = d.scope → Rm C.A (k + 1) → Ss B C (binds ns ps fun _ => none) none d.body (Gives' r))
    (hh : A.handled = none) (hdep : Rm A k) (lo : Lo B O) (on : B.On s) (rs : RepAll O s ps vs) (hex : Ex O s) (q : ∀ v s', Kp s s' → Rep O s' r v → Q v s') :
    wpAny (model B.prog B.w) A (call (.ref a) vs) Q E s := by
  have hkind : ∀ x ∈ ns, d.scope.names.lookup x = some .local ∨ d.scope.names.lookup x = some .cell := fun x hx => by simpa using List.all_eq_true.mp hkind' x hx
  obtain ⟨o, pm, cd, doc, ho, hdat, hcd⟩ := hdef.obj
  have hlv : vs.length = ns.length := rs.length.symm.trans hlen.symm
  refine wpAny_call (call_cells (binds := ns.zip vs) (Nat.lt_of_le_of_lt hdep.1 (Nat.lt_trans hroom (by decide))) (on.1 a o ho) hdat (hB.lim.keeps on.1) (hcd.keeps on.1) rfl (hbind pm cd doc vs hlv) rfl ?_ ?_ hco hgen hk)
  · rintro ⟨x, v⟩ hx
    have hx' : x ∈ ns := (List.of_mem_zip hx).1
    rcases hkind x hx' with hl | hl
    · exact .inl hl
    · exact .inr ⟨hl, cellsFrom_all _ _ _ _ hl⟩
  · intro s₁ htk ic
    let env := callEnvC (docDef d.name d.params d.body d.scope pm cd doc) s.heap.objs.size a
    let C : Cx := ⟨A.deeper env, env, s, O⟩
    have hun : C.A.units = A.units + 3 := rfl
    have hC : C.Ok B := ⟨hB, hk, rfl, rfl, hh, (by rw [hun]; have := hdep.2; show _ < 9900; omega), on, lo⟩
    have keeps : Kp s s₁ := by
      obtain ⟨h', tk, e, k⟩ := ic.done
      exact ⟨h', tk, e, by rw [e] at htk; exact htk, k⟩
    have hO : C.Owns := ⟨Heap.get?_none_of_le ic.toInCall.fresh, fun x hx => by
      obtain ⟨c, hc⟩ := Option.isSome_iff_exists.mp (cellsFrom_all _ _ _ _ hx)
      exact ⟨c, hc, Heap.get?_none_of_le (Nat.le_of_lt (Nat.lt_of_le_of_lt ic.toInCall.fresh (ic.above x c (mem_of_lookup hc)))), fun n' h' => name_of_addr ic.apart (mem_of_lookup h') (mem_of_lookup hc)⟩⟩
    have hcel : C.Cel := fun x hx => by
      rcases hx with hx | hx
      · exact cellsFrom_all _ _ _ _ hx
      · have := List.all_eq_true.mp hfree (x, .free) (mem_of_lookup hx)
        simp at this
    have hf : Fok C (binds ns ps fun _ => none) none s₁ := by
      refine ⟨keeps, fun x pv e => ?_, ⟨_, ic.toInCall.ns⟩, fun x c hc => ⟨_, ic.cell x c hc⟩, (fun _ _ e => nomatch e), (hex.keep keeps).1, (hex.keep keeps).2⟩
      obtain ⟨v, r', l⟩ := binds_look (O := O) (h := s₁) (kindOf := env.kindOf) ns ps vs (fun _ => none) (fun _ => none) (fun _ => none) (rs.keep keeps) (fun x hx => hkind x hx) (fun _ _ e => nomatch e) x pv e
      refine ⟨v, r', ?_⟩
      rcases l with ⟨hl, hm⟩ | ⟨hl, hm⟩
      · exact .inl ⟨hl, _, ic.toInCall.ns, hm⟩
      · obtain ⟨c, hc, _⟩ := hO.all x hl
        exact .inr ⟨.inl hl, c, hc, hm ▸ ic.cell x c hc⟩
    refine h C rfl hC hO hcel rfl ⟨Nat.succ_le_succ hdep.1, by rw [hun]; have := hdep.2; omega⟩ s₁ _ _ hf fun fl s' _ o => ?_
    cases fl with
    | next => obtain ⟨σ', ow', p, f'⟩ := o; exact q .none s' f'.keeps ((p : r = .none) ▸ .none)
    | cont => exact o.elim
    | brk => obtain ⟨σ', ow', p, f'⟩ := o; exact (p : False).elim
    | ret v => obtain ⟨pv, p, kp, rr⟩ := o; exact q v s' kp ((p : pv = r) ▸ rr)

theorem Fn_intro (hB : B.Ok) {k : Nat} {n : Str} {d : DefRec} {a : Addr} {ns : List Str} {ps : List PV} {r : PV} (hdef : IsDef B n d a) (hlen : ns.length = ps.length)
    (hbind : ∀ pm cd doc (vs : List Value), vs.length = ns.length → bindArgs (docDef d.name d.params d.body d.scope pm cd doc) ⟨vs, []⟩ = pure (ns.zip vs))
    (hkind' : (ns.all fun x => d.scope.names.lookup x == some .local || d.scope.names.lookup x == some .cell) = true) (hroom : k < 900)
    (hco : d.scope.isCoroutine = false) (hgen : d.scope.isGenerator = false) (hk : d.scope.kind = .function)
    (hfree : (d.scope.names.all fun x => !(x.2 == .free)) = true)
    (h : ∀ C : Cx, C.Ok B → C.Owns → C.Cel → C.env.scope = d.scope → Rm C.A (k + 1) → Ss B C (binds ns ps fun _ => none) none d.body (Gives' r)) : Fn B k n ps r :=
  ⟨d, a, hdef, fun A O s vs Q E hh hdep lo on rs hex q => Fn_at hB hdef hlen hbind hkind' hroom hco hgen hk hfree (fun C _ => h C) hh hdep lo on rs hex q⟩
end
end Mine
end

section
open PySem PySem.W PyProof.Rows PySem.Calls
set_option Elab.async false
set_option linter.unusedVariables false
namespace Mine

def Old (M : Fb) (s s' : Shared) : Prop := (∀ b o, b ∉ M.ad → s.heap.get? b = some o → s'.heap.get? b = some o) ∧ s.toks ≤ s'.toks
/-- only these objects turn -/
def WrKp (wr : List Addr) (s s' : Shared) : Prop := ∃ h' tk, s' = { s with heap := h', toks := tk } ∧ s.toks ≤ tk ∧ ∀ b o, b ∉ wr → s.heap.get? b = some o → h'.get? b = some o
theorem WrKp.get {wr : List Addr} {s s' : Shared} (x : WrKp wr s s') : ∀ b o, b ∉ wr → s.heap.get? b = some o → s'.heap.get? b = some o := by
  obtain ⟨h, t, rfl, l, k⟩ := x; exact k
theorem WrKp.le {wr : List Addr} {s s' : Shared} (x : WrKp wr s s') : s.toks ≤ s'.toks := by
  obtain ⟨h, t, rfl, l, k⟩ := x; exact l
theorem WrKp.trans {wr : List Addr} {s s' s'' : Shared} (x : WrKp wr s s') (y : WrKp wr s' s'') : WrKp wr s s'' := by
  obtain ⟨h, t, rfl, l, k⟩ := x
  obtain ⟨h', t', rfl, l', k'⟩ := y
  exact ⟨h', t', rfl, Nat.le_trans l l', fun b o hb e => k' b o hb (k b o hb e)⟩
theorem Kp.wr {wr : List Addr} {s s' : Shared} (x : Kp s s') : WrKp wr s s' := by
  obtain ⟨h, t, rfl, l, k⟩ := x; exact ⟨h, t, rfl, l, fun b o _ e => k b o e⟩

/-- an object of plain fields: no sequence, no names, no cell -/
def Flds (s : Shared) (b : Addr) : Prop := ∃ o vs, s.heap.get? b = some o ∧ o.data = .fields vs
theorem Flds.noNs {s : Shared} {b : Addr} {m : Str → Option Value} (f : Flds s b) (n : s.heap.Ns b m) : False := by
  obtain ⟨o, vs, ho, hd⟩ := f; obtain ⟨o', es, ep, ho', hd', _⟩ := n
  rw [ho] at ho'; cases ho'; rw [hd] at hd'; cases hd'
theorem Flds.noSeq {s : Shared} {b : Addr} (f : Flds s b) : NoSeq s.heap b := by
  obtain ⟨o, vs, ho, hd⟩ := f
  intro o' x n e hd'; rw [ho] at e; cases e; rw [hd] at hd'; cases hd'
theorem Flds.noCell {s : Shared} {b : Addr} {v : Option Value} (f : Flds s b) (n : s.heap.IsCell b v) : False := by
  obtain ⟨o, vs, ho, hd⟩ := f; obtain ⟨o', ho', hd'⟩ := n
  rw [ho] at ho'; cases ho'; rw [hd] at hd'; cases hd'

section
variable {B : Bk} {C : Cx} {σ : Vars} {ow : Own}

/-- objects of plain fields, made since the frame's start, may turn -/
theorem Fok.wr {s s' : Shared} {wr : List Addr} (f : Fok C σ ow s) (k : WrKp wr s s') (hm : ∀ b ∈ wr, b ∉ C.M.ad) (hn : ∀ b ∈ wr, C.s₀.heap.get? b = none) (hf : ∀ b ∈ wr, NoSeq s.heap b) : Fok C σ ow s' := by
  have nseq : ∀ a items n c, s.heap.get? a = some { cls := c, dict := none, data := .seq items n, slots := #[] } → a ∉ wr := fun a items n c e hw => by
    exact hf a hw _ items n e rfl
  have rep : ∀ {O p v}, Rep O s p v → Rep O s' p v := fun r => r.turn (fun a items n c ho hl => ⟨ho, k.get _ _ (nseq _ _ _ _ hl) hl⟩) rfl k.le
  refine ⟨?_, fun n pv e => ?_, ?_, fun n c e => ?_, fun y ys e => ?_, fun y hy => ?_, fun t h => Nat.lt_of_lt_of_le (f.tk t h) k.le⟩
  · obtain ⟨h1, t1, e1, l1, k1⟩ := f.keeps
    have l := f.keeps.le
    obtain ⟨h2, t2, rfl, l2, k2⟩ := k
    refine ⟨h2, t2, by rw [e1], Nat.le_trans l l2, fun b o e => ?_⟩
    exact k2 b o (fun hw => by rw [hn b hw] at e; cases e) (f.keeps.get b o e)
  · obtain ⟨v, r, l⟩ := f.look n pv e
    refine ⟨v, rep r, ?_⟩
    rcases l with ⟨h, m, hm', hv⟩ | ⟨h, c, hc, hv⟩
    · exact .inl ⟨h, m, hm'.at' fun o e => k.get _ o (fun hw => hm _ hw Cx.loc_mem) e, hv⟩
    · obtain ⟨o, ho, hd⟩ := hv
      exact .inr ⟨h, c, hc, o, k.get _ o (fun hw => hm _ hw (Cx.cell_mem hc)) ho, hd⟩
  · obtain ⟨m, h⟩ := f.ns
    exact ⟨m, h.at' fun o e => k.get _ o (fun hw => hm _ hw Cx.loc_mem) e⟩
  · obtain ⟨v, o, ho, hd⟩ := f.cells n c e
    exact ⟨v, o, k.get _ o (fun hw => hm _ hw (Cx.cell_mem e)) ho, hd⟩
  · obtain ⟨h1, h2, items, n, h3, h4, h5⟩ := f.own y ys e
    exact ⟨h1, h2, items, n, k.get _ _ (nseq _ _ _ _ h3) h3, h4, fun i a v q r => rep (h5 i a v q r)⟩
  · obtain ⟨o, e⟩ := f.ex y hy
    exact ⟨o, k.get _ _ (fun hw => hm _ hw (Cx.o_mem hy)) e⟩

end

/-- what one turn of a loop needs of the iterator -/
structure Itr (B : Bk) (A : Around) (s₁ : Shared) (M : Fb) (t : Expr) (it : Addr) (wr : List Addr) (xs : List PV) (St : Nat → Shared → Prop) : Prop where
  new : ∀ b ∈ wr, s₁.heap.get? b = none
  flds : ∀ i s, St i s → ∀ b ∈ wr, Flds s b
  stay : ∀ i s s', St i s → (∀ b ∈ wr, ∀ o, s.heap.get? b = some o → s'.heap.get? b = some o) → St i s'
  item : ∀ (M' : Fb) i x s (Q : Value → Shared → Prop) (E : Value → Shared → Prop), (∀ b ∈ M'.ad, b ∈ M.ad ∨ s₁.heap.get? b = none) → M'.tk = M.tk → (∀ b ∈ M'.ad, b ∉ wr) → Ex M' s → xs[i]? = some x → St i s → Old M' s₁ s →
    (∀ v s', WrKp wr s s' → St (i + 1) s' → Rep M' s' x v → Q v s') →
    wpAny (model B.prog B.w) A (pyNext (.ref it)) (fun r s' => match r with | none => False | some v => wpAny (model B.prog B.w) A (letOwnedTupleGo t (.ref it) v) (fun _ s'' => Q v s'') E s') E s
  done : ∀ (M' : Fb) s (Q : Shared → Prop) (E : Value → Shared → Prop), Old M' s₁ s → (∀ b ∈ M'.ad, b ∈ M.ad ∨ s₁.heap.get? b = none) → St xs.length s → (∀ s', WrKp wr s s' → Q s') → wpAny (model B.prog B.w) A (pyNext (.ref it)) (fun r s' => r = none ∧ Q s') E s
  self : ∀ i s (Q : Value → Shared → Prop) (E : Value → Shared → Prop), St i s → Q (.ref it) s → wpAny (model B.prog B.w) A (pyIter (.ref it)) Q E s

/-- an expression that a loop goes over -/
def It (B : Bk) (C : Cx) (σ : Vars) (ow : Own) (t e : Expr) (xs : List PV) : Prop :=
  xs.length ≤ sizeLine ∧ ∀ s (Q : Value → Shared → Prop) (E : Value → Shared → Prop), Fok C σ ow s →
    (∀ it wr St s₁ s', Kp s s₁ → Kp s₁ s' → Itr B C.A s₁ C.M t it wr xs St → St 0 s' → (∀ b ∈ wr, ∃ o, s'.heap.get? b = some o) → Q (.ref it) s') →
    wpAny (model B.prog B.w) C.A (eval e C.env) (fun x s₂ => wpAny (model B.prog B.w) C.A (pyIter x) Q E s₂) E s

/-- the loop's name or pair of names takes a value -/
def Asg (B : Bk) (C : Cx) (t : Expr) (p : PV) (σ σ' : Vars) : Prop := ∀ ow s v (Q : Unit → Shared → Prop) (E : Value → Shared → Prop), Fok C σ ow s → Rep C.O s p v →
  (∀ s', Sft C s s' → Fok C σ' ow s' → Q () s') → wpAny (model B.prog B.w) C.A (assign t C.env v) Q E s

theorem Asg_name {B : Bk} {C : Cx} {σ : Vars} (hC : C.Ok B) (hO : C.s₀.heap.get? C.env.locals = none) {n : Str} {p : PV} {pos : Pos} (hk : Bound C n) : Asg B C (.Name n pos) p σ (upd σ n p) := fun ow s v Q E f r k =>
  wpAny_assign_Name (store_ok hC hO hk f r k)

theorem Asg_pair {B : Bk} {C : Cx} {σ : Vars} (hC : C.Ok B) (hO : C.s₀.heap.get? C.env.locals = none) {n m : Str} {p q : PV} {pn pm pos : Pos} {k : Nat} (hn : Bound C n) (hm : Bound C m) :
    Asg B C (.Tuple [.Name n pn, .Name m pm] k pos) (.tup [p, q]) σ (upd (upd σ n p) m q) := fun ow s v Q E f r kk => by
  cases r with
  | @tup _ a items nn ho hl hz hlen hi =>
    refine wpAny_assign_Tuple hC.hh ⟨_, hl, rfl, _, rfl⟩ (show 2 = items.size by simpa using hlen) rfl fun h' hx => ?_
    obtain ⟨v₁, v₂, e⟩ : ∃ v₁ v₂, items.toList = [v₁, v₂] := by
      have hl2 : items.toList.length = 2 := by simpa using hlen.symm
      match items.toList, hl2 with
      | [x, y], _ => exact ⟨x, y, rfl⟩
    rw [e]
    have g₁ : items[0]? = some v₁ := by rw [← Array.getElem?_toList, e]; rfl
    have g₂ : items[1]? = some v₂ := by rw [← Array.getElem?_toList, e]; rfl
    have k₁ : Kp s { s with heap := h' } := ⟨h', s.toks, rfl, Nat.le_refl _, fun b o e' => hx b o (Nat.ne_of_lt (Heap.lt_size e')) e'⟩
    have r₁ : Rep C.O s p v₁ := hi 0 p v₁ rfl g₁
    have r₂ : Rep C.O s q v₂ := hi 1 q v₂ rfl g₂
    show wpAny _ C.A (do holding [v₂] (assign (.Name n pn) C.env v₁); do holding [] (assign (.Name m pm) C.env v₂); pure ()) _ _ _
    refine wpAny_bind (wpAny_holding (wpAny_assign_Name (store_ok hC hO hn (f.keep k₁) (r₁.keep k₁) fun s₂ k₂ f₂ => ?_)))
    have r₂' : Rep C.O s₂ q v₂ := (f.keep k₁).rep k₂ (r₂.keep k₁)
    exact wpAny_bind (wpAny_holding (wpAny_assign_Name (store_ok hC hO hm f₂ r₂' fun s₃ k₃ f₃ => wpAny_pure (kk s₃ (k₁.sft.trans (k₂.trans k₃)) f₃))))
end Mine
end

section
open PySem PySem.W PyProof.Rows PySem.Calls
set_option Elab.async false
set_option linter.unusedVariables false
namespace Mine

/-- a loop's target, as far as an owned tuple's letting go looks at it -/
inductive Tgt : Expr → Prop
  | name {n p} : Tgt (.Name n p)
  | tup {es k p} : Tgt (.Tuple es k p)

theorem letGo_listiter {B : Bk} {A : Around} {t : Expr} (ht : Tgt t) {I l : Addr} {i : Nat} {v : Value} {s : Shared} {Q : Unit → Shared → Prop} {E : Value → Shared → Prop} (hit : s.heap.IsListIter I l i) (q : Q () s) :
    wpAny (model B.prog B.w) A (letOwnedTupleGo t (.ref I) v) Q E s := by
  cases ht with
  | name => exact wpAny_pure q
  | tup =>
    cases v with
    | ref a => exact wpAny_letOwnedTupleGo_listiter hit q
    | _ => exact wpAny_pure q

section
variable {B : Bk} {C : Cx} {σ : Vars} {ow : Own}

theorem old_seq {M M' : Fb} {s₁ s : Shared} (hM : ∀ b ∈ M'.ad, b ∈ M.ad ∨ s₁.heap.get? b = none) (hk : M'.tk = M.tk) (ho : Old M' s₁ s) {p : PV} {v : Value} (r : Rep M s₁ p v) : Rep M' s p v :=
  r.turn (O := M) (O' := M') (fun a items n c hn hl => by
    have hn' : a ∉ M'.ad := fun hm => (hM a hm).elim hn fun e => by rw [hl] at e; cases e
    exact ⟨hn', ho.1 a _ hn' hl⟩) hk ho.2

theorem It_list (hC : C.Ok B) {t e : Expr} (ht : Tgt t) {xs : List PV} (hz : xs.length ≤ sizeLine) (h : Ev B C σ ow e (.list xs)) : It B C σ ow t e xs := ⟨hz, fun s Q E f q => h s _ E f fun v s₁ k₁ r₁ => by
  have f₁ := f.keep k₁
  have rM := f₁.up r₁
  cases rM with
  | @list _ ax items n ho hl hz' hn hi =>
    have hl' : s₁.heap.IsList ax items := ⟨_, hl, rfl, n, rfl⟩
    have hnew : s₁.heap.get? s₁.heap.objs.size = none := fresh_size _
    have hl : s₁.heap.get? ax = _ := hl
    have hax : ax ≠ s₁.heap.objs.size := fun e => by rw [e, hnew] at hl; cases hl
    refine wpAny_pyIter_list hl' ?_
    have hit : (s₁.heap.push { cls := .type "list_iterator", data := .fields #[.ref ax, .int 0 0] }).IsListIter s₁.heap.objs.size ax 0 := ⟨_, Heap.get?_push_size _ rfl, rfl, rfl⟩
    refine q s₁.heap.objs.size [s₁.heap.objs.size] (fun i s => s.heap.IsListIter s₁.heap.objs.size ax i) s₁ _ k₁ (Kp.push ..) ⟨?_, ?_, ?_, ?_, ?_, ?_⟩ hit ?_
    · intro b hb; rw [List.mem_singleton.mp hb]; exact hnew
    · rintro i s ⟨o, ho', _, hd⟩ b hb; rw [List.mem_singleton.mp hb]; exact ⟨o, _, ho', hd⟩
    · intro i s s' st k; exact st.at fun o e => k _ List.mem_cons_self o e
    · intro M' i x s Q E hM hk hwr hex hx st old qq
      have hax' : ax ∉ M'.ad := fun hm => (hM ax hm).elim ho fun e => by rw [hl] at e; cases e
      have hls : s.heap.IsList ax items := ⟨_, old.1 ax _ hax' hl, rfl, n, rfl⟩
      have hlt : i < items.size := hn ▸ (List.getElem?_eq_some_iff.mp hx).1
      have hv : items[i]? = some items[i] := by simp [hlt]
      refine wpAny_pyNext_list_item st hls hv fun h' hit' hs' => ?_
      have wk : WrKp [s₁.heap.objs.size] s { s with heap := h' } := ⟨h', s.toks, rfl, Nat.le_refl _, fun b o hb e => hs'.extBut b o (fun e' => hb (List.mem_singleton.mpr e')) e⟩
      have rx : Rep M' { s with heap := h' } x items[i] := (old_seq hM hk old (hi i x _ hx hv)).turn (O := M') (O' := M') (h' := { s with heap := h' }) (fun a its nn c hn' hl'' => ⟨hn', hs'.extBut a _ (fun e => by
        subst e
        obtain ⟨o, ho', _, hd⟩ := st
        rw [hl''] at ho'; cases ho'; cases hd) hl''⟩) rfl (Nat.le_refl _)
      exact letGo_listiter ht hit' (qq _ _ wk hit' rx)
    · intro M' s Q E old hM st qq
      have hax' : ax ∉ M'.ad := fun hm => (hM ax hm).elim ho fun e => by rw [hl] at e; cases e
      have hls : s.heap.IsList ax items := ⟨_, old.1 ax _ hax' hl, rfl, n, rfl⟩
      exact wpAny_pyNext_list_end hC.hh st hls (by simp [hn]) fun h' he => ⟨rfl, qq _ ⟨h', s.toks, rfl, Nat.le_refl _, fun b o hb e => he b o (fun e' => hb (List.mem_singleton.mpr e')) e⟩⟩
    · intro i s Q E st qq; exact wpAny_pyIter_listiter st qq
    · intro b hb; rw [List.mem_singleton.mp hb]; exact ⟨_, Heap.get?_push_size _ rfl⟩⟩

/-- what is behind a loop: turn by turn -/
def Lp (B : Bk) (C : Cx) (t : Expr) (body orelse : List Stmt) (P : Out → Prop) : List PV → Vars → Own → Prop
  | [], σ, ow => Ss B C σ ow orelse P
  | x :: xs, σ, ow => ∃ σ', Asg B C t x σ σ' ∧ Ss B C σ' ow body fun
    | .next σ₂ ow₂ => Lp B C t body orelse P xs σ₂ ow₂
    | .brk σ₂ ow₂ => P (.next σ₂ ow₂)
    | .ret pv => P (.ret pv)

theorem none_mono {M : Fb} {s s' : Shared} (old : Old M s s') {b : Addr} (hb : b ∉ M.ad) (e : s'.heap.get? b = none) : s.heap.get? b = none := by
  cases h : s.heap.get? b with
  | none => rfl
  | some o => rw [old.1 b o hb h] at e; cases e

theorem S1_for (hC : C.Ok B) {t e : Expr} {body orelse : List Stmt} {pos : Pos} {xs : List PV} {P : Out → Prop} (hi : It B C σ ow t e xs) (hl : Lp B C t body orelse P xs σ ow)
    (hs : ∀ x, foldedSetIterable e C.env x = pure x := by intro _; rfl) : S1 B C σ ow (.For t e body orelse pos) P := fun s Q E f q => by
  refine wpAny_For (hi.2 s _ E f fun it wr St s₁ s₂ k₁ k₂ I st hex => ?_) hs
  have f₁ := f.keep k₁
  have f₂ := f₁.keep k₂
  have exM : Ex C.M s₁ := ⟨fun b hb => by
    rcases Cx.mem_M hb with e | ⟨n, e⟩ | e
    · obtain ⟨m, o, _, _, ho, _⟩ := f₁.ns; exact ⟨o, e ▸ ho⟩
    · obtain ⟨v, o, ho, _⟩ := f₁.cells n b e; exact ⟨o, ho⟩
    · exact f₁.ex b e, f₁.tk⟩
  have wrM : ∀ b ∈ C.M.ad, b ∉ wr := fun b hb hw => by
    obtain ⟨o, e⟩ := exM.1 b hb
    rw [I.new b hw] at e; cases e
  have wrM' : ∀ b ∈ wr, b ∉ C.M.ad := fun b hw hb => wrM b hb hw
  have wr₀ : ∀ b ∈ wr, C.s₀.heap.get? b = none := fun b hw => by
    cases h : C.s₀.heap.get? b with
    | none => rfl
    | some o => have := f₁.keeps.get b o h; rw [I.new b hw] at this; cases this
  refine codeAny_forLoop_any (fun n s' => ∃ i rest σ' ow', xs.drop i = rest ∧ n = rest.length ∧ i ≤ xs.length ∧ Lp B C t body orelse P rest σ' ow' ∧ Fok C σ' ow' s' ∧ St i s' ∧ Old C.M s₁ s') ?_ xs.length
    ⟨0, xs, σ, ow, rfl, rfl, Nat.zero_le _, hl, f₂, st, fun b o _ e => k₂.get b o e, k₂.le⟩
  rintro n s' ⟨i, rest, σ', ow', hd, rfl, hle, hlp, f', st', old⟩
  have ex' : Ex C.M s' := ⟨fun b hb => by
    rcases Cx.mem_M hb with e | ⟨n, e⟩ | e
    · obtain ⟨m, o, _, _, ho, _⟩ := f'.ns; exact ⟨o, e ▸ ho⟩
    · obtain ⟨v, o, ho, _⟩ := f'.cells n b e; exact ⟨o, ho⟩
    · exact f'.ex b e, f'.tk⟩
  have sft : ∀ s'', Old C.M s₁ s'' → Sft C s s'' := fun s'' o => ⟨fun b ob hb e => o.1 b ob hb (k₁.get b ob e), Nat.le_trans k₁.le o.2⟩
  cases rest with
  | nil =>
    have hi' : i = xs.length := Nat.le_antisymm hle (List.drop_eq_nil_iff.mp hd)
    subst hi'
    refine wpAny_mono (I.done C.M s' (fun s'' => WrKp wr s' s'') _ old (fun b hb => .inl hb) st' fun s'' wk => wk) (fun r s'' h => ?_) fun _ _ e => e
    obtain ⟨rfl, wk⟩ := h
    have old'' : Old C.M s₁ s'' := ⟨fun b o hb e => by
      by_cases hw : b ∈ wr
      · rw [I.new b hw] at e; cases e
      · exact wk.get b o hw (old.1 b o hb e), Nat.le_trans old.2 wk.le⟩
    exact (hlp : Ss B C σ' ow' orelse P) s'' _ _ (f'.wr wk wrM' wr₀ fun b hb => (I.flds _ _ st' b hb).noSeq) fun fl s₃ k₃ o => q fl s₃ ((sft s'' old'').trans k₃) o
  | cons x rest =>
    have hx : xs[i]? = some x := by rw [← List.head?_drop, hd]; rfl
    have hlt : i < xs.length := (List.getElem?_eq_some_iff.mp hx).1
    obtain ⟨σ₁, ha, hb⟩ := (hlp : ∃ σ₁, Asg B C t x σ' σ₁ ∧ _)
    refine wpAny_mono (I.item C.M i x s' (fun v s'' => WrKp wr s' s'' ∧ St (i + 1) s'' ∧ Rep C.M s'' x v) _ (fun b hb => .inl hb) rfl wrM ex' hx st' old fun v s'' wk st'' r => ⟨wk, st'', r⟩) (fun r s'' h => ?_) fun _ _ e => e
    cases r with
    | none => exact h.elim
    | some v =>
      refine wpAny_mono h (fun _ s₃ h₃ => ?_) fun _ _ e => e
      obtain ⟨wk, st₃, r₃⟩ := h₃
      have old₃ : Old C.M s₁ s₃ := ⟨fun b o hb e => by
        by_cases hw : b ∈ wr
        · rw [I.new b hw] at e; cases e
        · exact wk.get b o hw (old.1 b o hb e), Nat.le_trans old.2 wk.le⟩
      refine ha ow' s₃ v _ _ (f'.wr wk wrM' wr₀ fun b hb => (I.flds _ _ st' b hb).noSeq) (r₃.less fun _ h => Cx.o_mem h) fun s₄ k₄ f₄ => ?_
      have st₄ : St (i + 1) s₄ := I.stay _ _ _ st₃ fun b hw o e => k₄.1 b o (wrM' b hw) e
      have old₄ : Old C.M s₁ s₄ := ⟨fun b o hb e => k₄.1 b o hb (old₃.1 b o hb e), Nat.le_trans old₃.2 k₄.2⟩
      refine hb s₄ _ _ f₄ fun fl s₅ k₅ o => ?_
      have st₅ : St (i + 1) s₅ := I.stay _ _ _ st₄ fun b hw o e => k₅.1 b o (wrM' b hw) e
      have old₅ : Old C.M s₁ s₅ := ⟨fun b o hb e => k₅.1 b o hb (old₄.1 b o hb e), Nat.le_trans old₄.2 k₅.2⟩
      cases fl with
      | next =>
        obtain ⟨σ₂, ow₂, p, f₅⟩ := o
        exact ⟨rest.length, by simp, i + 1, rest, σ₂, ow₂, by rw [← List.tail_drop, hd]; rfl, rfl, hlt, p, f₅, st₅, old₅⟩
      | cont => exact o.elim
      | brk =>
        obtain ⟨σ₂, ow₂, p, f₅⟩ := o
        exact q .next s₅ (sft s₅ old₅) ⟨σ₂, ow₂, p, f₅⟩
      | ret v =>
        obtain ⟨pv, p, kk, r⟩ := o
        exact q (.ret v) s₅ (sft s₅ old₅) ⟨pv, p, kk, r⟩
end
end Mine
end

section
open PySem PySem.W PyProof.Rows PySem.Calls
set_option Elab.async false
set_option linter.unusedVariables false
namespace Mine

theorem letGo_name {B : Bk} {A : Around} {n : Str} {p : Pos} {I v : Value} {s : Shared} {Q : Unit → Shared → Prop} {E : Value → Shared → Prop} (q : Q () s) :
    wpAny (model B.prog B.w) A (letOwnedTupleGo (.Name n p) I v) Q E s := wpAny_pure q

/-- the items of a range of step one -/
def rangeV (a b : Int) : List PV := (List.range (b - a).toNat).map fun (i : Nat) => PV.int (a + (i : Int))

section
variable {B : Bk} {C : Cx} {σ : Vars} {ow : Own}

/-- a range's iterator -/
theorem Itr_range {A : Around} (hh : A.handled = none) {s₁ : Shared} {M : Fb} {n : Str} {p : Pos} {it : Addr} {a b : Int} (hnew : s₁.heap.get? it = none) :
    Itr B A s₁ M (.Name n p) it [it] (rangeV a b) (fun i s => i ≤ (b - a).toNat ∧ IsRangeIter s.heap it (a + i) ((b - a).toNat - (i : Int)) 1) where
  new := fun b hb => by rw [List.mem_singleton.mp hb]; exact hnew
  flds := fun i s ⟨_, h⟩ b hb => by rw [List.mem_singleton.mp hb]; exact ⟨_, _, h, rfl⟩
  stay := fun i s s' ⟨hi, h⟩ k => ⟨hi, k it List.mem_cons_self _ h⟩
  item := fun M' i x s Q E hM hk hwr hex hx ⟨hi, st⟩ old qq => by
    have hx' : (rangeV a b)[i]? = some x := hx
    unfold rangeV at hx'
    rw [List.getElem?_map] at hx'
    have hlt : i < (b - a).toNat := by
      by_cases h : i < (b - a).toNat
      · exact h
      · rw [List.getElem?_eq_none (by simpa using h)] at hx'; cases hx'
    rw [List.getElem?_range hlt] at hx'
    cases hx'
    refine wpAny_pyNext_range_item st (by omega) fun h' hit' hs' => letGo_name (qq _ _ ⟨h', _, rfl, by first | exact Nat.le_refl _ | (show _ ≤ _; omega), fun b o hb e => hs'.extBut b o (fun e' => hb (List.mem_singleton.mpr e')) e⟩ ⟨hlt, ?_⟩ .int)
    have e1 : a + ((i + 1 : Nat) : Int) = a + i + 1 := by omega
    have e2 : ((b - a).toNat : Int) - ((i + 1 : Nat) : Int) = (b - a).toNat - (i : Int) - 1 := by omega
    rw [e1, e2]
    exact hit'
  done := fun M' s Q E old hM ⟨hi, st⟩ qq => by
    have hlen : (rangeV a b).length = (b - a).toNat := by simp [rangeV]
    exact wpAny_pyNext_range_end hh st (by rw [hlen]; omega) fun h' he => ⟨rfl, qq _ ⟨h', s.toks, rfl, Nat.le_refl _, fun b o hb e => he b o (fun e' => hb (List.mem_singleton.mpr e')) e⟩⟩
  self := fun i s Q E ⟨hi, st⟩ qq => by
    exact wpAny_pyIter_rangeiter st qq

theorem It_range1 (hC : C.Ok B) {n f : Str} {p pf pos : Pos} {e : Expr} {b : Int} (h0 : 0 ≤ b) (hb : b < 2 ^ 20) (hx : C.env.kindOf f = some .globalImplicit) (hg : B.mg f = none) (hbu : B.mb f = some (.type "range")) (hd : (f == ("__debug__" : Str)) = false)
    (h : Ev B C σ ow e (.int b)) (hp : plainArg e = true := by rfl)
    (he : eval (.Call (.Name f pf) [e] [] pos) C.env = (do callWith pos (← eval (.Name f pf) C.env) [] (backTo pos (starEach [e] C.env)) (backToKw pos (keywordEach [] C.env))) := by rfl) :
    It B C σ ow (.Name n p) (.Call (.Name f pf) [e] [] pos) (rangeV 0 b) := ⟨by simp only [rangeV, List.length_map, List.length_range]; unfold sizeLine; omega, fun s Q E fk q => by
  refine Call_ (Ev_builtin (pos := pf) hC hx hg hbu hd s _ E fk fun v s₁ k₁ r₁ => ?_) he
  cases r₁.raw_inv
  refine PyProof.Rows.callWith_type1 (args_cons (h s₁ _ E (fk.keep k₁) fun v s₂ k₂ r₂ => args_nil ?_) (starEach_cons hp)) (starEach_cons hp)
  cases r₂
  refine call_range_1 ?_
  have hr := IsRange.new s₂.heap 0 b 1 s₂.toks ‹_› (s₂.toks + 1)
  refine wpAny_pyIter_range (s := { s₂ with heap := _, toks := _ }) hr (small_one (by decide) (by decide) (by omega) (by omega)) ?_
  have hk : Kp s { s₂ with heap := s₂.heap.push { cls := .type "range", data := .fields #[.int 0 s₂.toks, .int b ‹_›, .int 1 (s₂.toks + 1)] }, toks := s₂.toks + 1 + 1 } :=
    Kp.trans' (Kp.trans' k₁ k₂) ⟨_, _, rfl, by first | exact Nat.le_refl _ | (show @LE.le Nat _ _ _; omega), fun b o e => Heap.get?_push_of_some _ e⟩
  have hnew := fresh_size (s₂.heap.push { cls := .type "range", data := .fields #[.int 0 s₂.toks, .int b ‹_›, .int 1 (s₂.toks + 1)] })
  refine q _ _ _ _ _ hk (Kp.push ..) (Itr_range (a := 0) (b := b) hC.hh hnew) ⟨Nat.zero_le _, ?_⟩ ?_
  · have := Heap.get?_push_size (s₂.heap.push { cls := .type "range", data := .fields #[.int 0 s₂.toks, .int b ‹_›, .int 1 (s₂.toks + 1)] }) (o := { cls := .type "range_iterator", data := .fields #[rawInt 0, rawInt (Builtin.Range.rangeSize 0 b 1), rawInt 1] }) rfl
    have e : ((b - 0).toNat : Int) - ((0 : Nat) : Int) = Builtin.Range.rangeSize 0 b 1 := by rw [rangeSize_one]; split <;> omega
    rw [e]
    exact this
  · intro x hx; rw [List.mem_singleton.mp hx]; exact ⟨_, Heap.get?_push_size _ rfl⟩⟩

theorem It_range2 (hC : C.Ok B) {n f : Str} {p pf pos : Pos} {e₁ e₂ : Expr} {a b : Int} (ha0 : 0 ≤ a) (ha : a < 2 ^ 20) (h0 : 0 ≤ b) (hb : b < 2 ^ 20) (hx : C.env.kindOf f = some .globalImplicit) (hg : B.mg f = none) (hbu : B.mb f = some (.type "range")) (hd : (f == ("__debug__" : Str)) = false)
    (h₁ : Ev B C σ ow e₁ (.int a)) (h₂ : Ev B C σ ow e₂ (.int b)) (hp₁ : plainArg e₁ = true := by rfl) (hp₂ : plainArg e₂ = true := by rfl)
    (he : eval (.Call (.Name f pf) [e₁, e₂] [] pos) C.env = (do callWith pos (← eval (.Name f pf) C.env) [] (backTo pos (starEach [e₁, e₂] C.env)) (backToKw pos (keywordEach [] C.env))) := by rfl) :
    It B C σ ow (.Name n p) (.Call (.Name f pf) [e₁, e₂] [] pos) (rangeV a b) := ⟨by simp only [rangeV, List.length_map, List.length_range]; unfold sizeLine; omega, fun s Q E fk q => by
  refine Call_ (Ev_builtin (pos := pf) hC hx hg hbu hd s _ E fk fun v s₁ k₁ r₁ => ?_) he
  cases r₁.raw_inv
  refine PyProof.Rows.callWith_type1 (args_cons (h₁ s₁ _ E (fk.keep k₁) fun v s₂ k₂ r₂ => args_cons (h₂ s₂ _ E (fk.keep (Kp.trans' k₁ k₂)) fun u s₃ k₃ r₃ => args_nil ?_) (starEach_cons hp₂)) (starEach_cons hp₁)) (starEach_cons hp₁) (by rw [starEach_cons hp₂]; rfl)
  cases r₂
  cases r₃
  refine call_range_2 ?_
  rename_i ta tb
  have hr := IsRange.new s₃.heap a b 1 ta tb s₃.toks
  refine wpAny_pyIter_range (s := { s₃ with heap := _, toks := _ }) hr (small_one (by omega) (by omega) (by omega) (by omega)) ?_
  have hk : Kp s { s₃ with heap := s₃.heap.push { cls := .type "range", data := .fields #[.int a ta, .int b tb, .int 1 s₃.toks] }, toks := s₃.toks + 1 } :=
    Kp.trans' (Kp.trans' (Kp.trans' k₁ k₂) k₃) ⟨_, _, rfl, by first | exact Nat.le_refl _ | (show @LE.le Nat _ _ _; omega), fun b o e => Heap.get?_push_of_some _ e⟩
  have hnew := fresh_size (s₃.heap.push { cls := .type "range", data := .fields #[.int a ta, .int b tb, .int 1 s₃.toks] })
  refine q _ _ _ _ _ hk (Kp.push ..) (Itr_range (a := a) (b := b) hC.hh hnew) ⟨Nat.zero_le _, ?_⟩ ?_
  · have := Heap.get?_push_size (s₃.heap.push { cls := .type "range", data := .fields #[.int a ta, .int b tb, .int 1 s₃.toks] }) (o := { cls := .type "range_iterator", data := .fields #[rawInt a, rawInt (Builtin.Range.rangeSize a b 1), rawInt 1] }) rfl
    have e : ((b - a).toNat : Int) - ((0 : Nat) : Int) = Builtin.Range.rangeSize a b 1 := by rw [rangeSize_one]; split <;> omega
    have e' : a + ((0 : Nat) : Int) = a := by omega
    rw [e, e']
    exact this
  · intro x hx; rw [List.mem_singleton.mp hx]; exact ⟨_, Heap.get?_push_size _ rfl⟩⟩

/-- what enumerate tells of a list -/
def enumV (xs : List PV) : List PV := xs.zipIdx.map fun (x, i) => .tup [.int (i : Nat), x]
theorem enumV_length (xs : List PV) : (enumV xs).length = xs.length := by simp [enumV]
theorem enumV_get {xs : List PV} {i : Nat} {y : PV} (h : (enumV xs)[i]? = some y) : ∃ x, xs[i]? = some x ∧ y = .tup [.int (i : Nat), x] := by
  unfold enumV at h
  rw [List.getElem?_map, List.getElem?_zipIdx] at h
  cases hx : xs[i]? with
  | none => rw [hx] at h; cases h
  | some x => rw [hx] at h; simp at h; exact ⟨x, rfl, h.symm⟩

theorem It_enum (hC : C.Ok B) {es : List Expr} {k : Nat} {pt : Pos} {f : Str} {pf pos : Pos} {e : Expr} {xs : List PV} (hz : xs.length ≤ sizeLine) (hx : C.env.kindOf f = some .globalImplicit) (hg : B.mg f = none) (hbu : B.mb f = some (.type "enumerate")) (hd : (f == ("__debug__" : Str)) = false)
    (h : Ev B C σ ow e (.list xs)) (hp : plainArg e = true := by rfl)
    (he : eval (.Call (.Name f pf) [e] [] pos) C.env = (do callWith pos (← eval (.Name f pf) C.env) [] (backTo pos (starEach [e] C.env)) (backToKw pos (keywordEach [] C.env))) := by rfl) :
    It B C σ ow (.Tuple es k pt) (.Call (.Name f pf) [e] [] pos) (enumV xs) := ⟨by rw [enumV_length]; exact hz, fun s Q E fk q => by
  refine Call_ (Ev_builtin (pos := pf) hC hx hg hbu hd s _ E fk fun v s₀ k₀ r₀ => ?_) he
  cases r₀.raw_inv
  refine PyProof.Rows.callWith_type1 (args_cons (h s₀ _ E (fk.keep k₀) fun v s₁ k₁ r₁ => args_nil ?_) (starEach_cons hp)) (starEach_cons hp)
  have f₁ := (fk.keep k₀).keep k₁
  have rM := f₁.up r₁
  cases rM with
  | @list _ ax items n ho hl hz' hn hi =>
    have hl : s₁.heap.get? ax = _ := hl
    have hl' : s₁.heap.IsList ax items := ⟨_, hl, rfl, n, rfl⟩
    have hlt : ax < s₁.heap.objs.size := Heap.lt_size hl
    refine call_enumerate_list hl' fun h' hen hit hsz hk => ?_
    have hnew : s₁.heap.get? s₁.heap.objs.size = none := fresh_size _
    have hnew' : s₁.heap.get? (s₁.heap.objs.size + 1) = none := Heap.get?_none_of_le (Nat.le_succ _)
    refine wpAny_pyIter_enum (s := { s₁ with heap := h' }) hen ?_
    refine q (s₁.heap.objs.size + 1) [s₁.heap.objs.size + 1, s₁.heap.objs.size] (fun i s => (∃ old, IsEnum s.heap (s₁.heap.objs.size + 1) s₁.heap.objs.size (i : Nat) old) ∧ s.heap.IsListIter s₁.heap.objs.size ax i) s₁ _ (Kp.trans' k₀ k₁) ⟨h', s₁.toks, rfl, Nat.le_refl _, hk⟩ ⟨?_, ?_, ?_, ?_, ?_, ?_⟩ ⟨⟨_, hen⟩, hit⟩ ?_
    · intro b hb
      rcases List.mem_cons.mp hb with e | hb
      · rw [e]; exact hnew'
      · rw [List.mem_singleton.mp hb]; exact hnew
    · rintro i s ⟨⟨old, h1⟩, ⟨o, ho', _, hd⟩⟩ b hb
      rcases List.mem_cons.mp hb with e | hb
      · rw [e]; exact ⟨_, _, h1, rfl⟩
      · rw [List.mem_singleton.mp hb]; exact ⟨o, _, ho', hd⟩
    · rintro i s s' ⟨⟨old, h1⟩, h2⟩ k
      exact ⟨⟨old, k _ List.mem_cons_self _ h1⟩, h2.at fun o e => k _ (List.mem_cons_of_mem _ List.mem_cons_self) o e⟩
    · rintro M' i y s Q E hM hkt hwr hex hy ⟨⟨oldv, h1⟩, h2⟩ old qq
      obtain ⟨x, hx, rfl⟩ := enumV_get hy
      have hax' : ax ∉ M'.ad := fun hm => (hM ax hm).elim ho fun e => by rw [hl] at e; cases e
      have hls : s.heap.IsList ax items := ⟨_, old.1 ax _ hax' hl, rfl, n, rfl⟩
      have hlt : i < items.size := hn ▸ (List.getElem?_eq_some_iff.mp hx).1
      have hv : items[i]? = some items[i] := by simp [hlt]
      refine wpAny_pyNext_enum_item h1 h2 hls hv (Nat.succ_ne_self _) fun h₂ heo hit₂ ht₂ hz₂ hk₂ => ?_
      refine wpAny_letOwnedTupleGo_enum (s := { s with heap := h₂, toks := _ }) heo fun h₃ he₃ hs₃ => ?_
      replace hs₃ : Heap.SameBut (s₁.heap.objs.size + 1) h₂ h₃ := hs₃
      have hTe : s.heap.objs.size ≠ s₁.heap.objs.size + 1 := fun e => by
        have h := fresh_size s.heap
        rw [e] at h
        have h1' : s.heap.get? (s₁.heap.objs.size + 1) = _ := h1
        rw [h1'] at h; cases h
      have hIe : s₁.heap.objs.size ≠ s₁.heap.objs.size + 1 := (Nat.succ_ne_self _).symm
      refine qq _ _ ⟨h₃, _, rfl, by first | exact Nat.le_refl _ | (show @LE.le Nat _ _ _; omega) | exact Nat.le_add_right _ _, fun b o hb e => hs₃.extBut b o (fun e' => hb (e' ▸ List.mem_cons_self)) (hk₂ b o (fun e' => hb (e' ▸ List.mem_cons_self)) (fun e' => hb (e' ▸ List.mem_cons_of_mem _ List.mem_cons_self)) e)⟩
        ⟨⟨_, by have e : ((i + 1 : Nat) : Int) = (i : Int) + 1 := by omega
                rw [e]; exact he₃⟩, hit₂.extBut hs₃.extBut hIe⟩ ?_
      have ht₃ : h₃.get? s.heap.objs.size = some { cls := .type "tuple", data := .seq #[.int i s.toks, items[i]] } := (hs₃.2 _ hTe).trans ht₂
      refine .tup (n := _) hex.fresh ht₃ (by show 2 ≤ sizeLine; decide) rfl fun j y v hy hv' => ?_
      match j, hy, hv' with
      | 0, hy, hv' => cases hy; cases hv'; exact .int
      | 1, hy, hv' =>
        cases hy; cases hv'
        exact (old_seq hM hkt old (hi i x _ hx hv)).turn (O := M') (O' := M') (kt := rfl) (kb := by first | exact Nat.le_refl _ | exact Nat.le_succ _ | exact Nat.le_add_right _ _) fun a its nn c hn' hl'' => ⟨hn', by
          have a1 : a ≠ s₁.heap.objs.size + 1 := fun e => by
            subst e
            have h1' : s.heap.get? (s₁.heap.objs.size + 1) = _ := h1
            rw [h1'] at hl''; cases hl''
          have a2 : a ≠ s₁.heap.objs.size := fun e => by
            subst e
            obtain ⟨o, ho', _, hd⟩ := h2
            rw [hl''] at ho'; cases ho'; cases hd
          exact hs₃.extBut a _ a1 (hk₂ a _ a1 a2 hl'')⟩
    · rintro M' s Q E old hM ⟨⟨oldv, h1⟩, h2⟩ qq
      rw [enumV_length] at h1 h2
      have hax' : ax ∉ M'.ad := fun hm => (hM ax hm).elim ho fun e => by rw [hl] at e; cases e
      have hls : s.heap.IsList ax items := ⟨_, old.1 ax _ hax' hl, rfl, n, rfl⟩
      exact wpAny_pyNext_enum_end hC.hh h1 h2 hls (by simp [hn]) fun h' he => ⟨rfl, qq _ ⟨h', s.toks, rfl, Nat.le_refl _, fun b o hb e => he b o (fun e' => hb (e' ▸ List.mem_cons_of_mem _ List.mem_cons_self)) e⟩⟩
    · rintro i s Q E ⟨⟨oldv, h1⟩, h2⟩ qq; exact wpAny_pyIter_enum h1 qq
    · intro b hb
      rcases List.mem_cons.mp hb with e | hb
      · rw [e]; exact ⟨_, hen⟩
      · rw [List.mem_singleton.mp hb]; obtain ⟨o, ho', _⟩ := hit; exact ⟨o, ho'⟩⟩
end
end Mine
end

section
open PySem PySem.W PyProof.Rows PySem.Calls
set_option Elab.async false
set_option linter.unusedVariables false
namespace Mine

section
variable {B : Bk} {C : Cx} {σ : Vars} {ow : Own}

/-- the frame's own list grows -/
theorem append_ok {x : Addr} {xs : List PV} {y : PV} {v : Value} {s : Shared} {Q : Value → Shared → Prop} {E : Value → Shared → Prop} (f : Fok C σ (some (x, xs)) s) (hz : xs.length ≤ sizeLine) (r : Rep C.O s y v)
    (q : ∀ s', Sft C s s' → Fok C σ (some (x, xs ++ [y])) s' → Q .none s') : wpAny (model B.prog B.w) C.A (call (.builtin "list.append") [.ref x, v]) Q E s := by
  obtain ⟨hxO, hxs, items, n, hl, hlen, hr⟩ := f.own x xs rfl
  have hxM : x ∈ C.M.ad := Cx.o_mem hxO
  have hl' : s.heap.get? x = _ := hl
  have hT : s.TypeIs (.ref x) "list" := ⟨_, hl, rfl⟩
  refine call_meets F.slot_list_append hT F.entry_list_append (F.args_list_append_2 _ _) (list_append x items n v (by omega)) ⟨hl, ?_⟩
  have hs' : Heap.SameBut x s.heap (s.heap.update x (Obj.mapSeq fun y => y.push v)) := Heap.SameBut.update ..
  have hx' := IsL.update (show IsL s.heap x items n from hl) fun y => y.push v
  have kO : ∀ b o, b ∉ C.O.ad → s.heap.get? b = some o → (s.heap.update x (Obj.mapSeq fun y => y.push v)).get? b = some o := fun b o hb e => hs'.extBut b o (fun e' => hb (e' ▸ hxO)) e
  have kR : ∀ {p u}, Rep C.O s p u → Rep C.O { s with heap := s.heap.update x (Obj.mapSeq fun y => y.push v), toks := s.toks } p u := fun r => r.keepO (h' := { s with heap := s.heap.update x (Obj.mapSeq fun y => y.push v), toks := s.toks }) kO (Nat.le_refl _)
  have hL : ∀ m, s.heap.Ns C.env.locals m → C.env.locals ≠ x := fun m hm e => ns_no_seq hm _ items n (e ▸ hl) rfl
  have hc : ∀ c v, s.heap.IsCell c v → c ≠ x := fun c v hv e => cell_no_seq hv _ items n (e ▸ hl) rfl
  refine q { s with heap := s.heap.update x (Obj.mapSeq fun y => y.push v), toks := s.toks } ⟨fun b o hb e => hs'.extBut b o (fun e' => hb (e' ▸ hxM)) e, Nat.le_refl _⟩ ⟨?_, fun n' pv e => ?_, ?_, fun n' c e => ?_, fun z zs e => ?_, fun z hz' => ?_, f.tk⟩
  · obtain ⟨h1, t1, e1, l1, k1⟩ := f.keeps
    exact ⟨s.heap.update x (Obj.mapSeq fun y => y.push v), s.toks, by rw [e1], f.keeps.le, fun b o e => hs'.extBut b o (fun e' => by rw [e', hxs] at e; cases e) (f.keeps.get b o e)⟩
  · obtain ⟨v', r', l⟩ := f.look n' pv e
    refine ⟨v', kR r', ?_⟩
    rcases l with ⟨h, m, hm, hv⟩ | ⟨h, c, hcc, hv⟩
    · exact .inl ⟨h, m, hm.sameBut hs' (hL m hm), hv⟩
    · exact .inr ⟨h, c, hcc, hv.sameBut hs' (hc _ _ hv)⟩
  · obtain ⟨m, hm⟩ := f.ns
    exact ⟨m, hm.sameBut hs' (hL m hm)⟩
  · obtain ⟨v', hv⟩ := f.cells n' c e
    exact ⟨v', hv.sameBut hs' (hc _ _ hv)⟩
  · cases e
    refine ⟨hxO, hxs, items.push v, _, hx', by simp [hlen], fun i a u q1 q2 => ?_⟩
    by_cases hi : i < xs.length
    · rw [List.getElem?_append_left hi] at q1
      rw [Array.getElem?_push, if_neg (by omega)] at q2
      exact kR (hr i a u q1 q2)
    · have hi' : i = xs.length := by
        have := (Array.getElem?_eq_some_iff.mp q2).1
        rw [Array.size_push] at this; omega
      subst hi'
      rw [List.getElem?_append_right (Nat.le_refl _), Nat.sub_self] at q1
      cases q1
      rw [Array.getElem?_push, if_pos hlen] at q2
      cases q2
      exact kR r
  · obtain ⟨o, e⟩ := f.ex z hz'
    by_cases hzx : z = x
    · subst hzx; exact ⟨_, hx'⟩
    · exact ⟨o, hs'.extBut z o hzx e⟩
end

/-! ## cells of a comprehension's frame -/
theorem lookup_cellsFrom : ∀ (names : List (Str × NameKind)) (h : Heap) (acc : List (Str × Addr)) (n : Str) (c : Addr), (cellsFrom h.objs.size names acc).lookup n = some c →
    acc.lookup n = some c ∨ (h.objs.size ≤ c ∧ (pushCells h names).IsCell c none)
  | [], _, _, _, _, e => .inl e
  | (m, kd) :: r, h, acc, n, c, e => by
    unfold cellsFrom at e
    unfold pushCells
    split at e
    · rename_i hk
      rw [if_pos hk]
      have e' : (cellsFrom (h.push { cls := .type "cell", data := .cell none }).objs.size r ((m, h.objs.size) :: acc)).lookup n = some c := by rw [Heap.size_push]; exact e
      rcases lookup_cellsFrom r _ _ n c e' with h1 | ⟨h1, h2⟩
      · rw [List.lookup_cons] at h1
        split at h1
        · cases h1
          exact .inr ⟨Nat.le_refl _, _, pushCells_keeps _ _ _ _ (Heap.get?_push_size _ rfl), rfl⟩
        · exact .inl h1
      · rw [Heap.size_push] at h1
        exact .inr ⟨Nat.le_of_succ_le h1, h2⟩
    · rename_i hk
      rw [if_neg hk]
      exact lookup_cellsFrom r h acc n c e

theorem inj_cellsFrom : ∀ (names : List (Str × NameKind)) (k lo : Nat) (acc : List (Str × Addr)), (∀ n c, acc.lookup n = some c → @LT.lt Nat _ c k) → (∀ n n' (c : Addr), acc.lookup n = some c → acc.lookup n' = some c → lo ≤ c → n' = n) →
    ∀ n n' (c : Addr), (cellsFrom k names acc).lookup n = some c → (cellsFrom k names acc).lookup n' = some c → lo ≤ c → n' = n
  | [], _, _, _, _, h => h
  | (m, kd) :: r, k, lo, acc, hlt, h => by
    unfold cellsFrom
    split
    · refine inj_cellsFrom r (k + 1) lo _ (fun n c e => ?_) fun n n' c e e' hlo => ?_
      · rw [List.lookup_cons] at e
        split at e
        · cases e; exact Nat.lt_succ_self _
        · exact Nat.lt_succ_of_lt (hlt n c e)
      · rw [List.lookup_cons] at e e'
        split at e <;> split at e'
        · rename_i _ h1 _ h2
          exact (beq_iff_eq.mp h2).trans (beq_iff_eq.mp h1).symm
        · cases e; exact absurd (hlt n' _ e') (Nat.lt_irrefl _)
        · cases e'; exact absurd (hlt n _ e) (Nat.lt_irrefl _)
        · exact h n n' c e e' hlo
    · exact inj_cellsFrom r k lo acc hlt h

theorem cellsFrom_own : ∀ (names : List (Str × NameKind)) (k : Nat) (acc : List (Str × Addr)) (n : Str), names.lookup n = some .cell → (∃ c, acc.lookup n = some c ∧ @LE.le Nat _ k c) ∨ True → ∃ c, (cellsFrom k names acc).lookup n = some c ∧ @LE.le Nat _ k c := by
  have mono : ∀ (names : List (Str × NameKind)) (k k₀ : Nat) (acc : List (Str × Addr)) (n : Str), k₀ ≤ k → (∃ c, acc.lookup n = some c ∧ @LE.le Nat _ k₀ c) → ∃ c, (cellsFrom k names acc).lookup n = some c ∧ @LE.le Nat _ k₀ c := by
    intro names
    induction names with
    | nil => intro k k₀ acc n hk h; exact h
    | cons x r ih =>
      obtain ⟨m, kd⟩ := x
      intro k k₀ acc n hk h
      unfold cellsFrom
      split
      · refine ih (k + 1) k₀ _ n (Nat.le_succ_of_le hk) ?_
        rw [List.lookup_cons]
        split
        · exact ⟨k, rfl, hk⟩
        · exact h
      · exact ih k k₀ acc n hk h
  intro names
  induction names with
  | nil => intro k acc n h; cases h
  | cons x r ih =>
    obtain ⟨m, kd⟩ := x
    intro k acc n h _
    unfold cellsFrom
    rw [List.lookup_cons] at h
    split at h
    · cases h
      rename_i hb
      rw [if_pos (by rfl)]
      refine mono r (k + 1) k _ n (Nat.le_succ _) ⟨k, ?_, Nat.le_refl _⟩
      rw [List.lookup_cons, hb]
    · split
      · obtain ⟨c, h1, h2⟩ := ih (k + 1) ((m, k) :: acc) n h (.inr trivial)
        exact ⟨c, h1, Nat.le_of_succ_le h2⟩
      · exact ih k acc n h (.inr trivial)

theorem cellsFrom_other : ∀ (names : List (Str × NameKind)) (k : Nat) (acc : List (Str × Addr)) (n : Str), (∀ x ∈ names, x.1 = n → x.2 ≠ .cell) → (cellsFrom k names acc).lookup n = acc.lookup n
  | [], _, _, _, _ => rfl
  | (m, kd) :: r, k, acc, n, h => by
    unfold cellsFrom
    split
    · rename_i hk
      rw [cellsFrom_other r (k + 1) _ n fun x hx => h x (List.mem_cons_of_mem _ hx), List.lookup_cons]
      split
      · rename_i hb
        exact absurd (eq_of_beq hk) (h (m, kd) List.mem_cons_self (beq_iff_eq.mp hb).symm)
      · rfl
    · exact cellsFrom_other r k acc n fun x hx => h x (List.mem_cons_of_mem _ hx)

/-- what a comprehension's frame takes over -/
def clo (env : Env) : List (Str × NameKind) → List (Str × Addr) → List (Str × Addr)
  | [], acc => acc
  | (n, k) :: r, acc => clo env r (if k == .free then (n, (env.cells.lookup n).getD 0) :: acc else acc)

theorem forIn_clo {env : Env} (f : Str × NameKind → List (Str × Addr) → Sem (ForInStep (List (Str × Addr))))
    (hf : ∀ n k cs, f (n, k) cs = if k == .free then (do let a ← cellOf env n; pure (.yield ((n, a) :: cs))) else pure (.yield cs)) :
    ∀ (names : List (Str × NameKind)) (acc : List (Str × Addr)), (∀ x ∈ names, x.2 = .free → (env.cells.lookup x.1).isSome = true) → forIn names acc f = pure (clo env names acc)
  | [], acc, _ => by rw [List.forIn_nil]; rfl
  | (n, k) :: r, acc, h => by
    rw [List.forIn_cons, hf]
    have ih := fun acc => forIn_clo f hf r acc fun x hx => h x (List.mem_cons_of_mem _ hx)
    unfold clo
    cases hk : k == NameKind.free with
    | true =>
      obtain ⟨c, hc⟩ := Option.isSome_iff_exists.mp (h (n, k) List.mem_cons_self (eq_of_beq hk))
      have hcell : cellOf env n = pure c := by unfold cellOf; rw [show env.cells.lookup n = some c from hc]
      simp only [if_true, hcell, pure_bind]
      rw [ih, show env.cells.lookup n = some c from hc]
      rfl
    | false =>
      simp only [Bool.false_eq_true, if_false, pure_bind]
      rw [ih]
theorem closureFor_clo {scope : Scope} {env : Env} (h : ∀ x ∈ scope.names, x.2 = .free → (env.cells.lookup x.1).isSome = true) : closureFor scope env = pure (clo env scope.names []) := by
  unfold closureFor
  have e := forIn_clo (env := env) (fun x cs => if x.2 == .free then (do let a ← cellOf env x.1; pure (.yield ((x.1, a) :: cs))) else pure (.yield cs)) (fun n k cs => rfl) scope.names [] h
  show (forIn scope.names [] (fun (x : Str × NameKind) cs => if x.2 == .free then (do let a ← cellOf env x.1; pure (.yield ((x.1, a) :: cs))) else pure (.yield cs)) >>= fun cs => pure cs) = _
  rw [e]; rfl

theorem clo_lookup {env : Env} : ∀ (names : List (Str × NameKind)) (acc : List (Str × Addr)) (n : Str) (c : Addr), (∀ x ∈ names, x.2 = .free → (env.cells.lookup x.1).isSome = true) → (clo env names acc).lookup n = some c → acc.lookup n = some c ∨ env.cells.lookup n = some c
  | [], _, _, _, _, e => .inl e
  | (m, k) :: r, acc, n, c, h, e => by
    unfold clo at e
    rcases clo_lookup r _ n c (fun x hx => h x (List.mem_cons_of_mem _ hx)) e with e | e
    · split at e
      · rename_i hk
        rw [List.lookup_cons] at e
        split at e
        · rename_i hb
          obtain ⟨c', hc⟩ := Option.isSome_iff_exists.mp (h (m, k) List.mem_cons_self (eq_of_beq hk))
          have hc : env.cells.lookup m = some c' := hc
          rw [hc] at e
          cases e
          exact .inr (beq_iff_eq.mp hb ▸ hc)
        · exact .inl e
      · exact .inl e
    · exact .inr e
theorem clo_free {env : Env} : ∀ (names : List (Str × NameKind)) (acc : List (Str × Addr)) (n : Str) (c : Addr), env.cells.lookup n = some c → ((n, .free) ∈ names ∨ acc.lookup n = some c) → (clo env names acc).lookup n = some c
  | [], _, _, _, _, h => by rcases h with h | h; · cases h
                            · exact h
  | (m, k) :: r, acc, n, c, hc, h => by
    unfold clo
    refine clo_free r _ n c hc ?_
    by_cases hmem : (n, NameKind.free) ∈ r
    · exact .inl hmem
    · refine .inr ?_
      split
      · rename_i hk
        rw [List.lookup_cons]
        split
        · rename_i hb
          rw [← beq_iff_eq.mp hb, hc]; rfl
        · rename_i hb
          rcases h with h | h
          · rcases List.mem_cons.mp h with e | h
            · cases e; simp at hb
            · exact absurd h hmem
          · exact h
      · rename_i hk
        rcases h with h | h
        · rcases List.mem_cons.mp h with e | h
          · cases e; exact absurd rfl hk
          · exact absurd h hmem
        · exact h
end Mine
end

section
open PySem PySem.W PyProof.Rows PySem.Calls
set_option Elab.async false
set_option linter.unusedVariables false
namespace Mine

/-- a comprehension's loop, turn by turn, whatever its target -/
theorem comp_any {prog : Program} {w : World} {A : Around} {R : Result → Shared → Prop} {elt target iter : Expr} {ifs : List Expr} {scope : Scope} {pos : Pos} {it acc : Value} {env : Env} {s : Shared} (I : Nat → Shared → Prop)
    (turn : ∀ n s, I n s → wpAny (model prog w) A (pyNext it) (fun r s₁ => match r with
      | none => R (.ok .next) s₁
      | some v => wpAny (model prog w) A (letOwnedTupleGo target it v) (fun _ s₁' => wpAny (model prog w) A (assign target env v) (fun _ s₂ =>
          wpAny (model prog w) A (forIn ifs true fun c r => if r = true then do let ok ← isTrue c env (eval c env); pure (ForInStep.yield ok) else pure (ForInStep.yield r)) (fun ok s₃ =>
            if ok = true then wpAny (model prog w) A (eval elt env) (fun x s₄ =>
              wpAny (model prog w) A (call (.builtin "list.append") [acc, x]) (fun _ s₅ => ∃ m, m < n ∧ I m s₅) (notedBy (model prog w) A env fun e s' => R (.error e) s') s₄) (notedBy (model prog w) A env fun e s' => R (.error e) s') s₃
            else ∃ m, m < n ∧ I m s₃) (notedBy (model prog w) A env fun e s' => R (.error e) s') s₂) (notedBy (model prog w) A env fun e s' => R (.error e) s') s₁') (notedBy (model prog w) A env fun e s' => R (.error e) s') s₁) (notedBy (model prog w) A env fun e s' => R (.error e) s') s)
    (n : Nat) (h : I n s) : codeAny (model prog w) A (.compLoop (.ListComp elt [⟨target, iter, ifs, 0⟩] scope pos) 0 it acc env) R s := by
  refine codeAny_loop rfl I (fun n s hI => ?_) n h
  show wpAny _ A ((compTurn (.ListComp elt [⟨target, iter, ifs, 0⟩] scope pos) 0 it acc env).onRaise (fun x => do noteFrame x env; theTreesLotGoes x)) _ _ s
  refine wpAny_noted ?_
  rw [compTurn_list]
  refine wpAny_bind (wpAny_standAt (wpAny_bind (wpAny_mono (turn n s hI) (fun r s₁ h₁ => ?_) fun _ _ h' => h')))
  cases r with
  | none => exact wpAny_pure h₁
  | some v =>
    refine wpAny_bind (wpAny_mono h₁ (fun _ s₁' h₁' => ?_) fun _ _ h' => h')
    refine wpAny_bind (wpAny_mono h₁' (fun _ s₂ h₂ => wpAny_bind (wpAny_mono h₂ (fun ok s₃ h₃ => ?_) fun _ _ h' => h')) fun _ _ h' => h')
    cases ok with
    | false => exact wpAny_pure ⟨rfl, h₃⟩
    | true =>
      exact wpAny_bind (wpAny_bind (wpAny_mono h₃ (fun x s₄ h₄ => wpAny_bind (wpAny_mono h₄ (fun _ s₅ h₅ => wpAny_pure (wpAny_pure ⟨rfl, h₅⟩)) fun _ _ h' => h')) fun _ _ h' => h'))

def relabelS (scope outer : Scope) : Scope :=
  { scope with names := scope.names.map fun (n, k) => if (k == .free && outer.kind == .function && outer.names.lookup n == some .cell) then (n, .cell) else (n, k) }
theorem relabel_eq (scope : Scope) (env : Env) : relabel scope env = relabelS scope env.scope := rfl
/-- what is asked of a comprehension's scope -/
def compCheck (outer scope : Scope) : Bool :=
  (scope.kind == .function) && (scope.names.all fun x => scope.names.lookup x.1 == some x.2) && (scope.names.all fun x => !(x.2 == .free) || outer.names.lookup x.1 == some .cell || outer.names.lookup x.1 == some .free)

structure CompOk (B : Bk) (C C' : Cx) (scope : Scope) : Prop where
  ok : C'.Ok B
  loc : C'.s₀.heap.get? C'.env.locals = none
  sc : C'.env.scope = relabelS scope C.env.scope
  A : C'.A = C.A
  own : ∀ n, scope.names.lookup n = some .cell → Bound C' n
  cel : C'.Cel

/-- what a comprehension's frame knows of the names around it -/
def cap (scope : Scope) (σ : Vars) : Vars := fun n => if scope.names.lookup n = some .free then σ n else none
theorem cap_of {scope : Scope} {σ : Vars} {n : Str} {p : PV} (h : scope.names.lookup n = some .free) (e : σ n = some p) : cap scope σ n = some p := by unfold cap; rw [if_pos h]; exact e
theorem cap_not {scope : Scope} {σ : Vars} {n : Str} (h : scope.names.lookup n ≠ some .free) : cap scope σ n = none := by unfold cap; rw [if_neg h]

def Tests (B : Bk) (C : Cx) (σ : Vars) (ow : Own) : List Expr → Bool → Prop
  | [], b => b = true
  | [c], b => Tr B C σ ow c b
  | _, _ => False
/-- one turn of a comprehension: what it adds, if anything -/
def Turn1 (B : Bk) (C : Cx) (scope : Scope) (σ : Vars) (t : Expr) (ifs : List Expr) (elt : Expr) (x : PV) (oy : Option PV) : Prop :=
  ∀ C', CompOk B C C' scope → ∃ σ₁, Asg B C' t x (cap scope σ) σ₁ ∧ (∀ n pv, cap scope σ n = some pv → σ₁ n = some pv) ∧ ∀ ow, match oy with
    | some y => Tests B C' σ₁ ow ifs true ∧ Ev B C' σ₁ ow elt y
    | none => Tests B C' σ₁ ow ifs false
inductive Lc (T : PV → Option PV → Prop) : List PV → List PV → Prop
  | nil : Lc T [] []
  | keep {x y xs ys} : T x (some y) → Lc T xs ys → Lc T (x :: xs) (y :: ys)
  | skip {x xs ys} : T x none → Lc T xs ys → Lc T (x :: xs) ys
theorem Lc.le {T : PV → Option PV → Prop} : ∀ {xs ys : List PV}, Lc T xs ys → ys.length ≤ xs.length
  | _, _, .nil => Nat.le_refl _
  | _, _, .keep _ h => Nat.succ_le_succ h.le
  | _, _, .skip _ h => Nat.le_succ_of_le h.le

section
variable {B : Bk} {C : Cx} {σ : Vars} {ow : Own}

theorem tests_ok {C' : Cx} {σ₁ : Vars} {ow' : Own} {ifs : List Expr} {b : Bool} (h : Tests B C' σ₁ ow' ifs b) {s : Shared} {Q : Bool → Shared → Prop} {E : Value → Shared → Prop} (f : Fok C' σ₁ ow' s) (q : ∀ s', Kp s s' → Q b s') :
    wpAny (model B.prog B.w) C'.A (forIn ifs true fun c r => if r = true then do let ok ← isTrue c C'.env (eval c C'.env); pure (ForInStep.yield ok) else pure (ForInStep.yield r)) Q E s := by
  match ifs, h with
  | [], h => cases (h : b = true); exact wpAny_tests_nil (q s (Kp.refl' s))
  | [c], h => exact wpAny_tests_one ((h : Tr B C' σ₁ ow' c b) s Q E f q)

theorem exM {C : Cx} {σ : Vars} {ow : Own} {s : Shared} (f : Fok C σ ow s) : Ex C.M s := ⟨fun b hb => by
  rcases Cx.mem_M hb with e | ⟨n, e⟩ | e
  · obtain ⟨m, o, _, _, ho, _⟩ := f.ns; exact ⟨o, e ▸ ho⟩
  · obtain ⟨v, o, ho, _⟩ := f.cells n b e; exact ⟨o, ho⟩
  · exact f.ex b e, f.tk⟩

/-- the loop of a comprehension -/
theorem comp_loop {C' : Cx} {scope : Scope} (hC' : CompOk B C C' scope) {t elt iter : Expr} {ifs : List Expr} {pos : Pos} {sc : Scope} {xs ys : List PV} (hxs : xs.length ≤ sizeLine) (hl : Lc (Turn1 B C scope σ t ifs elt) xs ys)
    {M : Fb} {s₁ : Shared} {it D : Addr} {wr : List Addr} {St : Nat → Shared → Prop} (I : Itr B C'.A s₁ M t it wr xs St) (hM : ∀ b ∈ C'.M.ad, b ∈ M.ad ∨ s₁.heap.get? b = none) (hMk : C'.M.tk = M.tk) (hw : ∀ b ∈ C'.M.ad, b ∉ wr) (hw₀ : ∀ b ∈ wr, C'.s₀.heap.get? b = none)
    {R : Result → Shared → Prop} (hR : ∀ s', Fok C' (cap scope σ) (some (D, ys)) s' → R (.ok .next) s') {s : Shared} (f : Fok C' (cap scope σ) (some (D, [])) s) (st : St 0 s) (old : Old C'.M s₁ s) :
    codeAny (model B.prog B.w) C'.A (.compLoop (.ListComp elt [⟨t, iter, ifs, 0⟩] sc pos) 0 (.ref it) (.ref D) C'.env) R s := by
  refine comp_any (fun n s' => ∃ i rest done todo, xs.drop i = rest ∧ n = rest.length ∧ i ≤ xs.length ∧ Lc (Turn1 B C scope σ t ifs elt) rest todo ∧ done ++ todo = ys ∧ done.length ≤ i ∧
    Fok C' (cap scope σ) (some (D, done)) s' ∧ St i s' ∧ Old C'.M s₁ s') ?_ xs.length ⟨0, xs, [], ys, rfl, rfl, Nat.zero_le _, hl, rfl, Nat.le_refl _, f, st, old⟩
  rintro n s' ⟨i, rest, done, todo, hd, rfl, hle, hlc, hys, hdl, f', st', old'⟩
  have hw' : ∀ b ∈ wr, b ∉ C'.M.ad := fun b h h' => hw b h' h
  have oldw : ∀ s'' s₃, Old C'.M s₁ s'' → WrKp wr s'' s₃ → Old C'.M s₁ s₃ := fun s'' s₃ o k => ⟨fun b ob hb e => by
    by_cases hbw : b ∈ wr
    · rw [I.new b hbw] at e; cases e
    · exact k.get b ob hbw (o.1 b ob hb e), Nat.le_trans o.2 k.le⟩
  have flds : ∀ j s'', St j s'' → ∀ b ∈ wr, NoSeq s''.heap b := fun j s'' h b hb => (I.flds j s'' h b hb).noSeq
  match rest, hlc, hd with
  | [], hlc, hd =>
    have hi' : i = xs.length := Nat.le_antisymm hle (List.drop_eq_nil_iff.mp hd)
    subst hi'
    cases hlc
    rw [List.append_nil] at hys
    subst hys
    refine wpAny_mono (I.done C'.M s' (fun s'' => WrKp wr s' s'') _ old' hM st' fun s'' wk => wk) (fun r s'' h => ?_) fun _ _ e => e
    obtain ⟨rfl, wk⟩ := h
    exact hR s'' (f'.wr wk hw' hw₀ (flds _ _ st'))
  | x :: rest, hlc, hd =>
    have hx : xs[i]? = some x := by rw [← List.head?_drop, hd]; rfl
    have hlt : i < xs.length := (List.getElem?_eq_some_iff.mp hx).1
    have hd' : xs.drop (i + 1) = rest := by rw [← List.tail_drop, hd]; rfl
    refine wpAny_mono (I.item C'.M i x s' (fun v s'' => WrKp wr s' s'' ∧ St (i + 1) s'' ∧ Rep C'.M s'' x v) _ hM hMk hw (exM f') hx st' old' fun v s'' wk st'' r => ⟨wk, st'', r⟩) (fun r s'' h => ?_) fun _ _ e => e
    cases r with
    | none => exact h.elim
    | some v =>
      refine wpAny_mono h (fun _ s₃ h₃ => ?_) fun _ _ e => e
      obtain ⟨wk, st₃, r₃⟩ := h₃
      have old₃ := oldw s' s₃ old' wk
      have f₃ := f'.wr wk hw' hw₀ (flds _ _ st')
      cases hlc with
      | @keep _ y _ todo' hT hrest =>
        obtain ⟨σ₁, ha, hle', hh⟩ := hT C' hC'
        obtain ⟨ht, he⟩ := hh (some (D, done))
        refine ha _ s₃ v _ _ f₃ (r₃.less fun _ h => Cx.o_mem h) fun s₄ k₄ f₄ => ?_
        have st₄ : St (i + 1) s₄ := I.stay _ _ _ st₃ fun b hb o e => k₄.1 b o (hw' b hb) e
        refine tests_ok ht f₄ fun s₅ k₅ => ?_
        rw [if_pos rfl]
        refine he s₅ _ _ (f₄.keep k₅) fun u s₆ k₆ r₆ => ?_
        have hyl : done.length + todo'.length + 1 = ys.length := by rw [← hys]; simp; omega
        have := hrest.le
        refine append_ok ((f₄.keep k₅).keep k₆) (by omega) r₆ fun s₇ k₇ f₇ => ?_
        have k₅₇ : Sft C' s₄ s₇ := (Kp.trans' k₅ k₆).sft.trans k₇
        refine ⟨rest.length, by simp, i + 1, rest, done ++ [y], todo', hd', rfl, hlt, hrest, by rw [← hys]; simp, by simp; exact hdl, f₇.less hle', ?_, fun b o hb e => k₅₇.1 b o hb (k₄.1 b o hb (old₃.1 b o hb e)), Nat.le_trans old₃.2 (Nat.le_trans k₄.2 k₅₇.2)⟩
        exact I.stay _ _ _ st₄ fun b hb o e => k₅₇.1 b o (hw' b hb) e
      | skip hT hrest =>
        obtain ⟨σ₁, ha, hle', hh⟩ := hT C' hC'
        have ht := hh (some (D, done))
        refine ha _ s₃ v _ _ f₃ (r₃.less fun _ h => Cx.o_mem h) fun s₄ k₄ f₄ => ?_
        have st₄ : St (i + 1) s₄ := I.stay _ _ _ st₃ fun b hb o e => k₄.1 b o (hw' b hb) e
        refine tests_ok ht f₄ fun s₅ k₅ => ?_
        rw [if_neg (by simp)]
        refine ⟨rest.length, by simp, i + 1, rest, done, todo, hd', rfl, hlt, hrest, hys, Nat.le_succ_of_le hdl, (f₄.keep k₅).less hle', ?_, fun b o hb e => (Kp.sft (C := C') k₅).1 b o hb (k₄.1 b o hb (old₃.1 b o hb e)), Nat.le_trans old₃.2 (Nat.le_trans k₄.2 k₅.le)⟩
        exact I.stay _ _ _ st₄ fun b hb o e => (Kp.sft (C := C') k₅).1 b o (hw' b hb) e
end
end Mine
end

section
open PySem PySem.W PyProof.Rows PySem.Calls
set_option Elab.async false
set_option linter.unusedVariables false
namespace Mine

/-- a comprehension's environment -/
theorem newEnv_comp {M : Model} {A : Around} {E : Value → Shared → Prop} {s : Shared} {scope : Scope} {globals : Addr} {cl : List (Str × Addr)} {qual : Str} {env : Env} {b : Addr} {Q : Env → Shared → Prop}
    (h : Q (newEnv scope s.heap.objs.size globals (cellsFrom (s.heap.objs.size + 1) scope.names cl) qual none .none (some env) b) { s with heap := pushCells (s.heap.push { cls := .type "dict", data := .dict #[] }) scope.names }) :
    wpAny M A (newFunctionEnv scope globals cl [] qual none .none (some env) b) Q E s := by
  simp only [newFunctionEnv, Option.isSome_some, if_true]
  refine wpAny_bind (wpAny_alloc ?_)
  refine wpAny_bind (wpAny_layCells _ (fun name kind cells => by cases hkc : kind == NameKind.cell <;> simp) _ _ _ _ ?_)
  rw [show ({ s with heap := s.heap.push { cls := .type "dict", data := .dict #[] } } : Shared).heap.objs.size = s.heap.objs.size + 1 from Heap.size_push ..]
  refine wpAny_bind ?_
  rw [List.forIn_nil]
  exact wpAny_pure (wpAny_pure h)

theorem pushCells_size_le : ∀ (names : List (Str × NameKind)) (h : Heap), h.objs.size ≤ (pushCells h names).objs.size
  | [], _ => Nat.le_refl _
  | (_, kind) :: r, h => by
    unfold pushCells
    split
    · exact Nat.le_trans (by rw [Heap.size_push]; exact Nat.le_succ _) (pushCells_size_le r _)
    · exact pushCells_size_le r h

section
variable {B : Bk} {C : Cx} {σ : Vars} {ow : Own}

theorem comp_core (hC : C.Ok B) (hcel : C.Cel) {t elt iter : Expr} {ifs : List Expr} {pos : Pos} {scope : Scope} {xs ys : List PV} (hchk : compCheck C.env.scope scope = true) (hi : It B C σ ow t iter xs) (hl : Lc (Turn1 B C scope σ t ifs elt) xs ys)
    {RR : Value → Addr → Result → Shared → Prop} {E : Value → Shared → Prop} {s : Shared} (f : Fok C σ ow s)
    (hRR : ∀ D L s' m items n, s.heap.get? D = none → s.heap.get? L = none → D ≠ L → Kp s s' → s'.heap.Ns L m → IsLs s'.heap D items n → ys.length = items.size → (∀ (i : Nat) (y : PV) (v : Value), ys[i]? = some y → items[i]? = some v → Rep (C.O.add D) s' y v) →
      RR (.ref D) L (.ok .next) s') :
    wpAny (model B.prog B.w) C.A (eval iter C.env) (fun x s₁ => wpAny (model B.prog B.w) C.A (pyIter x) (fun it s₂ => wpAny (model B.prog B.w) C.A (newList []) (fun acc s₃ =>
      wpAny (model B.prog B.w) C.A (newFunctionEnv scope C.env.globals (clo C.env scope.names []) [] C.env.qual none .none (some C.env)) (fun cenv s₄ =>
        codeAny (model B.prog B.w) C.A (.compStart (.ListComp elt [⟨t, iter, ifs, 0⟩] scope pos) 0 it acc { cenv with scope := relabel scope C.env }) (RR acc cenv.locals) s₄) E s₃) E s₂) E s₁) E s := by
  obtain ⟨hchk, hc3⟩ := Bool.and_eq_true_iff.mp hchk
  obtain ⟨hc1, hc2⟩ := Bool.and_eq_true_iff.mp hchk
  have hkind : scope.kind = .function := eq_of_beq hc1
  have hlk : ∀ x ∈ scope.names, scope.names.lookup x.1 = some x.2 := fun x hx => by simpa using List.all_eq_true.mp hc2 x hx
  have hfree : ∀ n, scope.names.lookup n = some .free → C.env.kindOf n = some .cell ∨ C.env.kindOf n = some .free := fun n hn => by
    have := List.all_eq_true.mp hc3 (n, .free) (mem_of_lookup hn)
    show C.env.scope.names.lookup n = some .cell ∨ C.env.scope.names.lookup n = some .free
    simpa using this
  have hfs : ∀ x ∈ scope.names, x.2 = .free → (C.env.cells.lookup x.1).isSome = true := fun x hx hf => hcel x.1 (hfree x.1 (by rw [hlk x hx, hf]))
  refine hi.2 s _ E f fun it wr St s₁ s₂ k₁ k₂ I st hex => ?_
  refine wpAny_newObj_type (newEnv_comp ?_)
  generalize hcl : clo C.env scope.names [] = cl
  have clL : ∀ n c, cl.lookup n = some c → C.env.cells.lookup n = some c := fun n c e => by
    rw [← hcl] at e
    exact (clo_lookup scope.names [] n c hfs e).elim (fun e => by cases e) id
  have clF : ∀ n c, scope.names.lookup n = some .free → C.env.cells.lookup n = some c → cl.lookup n = some c := fun n c hn e => by
    rw [← hcl]; exact clo_free scope.names [] n c e (.inl (mem_of_lookup hn))
  dsimp only
  generalize hH3 : s₂.heap.push { cls := .type "list", dict := none, data := .seq ([] : List Value).toArray } = H3
  have z3 : H3.objs.size = s₂.heap.objs.size + 1 := by rw [← hH3, Heap.size_push]
  generalize hH4 : H3.push { cls := .type "dict", data := .dict #[] } = H4
  have z4 : H4.objs.size = s₂.heap.objs.size + 2 := by rw [← hH4, Heap.size_push, z3]
  have hce : cellsFrom (H3.objs.size + 1) scope.names cl = cellsFrom H4.objs.size scope.names cl := by rw [z4, z3]
  rw [hce]
  generalize hH5 : pushCells H4 scope.names = H5
  have up5 : ∀ b o, H4.get? b = some o → H5.get? b = some o := fun b o e => hH5 ▸ pushCells_keeps _ _ b o e
  have up4 : ∀ b o, H3.get? b = some o → H5.get? b = some o := fun b o e => up5 b o (hH4 ▸ Heap.get?_push_of_some _ e)
  have up3 : ∀ b o, s₂.heap.get? b = some o → H5.get? b = some o := fun b o e => up4 b o (hH3 ▸ Heap.get?_push_of_some _ e)
  have k₀₂ : Kp s s₂ := Kp.trans' k₁ k₂
  have old2 : ∀ a, s₂.heap.objs.size ≤ a → s₂.heap.get? a = none := fun a ha => Heap.get?_none_of_le ha
  have low : ∀ {u : Shared}, Kp u s₂ → ∀ a, s₂.heap.objs.size ≤ a → u.heap.get? a = none := fun {u} k a ha => by
    cases h : u.heap.get? a with
    | none => rfl
    | some o => have := k.get a o h; rw [old2 a ha] at this; cases this
  have lts : ∀ a o, s.heap.get? a = some o → @LT.lt Nat _ a s₂.heap.objs.size := fun a o e => Heap.lt_size (k₀₂.get a o e)
  have ltCl : ∀ n c, cl.lookup n = some c → @LT.lt Nat _ c s₂.heap.objs.size := fun n c e => by
    obtain ⟨v, o, ho, _⟩ := f.cells n c (clL n c e); exact lts c o ho
  let env' : Env := { newEnv scope H3.objs.size C.env.globals (cellsFrom H4.objs.size scope.names cl) C.env.qual none .none (some C.env) builtinsNs with scope := relabel scope C.env }
  let C' : Cx := ⟨C.A, env', s, C.O.add s₂.heap.objs.size⟩
  have hcells' : ∀ n c, C'.env.cells.lookup n = some c → (C.env.cells.lookup n = some c ∧ @LT.lt Nat _ c s₂.heap.objs.size) ∨ (@LE.le Nat _ H4.objs.size c ∧ H5.IsCell c none) := fun n c e => by
    rcases lookup_cellsFrom scope.names H4 cl n c e with h | h
    · exact .inl ⟨clL n c h, ltCl n c h⟩
    · exact .inr (hH5 ▸ h)
  have kind' : ∀ n k, scope.names.lookup n = some k → (C'.env.kindOf n = some k ∨ (k = .free ∧ C'.env.kindOf n = some .cell)) := by
    have gen : ∀ (names : List (Str × NameKind)) (n : Str) (k : NameKind), names.lookup n = some k →
        (names.map fun (n, k) => if (k == NameKind.free && C.env.scope.kind == .function && C.env.kindOf n == some .cell) then (n, NameKind.cell) else (n, k)).lookup n = some k ∨
        (k = .free ∧ (names.map fun (n, k) => if (k == NameKind.free && C.env.scope.kind == .function && C.env.kindOf n == some .cell) then (n, NameKind.cell) else (n, k)).lookup n = some .cell) := by
      intro names
      induction names with
      | nil => intro n k e; cases e
      | cons x r ih =>
        obtain ⟨m, kd⟩ := x
        intro n k e
        rw [List.lookup_cons] at e
        simp only [List.map_cons]
        by_cases hc : (kd == NameKind.free && C.env.scope.kind == .function && C.env.kindOf m == some .cell) = true
        · rw [if_pos hc]
          simp only [List.lookup_cons]
          split at e
          · cases e
            rename_i hb
            refine .inr ⟨?_, by first | rfl | simp [hb]⟩
            simp only [Bool.and_eq_true] at hc
            exact eq_of_beq hc.1.1
          · exact ih n k e
        · rw [if_neg hc]
          simp only [List.lookup_cons]
          split at e
          · cases e; rename_i hb; exact .inl (by first | rfl | simp [hb])
          · exact ih n k e
    exact fun n k e => gen scope.names n k e
  have hok : CompOk B C C' scope := by
    refine ⟨⟨hC.top, hkind, hC.g, hC.b, hC.hh, hC.un, Fok.on hC f, hC.lo⟩, ?_, rfl, rfl, fun n hn => ?_, fun n hn => ?_⟩
    · show s.heap.get? H3.objs.size = none
      exact low k₀₂ _ (by rw [z3]; exact Nat.le_succ _)
    · have hk' : C'.env.kindOf n = some .cell := by
        rcases kind' n .cell hn with h | ⟨h, _⟩
        · exact h
        · cases h
      obtain ⟨c, hc, hlo⟩ := cellsFrom_own scope.names H4.objs.size cl n hn (.inr trivial)
      refine .inr ⟨hk', c, hc, low k₀₂ _ (by rw [z4] at hlo; exact Nat.le_of_succ_le (Nat.le_of_succ_le hlo)), fun n' h' => ?_⟩
      exact inj_cellsFrom scope.names H4.objs.size H4.objs.size cl (fun n c e => by rw [z4]; exact Nat.lt_succ_of_lt (Nat.lt_succ_of_lt (ltCl n c e)))
        (fun n n' c e _ hlo => absurd (ltCl n c e) (by rw [z4] at hlo; exact Nat.not_lt.mpr (Nat.le_of_succ_le (Nat.le_of_succ_le hlo)))) n n' c hc h' hlo
    · have hn' : scope.names.lookup n = some .cell ∨ scope.names.lookup n = some .free := by
        cases hl : scope.names.lookup n with
        | none =>
          exfalso
          have : (relabel scope C.env).names.lookup n = none := by
            have gen : ∀ (names : List (Str × NameKind)), names.lookup n = none → (names.map fun (n, k) => if (k == NameKind.free && C.env.scope.kind == .function && C.env.kindOf n == some .cell) then (n, NameKind.cell) else (n, k)).lookup n = none := by
              intro names
              induction names with
              | nil => intro _; rfl
              | cons x r ih =>
                obtain ⟨m, kd⟩ := x
                intro e
                rw [List.lookup_cons] at e
                simp only [List.map_cons]
                split at e
                · cases e
                · rename_i hb
                  by_cases hc : (kd == NameKind.free && C.env.scope.kind == .function && C.env.kindOf m == some .cell) = true
                  · rw [if_pos hc]; simp only [List.lookup_cons, hb]; exact ih e
                  · rw [if_neg hc]; simp only [List.lookup_cons, hb]; exact ih e
            exact gen scope.names hl
          rcases hn with h | h <;> (have h' : (relabel scope C.env).names.lookup n = _ := h; rw [this] at h'; cases h')
        | some k =>
          rcases kind' n k hl with h | ⟨h1, _⟩
          · rcases hn with h' | h' <;> rw [h] at h' <;> cases h'
            · exact .inl rfl
            · exact .inr rfl
          · exact .inr (by rw [h1])
      rcases hn' with h | h
      · exact cellsFrom_all scope.names H4.objs.size [] n h |> fun _ => by
          obtain ⟨c, hc, _⟩ := cellsFrom_own scope.names H4.objs.size cl n h (.inr trivial)
          exact Option.isSome_iff_exists.mpr ⟨c, hc⟩
      · obtain ⟨c, hc⟩ := Option.isSome_iff_exists.mp (hcel n (hfree n h))
        have : (cellsFrom H4.objs.size scope.names cl).lookup n = some c := by
          rw [cellsFrom_other scope.names H4.objs.size cl n fun x hx hxn hcx => by
            have := hlk x hx
            rw [hxn, h, hcx] at this; cases this]
          exact clF n c h hc
        exact Option.isSome_iff_exists.mpr ⟨c, this⟩
  have hDL : s₂.heap.objs.size ≠ H3.objs.size := by rw [z3]; exact Nat.ne_of_lt (Nat.lt_succ_self _)
  have hD5 : IsLs H5 s₂.heap.objs.size #[] 0 := up4 _ _ (hH3 ▸ Heap.get?_push_size _ rfl)
  have hL5 : H5.Ns H3.objs.size (fun _ => none) := (hH4 ▸ Heap.Ns.new H3 (.type "dict") : H4.Ns _ _).keeps up5
  have k₂₄ : Kp s₂ { s₂ with heap := H5 } := ⟨H5, s₂.toks, rfl, Nat.le_refl _, up3⟩
  have k₀₄ : Kp s { s₂ with heap := H5 } := Kp.trans' k₀₂ k₂₄
  have hOex : Ex C.O s := f.exO
  have hf : Fok C' (cap scope σ) (some (s₂.heap.objs.size, [])) { s₂ with heap := H5 } := by
    refine ⟨k₀₄, fun n pv e => ?_, ⟨_, hL5⟩, fun n c e => ?_, fun x xs e => ?_, fun x hx => ?_, fun t ht => Nat.lt_of_lt_of_le (f.tk t ht) k₀₄.le⟩
    · unfold cap at e
      split at e
      · rename_i hfr
        obtain ⟨v, r, l⟩ := f.look n pv e
        refine ⟨v, (r.fresh (low k₀₂ _ (Nat.le_refl _))).keep k₀₄, .inr ⟨?_, ?_⟩⟩
        · rcases kind' n .free hfr with h | ⟨_, h⟩
          · exact .inr h
          · exact .inl h
        · have hcc : ∃ c, C.env.cells.lookup n = some c ∧ s.heap.IsCell c (some v) := by
            rcases l with ⟨hk, _⟩ | ⟨_, c, h1, h2⟩
            · rcases hfree n hfr with h | h <;> rw [hk] at h <;> cases h
            · exact ⟨c, h1, h2⟩
          obtain ⟨c, hc, hv⟩ := hcc
          refine ⟨c, ?_, hv.keeps k₀₄.get⟩
          show (cellsFrom H4.objs.size scope.names cl).lookup n = some c
          rw [cellsFrom_other scope.names H4.objs.size cl n fun x hx hxn hcx => by
            have := hlk x hx
            rw [hxn, hfr, hcx] at this; cases this]
          exact clF n c hfr hc
      · cases e
    · rcases hcells' n c e with ⟨h, _⟩ | ⟨_, h⟩
      · obtain ⟨v, hv⟩ := f.cells n c h
        exact ⟨v, hv.keeps k₀₄.get⟩
      · exact ⟨_, h⟩
    · cases e
      exact ⟨List.mem_cons_self, low k₀₂ _ (Nat.le_refl _), #[], 0, hD5, rfl, fun i a v e => by simp at e⟩
    · rcases List.mem_cons.mp hx with e | h
      · exact ⟨_, e ▸ hD5⟩
      · obtain ⟨o, e⟩ := hOex.1 x h
        exact ⟨o, k₀₄.get x o e⟩
  have exM₁ := exM (f.keep k₁)
  have hMem : ∀ b ∈ C'.M.ad, b ∈ C.M.ad ∨ (@LE.le Nat _ s₂.heap.objs.size b) := fun b hb => by
    rcases Cx.mem_M hb with e | ⟨n, e⟩ | e
    · exact .inr (by rw [e]; show @LE.le Nat _ s₂.heap.objs.size H3.objs.size; rw [z3]; exact Nat.le_succ _)
    · rcases hcells' n b e with ⟨h, _⟩ | ⟨h, _⟩
      · exact .inl (Cx.cell_mem h)
      · exact .inr (by rw [z4] at h; exact Nat.le_of_succ_le (Nat.le_of_succ_le h))
    · rcases List.mem_cons.mp e with e | e
      · exact .inr (by rw [e]; exact Nat.le_refl _)
      · exact .inl (Cx.o_mem e)
  have hM : ∀ b ∈ C'.M.ad, b ∈ C.M.ad ∨ s₁.heap.get? b = none := fun b hb => (hMem b hb).imp id fun h => low k₂ b h
  have hw : ∀ b ∈ C'.M.ad, b ∉ wr := fun b hb hbw => by
    rcases hMem b hb with h | h
    · obtain ⟨o, e⟩ := exM₁.1 b h
      rw [I.new b hbw] at e; cases e
    · obtain ⟨o, e⟩ := hex b hbw
      rw [old2 b h] at e; cases e
  have hw₀ : ∀ b ∈ wr, C'.s₀.heap.get? b = none := fun b hb => by
    cases h : s.heap.get? b with
    | none => rfl
    | some o => have := k₁.get b o h; rw [I.new b hb] at this; cases this
  have st₄ : St 0 { s₂ with heap := H5 } := I.stay _ _ _ st fun b _ o e => up3 b o e
  have loop : codeAny (model B.prog B.w) C'.A (.compLoop (.ListComp elt [⟨t, iter, ifs, 0⟩] scope pos) 0 (.ref it) (.ref s₂.heap.objs.size) C'.env) (RR (.ref s₂.heap.objs.size) H3.objs.size) { s₂ with heap := H5 } := by
    refine comp_loop hok hi.1 hl I hM rfl hw hw₀ (fun s' f' => ?_) hf st₄ ⟨fun b o _ e => up3 b o (k₂.get b o e), k₂.le⟩
    obtain ⟨_, _, items, n, h3, h4, h5⟩ := f'.own _ _ rfl
    obtain ⟨m, hm⟩ := f'.ns
    exact hRR _ _ s' m items n (low k₀₂ _ (Nat.le_refl _)) (low k₀₂ _ (by rw [z3]; exact Nat.le_succ _)) hDL f'.keeps hm h3 h4 h5
  exact codeAny_compStart_list loop (I.self 0 _ _ _ st₄ loop)

/-- a comprehension's value -/
theorem Ev_comp (hC : C.Ok B) (hcel : C.Cel) {t elt iter : Expr} {ifs : List Expr} {pos : Pos} {scope : Scope} {xs ys : List PV} (hi : It B C σ ow t iter xs) (hl : Lc (Turn1 B C scope σ t ifs elt) xs ys) (hchk : compCheck C.env.scope scope = true)
    (hs : ∀ x, foldedSetIterable iter C.env x = pure x := by intro _; rfl) : Ev B C σ ow (.ListComp elt [⟨t, iter, ifs, 0⟩] scope pos) (.list ys) := fun s Q E f q => by
  have hchk' := hchk
  obtain ⟨hchk', hc3⟩ := Bool.and_eq_true_iff.mp hchk'
  obtain ⟨hc1, hc2⟩ := Bool.and_eq_true_iff.mp hchk'
  have hlk : ∀ x ∈ scope.names, scope.names.lookup x.1 = some x.2 := fun x hx => by simpa using List.all_eq_true.mp hc2 x hx
  have hfs : ∀ x ∈ scope.names, x.2 = .free → (C.env.cells.lookup x.1).isSome = true := fun x hx hf => hcel x.1 (by
    have := List.all_eq_true.mp hc3 x hx
    show C.env.scope.names.lookup x.1 = some .cell ∨ C.env.scope.names.lookup x.1 = some .free
    simpa [hf] using this)
  rw [eval_ListComp]
  refine wpAny_comprehension_free (use := none) rfl hs (closureFor_clo hfs) (eq_of_beq hc1) (fun x hx hxl => by rw [hlk x hx, hxl]) (comp_core hC hcel hchk hi hl f fun D L s' m items n hD hL hDL kp hm hls hlen hrep => ?_)
  refine ⟨m, hm, fun h' hs' => q _ _ ?_ ?_⟩
  · obtain ⟨h1, t1, rfl, l1, k1⟩ := kp
    exact ⟨h', t1, rfl, l1, fun b o e => hs'.extBut b o (fun e' => by rw [e', hL] at e; cases e) (k1 b o e)⟩
  · have := hl.le
    have hz := hi.1
    refine .list (n := n) (fun hm => by obtain ⟨o, e⟩ := f.ex D hm; rw [hD] at e; cases e) (hs'.extBut _ _ hDL hls) (by omega) hlen fun i y v q1 q2 => ?_
    exact ((hrep i y v q1 q2).less fun b hb => List.mem_cons_of_mem _ hb).but (h' := { s' with heap := h' }) hs' (ns_no_seq hm) (Nat.le_refl _)

/-- a comprehension that its statement's own store closes -/
theorem S1_assign_comp (hC : C.Ok B) (hO : C.Owns) (hcel : C.Cel) {t elt iter : Expr} {ifs : List Expr} {pos p spos : Pos} {scope : Scope} {xs ys : List PV} {n : Str} {P : Out → Prop} (hi : It B C σ ow t iter xs) (hl : Lc (Turn1 B C scope σ t ifs elt) xs ys)
    (hchk : compCheck C.env.scope scope = true) (hk : Bound C n) (h : P (.next (upd σ n (.list ys)) ow))
    (hsw : swapsWith (.ListComp elt [⟨t, iter, ifs, 0⟩] scope pos) (some (.Name n p)) spos.line C.env = pure true) (hs : ∀ x, foldedSetIterable iter C.env x = pure x := by intro _; rfl) :
    S1 B C σ ow (.Assign [.Name n p] (.ListComp elt [⟨t, iter, ifs, 0⟩] scope pos) spos) P := fun s Q E f q => by
  have hchk' := hchk
  obtain ⟨hchk', hc3⟩ := Bool.and_eq_true_iff.mp hchk'
  obtain ⟨hc1, hc2⟩ := Bool.and_eq_true_iff.mp hchk'
  have hlk : ∀ x ∈ scope.names, scope.names.lookup x.1 = some x.2 := fun x hx => by simpa using List.all_eq_true.mp hc2 x hx
  have hfs : ∀ x ∈ scope.names, x.2 = .free → (C.env.cells.lookup x.1).isSome = true := fun x hx hf => hcel x.1 (by
    have := List.all_eq_true.mp hc3 x hx
    show C.env.scope.names.lookup x.1 = some .cell ∨ C.env.scope.names.lookup x.1 = some .free
    simpa [hf] using this)
  rw [exec_Assign_Name_used _ _ _ _ hsw]
  refine wpAny_bind (wpAny_standAt (wpAny_bind ?_))
  show wpAny _ _ (do let _ ← comprehension (.ListComp elt [⟨t, iter, ifs, 0⟩] scope pos) scope C.env _ (newList []) false (eval iter C.env) (some (assign (.Name n p) C.env))) _ _ s
  refine wpAny_bind (wpAny_mono (wpAny_comprehension_free (use := some (assign (.Name n p) C.env)) (Q := fun _ s' => Q .next s') rfl hs (closureFor_clo hfs) (eq_of_beq hc1) (fun x hx hxl => by rw [hlk x hx, hxl])
    (comp_core hC hcel hchk hi hl f fun D L s' m items k hD hL hDL kp hm hls hlen hrep => ?_)) (fun _ s' hq => wpAny_pure (wpAny_pure hq)) fun _ _ e => e)
  have := hl.le
  have hz := hi.1
  have hLM : L ∉ C.M.ad := fun hm => by obtain ⟨o, e⟩ := (exM f).1 L hm; rw [hL] at e; cases e
  have rD : Rep C.O s' (.list ys) (.ref D) := .list (n := k) (fun hm => by obtain ⟨o, e⟩ := f.ex D hm; rw [hD] at e; cases e) hls (by omega) hlen fun i y v q1 q2 =>
    (hrep i y v q1 q2).less fun b hb => List.mem_cons_of_mem _ hb
  show wpAny _ _ (assign (.Name n p) C.env (.ref D)) _ _ s'
  refine wpAny_assign_Name (store_ok hC hO.loc hk (f.keep kp) rD fun s₂ k₂ f₂ => ?_)
  obtain ⟨o, es, ep, ho, hr⟩ := hm
  have hm₂ : s₂.heap.Ns L m := ⟨o, es, ep, k₂.1 L o hLM ho, hr⟩
  refine ⟨m, hm₂, fun h' hs' => ?_⟩
  have wk : WrKp [L] s₂ { s₂ with heap := h' } := ⟨h', s₂.toks, rfl, Nat.le_refl _, fun b o hb e => hs'.extBut b o (fun e' => hb (List.mem_singleton.mpr e')) e⟩
  have f₃ := f₂.wr wk (fun b hb => by rw [List.mem_singleton.mp hb]; exact hLM) (fun b hb => by
      rw [List.mem_singleton.mp hb]
      cases h : C.s₀.heap.get? L with
      | none => rfl
      | some o => have := f.keeps.get L o h; rw [hL] at this; cases this) fun b hb => by rw [List.mem_singleton.mp hb]; exact ns_no_seq hm₂
  exact q .next _ ⟨fun b o hb e => hs'.extBut b o (fun e' => by rw [e', hL] at e; cases e) (k₂.1 b o hb (kp.get b o e)), Nat.le_trans kp.le k₂.2⟩ ⟨_, ow, h, f₃⟩
end
end Mine
end

section
open PySem PySem.W PyProof.Rows PySem.Calls
set_option Elab.async false
set_option linter.unusedVariables false
namespace Mine

section
variable {B : Bk} {C : Cx} {σ : Vars} {ow : Own}

theorem S1_assign_pair (hC : C.Ok B) (hO : C.Owns) {n m : Str} {pn pm pt pos : Pos} {k : Nat} {e : Expr} {p q : PV} {P : Out → Prop} (he : Ev B C σ ow e (.tup [p, q])) (hn : Bound C n) (hm : Bound C m) (h : P (.next (upd (upd σ n p) m q) ow))
    (hs : swapsWithSole [.Tuple [.Name n pn, .Name m pm] k pt] e pos.line C.env = pure false := by rfl) (hw : swappedStores [.Tuple [.Name n pn, .Name m pm] k pt] e C.env = pure none := by rfl) :
    S1 B C σ ow (.Assign [.Tuple [.Name n pn, .Name m pm] k pt] e pos) P := fun s Q E f qq =>
  Assign_Tuple (he s _ E f fun v s₁ k₁ r₁ => Asg_pair hC hO.loc hn hm ow s₁ v _ E (f.keep k₁) r₁ fun s₂ k₂ f₂ => qq .next s₂ (k₁.sft.trans k₂) ⟨_, ow, h, f₂⟩) hs hw

theorem S1_aug (hC : C.Ok B) (hO : C.Owns) {n : Str} {op : Operator} {p pos : Pos} {e : Expr} {a b c : PV} {P : Out → Prop} (hv : σ n = some a) (hcd : (n == ("__classdict__" : Str)) = false) (he : Ev B C σ ow e b) (ho : In B op a b c) (hk : Bound C n) (h : P (.next (upd σ n c) ow)) :
    S1 B C σ ow (.AugAssign (.Name n p) op e pos) P := fun s Q E f q =>
  wpAny_AugAssign_Name (load_ok hC hv hcd f fun v s₁ k₁ r₁ => he s₁ _ E (f.keep k₁) fun u s₂ k₂ r₂ =>
    ho C.A C.O s₂ v u _ E (r₁.keep k₂) r₂ ((f.keep k₁).keep k₂).exO fun w s₃ k₃ r₃ => store_ok hC hO.loc hk (((f.keep k₁).keep k₂).keep k₃) r₃ fun s₄ k₄ f₄ =>
      q .next s₄ ((Kp.trans' (Kp.trans' k₁ k₂) k₃).sft.trans k₄) ⟨_, ow, h, f₄⟩)

/-- the frame's own list grows by a statement -/
theorem S1_append (hC : C.Ok B) {n : Str} {pn apos cpos pos : Pos} {e : Expr} {x : Addr} {xs : List PV} {y : PV} {P : Out → Prop} (hv : σ n = some (.raw (.ref x))) (hd : (n == ("__debug__" : Str)) = false) (hcd : (n == ("__classdict__" : Str)) = false)
    (he : Ev B C σ (some (x, xs)) e y) (hz : xs.length ≤ sizeLine) (h : P (.next σ (some (x, xs ++ [y]))))
    (hp : plainArg e = true := by rfl)
    (hline : (apos.endLine == cpos.line) = true := by rfl)
    (hs : swapsWith (.Call (.Attribute (.Name n pn) "append" apos) [e] [] cpos) none pos.line C.env = pure false := by rfl) :
    S1 B C σ (some (x, xs)) (.Expr (.Call (.Attribute (.Name n pn) "append" apos) [e] [] cpos) pos) P := fun s Q E f q => by
  refine wpAny_Expr (wpAny_Call_append rfl ?_ hline ?_ (Ev_name hC hv hd hcd s _ E f fun v s₁ k₁ r₁ => ?_)) (by unfold interactive; rw [hC.kind]; rfl) hs
  · rw [starEach_cons hp]; rfl
  · rw [starEach_cons hp]; rfl
  · cases r₁.raw_inv
    have f₁ := f.keep k₁
    obtain ⟨_, _, items, m, hl, _⟩ := f₁.own _ _ rfl
    refine ⟨x, items, rfl, ⟨_, m, hl, rfl, rfl, rfl⟩, he s₁ _ E f₁ fun u s₂ k₂ r₂ => append_ok (f₁.keep k₂) hz r₂ fun s₃ k₃ f₃ => ?_⟩
    exact q .next s₃ ((Kp.trans' k₁ k₂).sft.trans k₃) ⟨_, _, h, f₃⟩

/-- what a statement that fills the frame's own list must end in -/
def Frozen (B : Bk) (C : Cx) (n : Str) (x : Addr) (rest : List Stmt) (P : Out → Prop) : Out → Prop
  | .next σ ow => ∃ xs, ow = some (x, xs) ∧ σ n = some (.raw (.ref x)) ∧ xs.length ≤ sizeLine ∧ Ss B C (upd σ n (.list xs)) none rest P
  | .brk _ _ => False
  | .ret pv => P (.ret pv)

/-- an empty list, a statement that fills it, and the rest that reads it -/
theorem Ss_own (hC : C.Ok B) (hO : C.Owns) (hcel : C.Cel) {n : Str} {p pl pos : Pos} {st : Stmt} {rest : List Stmt} {P : Out → Prop} (hk : Bound C n)
    (h : ∀ C' : Cx, C'.Ok B → C'.Owns → C'.Cel → C'.env = C.env → C'.A = C.A → ∀ x, S1 B C' (upd σ n (.raw (.ref x))) (some (x, [])) st (Frozen B C n x rest P))
    (hs : swapsWith (.List [] pl) (some (.Name n p)) pos.line C.env = pure false := by rfl) :
    Ss B C σ ow (.Assign [.Name n p] (.List [] pl) pos :: st :: rest) P := fun s Q E f q => by
  let x : Addr := s.heap.objs.size
  let C' : Cx := { C with O := C.O.add x }
  have hC' : C'.Ok B := ⟨hC.top, hC.kind, hC.g, hC.b, hC.hh, hC.un, hC.on, hC.lo⟩
  have hO' : C'.Owns := ⟨hO.loc, hO.all⟩
  have hcel' : C'.Cel := hcel
  have hxO : x ∉ C.O.ad := not_mem_fresh f
  have hx0 : C.s₀.heap.get? x = none := by
    cases e : C.s₀.heap.get? x with
    | none => rfl
    | some o => have := f.keeps.get x o e; rw [fresh_size] at this; cases this
  have M' : ∀ b, b ∈ C'.M.ad → b ∈ C.M.ad ∨ b = x := fun b hb => by
    rcases Cx.mem_M hb with e | ⟨m, e⟩ | e
    · exact .inl (e ▸ List.mem_cons_self)
    · exact .inl (Cx.cell_mem e)
    · rcases List.mem_cons.mp e with e | e
      · exact .inr e
      · exact .inl (Cx.o_mem e)
  refine wpAny_execs_cons (wpAny_Assign_Name ?_ hs)
  refine wpAny_List_spliced (args_nil ⟨Nat.zero_le _, ?_⟩)
  have k₁ : Kp s { s with heap := s.heap.push { cls := .type "list", data := .seq ([] : List Value).toArray } } := Kp.push ..
  have hl₁ : IsLs (s.heap.push { cls := .type "list", data := .seq ([] : List Value).toArray }) x #[] 0 := Heap.get?_push_size _ rfl
  have f₁ : Fok C' σ (some (x, [])) { s with heap := s.heap.push { cls := .type "list", data := .seq ([] : List Value).toArray } } := by
    have g := f.keep k₁
    refine ⟨g.keeps, fun m pv e => ?_, g.ns, g.cells, fun y ys e => ?_, fun y hy => ?_, g.tk⟩
    · obtain ⟨v, r, l⟩ := f.look m pv e
      exact ⟨v, (r.fresh (fresh_size _)).keep k₁, l.keep k₁⟩
    · cases e
      exact ⟨List.mem_cons_self, hx0, #[], 0, hl₁, rfl, fun i a v e => by simp at e⟩
    · rcases List.mem_cons.mp hy with e | hy
      · exact ⟨_, e ▸ hl₁⟩
      · exact g.ex y hy
  refine store_ok (C := C') (pv := .raw (.ref x)) hC' hO'.loc hk f₁ .raw fun s₂ k₂ f₂ => ?_
  have sft : ∀ {u u' : Shared}, Sft C' u u' → (∀ o, s.heap.get? x ≠ some o) → ∀ b o, b ∉ C.M.ad → b ≠ x → u.heap.get? b = some o → u'.heap.get? b = some o := fun k _ b o hb hx e => k.1 b o (fun hm => (M' b hm).elim hb hx) e
  have nx : ∀ o, s.heap.get? x ≠ some o := fun o e => by rw [fresh_size] at e; cases e
  refine wpAny_execs_cons (h C' hC' hO' hcel' rfl rfl x s₂ _ E f₂ fun fl s₃ k₃ o => ?_)
  have k₀₃ : Sft C s s₃ := ⟨fun b o hb e => by
    have hbx : b ≠ x := fun e' => nx o (e' ▸ e)
    exact sft k₃ nx b o hb hbx (sft k₂ nx b o hb hbx (k₁.get b o e)), Nat.le_trans k₁.le (Nat.le_trans k₂.2 k₃.2)⟩
  cases fl with
  | next =>
    obtain ⟨σ₁, ow₁, p, f₃⟩ := o
    obtain ⟨xs, rfl, hn, hz, hrest⟩ := p
    refine hrest s₃ Q E ?_ fun fl s₄ k₄ o => q fl s₄ (k₀₃.trans k₄) o
    obtain ⟨_, _, items, m, hl, hlen, hr⟩ := f₃.own _ _ rfl
    refine ⟨f₃.keeps, fun y pv e => ?_, f₃.ns, f₃.cells, (fun _ _ e => nomatch e), fun y hy => f₃.ex y (List.mem_cons_of_mem _ hy), f₃.tk⟩
    by_cases hy : y = n
    · subst hy
      rw [upd_self] at e; cases e
      obtain ⟨v, r, l⟩ := f₃.look y _ hn
      cases r.raw_inv
      exact ⟨_, .list hxO hl (by omega) hlen fun i a v q1 q2 => (hr i a v q1 q2).less fun b hb => List.mem_cons_of_mem _ hb, l⟩
    · rw [upd_ne (by simpa using hy)] at e
      obtain ⟨v, r, l⟩ := f₃.look y _ e
      exact ⟨v, r.less fun b hb => List.mem_cons_of_mem _ hb, l⟩
  | cont => exact o.elim
  | brk => obtain ⟨σ₁, ow₁, p, f₃⟩ := o; exact p.elim
  | ret v =>
    obtain ⟨pv, p, kk, r⟩ := o
    exact q (.ret v) s₃ k₀₃ ⟨pv, p, kk, r.less fun b hb => List.mem_cons_of_mem _ hb⟩

/-! displays -/
theorem RepAll.get {O : Fb} {h : Shared} : ∀ {ps : List PV} {vs : List Value}, RepAll O h ps vs → ∀ (i : Nat) (x : PV) (v : Value), ps[i]? = some x → vs[i]? = some v → Rep O h x v
  | _, _, .nil, i, _, _, e, _ => by simp at e
  | _, _, .cons r t, 0, _, _, e, e' => by cases e; cases e'; exact r
  | _, _, .cons r t, i + 1, x, v, e, e' => t.get i x v (by simpa using e) (by simpa using e')
theorem Ev_list {es : List Expr} {ps : List PV} {pos : Pos} (h : Evs B C σ ow es ps) (hz : ps.length ≤ sizeLine := by decide) : Ev B C σ ow (.List es pos) (.list ps) := fun s Q E f q =>
  wpAny_List_spliced (h pos s _ E f fun vs s₁ k₁ r => ⟨by rw [← r.length]; exact hz, q _ _ (Kp.trans' k₁ (Kp.push ..)) (.list (n := 0) (not_mem_fresh (f.keep k₁)) (Heap.get?_push_size _ rfl) (by rw [List.size_toArray, ← r.length]; exact hz) (by simp [r.length])
    fun i x v e e' => (r.get i x v e (by simpa using e')).keep (Kp.push ..))⟩)
theorem Ev_tuple {es : List Expr} {ps : List PV} {k : Nat} {pos : Pos} (h : Evs B C σ ow es ps) (hz : ps.length ≤ sizeLine := by decide) : Ev B C σ ow (.Tuple es k pos) (.tup ps) := fun s Q E f q =>
  wpAny_Tuple_spliced (h pos s _ E f fun vs s₁ k₁ r => ⟨by rw [← r.length]; exact hz, q _ _ (Kp.trans' k₁ (Kp.push ..)) (.tup (n := 0) (not_mem_fresh (f.keep k₁)) (Heap.get?_push_size _ rfl) (by rw [List.size_toArray, ← r.length]; exact hz) (by simp [r.length])
    fun i x v e e' => (r.get i x v e (by simpa using e')).keep (Kp.push ..))⟩)
end
end Mine
end

section
open PySem PySem.W PyProof.Rows PySem.Calls
set_option Elab.async false
set_option linter.unusedVariables false
namespace Mine

/-- what a call of a built-in gives back -/
def Ca (B : Bk) (id : String) (ps : List PV) (r : PV) : Prop := ∀ A O s vs Q E, A.handled = none → Lo B O → B.On s → RepAll O s ps vs → Ex O s → (∀ v s', Kp s s' → Rep O s' r v → Q v s') → wpAny (model B.prog B.w) A (call (.builtin id) vs) Q E s

theorem plain_any {es : List Expr} {env : Env} {pos : Pos} (h : es.all plainArg = true) : (backTo pos (starEach es env)).any (·.1) = false := by
  induction es with
  | nil => rfl
  | cons e es ih =>
    rw [List.all_cons, Bool.and_eq_true] at h
    rw [starEach_cons h.1]
    have := ih h.2
    simp only [backTo, List.map_cons, List.any_cons] at this ⊢
    rw [this]; rfl

section
variable {B : Bk} {C : Cx} {σ : Vars} {ow : Own}
theorem Ev_bi (hC : C.Ok B) {f : Str} {id : String} {pf pos : Pos} {e : Expr} {es : List Expr} {ps : List PV} {r : PV} (hF : Ca B id ps r) (hx : C.env.kindOf f = some .globalImplicit) (hg : B.mg f = none) (hb : B.mb f = some (.builtin id)) (hd : (f == ("__debug__" : Str)) = false)
    (ha : Evs B C σ ow (e :: es) ps) (hp : (e :: es).all plainArg = true := by rfl)
    (he : eval (.Call (.Name f pf) (e :: es) [] pos) C.env = (do callWith pos (← eval (.Name f pf) C.env) [] (backTo pos (starEach (e :: es) C.env)) (backToKw pos (keywordEach [] C.env))) := by rfl) :
    Ev B C σ ow (.Call (.Name f pf) (e :: es) [] pos) r := fun s Q E fk q => by
  have hp' := Bool.and_eq_true_iff.mp (List.all_cons ▸ hp)
  refine Call_ (Ev_builtin (pos := pf) hC hx hg hb hd s _ E fk fun v s₁ k₁ r₁ => ?_) he
  cases r₁.raw_inv
  refine PyProof.Rows.callWith_builtin1 (ha pos s₁ _ E (fk.keep k₁) fun vs s₂ k₂ r₂ => ?_) (starEach_cons hp'.1) (plain_any hp'.2)
  exact hF C.A C.O s₂ vs Q E hC.hh hC.lo (Fok.on hC ((fk.keep k₁).keep k₂)) r₂ ((fk.keep k₁).keep k₂).exO fun v s₃ k₃ r₃ => q v s₃ (Kp.trans' (Kp.trans' k₁ k₂) k₃) r₃
end

theorem Rep.list_inv {O : Fb} {h : Shared} {xs : List PV} {v : Value} (r : Rep O h (.list xs) v) : ∃ a items n, v = .ref a ∧ a ∉ O.ad ∧ IsLs h.heap a items n ∧ items.size ≤ sizeLine ∧ xs.length = items.size ∧
    ∀ (i : Nat) (x : PV) (v : Value), xs[i]? = some x → items[i]? = some v → Rep O h x v := by
  cases r with
  | list ho hl hz hn hi => exact ⟨_, _, _, rfl, ho, hl, hz, hn, hi⟩

theorem ints_of {O : Fb} {h : Shared} : ∀ {ns : List Int} {vs : List Value}, (ns.map PV.int).length = vs.length → (∀ (i : Nat) (x : PV) (v : Value), (ns.map PV.int)[i]? = some x → vs[i]? = some v → Rep O h x v) → IntsAre vs ns
  | [], [], _, _ => .nil
  | n :: ns, v :: vs, hl, hi => by
    have := hi 0 (.int n) v rfl rfl
    cases this
    exact .cons n _ (ints_of (by simpa using hl) fun i x v e e' => hi (i + 1) x v (by simpa using e) (by simpa using e'))
/-- a list of ints, as the library has it -/
theorem rep_ints {O : Fb} {h : Shared} {ns : List Int} {v : Value} (r : Rep O h (.list (ns.map PV.int)) v) : ∃ a items n, v = .ref a ∧ a ∉ O.ad ∧ IsLs h.heap a items n ∧ items.size ≤ sizeLine ∧ IntsAre items.toList ns := by
  obtain ⟨a, items, n, rfl, ho, hl, hz, hn, hi⟩ := r.list_inv
  exact ⟨a, items, n, rfl, ho, hl, hz, ints_of (by simpa using hn) fun i x v e e' => hi i x v e (by simpa using e')⟩
theorem intsAre_rep {O : Fb} {h : Shared} : ∀ {vs : List Value} {ns : List Int}, IntsAre vs ns → ∀ (i : Nat) (x : PV) (v : Value), (ns.map PV.int)[i]? = some x → vs[i]? = some v → Rep O h x v
  | _, _, .nil, i, x, v, e, _ => by simp at e
  | _, _, .cons n t r, 0, x, v, e, e' => by cases e; cases e'; exact .int
  | _, _, .cons n t r, i + 1, x, v, e, e' => intsAre_rep r i x v (by simpa using e) (by simpa using e')
theorem IsLs.isList {h : Heap} {a : Addr} {items : Array Value} {n : Nat} (x : IsLs h a items n) : h.IsList a items := ⟨_, x, rfl, n, rfl⟩

section
variable {B : Bk}
theorem sizeLine_small : sizeLine < 2 ^ 62 := by decide
theorem Ca_len_list {xs : List PV} : Ca B "len" [.list xs] (.int xs.length) := fun A O s vs Q E hh lo on r hex q => by
  cases r with | cons r t => cases t with | nil =>
  obtain ⟨a, items, n, rfl, ho, hl, hz, hn, hi⟩ := r.list_inv
  have := sizeLine_small
  exact call_len_list (IsLs.isList hl) (by omega) (q _ _ (Kp.tok ..) (by rw [hn]; exact .int))
theorem Ca_len_str {x : List Nat} (hx : x.length < 2 ^ 62) : Ca B "len" [.str x] (.int x.length) := fun A O s vs Q E hh lo on r hex q => by
  cases r with | cons r t => cases t with | nil =>
  cases r
  have e : ((⟨x.toArray⟩ : Str).length : Int) = (x.length : Int) := by simp [Str.length]
  exact P.len_str (by rw [e]; omega) (q _ _ (Kp.tok ..) (by rw [e]; exact .int))
theorem Ca_chr {i : Int} (hi : (decide (i < 0) || decide (i > 0x10FFFF)) = false) : Ca B "chr" [.int i] (.str [i.toNat]) := fun A O s vs Q E hh lo on r hex q => by
  cases r with | cons r t => cases t with | nil =>
  cases r
  exact P.chr_of_int hi (q _ _ (Kp.tok ..) (.str (hex.notk (Nat.le_refl _)) (Nat.lt_succ_self _)))
theorem Ca_ord {c : Nat} : Ca B "ord" [.str [c]] (.int c) := fun A O s vs Q E hh lo on r hex q => by
  cases r with | cons r t => cases t with | nil =>
  cases r
  exact P.ord_of_char (q _ _ (Kp.tok ..) .int)
theorem Ca_hex {i : Int} (hz : (baseText "0x" 16 i).length ≤ sizeLine) : Ca B "hex" [.int i] (.str (baseText "0x" 16 i).cps.toList) := fun A O s vs Q E hh lo on r hex q => by
  cases r with | cons r t => cases t with | nil =>
  cases r
  exact P.hex_of_int (q _ _ (Kp.tok ..) (by
    have e : (baseText "0x" 16 i) = ⟨(baseText "0x" 16 i).cps.toList.toArray⟩ := by rw [Array.toArray_toList]
    rw (occs := .pos [2]) [e]; exact .str (hex.notk (Nat.le_refl _)) (Nat.lt_succ_self _))) hz
theorem Ca_sum {ns : List Int} : Ca B "sum" [.list (ns.map PV.int)] (.int ns.sum) := fun A O s vs Q E hh lo on r hex q => by
  cases r with | cons r t => cases t with | nil =>
  obtain ⟨a, items, n, rfl, ho, hl, hz, hi⟩ := rep_ints r
  obtain ⟨xs, e⟩ := hi.allInts.items
  rw [Array.toArray_toList] at e
  subst e
  have hn := hi.numsOf
  rw [nums_intItems] at hn
  refine wpAny_with_toks (n := s.toks) (Nat.le_refl _) (sum_intListG hh (IsLs.isList hl) fun h' tk t' hk lt => q _ _ ⟨h', tk, rfl, lt, hk⟩ ?_)
  rw [preSum_eq, List.take_of_length_le (by simp), hn]
  exact .int
theorem Ca_min2 {a b : Int} : Ca B "min" [.int a, .int b] (.int (if b < a then b else a)) := fun A O s vs Q E hh lo on r hex q => by
  cases r with | cons r t => cases t with | cons r' t => cases t with | nil =>
  cases r; cases r'
  refine wpAny_with_toks (n := s.toks) (Nat.le_refl _) (min_two_ints hh fun h' tk hk lt => q _ _ ⟨h', tk, rfl, lt, hk⟩ ?_)
  split <;> exact .int
end
end Mine
end

section
open PySem PySem.W PyProof.Rows PySem.Calls
set_option Elab.async false
set_option linter.unusedVariables false
namespace Mine
section
variable {B : Bk}
theorem Ca_min {ns : List Int} {m : Int} (hm : m ∈ ns) (hle : ∀ a ∈ ns, m ≤ a) : Ca B "min" [.list (ns.map PV.int)] (.int m) := fun A O s vs Q E hh lo on r hex q => by
  cases r with | cons r t => cases t with | nil =>
  obtain ⟨a, items, n, rfl, ho, hl, hz, hi⟩ := rep_ints r
  obtain ⟨xs, e⟩ := hi.allInts.items
  rw [Array.toArray_toList] at e
  subst e
  have hn := hi.numsOf
  rw [nums_intItems] at hn
  have hlen : ns.length = xs.size := by rw [← hn]; simp
  have hsz : 0 < xs.size := by rw [← hlen]; exact List.length_pos_of_mem hm
  refine wpAny_with_toks (n := s.toks) (Nat.le_refl _) (min_intList hh (IsLs.isList hl) hsz fun v h' tk hv hk lt => ?_)
  obtain ⟨t, rfl⟩ := intItems_at hv
  obtain ⟨h1, h2⟩ := argBest_lt (numAt xs) (xs.size - 1)
  have e : numAt xs (argBest (fun i j => decide (numAt xs i < numAt xs j)) (xs.size - 1)) = m := by
    refine Int.le_antisymm ?_ ?_
    · have hm' := hm
      rw [← hn] at hm'
      obtain ⟨j, hj, e⟩ := mem_getD hm'
      rw [List.length_map, Array.length_toList] at hj
      rw [← e, ← numAt_eq]; exact h2 j (by omega)
    · refine hle _ ?_
      rw [← hn, numAt_eq]; exact getD_mem (by rw [List.length_map, Array.length_toList]; omega)
  rw [e]
  exact q _ _ ⟨h', tk, rfl, lt, hk⟩ .int

theorem sorted_unique {ms ms' : List Int} (hp : ms.Perm ms') (h : ms.Pairwise (· ≤ ·)) (h' : ms'.Pairwise (· ≤ ·)) : ms = ms' :=
  hp.eq_of_pairwise (fun a b _ _ h1 h2 => Int.le_antisymm h1 h2) h h'
theorem Ca_sorted {ns ms : List Int} (hp : ms.Perm ns) (hs : ms.Pairwise (· ≤ ·)) (h64 : ns.length < 64) : Ca B "sorted" [.list (ns.map PV.int)] (.list (ms.map PV.int)) := fun A O s vs Q E hh lo on r hex q => by
  cases r with | cons r t => cases t with | nil =>
  obtain ⟨a, items, n, rfl, ho, hl, hz, hi⟩ := rep_ints r
  have hl' : s.heap.IsList a items.toList.toArray := by rw [Array.toArray_toList]; exact IsLs.isList hl
  refine sorted_ints hl' hi (by rw [hi.length]; exact h64) fun out ns' h1 h2 h3 => ?_
  have e : ns' = ms := sorted_unique (h2.trans hp.symm) h3 hs
  subst e
  obtain ⟨e, he⟩ := sortedAll_at s.heap items.toList out
  refine q _ _ ⟨_, s.toks, rfl, Nat.le_refl _, fun b o => sortedAll_old⟩ (.list (n := e) ?_ he ?_ ?_ fun i x v q1 q2 => intsAre_rep h1 i x v q1 (by simpa using q2))
  · intro hm; obtain ⟨o, e'⟩ := hex.1 _ hm
    exact absurd (Heap.lt_size e') (Nat.not_lt.mpr (Nat.le_succ _))
  · have := h1.length; have := h2.length_eq
    rw [← Array.length_toList, h1.length, h2.length_eq]
    exact Nat.le_trans (Nat.le_of_lt h64) (by decide)
  · have := h1.length
    simpa using this.symm
end
section
variable {B : Bk} {C : Cx} {σ : Vars} {ow : Own}
/-- sorted(.., reverse=True) -/
theorem Ev_sorted_rev (hC : C.Ok B) {f : Str} {pf pos pk pv : Pos} {k : Nat} {e : Expr} {ns ms : List Int} (hp : ms.Perm ns) (hs : ms.Pairwise (· ≥ ·)) (h64 : ns.length < 64) (hx : C.env.kindOf f = some .globalImplicit) (hg : B.mg f = none) (hb : B.mb f = some (.builtin "sorted")) (hd : (f == ("__debug__" : Str)) = false)
    (h : Ev B C σ ow e (.list (ns.map PV.int))) (hpl : plainArg e = true := by rfl)
    (he : eval (.Call (.Name f pf) [e] [⟨some (Str.ofString "reverse"), .Constant (.bool true) k pv, pk⟩] pos) C.env = (do callWith pos (← eval (.Name f pf) C.env) [] (backTo pos (starEach [e] C.env)) (backToKw pos (keywordEach [⟨some (Str.ofString "reverse"), .Constant (.bool true) k pv, pk⟩] C.env))) := by rfl) :
    Ev B C σ ow (.Call (.Name f pf) [e] [⟨some (Str.ofString "reverse"), .Constant (.bool true) k pv, pk⟩] pos) (.list (ms.map PV.int)) := fun s Q E fk q => by
  rw [he]
  refine wpAny_bind (Ev_builtin (pos := pf) hC hx hg hb hd s _ E fk fun v s₁ k₁ r₁ => ?_)
  cases r₁.raw_inv
  refine PyProof.Rows.callWith_kw (args_cons (h s₁ _ E (fk.keep k₁) fun v s₂ k₂ r₂ => args_nil ?_) (starEach_cons hpl)) (by rw [starEach_cons hpl]; rfl) (by rw [starEach_cons hpl]; rfl)
  show wpAny _ _ (evalAll [do let v ← eval (.Constant (.bool true) k pv) C.env; standAt pos; pure v]) _ _ _
  unfold evalAll
  refine wpAny_bind (wpAny_bind (Constant_bool (wpAny_bind (wpAny_standAt (wpAny_pure ?_)))))
  unfold evalAll
  refine wpAny_bind (wpAny_holding (wpAny_pure (wpAny_pure ?_)))
  show wpAny _ _ (call (.builtin "sorted") [v] [(Str.ofString "reverse", .bool true)]) _ _ s₂
  obtain ⟨a, items, n, rfl, ho, hl, hz, hi⟩ := rep_ints r₂
  have hl' : s₂.heap.IsList a items.toList.toArray := by rw [Array.toArray_toList]; exact IsLs.isList hl
  refine sorted_ints_rev hl' hi (by rw [hi.length]; exact h64) fun out ns' h1 h2 h3 => ?_
  have e : ns' = ms := (h2.trans hp.symm).eq_of_pairwise (fun a b _ _ h1 h2 => Int.le_antisymm h2 h1) h3 hs
  subst e
  obtain ⟨e, he⟩ := sortedAll_at s₂.heap items.toList out
  have kk : Kp s₂ { s₂ with heap := sortedAll s₂.heap items.toList out } := ⟨_, s₂.toks, rfl, Nat.le_refl _, fun b o => sortedAll_old⟩
  refine q _ _ (Kp.trans' (Kp.trans' k₁ k₂) kk) (.list (n := e) ?_ he ?_ ?_ fun i x v q1 q2 => intsAre_rep h1 i x v q1 (by simpa using q2))
  · intro hm; obtain ⟨o, e'⟩ := ((fk.keep k₁).keep k₂).ex _ hm
    exact absurd (Heap.lt_size e') (Nat.not_lt.mpr (Nat.le_succ _))
  · rw [← Array.length_toList, h1.length, h2.length_eq]
    exact Nat.le_trans (Nat.le_of_lt h64) (by decide)
  · have := h1.length
    simpa using this.symm
end
end Mine
end

section
open PySem PySem.W PyProof.Rows PySem.Calls
set_option Elab.async false
set_option linter.unusedVariables false
namespace Mine

def plainSlice : Expr → Bool
  | .Slice _ _ none _ => false
  | _ => true

section
variable {B : Bk} {C : Cx} {σ : Vars} {ow : Own}

/-- what is behind a subscript's two parts -/
theorem tail_any {A : Around} {value slice : Expr} {o i : Value} {T id : String} {s : Shared} {Q : Value → Shared → Prop} {E : Value → Shared → Prop} (hT : s.TypeIs o T) (hl : typeLookup (.type T) "__getitem__" = pure (some (.builtin id)))
    (h : wpAny (model B.prog B.w) A (getItem o i) Q E s) : wpAny (model B.prog B.w) A (subscriptTail value slice o i) Q E s := by
  unfold subscriptTail
  refine wpAny_bind ?_
  rw [getitemInPython_of_ne hT.not_modules]
  refine wpAny_bind (wpAny_specialOf hT hl ?_)
  have hs : ∃ l, subscripted slice false o i = operate l (getItem o i) := by
    unfold subscripted
    split
    · exact ⟨_, rfl⟩
    · rename_i h; cases h
    · exact ⟨_, rfl⟩
  have fin : wpAny (model B.prog B.w) A (subscripted slice false o i) (fun r s₃ => wpAny (model B.prog B.w) A (letTemporaryGo value o r >>= fun _ => pure r) Q E s₃) E s := by
    obtain ⟨l, hs⟩ := hs
    rw [hs]
    exact wpAny_operating (wpAny_mono h (fun r s₃ h₃ => wpAny_bind (wpAny_letTemporaryGo (wpAny_pure h₃))) fun _ _ x => x)
  first
    | exact wpAny_pure (wpAny_bind fin)
    | exact wpAny_bind (wpAny_pure (wpAny_bind fin))
    | exact wpAny_bind fin

theorem Ev_item {value slice : Expr} {pos : Pos} {xs : List PV} {k : Int} {x : PV} (h1 : Ev B C σ ow value (.list xs)) (h2 : Ev B C σ ow slice (.int k)) (h0 : 0 ≤ k) (hx : xs[k.toNat]? = some x) : Ev B C σ ow (.Subscript value slice pos) x := fun s Q E f q =>
  PyProof.Rows.Subscript_ (h1 s _ E f fun v s₁ k₁ r₁ => h2 s₁ _ E (f.keep k₁) fun u s₂ k₂ r₂ => by
    cases r₂
    obtain ⟨a, items, n, rfl, ho, hl, hz, hn, hi⟩ := (r₁.keep k₂).list_inv
    have hlt : k.toNat < items.size := hn ▸ (List.getElem?_eq_some_iff.mp hx).1
    have hv : items[k.toNat]? = some items[k.toNat] := by simp [hlt]
    have := sizeLine_small
    exact tail_any (IsLs.isList hl).typeIs slot_list_getitem.lookup (wpAny_getItem_list (IsLs.isList hl) h0 (by omega) hv (q _ _ (Kp.trans' k₁ k₂) (hi _ _ _ hx hv))))
theorem Ev_item_str {value slice : Expr} {pos : Pos} {xs : List Nat} {k : Int} {x : Nat} (h1 : Ev B C σ ow value (.str xs)) (h2 : Ev B C σ ow slice (.int k)) (h0 : 0 ≤ k) (hk : k < 2 ^ 62) (hx : xs[k.toNat]? = some x) : Ev B C σ ow (.Subscript value slice pos) (.str [x]) := fun s Q E f q =>
  PyProof.Rows.Subscript_ (h1 s _ E f fun v s₁ k₁ r₁ => h2 s₁ _ E (f.keep k₁) fun u s₂ k₂ r₂ => by
    cases r₂
    cases r₁
    have hlt : k.toNat < xs.length := (List.getElem?_eq_some_iff.mp hx).1
    refine tail_any (typeIs_str s₂ _ _) F.slot_str_getitem.lookup (P.getItem_str (c := x) ?_ ?_ (q _ _ (Kp.trans' (Kp.trans' k₁ k₂) (Kp.tok ..)) (.str (((f.keep k₁).keep k₂).notk (Nat.le_refl _)) (Nat.lt_succ_self _))))
    · rw [decide_eq_false (by omega), decide_eq_false (by omega)]; rfl
    · have e : seqIndex? k (⟨xs.toArray⟩ : Str).length = some k.toNat := by
        have e1 : (⟨xs.toArray⟩ : Str).length = xs.length := by simp [Str.length]
        unfold seqIndex?
        have e2 : (if k < 0 then k + (xs.length : Int) else k) = k := if_neg (by omega)
        simp only [e1, e2]
        rw [decide_eq_true (by omega : 0 ≤ k), decide_eq_true (by omega : k < (xs.length : Int))]
        rfl
      rw [e]; simpa using hx)

theorem Rep.str_inv {O : Fb} {h : Shared} {xs : List Nat} {v : Value} (r : Rep O h (.str xs) v) : ∃ t, v = .str ⟨xs.toArray⟩ t ∧ ¬ O.tk t ∧ t < h.toks := by
  cases r with | str ht hb => exact ⟨_, rfl, ht, hb⟩
theorem post_vs {s : Shared} {c : Prop} [Decidable c] {y z : Str} {t : Tok} {Q : Value → Shared → Prop} (h : (if c then y else z).length ≤ sizeLine ∧ ∀ t' k, (t' = t ∨ (t' = s.toks ∧ t' < k)) → s.toks ≤ k → Q (.str (if c then y else z) t') { s with toks := k }) :
    (if c then Made.val (.str y t) else Made.str z).post Q s := by
  by_cases hc : c
  · rw [if_pos hc]; have h' := h.2 t s.toks (.inl rfl) (Nat.le_refl _); rw [if_pos hc] at h'; exact h'
  · rw [if_neg hc]; have h' := h.2 s.toks (s.toks + 1) (.inr ⟨rfl, Nat.lt_succ_self _⟩) (Nat.le_succ _); have h1 := h.1; rw [if_neg hc] at h' h1; exact ⟨h1, h'⟩
/-! slices -/
def partV : Option Int → PV
  | none => .none
  | some i => .int i
def EvP (B : Bk) (C : Cx) (σ : Vars) (ow : Own) (x : Option Expr) (p : Option Int) : Prop :=
  ∀ s Q E, Fok C σ ow s → (∀ v s', Kp s s' → IsPart v p → (∃ l, v = partValue l ∧ l.map (·.1) = p) → Q v s') → wpAny (model B.prog B.w) C.A (evalPart x C.env) Q E s
theorem EvP_none : EvP B C σ ow none none := fun s Q E f q => wpAny_pure (q _ s (Kp.refl' s) .none ⟨none, rfl, rfl⟩)
theorem EvP_some {e : Expr} {i : Int} (h : Ev B C σ ow e (.int i)) : EvP B C σ ow (some e) (some i) := fun s Q E f q => h s Q E f fun v s' k r => by
  cases r; exact q _ s' k (.int ..) ⟨some (i, _), rfl, rfl⟩

theorem Ev_slice {value : Expr} {lower upper : Option Expr} {p pos : Pos} {xs : List PV} {lo hi : Option Int} {ys : List PV} (h1 : Ev B C σ ow value (.list xs)) (h2 : EvP B C σ ow lower lo) (h3 : EvP B C σ ow upper hi)
    (hys : ∀ items : Array Value, items.size = xs.length → ys.length = (slicePick items lo hi none).size ∧ ∀ (i : Nat) (y : PV) (v : Value), ys[i]? = some y → (slicePick items lo hi none)[i]? = some v → ∃ j : Nat, xs[j]? = some y ∧ items[j]? = some v) :
    Ev B C σ ow (.Subscript value (.Slice lower upper none p) pos) (.list ys) := fun s Q E f q =>
  PyProof.Rows.Subscript_ (h1 s _ E f fun v s₁ k₁ r₁ => by
    refine wpAny_Slice (h2 s₁ _ E (f.keep k₁) fun vl s₂ k₂ p₂ _ => h3 s₂ _ E ((f.keep k₁).keep k₂) fun vu s₃ k₃ p₃ _ => ?_)
    rw [evalPart_none]
    have r₃ := (r₁.keep k₂).keep k₃
    have f₃ := ((f.keep k₁).keep k₂).keep k₃
    obtain ⟨a, items, n, rfl, ho, hl, hz, hn, hit⟩ := r₃.list_inv
    refine wpAny_pure ?_
    have hl' : (s₃.heap.push { cls := .type "slice", data := .fields #[vl, vu, .none] }).IsList a items := (IsLs.isList hl).push _
    have kp : Kp s₃ { s₃ with heap := (s₃.heap.push { cls := .type "slice", data := .fields #[vl, vu, .none] }).push { cls := .type "list", data := .seq (slicePick items lo hi none) } } :=
      ⟨_, s₃.toks, rfl, Nat.le_refl _, fun b o e => Heap.get?_push_of_some _ (Heap.get?_push_of_some _ e)⟩
    obtain ⟨e1, e2⟩ := hys items hn.symm
    refine tail_any hl'.typeIs slot_list_getitem.lookup (wpAny_getItem_list_slice (s := { s₃ with heap := _ }) hl' (Heap.IsSliceOf.new ..) p₂ p₃ .none (by simp) ?_ hz)
    refine q _ _ (Kp.trans' (Kp.trans' (Kp.trans' k₁ k₂) k₃) kp) (.list (n := 0) ?_ (Heap.get?_push_size _ rfl) (Nat.le_trans (slicePick_size_le ..) hz) e1 fun i y v q1 q2 => ?_)
    · intro hm; obtain ⟨o, e'⟩ := f₃.ex _ hm
      have := Heap.lt_size e'
      rw [Heap.size_push] at this
      exact absurd this (Nat.not_lt.mpr (Nat.le_succ _))
    · obtain ⟨j, g1, g2⟩ := e2 i y v q1 q2
      exact (hit j y v g1 g2).keep kp)

theorem Ev_slice_to {value : Expr} {u : Expr} {p pos : Pos} {xs : List PV} {k : Int} (h0 : 0 ≤ k) (h1 : Ev B C σ ow value (.list xs)) (h3 : Ev B C σ ow u (.int k)) : Ev B C σ ow (.Subscript value (.Slice none (some u) none p) pos) (.list (xs.take k.toNat)) :=
  Ev_slice h1 EvP_none (EvP_some h3) fun items hn => by
    obtain ⟨m, rfl⟩ := Int.eq_ofNat_of_zero_le h0
    rw [slicePick_upto', Int.toNat_natCast]
    refine ⟨by simp [hn], fun i y v e e' => ⟨i, ?_, ?_⟩⟩
    · rw [List.getElem?_take] at e
      split at e
      · exact e
      · cases e
    · simp only [List.getElem?_toArray, List.getElem?_take] at e'
      split at e'
      · simpa using e'
      · cases e'
theorem Ev_slice_from {value : Expr} {l : Expr} {p pos : Pos} {xs : List PV} {k : Int} (h0 : 0 ≤ k) (h1 : Ev B C σ ow value (.list xs)) (h2 : Ev B C σ ow l (.int k)) : Ev B C σ ow (.Subscript value (.Slice (some l) none none p) pos) (.list (xs.drop k.toNat)) :=
  Ev_slice h1 (EvP_some h2) EvP_none fun items hn => by
    obtain ⟨m, rfl⟩ := Int.eq_ofNat_of_zero_le h0
    rw [slicePick_from', Int.toNat_natCast]
    refine ⟨by simp [hn], fun i y v e e' => ⟨m + i, ?_, ?_⟩⟩
    · rwa [List.getElem?_drop] at e
    · simp only [List.getElem?_toArray, List.getElem?_drop] at e'
      simpa using e'

theorem Ev_slice_str {value : Expr} {lower upper : Option Expr} {p pos : Pos} {xs ys : List Nat} {lo hi : Option Int} (hz : xs.length ≤ sizeLine) (h1 : Ev B C σ ow value (.str xs)) (h2 : EvP B C σ ow lower lo) (h3 : EvP B C σ ow upper hi)
    (hys : Txt.slice ⟨xs.toArray⟩ lo hi = ⟨ys.toArray⟩) : Ev B C σ ow (.Subscript value (.Slice lower upper none p) pos) (.str ys) := fun s Q E f q =>
  PyProof.Rows.Subscript_ (h1 s _ E f fun v s₁ k₁ r₁ => by
    obtain ⟨t, rfl, ht, hb⟩ := r₁.str_inv
    have f₃ := f.keep k₁
    refine wpAny_Slice (h2 s₁ _ E (f.keep k₁) fun vl s₂ k₂ _ p₂ => h3 s₂ _ E ((f.keep k₁).keep k₂) fun vu s₃ k₃ _ p₃ => ?_)
    rw [evalPart_none]
    obtain ⟨l, rfl, rfl⟩ := p₂
    obtain ⟨u, rfl, rfl⟩ := p₃
    refine wpAny_pure (tail_any (typeIs_str _ _ _) F.slot_str_getitem.lookup (wpAny_getItem_str_slice (l := l) (u := u) (st := none) ⟨_, Heap.get?_push_size _ rfl, rfl, rfl⟩ rfl ?_))
    refine post_vs ⟨Nat.le_trans (Txt.slice_le ⟨xs.toArray⟩ _ _) (by simpa [Str.length] using hz), fun t' k ht' hk => ?_⟩
    have hnt : ¬ C.O.tk t' ∧ t' < k := by
      rcases ht' with rfl | ⟨rfl, hlt⟩
      · exact ⟨ht, Nat.lt_of_lt_of_le hb (Nat.le_trans (Nat.le_trans k₂.le k₃.le) hk)⟩
      · exact ⟨(((f.keep k₁).keep k₂).keep k₃).notk (Nat.le_refl _), hlt⟩
    refine q _ _ (Kp.trans' (Kp.trans' (Kp.trans' k₁ k₂) k₃) ⟨_, k, rfl, hk, fun b o e => Heap.get?_push_of_some _ e⟩) ?_
    have e : Txt.slice ⟨xs.toArray⟩ (l.map (·.1)) (u.map (·.1)) = ⟨ys.toArray⟩ := hys
    have e' : Rep C.O { s₃ with heap := (s₃.heap.push { cls := .type "slice", data := .fields #[partValue l, partValue u, .none] }), toks := k } (.str ys) (.str (Txt.slice ⟨xs.toArray⟩ (l.map (·.1)) (u.map (·.1))) t') := by rw [e]; exact .str hnt.1 hnt.2
    exact e')
end
end Mine
end

section
open PySem PySem.W PyProof.Rows PySem.Calls
set_option Elab.async false
set_option linter.unusedVariables false
namespace Mine

section
variable {B : Bk} {C : Cx} {σ : Vars} {ow : Own}

/-- a value's type, as a method's lookup asks it -/
def Ty (B : Bk) (p : PV) (T : String) : Prop := ∀ O s v, B.On s → Rep O s p v → s.TypeIs v T ∧ ∀ a, v = .ref a → ∃ ob, s.heap.get? a = some ob ∧ ob.dict = none
theorem Ty_str {x : List Nat} : Ty B (.str x) "str" := fun O s v on r => by cases r; exact ⟨typeIs_str _ _ _, fun a e => by cases e⟩

theorem Ev_method (hC : C.Ok B) {o : Expr} {name : Str} {apos pos : Pos} {e : Expr} {es : List Expr} {p : PV} {ps : List PV} {r : PV} {T id : String} (ho : Ev B C σ ow o p) (ha : Evs B C σ ow (e :: es) ps) (hF : Ca B id (p :: ps) r) (hT : Ty B p T)
    (pa : PlainAttrs T) (slot : Slot T name id) (hty : typeOf (.builtin id) = pure (.type "method_descriptor")) (hpl : (e :: es).all plainArg = true := by rfl)
    (hbase : attributeBase o name C.env (eval o C.env) = eval o C.env := by rfl)
    (hfew : ((backTo pos (starEach (e :: es) C.env)).all (fun x => !x.1) && (backToKw pos (keywordEach [] C.env)).all (fun x => x.1.isSome)
      && decide ((e :: es).length + ([] : List Keyword).length + (if ([] : List Keyword).isEmpty then 0 else 1) < 30)) = true := by rfl)
    (hline : (apos.endLine == pos.line) = true := by rfl) :
    Ev B C σ ow (.Call (.Attribute o name apos) (e :: es) [] pos) r := fun s Q E f q => by
  refine wpAny_Call_method_lateS hbase hfew hline (ho s _ E f fun v s₁ k₁ r₁ => ?_)
  have on₁ : B.On s₁ := Fok.on hC (f.keep k₁)
  obtain ⟨h1, h2⟩ := hT _ _ _ on₁ r₁
  refine ⟨T, id, pa, slot, hty, h1, h2, ?_⟩
  have body : wpAny (model B.prog B.w) C.A (spliced (backTo pos (starEach (e :: es) C.env))) (fun vs s₂ => wpAny (model B.prog B.w) C.A (call (.builtin id) (v :: vs)) Q E s₂) E s₁ :=
    ha pos s₁ _ E (f.keep k₁) fun vs s₂ k₂ r₂ => hF C.A C.O s₂ (v :: vs) Q E hC.hh hC.lo (on₁.keeps k₂) (.cons (r₁.keep k₂) r₂) ((f.keep k₁).keep k₂).exO fun u s₃ k₃ r₃ => q u s₃ (Kp.trans' (Kp.trans' k₁ k₂) k₃) r₃
  refine Calls.callWith_builtin (plain_any hpl) ?_
  rw [List.all_cons, Bool.and_eq_true] at hpl
  rw [starEach_cons hpl.1] at body ⊢
  exact evalArgs_plain body
theorem Ev_method0 (hC : C.Ok B) {o : Expr} {name : Str} {apos pos : Pos} {p : PV} {r : PV} {T id : String} (ho : Ev B C σ ow o p) (hF : Ca B id [p] r) (hT : Ty B p T)
    (pa : PlainAttrs T) (slot : Slot T name id) (hty : typeOf (.builtin id) = pure (.type "method_descriptor"))
    (hbase : attributeBase o name C.env (eval o C.env) = eval o C.env := by rfl) (hline : (apos.endLine == pos.line) = true := by rfl) :
    Ev B C σ ow (.Call (.Attribute o name apos) [] [] pos) r := fun s Q E f q => by
  refine wpAny_Call_method_lateS hbase rfl hline (ho s _ E f fun v s₁ k₁ r₁ => ?_)
  have on₁ : B.On s₁ := Fok.on hC (f.keep k₁)
  obtain ⟨h1, h2⟩ := hT _ _ _ on₁ r₁
  refine ⟨T, id, pa, slot, hty, h1, h2, ?_⟩
  refine Calls.callWith_builtin rfl (PyProof.Rows.evalArgs_none ?_)
  exact hF C.A C.O s₁ [v] Q E hC.hh hC.lo on₁ (.cons r₁ .nil) (f.keep k₁).exO fun u s₃ k₃ r₃ => q u s₃ (Kp.trans' k₁ k₃) r₃
end

section
variable {B : Bk}
theorem str_of (x : Str) : x = ⟨x.cps.toList.toArray⟩ := by rw [Array.toArray_toList]
theorem rep_str {O : Fb} {h : Shared} {x : Str} {t : Tok} (ht : ¬ O.tk t) (hb : t < h.toks) : Rep O h (.str x.cps.toList) (.str x t) := by
  rw (occs := .pos [2]) [str_of x]; exact .str ht hb
/-- the text of a str -/
def txt : PV → Option (List Nat)
  | .str s => some s
  | .strX s => some s
  | _ => none
theorem Rep.txt_inv {O : Fb} {h : Shared} {p : PV} {x : List Nat} {v : Value} (e : txt p = some x) (r : Rep O h p v) : ∃ t, v = .str ⟨x.toArray⟩ t ∧ (p = .strX x ∨ (¬ O.tk t ∧ t < h.toks)) := by
  cases r with
  | str ht hb => cases e; exact ⟨_, rfl, .inr ⟨ht, hb⟩⟩
  | strX ht h0 hb => cases e; exact ⟨_, rfl, .inl rfl⟩
  | _ => cases e
/-- a list of strs, as the library has it -/
theorem strs_of {O : Fb} {h : Shared} : ∀ {ps : List PV} {ss : List (List Nat)} {vs : List Value}, ps.map txt = ss.map some → ps.length = vs.length → (∀ (i : Nat) (x : PV) (v : Value), ps[i]? = some x → vs[i]? = some v → Rep O h x v) →
    ∃ l : List (Str × Tok), vs = strValues l ∧ (l.map (·.1) = ss.map fun s => (⟨s.toArray⟩ : Str)) ∧ ∀ p, l = [p] → (∃ x, ps = [.strX x]) ∨ (¬ O.tk p.2 ∧ p.2 < h.toks)
  | [], [], [], _, _, _ => ⟨[], rfl, rfl, fun p e => nomatch e⟩
  | p :: ps, s :: ss, v :: vs, he, hl, hi => by
    rw [List.map_cons, List.map_cons] at he
    obtain ⟨t, rfl, ht⟩ := (hi 0 p v rfl rfl).txt_inv (List.cons.inj he).1
    obtain ⟨l, e1, e2, e3⟩ := strs_of (ss := ss) (vs := vs) (List.cons.inj he).2 (by simpa using hl) fun i x v e e' => hi (i + 1) x v (by simpa using e) (by simpa using e')
    refine ⟨(⟨s.toArray⟩, t) :: l, by rw [e1]; rfl, by simp [e2], fun q e => ?_⟩
    cases e
    have hps : ps = [] := by
      have : (ps.map txt).length = ([] : List (Str × Tok)).length := by
        rw [(List.cons.inj he).2]
        have := congrArg List.length e2
        simpa using this.symm
      simpa using this
    subst hps
    exact ht.imp (fun e => ⟨s, by rw [e]⟩) id
  | [], _ :: _, _, he, _, _ => by cases he
  | _ :: _, [], _, he, _, _ => by cases he

theorem post_js {s : Shared} {sep : Str} {Q : Value → Shared → Prop} : ∀ (l : List (Str × Tok)), ((Txt.join sep (l.map (·.1))).length ≤ sizeLine ∧ ∀ t' k, ((t' = s.toks ∧ t' < k) ∨ ∃ p, l = [p] ∧ t' = p.2) → s.toks ≤ k → Q (.str (Txt.join sep (l.map (·.1))) t') { s with toks := k }) → (joinMade sep l).post Q s
  | [], h => ⟨h.1, h.2 _ _ (.inl ⟨rfl, Nat.lt_succ_self _⟩) (Nat.le_succ _)⟩
  | [p], h => h.2 p.2 s.toks (.inr ⟨p, rfl, rfl⟩) (Nat.le_refl _)
  | _ :: _ :: _, h => ⟨h.1, h.2 _ _ (.inl ⟨rfl, Nat.lt_succ_self _⟩) (Nat.le_succ _)⟩
theorem call_join {prog : Program} {w : World} {A : Around} {E : Value → Shared → Prop} {s : Shared} {x : Str} {t : Tok} {Q : Value → Shared → Prop} {D : Addr} {l : List (Str × Tok)} {texts : List Str} (hl : s.heap.IsList D (strValues l).toArray) (ht : l.map (·.1) = texts) (hok : JoinOk x texts = true)
    (hq : ∀ t' k, ((t' = s.toks ∧ t' < k) ∨ ∃ p, l = [p] ∧ t' = p.2) → s.toks ≤ k → Q (.str (Txt.join x texts) t') { s with toks := k }) : wpAny (model prog w) A (call (.builtin "str.join") [.str x t, .ref D]) Q E s := by
  subst ht
  unfold JoinOk at hok
  rw [Bool.not_eq_true'] at hok
  exact call_meets F.slot_str_join (typeIs_str _ _ _) F.entry_str_join (F.args_str_join_2 _ _) (meets_str_join_list x t D l hok) ⟨hl, post_js l ⟨joinFit_length hok, hq⟩⟩

theorem Ca_joinX {sep : List Nat} {ps : List PV} {ss : List (List Nat)} (hps : ps.map txt = ss.map some) (h1 : ∀ x, ps ≠ [.strX x]) (hok : JoinOk ⟨sep.toArray⟩ (ss.map fun s => (⟨s.toArray⟩ : Str)) = true) :
    Ca B "str.join" [.str sep, .list ps] (.str (Txt.join ⟨sep.toArray⟩ (ss.map fun s => (⟨s.toArray⟩ : Str))).cps.toList) := fun A O s vs Q E hh lo on r hex q => by
  cases r with | cons r t => cases t with | cons r' t => cases t with | nil =>
  obtain ⟨_, rfl, _, _⟩ := r.str_inv
  obtain ⟨a, items, n, rfl, ho, hl, hz, hn, hi⟩ := r'.list_inv
  obtain ⟨l, e1, e2, e3⟩ := strs_of (vs := items.toList) hps (by simpa using hn) fun i x v e e' => hi i x v e (by simpa using e')
  have hl' : s.heap.IsList a (strValues l).toArray := by rw [← e1, Array.toArray_toList]; exact IsLs.isList hl
  refine call_join hl' e2 hok fun t' k ht' hk => (fun hh : ¬ O.tk t' ∧ t' < k => q _ _ (Kp.tok _ _ hk) (rep_str hh.1 hh.2)) ?_
  rcases ht' with ⟨rfl, hlt⟩ | ⟨p, e, rfl⟩
  · exact ⟨hex.notk (Nat.le_refl _), hlt⟩
  · exact (e3 p e).elim (fun ⟨x, e⟩ => absurd e (h1 x)) fun z => ⟨z.1, Nat.lt_of_lt_of_le z.2 hk⟩
theorem txt_strs (ss : List (List Nat)) : (ss.map PV.str).map txt = ss.map some := by rw [List.map_map]; rfl
theorem Ca_join {sep : List Nat} {ss : List (List Nat)} (hok : JoinOk ⟨sep.toArray⟩ (ss.map fun s => (⟨s.toArray⟩ : Str)) = true) :
    Ca B "str.join" [.str sep, .list (ss.map PV.str)] (.str (Txt.join ⟨sep.toArray⟩ (ss.map fun s => (⟨s.toArray⟩ : Str))).cps.toList) :=
  Ca_joinX (txt_strs ss) (fun x e => by
    match ss, e with
    | [_], e => cases e) hok

theorem Ca_lower {x : List Nat} (hfit : Builtin.Str.tooLong (Txt.lower ⟨x.toArray⟩).length = false) : Ca B "str.lower" [.str x] (.str (Txt.lower ⟨x.toArray⟩).cps.toList) := fun A O s vs Q E hh lo on r hex q => by
  cases r with | cons r t => cases t with | nil =>
  cases r
  exact SC.lower hfit (q _ _ (Kp.tok ..) (rep_str (hex.notk (Nat.le_refl _)) (Nat.lt_succ_self _)))

theorem Bi_add_str {x y : List Nat} (hz : x.length + y.length ≤ sizeLine) : Bi B .Add (.str x) (.str y) (.str (x ++ y)) := fun A O s v u Q E r₁ r₂ hex k => by
  obtain ⟨_, rfl, ht₁, hb₁⟩ := r₁.str_inv
  obtain ⟨_, rfl, ht₂, hb₂⟩ := r₂.str_inv
  refine P.add_str ?_
  have lx : (⟨x.toArray⟩ : Str).length = x.length := by simp [Str.length]
  have ly : (⟨y.toArray⟩ : Str).length = y.length := by simp [Str.length]
  rw [lx, ly]
  split
  · rename_i h
    have : x = [] := List.eq_nil_of_length_eq_zero (by simpa using h)
    subst this
    exact k _ _ (Kp.refl' _) (.str ht₂ hb₂)
  · split
    · rename_i h
      have : y = [] := List.eq_nil_of_length_eq_zero (by simpa using h)
      subst this
      rw [List.append_nil] at k
      exact k _ _ (Kp.refl' _) (.str ht₁ hb₁)
    · have e : ((⟨x.toArray⟩ : Str) ++ (⟨y.toArray⟩ : Str)) = ⟨(x ++ y).toArray⟩ := by
        show (Str.append _ _) = _
        simp [Str.append]
      rw [e]
      exact ⟨by simpa [Str.length] using hz, k _ _ (Kp.tok ..) (.str (hex.notk (Nat.le_refl _)) (Nat.lt_succ_self _))⟩

/-- a list of strs made at once -/
theorem rep_strs {O : Fb} {h : Shared} {a : Addr} {n : Nat} {l : List (Str × Tok)} (ho : a ∉ O.ad) (hl : IsLs h.heap a (strValues l).toArray n) (hz : l.length ≤ sizeLine) (ht : ∀ p ∈ l, ¬ O.tk p.2 ∧ p.2 < h.toks) : Rep O h (.list (l.map fun p => .str p.1.cps.toList)) (.ref a) := by
  refine .list ho hl (by simpa [strValues] using hz) (by simp [strValues]) fun i x v e e' => ?_
  simp only [strValues, List.getElem?_toArray, List.getElem?_map] at e e'
  cases hp : l[i]? with
  | none => rw [hp] at e; cases e
  | some p =>
    rw [hp] at e e'
    cases e; cases e'
    exact rep_str (ht p (List.mem_of_getElem? hp)).1 (ht p (List.mem_of_getElem? hp)).2

theorem numbered_ge : ∀ (tk : Nat) (xs : List Str), ∀ p ∈ numbered tk xs, tk ≤ p.2
  | _, [], p, h => nomatch h
  | tk, x :: r, p, h => by
    rcases List.mem_cons.mp h with e | h
    · rw [e]; exact Nat.le_refl _
    · exact Nat.le_of_succ_le (numbered_ge (tk + 1) r p h)
theorem numbered_lt : ∀ (tk : Nat) (xs : List Str), ∀ p ∈ numbered tk xs, p.2 < tk + xs.length
  | _, [], p, h => nomatch h
  | tk, x :: r, p, h => by
    rcases List.mem_cons.mp h with e | h
    · rw [e, List.length_cons]; exact Nat.lt_add_of_pos_right (Nat.succ_pos _)
    · have := numbered_lt (tk + 1) r p h
      rw [List.length_cons, ← Nat.add_assoc, Nat.add_right_comm]; exact this
open Builtin Builtin.Str in
theorem Ca_split {x y : List Nat} (hy : y ≠ []) (hz : x.length ≤ sizeLine) (hz2 : (Txt.split ⟨x.toArray⟩ ⟨y.toArray⟩).length ≤ sizeLine)
    (hz3 : (partsBetween ⟨x.toArray⟩ (occurrences ⟨x.toArray⟩ ⟨y.toArray⟩ 0 x.length (x.length + 1)) y.length).length ≤ sizeLine) :
    Ca B "str.split" [.str x, .str y] (.list ((Txt.split ⟨x.toArray⟩ ⟨y.toArray⟩).map fun s => .str s.cps.toList)) := fun A O s vs Q E hh lo on r hex q => by
  cases r with | cons r t => cases t with | cons r' t => cases t with | nil =>
  obtain ⟨t, rfl, ht, hb⟩ := r.str_inv
  obtain ⟨u, rfl, hu, _⟩ := r'.str_inv
  have lx : (⟨x.toArray⟩ : Str).length = x.length := by simp [Str.length]
  have ly : (⟨y.toArray⟩ : Str).length = y.length := by simp [Str.length]
  have hy' : ((⟨y.toArray⟩ : Str).length == 0) = false := by rw [ly]; simpa using hy
  have fin : ∀ (l : List (Str × Tok)) (tk : Nat), l.map (·.1) = Txt.split ⟨x.toArray⟩ ⟨y.toArray⟩ → (∀ p ∈ l, ¬ O.tk p.2 ∧ p.2 < tk) → s.toks ≤ tk → Q (.ref s.heap.objs.size) { s with heap := s.heap.push { cls := .type "list", data := .seq (strValues l).toArray }, toks := tk } := fun l tk e hl hk => by
    refine q _ _ ⟨_, tk, rfl, hk, fun b o e => Heap.get?_push_of_some _ e⟩ ?_
    rw [← e, List.map_map]
    exact rep_strs hex.fresh (Heap.get?_push_size _ rfl) (by have := congrArg List.length e; rw [List.length_map] at this; rw [this]; exact hz2) hl
  cases h1 : (decide ((⟨x.toArray⟩ : Str).length < (⟨y.toArray⟩ : Str).length) || decide (strKind ⟨x.toArray⟩ < strKind ⟨y.toArray⟩))
  · cases hf : (occurrences ⟨x.toArray⟩ ⟨y.toArray⟩ 0 (⟨x.toArray⟩ : Str).length ((⟨x.toArray⟩ : Str).length + 1)).isEmpty
    · refine call_meets F.slot_str_split (typeIs_str _ _ _) F.entry_str_split (F.args_str_split_2 _ _) (meets_str_split_sep ⟨x.toArray⟩ ⟨y.toArray⟩ t u h1 hy' hf (by rw [lx]; exact hz) (by rw [lx, ly]; exact hz3)) ?_
      show wants Q E _ { s with toks := _, heap := s.heap.push { cls := .type "list", data := .seq (strsFrom s.toks (partsBetween ⟨x.toArray⟩ (occurrences ⟨x.toArray⟩ ⟨y.toArray⟩ 0 (⟨x.toArray⟩ : Str).length ((⟨x.toArray⟩ : Str).length + 1)) (⟨y.toArray⟩ : Str).length)).toArray } }
      rw [strsFrom_eq]
      exact fin (numbered s.toks _) _ ((numbered_texts _ _).trans ((if_neg (ne_true_of_eq_false h1)).trans (if_neg (ne_true_of_eq_false hf))).symm) (fun p hp => ⟨hex.notk (numbered_ge _ _ p hp), numbered_lt _ _ p hp⟩) (by first | exact Nat.le_add_right _ _ | omega)
    · exact call_meets F.slot_str_split (typeIs_str _ _ _) F.entry_str_split (F.args_str_split_2 _ _) (meets_str_split_not_found ⟨x.toArray⟩ ⟨y.toArray⟩ t u h1 hy' hf)
        (fin [(⟨x.toArray⟩, t)] _ ((if_neg (ne_true_of_eq_false h1)).trans (if_pos hf)).symm (fun p hp => by rw [List.mem_singleton.mp hp]; exact ⟨ht, hb⟩) (by first | exact Nat.le_refl _ | omega))
  · exact call_meets F.slot_str_split (typeIs_str _ _ _) F.entry_str_split (F.args_str_split_2 _ _) (meets_str_split_cannot_occur ⟨x.toArray⟩ ⟨y.toArray⟩ t u h1)
      (fin [(⟨x.toArray⟩, t)] _ (if_pos h1).symm (fun p hp => by rw [List.mem_singleton.mp hp]; exact ⟨ht, hb⟩) (by first | exact Nat.le_refl _ | omega))
end
end Mine
end

section
open PySem PySem.W PyProof.Rows PySem.Calls
set_option Elab.async false
set_option linter.unusedVariables false
namespace Mine

/-- ints and strs: what equality tells -/
def eqA : PV → PV → Bool
  | .int a, .int b => a == b
  | .str a, .str b => a == b
  | .strX a, .str b => a == b
  | _, _ => false
def Same2 : PV → PV → Prop
  | .int _, .int _ => True
  | .str _, .str _ => True
  | .strX _, .str _ => True
  | _, _ => False
theorem beq_text (x y : List Nat) : ((⟨x.toArray⟩ : Str) == ⟨y.toArray⟩) = (x == y) := by
  by_cases hxy : x = y
  · subst hxy; simp
  · have : ((⟨x.toArray⟩ : Str) == ⟨y.toArray⟩) = false := by
      rw [beq_eq_false_iff_ne]; intro h; exact hxy (by have := congrArg (fun s : Str => s.cps.toList) h; simpa using this)
    rw [this]; symm; simpa using hxy
open SeqAt in
theorem eqA_at {A : Around} {O : Fb} {s : Shared} {p q : PV} {v u : Value} (h : Same2 p q) (r : Rep O s p v) (r' : Rep O s q u) : EqAt A s v u (eqA p q) := by
  cases r <;> cases r' <;> first | exact h.elim | skip
  · exact EqAt.int_int _ _ _ _
  · exact (show EqAt A s _ _ (_ == _) from by rw [← beq_text]; exact EqAt.str_str _ _ _ _)
  · exact (show EqAt A s _ _ (_ == _) from by rw [← beq_text]; exact EqAt.str_str _ _ _ _)

section
variable {B : Bk}
theorem Co_eq_list {xs ys : List PV} (h : ∀ x ∈ xs, ∀ y ∈ ys, Same2 x y) : Co B .Eq (.list xs) (.list ys) (xs.length == ys.length && (xs.zip ys).all fun p => eqA p.1 p.2) := fun A O s v u Q E hh hu on r₁ r₂ _ k => by
  obtain ⟨a, items, n, rfl, ho, hl, hz, hn, hi⟩ := r₁.list_inv
  obtain ⟨b, items', n', rfl, ho', hl', hz', hn', hi'⟩ := r₂.list_inv
  by_cases hs : items.size = items'.size
  · have hlen : xs.length = ys.length := by omega
    refine SeqAt.eq_listAt (e := fun j => eqA (xs.getD j .none) (ys.getD j .none)) (IsLs.isList hl) (IsLs.isList hl') hs hu (fun j h1 h2 => ?_) ?_
    · have g1 : xs[j]? = some xs[j] := by simp [hn, h1]
      have g2 : ys[j]? = some ys[j] := by simp [hn', h2]
      have e1 : xs.getD j .none = xs[j] := by simp [g1]
      have e2 : ys.getD j .none = ys[j] := by simp [g2]
      rw [e1, e2]
      exact eqA_at (h _ (List.getElem_mem _) _ (List.getElem_mem _)) (hi j _ _ g1 (by simp [h1])) (hi' j _ _ g2 (by simp [h2]))
    · have e : ((List.range items.size).all fun j => eqA (xs.getD j .none) (ys.getD j .none)) = (xs.length == ys.length && (xs.zip ys).all fun p => eqA p.1 p.2) := by
        rw [show (xs.length == ys.length) = true by simpa using hlen, Bool.true_and, ← hn]
        rw [Bool.eq_iff_iff, List.all_eq_true, List.all_eq_true]
        constructor
        · rintro H ⟨x, y⟩ hp
          obtain ⟨j, hj, e⟩ := List.getElem_of_mem hp
          simp only [List.length_zip] at hj
          rw [List.getElem_zip] at e
          cases e
          have := H j (List.mem_range.mpr (by omega))
          simpa [show j < xs.length by omega, show j < ys.length by omega] using this
        · intro H j hj
          have hj := List.mem_range.mp hj
          have := H (xs[j], ys[j]) (List.mem_iff_getElem.mpr ⟨j, by simp; omega, by simp⟩)
          simpa [hj, show j < ys.length by omega] using this
      rw [e]
      exact k _ (Kp.refl' s)
  · have e : (xs.length == ys.length && (xs.zip ys).all fun p => eqA p.1 p.2) = false := by
      rw [show (xs.length == ys.length) = false by simp; omega]; rfl
    rw [e] at k
    exact SeqAt.eq_list_lengthsAt (IsLs.isList hl) (IsLs.isList hl') (by simpa using hs) hu (k _ (Kp.refl' s))
theorem Co_ne_list {xs ys : List PV} (h : ∀ x ∈ xs, ∀ y ∈ ys, Same2 x y) : Co B .NotEq (.list xs) (.list ys) (!(xs.length == ys.length && (xs.zip ys).all fun p => eqA p.1 p.2)) := fun A O s v u Q E hh hu on r₁ r₂ _ k => by
  obtain ⟨a, items, n, rfl, ho, hl, hz, hn, hi⟩ := r₁.list_inv
  obtain ⟨b, items', n', rfl, ho', hl', hz', hn', hi'⟩ := r₂.list_inv
  by_cases hs : items.size = items'.size
  · have hlen : xs.length = ys.length := by omega
    refine SeqAt.RcNeAt.lists (e := fun j => eqA (xs.getD j .none) (ys.getD j .none)) (IsLs.isList hl) (IsLs.isList hl') hs hu (fun j h1 h2 => ?_) B.prog B.w E Q ?_
    · have g1 : xs[j]? = some xs[j] := by simp [hn, h1]
      have g2 : ys[j]? = some ys[j] := by simp [hn', h2]
      have e1 : xs.getD j .none = xs[j] := by simp [g1]
      have e2 : ys.getD j .none = ys[j] := by simp [g2]
      rw [e1, e2]
      exact eqA_at (h _ (List.getElem_mem _) _ (List.getElem_mem _)) (hi j _ _ g1 (by simp [h1])) (hi' j _ _ g2 (by simp [h2]))
    · have e : ((List.range items.size).all fun j => eqA (xs.getD j .none) (ys.getD j .none)) = (xs.length == ys.length && (xs.zip ys).all fun p => eqA p.1 p.2) := by
        rw [show (xs.length == ys.length) = true by simpa using hlen, Bool.true_and, ← hn]
        rw [Bool.eq_iff_iff, List.all_eq_true, List.all_eq_true]
        constructor
        · rintro H ⟨x, y⟩ hp
          obtain ⟨j, hj, e⟩ := List.getElem_of_mem hp
          simp only [List.length_zip] at hj
          rw [List.getElem_zip] at e
          cases e
          have := H j (List.mem_range.mpr (by omega))
          simpa [show j < xs.length by omega, show j < ys.length by omega] using this
        · intro H j hj
          have hj := List.mem_range.mp hj
          have := H (xs[j], ys[j]) (List.mem_iff_getElem.mpr ⟨j, by simp; omega, by simp⟩)
          simpa [hj, show j < ys.length by omega] using this
      rw [e]
      exact k _ (Kp.refl' s)
  · have e : (xs.length == ys.length && (xs.zip ys).all fun p => eqA p.1 p.2) = false := by
      rw [show (xs.length == ys.length) = false by simp; omega]; rfl
    rw [e] at k
    exact SeqAt.RcNeAt.lists_lengths (IsLs.isList hl) (IsLs.isList hl') (by simpa using hs) hu B.prog B.w E Q (k _ (Kp.refl' s))
theorem beq_ints {ns ms : List Int} : (ns == ms) = ((ns.map PV.int).length == (ms.map PV.int).length && ((ns.map PV.int).zip (ms.map PV.int)).all fun p => eqA p.1 p.2) := by
  induction ns generalizing ms with
  | nil => cases ms <;> rfl
  | cons a ns ih =>
    cases ms with
    | nil => rfl
    | cons b ms =>
      have := ih (ms := ms)
      simp only [List.map_cons, List.length_cons, List.zip_cons_cons, List.all_cons] at this ⊢
      rw [List.cons_beq_cons, this]
      show (a == b && _) = (_ && ((a == b) && _))
      cases a == b <;> simp
theorem beq_strs {ns ms : List (List Nat)} : (ns == ms) = ((ns.map PV.str).length == (ms.map PV.str).length && ((ns.map PV.str).zip (ms.map PV.str)).all fun p => eqA p.1 p.2) := by
  induction ns generalizing ms with
  | nil => cases ms <;> rfl
  | cons a ns ih =>
    cases ms with
    | nil => rfl
    | cons b ms =>
      have := ih (ms := ms)
      simp only [List.map_cons, List.length_cons, List.zip_cons_cons, List.all_cons] at this ⊢
      rw [List.cons_beq_cons, this]
      show (a == b && _) = (_ && ((a == b) && _))
      cases a == b <;> simp
theorem same_ints {ns ms : List Int} : ∀ x ∈ ns.map PV.int, ∀ y ∈ ms.map PV.int, Same2 x y := fun x hx y hy => by
  obtain ⟨a, _, rfl⟩ := List.mem_map.mp hx; obtain ⟨b, _, rfl⟩ := List.mem_map.mp hy; trivial
theorem same_strs {ns ms : List (List Nat)} : ∀ x ∈ ns.map PV.str, ∀ y ∈ ms.map PV.str, Same2 x y := fun x hx y hy => by
  obtain ⟨a, _, rfl⟩ := List.mem_map.mp hx; obtain ⟨b, _, rfl⟩ := List.mem_map.mp hy; trivial
theorem Co_eq_ints {ns ms : List Int} : Co B .Eq (.list (ns.map PV.int)) (.list (ms.map PV.int)) (ns == ms) := by rw [beq_ints]; exact Co_eq_list same_ints
theorem Co_ne_ints {ns ms : List Int} : Co B .NotEq (.list (ns.map PV.int)) (.list (ms.map PV.int)) (!(ns == ms)) := by rw [beq_ints]; exact Co_ne_list same_ints
theorem Co_eq_strs {ns ms : List (List Nat)} : Co B .Eq (.list (ns.map PV.str)) (.list (ms.map PV.str)) (ns == ms) := by rw [beq_strs]; exact Co_eq_list same_strs
theorem Co_ne_strs {ns ms : List (List Nat)} : Co B .NotEq (.list (ns.map PV.str)) (.list (ms.map PV.str)) (!(ns == ms)) := by rw [beq_strs]; exact Co_ne_list same_strs
/-- an int in a list of ints -/
theorem Co_in_ints {i : Int} {ns : List Int} : Co B .In (.int i) (.list (ns.map PV.int)) (ns.any (· == i)) := fun A O s v u Q E hh hu on r₁ r₂ _ k => by
  cases r₁
  obtain ⟨a, items, n, rfl, ho, hl, hz, hi⟩ := rep_ints r₂
  exact in_list_ints (vs := items.toList) (by rw [Array.toArray_toList]; exact IsLs.isList hl) hi (k _ (Kp.refl' s))
/-- is not, of bools -/
theorem Co_isnot_bool {a b : Bool} : Co B .IsNot (.bool a) (.bool b) (a != b) := fun A O s v u Q E hh hu on r₁ r₂ _ k => by
  cases r₁; cases r₂
  refine wpAny_isNot_plain rfl ?_
  have e : (!((Value.bool a) == (Value.bool b))) = (a != b) := by cases a <;> cases b <;> rfl
  rw [e]; exact k _ (Kp.refl' s)
theorem Co_is_bool {a b : Bool} : Co B .Is (.bool a) (.bool b) (a == b) := fun A O s v u Q E hh hu on r₁ r₂ _ k => by
  cases r₁; cases r₂
  refine wpAny_is_plain rfl ?_
  have e : ((Value.bool a) == (Value.bool b)) = (a == b) := by cases a <;> cases b <;> rfl
  rw [e]; exact k _ (Kp.refl' s)
/-- is not None -/
theorem Co_isnot_none_str {x : List Nat} : Co B .IsNot (.str x) .none true := fun A O s v u Q E hh hu on r₁ r₂ _ k => by
  cases r₁; cases r₂
  exact wpAny_isNot_other rfl (fun h => by cases h) (k _ (Kp.refl' s))
theorem Co_isnot_none : Co B .IsNot .none .none false := fun A O s v u Q E hh hu on r₁ r₂ _ k => by
  cases r₁; cases r₂
  exact wpAny_isNot_self rfl (k _ (Kp.refl' s))
/-- lists put together -/
theorem Bi_add_list {xs ys : List PV} (hz : xs.length + ys.length ≤ sizeLine) : Bi B .Add (.list xs) (.list ys) (.list (xs ++ ys)) := fun A O s v u Q E r₁ r₂ hex k => by
  obtain ⟨a, items, n, rfl, ho, hl, hz1, hn, hi⟩ := r₁.list_inv
  obtain ⟨b, items', n', rfl, ho', hl', hz2, hn', hi'⟩ := r₂.list_inv
  refine P.add_list hl hl' (k _ _ (Kp.push ..) (.list (n := 0) hex.fresh (Heap.get?_push_size _ rfl) (by rw [Array.size_append]; omega) (by simp [hn, hn']) fun i x v e e' => ?_)) (by omega)
  by_cases hlt : i < xs.length
  · rw [List.getElem?_append_left hlt] at e
    rw [Array.getElem?_append_left (by omega)] at e'
    exact (hi i x v e e').keep (Kp.push ..)
  · rw [List.getElem?_append_right (by omega)] at e
    rw [Array.getElem?_append_right (by omega)] at e'
    rw [hn] at e
    exact (hi' _ x v e e').keep (Kp.push ..)
end
end Mine
end

section
open PySem PySem.W PyProof.Rows PySem.Calls
set_option Elab.async false
set_option linter.unusedVariables false
namespace Mine
theorem post_vm {s : Shared} {c : Prop} [Decidable c] {y z : Str} {t : Tok} {Q : Value → Shared → Prop} (hz : ¬ c → z.length ≤ sizeLine)
    (h : ∀ t' k, (t' = t ∨ (t' = s.toks ∧ t' < k)) → s.toks ≤ k → Q (.str (if c then y else z) t') { s with toks := k }) : (if c then Made.val (.str y t) else Made.str z).post Q s := by
  by_cases hc : c
  · rw [if_pos hc]; have h' := h t s.toks (.inl rfl) (Nat.le_refl _); rw [if_pos hc] at h'; exact h'
  · rw [if_neg hc]; have h' := h s.toks (s.toks + 1) (.inr ⟨rfl, Nat.lt_succ_self _⟩) (Nat.le_succ _); rw [if_neg hc] at h'; exact ⟨hz hc, h'⟩
theorem mul_str {prog : Program} {w : World} {A : Around} {E : Value → Shared → Prop} {s : Shared} {x : Str} {t u : Tok} {Q : Value → Shared → Prop} {n : Int} (hok : MulOk x n)
    (h : ∀ t' k, (t' = t ∨ (t' = s.toks ∧ t' < k)) → s.toks ≤ k → Q (.str (Txt.mul x n) t') { s with toks := k }) : wpAny (model prog w) A (binaryOp .Mult (.str x t) (.int n u)) Q E s := by
  refine P.mul_str hok.1 hok.2.1 hok.2.2 ?_
  unfold Txt.mul at h
  by_cases h1 : n < 1
  · rw [if_pos h1]; have h' := h s.toks (s.toks + 1) (.inr ⟨rfl, Nat.lt_succ_self _⟩) (Nat.le_succ _); rw [if_pos h1] at h'; exact ⟨by decide, h'⟩
  · rw [if_neg h1]; refine post_vm (fun hc => fits_reps (hok.2.2 h1 (by simpa using hc))) fun t' k a b => ?_
    have h' := h t' k a b; rw [if_neg h1] at h'; exact h'
section
variable {B : Bk}
theorem Bi_mul_str {x : List Nat} {n : Int} (hok : MulOk ⟨x.toArray⟩ n) : Bi B .Mult (.str x) (.int n) (.str (Txt.mul ⟨x.toArray⟩ n).cps.toList) := fun A O s v u Q E r₁ r₂ hex k => by
  obtain ⟨_, rfl, ht, hb⟩ := r₁.str_inv
  cases r₂
  refine mul_str hok fun t' kk ht' hk => (fun hh : ¬ O.tk t' ∧ t' < kk => k _ _ (Kp.tok _ _ hk) (rep_str hh.1 hh.2)) ?_
  rcases ht' with rfl | ⟨rfl, hlt⟩
  · exact ⟨ht, Nat.lt_of_lt_of_le hb hk⟩
  · exact ⟨hex.notk (Nat.le_refl _), hlt⟩
theorem foldl_app (items : Array Value) : ∀ (k : Nat) (acc : Array Value), (List.foldl (fun x1 x2 => x1 ++ x2) acc (List.replicate k items)).toList = acc.toList ++ (List.replicate k items.toList).flatten
  | 0, acc => by simp
  | k + 1, acc => by
    rw [List.replicate_succ, List.foldl_cons, foldl_app items k, List.replicate_succ, List.flatten_cons]
    simp
theorem rep_flat {α β : Type} {xs : List α} {its : List β} (hl : xs.length = its.length) : ∀ (k i : Nat) (x : α) (v : β), (List.replicate k xs).flatten[i]? = some x → (List.replicate k its).flatten[i]? = some v → ∃ j : Nat, xs[j]? = some x ∧ its[j]? = some v
  | 0, i, x, v, e, _ => by simp at e
  | k + 1, i, x, v, e, e' => by
    rw [List.replicate_succ, List.flatten_cons] at e e'
    by_cases h : i < xs.length
    · rw [List.getElem?_append_left h] at e
      rw [List.getElem?_append_left (by omega)] at e'
      exact ⟨i, e, e'⟩
    · rw [List.getElem?_append_right (by omega)] at e
      rw [List.getElem?_append_right (by omega)] at e'
      rw [← hl] at e'
      exact rep_flat hl k _ x v e e'
theorem mul_items (items : Array Value) (k : Nat) : (List.foldl (fun x1 x2 => x1 ++ x2) #[] (List.replicate (if items.isEmpty = true then 0 else k) items)).toList = (List.replicate k items.toList).flatten := by
  rw [foldl_app]
  by_cases h : items.isEmpty = true
  · rw [if_pos h]
    have : items = #[] := by simpa using h
    subst this
    simp
  · rw [if_neg h]; simp
theorem Bi_mul_list {xs : List PV} {n : Int} (h0 : 0 ≤ n) (hn : n < 2 ^ 62) (hsz : xs.length * n.toNat ≤ 2 ^ 20) : Bi B .Mult (.list xs) (.int n) (.list (List.replicate n.toNat xs).flatten) := fun A O s v u Q E r₁ r₂ hex k => by
  obtain ⟨a, items, m, rfl, ho, hl, hz1, hlen, hi⟩ := r₁.list_inv
  cases r₂
  rename_i t
  have hsz' : items.size * n.toNat ≤ 2 ^ 20 := by rw [← hlen]; exact hsz
  refine wpAny_binaryOp_repeat_ref (T := "list") (U := "int") (by decide) ⟨_, hl, rfl⟩ (fun s' => typeIs_int s' n t) noFill_list_mul F.fills_int_mul F.slot_int_rmul repeat_list F.slot_int_index.lookup
    (call_meets F.slot_int_rmul (typeIs_int s n t) F.entry_int_rmul (F.args_int_rmul_2 _ _) (int___rmul___int_list n t a items m)
      ⟨hl, rfl, ⟨_, hl, rfl⟩, call_meets F.slot_list_mul ⟨_, hl, rfl⟩ F.entry_list_mul (F.args_list_mul_2 _ _)
        (AutoListH.list___mul___list_int_3 a items m n t (by simp [Builtin.List.listFitsIndex]; omega) (by omega) (by
          simp [Builtin.List.listTooLong, sizeLine]; omega))
        ⟨hl, ?_⟩⟩)
  refine k _ _ (Kp.push ..) (.list (n := 0) hex.fresh (Heap.get?_push_size _ rfl) ?_ ?_ fun i x v e e' => ?_)
  · rw [← Array.length_toList, mul_items]
    simp only [List.length_flatten, List.map_replicate, List.sum_replicate_nat, Array.length_toList]
    have : n.toNat * items.size ≤ 2 ^ 20 := by rw [Nat.mul_comm]; exact hsz'
    exact Nat.le_trans this (by decide)
  · rw [← Array.length_toList, mul_items]
    simp [hlen]
  · rw [← Array.getElem?_toList, mul_items] at e'
    obtain ⟨j, g1, g2⟩ := rep_flat (by simpa using hlen) _ i x v e e'
    exact (hi j x v g1 (by simpa using g2)).keep (Kp.push ..)
end
end Mine
end

section
open PySem PySem.W PyProof.Rows PySem.Calls
set_option Elab.async false
set_option linter.unusedVariables false
namespace Mine
section
variable {B : Bk}
/-- an int in a set of the top -/
theorem Co_in_set {a : Addr} {S : Int → Bool} {n : Nat} {k : Int} (hS : B.top.SetOf (intKind B.prog B.w) a S n) : Co B .In (.int k) (.raw (.ref a)) (S k) := fun A O s v u Q E hh hu on r₁ r₂ _ q => by
  cases r₁; cases r₂
  rename_i t
  have hS' : s.heap.SetOf (intKind B.prog B.w) a S n := by
    obtain ⟨o, es, ep, tb, ho, r⟩ := hS
    exact ⟨o, es, ep, tb, on.1 a o ho, r⟩
  exact wpAny_inSet_of (knd := intKind B.prog B.w) (by simp [intKind, Value.isInt]) rfl hS' (q _ (Kp.tok ..))
/-- get, of a dict of the top that holds strs under ints -/
theorem Ca_get1 {a : Addr} {f : Int → Option Value} {k : Int} {r : PV} (hd : (a == sysModules) = false) (hm : B.top.MapOf (intKind B.prog B.w) a f) (hr : ∀ O h, Lo B O → B.t₀ ≤ h.toks → Rep O h r ((f k).getD .none)) : Ca B "dict.get" [.raw (.ref a), .int k] r := fun A O s vs Q E hh lo on r' hex q => by
  cases r' with | cons r1 t => cases t with | cons r2 t => cases t with | nil =>
  cases r1; cases r2
  rename_i t
  have hm' : s.heap.MapOf (intKind B.prog B.w) a f := by
    obtain ⟨o, es, ep, ho, r⟩ := hm
    exact ⟨o, es, ep, on.1 a o ho, r⟩
  have hq : Q ((f k).getD .none) { s with toks := s.toks + 1 } := q _ _ (Kp.tok ..) (hr _ _ lo (Nat.le_succ_of_le on.2))
  exact call_meetsIn F.slot_dict_get hm'.typeIs F.entry_dict_get (F.args_dict_get_2 _ _) (meets_dict_get (intKind B.prog B.w) a (k := k) (by simp [intKind, Value.isInt]) hd) ⟨f, hm', hq⟩
theorem Ca_get2 {a : Addr} {f : Int → Option Value} {k : Int} {x : List Nat} {r : PV} (hd : (a == sysModules) = false) (hm : B.top.MapOf (intKind B.prog B.w) a f) (hr : ∀ O h t, Lo B O → B.t₀ ≤ h.toks → ¬ O.tk t → t < h.toks → Rep O h r ((f k).getD (.str ⟨x.toArray⟩ t))) : Ca B "dict.get" [.raw (.ref a), .int k, .str x] r := fun A O s vs Q E hh lo on r' hex q => by
  cases r' with | cons r1 t => cases t with | cons r2 t => cases t with | cons r3 t => cases t with | nil =>
  cases r1; cases r2
  obtain ⟨u, rfl, hu, hb⟩ := r3.str_inv
  rename_i t
  have hm' : s.heap.MapOf (intKind B.prog B.w) a f := by
    obtain ⟨o, es, ep, ho, r⟩ := hm
    exact ⟨o, es, ep, on.1 a o ho, r⟩
  have hq : Q ((f k).getD (.str ⟨x.toArray⟩ u)) { s with toks := s.toks + 1 } := q _ _ (Kp.tok ..) (hr _ _ _ lo (Nat.le_succ_of_le on.2) hu (Nat.lt_succ_of_lt hb))
  exact call_meetsIn F.slot_dict_get hm'.typeIs F.entry_dict_get (F.args_dict_get_3 _ _ _) (meets_dict_get_default (intKind B.prog B.w) a (k := k) (by simp [intKind, Value.isInt]) hd _) ⟨f, hm', hq⟩
theorem Ty_dict {a : Addr} {f : Int → Option Value} (hm : B.top.MapOf (intKind B.prog B.w) a f) : Ty B (.raw (.ref a)) "dict" := fun O s v on r => by
  cases r
  obtain ⟨o, es, ep, ho, hc, r⟩ := hm
  exact ⟨⟨o, on.1 a o ho, hc.1⟩, fun b e => by cases e; exact ⟨o, on.1 a o ho, hc.2.1⟩⟩
end
end Mine
end

section
open PySem PySem.W PyProof.Rows PySem.Calls
set_option Elab.async false
set_option linter.unusedVariables false
set_option maxRecDepth 100000
namespace Mine
theorem lk_getitem : typeLookup (.type "str") "__getitem__" = pure (some (.builtin "str.__getitem__")) := by rw [typeLookup_type, builtinLookup_eq_fast]; kernel_rfl
theorem ty_getitem : typeOf (.builtin "str.__getitem__") = pure (.type "wrapper_descriptor") := by kernel_rfl
theorem slot_wd_get : Slot "wrapper_descriptor" "__get__" "wrapper_descriptor.__get__" :=
  .of (owner := "wrapper_descriptor") (n := "__get__") (by rw [typeLookup_type, builtinLookup_eq_fast]; kernel_rfl) (by decide +kernel) (by decide +kernel) (by decide +kernel)
    (by first | exact .inl (by decide +kernel) | exact .inr (by decide +kernel)) (by rw [isSubtype_type]; kernel_rfl)
theorem wd_no_set : typeLookup (.type "wrapper_descriptor") "__set__" = pure none := by rw [typeLookup_type, builtinLookup_eq_fast]; kernel_rfl
theorem wd_no_del : typeLookup (.type "wrapper_descriptor") "__delete__" = pure none := by rw [typeLookup_type, builtinLookup_eq_fast]; kernel_rfl
theorem entry_wd_get : entryFor table "wrapper_descriptor.__get__" = some Builtin.«wrapper_descriptor.__get__» := entryFor_of_tree (by kernel_rfl)
theorem args_wd_get (a b c : Value) : argsOk "wrapper_descriptor.__get__" ⟨[a, b, c], []⟩ := by unfold argsOk; kernel_rfl
theorem entry_hasattr : entryFor table "hasattr" = some Builtin.«hasattr» := entryFor_of_tree (by kernel_rfl)
section
variable {prog : Program} {w : World} {A : Around} {E : Value → Shared → Prop} {s : Shared} {x : Str} {u : Tok}
theorem owner_getitem : (".".intercalate ("str.__getitem__".cutAt '.').dropLast) = "str" := by
  have e0 : "str.__getitem__".cutAt '.' = ["str", "__getitem__"] := by first | rfl | decide +kernel
  rw [e0]; decide +kernel
theorem sub_str_str : isSubtype (.type "str") (.type "str") = pure true := by rw [isSubtype_type]; kernel_rfl
theorem wd_get_str {R : Result → Shared → Prop} (hq : ∀ a s', Kp s s' → R (.ok (.ret (.ref a))) s') :
    codeAny (model prog w) A (.call (.builtin "wrapper_descriptor.__get__") ⟨[.builtin "str.__getitem__", .str x u, .type "str"], []⟩) R s := by
  have hT : s.TypeIs (.str x u) "str" := typeIs_str s x u
  have hT5 : s.TypeIs (.builtin "str.__getitem__") "wrapper_descriptor" := ty_getitem
  have f8 : isSubtype (.type "str") (.type (".".intercalate ("str.__getitem__".cutAt '.').dropLast)) = pure true := by rw [owner_getitem]; exact sub_str_str
  refine codeAny_call_builtin slot_wd_get.plain entry_wd_get (slot_wd_get.check _ _ _ _ _ _ _ _ hT5 (args_wd_get _ _ _) ?_)
  repeat (any_goals (first | assumption | wp_step))
  exact hq _ _ (Kp.push _ _)

theorem getitem_entry {tk : Tok} {Q : Fin → Shared → Prop} (hq : ∀ a s', Kp s s' → Q (.done (.ret (.ref a))) s') :
    wpAny (model prog w) A (Builtin.«object.__getattribute__» ⟨[.str x u, .str "__getitem__" tk], []⟩) Q E s := by
  have hT : s.TypeIs (.str x u) "str" := typeIs_str s x u
  have hT5 : s.TypeIs (.builtin "str.__getitem__") "wrapper_descriptor" := ty_getitem
  have f4 := lk_getitem
  have f5 := ty_getitem
  have f6 := slot_wd_get.lookup
  have f7 := wd_no_set
  have f8 := wd_no_del
  repeat (any_goals (first | assumption | wp_step))
  exact wd_get_str fun a s' k => wpAny_pure (hq a s' k)
theorem getitem_call {tk : Tok} {R : Result → Shared → Prop} (hq : ∀ a s', Kp s s' → R (.ok (.ret (.ref a))) s') :
    codeAny (model prog w) A (.call (.builtin "object.__getattribute__") ⟨[.str x u, .str "__getitem__" tk], []⟩) R s :=
  codeAny_call_builtin F.slot_str_getattribute.plain F.entry_object_getattribute (F.slot_str_getattribute.check _ _ _ _ _ _ _ _ (typeIs_str s x u) (F.args_object_getattribute_2 _ _) (getitem_entry hq))
theorem getitem_by {tk : Tok} {Q : Value → Shared → Prop} (hq : ∀ a s', Kp s s' → Q (.ref a) s') : wpAny (model prog w) A (getAttrBy (.str x u) (.str "__getitem__" tk) false) Q E s := by
  have hT : s.TypeIs (.str x u) "str" := typeIs_str s x u
  have f2 := F.slot_str_getattribute.lookup
  have f3 := F.slot_str_getattribute.bind (.str x u)
  repeat (any_goals (first | assumption | wp_step))
  exact getitem_call fun a s' k => wpAny_pure (hq a s' k)
theorem getAttrBy_found {tk : Tok} {Q : Option Value → Shared → Prop} (hq : ∀ a s', Kp s s' → Q (some (.ref a)) s') : wpAny (model prog w) A (getAttrBy? (.str x u) (.str "__getitem__" tk)) Q E s := by
  unfold getAttrBy?
  repeat (any_goals (first | assumption | with_reducible apply getitem_by | wp_step))
  exact fun a s' k => wpAny_pure (hq a s' k)
theorem hasattr_meets {x : Str} {u tk : Tok} : Meets (Builtin.«hasattr» ⟨[.str x u, .str "__getitem__" tk], []⟩) (fun A R s => ∀ s', Kp s s' → R (.ok (.ret (.bool true))) s') := by
  intro prog w A R s hq
  have hT : s.TypeIs (.str x u) "str" := typeIs_str s x u
  have f2 := F.slot_str_getattribute.lookup
  have f4 := lk_getitem
  have f5 : (withoutEnding? "str.__getitem__" "#data").isSome = false := by decide +kernel
  unfold Builtin.«hasattr»
  refine wpAny_bind (wpAny_pure ?_)
  refine wpAny_bind (wpAny_pure ?_)
  rw [if_neg (show ¬ ((Value.str x u == Value.builtin "__main__.__loader__#opaque") = true) from fun h => nomatch (h : false = true))]
  refine wpAny_bind (wpAny_typeOf hT ?_)
  refine wpAny_bind (wpAny_pure ?_)
  show wpAny _ _ (typeLookup (.type "str") "__getitem__" >>= _) _ _ _
  rw [f4]
  refine wpAny_bind (wpAny_pure ?_)
  show wpAny _ _ (typeLookup (.type "str") "__getattribute__" >>= _) _ _ _
  rw [f2]
  refine wpAny_bind (wpAny_pure ?_)
  rw [f5, Bool.false_and, if_neg (by decide)]
  refine wpAny_bind (wpAny_pure ?_)
  rw [if_neg (by decide)]
  refine wpAny_bind (getAttrBy_found fun a s' k => ?_)
  exact wpAny_pure (hq s' k)
end
section
variable {B : Bk}
theorem kind_hasattr : builtinKind "hasattr" = none := by decide +kernel
theorem plain_hasattr : plainId "hasattr" = true := by decide +kernel
theorem args_hasattr (a b : Value) : argsOk "hasattr" ⟨[a, b], []⟩ := by unfold argsOk; kernel_rfl
theorem Ca_hasattr {x : List Nat} : Ca B "hasattr" [.str x, .str (Str.ofString "__getitem__").cps.toList] (.bool true) := fun A O s vs Q E hh lo on r hex q => by
  cases r with | cons r t => cases t with | cons r' t => cases t with | nil =>
  obtain ⟨t, rfl, _⟩ := r.str_inv
  obtain ⟨u, rfl, _⟩ := r'.str_inv
  have e : (⟨(Str.ofString "__getitem__").cps.toList.toArray⟩ : Str) = Str.ofString "__getitem__" := by rw [Array.toArray_toList]
  rw [e]
  exact call_function_meets kind_hasattr plain_hasattr entry_hasattr (args_hasattr _ _) hasattr_meets fun s' k => q _ s' k .bool

end
end Mine
end

section
open PySem PySem.W PyProof.Rows PySem.Calls
set_option Elab.async false
set_option linter.unusedVariables false
namespace Mine
theorem isSame_apart {M : Model} {A : Around} {E : Value → Shared → Prop} {s : Shared} {y z : Str} {u v : Tok} {Q : Bool → Shared → Prop}
    (h0 : (u == 0 || v == 0) = false) (huv : (u == v) = false) (hb : NoneBooked s.heap) (hq : ∀ b, (b = true → y = z) → Q b s) : wpAny M A (isSame (.str y u) (.str z v)) Q E s := by
  show wpAny M A (isSame.created (y == z) u v) Q E s
  unfold isSame.created
  refine wpAny_ite ?_
  split
  · rename_i h; rw [h0] at h; exact absurd h Bool.false_ne_true
  refine wpAny_ite ?_
  split
  · rename_i h; rw [huv] at h; exact absurd h Bool.false_ne_true
  refine wpAny_ite ?_
  split
  · exact wpAny_pure (hq _ fun e => nomatch e)
  rename_i hne
  have hyz : y = z := by simpa using hne
  refine wpAny_bind (wpAny_sharingNotTold_none hb ?_)
  first | rw [if_neg Bool.false_ne_true] | simp only [Bool.false_eq_true, if_false]
  refine wpAny_bind (wpAny_sharingNotTold_none hb ?_)
  first | rw [if_neg Bool.false_ne_true] | simp only [Bool.false_eq_true, if_false]
  exact wpAny_bind (wpAny_rule (wpAny_bind (wpAny_askSetting (wpAny_pure (hq _ fun _ => hyz)))))

section
variable {B : Bk} {C : Cx} {σ : Vars} {ow : Own}
theorem Co_eq_strX {x y : List Nat} : Co B .Eq (.strX x) (.str y) (x == y) := fun A O s v u Q E _ _ _ r₁ r₂ _ k => by cases r₁; cases r₂; exact P.eq_str (by simpa using k _ (Kp.refl' _))
/-- `l is r or l == r` -/
theorem Tr_is_or (hC : C.Ok B) (hnb : NoneBooked B.top) {l r l' r' : Expr} {p1 p2 pos : Pos} {x y : List Nat} (h1 : Ev B C σ ow l (.strX x)) (h2 : Ev B C σ ow r (.str y)) (h3 : Ev B C σ ow l' (.strX x)) (h4 : Ev B C σ ow r' (.str y))
    (hm1 : behindInMarks .Is r = false := by with_unfolding_all rfl) (hm2 : behindInMarks .Eq r' = false := by with_unfolding_all rfl) :
    Tr B C σ ow (.BoolOp .Or [.Compare l [.Is] [r] p1, .Compare l' [.Eq] [r'] p2] pos) (x == y) := fun s Q E f k =>
  isTrue_or (wpAny_isTrue_Compare1 (h1 s _ E f fun v s₁ k₁ r₁ => h2 s₁ _ E (f.keep k₁) fun u s₂ k₂ r₂ => by
    have r₁' := r₁.keep k₂
    have f₂ := f.keep (Kp.trans' k₁ k₂)
    cases r₁' with | @strX _ t ht h0 _ =>
    obtain ⟨t', rfl, ht', _⟩ := r₂.str_inv
    have h0' : t' ≠ 0 := fun e => ht' (e ▸ C.O.z)
    have hne : t ≠ t' := fun e => ht' (e ▸ ht)
    have hb : NoneBooked s₂.heap := let ⟨mc, a, b⟩ := hnb; ⟨mc, a.keeps (Fok.on hC f₂).1, b⟩
    show wpAny _ C.A (do return Value.bool (← isSame (.str ⟨x.toArray⟩ t) (.str ⟨y.toArray⟩ t'))) _ _ s₂
    refine wpAny_bind (isSame_apart (by simp [h0, h0']) (by simpa using hne) hb fun b hb => wpAny_pure ?_)
    refine wpAny_truthy_bool ?_
    cases b with
    | true =>
      have e : x = y := by have := hb rfl; simpa using congrArg (fun s : Str => s.cps.toList) this
      have := k s₂ (Kp.trans' k₁ k₂)
      simpa [e] using this
    | false =>
      have h := Tr_or (b := (x == y)) (b' := false) (pos := pos) (rest := []) (Tr_compare (pos := p2) hC h3 h4 Co_eq_strX hm2) fun _ => Tr_or_nil
      rw [Bool.or_false] at h
      exact h s₂ Q E f₂ fun s₃ k₃ => k s₃ (Kp.trans' (Kp.trans' k₁ k₂) k₃)) hm1)
end
end Mine
end

section
open PySem PySem.W PyProof.Rows PySem.Calls
set_option Elab.async false
set_option linter.unusedVariables false
namespace Mine
/-- no str lies in it -/
inductive NoStr : PV → Prop
  | none : NoStr .none
  | bool {b} : NoStr (.bool b)
  | int {i} : NoStr (.int i)
  | raw {v} : NoStr (.raw v)
  | list {xs} (h : ∀ x ∈ xs, NoStr x) : NoStr (.list xs)
theorem NoStr.ints (ns : List Int) : NoStr (.list (ns.map PV.int)) := .list fun x hx => by obtain ⟨i, _, rfl⟩ := List.mem_map.mp hx; exact .int
theorem Rep.noStr {O O' : Fb} {s : Shared} (ha : ∀ a, a ∈ O'.ad → a ∈ O.ad) {pv : PV} {v : Value} (r : Rep O s pv v) (n : NoStr pv) : Rep O' s pv v := by
  induction r with
  | none => exact .none
  | bool => exact .bool
  | int => exact .int
  | raw => exact .raw
  | str => cases n
  | strX => cases n
  | list ho hl hz hn _ ih =>
    cases n with | list h =>
    exact .list (fun q => ho (ha _ q)) hl hz hn fun i x v e e' => ih i x v e e' (h x (List.mem_of_getElem? e))
  | tup => cases n

section
variable {B : Bk} {C : Cx} {σ : Vars}
/-- a list of strs whose tokens are told apart from then on -/
theorem Ss_names (hC : C.Ok B) (hO : C.Owns) (hcel : C.Cel) (hlo : B.lo ≤ B.t₀) (hO₀ : C.O.ad = []) {n : Str} {p pos : Pos} {e : Expr} {rest : List Stmt} {xs : List (List Nat)} {P : Out → Prop} (hk : Bound C n) (hσ : ∀ m pv, σ m = some pv → NoStr pv)
    (he : ∀ C' : Cx, C'.env = C.env → C'.A = C.A → C'.Ok { B with lo := 0 } → C'.Owns → C'.Cel → Ev { B with lo := 0 } C' σ none e (.list (xs.map .str)))
    (hrest : ∀ C' : Cx, C'.env = C.env → C'.A = C.A → C'.Ok B → C'.Owns → C'.Cel → Ss B C' (upd σ n (.list (xs.map .strX))) none rest P)
    (hP : ∀ o, P o → ∃ b, o = .ret (.bool b)) (hs : swapsWith e (some (.Name n p)) pos.line C.env = pure false) : Ss B C σ none (.Assign [.Name n p] e pos :: rest) P := fun s Q E f q => by
  let C₁ : Cx := { C with O := ⟨[], fun t => t < s.toks, f.tk 0 C.O.z⟩ }
  have hC₁ : C₁.Ok { B with lo := 0 } := ⟨⟨hC.top.g, hC.top.b, hC.top.lim⟩, hC.kind, hC.g, hC.b, hC.hh, hC.un, hC.on, fun t _ => .inr (Nat.zero_le _)⟩
  have f₁ : Fok C₁ σ none s := ⟨f.keeps, fun m pv e => let ⟨v, r, l⟩ := f.look m pv e; ⟨v, r.noStr (fun a h => (List.not_mem_nil h).elim) (hσ m pv e), l⟩, f.ns, f.cells, (fun _ _ e => nomatch e), (fun _ h => (List.not_mem_nil h).elim), fun t h => h⟩
  refine wpAny_execs_cons (wpAny_Assign_Name (he C₁ rfl rfl hC₁ ⟨hO.loc, hO.all⟩ hcel s _ E f₁ fun v s' k r => ?_) hs)
  let C₂ : Cx := { C with O := ⟨[], fun t => t = 0 ∨ (s.toks ≤ t ∧ t < s'.toks), .inl rfl⟩ }
  have hs₀ : B.t₀ ≤ s.toks := (Fok.on hC f).2
  have hC₂ : C₂.Ok B := ⟨hC.top, hC.kind, hC.g, hC.b, hC.hh, hC.un, hC.on, fun t h => h.imp id fun h => Nat.le_trans hlo (Nat.le_trans hs₀ h.1)⟩
  have hpos : 0 < s'.toks := Nat.lt_of_lt_of_le (f.tk 0 C.O.z) k.le
  have g := f.keep k
  have f₂ : Fok C₂ σ none s' := ⟨g.keeps, fun m pv e => let ⟨v, r, l⟩ := g.look m pv e; ⟨v, r.noStr (fun a h => (List.not_mem_nil h).elim) (hσ m pv e), l⟩, g.ns, g.cells, (fun _ _ e => nomatch e), (fun _ h => (List.not_mem_nil h).elim), fun t h => h.elim (fun h => h ▸ hpos) fun h => h.2⟩
  have r₂ : Rep C₂.O s' (.list (xs.map .strX)) v := by
    obtain ⟨a, items, m, rfl, ho, hl, hz, hn, hi⟩ := r.list_inv
    refine .list (fun h => (List.not_mem_nil h).elim) hl hz (by simpa using hn) fun i x v e e' => ?_
    rw [List.getElem?_map] at e
    cases hx : xs[i]? with
    | none => rw [hx] at e; cases e
    | some y =>
      rw [hx] at e; cases e
      have := hi i (.str y) v (by rw [List.getElem?_map, hx]; rfl) e'
      obtain ⟨t, rfl, ht, hb⟩ := this.str_inv
      have ht : s.toks ≤ t := Nat.not_lt.mp ht
      exact .strX (.inr ⟨ht, hb⟩) (fun e => absurd (Nat.lt_of_lt_of_le (f.tk 0 C.O.z) ht) (by rw [e]; exact Nat.lt_irrefl _)) hb
  have hM : C₂.M.ad = C.M.ad := by
    show C.env.locals :: (_ ++ []) = C.env.locals :: (_ ++ C.O.ad)
    rw [hO₀]
  have sf : ∀ {u u' : Shared}, Sft C₂ u u' → Sft C u u' := fun k => ⟨fun b o hb e => k.1 b o (hM ▸ hb) e, k.2⟩
  refine store_ok (C := C₂) hC₂ hO.loc hk f₂ r₂ fun s₃ k₃ f₃ => ?_
  refine hrest C₂ rfl rfl hC₂ ⟨hO.loc, hO.all⟩ hcel s₃ Q E f₃ fun fl s₄ k₄ o => q fl s₄ (k.sft.trans ((sf k₃).trans (sf k₄))) ?_
  cases fl with
  | next => obtain ⟨_, _, p, _⟩ := o; obtain ⟨b, e⟩ := hP _ p; cases e
  | cont => exact o
  | brk => obtain ⟨_, _, p, _⟩ := o; obtain ⟨b, e⟩ := hP _ p; cases e
  | ret v =>
    obtain ⟨pv, p, kp, r⟩ := o
    obtain ⟨b, e⟩ := hP _ p
    cases e
    refine ⟨_, p, kp, ?_⟩
    cases r; exact .bool
end
end Mine
end

section
open PySem PySem.W PyProof.Rows PySem.Calls
set_option Elab.async false
set_option linter.unusedVariables false
set_option maxRecDepth 100000
namespace Mine

/-- a tree of questions, its answers known -/
def ansOf {α : Type} (lt : Nat → Nat → Bool) : KasT α → α
  | .ret a => a
  | .ask i j k => ansOf lt (k (lt i j))
def below {α : Type} (n : Nat) : KasT α → Bool
  | .ret _ => true
  | .ask i j k => decide (i < n) && decide (j < n) && below n (k true) && below n (k false)
theorem kas_ans {α : Type} {cmp : Nat → Nat → (Bool → Shared → Prop) → Shared → Prop} {lt : Nat → Nat → Bool} {n : Nat} {s : Shared}
    (hc : ∀ i j C, i < n → j < n → C (lt i j) s → cmp i j C s) : ∀ (t : KasT α) {Q : α → Shared → Prop}, below n t = true → Q (ansOf lt t) s → t.kasWp cmp Q s
  | .ret a, Q, _, h => h
  | .ask i j k, Q, hb, h => by
    simp only [below, Bool.and_eq_true, decide_eq_true_eq] at hb
    refine hc i j _ hb.1.1.1 hb.1.1.2 (kas_ans hc (k (lt i j)) ?_ h)
    cases lt i j
    · exact hb.2
    · exact hb.1.2

section
variable {prog : Program} {w : World} {A : Around} {E : Value → Shared → Prop} {s : Shared}
/-- sorting a list in place, whatever its items -/
theorem sort_in_place {vs : List Value} {D : Addr} {n : Nat} {P : PySem.Fin → Shared → Prop} (ho : s.heap.get? D = some (seqObj "list" vs.toArray n)) (h2 : 2 ≤ vs.length) (h64 : vs.length < 64)
    (h : ∀ h' e1, (∀ b o, b ≠ D → s.heap.get? b = some o → h'.get? b = some o) → h'.get? D = some (seqObj "list" #[] e1) →
      wpAny (model prog w) A (keyKind' vs.toArray) (fun κ s' => (kas_sort vs.length).kasWp (kas_ask prog w A κ vs) (fun p s'' => s''.heap.get? D = some (seqObj "list" #[] e1) ∧
        ∀ h'' c, Heap.SameBut D s''.heap h'' → h''.get? D = some (seqObj "list" (List.toArray (p.toList.map fun i => vs.getD i Value.none)) c) → P (.done (.ret .none)) { s'' with heap := h'' }) s') (fun _ _ => False) { s with heap := h' }) :
    wpAny (model prog w) A (Builtin.«list.sort» ⟨[.ref D], []⟩) P E s := by
  obtain ⟨e1, ho1⟩ : ∃ e1, (s.heap.update D (Obj.mapSeq fun _ => (#[] : Array Value))).get? D = some (seqObj "list" #[] e1) := ⟨_, get?_update_seq ho fun _ => #[]⟩
  have s1 := Heap.SameBut.update s.heap D (Obj.mapSeq fun _ => (#[] : Array Value))
  have ask := h (((s.heap.update D (Obj.mapSeq fun _ => (#[] : Array Value))).push (seqObj "tuple" vs.toArray 0)).push (seqObj "list" #[] 0)) e1
    (fun b o hb e => Heap.get?_push_of_some _ (Heap.get?_push_of_some _ (s1.extBut b o hb e))) (Heap.get?_push_of_some _ (Heap.get?_push_of_some _ ho1))
  rw [list_sort_plain]
  refine wpAny_bind (listItems_at ho rfl ?_)
  refine wpAny_bind (listUpdate_at ho rfl ?_ (by rw [List.size_toArray, sizeLine_eq]; omega) (Nat.zero_le _))
  refine wpAny_bind (seqEpoch_at ho1 rfl ?_)
  refine wpAny_bind (wpAny_newTuple ?_ (by show vs.length ≤ _; rw [sizeLine_eq]; omega))
  refine wpAny_bind (wpAny_newList ?_ (Nat.zero_le _))
  refine wpAny_holding ?_
  show wpAny (model prog w) A _ P E { s with heap := ((s.heap.update D (Obj.mapSeq fun _ => (#[] : Array Value))).push (seqObj "tuple" vs.toArray 0)).push (seqObj "list" #[] 0) }
  dsimp only
  have hn2 : ¬ vs.toArray.size < 2 := by rw [List.size_toArray]; omega
  rw [if_neg hn2, if_neg hn2]
  refine wpAny_bind (wpAny_mono ask (fun κ s0 hk => ?_) fun _ _ x => x.elim)
  refine wpAny_bind (wpAny_mono (kat_run (Q := fun st' s' => ∃ p : Array Nat, p.size = vs.length ∧ arrOf st' = p.map (kas_item (vs.toArray.zip vs.toArray)) ∧ failedOf st' = none ∧ s'.heap.get? D = some (seqObj "list" #[] e1) ∧
        ∀ h'' c, Heap.SameBut D s'.heap h'' → h''.get? D = some (seqObj "list" (List.toArray (p.toList.map fun i => vs.getD i Value.none)) c) → P (.done (.ret .none)) { s' with heap := h'' })
    rfl h2 h64 (fun p' st' s' a1 a2 a3 a4 => ⟨p', a1, a2, a3, a4⟩) hk) ?_ fun _ _ e => e)
  rintro ⟨⟨⟩, st'⟩ s' ⟨p, hp, har, hf, hD, k⟩
  dsimp only
  have hout := kat_snds rfl har
  have hsz : (List.toArray (p.toList.map fun i => vs.getD i Value.none)).size = vs.length := by rw [List.size_toArray, List.length_map, Array.length_toList, hp]
  rw [hout]
  have s2 := Heap.SameBut.update s'.heap D (Obj.mapSeq fun _ => List.toArray (p.toList.map fun i => vs.getD i Value.none))
  obtain ⟨c2, hc2⟩ : ∃ c2, (s'.heap.update D (Obj.mapSeq fun _ => List.toArray (p.toList.map fun i => vs.getD i Value.none))).get? D = some (seqObj "list" (List.toArray (p.toList.map fun i => vs.getD i Value.none)) c2) := ⟨_, get?_update_seq hD fun _ => List.toArray (p.toList.map fun i => vs.getD i Value.none)⟩
  refine wpAny_bind (seqEpoch_at hD rfl ?_)
  refine wpAny_bind (listUpdate_at hD rfl ?_ (Nat.zero_le _) (Nat.le_trans (Nat.le_of_eq hsz) (by rw [sizeLine_eq]; omega)))
  rw [hf]
  simp only [bne_self_eq_false, Bool.false_eq_true, if_false]
  exact wpAny_pure (k _ c2 s2 hc2)

/-- a new sorted list of the items of another -/
theorem sorted_anew {l : Addr} {vs : List Value} {Q : Value → Shared → Prop} (hl : s.heap.IsList l vs.toArray) (h2 : 2 ≤ vs.length) (h64 : vs.length < 64)
    (h : ∀ D h' e1, s.heap.get? D = none → (∀ b o, s.heap.get? b = some o → h'.get? b = some o) → h'.get? D = some (seqObj "list" #[] e1) →
      wpAny (model prog w) A.in1.in1 (keyKind' vs.toArray) (fun κ s' => (kas_sort vs.length).kasWp (kas_ask prog w A.in1.in1 κ vs) (fun p s'' => s''.heap.get? D = some (seqObj "list" #[] e1) ∧
        ∀ h'' c, Heap.SameBut D s''.heap h'' → h''.get? D = some (seqObj "list" (List.toArray (p.toList.map fun i => vs.getD i Value.none)) c) → Q (.ref D) { s'' with heap := h'' }) s') (fun _ _ => False) { s with heap := h' }) :
    wpAny (model prog w) A (call (.builtin "sorted") [.ref l]) Q E s := by
  refine Calls.call_function_entry kind_sorted plain_sorted entry_sorted (args_sorted1 _) ?_
  unfold Builtin.«sorted»
  refine wpAny_bind (m := checkCount "sorted" 1 1 _) (wpAny_pure ?_)
  refine wpAny_bind (collect_list hl ?_ (by rw [sizeLine_eq]; omega))
  refine wpAny_bind (wpAny_newList ?_ (by rw [sizeLine_eq]; omega))
  have hsz : ((s.heap.push (seqObj "list" #[] 0)).update s.heap.objs.size (Obj.mapSeq (· ++ vs.toArray))).objs.size = s.heap.objs.size + 1 := by
    rw [Heap.size_update, size_push']
  have hoL : (((s.heap.push (seqObj "list" #[] 0)).update s.heap.objs.size (Obj.mapSeq (· ++ vs.toArray))).push (seqObj "list" vs.toArray 0)).get? (s.heap.objs.size + 1) = some (seqObj "list" vs.toArray 0) := by
    rw [← hsz]; exact Heap.get?_push_size _ rfl
  have keep : ∀ b o, s.heap.get? b = some o → (((s.heap.push (seqObj "list" #[] 0)).update s.heap.objs.size (Obj.mapSeq (· ++ vs.toArray))).push (seqObj "list" vs.toArray 0)).get? b = some o := fun b o q => by
    have hlt : b < s.heap.objs.size := Heap.lt_size q
    rw [Heap.get?_push_ne _ _ _ (by rw [hsz]; exact Nat.ne_of_lt (Nat.lt_succ_of_lt hlt)), Heap.get?_update_ne _ _ _ _ (Nat.ne_of_lt hlt), Heap.get?_push_ne _ _ _ (Nat.ne_of_lt hlt)]
    exact q
  have hnone : s.heap.get? (s.heap.objs.size + 1) = none := Heap.get?_none_of_le (Nat.le_succ _)
  show wpAny _ _ _ _ _ { s with heap := ((s.heap.push (seqObj "list" #[] 0)).update s.heap.objs.size (Obj.mapSeq (· ++ vs.toArray))).push (seqObj "list" vs.toArray 0) }
  rw [hsz]
  refine wpAny_bind (wpAny_holding (wpAny_call_entry slot_list_sort ⟨_, hoL, rfl⟩ entry_list_sort ?body (args_list_sort _)))
  case body =>
    refine sort_in_place (s := { s with heap := ((s.heap.push (seqObj "list" #[] 0)).update s.heap.objs.size (Obj.mapSeq (· ++ vs.toArray))).push (seqObj "list" vs.toArray 0) }) hoL h2 h64 fun h' e1 kk ho1 => ?_
    refine wpAny_mono (h _ h' e1 hnone (fun b o e => kk b o (fun e' => by rw [e', hnone] at e; cases e) (keep b o e)) ho1) (fun κ s' hk => ?_) fun _ _ x => x
    rw [kat_ask_eq rfl] at hk ⊢
    exact kas_wp_mono hk fun p s'' hk' => ⟨hk'.1, fun h'' c hs' hd => ⟨_, rfl, wpAny_pure ⟨_, rfl, hk'.2 h'' c hs' hd⟩⟩⟩

/-- one pair of ints before another -/
def pairLt (a b : Int × Int) : Bool := if a.1 = b.1 then decide (a.2 < b.2) else decide (a.1 < b.1)
def IsPair (h : Heap) (v : Value) (p : Int × Int) : Prop := ∃ a n t u, v = .ref a ∧ IsTp h a #[.int p.1 t, .int p.2 u] n
theorem pair_lt {x y : Value} {p q : Int × Int} (hx : IsPair s.heap x p) (hy : IsPair s.heap y q) {Q : Bool → Shared → Prop} (h : Q (pairLt p q) s) : wpAny (model prog w) A (keyLt' (tuples' true) x y) Q E s := by
  obtain ⟨a, n, t, u, rfl, hx⟩ := hx
  obtain ⟨b, m, t', u', rfl, hy⟩ := hy
  refine kat_lt hx rfl hy rfl ?_
  show KatLex prog w A true _ Q [(.int p.1 t, .int q.1 t'), (.int p.2 u, .int q.2 u')] 0 s
  refine kat_cons (wpAny_eqBool_int ?_)
  by_cases h1 : p.1 = q.1
  · have e : (p.1 == q.1) = true := by simpa using h1
    rw [e]
    refine kat_yes (kat_cons (wpAny_eqBool_int ?_))
    by_cases h2 : p.2 = q.2
    · have e : (p.2 == q.2) = true := by simpa using h2
      rw [e]
      refine kat_yes (kat_nil ?_)
      have : pairLt p q = false := by unfold pairLt; rw [if_pos h1]; simp [h2]
      rw [this] at h; exact h
    · have e : (p.2 == q.2) = false := by simpa using h2
      rw [e]
      refine kat_no (kat_one _ _ (P.lt_int ?_))
      show Q _ s
      unfold pairLt at h; rw [if_pos h1] at h; exact h
  · have e : (p.1 == q.1) = false := by simpa using h1
    rw [e]
    refine kat_no (oneLt_int ?_)
    unfold pairLt at h; rw [if_neg h1] at h; exact h
inductive ArePairs (h : Heap) : List Value → List (Int × Int) → Prop
  | nil : ArePairs h [] []
  | cons {v p vs ps} : IsPair h v p → ArePairs h vs ps → ArePairs h (v :: vs) (p :: ps)
theorem ArePairs.keep {h h' : Heap} (k : ∀ b o, h.get? b = some o → h'.get? b = some o) : ∀ {vs : List Value} {ps : List (Int × Int)}, ArePairs h vs ps → ArePairs h' vs ps
  | _, _, .nil => .nil
  | _, _, .cons ⟨a, n, t, u, e, hx⟩ r => .cons ⟨a, n, t, u, e, k _ _ hx⟩ (r.keep k)
theorem ArePairs.length {h : Heap} : ∀ {vs : List Value} {ps : List (Int × Int)}, ArePairs h vs ps → vs.length = ps.length
  | _, _, .nil => rfl
  | _, _, .cons _ r => by simp [r.length]
theorem ArePairs.get {h : Heap} : ∀ {vs : List Value} {ps : List (Int × Int)}, ArePairs h vs ps → ∀ i, i < vs.length → IsPair h (vs.getD i .none) (ps.getD i (0, 0))
  | _, _, .cons hp r, 0, _ => hp
  | _, _, .cons hp r, i + 1, hi => r.get i (Nat.lt_of_succ_lt_succ hi)
theorem pairs_tups {h : Heap} : ∀ {vs : List Value} {ps : List (Int × Int)}, ArePairs h vs ps → ∃ fs, KatTups h vs fs ∧ fs.length = vs.length ∧ ∀ v ∈ fs, ∃ i t, v = .int i t
  | _, _, .nil => ⟨[], trivial, rfl, fun _ h => nomatch h⟩
  | _, _, .cons hp t => by
    obtain ⟨a, n, t', u, rfl, hx⟩ := hp
    obtain ⟨fs, k, l, m⟩ := pairs_tups t
    exact ⟨_ :: fs, .cons hx rfl rfl rfl k, by simp [l], fun v hv => by
      rcases List.mem_cons.mp hv with e | hv
      · exact ⟨_, _, e⟩
      · exact m v hv⟩

/-- the order in which a list of pairs is sorted -/
def pairOrder (ps : List (Int × Int)) : List Nat := (ansOf (fun i j => pairLt (ps.getD i (0, 0)) (ps.getD j (0, 0))) (kas_sort ps.length)).toList
theorem sorted_pairs {l : Addr} {vs : List Value} {ps : List (Int × Int)} {Q : Value → Shared → Prop} (hl : s.heap.IsList l vs.toArray) (hp : ArePairs s.heap vs ps) (h2 : 2 ≤ vs.length) (h64 : vs.length < 64) (hb : below ps.length (kas_sort ps.length) = true)
    (h : ∀ D h' c, s.heap.get? D = none → (∀ b o, s.heap.get? b = some o → h'.get? b = some o) → h'.get? D = some (seqObj "list" (List.toArray ((pairOrder ps).map fun i => vs.getD i Value.none)) c) → Q (.ref D) { s with heap := h' }) :
    wpAny (model prog w) A (call (.builtin "sorted") [.ref l]) Q E s := by
  refine sorted_anew hl h2 h64 fun D h' e1 hD hk ho => ?_
  have hp' := hp.keep hk
  obtain ⟨fs, kt, kl, km⟩ := pairs_tups hp'
  refine kat_kind (s := { s with heap := h' }) (T := .type "int") kt (by omega) (fun v hv => by obtain ⟨i, t, rfl⟩ := km v hv; exact Looks.of_pure rfl) (by decide) ?_
  have e : (Value.type "int" != Value.type "tuple") = true := by decide
  rw [e]
  have hlen := hp.length
  refine kas_ans (n := ps.length) (lt := fun i j => pairLt (ps.getD i (0, 0)) (ps.getD j (0, 0))) (fun i j C hi hj hC => ?_) (kas_sort vs.length) (by rw [hlen]; exact hb) ⟨ho, fun h'' c hs' hd => ?_⟩
  · show wpAny _ _ (keyLt' (tuples' true) (vs.getD i Value.none) (vs.getD j Value.none)) _ _ _
    exact pair_lt (hp'.get i (by omega)) (hp'.get j (by omega)) hC
  · rw [hlen] at hd
    exact h D h'' c hD (fun b o e => hs'.extBut b o (fun e' => by rw [e', hD] at e; cases e) (hk b o e)) hd
end

section
variable {B : Bk}
theorem pair_of {O : Fb} {s : Shared} {p : Int × Int} {v : Value} (r : Rep O s (.tup [.int p.1, .int p.2]) v) : IsPair s.heap v p := by
  cases r with
  | @tup _ a items n ho hl hz hn hi =>
    obtain ⟨v₁, v₂, e⟩ : ∃ v₁ v₂, items.toList = [v₁, v₂] := by
      have hl2 : items.toList.length = 2 := by simpa using hn.symm
      match items.toList, hl2 with
      | [x, y], _ => exact ⟨x, y, rfl⟩
    have g₁ : items[0]? = some v₁ := by rw [← Array.getElem?_toList, e]; rfl
    have g₂ : items[1]? = some v₂ := by rw [← Array.getElem?_toList, e]; rfl
    have r₁ := hi 0 _ v₁ rfl g₁
    have r₂ := hi 1 _ v₂ rfl g₂
    cases r₁; cases r₂
    rename_i t₁ t₂
    have e' : items = #[Value.int p.1 t₁, Value.int p.2 t₂] := by rw [← Array.toArray_toList (xs := items), e]
    exact ⟨a, n, t₁, t₂, rfl, e' ▸ hl⟩
theorem pairs_of {O : Fb} {s : Shared} : ∀ {ps : List (Int × Int)} {vs : List Value}, ps.length = vs.length → (∀ (i : Nat) (x : PV) (v : Value), (ps.map fun p => PV.tup [.int p.1, .int p.2])[i]? = some x → vs[i]? = some v → Rep O s x v) → ArePairs s.heap vs ps
  | [], [], _, _ => .nil
  | p :: ps, v :: vs, hl, hi => .cons (pair_of (hi 0 _ v rfl rfl)) (pairs_of (by simpa using hl) fun i x v e e' => hi (i + 1) x v (by simpa using e) (by simpa using e'))
theorem Ca_sorted_pairs {ps : List (Int × Int)} (h2 : 2 ≤ ps.length) (h64 : ps.length < 64) (hb : below ps.length (kas_sort ps.length) = true) (hin : ∀ i ∈ pairOrder ps, i < ps.length) (hsz : (pairOrder ps).length ≤ sizeLine) :
    Ca B "sorted" [.list (ps.map fun p => .tup [.int p.1, .int p.2])] (.list ((pairOrder ps).map fun i => .tup [.int (ps.getD i (0, 0)).1, .int (ps.getD i (0, 0)).2])) := fun A O s vs Q E hh lo on r hex q => by
  cases r with | cons r t => cases t with | nil =>
  obtain ⟨a, items, n, rfl, ho, hl, hz, hn, hi⟩ := r.list_inv
  have hl' : s.heap.IsList a items.toList.toArray := by rw [Array.toArray_toList]; exact IsLs.isList hl
  have hn' : ps.length = items.toList.length := by simpa using hn
  have hps := pairs_of (O := O) (s := s) (ps := ps) (vs := items.toList) hn' fun i x v e e' => hi i x v e (by simpa using e')
  refine sorted_pairs hl' hps (by omega) (by omega) hb fun D h' c hD hk hd => ?_
  have kp : Kp s { s with heap := h' } := ⟨h', s.toks, rfl, Nat.le_refl _, hk⟩
  refine q _ _ kp (.list (n := c) (fun hm => by obtain ⟨o, e⟩ := hex.1 _ hm; rw [hD] at e; cases e) hd (by simpa using hsz) (by simp) fun i x v e e' => ?_)
  rw [List.getElem?_map] at e
  simp only [List.getElem?_toArray, List.getElem?_map] at e'
  cases hx : (pairOrder ps)[i]? with
  | none => rw [hx] at e; cases e
  | some j =>
    rw [hx] at e e'; cases e; cases e'
    have hj := hin j (List.mem_of_getElem? hx)
    have g1 : (ps.map fun p => PV.tup [.int p.1, .int p.2])[j]? = some (.tup [.int (ps.getD j (0, 0)).1, .int (ps.getD j (0, 0)).2]) := by
      simp [List.getD, hj]
    have g2 : items[j]? = some (items.toList.getD j .none) := by
      have : j < items.size := by rw [← Array.length_toList]; omega
      simp [List.getD, this]
    exact (hi j _ _ g1 g2).keep kp
end
end Mine
end

section
open PySem PySem.Sre
set_option Elab.async false
set_option linter.unusedVariables false
set_option maxRecDepth 100000
namespace Mine
/-- that many steps lead from one machine to another -/
def Goes (n : Nat) (m m' : M) : Prop := ∀ k, M.runFor (n + k) m = M.runFor k m'
theorem Goes.refl (m : M) : Goes 0 m m := fun k => by rw [Nat.zero_add]
theorem Goes.trans {a b : Nat} {m m' m'' : M} (x : Goes a m m') (y : Goes b m' m'') : Goes (a + b) m m'' := fun k => by rw [Nat.add_assoc, x, y]
theorem Goes.step {m m' : M} (h : m.outcome.isSome = false) (e : m.step = m') : Goes 1 m m' := fun k => by
  rw [Nat.add_comm]
  show (if m.outcome.isSome then m else M.runFor k m.step) = _
  rw [h, e]; rfl
theorem runFor_done {m : M} (h : m.outcome.isSome = true) : ∀ k, M.runFor k m = m
  | 0 => rfl
  | k + 1 => by show (if m.outcome.isSome then m else M.runFor k m.step) = m; rw [h]; rfl
theorem runFor_add : ∀ (a b : Nat) (m : M), M.runFor (a + b) m = M.runFor b (M.runFor a m)
  | 0, b, m => by rw [Nat.zero_add]; rfl
  | a + 1, b, m => by
    rw [Nat.add_right_comm]
    show (if m.outcome.isSome then m else M.runFor (a + b) m.step) = M.runFor b (if m.outcome.isSome then m else M.runFor a m.step)
    cases h : m.outcome.isSome
    · simp only [Bool.false_eq_true, if_false]; exact runFor_add a b _
    · simp only [if_true]; rw [runFor_done h]

def C1 : Array Nat := #[14, 4, 0, 1, 1, 6, 1, 16, 46, 1]
def C2 : Array Nat := #[14, 9, 4, 1, 2, 16, 10, 16, 13, 0, 7, 7, 16, 13, 16, 10, 15, 18, 5, 16, 10, 15, 13, 11, 16, 13, 5, 5, 0, 16, 10, 1, 15, 2, 0, 1]

def st (C T : Array Nat) (L : Nat) (b : Bool) (start pc pos handed : Nat) (o : Bool) (fr : List Sre.Frame) (w : Nat) (ans : Option Bool) (sn : Seen) : M :=
  { code := C, text := T, lim := T.size, start, lastStart := L, mustAdvance := b, pc, pos, handed, outermost := o, marks := #[], frames := fr, weight := w, answer := ans, seen := sn }
def fr1 (pc pos : Nat) (o : Bool) : Sre.Frame := { wait := .nextStart, pc, pos, outermost := o }

section
variable {T : Array Nat} {L s h w : Nat} {b o : Bool} {fr : List Sre.Frame} {sn : Seen}
theorem step1_at : ∃ sn', (st C1 T L b s 5 s h o fr w none sn).step = (if (s == 0 || T.getD (s - 1) 0 == 10) = true then st C1 T L b s 7 s h o fr w none sn' else st C1 T L b s 5 s h o fr w (some false) sn') := ⟨_, rfl⟩
theorem step1_lit : (st C1 T L b s 7 s h o fr w none sn).step = (if s ≥ T.size then st C1 T L b s 7 s h o fr w (some false) (sn.add 16) else match (Except.ok (T.getD s 0 == 46, sn.add 16) : Except String (Bool × Seen)) with
    | .error why => (st C1 T L b s 7 s h o fr w none (sn.add 16)).stick why
    | .ok (false, seen) => st C1 T L b s 7 s h o fr w (some false) seen
    | .ok (true, seen) => st C1 T L b s 9 (s + 1) h o fr w none seen) := rfl
theorem step1_end : (st C1 T L b s 9 (s + 1) h o fr w none sn).step = (if (o && ((false && s + 1 != T.size) || (b && s + 1 == s))) = true then st C1 T L b s 9 (s + 1) h o fr w (some false) (sn.add 1) else st C1 T L b s 9 (s + 1) (s + 1) o fr w (some true) (sn.add 1)) := rfl
theorem step1_out {pc pos : Nat} {x : Bool} : (st C1 T L b s pc pos h o [] w (some x) sn).step = { st C1 T L b s pc pos h o [] w (some x) sn with outcome := some (if x then .matched else .failed) } := rfl
theorem step1_yes {pc pos q : Nat} {o' : Bool} : (st C1 T L b s pc pos h o [fr1 5 q o'] w (some true) sn).step = st C1 T L b s 5 q h o' [] (w - 1) (some true) sn := rfl
theorem step1_no {pc pos q : Nat} {o' : Bool} : (st C1 T L b s pc pos h o [fr1 5 q o'] w (some false) sn).step = (if q < L then (st C1 T L false s 5 q h o' [] (w - 1) none sn).attemptFrom (q + 1) false else st C1 T L b s 5 q h o' [] (w - 1) (some false) sn) := rfl
theorem from1 {pos : Nat} {o' : Bool} (hw : w + 1 ≤ 16777216) : (st C1 T L b s 5 pos h o [] w none sn).attemptFrom h' o' = st C1 T L b h' 5 h' h' o' [fr1 5 h' o'] (w + 1) none sn := by
  show (if w + 1 + 0 > 16777216 then _ else st C1 T L b h' 5 h' h' o' [fr1 5 h' o'] (w + 1 + 0) none sn) = _
  rw [if_neg (by omega)]
end
/-- a search's first hit from a place on -/
def nextHit (hit : Nat → Option Nat) : Nat → Nat → Option (Nat × Nat)
  | 0, _ => none
  | f + 1, q => match hit q with
    | some e => some (q, e)
    | none => nextHit hit f (q + 1)
def Ends (m' : M) : Option (Nat × Nat) → Prop
  | some (p, e) => m'.outcome = some .matched ∧ m'.start = p ∧ m'.handed = e
  | none => m'.outcome = some .failed
def Finds (C : Array Nat) (hit : Array Nat → Nat → Option Nat) : Prop := ∀ (T : Array Nat) (start : Nat) (must : Bool), start ≤ T.size →
  ∃ n m', n ≤ 20 * (T.size + 2) ∧ Goes n (Sre.forSearch C T 0 start T.size must) m' ∧ Ends m' (nextHit (hit T) (T.size - start) start) ∧ m'.outcome.isSome = true

def hit1 (T : Array Nat) (q : Nat) : Option Nat := if (q == 0 || T.getD (q - 1) 0 == 10) = true then if q < T.size then if (T.getD q 0 == 46) = true then some (q + 1) else none else none else none
theorem none_out {C T : Array Nat} {L : Nat} {b : Bool} {start pc pos handed : Nat} {o : Bool} {fr : List Sre.Frame} {w : Nat} {ans : Option Bool} {sn : Seen} : (st C T L b start pc pos handed o fr w ans sn).outcome.isSome = false := rfl
section
variable {T : Array Nat}
theorem tail1 (q : Nat) (b o : Bool) (pc : Nat) (sn : Seen) : Goes 1 (st C1 T T.size b q pc q q o [fr1 5 q o] 1 (some false) sn)
    (if q < T.size then st C1 T T.size false (q + 1) 5 (q + 1) (q + 1) false [fr1 5 (q + 1) false] 1 none sn else st C1 T T.size b q 5 q q o [] 0 (some false) sn) := by
  refine Goes.step none_out ?_
  rw [step1_no]
  by_cases h : q < T.size
  · rw [if_pos h, if_pos h, from1 (by omega)]
  · rw [if_neg h, if_neg h]
theorem search1 : ∀ (f q : Nat) (b o : Bool) (sn : Seen), q + f = T.size → ∃ n m', n ≤ 8 * (f + 1) ∧ Goes n (st C1 T T.size b q 5 q q o [fr1 5 q o] 1 none sn) m' ∧ Ends m' (nextHit (hit1 T) f q) ∧ m'.outcome.isSome = true := by
  intro f
  induction f with
  | zero =>
    intro q b o sn hq
    have hn : ¬ q < T.size := by omega
    -- at the end nothing is found
    have fin : ∀ pc sn', ∃ n m', n ≤ 4 ∧ Goes n (st C1 T T.size b q pc q q o [fr1 5 q o] 1 (some false) sn') m' ∧ m'.outcome = some .failed := fun pc sn' => by
      have h1 := tail1 (T := T) q b o pc sn'
      rw [if_neg hn] at h1
      exact ⟨2, _, by omega, h1.trans (Goes.step none_out step1_out), rfl⟩
    obtain ⟨sn1, h1⟩ := step1_at (T := T) (L := T.size) (s := q) (h := q) (w := 1) (b := b) (o := o) (fr := [fr1 5 q o]) (sn := sn)
    by_cases hb : (q == 0 || T.getD (q - 1) 0 == 10) = true
    · rw [if_pos hb] at h1
      have h2 := step1_lit (T := T) (L := T.size) (s := q) (h := q) (w := 1) (b := b) (o := o) (fr := [fr1 5 q o]) (sn := sn1)
      rw [if_pos (by omega)] at h2
      obtain ⟨n, m', hn', g, e⟩ := fin 7 (sn1.add 16)
      exact ⟨1 + (1 + n), m', by omega, (Goes.step none_out h1).trans ((Goes.step none_out h2).trans g), e, by rw [e]; rfl⟩
    · rw [if_neg hb] at h1
      obtain ⟨n, m', hn', g, e⟩ := fin 5 sn1
      exact ⟨1 + n, m', by omega, (Goes.step none_out h1).trans g, e, by rw [e]; rfl⟩
  | succ f ih =>
    intro q b o sn hq
    have hlt : q < T.size := by omega
    have next : ∀ pc sn', ∃ n m', n ≤ 1 + 8 * (f + 1) ∧ Goes n (st C1 T T.size b q pc q q o [fr1 5 q o] 1 (some false) sn') m' ∧ Ends m' (nextHit (hit1 T) f (q + 1)) ∧ m'.outcome.isSome = true := fun pc sn' => by
      have h1 := tail1 (T := T) q b o pc sn'
      rw [if_pos hlt] at h1
      obtain ⟨n, m', hn, g, e, d⟩ := ih (q + 1) false false sn' (by omega)
      exact ⟨1 + n, m', by omega, h1.trans g, e, d⟩
    obtain ⟨sn1, h1⟩ := step1_at (T := T) (L := T.size) (s := q) (h := q) (w := 1) (b := b) (o := o) (fr := [fr1 5 q o]) (sn := sn)
    by_cases hb : (q == 0 || T.getD (q - 1) 0 == 10) = true
    · rw [if_pos hb] at h1
      have h2 := step1_lit (T := T) (L := T.size) (s := q) (h := q) (w := 1) (b := b) (o := o) (fr := [fr1 5 q o]) (sn := sn1)
      rw [if_neg (by omega)] at h2
      cases hc : (T.getD q 0 == 46) with
      | true =>
        rw [hc] at h2
        have h3 := step1_end (T := T) (L := T.size) (s := q) (h := q) (w := 1) (b := b) (o := o) (fr := [fr1 5 q o]) (sn := sn1.add 16)
        have hx : ¬ (o && ((false && q + 1 != T.size) || (b && q + 1 == q))) = true := by
          have : (q + 1 == q) = false := by simp
          rw [this]; simp
        rw [if_neg hx] at h3
        have hh : hit1 T q = some (q + 1) := by unfold hit1; rw [if_pos hb, if_pos hlt, if_pos hc]
        refine ⟨1 + (1 + (1 + (1 + 1))), _, by omega, (Goes.step none_out h1).trans ((Goes.step none_out h2).trans ((Goes.step none_out h3).trans ((Goes.step none_out step1_yes).trans (Goes.step none_out step1_out)))), ?_, rfl⟩
        unfold nextHit; rw [hh]; exact ⟨rfl, rfl, rfl⟩
      | false =>
        rw [hc] at h2
        have hh : hit1 T q = none := by unfold hit1; rw [if_pos hb, if_pos hlt, if_neg (by rw [hc]; decide)]
        obtain ⟨n, m', hn, g, e, d⟩ := next 7 (sn1.add 16)
        refine ⟨1 + (1 + n), m', by omega, (Goes.step none_out h1).trans ((Goes.step none_out h2).trans g), ?_, d⟩
        unfold nextHit; rw [hh]; exact e
    · rw [if_neg hb] at h1
      have hh : hit1 T q = none := by unfold hit1; rw [if_neg hb]
      obtain ⟨n, m', hn, g, e, d⟩ := next 5 sn1
      refine ⟨1 + n, m', by omega, (Goes.step none_out h1).trans g, ?_, d⟩
      unfold nextHit; rw [hh]; exact e
end
theorem open1 (T : Array Nat) (start : Nat) (must : Bool) : Sre.forSearch C1 T 0 start T.size must =
    (if (decide (start > T.size) || decide (T.size - start < 1)) = true then st C1 T 0 must start 5 start start true [] 0 (some false) (({} : Seen).add 14)
      else (st C1 T T.size must start 5 start start true [] 0 none (({} : Seen).add 14)).attemptFrom start true) := rfl
theorem finds1 : Finds C1 hit1 := by
  intro T start must hs
  rw [open1]
  by_cases h : (decide (start > T.size) || decide (T.size - start < 1)) = true
  · rw [if_pos h]
    have h' : T.size - start = 0 := by simp at h; omega
    rw [h']
    exact ⟨1, _, by omega, Goes.step none_out step1_out, rfl, rfl⟩
  · rw [if_neg h, from1 (by omega)]
    have h' : start < T.size := by simp at h; omega
    obtain ⟨n, m', hn, g, e, d⟩ := search1 (T := T) (T.size - start) start must true (({} : Seen).add 14) (by omega)
    exact ⟨n, m', by omega, g, e, d⟩

/-! the second pattern -/
def hit2 (T : Array Nat) (q : Nat) : Option Nat := if q < T.size then if (T.getD q 0 == 10) = true then some (q + 1) else if (T.getD q 0 == 13) = true then (if q + 1 < T.size ∧ (T.getD (q + 1) 0 == 10) = true then some (q + 2) else some (q + 1)) else none else none
def fr2 (alt pos : Nat) (o : Bool) : Sre.Frame := { wait := .nextBranch, pc := alt, pos, outermost := o, kept := { lastmark := -1, lastindex := -1, whole := false, marks := #[] } }
def frS (pc pos : Nat) (o : Bool) : Sre.Frame := { wait := .nextStart, pc, pos, outermost := o }
section
variable {T : Array Nat} {L s h w p : Nat} {b o : Bool} {fr : List Sre.Frame} {sn : Seen}
theorem step2_branch (hw : w + 1 ≤ 16777216) : (st C2 T L b s 10 p h o fr w none sn).step = st C2 T L b s 12 p p o (fr2 11 p o :: fr) (w + 1) none (sn.add 7) := by
  show (if w + 1 + 0 > 16777216 then _ else st C2 T L b s 12 p p o (fr2 11 p o :: fr) (w + 1 + 0) none (sn.add 7)) = _
  rw [if_neg (by omega)]
theorem lit12 : (st C2 T L b s 12 p h o fr w none sn).step = (if p ≥ T.size then st C2 T L b s 12 p h o fr w (some false) (sn.add 16) else match (Except.ok (T.getD p 0 == 13, sn.add 16) : Except String (Bool × Seen)) with
    | .error why => (st C2 T L b s 12 p h o fr w none (sn.add 16)).stick why
    | .ok (false, seen) => st C2 T L b s 12 p h o fr w (some false) seen
    | .ok (true, seen) => st C2 T L b s 14 (p + 1) h o fr w none seen) := rfl
theorem yes12 (h1 : p < T.size) (h2 : (T.getD p 0 == 13) = true) : Goes 1 (st C2 T L b s 12 p h o fr w none sn) (st C2 T L b s 14 (p + 1) h o fr w none (sn.add 16)) :=
  Goes.step none_out (by rw [lit12, if_neg (by omega), h2])
theorem no12 (h2 : p < T.size → (T.getD p 0 == 13) = false) : Goes 1 (st C2 T L b s 12 p h o fr w none sn) (st C2 T L b s 12 p h o fr w (some false) (sn.add 16)) :=
  Goes.step none_out (by
    rw [lit12]
    by_cases h1 : p ≥ T.size
    · rw [if_pos h1]
    · rw [if_neg h1, h2 (by omega)])
theorem lit14 : (st C2 T L b s 14 p h o fr w none sn).step = (if p ≥ T.size then st C2 T L b s 14 p h o fr w (some false) (sn.add 16) else match (Except.ok (T.getD p 0 == 10, sn.add 16) : Except String (Bool × Seen)) with
    | .error why => (st C2 T L b s 14 p h o fr w none (sn.add 16)).stick why
    | .ok (false, seen) => st C2 T L b s 14 p h o fr w (some false) seen
    | .ok (true, seen) => st C2 T L b s 16 (p + 1) h o fr w none seen) := rfl
theorem yes14 (h1 : p < T.size) (h2 : (T.getD p 0 == 10) = true) : Goes 1 (st C2 T L b s 14 p h o fr w none sn) (st C2 T L b s 16 (p + 1) h o fr w none (sn.add 16)) :=
  Goes.step none_out (by rw [lit14, if_neg (by omega), h2])
theorem no14 (h2 : p < T.size → (T.getD p 0 == 10) = false) : Goes 1 (st C2 T L b s 14 p h o fr w none sn) (st C2 T L b s 14 p h o fr w (some false) (sn.add 16)) :=
  Goes.step none_out (by
    rw [lit14]
    by_cases h1 : p ≥ T.size
    · rw [if_pos h1]
    · rw [if_neg h1, h2 (by omega)])
theorem lit19 : (st C2 T L b s 19 p h o fr w none sn).step = (if p ≥ T.size then st C2 T L b s 19 p h o fr w (some false) (sn.add 16) else match (Except.ok (T.getD p 0 == 10, sn.add 16) : Except String (Bool × Seen)) with
    | .error why => (st C2 T L b s 19 p h o fr w none (sn.add 16)).stick why
    | .ok (false, seen) => st C2 T L b s 19 p h o fr w (some false) seen
    | .ok (true, seen) => st C2 T L b s 21 (p + 1) h o fr w none seen) := rfl
theorem yes19 (h1 : p < T.size) (h2 : (T.getD p 0 == 10) = true) : Goes 1 (st C2 T L b s 19 p h o fr w none sn) (st C2 T L b s 21 (p + 1) h o fr w none (sn.add 16)) :=
  Goes.step none_out (by rw [lit19, if_neg (by omega), h2])
theorem no19 (h2 : p < T.size → (T.getD p 0 == 10) = false) : Goes 1 (st C2 T L b s 19 p h o fr w none sn) (st C2 T L b s 19 p h o fr w (some false) (sn.add 16)) :=
  Goes.step none_out (by
    rw [lit19]
    by_cases h1 : p ≥ T.size
    · rw [if_pos h1]
    · rw [if_neg h1, h2 (by omega)])
theorem lit24 : (st C2 T L b s 24 p h o fr w none sn).step = (if p ≥ T.size then st C2 T L b s 24 p h o fr w (some false) (sn.add 16) else match (Except.ok (T.getD p 0 == 13, sn.add 16) : Except String (Bool × Seen)) with
    | .error why => (st C2 T L b s 24 p h o fr w none (sn.add 16)).stick why
    | .ok (false, seen) => st C2 T L b s 24 p h o fr w (some false) seen
    | .ok (true, seen) => st C2 T L b s 26 (p + 1) h o fr w none seen) := rfl
theorem yes24 (h1 : p < T.size) (h2 : (T.getD p 0 == 13) = true) : Goes 1 (st C2 T L b s 24 p h o fr w none sn) (st C2 T L b s 26 (p + 1) h o fr w none (sn.add 16)) :=
  Goes.step none_out (by rw [lit24, if_neg (by omega), h2])
theorem no24 (h2 : p < T.size → (T.getD p 0 == 13) = false) : Goes 1 (st C2 T L b s 24 p h o fr w none sn) (st C2 T L b s 24 p h o fr w (some false) (sn.add 16)) :=
  Goes.step none_out (by
    rw [lit24]
    by_cases h1 : p ≥ T.size
    · rw [if_pos h1]
    · rw [if_neg h1, h2 (by omega)])
theorem lit29 : (st C2 T L b s 29 p h o fr w none sn).step = (if p ≥ T.size then st C2 T L b s 29 p h o fr w (some false) (sn.add 16) else match (Except.ok (T.getD p 0 == 10, sn.add 16) : Except String (Bool × Seen)) with
    | .error why => (st C2 T L b s 29 p h o fr w none (sn.add 16)).stick why
    | .ok (false, seen) => st C2 T L b s 29 p h o fr w (some false) seen
    | .ok (true, seen) => st C2 T L b s 31 (p + 1) h o fr w none seen) := rfl
theorem yes29 (h1 : p < T.size) (h2 : (T.getD p 0 == 10) = true) : Goes 1 (st C2 T L b s 29 p h o fr w none sn) (st C2 T L b s 31 (p + 1) h o fr w none (sn.add 16)) :=
  Goes.step none_out (by rw [lit29, if_neg (by omega), h2])
theorem no29 (h2 : p < T.size → (T.getD p 0 == 10) = false) : Goes 1 (st C2 T L b s 29 p h o fr w none sn) (st C2 T L b s 29 p h o fr w (some false) (sn.add 16)) :=
  Goes.step none_out (by
    rw [lit29]
    by_cases h1 : p ≥ T.size
    · rw [if_pos h1]
    · rw [if_neg h1, h2 (by omega)])
theorem jump16 : Goes 1 (st C2 T L b s 16 p h o fr w none sn) (st C2 T L b s 35 p h o fr w none (sn.add 15)) := Goes.step none_out rfl
theorem jump21 : Goes 1 (st C2 T L b s 21 p h o fr w none sn) (st C2 T L b s 35 p h o fr w none (sn.add 15)) := Goes.step none_out rfl
theorem jump32 : Goes 1 (st C2 T L b s 32 p h o fr w none sn) (st C2 T L b s 35 p h o fr w none (sn.add 15)) := Goes.step none_out rfl
theorem branch2 (hw : w + 1 ≤ 16777216) : Goes 1 (st C2 T L b s 10 p h o fr w none sn) (st C2 T L b s 12 p p o (fr2 11 p o :: fr) (w + 1) none (sn.add 7)) := Goes.step none_out (step2_branch hw)
theorem succ2 : Goes 1 (st C2 T L false s 35 p h o fr w none sn) (st C2 T L false s 35 p p o fr w (some true) (sn.add 1)) := Goes.step none_out (by
  show (if (o && ((false && p != T.size) || (false && p == s))) = true then _ else st C2 T L false s 35 p p o fr w (some true) (sn.add 1)) = _
  rw [if_neg (by simp)])
theorem up2 {pc q k : Nat} {o' : Bool} : Goes 1 (st C2 T L b s pc p h o (fr2 k q o' :: fr) w (some true) sn) (st C2 T L b s k q h o' fr (w - 1) (some true) sn) := Goes.step none_out rfl
theorem alt18 {pc q : Nat} {o' : Bool} (hw : w - 1 + 1 ≤ 16777216) : Goes 1 (st C2 T L b s pc p h o (fr2 11 q o' :: fr) w (some false) sn) (st C2 T L b s 19 q q o' (fr2 18 q o' :: fr) (w - 1 + 1) none sn) := Goes.step none_out (by
  show (if w - 1 + 1 + 0 > 16777216 then _ else st C2 T L b s 19 q q o' (fr2 18 q o' :: fr) (w - 1 + 1 + 0) none sn) = _
  rw [if_neg (by omega)])
theorem alt23 {pc q : Nat} {o' : Bool} (hw : w - 1 + 1 ≤ 16777216) : Goes 1 (st C2 T L b s pc p h o (fr2 18 q o' :: fr) w (some false) sn) (st C2 T L b s 24 q q o' (fr2 23 q o' :: fr) (w - 1 + 1) none sn) := Goes.step none_out (by
  show (if w - 1 + 1 + 0 > 16777216 then _ else st C2 T L b s 24 q q o' (fr2 23 q o' :: fr) (w - 1 + 1 + 0) none sn) = _
  rw [if_neg (by omega)])
def frN (pos : Nat) (o : Bool) : Sre.Frame := { wait := .lookNot, pc := 26, pos, outermost := o, kept := { lastmark := -1, lastindex := -1, whole := false, marks := #[] } }
theorem look26 (hw : w + 1 ≤ 16777216) : Goes 1 (st C2 T L b s 26 p h o fr w none sn) (st C2 T L b s 29 p p false (frN p o :: fr) (w + 1) none (sn.add 5)) := Goes.step none_out (by
  show (if p < 0 then st C2 T L b s 32 p h o fr w none (sn.add 5) else if w + 1 + 0 > 16777216 then _ else st C2 T L b s 29 p p false (frN p o :: fr) (w + 1 + 0) none (sn.add 5)) = _
  rw [if_neg (by omega), if_neg (by omega)])
theorem lookNo {pc q : Nat} {o' : Bool} : Goes 1 (st C2 T L b s pc p h o (frN q o' :: fr) w (some false) sn) (st C2 T L b s 32 q h o' fr (w - 1) none sn) := Goes.step none_out rfl
theorem top2 {pc q k : Nat} {o' : Bool} : Goes 1 (st C2 T L b s pc p h o [frS k q o'] w (some true) sn) (st C2 T L b s k q h o' [] (w - 1) (some true) sn) := Goes.step none_out rfl
theorem out2 {pc : Nat} {x : Bool} : Goes 1 (st C2 T L b s pc p h o [] w (some x) sn) { st C2 T L b s pc p h o [] w (some x) sn with outcome := some (if x then .matched else .failed) } := Goes.step none_out rfl
/-- an attempt at a feed or a return -/
theorem try2 {q e : Nat} (hit : hit2 T q = some e) : ∃ n m', n ≤ 20 ∧ Goes n (st C2 T L false q 10 q q o [frS 10 q o] 1 none sn) m' ∧ m'.outcome = some .matched ∧ m'.start = q ∧ m'.handed = e := by
  have hq : q < T.size := by
    unfold hit2 at hit
    by_cases h : q < T.size
    · exact h
    · rw [if_neg h] at hit; cases hit
  unfold hit2 at hit
  rw [if_pos hq] at hit
  by_cases h10 : (T.getD q 0 == 10) = true
  · rw [if_pos h10] at hit
    cases hit
    have h13 : (T.getD q 0 == 13) = false := by have := eq_of_beq h10; rw [this]; rfl
    exact ⟨_, _, (by decide : 1 + (1 + (1 + (1 + (1 + (1 + (1 + (1 + 1))))))) ≤ 20), (branch2 (by decide)).trans ((no12 fun _ => h13).trans ((alt18 (by decide)).trans ((yes19 hq h10).trans (jump21.trans (succ2.trans (up2.trans (top2.trans out2))))))), rfl, rfl, rfl⟩
  · rw [if_neg h10] at hit
    have h10' : (T.getD q 0 == 10) = false := by simpa using h10
    by_cases h13 : (T.getD q 0 == 13) = true
    · rw [if_pos h13] at hit
      by_cases h2 : q + 1 < T.size ∧ (T.getD (q + 1) 0 == 10) = true
      · rw [if_pos h2] at hit
        cases hit
        exact ⟨_, _, (by decide : 1 + (1 + (1 + (1 + (1 + (1 + (1 + 1)))))) ≤ 20), (branch2 (by decide)).trans ((yes12 hq h13).trans ((yes14 h2.1 h2.2).trans (jump16.trans (succ2.trans (up2.trans (top2.trans out2)))))), rfl, rfl, rfl⟩
      · rw [if_neg h2] at hit
        cases hit
        have hno : q + 1 < T.size → (T.getD (q + 1) 0 == 10) = false := fun h => by
          cases hx : (T.getD (q + 1) 0 == 10) with
          | false => rfl
          | true => exact absurd ⟨h, hx⟩ h2
        exact ⟨_, _, (by decide : 1 + (1 + (1 + (1 + (1 + (1 + (1 + (1 + (1 + (1 + (1 + (1 + (1 + (1 + 1))))))))))))) ≤ 20), (branch2 (by decide)).trans ((yes12 hq h13).trans ((no14 hno).trans ((alt18 (by decide)).trans ((no19 fun _ => h10').trans ((alt23 (by decide)).trans
          ((yes24 hq h13).trans ((look26 (by decide)).trans ((no29 hno).trans (lookNo.trans (jump32.trans (succ2.trans (up2.trans (top2.trans out2))))))))))))), rfl, rfl, rfl⟩
    · rw [if_neg h13] at hit; cases hit
end

def firstIn (T : Array Nat) : Nat → Nat → Option Nat
  | 0, _ => none
  | f + 1, q => if (hit2 T q).isSome then some q else firstIn T f (q + 1)
theorem firstIn_next (T : Array Nat) : ∀ f q, nextHit (hit2 T) f q = (firstIn T f q).bind fun p => (hit2 T p).map fun e => (p, e)
  | 0, _ => rfl
  | f + 1, q => by
    unfold nextHit firstIn
    cases h : hit2 T q with
    | none => simp only [Option.isSome_none, Bool.false_eq_true, if_false]; exact firstIn_next T f (q + 1)
    | some e => simp [h]
theorem firstIn_hit {T : Array Nat} : ∀ {f q p}, firstIn T f q = some p → ∃ e, hit2 T p = some e
  | 0, _, _, h => by cases h
  | f + 1, q, p, h => by
    unfold firstIn at h
    split at h
    · cases h; rename_i h'; exact Option.isSome_iff_exists.mp h'
    · exact firstIn_hit h
theorem inSet2 (c : Nat) (sn : Seen) : ∃ s1 s2 s3, inSet C2 c C2.size 5 true sn = (if (c == 10) = true then .ok (true, s1) else if (c == 13) = true then .ok (true, s2) else .ok (false, s3)) := ⟨_, _, _, rfl⟩
theorem admitted2 {m : M} {T : Array Nat} (h1 : m.code = C2) (h2 : m.text = T) (h3 : m.lim = T.size) : ∀ f q sn, q + f = T.size + 1 → ∃ sn', M.admitted m f q sn = .ok (firstIn T f q, sn')
  | 0, q, sn, _ => ⟨sn, rfl⟩
  | f + 1, q, sn, hq => by
    unfold M.admitted firstIn
    rw [h3]
    by_cases hl : q ≥ T.size
    · rw [if_pos hl]
      have hf : f = 0 := by omega
      subst hf
      have : hit2 T q = none := by unfold hit2; rw [if_neg (by omega)]
      rw [this]
      exact ⟨sn, rfl⟩
    · rw [if_neg hl, h1, h2]
      obtain ⟨s1, s2, s3, e⟩ := inSet2 (T.getD q 0) sn
      rw [e]
      have hlt : q < T.size := by omega
      by_cases h10 : (T.getD q 0 == 10) = true
      · rw [if_pos h10]
        have : hit2 T q = some (q + 1) := by unfold hit2; rw [if_pos hlt, if_pos h10]
        rw [this]
        exact ⟨s1, rfl⟩
      · rw [if_neg h10]
        by_cases h13 : (T.getD q 0 == 13) = true
        · rw [if_pos h13]
          have : (hit2 T q).isSome = true := by unfold hit2; rw [if_pos hlt, if_neg h10, if_pos h13]; split <;> rfl
          rw [if_pos this]
          exact ⟨s2, rfl⟩
        · rw [if_neg h13]
          have : hit2 T q = none := by unfold hit2; rw [if_pos hlt, if_neg h10, if_neg h13]
          rw [this]
          exact admitted2 h1 h2 h3 f (q + 1) s3 (by omega)
theorem open2 (T : Array Nat) (start : Nat) (must : Bool) : Sre.forSearch C2 T 0 start T.size must =
    (if (decide (start > T.size) || decide (T.size - start < 1)) = true then st C2 T 0 must start 10 start start true [] 0 (some false) (({} : Seen).add 14)
      else (st C2 T T.size must start 10 start start true [] 0 none (({} : Seen).add 14)).attemptFrom start true) := rfl
theorem from2 {T : Array Nat} {start : Nat} {must : Bool} {sn : Seen} : (st C2 T T.size must start 10 start start true [] 0 none sn).attemptFrom start true =
    (match M.admitted (st C2 T T.size must start 10 start start true [] 0 none sn) (T.size + 1 - start) start sn with
     | .ok (some p, sn') => st C2 T T.size false p 10 p p true [frS 10 p true] 1 none sn'
     | .ok (none, sn') => st C2 T T.size must start 10 start start true [] 0 (some false) sn'
     | .error why => (st C2 T T.size must start 10 start start true [] 0 none sn).stick why) := rfl
theorem firstIn_end {T : Array Nat} : ∀ f q, q + f = T.size → firstIn T (f + 1) q = firstIn T f q
  | 0, q, h => by
    have : hit2 T q = none := by unfold hit2; rw [if_neg (by omega)]
    unfold firstIn; rw [this]; rfl
  | f + 1, q, h => by
    rw [firstIn, firstIn_end f (q + 1) (by omega)]
    conv => rhs; rw [firstIn]
theorem finds2 : Finds C2 hit2 := by
  intro T start must hs
  rw [open2]
  by_cases h : (decide (start > T.size) || decide (T.size - start < 1)) = true
  · rw [if_pos h]
    have h' : T.size - start = 0 := by simp at h; omega
    rw [h']
    exact ⟨1, _, by omega, out2, rfl, rfl⟩
  · rw [if_neg h]
    have h' : start < T.size := by simp at h; omega
    rw [from2]
    obtain ⟨sn', e⟩ := admitted2 (m := st C2 T T.size must start 10 start start true [] 0 none (({} : Seen).add 14)) (T := T) rfl rfl rfl (T.size + 1 - start) start (({} : Seen).add 14) (by omega)
    rw [e]
    have hf : T.size + 1 - start = (T.size - start) + 1 := by omega
    rw [hf, firstIn_end _ _ (by omega), firstIn_next]
    cases hp : firstIn T (T.size - start) start with
    | none => exact ⟨1, _, by omega, out2, rfl, rfl⟩
    | some p =>
      obtain ⟨e, he⟩ := firstIn_hit hp
      obtain ⟨n, m', hn, g, e1, e2, e3⟩ := try2 (T := T) (L := T.size) (o := true) (sn := sn') he
      refine ⟨n, m', by omega, g, ?_, by rw [e1]; rfl⟩
      show Ends m' ((some p).bind _)
      rw [Option.bind_some, he]
      exact ⟨e1, e2, e3⟩
end Mine
end

section
open PySem PySem.W PyProof.Rows PySem.Calls
open PySem.Builtin PySem.Builtin.Re
set_option Elab.async false
set_option linter.unusedVariables false
set_option maxRecDepth 100000
namespace Mine
theorem pat_ga : PlainAttrs "re.Pattern" := ⟨⟨"object.__getattribute__", by rw [typeLookup_type, builtinLookup_eq_fast]; kernel_rfl, by decide +kernel⟩, by rw [typeLookup_type, builtinLookup_eq_fast]; kernel_rfl⟩
theorem slot_pat_sub : Slot "re.Pattern" "sub" "re.Pattern.sub" :=
  .of (owner := "re.Pattern") (n := "sub") (by rw [typeLookup_type, builtinLookup_eq_fast]; kernel_rfl) (by decide +kernel) (by decide +kernel) (by decide +kernel)
    (by first | exact .inl (by decide +kernel) | exact .inr (by decide +kernel)) (by rw [isSubtype_type]; kernel_rfl)
theorem type_pat_sub : typeOf (.builtin "re.Pattern.sub") = pure (.type "method_descriptor") := by kernel_rfl
theorem entry_pat_sub : entryFor table "re.Pattern.sub" = some Builtin.«re.Pattern.sub» := entryFor_of_tree (by kernel_rfl)
theorem entry_pat_loop : entryFor table "re.Pattern.sub.loop" = some Builtin.«re.Pattern.sub.loop» := entryFor_of_tree (by kernel_rfl)
theorem args_pat_sub (a b c : Value) : argsOk "re.Pattern.sub" ⟨[a, b, c], []⟩ := by unfold argsOk; kernel_rfl
theorem str_no_call : typeLookup (.type "str") "__call__" = pure none := by rw [typeLookup_type, builtinLookup_eq_fast]; kernel_rfl

section
variable {prog : Program} {w : World} {A : Around} {E : Value → Shared → Prop} {s : Shared}
theorem drive_end {m' : Sre.M} {Q : Sre.M → Shared → Prop} (hd : m'.outcome.isSome = true) (h : Q m' s) : ∀ (turns n : Nat) (m : Sre.M), n ≤ 4 * (turns + 1) → Goes n m m' → wpAny (model prog w) A (reDrive (turns + 1) m) Q E s := by
  intro turns
  induction turns with
  | zero =>
    intro n m hn g
    rw [reDrive]
    show wpAny _ _ (if (Sre.M.runFor 4 m).outcome.isSome = true then pure (Sre.M.runFor 4 m) else do rule "sre.turn"; reDrive 0 (Sre.M.runFor 4 m)) _ _ _
    have e1 := g (4 - n)
    rw [show n + (4 - n) = 4 by omega, runFor_done hd] at e1
    rw [e1, if_pos hd]
    exact wpAny_pure h
  | succ turns ih =>
    intro n m hn g
    rw [reDrive]
    show wpAny _ _ (if (Sre.M.runFor 4 m).outcome.isSome = true then pure (Sre.M.runFor 4 m) else do rule "sre.turn"; reDrive (turns + 1) (Sre.M.runFor 4 m)) _ _ _
    cases hx : (Sre.M.runFor 4 m).outcome.isSome with
    | true =>
      rw [if_pos rfl]
      have e1 := g 4
      have e2 := runFor_add 4 n m
      rw [runFor_done hx, Nat.add_comm, e1, runFor_done hd] at e2
      rw [← e2]
      exact wpAny_pure h
    | false =>
      rw [if_neg (by decide)]
      refine wpAny_bind (wpAny_rule ?_)
      have hn4 : 4 ≤ n := by
        rcases Nat.lt_or_ge n 4 with hlt | hge
        · exfalso
          have e1 := g (4 - n)
          rw [show n + (4 - n) = 4 by omega, runFor_done hd] at e1
          rw [e1, hd] at hx; cases hx
        · exact hge
      refine ih (n - 4) _ (by omega) fun k => ?_
      rw [← runFor_add, show 4 + (n - 4 + k) = n + k by omega]
      exact g k
theorem rules_loop (c : Nat → Bool) (f : Nat → String) {Q : PUnit → Shared → Prop} (h : Q PUnit.unit s) : ∀ l : List Nat, wpAny (model prog w) A (forIn l PUnit.unit fun i _ => if c i = true then do
        rule (f i)
        pure (ForInStep.yield PUnit.unit)
      else pure (ForInStep.yield PUnit.unit)) Q E s
  | [] => by rw [List.forIn_nil]; exact wpAny_pure h
  | i :: l => by
    rw [List.forIn_cons]
    refine wpAny_bind ?_
    cases c i with
    | true => rw [if_pos rfl]; exact wpAny_bind (wpAny_rule (wpAny_pure (rules_loop c f h l)))
    | false => rw [if_neg (by decide)]; exact wpAny_pure (rules_loop c f h l)
theorem run_end {m m' : Sre.M} {n : Nat} {r : Option (Nat × Nat)} {Q : Option Sre.M → Shared → Prop} (hn : n ≤ 4 * 2 ^ 63) (g : Goes n m m') (e : Ends m' r) (hd : m'.outcome.isSome = true)
    (h : Q (r.map fun _ => m') s) : wpAny (model prog w) A (reRunToEnd m) Q E s := by
  unfold reRunToEnd
  have e64 : (2 : Nat) ^ 64 = (2 ^ 64 - 1) + 1 := by decide
  rw [e64]
  refine wpAny_bind (drive_end hd ?_ (2 ^ 64 - 1) n m (by omega) g)
  refine wpAny_bind (rules_loop _ _ ?_ _)
  cases r with
  | some pe => obtain ⟨e1, _, _⟩ := e; rw [e1]; exact wpAny_pure h
  | none => have e1 : m'.outcome = _ := e; rw [e1]; exact wpAny_pure h
end

/-- a compiled pattern of the heap -/
structure IsPat (h : Heap) (a : Addr) (C : Array Nat) : Prop where
  here : ∃ src t fl ft c co items n, h.get? a = some { cls := .type "re.Pattern", data := .fields #[.str src t, .int fl ft, .int 0 0, .none, .none, .ref c, .int 0 0] } ∧
    h.get? c = some co ∧ co.data = .seq items n ∧ (items.map reRawOf).map (·.toNat) = C

/-- what a substitution gives, from a place on -/
def subOf (hit : Nat → Option Nat) (repl : List Nat) (T : Array Nat) : Nat → Nat → List Nat
  | 0, q => T.toList.drop q
  | f + 1, q => match nextHit hit (T.size - q) q with
    | none => T.toList.drop q
    | some (p, e) => (T.toList.drop q).take (p - q) ++ repl ++ subOf hit repl T f e

section
variable {prog : Program} {w : World} {A : Around} {E : Value → Shared → Prop} {s : Shared}
theorem whole_target {a : Addr} {C : Array Nat} {x : Str} {t : Tok} {Q : ReTarget → Shared → Prop} (hp : IsPat s.heap a C) (h : Q { pattern := .ref a, string := .str x t, code := C, text := x.cps, kind := 0, groups := 0, pos := 0, lim := x.cps.size } s) :
    wpAny (model prog w) A (reWholeTarget (.ref a) (.str x t)) Q E s := by
  obtain ⟨src, t1, fl, ft, c, co, items, n, ho, hc, hd, rfl⟩ := hp.here
  unfold reWholeTarget
  refine wpAny_bind (wpAny_fieldsOf ho rfl ?_)
  refine wpAny_bind (wpAny_pure ?_)
  refine wpAny_bind (wpAny_pure ?_)
  refine wpAny_bind ?_
  unfold reRawItems
  show wpAny _ _ (do let xs ← seqItems? (.ref c); pure ((xs.getD #[]).map reRawOf)) _ _ _
  refine wpAny_bind (wpAny_seqItems hc hd ?_)
  exact wpAny_pure (wpAny_pure h)
end
end Mine
end

section
open PySem PySem.W PyProof.Rows PySem.Calls
open PySem.Builtin PySem.Builtin.Re
set_option Elab.async false
set_option linter.unusedVariables false
set_option maxRecDepth 100000
namespace Mine
/-- texts put together -/
def joinL (sep : List Nat) : List (List Nat) → List Nat
  | [] => []
  | [x] => x
  | x :: y :: r => x ++ sep ++ joinL sep (y :: r)
theorem append_list (x y : Str) : (x ++ y).cps.toList = x.cps.toList ++ y.cps.toList := by
  show (Str.append x y).cps.toList = _
  simp [Str.append]
theorem join_list (sep : Str) : ∀ (l : List Str), (Txt.join sep l).cps.toList = joinL sep.cps.toList (l.map fun s => s.cps.toList) := by
  intro l
  show (Builtin.Str.glued sep l).cps.toList = _
  rw [StrLaws.glued_eq_join]
  induction l with
  | nil => rfl
  | cons x r ih =>
    cases r with
    | nil => rfl
    | cons y r =>
      rw [join_cons_cons, append_list, append_list, ih]; rfl
theorem joinL_nil : ∀ (l : List (List Nat)), joinL [] l = l.flatten
  | [] => rfl
  | [x] => by simp [joinL]
  | x :: y :: r => by rw [joinL, joinL_nil (y :: r)]; simp
theorem joinOk_of {sep : Str} {l : List Str} (h : (l.map fun s => s.length + sep.length).sum ≤ sizeLine) : JoinOk sep l = true := by
  have e : ∀ (l : List Str) (k : Nat), l.foldl (fun a s => a + s.length + sep.length) k = k + (l.map fun s => s.length + sep.length).sum := by
    intro l
    induction l with
    | nil => intro k; simp
    | cons x r ih => intro k; rw [List.foldl_cons, ih, List.map_cons, List.sum_cons]; omega
  unfold JoinOk Builtin.Str.tooLong
  have e2 : l.toArray.foldl (fun a s => a + s.length + sep.length) 0 = (l.map fun s => s.length + sep.length).sum := by
    have := e l 0
    rw [Nat.zero_add] at this
    rw [← this]; simp
  rw [e2]
  simp; omega

theorem nextHit_spec {hit : Nat → Option Nat} : ∀ {f q p e}, nextHit hit f q = some (p, e) → q ≤ p ∧ p < q + f ∧ hit p = some e
  | 0, _, _, _, h => by cases h
  | f + 1, q, p, e, h => by
    unfold nextHit at h
    split at h
    · cases h; rename_i h'; exact ⟨Nat.le_refl _, by omega, h'⟩
    · obtain ⟨h1, h2, h3⟩ := nextHit_spec h
      exact ⟨by omega, by omega, h3⟩

section
variable {prog : Program} {w : World} {A : Around} {E : Value → Shared → Prop} {s : Shared}
def loopArgs (a : Addr) (x : Str) (t : Tok) (r : Str) (u : Tok) (n done start : Int) (must : Bool) (D : Addr) : List Value :=
  [.ref a, .str x t, .str r u, .int 0 0, .int 0 0, .int n 0, .int done 0, .int start 0, .bool must, .ref D, .bool false]
/-- what the pieces are so far -/
structure Pieces (O : Fb) (D : Addr) (s₀ s : Shared) (l : List (Str × Tok)) : Prop where
  kp : Kp s₀ s
  new : s₀.heap.get? D = none
  here : ∃ m, IsLs s.heap D (strValues l).toArray m
  tok : ∀ p ∈ l, ¬ O.tk p.2 ∧ p.2 < s.toks
theorem Pieces.push {O : Fb} {D : Addr} {s₀ s : Shared} {l : List (Str × Tok)} (P : Pieces O D s₀ s l) {y : Str} {t : Tok} (ht : ¬ O.tk t ∧ t < s.toks) (hz : l.length + 1 ≤ sizeLine) {Q : Unit → Shared → Prop}
    (q : ∀ s', Pieces O D s₀ s' (l ++ [(y, t)]) → s'.toks = s.toks → Q () s') : wpAny (model prog w) A (updateSeq D fun x => x.push (.str y t)) Q E s := by
  obtain ⟨m, hm⟩ := P.here
  have hu := IsL.update (show IsL s.heap D (strValues l).toArray m from hm) fun x => x.push (.str y t)
  refine wpAny_updateSeq hm rfl (q { s with heap := s.heap.update D (Obj.mapSeq fun x => x.push (.str y t)) } ⟨?_, P.new, ⟨_, (by simpa [strValues] using hu)⟩, fun p hp => ?_⟩ rfl) (by simp [strValues]; omega) (by simp [strValues]; omega)
  · obtain ⟨h, tk, rfl, le, k⟩ := P.kp
    exact ⟨_, _, rfl, le, fun b o e => (Heap.SameBut.update _ _ _).extBut b o (fun e' => by rw [e', P.new] at e; cases e) (k b o e)⟩
  · rcases List.mem_append.mp hp with hp | hp
    · exact P.tok p hp
    · rw [List.mem_singleton.mp hp]; exact ht
theorem Pieces.fresh {O : Fb} {D : Addr} {s₀ s : Shared} {l : List (Str × Tok)} (P : Pieces O D s₀ s l) : Pieces O D s₀ { s with toks := s.toks + 1 } l :=
  ⟨Kp.trans' P.kp (Kp.tok _ _ (Nat.le_succ _)), P.new, P.here, fun p hp => ⟨(P.tok p hp).1, Nat.lt_succ_of_lt (P.tok p hp).2⟩⟩

theorem slice_ok {O : Fb} {D : Addr} {s₀ s : Shared} {l : List (Str × Tok)} (hex : Ex O s₀) (P : Pieces O D s₀ s l) {T : Array Nat} {b e : Nat} (hz : T.size ≤ sizeLine) {Q : Value → Shared → Prop}
    (q : ∀ t s', Pieces O D s₀ s' l → (¬ O.tk t ∧ t < s'.toks) → Q (.str ⟨T.extract b e⟩ t) s') : wpAny (model prog w) A (reSlice T 0 b e) Q E s := by
  show wpAny _ _ (mkStr ⟨T.extract b e⟩) _ _ _
  exact wpAny_mkStr (q _ _ P.fresh ⟨(hex.keep P.kp).notk (Nat.le_refl _), Nat.lt_succ_self _⟩) (by show (T.extract b e).size ≤ _; rw [Array.size_extract]; omega)

theorem loop_end {O : Fb} {a D : Addr} {C : Array Nat} {hit : Array Nat → Nat → Option Nat} (hf : Finds C hit) {x r : Str} {t u : Tok} {s₀ : Shared} {R : Result → Shared → Prop} (hex : Ex O s₀) (hx : x.cps.size ≤ 10000) (hr : r.cps.size ≤ 2)
    (hh : ∀ p e, hit x.cps p = some e → p < e ∧ e ≤ x.cps.size) (hp : IsPat s₀.heap a C) (hu : ¬ O.tk u ∧ u < s₀.toks) :
    ∀ (f q : Nat) (n : Int) (must : Bool) (l : List (Str × Tok)) (s : Shared), x.cps.size - q ≤ f → q ≤ x.cps.size → Pieces O D s₀ s l → l.length ≤ 2 * q → (l.map fun p => p.1.length).sum ≤ 3 * q →
      (∀ t' s', Kp s₀ s' → (¬ O.tk t' ∧ t' < s'.toks) → R (.ok (.ret (.str ⟨((l.map fun p => p.1.cps.toList).flatten ++ subOf (hit x.cps) r.cps.toList x.cps f q).toArray⟩ t'))) s') →
      codeAny (model prog w) A (.builtin "re.Pattern.sub.loop" ⟨loopArgs a x t r u n q q must D, []⟩) R s := by
  have hbig : 100000 ≤ sizeLine := by decide
  have hxz : x.cps.size ≤ sizeLine := Nat.le_trans hx (by decide)
  -- what is behind a search that finds nothing
  have tail : ∀ (f q : Nat) (n : Int) (must : Bool) (l : List (Str × Tok)) (s : Shared), nextHit (hit x.cps) (x.cps.size - q) q = none → q ≤ x.cps.size → Pieces O D s₀ s l → l.length ≤ 2 * q → (l.map fun p => p.1.length).sum ≤ 3 * q →
      (∀ t' s', Kp s₀ s' → (¬ O.tk t' ∧ t' < s'.toks) → R (.ok (.ret (.str ⟨((l.map fun p => p.1.cps.toList).flatten ++ x.cps.toList.drop q).toArray⟩ t'))) s') →
      codeAny (model prog w) A (.builtin "re.Pattern.sub.loop" ⟨loopArgs a x t r u n q q must D, []⟩) R s := by
    intro f q n must l s hnh hq P hl hs hR
    refine codeAny_builtin entry_pat_loop ?_
    unfold Builtin.«re.Pattern.sub.loop» loopArgs
    have hpat : IsPat s.heap a C := by
      obtain ⟨src, t1, fl, ft, c, co, items, n, ho, hc, rest⟩ := hp.here
      exact ⟨src, t1, fl, ft, c, co, items, n, P.kp.get _ _ ho, P.kp.get _ _ hc, rest⟩
    refine wpAny_bind (whole_target hpat ?_)
    refine wpAny_bind (wpAny_pure ?_)
    obtain ⟨n', m', hn', g, e, d⟩ := hf x.cps q must hq
    refine wpAny_bind (run_end (by omega) g e d ?_)
    rw [hnh]
    -- the join of all pieces
    have fin : ∀ (l' : List (Str × Tok)) (s' : Shared), Pieces O D s₀ s' l' → l'.length ≤ 2 * x.cps.size + 1 → (l'.map fun p => p.1.length).sum ≤ 4 * x.cps.size → (l'.map fun p => p.1.cps.toList).flatten = (l.map fun p => p.1.cps.toList).flatten ++ x.cps.toList.drop q →
        ∀ A', wpAny (model prog w) A' (do
          let joiner ← reSlice x.cps 0 0 0
          let xs ← seqItems? (.ref D)
          let text ← if (xs.getD #[]).isEmpty = true then pure joiner else call (.builtin (if ((0 : Nat) == 0) = true then "str.join" else "bytes.join")) [joiner, .ref D]
          ret text) (fun fin s' => match fin with | .done f => R (.ok f) s' | .again c' => c'.quiet = true ∧ codeAny (model prog w) A c' R s') (fun e s' => R (.error e) s') s' := by
      intro l' s' P' hl' hs' htx A'
      refine wpAny_bind (slice_ok hex P' hxz fun tj s2 P2 hj => ?_)
      obtain ⟨m2, hm2⟩ := P2.here
      refine wpAny_bind (wpAny_seqItems hm2 rfl ?_)
      have e0 : x.cps.extract 0 0 = #[] := by simp
      rw [e0]
      refine wpAny_ite_split (fun hemp => wpAny_bind (wpAny_pure (wpAny_pure ?_))) (fun _ => wpAny_bind ?_)
      · have : l' = [] := by
          cases l' with
          | nil => rfl
          | cons _ _ => simp [strValues] at hemp
        subst this
        have := hR tj s2 P2.kp hj
        rw [← htx] at this
        exact this
      · refine call_join (texts := l'.map (·.1)) (IsLs.isList hm2) rfl (joinOk_of ?_) fun t' k ht' hk => ?_
        · have e1 : (List.map (fun s : Str => s.length + (⟨#[]⟩ : Str).length) (List.map (fun x => x.fst) l')) = l'.map fun p => p.1.length := by
            rw [List.map_map]; rfl
          rw [e1]
          exact Nat.le_trans hs' (Nat.le_trans (Nat.mul_le_mul_left 4 hx) (by decide))
        · have et : Txt.join ⟨#[]⟩ (l'.map (·.1)) = ⟨((l.map fun p => p.1.cps.toList).flatten ++ x.cps.toList.drop q).toArray⟩ := by
            have := join_list ⟨#[]⟩ (l'.map (·.1))
            rw [show (⟨#[]⟩ : Str).cps.toList = [] from rfl, joinL_nil, List.map_map] at this
            rw [← htx]
            rw [str_of (Txt.join ⟨#[]⟩ (l'.map (·.1))), this]; rfl
          rw [et]
          refine wpAny_pure (hR t' _ (Kp.trans' P2.kp (Kp.tok _ _ hk)) ?_)
          rcases ht' with ⟨rfl, hlt⟩ | ⟨p, e, rfl⟩
          · exact ⟨(hex.keep P2.kp).notk (Nat.le_refl _), hlt⟩
          · have := P2.tok p (by rw [e]; exact List.mem_cons_self)
            exact ⟨this.1, Nat.lt_of_lt_of_le this.2 hk⟩
    refine wpAny_ite_split (fun hlt => ?_) (fun hge => ?_)
    · have hlt : q < x.cps.size := hlt
      refine wpAny_bind (slice_ok hex P hxz fun t1 s1 P1 h1 => wpAny_bind (P1.push h1 (by omega) fun s2 P2 _ => ?_))
      refine fin _ s2 P2 (by simp; omega) ?_ ?_ _
      · simp only [List.map_append, List.map_cons, List.map_nil, List.sum_append, List.sum_cons, List.sum_nil]
        show _ + ((x.cps.extract q x.cps.size).size + 0) ≤ _
        rw [Array.size_extract]; omega
      · simp only [List.map_append, List.map_cons, List.map_nil, List.flatten_append, List.flatten_cons, List.flatten_nil, List.append_nil]
        congr 1
        simp
        exact List.take_of_length_le (by simp)
    · have hge : ¬ q < x.cps.size := hge
      refine fin l s P (by omega) (by omega) ?_ _
      rw [List.drop_eq_nil_of_le (by simp; omega), List.append_nil]
  intro f
  induction f with
  | zero =>
    intro q n must l s hfq hq P hl hs hR
    refine tail 0 q n must l s ?_ hq P hl hs hR
    rw [show x.cps.size - q = 0 by omega]; rfl
  | succ f ih =>
    intro q n must l s hfq hq P hl hs hR
    cases hnh : nextHit (hit x.cps) (x.cps.size - q) q with
    | none =>
      refine tail (f + 1) q n must l s hnh hq P hl hs ?_
      rw [subOf, hnh] at hR
      exact hR
    | some pe =>
      obtain ⟨p, e⟩ := pe
      obtain ⟨hqp, hpz, hpe⟩ := nextHit_spec hnh
      obtain ⟨hlt, hez⟩ := hh p e hpe
      rw [subOf, hnh] at hR
      refine codeAny_builtin entry_pat_loop ?_
      unfold Builtin.«re.Pattern.sub.loop» loopArgs
      have hpat : IsPat s.heap a C := by
        obtain ⟨src, t1, fl, ft, c, co, items, n, ho, hc, rest⟩ := hp.here
        exact ⟨src, t1, fl, ft, c, co, items, n, P.kp.get _ _ ho, P.kp.get _ _ hc, rest⟩
      refine wpAny_bind (whole_target hpat ?_)
      refine wpAny_bind (wpAny_pure ?_)
      obtain ⟨n', m', hn', g, ee, d⟩ := hf x.cps q must hq
      refine wpAny_bind (run_end (by omega) g ee d ?_)
      rw [hnh] at ee ⊢
      obtain ⟨_, e1, e2⟩ := ee
      have push2 : ∀ (l' : List (Str × Tok)) (s' : Shared) A', Pieces O D s₀ s' l' → l'.length ≤ 2 * q + 1 → (l'.map fun p => p.1.length).sum ≤ 3 * q + (p - q) → (l'.map fun p => p.1.cps.toList).flatten = (l.map fun p => p.1.cps.toList).flatten ++ (x.cps.toList.drop q).take (p - q) →
          wpAny (model prog w) A' (do
            updateSeq D fun y => y.push (.str r u)
            again (.builtin "re.Pattern.sub.loop" ⟨[.ref a, .str x t, .str r u, rawInt 0, rawInt 0, rawInt (n + 1), rawInt ↑m'.handed, rawInt ↑m'.handed, .bool (m'.handed == m'.start), .ref D, .bool false], []⟩))
            (fun fin s' => match fin with | .done f => R (.ok f) s' | .again c' => c'.quiet = true ∧ codeAny (model prog w) A c' R s') (fun e s' => R (.error e) s') s' := by
        intro l' s' A' P' hl' hs' htx
        refine wpAny_bind (P'.push ⟨hu.1, Nat.lt_of_lt_of_le hu.2 P'.kp.le⟩ (by omega) fun s2 P2 _ => wpAny_pure ⟨Code.quiet_builtin _ (by decide +kernel), ?_⟩)
        rw [e2]
        refine ih e (n + 1) _ _ s2 (by omega) hez P2 (by simp; omega) ?_ fun t' s3 k3 h3 => ?_
        · simp only [List.map_append, List.map_cons, List.map_nil, List.sum_append, List.sum_cons, List.sum_nil]
          show _ + (r.cps.size + 0) ≤ _
          omega
        · have := hR t' s3 k3 h3
          simp only [List.map_append, List.map_cons, List.map_nil, List.flatten_append, List.flatten_cons, List.flatten_nil, List.append_nil, htx] at this ⊢
          simpa using this
      refine wpAny_ite_split (fun hlt => ?_) (fun hge => ?_)
      · have hlt : q < m'.start := hlt
        rw [e1] at hlt
        refine wpAny_bind (slice_ok hex P hxz fun t1 s1 P1 h1 => wpAny_bind (P1.push h1 (by omega) fun s2 P2 _ => ?_))
        refine push2 _ s2 _ P2 (by simp; omega) ?_ ?_
        · simp only [List.map_append, List.map_cons, List.map_nil, List.sum_append, List.sum_cons, List.sum_nil]
          show _ + ((x.cps.extract q m'.start).size + 0) ≤ _
          rw [Array.size_extract, e1]; omega
        · simp only [List.map_append, List.map_cons, List.map_nil, List.flatten_append, List.flatten_cons, List.flatten_nil, List.append_nil]
          congr 1
          rw [e1]
          simp [List.take_drop, Nat.add_sub_cancel' (Nat.le_of_lt hlt)]
      · have hge : ¬ q < m'.start := hge
        rw [e1] at hge
        have hpq : p = q := by omega
        refine push2 l s _ P (by omega) (by omega) ?_
        rw [hpq, Nat.sub_self]; simp
end
end Mine
end

section
open PySem PySem.W PyProof.Rows PySem.Calls
open PySem.Builtin PySem.Builtin.Re
set_option Elab.async false
set_option linter.unusedVariables false
set_option maxRecDepth 100000
namespace Mine
section
variable {B : Bk}
theorem named_sub (a b : Value) : reNamed "re.Pattern.sub" "sub" ["repl", "string", "count"] 2 [a, b] [] = pure [some a, some b, none] := rfl
theorem sub_meets {a : Addr} {x r : Str} {t u : Tok} (hn : r.cps.contains 92 = false) : Meets (Builtin.«re.Pattern.sub» ⟨[.ref a, .str r u, .str x t], []⟩) (fun A R s => ∃ C, IsPat s.heap a C ∧ 
    ∀ prog w, codeAny (model prog w) A (.builtin "re.Pattern.sub.loop" ⟨loopArgs a x t r u 0 0 0 false s.heap.objs.size, []⟩) R { s with heap := s.heap.push { cls := .type "list", data := .seq ([] : List Value).toArray } }) := by
  intro prog w A R s ⟨C, hp, h⟩
  unfold Builtin.«re.Pattern.sub» reSubstitute
  refine wpAny_bind ?_
  rw [named_sub]
  refine wpAny_pure ?_
  refine wpAny_bind (wpAny_pure ?_)
  refine wpAny_bind (wpAny_specialOf (typeIs_str s r u) str_no_call ?_)
  refine wpAny_bind (wpAny_pure ?_)
  refine wpAny_bind (wpAny_pure ?_)
  refine wpAny_ite_split (fun h => absurd h (by decide)) (fun _ => ?_)
  refine wpAny_ite_split (fun _ => ?_) (fun hl => absurd (by rw [hn]; rfl) hl)
  refine wpAny_bind (wpAny_pure ?_)
  refine wpAny_bind (wpAny_holding (whole_target hp ?_))
  refine wpAny_bind (wpAny_newList ?_ (Nat.zero_le _))
  exact wpAny_pure ⟨Code.quiet_builtin _ (by decide +kernel), h prog w⟩

theorem Ca_sub {a : Addr} {C : Array Nat} {hit : Array Nat → Nat → Option Nat} (hf : Finds C hit) (hp : IsPat B.top a C) {x r : List Nat} (hx : x.length ≤ 10000) (hr : r.length ≤ 2) (hno : r.contains 92 = false)
    (hh : ∀ p e, hit x.toArray p = some e → p < e ∧ e ≤ x.length) : Ca B "re.Pattern.sub" [.raw (.ref a), .str r, .str x] (.str (subOf (hit x.toArray) r x.toArray x.length 0)) := fun A O s vs Q E hh' lo on rs hex q => by
  cases rs with | cons r1 t => cases t with | cons r2 t => cases t with | cons r3 t => cases t with | nil =>
  cases r1
  obtain ⟨u, rfl, hu, hub⟩ := r2.str_inv
  obtain ⟨t, rfl, ht, htb⟩ := r3.str_inv
  have hpat : IsPat s.heap a C := by
    obtain ⟨src, t1, fl, ft, c, co, items, n, ho, hc, rest⟩ := hp.here
    exact ⟨src, t1, fl, ft, c, co, items, n, on.1 _ _ ho, on.1 _ _ hc, rest⟩
  have hT : s.TypeIs (.ref a) "re.Pattern" := by
    obtain ⟨src, t1, fl, ft, c, co, items, n, ho, _⟩ := hpat.here
    exact ⟨_, ho, rfl⟩
  refine call_meets slot_pat_sub hT entry_pat_sub (args_pat_sub _ _ _) (sub_meets (by simpa using hno)) ⟨C, hpat, fun prog w => ?_⟩
  have kp := Kp.push s { cls := .type "list", data := .seq ([] : List Value).toArray }
  have P : Pieces O s.heap.objs.size s { s with heap := s.heap.push { cls := .type "list", data := .seq ([] : List Value).toArray } } [] :=
    ⟨kp, fresh_size _, ⟨0, Heap.get?_push_size _ rfl⟩, fun p hp => nomatch hp⟩
  refine loop_end (O := O) (s₀ := s) (x := ⟨x.toArray⟩) (r := ⟨r.toArray⟩) hf hex (by simpa using hx) (by simpa using hr) (by simpa using hh) hpat ⟨hu, hub⟩ x.length 0 0 false [] _ (by simp) (Nat.zero_le _) P (Nat.zero_le _) (Nat.zero_le _) fun t' s' k h' => ?_
  refine q _ s' k ?_
  simp only [List.map_nil, List.flatten_nil, List.nil_append]
  exact .str h'.1 h'.2
theorem Ty_pat {a : Addr} {C : Array Nat} (hp : IsPat B.top a C) : Ty B (.raw (.ref a)) "re.Pattern" := fun O s v on r => by
  cases r
  obtain ⟨src, t1, fl, ft, c, co, items, n, ho, _⟩ := hp.here
  exact ⟨⟨_, on.1 _ _ ho, rfl⟩, fun b e => by cases e; exact ⟨_, on.1 _ _ ho, rfl⟩⟩
end
end Mine
end

section
open PySem PySem.W PyProof.Rows PySem.Calls
set_option Elab.async false
set_option linter.unusedVariables false
namespace Mine
theorem ints_pick {vs : List Value} {ns : List Int} (h : IntsAre vs ns) : ∀ l : List Nat, IntsAre (l.filterMap (vs[·]?)) (l.filterMap (ns[·]?))
  | [] => .nil
  | i :: l => by
    have get : ∀ {vs : List Value} {ns : List Int}, IntsAre vs ns → ∀ i : Nat, (vs[i]? = none ∧ ns[i]? = none) ∨ ∃ n t, vs[i]? = some (.int n t) ∧ ns[i]? = some n := by
      intro vs ns h
      induction h with
      | nil => intro i; exact .inl ⟨rfl, rfl⟩
      | cons n t r ih =>
        intro i
        cases i with
        | zero => exact .inr ⟨n, t, rfl, rfl⟩
        | succ i => simpa using ih i
    rcases get h i with ⟨h1, h2⟩ | ⟨n, t, h1, h2⟩
    · rw [List.filterMap_cons, List.filterMap_cons]
      simp only [h1, h2]
      exact ints_pick h l
    · rw [List.filterMap_cons, List.filterMap_cons]
      simp only [h1, h2]
      exact .cons n t (ints_pick h l)
/-- every so many of a list of ints -/
def pickI (lo hi st : Option Int) (ns : List Int) : List Int := (sliceRange (sliceBounds lo hi st ns.length).1 (sliceBounds lo hi st ns.length).2.1 (sliceBounds lo hi st ns.length).2.2).filterMap (ns[·]?)
theorem pickI_mem {lo hi st : Option Int} {ns : List Int} {x : Int} (h : x ∈ pickI lo hi st ns) : x ∈ ns := by
  obtain ⟨i, _, e⟩ := List.mem_filterMap.mp h
  exact List.mem_of_getElem? e
section
variable {B : Bk} {C : Cx} {σ : Vars} {ow : Own}
theorem Ev_slice_ints {value : Expr} {lower upper step : Option Expr} {p pos : Pos} {ns : List Int} {lo hi st : Option Int} (h1 : Ev B C σ ow value (.list (ns.map .int))) (h2 : EvP B C σ ow lower lo) (h3 : EvP B C σ ow upper hi) (h4 : EvP B C σ ow step st) (h0 : st ≠ some 0) :
    Ev B C σ ow (.Subscript value (.Slice lower upper step p) pos) (.list ((pickI lo hi st ns).map .int)) := fun s Q E f q =>
  PyProof.Rows.Subscript_ (h1 s _ E f fun v s₁ k₁ r₁ => by
    refine wpAny_Slice (h2 s₁ _ E (f.keep k₁) fun vl s₂ k₂ p₂ _ => h3 s₂ _ E ((f.keep k₁).keep k₂) fun vu s₃ k₃ p₃ _ => h4 s₃ _ E (((f.keep k₁).keep k₂).keep k₃) fun vs s₄ k₄ p₄ _ => ?_)
    have r₄ := ((r₁.keep k₂).keep k₃).keep k₄
    have f₄ := (((f.keep k₁).keep k₂).keep k₃).keep k₄
    obtain ⟨a, items, n, rfl, ho, hl, hz, hi'⟩ := rep_ints r₄
    have hl' : (s₄.heap.push { cls := .type "slice", data := .fields #[vl, vu, vs] }).IsList a items := (IsLs.isList hl).push _
    have kp : Kp s₄ { s₄ with heap := (s₄.heap.push { cls := .type "slice", data := .fields #[vl, vu, vs] }).push { cls := .type "list", data := .seq (slicePick items lo hi st) } } :=
      ⟨_, s₄.toks, rfl, Nat.le_refl _, fun b o e => Heap.get?_push_of_some _ (Heap.get?_push_of_some _ e)⟩
    refine tail_any hl'.typeIs slot_list_getitem.lookup (wpAny_getItem_list_slice (s := { s₄ with heap := _ }) hl' (Heap.IsSliceOf.new ..) p₂ p₃ p₄ h0 ?_ hz)
    have hlen : items.size = ns.length := by rw [← hi'.length, Array.length_toList]
    have hp : IntsAre (slicePick items lo hi st).toList (pickI lo hi st ns) := by
      have := ints_pick hi' (sliceRange (sliceBounds lo hi st ns.length).1 (sliceBounds lo hi st ns.length).2.1 (sliceBounds lo hi st ns.length).2.2)
      unfold slicePick pickI
      rw [hlen]
      simpa using this
    refine q _ _ (Kp.trans' (Kp.trans' (Kp.trans' (Kp.trans' k₁ k₂) k₃) k₄) kp) (.list (n := 0) ?_ (Heap.get?_push_size _ rfl) (Nat.le_trans (slicePick_size_le ..) hz) (by have := hp.length; simpa using this.symm) fun i y v q1 q2 => (intsAre_rep hp i y v q1 (by simpa using q2)))
    intro hm; obtain ⟨o, e'⟩ := f₄.ex _ hm
    have := Heap.lt_size e'
    rw [Heap.size_push] at this
    exact absurd this (Nat.not_lt.mpr (Nat.le_succ _)))
end
section
variable {B : Bk}
theorem join_rep {sep : List Nat} {ss : List (List Nat)} : (Txt.join ⟨sep.toArray⟩ (ss.map fun s => (⟨s.toArray⟩ : Str))).cps.toList = joinL sep ss := by
  rw [join_list, List.map_map]
  show joinL sep (ss.map fun s => s) = _
  rw [List.map_id']
theorem Ca_joinL {sep : List Nat} {ps : List PV} {ss : List (List Nat)} (hps : ps.map txt = ss.map some) (h1 : ∀ x, ps ≠ [.strX x]) (hsz : (ss.map fun s => s.length + sep.length).sum ≤ sizeLine) :
    Ca B "str.join" [.str sep, .list ps] (.str (joinL sep ss)) := by
  have := Ca_joinX (B := B) (sep := sep) hps h1 (joinOk_of (by
    rw [List.map_map]
    have e : ((fun s : Str => s.length + (⟨sep.toArray⟩ : Str).length) ∘ fun s : List Nat => (⟨s.toArray⟩ : Str)) = fun s => s.length + sep.length := by
      funext s; simp [Str.length]
    rw [e]; exact hsz))
  rw [join_rep] at this
  exact this
end
end Mine
end

section
open PySem PySem.W PyProof.Rows PySem.Calls
set_option Elab.async false
set_option linter.unusedVariables false
set_option maxRecDepth 100000
namespace Mine
abbrev TW : Program := PySem.Challenge.pw_ta0047_01
def defAt (i : Nat) : DefRec := match TW.main.body.drop i with
  | .FunctionDef n a b _ _ _ sc _ _ pos :: _ => ⟨n, a, b, sc, pos⟩
  | _ => ⟨"", default, [], default, default⟩
@[irreducible] def dFlags : DefRec := defAt 3
@[irreducible] def dGt : DefRec := defAt 5
@[irreducible] def dAdd : DefRec := defAt 6
@[irreducible] def dAnd : DefRec := defAt 7
@[irreducible] def dShl : DefRec := defAt 8
@[irreducible] def dSub : DefRec := defAt 9
@[irreducible] def dConcat : DefRec := defAt 10
@[irreducible] def dContains : DefRec := defAt 11
@[irreducible] def dIndexOf : DefRec := defAt 12
@[irreducible] def dQuote : DefRec := defAt 17
@[irreducible] def dInB1 : DefRec := defAt 20
@[irreducible] def dMapB3 : DefRec := defAt 22
@[irreducible] def dCells : DefRec := defAt 24
@[irreducible] def dNames : DefRec := defAt 25
@[irreducible] def dSign : DefRec := defAt 26
@[irreducible] def dChosen : DefRec := defAt 27
@[irreducible] def dSent : DefRec := defAt 28
@[irreducible] def dLaw : DefRec := defAt 29

def biNames : List Str := ["range", "hex", "len", "sum", "chr", "ord", "min", "sorted", "enumerate", "hasattr"]
/-- all that the walks ask of what stands behind them -/
structure Bk.All (B : Bk) : Prop where
  ok : B.Ok
  free : ∀ n ∈ biNames, B.mg n = none
  bt : ∀ n ∈ biNames, B.mb n = bootBuiltins n
  nb : NoneBooked B.top
  dFlags : ∃ a, IsDef B "pretty_flags" dFlags a
  dGt : ∃ a, IsDef B "gt" dGt a
  dAdd : ∃ a, IsDef B "add" dAdd a
  dAnd : ∃ a, IsDef B "and_" dAnd a
  dShl : ∃ a, IsDef B "lshift" dShl a
  dSub : ∃ a, IsDef B "sub" dSub a
  dConcat : ∃ a, IsDef B "concat" dConcat a
  dContains : ∃ a, IsDef B "contains" dContains a
  dIndexOf : ∃ a, IsDef B "indexOf" dIndexOf a
  dQuote : ∃ a, IsDef B "quotedata" dQuote a
  dInB1 : ∃ a, IsDef B "in_table_b1" dInB1 a
  dMapB3 : ∃ a, IsDef B "map_table_b3" dMapB3 a
  dCells : ∃ a, IsDef B "_law_cells" dCells a
  dNames : ∃ a, IsDef B "_law_names" dNames a
  dSign : ∃ a, IsDef B "_law_sign" dSign a
  dChosen : ∃ a, IsDef B "_law_chosen" dChosen a
  dSent : ∃ a, IsDef B "_law_sent" dSent a

/-- a table of strs under ints, as the top left it -/
def Told (B : Bk) (f : Int → Option Value) (tab : Int → Option (List Nat)) : Prop := ∀ k, match tab k with
  | some x => ∃ t, f k = some (.str ⟨x.toArray⟩ t) ∧ t ≠ 0 ∧ t < B.lo ∧ t < B.t₀
  | none => f k = none
def pairOf : Option Expr × Expr → Option (Int × List Nat)
  | (some (.Constant (.int i) _ _), .Constant (.str x) _ _) => some (i, x.cps.toList)
  | _ => none
/-- the entries of a dict display of the text -/
def entriesAt (i : Nat) : List (Int × List Nat) := match TW.main.body.drop i with
  | .Assign _ (.Dict ks vs _) _ :: _ => (ks.zip vs).filterMap pairOf
  | _ => []
theorem kind_of {C : Cx} {sc : Scope} {n : Str} {k : NameKind} (h : C.env.scope = sc) (e : sc.names.lookup n = some k) : C.env.kindOf n = some k := by
  show C.env.scope.names.lookup n = _; rw [h]; exact e
theorem Bound.sc {C : Cx} {sc : Scope} {n : Str} (hO : C.Owns) (h : C.env.scope = sc) (e : (sc.names.lookup n == some .local || sc.names.lookup n == some .cell) = true) : Bound C n :=
  Bound.of hO (by
    show C.env.scope.names.lookup n = _ ∨ C.env.scope.names.lookup n = _
    rw [h]; simpa using e)
section
variable {B : Bk} {C : Cx} {σ : Vars} {ow : Own}
theorem Th_bool {b : Bool} : Th B (.bool b) b := fun A O s v Q E r k => by cases r; exact wpAny_truthy_bool (k s (Kp.refl' s))
theorem Ev_lit {x : Str} {l : List Nat} {k : Nat} {pos : Pos} (h : x.cps.toList = l) : Ev B C σ ow (.Constant (.str x) k pos) (.str l) := h ▸ Ev_str
theorem Ev_bi' (hA : B.All) (hC : C.Ok B) {sc : Scope} (hsc : C.env.scope = sc) {f : Str} {id : String} {pf pos : Pos} {e : Expr} {es : List Expr} {ps : List PV} {r : PV} (hF : Ca B id ps r) (hx : sc.names.lookup f = some .globalImplicit) (hf : f ∈ biNames) (hb : bootBuiltins f = some (.builtin id))
    (hd : (f == ("__debug__" : Str)) = false) (ha : Evs B C σ ow (e :: es) ps) (hp : (e :: es).all plainArg = true := by rfl)
    (he : eval (.Call (.Name f pf) (e :: es) [] pos) C.env = (do callWith pos (← eval (.Name f pf) C.env) [] (backTo pos (starEach (e :: es) C.env)) (backToKw pos (keywordEach [] C.env))) := by rfl) :
    Ev B C σ ow (.Call (.Name f pf) (e :: es) [] pos) r := Ev_bi hC hF (kind_of hsc hx) (hA.free f hf) (by rw [hA.bt f hf, hb]) hd ha hp he
end

end Mine
end

section
open PySem PySem.W PyProof.Rows PySem.Calls
set_option Elab.async false
set_option linter.unusedVariables false
set_option maxRecDepth 100000
namespace Mine
local macro_rules | `(tactic| walk_at "look") => `(tactic| first | with_reducible exact upd_self _ _ _ | (refine (upd_ne (by decide +kernel)).trans ?_; walk_at "look"))
local macro_rules | `(tactic| walk_at "name") => `(tactic| (with_reducible apply Ev_name (by assumption); walk_at "look"; decide +kernel; decide +kernel))
local macro_rules | `(tactic| walk_at "bi") => `(tactic| first | with_reducible exact Bi_add | with_reducible exact Bi_sub | with_reducible exact Bi_and | (with_reducible apply Bi_mod; decide))
local macro_rules | `(tactic| walk_at "co") => `(tactic| first | with_reducible exact Co_eq | with_reducible exact Co_ne | with_reducible exact Co_lt | with_reducible exact Co_gt | with_reducible exact Co_eq_str | with_reducible exact Co_ne_str | with_reducible exact Co_in_ints | with_reducible exact Co_isnot_bool | with_reducible exact Co_is_bool)
local macro_rules | `(tactic| walk_at "ev") => `(tactic| first | with_reducible exact Ev_int | with_reducible exact Ev_true | with_reducible exact Ev_none | with_reducible exact Ev_str | walk_at "name" | (with_reducible apply Ev_binop; walk_at "ev"; walk_at "ev"; walk_at "bi") | (with_reducible apply @Ev_compare; assumption; walk_at "ev"; walk_at "ev"; walk_at "co"; with_unfolding_all exact rfl))
local macro_rules | `(tactic| walk_at "evs") => `(tactic| first | with_reducible exact Evs_nil | (with_reducible apply @Evs_cons; walk_at "ev"; walk_at "evs"; with_unfolding_all exact rfl))
local macro_rules | `(tactic| walk_at "kind") => `(tactic| (refine kind_of (by assumption) ?_; kernel_rfl))
section
variable {B : Bk}
theorem F_gt (hA : B.All) {k : Nat} (hk : k < 900) {a b : Int} : Fn B k "gt" [.int a, .int b] (.bool (decide (a > b))) := by
  obtain ⟨ad, hd⟩ := hA.dGt
  refine Fn_intro (ns := ["a", "b"]) hA.ok hd rfl (fun pm cd doc vs hv => ?_) (by kernel_rfl) hk (by kernel_rfl) (by kernel_rfl) (by kernel_rfl) (by kernel_rfl) fun C hC hO hcel hsc hR => ?_
  · match vs, hv with
    | [x0, x1], _ => kernel_rfl
  · conv => arg 5; unfold dGt; whnf
    show Ss B C (upd (upd _ _ _) _ _) none _ _
    refine Ss_cons (S1_return (pv := .bool (decide (a > b))) ?_ rfl)
    walk_at "ev"
theorem F_add (hA : B.All) {k : Nat} (hk : k < 900) {a b : Int} : Fn B k "add" [.int a, .int b] (.int (a + b)) := by
  obtain ⟨ad, hd⟩ := hA.dAdd
  refine Fn_intro (ns := ["a", "b"]) hA.ok hd rfl (fun pm cd doc vs hv => ?_) (by kernel_rfl) hk (by kernel_rfl) (by kernel_rfl) (by kernel_rfl) (by kernel_rfl) fun C hC hO hcel hsc hR => ?_
  · match vs, hv with
    | [x0, x1], _ => kernel_rfl
  · conv => arg 5; unfold dAdd; whnf
    show Ss B C (upd (upd _ _ _) _ _) none _ _
    refine Ss_cons (S1_return (pv := .int (a + b)) ?_ rfl)
    walk_at "ev"
theorem F_and (hA : B.All) {k : Nat} (hk : k < 900) {a b : Int} : Fn B k "and_" [.int a, .int b] (.int (Builtin.bitAnd a b)) := by
  obtain ⟨ad, hd⟩ := hA.dAnd
  refine Fn_intro (ns := ["a", "b"]) hA.ok hd rfl (fun pm cd doc vs hv => ?_) (by kernel_rfl) hk (by kernel_rfl) (by kernel_rfl) (by kernel_rfl) (by kernel_rfl) fun C hC hO hcel hsc hR => ?_
  · match vs, hv with
    | [x0, x1], _ => kernel_rfl
  · conv => arg 5; unfold dAnd; whnf
    show Ss B C (upd (upd _ _ _) _ _) none _ _
    refine Ss_cons (S1_return (pv := .int (Builtin.bitAnd a b)) ?_ rfl)
    walk_at "ev"
theorem F_sub (hA : B.All) {k : Nat} (hk : k < 900) {a b : Int} : Fn B k "sub" [.int a, .int b] (.int (a - b)) := by
  obtain ⟨ad, hd⟩ := hA.dSub
  refine Fn_intro (ns := ["a", "b"]) hA.ok hd rfl (fun pm cd doc vs hv => ?_) (by kernel_rfl) hk (by kernel_rfl) (by kernel_rfl) (by kernel_rfl) (by kernel_rfl) fun C hC hO hcel hsc hR => ?_
  · match vs, hv with
    | [x0, x1], _ => kernel_rfl
  · conv => arg 5; unfold dSub; whnf
    show Ss B C (upd (upd _ _ _) _ _) none _ _
    refine Ss_cons (S1_return (pv := .int (a - b)) ?_ rfl)
    walk_at "ev"
theorem F_shl (hA : B.All) {k : Nat} (hk : k < 900) {a b : Int} (h0 : 0 ≤ b) (h1 : b ≤ 1000000) (h2 : a.natAbs < 2 ^ 64) : Fn B k "lshift" [.int a, .int b] (.int (a * 2 ^ b.toNat)) := by
  obtain ⟨ad, hd⟩ := hA.dShl
  refine Fn_intro (ns := ["a", "b"]) hA.ok hd rfl (fun pm cd doc vs hv => ?_) (by kernel_rfl) hk (by kernel_rfl) (by kernel_rfl) (by kernel_rfl) (by kernel_rfl) fun C hC hO hcel hsc hR => ?_
  · match vs, hv with
    | [x0, x1], _ => kernel_rfl
  · conv => arg 5; unfold dShl; whnf
    show Ss B C (upd (upd _ _ _) _ _) none _ _
    refine Ss_cons (S1_return (pv := .int (a * 2 ^ b.toNat)) (Ev_binop (p := .int a) (q := .int b) ?_ ?_ (Bi_shl h0 h1 h2)) rfl)
    · walk_at "ev"
    · walk_at "ev"
theorem F_contains (hA : B.All) {k : Nat} (hk : k < 900) {ns : List Int} {i : Int} : Fn B k "contains" [.list (ns.map PV.int), .int i] (.bool (ns.any (· == i))) := by
  obtain ⟨ad, hd⟩ := hA.dContains
  refine Fn_intro (ns := ["a", "b"]) hA.ok hd rfl (fun pm cd doc vs hv => ?_) (by kernel_rfl) hk (by kernel_rfl) (by kernel_rfl) (by kernel_rfl) (by kernel_rfl) fun C hC hO hcel hsc hR => ?_
  · match vs, hv with
    | [x0, x1], _ => kernel_rfl
  · conv => arg 5; unfold dContains; whnf
    show Ss B C (upd (upd _ _ _) _ _) none _ _
    refine Ss_cons (S1_return (pv := .bool (ns.any (· == i))) ?_ rfl)
    walk_at "ev"
theorem F_concat (hA : B.All) {k : Nat} (hk : k < 900) {x y : List Nat} (hz : x.length + y.length ≤ sizeLine) : Fn B k "concat" [.str x, .str y] (.str (x ++ y)) := by
  obtain ⟨ad, hd⟩ := hA.dConcat
  refine Fn_intro (ns := ["a", "b"]) hA.ok hd rfl (fun pm cd doc vs hv => ?_) (by kernel_rfl) hk (by kernel_rfl) (by kernel_rfl) (by kernel_rfl) (by kernel_rfl) fun C hC hO hcel hsc hR => ?_
  · match vs, hv with
    | [x0, x1], _ => kernel_rfl
  · conv => arg 5; unfold dConcat; whnf
    show Ss B C (upd (upd _ _ _) _ _) none _ _
    refine Ss_cons (S1_if (b := false) (Tr_not (b := true) (Tr_plain (p := .bool true) (Ev_bi' hA hC hsc (id := "hasattr") (ps := [.str x, .str (Str.ofString "__getitem__").cps.toList]) Ca_hasattr (by kernel_rfl) (by decide +kernel) (by decide +kernel) (by decide +kernel) ?_) Th_bool)) (fun h => nomatch h) fun _ => Ss_nil ?_)
    · walk_at "evs"
    · refine Ss_cons (S1_return (pv := .str (x ++ y)) (Ev_binop (p := .str x) (q := .str y) ?_ ?_ (Bi_add_str hz)) rfl)
      · walk_at "ev"
      · walk_at "ev"
end
end Mine
end

section
open PySem PySem.W PyProof.Rows PySem.Calls
set_option Elab.async false
set_option linter.unusedVariables false
set_option maxRecDepth 100000
namespace Mine
local macro_rules | `(tactic| walk_at "look") => `(tactic| first | with_reducible exact upd_self _ _ _ | (refine (upd_ne (by decide +kernel)).trans ?_; walk_at "look"))
local macro_rules | `(tactic| walk_at "name") => `(tactic| (with_reducible apply Ev_name (by assumption); walk_at "look"; decide +kernel; decide +kernel))
local macro_rules | `(tactic| walk_at "bi") => `(tactic| first | with_reducible exact Bi_add | with_reducible exact Bi_sub | with_reducible exact Bi_and | (with_reducible apply Bi_mod; decide))
local macro_rules | `(tactic| walk_at "co") => `(tactic| first | with_reducible exact Co_eq | with_reducible exact Co_ne | with_reducible exact Co_lt | with_reducible exact Co_gt | with_reducible exact Co_eq_str | with_reducible exact Co_ne_str | with_reducible exact Co_in_ints | with_reducible exact Co_isnot_bool | with_reducible exact Co_is_bool)
local macro_rules | `(tactic| walk_at "ev") => `(tactic| first | with_reducible exact Ev_int | with_reducible exact Ev_true | with_reducible exact Ev_none | with_reducible exact Ev_str | walk_at "name" | (with_reducible apply Ev_binop; walk_at "ev"; walk_at "ev"; walk_at "bi") | (with_reducible apply @Ev_compare; assumption; walk_at "ev"; walk_at "ev"; walk_at "co"; with_unfolding_all exact rfl))
local macro_rules | `(tactic| walk_at "evs") => `(tactic| first | with_reducible exact Evs_nil | (with_reducible apply @Evs_cons; walk_at "ev"; walk_at "evs"; with_unfolding_all exact rfl))
local macro_rules | `(tactic| walk_at "kind") => `(tactic| (refine kind_of (by assumption) ?_; kernel_rfl))

@[irreducible] def flagTab (k : Int) : Option (List Nat) := (entriesAt 2).lookup k
@[irreducible] def b3Tab (k : Int) : Option (List Nat) := (entriesAt 21).lookup k
def b1Has (k : Int) : Bool := [173, 847, 6150, 6155, 6156, 6157, 8203, 8204, 8205, 8288, 65279].contains k || (decide (65024 ≤ k) && decide (k < 65040))
/-- the tables and patterns that the top left -/
structure Bk.Data (B : Bk) : Prop where
  all : B.All
  flags : ∃ a f, B.mg "COMPILER_FLAG_NAMES" = some (.ref a) ∧ (a == sysModules) = false ∧ B.top.MapOf (intKind B.prog B.w) a f ∧ Told B f flagTab
  b3 : ∃ a f, B.mg "b3_exceptions" = some (.ref a) ∧ (a == sysModules) = false ∧ B.top.MapOf (intKind B.prog B.w) a f ∧ Told B f b3Tab
  b1 : ∃ a n, B.mg "b1_set" = some (.ref a) ∧ B.top.SetOf (intKind B.prog B.w) a b1Has n
  re1 : ∃ a, B.mg "_twin_re_1" = some (.ref a) ∧ IsPat B.top a C1
  re2 : ∃ a, B.mg "_twin_re_2" = some (.ref a) ∧ IsPat B.top a C2
  crlf : ∃ t, B.mg "CRLF" = some (.str ⟨[13, 10].toArray⟩ t) ∧ t ≠ 0 ∧ t < B.lo ∧ t < B.t₀
theorem low_rep {B : Bk} {O : Fb} {h : Shared} {t : Nat} {x : List Nat} (lo : Lo B O) (on : B.t₀ ≤ h.toks) (h0 : t ≠ 0) (h1 : t < B.lo) (h2 : t < B.t₀) : Rep O h (.str x) (.str ⟨x.toArray⟩ t) :=
  .str (fun q => (lo t q).elim h0 fun l => Nat.lt_irrefl _ (Nat.lt_of_lt_of_le h1 l)) (Nat.lt_of_lt_of_le h2 on)
section
variable {B : Bk} {C : Cx} {σ : Vars} {ow : Own}
theorem Ev_global_str (hC : C.Ok B) {n : Str} {pos : Pos} {x : List Nat} {t : Nat} (hx : C.env.kindOf n = some .globalImplicit) (hg : B.mg n = some (.str ⟨x.toArray⟩ t)) (h0 : t ≠ 0) (h1 : t < B.lo) (h2 : t < B.t₀) (hd : (n == ("__debug__" : Str)) = false) : Ev B C σ ow (.Name n pos) (.str x) :=
  fun s Q E f q => Ev_global (pos := pos) (ow := ow) hC hx hg hd s Q E f fun v s' k r => by
    cases r.raw_inv
    exact q _ s' k (low_rep hC.lo (Fok.on hC (f.keep k)).2 h0 h1 h2)

/-! the first place of a str in a list of told ones -/
def pairsFrom (n : Nat) (xs : List PV) : List PV := (xs.zipIdx n).map fun (x, i) => .tup [.int (i : Nat), x]
theorem enumV_from (xs : List PV) : enumV xs = pairsFrom 0 xs := rfl
theorem index_loop (hC : C.Ok B) (hO : C.Owns) (hsc : C.env.scope = dIndexOf.scope) (hnb : NoneBooked B.top) {body orelse : List Stmt} {P : Out → Prop} {y : List Nat} (t : Expr)
    (hasg : ∀ σ (n : Nat) x, σ "b" = some (.str y) → ∃ σ', Asg B C t (.tup [.int n, .strX x]) σ σ' ∧ σ' "b" = some (.str y) ∧ σ' "i" = some (.int n) ∧ σ' "j" = some (.strX x))
    (hbody : ∀ σ (n : Nat) x, σ "b" = some (.str y) → σ "i" = some (.int n) → σ "j" = some (.strX x) → ∀ P : Out → Prop, (x = y → P (.ret (.int n))) → (x ≠ y → P (.next σ none)) → Ss B C σ none body P) :
    ∀ (xs : List (List Nat)) (n : Nat) (σ : Vars), σ "b" = some (.str y) → y ∈ xs → P (.ret (.int ((n + xs.idxOf y : Nat) : Int))) → Lp B C t body orelse P (pairsFrom n (xs.map .strX)) σ none
  | [], _, _, _, h, _ => nomatch h
  | x :: xs, n, σ, hb, hm, hP => by
    obtain ⟨σ', ha, h1, h2, h3⟩ := hasg σ n x hb
    refine ⟨σ', ha, hbody σ' n x h1 h2 h3 _ (fun e => ?_) fun e => ?_⟩
    · subst e
      have e0 : (x :: xs).idxOf x = 0 := List.idxOf_cons_self
      rw [e0] at hP; exact hP
    · have hm' : y ∈ xs := (List.mem_cons.mp hm).resolve_left fun e' => e e'.symm
      refine index_loop hC hO hsc hnb t hasg hbody xs (n + 1) σ' h1 hm' ?_
      have : (x :: xs).idxOf y = xs.idxOf y + 1 := by
        rw [List.idxOf_cons, show (x == y) = false by simpa using e]; rfl
      rw [this] at hP
      rw [show n + 1 + xs.idxOf y = n + (xs.idxOf y + 1) by omega]; exact hP
end
section
variable {B : Bk}
theorem F_indexOf (hA : B.All) {k : Nat} (hk : k < 900) {xs : List (List Nat)} {y : List Nat} (hm : y ∈ xs) (hz : xs.length ≤ sizeLine) : Fn B k "indexOf" [.list (xs.map .strX), .str y] (.int (xs.idxOf y : Nat)) := by
  obtain ⟨ad, hd⟩ := hA.dIndexOf
  refine Fn_intro (ns := ["a", "b"]) hA.ok hd rfl (fun pm cd doc vs hv => ?_) (by kernel_rfl) hk (by kernel_rfl) (by kernel_rfl) (by kernel_rfl) (by kernel_rfl) fun C hC hO hcel hsc hR => ?_
  · match vs, hv with
    | [x0, x1], _ => kernel_rfl
  · conv => arg 5; unfold dIndexOf; whnf
    show Ss B C (upd (upd _ _ _) _ _) none _ _
    refine Ss_cons (S1_for hC (It_enum hC (xs := xs.map .strX) (by simpa using hz) (by walk_at "kind") (hA.free _ (by decide +kernel)) (by rw [hA.bt _ (by decide +kernel)]; decide +kernel) (by decide +kernel) (by walk_at "ev")) ?_)
    rw [enumV_from]
    refine index_loop hC hO hsc hA.nb _ (fun σ n x hb => ?_) (fun σ n x h1 h2 h3 P' p1 p2 => ?_) xs 0 _ (by walk_at "look") hm ?_
    · refine ⟨_, Asg_pair hC hO.loc (Bound.sc hO hsc (by kernel_rfl)) (Bound.sc hO hsc (by kernel_rfl)), ?_, ?_, ?_⟩
      · refine (upd_ne (by decide +kernel)).trans ((upd_ne (by decide +kernel)).trans hb)
      · walk_at "look"
      · walk_at "look"
    · refine Ss_cons (S1_if (b := (x == y)) (Tr_is_or hC hA.nb (Ev_name hC h3 (by decide +kernel) (by decide +kernel)) (Ev_name hC h1 (by decide +kernel) (by decide +kernel)) (Ev_name hC h3 (by decide +kernel) (by decide +kernel)) (Ev_name hC h1 (by decide +kernel) (by decide +kernel))) (fun h => ?_) fun h => ?_)
      · refine Ss_cons (S1_return (Ev_name hC h2 (by decide +kernel) (by decide +kernel)) ?_)
        exact p1 (by simpa using h)
      · exact Ss_nil (Ss_nil (p2 (by simpa using h)))
    · rw [Nat.zero_add]; rfl

theorem F_inB1 (hD : B.Data) {k : Nat} (hk : k < 900) {c : Nat} : Fn B k "in_table_b1" [.str [c]] (.bool (b1Has c)) := by
  have hA := hD.all
  obtain ⟨ad, hd⟩ := hA.dInB1
  obtain ⟨a, n, hg, hS⟩ := hD.b1
  refine Fn_intro (ns := ["code"]) hA.ok hd rfl (fun pm cd doc vs hv => ?_) (by kernel_rfl) hk (by kernel_rfl) (by kernel_rfl) (by kernel_rfl) (by kernel_rfl) fun C hC hO hcel hsc hR => ?_
  · match vs, hv with
    | [x0], _ => kernel_rfl
  · conv => arg 5; unfold dInB1; whnf
    show Ss B C (upd _ _ _) none _ _
    refine Ss_cons (S1_return (Ev_compare hC (p := .int c) (q := .raw (.ref a)) (Ev_bi' hA hC hsc Ca_ord (by kernel_rfl) (by decide +kernel) (by decide +kernel) (by decide +kernel) ?_) (Ev_global hC (by walk_at "kind") hg (by decide +kernel)) (Co_in_set hS)) rfl)
    walk_at "evs"
/-- what map_table_b3 tells of a sign -/
def mapB3 (c : Nat) : List Nat := match b3Tab c with
  | some x => x
  | none => (Txt.lower ⟨[c].toArray⟩).cps.toList
theorem F_mapB3 (hD : B.Data) {k : Nat} (hk : k < 900) {c : Nat} (hfit : Builtin.Str.tooLong (Txt.lower ⟨[c].toArray⟩).length = false) : Fn B k "map_table_b3" [.str [c]] (.str (mapB3 c)) := by
  have hA := hD.all
  obtain ⟨ad, hd⟩ := hA.dMapB3
  obtain ⟨a, f, hg, hs, hm, hT⟩ := hD.b3
  refine Fn_intro (ns := ["code"]) hA.ok hd rfl (fun pm cd doc vs hv => ?_) (by kernel_rfl) hk (by kernel_rfl) (by kernel_rfl) (by kernel_rfl) (by kernel_rfl) fun C hC hO hcel hsc hR => ?_
  · match vs, hv with
    | [x0], _ => kernel_rfl
  · conv => arg 5; unfold dMapB3; whnf
    show Ss B C (upd _ _ _) none _ _
    have hTc := hT (c : Int)
    have ord : ∀ {pf p pos : Pos}, Ev B C (upd (fun _ => none) "code" (.str [c])) none (.Call (.Name "ord" pf) [.Name "code" p] [] pos) (.int c) := by
      intro pf p pos
      refine Ev_bi' hA hC hsc Ca_ord (by kernel_rfl) (by decide +kernel) (by decide +kernel) (by decide +kernel) ?_
      walk_at "evs"
    unfold mapB3
    cases ht : b3Tab c with
    | some x =>
      rw [ht] at hTc
      obtain ⟨t, ef, h0, h1, h2⟩ := hTc
      have get := Ca_get1 (B := B) (r := .str x) hs hm (k := (c : Int)) fun O h lo on => by rw [ef]; exact low_rep lo on h0 h1 h2
      refine Ss_cons (S1_assign (pv := .str x) hC hO (Ev_method hC (p := .raw (.ref a)) (ps := [.int c]) (Ev_global hC (by walk_at "kind") hg (by decide +kernel)) (Evs_cons ord Evs_nil) get (Ty_dict hm) F.plainAttrs_dict F.slot_dict_get F.type_dict_get) (Bound.sc hO hsc (by kernel_rfl)) ?_ (by rfl))
      refine Ss_cons (S1_if (b := true) (Tr_compare hC (p := .str x) (q := .none) ?_ ?_ Co_isnot_none_str) (fun _ => ?_) fun h => nomatch h)
      · walk_at "ev"
      · walk_at "ev"
      · refine Ss_cons (S1_return ?_ rfl)
        walk_at "ev"
    | none =>
      rw [ht] at hTc
      have get := Ca_get1 (B := B) (r := .none) hs hm (k := (c : Int)) fun O h lo on => by rw [show f c = none from hTc]; exact .none
      refine Ss_cons (S1_assign (pv := .none) hC hO (Ev_method hC (p := .raw (.ref a)) (ps := [.int c]) (Ev_global hC (by walk_at "kind") hg (by decide +kernel)) (Evs_cons ord Evs_nil) get (Ty_dict hm) F.plainAttrs_dict F.slot_dict_get F.type_dict_get) (Bound.sc hO hsc (by kernel_rfl)) ?_ (by rfl))
      refine Ss_cons (S1_if (b := false) (Tr_compare hC (p := .none) (q := .none) ?_ ?_ Co_isnot_none) (fun h => nomatch h) fun _ => Ss_nil ?_)
      · walk_at "ev"
      · walk_at "ev"
      · refine Ss_cons (S1_return (Ev_method0 hC (p := .str [c]) ?_ (Ca_lower hfit) Ty_str F.plainAttrs_str F.slot_str_lower F.type_str_lower) rfl)
        walk_at "ev"
/-- line ends made alike, dots doubled: what quotedata tells -/
def quoted (x : List Nat) : List Nat :=
  let y := subOf (hit2 x.toArray) [13, 10] x.toArray x.length 0
  subOf (hit1 y.toArray) [46, 46] y.toArray y.length 0
theorem F_quote (hD : B.Data) {k : Nat} (hk : k < 900) {x : List Nat} (hx : x.length ≤ 3000) (hy : (subOf (hit2 x.toArray) [13, 10] x.toArray x.length 0).length ≤ 10000) : Fn B k "quotedata" [.str x] (.str (quoted x)) := by
  have hA := hD.all
  obtain ⟨ad, hd⟩ := hA.dQuote
  obtain ⟨a1, hg1, hp1⟩ := hD.re1
  obtain ⟨a2, hg2, hp2⟩ := hD.re2
  obtain ⟨t, hc, h0, h1, h2⟩ := hD.crlf
  refine Fn_intro (ns := ["data"]) hA.ok hd rfl (fun pm cd doc vs hv => ?_) (by kernel_rfl) hk (by kernel_rfl) (by kernel_rfl) (by kernel_rfl) (by kernel_rfl) fun C hC hO hcel hsc hR => ?_
  · match vs, hv with
    | [x0], _ => kernel_rfl
  · conv => arg 5; unfold dQuote; whnf
    show Ss B C (upd _ _ _) none _ _
    have hh1 : ∀ (y : List Nat) p e, hit1 y.toArray p = some e → p < e ∧ e ≤ y.length := fun y p e h => by
      unfold hit1 at h
      split at h
      · split at h
        · split at h
          · cases h; rename_i h1 _; simp at h1; omega
          · cases h
        · cases h
      · cases h
    have hh2 : ∀ (y : List Nat) p e, hit2 y.toArray p = some e → p < e ∧ e ≤ y.length := fun y p e h => by
      unfold hit2 at h
      split at h
      · rename_i h1
        simp at h1
        split at h
        · cases h; omega
        · split at h
          · split at h
            · rename_i h3; simp at h3; cases h; omega
            · cases h; omega
          · cases h
      · cases h
    have inner := Ca_sub (B := B) finds2 hp2 (x := x) (r := [13, 10]) (by omega) (by decide) (by decide) (hh2 x)
    have outer := Ca_sub (B := B) finds1 hp1 (x := subOf (hit2 x.toArray) [13, 10] x.toArray x.length 0) (r := [46, 46]) hy (by decide) (by decide) (hh1 _)
    refine Ss_cons (S1_return (Ev_method hC (p := .raw (.ref a1)) (Ev_global hC (by walk_at "kind") hg1 (by decide +kernel)) (Evs_cons (Ev_lit (l := [46, 46]) (by kernel_rfl)) (Evs_cons ?_ Evs_nil)) outer (Ty_pat hp1) pat_ga slot_pat_sub type_pat_sub) rfl)
    refine Ev_method hC (p := .raw (.ref a2)) (Ev_global hC (by walk_at "kind") hg2 (by decide +kernel)) (Evs_cons (Ev_global_str hC (by walk_at "kind") hc h0 h1 h2 (by decide +kernel)) (Evs_cons ?_ Evs_nil)) inner (Ty_pat hp2) pat_ga slot_pat_sub type_pat_sub
    walk_at "ev"
end
end Mine
end

section
open PySem PySem.W PyProof.Rows PySem.Calls
set_option Elab.async false
set_option linter.unusedVariables false
set_option maxRecDepth 100000
namespace Mine
local macro_rules | `(tactic| walk_at "look") => `(tactic| first | with_reducible exact upd_self _ _ _ | (refine (upd_ne (by decide +kernel)).trans ?_; walk_at "look"))
local macro_rules | `(tactic| walk_at "name") => `(tactic| (with_reducible apply Ev_name (by assumption); walk_at "look"; decide +kernel; decide +kernel))
local macro_rules | `(tactic| walk_at "bi") => `(tactic| first | with_reducible exact Bi_add | with_reducible exact Bi_sub | with_reducible exact Bi_and | (with_reducible apply Bi_mod; decide))
local macro_rules | `(tactic| walk_at "co") => `(tactic| first | with_reducible exact Co_eq | with_reducible exact Co_ne | with_reducible exact Co_lt | with_reducible exact Co_gt | with_reducible exact Co_eq_str | with_reducible exact Co_ne_str | with_reducible exact Co_in_ints | with_reducible exact Co_isnot_bool | with_reducible exact Co_is_bool)
local macro_rules | `(tactic| walk_at "ev") => `(tactic| first | with_reducible exact Ev_int | with_reducible exact Ev_true | with_reducible exact Ev_none | with_reducible exact Ev_str | walk_at "name" | (with_reducible apply Ev_binop; walk_at "ev"; walk_at "ev"; walk_at "bi") | (with_reducible apply @Ev_compare; assumption; walk_at "ev"; walk_at "ev"; walk_at "co"; with_unfolding_all exact rfl))
local macro_rules | `(tactic| walk_at "evs") => `(tactic| first | with_reducible exact Evs_nil | (with_reducible apply @Evs_cons; walk_at "ev"; walk_at "evs"; with_unfolding_all exact rfl))
local macro_rules | `(tactic| walk_at "kind") => `(tactic| (refine kind_of (by assumption) ?_; kernel_rfl))

@[irreducible] def hexL (i : Int) : List Nat := (baseText "0x" 16 i).cps.toList
theorem hex_fits {i : Int} (h1 : 0 ≤ i) (h2 : i < 4611686018427387904) : (baseText "0x" 16 i).length ≤ sizeLine := baseText_under (by decide +kernel) (by decide) (by omega)
theorem Ca_hexL {B : Bk} {i : Int} (h1 : 0 ≤ i) (h2 : i < 4611686018427387904) : Ca B "hex" [.int i] (.str (hexL i)) := by unfold hexL; exact Ca_hex (hex_fits h1 h2)
def wordN (n : Nat) : List Nat := (flagTab (2 ^ n)).getD (hexL (2 ^ n))
/-- the words that pretty_flags tells, from a bit on -/
def pfN : Nat → Nat → Nat → List (List Nat)
  | 0, _, m => [hexL m]
  | f + 1, n, m => if m.testBit n then wordN n :: (if m - 2 ^ n = 0 then [] else pfN f (n + 1) (m - 2 ^ n)) else pfN f (n + 1) m
theorem and_bit (m n : Nat) : Builtin.bitAnd (m : Int) ((1 : Int) * 2 ^ n) = if m.testBit n then (2 ^ n : Nat) else (0 : Nat) := by
  have e : ((1 : Int) * 2 ^ n) = ((2 ^ n : Nat) : Int) := by rw [Int.one_mul]; exact (Int.natCast_pow 2 n).symm ▸ rfl
  rw [e, bitAnd_pp (Int.natCast_nonneg _) (Int.natCast_nonneg _), Int.toNat_natCast, Int.toNat_natCast]
  congr 1
  apply Nat.eq_of_testBit_eq
  intro i
  rw [Nat.testBit_and, Nat.testBit_two_pow]
  by_cases h : n = i
  · subst h
    cases hb : m.testBit n <;> simp
  · cases hb : m.testBit n <;> simp [h, Nat.testBit_two_pow]
theorem xor_bit {m n : Nat} (h : m.testBit n = true) : Builtin.bitXor (m : Int) ((1 : Int) * 2 ^ n) = ((m - 2 ^ n : Nat) : Int) := by
  have h2 : 2 ^ n ≤ m := Nat.ge_two_pow_of_testBit h
  rw [bitXor_and, and_bit, if_pos h]
  have e : ((1 : Int) * 2 ^ n) = ((2 ^ n : Nat) : Int) := by rw [Int.one_mul]; exact (Int.natCast_pow 2 n).symm ▸ rfl
  rw [e]; omega

section
variable {B : Bk} {C : Cx}
theorem flags_loop {x : Addr} {t : Expr} {body orelse : List Stmt} {P : Out → Prop}
    (hturn : ∀ σ (n m : Nat) xs, n < 32 → m < 2 ^ 62 → xs.length ≤ 1000 → σ "names" = some (.raw (.ref x)) → σ "flags" = some (.int m) → ∃ σ', Asg B C t (.int n) σ σ' ∧ ∀ P : Out → Prop,
      (m.testBit n = false → ∀ σ₂, σ₂ "names" = some (.raw (.ref x)) → σ₂ "flags" = some (.int m) → P (.next σ₂ (some (x, xs)))) →
      (m.testBit n = true → m - 2 ^ n ≠ 0 → ∀ σ₂, σ₂ "names" = some (.raw (.ref x)) → σ₂ "flags" = some (.int (m - 2 ^ n : Nat)) → P (.next σ₂ (some (x, xs ++ [.str (wordN n)])))) →
      (m.testBit n = true → m - 2 ^ n = 0 → ∀ σ₂, σ₂ "names" = some (.raw (.ref x)) → P (.brk σ₂ (some (x, xs ++ [.str (wordN n)])))) → Ss B C σ' (some (x, xs)) body P)
    (helse : ∀ σ (m : Nat) xs, m < 2 ^ 62 → xs.length ≤ 1000 → σ "names" = some (.raw (.ref x)) → σ "flags" = some (.int m) → ∀ P : Out → Prop, (∀ σ₂, σ₂ "names" = some (.raw (.ref x)) → P (.next σ₂ (some (x, xs ++ [.str (hexL m)])))) → Ss B C σ (some (x, xs)) orelse P) :
    ∀ (f n m : Nat) (xs : List PV) (σ : Vars), n + f ≤ 32 → m < 2 ^ 62 → xs.length + f ≤ 1000 → σ "names" = some (.raw (.ref x)) → σ "flags" = some (.int m) →
      (∀ σ₂, σ₂ "names" = some (.raw (.ref x)) → P (.next σ₂ (some (x, xs ++ (pfN f n m).map .str)))) → Lp B C t body orelse P ((List.range' n f).map fun (i : Nat) => .int i) σ (some (x, xs))
  | 0, n, m, xs, σ, _, hm, hz, h1, h2, hP => by
    refine helse σ m xs hm (by omega) h1 h2 P fun σ₂ h => ?_
    exact hP σ₂ h
  | f + 1, n, m, xs, σ, hn, hm, hz, h1, h2, hP => by
    obtain ⟨σ', ha, hb⟩ := hturn σ n m xs (by omega) hm (by omega) h1 h2
    rw [List.range'_succ, List.map_cons]
    refine ⟨σ', ha, hb _ (fun hbit σ₂ g1 g2 => ?_) (fun hbit hne σ₂ g1 g2 => ?_) (fun hbit h0 σ₂ g1 => ?_)⟩
    · refine flags_loop hturn helse f (n + 1) m xs σ₂ (by omega) hm (by omega) g1 g2 fun σ₃ h3 => ?_
      have := hP σ₃ h3
      rw [pfN, hbit] at this
      exact this
    · refine flags_loop hturn helse f (n + 1) (m - 2 ^ n) (xs ++ [.str (wordN n)]) σ₂ (by omega) (Nat.lt_of_le_of_lt (Nat.sub_le _ _) hm) (by simp; omega) g1 g2 fun σ₃ h3 => ?_
      have := hP σ₃ h3
      rw [pfN, if_pos hbit, if_neg hne] at this
      simpa using this
    · have := hP σ₂ g1
      rw [pfN, if_pos hbit, if_pos h0] at this
      exact this
end
section
variable {B : Bk}
theorem rangeV_range' (n : Nat) : rangeV 0 n = (List.range' 0 n).map fun (i : Nat) => PV.int i := by
  unfold rangeV
  rw [← List.range_eq_range']
  simp
theorem strs_notX {ss : List (List Nat)} (x : List Nat) : ss.map PV.str ≠ [.strX x] := fun e => by
  match ss, e with
  | [_], e => cases e
/-- what pretty_flags tells -/
def prettyL (m : Nat) : List Nat := joinL [44, 32] (pfN 32 0 m)
theorem F_flags (hD : B.Data) {k : Nat} (hk : k < 900) {m : Nat} (hm : m < 2 ^ 62) (hsz : ((pfN 32 0 m).map fun s => s.length + 2).sum ≤ sizeLine) (hlen : (pfN 32 0 m).length ≤ 1000) : Fn B k "pretty_flags" [.int m] (.str (prettyL m)) := by
  have hA := hD.all
  obtain ⟨ad, hd⟩ := hA.dFlags
  obtain ⟨a, f, hg, hs, hmap, hT⟩ := hD.flags
  refine Fn_intro (ns := ["flags"]) hA.ok hd rfl (fun pm cd doc vs hv => ?_) (by kernel_rfl) hk (by kernel_rfl) (by kernel_rfl) (by kernel_rfl) (by kernel_rfl) fun C hC hO hcel hsc hR => ?_
  · match vs, hv with
    | [x0], _ => kernel_rfl
  · conv => arg 5; unfold dFlags; whnf
    show Ss B C (upd _ _ _) none _ _
    refine Ss_own hC hO hcel (Bound.sc hO hsc (by kernel_rfl)) (fun C' hC' hO' hcel' he hA' x => ?_) (by rfl)
    have hsc' : C'.env.scope = dFlags.scope := by rw [he]; exact hsc
    refine S1_for hC' (It_range1 (b := 32) hC' (by decide) (by decide) (by walk_at "kind") (hA.free _ (by decide +kernel)) (by rw [hA.bt _ (by decide +kernel)]; decide +kernel) (by decide +kernel) Ev_int) ?_
    have e32 := rangeV_range' 32
    rw [show ((32 : Nat) : Int) = 32 from rfl] at e32
    rw [e32]
    refine flags_loop (x := x) (fun σ n m xs hn hm2 hxs h1 h2 => ?_) (fun σ m xs hm2 hxs h1 h2 P' hP => ?_) 32 0 m [] _ (by decide) hm (by decide) (by walk_at "look") (by walk_at "look") fun σ₂ h => ?_
    · refine ⟨_, Asg_name hC' hO'.loc (Bound.sc hO' hsc' (by kernel_rfl)), fun P' p1 p2 p3 => ?_⟩
      have hpos : (0 : Int) ≤ (1 : Int) * 2 ^ n := by rw [Int.one_mul]; exact Int.pow_nonneg (by decide)
      have hlt : (1 : Int) * 2 ^ n < 4611686018427387904 := by
        rw [Int.one_mul]
        have : 2 ^ n ≤ 2 ^ 32 := Nat.pow_le_pow_right (by decide) (Nat.le_of_lt hn)
        have e : ((2 : Int) ^ n) = ((2 ^ n : Nat) : Int) := (Int.natCast_pow 2 n).symm ▸ rfl
        rw [e]; omega
      refine Ss_cons (S1_assign (pv := .int ((1 : Int) * 2 ^ (n : Int).toNat)) hC' hO' (Ev_binop (p := .int 1) (q := .int n) Ev_int ?_ (Bi_shl (by omega) (by omega) (by decide))) (Bound.sc hO' hsc' (by kernel_rfl)) ?_ (by rfl))
      · walk_at "ev"
      rw [Int.toNat_natCast]
      have hfl : ∀ {ow p}, Ev B C' (upd (upd σ "i" (.int n)) "flag" (.int ((1 : Int) * 2 ^ n))) ow (.Name "flags" p) (.int m) := fun {ow p} => Ev_name hC' ((upd_ne (by decide +kernel)).trans ((upd_ne (by decide +kernel)).trans h2)) (by decide +kernel) (by decide +kernel)
      have hfg : ∀ {ow p}, Ev B C' (upd (upd σ "i" (.int n)) "flag" (.int ((1 : Int) * 2 ^ n))) ow (.Name "flag" p) (.int ((1 : Int) * 2 ^ n)) := fun {ow p} => Ev_name hC' (upd_self _ _ _) (by decide +kernel) (by decide +kernel)
      refine Ss_cons (S1_if (b := m.testBit n) (Tr_plain (Ev_binop hfl hfg Bi_and) ?_) (fun hb => ?_) fun hb => Ss_nil (Ss_nil (p1 hb _ ((upd_ne (by decide +kernel)).trans ((upd_ne (by decide +kernel)).trans h1)) ((upd_ne (by decide +kernel)).trans ((upd_ne (by decide +kernel)).trans h2)))))
      · rw [and_bit]
        have e0 : ((((if m.testBit n = true then (2 ^ n : Nat) else (0 : Nat)) : Nat) : Int) != 0) = m.testBit n := by
          have := Nat.two_pow_pos n
          cases h : m.testBit n
          · rfl
          · show (((2 ^ n : Nat) : Int) != 0) = true
            exact bne_iff_ne.mpr (by omega)
        have := @Th_int B (((if m.testBit n = true then (2 ^ n : Nat) else (0 : Nat)) : Nat) : Int)
        rw [e0] at this
        exact this
      · have get : Ca B "dict.get" [.raw (.ref a), .int ((1 : Int) * 2 ^ n), .str (hexL ((1 : Int) * 2 ^ n))] (.str (wordN n)) := by
          refine Ca_get2 hs hmap fun O h t lo on ht htb => ?_
          have hTk := hT ((1 : Int) * 2 ^ n)
          unfold wordN
          rw [Int.one_mul] at hTk ⊢
          cases hft : flagTab (2 ^ n) with
          | some w =>
            rw [hft] at hTk
            obtain ⟨t', ef, h0, h1, h2⟩ := hTk
            rw [ef]; exact low_rep lo on h0 h1 h2
          | none =>
            rw [hft] at hTk
            rw [show f (2 ^ n) = none from hTk]; exact .str ht htb
        refine Ss_cons (S1_append hC' (y := .str (wordN n)) ((upd_ne (by decide +kernel)).trans ((upd_ne (by decide +kernel)).trans h1)) (by decide +kernel) (by decide +kernel)
          (Ev_method hC' (p := .raw (.ref a)) (Ev_global hC' (by walk_at "kind") hg (by decide +kernel)) (Evs_cons hfg (Evs_cons (Ev_bi' hA hC' hsc' (Ca_hexL hpos hlt) (by kernel_rfl) (by decide +kernel) (by decide +kernel) (by decide +kernel) (Evs_cons hfg Evs_nil)) Evs_nil)) get (Ty_dict hmap) F.plainAttrs_dict F.slot_dict_get F.type_dict_get)
          (Nat.le_trans hxs (by decide)) ?_)
        refine Ss_cons (S1_aug hC' hO' (a := .int m) (b := .int ((1 : Int) * 2 ^ n)) (c := .int ((m - 2 ^ n : Nat) : Int)) ((upd_ne (by decide +kernel)).trans ((upd_ne (by decide +kernel)).trans h2)) (by decide +kernel) hfg (xor_bit hb ▸ In_xor) (Bound.sc hO' hsc' (by kernel_rfl)) ?_)
        refine Ss_cons (S1_if (b := !((((m - 2 ^ n : Nat) : Int)) != 0)) (Tr_not (Tr_plain (p := .int ((m - 2 ^ n : Nat) : Int)) ?_ Th_int)) (fun hz => Ss_cons (S1_break ?_)) fun hz => Ss_nil (Ss_nil (Ss_nil ?_)))
        · walk_at "ev"
        · refine p3 hb ?_ _ ?_
          · simp at hz; omega
          · exact (upd_ne (by decide +kernel)).trans ((upd_ne (by decide +kernel)).trans ((upd_ne (by decide +kernel)).trans h1))
        · refine p2 hb ?_ _ ?_ ?_
          · simp at hz; omega
          · exact (upd_ne (by decide +kernel)).trans ((upd_ne (by decide +kernel)).trans ((upd_ne (by decide +kernel)).trans h1))
          · exact upd_self _ _ _
    · refine Ss_cons (S1_append hC' (y := .str (hexL m)) h1 (by decide +kernel) (by decide +kernel) (Ev_bi' hA hC' hsc' (Ca_hexL (Int.natCast_nonneg _) (by omega)) (by kernel_rfl) (by decide +kernel) (by decide +kernel) (by decide +kernel) (Evs_cons (Ev_name hC' h2 (by decide +kernel) (by decide +kernel)) Evs_nil)) (Nat.le_trans hxs (by decide)) ?_)
      exact Ss_nil (hP _ h1)
    · refine ⟨_, rfl, h, by simp; exact Nat.le_trans hlen (by decide), ?_⟩
      rw [List.nil_append]
      refine Ss_cons (S1_return (pv := .str (prettyL m)) (Ev_method hC (p := .str [44, 32]) (ps := [.list ((pfN 32 0 m).map .str)]) (Ev_lit (by kernel_rfl)) (Evs_cons ?_ Evs_nil) (Ca_joinL (txt_strs _) strs_notX hsz) Ty_str F.plainAttrs_str F.slot_str_join F.type_str_join) rfl)
      walk_at "ev"
end
end Mine
end

section
open PySem PySem.W PyProof.Rows PySem.Calls
set_option Elab.async false
set_option linter.unusedVariables false
set_option maxRecDepth 100000
namespace Mine
local macro_rules | `(tactic| walk_at "look") => `(tactic| first | with_reducible exact upd_self _ _ _ | (refine (upd_ne (by decide +kernel)).trans ?_; walk_at "look") | (refine cap_of (by kernel_rfl) ?_; walk_at "look") | assumption)
local macro_rules | `(tactic| walk_at "name") => `(tactic| (with_reducible apply Ev_name (by assumption); walk_at "look"; decide +kernel; decide +kernel))
local macro_rules | `(tactic| walk_at "bi") => `(tactic| first | with_reducible exact Bi_add | with_reducible exact Bi_sub | with_reducible exact Bi_and | (with_reducible apply Bi_mod; decide))
local macro_rules | `(tactic| walk_at "co") => `(tactic| first | with_reducible exact Co_eq | with_reducible exact Co_ne | with_reducible exact Co_lt | with_reducible exact Co_gt | with_reducible exact Co_eq_str | with_reducible exact Co_ne_str | with_reducible exact Co_in_ints | with_reducible exact Co_isnot_bool | with_reducible exact Co_is_bool)
local macro_rules | `(tactic| walk_at "ev") => `(tactic| first | with_reducible exact Ev_int | with_reducible exact Ev_true | with_reducible exact Ev_none | with_reducible exact Ev_str | walk_at "name" | (with_reducible apply Ev_neg; walk_at "ev") | (with_reducible apply Ev_binop; walk_at "ev"; walk_at "ev"; walk_at "bi") | (with_reducible apply @Ev_compare; assumption; walk_at "ev"; walk_at "ev"; walk_at "co"; with_unfolding_all exact rfl))
local macro_rules | `(tactic| walk_at "evs") => `(tactic| first | with_reducible exact Evs_nil | (with_reducible apply @Evs_cons; walk_at "ev"; walk_at "evs"; with_unfolding_all exact rfl))
local macro_rules | `(tactic| walk_at "kind") => `(tactic| (refine kind_of (by assumption) ?_; kernel_rfl))

theorem Lc_map {α : Type} {T : PV → Option PV → Prop} {f g : α → PV} : ∀ {l : List α}, (∀ a ∈ l, T (f a) (some (g a))) → Lc T (l.map f) (l.map g)
  | [], _ => .nil
  | a :: l, h => .keep (h a List.mem_cons_self) (Lc_map fun b hb => h b (List.mem_cons_of_mem _ hb))
theorem upd_cap {scope : Scope} {σ : Vars} {n : Str} {p : PV} (h : (scope.names.lookup n == some .free) = false) : ∀ m pv, cap scope σ m = some pv → upd (cap scope σ) n p m = some pv := fun m pv e => by
  by_cases hm : m = n
  · subst hm
    rw [cap_not (by simpa using h)] at e; cases e
  · unfold upd; rw [if_neg hm]; exact e
/-- what a turn shows -/
def TG (B : Bk) (C : Cx) (σ : Vars) (ow : Own) (ifs : List Expr) (elt : Expr) : Option PV → Prop
  | some y => Tests B C σ ow ifs true ∧ Ev B C σ ow elt y
  | none => Tests B C σ ow ifs false
section
variable {B : Bk} {C : Cx} {σ : Vars}
theorem Bound.comp {C' : Cx} {scope sc : Scope} {n : Str} (hsc : C.env.scope = sc) (hok : CompOk B C C' scope) (h : ((relabelS scope sc).names.lookup n == some .local || scope.names.lookup n == some .cell) = true) : Bound C' n := by
  rw [Bool.or_eq_true] at h
  rcases h with h | h
  · exact .inl (kind_of (hsc ▸ hok.sc) (by simpa using h))
  · exact hok.own n (by simpa using h)
/-- a turn of a comprehension with one name -/
theorem Turn_name {scope sc : Scope} {n : Str} {pt : Pos} {ifs : List Expr} {elt : Expr} {x : PV} {oy : Option PV} (hsc : C.env.scope = sc) (hown : ((relabelS scope sc).names.lookup n == some .local || scope.names.lookup n == some .cell) = true) (hnf : (scope.names.lookup n == some .free) = false)
    (h : ∀ C', C'.Ok B → C'.Cel → C'.A = C.A → C'.env.scope = relabelS scope sc → ∀ ow, TG B C' (upd (cap scope σ) n x) ow ifs elt oy) : Turn1 B C scope σ (.Name n pt) ifs elt x oy := fun C' hok =>
  ⟨_, Asg_name hok.ok hok.loc (Bound.comp hsc hok hown), upd_cap hnf, fun ow => by
    have := h C' hok.ok hok.cel hok.A (hsc ▸ hok.sc) ow
    cases oy <;> exact this⟩
theorem Turn_pair {scope sc : Scope} {n m : Str} {pn pm pt : Pos} {k : Nat} {ifs : List Expr} {elt : Expr} {p q : PV} {oy : Option PV} (hsc : C.env.scope = sc) (hown : ((relabelS scope sc).names.lookup n == some .local || scope.names.lookup n == some .cell) = true) (hnf : (scope.names.lookup n == some .free) = false)
    (hown' : ((relabelS scope sc).names.lookup m == some .local || scope.names.lookup m == some .cell) = true) (hnf' : (scope.names.lookup m == some .free) = false)
    (h : ∀ C', C'.Ok B → C'.Cel → C'.A = C.A → C'.env.scope = relabelS scope sc → ∀ ow, TG B C' (upd (upd (cap scope σ) n p) m q) ow ifs elt oy) : Turn1 B C scope σ (.Tuple [.Name n pn, .Name m pm] k pt) ifs elt (.tup [p, q]) oy := fun C' hok =>
  ⟨_, Asg_pair hok.ok hok.loc (Bound.comp hsc hok hown) (Bound.comp hsc hok hown'), fun y pv e => by
    by_cases hy : y = m
    · subst hy
      rw [cap_not (by simpa using hnf')] at e; cases e
    · unfold upd; rw [if_neg hy]; exact upd_cap hnf y pv e, fun ow => by
    have := h C' hok.ok hok.cel hok.A (hsc ▸ hok.sc) ow
    cases oy <;> exact this⟩
end

theorem Ss_return {B : Bk} {C : Cx} {σ : Vars} {ow : Own} {e : Expr} {pos : Pos} {pv : PV} (he : Ev B C σ ow e pv) : Ss B C σ ow [.Return (some e) pos] (Gives' pv) := Ss_cons (S1_return he rfl)
theorem rangeV_nat (n : Nat) : rangeV 0 (n : Int) = (List.range n).map fun (i : Nat) => PV.int i := by
  rw [rangeV_range', List.range_eq_range']
theorem fdiv_nat (a b : Nat) : ((a : Int).fdiv (b : Int)) = ((a / b : Nat) : Int) := by
  rw [Int.fdiv_eq_ediv_of_nonneg _ (Int.natCast_nonneg _)]; rfl
theorem fmod_nat (a b : Nat) : ((a : Int).fmod (b : Int)) = ((a % b : Nat) : Int) := by
  rw [Int.fmod_eq_emod_of_nonneg _ (Int.natCast_nonneg _)]; rfl

theorem pickI_length (lo hi st : Option Int) (ns : List Int) : (pickI lo hi st ns).length ≤ ns.length := by
  have h := slicePick_size_le (ns.map fun i => Value.int i 0).toArray lo hi st
  unfold slicePick at h
  rw [List.size_toArray, List.size_toArray, List.length_map] at h
  unfold pickI
  refine Nat.le_trans (Nat.le_of_eq ?_) h
  have : ∀ l : List Nat, (l.filterMap (ns[·]?)).length = (l.filterMap ((ns.map fun i => Value.int i 0).toArray[·]?)).length := by
    intro l
    induction l with
    | nil => rfl
    | cons i l ih =>
      rw [List.filterMap_cons, List.filterMap_cons]
      simp only [List.getElem?_toArray, List.getElem?_map] at ih ⊢
      cases ns[i]? <;> simp [ih]
  rw [this]
def firsts : List Int := [9036, 257174, 473261, 62008, 22123, 107]
/-- a cell of the law: what it starts with and every sixth of the script's numbers -/
def cellL (ns : List Int) (k : Nat) : Int := firsts.getD k 0 + ((pickI (some (k : Int)) none (some 6) ns).map fun x => x.fmod 1000000).sum
section
variable {B : Bk}
theorem F_cells (hA : B.All) {k : Nat} (hk : k < 900) {ns : List Int} (hz : ns.length ≤ 63) : Fn B k "_law_cells" [.list (ns.map .int)] (.list ((List.range 6).map fun k => .int (cellL ns k))) := by
  obtain ⟨ad, hd⟩ := hA.dCells
  refine Fn_intro (ns := ["script"]) hA.ok hd rfl (fun pm cd doc vs hv => ?_) (by kernel_rfl) hk (by kernel_rfl) (by kernel_rfl) (by kernel_rfl) (by kernel_rfl) fun C hC hO hcel hsc hR => ?_
  · match vs, hv with
    | [x0], _ => kernel_rfl
  · conv => arg 5; unfold dCells; whnf
    show Ss B C (upd _ _ _) none _ _
    refine Ss_cons (S1_assign (pv := .list (firsts.map .int)) hC hO (Ev_list ?_) (Bound.sc hO hsc (by kernel_rfl)) ?_ (by rfl))
    · unfold firsts; simp only [List.map_cons, List.map_nil]
      walk_at "evs"
    refine Ss_cons (S1_return (Ev_comp hC hcel (xs := rangeV 0 6) (It_range1 hC (by decide) (by decide) (by walk_at "kind") (hA.free _ (by decide +kernel)) (by rw [hA.bt _ (by decide +kernel)]; decide +kernel) (by decide +kernel) Ev_int) ?_ (by rw [hsc]; kernel_rfl)) rfl)
    show Lc _ (rangeV 0 ((6 : Nat) : Int)) _
    rw [rangeV_nat]
    refine Lc_map fun i hi => Turn_name hsc (by kernel_rfl) (by kernel_rfl) fun C' hC' hcel' hA' hsc' ow => ⟨rfl, ?_⟩
    have hi6 : i < 6 := List.mem_range.mp hi
    unfold cellL
    refine Ev_binop (p := .int (firsts.getD i 0)) (q := .int _) (Ev_item (xs := firsts.map .int) (k := (i : Int)) ?_ ?_ (by omega) ?_) (Ev_bi' hA hC' hsc' (ps := [.list (((pickI (some (i : Int)) none (some 6) ns).map fun x => x.fmod 1000000).map .int)]) Ca_sum (by kernel_rfl) (by decide +kernel) (by decide +kernel) (by decide +kernel) (Evs_cons ?_ Evs_nil)) Bi_add
    · walk_at "ev"
    · walk_at "ev"
    · have : i < firsts.length := hi6
      simp [List.getD, this]
    · refine Ev_comp hC' hcel' (xs := (pickI (some (i : Int)) none (some 6) ns).map .int) (It_list hC' .name ?_ (Ev_slice_ints (lo := some (i : Int)) (hi := none) (st := some 6) ?_ (EvP_some ?_) EvP_none (EvP_some Ev_int) (by decide))) ?_ (by rw [hsc']; kernel_rfl)
      · have : (pickI (some (i : Int)) none (some 6) ns).length ≤ ns.length := pickI_length _ _ _ _
        simp; exact Nat.le_trans (Nat.le_trans this hz) (by decide)
      · walk_at "ev"
      · walk_at "ev"
      · rw [List.map_map]
        refine Lc_map fun x hx => Turn_name hsc' (by kernel_rfl) (by kernel_rfl) fun C'' hC'' hcel'' hA'' hsc'' ow => ⟨rfl, ?_⟩
        show Ev B C'' _ ow _ (.int (x.fmod 1000000))
        walk_at "ev"

@[irreducible] def nameLits : List Str := ["OPTIMIZED", "NEWLOCALS", "VARARGS", "VARKEYWORDS", "NESTED", "GENERATOR", "NOFREE", "COROUTINE", "ITERABLE_COROUTINE", "ASYNC_GENERATOR"]
/-- the names of the places -/
@[irreducible] def namesL : List (List Nat) := (nameLits.map fun s => s.cps.toList) ++ (List.range 22).map fun k => hexL ((2 : Int) ^ (10 + k))
theorem rangeV_from (a n : Nat) : rangeV a ((a + n : Nat) : Int) = (List.range n).map fun (i : Nat) => PV.int ((a + i : Nat) : Int) := by
  unfold rangeV
  rw [show (((a + n : Nat) : Int) - (a : Int)).toNat = n by omega]
  exact List.map_congr_left fun i _ => by simp
@[irreducible] def namesA : List PV := nameLits.map fun s => PV.str s.cps.toList
@[irreducible] def namesB : List PV := (List.range 22).map fun k => PV.str (hexL ((2 : Int) ^ (10 + k)))
theorem names_split : namesL.map PV.str = namesA ++ namesB := by
  unfold namesL namesA namesB
  rw [List.map_append, List.map_map, List.map_map]
  rfl
theorem F_names (hA : B.All) {k : Nat} (hk : k < 900) : Fn B k "_law_names" [] (.list (namesL.map .str)) := by
  obtain ⟨ad, hd⟩ := hA.dNames
  rw [names_split]
  refine Fn_intro (ns := []) hA.ok hd rfl (fun pm cd doc vs hv => ?_) (by kernel_rfl) hk (by kernel_rfl) (by kernel_rfl) (by kernel_rfl) (by kernel_rfl) fun C hC hO hcel hsc hR => ?_
  · match vs, hv with
    | [], _ => kernel_rfl
  · conv => arg 5; unfold dNames; whnf
    refine Ss_return ?_
    · refine Ev_binop (p := .list namesA) (q := .list namesB) ?_ ?_ ?_
      · refine Ev_list ?_ ?_
        · unfold namesA nameLits; simp only [List.map_cons, List.map_nil]
          walk_at "evs"
        · unfold namesA nameLits; decide
      · refine Ev_comp hC hcel (xs := rangeV 10 32) (It_range2 hC (by decide) (by decide) (by decide) (by decide) (by walk_at "kind") (hA.free _ (by decide +kernel)) (by rw [hA.bt _ (by decide +kernel)]; decide +kernel) (by decide +kernel) Ev_int Ev_int) ?_ (by rw [hsc]; kernel_rfl)
        unfold namesB
        show Lc _ (rangeV ((10 : Nat) : Int) ((10 + 22 : Nat) : Int)) _
        rw [rangeV_from]
        refine Lc_map fun i hi => Turn_name hsc (by kernel_rfl) (by kernel_rfl) fun C' hC' hcel' hA' hsc' ow => ⟨rfl, ?_⟩
        have hi22 : i < 22 := List.mem_range.mp hi
        have hlt : (2 : Int) ^ (10 + i) < 4611686018427387904 := by
          have : 2 ^ (10 + i) ≤ 2 ^ 32 := Nat.pow_le_pow_right (by decide) (by omega)
          have e : ((2 : Int) ^ (10 + i)) = ((2 ^ (10 + i) : Nat) : Int) := (Int.natCast_pow 2 _).symm ▸ rfl
          rw [e]; omega
        refine Ev_bi' hA hC' hsc' (ps := [.int ((2 : Int) ^ ((10 + i : Nat) : Int).toNat)]) (Ca_hexL (Int.pow_nonneg (by decide)) hlt) (by kernel_rfl) (by decide +kernel) (by decide +kernel) (by decide +kernel) (Evs_cons (Ev_binop (p := .int 2) (q := .int ((10 + i : Nat) : Int)) Ev_int ?_ (Bi_pow (by omega) ?_)) Evs_nil)
        · walk_at "ev"
        · have : (Builtin.Int.intBits 2 : Int) = 2 := by decide +kernel
          rw [this]; omega
      · refine Bi_add_list ?_
        unfold namesA namesB nameLits
        simp only [List.length_map, List.length_range]
        decide
end
end Mine
end

section
open PySem PySem.W PyProof.Rows PySem.Calls
set_option Elab.async false
set_option linter.unusedVariables false
set_option maxRecDepth 100000
namespace Mine
section
variable {B : Bk} {C : Cx} {σ : Vars} {ow : Own} {a b : Nat}
theorem Ev_nat {i : Nat} {k : Nat} {pos : Pos} : Ev B C σ ow (.Constant (.int (@OfNat.ofNat Int i (@instOfNat i))) k pos) (.int ((@OfNat.ofNat Nat i (instOfNatNat i) : Nat) : Int)) := Ev_int
theorem Bi_addN : Bi B .Add (.int (a : Int)) (.int (b : Int)) (.int ((a + b : Nat) : Int)) := by rw [Int.natCast_add]; exact Bi_add
theorem Bi_subN (h : b ≤ a) : Bi B .Sub (.int (a : Int)) (.int (b : Int)) (.int ((a - b : Nat) : Int)) := by rw [Int.ofNat_sub h]; exact Bi_sub
theorem Bi_modN (h : b ≠ 0) : Bi B .Mod (.int (a : Int)) (.int (b : Int)) (.int ((a % b : Nat) : Int)) := by rw [← fmod_nat]; exact Bi_mod (by omega)
theorem Bi_divN (h : b ≠ 0) (ha : a < 2 ^ 20) (hb : b < 2 ^ 20) : Bi B .FloorDiv (.int (a : Int)) (.int (b : Int)) (.int ((a / b : Nat) : Int)) := by
  rw [← fdiv_nat]; exact Bi_div (by omega) (PyProof.noPylong_small (by omega))
theorem Co_ltN : Co B .Lt (.int (a : Int)) (.int (b : Int)) (decide (a < b)) := by
  have : decide (a < b) = decide ((a : Int) < (b : Int)) := decide_eq_decide.mpr (by omega)
  rw [this]; exact Co_lt
theorem Co_gtN : Co B .Gt (.int (a : Int)) (.int (b : Int)) (decide (a > b)) := by
  have : decide (a > b) = decide ((a : Int) > (b : Int)) := decide_eq_decide.mpr (by omega)
  rw [this]; exact Co_gt
theorem Co_eqN : Co B .Eq (.int (a : Int)) (.int (b : Int)) (a == b) := by
  have : (a == b) = ((a : Int) == (b : Int)) := by rw [Bool.eq_iff_iff]; simp; omega
  rw [this]; exact Co_eq
theorem In_addN : In B .Add (.int (a : Int)) (.int (b : Int)) (.int ((a + b : Nat) : Int)) := by rw [Int.natCast_add]; exact In_add
theorem Ss_ret {e : Expr} {pos : Pos} {pv : PV} {P : Out → Prop} (he : Ev B C σ ow e pv) (h : P (.ret pv)) : Ss B C σ ow [.Return (some e) pos] P := Ss_cons (S1_return he h)
theorem Ev_tup2 {es : List Expr} {p q : PV} {k : Nat} {pos : Pos} (h : Evs B C σ ow es [p, q]) : Ev B C σ ow (.Tuple es k pos) (.tup [p, q]) := Ev_tuple h (by show 2 ≤ sizeLine; decide)
theorem Ca_chrN (h : a ≤ 0x10FFFF) : Ca B "chr" [.int (a : Int)] (.str [a]) := by
  have := @Ca_chr B (a : Int) (by simp; omega)
  rw [Int.toNat_natCast] at this; exact this
end
local macro_rules | `(tactic| walk_at "look") => `(tactic| first | with_reducible exact upd_self _ _ _ | (refine (upd_ne (by decide +kernel)).trans ?_; walk_at "look") | (refine cap_of (by kernel_rfl) ?_; walk_at "look") | assumption)
local macro_rules | `(tactic| walk_at "name") => `(tactic| (with_reducible apply Ev_name (by assumption); walk_at "look"; decide +kernel; decide +kernel))
local macro_rules | `(tactic| walk_at "bi") => `(tactic| first | with_reducible exact Bi_addN | (with_reducible apply Bi_subN; omega) | (with_reducible apply Bi_modN; omega) | (with_reducible apply Bi_divN; omega; omega; omega))
local macro_rules | `(tactic| walk_at "co") => `(tactic| first | with_reducible exact Co_eqN | with_reducible exact Co_ltN | with_reducible exact Co_gtN)
local macro_rules | `(tactic| walk_at "ev") => `(tactic| first | with_reducible exact Ev_nat | with_reducible exact Ev_true | with_reducible exact Ev_none | with_reducible exact Ev_str | walk_at "name" | (with_reducible apply Ev_neg; walk_at "ev") | (with_reducible apply Ev_binop; walk_at "ev"; walk_at "ev"; walk_at "bi") | (with_reducible apply @Ev_compare; assumption; walk_at "ev"; walk_at "ev"; walk_at "co"; with_unfolding_all exact rfl))
local macro_rules | `(tactic| walk_at "evs") => `(tactic| first | with_reducible exact Evs_nil | (with_reducible apply @Evs_cons; walk_at "ev"; walk_at "evs"; with_unfolding_all exact rfl))
local macro_rules | `(tactic| walk_at "kind") => `(tactic| (refine kind_of (by assumption) ?_; kernel_rfl))

def marksL : List Nat := [173, 847, 6150, 6155, 6156, 6157, 8203, 8204, 8205, 8288, 65279]
@[irreducible] def markedL : List (List Nat) := [[912, 953, 776, 769], [944, 965, 776, 769], [8018, 965, 787, 768], [8020, 965, 787, 769], [8022, 965, 787, 834], [8119, 945, 834, 953], [8135, 951, 834, 953], [8146, 953, 776, 768], [8151, 953, 776, 834], [8162, 965, 776, 768]]
theorem markedL_len : markedL.length = 10 := by decide +kernel
/-- a sign and what is due for it -/
def signN (n : Nat) : Nat × List Nat :=
  let w := n / 10
  if n % 10 < 3 then (if w % 27 < 11 then marksL.getD (w % 27) 0 else 65024 + w % 27 - 11, [])
  else if n % 10 = 3 then (120488 + w % 17, [945 + w % 17])
  else if n % 10 < 6 then (let c := if w % 23 > 16 then 913 + w % 23 + 2 else 913 + w % 23; (c, [c + 32]))
  else if n % 10 < 9 then (8064 + w % 48, [[7936, 7968, 8032].getD (w % 48 / 16) 0 + w % 48 % 8, 953])
  else (let m := markedL.getD (w % 10) []; (m.getD 0 0, m.drop 1))
section
variable {B : Bk}
set_option maxHeartbeats 4000000 in
theorem F_sign (hA : B.All) {k : Nat} (hk : k < 900) {n : Nat} (hn : n < 1000) : Fn B k "_law_sign" [.int (n : Int)] (.tup [.str [(signN n).1], .str (signN n).2]) := by
  obtain ⟨ad, hd⟩ := hA.dSign
  refine Fn_intro (ns := ["n"]) hA.ok hd rfl (fun pm cd doc vs hv => ?_) (by kernel_rfl) hk (by kernel_rfl) (by kernel_rfl) (by kernel_rfl) (by kernel_rfl) fun C hC hO hcel hsc hR => ?_
  · match vs, hv with
    | [x0], _ => kernel_rfl
  · conv => arg 5; unfold dSign; whnf
    show Ss B C (upd _ _ _) none _ _
    have chr : ∀ {σ : Vars} {pf pos : Pos} {e : Expr} {a : Nat}, a ≤ 0x10FFFF → Ev B C σ none e (.int (a : Int)) → (hp : plainArg e = true := by rfl) →
      (he : eval (.Call (.Name "chr" pf) [e] [] pos) C.env = (do callWith pos (← eval (.Name "chr" pf) C.env) [] (backTo pos (starEach [e] C.env)) (backToKw pos (keywordEach [] C.env))) := by rfl) →
      Ev B C σ none (.Call (.Name "chr" pf) [e] [] pos) (.str [a]) := fun h he hp he' => Ev_bi' hA hC hsc (Ca_chrN h) (by kernel_rfl) (by decide +kernel) (by decide +kernel) (by decide +kernel) (Evs_cons he Evs_nil hp) (by simp [hp]) he'
    refine Ss_cons (S1_assign (pv := .int ((n / 10 : Nat) : Int)) hC hO (by walk_at "ev") (Bound.sc hO hsc (by kernel_rfl)) ?_ (by rfl))
    unfold signN
    refine Ss_cons (S1_if (b := decide (n % 10 < 3)) (Tr_compare hC (by walk_at "ev") (by walk_at "ev") Co_ltN) (fun h => ?_) fun h => Ss_nil ?_)
    · rw [decide_eq_true_iff] at h
      rw [if_pos h]
      refine Ss_cons (S1_assign (pv := .int ((n / 10 % 27 : Nat) : Int)) hC hO (by walk_at "ev") (Bound.sc hO hsc (by kernel_rfl)) ?_ (by rfl))
      refine Ss_cons (S1_assign (pv := .str marksL) hC hO (Ev_lit (by kernel_rfl)) (Bound.sc hO hsc (by kernel_rfl)) ?_ (by rfl))
      refine Ss_ret ?_ rfl
      refine Ev_tup2 (Evs_cons ?_ (Evs_cons (Ev_lit (by kernel_rfl)) Evs_nil))
      refine Ev_ifexp (b := decide (n / 10 % 27 < 11)) (Tr_compare hC (by walk_at "ev") (by walk_at "ev") Co_ltN) (fun h' => ?_) fun h' => ?_
      · rw [decide_eq_true_iff] at h'
        rw [if_pos h']
        refine Ev_item_str (xs := marksL) (k := ((n / 10 % 27 : Nat) : Int)) ?_ ?_ (by omega) (by omega) ?_
        · walk_at "ev"
        · walk_at "ev"
        · have : n / 10 % 27 < marksL.length := h'
          rw [Int.toNat_natCast]; simp [List.getD, this]
      · rw [decide_eq_false_iff_not] at h'
        rw [if_neg h']
        refine chr (a := 65024 + n / 10 % 27 - 11) (by omega) ?_
        walk_at "ev"
    rw [decide_eq_false_iff_not] at h
    rw [if_neg h]
    refine Ss_cons (S1_if (b := (n % 10 == 3)) (Tr_compare hC (by walk_at "ev") (by walk_at "ev") Co_eqN) (fun h3 => ?_) fun h3 => Ss_nil ?_)
    · rw [beq_iff_eq] at h3
      rw [if_pos h3]
      refine Ss_ret ?_ rfl
      refine Ev_tup2 (Evs_cons (chr (a := 120488 + n / 10 % 17) (by omega) ?_) (Evs_cons (chr (a := 945 + n / 10 % 17) (by omega) ?_) Evs_nil))
      · walk_at "ev"
      · walk_at "ev"
    rw [beq_eq_false_iff_ne] at h3
    rw [if_neg h3]
    refine Ss_cons (S1_if (b := decide (n % 10 < 6)) (Tr_compare hC (by walk_at "ev") (by walk_at "ev") Co_ltN) (fun h6 => ?_) fun h6 => Ss_nil ?_)
    · rw [decide_eq_true_iff] at h6
      rw [if_pos h6]
      refine Ss_cons (S1_assign (pv := .int ((913 + n / 10 % 23 : Nat) : Int)) hC hO (by walk_at "ev") (Bound.sc hO hsc (by kernel_rfl)) ?_ (by rfl))
      refine Ss_cons (S1_if (b := decide (n / 10 % 23 > 16)) (Tr_compare hC (by walk_at "ev") (by walk_at "ev") Co_gtN) (fun h' => ?_) fun h' => Ss_nil ?_)
      · rw [decide_eq_true_iff] at h'
        rw [if_pos h']
        refine Ss_cons (S1_aug hC hO (a := .int ((913 + n / 10 % 23 : Nat) : Int)) (b := .int ((2 : Nat) : Int)) (c := .int ((913 + n / 10 % 23 + 2 : Nat) : Int)) (by walk_at "look") (by decide +kernel) Ev_nat In_addN (Bound.sc hO hsc (by kernel_rfl)) (Ss_nil ?_))
        refine Ss_ret ?_ rfl
        refine Ev_tup2 (Evs_cons (chr (a := 913 + n / 10 % 23 + 2) (by omega) ?_) (Evs_cons (chr (a := 913 + n / 10 % 23 + 2 + 32) (by omega) ?_) Evs_nil))
        · walk_at "ev"
        · walk_at "ev"
      · rw [decide_eq_false_iff_not] at h'
        rw [if_neg h']
        refine Ss_ret ?_ rfl
        refine Ev_tup2 (Evs_cons (chr (a := 913 + n / 10 % 23) (by omega) ?_) (Evs_cons (chr (a := 913 + n / 10 % 23 + 32) (by omega) ?_) Evs_nil))
        · walk_at "ev"
        · walk_at "ev"
    rw [decide_eq_false_iff_not] at h6
    rw [if_neg h6]
    refine Ss_cons (S1_if (b := decide (n % 10 < 9)) (Tr_compare hC (by walk_at "ev") (by walk_at "ev") Co_ltN) (fun h9 => ?_) fun h9 => Ss_nil ?_)
    · rw [decide_eq_true_iff] at h9
      rw [if_pos h9]
      refine Ss_cons (S1_assign (pv := .int ((n / 10 % 48 : Nat) : Int)) hC hO (by walk_at "ev") (Bound.sc hO hsc (by kernel_rfl)) ?_ (by rfl))
      have h3 : n / 10 % 48 / 16 < 3 := by omega
      have hb : [7936, 7968, 8032].getD (n / 10 % 48 / 16) 0 ≤ 8032 := by
        have : ∀ i, i < 3 → [7936, 7968, 8032].getD i 0 ≤ 8032 := by decide
        exact this _ h3
      refine Ss_ret ?_ rfl
      refine Ev_tup2 (Evs_cons (chr (a := 8064 + n / 10 % 48) (by omega) ?_) (Evs_cons (Ev_binop (q := .str [953]) (chr (a := [7936, 7968, 8032].getD (n / 10 % 48 / 16) 0 + n / 10 % 48 % 8) (by omega) (Ev_binop (Ev_item (xs := [.int ((7936 : Nat) : Int), .int ((7968 : Nat) : Int), .int ((8032 : Nat) : Int)]) (k := ((n / 10 % 48 / 16 : Nat) : Int)) ?_ ?_ (by omega) ?_) ?_ Bi_addN)) (Ev_lit (by kernel_rfl)) (Bi_add_str (by show 2 ≤ sizeLine; decide))) Evs_nil))
      · walk_at "ev"
      · refine Ev_list ?_
        walk_at "evs"
      · walk_at "ev"
      · have : ∀ i, i < 3 → ([.int ((7936 : Nat) : Int), .int ((7968 : Nat) : Int), .int ((8032 : Nat) : Int)] : List PV)[i]? = some (.int (([7936, 7968, 8032].getD i 0 : Nat) : Int)) := by
          intro i hi
          match i, hi with
          | 0, _ => rfl
          | 1, _ => rfl
          | 2, _ => rfl
        exact this _ h3
      · walk_at "ev"
    · rw [decide_eq_false_iff_not] at h9
      rw [if_neg h9]
      have h10 : n / 10 % 10 < markedL.length := by rw [markedL_len]; omega
      refine Ss_cons ?_
      refine S1_assign (pv := .list (markedL.map .str)) hC hO ?he ?hk ?h ?hs
      case hk => exact (Bound.sc hO hsc (by kernel_rfl))
      case hs => kernel_rfl
      case he =>
        refine Ev_list ?he ?hz
        case hz => rw [List.length_map, markedL_len]; decide
        case he =>
          unfold markedL; simp only [List.map_cons, List.map_nil]
          iterate 10 (with_reducible refine @Evs_cons _ _ _ _ _ _ _ _ (Ev_lit (by kernel_rfl)) ?_ (by with_unfolding_all exact rfl))
          with_reducible exact Evs_nil
      have hget : ∀ {p1 p2 p3 p4 p5 : Pos} {σ : Vars}, σ "which" = some (.int ((n / 10 : Nat) : Int)) → Ev B C (upd σ "marked" (.list (markedL.map .str))) none (.Subscript (.Name "marked" p1) (.BinOp (.Name "which" p2) .Mod (.Constant (.int 10) 0 p3) p4) p5) (.str (markedL.getD (n / 10 % 10) [])) := by
        intro p1 p2 p3 p4 p5 σ hσ
        refine Ev_item (xs := markedL.map .str) (k := ((n / 10 % 10 : Nat) : Int)) ?_ (Ev_binop (Ev_name hC ((upd_ne (by decide +kernel)).trans hσ) (by decide +kernel) (by decide +kernel)) Ev_nat (Bi_modN (by decide))) (by omega) ?_
        · walk_at "ev"
        · rw [Int.toNat_natCast]; simp [List.getD, h10]
      have hne : ∀ i, i < 10 → (0 < (markedL.getD i []).length ∧ (markedL.getD i []).length ≤ 4) ∧ Txt.slice ⟨(markedL.getD i []).toArray⟩ (some ((1 : Nat) : Int)) none = ⟨((markedL.getD i []).drop 1).toArray⟩ := by decide +kernel
      obtain ⟨⟨hm1, hm2⟩, hm3⟩ := hne (n / 10 % 10) (by omega)
      show Ss B C _ none [_] _
      generalize markedL.getD (n / 10 % 10) [] = m at hget hm1 hm2 hm3 ⊢
      generalize markedL.map PV.str = ms at hget ⊢
      refine Ss_ret ?_ rfl
      show Ev B C _ none (.Tuple _ _ _) (.tup [.str [m.getD 0 0], .str (m.drop 1)])
      refine Ev_tup2 (Evs_cons ?_ (Evs_cons ?_ Evs_nil))
      · refine Ev_item_str (xs := m) (k := ((0 : Nat) : Int)) ?_ Ev_nat (by decide) (by decide) ?_
        · exact hget (by walk_at "look")
        · rw [Int.toNat_natCast]; simp [List.getD, hm1]
      · refine Ev_slice_str (xs := m) (lo := some ((1 : Nat) : Int)) (hi := none) ?_ ?_ (EvP_some Ev_nat) EvP_none hm3
        · exact Nat.le_trans hm2 (by decide)
        · exact hget (by walk_at "look")
end
end Mine
end

section
open PySem PySem.W PyProof.Rows PySem.Calls
set_option Elab.async false
set_option linter.unusedVariables false
set_option maxRecDepth 100000
namespace Mine
local macro_rules | `(tactic| walk_at "look") => `(tactic| first | with_reducible exact upd_self _ _ _ | (refine (upd_ne (by decide +kernel)).trans ?_; walk_at "look") | (refine cap_of (by kernel_rfl) ?_; walk_at "look") | assumption)
local macro_rules | `(tactic| walk_at "name") => `(tactic| (with_reducible apply Ev_name (by assumption); walk_at "look"; decide +kernel; decide +kernel))
local macro_rules | `(tactic| walk_at "bi") => `(tactic| first | with_reducible exact Bi_addN | (with_reducible apply Bi_subN; omega) | (with_reducible apply Bi_modN; omega) | (with_reducible apply Bi_divN; omega; omega; omega) | with_reducible exact Bi_add | with_reducible exact Bi_sub)
local macro_rules | `(tactic| walk_at "co") => `(tactic| first | with_reducible exact Co_eqN | with_reducible exact Co_ltN | with_reducible exact Co_gtN)
local macro_rules | `(tactic| walk_at "ev") => `(tactic| first | with_reducible exact Ev_nat | with_reducible exact Ev_true | with_reducible exact Ev_none | with_reducible exact Ev_str | walk_at "name" | (with_reducible apply Ev_neg; walk_at "ev") | (with_reducible apply Ev_binop; walk_at "ev"; walk_at "ev"; walk_at "bi") | (with_reducible apply @Ev_compare; assumption; walk_at "ev"; walk_at "ev"; walk_at "co"; with_unfolding_all exact rfl))
local macro_rules | `(tactic| walk_at "evs") => `(tactic| first | with_reducible exact Evs_nil | (with_reducible apply @Evs_cons; walk_at "ev"; walk_at "evs"; with_unfolding_all exact rfl))
local macro_rules | `(tactic| walk_at "kind") => `(tactic| (refine kind_of (by assumption) ?_; kernel_rfl))
section
variable {B : Bk} {k : Nat} {a b m n : Nat}
theorem F_shlN (hA : B.All) (hk : k < 900) (hn : n ≤ 1000000) (ha : a < 2 ^ 60) : Fn B k "lshift" [.int (a : Int), .int (n : Int)] (.int ((a * 2 ^ n : Nat) : Int)) := by
  have := @F_shl B hA k hk (a : Int) (n : Int) (by omega) (by omega) (by omega)
  rw [Int.toNat_natCast] at this
  rw [Int.natCast_mul, Int.natCast_pow]; exact this
theorem and_two (m n : Nat) : Builtin.bitAnd (m : Int) ((1 * 2 ^ n : Nat) : Int) = ((if m.testBit n then 2 ^ n else 0 : Nat) : Int) := by
  have := and_bit m n
  rw [Int.natCast_mul, Int.natCast_pow]
  refine Eq.trans this ?_
  cases m.testBit n <;> rfl
theorem F_andN (hA : B.All) (hk : k < 900) : Fn B k "and_" [.int (m : Int), .int ((1 * 2 ^ n : Nat) : Int)] (.int ((if m.testBit n then 2 ^ n else 0 : Nat) : Int)) := by
  rw [← and_two]; exact F_and hA hk
theorem F_gtN (hA : B.All) (hk : k < 900) : Fn B k "gt" [.int (a : Int), .int (b : Int)] (.bool (decide (a > b))) := by
  have : decide (a > b) = decide ((a : Int) > (b : Int)) := decide_eq_decide.mpr (by omega)
  rw [this]; exact F_gt hA hk
theorem F_addN (hA : B.All) (hk : k < 900) : Fn B k "add" [.int (a : Int), .int (b : Int)] (.int ((a + b : Nat) : Int)) := by
  rw [Int.natCast_add]; exact F_add hA hk
end
/-! the choice of the fullest rows -/
def bestStep (ls : List Nat) (m sh : Nat) (best : Option Nat) (i : Nat) : Option Nat :=
  if m.testBit (i + sh) = false ∧ ls.getD i 0 > 0 then (match best with
    | none => some i
    | some b => if ls.getD i 0 > ls.getD b 0 then some i else some b) else best
def bestN (ls : List Nat) (m sh : Nat) : Option Nat := (List.range 4).foldl (bestStep ls m sh) none
def chosenN (ls : List Nat) (sh : Nat) : Nat → Nat → Option Nat
  | 0, m => some m
  | w + 1, m => match bestN ls m sh with
    | none => none
    | some b => chosenN ls sh w (m + 1 * 2 ^ (b + sh))
def optI : Option Nat → PV
  | none => .int (-1)
  | some n => .int (n : Int)
def natsV (ls : List Nat) : PV := .list (ls.map fun (n : Nat) => .int (n : Int))
/-- what the walk through the choice keeps -/
structure Lk (ls : List Nat) (sh m : Nat) (σ : Vars) : Prop where
  left : σ "left" = some (natsV ls)
  shift : σ "shift" = some (.int (sh : Int))
  flags : σ "flags" = some (.int (m : Int))
theorem Lk.upd {ls : List Nat} {sh m : Nat} {σ : Vars} (h : Lk ls sh m σ) {n : Str} {p : PV} (h1 : ("left" == n) = false) (h2 : ("shift" == n) = false) (h3 : ("flags" == n) = false) : Lk ls sh m (upd σ n p) :=
  ⟨(upd_ne h1).trans h.left, (upd_ne h2).trans h.shift, (upd_ne h3).trans h.flags⟩
section
variable {B : Bk} {C : Cx} {k : Nat} {ls : List Nat} {sh : Nat}
theorem best_loop {t : Expr} {body : List Stmt} {m : Nat} {P : Out → Prop}
    (hturn : ∀ σ (i : Nat) b, i < 4 → (∀ c, b = some c → c < 4) → Lk ls sh m σ → σ "best" = some (optI b) → ∃ σ', Asg B C t (.int (i : Int)) σ σ' ∧ ∀ P : Out → Prop, (∀ σ₂, Lk ls sh m σ₂ → σ₂ "best" = some (optI (bestStep ls m sh b i)) → P (.next σ₂ none)) → Ss B C σ' none body P) :
    ∀ (is : List Nat) (σ : Vars) (b : Option Nat), (∀ i ∈ is, i < 4) → (∀ c, b = some c → c < 4) → Lk ls sh m σ → σ "best" = some (optI b) →
      (∀ σ₂, Lk ls sh m σ₂ → σ₂ "best" = some (optI (is.foldl (bestStep ls m sh) b)) → P (.next σ₂ none)) → Lp B C t body [] P (is.map fun (i : Nat) => .int (i : Int)) σ none
  | [], σ, b, _, _, hl, hb, hP => Ss_nil (hP σ hl hb)
  | i :: is, σ, b, his, hc, hl, hb, hP => by
    have hi := his i List.mem_cons_self
    obtain ⟨σ', ha, hs⟩ := hturn σ i b hi hc hl hb
    refine ⟨σ', ha, hs _ fun σ₂ hl₂ hb₂ => best_loop hturn is σ₂ (bestStep ls m sh b i) (fun j hj => his j (List.mem_cons_of_mem _ hj)) (fun c e => ?_) hl₂ hb₂ hP⟩
    unfold bestStep at e
    split at e
    · split at e
      · cases e; exact hi
      · split at e
        · cases e; exact hi
        · cases e; exact hc _ rfl
    · exact hc c e
theorem best_lt {m : Nat} : ∀ (is : List Nat) (b : Option Nat), (∀ i ∈ is, i < 4) → (∀ c, b = some c → c < 4) → ∀ c, is.foldl (bestStep ls m sh) b = some c → c < 4
  | [], b, _, hc, c, e => hc c e
  | i :: is, b, his, hc, c, e => by
    have hi := his i List.mem_cons_self
    refine best_lt is (bestStep ls m sh b i) (fun j hj => his j (List.mem_cons_of_mem _ hj)) (fun c e => ?_) c e
    unfold bestStep at e
    split at e
    · split at e
      · cases e; exact hi
      · split at e
        · cases e; exact hi
        · cases e; exact hc _ rfl
    · exact hc c e
theorem chosen_loop {t : Expr} {body : List Stmt} {orelse : List Stmt} {P : Out → Prop}
    (hturn : ∀ σ m (i : Nat), Lk ls sh m σ → ∃ σ', Asg B C t (.int (i : Int)) σ σ' ∧ ∀ P : Out → Prop, (bestN ls m sh = none → P (.ret (.int (-1)))) → (∀ b, bestN ls m sh = some b → ∀ σ₂, Lk ls sh (m + 1 * 2 ^ (b + sh)) σ₂ → P (.next σ₂ none)) → Ss B C σ' none body P) :
    ∀ (is : List Nat) (σ : Vars) (m : Nat), Lk ls sh m σ → (chosenN ls sh is.length m = none → P (.ret (.int (-1)))) →
      (∀ c, chosenN ls sh is.length m = some c → ∀ σ₂, Lk ls sh c σ₂ → Ss B C σ₂ none orelse P) → Lp B C t body orelse P (is.map fun (i : Nat) => .int (i : Int)) σ none
  | [], σ, m, hl, _, hP => hP m rfl σ hl
  | i :: is, σ, m, hl, hN, hP => by
    obtain ⟨σ', ha, hs⟩ := hturn σ m i hl
    refine ⟨σ', ha, hs _ (fun e => ?_) (fun b e σ₂ hl₂ => ?_)⟩
    · have : chosenN ls sh (is.length + 1) m = none := by rw [chosenN, e]
      exact hN this
    · have : chosenN ls sh (is.length + 1) m = chosenN ls sh is.length (m + 1 * 2 ^ (b + sh)) := by rw [chosenN, e]
      rw [List.length_cons, this] at hN hP
      exact chosen_loop hturn is σ₂ _ hl₂ hN hP
end
section
variable {B : Bk}
set_option maxHeartbeats 4000000 in
theorem F_chosen (hA : B.All) {k : Nat} (hk : k < 890) {ls : List Nat} {w sh : Nat} (hls : ls.length = 4) (hw : w < 100) (hsh : sh < 1000) :
    Fn B k "_law_chosen" [natsV ls, .int (w : Int), .int (sh : Int)] (optI (chosenN ls sh w 0)) := by
  obtain ⟨ad, hd⟩ := hA.dChosen
  refine Fn_intro (ns := ["left", "wish", "shift"]) hA.ok hd rfl (fun pm cd doc vs hv => ?_) (by kernel_rfl) (by omega) (by kernel_rfl) (by kernel_rfl) (by kernel_rfl) (by kernel_rfl) fun C hC hO hcel hsc hR => ?_
  · match vs, hv with
    | [x0, x1, x2], _ => kernel_rfl
  · conv => arg 5; unfold dChosen; whnf
    show Ss B C (upd (upd (upd _ _ _) _ _) _ _) none _ _
    have hk1 : k + 1 < 900 := by omega
    have call2 : ∀ {f : Str} {σ : Vars} {pf pos : Pos} {e₁ e₂ : Expr} {p q r : PV}, Fn B (k + 1) f [p, q] r → dChosen.scope.names.lookup f = some .globalImplicit → (f == ("__debug__" : Str)) = false → Ev B C σ none e₁ p → Ev B C σ none e₂ q →
        (plainArg e₁ = true) → (plainArg e₂ = true) → (eval (.Call (.Name f pf) [e₁, e₂] [] pos) C.env = (do callWith pos (← eval (.Name f pf) C.env) [] (backTo pos (starEach [e₁, e₂] C.env)) (backToKw pos (keywordEach [] C.env)))) →
        Ev B C σ none (.Call (.Name f pf) [e₁, e₂] [] pos) r := fun hF hx hf h1 h2 p1 p2 he =>
      Ev_call hC hF (kind_of hsc hx) hf hR (Evs_cons h1 (Evs_cons h2 Evs_nil p2) p1) p1 he
    have item : ∀ {σ : Vars} {n : Str} {i : Nat} {p1 p2 p3 : Pos}, σ "left" = some (natsV ls) → σ n = some (.int (i : Int)) → i < 4 → (n == ("__debug__" : Str)) = false → (n == ("__classdict__" : Str)) = false → Ev B C σ none (.Subscript (.Name "left" p1) (.Name n p2) p3) (.int ((ls.getD i 0 : Nat) : Int)) := by
      intro σ n i p1 p2 p3 hl hi h4 hd1 hd2
      refine Ev_item (xs := ls.map fun (n : Nat) => .int (n : Int)) (k := (i : Int)) (Ev_name hC hl (by decide +kernel) (by decide +kernel)) (Ev_name hC hi hd1 hd2) (by omega) ?_
      have : i < ls.length := by omega
      rw [Int.toNat_natCast]; simp [List.getD, this]
    refine Ss_cons (S1_assign (pv := .int ((0 : Nat) : Int)) hC hO Ev_nat (Bound.sc hO hsc (by kernel_rfl)) ?_ (by rfl))
    refine Ss_cons ?_
    refine S1_for (xs := rangeV 0 (w : Int)) hC (It_range1 hC (by omega) (by omega) (by walk_at "kind") (hA.free _ (by decide +kernel)) (by rw [hA.bt _ (by decide +kernel)]; decide +kernel) (by decide +kernel) (by walk_at "ev")) ?_
    rw [rangeV_nat]
    refine chosen_loop (ls := ls) (sh := sh) (fun σ m i hl => ?turn) (List.range w) _ 0 ⟨by walk_at "look", by walk_at "look", by walk_at "look"⟩ (fun e => ?none) (fun c e σ₂ hl => ?some)
    case none => rw [List.length_range] at e; rw [e]; rfl
    case some =>
      rw [List.length_range] at e; rw [e]
      refine Ss_nil ?_
      refine Ss_ret (pv := .int (c : Int)) (Ev_name hC hl.flags (by decide +kernel) (by decide +kernel)) rfl
    case turn =>
      refine ⟨_, Asg_name hC hO.loc (Bound.sc hO hsc (by kernel_rfl)), fun P' p1 p2 => ?_⟩
      have hl' := hl.upd (n := "step") (p := .int (i : Int)) (by decide +kernel) (by decide +kernel) (by decide +kernel)
      refine Ss_cons (S1_assign (pv := .int (-1)) hC hO (Ev_neg Ev_int) (Bound.sc hO hsc (by kernel_rfl)) ?_ (by rfl))
      refine Ss_cons ?_
      refine S1_for (xs := rangeV 0 4) hC (It_range1 hC (by decide) (by decide) (by walk_at "kind") (hA.free _ (by decide +kernel)) (by rw [hA.bt _ (by decide +kernel)]; decide +kernel) (by decide +kernel) Ev_int) ?_
      rw [show (rangeV 0 4) = (List.range 4).map fun (i : Nat) => PV.int i from rangeV_nat 4]
      refine best_loop (ls := ls) (sh := sh) (m := m) (fun σ i b hi hb hl best => ?turn) (List.range 4) _ none (fun i hi => List.mem_range.mp hi) (fun c e => nomatch e) (hl'.upd (by decide +kernel) (by decide +kernel) (by decide +kernel)) (upd_self _ _ _) (fun σ₂ hl hb => ?rest)
      case turn =>
        refine ⟨_, Asg_name hC hO.loc (Bound.sc hO hsc (by kernel_rfl)), fun P' p1 => ?_⟩
        have hl' := hl.upd (n := "i") (p := .int (i : Int)) (by decide +kernel) (by decide +kernel) (by decide +kernel)
        have best' : upd σ "i" (.int (i : Int)) "best" = some (optI b) := (upd_ne (by decide +kernel)).trans best
        have hi' : upd σ "i" (.int (i : Int)) "i" = some (.int (i : Int)) := upd_self _ _ _
        generalize upd σ "i" (.int (i : Int)) = σ' at hl' best' hi'
        refine Ss_cons ?_
        refine S1_if (b := (((if m.testBit (i + sh) then 2 ^ (i + sh) else 0 : Nat) == 0) && (decide (ls.getD i 0 > 0) && true))) ?test (fun h => ?yes) fun h => ?no
        case test =>
          refine Tr_and ?_ fun _ => Tr_and ?_ fun _ => Tr_and_nil
          · refine Tr_compare hC (p := .int ((if m.testBit (i + sh) then 2 ^ (i + sh) else 0 : Nat) : Int)) (q := .int ((0 : Nat) : Int)) ?_ Ev_nat Co_eqN
            refine call2 (F_andN hA hk1) (by kernel_rfl) (by decide +kernel) (Ev_name hC hl'.flags (by decide +kernel) (by decide +kernel)) ?_ (by rfl) (by rfl) (by rfl)
            refine call2 (F_shlN hA hk1 (n := i + sh) (by omega) (by decide)) (by kernel_rfl) (by decide +kernel) Ev_nat (Ev_binop (Ev_name hC hi' (by decide +kernel) (by decide +kernel)) (Ev_name hC hl'.shift (by decide +kernel) (by decide +kernel)) Bi_addN) (by rfl) (by rfl) (by rfl)
          · refine Tr_plain (p := .bool _) ?_ Th_bool
            refine call2 (F_gtN hA hk1) (by kernel_rfl) (by decide +kernel) (item hl'.left hi' hi (by decide +kernel) (by decide +kernel)) Ev_nat (by rfl) (by rfl) (by rfl)
        case no =>
          refine Ss_nil (Ss_nil (p1 _ hl' (best'.trans ?_)))
          rw [Bool.and_true, Bool.and_eq_false_iff] at h
          unfold bestStep
          rw [if_neg]
          rintro ⟨h1, h2⟩
          rcases h with h | h
          · rw [h1] at h; simp at h
          · rw [decide_eq_false_iff_not] at h; exact h h2
        case yes =>
          rw [Bool.and_true, Bool.and_eq_true] at h
          obtain ⟨h1, h2⟩ := h
          have hbit : m.testBit (i + sh) = false := by
            cases e : m.testBit (i + sh)
            · rfl
            · rw [e] at h1; simp at h1
          have hpos : ls.getD i 0 > 0 := by simpa using h2
          refine Ss_cons ?_
          cases b with
          | none =>
            refine S1_if (b := true || false) (Tr_or (Tr_compare hC (p := .int (-1)) (q := .int ((0 : Nat) : Int)) (Ev_name hC best' (by decide +kernel) (by decide +kernel)) Ev_nat (Co_lt (a := -1) (b := ((0 : Nat) : Int)))) fun h => nomatch h) (fun _ => ?_) fun h => nomatch h
            refine Ss_cons (S1_assign (pv := .int (i : Int)) hC hO (Ev_name hC hi' (by decide +kernel) (by decide +kernel)) (Bound.sc hO hsc (by kernel_rfl)) ?_ (by rfl))
            refine Ss_nil (Ss_nil (Ss_nil (p1 _ (hl'.upd (by decide +kernel) (by decide +kernel) (by decide +kernel)) ?_)))
            rw [upd_self]; unfold bestStep; rw [if_pos ⟨hbit, hpos⟩]; rfl
          | some c =>
            have hc := hb c rfl
            refine S1_if (b := false || (decide (ls.getD i 0 > ls.getD c 0) || false)) (Tr_or ?_ fun _ => Tr_or ?_ fun _ => Tr_or_nil) (fun h => ?_) fun h => ?_
            · have := Tr_compare hC (σ := σ') (ow := none) (p := .int (c : Int)) (q := .int ((0 : Nat) : Int)) (Ev_name (pos := default) hC best' (by decide +kernel) (by decide +kernel)) (Ev_nat (k := 0) (pos := default)) (Co_ltN (a := c) (b := 0)) (pos := default)
              refine Tr_compare hC (p := .int (c : Int)) (q := .int ((0 : Nat) : Int)) (Ev_name hC best' (by decide +kernel) (by decide +kernel)) Ev_nat ?_
              have := Co_ltN (B := B) (a := c) (b := 0)
              rw [show decide (c < 0) = false by simp] at this
              exact this
            · refine Tr_plain (p := .bool _) ?_ Th_bool
              refine call2 (F_gtN hA hk1) (by kernel_rfl) (by decide +kernel) (item hl'.left hi' hi (by decide +kernel) (by decide +kernel)) (item hl'.left best' hc (by decide +kernel) (by decide +kernel)) (by rfl) (by rfl) (by rfl)
            · rw [Bool.false_or, Bool.or_false, decide_eq_true_iff] at h
              refine Ss_cons (S1_assign (pv := .int (i : Int)) hC hO (Ev_name hC hi' (by decide +kernel) (by decide +kernel)) (Bound.sc hO hsc (by kernel_rfl)) ?_ (by rfl))
              refine Ss_nil (Ss_nil (Ss_nil (p1 _ (hl'.upd (by decide +kernel) (by decide +kernel) (by decide +kernel)) ?_)))
              rw [upd_self]; unfold bestStep; rw [if_pos ⟨hbit, hpos⟩]; show _ = some (optI (if _ then _ else _)); rw [if_pos h]; rfl
            · rw [Bool.false_or, Bool.or_false, decide_eq_false_iff_not] at h
              refine Ss_nil (Ss_nil (Ss_nil (p1 _ hl' (best'.trans ?_))))
              unfold bestStep; rw [if_pos ⟨hbit, hpos⟩]; show _ = some (optI (if _ then _ else _)); rw [if_neg h]
      case rest =>
        have hlt := best_lt (ls := ls) (sh := sh) (m := m) (List.range 4) none (fun i hi => List.mem_range.mp hi) (fun c e => nomatch e)
        change σ₂ "best" = some (optI (bestN ls m sh)) at hb
        change ∀ c, bestN ls m sh = some c → c < 4 at hlt
        cases e : bestN ls m sh with
        | none =>
          rw [e] at hb
          refine Ss_cons (S1_if (b := true) (Tr_compare hC (p := .int (-1)) (q := .int ((0 : Nat) : Int)) (Ev_name hC hb (by decide +kernel) (by decide +kernel)) Ev_nat (Co_lt (a := -1) (b := ((0 : Nat) : Int)))) (fun _ => ?_) fun h => nomatch h)
          exact Ss_ret (pv := .int (-1)) (Ev_neg Ev_int) (p1 e)
        | some c =>
          rw [e] at hb
          have hc := hlt c e
          refine Ss_cons (S1_if (b := false) (Tr_compare hC (p := .int (c : Int)) (q := .int ((0 : Nat) : Int)) (Ev_name hC hb (by decide +kernel) (by decide +kernel)) Ev_nat ?_) (fun h => nomatch h) fun h => Ss_nil ?_)
          · have := Co_ltN (B := B) (a := c) (b := 0)
            rw [show decide (c < 0) = false by simp] at this
            exact this
          · refine Ss_cons (S1_assign (pv := .int ((m + 1 * 2 ^ (c + sh) : Nat) : Int)) hC hO ?_ (Bound.sc hO hsc (by kernel_rfl)) ?_ (by rfl))
            · refine call2 (F_addN hA hk1) (by kernel_rfl) (by decide +kernel) (Ev_name hC hl.flags (by decide +kernel) (by decide +kernel)) ?_ (by rfl) (by rfl) (by rfl)
              refine call2 (F_shlN hA hk1 (n := c + sh) (by omega) (by decide)) (by kernel_rfl) (by decide +kernel) Ev_nat (Ev_binop (Ev_name hC hb (by decide +kernel) (by decide +kernel)) (Ev_name hC hl.shift (by decide +kernel) (by decide +kernel)) Bi_addN) (by rfl) (by rfl) (by rfl)
            · exact Ss_nil (p2 c e _ ⟨(upd_ne (by decide +kernel)).trans hl.left, (upd_ne (by decide +kernel)).trans hl.shift, upd_self _ _ _⟩)
end
end Mine
end

section
open PySem PySem.W PyProof.Rows PySem.Calls
set_option Elab.async false
set_option linter.unusedVariables false
set_option maxRecDepth 100000
namespace Mine
inductive BT where
  | leaf (l : List Nat) | node (i j : Nat) (t f : BT)
def flatT : Nat → KasT (Array Nat) → BT
  | 0, _ => .leaf []
  | _ + 1, .ret a => .leaf a.toList
  | f + 1, .ask i j k => .node i j (flatT f (k true)) (flatT f (k false))
def deepT : Nat → KasT (Array Nat) → Bool
  | 0, _ => false
  | _ + 1, .ret _ => true
  | f + 1, .ask _ _ k => deepT f (k true) && deepT f (k false)
def evalT (lt : Nat → Nat → Bool) : BT → List Nat
  | .leaf l => l
  | .node i j t f => if lt i j then evalT lt t else evalT lt f
theorem eval_flat {lt : Nat → Nat → Bool} : ∀ (f : Nat) (t : KasT (Array Nat)), deepT f t = true → evalT lt (flatT f t) = (ansOf lt t).toList
  | 0, _, h => nomatch h
  | _ + 1, .ret _, _ => rfl
  | f + 1, .ask i j k, h => by
    unfold deepT at h
    rw [Bool.and_eq_true] at h
    unfold flatT evalT ansOf
    cases lt i j
    · exact eval_flat f _ h.2
    · exact eval_flat f _ h.1
@[irreducible] def tree4 : BT := .node 1 0 (.node 2 1 (.node 3 2 (.leaf [3, 2, 1, 0]) (.node 2 3 (.node 3 0 (.node 3 1 (.node 3 2 (.leaf [3, 2, 1, 0]) (.leaf [2, 3, 1, 0])) (.node 3 0 (.leaf [2, 1, 3, 0]) (.leaf [2, 1, 0, 3]))) (.leaf [2, 1, 0, 3])) (.leaf [2, 3, 1, 0]))) (.node 1 2 (.node 2 0 (.node 2 0 (.node 2 1 (.node 3 1 (.node 3 2 (.leaf [3, 2, 1, 0]) (.leaf [2, 3, 1, 0])) (.node 3 0 (.leaf [2, 1, 3, 0]) (.leaf [2, 1, 0, 3]))) (.node 3 2 (.node 3 1 (.leaf [3, 1, 2, 0]) (.leaf [1, 3, 2, 0])) (.node 3 0 (.leaf [1, 2, 3, 0]) (.leaf [1, 2, 0, 3])))) (.node 3 0 (.node 3 1 (.leaf [3, 1, 0, 2]) (.leaf [1, 3, 0, 2])) (.node 3 2 (.leaf [1, 0, 3, 2]) (.leaf [1, 0, 2, 3])))) (.node 3 2 (.node 3 0 (.node 3 1 (.leaf [3, 1, 0, 2]) (.leaf [1, 3, 0, 2])) (.node 3 2 (.leaf [1, 0, 3, 2]) (.leaf [1, 0, 2, 3]))) (.leaf [1, 0, 2, 3]))) (.node 3 2 (.leaf [3, 1, 2, 0]) (.node 2 3 (.node 3 0 (.node 3 2 (.node 3 1 (.leaf [3, 1, 2, 0]) (.leaf [1, 3, 2, 0])) (.node 3 0 (.leaf [1, 2, 3, 0]) (.leaf [1, 2, 0, 3]))) (.leaf [1, 2, 0, 3])) (.leaf [1, 2, 3, 0]))))) (.node 2 1 (.node 0 1 (.node 2 1 (.node 2 0 (.node 3 0 (.node 3 2 (.leaf [3, 2, 0, 1]) (.leaf [2, 3, 0, 1])) (.node 3 1 (.leaf [2, 0, 3, 1]) (.leaf [2, 0, 1, 3]))) (.node 3 2 (.node 3 0 (.leaf [3, 0, 2, 1]) (.leaf [0, 3, 2, 1])) (.node 3 1 (.leaf [0, 2, 3, 1]) (.leaf [0, 2, 1, 3])))) (.node 3 1 (.node 3 0 (.leaf [3, 0, 1, 2]) (.leaf [0, 3, 1, 2])) (.node 3 2 (.leaf [0, 1, 3, 2]) (.leaf [0, 1, 2, 3])))) (.node 3 2 (.leaf [3, 2, 0, 1]) (.node 2 3 (.node 3 1 (.node 3 0 (.node 3 2 (.leaf [3, 2, 0, 1]) (.leaf [2, 3, 0, 1])) (.node 3 1 (.leaf [2, 0, 3, 1]) (.leaf [2, 0, 1, 3]))) (.leaf [2, 0, 1, 3])) (.leaf [2, 3, 0, 1])))) (.node 3 2 (.node 0 2 (.node 3 1 (.node 3 0 (.leaf [3, 0, 1, 2]) (.leaf [0, 3, 1, 2])) (.node 3 2 (.leaf [0, 1, 3, 2]) (.leaf [0, 1, 2, 3]))) (.leaf [3, 0, 1, 2])) (.leaf [0, 1, 2, 3])))
theorem tree4_eq : flatT 20 (kas_sort 4) = tree4 := by kernel_rfl
theorem deep4 : deepT 20 (kas_sort 4) = true := by kernel_rfl
def pairsN (ls : List Nat) : List (Int × Int) := (List.range 4).map fun i => (-(ls.getD i 0 : Int), (i : Int))
/-- who stands ahead: the greater, of like ones the upper one -/
def ahead (ls : List Nat) (i j : Nat) : Bool := if ls.getD i 0 = ls.getD j 0 then decide (i < j) else decide (ls.getD j 0 < ls.getD i 0)
def orderN (ls : List Nat) : List Nat := evalT (ahead ls) tree4
theorem evalT_congr {lt lt' : Nat → Nat → Bool} : ∀ (t : BT) (below : (fun t => True) t), (∀ i j, lt i j = lt' i j) → evalT lt t = evalT lt' t
  | .leaf _, _, _ => rfl
  | .node i j t f, _, h => by
    unfold evalT
    rw [h i j, evalT_congr t trivial h, evalT_congr f trivial h]
def lowT (n : Nat) : BT → Bool
  | .leaf _ => true
  | .node i j t f => decide (i < n) && decide (j < n) && lowT n t && lowT n f
theorem evalT_low {lt lt' : Nat → Nat → Bool} {n : Nat} (h : ∀ i j, i < n → j < n → lt i j = lt' i j) : ∀ (t : BT), lowT n t = true → evalT lt t = evalT lt' t
  | .leaf _, _ => rfl
  | .node i j t f, e => by
    unfold lowT at e
    simp only [Bool.and_eq_true, decide_eq_true_iff] at e
    unfold evalT
    rw [h i j e.1.1.1 e.1.1.2, evalT_low h t e.1.2, evalT_low h f e.2]
theorem low4 : lowT 4 tree4 = true := by decide +kernel
theorem pairsN_length (ls : List Nat) : (pairsN ls).length = 4 := by simp [pairsN]
theorem pairsN_get {ls : List Nat} {i : Nat} (h : i < 4) : (pairsN ls).getD i (0, 0) = (-(ls.getD i 0 : Int), (i : Int)) := by
  unfold pairsN
  simp [List.getD, h]
theorem pairOrder_eq (ls : List Nat) : pairOrder (pairsN ls) = orderN ls := by
  unfold pairOrder orderN
  rw [pairsN_length, ← eval_flat 20 _ deep4, tree4_eq]
  refine evalT_low (n := 4) (fun i j hi hj => ?_) tree4 low4
  rw [pairsN_get hi, pairsN_get hj]
  unfold pairLt ahead
  show (if -(ls.getD i 0 : Int) = -(ls.getD j 0 : Int) then decide ((i : Int) < (j : Int)) else decide (-(ls.getD i 0 : Int) < -(ls.getD j 0 : Int))) = _
  by_cases h : ls.getD i 0 = ls.getD j 0
  · rw [if_pos h, if_pos (by omega)]; exact decide_eq_decide.mpr (by omega)
  · rw [if_neg h, if_neg (by omega)]; exact decide_eq_decide.mpr (by omega)
def maskOf (l : List Nat) : Nat := (l.map fun i => 2 ^ i).sum
def bitsOf (M : Nat) : List Nat := (List.range 4).filter fun i => M.testBit i
def posN (ls : List Nat) : Nat := (ls.filter fun n => decide (0 < n)).length
def perms4 : List (List Nat) := [[0,1,2,3],[0,1,3,2],[0,2,1,3],[0,2,3,1],[0,3,1,2],[0,3,2,1],[1,0,2,3],[1,0,3,2],[1,2,0,3],[1,2,3,0],[1,3,0,2],[1,3,2,0],[2,0,1,3],[2,0,3,1],[2,1,0,3],[2,1,3,0],[2,3,0,1],[2,3,1,0],[3,0,1,2],[3,0,2,1],[3,1,0,2],[3,1,2,0],[3,2,0,1],[3,2,1,0]]
def chkOne (ls : List Nat) (o : List Nat) (p : Nat) : Bool :=
  perms4.contains o &&
  ((List.range 5).all fun n => bestN ls (maskOf (o.take n)) 0 == (if n < p then o[n]? else none)) &&
  ((List.range 3).all fun n => decide (ls.getD (o.getD (n + 1) 0) 0 ≤ ls.getD (o.getD n 0) 0))
def chkA (a : Nat) : Bool := (List.range 7).all fun b => (List.range 7).all fun c => (List.range 7).all fun d => chkOne [a, b, c, d] (orderN [a, b, c, d]) (posN [a, b, c, d])
theorem chk0 : chkA 0 = true := by decide +kernel
theorem chk1 : chkA 1 = true := by decide +kernel
theorem chk2 : chkA 2 = true := by decide +kernel
theorem chk3 : chkA 3 = true := by decide +kernel
theorem chk4 : chkA 4 = true := by decide +kernel
theorem chk5 : chkA 5 = true := by decide +kernel
theorem chk6 : chkA 6 = true := by decide +kernel
theorem chk_all {ls : List Nat} (hl : ls.length = 4) (hb : ∀ n ∈ ls, n < 7) : chkOne ls (orderN ls) (posN ls) = true := by
  match ls, hl with
  | [a, b, c, d], _ =>
    have ha := hb a (by simp)
    have hb' := hb b (by simp)
    have hc := hb c (by simp)
    have hd := hb d (by simp)
    have h : chkA a = true := by
      match a, ha with
      | 0, _ => exact chk0
      | 1, _ => exact chk1
      | 2, _ => exact chk2
      | 3, _ => exact chk3
      | 4, _ => exact chk4
      | 5, _ => exact chk5
      | 6, _ => exact chk6
    unfold chkA at h
    simp only [List.all_eq_true, List.mem_range] at h
    exact h b hb' c hc d hd
structure Picks (ls : List Nat) : Prop where
  perm : orderN ls ∈ perms4
  best : ∀ n, n < 5 → bestN ls (maskOf ((orderN ls).take n)) 0 = if n < posN ls then (orderN ls)[n]? else none
  desc : ∀ n, n < 3 → ls.getD ((orderN ls).getD (n + 1) 0) 0 ≤ ls.getD ((orderN ls).getD n 0) 0
theorem picks {ls : List Nat} (hl : ls.length = 4) (hb : ∀ n ∈ ls, n < 7) : Picks ls := by
  have h := chk_all hl hb
  unfold chkOne at h
  simp only [Bool.and_eq_true, List.all_eq_true, List.mem_range, beq_iff_eq, decide_eq_true_iff, List.contains_iff_mem] at h
  exact ⟨h.1.1, h.1.2, h.2⟩
theorem perm_len {o : List Nat} (h : o ∈ perms4) : o.length = 4 := by
  have : ∀ o ∈ perms4, o.length = 4 := by decide +kernel
  exact this o h
theorem mask_succ {o : List Nat} {n b : Nat} (h : o[n]? = some b) : maskOf (o.take (n + 1)) = maskOf (o.take n) + 2 ^ b := by
  unfold maskOf
  rw [List.take_add_one, h, List.map_append, List.sum_append]
  simp
theorem test_shift {m i sh : Nat} : (m * 2 ^ sh).testBit (i + sh) = m.testBit i := by
  rw [← Nat.shiftLeft_eq, Nat.testBit_shiftLeft]; simp
theorem bestN_shift {ls : List Nat} {m sh : Nat} : bestN ls (m * 2 ^ sh) sh = bestN ls m 0 := by
  unfold bestN
  congr 1
  funext b i
  unfold bestStep
  rw [test_shift]; rfl
theorem chosen_shift {ls : List Nat} {sh : Nat} : ∀ (w m : Nat), chosenN ls sh w (m * 2 ^ sh) = (chosenN ls 0 w m).map (· * 2 ^ sh)
  | 0, m => rfl
  | w + 1, m => by
    unfold chosenN
    rw [bestN_shift]
    cases bestN ls m 0 with
    | none => rfl
    | some b =>
      show chosenN ls sh w (m * 2 ^ sh + 1 * 2 ^ (b + sh)) = (chosenN ls 0 w (m + 1 * 2 ^ (b + 0))).map _
      rw [← chosen_shift w, Nat.add_mul, Nat.one_mul, Nat.one_mul, Nat.pow_add, Nat.add_zero]
theorem chosen_from {ls : List Nat} (P : Picks ls) : ∀ (w n : Nat), n + w ≤ 4 → n ≤ posN ls → chosenN ls 0 w (maskOf ((orderN ls).take n)) = if n + w ≤ posN ls then some (maskOf ((orderN ls).take (n + w))) else none
  | 0, n, _, hn => by rw [chosenN, Nat.add_zero, if_pos hn]
  | w + 1, n, h4, hn => by
    have hb := P.best n (by omega)
    rw [chosenN, hb]
    by_cases hp : n < posN ls
    · have hl := perm_len P.perm
      have hlt : n < (orderN ls).length := by omega
      rw [if_pos hp, List.getElem?_eq_getElem hlt]
      show chosenN ls 0 w (_ + 1 * 2 ^ (_ + 0)) = _
      rw [Nat.one_mul, Nat.add_zero, ← mask_succ (List.getElem?_eq_getElem hlt), chosen_from P w (n + 1) (by omega) (by omega), show n + 1 + w = n + (w + 1) by omega]
    · rw [if_neg hp]
      rw [if_neg (by omega)]
/-- which rows a sending gets -/
def takenN (ls : List Nat) (w : Nat) : List Nat := (orderN ls).take w
def bareN (ls : List Nat) (w : Nat) : List Nat := bitsOf (maskOf (takenN ls w))
theorem chosen_eq {ls : List Nat} (P : Picks ls) {w sh : Nat} (hw : w ≤ 4) : chosenN ls sh w 0 = if w ≤ posN ls then some (maskOf (takenN ls w) * 2 ^ sh) else none := by
  have h0 := chosen_shift (ls := ls) (sh := sh) w 0
  rw [Nat.zero_mul] at h0
  rw [h0]
  have := chosen_from P w 0 (by omega) (Nat.zero_le _)
  rw [List.take_zero, Nat.zero_add] at this
  rw [show chosenN ls 0 w 0 = chosenN ls 0 w (maskOf []) from rfl, this]
  unfold takenN
  by_cases h : w ≤ posN ls
  · rw [if_pos h, if_pos h]; rfl
  · rw [if_neg h, if_neg h]; rfl
theorem perm_facts : ∀ o ∈ perms4, ∀ w, w < 5 → (bitsOf (maskOf (o.take w))).isPerm (o.take w) = true ∧ maskOf (o.take w) < 16 ∧ (bitsOf (maskOf (o.take w))).length = w := by decide +kernel
theorem bare_perm {ls : List Nat} (P : Picks ls) {w : Nat} (hw : w ≤ 4) : (bareN ls w).Perm (takenN ls w) := List.isPerm_iff.mp (perm_facts _ P.perm w (by omega)).1
theorem bare_len {ls : List Nat} (P : Picks ls) {w : Nat} (hw : w ≤ 4) : (bareN ls w).length = w := (perm_facts _ P.perm w (by omega)).2.2
theorem mask_lt {ls : List Nat} (P : Picks ls) {w : Nat} (hw : w ≤ 4) : maskOf (takenN ls w) < 16 := (perm_facts _ P.perm w (by omega)).2.1
theorem bits_sorted : ∀ M, M < 16 → (bitsOf M).Pairwise (· ≤ ·) ∧ ∀ i ∈ bitsOf M, i < 4 := by decide +kernel
end Mine
end

section
open PySem PySem.W PyProof.Rows PySem.Calls
set_option Elab.async false
set_option linter.unusedVariables false
set_option maxRecDepth 100000
namespace Mine
/-- what is left behind a choice -/
def nextL (ls : List Nat) (w : Nat) : List Nat := (List.range 4).map fun i => if (bareN ls w).contains i then ls.getD i 0 - 1 else ls.getD i 0
def fillF (ls : List Nat) (k : Nat) : Nat := (ls.map fun l => min l k).sum
theorem nextL_length (ls : List Nat) (w : Nat) : (nextL ls w).length = 4 := by simp [nextL]
theorem nextL_lt {ls : List Nat} {w : Nat} (hl : ls.length = 4) (hb : ∀ n ∈ ls, n < 7) : ∀ n ∈ nextL ls w, n < 7 := by
  intro n hn
  unfold nextL at hn
  rw [List.mem_map] at hn
  obtain ⟨i, hi, rfl⟩ := hn
  have hi4 := List.mem_range.mp hi
  have : ls.getD i 0 < 7 := by
    have h : i < ls.length := by omega
    simp only [List.getD, List.getElem?_eq_getElem h, Option.getD_some]
    exact hb _ (List.getElem_mem h)
  split <;> omega
theorem perm_mem : ∀ o ∈ perms4, ∀ j, j < 4 → j ∈ o := by decide +kernel
theorem mem_taken {ls : List Nat} (P : Picks ls) {w : Nat} (hw : w ≤ 4) (i : Nat) : (bareN ls w).contains i = true ↔ i ∈ takenN ls w := by
  rw [List.contains_iff_mem]; exact (bare_perm P hw).mem_iff
theorem desc_le {ls : List Nat} (P : Picks ls) : ∀ (b a : Nat), a ≤ b → b < 4 → ls.getD ((orderN ls).getD b 0) 0 ≤ ls.getD ((orderN ls).getD a 0) 0
  | 0, a, h, _ => by rw [show a = 0 by omega]; exact Nat.le_refl _
  | b + 1, a, h, hb => by
    by_cases e : a = b + 1
    · rw [e]; exact Nat.le_refl _
    · exact Nat.le_trans (P.desc b (by omega)) (desc_le P b a (by omega) (by omega))
theorem taken_top {ls : List Nat} (P : Picks ls) {w i j : Nat} (hi : i ∈ takenN ls w) (hj : j < 4) (hn : j ∉ takenN ls w) : ls.getD j 0 ≤ ls.getD i 0 := by
  have hl := perm_len P.perm
  unfold takenN at hi hn
  obtain ⟨a, ha, rfl⟩ := List.mem_iff_getElem.mp hi
  obtain ⟨b, hb, rfl⟩ := List.mem_iff_getElem.mp (perm_mem _ P.perm j hj)
  rw [List.length_take] at ha
  rw [List.getElem_take]
  have hwb : w ≤ b := by
    refine Nat.le_of_not_lt fun h => hn ?_
    exact List.mem_iff_getElem.mpr ⟨b, by rw [List.length_take]; omega, by rw [List.getElem_take]⟩
  have := desc_le P b a (by omega) (by omega)
  have e1 : (orderN ls).getD b 0 = (orderN ls)[b] := by simp [List.getD, hb]
  have e2 : (orderN ls).getD a 0 = (orderN ls)[a]'(by omega) := by
    have : a < (orderN ls).length := by omega
    simp [List.getD, this]
  rw [e1, e2] at this
  exact this
theorem best_pos {ls : List Nat} {m i : Nat} : ∀ (is : List Nat) (b : Option Nat), (∀ c, b = some c → 0 < ls.getD c 0) → is.foldl (bestStep ls m 0) b = some i → 0 < ls.getD i 0
  | [], b, h, e => h i e
  | j :: is, b, h, e => by
    refine best_pos is (bestStep ls m 0 b j) (fun c hc => ?_) e
    unfold bestStep at hc
    split at hc
    · rename_i hj
      split at hc
      · cases hc; exact hj.2
      · split at hc
        · cases hc; exact hj.2
        · cases hc; exact h _ rfl
    · exact h c hc
theorem taken_pos {ls : List Nat} (P : Picks ls) {w i : Nat} (hw : w ≤ posN ls) (h4 : w ≤ 4) (hi : i ∈ takenN ls w) : 0 < ls.getD i 0 := by
  have hl := perm_len P.perm
  unfold takenN at hi
  obtain ⟨a, ha, rfl⟩ := List.mem_iff_getElem.mp hi
  rw [List.length_take] at ha
  rw [List.getElem_take]
  have hb := P.best a (by omega)
  rw [if_pos (by omega), List.getElem?_eq_getElem (by omega)] at hb
  exact best_pos (List.range 4) none (fun c h => nomatch h) hb

theorem bits_count : ∀ M, M < 16 → ((M.testBit 0).toNat + (M.testBit 1).toNat + (M.testBit 2).toNat + (M.testBit 3).toNat = (bitsOf M).length) := by decide +kernel
theorem bits_mem : ∀ M, M < 16 → ∀ i, i < 4 → (bitsOf M).contains i = M.testBit i := by decide +kernel
theorem elemA {l k : Nat} {t : Bool} (h : t = true → k < l) : min (if t then l - 1 else l) k = min l k ∧ min l k + t.toNat ≤ min l (k + 1) := by
  cases t
  · simp; omega
  · have := h rfl
    simp; omega
theorem elemB {l k : Nat} {t : Bool} (h : t = false → l ≤ k) (hp : t = true → 0 < l) : min (if t then l - 1 else l) k + t.toNat = min l (k + 1) ∧ min l (k + 1) ≤ min l k + t.toNat := by
  cases t
  · have := h rfl
    simp; omega
  · have := hp rfl
    simp; omega
theorem gale_arith {l : Nat → Nat} {t : Nat → Bool} {k w : Nat} (hc : (t 0).toNat + (t 1).toNat + (t 2).toNat + (t 3).toNat = w) (hp : ∀ i, i < 4 → t i = true → 0 < l i) (ht : ∀ i j, i < 4 → j < 4 → t i = true → t j = false → l j ≤ l i) :
    min (if t 0 then l 0 - 1 else l 0) k + (min (if t 1 then l 1 - 1 else l 1) k + (min (if t 2 then l 2 - 1 else l 2) k + (min (if t 3 then l 3 - 1 else l 3) k + 0))) + w =
      min (min (l 0) k + (min (l 1) k + (min (l 2) k + (min (l 3) k + 0))) + w) (min (l 0) (k + 1) + (min (l 1) (k + 1) + (min (l 2) (k + 1) + (min (l 3) (k + 1) + 0)))) := by
  by_cases hA : ∀ i, i < 4 → t i = true → k < l i
  · have a0 := elemA (hA 0 (by decide)); have a1 := elemA (hA 1 (by decide)); have a2 := elemA (hA 2 (by decide)); have a3 := elemA (hA 3 (by decide))
    rw [a0.1, a1.1, a2.1, a3.1]
    refine (Nat.min_eq_left ?_).symm
    have := a0.2; have := a1.2; have := a2.2; have := a3.2
    omega
  · have hB : ∀ j, j < 4 → t j = false → l j ≤ k := fun j hj e => by
      refine Classical.byContradiction fun hk => hA fun i hi e' => ?_
      have := ht i j hi hj e' e
      omega
    have b0 := elemB (hB 0 (by decide)) (hp 0 (by decide)); have b1 := elemB (hB 1 (by decide)) (hp 1 (by decide)); have b2 := elemB (hB 2 (by decide)) (hp 2 (by decide)); have b3 := elemB (hB 3 (by decide)) (hp 3 (by decide))
    have e : min (min (l 0) k + (min (l 1) k + (min (l 2) k + (min (l 3) k + 0))) + w) (min (l 0) (k + 1) + (min (l 1) (k + 1) + (min (l 2) (k + 1) + (min (l 3) (k + 1) + 0)))) = min (l 0) (k + 1) + (min (l 1) (k + 1) + (min (l 2) (k + 1) + (min (l 3) (k + 1) + 0))) := by
      refine Nat.min_eq_right ?_
      have := b0.2; have := b1.2; have := b2.2; have := b3.2
      omega
    rw [e, ← b0.1, ← b1.1, ← b2.1, ← b3.1]
    omega
theorem fill_next {ls : List Nat} (hl : ls.length = 4) (P : Picks ls) {w : Nat} (h4 : w ≤ 4) (hw : w ≤ posN ls) (k : Nat) : fillF (nextL ls w) k + w = min (fillF ls k + w) (fillF ls (k + 1)) := by
  have hlen := bare_len P h4
  have hM := mask_lt P h4
  have hcount := bits_count _ hM
  have hmem : ∀ i, i < 4 → (bareN ls w).contains i = (maskOf (takenN ls w)).testBit i := fun i hi => bits_mem _ hM i hi
  have htop : ∀ i j, i < 4 → j < 4 → (maskOf (takenN ls w)).testBit i = true → (maskOf (takenN ls w)).testBit j = false → ls.getD j 0 ≤ ls.getD i 0 := fun i j hi hj h1 h2 => by
    rw [← hmem i hi] at h1
    rw [← hmem j hj] at h2
    exact taken_top P ((mem_taken P h4 i).mp h1) hj fun h => by rw [(mem_taken P h4 j).mpr h] at h2; cases h2
  have hpos : ∀ i, i < 4 → (maskOf (takenN ls w)).testBit i = true → 0 < ls.getD i 0 := fun i hi h1 => by
    rw [← hmem i hi] at h1
    exact taken_pos P hw h4 ((mem_taken P h4 i).mp h1)
  change (bitsOf (maskOf (takenN ls w))).length = w at hlen
  rw [hlen] at hcount
  have en : nextL ls w = (List.range 4).map fun i => if (maskOf (takenN ls w)).testBit i then ls.getD i 0 - 1 else ls.getD i 0 := List.map_congr_left fun i hi => by rw [hmem i (List.mem_range.mp hi)]
  rw [en]
  generalize maskOf (takenN ls w) = M at *
  match ls, hl with
  | [a, b, c, d], _ =>
    have e1 : fillF ((List.range 4).map fun i => if M.testBit i then [a, b, c, d].getD i 0 - 1 else [a, b, c, d].getD i 0) k =
      min (if M.testBit 0 then a - 1 else a) k + (min (if M.testBit 1 then b - 1 else b) k + (min (if M.testBit 2 then c - 1 else c) k + (min (if M.testBit 3 then d - 1 else d) k + 0))) := rfl
    have e2 : ∀ k, fillF [a, b, c, d] k = min a k + (min b k + (min c k + (min d k + 0))) := fun _ => rfl
    rw [e1, e2, e2]
    exact gale_arith (l := fun i => [a, b, c, d].getD i 0) (t := fun i => M.testBit i) (by simpa using hcount) hpos htop
end Mine
end

section
open PySem PySem.W PyProof.Rows PySem.Calls
set_option Elab.async false
set_option linter.unusedVariables false
set_option maxRecDepth 100000
namespace Mine
/-- no wishes ask for more than the bound tells -/
def galeQ : List Nat → (Nat → Int) → Prop
  | [], f => 0 ≤ f 0
  | a :: W, f => galeQ W f ∧ galeQ W fun k => f (k + 1) - a
theorem galeQ_zero : ∀ {W : List Nat} {f : Nat → Int}, galeQ W f → 0 ≤ f 0
  | [], _, h => h
  | _ :: _, _, h => galeQ_zero h.1
theorem galeQ_min : ∀ {W : List Nat} {f g h : Nat → Int}, (∀ k, h k = min (f k) (g k)) → (galeQ W h ↔ galeQ W f ∧ galeQ W g)
  | [], f, g, h, e => by
    show 0 ≤ h 0 ↔ 0 ≤ f 0 ∧ 0 ≤ g 0
    have := e 0; omega
  | a :: W, f, g, h, e => by
    show galeQ W h ∧ galeQ W _ ↔ (galeQ W f ∧ galeQ W _) ∧ galeQ W g ∧ galeQ W _
    rw [galeQ_min e, galeQ_min (W := W) (f := fun k => f (k + 1) - a) (g := fun k => g (k + 1) - a) (h := fun k => h (k + 1) - a) (fun k => by have := e (k + 1); show h (k + 1) - a = min (f (k + 1) - a) (g (k + 1) - a); omega)]
    exact ⟨fun ⟨⟨a, b⟩, c, d⟩ => ⟨⟨a, c⟩, b, d⟩, fun ⟨⟨a, c⟩, b, d⟩ => ⟨⟨a, b⟩, c, d⟩⟩
theorem galeQ_perm {W W' : List Nat} (h : W.Perm W') : ∀ f, galeQ W f ↔ galeQ W' f := by
  induction h with
  | nil => exact fun f => Iff.rfl
  | cons x _ ih => exact fun f => and_congr (ih f) (ih _)
  | swap x y l =>
    intro f
    have e : (fun k => f (k + 1 + 1) - (x : Int) - (y : Int)) = fun k => f (k + 1 + 1) - (y : Int) - (x : Int) := by funext k; omega
    show (galeQ l f ∧ galeQ l _) ∧ galeQ l _ ∧ galeQ l (fun k => f (k + 1 + 1) - (y : Int) - (x : Int)) ↔ (galeQ l f ∧ galeQ l _) ∧ galeQ l _ ∧ galeQ l (fun k => f (k + 1 + 1) - (x : Int) - (y : Int))
    rw [e]
    exact ⟨fun ⟨⟨a, b⟩, c, d⟩ => ⟨⟨a, c⟩, b, d⟩, fun ⟨⟨a, c⟩, b, d⟩ => ⟨⟨a, b⟩, c, d⟩⟩
  | trans _ _ i1 i2 => exact fun f => (i1 f).trans (i2 f)
theorem take_le {a : Nat} : ∀ (W : List Nat) (k : Nat), (a :: W).Pairwise (· ≥ ·) → (W.take k).sum ≤ ((a :: W).take k).sum
  | _, 0, _ => Nat.le_refl _
  | [], k + 1, _ => by simp
  | b :: W, k + 1, h => by
    rw [List.pairwise_cons] at h
    have hb := h.1 b List.mem_cons_self
    have := take_le W k h.2
    rw [List.take_succ_cons, List.take_succ_cons, List.sum_cons, List.sum_cons]
    omega
theorem galeQ_sorted : ∀ (W : List Nat) (f : Nat → Int), W.Pairwise (· ≥ ·) → (galeQ W f ↔ ∀ k, k ≤ W.length → ((W.take k).sum : Int) ≤ f k)
  | [], f, _ => ⟨fun h k hk => by rw [show k = 0 by simpa using hk]; exact h, fun h => h 0 (Nat.le_refl _)⟩
  | a :: W, f, h => by
    have h' := (List.pairwise_cons.mp h).2
    show galeQ W f ∧ galeQ W _ ↔ _
    rw [galeQ_sorted W f h', galeQ_sorted W _ h']
    constructor
    · rintro ⟨h1, h2⟩ k hk
      cases k with
      | zero => exact h1 0 (Nat.zero_le _)
      | succ k =>
        have := h2 k (by simpa using hk)
        rw [List.take_succ_cons, List.sum_cons]
        rw [Int.natCast_add]; omega
    · intro H
      refine ⟨fun k hk => ?_, fun k hk => ?_⟩
      · have := H k (by rw [List.length_cons]; omega)
        have := take_le W k h
        omega
      · have := H (k + 1) (by rw [List.length_cons]; omega)
        rw [List.take_succ_cons, List.sum_cons, Int.natCast_add] at this
        show _ ≤ f (k + 1) - a
        omega
/-- the sendings in turn: what is left behind them -/
def playN : List Nat → List Nat → Option (List Nat)
  | ls, [] => some ls
  | ls, w :: W => if w ≤ posN ls then playN (nextL ls w) W else none
theorem fill_one (ls : List Nat) : fillF ls 1 = posN ls := by
  unfold fillF posN
  induction ls with
  | nil => rfl
  | cons a l ih =>
    rw [List.map_cons, List.sum_cons, ih]
    cases a with
    | zero => simp
    | succ a => simp; omega
theorem play_iff : ∀ (W ls : List Nat), ls.length = 4 → (∀ n ∈ ls, n < 7) → (∀ w ∈ W, w ≤ 4) → ((playN ls W).isSome = true ↔ galeQ W fun k => (fillF ls k : Int))
  | [], ls, _, _, _ => ⟨fun _ => Int.natCast_nonneg _, fun _ => rfl⟩
  | w :: W, ls, hl, hb, hw => by
    have h4 := hw w List.mem_cons_self
    have P := picks hl hb
    unfold playN
    by_cases h : w ≤ posN ls
    · rw [if_pos h, play_iff W _ (nextL_length _ _) (nextL_lt hl hb) fun x hx => hw x (List.mem_cons_of_mem _ hx)]
      refine galeQ_min fun k => ?_
      have := fill_next hl P h4 h k
      show (fillF (nextL ls w) k : Int) = min (fillF ls k : Int) ((fillF ls (k + 1) : Int) - w)
      omega
    · rw [if_neg h]
      refine ⟨(fun e => nomatch e), fun q => absurd (galeQ_zero q.2) ?_⟩
      have := fill_one ls
      show ¬ (0 : Int) ≤ (fillF ls 1 : Int) - w
      omega
end Mine
end

section
open PySem PySem.W PyProof.Rows PySem.Calls
set_option Elab.async false
set_option linter.unusedVariables false
set_option maxRecDepth 100000
namespace Mine
open PySem.StrLaws in
theorem at_iff {X : List Nat} {c d k : Nat} : At (⟨X.toArray⟩ : Str) ⟨[c, d].toArray⟩ (⟨X.toArray⟩ : Str).length k ↔ k + 2 ≤ X.length ∧ (X.drop k).take 2 = [c, d] := by
  have e : (⟨X.toArray⟩ : Str).length = X.length := by simp [Str.length]
  unfold At
  rw [e, subAt_eq]
  show k + 2 ≤ _ ∧ ((X.drop k).take 2 == [c, d]) = true ↔ _
  rw [beq_iff_eq]
open PySem.StrLaws in
theorem parts_join {X : List Nat} {c d : Nat} : ∀ (ps : List (List Nat)) (p : List Nat) (a : Nat) (cuts : List Nat) (f : Nat), a ≤ X.length → X.drop a = joinL [c, d] (p :: ps) → (∀ q ∈ p :: ps, c ∉ q) →
    ChainG (⟨X.toArray⟩ : Str) ⟨[c, d].toArray⟩ (⟨X.toArray⟩ : Str).length a cuts f → (∀ k, f ≤ k → ¬ At (⟨X.toArray⟩ : Str) ⟨[c, d].toArray⟩ (⟨X.toArray⟩ : Str).length k) →
    (partsFrom (⟨X.toArray⟩ : Str) 2 a cuts).map (fun s => s.cps.toList) = p :: ps
  | [], p, a, cuts, f, ha, he, hc, hG, hn => by
    have e : (⟨X.toArray⟩ : Str).length = X.length := by simp [Str.length]
    change X.drop a = p at he
    cases cuts with
    | nil =>
      show [(Builtin.Str.strSub (⟨X.toArray⟩ : Str) a (⟨X.toArray⟩ : Str).length).cps.toList] = [p]
      rw [strSub_toList, e]
      show [(X.drop a).take (X.length - a)] = [p]
      rw [List.take_of_length_le (by simp), he]
    | cons u r =>
      have hA := at_iff.mp hG.2.1
      have hmem : c ∈ p := by
        have : c ∈ (X.drop u).take 2 := by rw [hA.2]; exact List.mem_cons_self
        have := List.mem_of_mem_take this
        rw [show u = a + (u - a) by have := hG.1; omega, ← List.drop_drop, he] at this
        exact List.mem_of_mem_drop this
      exact absurd hmem (hc p List.mem_cons_self)
  | q :: ps, p, a, cuts, f, ha, he, hc, hG, hn => by
    have e : (⟨X.toArray⟩ : Str).length = X.length := by simp [Str.length]
    change X.drop a = p ++ [c, d] ++ joinL [c, d] (q :: ps) at he
    have hlen : X.length - a = p.length + 2 + (joinL [c, d] (q :: ps)).length := by
      have := congrArg List.length he
      simp at this; omega
    have hA : At (⟨X.toArray⟩ : Str) ⟨[c, d].toArray⟩ (⟨X.toArray⟩ : Str).length (a + p.length) := by
      refine at_iff.mpr ⟨by omega, ?_⟩
      rw [← List.drop_drop, he, List.append_assoc, List.drop_left]; rfl
    cases cuts with
    | nil => exact absurd hA (hn _ (by have e : f = a := hG; omega))
    | cons u r =>
      obtain ⟨h1, h2, h3, h4⟩ := hG
      have hu : u = a + p.length := by
        rcases Nat.lt_trichotomy u (a + p.length) with h | h | h
        · have hU := at_iff.mp h2
          have hmem : c ∈ p := by
            have hd : X.drop u = p.drop (u - a) ++ ([c, d] ++ joinL [c, d] (q :: ps)) := by
              rw [show u = a + (u - a) by omega, ← List.drop_drop, he, List.append_assoc, List.drop_append_of_le_length (by omega)]
              rw [show a + (u - a) - a = u - a by omega]
            rw [hd] at hU
            have hlp : 0 < (p.drop (u - a)).length := by simp; omega
            match hx : p.drop (u - a), hlp with
            | y :: r', _ =>
              rw [hx] at hU
              have hy : y = c := by
                have := hU.2
                simp only [List.cons_append, List.take_succ_cons] at this
                exact (List.cons.inj this).1
              rw [← hy]
              exact List.mem_of_mem_drop (i := u - a) (by rw [hx]; exact List.mem_cons_self)
          exact absurd hmem (hc p List.mem_cons_self)
        · exact h
        · exact absurd hA (h3 _ (by omega) h)
      subst hu
      show (Builtin.Str.strSub (⟨X.toArray⟩ : Str) a (a + p.length)).cps.toList :: (partsFrom (⟨X.toArray⟩ : Str) 2 (a + p.length + 2) r).map (fun s => s.cps.toList) = _
      rw [strSub_toList]
      show (X.drop a).take (a + p.length - a) :: _ = _
      rw [he, show a + p.length - a = p.length by omega, List.append_assoc, List.take_left]
      rw [parts_join ps q (a + p.length + 2) r f (by omega) (by
        rw [show a + p.length + 2 = a + (p.length + 2) by omega, ← List.drop_drop, he, show p.length + 2 = (p ++ [c, d]).length by simp, List.drop_left]) (fun x hx => hc x (List.mem_cons_of_mem _ hx)) h4 hn]
open PySem.StrLaws PySem.Builtin.Str in
/-- a text put together of pieces is split into them -/
theorem split_join {c d : Nat} (hk : c < 256 ∧ d < 256) {p : List Nat} {ps : List (List Nat)} (hc : ∀ q ∈ p :: ps, c ∉ q) :
    (Txt.split ⟨(joinL [c, d] (p :: ps)).toArray⟩ ⟨[c, d].toArray⟩).map (fun s => s.cps.toList) = p :: ps := by
  generalize hX : joinL [c, d] (p :: ps) = X
  obtain ⟨f, hG, hn⟩ := occ_tight (⟨X.toArray⟩ : Str) ⟨[c, d].toArray⟩ (by show 1 ≤ 2; decide)
  have key := parts_join ps p 0 _ f (Nat.zero_le _) (by rw [List.drop_zero, hX]) hc hG hn
  have e : (⟨X.toArray⟩ : Str).length = X.length := by simp [Str.length]
  have e0 : partsFrom (⟨X.toArray⟩ : Str) 2 0 [] = [(⟨X.toArray⟩ : Str)] := by
    show [Builtin.Str.strSub _ 0 _] = _
    rw [sub_whole]
  unfold Txt.split
  split
  · rename_i h
    rw [Bool.or_eq_true, decide_eq_true_eq, decide_eq_true_eq] at h
    rcases h with h | h
    · have : occurrences (⟨X.toArray⟩ : Str) ⟨[c, d].toArray⟩ 0 (⟨X.toArray⟩ : Str).length ((⟨X.toArray⟩ : Str).length + 1) = [] := by
        refine List.eq_nil_iff_forall_not_mem.mpr fun i hi => ?_
        have := (occ_spec _ _ _ _ _ i hi).1
        omega
      rw [this] at key
      rw [e0] at key
      exact key
    · exfalso
      have k1 : Builtin.Str.strKind (⟨[c, d].toArray⟩ : Str) = 1 := by
        unfold Builtin.Str.strKind
        rw [if_pos (by simp [hk.1, hk.2])]
      rw [k1] at h
      have : 1 ≤ Builtin.Str.strKind (⟨X.toArray⟩ : Str) := by unfold Builtin.Str.strKind; split <;> (try split) <;> decide
      omega
  · split
    · rename_i h2
      rw [List.isEmpty_iff.mp h2] at key
      rw [e0] at key
      exact key
    · rw [partsBetween_eq]
      exact key
end Mine
end

section
open PySem PySem.W PyProof.Rows PySem.Calls
set_option Elab.async false
set_option linter.unusedVariables false
set_option maxRecDepth 100000
namespace Mine
def pfR : Nat → Nat → Nat → List (List Nat)
  | 0, n, r => [hexL ((r * 2 ^ n : Nat) : Int)]
  | f + 1, n, r => if r % 2 = 1 then wordN n :: (if r / 2 = 0 then [] else pfR f (n + 1) (r / 2)) else pfR f (n + 1) (r / 2)
theorem pfN_R : ∀ (f n r : Nat), pfN f n (r * 2 ^ n) = pfR f n r
  | 0, n, r => rfl
  | f + 1, n, r => by
    unfold pfN pfR
    have hb : (r * 2 ^ n).testBit n = r.testBit 0 := by
      have := test_shift (m := r) (i := 0) (sh := n)
      rwa [Nat.zero_add] at this
    rw [hb, Nat.testBit_zero]
    by_cases h : r % 2 = 1
    · rw [if_pos (by simpa using h), if_pos h]
      have e : r * 2 ^ n - 2 ^ n = r / 2 * 2 ^ (n + 1) := by
        have : r = r / 2 * 2 + 1 := by omega
        conv => lhs; rw [this]
        rw [Nat.add_mul, Nat.one_mul, Nat.add_sub_cancel, Nat.pow_succ, Nat.mul_assoc, Nat.mul_comm 2]
      rw [e]
      have hz : (r / 2 * 2 ^ (n + 1) = 0) ↔ r / 2 = 0 := by
        rw [Nat.mul_eq_zero]
        exact ⟨fun h => h.resolve_right (Nat.ne_of_gt (Nat.two_pow_pos _)), .inl⟩
      by_cases h0 : r / 2 = 0
      · rw [if_pos (hz.mpr h0), if_pos h0]
      · rw [if_neg (fun h => h0 (hz.mp h)), if_neg h0, pfN_R f (n + 1) (r / 2)]
    · rw [if_neg (by simpa using h), if_neg h]
      have e : r * 2 ^ n = r / 2 * 2 ^ (n + 1) := by
        have : r = r / 2 * 2 := by omega
        conv => lhs; rw [this]
        rw [Nat.pow_succ, Nat.mul_assoc, Nat.mul_comm 2]
      rw [e, pfN_R f (n + 1) (r / 2)]
theorem pfR_shift : ∀ (s f n r : Nat), pfR (f + s) n (r * 2 ^ s) = pfR f (n + s) r
  | 0, f, n, r => by rw [Nat.pow_zero, Nat.mul_one]; rfl
  | s + 1, f, n, r => by
    have e : r * 2 ^ (s + 1) = r * 2 ^ s * 2 := by rw [Nat.pow_succ, Nat.mul_assoc]
    show pfR (f + s + 1) n _ = _
    rw [pfR, e, if_neg (by omega), Nat.mul_div_cancel _ (by decide), pfR_shift s f (n + 1) r, show n + 1 + s = n + (s + 1) by omega]
theorem pfR_zero : ∀ (f n : Nat), pfR f n 0 = [hexL 0]
  | 0, n => by unfold pfR; rw [Nat.zero_mul]; rfl
  | f + 1, n => by unfold pfR; rw [if_neg (by decide)]; exact pfR_zero f (n + 1)
theorem pfR_step {f n r : Nat} {b : Bool} (hr : 0 < r) : pfR (f + 1) n (b.toNat + 2 * r) = (if b then [wordN n] else []) ++ pfR f (n + 1) r := by
  rw [pfR]
  cases b
  · rw [if_neg (by simp), show (false.toNat + 2 * r) / 2 = r by simp]; rfl
  · rw [if_pos (by rw [Bool.toNat_true]; omega), show (true.toNat + 2 * r) / 2 = r by rw [Bool.toNat_true]; omega, if_neg (by omega)]; rfl
theorem bits_of : ∀ M, M < 16 → M = (M.testBit 0).toNat + 2 * ((M.testBit 1).toNat + 2 * ((M.testBit 2).toNat + 2 * (M.testBit 3).toNat)) ∧ bitsOf M = ((if M.testBit 0 then [0] else []) ++ ((if M.testBit 1 then [1] else []) ++ ((if M.testBit 2 then [2] else []) ++ (if M.testBit 3 then [3] else [])))) := by decide +kernel
theorem pfR_high {f n M H : Nat} (hM : M < 16) (hH : 0 < H) : pfR (f + 4) n (M + 16 * H) = (bitsOf M).map (fun i => wordN (n + i)) ++ pfR f (n + 4) H := by
  obtain ⟨e1, e2⟩ := bits_of M hM
  rw [e2]
  generalize M.testBit 0 = b0 at *; generalize M.testBit 1 = b1 at *; generalize M.testBit 2 = b2 at *; generalize M.testBit 3 = b3 at *
  have e : M + 16 * H = b0.toNat + 2 * (b1.toNat + 2 * (b2.toNat + 2 * (b3.toNat + 2 * H))) := by omega
  rw [e, pfR_step (by omega), pfR_step (by omega), pfR_step (by omega), pfR_step hH]
  cases b0 <;> cases b1 <;> cases b2 <;> cases b3 <;> rfl
theorem pfR_low {f n M : Nat} (hM : M < 16) (h0 : M ≠ 0) : pfR (f + 4) n M = (bitsOf M).map (fun i => wordN (n + i)) := by
  match M, hM, h0 with
  | n + 16, hM, _ => exact absurd hM (by omega)
  | 0, _, h0 => exact absurd rfl h0
  | 1, _, _ => rfl
  | 2, _, _ => rfl
  | 3, _, _ => rfl
  | 4, _, _ => rfl
  | 5, _, _ => rfl
  | 6, _, _ => rfl
  | 7, _, _ => rfl
  | 8, _, _ => rfl
  | 9, _, _ => rfl
  | 10, _, _ => rfl
  | 11, _, _ => rfl
  | 12, _, _ => rfl
  | 13, _, _ => rfl
  | 14, _, _ => rfl
  | 15, _, _ => rfl
/-- the words that are told of a choice -/
theorem words_low {M sh : Nat} (hM : M < 16) (h0 : M ≠ 0) (hs : sh ≤ 28) : pfN 32 0 (M * 2 ^ sh) = (bitsOf M).map fun i => wordN (sh + i) := by
  have := pfN_R 32 0 (M * 2 ^ sh)
  rw [Nat.pow_zero, Nat.mul_one] at this
  rw [this]
  have h2 := pfR_shift sh (32 - sh) 0 M
  rw [show 32 - sh + sh = 32 by omega, Nat.zero_add] at h2
  rw [h2, show 32 - sh = (28 - sh) + 4 by omega, pfR_low hM h0]
theorem words_zero : pfN 32 0 0 = [hexL 0] := by
  have := pfN_R 32 0 0
  rw [Nat.zero_mul] at this
  rw [this, pfR_zero]
theorem words_high {M sh j : Nat} (hM : M < 16) (hs : sh ≤ 28) : pfN 32 0 (M * 2 ^ sh + 3 * 2 ^ (32 + j)) = ((bitsOf M).map fun i => wordN (sh + i)) ++ [hexL ((3 * 2 ^ (32 + j) : Nat) : Int)] := by
  have e : M * 2 ^ sh + 3 * 2 ^ (32 + j) = (M + 16 * (3 * 2 ^ j * 2 ^ (28 - sh))) * 2 ^ sh := by
    rw [Nat.add_mul]
    congr 1
    rw [show 32 + j = 4 + j + (28 - sh) + sh by omega, Nat.pow_add, Nat.pow_add, Nat.pow_add]
    simp only [Nat.mul_assoc, Nat.mul_left_comm]
  have := pfN_R 32 0 (M * 2 ^ sh + 3 * 2 ^ (32 + j))
  rw [Nat.pow_zero, Nat.mul_one] at this
  rw [this, e]
  have h2 := pfR_shift sh (32 - sh) 0 (M + 16 * (3 * 2 ^ j * 2 ^ (28 - sh)))
  rw [show 32 - sh + sh = 32 by omega, Nat.zero_add] at h2
  have hpos : 0 < 3 * 2 ^ j * 2 ^ (28 - sh) := Nat.mul_pos (Nat.mul_pos (by decide) (Nat.two_pow_pos _)) (Nat.two_pow_pos _)
  rw [h2, show 32 - sh = (28 - sh) + 4 by omega, pfR_high hM hpos]
  congr 1
  have h3 := pfR_shift (28 - sh) 0 (sh + 4) (3 * 2 ^ j)
  rw [Nat.zero_add] at h3
  rw [h3, show sh + 4 + (28 - sh) = 32 by omega, pfR, Nat.mul_assoc, ← Nat.pow_add, Nat.add_comm j 32]
/-! the words are the names -/
theorem words_names : (List.range 32).map wordN = namesL := by decide +kernel
@[irreducible] def names2 : List (List Nat) := namesL ++ namesL
theorem name_facts : ∀ n, n < 32 → names2.idxOf (wordN n) = n ∧ names2[n]? = some (wordN n) ∧ (wordN n).contains 44 = false ∧ 5 ≤ (wordN n).length ∧ (wordN n).length ≤ 20 := by
  have e : ∀ n, n < 32 → wordN n = namesL.getD n [] := fun n h => by
    rw [← words_names]; simp [List.getD, h]
  have k : ∀ n, n < 32 → names2.idxOf (namesL.getD n []) = n ∧ names2[n]? = some (namesL.getD n []) ∧ (namesL.getD n []).contains 44 = false ∧ 5 ≤ (namesL.getD n []).length ∧ (namesL.getD n []).length ≤ 20 := by decide +kernel
  intro n h
  rw [e n h]; exact k n h
theorem names2_len : names2.length = 64 := by decide +kernel
theorem names2_mem {n : Nat} (h : n < 32) : wordN n ∈ names2 := List.mem_of_getElem? (name_facts n h).2.1
theorem names2_small : ∀ x ∈ names2, x.length ≤ 20 := by decide +kernel
theorem hex0 : hexL 0 = [48, 120, 48] := by decide +kernel
theorem hex_high : ∀ j, j < 5 → (hexL ((3 * 2 ^ (32 + j) : Nat) : Int)).length ≤ 20 := by decide +kernel
end Mine
end

section
open PySem PySem.W PyProof.Rows PySem.Calls
set_option Elab.async false
set_option linter.unusedVariables false
set_option maxRecDepth 100000
namespace Mine
local macro_rules | `(tactic| walk_at "look") => `(tactic| first | with_reducible exact upd_self _ _ _ | (refine (upd_ne (by decide +kernel)).trans ?_; walk_at "look") | (refine cap_of (by kernel_rfl) ?_; walk_at "look") | assumption)
local macro_rules | `(tactic| walk_at "name") => `(tactic| (with_reducible apply Ev_name (by assumption); walk_at "look"; decide +kernel; decide +kernel))
local macro_rules | `(tactic| walk_at "bi") => `(tactic| first | with_reducible exact Bi_addN | (with_reducible apply Bi_subN; omega) | (with_reducible apply Bi_modN; omega) | (with_reducible apply Bi_divN; omega; omega; omega) | with_reducible exact Bi_add | with_reducible exact Bi_sub)
local macro_rules | `(tactic| walk_at "co") => `(tactic| first | with_reducible exact Co_eqN | with_reducible exact Co_ltN | with_reducible exact Co_gtN)
local macro_rules | `(tactic| walk_at "ev") => `(tactic| first | with_reducible exact Ev_nat | with_reducible exact Ev_true | with_reducible exact Ev_none | with_reducible exact Ev_str | walk_at "name" | (with_reducible apply Ev_neg; walk_at "ev") | (with_reducible apply Ev_binop; walk_at "ev"; walk_at "ev"; walk_at "bi") | (with_reducible apply @Ev_compare; assumption; walk_at "ev"; walk_at "ev"; walk_at "co"; with_unfolding_all exact rfl))
local macro_rules | `(tactic| walk_at "evs") => `(tactic| first | with_reducible exact Evs_nil | (with_reducible apply @Evs_cons; walk_at "ev"; walk_at "evs"; with_unfolding_all exact rfl))
local macro_rules | `(tactic| walk_at "kind") => `(tactic| (refine kind_of (by assumption) ?_; kernel_rfl))
theorem slice_str_from {x : List Nat} {k : Nat} (hk : k ≤ x.length) : Txt.slice ⟨x.toArray⟩ (some (k : Int)) none = ⟨(x.drop k).toArray⟩ := by
  have hl : (⟨x.toArray⟩ : Str).length = x.length := by simp [Str.length]
  rw [slice_from_eq (x := ⟨x.toArray⟩) (i := (k : Int)) (b := (x.length : Int)) (by omega) (by rw [hl]; omega) (by rw [hl])]
  rw [Int.toNat_natCast, show ((x.length : Int) - (k : Int)).toNat = x.length - k by omega]
  congr 2
  show (x.drop k).take _ = _
  rw [List.take_of_length_le (by simp)]
theorem slice_str_to {x : List Nat} {k : Nat} (hk : k ≤ x.length) : Txt.slice ⟨x.toArray⟩ none (some (k : Int)) = ⟨(x.take k).toArray⟩ := by
  have h := slice_closes_to (x := ⟨x.toArray⟩) (j := (k : Int)) ⟨by omega, by show (k : Int) ≤ x.length; omega⟩
  rw [beq_iff_eq] at h
  rw [h, show ((k : Int) - 0).toNat = k by omega]
  rfl
theorem swaps_cell {elt : Expr} {gens : List Comprehension} {scope : Scope} {pos p : Pos} {t : Str} {line : Nat} {env : Env} (h : (env.kindOf t == some .local) = false) : swapsWith (.ListComp elt gens scope pos) (some (.Name t p)) line env = pure false := by
  show (pure (env.blockKind == .function && env.kindOf t == some .local && p.line == _ && _) : Sem Bool) = _
  rw [h, Bool.and_false, Bool.false_and, Bool.false_and]
def shieldN (bare : List Nat) (i : Nat) : List Nat := if bare.contains i then [] else [32]
def endN (t : Nat) : List Nat := [[10], [13], [13, 10]].getD (t % 3) []
def mailN (rows : List (List Nat)) (bare : List Nat) (t : Nat) : List Nat := joinL [] ((List.range 4).map fun i => shieldN bare i ++ rows.getD i [] ++ endN (t + i))
def toldN (rows : List (List Nat)) (bare : List Nat) (t : Nat) : List (List Nat) := (Txt.split ⟨(quoted (mailN rows bare t ++ [13, 46])).toArray⟩ ⟨[13, 10].toArray⟩).map fun s => s.cps.toList
theorem any_nat {bare : List Nat} {i : Nat} : (bare.map fun (n : Nat) => (n : Int)).any (· == (i : Int)) = bare.contains i := by
  rw [List.any_map, Bool.eq_iff_iff]
  simp only [List.any_eq_true, List.contains_iff_mem, Function.comp, beq_iff_eq, Int.natCast_inj]
  exact ⟨fun ⟨x, h, e⟩ => e ▸ h, fun h => ⟨i, h, rfl⟩⟩
section
variable {B : Bk}
set_option maxHeartbeats 4000000 in
theorem F_sent (hD : B.Data) {k : Nat} (hk : k < 890) {rows rows' : List (List Nat)} {bare : List Nat} {t : Nat} (hr : rows.length = 4) (hr' : rows'.length = 4) (hs : ∀ i, (rows.getD i []).length ≤ 500)
    (hq1 : (subOf (hit2 (mailN rows bare t ++ [13, 46]).toArray) [13, 10] (mailN rows bare t ++ [13, 46]).toArray (mailN rows bare t ++ [13, 46]).length 0).length ≤ 10000) (hq2 : (quoted (mailN rows bare t ++ [13, 46])).length ≤ 10000)
    (hml : (mailN rows bare t ++ [13, 46]).length ≤ 3000)
    (hT : toldN rows bare t = ((List.range 4).map fun i => shieldN bare i ++ rows'.getD i []) ++ [[], [46, 46]]) (hrs : ∀ i, (rows'.getD i []).length ≤ 500) :
    Fn B k "_law_sent" [.list (rows.map .str), natsV bare, .int (t : Int)] (.list (rows'.map .str)) := by
  have hA := hD.all
  obtain ⟨ad, hd⟩ := hA.dSent
  refine Fn_intro (ns := ["rows", "bare", "turn"]) hA.ok hd rfl (fun pm cd doc vs hv => ?_) (by kernel_rfl) (by omega) (by kernel_rfl) (by kernel_rfl) (by kernel_rfl) (by kernel_rfl) fun C hC hO hcel hsc hR => ?_
  · match vs, hv with
    | [x0, x1, x2], _ => kernel_rfl
  · conv => arg 5; unfold dSent; whnf
    show Ss B C (upd (upd (upd _ _ _) _ _) _ _) none _ _
    have hk1 : k + 1 < 900 := by omega
    have hsh : ∀ i, (shieldN bare i).length ≤ 1 := fun i => by unfold shieldN; split <;> decide
    have hen : ∀ i, (endN i).length ≤ 2 := fun i => by
      unfold endN
      have : ∀ j, j < 3 → ([[10], [13], [13, 10]].getD j ([] : List Nat)).length ≤ 2 := by decide
      exact this _ (Nat.mod_lt _ (by decide))
    have four : ∀ {σ : Vars} {ow : Own} {p1 p2 p3 p4 : Pos} {kk : Nat}, It B C σ ow (.Name "i" p1) (.Call (.Name "range" p2) [.Constant (.int 4) kk p3] [] p4) ((List.range 4).map fun (i : Nat) => PV.int i) := by
      intro σ ow p1 p2 p3 p4 kk
      rw [← rangeV_nat 4]
      exact It_range1 hC (by decide) (by decide) (by walk_at "kind") (hA.free _ (by decide +kernel)) (by rw [hA.bt _ (by decide +kernel)]; decide +kernel) (by decide +kernel) Ev_int
    refine Ss_cons (S1_assign (pv := .list ([[10], [13], [13, 10]].map .str)) hC hO (Ev_list (Evs_cons (Ev_lit (by kernel_rfl)) (Evs_cons (Ev_lit (by kernel_rfl)) (Evs_cons (Ev_lit (by kernel_rfl)) Evs_nil)))) (Bound.sc hO hsc (by kernel_rfl)) ?_ (by rfl))
    refine Ss_cons ?_
    refine S1_assign (pv := .list ((List.range 4).map fun i => .str (shieldN bare i))) hC hO ?he1 ?hk1 ?h1 ?hs1
    case hk1 => exact Bound.sc hO hsc (by kernel_rfl)
    case hs1 => exact swaps_cell (by rw [kind_of hsc (k := .cell) (by kernel_rfl)]; rfl)
    case he1 =>
      refine Ev_comp hC hcel four ?_ (by rw [hsc]; kernel_rfl)
      refine Lc_map fun i hi => Turn_name hsc (by kernel_rfl) (by kernel_rfl) fun C' hC' hcel' hA' hsc' ow => ⟨rfl, ?_⟩
      refine Ev_ifexp (b := bare.contains i) (Tr_plain (p := .bool (bare.contains i)) ?_ Th_bool) (fun h => ?_) fun h => ?_
      · have hF := F_contains hA hk1 (B := B) (ns := bare.map fun (n : Nat) => (n : Int)) (i := (i : Int))
        rw [any_nat, List.map_map] at hF
        refine Ev_call hC' hF (by walk_at "kind") (by decide +kernel) (hA' ▸ hR) (Evs_cons (p := natsV bare) ?_ (Evs_cons ?_ Evs_nil))
        · walk_at "ev"
        · walk_at "ev"
      · unfold shieldN; rw [if_pos h]; exact Ev_lit (by kernel_rfl)
      · unfold shieldN; rw [if_neg (by rw [h]; decide)]; exact Ev_lit (by kernel_rfl)
    have nsC : ∀ {C' : Cx} {σ : Vars} {ow : Own} {n : Str} {p1 p2 p3 : Pos} {i : Nat} {fs : Nat → List Nat}, C'.Ok B → σ n = some (.list ((List.range 4).map fun i => .str (fs i))) → σ "i" = some (.int (i : Int)) → i < 4 → (n == ("__debug__" : Str)) = false → (n == ("__classdict__" : Str)) = false →
        Ev B C' σ ow (.Subscript (.Name n p1) (.Name "i" p2) p3) (.str (fs i)) := by
      intro C' σ ow n p1 p2 p3 i fs hC' hn hi h4 hd1 hd2
      refine Ev_item (xs := (List.range 4).map fun i => .str (fs i)) (k := (i : Int)) (Ev_name hC' hn hd1 hd2) (Ev_name hC' hi (by decide +kernel) (by decide +kernel)) (by omega) ?_
      rw [Int.toNat_natCast]; simp [h4]
    have hpl : ∀ i, (shieldN bare i ++ rows.getD i [] ++ endN (t + i)).length ≤ 503 := fun i => by
      have := hsh i; have := hen (t + i); have := hs i
      simp only [List.length_append]; omega
    refine Ss_cons ?_
    refine S1_assign (pv := .str (mailN rows bare t)) hC hO ?he2 ?hk2 ?h2 ?hs2
    case hk2 => exact Bound.sc hO hsc (by kernel_rfl)
    case hs2 => rfl
    case he2 =>
      refine Ev_method hC (p := .str []) (ps := [.list (((List.range 4).map fun i => shieldN bare i ++ rows.getD i [] ++ endN (t + i)).map .str)]) (Ev_lit (by kernel_rfl)) (Evs_cons ?_ Evs_nil) (Ca_joinL (txt_strs _) strs_notX ?_) Ty_str F.plainAttrs_str F.slot_str_join F.type_str_join
      · rw [List.map_map]
        refine Ev_comp hC hcel four ?_ (by rw [hsc]; kernel_rfl)
        refine Lc_map fun i hi => Turn_name hsc (by kernel_rfl) (by kernel_rfl) fun C' hC' hcel' hA' hsc' ow => ⟨rfl, ?_⟩
        have hi4 := List.mem_range.mp hi
        have hlr : i < rows.length := by omega
        show Ev B C' _ ow _ (.str (shieldN bare i ++ rows.getD i [] ++ endN (t + i)))
        refine Ev_binop (p := .str (shieldN bare i ++ rows.getD i [])) (q := .str (endN (t + i))) (Ev_binop (p := .str (shieldN bare i)) (q := .str (rows.getD i [])) ?_ ?_ (Bi_add_str ?_)) ?_ (Bi_add_str ?_)
        · refine nsC (fs := shieldN bare) hC' ?_ ?_ hi4 (by decide +kernel) (by decide +kernel)
          · walk_at "look"
          · walk_at "look"
        · refine Ev_item (xs := rows.map .str) (k := (i : Int)) ?_ ?_ (by omega) ?_
          · walk_at "ev"
          · walk_at "ev"
          · rw [Int.toNat_natCast]; simp [List.getD, hlr]
        · have := hsh i; have := hs i
          exact Nat.le_trans (Nat.add_le_add (hsh i) (hs i)) (by decide)
        · refine Ev_item (xs := [[10], [13], [13, 10]].map .str) (k := (((t + i) % 3 : Nat) : Int)) ?_ ?_ (by omega) ?_
          · walk_at "ev"
          · refine Ev_binop (p := .int ((t + i : Nat) : Int)) (q := .int ((3 : Nat) : Int)) (Ev_binop (p := .int (t : Int)) (q := .int (i : Int)) ?_ ?_ Bi_addN) Ev_nat (Bi_modN (by decide))
            · walk_at "ev"
            · walk_at "ev"
          · have : ∀ j, j < 3 → ([[10], [13], [13, 10]].map PV.str)[j]? = some (.str ([[10], [13], [13, 10]].getD j [])) := by
              intro j hj
              match j, hj with
              | 0, _ => rfl
              | 1, _ => rfl
              | 2, _ => rfl
            rw [Int.toNat_natCast]; exact this _ (Nat.mod_lt _ (by decide))
        · refine Nat.le_trans ?_ (show 503 ≤ sizeLine by decide)
          have := hpl i
          rw [List.length_append] at this; exact this
      · rw [List.map_map]
        have : ∀ l : List Nat, (l.map ((fun s : List Nat => s.length + ([] : List Nat).length) ∘ fun i => shieldN bare i ++ rows.getD i [] ++ endN (t + i))).sum ≤ 503 * l.length := by
          intro l
          induction l with
          | nil => exact Nat.le_refl _
          | cons x r ih =>
            rw [List.map_cons, List.sum_cons, List.length_cons]
            have := hpl x
            show (shieldN bare x ++ rows.getD x [] ++ endN (t + x)).length + 0 + _ ≤ _
            omega
        exact Nat.le_trans (this _) (by decide)
    refine Ss_cons ?_
    have hsz : ∀ {n : Nat}, n ≤ 10002 → n ≤ sizeLine := fun h => Nat.le_trans h (by decide)
    refine S1_assign (pv := .list ((toldN rows bare t).map .str)) hC hO ?he3 ?hk3 ?h3 ?hs3
    case hk3 => exact Bound.sc hO hsc (by kernel_rfl)
    case hs3 => rfl
    case he3 =>
      unfold toldN
      rw [List.map_map]
      refine Ev_method hC (p := .str (quoted (mailN rows bare t ++ [13, 46]))) (ps := [.str [13, 10]]) ?_ (Evs_cons (Ev_lit (by kernel_rfl)) Evs_nil) (Ca_split (by decide) (hsz (by omega)) ?_ ?_) Ty_str F.plainAttrs_str F.slot_str_split F.type_str_split
      · refine Ev_call hC (F_quote hD hk1 hml hq1) (by walk_at "kind") (by decide +kernel) hR (Evs_cons (Ev_binop (p := .str (mailN rows bare t)) (q := .str [13, 46]) ?_ (Ev_lit (by kernel_rfl)) (Bi_add_str ?_)) Evs_nil)
        · walk_at "ev"
        · rw [List.length_append] at hml
          exact hsz (by omega)
      · refine hsz (Nat.le_trans (split_le _ _) ?_)
        simp only [Str.length, List.size_toArray]; omega
      · rw [len_partsBetween]
        refine hsz ?_
        have := StrLaws.occ_length_le (⟨(quoted (mailN rows bare t ++ [13, 46])).toArray⟩ : Str) ⟨[13, 10].toArray⟩ 0 (quoted (mailN rows bare t ++ [13, 46])).length ((quoted (mailN rows bare t ++ [13, 46])).length + 1)
        omega
    rw [hT]
    let T : List (List Nat) := ((List.range 4).map fun i => shieldN bare i ++ rows'.getD i []) ++ [[], [46, 46]]
    have hTi : ∀ i, i < 4 → (T.map PV.str)[i]? = some (.str (shieldN bare i ++ rows'.getD i [])) := by
      intro i hi
      match i, hi with
      | 0, _ => rfl
      | 1, _ => rfl
      | 2, _ => rfl
      | 3, _ => rfl
    have hT4 : (T.map PV.str).drop 4 = [[], [46, 46]].map PV.str := rfl
    change Ss B C (upd _ "told" (.list (T.map .str))) none _ _
    generalize hTT : T.map PV.str = tv at hTi hT4 ⊢
    have hrow : (List.range 4).map (fun i => rows'.getD i []) = rows' := by
      match rows', hr' with
      | [_, _, _, _], _ => rfl
    -- a row that was told
    have rowC : ∀ {C' : Cx} {σ : Vars} {ow : Own} {p1 p2 p3 : Pos} {i : Nat}, C'.Ok B → σ "told" = some (.list tv) → σ "i" = some (.int (i : Int)) → i < 4 → Ev B C' σ ow (.Subscript (.Name "told" p1) (.Name "i" p2) p3) (.str (shieldN bare i ++ rows'.getD i [])) := by
      intro C' σ ow p1 p2 p3 i hC' hn hi h4
      refine Ev_item (xs := tv) (k := (i : Int)) (Ev_name hC' hn (by decide +kernel) (by decide +kernel)) (Ev_name hC' hi (by decide +kernel) (by decide +kernel)) (by omega) ?_
      rw [Int.toNat_natCast]; exact hTi i h4
    have lenC : ∀ {C' : Cx} {σ : Vars} {ow : Own} {p1 p2 p3 p4 p5 : Pos} {sc : Scope} {i : Nat}, C'.Ok B → C'.env.scope = sc → sc.names.lookup ("len" : Str) = some .globalImplicit → σ "shields" = some (.list ((List.range 4).map fun i => .str (shieldN bare i))) → σ "i" = some (.int (i : Int)) → i < 4 →
        Ev B C' σ ow (.Call (.Name "len" p1) [.Subscript (.Name "shields" p2) (.Name "i" p3) p4] [] p5) (.int ((shieldN bare i).length : Nat)) := by
      intro C' σ ow p1 p2 p3 p4 p5 sc i hC' hsc' hl hn hi h4
      have := hsh i
      exact Ev_bi' hA hC' hsc' (Ca_len_str (by omega)) hl (by decide +kernel) (by decide +kernel) (by decide +kernel) (Evs_cons (nsC hC' hn hi h4 (by decide +kernel) (by decide +kernel)) Evs_nil)
    have hbig : ∀ i, (shieldN bare i ++ rows'.getD i []).length ≤ sizeLine := fun i => by
      have := hsh i; have := hrs i
      rw [List.length_append]; exact hsz (by omega)
    refine Ss_cons ?_
    refine S1_if (b := false || (false || false)) (Tr_or (Tr_compare hC (p := .list ([[], [46, 46]].map .str)) (q := .list ([[], [46, 46]].map .str)) ?_ ?_ ?_) fun _ => Tr_or (Tr_compare hC (p := .list (((List.range 4).map (shieldN bare)).map .str)) (q := .list (((List.range 4).map (shieldN bare)).map .str)) ?_ ?_ ?_) fun _ => Tr_or_nil) (fun h => nomatch h) fun _ => Ss_nil ?_
    · rw [← hT4]
      refine Ev_slice_from (k := 4) (by decide) ?_ Ev_int
      walk_at "ev"
    · exact Ev_list (Evs_cons (Ev_lit (by kernel_rfl)) (Evs_cons (Ev_lit (by kernel_rfl)) Evs_nil))
    · have := Co_ne_strs (B := B) (ns := [[], [46, 46]]) (ms := [[], [46, 46]])
      exact this
    · rw [List.map_map]
      refine Ev_comp hC hcel four ?_ (by rw [hsc]; kernel_rfl)
      refine Lc_map fun i hi => Turn_name hsc (by kernel_rfl) (by kernel_rfl) fun C' hC' hcel' hA' hsc' ow => ⟨rfl, ?_⟩
      have hi4 := List.mem_range.mp hi
      show Ev B C' _ ow _ (.str (shieldN bare i))
      refine Ev_slice_str (lo := none) (hi := some ((shieldN bare i).length : Nat)) (hbig i) (rowC hC' ?_ ?_ hi4) EvP_none (EvP_some (lenC hC' hsc' (by kernel_rfl) ?_ ?_ hi4)) ?_
      · walk_at "look"
      · walk_at "look"
      · walk_at "look"
      · walk_at "look"
      · rw [slice_str_to (by simp)]; simp
    · rw [List.map_map]
      show Ev B C _ none _ (.list ((List.range 4).map fun i => .str (shieldN bare i)))
      walk_at "ev"
    · have := Co_ne_strs (B := B) (ns := (List.range 4).map (shieldN bare)) (ms := (List.range 4).map (shieldN bare))
      simp only [beq_self_eq_true, Bool.not_true] at this
      exact this
    · refine Ss_ret ?_ rfl
      have : rows'.map PV.str = (List.range 4).map fun i => PV.str (rows'.getD i []) := by
        conv => lhs; rw [← hrow]
        rw [List.map_map]; rfl
      rw [this]
      refine Ev_comp hC hcel four ?_ (by rw [hsc]; kernel_rfl)
      refine Lc_map fun i hi => Turn_name hsc (by kernel_rfl) (by kernel_rfl) fun C' hC' hcel' hA' hsc' ow => ⟨rfl, ?_⟩
      have hi4 := List.mem_range.mp hi
      refine Ev_slice_str (hi := none) (lo := some ((shieldN bare i).length : Nat)) (hbig i) (rowC hC' ?_ ?_ hi4) (EvP_some (lenC hC' hsc' (by kernel_rfl) ?_ ?_ hi4)) EvP_none ?_
      · walk_at "look"
      · walk_at "look"
      · walk_at "look"
      · walk_at "look"
      · rw [slice_str_from (by simp)]; simp
end
end Mine
end

section
open PySem PySem.W PyProof.Rows PySem.Calls
set_option Elab.async false
set_option linter.unusedVariables false
set_option maxRecDepth 100000
namespace Mine
section
variable {hit : Nat → Option Nat} {repl : List Nat} {T : Array Nat}
theorem sub_end {f q : Nat} (h : T.size ≤ q) : subOf hit repl T f q = [] := by
  have e : T.toList.drop q = [] := List.drop_eq_nil_of_le (by simpa using h)
  cases f with
  | zero => exact e
  | succ f =>
    unfold subOf
    rw [show T.size - q = 0 by omega]
    exact e
theorem sub_miss {f q : Nat} (h : q < T.size) (hn : hit q = none) : subOf hit repl T (f + 1) q = T.getD q 0 :: subOf hit repl T (f + 1) (q + 1) := by
  have hd : T.toList.drop q = T.getD q 0 :: T.toList.drop (q + 1) := by
    rw [List.drop_eq_getElem_cons (by simpa using h)]
    simp [h]
  have hx : nextHit hit (T.size - q) q = nextHit hit (T.size - (q + 1)) (q + 1) := by
    rw [show T.size - q = (T.size - (q + 1)) + 1 by omega]
    conv => lhs; unfold nextHit
    rw [hn]
  unfold subOf
  rw [hx]
  cases hh : nextHit hit (T.size - (q + 1)) (q + 1) with
  | none => exact hd
  | some pe =>
    obtain ⟨p, e⟩ := pe
    have := (nextHit_spec hh).1
    show (T.toList.drop q).take (p - q) ++ repl ++ _ = T.getD q 0 :: ((T.toList.drop (q + 1)).take (p - (q + 1)) ++ repl ++ _)
    rw [hd, show p - q = (p - (q + 1)) + 1 by omega, List.take_succ_cons]
    rfl
theorem sub_hit {f q e : Nat} (h : q < T.size) (hn : hit q = some e) : subOf hit repl T (f + 1) q = repl ++ subOf hit repl T f e := by
  have hx : nextHit hit (T.size - q) q = some (q, e) := by
    rw [show T.size - q = (T.size - (q + 1)) + 1 by omega]
    unfold nextHit
    rw [hn]
  conv => lhs; unfold subOf
  rw [hx]
  show (T.toList.drop q).take (q - q) ++ repl ++ _ = _
  rw [Nat.sub_self, List.take_zero, List.nil_append]
end
/-- every line's end made a return and a feed -/
def S2 : List Nat → List Nat
  | [] => []
  | [c] => if c = 10 ∨ c = 13 then [13, 10] else [c]
  | c :: d :: r => if c = 10 then 13 :: 10 :: S2 (d :: r) else if c = 13 then (if d = 10 then 13 :: 10 :: S2 r else 13 :: 10 :: S2 (d :: r)) else c :: S2 (d :: r)
theorem S2_feed (r : List Nat) : S2 (10 :: r) = 13 :: 10 :: S2 r := by
  cases r with
  | nil => rfl
  | cons d r => rw [S2, if_pos rfl]
theorem S2_both (r : List Nat) : S2 (13 :: 10 :: r) = 13 :: 10 :: S2 r := by
  rw [S2, if_neg (by decide), if_pos rfl, if_pos rfl]
theorem S2_ret {r : List Nat} (hr : ∀ r', r ≠ 10 :: r') : S2 (13 :: r) = 13 :: 10 :: S2 r := by
  cases r with
  | nil => rfl
  | cons d r => rw [S2, if_neg (by decide), if_pos rfl, if_neg (fun e => hr r (by rw [e]))]
theorem S2_other {c : Nat} (r : List Nat) (h1 : c ≠ 10) (h2 : c ≠ 13) : S2 (c :: r) = c :: S2 r := by
  cases r with
  | nil => show (if c = 10 ∨ c = 13 then [13, 10] else [c]) = _; rw [if_neg (by simp [h1, h2])]; rfl
  | cons d r => rw [S2, if_neg h1, if_neg h2]
/-- a dot ahead of a line doubled -/
def S1d : Bool → List Nat → List Nat
  | _, [] => []
  | b, c :: r => if b = true ∧ c = 46 then 46 :: 46 :: S1d false r else c :: S1d (c == 10) r
theorem drop_cons {T : Array Nat} {q : Nat} (h : q < T.size) : T.toList.drop q = T.getD q 0 :: T.toList.drop (q + 1) := by
  rw [List.drop_eq_getElem_cons (by simpa using h)]
  simp [h]
theorem sub2_eq {T : Array Nat} : ∀ (n f q : Nat), T.size - q ≤ n → T.size - q ≤ f → subOf (hit2 T) [13, 10] T f q = S2 (T.toList.drop q)
  | 0, f, q, hn, hf => by
    rw [sub_end (by omega), List.drop_eq_nil_of_le (by simp; omega)]; rfl
  | n + 1, f, q, hn, hf => by
    by_cases hq : q < T.size
    · obtain ⟨f, rfl⟩ : ∃ f', f = f' + 1 := ⟨f - 1, by omega⟩
      rw [drop_cons hq]
      by_cases h10 : T.getD q 0 = 10
      · have hh : hit2 T q = some (q + 1) := by unfold hit2; rw [if_pos hq, if_pos (by simpa using h10)]
        rw [sub_hit hq hh, sub2_eq n f (q + 1) (by omega) (by omega), h10, S2_feed]; rfl
      · by_cases h13 : T.getD q 0 = 13
        · by_cases hn' : q + 1 < T.size ∧ (T.getD (q + 1) 0 == 10) = true
          · have hh : hit2 T q = some (q + 2) := by unfold hit2; rw [if_pos hq, if_neg (by simpa using h10), if_pos (by simpa using h13), if_pos hn']
            rw [sub_hit hq hh, sub2_eq n f (q + 2) (by omega) (by omega), drop_cons hn'.1, h13, show T.getD (q + 1) 0 = 10 by simpa using hn'.2, S2_both]; rfl
          · have hh : hit2 T q = some (q + 1) := by unfold hit2; rw [if_pos hq, if_neg (by simpa using h10), if_pos (by simpa using h13), if_neg hn']
            rw [sub_hit hq hh, sub2_eq n f (q + 1) (by omega) (by omega), h13, S2_ret]
            · rfl
            · intro r' e
              have h1 : q + 1 < T.size := Classical.byContradiction fun h => by
                rw [List.drop_eq_nil_of_le (by simp; omega)] at e; cases e
              rw [drop_cons h1] at e
              exact hn' ⟨h1, by simpa using (List.cons.inj e).1⟩
        · have hh : hit2 T q = none := by unfold hit2; rw [if_pos hq, if_neg (by simpa using h10), if_neg (by simpa using h13)]
          rw [sub_miss hq hh, sub2_eq n (f + 1) (q + 1) (by omega) (by omega), S2_other _ h10 h13]
    · rw [sub_end (by omega), List.drop_eq_nil_of_le (by simp; omega)]; rfl
theorem sub1_eq {T : Array Nat} : ∀ (n f q : Nat), T.size - q ≤ n → T.size - q ≤ f → subOf (hit1 T) [46, 46] T f q = S1d (q == 0 || T.getD (q - 1) 0 == 10) (T.toList.drop q)
  | 0, f, q, hn, hf => by
    rw [sub_end (by omega), List.drop_eq_nil_of_le (by simp; omega)]; rfl
  | n + 1, f, q, hn, hf => by
    by_cases hq : q < T.size
    · obtain ⟨f, rfl⟩ : ∃ f', f = f' + 1 := ⟨f - 1, by omega⟩
      have hnext : ∀ f', T.size - (q + 1) ≤ f' → subOf (hit1 T) [46, 46] T f' (q + 1) = S1d (T.getD q 0 == 10) (T.toList.drop (q + 1)) := fun f' hf' => by
        rw [sub1_eq n f' (q + 1) (by omega) hf']
        congr 1
      rw [drop_cons hq, S1d]
      by_cases h : (q == 0 || T.getD (q - 1) 0 == 10) = true ∧ T.getD q 0 = 46
      · have hh : hit1 T q = some (q + 1) := by unfold hit1; rw [if_pos h.1, if_pos hq, if_pos (by simpa using h.2)]
        rw [sub_hit hq hh, hnext f (by omega), if_pos h, h.2]; rfl
      · have hh : hit1 T q = none := by
          unfold hit1
          by_cases h1 : (q == 0 || T.getD (q - 1) 0 == 10) = true
          · rw [if_pos h1, if_pos hq, if_neg (fun e => h ⟨h1, by simpa using e⟩)]
          · rw [if_neg h1]
        rw [sub_miss hq hh, hnext (f + 1) (by omega), if_neg h]
    · rw [sub_end (by omega), List.drop_eq_nil_of_le (by simp; omega)]; rfl
theorem quoted_eq (x : List Nat) : quoted x = S1d true (S2 x) := by
  unfold quoted
  have e := sub2_eq (T := x.toArray) x.length x.length 0 (by simp) (by simp)
  simp only [List.drop_zero] at e
  rw [e]
  have e' := sub1_eq (T := (S2 x).toArray) (S2 x).length (S2 x).length 0 (by simp) (by simp)
  simp only [List.drop_zero] at e'
  exact e'
theorem norm_eq (x : List Nat) : subOf (hit2 x.toArray) [13, 10] x.toArray x.length 0 = S2 x := by
  have e := sub2_eq (T := x.toArray) x.length x.length 0 (by simp) (by simp)
  simpa using e
/-! on a mail -/
theorem S2_plain : ∀ (p r : List Nat), 10 ∉ p → 13 ∉ p → S2 (p ++ r) = p ++ S2 r
  | [], _, _, _ => rfl
  | c :: p, r, h1, h2 => by
    rw [List.mem_cons, not_or] at h1 h2
    show S2 (c :: (p ++ r)) = c :: (p ++ S2 r)
    rw [S2_other _ (fun e => h1.1 e.symm) (fun e => h2.1 e.symm), S2_plain p r h1.2 h2.2]
theorem S2_end {e r : List Nat} (he : e ∈ [[10], [13], [13, 10]]) (hr : ∀ r', r ≠ 10 :: r') : S2 (e ++ r) = [13, 10] ++ S2 r := by
  simp only [List.mem_cons, List.not_mem_nil, or_false] at he
  rcases he with rfl | rfl | rfl
  · exact S2_feed r
  · exact S2_ret hr
  · exact S2_both r
theorem S1_plain : ∀ (p r : List Nat), 10 ∉ p → S1d false (p ++ 13 :: 10 :: r) = p ++ 13 :: 10 :: S1d true r
  | [], _, _ => rfl
  | c :: p, r, h => by
    rw [List.mem_cons, not_or] at h
    show S1d false (c :: (p ++ 13 :: 10 :: r)) = c :: (p ++ 13 :: 10 :: S1d true r)
    rw [S1d, if_neg (by simp), show (c == 10) = false by simpa using fun e => h.1 e.symm, S1_plain p r h.2]
/-- a dot ahead doubled -/
def dotted : List Nat → List Nat
  | [] => []
  | c :: r => if c = 46 then 46 :: c :: r else c :: r
theorem S1_line {p r : List Nat} (h : 10 ∉ p) : S1d true (p ++ 13 :: 10 :: r) = dotted p ++ 13 :: 10 :: S1d true r := by
  cases p with
  | nil => rfl
  | cons c p =>
    rw [List.mem_cons, not_or] at h
    show S1d true (c :: (p ++ 13 :: 10 :: r)) = _
    show (if true = true ∧ c = 46 then 46 :: 46 :: S1d false (p ++ 13 :: 10 :: r) else c :: S1d (c == 10) (p ++ 13 :: 10 :: r)) = (if c = 46 then 46 :: c :: p else c :: p) ++ 13 :: 10 :: S1d true r
    by_cases e : c = 46
    · rw [if_pos ⟨rfl, e⟩, if_pos e, S1_plain p r h.2, e]; rfl
    · rw [if_neg (fun h => e h.2), if_neg e, show (c == 10) = false by simpa using fun e => h.1 e.symm, S1_plain p r h.2]; rfl
theorem quoted_mail {p0 p1 p2 p3 e0 e1 e2 e3 : List Nat} (h0 : 10 ∉ p0 ∧ 13 ∉ p0) (h1 : 10 ∉ p1 ∧ 13 ∉ p1) (h2 : 10 ∉ p2 ∧ 13 ∉ p2) (h3 : 10 ∉ p3 ∧ 13 ∉ p3) (n1 : p1 ≠ []) (n2 : p2 ≠ []) (n3 : p3 ≠ [])
    (m0 : e0 ∈ [[10], [13], [13, 10]]) (m1 : e1 ∈ [[10], [13], [13, 10]]) (m2 : e2 ∈ [[10], [13], [13, 10]]) (m3 : e3 ∈ [[10], [13], [13, 10]]) :
    S2 (p0 ++ (e0 ++ (p1 ++ (e1 ++ (p2 ++ (e2 ++ (p3 ++ (e3 ++ [13, 46])))))))) = joinL [13, 10] [p0, p1, p2, p3, [], [46]] ∧
    quoted (p0 ++ (e0 ++ (p1 ++ (e1 ++ (p2 ++ (e2 ++ (p3 ++ (e3 ++ [13, 46])))))))) = joinL [13, 10] [dotted p0, dotted p1, dotted p2, dotted p3, [], [46, 46]] := by
  have st : ∀ {p r : List Nat}, 10 ∉ p → p ≠ [] → ∀ r', p ++ r ≠ 10 :: r' := fun {p r} h hne r' e => by
    cases p with
    | nil => exact hne rfl
    | cons c p => rw [List.cons_append] at e; exact h (by rw [(List.cons.inj e).1]; exact List.mem_cons_self)
  have hS : S2 (p0 ++ (e0 ++ (p1 ++ (e1 ++ (p2 ++ (e2 ++ (p3 ++ (e3 ++ [13, 46])))))))) = p0 ++ 13 :: 10 :: (p1 ++ 13 :: 10 :: (p2 ++ 13 :: 10 :: (p3 ++ 13 :: 10 :: ([] ++ 13 :: 10 :: [46])))) := by
    rw [S2_plain p0 _ h0.1 h0.2, S2_end m0 (st h1.1 n1), S2_plain p1 _ h1.1 h1.2, S2_end m1 (st h2.1 n2), S2_plain p2 _ h2.1 h2.2, S2_end m2 (st h3.1 n3), S2_plain p3 _ h3.1 h3.2, S2_end m3 (fun r' e => by cases e)]
    rfl
  refine ⟨?_, ?_⟩
  · rw [hS]; simp [joinL]
  · rw [quoted_eq, hS, S1_line h0.1, S1_line h1.1, S1_line h2.1, S1_line h3.1, S1_line (by simp)]
    simp [joinL, dotted, S1d]
end Mine
end

section
open PySem PySem.W PyProof.Rows PySem.Calls
set_option Elab.async false
set_option linter.unusedVariables false
set_option maxRecDepth 100000
namespace Mine
def goodS (p : Nat × List Nat) : Bool := (b1Has p.1 == (p.2 == [])) && ((p.2 == []) || (mapB3 p.1 == p.2)) && decide (p.2.length ≤ 3) && p.2.all (fun x => decide (x ≠ 10 ∧ x ≠ 13)) && !(Builtin.Str.tooLong (Txt.lower ⟨[p.1].toArray⟩).length)
theorem good_a : ∀ p, p < 27 → goodS (if p < 11 then marksL.getD p 0 else 65024 + p - 11, []) = true := by decide +kernel
theorem good_b : ∀ p, p < 17 → goodS (120488 + p, [945 + p]) = true := by decide +kernel
theorem good_c : ∀ p, p < 23 → goodS (if p > 16 then 913 + p + 2 else 913 + p, [(if p > 16 then 913 + p + 2 else 913 + p) + 32]) = true := by decide +kernel
theorem good_d : ∀ p, p < 48 → goodS (8064 + p, [[7936, 7968, 8032].getD (p / 16) 0 + p % 8, 953]) = true := by decide +kernel
theorem good_e : ∀ p, p < 10 → goodS ((markedL.getD p []).getD 0 0, (markedL.getD p []).drop 1) = true := by decide +kernel
theorem good_sign (n : Nat) : goodS (signN n) = true := by
  unfold signN
  dsimp only
  split
  · exact good_a _ (Nat.mod_lt _ (by decide))
  · split
    · exact good_b _ (Nat.mod_lt _ (by decide))
    · split
      · exact good_c _ (Nat.mod_lt _ (by decide))
      · split
        · exact good_d _ (Nat.mod_lt _ (by decide))
        · exact good_e _ (Nat.mod_lt _ (by decide))
structure SignOk (c : Nat) (due : List Nat) : Prop where
  seen : b1Has c = (due == [])
  told : due ≠ [] → mapB3 c = due
  len : due.length ≤ 3
  ends : 10 ∉ due ∧ 13 ∉ due
  fit : Builtin.Str.tooLong (Txt.lower ⟨[c].toArray⟩).length = false
theorem sign_ok (n : Nat) : SignOk (signN n).1 (signN n).2 := by
  have h := good_sign n
  unfold goodS at h
  simp only [Bool.and_eq_true, Bool.or_eq_true, beq_iff_eq, decide_eq_true_iff, List.all_eq_true, Bool.not_eq_true'] at h
  obtain ⟨⟨⟨⟨h1, h2⟩, h3⟩, h4⟩, h5⟩ := h
  exact ⟨h1, fun hn => h2.resolve_left hn, h3, ⟨fun hm => (h4 _ hm).1 rfl, fun hm => (h4 _ hm).2 rfl⟩, h5⟩
end Mine
end

section
open PySem PySem.W PyProof.Rows PySem.Calls
set_option Elab.async false
set_option linter.unusedVariables false
set_option maxRecDepth 100000
namespace Mine
/-- rows of a mail -/
structure RowsOk (rows : List (List Nat)) : Prop where
  len : rows.length = 4
  row : ∀ i, i < 4 → ∃ w, rows.getD i [] = 46 :: w ∧ 10 ∉ w ∧ 13 ∉ w
  size : ∀ i, (rows.getD i []).length ≤ 400
def nextR (rows : List (List Nat)) (bare : List Nat) : List (List Nat) := (List.range 4).map fun i => if bare.contains i then 46 :: rows.getD i [] else rows.getD i []
theorem nextR_length (rows : List (List Nat)) (bare : List Nat) : (nextR rows bare).length = 4 := by simp [nextR]
theorem nextR_get {rows : List (List Nat)} {bare : List Nat} {i : Nat} (h : i < 4) : (nextR rows bare).getD i [] = if bare.contains i then 46 :: rows.getD i [] else rows.getD i [] := by
  unfold nextR
  simp [List.getD, h]
theorem end_mem (t : Nat) : endN t ∈ [[10], [13], [13, 10]] := by
  unfold endN
  have : ∀ j, j < 3 → ([[10], [13], [13, 10]] : List (List Nat)).getD j [] ∈ [[10], [13], [13, 10]] := by decide
  exact this _ (Nat.mod_lt _ (by decide))
theorem mail_form (rows : List (List Nat)) (bare : List Nat) (t : Nat) : mailN rows bare t ++ [13, 46] = (shieldN bare 0 ++ rows.getD 0 []) ++ (endN t ++ ((shieldN bare 1 ++ rows.getD 1 []) ++ (endN (t + 1) ++ ((shieldN bare 2 ++ rows.getD 2 []) ++ (endN (t + 2) ++ ((shieldN bare 3 ++ rows.getD 3 []) ++ (endN (t + 3) ++ [13, 46]))))))) := by
  unfold mailN
  rw [joinL_nil]
  show ((shieldN bare 0 ++ rows.getD 0 [] ++ endN (t + 0)) ++ ((shieldN bare 1 ++ rows.getD 1 [] ++ endN (t + 1)) ++ ((shieldN bare 2 ++ rows.getD 2 [] ++ endN (t + 2)) ++ ((shieldN bare 3 ++ rows.getD 3 [] ++ endN (t + 3)) ++ [])))) ++ [13, 46] = _
  rw [Nat.add_zero]
  simp only [List.append_assoc, List.append_nil]
theorem shield_mem (bare : List Nat) (i : Nat) : 10 ∉ shieldN bare i ∧ 13 ∉ shieldN bare i := by
  unfold shieldN; split <;> decide
theorem sent_told {rows : List (List Nat)} {bare : List Nat} {t : Nat} (h : RowsOk rows) :
    S2 (mailN rows bare t ++ [13, 46]) = joinL [13, 10] ([shieldN bare 0 ++ rows.getD 0 [], shieldN bare 1 ++ rows.getD 1 [], shieldN bare 2 ++ rows.getD 2 [], shieldN bare 3 ++ rows.getD 3 [], [], [46]]) ∧
    quoted (mailN rows bare t ++ [13, 46]) = joinL [13, 10] (((List.range 4).map fun i => shieldN bare i ++ (nextR rows bare).getD i []) ++ [[], [46, 46]]) ∧
    toldN rows bare t = ((List.range 4).map fun i => shieldN bare i ++ (nextR rows bare).getD i []) ++ [[], [46, 46]] := by
  have no : ∀ i, i < 4 → (10 ∉ shieldN bare i ++ rows.getD i [] ∧ 13 ∉ shieldN bare i ++ rows.getD i []) ∧ shieldN bare i ++ rows.getD i [] ≠ [] ∧ dotted (shieldN bare i ++ rows.getD i []) = shieldN bare i ++ (nextR rows bare).getD i [] ∧ 13 ∉ shieldN bare i ++ (nextR rows bare).getD i [] := by
    intro i hi
    obtain ⟨w, hw, h10, h13⟩ := h.row i hi
    rw [nextR_get hi, hw]
    unfold shieldN
    by_cases hb : bare.contains i = true
    · rw [if_pos hb, if_pos hb]
      refine ⟨⟨?_, ?_⟩, ?_, ?_, ?_⟩
      · simpa using h10
      · simpa using h13
      · simp
      · show (if 46 = 46 then 46 :: 46 :: w else 46 :: w) = [] ++ 46 :: 46 :: w
        rw [if_pos rfl]; rfl
      · simpa using h13
    · rw [if_neg hb, if_neg hb]
      refine ⟨⟨?_, ?_⟩, ?_, ?_, ?_⟩
      · simpa using h10
      · simpa using h13
      · simp
      · show (if 32 = 46 then 46 :: 32 :: 46 :: w else 32 :: 46 :: w) = [32] ++ 46 :: w
        rw [if_neg (by decide)]; rfl
      · simpa using h13
  have q := quoted_mail (no 0 (by decide)).1 (no 1 (by decide)).1 (no 2 (by decide)).1 (no 3 (by decide)).1 (no 1 (by decide)).2.1 (no 2 (by decide)).2.1 (no 3 (by decide)).2.1 (end_mem t) (end_mem (t + 1)) (end_mem (t + 2)) (end_mem (t + 3))
  rw [← mail_form] at q
  have hq : quoted (mailN rows bare t ++ [13, 46]) = joinL [13, 10] (((List.range 4).map fun i => shieldN bare i ++ (nextR rows bare).getD i []) ++ [[], [46, 46]]) := by
    rw [q.2, (no 0 (by decide)).2.2.1, (no 1 (by decide)).2.2.1, (no 2 (by decide)).2.2.1, (no 3 (by decide)).2.2.1]
    rfl
  refine ⟨q.1, hq, ?_⟩
  unfold toldN
  rw [hq]
  refine split_join (by decide) (p := shieldN bare 0 ++ (nextR rows bare).getD 0 []) (ps := _) fun x hx => ?_
  have hx' : x ∈ ((List.range 4).map fun i => shieldN bare i ++ (nextR rows bare).getD i []) ++ [[], [46, 46]] := hx
  rcases List.mem_append.mp hx' with hx | hx
  · rw [List.mem_map] at hx
    obtain ⟨i, hi, rfl⟩ := hx
    exact (no i (List.mem_range.mp hi)).2.2.2
  · simp only [List.mem_cons, List.not_mem_nil, or_false] at hx
    rcases hx with rfl | rfl <;> decide
theorem nextR_ok {rows : List (List Nat)} {bare : List Nat} (h : RowsOk rows) (hs : ∀ i, (rows.getD i []).length ≤ 399) : RowsOk (nextR rows bare) where
  len := nextR_length _ _
  row := fun i hi => by
    obtain ⟨w, hw, h10, h13⟩ := h.row i hi
    rw [nextR_get hi, hw]
    by_cases hb : bare.contains i = true
    · rw [if_pos hb]; exact ⟨_, rfl, by simpa using h10, by simpa using h13⟩
    · rw [if_neg hb]; exact ⟨_, rfl, h10, h13⟩
  size := fun i => by
    by_cases hi : i < 4
    · rw [nextR_get hi]
      have := hs i
      split
      · rw [List.length_cons]; omega
      · omega
    · have : (nextR rows bare).getD i [] = [] := by
        simp only [List.getD]
        rw [List.getElem?_eq_none (by rw [nextR_length]; omega)]; rfl
      rw [this]; exact Nat.zero_le _
theorem sent_sizes {rows : List (List Nat)} {bare : List Nat} {t : Nat} (h : RowsOk rows) (hs : ∀ i, (rows.getD i []).length ≤ 399) :
    (mailN rows bare t ++ [13, 46]).length ≤ 3000 ∧ (subOf (hit2 (mailN rows bare t ++ [13, 46]).toArray) [13, 10] (mailN rows bare t ++ [13, 46]).toArray (mailN rows bare t ++ [13, 46]).length 0).length ≤ 10000 ∧ (quoted (mailN rows bare t ++ [13, 46])).length ≤ 10000 := by
  have hsh : ∀ i, (shieldN bare i).length ≤ 1 := fun i => by unfold shieldN; split <;> decide
  have hen : ∀ i, (endN i).length ≤ 2 := fun i => by
    have : ∀ e ∈ ([[10], [13], [13, 10]] : List (List Nat)), e.length ≤ 2 := by decide
    exact this _ (end_mem i)
  have hn := nextR_ok (bare := bare) h hs
  have a0 := hsh 0; have a1 := hsh 1; have a2 := hsh 2; have a3 := hsh 3
  have b0 := hs 0; have b1 := hs 1; have b2 := hs 2; have b3 := hs 3
  have c0 := hn.size 0; have c1 := hn.size 1; have c2 := hn.size 2; have c3 := hn.size 3
  have e0 := hen t; have e1 := hen (t + 1); have e2 := hen (t + 2); have e3 := hen (t + 3)
  obtain ⟨t1, t2, _⟩ := sent_told (bare := bare) (t := t) h
  refine ⟨?_, ?_, ?_⟩
  · rw [mail_form]; simp only [List.length_append, List.length_cons, List.length_nil]; omega
  · rw [norm_eq, t1]; simp only [joinL, List.length_append, List.length_cons, List.length_nil]; omega
  · rw [t2]
    show (joinL [13, 10] [shieldN bare 0 ++ (nextR rows bare).getD 0 [], shieldN bare 1 ++ (nextR rows bare).getD 1 [], shieldN bare 2 ++ (nextR rows bare).getD 2 [], shieldN bare 3 ++ (nextR rows bare).getD 3 [], [], [46, 46]]).length ≤ 10000
    simp only [joinL, List.length_append, List.length_cons, List.length_nil]; omega
section
variable {B : Bk}
theorem F_sent' (hD : B.Data) {k : Nat} (hk : k < 890) {rows : List (List Nat)} {bare : List Nat} {t : Nat} (h : RowsOk rows) (hs : ∀ i, (rows.getD i []).length ≤ 399) :
    Fn B k "_law_sent" [.list (rows.map .str), natsV bare, .int (t : Int)] (.list ((nextR rows bare).map .str)) := by
  obtain ⟨s1, s2, s3⟩ := sent_sizes (bare := bare) (t := t) h hs
  exact F_sent hD hk h.len (nextR_length _ _) (fun i => Nat.le_trans (h.size i) (by decide)) s2 s3 s1 (sent_told h).2.2 (fun i => Nat.le_trans ((nextR_ok h hs).size i) (by decide))
end
end Mine
end

section
open PySem PySem.W PyProof.Rows PySem.Calls
set_option Elab.async false
set_option linter.unusedVariables false
set_option maxRecDepth 100000
namespace Mine
local macro_rules | `(tactic| walk_at "look") => `(tactic| first | with_reducible exact upd_self _ _ _ | (refine (upd_ne (by decide +kernel)).trans ?_; walk_at "look") | (refine cap_of (by kernel_rfl) ?_; walk_at "look") | assumption)
local macro_rules | `(tactic| walk_at "name") => `(tactic| (with_reducible apply Ev_name (by assumption); walk_at "look"; decide +kernel; decide +kernel))
local macro_rules | `(tactic| walk_at "bi") => `(tactic| first | with_reducible exact Bi_addN | (with_reducible apply Bi_subN; omega) | (with_reducible apply Bi_modN; omega) | (with_reducible apply Bi_divN; omega; omega; omega) | with_reducible exact Bi_add | with_reducible exact Bi_sub)
local macro_rules | `(tactic| walk_at "co") => `(tactic| first | with_reducible exact Co_eqN | with_reducible exact Co_ltN | with_reducible exact Co_gtN)
local macro_rules | `(tactic| walk_at "ev") => `(tactic| first | with_reducible exact Ev_nat | with_reducible exact Ev_true | with_reducible exact Ev_none | with_reducible exact Ev_str | walk_at "name" | (with_reducible apply Ev_neg; walk_at "ev") | (with_reducible apply Ev_binop; walk_at "ev"; walk_at "ev"; walk_at "bi") | (with_reducible apply @Ev_compare; assumption; walk_at "ev"; walk_at "ev"; walk_at "co"; with_unfolding_all exact rfl))
local macro_rules | `(tactic| walk_at "evs") => `(tactic| first | with_reducible exact Evs_nil | (with_reducible apply @Evs_cons; walk_at "ev"; walk_at "evs"; with_unfolding_all exact rfl))
local macro_rules | `(tactic| walk_at "kind") => `(tactic| (refine kind_of (by assumption) ?_; kernel_rfl))
theorem Bk.All.lo0 {B : Bk} (h : B.All) : ({ B with lo := 0 } : Bk).All where
  ok := ⟨h.ok.g, h.ok.b, h.ok.lim⟩
  free := h.free
  bt := h.bt
  nb := h.nb
  dFlags := h.dFlags.imp fun a x => ⟨x.1, x.2⟩
  dGt := h.dGt.imp fun a x => ⟨x.1, x.2⟩
  dAdd := h.dAdd.imp fun a x => ⟨x.1, x.2⟩
  dAnd := h.dAnd.imp fun a x => ⟨x.1, x.2⟩
  dShl := h.dShl.imp fun a x => ⟨x.1, x.2⟩
  dSub := h.dSub.imp fun a x => ⟨x.1, x.2⟩
  dConcat := h.dConcat.imp fun a x => ⟨x.1, x.2⟩
  dContains := h.dContains.imp fun a x => ⟨x.1, x.2⟩
  dIndexOf := h.dIndexOf.imp fun a x => ⟨x.1, x.2⟩
  dQuote := h.dQuote.imp fun a x => ⟨x.1, x.2⟩
  dInB1 := h.dInB1.imp fun a x => ⟨x.1, x.2⟩
  dMapB3 := h.dMapB3.imp fun a x => ⟨x.1, x.2⟩
  dCells := h.dCells.imp fun a x => ⟨x.1, x.2⟩
  dNames := h.dNames.imp fun a x => ⟨x.1, x.2⟩
  dSign := h.dSign.imp fun a x => ⟨x.1, x.2⟩
  dChosen := h.dChosen.imp fun a x => ⟨x.1, x.2⟩
  dSent := h.dSent.imp fun a x => ⟨x.1, x.2⟩
/-- a loop whose turns keep something -/
theorem Lp_inv {B : Bk} {C : Cx} {t : Expr} {body orelse : List Stmt} {P : Out → Prop} {I K : Nat → Vars → Own → Prop} :
    ∀ (xs : List PV) (i : Nat) (σ : Vars) (ow : Own),
      (∀ k x, xs[k]? = some x → ∀ σ ow, I (i + k) σ ow → ∃ σ', Asg B C t x σ σ' ∧ ∀ P : Out → Prop, (∀ σ₂ ow₂, I (i + k + 1) σ₂ ow₂ → P (.next σ₂ ow₂)) → (∀ σ₂ ow₂, K (i + k) σ₂ ow₂ → P (.brk σ₂ ow₂)) → Ss B C σ' ow body P) →
      I i σ ow → (∀ σ ow, I (i + xs.length) σ ow → Ss B C σ ow orelse P) → (∀ k σ ow, K k σ ow → P (.next σ ow)) → Lp B C t body orelse P xs σ ow
  | [], i, σ, ow, _, hi, he, _ => he σ ow hi
  | x :: xs, i, σ, ow, ht, hi, he, hk => by
    obtain ⟨σ', ha, hs⟩ := ht 0 x rfl σ ow hi
    refine ⟨σ', ha, hs _ (fun σ₂ ow₂ h => ?_) (fun σ₂ ow₂ h => hk _ σ₂ ow₂ h)⟩
    refine Lp_inv xs (i + 1) σ₂ ow₂ (fun k y hy σ ow hI => ?_) h (fun σ ow hI => he σ ow ?_) hk
    · have := ht (k + 1) y (by simpa using hy) σ ow (by rw [show i + (k + 1) = i + 1 + k by omega]; exact hI)
      rw [show i + (k + 1) = i + 1 + k by omega] at this
      exact this
    · rw [List.length_cons, show i + (xs.length + 1) = i + 1 + xs.length by omega]; exact hI
/-! the cells -/
def cN (ns : List Int) (k : Nat) : Nat := (cellL ns k).toNat
theorem pickI_sum (lo hi st : Option Int) (ns : List Int) : 0 ≤ ((pickI lo hi st ns).map fun x => x.fmod 1000000).sum ∧ ((pickI lo hi st ns).map fun x => x.fmod 1000000).sum ≤ 999999 * (pickI lo hi st ns).length := by
  generalize pickI lo hi st ns = l
  induction l with
  | nil => exact ⟨Int.le_refl _, Int.le_refl _⟩
  | cons x l ih =>
    rw [List.map_cons, List.sum_cons, List.length_cons]
    have h1 := Int.fmod_nonneg_of_pos x (b := 1000000) (by decide)
    have h2 := Int.fmod_lt_of_pos x (b := 1000000) (by decide)
    omega
theorem cell_nat {ns : List Int} (hz : ns.length ≤ 63) {k : Nat} (hk : k < 6) : cellL ns k = (cN ns k : Int) ∧ cN ns k < 2 ^ 26 := by
  have h := pickI_sum (some (k : Int)) none (some 6) ns
  have hl := pickI_length (some (k : Int)) none (some 6) ns
  have hf : ∀ k, k < 6 → 0 ≤ firsts.getD k 0 ∧ firsts.getD k 0 ≤ 473261 := by decide
  have := hf k hk
  unfold cN cellL
  omega
def cellsN (ns : List Int) : List Nat := (List.range 6).map (cN ns)
theorem cells_nats {ns : List Int} (hz : ns.length ≤ 63) : ((List.range 6).map fun k => PV.int (cellL ns k)) = (cellsN ns).map fun (n : Nat) => .int (n : Int) := by
  unfold cellsN
  rw [List.map_map]
  exact List.map_congr_left fun k hk => by
    rw [(cell_nat hz (List.mem_range.mp hk)).1]; rfl
def wordL (n : Nat) : List Nat := (signN (n % 1000)).2 ++ (signN (n / 1000 % 1000)).2
theorem wordL_len (n : Nat) : (wordL n).length ≤ 6 := by
  have h1 := (sign_ok (n % 1000)).len
  have h2 := (sign_ok (n / 1000 % 1000)).len
  unfold wordL
  rw [List.length_append]; omega
theorem wordL_ends (n : Nat) : 10 ∉ wordL n ∧ 13 ∉ wordL n := by
  have h1 := (sign_ok (n % 1000)).ends
  have h2 := (sign_ok (n / 1000 % 1000)).ends
  unfold wordL
  rw [List.mem_append, List.mem_append]
  exact ⟨fun h => h.elim h1.1 h2.1, fun h => h.elim h1.2 h2.2⟩
end Mine
end

section
open PySem PySem.W PyProof.Rows PySem.Calls
set_option Elab.async false
set_option linter.unusedVariables false
set_option maxRecDepth 100000
namespace Mine
local macro_rules | `(tactic| walk_at "look") => `(tactic| first | with_reducible exact upd_self _ _ _ | (refine (upd_ne (by decide +kernel)).trans ?_; walk_at "look") | (refine cap_of (by kernel_rfl) ?_; walk_at "look") | assumption)
local macro_rules | `(tactic| walk_at "name") => `(tactic| (with_reducible apply Ev_name (by assumption); walk_at "look"; decide +kernel; decide +kernel))
local macro_rules | `(tactic| walk_at "bi") => `(tactic| first | with_reducible exact Bi_addN | (with_reducible apply Bi_subN; omega) | (with_reducible apply Bi_modN; omega) | (with_reducible apply Bi_divN; omega; omega; omega) | with_reducible exact Bi_add | with_reducible exact Bi_sub)
local macro_rules | `(tactic| walk_at "co") => `(tactic| first | with_reducible exact Co_eqN | with_reducible exact Co_ltN | with_reducible exact Co_gtN)
local macro_rules | `(tactic| walk_at "ev") => `(tactic| first | with_reducible exact Ev_nat | with_reducible exact Ev_true | with_reducible exact Ev_none | with_reducible exact Ev_str | walk_at "name" | (with_reducible apply Ev_neg; walk_at "ev") | (with_reducible apply Ev_binop; walk_at "ev"; walk_at "ev"; walk_at "bi") | (with_reducible apply @Ev_compare; assumption; walk_at "ev"; walk_at "ev"; walk_at "co"; with_unfolding_all exact rfl))
local macro_rules | `(tactic| walk_at "evs") => `(tactic| first | with_reducible exact Evs_nil | (with_reducible apply @Evs_cons; walk_at "ev"; walk_at "evs"; with_unfolding_all exact rfl))
local macro_rules | `(tactic| walk_at "kind") => `(tactic| (refine kind_of (by assumption) ?_; kernel_rfl))
def forBody : Stmt → List Stmt
  | .For _ _ b _ _ => b
  | _ => []
@[irreducible] def wordsBody : List Stmt := forBody (dLaw.body.getD 4 (.Break default))
@[irreducible] def partBody : List Stmt := forBody (wordsBody.getD 1 (.Break default))
@[irreducible] def sendBody : List Stmt := forBody (dLaw.body.getD 10 (.Break default))
/-- what the walk keeps through the words -/
structure Lw (ns : List Int) (σ : Vars) : Prop where
  cells : σ "cells" = some (natsV (cellsN ns))
  names : σ "names" = some (.list (names2.map .strX))
  shift : σ "shift" = some (.int ((cN ns 5 % 100 % 29 : Nat) : Int))
theorem Lw.upd {ns : List Int} {σ : Vars} (h : Lw ns σ) {n : Str} {p : PV} (h1 : ("cells" == n) = false) (h2 : ("names" == n) = false) (h3 : ("shift" == n) = false) : Lw ns (upd σ n p) :=
  ⟨(upd_ne h1).trans h.cells, (upd_ne h2).trans h.names, (upd_ne h3).trans h.shift⟩
def wordsL (ns : List Int) : List (List Nat) := (List.range 4).map fun k => wordL (cN ns k)
/-- what a statement's stores leave alone -/
def Same (ns : List Str) (σ σ' : Vars) : Prop := ∀ y : Str, ns.contains y = false → σ' y = σ y
theorem Same.refl {ns : List Str} {σ : Vars} : Same ns σ σ := fun _ _ => rfl
theorem Same.upd {ns : List Str} {σ σ' : Vars} (h : Same ns σ σ') {n : Str} {p : PV} (hn : ns.contains n = true) : Same ns σ (upd σ' n p) := fun y hy => by
  have : (y == n) = false := by
    rw [beq_eq_false_iff_ne]; rintro rfl; rw [hn] at hy; cases hy
  rw [upd_ne this]; exact h y hy
theorem Same.trans {ns : List Str} {σ σ' σ'' : Vars} (h : Same ns σ σ') (h' : Same ns σ' σ'') : Same ns σ σ'' := fun y hy => (h' y hy).trans (h y hy)
theorem Lw.same {xs : List Int} {ns : List Str} {σ σ' : Vars} (h : Lw xs σ) (s : Same ns σ σ') (h1 : ns.contains "cells" = false) (h2 : ns.contains "names" = false) (h3 : ns.contains "shift" = false) : Lw xs σ' :=
  ⟨(s _ h1).trans h.cells, (s _ h2).trans h.names, (s _ h3).trans h.shift⟩
def partNames : List Str := ["sign", "due", "unseen", "letters", "word", "part"]
section
variable {B : Bk} {C : Cx}
set_option maxHeartbeats 4000000 in
/-- one sign of a word -/
theorem part_turn (hD : B.Data) (hC : C.Ok B) (hO : C.Owns) (hsc : C.env.scope = dLaw.scope) {k : Nat} (hk : k < 890) (hR : Rm C.A k) {σ : Vars} {ow : Own} {u : List Nat} {m : Nat} {body : List Stmt} {P : Out → Prop}
    (hb : body = partBody) (hm : m < 1000) (hu : u.length ≤ 100) (hw : σ "word" = some (.str u)) (hp : σ "part" = some (.int (m : Int)))
    (hP : ∀ σ₂, Same partNames σ σ₂ → σ₂ "word" = some (.str (u ++ (signN m).2)) → P (.next σ₂ ow)) : Ss B C σ ow body P := by
  have hA := hD.all
  have hs := sign_ok m
  rw [hb]
  conv => arg 5; unfold partBody wordsBody dLaw; whnf
  show Ss B C σ ow (_ :: _) P
  refine Ss_cons ?_
  have hF := F_sign hA (k := k) (by omega) hm
  generalize signN m = sd at hs hP hF
  obtain ⟨c, due⟩ := sd
  refine S1_assign_pair (p := .str [c]) (q := .str due) hC hO (Ev_call hC hF (by walk_at "kind") (by decide +kernel) hR (Evs_cons (Ev_name hC hp (by decide +kernel) (by decide +kernel)) Evs_nil)) (Bound.sc hO hsc (by kernel_rfl)) (Bound.sc hO hsc (by kernel_rfl)) ?_
  refine Ss_cons ?_
  refine S1_assign (pv := .bool (due == [])) hC hO ?e2 (Bound.sc hO hsc (by kernel_rfl)) ?l2 (by rfl)
  case e2 =>
    have hI := F_inB1 hD (k := k) (by omega) (c := c)
    rw [hs.seen] at hI
    refine Ev_call hC hI (by walk_at "kind") (by decide +kernel) hR (Evs_cons ?_ Evs_nil)
    walk_at "ev"
  refine Ss_cons ?_
  refine S1_if (b := false) ?e3 (fun h => nomatch h) fun _ => Ss_nil ?_
  case e3 =>
    refine Tr_compare hC (p := .bool (due == [])) (q := .bool (due == [])) ?_ ?_ ?_
    · walk_at "ev"
    · refine Ev_compare hC (p := .str due) (q := .str []) ?_ (Ev_lit (by kernel_rfl)) Co_eq_str
      walk_at "ev"
    · have := Co_isnot_bool (B := B) (a := (due == [])) (b := (due == []))
      simp only [bne_self_eq_false] at this
      exact this
  refine Ss_cons ?_
  refine S1_assign (pv := .str due) hC hO ?e4 (Bound.sc hO hsc (by kernel_rfl)) ?l4 (by rfl)
  case e4 =>
    refine Ev_ifexp (b := (due == [])) (Tr_plain (p := .bool (due == [])) ?_ Th_bool) (fun h => ?_) fun h => ?_
    · walk_at "ev"
    · rw [beq_iff_eq] at h
      subst h
      exact Ev_lit (by kernel_rfl)
    · have hM := F_mapB3 hD (k := k) (by omega) (c := c) hs.fit
      rw [beq_eq_false_iff_ne] at h
      rw [hs.told h] at hM
      refine Ev_call hC hM (by walk_at "kind") (by decide +kernel) hR (Evs_cons ?_ Evs_nil)
      walk_at "ev"
  refine Ss_cons ?_
  refine S1_if (b := false) ?e5 (fun h => nomatch h) fun _ => Ss_nil ?_
  case e5 =>
    refine Tr_compare hC (p := .str due) (q := .str due) ?_ ?_ ?_
    · walk_at "ev"
    · walk_at "ev"
    · have := Co_ne_str (B := B) (x := due) (y := due)
      simp only [bne_self_eq_false] at this
      exact this
  refine Ss_cons ?_
  have hlen : due.length ≤ 3 := hs.len
  have hzz : u.length + due.length ≤ sizeLine := Nat.le_trans (show _ ≤ 103 by omega) (by decide)
  refine S1_assign (pv := .str (u ++ due)) hC hO ?e6 (Bound.sc hO hsc (by kernel_rfl)) ?l6 (by rfl)
  case e6 =>
    refine Ev_call hC (F_concat hA (k := k) (by omega) hzz) (by walk_at "kind") (by decide +kernel) hR (Evs_cons ?_ (Evs_cons ?_ Evs_nil))
    · walk_at "ev"
    · walk_at "ev"
  refine Ss_nil (hP _ ?_ (upd_self _ _ _))
  exact ((((Same.refl.upd (by decide +kernel)).upd (by decide +kernel)).upd (by decide +kernel)).upd (by decide +kernel)).upd (by decide +kernel)
def wordNames : List Str := ["sign", "due", "unseen", "letters", "word", "part", "n"]
theorem Same.wide {ns ms : List Str} {σ σ' : Vars} (h : Same ns σ σ') (hs : ∀ y, ms.contains y = false → ns.contains y = false) : Same ms σ σ' := fun y hy => h y (hs y hy)
theorem part_word (y : Str) (h : wordNames.contains y = false) : partNames.contains y = false := by
  unfold wordNames partNames at *
  simp only [List.contains_cons, Bool.or_eq_false_iff, List.contains_nil] at *
  exact ⟨h.1, h.2.1, h.2.2.1, h.2.2.2.1, h.2.2.2.2.1, h.2.2.2.2.2.1, trivial⟩
set_option maxHeartbeats 4000000 in
/-- one word -/
theorem word_turn (hD : B.Data) (hC : C.Ok B) (hO : C.Owns) (hsc : C.env.scope = dLaw.scope) {k : Nat} (hk : k < 890) (hR : Rm C.A k) {σ : Vars} {x : Addr} {xs : List PV} {n : Nat} {body : List Stmt} {P : Out → Prop}
    (hb : body = wordsBody) (hn : n < 2 ^ 26) (hx : σ "words" = some (.raw (.ref x))) (hz : xs.length ≤ 100) (hv : σ "n" = some (.int (n : Int)))
    (hP : ∀ σ₂, Same wordNames σ σ₂ → P (.next σ₂ (some (x, xs ++ [.str (wordL n)])))) : Ss B C σ (some (x, xs)) body P := by
  have hA := hD.all
  rw [hb]
  conv => arg 5; unfold wordsBody dLaw; whnf
  show Ss B C σ (some (x, xs)) (_ :: _) P
  refine Ss_cons ?_
  refine S1_assign (pv := .str []) hC hO (Ev_lit (by kernel_rfl)) (Bound.sc hO hsc (by kernel_rfl)) ?_ (by rfl)
  refine Ss_cons ?_
  refine S1_for (xs := [.int ((n % 1000 : Nat) : Int), .int ((n / 1000 % 1000 : Nat) : Int)]) hC (It_list hC .name (by show 2 ≤ sizeLine; decide) (Ev_list (Evs_cons ?e1 (Evs_cons ?e2 Evs_nil)) (by show 2 ≤ sizeLine; decide))) ?loop
  case e1 => walk_at "ev"
  case e2 =>
    refine Ev_binop (p := .int ((n / 1000 : Nat) : Int)) (q := .int ((1000 : Nat) : Int)) (Ev_binop (p := .int (n : Int)) (q := .int ((1000 : Nat) : Int)) ?_ Ev_nat ?_) Ev_nat (Bi_modN (by decide))
    · walk_at "ev"
    · rw [← fdiv_nat]; exact Bi_div (by decide) (PyProof.noPylong_small (by decide))
  case loop =>
    refine ⟨_, Asg_name hC hO.loc (Bound.sc hO hsc (by kernel_rfl)), ?_⟩
    refine part_turn hD hC hO hsc hk hR (by kernel_rfl) (u := []) (m := n % 1000) (Nat.mod_lt _ (by decide)) (by decide) (by walk_at "look") (by walk_at "look") fun σ₁ s₁ w₁ => ?_
    refine ⟨_, Asg_name hC hO.loc (Bound.sc hO hsc (by kernel_rfl)), ?_⟩
    have hl1 := (sign_ok (n % 1000)).len
    refine part_turn hD hC hO hsc hk hR (by kernel_rfl) (u := [] ++ (signN (n % 1000)).2) (m := n / 1000 % 1000) (Nat.mod_lt _ (by decide)) (by rw [List.nil_append]; omega) ((upd_ne (by decide +kernel)).trans w₁) (by walk_at "look") fun σ₂ s₂ w₂ => ?_
    have S : Same wordNames σ σ₂ := ((((Same.refl.upd (by decide +kernel)).upd (by decide +kernel)).trans (s₁.wide part_word)).upd (by decide +kernel)).trans (s₂.wide part_word)
    refine Ss_nil ?_
    refine Ss_cons ?_
    refine S1_append hC (y := .str (wordL n)) ((S "words" (by decide +kernel)).trans hx) (by decide +kernel) (by decide +kernel) (Ev_name hC w₂ (by decide +kernel) (by decide +kernel)) (Nat.le_trans hz (by decide)) ?_
    exact Ss_nil (hP _ S)
end
end Mine
end

section
open PySem PySem.W PyProof.Rows PySem.Calls
set_option Elab.async false
set_option linter.unusedVariables false
set_option maxRecDepth 100000
namespace Mine
/-- the words told of a choice -/
def toldW (M sh : Nat) : List (List Nat) := if M = 0 then [hexL 0] else (bitsOf M).map fun i => wordN (sh + i)
theorem toldW_eq {M sh : Nat} (hM : M < 16) (hs : sh ≤ 28) : pfN 32 0 (M * 2 ^ sh) = toldW M sh := by
  unfold toldW
  by_cases h : M = 0
  · rw [if_pos h, h, Nat.zero_mul, words_zero]
  · rw [if_neg h, words_low hM h hs]
theorem bits_len : ∀ M, M < 16 → (bitsOf M).length ≤ 4 := by decide +kernel
theorem bits_ne : ∀ M, M < 16 → M ≠ 0 → bitsOf M ≠ [] := by decide +kernel
theorem sum_le {α : Type} {f : α → Nat} {c : Nat} : ∀ (l : List α), (∀ x ∈ l, f x ≤ c) → (l.map f).sum ≤ c * l.length
  | [], _ => Nat.zero_le _
  | x :: l, h => by
    rw [List.map_cons, List.sum_cons, List.length_cons]
    have := h x List.mem_cons_self
    have := sum_le l fun y hy => h y (List.mem_cons_of_mem _ hy)
    rw [Nat.mul_add]; omega
theorem toldW_small {M sh : Nat} (hM : M < 16) (hs : sh ≤ 28) : (∀ x ∈ toldW M sh, x.length ≤ 20) ∧ (toldW M sh).length ≤ 4 := by
  unfold toldW
  by_cases h : M = 0
  · rw [if_pos h, hex0]; exact ⟨by decide, by decide⟩
  · rw [if_neg h]
    refine ⟨fun x hx => ?_, by rw [List.length_map]; exact bits_len M hM⟩
    rw [List.mem_map] at hx
    obtain ⟨i, hi, rfl⟩ := hx
    have := (bits_sorted M hM).2 i hi
    exact (name_facts (sh + i) (by omega)).2.2.2.2
theorem joinL_le (sep : List Nat) : ∀ l : List (List Nat), (joinL sep l).length ≤ (l.map fun s => s.length + sep.length).sum
  | [] => Nat.zero_le _
  | [x] => by show x.length ≤ x.length + sep.length + 0; omega
  | x :: y :: r => by
    have := joinL_le sep (y :: r)
    rw [joinL, List.length_append, List.length_append, List.map_cons, List.sum_cons]; omega
theorem told_pos {M sh : Nat} (hM : M < 16) (h0 : M ≠ 0) (hs : sh ≤ 28) : 5 ≤ (joinL [44, 32] (toldW M sh)).length := by
  unfold toldW
  rw [if_neg h0]
  match hb : bitsOf M, bits_ne M hM h0 with
  | i :: r, _ =>
    have hi := (bits_sorted M hM).2 i (by rw [hb]; exact List.mem_cons_self)
    have h5 := (name_facts (sh + i) (by omega)).2.2.2.1
    rw [List.map_cons]
    cases r with
    | nil => exact h5
    | cons a r => rw [List.map_cons, joinL, List.length_append, List.length_append]; omega
theorem told_zero {M sh : Nat} (hM : M < 16) (hs : sh ≤ 28) : (joinL [44, 32] (toldW M sh) == [48, 120, 48]) = decide (M = 0) := by
  by_cases h : M = 0
  · have : joinL [44, 32] (toldW M sh) = [48, 120, 48] := by
      unfold toldW; rw [if_pos h, hex0]; rfl
    rw [this]; simp [h]
  · have h5 := told_pos hM h hs
    have : joinL [44, 32] (toldW M sh) ≠ [48, 120, 48] := fun e => by rw [e] at h5; exact absurd h5 (by decide)
    rw [decide_eq_false h, beq_eq_false_iff_ne]; exact this
theorem told_split {M sh : Nat} (hM : M < 16) (h0 : M ≠ 0) (hs : sh ≤ 28) : (Txt.split ⟨(joinL [44, 32] (toldW M sh)).toArray⟩ ⟨[44, 32].toArray⟩).map (fun s => s.cps.toList) = (bitsOf M).map fun i => wordN (sh + i) := by
  unfold toldW
  rw [if_neg h0]
  match hb : bitsOf M, bits_ne M hM h0 with
  | i :: r, _ =>
    refine split_join (by decide) (p := wordN (sh + i)) (ps := r.map fun i => wordN (sh + i)) fun q hq => ?_
    have hq' : q ∈ (i :: r).map fun i => wordN (sh + i) := hq
    rw [List.mem_map] at hq'
    obtain ⟨a, ha, rfl⟩ := hq'
    have hi := (bits_sorted M hM).2 a (by rw [hb]; exact ha)
    have := (name_facts (sh + a) (by omega)).2.2.1
    exact fun h => by rw [List.contains_iff_mem.mpr h] at this; cases this
theorem and_all {M sh : Nat} (hM : M < 16) : Builtin.bitAnd ((M * 2 ^ sh : Nat) : Int) ((15 * 2 ^ sh : Nat) : Int) = ((M * 2 ^ sh : Nat) : Int) := by
  rw [bitAnd_pp (Int.natCast_nonneg _) (Int.natCast_nonneg _), Int.toNat_natCast, Int.toNat_natCast]
  congr 1
  rw [← Nat.shiftLeft_eq, ← Nat.shiftLeft_eq, ← Nat.shiftLeft_and_distrib]
  have : ∀ M, M < 16 → M &&& 15 = M := by decide +kernel
  rw [this M hM]
theorem mask_big {M sh : Nat} (hM : M < 16) (hs : sh ≤ 28) : M * 2 ^ sh < 2 ^ 32 := by
  have h1 : 2 ^ sh ≤ 2 ^ 28 := Nat.pow_le_pow_right (by decide) hs
  have h2 : M * 2 ^ sh ≤ 15 * 2 ^ 28 := Nat.mul_le_mul (by omega) h1
  omega
theorem high_big {j : Nat} (hj : j < 5) : 3 * 2 ^ (32 + j) ≤ 3 * 2 ^ 36 := Nat.mul_le_mul_left _ (Nat.pow_le_pow_right (by decide) (by omega))
end Mine
end

section
open PySem PySem.W PyProof.Rows PySem.Calls
set_option Elab.async false
set_option linter.unusedVariables false
set_option maxRecDepth 100000
namespace Mine
local macro_rules | `(tactic| walk_at "look") => `(tactic| first | with_reducible exact upd_self _ _ _ | (refine (upd_ne (by decide +kernel)).trans ?_; walk_at "look") | (refine cap_of (by kernel_rfl) ?_; walk_at "look") | assumption)
local macro_rules | `(tactic| walk_at "name") => `(tactic| (with_reducible apply Ev_name (by assumption); walk_at "look"; decide +kernel; decide +kernel))
local macro_rules | `(tactic| walk_at "bi") => `(tactic| first | with_reducible exact Bi_addN | (with_reducible apply Bi_subN; omega) | (with_reducible apply Bi_modN; omega) | (with_reducible apply Bi_divN; omega; omega; omega) | with_reducible exact Bi_add | with_reducible exact Bi_sub)
local macro_rules | `(tactic| walk_at "co") => `(tactic| first | with_reducible exact Co_eqN | with_reducible exact Co_ltN | with_reducible exact Co_gtN)
local macro_rules | `(tactic| walk_at "ev") => `(tactic| first | with_reducible exact Ev_nat | with_reducible exact Ev_true | with_reducible exact Ev_none | with_reducible exact Ev_str | walk_at "name" | (with_reducible apply Ev_neg; walk_at "ev") | (with_reducible apply Ev_binop; walk_at "ev"; walk_at "ev"; walk_at "bi") | (with_reducible apply @Ev_compare; assumption; walk_at "ev"; walk_at "ev"; walk_at "co"; with_unfolding_all exact rfl))
local macro_rules | `(tactic| walk_at "evs") => `(tactic| first | with_reducible exact Evs_nil | (with_reducible apply @Evs_cons; walk_at "ev"; walk_at "evs"; with_unfolding_all exact rfl))
local macro_rules | `(tactic| walk_at "kind") => `(tactic| (refine kind_of (by assumption) ?_; kernel_rfl))
def wishesL (ns : List Int) : List Nat := (List.range 5).map fun j => cN ns 4 / 10 ^ j % 10 % 5
def roomsL (ns : List Int) : List Nat := (wordsL ns).map fun w => w.length
/-- what the walk keeps through the sendings -/
structure Ld (ns : List Int) (left : List Nat) (rows : List (List Nat)) (met : Bool) (σ : Vars) : Prop where
  base : Lw ns σ
  words : σ "words" = some (.list ((wordsL ns).map .str))
  rooms : σ "rooms" = some (natsV (roomsL ns))
  wishes : σ "wishes" = some (natsV (wishesL ns))
  left : σ "left" = some (natsV left)
  rows : σ "rows" = some (.list (rows.map .str))
  met : σ "met" = some (.bool met)
theorem Ld.upd {ns : List Int} {left : List Nat} {rows : List (List Nat)} {met : Bool} {σ : Vars} (h : Ld ns left rows met σ) {n : Str} {p : PV} (hn : (["cells", "names", "shift", "words", "rooms", "wishes", "left", "rows", "met"] : List Str).contains n = false) : Ld ns left rows met (upd σ n p) := by
  have hx : ∀ m : Str, (["cells", "names", "shift", "words", "rooms", "wishes", "left", "rows", "met"] : List Str).contains m = true → (m == n) = false := fun m hm => by
    rw [beq_eq_false_iff_ne]; rintro rfl; rw [hm] at hn; cases hn
  exact ⟨h.base.upd (hx _ (by decide +kernel)) (hx _ (by decide +kernel)) (hx _ (by decide +kernel)), (upd_ne (hx _ (by decide +kernel))).trans h.words, (upd_ne (hx _ (by decide +kernel))).trans h.rooms, (upd_ne (hx _ (by decide +kernel))).trans h.wishes, (upd_ne (hx _ (by decide +kernel))).trans h.left, (upd_ne (hx _ (by decide +kernel))).trans h.rows, (upd_ne (hx _ (by decide +kernel))).trans h.met⟩
theorem natsV_get {ls : List Nat} {i : Nat} (h : i < ls.length) : (ls.map fun (n : Nat) => PV.int (n : Int))[((i : Nat) : Int).toNat]? = some (.int ((ls.getD i 0 : Nat) : Int)) := by
  rw [Int.toNat_natCast]; simp [List.getD, h]
theorem strs_get {ss : List (List Nat)} {i : Nat} (h : i < ss.length) : (ss.map PV.str)[((i : Nat) : Int).toNat]? = some (.str (ss.getD i [])) := by
  rw [Int.toNat_natCast]; simp [List.getD, h]
section
variable {B : Bk} {C : Cx}
set_option maxHeartbeats 8000000 in
/-- one sending -/
theorem send_turn (hD : B.Data) (hC : C.Ok B) (hO : C.Owns) (hcel : C.Cel) (hsc : C.env.scope = dLaw.scope) {k : Nat} (hk : k < 880) (hR : Rm C.A k) {ns : List Int} (hz : ns.length ≤ 63) {σ : Vars} {left : List Nat} {rows : List (List Nat)} {j : Nat} {body : List Stmt} {P : Out → Prop}
    (hb : body = sendBody) (hj : j < 5) (hl : Ld ns left rows true σ) (hv : σ "j" = some (.int (j : Int))) (hlen : left.length = 4) (hlt : ∀ n ∈ left, n < 7) (hrows : RowsOk rows) (hsz : ∀ i, (rows.getD i []).length ≤ 399)
    (hbrk : posN left < (wishesL ns).getD j 0 → ∀ σ₂, Ld ns left rows false σ₂ → P (.brk σ₂ none))
    (hnext : (wishesL ns).getD j 0 ≤ posN left → ∀ σ₂, Ld ns (nextL left ((wishesL ns).getD j 0)) (nextR rows (bareN left ((wishesL ns).getD j 0))) true σ₂ → P (.next σ₂ none)) : Ss B C σ none body P := by
  have hA := hD.all
  rw [hb]
  conv => arg 5; unfold sendBody dLaw; whnf
  show Ss B C σ none (_ :: _) P
  have hsh : cN ns 5 % 100 % 29 ≤ 28 := by omega
  generalize hshe : cN ns 5 % 100 % 29 = sh at hsh
  have hwj : (wishesL ns).getD j 0 ≤ 4 := by
    have : (wishesL ns).getD j 0 = cN ns 4 / 10 ^ j % 10 % 5 := by unfold wishesL; simp [List.getD, hj]
    rw [this]; omega
  have hwl : (wishesL ns).length = 5 := by simp [wishesL]
  have wishEv : ∀ {σ : Vars} {ow : Own} {p1 p2 p3 : Pos}, σ "wishes" = some (natsV (wishesL ns)) → σ "j" = some (.int (j : Int)) → Ev B C σ ow (.Subscript (.Name "wishes" p1) (.Name "j" p2) p3) (.int (((wishesL ns).getD j 0 : Nat) : Int)) := fun h1 h2 =>
    Ev_item (xs := (wishesL ns).map fun (n : Nat) => .int (n : Int)) (k := (j : Int)) (Ev_name hC h1 (by decide +kernel) (by decide +kernel)) (Ev_name hC h2 (by decide +kernel) (by decide +kernel)) (by omega) (natsV_get (by omega))
  generalize hw : (wishesL ns).getD j 0 = w at hwj hbrk hnext wishEv
  have P4 := picks hlen hlt
  have four : ∀ {σ : Vars} {ow : Own} {p1 p2 p3 p4 : Pos} {kk : Nat}, It B C σ ow (.Name "i" p1) (.Call (.Name "range" p2) [.Constant (.int 4) kk p3] [] p4) ((List.range 4).map fun (i : Nat) => PV.int i) := by
    intro σ ow p1 p2 p3 p4 kk
    rw [← rangeV_nat 4]
    exact It_range1 hC (by decide) (by decide) (by walk_at "kind") (hA.free _ (by decide +kernel)) (by rw [hA.bt _ (by decide +kernel)]; decide +kernel) (by decide +kernel) Ev_int
  have hch := chosen_eq (sh := sh) P4 hwj
  have hF := F_chosen hA (k := k) (by omega) (w := w) (sh := sh) hlen (by omega) (by omega)
  rw [hch] at hF
  have hshift : σ "shift" = some (.int (sh : Int)) := by rw [← hshe]; exact hl.base.shift
  have hleft := hl.left
  have hwish := hl.wishes
  refine Ss_cons ?_
  by_cases hpos : w ≤ posN left
  case neg =>
    rw [if_neg hpos] at hF
    refine S1_assign (pv := .int (-1)) hC hO ?e1 (Bound.sc hO hsc (by kernel_rfl)) ?_ (by rfl)
    case e1 =>
      refine Ev_call hC hF (by walk_at "kind") (by decide +kernel) hR (Evs_cons ?_ (Evs_cons (wishEv hwish hv) (Evs_cons ?_ Evs_nil)))
      · exact Ev_name hC hleft (by decide +kernel) (by decide +kernel)
      · exact Ev_name hC hshift (by decide +kernel) (by decide +kernel)
    refine Ss_cons (S1_if (b := true) (Tr_compare hC (p := .int (-1)) (q := .int ((0 : Nat) : Int)) (Ev_name hC (upd_self _ _ _) (by decide +kernel) (by decide +kernel)) Ev_nat (Co_lt (a := -1) (b := ((0 : Nat) : Int)))) (fun _ => ?_) fun h => nomatch h)
    refine Ss_cons (S1_assign (pv := .bool false) hC hO Ev_true (Bound.sc hO hsc (by kernel_rfl)) ?_ (by rfl))
    refine Ss_cons (S1_break (hbrk (by omega) _ ?_))
    have h1 := hl.upd (n := "flags") (p := .int (-1)) (by decide +kernel)
    exact ⟨h1.base.upd (by decide +kernel) (by decide +kernel) (by decide +kernel), (upd_ne (by decide +kernel)).trans h1.words, (upd_ne (by decide +kernel)).trans h1.rooms, (upd_ne (by decide +kernel)).trans h1.wishes, (upd_ne (by decide +kernel)).trans h1.left, (upd_ne (by decide +kernel)).trans h1.rows, upd_self _ _ _⟩
  case pos =>
  rw [if_pos hpos] at hF
  have hM := mask_lt P4 hwj
  have hbare : bareN left w = bitsOf (maskOf (takenN left w)) := rfl
  have hperm := bare_perm P4 hwj
  generalize maskOf (takenN left w) = M at hM hF hbare
  have hm32 := mask_big hM hsh
  have hsmall := toldW_small hM hsh
  have hbl := bits_sorted M hM
  refine S1_assign (pv := .int ((M * 2 ^ sh : Nat) : Int)) hC hO ?e2 (Bound.sc hO hsc (by kernel_rfl)) ?_ (by rfl)
  case e2 =>
    refine Ev_call hC hF (by walk_at "kind") (by decide +kernel) hR (Evs_cons ?_ (Evs_cons (wishEv hwish hv) (Evs_cons ?_ Evs_nil)))
    · exact Ev_name hC hleft (by decide +kernel) (by decide +kernel)
    · exact Ev_name hC hshift (by decide +kernel) (by decide +kernel)
  refine Ss_cons (S1_if (b := false) (Tr_compare hC (p := .int ((M * 2 ^ sh : Nat) : Int)) (q := .int ((0 : Nat) : Int)) (Ev_name hC (upd_self _ _ _) (by decide +kernel) (by decide +kernel)) Ev_nat ?_) (fun h => nomatch h) fun _ => Ss_nil ?_)
  · have := Co_ltN (B := B) (a := M * 2 ^ sh) (b := 0)
    rw [show decide (M * 2 ^ sh < 0) = false by simp] at this
    exact this
  have hl1 := hl.upd (n := "flags") (p := .int ((M * 2 ^ sh : Nat) : Int)) (by decide +kernel)
  have hv1 : upd σ "flags" (.int ((M * 2 ^ sh : Nat) : Int)) "j" = some (.int (j : Int)) := (upd_ne (by decide +kernel)).trans hv
  have hf1 : upd σ "flags" (.int ((M * 2 ^ sh : Nat) : Int)) "flags" = some (.int ((M * 2 ^ sh : Nat) : Int)) := upd_self _ _ _
  generalize upd σ "flags" (.int ((M * 2 ^ sh : Nat) : Int)) = σ1 at hl1 hv1 hf1 ⊢
  have hpf := toldW_eq hM hsh
  have hsum : ((toldW M sh).map fun s => s.length + 2).sum ≤ 100 := by
    refine Nat.le_trans (sum_le (c := 22) _ fun x hx => by have := hsmall.1 x hx; omega) ?_
    have := hsmall.2; omega
  have hjl : (joinL [44, 32] (toldW M sh)).length ≤ 100 := Nat.le_trans (joinL_le _ _) hsum
  have big : ∀ {n : Nat}, n ≤ 10000 → n ≤ sizeLine := fun h => Nat.le_trans h (by decide)
  refine Ss_cons ?_
  refine S1_assign (pv := .str (joinL [44, 32] (toldW M sh))) hC hO ?e3 (Bound.sc hO hsc (by kernel_rfl)) ?_ (by rfl)
  case e3 =>
    have hFl := F_flags hD (k := k) (by omega) (m := M * 2 ^ sh) (by omega) (by rw [hpf]; exact big (by omega)) (by rw [hpf]; have := hsmall.2; omega)
    unfold prettyL at hFl
    rw [hpf] at hFl
    exact Ev_call hC hFl (by walk_at "kind") (by decide +kernel) hR (Evs_cons (Ev_name hC hf1 (by decide +kernel) (by decide +kernel)) Evs_nil)
  have hl2 := hl1.upd (n := "told") (p := .str (joinL [44, 32] (toldW M sh))) (by decide +kernel)
  have hv2 : upd σ1 "told" (.str (joinL [44, 32] (toldW M sh))) "j" = some (.int (j : Int)) := (upd_ne (by decide +kernel)).trans hv1
  have hf2 : upd σ1 "told" (.str (joinL [44, 32] (toldW M sh))) "flags" = some (.int ((M * 2 ^ sh : Nat) : Int)) := (upd_ne (by decide +kernel)).trans hf1
  have ht2 : upd σ1 "told" (.str (joinL [44, 32] (toldW M sh))) "told" = some (.str (joinL [44, 32] (toldW M sh))) := upd_self _ _ _
  generalize upd σ1 "told" (.str (joinL [44, 32] (toldW M sh))) = σ2 at hl2 hv2 hf2 ht2 ⊢
  have hsh2 : σ2 "shift" = some (.int (sh : Int)) := by rw [← hshe]; exact hl2.base.shift
  have hnm2 := hl2.base.names
  refine Ss_cons ?_
  refine S1_assign (pv := natsV (bitsOf M)) hC hO ?e4 (Bound.sc hO hsc (by kernel_rfl)) ?_ (by rfl)
  case e4 =>
    have ht := told_zero hM hsh
    refine Ev_ifexp (b := decide (M = 0)) (Tr_compare hC (p := .str (joinL [44, 32] (toldW M sh))) (q := .str [48, 120, 48]) (Ev_name hC ht2 (by decide +kernel) (by decide +kernel)) (Ev_lit (by kernel_rfl)) ?_) (fun h => ?_) fun h => ?_
    · rw [← ht]; exact Co_eq_str
    · rw [decide_eq_true_iff] at h
      rw [h]
      exact Ev_list Evs_nil
    · rw [decide_eq_false_iff_not] at h
      have hsp := told_split hM h hsh
      have hsl : (Txt.split ⟨(joinL [44, 32] (toldW M sh)).toArray⟩ ⟨[44, 32].toArray⟩).length ≤ 4 := by
        have := congrArg List.length hsp
        rw [List.length_map, List.length_map] at this
        rw [this]; exact bits_len M hM
      unfold natsV
      refine Ev_comp hC hcel (xs := (bitsOf M).map fun i => .str (wordN (sh + i))) (It_list hC .name (by rw [List.length_map]; exact big (by have := bits_len M hM; omega)) ?_) ?_ (by rw [hsc]; kernel_rfl)
      · have hspl : (bitsOf M).map (fun i => PV.str (wordN (sh + i))) = (Txt.split ⟨(joinL [44, 32] (toldW M sh)).toArray⟩ ⟨[44, 32].toArray⟩).map fun s => .str s.cps.toList := by
          have := congrArg (List.map PV.str) hsp
          rw [List.map_map, List.map_map] at this
          exact this.symm
        rw [hspl]
        refine Ev_method hC (p := .str (joinL [44, 32] (toldW M sh))) (ps := [.str [44, 32]]) (Ev_name hC ht2 (by decide +kernel) (by decide +kernel)) (Evs_cons (Ev_lit (by kernel_rfl)) Evs_nil) (Ca_split (by decide) (big (by omega)) (big (by omega)) ?_) Ty_str F.plainAttrs_str F.slot_str_split F.type_str_split
        rw [len_partsBetween]
        refine big ?_
        have := StrLaws.occ_length_le (⟨(joinL [44, 32] (toldW M sh)).toArray⟩ : Str) ⟨[44, 32].toArray⟩ 0 (joinL [44, 32] (toldW M sh)).length ((joinL [44, 32] (toldW M sh)).length + 1)
        omega
      · refine Lc_map fun i hi => Turn_name hsc (by kernel_rfl) (by kernel_rfl) fun C' hC' hcel' hA' hsc' ow => ⟨rfl, ?_⟩
        have hi4 := hbl.2 i hi
        have hnf := name_facts (sh + i) (by omega)
        have hI := F_indexOf hA (k := k) (by omega) (xs := names2) (y := wordN (sh + i)) (names2_mem (by omega)) (by rw [names2_len]; exact big (by decide))
        rw [hnf.1] at hI
        show Ev B C' _ ow _ (.int (i : Int))
        have e : (i : Int) = ((sh + i - sh : Nat) : Int) := by rw [Nat.add_sub_cancel_left]
        rw [e]
        refine Ev_binop (p := .int ((sh + i : Nat) : Int)) (q := .int (sh : Int)) (Ev_call hC' hI (by walk_at "kind") (by decide +kernel) (hA' ▸ hR) (Evs_cons ?_ (Evs_cons ?_ Evs_nil))) ?_ (Bi_subN (by omega))
        · walk_at "ev"
        · walk_at "ev"
        · walk_at "ev"
  have hl3 := hl2.upd (n := "bare") (p := natsV (bitsOf M)) (by decide +kernel)
  have hv3 : upd σ2 "bare" (natsV (bitsOf M)) "j" = some (.int (j : Int)) := (upd_ne (by decide +kernel)).trans hv2
  have hf3 : upd σ2 "bare" (natsV (bitsOf M)) "flags" = some (.int ((M * 2 ^ sh : Nat) : Int)) := (upd_ne (by decide +kernel)).trans hf2
  have hb3 : upd σ2 "bare" (natsV (bitsOf M)) "bare" = some (natsV (bitsOf M)) := upd_self _ _ _
  generalize upd σ2 "bare" (natsV (bitsOf M)) = σ3 at hl3 hv3 hf3 hb3 ⊢
  have hlf3 := hl3.left
  refine Ss_cons ?_
  refine S1_assign (pv := natsV (bitsOf M)) hC hO ?e5 (Bound.sc hO hsc (by kernel_rfl)) ?_ (by rfl)
  case e5 =>
    have hord : takenN left w = (pairOrder (pairsN left)).take w := by rw [pairOrder_eq]; rfl
    have ht4 : ∀ i ∈ takenN left w, i < 4 := fun i hi => hbl.2 i (by rw [← hbare]; exact hperm.mem_iff.mpr hi)
    have hin : ∀ i ∈ pairOrder (pairsN left), i < (pairsN left).length := by
      rw [pairOrder_eq, pairsN_length]
      have : ∀ o ∈ perms4, ∀ i ∈ o, i < 4 := by decide +kernel
      exact this _ P4.perm
    have hol : (pairOrder (pairsN left)).length = 4 := by rw [pairOrder_eq]; exact perm_len P4.perm
    have hp' : ((bitsOf M).map fun (n : Nat) => (n : Int)).Perm ((takenN left w).map fun (n : Nat) => (n : Int)) := (hbare ▸ hperm).map _
    have hs' : ((bitsOf M).map fun (n : Nat) => (n : Int)).Pairwise (· ≤ ·) := List.Pairwise.map _ (fun a b h => Int.ofNat_le.mpr h) hbl.1
    have hS := Ca_sorted (B := B) hp' hs' (by rw [List.length_map, ← hperm.length_eq, hbare]; have := bits_len M hM; omega)
    rw [List.map_map, List.map_map] at hS
    refine Ev_bi' hA hC hsc (ps := [.list ((takenN left w).map fun (i : Nat) => .int (i : Int))]) hS (by kernel_rfl) (by decide +kernel) (by decide +kernel) (by decide +kernel) (Evs_cons ?_ Evs_nil)
    refine Ev_comp hC hcel (xs := (takenN left w).map fun i => .tup [.int ((pairsN left).getD i (0, 0)).1, .int ((pairsN left).getD i (0, 0)).2]) (It_list hC .tup (by rw [List.length_map, ← hperm.length_eq, hbare]; have := bits_len M hM; exact big (by omega)) ?_) ?_ (by rw [hsc]; kernel_rfl)
    · rw [hord, List.map_take]
      have := wishEv (σ := σ3) (ow := none) (p1 := default) (p2 := default) (p3 := default) hl3.wishes hv3
      have e : w = ((w : Nat) : Int).toNat := (Int.toNat_natCast w).symm
      conv => arg 6; arg 1; arg 1; rw [e]
      refine Ev_slice_to (k := (w : Int)) (by omega) ?_ (wishEv hl3.wishes hv3)
      refine Ev_bi' hA hC hsc (ps := [.list ((pairsN left).map fun p => .tup [.int p.1, .int p.2])]) (Ca_sorted_pairs (by rw [pairsN_length]; decide) (by rw [pairsN_length]; decide) (by rw [pairsN_length]; decide +kernel) hin (by rw [hol]; decide)) (by kernel_rfl) (by decide +kernel) (by decide +kernel) (by decide +kernel) (Evs_cons ?_ Evs_nil)
      unfold pairsN
      rw [List.map_map]
      refine Ev_comp hC hcel four ?_ (by rw [hsc]; kernel_rfl)
      refine Lc_map fun i hi => Turn_name hsc (by kernel_rfl) (by kernel_rfl) fun C' hC' hcel' hA' hsc' ow => ⟨rfl, ?_⟩
      have hi4 := List.mem_range.mp hi
      show Ev B C' _ ow _ (.tup [.int (-((left.getD i 0 : Nat) : Int)), .int (i : Int)])
      refine Ev_tup2 (Evs_cons (Ev_neg (Ev_item (xs := left.map fun (n : Nat) => .int (n : Int)) (k := (i : Int)) ?_ ?_ (by omega) (natsV_get (by omega)))) (Evs_cons ?_ Evs_nil))
      · show Ev B C' _ ow _ (natsV left)
        walk_at "ev"
      · walk_at "ev"
      · walk_at "ev"
    · refine Lc_map fun i hi => ?_
      rw [pairsN_get (ht4 i hi)]
      refine Turn_pair hsc (by kernel_rfl) (by kernel_rfl) (by kernel_rfl) (by kernel_rfl) fun C' hC' hcel' hA' hsc' ow => ⟨rfl, ?_⟩
      walk_at "ev"
  have hl4 := hl3.upd (n := "upper") (p := natsV (bitsOf M)) (by decide +kernel)
  have hv4 : upd σ3 "upper" (natsV (bitsOf M)) "j" = some (.int (j : Int)) := (upd_ne (by decide +kernel)).trans hv3
  have hf4 : upd σ3 "upper" (natsV (bitsOf M)) "flags" = some (.int ((M * 2 ^ sh : Nat) : Int)) := (upd_ne (by decide +kernel)).trans hf3
  have hb4 : upd σ3 "upper" (natsV (bitsOf M)) "bare" = some (natsV (bitsOf M)) := (upd_ne (by decide +kernel)).trans hb3
  have hu4 : upd σ3 "upper" (natsV (bitsOf M)) "upper" = some (natsV (bitsOf M)) := upd_self _ _ _
  generalize upd σ3 "upper" (natsV (bitsOf M)) = σ4 at hl4 hv4 hf4 hb4 hu4 ⊢
  have hsh4 : σ4 "shift" = some (.int (sh : Int)) := by rw [← hshe]; exact hl4.base.shift
  refine Ss_cons (S1_if (b := false || (false || false)) (Tr_or (Tr_compare hC (p := natsV (bitsOf M)) (q := natsV (bitsOf M)) (Ev_name hC hb4 (by decide +kernel) (by decide +kernel)) (Ev_name hC hu4 (by decide +kernel) (by decide +kernel)) ?_) fun _ => Tr_or (Tr_compare hC (p := .int ((M * 2 ^ sh : Nat) : Int)) (q := .int ((M * 2 ^ sh : Nat) : Int)) ?_ (Ev_name hC hf4 (by decide +kernel) (by decide +kernel)) ?_) fun _ => Tr_or_nil) (fun h => nomatch h) fun _ => Ss_nil ?_)
  · have := Co_ne_ints (B := B) (ns := (bitsOf M).map fun (n : Nat) => (n : Int)) (ms := (bitsOf M).map fun (n : Nat) => (n : Int))
    rw [List.map_map] at this
    simp only [beq_self_eq_true, Bool.not_true] at this
    exact this
  · have hFa := F_and hA (k := k) (by omega) (a := ((M * 2 ^ sh : Nat) : Int)) (b := ((15 * 2 ^ sh : Nat) : Int))
    rw [and_all hM] at hFa
    refine Ev_call hC hFa (by walk_at "kind") (by decide +kernel) hR (Evs_cons (Ev_name hC hf4 (by decide +kernel) (by decide +kernel)) (Evs_cons ?_ Evs_nil))
    exact Ev_call hC (F_shlN hA (k := k) (by omega) (a := 15) (n := sh) (by omega) (by decide)) (by walk_at "kind") (by decide +kernel) hR (Evs_cons Ev_nat (Evs_cons (Ev_name hC hsh4 (by decide +kernel) (by decide +kernel)) Evs_nil))
  · have := Co_ne (B := B) (a := ((M * 2 ^ sh : Nat) : Int)) (b := ((M * 2 ^ sh : Nat) : Int))
    simp only [bne_self_eq_false] at this
    exact this
  have hnm4 := hl4.base.names
  have hex1 := hex_high j hj
  refine Ss_cons ?_
  refine S1_assign (pv := .list (((bitsOf M).map fun i => .strX (wordN (sh + i))) ++ [.str (hexL ((3 * 2 ^ (32 + j) : Nat) : Int))])) hC hO ?e6 (Bound.sc hO hsc (by kernel_rfl)) ?_ (by rfl)
  case e6 =>
    refine Ev_binop (p := .list ((bitsOf M).map fun i => .strX (wordN (sh + i)))) (q := .list [.str (hexL ((3 * 2 ^ (32 + j) : Nat) : Int))]) ?_ ?_ (Bi_add_list (by rw [List.length_map]; have := bits_len M hM; exact big (by show _ + 1 ≤ _; omega)))
    · refine Ev_comp hC hcel (xs := (bitsOf M).map fun (i : Nat) => .int (i : Int)) (It_list hC .name (by rw [List.length_map]; have := bits_len M hM; exact big (by omega)) (Ev_name hC hb4 (by decide +kernel) (by decide +kernel))) ?_ (by rw [hsc]; kernel_rfl)
      refine Lc_map fun i hi => Turn_name hsc (by kernel_rfl) (by kernel_rfl) fun C' hC' hcel' hA' hsc' ow => ⟨rfl, ?_⟩
      have hi4 := hbl.2 i hi
      have hnf := name_facts (sh + i) (by omega)
      refine Ev_item (xs := names2.map .strX) (k := ((i + sh : Nat) : Int)) ?_ (Ev_binop (p := .int (i : Int)) (q := .int (sh : Int)) ?_ ?_ Bi_addN) (by omega) ?_
      · walk_at "ev"
      · walk_at "ev"
      · walk_at "ev"
      · rw [Int.toNat_natCast, List.getElem?_map, Nat.add_comm i sh, hnf.2.1]; rfl
    · refine Ev_list (Evs_cons ?_ Evs_nil) (by show 1 ≤ sizeLine; decide)
      have e : ((3 * 2 ^ (32 + j) : Nat) : Int) = (3 : Int) * (2 : Int) ^ (((32 + j : Nat) : Int).toNat) := by rw [Int.toNat_natCast, Int.natCast_mul, Int.natCast_pow]; rfl
      have hb := high_big hj
      have hFh := Ca_hexL (B := B) (i := ((3 * 2 ^ (32 + j) : Nat) : Int)) (Int.natCast_nonneg _) (by omega)
      refine Ev_bi' hA hC hsc (ps := [.int ((3 * 2 ^ (32 + j) : Nat) : Int)]) hFh (by kernel_rfl) (by decide +kernel) (by decide +kernel) (by decide +kernel) (Evs_cons ?_ Evs_nil)
      rw [e]
      refine Ev_binop (p := .int 3) (q := .int ((2 : Int) ^ (((32 + j : Nat) : Int).toNat))) Ev_int (Ev_binop (p := .int 2) (q := .int ((32 + j : Nat) : Int)) Ev_int ?_ (Bi_pow (by omega) ?_)) (Bi_mul ?_)
      · walk_at "ev"
      · have : (Builtin.Int.intBits 2 : Int) = 2 := by decide +kernel
        rw [this]; omega
      · exact IntMulOk.of_left (by decide +kernel)
  have hl5 := hl4.upd (n := "own") (p := .list (((bitsOf M).map fun i => .strX (wordN (sh + i))) ++ [.str (hexL ((3 * 2 ^ (32 + j) : Nat) : Int))])) (by decide +kernel)
  have hv5 : upd σ4 "own" (.list (((bitsOf M).map fun i => .strX (wordN (sh + i))) ++ [.str (hexL ((3 * 2 ^ (32 + j) : Nat) : Int))])) "j" = some (.int (j : Int)) := (upd_ne (by decide +kernel)).trans hv4
  have hf5 : upd σ4 "own" (.list (((bitsOf M).map fun i => .strX (wordN (sh + i))) ++ [.str (hexL ((3 * 2 ^ (32 + j) : Nat) : Int))])) "flags" = some (.int ((M * 2 ^ sh : Nat) : Int)) := (upd_ne (by decide +kernel)).trans hf4
  have hb5 : upd σ4 "own" (.list (((bitsOf M).map fun i => .strX (wordN (sh + i))) ++ [.str (hexL ((3 * 2 ^ (32 + j) : Nat) : Int))])) "bare" = some (natsV (bitsOf M)) := (upd_ne (by decide +kernel)).trans hb4
  have ho5 : upd σ4 "own" (.list (((bitsOf M).map fun i => .strX (wordN (sh + i))) ++ [.str (hexL ((3 * 2 ^ (32 + j) : Nat) : Int))])) "own" = some (.list (((bitsOf M).map fun i => .strX (wordN (sh + i))) ++ [.str (hexL ((3 * 2 ^ (32 + j) : Nat) : Int))])) := upd_self _ _ _
  generalize upd σ4 "own" (.list (((bitsOf M).map fun i => .strX (wordN (sh + i))) ++ [.str (hexL ((3 * 2 ^ (32 + j) : Nat) : Int))])) = σ5 at hl5 hv5 hf5 hb5 ho5 ⊢
  have hwh := words_high (j := j) hM hsh
  have hss : ∀ x ∈ ((bitsOf M).map fun i => wordN (sh + i)) ++ [hexL ((3 * 2 ^ (32 + j) : Nat) : Int)], x.length ≤ 20 := fun x hx => by
    rcases List.mem_append.mp hx with h | h
    · rw [List.mem_map] at h
      obtain ⟨i, hi, rfl⟩ := h
      have := hbl.2 i hi
      exact (name_facts (sh + i) (by omega)).2.2.2.2
    · rw [List.mem_singleton.mp h]; exact hex1
  have hsn : (((bitsOf M).map fun i => wordN (sh + i)) ++ [hexL ((3 * 2 ^ (32 + j) : Nat) : Int)]).length ≤ 5 := by
    rw [List.length_append, List.length_map]; have := bits_len M hM; show _ + 1 ≤ 5; omega
  have hs2 : ((((bitsOf M).map fun i => wordN (sh + i)) ++ [hexL ((3 * 2 ^ (32 + j) : Nat) : Int)]).map fun s => s.length + 2).sum ≤ 200 := by
    refine Nat.le_trans (sum_le (c := 22) _ fun x hx => by have := hss x hx; omega) ?_
    omega
  refine Ss_cons (S1_if (b := false) (Tr_compare hC (p := .str (prettyL (M * 2 ^ sh + 3 * 2 ^ (32 + j)))) (q := .str (prettyL (M * 2 ^ sh + 3 * 2 ^ (32 + j)))) ?_ ?_ ?_) (fun h => nomatch h) fun _ => Ss_nil ?_)
  · have hb := high_big hj
    have hFl := F_flags hD (k := k) (by omega) (m := M * 2 ^ sh + 3 * 2 ^ (32 + j)) (by omega) (by rw [hwh]; exact big (by omega)) (by rw [hwh]; omega)
    refine Ev_call hC hFl (by walk_at "kind") (by decide +kernel) hR (Evs_cons ?_ Evs_nil)
    refine Ev_call hC (F_addN hA (k := k) (by omega)) (by walk_at "kind") (by decide +kernel) hR (Evs_cons (Ev_name hC hf5 (by decide +kernel) (by decide +kernel)) (Evs_cons ?_ Evs_nil))
    refine Ev_call hC (F_shlN hA (k := k) (by omega) (a := 3) (n := 32 + j) (by omega) (by decide)) (by walk_at "kind") (by decide +kernel) hR (Evs_cons Ev_nat (Evs_cons ?_ Evs_nil))
    exact Ev_binop (p := .int ((32 : Nat) : Int)) (q := .int (j : Int)) Ev_nat (Ev_name hC hv5 (by decide +kernel) (by decide +kernel)) Bi_addN
  · unfold prettyL
    rw [hwh]
    refine Ev_method hC (p := .str [44, 32]) (ps := [.list (((bitsOf M).map fun i => .strX (wordN (sh + i))) ++ [.str (hexL ((3 * 2 ^ (32 + j) : Nat) : Int))])]) (Ev_lit (by kernel_rfl)) (Evs_cons (Ev_name hC ho5 (by decide +kernel) (by decide +kernel)) Evs_nil) (Ca_joinL ?_ ?_ (big (Nat.le_trans hs2 (by decide)))) Ty_str F.plainAttrs_str F.slot_str_join F.type_str_join
    · rw [List.map_append, List.map_append, List.map_map, List.map_map]; rfl
    · intro x e
      have := congrArg List.getLast? e
      rw [List.getLast?_append] at this
      cases this
  · have := Co_ne_str (B := B) (x := prettyL (M * 2 ^ sh + 3 * 2 ^ (32 + j))) (y := prettyL (M * 2 ^ sh + 3 * 2 ^ (32 + j)))
    simp only [bne_self_eq_false] at this
    exact this
  have hlf5 := hl5.left
  have hpo : ∀ i, (bitsOf M).contains i = true → 0 < left.getD i 0 := fun i h => by
    rw [← hbare] at h
    exact taken_pos P4 hpos hwj ((mem_taken P4 hwj i).mp h)
  refine Ss_cons ?_
  refine S1_assign (pv := natsV (nextL left w)) hC hO ?e7 (Bound.sc hO hsc (by kernel_rfl)) ?_ (swaps_cell (by rw [kind_of hsc (k := .cell) (by kernel_rfl)]; rfl))
  case e7 =>
    unfold natsV nextL
    rw [List.map_map, hbare]
    refine Ev_comp hC hcel four ?_ (by rw [hsc]; kernel_rfl)
    refine Lc_map fun i hi => Turn_name hsc (by kernel_rfl) (by kernel_rfl) fun C' hC' hcel' hA' hsc' ow => ⟨rfl, ?_⟩
    have hi4 := List.mem_range.mp hi
    show Ev B C' _ ow _ (.int ((if (bitsOf M).contains i then left.getD i 0 - 1 else left.getD i 0 : Nat) : Int))
    have item : ∀ {p1 p2 p3 : Pos} {σ : Vars}, σ "left" = some (natsV left) → σ "i" = some (.int (i : Int)) → Ev B C' σ ow (.Subscript (.Name "left" p1) (.Name "i" p2) p3) (.int ((left.getD i 0 : Nat) : Int)) := fun h1 h2 =>
      Ev_item (xs := left.map fun (n : Nat) => .int (n : Int)) (k := (i : Int)) (Ev_name hC' h1 (by decide +kernel) (by decide +kernel)) (Ev_name hC' h2 (by decide +kernel) (by decide +kernel)) (by omega) (natsV_get (by omega))
    refine Ev_ifexp (b := (bitsOf M).contains i) (Tr_compare hC' (p := .int (i : Int)) (q := natsV (bitsOf M)) ?_ ?_ ?_) (fun h => ?_) fun h => ?_
    · walk_at "ev"
    · walk_at "ev"
    · have := Co_in_ints (B := B) (i := (i : Int)) (ns := (bitsOf M).map fun (n : Nat) => (n : Int))
      rw [any_nat, List.map_map] at this
      exact this
    · rw [if_pos h]
      have hp := hpo i h
      rw [Int.ofNat_sub hp]
      refine Ev_call hC' (F_sub hA (k := k) (by omega)) (by walk_at "kind") (by decide +kernel) (hA' ▸ hR) (Evs_cons (item ?_ ?_) (Evs_cons Ev_nat Evs_nil))
      · walk_at "look"
      · walk_at "look"
    · rw [if_neg (by rw [h]; decide)]
      refine item ?_ ?_
      · walk_at "look"
      · walk_at "look"
  have hl6 : Ld ns (nextL left w) rows true (upd σ5 "left" (natsV (nextL left w))) := ⟨hl5.base.upd (by decide +kernel) (by decide +kernel) (by decide +kernel), (upd_ne (by decide +kernel)).trans hl5.words, (upd_ne (by decide +kernel)).trans hl5.rooms, (upd_ne (by decide +kernel)).trans hl5.wishes, upd_self _ _ _, (upd_ne (by decide +kernel)).trans hl5.rows, (upd_ne (by decide +kernel)).trans hl5.met⟩
  have hv6 : upd σ5 "left" (natsV (nextL left w)) "j" = some (.int (j : Int)) := (upd_ne (by decide +kernel)).trans hv5
  have hb6 : upd σ5 "left" (natsV (nextL left w)) "bare" = some (natsV (bitsOf M)) := (upd_ne (by decide +kernel)).trans hb5
  generalize upd σ5 "left" (natsV (nextL left w)) = σ6 at hl6 hv6 hb6 ⊢
  have hcell := (cell_nat hz (k := 5) (by decide)).2
  refine Ss_cons ?_
  refine S1_assign (pv := .list ((nextR rows (bitsOf M)).map .str)) hC hO ?e8 (Bound.sc hO hsc (by kernel_rfl)) ?_ (by rfl)
  case e8 =>
    refine Ev_call hC (F_sent' hD (k := k) (by omega) (bare := bitsOf M) (t := cN ns 5 / 100 + j) hrows hsz) (by walk_at "kind") (by decide +kernel) hR (Evs_cons (Ev_name hC hl6.rows (by decide +kernel) (by decide +kernel)) (Evs_cons (Ev_name hC hb6 (by decide +kernel) (by decide +kernel)) (Evs_cons ?_ Evs_nil)))
    refine Ev_binop (p := .int ((cN ns 5 / 100 : Nat) : Int)) (q := .int (j : Int)) (Ev_binop (p := .int (cN ns 5 : Int)) (q := .int ((100 : Nat) : Int)) (Ev_item (xs := (cellsN ns).map fun (n : Nat) => .int (n : Int)) (k := ((5 : Nat) : Int)) (Ev_name hC hl6.base.cells (by decide +kernel) (by decide +kernel)) Ev_nat (by omega) ?_) Ev_nat ?_) (Ev_name hC hv6 (by decide +kernel) (by decide +kernel)) Bi_addN
    · rfl
    · rw [← fdiv_nat]; exact Bi_div (by decide) (PyProof.noPylong_small (by decide))
  refine Ss_cons (S1_if (b := false) (Tr_compare hC (p := .list ((nextR rows (bitsOf M)).map .str)) (q := .list ([].map .str)) (Ev_name hC (upd_self _ _ _) (by decide +kernel) (by decide +kernel)) (Ev_list Evs_nil) ?_) (fun h => nomatch h) fun _ => Ss_nil (Ss_nil ?_))
  · have := Co_eq_strs (B := B) (ns := nextR rows (bitsOf M)) (ms := [])
    rw [show (nextR rows (bitsOf M) == []) = false by rfl] at this
    exact this
  · refine hnext hpos _ ?_
    rw [hbare]
    exact ⟨hl6.base.upd (by decide +kernel) (by decide +kernel) (by decide +kernel), (upd_ne (by decide +kernel)).trans hl6.words, (upd_ne (by decide +kernel)).trans hl6.rooms, (upd_ne (by decide +kernel)).trans hl6.wishes, (upd_ne (by decide +kernel)).trans hl6.left, upd_self _ _ _, (upd_ne (by decide +kernel)).trans hl6.met⟩
end
end Mine
end

section
open PySem PySem.W PyProof.Rows PySem.Calls
set_option Elab.async false
set_option linter.unusedVariables false
set_option maxRecDepth 100000
namespace Mine
def rowsOf (ns : List Int) (left : List Nat) : List (List Nat) := (List.range 4).map fun i => List.replicate (1 + (roomsL ns).getD i 0 - left.getD i 0) 46 ++ (wordsL ns).getD i []
theorem wordsL_get {ns : List Int} {i : Nat} (h : i < 4) : (wordsL ns).getD i [] = wordL (cN ns i) := by
  unfold wordsL; simp [List.getD, h]
theorem roomsL_get {ns : List Int} {i : Nat} (h : i < 4) : (roomsL ns).getD i 0 = (wordL (cN ns i)).length := by
  unfold roomsL wordsL; simp [List.getD, h]
theorem roomsL_len (ns : List Int) : (roomsL ns).length = 4 := by simp [roomsL, wordsL]
theorem wordsL_len (ns : List Int) : (wordsL ns).length = 4 := by simp [wordsL]
theorem roomsL_lt (ns : List Int) : ∀ n ∈ roomsL ns, n < 7 := by
  intro n hn
  unfold roomsL wordsL at hn
  simp only [List.mem_map] at hn
  obtain ⟨w, ⟨k, _, rfl⟩, rfl⟩ := hn
  have := wordL_len (cN ns k)
  omega
/-- what is kept through the sendings, plainly -/
structure LeftOk (ns : List Int) (left : List Nat) : Prop where
  len : left.length = 4
  lt : ∀ n ∈ left, n < 7
  le : ∀ i, i < 4 → left.getD i 0 ≤ (roomsL ns).getD i 0
theorem rowsOf_get {ns : List Int} {left : List Nat} {i : Nat} (h : i < 4) : (rowsOf ns left).getD i [] = List.replicate (1 + (roomsL ns).getD i 0 - left.getD i 0) 46 ++ (wordsL ns).getD i [] := by
  unfold rowsOf; simp only [List.getD, List.getElem?_map, List.getElem?_range h, Option.map_some, Option.getD_some]
theorem rowsOf_len (ns : List Int) (left : List Nat) : (rowsOf ns left).length = 4 := by simp [rowsOf]
theorem rowsOf_small {ns : List Int} {left : List Nat} (i : Nat) : ((rowsOf ns left).getD i []).length ≤ 399 := by
  by_cases h : i < 4
  · rw [rowsOf_get h, wordsL_get h, roomsL_get h, List.length_append, List.length_replicate]
    have := wordL_len (cN ns i)
    omega
  · have : (rowsOf ns left).getD i [] = [] := by
      simp only [List.getD]
      rw [List.getElem?_eq_none (by rw [rowsOf_len]; omega)]; rfl
    rw [this]; exact Nat.zero_le _
theorem rowsOf_ok {ns : List Int} {left : List Nat} (h : LeftOk ns left) : RowsOk (rowsOf ns left) where
  len := rowsOf_len _ _
  size := fun i => Nat.le_trans (rowsOf_small i) (by decide)
  row := fun i hi => by
    have hle := h.le i hi
    rw [rowsOf_get hi, wordsL_get hi, show 1 + (roomsL ns).getD i 0 - left.getD i 0 = ((roomsL ns).getD i 0 - left.getD i 0) + 1 by omega, List.replicate_succ, List.cons_append]
    have he := wordL_ends (cN ns i)
    refine ⟨_, rfl, ?_, ?_⟩
    · rw [List.mem_append, List.mem_replicate]; exact fun h => h.elim (fun h => absurd h.2 (by decide)) he.1
    · rw [List.mem_append, List.mem_replicate]; exact fun h => h.elim (fun h => absurd h.2 (by decide)) he.2
theorem nextL_get {left : List Nat} {w i : Nat} (h : i < 4) : (nextL left w).getD i 0 = if (bareN left w).contains i then left.getD i 0 - 1 else left.getD i 0 := by
  unfold nextL; simp only [List.getD, List.getElem?_map, List.getElem?_range h, Option.map_some, Option.getD_some]
theorem next_ok {ns : List Int} {left : List Nat} {w : Nat} (h : LeftOk ns left) : LeftOk ns (nextL left w) where
  len := nextL_length _ _
  lt := nextL_lt h.len h.lt
  le := fun i hi => by
    rw [nextL_get hi]
    have := h.le i hi
    split <;> omega
theorem next_rows {ns : List Int} {left : List Nat} {w : Nat} (h : LeftOk ns left) (hw : w ≤ 4) (hpos : w ≤ posN left) : nextR (rowsOf ns left) (bareN left w) = rowsOf ns (nextL left w) := by
  have P := picks h.len h.lt
  unfold nextR
  conv => rhs; unfold rowsOf
  refine List.map_congr_left fun i hi => ?_
  have hi4 := List.mem_range.mp hi
  have hle := h.le i hi4
  rw [rowsOf_get hi4, nextL_get hi4]
  by_cases hc : (bareN left w).contains i = true
  · rw [if_pos hc, if_pos hc]
    have hp := taken_pos P hpos hw ((mem_taken P hw i).mp hc)
    rw [show 1 + (roomsL ns).getD i 0 - (left.getD i 0 - 1) = (1 + (roomsL ns).getD i 0 - left.getD i 0) + 1 by omega, List.replicate_succ]; rfl
  · rw [if_neg hc, if_neg hc]
theorem first_ok (ns : List Int) : LeftOk ns (roomsL ns) := ⟨roomsL_len ns, roomsL_lt ns, fun _ _ => Nat.le_refl _⟩
theorem first_rows (ns : List Int) : rowsOf ns (roomsL ns) = (wordsL ns).map fun w => 46 :: w := by
  unfold rowsOf
  have : (wordsL ns).map (fun w => 46 :: w) = (List.range 4).map fun i => 46 :: (wordsL ns).getD i [] := by
    unfold wordsL; rfl
  rw [this]
  refine List.map_congr_left fun i hi => ?_
  rw [show 1 + (roomsL ns).getD i 0 - (roomsL ns).getD i 0 = 1 by omega]; rfl
theorem wishesL_le (ns : List Int) : ∀ w ∈ wishesL ns, w ≤ 4 := by
  intro w hw
  unfold wishesL at hw
  rw [List.mem_map] at hw
  obtain ⟨j, _, rfl⟩ := hw
  omega
theorem wishesL_len (ns : List Int) : (wishesL ns).length = 5 := by simp [wishesL]
/-! the greatest wishes -/
def greatL (ns : List Int) : List Nat := (wishesL ns).mergeSort fun a b => decide (b ≤ a)
theorem great_perm (ns : List Int) : (greatL ns).Perm (wishesL ns) := List.mergeSort_perm _ _
theorem great_sorted (ns : List Int) : (greatL ns).Pairwise (· ≥ ·) := by
  have := List.pairwise_mergeSort (le := fun a b : Nat => decide (b ≤ a)) (fun a b c h1 h2 => by simp at *; omega) (fun a b => by simp; omega) (wishesL ns)
  exact this.imp fun h => by simpa using h
def shortL (ns : List Int) : List Nat := (List.range' 1 5).filter fun k => decide (((greatL ns).take k).sum > fillF (roomsL ns) k)
theorem met_iff (ns : List Int) : (playN (roomsL ns) (wishesL ns)).isSome = (shortL ns == []) := by
  have h1 := play_iff (wishesL ns) (roomsL ns) (roomsL_len ns) (roomsL_lt ns) (wishesL_le ns)
  rw [← galeQ_perm (great_perm ns), galeQ_sorted _ _ (great_sorted ns)] at h1
  have hl : (greatL ns).length = 5 := by rw [(great_perm ns).length_eq, wishesL_len]
  rw [Bool.eq_iff_iff, h1, beq_iff_eq]
  unfold shortL
  rw [List.filter_eq_nil_iff]
  constructor
  · intro h k hk
    rw [List.mem_range'_1] at hk
    have := h k (by omega)
    simp; omega
  · intro h k hk
    by_cases h0 : k = 0
    · subst h0; rw [List.take_zero]; exact Int.natCast_nonneg _
    · have := h k (by rw [List.mem_range'_1]; omega)
      simp at this
      exact Int.ofNat_le.mpr this
end Mine
end

section
open PySem PySem.W PyProof.Rows PySem.Calls
set_option Elab.async false
set_option linter.unusedVariables false
set_option maxRecDepth 100000
namespace Mine
local macro_rules | `(tactic| walk_at "look") => `(tactic| first | with_reducible exact upd_self _ _ _ | (refine (upd_ne (by decide +kernel)).trans ?_; walk_at "look") | (refine cap_of (by kernel_rfl) ?_; walk_at "look") | assumption)
local macro_rules | `(tactic| walk_at "name") => `(tactic| (with_reducible apply Ev_name (by assumption); walk_at "look"; decide +kernel; decide +kernel))
local macro_rules | `(tactic| walk_at "bi") => `(tactic| first | with_reducible exact Bi_addN | (with_reducible apply Bi_subN; omega) | (with_reducible apply Bi_modN; omega) | (with_reducible apply Bi_divN; omega; omega; omega) | with_reducible exact Bi_add | with_reducible exact Bi_sub)
local macro_rules | `(tactic| walk_at "co") => `(tactic| first | with_reducible exact Co_eqN | with_reducible exact Co_ltN | with_reducible exact Co_gtN)
local macro_rules | `(tactic| walk_at "ev") => `(tactic| first | with_reducible exact Ev_nat | with_reducible exact Ev_true | with_reducible exact Ev_none | with_reducible exact Ev_str | walk_at "name" | (with_reducible apply Ev_neg; walk_at "ev") | (with_reducible apply Ev_binop; walk_at "ev"; walk_at "ev"; walk_at "bi") | (with_reducible apply @Ev_compare; assumption; walk_at "ev"; walk_at "ev"; walk_at "co"; with_unfolding_all exact rfl))
local macro_rules | `(tactic| walk_at "evs") => `(tactic| first | with_reducible exact Evs_nil | (with_reducible apply @Evs_cons; walk_at "ev"; walk_at "evs"; with_unfolding_all exact rfl))
local macro_rules | `(tactic| walk_at "kind") => `(tactic| (refine kind_of (by assumption) ?_; kernel_rfl))
theorem swaps_local {elt : Expr} {gens : List Comprehension} {scope : Scope} {pos p : Pos} {t : Str} {line : Nat} {env : Env} (hb : (env.blockKind == .function) = true) (hk : (env.kindOf t == some .local) = true) (hl : (p.line == pos.line) = true)
    (hn : (scope.names.any fun (n, k) => n == t && (k == .local || k == .cell)) = false) : swapsWith (.ListComp elt gens scope pos) (some (.Name t p)) line env = pure true := by
  show (pure (env.blockKind == .function && env.kindOf t == some .local && p.line == pos.line && !(scope.names.any fun (n, k) => n == t && (k == .local || k == .cell))) : Sem Bool) = _
  rw [hb, hk, hl, hn]; rfl
theorem Lc_filter {α : Type} {T : PV → Option PV → Prop} {f g : α → PV} {p : α → Bool} : ∀ {l : List α}, (∀ a ∈ l, T (f a) (if p a then some (g a) else none)) → Lc T (l.map f) ((l.filter p).map g)
  | [], _ => .nil
  | a :: l, h => by
    have ha := h a List.mem_cons_self
    have ih := Lc_filter (f := f) (g := g) (p := p) (l := l) fun b hb => h b (List.mem_cons_of_mem _ hb)
    rw [List.filter_cons]
    cases hp : p a
    · rw [hp] at ha; exact .skip ha ih
    · rw [hp] at ha; exact .keep ha ih
theorem TG_if {B : Bk} {C : Cx} {σ : Vars} {ow : Own} {t elt : Expr} {b : Bool} {y : PV} (h : Tr B C σ ow t b) (he : Ev B C σ ow elt y) : TG B C σ ow [t] elt (if b then some y else none) := by
  cases b
  · exact h
  · exact ⟨h, he⟩
theorem cast_sum (l : List Nat) : (l.map fun (n : Nat) => (n : Int)).sum = ((l.sum : Nat) : Int) := by
  induction l with
  | nil => rfl
  | cons a l ih => rw [List.map_cons, List.sum_cons, List.sum_cons, ih]; omega
def tailBody : List Stmt := dLaw.body.drop 11
section
variable {B : Bk} {C : Cx}
set_option maxHeartbeats 8000000 in
theorem law_tail (hD : B.Data) (hC : C.Ok B) (hO : C.Owns) (hcel : C.Cel) (hsc : C.env.scope = dLaw.scope) {k : Nat} (hk : k < 880) (hR : Rm C.A k) {ns : List Int} {σ : Vars} {left : List Nat} {met : Bool} {body : List Stmt}
    (hb : body = tailBody) (hl : Ld ns left (rowsOf ns left) met σ) (ho : LeftOk ns left) (hm : met = (shortL ns == [])) : Ss B C σ none body (Gives' (.bool true)) := by
  have hA := hD.all
  rw [hb]
  conv => arg 5; unfold tailBody dLaw; whnf
  show Ss B C σ none (_ :: _) _
  have hlen := ho.len
  have big : ∀ {n : Nat}, n ≤ 10000 → n ≤ sizeLine := fun h => Nat.le_trans h (by decide)
  have four : ∀ {σ : Vars} {ow : Own} {p1 p2 p3 p4 : Pos} {kk : Nat}, It B C σ ow (.Name "i" p1) (.Call (.Name "range" p2) [.Constant (.int 4) kk p3] [] p4) ((List.range 4).map fun (i : Nat) => PV.int i) := by
    intro σ ow p1 p2 p3 p4 kk
    rw [← rangeV_nat 4]
    exact It_range1 hC (by decide) (by decide) (by walk_at "kind") (hA.free _ (by decide +kernel)) (by rw [hA.bt _ (by decide +kernel)]; decide +kernel) (by decide +kernel) Ev_int
  -- the least room left
  obtain ⟨mn, hmn, hle⟩ : ∃ m : Int, m ∈ (left.map fun (n : Nat) => (n : Int)) ∧ ∀ a ∈ (left.map fun (n : Nat) => (n : Int)), m ≤ a := by
    match left, hlen with
    | [a, b, c, d], _ =>
      refine ⟨min (min (a : Int) b) (min (c : Int) d), ?_, ?_⟩
      · simp only [List.map_cons, List.map_nil, List.mem_cons, List.not_mem_nil, or_false]; omega
      · simp only [List.map_cons, List.map_nil, List.mem_cons, List.not_mem_nil, or_false]; intro x hx; omega
  have hmn0 : 0 ≤ mn := by
    rw [List.mem_map] at hmn
    obtain ⟨n, _, rfl⟩ := hmn
    exact Int.natCast_nonneg _
  have hleft := hl.left
  have hrooms := hl.rooms
  have hwords := hl.words
  refine Ss_cons ?_
  refine S1_if (b := false || (false || false)) (Tr_or (Tr_compare hC (p := .int mn) (q := .int 0) ?m1 Ev_int ?m2) fun _ => Tr_or (Tr_compare hC (p := .list ((rowsOf ns left).map .str)) (q := .list ((rowsOf ns left).map .str)) (Ev_name hC hl.rows (by decide +kernel) (by decide +kernel)) ?m3 ?m4) fun _ => Tr_or_nil) (fun h => nomatch h) fun _ => Ss_nil ?m5
  case m1 =>
    have hc := Ca_min (B := B) hmn hle
    rw [List.map_map] at hc
    exact Ev_bi' hA hC hsc (ps := [natsV left]) hc (by kernel_rfl) (by decide +kernel) (by decide +kernel) (by decide +kernel) (Evs_cons (Ev_name hC hleft (by decide +kernel) (by decide +kernel)) Evs_nil)
  case m2 =>
    have := Co_lt (B := B) (a := mn) (b := 0)
    rw [show decide (mn < 0) = false by simp; omega] at this
    exact this
  case m4 =>
    have := Co_ne_strs (B := B) (ns := rowsOf ns left) (ms := rowsOf ns left)
    simp only [beq_self_eq_true, Bool.not_true] at this
    exact this
  case m3 =>
    conv => arg 6; unfold rowsOf
    rw [List.map_map]
    refine Ev_comp hC hcel four ?_ (by rw [hsc]; kernel_rfl)
    refine Lc_map fun i hi => Turn_name hsc (by kernel_rfl) (by kernel_rfl) fun C' hC' hcel' hA' hsc' ow => ⟨rfl, ?_⟩
    have hi4 := List.mem_range.mp hi
    have hli := ho.le i hi4
    have hwi := wordL_len (cN ns i)
    have hri := roomsL_get (ns := ns) hi4
    show Ev B C' _ ow _ (.str (List.replicate (1 + (roomsL ns).getD i 0 - left.getD i 0) 46 ++ (wordsL ns).getD i []))
    have emul : ∀ n : Nat, 1 ≤ n → n ≤ 7 → MulOk ⟨[46].toArray⟩ (n : Int) ∧ (Txt.mul ⟨[46].toArray⟩ (n : Int)).cps.toList = List.replicate n 46 := by
      intro n h1 h2
      refine ⟨⟨?_, fun _ _ => ?_, fun _ _ => ?_⟩, ?_⟩
      · simp; omega
      · show ¬ ((1 : Nat) : Int) > (2 ^ 63 - 1) / (n : Int)
        rcases (by omega : n = 1 ∨ n = 2 ∨ n = 3 ∨ n = 4 ∨ n = 5 ∨ n = 6 ∨ n = 7) with rfl | rfl | rfl | rfl | rfl | rfl | rfl <;> decide
      · rcases (by omega : n = 1 ∨ n = 2 ∨ n = 3 ∨ n = 4 ∨ n = 5 ∨ n = 6 ∨ n = 7) with rfl | rfl | rfl | rfl | rfl | rfl | rfl <;> decide +kernel
      · rcases (by omega : n = 1 ∨ n = 2 ∨ n = 3 ∨ n = 4 ∨ n = 5 ∨ n = 6 ∨ n = 7) with rfl | rfl | rfl | rfl | rfl | rfl | rfl <;> decide +kernel
    have hn1 : 1 ≤ 1 + (roomsL ns).getD i 0 - left.getD i 0 := by omega
    have hn2 : 1 + (roomsL ns).getD i 0 - left.getD i 0 ≤ 7 := by omega
    have em := emul _ hn1 hn2
    rw [← em.2]
    refine Ev_binop (p := .str _) (q := .str ((wordsL ns).getD i [])) (Ev_binop (p := .str [46]) (q := .int ((1 + (roomsL ns).getD i 0 - left.getD i 0 : Nat) : Int)) (Ev_lit (by kernel_rfl)) ?_ (Bi_mul_str em.1)) (Ev_item (xs := (wordsL ns).map .str) (k := (i : Int)) ?_ ?_ (by omega) (strs_get (by rw [wordsL_len]; omega))) (Bi_add_str ?_)
    · have e : ((1 + (roomsL ns).getD i 0 - left.getD i 0 : Nat) : Int) = (1 - ((left.getD i 0 : Nat) : Int)) + (((roomsL ns).getD i 0 : Nat) : Int) := by omega
      rw [e]
      have item : ∀ {p1 p2 p3 : Pos} {n : Str} {xs : List Nat} {σ : Vars}, σ n = some (natsV xs) → xs.length = 4 → σ "i" = some (.int (i : Int)) → (n == ("__debug__" : Str)) = false → (n == ("__classdict__" : Str)) = false → Ev B C' σ ow (.Subscript (.Name n p1) (.Name "i" p2) p3) (.int ((xs.getD i 0 : Nat) : Int)) := fun {p1 p2 p3 n xs σ} h1 hx h2 d1 d2 =>
        Ev_item (xs := xs.map fun (n : Nat) => .int (n : Int)) (k := (i : Int)) (Ev_name hC' h1 d1 d2) (Ev_name hC' h2 (by decide +kernel) (by decide +kernel)) (by omega) (natsV_get (by omega))
      refine Ev_call hC' (F_add hA (k := k) (by omega)) (by walk_at "kind") (by decide +kernel) (hA' ▸ hR) (Evs_cons (Ev_call hC' (F_sub hA (k := k) (by omega)) (by walk_at "kind") (by decide +kernel) (hA' ▸ hR) (Evs_cons Ev_int (Evs_cons (item ?_ hlen ?_ (by decide +kernel) (by decide +kernel)) Evs_nil))) (Evs_cons (item ?_ (roomsL_len ns) ?_ (by decide +kernel) (by decide +kernel)) Evs_nil))
      · walk_at "look"
      · walk_at "look"
      · walk_at "look"
      · walk_at "look"
    · walk_at "ev"
    · walk_at "ev"
    · rw [em.2, List.length_replicate, wordsL_get hi4]
      exact big (by omega)
  case m5 =>
  have hgl : (greatL ns).length = 5 := by rw [(great_perm ns).length_eq, wishesL_len]
  refine Ss_cons ?_
  refine S1_assign (pv := natsV (greatL ns)) hC hO ?g1 (Bound.sc hO hsc (by kernel_rfl)) ?_ (by rfl)
  case g1 =>
    have hp : ((greatL ns).map fun (n : Nat) => (n : Int)).Perm ((wishesL ns).map fun (n : Nat) => (n : Int)) := (great_perm ns).map _
    have hs : ((greatL ns).map fun (n : Nat) => (n : Int)).Pairwise (· ≥ ·) := List.Pairwise.map _ (fun a b h => Int.ofNat_le.mpr h) (great_sorted ns)
    have e1 : natsV (greatL ns) = .list (((greatL ns).map fun (n : Nat) => (n : Int)).map PV.int) := by unfold natsV; rw [List.map_map]; rfl
    have e2 : natsV (wishesL ns) = .list (((wishesL ns).map fun (n : Nat) => (n : Int)).map PV.int) := by unfold natsV; rw [List.map_map]; rfl
    rw [e1]
    exact Ev_sorted_rev hC hp hs (by rw [List.length_map, wishesL_len]; decide) (by walk_at "kind") (hA.free _ (by decide +kernel)) (by rw [hA.bt _ (by decide +kernel)]; decide +kernel) (by decide +kernel) (e2 ▸ Ev_name hC hl.wishes (by decide +kernel) (by decide +kernel))
  have hg1 : upd σ "greatest" (natsV (greatL ns)) "greatest" = some (natsV (greatL ns)) := upd_self _ _ _
  have hr1 : upd σ "greatest" (natsV (greatL ns)) "rooms" = some (natsV (roomsL ns)) := (upd_ne (by decide +kernel)).trans hrooms
  have hm1 : upd σ "greatest" (natsV (greatL ns)) "met" = some (.bool met) := (upd_ne (by decide +kernel)).trans hl.met
  generalize upd σ "greatest" (natsV (greatL ns)) = σ1 at hg1 hr1 hm1 ⊢
  have hbk : (C.env.blockKind == .function) = true := by unfold Env.blockKind; rw [hsc]; kernel_rfl
  refine Ss_cons ?_
  refine S1_assign_comp hC hO hcel (xs := (List.range' 1 5).map fun (k : Nat) => .int (k : Int)) (ys := (shortL ns).map fun (k : Nat) => .int (k : Int)) ?it ?lc (by rw [hsc]; kernel_rfl) (Bound.sc hO hsc (by kernel_rfl)) ?_ (swaps_local hbk (by rw [kind_of hsc (k := .local) (by kernel_rfl)]; rfl) (by kernel_rfl) (by kernel_rfl))
  case it =>
    have e : (List.range' 1 5).map (fun (k : Nat) => PV.int (k : Int)) = rangeV 1 6 := by
      show _ = rangeV ((1 : Nat) : Int) ((1 + 5 : Nat) : Int)
      rw [rangeV_from]; rfl
    rw [e]
    exact It_range2 hC (by decide) (by decide) (by decide) (by decide) (by walk_at "kind") (hA.free _ (by decide +kernel)) (by rw [hA.bt _ (by decide +kernel)]; decide +kernel) (by decide +kernel) Ev_int Ev_int
  case lc =>
    unfold shortL
    refine Lc_filter fun i hi => Turn_name hsc (by kernel_rfl) (by kernel_rfl) fun C' hC' hcel' hA' hsc' ow => ?_
    refine TG_if ?test ?elt
    case test =>
      refine Tr_compare hC' (p := .int ((((greatL ns).take i).sum : Nat) : Int)) (q := .int ((fillF (roomsL ns) i : Nat) : Int)) ?_ ?_ Co_gtN
      · have hc := Ca_sum (B := B) (ns := ((greatL ns).take i).map fun (n : Nat) => (n : Int))
        rw [cast_sum, List.map_map] at hc
        refine Ev_bi' hA hC' hsc' hc (by kernel_rfl) (by decide +kernel) (by decide +kernel) (by decide +kernel) (Evs_cons ?_ Evs_nil)
        have e : ((greatL ns).take i).map (PV.int ∘ fun (n : Nat) => (n : Int)) = ((greatL ns).map fun (n : Nat) => PV.int (n : Int)).take ((i : Int)).toNat := by
          rw [Int.toNat_natCast, ← List.map_take]; rfl
        rw [e]
        refine Ev_slice_to (k := (i : Int)) (by omega) ?_ ?_
        · show Ev B C' _ ow _ (natsV (greatL ns))
          walk_at "ev"
        · walk_at "ev"
      · have hc := Ca_sum (B := B) (ns := ((roomsL ns).map fun l => min l i).map fun (n : Nat) => (n : Int))
        rw [cast_sum, List.map_map, List.map_map] at hc
        refine Ev_bi' hA hC' hsc' hc (by kernel_rfl) (by decide +kernel) (by decide +kernel) (by decide +kernel) (Evs_cons ?_ Evs_nil)
        refine Ev_comp hC' hcel' (xs := (roomsL ns).map fun (n : Nat) => .int (n : Int)) (It_list hC' .name (by rw [List.length_map, roomsL_len]; decide) ?_) ?_ (by rw [hsc']; kernel_rfl)
        · show Ev B C' _ ow _ (natsV (roomsL ns))
          walk_at "ev"
        · refine Lc_map fun l hl => Turn_name hsc' (by kernel_rfl) (by kernel_rfl) fun C'' hC'' hcel'' hA'' hsc'' ow => ⟨rfl, ?_⟩
          have hmin := Ca_min2 (B := B) (a := (l : Int)) (b := (i : Int))
          have e : (if (i : Int) < (l : Int) then (i : Int) else (l : Int)) = ((min l i : Nat) : Int) := by split <;> omega
          rw [e] at hmin
          refine Ev_bi' hA hC'' hsc'' hmin (by kernel_rfl) (by decide +kernel) (by decide +kernel) (by decide +kernel) (Evs_cons ?_ (Evs_cons ?_ Evs_nil))
          · walk_at "ev"
          · walk_at "ev"
    case elt => walk_at "ev"
  have hs2 : upd σ1 "short" (.list ((shortL ns).map fun (k : Nat) => .int (k : Int))) "short" = some (natsV (shortL ns)) := upd_self _ _ _
  have hm2 : upd σ1 "short" (.list ((shortL ns).map fun (k : Nat) => .int (k : Int))) "met" = some (.bool met) := (upd_ne (by decide +kernel)).trans hm1
  generalize upd σ1 "short" (.list ((shortL ns).map fun (k : Nat) => .int (k : Int))) = σ2 at hs2 hm2 ⊢
  refine Ss_ret (pv := .bool (met == (shortL ns == []))) (Ev_compare hC (p := .bool met) (q := .bool (shortL ns == [])) (Ev_name hC hm2 (by decide +kernel) (by decide +kernel)) (Ev_compare hC (p := natsV (shortL ns)) (q := .list (([] : List Int).map PV.int)) (Ev_name hC hs2 (by decide +kernel) (by decide +kernel)) (Ev_list Evs_nil) ?_) Co_is_bool) ?_
  · have := Co_eq_ints (B := B) (ns := (shortL ns).map fun (n : Nat) => (n : Int)) (ms := [])
    rw [List.map_map] at this
    have e : (((shortL ns).map fun (n : Nat) => (n : Int)) == []) = (shortL ns == []) := by cases shortL ns <;> rfl
    rw [e] at this
    exact this
  · rw [hm]
    show PV.bool _ = PV.bool true
    rw [beq_self_eq_true]
set_option maxHeartbeats 8000000 in
theorem law_walk (hD : B.Data) (hlo : B.lo ≤ B.t₀) (hC : C.Ok B) (hO : C.Owns) (hcel : C.Cel) (hsc : C.env.scope = dLaw.scope) (hO₀ : C.O.ad = []) {k : Nat} (hk : k < 880) (hR : Rm C.A k) {ns : List Int} (hz : ns.length ≤ 63) :
    Ss B C (upd (fun _ => none) "script" (.list (ns.map .int))) none dLaw.body (Gives' (.bool true)) := by
  have hA := hD.all
  conv => arg 5; unfold dLaw; whnf
  show Ss B C _ none (_ :: _) _
  have hcells := F_cells hA (k := k) (by omega) hz
  rw [cells_nats hz] at hcells
  refine Ss_cons ?_
  refine S1_assign (pv := natsV (cellsN ns)) hC hO ?e1 (Bound.sc hO hsc (by kernel_rfl)) ?_ (by rfl)
  case e1 =>
    refine Ev_call hC hcells (by walk_at "kind") (by decide +kernel) hR (Evs_cons ?_ Evs_nil)
    walk_at "ev"
  show Ss B C _ none (_ :: _) _
  refine Ss_names hC hO hcel hlo hO₀ (xs := names2) (Bound.sc hO hsc (by kernel_rfl)) ?hσ ?he ?hrest ?hP (by rfl)
  case hσ =>
    intro m pv e
    unfold upd at e
    split at e
    · cases e; unfold natsV
      exact .list fun x hx => by obtain ⟨i, _, rfl⟩ := List.mem_map.mp hx; exact .int
    · split at e
      · cases e; exact NoStr.ints ns
      · cases e
  case hP =>
    intro o ho
    cases o with
    | next _ _ => cases (show PV.bool true = PV.none from ho)
    | brk _ _ => exact (show False from ho).elim
    | ret pv => exact ⟨true, by rw [show pv = PV.bool true from ho]⟩
  case he =>
    intro C' henv hCA hC' hO' hcel'
    have hsc' : C'.env.scope = dLaw.scope := by rw [henv]; exact hsc
    have e : names2.map PV.str = (List.replicate (2 : Int).toNat (namesL.map PV.str)).flatten := by
      unfold names2
      rw [List.map_append]
      show _ = (namesL.map PV.str) ++ ((namesL.map PV.str) ++ [])
      rw [List.append_nil]
    have hnl : namesL.length = 32 := by decide +kernel
    rw [e]
    refine Ev_binop (p := .list (namesL.map .str)) (q := .int 2) (Ev_call0 hC' (F_names hA.lo0 (k := k) (by omega)) (by walk_at "kind") (by decide +kernel) (hCA ▸ hR)) Ev_int (Bi_mul_list (by decide) (by decide) ?_)
    rw [List.length_map, hnl]; decide
  case hrest =>
  intro C' henv hCA hC' hO' hcel'
  have hsc' : C'.env.scope = dLaw.scope := by rw [henv]; exact hsc
  have hR' : Rm C'.A k := hCA ▸ hR
  clear hC hO hcel hsc hR hO₀
  generalize hσ0 : upd (upd (fun _ => none) "script" (.list (ns.map .int))) "cells" (natsV (cellsN ns)) = σ0
  have hce0 : σ0 "cells" = some (natsV (cellsN ns)) := by rw [← hσ0]; exact upd_self _ _ _
  refine Ss_cons ?_
  refine S1_assign (pv := .int ((cN ns 5 % 100 % 29 : Nat) : Int)) hC' hO' ?e2 (Bound.sc hO' hsc' (by kernel_rfl)) ?_ (by rfl)
  case e2 =>
    refine Ev_binop (p := .int ((cN ns 5 % 100 : Nat) : Int)) (q := .int ((29 : Nat) : Int)) (Ev_binop (p := .int (cN ns 5 : Int)) (q := .int ((100 : Nat) : Int)) (Ev_item (xs := (cellsN ns).map fun (n : Nat) => .int (n : Int)) (k := ((5 : Nat) : Int)) (Ev_name hC' ((upd_ne (by decide +kernel)).trans hce0) (by decide +kernel) (by decide +kernel)) Ev_nat (by omega) ?_) Ev_nat (Bi_modN (by decide))) Ev_nat (Bi_modN (by decide))
    rfl
  have hb1 : Lw ns (upd (upd σ0 "names" (.list (names2.map .strX))) "shift" (.int ((cN ns 5 % 100 % 29 : Nat) : Int))) := ⟨(upd_ne (by decide +kernel)).trans ((upd_ne (by decide +kernel)).trans hce0), (upd_ne (by decide +kernel)).trans (upd_self _ _ _), upd_self _ _ _⟩
  generalize upd (upd σ0 "names" (.list (names2.map .strX))) "shift" (.int ((cN ns 5 % 100 % 29 : Nat) : Int)) = σ1 at hb1 ⊢
  have big : ∀ {n : Nat}, n ≤ 10000 → n ≤ sizeLine := fun h => Nat.le_trans h (by decide)
  show Ss B C' _ none (_ :: _ :: _) _
  refine Ss_own hC' hO' hcel' (Bound.sc hO' hsc' (by kernel_rfl)) (fun D hD1 hDO hDc hDe hDA x => ?words) (by rfl)
  have hscD : D.env.scope = dLaw.scope := by rw [hDe]; exact hsc'
  have hRD : Rm D.A k := hDA ▸ hR'
  have hbx := hb1.upd (n := "words") (p := .raw (.ref x)) (by decide +kernel) (by decide +kernel) (by decide +kernel)
  have hwx : upd σ1 "words" (.raw (.ref x)) "words" = some (.raw (.ref x)) := upd_self _ _ _
  have hwu : ∀ (σ : Vars) p, Same wordNames (upd σ1 "words" (.raw (.ref x))) σ → Lw ns σ → Lw ns (upd σ "words" p) := fun σ p _ h => h.upd (by decide +kernel) (by decide +kernel) (by decide +kernel)
  generalize upd σ1 "words" (.raw (.ref x)) = σx at hbx hwx hwu ⊢
  have h4 : ((cellsN ns).map fun (n : Nat) => PV.int (n : Int)).take (4 : Int).toNat = (List.range 4).map fun k => .int (cN ns k : Int) := rfl
  refine S1_for hD1 (It_list hD1 .name (xs := (List.range 4).map fun k => .int (cN ns k : Int)) (by show 4 ≤ sizeLine; decide) (h4 ▸ Ev_slice_to (k := 4) (by decide) (Ev_name hD1 hbx.cells (by decide +kernel) (by decide +kernel)) Ev_int)) ?_
  refine Lp_inv (I := fun i σ ow => ow = some (x, ((List.range i).map fun k => .str (wordL (cN ns k)))) ∧ Same wordNames σx σ) (K := fun _ _ _ => False) _ 0 σx (some (x, [])) (fun i y hy σ ow hI => ?turn) ⟨rfl, Same.refl⟩ (fun σ ow hI => Ss_nil ?after) fun _ _ _ h => h.elim
  case turn =>
    rw [Nat.zero_add] at hI
    obtain ⟨rfl, hs⟩ := hI
    have hi : i < 4 := by
      have := (List.getElem?_eq_some_iff.mp hy).1
      simpa using this
    have hyy : y = .int (cN ns i : Int) := by
      rw [List.getElem?_map, List.getElem?_range hi] at hy
      exact (Option.some.inj hy).symm
    subst hyy
    refine ⟨_, Asg_name hD1 hDO.loc (Bound.sc hDO hscD (by kernel_rfl)), fun P hP _ => ?_⟩
    refine word_turn hD hD1 hDO hscD (k := k) (by omega) hRD (by kernel_rfl) (n := cN ns i) (cell_nat hz (by omega)).2 ((upd_ne (by decide +kernel)).trans ((hs "words" (by decide +kernel)).trans hwx)) (by rw [List.length_map, List.length_range]; omega) (upd_self _ _ _) fun σ₂ s₂ => hP _ _ ⟨?_, ?_⟩
    · rw [Nat.zero_add, List.range_succ, List.map_append]; rfl
    · exact (hs.upd (by decide +kernel)).trans s₂
  case after =>
    obtain ⟨rfl, hs⟩ := hI
    refine ⟨_, rfl, (hs "words" (by decide +kernel)).trans hwx, by show 4 ≤ sizeLine; decide, ?_⟩
    have hbw := hwu σ (.list ((wordsL ns).map .str)) hs (hbx.same hs (by decide +kernel) (by decide +kernel) (by decide +kernel))
    have hww : upd σ "words" (.list ((wordsL ns).map .str)) "words" = some (.list ((wordsL ns).map .str)) := upd_self _ _ _
    have e : ((List.range (0 + ((List.range 4).map fun k => PV.int (cN ns k : Int)).length)).map fun k => PV.str (wordL (cN ns k))) = (wordsL ns).map .str := by
      unfold wordsL; rw [List.map_map]; rfl
    rw [e]
    generalize upd σ "words" (.list ((wordsL ns).map .str)) = σ2 at hbw hww ⊢
    have hbk : (C'.env.blockKind == .function) = true := by unfold Env.blockKind; rw [hsc']; kernel_rfl
    have wordsIt : ∀ {σ : Vars} {p1 p2 : Pos}, σ "words" = some (.list ((wordsL ns).map .str)) → It B C' σ none (.Name "word" p1) (.Name "words" p2) ((wordsL ns).map .str) := fun h =>
      It_list hC' .name (by rw [List.length_map, wordsL_len]; decide) (Ev_name hC' h (by decide +kernel) (by decide +kernel))
    have hwsz : ∀ w ∈ wordsL ns, w.length ≤ 6 := fun w hw => by
      unfold wordsL at hw
      rw [List.mem_map] at hw
      obtain ⟨i, _, rfl⟩ := hw
      exact wordL_len _
    refine Ss_cons ?_
    refine S1_assign (pv := natsV (roomsL ns)) hC' hO' ?e3 (Bound.sc hO' hsc' (by kernel_rfl)) ?_ (swaps_cell (by rw [kind_of hsc' (k := .cell) (by kernel_rfl)]; rfl))
    case e3 =>
      unfold natsV roomsL
      rw [List.map_map]
      refine Ev_comp hC' hcel' (wordsIt hww) ?_ (by rw [hsc']; kernel_rfl)
      refine Lc_map fun w hw => Turn_name hsc' (by kernel_rfl) (by kernel_rfl) fun C'' hC'' hcel'' hA'' hsc'' ow => ⟨rfl, ?_⟩
      have := hwsz w hw
      refine Ev_bi' hA hC'' hsc'' (ps := [.str w]) (Ca_len_str (by omega)) (by kernel_rfl) (by decide +kernel) (by decide +kernel) (by decide +kernel) (Evs_cons ?_ Evs_nil)
      walk_at "ev"
    have hb3 := hbw.upd (n := "rooms") (p := natsV (roomsL ns)) (by decide +kernel) (by decide +kernel) (by decide +kernel)
    have hw3 : upd σ2 "rooms" (natsV (roomsL ns)) "words" = some (.list ((wordsL ns).map .str)) := (upd_ne (by decide +kernel)).trans hww
    have hr3 : upd σ2 "rooms" (natsV (roomsL ns)) "rooms" = some (natsV (roomsL ns)) := upd_self _ _ _
    generalize upd σ2 "rooms" (natsV (roomsL ns)) = σ3 at hb3 hw3 hr3 ⊢
    have hce3 := hb3.cells
    refine Ss_cons ?_
    refine S1_assign_comp hC' hO' hcel' (xs := (List.range 5).map fun (j : Nat) => .int (j : Int)) (ys := (List.range 5).map fun j => .int ((cN ns 4 / 10 ^ j % 10 % 5 : Nat) : Int)) ?it4 ?lc4 (by rw [hsc']; kernel_rfl) (Bound.sc hO' hsc' (by kernel_rfl)) ?_ (swaps_local hbk (by rw [kind_of hsc' (k := .local) (by kernel_rfl)]; rfl) (by kernel_rfl) (by kernel_rfl))
    case it4 =>
      rw [← rangeV_nat 5]
      exact It_range1 hC' (by decide) (by decide) (by walk_at "kind") (hA.free _ (by decide +kernel)) (by rw [hA.bt _ (by decide +kernel)]; decide +kernel) (by decide +kernel) Ev_int
    case lc4 =>
      refine Lc_map fun j hj => Turn_name hsc' (by kernel_rfl) (by kernel_rfl) fun C'' hC'' hcel'' hA'' hsc'' ow => ⟨rfl, ?_⟩
      have hj5 := List.mem_range.mp hj
      have hp : 10 ^ j ≤ 10 ^ 4 := Nat.pow_le_pow_right (by decide) (by omega)
      have hp0 : 0 < 10 ^ j := Nat.pow_pos (by decide)
      show Ev B C'' _ ow _ (.int ((cN ns 4 / 10 ^ j % 10 % 5 : Nat) : Int))
      refine Ev_binop (p := .int ((cN ns 4 / 10 ^ j % 10 : Nat) : Int)) (q := .int ((5 : Nat) : Int)) (Ev_binop (p := .int ((cN ns 4 / 10 ^ j : Nat) : Int)) (q := .int ((10 : Nat) : Int)) (Ev_binop (p := .int (cN ns 4 : Int)) (q := .int ((10 ^ j : Nat) : Int)) (Ev_item (xs := (cellsN ns).map fun (n : Nat) => .int (n : Int)) (k := ((4 : Nat) : Int)) ?_ Ev_nat (by omega) rfl) (Ev_binop (p := .int 10) (q := .int (j : Int)) Ev_int ?_ ?_) ?_) Ev_nat (Bi_modN (by decide))) Ev_nat (Bi_modN (by decide))
      · show Ev B C'' _ ow _ (natsV (cellsN ns))
        walk_at "ev"
      · walk_at "ev"
      · have e : ((10 ^ j : Nat) : Int) = (10 : Int) ^ ((j : Int).toNat) := by rw [Int.toNat_natCast, Int.natCast_pow]; rfl
        rw [e]
        refine Bi_pow (by omega) ?_
        have : (Builtin.Int.intBits 10 : Int) = 4 := by decide +kernel
        rw [this]; omega
      · rw [← fdiv_nat]; exact Bi_div (by omega) (PyProof.noPylong_small (by omega))
    have ewl : PV.list ((List.range 5).map fun j => .int ((cN ns 4 / 10 ^ j % 10 % 5 : Nat) : Int)) = natsV (wishesL ns) := by
      unfold natsV wishesL; rw [List.map_map]; rfl
    rw [ewl]
    have hb4 := hb3.upd (n := "wishes") (p := natsV (wishesL ns)) (by decide +kernel) (by decide +kernel) (by decide +kernel)
    have hw4 : upd σ3 "wishes" (natsV (wishesL ns)) "words" = some (.list ((wordsL ns).map .str)) := (upd_ne (by decide +kernel)).trans hw3
    have hr4 : upd σ3 "wishes" (natsV (wishesL ns)) "rooms" = some (natsV (roomsL ns)) := (upd_ne (by decide +kernel)).trans hr3
    have hi4 : upd σ3 "wishes" (natsV (wishesL ns)) "wishes" = some (natsV (wishesL ns)) := upd_self _ _ _
    generalize upd σ3 "wishes" (natsV (wishesL ns)) = σ4 at hb4 hw4 hr4 hi4 ⊢
    refine Ss_cons (S1_assign (pv := natsV (roomsL ns)) hC' hO' (Ev_name hC' hr4 (by decide +kernel) (by decide +kernel)) (Bound.sc hO' hsc' (by kernel_rfl)) ?_ (by rfl))
    have hb5 := hb4.upd (n := "left") (p := natsV (roomsL ns)) (by decide +kernel) (by decide +kernel) (by decide +kernel)
    have hw5 : upd σ4 "left" (natsV (roomsL ns)) "words" = some (.list ((wordsL ns).map .str)) := (upd_ne (by decide +kernel)).trans hw4
    have hr5 : upd σ4 "left" (natsV (roomsL ns)) "rooms" = some (natsV (roomsL ns)) := (upd_ne (by decide +kernel)).trans hr4
    have hi5 : upd σ4 "left" (natsV (roomsL ns)) "wishes" = some (natsV (wishesL ns)) := (upd_ne (by decide +kernel)).trans hi4
    have hl5 : upd σ4 "left" (natsV (roomsL ns)) "left" = some (natsV (roomsL ns)) := upd_self _ _ _
    generalize upd σ4 "left" (natsV (roomsL ns)) = σ5 at hb5 hw5 hr5 hi5 hl5 ⊢
    refine Ss_cons ?_
    refine S1_assign_comp hC' hO' hcel' (xs := (wordsL ns).map .str) (ys := (wordsL ns).map fun w => .str (46 :: w)) (wordsIt hw5) ?lc6 (by rw [hsc']; kernel_rfl) (Bound.sc hO' hsc' (by kernel_rfl)) ?_ (swaps_local hbk (by rw [kind_of hsc' (k := .local) (by kernel_rfl)]; rfl) (by kernel_rfl) (by kernel_rfl))
    case lc6 =>
      refine Lc_map fun w hw => Turn_name hsc' (by kernel_rfl) (by kernel_rfl) fun C'' hC'' hcel'' hA'' hsc'' ow => ⟨rfl, ?_⟩
      have := hwsz w hw
      refine Ev_binop (p := .str [46]) (q := .str w) (Ev_lit (by kernel_rfl)) ?_ (Bi_add_str (big (by show 1 + w.length ≤ _; omega)))
      walk_at "ev"
    have erw : PV.list ((wordsL ns).map fun w => PV.str (46 :: w)) = .list ((rowsOf ns (roomsL ns)).map .str) := by rw [first_rows, List.map_map]; rfl
    rw [erw]
    refine Ss_cons (S1_assign (pv := .bool true) hC' hO' Ev_true (Bound.sc hO' hsc' (by kernel_rfl)) ?_ (by rfl))
    have hd6 : Ld ns (roomsL ns) (rowsOf ns (roomsL ns)) true (upd (upd σ5 "rows" (.list ((rowsOf ns (roomsL ns)).map .str))) "met" (.bool true)) :=
      ⟨(hb5.upd (by decide +kernel) (by decide +kernel) (by decide +kernel)).upd (by decide +kernel) (by decide +kernel) (by decide +kernel), (upd_ne (by decide +kernel)).trans ((upd_ne (by decide +kernel)).trans hw5), (upd_ne (by decide +kernel)).trans ((upd_ne (by decide +kernel)).trans hr5), (upd_ne (by decide +kernel)).trans ((upd_ne (by decide +kernel)).trans hi5), (upd_ne (by decide +kernel)).trans ((upd_ne (by decide +kernel)).trans hl5), (upd_ne (by decide +kernel)).trans (upd_self _ _ _), upd_self _ _ _⟩
    generalize upd (upd σ5 "rows" (.list ((rowsOf ns (roomsL ns)).map .str))) "met" (.bool true) = σ6 at hd6 ⊢
    refine Ss_cons ?_
    have play : ∀ (left : List Nat) (j : Nat), j < 5 → playN left ((wishesL ns).drop j) = if (wishesL ns).getD j 0 ≤ posN left then playN (nextL left ((wishesL ns).getD j 0)) ((wishesL ns).drop (j + 1)) else none := fun left j hj => by
      have hl := wishesL_len ns
      rw [List.drop_eq_getElem_cons (by omega), playN]
      have : (wishesL ns).getD j 0 = (wishesL ns)[j]'(by omega) := by
        have : j < (wishesL ns).length := by omega
        simp [List.getD, this]
      rw [this]
    refine S1_for hC' (xs := (List.range 5).map fun (j : Nat) => .int (j : Int)) ?it7 ?_
    case it7 =>
      rw [← rangeV_nat 5]
      exact It_range1 hC' (by decide) (by decide) (by walk_at "kind") (hA.free _ (by decide +kernel)) (by rw [hA.bt _ (by decide +kernel)]; decide +kernel) (by decide +kernel) Ev_int
    refine Lp_inv (I := fun j σ ow => ow = none ∧ ∃ left, Ld ns left (rowsOf ns left) true σ ∧ LeftOk ns left ∧ playN (roomsL ns) (wishesL ns) = playN left ((wishesL ns).drop j))
      (K := fun _ σ ow => ow = none ∧ ∃ left, Ld ns left (rowsOf ns left) false σ ∧ LeftOk ns left ∧ playN (roomsL ns) (wishesL ns) = none) _ 0 σ6 none (fun j y hy σ ow hI => ?turn7) ⟨rfl, _, hd6, first_ok ns, rfl⟩ (fun σ ow hI => Ss_nil ?all7) fun j σ ow hK => ?brk7
    case turn7 =>
      rw [Nat.zero_add] at hI ⊢
      obtain ⟨rfl, left, hld, hlo, hplay⟩ := hI
      have hj : j < 5 := by
        have := (List.getElem?_eq_some_iff.mp hy).1
        simpa using this
      have hyy : y = .int (j : Int) := by
        rw [List.getElem?_map, List.getElem?_range hj] at hy
        exact (Option.some.inj hy).symm
      subst hyy
      rw [play left j hj] at hplay
      have hw4 : (wishesL ns).getD j 0 ≤ 4 := by
        have hl := wishesL_len ns
        have : j < (wishesL ns).length := by omega
        simp only [List.getD, List.getElem?_eq_getElem this, Option.getD_some]
        exact wishesL_le ns _ (List.getElem_mem this)
      refine ⟨_, Asg_name hC' hO'.loc (Bound.sc hO' hsc' (by kernel_rfl)), fun P hP hB => ?_⟩
      refine send_turn hD hC' hO' hcel' hsc' hk hR' hz (by kernel_rfl) hj (hld.upd (by decide +kernel)) (upd_self _ _ _) hlo.len hlo.lt (rowsOf_ok hlo) (fun i => rowsOf_small i) (fun hb σ₂ h₂ => hB _ _ ⟨rfl, left, h₂, hlo, ?_⟩) (fun hn σ₂ h₂ => hP _ _ ⟨rfl, nextL left ((wishesL ns).getD j 0), ?_, next_ok hlo, ?_⟩)
      · rw [hplay, if_neg (by omega)]
      · rw [next_rows hlo hw4 hn] at h₂; exact h₂
      · rw [hplay, if_pos hn]
    case all7 =>
      obtain ⟨rfl, left, hld, hlo, hplay⟩ := hI
      refine law_tail hD hC' hO' hcel' hsc' hk hR' (by kernel_rfl) hld hlo ?_
      rw [← met_iff, hplay, List.drop_eq_nil_of_le (by rw [wishesL_len]; simp)]; rfl
    case brk7 =>
      obtain ⟨rfl, left, hld, hlo, hplay⟩ := hK
      refine law_tail hD hC' hO' hcel' hsc' hk hR' (by kernel_rfl) hld hlo ?_
      rw [← met_iff, hplay]; rfl
end
end Mine
end

section
open PySem PySem.W PyProof.Rows PySem.Calls
set_option Elab.async false
set_option linter.unusedVariables false
set_option maxRecDepth 100000
set_option maxHeartbeats 0
namespace Mine
/-! what the top left, read off -/
def dictOf (o : Obj) : Array DictEntry × Nat := match o.data with
  | .dict es ep => (es, ep)
  | _ => (#[], 0)
def entOf (e : DictEntry) : Option (Int × List Nat) := match e.key, e.val with
  | .int i _, .str x t => if e.hash == hashInt i && (decide (t ≠ 0) && decide (t < 2542)) then some (i, x.cps.toList) else none
  | _, _ => none
theorem entOf_some {e : DictEntry} {p : Int × List Nat} (h : entOf e = some p) : ∃ t x u, e.key = .int p.1 t ∧ e.val = .str x u ∧ x.cps.toList = p.2 ∧ e.hash = hashInt p.1 ∧ u ≠ 0 ∧ u < 2542 := by
  unfold entOf at h
  split at h
  · rename_i i t x u hk hv
    split at h
    · rename_i hc
      simp only [Bool.and_eq_true, beq_iff_eq, decide_eq_true_iff] at hc
      cases h
      exact ⟨t, x, u, hk, hv, rfl, hc.1, hc.2.1, hc.2.2⟩
    · cases h
  · cases h
theorem find_told : ∀ (l : List DictEntry) (tab : List (Int × List Nat)), l.map entOf = tab.map some → ∀ k : Int, match tab.lookup k with
    | some x => ∃ t, (l.find? fun e => Value.isInt k e.key).map (·.val) = some (.str ⟨x.toArray⟩ t) ∧ t ≠ 0 ∧ t < 2542
    | none => (l.find? fun e => Value.isInt k e.key).map (·.val) = none
  | [], [], _, _ => rfl
  | e :: l, p :: tab, h, k => by
    rw [List.map_cons, List.map_cons] at h
    injection h with h1 h2
    obtain ⟨t, x, u, e1, e2, e3, e4, e5, e6⟩ := entOf_some h1
    have ih := find_told l tab h2 k
    rw [List.find?_cons]
    have hk : Value.isInt k e.key = (p.1 == k) := by rw [e1]; rfl
    rw [hk]
    obtain ⟨i, y⟩ := p
    rw [List.lookup_cons]
    by_cases hi : i = k
    · subst hi
      simp only [beq_self_eq_true]
      refine ⟨u, ?_, e5, e6⟩
      show some e.val = _
      rw [e2]
      have e3' : x.cps.toList = y := e3
      have : x = ⟨y.toArray⟩ := by rw [← e3']
      rw [this]
    · rw [show (i == k) = false by simpa using hi, show (k == i) = false by simpa using fun h => hi h.symm]
      exact ih
theorem keys_of {prog : Program} {w : World} {es : Array DictEntry} {tab : List (Int × List Nat)} (h : es.toList.map entOf = tab.map some) : KeysOf (intKind prog w) es := by
  intro e he
  have : entOf e ∈ tab.map some := by rw [← h]; exact List.mem_map_of_mem (by simpa using he)
  obtain ⟨p, _, hp⟩ := List.mem_map.mp this
  obtain ⟨t, x, u, e1, _, _, e4, _⟩ := entOf_some hp.symm
  exact ⟨p.1, by show Value.isInt _ _ = true; rw [e1]; simp [Value.isInt], e4⟩
/-- a table of the text's ints and strs, as the top left it -/
theorem table_told {B : Bk} (hlo : B.lo = 2542) (ht : 2542 ≤ B.t₀) {a : Addr} {o : Obj} {tab : List (Int × List Nat)} (ho : B.top.get? a = some o) (hx : o.ExactDict) (hd : o.data = .dict (dictOf o).1 (dictOf o).2) (h : (dictOf o).1.toList.map entOf = tab.map some) :
    ∃ f, B.top.MapOf (intKind B.prog B.w) a f ∧ Told B f fun k => tab.lookup k := by
  refine ⟨fun k => findBy Value.isInt (dictOf o).1 k, ⟨o, _, _, ho, hx, hd, keys_of h, fun k => rfl⟩, fun k => ?_⟩
  have := find_told _ tab h k
  have e : findBy Value.isInt (dictOf o).1 k = ((dictOf o).1.toList.find? fun e => Value.isInt k e.key).map (·.val) := by
    unfold findBy; rw [← Array.find?_toList]
  show match tab.lookup k with
    | some x => ∃ t, findBy Value.isInt (dictOf o).1 k = some (.str ⟨x.toArray⟩ t) ∧ t ≠ 0 ∧ t < B.lo ∧ t < B.t₀
    | none => findBy Value.isInt (dictOf o).1 k = none
  rw [e]
  cases hl : tab.lookup k with
  | none => rw [hl] at this; exact this
  | some x =>
    rw [hl] at this
    obtain ⟨t, h1, h2, h3⟩ := this
    exact ⟨t, h1, h2, by rw [hlo]; exact h3, Nat.lt_of_lt_of_le h3 ht⟩
noncomputable abbrev oB3 : Obj := DO FF.es FF.ep
theorem b3_ents : (dictOf oB3).1.toList.map entOf = (entriesAt 21).map some := by kernel_rfl
theorem b3_data : oB3.data = .dict (dictOf oB3).1 (dictOf oB3).2 := by kernel_rfl
theorem b3_exact : oB3.ExactDict := ⟨by kernel_rfl, by kernel_rfl, by kernel_rfl⟩
/-! the set -/
def ints27 : List Int := [173, 847, 6150, 6155, 6156, 6157, 8203, 8204, 8205, 8288, 65279] ++ (List.range 16).map fun (i : Nat) => 65024 + (i : Int)
def setOf (o : Obj) : Array (Int × Value) × Nat × SetTable := match o.data with
  | .set es ep t => (es, ep, t)
  | _ => (#[], 0, default)
def elemOk (e : Int × Value) : Bool := match e.2 with
  | .int i _ => e.1 == hashInt i && ints27.contains i
  | _ => false
def intV : Value → Int
  | .int i _ => i
  | _ => 0
theorem b1_data (P : Params) : (b1Set P).data = .set (setOf (b1Set P)).1 (setOf (b1Set P)).2.1 (setOf (b1Set P)).2.2 := rfl
theorem b1_elems (P : Params) : ((setOf (b1Set P)).1.toList.all elemOk && ints27.all fun i => (setOf (b1Set P)).1.toList.any fun e => Value.isInt i e.2) = true := by kernel_rfl
theorem b1_size (P : Params) : (setOf (b1Set P)).1.size = 27 := by kernel_rfl
theorem b1_fits (P : Params) : (setOf (b1Set P)).2.2.fits (setOf (b1Set P)).1.size = true := by kernel_rfl
theorem b1_iff (k : Int) : b1Has k = true ↔ k ∈ ints27 := by
  unfold b1Has ints27
  rw [List.mem_append, Bool.or_eq_true, List.contains_iff_mem, Bool.and_eq_true, decide_eq_true_iff, decide_eq_true_iff]
  refine or_congr Iff.rfl ?_
  rw [List.mem_map]
  constructor
  · rintro ⟨h1, h2⟩
    exact ⟨(k - 65024).toNat, List.mem_range.mpr (by omega), by show 65024 + (((k - 65024).toNat : Nat) : Int) = k; omega⟩
  · rintro ⟨i, hi, rfl⟩
    have := List.mem_range.mp hi
    omega
theorem set_told {B : Bk} {a : Addr} {P : Params} (ho : B.top.get? a = some (b1Set P)) : ∃ n, B.top.SetOf (intKind B.prog B.w) a b1Has n := by
  have hb := b1_elems P
  rw [Bool.and_eq_true, List.all_eq_true, List.all_eq_true] at hb
  refine ⟨27, _, _, _, _, ho, ⟨rfl, rfl, rfl⟩, b1_data P, fun e he => ?_, fun k => ?_, by rw [b1_size]; decide, b1_fits P, b1_size P⟩
  · have h := hb.1 e he
    unfold elemOk at h
    split at h
    · rename_i i t hv
      rw [Bool.and_eq_true, beq_iff_eq] at h
      exact ⟨⟨i, by show Value.isInt _ _ = true; rw [hv]; simp [Value.isInt], h.1⟩, by rw [hv]; rfl⟩
    · cases h
  · rw [b1_iff]
    constructor
    · intro hk
      have := hb.2 k hk
      rw [List.any_eq_true] at this
      obtain ⟨e, he, h⟩ := this
      exact ⟨e, he, h⟩
    · rintro ⟨e, he, h⟩
      have h' := hb.1 e he
      unfold elemOk at h'
      split at h'
      · rename_i i t hv
        rw [Bool.and_eq_true, List.contains_iff_mem] at h'
        have hk : Value.isInt k e.2 = true := h
        rw [hv] at hk
        have : i = k := by simpa [Value.isInt] using hk
        rw [← this]; exact h'.2
      · cases h'
/-! the patterns -/
def fieldsV (o : Obj) : Array Value := match o.data with
  | .fields xs => xs
  | _ => #[]
def strV : Value → Str
  | .str x _ => x
  | _ => ""
def tokV : Value → Nat
  | .str _ t => t
  | .int _ t => t
  | _ => 0
def seqV (o : Obj) : Array Value × Nat := match o.data with
  | .seq xs n => (xs, n)
  | _ => (#[], 0)
def patLike (o : Obj) (c : Addr) : Obj := pat (strV ((fieldsV o).getD 0 .none)) (tokV ((fieldsV o).getD 0 .none)) (intV ((fieldsV o).getD 1 .none)) (tokV ((fieldsV o).getD 1 .none)) c
theorem pat_told {h : Heap} {a c : Addr} {o co : Obj} {C : Array Nat} (ho : h.get? a = some o) (hc : h.get? c = some co) (e : o = patLike o c) (hd : co.data = .seq (seqV co).1 (seqV co).2) (hi : ((seqV co).1.map Builtin.Re.reRawOf).map (·.toNat) = C) : IsPat h a C :=
  ⟨_, _, _, _, c, co, _, _, ho.trans (congrArg some e), hc, hd, hi⟩
@[irreducible] noncomputable def objAt (P : Params) (a : Addr) : Obj := match (H₁ P).get? a with
  | some o => o
  | none => { cls := .none, data := .plain }
@[irreducible] noncomputable def crlfV (P : Params) : Option Value := (H₁ P).nsMap mainGlobals (Str.ofString "CRLF")
/-- what stands at the places of the heap -/
structure Stands (P : Params) : Prop where
  objs : [32, 99, 100, 104, 105, 120, 131].map (H₁ P).get? = [some (objAt P 32), some (objAt P 99), some (objAt P 100), some (objAt P 104), some (objAt P 105), some (b1Set P), some oB3]
  ents : (dictOf (objAt P 32)).1.toList.map entOf = (entriesAt 2).map some
  data : (objAt P 32).data = .dict (dictOf (objAt P 32)).1 (dictOf (objAt P 32)).2
  cls : (objAt P 32).cls = .type "dict"
  dict : (objAt P 32).dict = none
  slots : (objAt P 32).slots = #[]
  pat1 : objAt P 100 = patLike (objAt P 100) 99
  pat2 : objAt P 105 = patLike (objAt P 105) 104
  code1 : (objAt P 99).data = .seq (seqV (objAt P 99)).1 (seqV (objAt P 99)).2
  code2 : (objAt P 104).data = .seq (seqV (objAt P 104)).1 (seqV (objAt P 104)).2
  ints1 : ((seqV (objAt P 99)).1.map Builtin.Re.reRawOf).map (·.toNat) = C1
  ints2 : ((seqV (objAt P 104)).1.map Builtin.Re.reRawOf).map (·.toNat) = C2
  crlf : crlfV P = some (.str ⟨[13, 10].toArray⟩ (tokV ((crlfV P).getD .none)))
  tok : (decide (tokV ((crlfV P).getD .none) ≠ 0) && decide (tokV ((crlfV P).getD .none) < 2542)) = true
theorem stands (P : Params) : Stands P := by
  have h : ([32, 99, 100, 104, 105, 120, 131].map (H₁ P).get?, (dictOf (objAt P 32)).1.toList.map entOf, (objAt P 32).data, (objAt P 32).cls, (objAt P 32).dict, (objAt P 32).slots, objAt P 100, objAt P 105, (objAt P 99).data, (objAt P 104).data,
      ((seqV (objAt P 99)).1.map Builtin.Re.reRawOf).map (·.toNat), ((seqV (objAt P 104)).1.map Builtin.Re.reRawOf).map (·.toNat), crlfV P, (decide (tokV ((crlfV P).getD .none) ≠ 0) && decide (tokV ((crlfV P).getD .none) < 2542))) =
    ([some (objAt P 32), some (objAt P 99), some (objAt P 100), some (objAt P 104), some (objAt P 105), some (b1Set P), some oB3], (entriesAt 2).map some, .dict (dictOf (objAt P 32)).1 (dictOf (objAt P 32)).2, .type "dict", none, #[], patLike (objAt P 100) 99, patLike (objAt P 105) 104, .seq (seqV (objAt P 99)).1 (seqV (objAt P 99)).2, .seq (seqV (objAt P 104)).1 (seqV (objAt P 104)).2,
      C1, C2, some (.str ⟨[13, 10].toArray⟩ (tokV ((crlfV P).getD .none))), true) := by kernel_rfl
  simp only [Prod.mk.injEq] at h
  obtain ⟨h1, h2, h3, h4, h5, h6, h7, h8, h9, h10, h11, h12, h13, h14⟩ := h
  exact ⟨h1, h2, h3, h4, h5, h6, h7, h8, h9, h10, h11, h12, h13, h14⟩
end Mine
end

section
open PySem PySem.W PyProof.Rows PySem.Calls
set_option Elab.async false
set_option linter.unusedVariables false
set_option maxRecDepth 100000
set_option maxHeartbeats 0
namespace Mine
abbrev RW : OpenLaw := PySem.Challenge.rw_ta0047_01
theorem law_def : defOf QV RW.row.name = some (dLaw, []) := by kernel_rfl
theorem law_the : RW.row.prog.theDef RW.row.name = some (dLaw.params, dLaw.body, dLaw.scope) := by kernel_rfl
theorem law_kw : kwWritten? dLaw.params.kwonlyargs dLaw.params.kw_defaults = some [] := by kernel_rfl
theorem law_ok : (chainsOk QV && opensWell RW.row.prog && (frees RW.row.toRowW && RW.row.toRowW.within.isEmpty)) = true := by kernel_rfl
/-- a def of the text, as the ground tells it -/
theorem isDef_of {B : Bk} {R : WRecords} {XP : (Str → Option Value) → Heap → Prop} {w : World} {s₀ : Shared} (G : Ground QV looseN R XP w s₀ B.mg B.mb B.top) {n : Str} {d : DefRec} (e : defOf QV n = some (d, [])) (hn : (d.name == n) = true) (h0 : d.params.defaults.isEmpty = true) :
    ∃ a, IsDef B n d a := by
  obtain ⟨a, o, pm, cd, doc, dV, kV, h1, h2, h3, h4, h5⟩ := G.fn e
  have e1 : dV = .none := h5.pos.elim (·.2) fun h => absurd (List.isEmpty_iff.mp h0) h.1
  have e2 : kV = .none := h5.kw.elim (·.2) fun h => absurd rfl h.1
  subst e1 e2
  exact ⟨a, h1, o, pm, cd, doc, h2, h3, h4⟩
theorem d1 : defOf QV "pretty_flags" = some (dFlags, []) := by kernel_rfl
theorem d2 : defOf QV "gt" = some (dGt, []) := by kernel_rfl
theorem d3 : defOf QV "add" = some (dAdd, []) := by kernel_rfl
theorem d4 : defOf QV "and_" = some (dAnd, []) := by kernel_rfl
theorem d5 : defOf QV "lshift" = some (dShl, []) := by kernel_rfl
theorem d6 : defOf QV "sub" = some (dSub, []) := by kernel_rfl
theorem d7 : defOf QV "concat" = some (dConcat, []) := by kernel_rfl
theorem d8 : defOf QV "contains" = some (dContains, []) := by kernel_rfl
theorem d9 : defOf QV "indexOf" = some (dIndexOf, []) := by kernel_rfl
theorem d10 : defOf QV "quotedata" = some (dQuote, []) := by kernel_rfl
theorem d11 : defOf QV "in_table_b1" = some (dInB1, []) := by kernel_rfl
theorem d12 : defOf QV "map_table_b3" = some (dMapB3, []) := by kernel_rfl
theorem d13 : defOf QV "_law_cells" = some (dCells, []) := by kernel_rfl
theorem d14 : defOf QV "_law_names" = some (dNames, []) := by kernel_rfl
theorem d15 : defOf QV "_law_sign" = some (dSign, []) := by kernel_rfl
theorem d16 : defOf QV "_law_chosen" = some (dChosen, []) := by kernel_rfl
theorem d17 : defOf QV "_law_sent" = some (dSent, []) := by kernel_rfl
theorem ns_of {h₀ h₁ : Heap} {a : Addr} {m : Str → Option Value} (k : ∀ b o, h₀.get? b = some o → h₁.get? b = some o) (x : h₀.isNs a = true) (y : h₁.Ns a m) : m = h₀.nsMap a := ns_inj y ((Heap.Ns.of_isNs x).keeps k)
theorem names_none {l : List Str} {f : Str → Option Value} (h : l.map f = l.map fun _ => none) : ∀ n ∈ l, f n = none := by
  induction l with
  | nil => exact fun n hn => nomatch hn
  | cons a l ih =>
    rw [List.map_cons, List.map_cons] at h
    injection h with h1 h2
    intro n hn
    rcases List.mem_cons.mp hn with rfl | hn
    · exact h1
    · exact ih h2 n hn
set_option maxHeartbeats 0 in
/-- all that the walk asks is there -/
theorem data_of {R : WRecords} {XP : (Str → Option Value) → Heap → Prop} {w : World} {s₀ s₁ : Shared} {mg mb : Str → Option Value} (G : Ground QV looseN R XP w s₀ mg mb s₁.heap) (y : Yf s₀ = Ya w) (k : ∀ b o, s₀.heap.get? b = some o → s₁.heap.get? b = some o) (ht : 2542 ≤ s₁.toks) :
    Bk.Data ⟨TW, w, s₁.heap, mg, mb, 2542, s₁.toks⟩ := by
  have St := stands w.params
  have y1 : looseN.map (s₀.heap.nsMap mainGlobals) = [some (.ref 32), some (.ref 100), some (.ref 105), some (.ref 120), some (.ref 131)] := congrArg (fun x => x.1.1) y
  have y2 : [32, 99, 100, 104, 105, 120, 131].map s₀.heap.get? = [some (objAt w.params 32), some (objAt w.params 99), some (objAt w.params 100), some (objAt w.params 104), some (objAt w.params 105), some (b1Set w.params), some oB3] := (congrArg (fun x => x.1.2) y).trans St.objs
  have y3 : s₀.heap.nsMap mainGlobals (Str.ofString "CRLF") = (H₁ w.params).nsMap mainGlobals (Str.ofString "CRLF") := congrArg (fun x => x.2.2.1) y
  have y4 : biNames0.map (s₀.heap.nsMap mainGlobals) = biNames0.map fun _ => none := congrArg (fun x => x.2.2.2.1) y
  have y5 : s₀.heap.isNs mainGlobals = true := congrArg (fun x => x.2.2.2.2.1) y
  have y6 : s₀.heap.nsMap cStatics sharingNotToldKey = none := congrArg (fun x => x.2.2.2.2.2.1) y
  have y7 : s₀.heap.isNs cStatics = true := congrArg (fun x => x.2.2.2.2.2.2) y
  have emg := ns_of k y5 G.T.g
  unfold looseN at y1
  simp only [List.map_cons, List.map_nil, List.cons.injEq, and_true] at y1 y2
  obtain ⟨m1, m2, m3, m4, m5⟩ := y1
  obtain ⟨o32, o99, o100, o104, o105, o120, o131⟩ := y2
  rw [← emg] at m1 m2 m3 m4 m5
  let B : Bk := ⟨TW, w, s₁.heap, mg, mb, 2542, s₁.toks⟩
  have G' : Ground QV looseN R XP w s₀ B.mg B.mb B.top := G
  have hall : B.All := {
    ok := ⟨G.T.g, G.T.b, G.T.nolimit⟩
    free := fun n hn => by
      show mg n = none
      rw [emg]; exact names_none y4 n hn
    bt := fun n hn => G.T.builtins n (by rintro rfl; revert hn; decide +kernel)
    nb := ⟨_, (Heap.Ns.of_isNs y7).keeps k, y6⟩
    dFlags := isDef_of G' d1 (by kernel_rfl) (by kernel_rfl)
    dGt := isDef_of G' d2 (by kernel_rfl) (by kernel_rfl)
    dAdd := isDef_of G' d3 (by kernel_rfl) (by kernel_rfl)
    dAnd := isDef_of G' d4 (by kernel_rfl) (by kernel_rfl)
    dShl := isDef_of G' d5 (by kernel_rfl) (by kernel_rfl)
    dSub := isDef_of G' d6 (by kernel_rfl) (by kernel_rfl)
    dConcat := isDef_of G' d7 (by kernel_rfl) (by kernel_rfl)
    dContains := isDef_of G' d8 (by kernel_rfl) (by kernel_rfl)
    dIndexOf := isDef_of G' d9 (by kernel_rfl) (by kernel_rfl)
    dQuote := isDef_of G' d10 (by kernel_rfl) (by kernel_rfl)
    dInB1 := isDef_of G' d11 (by kernel_rfl) (by kernel_rfl)
    dMapB3 := isDef_of G' d12 (by kernel_rfl) (by kernel_rfl)
    dCells := isDef_of G' d13 (by kernel_rfl) (by kernel_rfl)
    dNames := isDef_of G' d14 (by kernel_rfl) (by kernel_rfl)
    dSign := isDef_of G' d15 (by kernel_rfl) (by kernel_rfl)
    dChosen := isDef_of G' d16 (by kernel_rfl) (by kernel_rfl)
    dSent := isDef_of G' d17 (by kernel_rfl) (by kernel_rfl) }
  obtain ⟨f, hf1, hf2⟩ := table_told (B := B) rfl ht (k _ _ o32) ⟨St.cls, St.dict, St.slots⟩ St.data St.ents
  obtain ⟨g, hg1, hg2⟩ := table_told (B := B) rfl ht (k _ _ o131) b3_exact b3_data b3_ents
  obtain ⟨n, hn⟩ := set_told (B := B) (k _ _ o120)
  have hc := St.crlf
  have hct := St.tok
  have hcv : (H₁ w.params).nsMap mainGlobals (Str.ofString "CRLF") = crlfV w.params := by unfold crlfV; rfl
  rw [Bool.and_eq_true, decide_eq_true_iff, decide_eq_true_iff] at hct
  exact {
    all := hall
    flags := ⟨32, f, m1, by decide +kernel, hf1, fun i => by unfold flagTab; exact hf2 i⟩
    b3 := ⟨131, g, m5, by decide +kernel, hg1, fun i => by unfold b3Tab; exact hg2 i⟩
    b1 := ⟨120, n, m4, hn⟩
    re1 := ⟨100, m2, pat_told (k _ _ o100) (k _ _ o99) St.pat1 St.code1 St.ints1⟩
    re2 := ⟨105, m3, pat_told (k _ _ o105) (k _ _ o104) St.pat2 St.code2 St.ints2⟩
    crlf := ⟨_, by show mg (Str.ofString "CRLF") = _; rw [emg, y3, hcv]; exact hc, hct.1, hct.2, Nat.lt_of_lt_of_le hct.2 ht⟩ }
end Mine
end

section
open PySem PySem.W PyProof.Rows PySem.Calls
set_option Elab.async false
set_option linter.unusedVariables false
set_option maxRecDepth 100000
set_option maxHeartbeats 0
namespace Mine
theorem ints_len {vs : List Value} {ns : List Int} (h : IntsAre vs ns) : vs.length = ns.length := by
  induction h with
  | nil => rfl
  | cons n t _ ih => simp [ih]
theorem ints_rep {O : Fb} {h : Shared} {vs : List Value} {ns : List Int} (hI : IntsAre vs ns) : ∀ (i : Nat) (x : PV) (v : Value), (ns.map PV.int)[i]? = some x → vs[i]? = some v → Rep O h x v := by
  induction hI with
  | nil => intro i x v e _; simp at e
  | cons n t _ ih =>
    intro i x v e e'
    cases i with
    | zero => cases e; cases e'; exact .int
    | succ i => exact ih i x v e e'
theorem the_post (args : List WData) : RW.row.toRowW.claim.post args (.bool true) args = true := by
  have h1 : RW.row.toRowW.post = .eq .res (.lit (.bool true)) := by rfl
  have h2 : RW.row.toRowW.returns = .bool := by rfl
  unfold RowW.claim
  dsimp only
  rw [h1, h2, Bool.and_eq_true]
  refine ⟨?_, ?_⟩
  · first | rfl | (simp [WShape.has, WShape.arms])
  · simp [WTm.holds, WTm.value, same]
theorem the_walk : WalkX QV looseN (fun _ _ => True) Yf Ya RW.row.toRowW dLaw [] fun f vs => PySem.call f vs := by
  intro w s₀ s₁ mg mb G y fa o pm cd doc dV kV ho hd hcd hD hmg hg args vals as L hpre hlay hrd hwl hlo
  have L' := L
  wrow_args hpre hlay hrd hwl hlo
  rename_i ns _ _ _ _ _ as1 as2 a vals as3 hL ra _ r0 hI hr hlt _
  have hz : ns.length ≤ 63 := by omega
  have htk : 2542 ≤ s₁.toks := PySem.W.X.script_toks L (congrArg (fun x => x.2.1) y)
  have hobj := PySem.W.X.script_obj L hL
  have hData := data_of G y L.keeps htk
  have e1 : dV = .none := hD.pos.elim (·.2) fun h => absurd (List.isEmpty_iff.mp (show dLaw.params.defaults.isEmpty = true by kernel_rfl)) h.1
  have e2 : kV = .none := hD.kw.elim (·.2) fun h => absurd rfl h.1
  subst e1 e2
  let B : Bk := ⟨TW, w, s₁.heap, mg, mb, 2542, s₁.toks⟩
  have hB : B.Ok := hData.all.ok
  have hdef : IsDef B dLaw.name dLaw fa := ⟨hmg, o, pm, cd, doc, ho, hd, hcd⟩
  let O : Fb := ⟨[], fun t => t = 0, rfl⟩
  have rep : Rep O s₁ (.list (ns.map .int)) (.ref a) := by
    have hlen := ints_len hI
    have hget := ints_rep (O := O) (h := s₁) hI
    refine .list (items := vals.toArray) (List.not_mem_nil) hobj ?_ (by simp [hlen]) fun i x v e e' => hget i x v e (by simpa using e')
    rw [List.size_toArray, hlen]; exact Nat.le_trans hz (by decide)
  show wpAny (model B.prog B.w) callerA (call (.ref fa) [.ref a]) _ _ s₁
  refine Fn_at hB (k := 400) (ns := ["script"]) (ps := [.list (ns.map .int)]) (r := .bool true) (O := O) hdef rfl (fun pm cd doc vs hv => ?_) (by kernel_rfl) (by decide) (by kernel_rfl) (by kernel_rfl) (by kernel_rfl) (by kernel_rfl) (fun C hCO hC hO hcel hsc hR => ?_) rfl ⟨by decide +kernel, by decide +kernel⟩ (fun t h => .inl h) ⟨fun _ _ e => e, Nat.le_refl _⟩ (.cons rep .nil) ⟨fun _ h => (List.not_mem_nil h).elim, fun t h => by
    have h0 : t = 0 := h
    rw [h0]; exact Nat.lt_of_lt_of_le (by decide) htk⟩ fun v s' kp rv => ?_
  · match vs, hv with
    | [x0], _ => kernel_rfl
  · exact law_walk hData htk hC hO hcel hsc (by rw [hCO]) (k := 401) (by decide) hR hz
  · obtain ⟨h', tk, rfl, hle, hk⟩ := kp
    cases rv
    exact ⟨.inl ⟨.bool true, .bool true, [], rfl, fun _ => rfl,   .bool true, the_post _, fun _ => ⟨List.nodup_nil, fun _ h => (List.not_mem_nil h).elim⟩⟩, .of_keep hk, rfl, .of_eq hg⟩
theorem law_said : RW.wellSaid = true := by kernel_rfl
theorem of_walk (hw : RW.row.toRowW.promised) : RW.Holds := by
  refine holds_law law_said fun said => ?_
  exact PySem.W.holds_openX (q := QV) (loose := looseN) (Xt := fun _ => true) (XP := fun _ _ => True) (Yf := Yf) (Ya := Ya) (N := 60000) left (fun _ _ => trivial) (fun _ _ _ _ _ => trivial) law_def law_the law_kw (fun _ _ => recFacts_of rfl) (by kernel_rfl) said law_ok ⟨rfl, rfl, rfl, rfl, rfl, by decide +kernel⟩ hw the_walk
end Mine
end

open PySem PySem.W PyProof.Rows
set_option maxRecDepth 100000 in
set_option maxHeartbeats 0 in
theorem PySem.Challenge.cw_ta0047_01_holds : PySem.Challenge.rw_ta0047_01.Holds := by
  refine Mine.of_walk ?_
  w_witness2
