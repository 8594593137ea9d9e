import PyProof.Rows.All
import KE.KDictOf
import KE.KEqDeep
import KE.KFinEnd
import KE.KSuperObj
import KE.KRevSl
import KE.KSetDisp
import KE.KSortTup
import OpenK.ZBase
import Wide.FinOn
import PySem.Challenge.RW_ah5017_01
set_option Elab.async false
section
open PySem PySem.Calls PyProof.Rows PySem.W
set_option maxRecDepth 100000
namespace Mine
noncomputable section
/-- the names of a graph's fields -/
def gName : Nat → Str
  | 1 => "_node"
  | 2 => "_adj"
  | 3 => "adj"
  | _ => "graph"
/-- the program's parts -/
def topS (i : Nat) : Stmt := (PySem.Challenge.pw_ah5017_01.main.body)[i]?.getD (.Pass default)
def sBody : Stmt → List Stmt
  | .FunctionDef _ _ b _ _ _ _ _ _ _ => b
  | .ClassDef _ _ _ b _ _ _ _ _ _ _ => b
  | _ => []
def sArgs : Stmt → Arguments
  | .FunctionDef _ a _ _ _ _ _ _ _ _ => a
  | _ => default
def sScope : Stmt → Scope
  | .FunctionDef _ _ _ _ _ _ s _ _ _ => s
  | .ClassDef _ _ _ _ _ _ s _ _ _ _ => s
  | _ => default
def sIn (s : Stmt) (j : Nat) : Stmt := (sBody s)[j]?.getD (.Pass default)
end
end Mine
end
section
open PySem PySem.W PySem.Calls PyProof.Rows
namespace Mine
/-- the opening and the top, run on a tree -/
def importEndsT (tb : String → Option Builtin) (p : Program) (w : World) : Nat → SharedT → Thread → Option SharedT
  | 0, _, _ => none
  | n + 1, s, t => match t.atExitBegin with
    | some [] => some s
    | some (_ :: _) => none
    | none => match stepT (denote tb) p w s t with
      | some (s', t') => importEndsT tb p w n s' t'
      | none => none
def topRunT (tb : String → Option Builtin) (p : Program) (w : World) (n₀ : Nat) (ann : Option Value) : Nat → SharedT → Thread → Option SharedT
  | 0, _, _ => none
  | n + 1, s, t => match through t with
    | true => some s
    | false => match stepOk n₀ ann t with
      | false => none
      | true => match stepT (denote tb) p w s t with
        | some (s', t') => topRunT tb p w n₀ ann n s' t'
        | none => none
section
variable {tb : String → Option Builtin} {p : Program} {w : World} {n₀ : Nat} {ann : Option Value}
theorem importEnds_of : ∀ {n : Nat} {s s' : SharedT} {t : Thread}, importEndsT tb p w n s t = some s' → importEnds tb p w n s.abs t = some s'.abs
  | 0, _, _, _, h => by cases h
  | n + 1, s, s', t, h => by
    unfold importEndsT at h
    unfold importEnds
    cases he : t.atExitBegin with
    | some x =>
      rw [he] at h
      cases x with
      | nil => cases h; rfl
      | cons _ _ => cases h
    | none =>
      rw [he] at h
      dsimp only at h ⊢
      cases hs : stepT (denote tb) p w s t with
      | none => rw [hs] at h; cases h
      | some r => obtain ⟨s₂, t₂⟩ := r; rw [hs] at h; rw [stepT_spec hs]; exact importEnds_of h
theorem topRun_of : ∀ {n : Nat} {s s' : SharedT} {t : Thread}, topRunT tb p w n₀ ann n s t = some s' → topRun tb p w n₀ ann n s.abs t = some s'.abs
  | 0, _, _, _, h => by cases h
  | n + 1, s, s', t, h => by
    unfold topRunT at h
    unfold topRun
    cases he : through t with
    | true => rw [he] at h; cases h; rfl
    | false =>
      rw [he] at h
      dsimp only at h ⊢
      cases hk : stepOk n₀ ann t with
      | false => rw [hk] at h; cases h
      | true =>
        rw [hk] at h
        dsimp only at h ⊢
        cases hs : stepT (denote tb) p w s t with
        | none => rw [hs] at h; cases h
        | some r => obtain ⟨s₂, t₂⟩ := r; rw [hs] at h; rw [stepT_spec hs]; exact topRun_of h
end

/-- one turn of the run, the frequent kinds at once, all others by `gen` -/
noncomputable def turnC (den : Code → Sem Fin) (p : Program) (w : World) (ih gen : SharedT → Thread → Option SharedT) (dn : SharedT → Option SharedT) (s : SharedT) (t : Thread) : Option SharedT := match s with
  | ⟨T, m, life, gens, drawn, toks, os⟩ => match t with
    | ⟨cur, code, pos, stack⟩ => match cur with
      | .rule _ k => ih ⟨T, m, life, gens, drawn, toks, os⟩ ⟨k (), code, pos, stack⟩
      | .at q k => ih ⟨T, m, life, gens, drawn, toks, os⟩ ⟨k (), code, q, stack⟩
      | .point _ k => ih ⟨T, m, life, gens, drawn, toks, os⟩ ⟨k (), code, pos, stack⟩
      | .fresh k => ih ⟨T, m, life, gens, drawn, toks + 1, os⟩ ⟨k toks, code, pos, stack⟩
      | .ask k => ih ⟨T, m, life, gens, drawn, toks, os⟩ ⟨k ⟨p, w.params⟩, code, pos, stack⟩
      | .load a _ k => match Nat.blt a m with
        | true => match T.get a with
          | some o => match alive o with
            | some o' => ih ⟨T, m, life, gens, drawn, toks, os⟩ ⟨k o', code, pos, stack⟩
            | none => none
          | none => none
        | false => none
      | .loadIfAlive a k => match Nat.blt a m with
        | true => match T.get a with
          | some o => ih ⟨T, m, life, gens, drawn, toks, os⟩ ⟨k (alive o), code, pos, stack⟩
          | none => none
        | false => ih ⟨T, m, life, gens, drawn, toks, os⟩ ⟨k none, code, pos, stack⟩
      | .alloc o k => match ((T.ins m o).get m).isSome with
        | true => ih ⟨T.ins m o, m + 1, life, gens, drawn, toks, os⟩ ⟨k m, code, pos, stack⟩
        | false => none
      | .call c h g l k => ih ⟨T, m, life, gens, drawn, toks, os⟩ ⟨den c, c, pos, .ret k h g l code pos (match c, code with
          | .builtin _ a, _ => unmarked a.refs
          | .call f a, .builtin .. | .call f a, .call .. => unmarked (if l.contains borrowed then a.refs else f :: a.refs)
          | _, _ => []) :: stack⟩
      | .pure x => match x with
        | .done f => match stack with
          | [] => dn ⟨T, m, life, gens, drawn, toks, os⟩
          | .ret k _ _ _ c q _ :: rest => ih ⟨T, m, life, gens, drawn, toks, os⟩ ⟨k (.ok f), c, q, rest⟩
          | .gen .. :: _ => none
        | .again c => gen ⟨T, m, life, gens, drawn, toks, os⟩ ⟨.pure (.again c), code, pos, stack⟩
      | c => gen ⟨T, m, life, gens, drawn, toks, os⟩ ⟨c, code, pos, stack⟩
noncomputable def topC (tb : String → Option Builtin) (p : Program) (w : World) (n₀ : Nat) (ann : Option Value) (n : Nat) : SharedT → Thread → Option SharedT :=
  Nat.rec (motive := fun _ => SharedT → Thread → Option SharedT) (fun _ _ => none) (fun _ ih => turnC (denote tb) p w ih (fun s t => match stepOk n₀ ann t with
      | false => none
      | true => match stepT (denote tb) p w s t with
        | some (s', t') => ih s' t'
        | none => none) (fun s => some s)) n
noncomputable def importC (tb : String → Option Builtin) (p : Program) (w : World) (n : Nat) : SharedT → Thread → Option SharedT :=
  Nat.rec (motive := fun _ => SharedT → Thread → Option SharedT) (fun _ _ => none) (fun _ ih => turnC (denote tb) p w ih (fun s t => match t.atExitBegin with
      | some [] => some s
      | some (_ :: _) => none
      | none => match stepT (denote tb) p w s t with
        | some (s', t') => ih s' t'
        | none => none) (fun _ => none)) n
section
variable {tb : String → Option Builtin} {p : Program} {w : World} {n₀ : Nat} {ann : Option Value}
theorem topC_gen {n : Nat} {s s' : SharedT} {t : Thread} (ih : ∀ {s s' : SharedT} {t : Thread}, topC tb p w n₀ ann n s t = some s' → topRunT tb p w n₀ ann n s t = some s') (ht : through t = false)
    (h : (match stepOk n₀ ann t with
      | false => none
      | true => match stepT (denote tb) p w s t with
        | some (s', t') => topC tb p w n₀ ann n s' t'
        | none => none) = some s') : topRunT tb p w n₀ ann (n + 1) s t = some s' := by
  unfold topRunT
  rw [ht]
  dsimp only
  cases hk : stepOk n₀ ann t with
  | false => rw [hk] at h; cases h
  | true =>
    rw [hk] at h
    dsimp only at h ⊢
    cases hs : stepT (denote tb) p w s t with
    | none => rw [hs] at h; cases h
    | some r => obtain ⟨s₂, t₂⟩ := r; rw [hs] at h; exact ih h
theorem topC_go {n : Nat} {s s' s₁ : SharedT} {t t₁ : Thread} (ih : ∀ {s s' : SharedT} {t : Thread}, topC tb p w n₀ ann n s t = some s' → topRunT tb p w n₀ ann n s t = some s') (ht : through t = false) (hk : stepOk n₀ ann t = true)
    (hs : stepT (denote tb) p w s t = some (s₁, t₁)) (h : topC tb p w n₀ ann n s₁ t₁ = some s') : topRunT tb p w n₀ ann (n + 1) s t = some s' := by
  unfold topRunT
  rw [ht, hk]
  dsimp only
  rw [hs]
  exact ih h
theorem topC_of : ∀ {n : Nat} {s s' : SharedT} {t : Thread}, topC tb p w n₀ ann n s t = some s' → topRunT tb p w n₀ ann n s t = some s'
  | 0, _, _, _, h => by cases h
  | n + 1, ⟨T, m, life, gens, drawn, toks, os⟩, s', ⟨cur, code, pos, stack⟩, h => by
    have ih : ∀ {s s' : SharedT} {t : Thread}, topC tb p w n₀ ann n s t = some s' → topRunT tb p w n₀ ann n s t = some s' := fun h => topC_of h
    have h : turnC (denote tb) p w (topC tb p w n₀ ann n) (fun s t => match stepOk n₀ ann t with
      | false => none
      | true => match stepT (denote tb) p w s t with
        | some (s', t') => topC tb p w n₀ ann n s' t'
        | none => none) (fun s => some s) ⟨T, m, life, gens, drawn, toks, os⟩ ⟨cur, code, pos, stack⟩ = some s' := h
    unfold turnC at h
    cases cur with
    | pure x =>
      cases x with
      | done f =>
        cases stack with
        | nil => exact h
        | cons fr r =>
          cases fr with
          | ret k a b c d e f => exact topC_go ih rfl rfl rfl h
          | gen => cases h
      | again c => exact topC_gen ih (by simp [through]) h
    | rule | «at» | point | fresh | ask | call => exact topC_go ih (by simp [through]) rfl rfl h
    | load a x k =>
      dsimp only at h
      split at h
      · rename_i q1
        split at h
        · rename_i o q2
          split at h
          · rename_i o' q3
            exact topC_go ih (by simp [through]) rfl (by unfold stepT; dsimp only; rw [q1]; dsimp only; rw [q2]; dsimp only; rw [q3]) h
          · cases h
        · cases h
      · cases h
    | loadIfAlive a k =>
      dsimp only at h
      split at h
      · rename_i q1
        split at h
        · rename_i o q2
          exact topC_go ih (by simp [through]) rfl (by unfold stepT; dsimp only; rw [q1]; dsimp only; rw [q2]) h
        · cases h
      · rename_i q1
        exact topC_go ih (by simp [through]) rfl (by unfold stepT; dsimp only; rw [q1]) h
    | alloc o k =>
      dsimp only at h
      split at h
      · rename_i q1
        exact topC_go ih (by simp [through]) rfl (by unfold stepT; dsimp only; rw [q1]) h
      · cases h
    | _ => exact topC_gen ih (by simp [through]) h
theorem importC_gen {n : Nat} {s s' : SharedT} {t : Thread} (ih : ∀ {s s' : SharedT} {t : Thread}, importC tb p w n s t = some s' → importEndsT tb p w n s t = some s')
    (h : (match t.atExitBegin with
      | some [] => some s
      | some (_ :: _) => none
      | none => match stepT (denote tb) p w s t with
        | some (s', t') => importC tb p w n s' t'
        | none => none) = some s') : importEndsT tb p w (n + 1) s t = some s' := by
  unfold importEndsT
  cases q : t.atExitBegin with
  | some l =>
    rw [q] at h
    cases l with
    | nil => exact h
    | cons => cases h
  | none =>
    rw [q] at h
    dsimp only at h ⊢
    cases hs : stepT (denote tb) p w s t with
    | none => rw [hs] at h; cases h
    | some r => obtain ⟨s₂, t₂⟩ := r; rw [hs] at h; exact ih h
theorem importC_go {n : Nat} {s s' s₁ : SharedT} {t t₁ : Thread} (ih : ∀ {s s' : SharedT} {t : Thread}, importC tb p w n s t = some s' → importEndsT tb p w n s t = some s') (ht : t.atExitBegin = none)
    (hs : stepT (denote tb) p w s t = some (s₁, t₁)) (h : importC tb p w n s₁ t₁ = some s') : importEndsT tb p w (n + 1) s t = some s' := by
  unfold importEndsT
  rw [ht]
  dsimp only
  rw [hs]
  exact ih h
theorem importC_of : ∀ {n : Nat} {s s' : SharedT} {t : Thread}, importC tb p w n s t = some s' → importEndsT tb p w n s t = some s'
  | 0, _, _, _, h => by cases h
  | n + 1, ⟨T, m, life, gens, drawn, toks, os⟩, s', ⟨cur, code, pos, stack⟩, h => by
    have ih : ∀ {s s' : SharedT} {t : Thread}, importC tb p w n s t = some s' → importEndsT tb p w n s t = some s' := fun h => importC_of h
    have h : turnC (denote tb) p w (importC tb p w n) (fun s t => match t.atExitBegin with
      | some [] => some s
      | some (_ :: _) => none
      | none => match stepT (denote tb) p w s t with
        | some (s', t') => importC tb p w n s' t'
        | none => none) (fun _ => none) ⟨T, m, life, gens, drawn, toks, os⟩ ⟨cur, code, pos, stack⟩ = some s' := h
    unfold turnC at h
    cases cur with
    | pure x =>
      cases x with
      | done f =>
        cases stack with
        | nil => cases h
        | cons fr r =>
          cases fr with
          | ret k a b c d e f => exact importC_go ih rfl rfl h
          | gen => cases h
      | again c => exact importC_gen ih h
    | rule | «at» | point | fresh | ask | call => exact importC_go ih rfl rfl h
    | load a x k =>
      dsimp only at h
      split at h
      · rename_i q1
        split at h
        · rename_i o q2
          split at h
          · rename_i o' q3
            exact importC_go ih rfl (by unfold stepT; dsimp only; rw [q1]; dsimp only; rw [q2]; dsimp only; rw [q3]) h
          · cases h
        · cases h
      · cases h
    | loadIfAlive a k =>
      dsimp only at h
      split at h
      · rename_i q1
        split at h
        · rename_i o q2
          exact importC_go ih rfl (by unfold stepT; dsimp only; rw [q1]; dsimp only; rw [q2]) h
        · cases h
      · rename_i q1
        exact importC_go ih rfl (by unfold stepT; dsimp only; rw [q1]) h
    | alloc o k =>
      dsimp only at h
      split at h
      · rename_i q1
        exact importC_go ih rfl (by unfold stepT; dsimp only; rw [q1]) h
      · cases h
    | _ => exact importC_gen ih h
end

/-- a tree out of a list -/
def treeGo : BT → Nat → List Obj → Option (BT × Nat)
  | t, n, [] => some (t, n)
  | t, n, o :: r => match ((t.ins n o).get n).isSome with
    | true => treeGo (t.ins n o) (n + 1) r
    | false => none
theorem treeGo_abs {life : Life} : ∀ {r : List Obj} {t t' : BT} {n n' : Nat}, treeGo t n r = some (t', n') → absHeap t' n' life = ⟨(absHeap t n life).objs ++ r.toArray, life⟩
  | [], t, t', n, n', h => by
    cases h
    show absHeap t n life = ⟨(absHeap t n life).objs ++ #[], life⟩
    rw [Array.append_empty]; rfl
  | o :: r, t, t', n, n', h => by
    unfold treeGo at h
    cases g : ((t.ins n o).get n).isSome with
    | false => rw [g] at h; cases h
    | true =>
      rw [g] at h
      dsimp only at h
      rw [treeGo_abs h, absHeap_ins g]
      have e : ((absHeap t n life).push o).objs = (absHeap t n life).objs.push o := rfl
      rw [e]
      congr 1
      apply Array.ext'
      simp
def treeOf (s : Shared) : Option SharedT := match treeGo .nil 0 s.heap.objs.toList with
  | some (t, n) => some ⟨t, n, s.heap.life, s.gens, s.drawn, s.toks, s.os⟩
  | none => none
theorem treeOf_abs {s : Shared} {s' : SharedT} (h : treeOf s = some s') : s'.abs = s := by
  unfold treeOf at h
  split at h
  · rename_i t n e
    cases h
    obtain ⟨⟨objs, life⟩, gens, drawn, toks, os⟩ := s
    have := treeGo_abs (life := life) e
    show (⟨absHeap t n life, gens, drawn, toks, os⟩ : Shared) = _
    rw [this]
    congr 2
    apply Array.ext'
    simp [absHeap, BT.list]
  · cases h

/-- the objects, one by one -/
def forceL {β : Type} : List Obj → (List Obj → β) → β
  | [], k => k []
  | o :: r, k => match o with
    | ⟨a, b, c, d⟩ => forceL r fun l => k (⟨a, b, c, d⟩ :: l)
theorem forceL_eq {β : Type} : ∀ (l : List Obj) (k : List Obj → β), forceL l k = k l
  | [], _ => rfl
  | ⟨_, _, _, _⟩ :: r, k => forceL_eq r _

/-- a look at the heap through its tree -/
noncomputable def getT (T : BT) (n a : Nat) : Option Obj := match Nat.blt a n with
  | true => alive ((T.get a).getD default)
  | false => none
theorem getT_eq (T : BT) (n : Nat) (life : Life) : (absHeap T n life).get? = getT T n := by
  funext a
  unfold getT
  cases e : Nat.blt a n with
  | true =>
    have lt : a < n := Nat.le_of_ble_eq_true e
    dsimp only
    unfold Heap.get?
    rw [absHeap_at, if_pos lt]
    generalize (T.get a).getD default = o
    obtain ⟨c, d, dt, sl⟩ := o
    cases dt <;> rfl
  | false =>
    have lt : ¬ a < n := fun h => by
      have := Nat.ble_eq_true_of_le h
      rw [show Nat.ble a.succ n = Nat.blt a n from rfl, e] at this
      cases this
    exact abs_get_none lt
noncomputable def runH {β : Type} (tb : String → Option Builtin) (p : Program) (w : World) (N : Nat) (f : (Nat → Option Obj) → Shared → β) : Option β :=
  match treeOf (start (opening p)).1 with
  | none => none
  | some s0 => match importC tb (opening p) w N s0 (start (opening p)).2 with
    | none => none
    | some s1 => forceL (s1.tree.list s1.n) fun l1 => match fenceModules? p ⟨⟨l1.toArray, s1.life⟩, s1.gens, s1.drawn, s1.toks, s1.os⟩ with
      | none => none
      | some s2 => match treeOf s2 with
        | none => none
        | some s3 => match s2.heap.isNs mainGlobals && s2.gens.size == 0 with
          | false => none
          | true => match topC tb p w s2.heap.objs.size (s2.heap.nsMap mainGlobals "__annotations__") N s3 (topStub p) with
            | none => none
            | some s4 => forceL (s4.tree.list s4.n) fun l4 => match staticsOk (importedModules p.main.body) s2.heap ⟨l4.toArray, s4.life⟩ && namesBound p ⟨l4.toArray, s4.life⟩ && gensDone ⟨⟨l4.toArray, s4.life⟩, s4.gens, s4.drawn, s4.toks, s4.os⟩ && laidKept s2.heap ⟨l4.toArray, s4.life⟩ with
              | true => some (f (getT s4.tree s4.n) ⟨⟨l4.toArray, s4.life⟩, s4.gens, s4.drawn, s4.toks, s4.os⟩)
              | false => none
theorem runH_of {β : Type} {tb : String → Option Builtin} {p : Program} {w : World} {N : Nat} {f : (Nat → Option Obj) → Shared → β} {x : β} (h : runH tb p w N f = some x) : (openEnds tb p w N).map (fun s => f s.heap.get? s) = some x := by
  unfold runH at h
  split at h
  · cases h
  · rename_i s0 e0
    split at h
    · cases h
    · rename_i s1 e1
      rw [forceL_eq] at h
      split at h
      · cases h
      · rename_i s2 e2
        split at h
        · cases h
        · rename_i s3 e3
          split at h
          · cases h
          · rename_i e4
            split at h
            · cases h
            · rename_i s4 e5
              rw [forceL_eq] at h
              split at h
              · rename_i e6
                unfold openEnds fencedOpening
                have h1 := importEnds_of (importC_of e1)
                rw [treeOf_abs e0] at h1
                rw [h1]
                have e2 : fenceModules? p s1.abs = some s2 := e2
                show (((some s1.abs).bind (fenceModules? p)).bind (topFrom tb p w N)).map (fun s => f s.heap.get? s) = some x
                rw [Option.bind_some, e2, Option.bind_some]
                have h5 := topRun_of (topC_of e5)
                rw [treeOf_abs e3] at h5
                unfold topFrom
                rw [e4]
                dsimp only
                rw [h5, Option.bind_some]
                have e6 : (staticsOk (importedModules p.main.body) s2.heap s4.abs.heap && namesBound p s4.abs.heap && gensDone s4.abs && laidKept s2.heap s4.abs.heap) = true := e6
                rw [e6]
                show some (f s4.abs.heap.get? s4.abs) = some x
                rw [show s4.abs.heap.get? = getT s4.tree s4.n from getT_eq _ _ _]
                exact h
              · cases h
end Mine
end
section
open PySem PySem.Calls PyProof.Rows PySem.W
set_option maxRecDepth 100000
set_option linter.unusedSimpArgs false
set_option linter.unusedVariables false
namespace Mine
noncomputable section
/-- some of the heap's objects -/
def fragOf (l : List Addr) (g : Nat → Option Obj) : Frag := l.filterMap fun a => (g a).map fun o => (a, o)
theorem fragOf_in {l : List Addr} {h : Heap} : (fragOf l h.get?).In h := by
  intro a o e
  unfold fragOf at e
  induction l with
  | nil => cases e
  | cons b l ih =>
    rw [List.filterMap_cons] at e
    cases q : h.get? b with
    | none => rw [q] at e; exact ih e
    | some ob =>
      rw [q] at e
      dsimp only [Option.map] at e
      rw [List.lookup_cons] at e
      split at e
      · rename_i q2
        cases e
        rw [eq_of_beq q2]
        exact q
      · exact ih e
def cG : Addr := 906
def cA : Addr := 410
def cV : Addr := 388
/-- the state of the property's own dict -/
def stChk (K : Frag) (nm : Str) (p : Value → Bool) : Bool := match K.lookup 720 with
  | some ox => decide (ox.cls = .ref 691) && notCls ox && (match ox.dict with
    | some dx => (match K.lookup dx with
      | some od => (match findObj K 691 (some od) nm with
        | some (.value v) => p v && handedIn v
        | _ => false)
      | none => false)
    | none => false) && plainGet K 691 nm
  | none => false
def isAdj : Value → Bool
  | .str x _ => decide (x = ("adj" : Str))
  | _ => false
def viewChk (K : Frag) (C : Addr) : Bool :=
  plainGet K C "_atlas" && isClsIn K C && decide (findIn K (.ref C) "_atlas" = some (some (.ref 389))) && decide (specialIn K (.ref 389) "__get__" = some (some (.builtin "member_descriptor.__get__"))) &&
  decide (takesIn K (.ref 389) = some true) && decide (slotIn K 389 C = some 0) && decide (findIn K (.ref C) "__setattr__" = some (some (.builtin "object.__setattr__"))) && plainOver K C &&
  decide (takerIn K C "_atlas" = some (some (.ref 389))) && decide (typeIn K (.ref 389) = some (.type "member_descriptor")) && keepIn K (.ref C) && makesIn K C && decide (findIn K (.ref C) "__init__" = some (some (.ref 349)))
def facChk (K : Frag) (nm : Str) : Bool := decide (findIn K (.ref cG) nm = some (some (.type "dict"))) && !copiedNames.contains nm
def methChk (K : Frag) (C : Addr) (nm : Str) (f : Addr) : Bool := decide (findIn K (.ref C) nm = some (some (.ref f))) && fnIn K f && isFn K (.ref f)
def dicChk (K : Frag) : Bool := match recIn K 907 "getset_descriptor" with
  | some [.str _ _, .ref C, .builtin g, _] => decide (C = cG) && decide (g = "function.__dict__")
  | _ => false
def kChk (K : Frag) : Bool :=
  plainGet K cG "_node" && plainGet K cG "_adj" && plainGet K cG "graph" && hasDictIn K cG && decide (findIn K (.ref cG) "_node" = some none) && decide (findIn K (.ref cG) "_adj" = some none) && decide (findIn K (.ref cG) "graph" = some none) &&
  decide (findIn K (.ref cG) "__setattr__" = some (some (.builtin "object.__setattr__"))) && plainOver K cG && decide (takerIn K cG (gName 1) = some none) && decide (takerIn K cG (gName 2) = some none) && decide (takerIn K cG (gName 3) = some none) && decide (takerIn K cG (gName 4) = some none) &&
  decide (findIn K (.ref cG) "__getattribute__" = some (some (.builtin "object.__getattribute__"))) && decide (findIn K (.ref cG) "__getattr__" = some none) &&
  facChk K "graph_attr_dict_factory" && facChk K "node_dict_factory" && facChk K "adjlist_outer_dict_factory" && facChk K "adjlist_inner_dict_factory" && facChk K "node_attr_dict_factory" && facChk K "edge_attr_dict_factory" &&
  viewChk K cA && viewChk K cV && decide (typeIn K (.ref 349) = some (.type "function")) &&
  keepIn K (.ref cG) && makesIn K cG && decide (findIn K (.ref cG) "__init__" = some (some (.ref 711))) && decide (typeIn K (.ref 711) = some (.type "function")) &&
  methChk K cA "__getitem__" 406 && methChk K cV "__iter__" 363 && methChk K cG "__getitem__" 749 &&
  decide (findIn K (.ref cG) "__contains__" = some (some (.ref 735))) && isFn K (.ref 735) &&
  plainGet K cG "adj" && decide (findIn K (.ref cG) "adj" = some (some (.ref 720))) && decide (specialIn K (.ref 720) "__get__" = some (some (.ref 681))) && decide (takesIn K (.ref 720) = some false) &&
  stChk K "attrname" isAdj && stChk K "func" (fun v => decide (v = .ref 718)) && decide (findIn K (.ref 691) "func" = some none) && keepIn K (.ref 718) &&
  plainGet K cG "__dict__" && (clsIn K cG).isSome && decide (findIn K (.ref cG) "__dict__" = some (some (.ref 907))) && decide (specialIn K (.ref 907) "__get__" = some (some (.builtin "getset_descriptor.__get__"))) && decide (takesIn K (.ref 907) = some true) && dicChk K &&
  decide (mroIn K cG (.ref cG) = some true) && decide (mroIn K cG (.type "staticmethod") = some false) && decide (mroIn K cG (.type "classmethod") = some false) && decide (nsIn K cStatics "_thread.count" = some none) &&
  decide (findIn K (.ref cG) "add_edges_from" = some (some (.ref 808))) && decide (typeIn K (.ref 808) = some (.type "function")) && keepIn K (.ref 808) && keepIn K (.ref 153) && keepIn K (.ref 327) && keepIn K (.ref 334)
/-- a name of the top -/
def gOf (h : Heap) (x : Str) : Option Value := h.nsMap mainGlobals x
def gChk (h : Heap) : Bool :=
  decide (gOf h "predecessor" = some (.ref 153)) && decide (gOf h "all_shortest_paths" = some (.ref 327)) && decide (gOf h "_build_paths_from_predecessors" = some (.ref 334)) && decide (gOf h "AtlasView" = some (.ref cV)) && decide (gOf h "AdjacencyView" = some (.ref cA)) &&
  decide (gOf h "_NOT_FOUND" = some (.ref 652)) && decide (gOf h "Graph" = some (.ref cG)) && decide (gOf h "_law_rest" = some (.ref 915)) && decide (gOf h "law" = some (.ref 920)) &&
  (["len", "range", "tuple", "list", "sorted", "iter", "min", "max", "zip"] : List Str).all fun x => decide (gOf h x = none)
def tupOf (h : Nat → Option Obj) (a : Addr) : Option (List Value) := match h a with
  | some ⟨.type "tuple", none, .seq items _, ⟨[]⟩⟩ => some items.toList
  | _ => none
def codeChk (h : Nat → Option Obj) (cd : Value) (q : Str) : Bool := match cd with
  | .ref c => (match h c with
    | some ⟨_, _, .fields vs, _⟩ => (match (vs.toList[1]? : Option Value) with
      | some (.str x _) => decide (x = q)
      | _ => false)
    | _ => false)
  | _ => false
def fnChk (h : Nat → Option Obj) (fa : Addr) (df : Value → Bool) : Bool := match h fa with
  | some ⟨_, _, .func fd, _⟩ => codeChk h fd.code fd.qualname && fd.closure.isEmpty && decide (fd.globals = mainGlobals) && decide (fd.builtins = builtinsNs) && df fd.defaults && decide (fd.kwdefaults = .none)
  | _ => false
def fnObs (h : Nat → Option Obj) (fa : Addr) : Option (Arguments × FuncBody × Scope) := match h fa with
  | some ⟨_, _, .func fd, _⟩ => some (fd.params, fd.body, fd.scope)
  | _ => none
def noDf (v : Value) : Bool := decide (v = .none)
def tupDf (h : Nat → Option Obj) (p : List Value → Bool) : Value → Bool
  | .ref T => (match tupOf h T with
    | some l => p l
    | none => false)
  | _ => false
def isDij : List Value → Bool
  | [.none, .str x _] => decide (x = ("dijkstra" : Str))
  | _ => false
def isRest : List Value → Bool
  | [.int a _, .int b _, .int c _] => decide (a = 0) && decide (b = 17) && decide (c = 5)
  | _ => false
def fChk (h : Nat → Option Obj) : Bool :=
  fnChk h 153 (tupDf h fun l => decide (l = [.none, .none, .none])) && fnChk h 327 (tupDf h isDij) && fnChk h 334 noDf && fnChk h 349 noDf && fnChk h 363 noDf && fnChk h 406 noDf && fnChk h 681 (tupDf h fun l => decide (l = [.none])) &&
  fnChk h 718 noDf && fnChk h 735 noDf && fnChk h 749 noDf && fnChk h 711 (tupDf h fun l => decide (l = [.none])) && fnChk h 808 noDf && fnChk h 920 noDf && (match tupOf h 915 with | some l => isRest l | none => false)
def fnList : List (Addr × Stmt) := [(153, topS 12), (327, topS 32), (334, topS 33), (349, sIn (topS 35) 1), (363, sIn (topS 35) 3), (406, sIn (topS 36) 1), (681, sIn (topS 46) 2), (718, sIn (topS 48) 7), (735, sIn (topS 48) 9), (749, sIn (topS 48) 11), (711, sIn (topS 48) 6), (808, sIn (topS 48) 19), (920, topS 51)]
def lawAddrs : List Addr := [2, 153, 327, 334, 349, 363, 387, 388, 389, 406, 409, 410, 690, 691, 711, 718, 719, 720, 735, 749, 808, 905, 906, 907]
def headObs (g : Nat → Option Obj) (s : Shared) : Bool × List (Option (Arguments × FuncBody × Scope)) := (kChk (fragOf lawAddrs g) && gChk s.heap && fChk g, fnList.map fun p => fnObs g p.1)
def headVal : Bool × List (Option (Arguments × FuncBody × Scope)) := (true, fnList.map fun p => some (sArgs p.2, .stmts (sBody p.2), sScope p.2))
end
end Mine
end
section
open PySem PySem.W PyProof.Rows
set_option maxRecDepth 100000
set_option maxHeartbeats 8000000
namespace Mine
def lawIdx : List Nat := [0, 1, 2, 4, 5, 6, 7, 8, 9, 10, 16, 19, 20, 21, 22, 23, 24, 33, 35, 36, 39, 40, 41, 42, 43, 45, 46, 48, 50, 51]
def lawQ : Program := { PySem.Challenge.pw_ah5017_01 with main := { PySem.Challenge.pw_ah5017_01.main with body := lawIdx.filterMap fun i => PySem.Challenge.pw_ah5017_01.main.body[i]? } }
def lawLoose : List Str := ["predecessor", "selfloop_edges", "_dijkstra", "islice", "count", "_dijkstra_multisource", "dijkstra_predecessor_and_distance", "bellman_ford_predecessor_and_distance", "_bellman_ford", "_inner_bellman_ford", "all_shortest_paths", "AtlasView", "AdjacencyView", "_nbunch_iter", "NodeView", "OutEdgeDataView", "EdgeDataView", "OutEdgeView", "EdgeView", "_NOT_FOUND", "cached_property", "Graph"]
def lawXt (s : Shared) : Bool := xlAt lawQ [] s && recOk (RowW.records PySem.Challenge.rw_ah5017_01.row.toRowW) s
noncomputable def hdF (w : World) := runH treeTable PySem.Challenge.pw_ah5017_01 w 16458 (fun g s => (openSeen lawQ lawLoose (importedModules PySem.Challenge.pw_ah5017_01.main.body) lawXt true s, headObs g s))
def hdX := (openGood lawQ lawLoose, headVal)
lay_quick Mine.hdF Mine.hdX
end Mine
end
section
open PySem PySem.W PyProof.Rows
set_option maxRecDepth 100000
set_option maxHeartbeats 8000000
namespace Mine
theorem hdG (w : World) : PySem.W.Fast.tw4873721803562956122 w = some PySem.W.Fast.tw18151241998202552448 := by kernel_rfl
theorem hdL (w : World) : hdF w = some hdX := by
  have := hdG w
  rw [← PySem.W.Fast.te4873721803562956122, ← PySem.W.Fast.te18151241998202552448] at this
  exact this
end Mine
end
section
open PySem PyProof.Rows
set_option maxRecDepth 20000
set_option linter.unusedSimpArgs false
set_option linter.unusedVariables false
namespace Mine

/-- no run makes the heap shorter -/
theorem runs_size {M : Model} {Γ : Ctx} {p : Pos} {t : Sem Fin} {fs : List Frame} {s s' : Shared} {e : End} (h : Runs M Γ p t fs s e s') : s.heap.objs.size ≤ s'.heap.objs.size := by
  induction h <;> (try simp only [Shared.setGen, Heap.size_push, Heap.size_after_update] at *) <;> omega
theorem wakes_size {M : Model} {Γ : Ctx} {p : Pos} {g : Nat} {r : Resume} {s s' : Shared} {res : GenResult} (h : Wakes M Γ p g r s res s') : s.heap.objs.size ≤ s'.heap.objs.size := by
  unfold Wakes at h
  split at h
  · exact h.elim
  · split at h
    · obtain ⟨_, s₁, hr, _, _, rfl⟩ := h; exact (runs_size hr : (s.setGen g .running).heap.objs.size ≤ s₁.heap.objs.size)
    · rw [h.2]; exact Nat.le_refl _
    · rw [h.2]; exact Nat.le_refl _
  · obtain ⟨_, s₁, hr, _, _, rfl⟩ := h; exact (runs_size hr : (s.setGen g .running).heap.objs.size ≤ s₁.heap.objs.size)
  · rw [h.2]; exact Nat.le_refl _
  · rw [h.2]; exact Nat.le_refl _

theorem wp_size {α : Type} (M : Model) (Γ : Ctx) (n : Nat) (t : Sem α) : ∀ (Q : α → Pos → Shared → Prop) (E : Value → Pos → Shared → Prop) (p : Pos) (s : Shared), n ≤ s.heap.objs.size → Sem.wp M Γ t Q E p s →
    Sem.wp M Γ t (fun a p' s' => n ≤ s'.heap.objs.size ∧ Q a p' s') (fun e p' s' => n ≤ s'.heap.objs.size ∧ E e p' s') p s := by
  induction t with
  | pure | raise => exact fun _ _ _ _ hn h => ⟨hn, h⟩
  | unsupported | finish | register | «yield» | fork | await => exact fun _ _ _ _ _ h => h
  | rule _ k ih | «at» _ k ih | loadIfAlive _ k ih | point _ k ih | fresh k ih | ask k ih | os _ _ k ih | handled _ k ih | newGen _ k ih | stack k ih | thread k ih => exact fun Q E p s hn h => ih _ Q E _ _ hn h
  | alloc o k ih => exact fun Q E p s hn h => ih _ Q E p _ (by rw [Heap.size_push]; omega) h
  | load a _ k ih | genState a k ih => exact fun Q E p s hn ⟨o, ho, h⟩ => ⟨o, ho, ih _ Q E p s hn h⟩
  | update a _ f k ih => exact fun Q E p s hn h => ⟨h.1, ih _ Q E p _ (by rw [Heap.size_after_update]; exact hn) h.2⟩
  | choose src m k ih => exact fun Q E p s hn h => ⟨h.1, ih _ Q E p _ hn h.2⟩
  | call c hd _ _ k ih => exact fun Q E p s hn ⟨r, s', hr, h⟩ => ⟨r, s', hr, ih r Q E p s' (Nat.le_trans hn (runs_size hr)) h⟩
  | resume g r _ k ih => exact fun Q E p s hn ⟨res, s', hw, h⟩ => ⟨res, s', hw, ih res Q E p s' (Nat.le_trans hn (wakes_size hw)) h⟩

section
variable {α : Type} {M : Model} {A : Around} {s : Shared}
theorem with_size {t : Sem α} {Q : α → Shared → Prop} {E : Value → Shared → Prop} (h : wpAny M A t (fun a s' => s.heap.objs.size ≤ s'.heap.objs.size → Q a s') (fun e s' => s.heap.objs.size ≤ s'.heap.objs.size → E e s') s) : wpAny M A t Q E s :=
  wpAny_mono (fun Γ p hΓ => wp_size M Γ s.heap.objs.size t _ _ p s (Nat.le_refl _) (h Γ p hΓ) : wpAny M A t (fun a s' => s.heap.objs.size ≤ s'.heap.objs.size ∧ (s.heap.objs.size ≤ s'.heap.objs.size → Q a s')) (fun e s' => s.heap.objs.size ≤ s'.heap.objs.size ∧ (s.heap.objs.size ≤ s'.heap.objs.size → E e s')) s)
    (fun _ _ x => x.2 x.1) fun _ _ x => x.2 x.1
end
end Mine
end
section
open PySem PyProof.Rows
set_option maxRecDepth 20000
namespace Mine

/-- abstract values: tuples and ranges by value, symbolic ints, mutable objects by index -/
inductive V where
  | none | bool (b : Bool) | int (i : Int) | nm (k : Nat) | str (s : Str)
  | bi (id : String) | ty (n : String) | st (a : Addr)
  | ob (i : Nat) | tup (vs : List V) | rng (a b c : Int)
  | d0 | d1 | d2 | sh (k : Int)
  | slc (lo hi st : Option Int)

/-- the numbers of a case: the group, the number of places, the target -/
structure Cfg where
  r : Int
  N : Int
  t : Int

structure Par where
  prog : Program
  w : World
  h₀ : Heap
  D0 : Int
  D1 : Int
  D2 : Int
  c : Cfg
  e0 : Int.fmod D0 5 = c.r
  e1 : Int.fmod D1 c.N = c.t
  mg : Str → Option Value
  mb : Str → Option Value
  g : h₀.Ns mainGlobals mg
  b : h₀.Ns builtinsNs mb
  nolimit : h₀.NoLimit
  K : PySem.W.Frag
  kin : K.In h₀
  CG : Addr
  CA : Addr
  CV : Addr

abbrev Par.N (P : Par) : Int := P.c.N

def Par.nu (P : Par) (k : Nat) : Int := Int.fmod ((k : Int) + P.D2) P.N

def Par.num (P : Par) : V → Option Int
  | .int i => some i
  | .nm k => if (k : Int) < P.c.N then some (P.nu k) else Option.none
  | .d0 => some P.D0
  | .d1 => some P.D1
  | .d2 => some P.D2
  | .sh k => some (k + P.D2)
  | _ => Option.none

abbrev TupAt (h : Heap) (a : Addr) (items : Array Value) : Prop := ∃ n, h.get? a = some { cls := .type "tuple", data := .seq items n }
abbrev RngAt (h : Heap) (r : Addr) (a b c : Int) : Prop := ∃ t u v, IsRange h r a b c t u v

abbrev SlcAt (h : Heap) (a : Addr) (lo hi st : Option Int) : Prop := ∃ l u v o, h.get? a = some o ∧ o.cls = .type "slice" ∧ o.data = .fields #[l, u, v] ∧ IsPart l lo ∧ IsPart u hi ∧ IsPart v st

mutual
inductive VR (P : Par) (h : Heap) (ρ : List Addr) : V → Value → Prop
  | none : VR P h ρ .none .none
  | bool (b : Bool) : VR P h ρ (.bool b) (.bool b)
  | num {v : V} {i : Int} (t : Tok) : P.num v = some i → VR P h ρ v (.int i t)
  | str (x : Str) (t : Tok) : VR P h ρ (.str x) (.str x t)
  | bi (id : String) : VR P h ρ (.bi id) (.builtin id)
  | ty (n : String) : VR P h ρ (.ty n) (.type n)
  | st (a : Addr) : VR P h ρ (.st a) (.ref a)
  | ob {i : Nat} {a : Addr} : ρ[i]? = some a → VR P h ρ (.ob i) (.ref a)
  | tup {vs : List V} {a : Addr} {items : Array Value} : TupAt h a items → VRs P h ρ vs items.toList → VR P h ρ (.tup vs) (.ref a)
  | rng {a b c : Int} {r : Addr} : RngAt h r a b c → VR P h ρ (.rng a b c) (.ref r)
  | slc {lo hi st : Option Int} {a : Addr} : SlcAt h a lo hi st → VR P h ρ (.slc lo hi st) (.ref a)
inductive VRs (P : Par) (h : Heap) (ρ : List Addr) : List V → List Value → Prop
  | nil : VRs P h ρ [] []
  | cons {v : V} {v' : Value} {vs : List V} {vs' : List Value} : VR P h ρ v v' → VRs P h ρ vs vs' → VRs P h ρ (v :: vs) (v' :: vs')
end

/-- a binary trie keyed by numbers -/
inductive T (α : Type) where
  | nil
  | node (v : Option α) (l r : T α)
namespace T
variable {α : Type}
noncomputable def get (t : T α) : Nat → Option α :=
  T.rec (motive := fun _ => Nat → Option α) (fun _ => none)
    (fun v _ _ gl gr i => Bool.rec (motive := fun _ => Option α) (Bool.rec (motive := fun _ => Option α) (gr (Nat.sub (Nat.div i 2) 1)) (gl (Nat.div i 2)) (Nat.beq (Nat.mod i 2) 1)) v (Nat.beq i 0)) t
noncomputable def put (n : Nat) : T α → Nat → α → T α :=
  Nat.rec (motive := fun _ => T α → Nat → α → T α) (fun t _ _ => t) (fun _ pt t i o =>
    T.rec (motive := fun _ => T α)
      (Bool.rec (motive := fun _ => T α) (Bool.rec (motive := fun _ => T α) (T.node none T.nil (pt T.nil (Nat.sub (Nat.div i 2) 1) o)) (T.node none (pt T.nil (Nat.div i 2) o) T.nil) (Nat.beq (Nat.mod i 2) 1)) (T.node (some o) T.nil T.nil) (Nat.beq i 0))
      (fun v l r _ _ => Bool.rec (motive := fun _ => T α) (Bool.rec (motive := fun _ => T α) (T.node v l (pt r (Nat.sub (Nat.div i 2) 1) o)) (T.node v (pt l (Nat.div i 2) o) r) (Nat.beq (Nat.mod i 2) 1)) (T.node (some o) l r) (Nat.beq i 0)) t) n
theorem put_zero (t : T α) (i : Nat) (o : α) : put 0 t i o = t := rfl
theorem put_nil (n i : Nat) (o : α) : put (n + 1) .nil i o = match Nat.beq i 0 with
    | true => .node (some o) .nil .nil
    | false => match Nat.beq (i % 2) 1 with
      | true => .node none (put n .nil (i / 2) o) .nil
      | false => .node none .nil (put n .nil (i / 2 - 1) o) := by
  show Bool.rec (motive := fun _ => T α) _ _ (Nat.beq i 0) = _
  cases Nat.beq i 0 with
  | true => rfl
  | false =>
    show Bool.rec (motive := fun _ => T α) _ _ (Nat.beq (i % 2) 1) = _
    cases Nat.beq (i % 2) 1 <;> rfl
theorem put_node (n i : Nat) (o : α) (v : Option α) (l r : T α) : put (n + 1) (.node v l r) i o = match Nat.beq i 0 with
    | true => .node (some o) l r
    | false => match Nat.beq (i % 2) 1 with
      | true => .node v (put n l (i / 2) o) r
      | false => .node v l (put n r (i / 2 - 1) o) := by
  show Bool.rec (motive := fun _ => T α) _ _ (Nat.beq i 0) = _
  cases Nat.beq i 0 with
  | true => rfl
  | false =>
    show Bool.rec (motive := fun _ => T α) _ _ (Nat.beq (i % 2) 1) = _
    cases Nat.beq (i % 2) 1 <;> rfl
theorem beq_eq (a b : Nat) : Nat.beq a b = decide (a = b) := by
  cases h : Nat.beq a b with
  | true => simp [Nat.eq_of_beq_eq_true h]
  | false => simp [Nat.ne_of_beq_eq_false h]
theorem get_node (v : Option α) (l r : T α) (i : Nat) : (node v l r).get i = if i = 0 then v else if i % 2 = 1 then l.get (i / 2) else r.get (i / 2 - 1) := by
  show Bool.rec (motive := fun _ => Option α) (Bool.rec (motive := fun _ => Option α) (r.get (i / 2 - 1)) (l.get (i / 2)) (Nat.beq (i % 2) 1)) v (Nat.beq i 0) = _
  rw [beq_eq, beq_eq]
  by_cases h : i = 0
  · simp [h]
  · by_cases q : i % 2 = 1 <;> simp [h, q]
theorem get_nil (i : Nat) : (nil : T α).get i = none := rfl
theorem put_other : ∀ (n : Nat) (t : T α) (i j : Nat) (o : α), j ≠ i → (put n t i o).get j = t.get j
  | 0, _, _, _, _, _ => rfl
  | n + 1, .nil, i, j, o, hj => by
    rw [put_nil]
    rw [beq_eq, beq_eq]
    by_cases h0 : i = 0
    · subst h0
      simp only [decide_true]
      rw [get_node, if_neg hj]
      split <;> rfl
    · rw [decide_eq_false h0]
      by_cases p : i % 2 = 1
      · rw [decide_eq_true p]
        rw [get_node]
        by_cases j0 : j = 0
        · rw [if_pos j0]; rfl
        · rw [if_neg j0]
          by_cases q : j % 2 = 1
          · rw [if_pos q, put_other n .nil _ _ o (by omega)]; rfl
          · rw [if_neg q]; rfl
      · rw [decide_eq_false p]
        rw [get_node]
        by_cases j0 : j = 0
        · rw [if_pos j0]; rfl
        · rw [if_neg j0]
          by_cases q : j % 2 = 1
          · rw [if_pos q]; rfl
          · rw [if_neg q, put_other n .nil _ _ o (by omega)]; rfl
  | n + 1, .node v l r, i, j, o, hj => by
    rw [put_node]
    rw [beq_eq, beq_eq]
    by_cases h0 : i = 0
    · subst h0
      simp only [decide_true]
      rw [get_node, get_node, if_neg hj, if_neg hj]
    · rw [decide_eq_false h0]
      by_cases p : i % 2 = 1
      · rw [decide_eq_true p]
        rw [get_node, get_node]
        by_cases j0 : j = 0
        · rw [if_pos j0, if_pos j0]
        · rw [if_neg j0, if_neg j0]
          by_cases q : j % 2 = 1
          · rw [if_pos q, if_pos q, put_other n l _ _ o (by omega)]
          · rw [if_neg q, if_neg q]
      · rw [decide_eq_false p]
        rw [get_node, get_node]
        by_cases j0 : j = 0
        · rw [if_pos j0, if_pos j0]
        · rw [if_neg j0, if_neg j0]
          by_cases q : j % 2 = 1
          · rw [if_pos q, if_pos q]
          · rw [if_neg q, if_neg q, put_other n r _ _ o (by omega)]
theorem put_self : ∀ (n : Nat) (t : T α) (i : Nat) (o : α) (x : α), (put n t i o).get i = some x → x = o ∨ t.get i = some x
  | 0, _, _, _, _, h => .inr h
  | n + 1, .nil, i, o, x, h => by
    rw [put_nil] at h
    rw [beq_eq, beq_eq] at h
    by_cases h0 : i = 0
    · subst h0
      simp only [decide_true] at h
      rw [get_node, if_pos rfl] at h
      exact .inl (Option.some.inj h).symm
    · rw [decide_eq_false h0] at h
      by_cases p : i % 2 = 1
      · rw [decide_eq_true p] at h
        rw [get_node, if_neg h0, if_pos p] at h
        rcases put_self n .nil _ o x h with h | h
        · exact .inl h
        · cases h
      · rw [decide_eq_false p] at h
        rw [get_node, if_neg h0, if_neg p] at h
        rcases put_self n .nil _ o x h with h | h
        · exact .inl h
        · cases h
  | n + 1, .node v l r, i, o, x, h => by
    rw [put_node] at h
    rw [beq_eq, beq_eq] at h
    rw [get_node]
    by_cases h0 : i = 0
    · subst h0
      simp only [decide_true] at h
      rw [get_node, if_pos rfl] at h
      exact .inl (Option.some.inj h).symm
    · rw [decide_eq_false h0] at h
      rw [if_neg h0]
      by_cases p : i % 2 = 1
      · rw [decide_eq_true p] at h
        rw [get_node, if_neg h0, if_pos p] at h
        rw [if_pos p]
        exact put_self n l _ o x h
      · rw [decide_eq_false p] at h
        rw [get_node, if_neg h0, if_neg p] at h
        rw [if_neg p]
        exact put_self n r _ o x h
theorem put_get : ∀ (n : Nat) (t : T α) (i : Nat) (o : α), i < 2 ^ n - 1 → (put n t i o).get i = some o
  | 0, _, _, _, h => by simp at h
  | n + 1, .nil, i, o, h => by
    have e : 2 ^ (n + 1) = 2 * 2 ^ n := by rw [Nat.pow_succ]; omega
    have hp : 0 < 2 ^ n := Nat.pow_pos (by decide)
    rw [put_nil]
    rw [beq_eq, beq_eq]
    by_cases h0 : i = 0
    · subst h0; simp [get_node]
    · rw [decide_eq_false h0]
      by_cases p : i % 2 = 1
      · rw [decide_eq_true p, get_node, if_neg h0, if_pos p]
        exact put_get n .nil _ o (by omega)
      · rw [decide_eq_false p, get_node, if_neg h0, if_neg p]
        exact put_get n .nil _ o (by omega)
  | n + 1, .node v l r, i, o, h => by
    have e : 2 ^ (n + 1) = 2 * 2 ^ n := by rw [Nat.pow_succ]; omega
    have hp : 0 < 2 ^ n := Nat.pow_pos (by decide)
    rw [put_node]
    rw [beq_eq, beq_eq]
    by_cases h0 : i = 0
    · subst h0; simp [get_node]
    · rw [decide_eq_false h0]
      by_cases p : i % 2 = 1
      · rw [decide_eq_true p, get_node, if_neg h0, if_pos p]
        exact put_get n l _ o (by omega)
      · rw [decide_eq_false p, get_node, if_neg h0, if_neg p]
        exact put_get n r _ o (by omega)
end T

inductive O where
  | lst (vs : List V)
  | dI (kvs : List (V × V)) (ep : Nat)
  | dT (kvs : List (List V × V))
  | li (l : Nat) (i : Nat)
  | cell (v : Option V)
  | set (v : V)
  | gr (d : Nat)
  | gd (kvs : List (Nat × V))
  | vw (b : Bool) (d : Nat) (v : V)
  | nw (b : Bool) (d : Nat)
  | ki (d i n ep : Nat)
  | dead

structure Hp where
  t : T O
  n : Nat

noncomputable def Hp.get (hp : Hp) (i : Nat) : Option O := hp.t.get i
noncomputable def Hp.upd (hp : Hp) (i : Nat) (o : O) : Hp := ⟨hp.t.put 12 i o, hp.n⟩
noncomputable def Hp.push (hp : Hp) (o : O) : Hp := ⟨hp.t.put 12 hp.n o, hp.n + 1⟩

/-- optional values -/
def OV (P : Par) (h : Heap) (ρ : List Addr) : Option V → Option Value → Prop
  | none, none => True
  | some v, some v' => VR P h ρ v v'
  | _, _ => False

inductive KVI (P : Par) (h : Heap) (ρ : List Addr) : List (V × V) → List (Int × Value) → Prop
  | nil : KVI P h ρ [] []
  | cons {k v : V} {i : Int} {v' : Value} {r : List (V × V)} {r' : List (Int × Value)} : P.num k = some i → VR P h ρ v v' → KVI P h ρ r r' → KVI P h ρ ((k, v) :: r) ((i, v') :: r')

def Par.nums (P : Par) : List V → Option (List Int)
  | [] => some []
  | v :: r => match P.num v, P.nums r with
    | some i, some l => some (i :: l)
    | _, _ => none

inductive KVT (P : Par) (h : Heap) (ρ : List Addr) : List (List V × V) → List (List Int × Addr × Value) → Prop
  | nil : KVT P h ρ [] []
  | cons {k : List V} {v : V} {ks : List Int} {a : Addr} {v' : Value} {r : List (List V × V)} {r' : List (List Int × Addr × Value)} :
      P.nums k = some ks → (∃ items, TupAt h a items ∧ VRs P h ρ k items.toList) → VR P h ρ v v' → KVT P h ρ r r' → KVT P h ρ ((k, v) :: r) ((ks, a, v') :: r')

/-- the entries of a graph's own dict -/
inductive KVS (P : Par) (h : Heap) (ρ : List Addr) : List (Nat × V) → List DictEntry → Prop
  | nil : KVS P h ρ [] []
  | cons {k : Nat} {v : V} {e : DictEntry} {t : Tok} {r : List (Nat × V)} {r' : List DictEntry} : k = 1 ∨ k = 2 ∨ k = 3 ∨ k = 4 → e.key = .str (gName k) t → e.hash = hashStr P.w (gName k) → VR P h ρ v e.val → KVS P h ρ r r' → KVS P h ρ ((k, v) :: r) (e :: r')

abbrev Par.ik (P : Par) : KeyKind P.prog P.w Int := intKind P.prog P.w
abbrev Par.tk (P : Par) : HeapKind P.prog P.w (List Int) := tupleKind (intKind P.prog P.w)

def OR (P : Par) (h : Heap) (ρ : List Addr) (a : Addr) : O → Prop
  | .lst vs => ∃ items n, IsL h a items n ∧ VRs P h ρ vs items.toList
  | .dI kvs ep => ∃ kvs', h.DictAt P.ik a kvs' ep ∧ KVI P h ρ kvs kvs'
  | .dT kvs => ∃ xs, h.DictOfH P.tk a xs ∧ KVT P h ρ kvs xs
  | .li l i => ∃ b, ρ[l]? = some b ∧ h.IsListIter a b i
  | .cell v => ∃ v', h.IsCell a v' ∧ OV P h ρ v v'
  | .set v => ∃ i, P.num v = some i ∧ h.SetOf P.ik a (fun k => decide (k = i)) 1
  | .gr d => ∃ b, ρ[d]? = some b ∧ h.get? a = some { cls := .ref P.CG, dict := some b, data := .plain }
  | .gd kvs => ∃ es ep sl, h.get? a = some { cls := .type "dict", data := .dict es ep, slots := sl } ∧ KVS P h ρ kvs es.toList
  | .vw b d v => ∃ dx v', ρ[d]? = some dx ∧ h.get? a = some { cls := .ref (bif b then P.CA else P.CV), dict := some dx, data := .plain, slots := #[some v'] } ∧ VR P h ρ v v'
  | .nw b d => ∃ dx, ρ[d]? = some dx ∧ h.get? a = some { cls := .ref (bif b then P.CA else P.CV), dict := some dx, data := .plain }
  | .ki d i n ep => ∃ b, ρ[d]? = some b ∧ h.IsKeyIter a b i n ep
  | .dead => True

/-- the immutable things stay -/
def ImmO (o : Obj) : Prop := (o.cls = .type "tuple" ∧ ∃ xs n, o.data = .seq xs n) ∨ (o.cls = .type "range" ∧ ∃ vs, o.data = .fields vs) ∨ (o.cls = .type "slice" ∧ ∃ vs, o.data = .fields vs)
theorem ImmO.not_cls {o : Obj} (h1 : o.cls ≠ .type "tuple") (h2 : o.cls ≠ .type "range") (h3 : o.cls ≠ .type "slice") : ¬ ImmO o := fun x => by
  rcases x with x | x | x
  · exact h1 x.1
  · exact h2 x.1
  · exact h3 x.1
theorem ImmO.not_dict {o : Obj} {es n} (h : o.data = .dict es n) : ¬ ImmO o := fun x => by
  rcases x with ⟨_, _, _, e⟩ | ⟨_, _, e⟩ | ⟨_, _, e⟩ <;> (rw [h] at e; cases e)
theorem ImmO.not_cell {o : Obj} {v} (h : o.data = .cell v) : ¬ ImmO o := fun x => by
  rcases x with ⟨_, _, _, e⟩ | ⟨_, _, e⟩ | ⟨_, _, e⟩ <;> (rw [h] at e; cases e)
def Imm (h h' : Heap) : Prop := ∀ b o, ImmO o → h.get? b = some o → h'.get? b = some o
theorem Imm.refl (h : Heap) : Imm h h := fun _ _ _ e => e
theorem Imm.trans {a b c : Heap} (x : Imm a b) (y : Imm b c) : Imm a c := fun p o k e => y p o k (x p o k e)
theorem Imm.of {h h' : Heap} (k : ∀ b o, h.get? b = some o → h'.get? b = some o) : Imm h h' := fun b o _ e => k b o e
theorem Imm.same {h h' : Heap} {a : Addr} (hs : Heap.ExtBut a h h') (hn : ∀ o, h.get? a = some o → ¬ ImmO o) : Imm h h' := fun b o k e => by
  refine hs b o ?_ e
  rintro rfl
  exact hn o e k
theorem TupAt.imm {h h' : Heap} {a : Addr} {items : Array Value} (i : Imm h h') (x : TupAt h a items) : TupAt h' a items :=
  let ⟨n, e⟩ := x; ⟨n, i _ _ (.inl ⟨rfl, _, _, rfl⟩) e⟩
theorem RngAt.imm {h h' : Heap} {r : Addr} {a b c : Int} (i : Imm h h') (x : RngAt h r a b c) : RngAt h' r a b c :=
  let ⟨t, u, v, e⟩ := x; ⟨t, u, v, i _ _ (.inr (.inl ⟨rfl, _, rfl⟩)) e⟩
theorem SlcAt.imm {h h' : Heap} {a : Addr} {lo hi st : Option Int} (i : Imm h h') (x : SlcAt h a lo hi st) : SlcAt h' a lo hi st :=
  let ⟨l, u, v, o, e, c, d, r⟩ := x; ⟨l, u, v, o, i _ _ (.inr (.inr ⟨c, _, d⟩)) e, c, d, r⟩

theorem pre_get {ρ ρ' : List Addr} (hp : ρ <+: ρ') {i : Nat} {a : Addr} (e : ρ[i]? = some a) : ρ'[i]? = some a := by
  obtain ⟨l, rfl⟩ := hp
  rw [List.getElem?_append_left (List.getElem?_eq_some_iff.mp e).1]; exact e

mutual
theorem VR.mono {P : Par} {h h' : Heap} {ρ ρ' : List Addr} (hi : Imm h h') (hp : ρ <+: ρ') {v : V} {v' : Value} (x : VR P h ρ v v') : VR P h' ρ' v v' := by
  cases x with
  | none => exact .none
  | bool b => exact .bool b
  | num t e => exact .num t e
  | str x t => exact .str x t
  | bi id => exact .bi id
  | ty n => exact .ty n
  | st a => exact .st a
  | ob e => exact .ob (pre_get hp e)
  | tup e r => exact .tup (e.imm hi) (VRs.mono hi hp r)
  | rng e => exact .rng (e.imm hi)
  | slc e => exact .slc (e.imm hi)
theorem VRs.mono {P : Par} {h h' : Heap} {ρ ρ' : List Addr} (hi : Imm h h') (hp : ρ <+: ρ') {vs : List V} {vs' : List Value} (x : VRs P h ρ vs vs') : VRs P h' ρ' vs vs' := by
  cases x with
  | nil => exact .nil
  | cons a r => exact .cons (VR.mono hi hp a) (VRs.mono hi hp r)
end

section
variable {P : Par} {h h' : Heap} {ρ ρ' : List Addr}
theorem OV.mono (hi : Imm h h') (hp : ρ <+: ρ') {v : Option V} {v' : Option Value} (x : OV P h ρ v v') : OV P h' ρ' v v' := by
  cases v <;> cases v' <;> first | exact trivial | exact x.elim | exact VR.mono hi hp x
theorem KVI.mono (hi : Imm h h') (hp : ρ <+: ρ') {l : List (V × V)} {l' : List (Int × Value)} (x : KVI P h ρ l l') : KVI P h' ρ' l l' := by
  induction x with
  | nil => exact .nil
  | cons a b _ ih => exact .cons a (b.mono hi hp) ih
theorem KVT.mono (hi : Imm h h') (hp : ρ <+: ρ') {l : List (List V × V)} {l' : List (List Int × Addr × Value)} (x : KVT P h ρ l l') : KVT P h' ρ' l l' := by
  induction x with
  | nil => exact .nil
  | cons a b c _ ih =>
    obtain ⟨items, e, r⟩ := b
    exact .cons a ⟨items, e.imm hi, r.mono hi hp⟩ (c.mono hi hp) ih
theorem KVS.mono (hi : Imm h h') (hp : ρ <+: ρ') {l : List (Nat × V)} {l' : List DictEntry} (x : KVS P h ρ l l') : KVS P h' ρ' l l' := by
  induction x with
  | nil => exact .nil
  | cons a b c d _ ih => exact .cons a b c (d.mono hi hp) ih
theorem DictOfH.imm {h h' : Heap} {a : Addr} {xs : List (List Int × Addr × Value)} (hi : Imm h h') (hk : ∀ o, h.get? a = some o → h'.get? a = some o) (x : h.DictOfH P.tk a xs) : h'.DictOfH P.tk a xs := by
  obtain ⟨o, es, ep, ho, hc, hd, he, hx, hn⟩ := x
  refine ⟨o, es, ep, hk o ho, hc, hd, he, fun y hy => ?_, hn⟩
  obtain ⟨ob, items, n, hb, hcl, hdt, hit⟩ := hx y hy
  exact ⟨ob, items, n, hi _ _ (.inl ⟨hcl, _, _, hdt⟩) hb, hcl, hdt, hit⟩
theorem OR.mono (hi : Imm h h') (hp : ρ <+: ρ') {a : Addr} (hk : ∀ o, h.get? a = some o → h'.get? a = some o) {o : O} (x : OR P h ρ a o) : OR P h' ρ' a o := by
  cases o with
  | lst vs => obtain ⟨items, n, ho, e⟩ := x; exact ⟨items, n, hk _ ho, e.mono hi hp⟩
  | dI kvs ep => obtain ⟨kvs', ⟨ob, es, ho, r⟩, e⟩ := x; exact ⟨kvs', ⟨ob, es, hk _ ho, r⟩, e.mono hi hp⟩
  | dT kvs => obtain ⟨xs, d, e⟩ := x; exact ⟨xs, DictOfH.imm hi hk d, e.mono hi hp⟩
  | li l i => obtain ⟨b, e, ob, ho, r⟩ := x; exact ⟨b, pre_get hp e, ob, hk _ ho, r⟩
  | cell v => obtain ⟨v', ⟨ob, ho, r⟩, e⟩ := x; exact ⟨v', ⟨ob, hk _ ho, r⟩, e.mono hi hp⟩
  | set v => obtain ⟨i, e, ob, es, ep, t, ho, r⟩ := x; exact ⟨i, e, ob, es, ep, t, hk _ ho, r⟩
  | gr d => obtain ⟨b, e, ho⟩ := x; exact ⟨b, pre_get hp e, hk _ ho⟩
  | gd kvs => obtain ⟨es, ep, sl, ho, e⟩ := x; exact ⟨es, ep, sl, hk _ ho, e.mono hi hp⟩
  | vw b d v => obtain ⟨dx, v', hd, ho, e⟩ := x; exact ⟨dx, v', pre_get hp hd, hk _ ho, e.mono hi hp⟩
  | nw b d => obtain ⟨dx, hd, ho⟩ := x; exact ⟨dx, pre_get hp hd, hk _ ho⟩
  | ki d i n ep => obtain ⟨b, e, ob, ho, r⟩ := x; exact ⟨b, pre_get hp e, ob, hk _ ho, r⟩
  | dead => trivial
end

/-- what holds of the abstract heap -/
structure HI (P : Par) (ρ : List Addr) (hp : Hp) (s : Shared) : Prop where
  base : ∀ b o, P.h₀.get? b = some o → s.heap.get? b = some o
  len : ρ.length = hp.n
  le : hp.n ≤ 4000
  nodup : ρ.Nodup
  new : ∀ a ∈ ρ, P.h₀.objs.size ≤ a ∧ a < s.heap.objs.size
  sz : P.h₀.objs.size ≤ s.heap.objs.size
  objs : ∀ i o, hp.get i = some o → ∃ a, ρ[i]? = some a ∧ OR P s.heap ρ a o

/-- what a piece of the run may do -/
structure Step (own : List Addr) (ρ : List Addr) (s : Shared) (ρ' : List Addr) (s' : Shared) : Prop where
  pre : ρ <+: ρ'
  fresh : ∀ a ∈ ρ', a ∈ ρ ∨ s.heap.objs.size ≤ a
  imm : Imm s.heap s'.heap
  keep : ∀ b o, s.heap.get? b = some o → b ∉ ρ → b ∉ own → s'.heap.get? b = some o
  size : s.heap.objs.size ≤ s'.heap.objs.size
  gens : ∃ l, s'.gens.toList = s.gens.toList ++ l ∧ ∀ x ∈ l, x.bare = true
  os : s'.os = s.os

section
variable {P : Par} {own : List Addr} {ρ ρ₁ ρ₂ : List Addr} {s s₁ s₂ : Shared}
theorem Step.refl : Step own ρ s ρ s := ⟨List.prefix_refl _, fun _ h => .inl h, .refl _, fun _ _ e _ _ => e, Nat.le_refl _, ⟨[], by simp, by simp⟩, rfl⟩
theorem Step.trans (x : Step own ρ s ρ₁ s₁) (y : Step own ρ₁ s₁ ρ₂ s₂) : Step own ρ s ρ₂ s₂ := by
  refine ⟨x.pre.trans y.pre, fun a ha => ?_, x.imm.trans y.imm, fun b o e h1 h2 => ?_, Nat.le_trans x.size y.size, ?_, y.os.trans x.os⟩
  · rcases y.fresh a ha with h | h
    · exact x.fresh a h
    · exact .inr (Nat.le_trans x.size h)
  · refine y.keep b o (x.keep b o e h1 h2) (fun hm => ?_) h2
    rcases x.fresh b hm with h | h
    · exact h1 h
    · exact absurd (Heap.lt_size e) (Nat.not_lt.mpr h)
  · obtain ⟨l, e, hl⟩ := x.gens
    obtain ⟨l', e', hl'⟩ := y.gens
    refine ⟨l ++ l', by rw [e', e, List.append_assoc], fun z hz => ?_⟩
    rcases List.mem_append.mp hz with h | h
    · exact hl z h
    · exact hl' z h
theorem Step.toks (t : Nat) (x : Step own ρ s ρ₁ s₁) : Step own ρ s ρ₁ { s₁ with toks := t } := ⟨x.pre, x.fresh, x.imm, x.keep, x.size, x.gens, x.os⟩
theorem Step.weaken {own' : List Addr} (x : Step own ρ s ρ₁ s₁) (h : ∀ a ∈ own, a ∈ own' ∨ s.heap.objs.size ≤ a) : Step own' ρ s ρ₁ s₁ :=
  ⟨x.pre, x.fresh, x.imm, fun b o e h1 h2 => x.keep b o e h1 fun hm => by
    rcases h b hm with q | q
    · exact h2 q
    · exact absurd (Heap.lt_size e) (Nat.not_lt.mpr q), x.size, x.gens, x.os⟩
/-- only new objects -/
theorem Step.grow {h' : Heap} {t : Nat} (hk : ∀ b o, s.heap.get? b = some o → h'.get? b = some o) (hz : s.heap.objs.size ≤ h'.objs.size) : Step own ρ s ρ { s with heap := h', toks := t } :=
  ⟨List.prefix_refl _, fun _ h => .inl h, .of hk, fun b o e _ _ => hk b o e, hz, ⟨[], by simp, by simp⟩, rfl⟩
theorem Step.growTo {h' : Heap} {t : Nat} {a : Addr} (hk : ∀ b o, s.heap.get? b = some o → h'.get? b = some o) (hz : s.heap.objs.size ≤ h'.objs.size) (ha : s.heap.objs.size ≤ a) : Step own ρ s (ρ ++ [a]) { s with heap := h', toks := t } :=
  ⟨List.prefix_append _ _, fun b h => by
    rcases List.mem_append.mp h with h | h
    · exact .inl h
    · rw [List.mem_singleton.mp h]; exact .inr ha, .of hk, fun b o e _ _ => hk b o e, hz, ⟨[], by simp, by simp⟩, rfl⟩
/-- one object of the ledger is changed -/
theorem Step.change {h' : Heap} {t : Nat} {a : Addr} (ha : a ∈ ρ ∨ a ∈ own) (hs : Heap.ExtBut a s.heap h') (hn : ∀ o, s.heap.get? a = some o → ¬ ImmO o) (hz : s.heap.objs.size ≤ h'.objs.size) :
    Step own ρ s ρ { s with heap := h', toks := t } :=
  ⟨List.prefix_refl _, fun _ h => .inl h, .same hs hn, fun b o e h1 h2 => hs b o (by rintro rfl; rcases ha with h | h; exact h1 h; exact h2 h) e, hz, ⟨[], by simp, by simp⟩, rfl⟩

variable {hp : Hp}
theorem HI.lt (H : HI P ρ hp s) {i : Nat} {o : O} (e : hp.get i = some o) : i < hp.n := by
  obtain ⟨a, ha, _⟩ := H.objs i o e
  rw [← H.len]; exact (List.getElem?_eq_some_iff.mp ha).1
theorem HI.toks (H : HI P ρ hp s) (t : Nat) : HI P ρ hp { s with toks := t } := ⟨H.base, H.len, H.le, H.nodup, H.new, H.sz, H.objs⟩
theorem HI.off (H : HI P ρ hp s) {a : Addr} (ha : a ∈ ρ) : P.h₀.get? a = none := by
  cases e : P.h₀.get? a with
  | none => rfl
  | some o => exact absurd (Heap.lt_size e) (Nat.not_lt.mpr (H.new a ha).1)
theorem HI.notSys (H : HI P ρ hp s) {a : Addr} (ha : a ∈ ρ) : (a == sysModules) = false := by
  have h1 := (H.new a ha).1
  obtain ⟨o, _, _, ho, _⟩ := P.g
  have h2 : mainGlobals < P.h₀.objs.size := Heap.lt_size ho
  have h3 : sysModules < mainGlobals := by decide
  exact beq_eq_false_iff_ne.mpr fun e => by subst e; exact absurd (Nat.lt_trans h3 h2) (Nat.not_lt.mpr h1)
theorem HI.keeps (H : HI P ρ hp s) {s' : Shared} (hk : ∀ b o, s.heap.get? b = some o → s'.heap.get? b = some o) (hz : s.heap.objs.size ≤ s'.heap.objs.size) : HI P ρ hp s' :=
  ⟨fun b o e => hk b o (H.base b o e), H.len, H.le, H.nodup, fun a ha => ⟨(H.new a ha).1, Nat.lt_of_lt_of_le (H.new a ha).2 hz⟩, Nat.le_trans H.sz hz, fun i o e => by
    obtain ⟨a, h1, h2⟩ := H.objs i o e
    exact ⟨a, h1, h2.mono (.of hk) (List.prefix_refl _) (hk a)⟩⟩
theorem HI.push (H : HI P ρ hp s) {h' : Heap} {t : Nat} {a : Addr} {o : O} (hn : hp.n < 4000) (hk : ∀ b o, s.heap.get? b = some o → h'.get? b = some o) (hz : s.heap.objs.size ≤ h'.objs.size)
    (ha : s.heap.objs.size ≤ a) (ha' : a < h'.objs.size) (ho : OR P h' (ρ ++ [a]) a o) : HI P (ρ ++ [a]) (hp.push o) { s with heap := h', toks := t } := by
  have hap : a ∉ ρ := fun hm => absurd (H.new a hm).2 (Nat.not_lt.mpr ha)
  refine ⟨fun b o e => hk b o (H.base b o e), by rw [List.length_append, H.len]; rfl, by show hp.n + 1 ≤ 4000; omega, ?_, fun b hb => ?_, Nat.le_trans H.sz hz, fun i o' e => ?_⟩
  · rw [List.nodup_append]
    exact ⟨H.nodup, by simp, fun x hx y hy e => by rw [List.mem_singleton.mp hy] at e; exact hap (e ▸ hx)⟩
  · rcases List.mem_append.mp hb with hb | hb
    · exact ⟨(H.new b hb).1, Nat.lt_of_lt_of_le (H.new b hb).2 hz⟩
    · rw [List.mem_singleton.mp hb]; exact ⟨Nat.le_trans H.sz ha, ha'⟩
  · have e : (T.put 12 hp.t hp.n o).get i = some o' := e
    by_cases hi : i = hp.n
    · subst hi
      rw [T.put_get 12 _ _ _ (by omega)] at e
      cases e
      exact ⟨a, by rw [List.getElem?_append_right (by rw [H.len]; exact Nat.le_refl _), H.len]; simp, ho⟩
    · rw [T.put_other 12 _ _ _ _ hi] at e
      obtain ⟨b, h1, h2⟩ := H.objs i o' e
      exact ⟨b, pre_get (List.prefix_append _ _) h1, h2.mono (.of hk) (List.prefix_append _ _) (hk b)⟩
theorem HI.other (H : HI P ρ hp s) {h' : Heap} {t : Nat} {a : Addr} (ha : a ∉ ρ) (hb : P.h₀.objs.size ≤ a) (hs : Heap.ExtBut a s.heap h') (hn : ∀ o, s.heap.get? a = some o → ¬ ImmO o)
    (hz : s.heap.objs.size ≤ h'.objs.size) : HI P ρ hp { s with heap := h', toks := t } := by
  refine ⟨fun b ob e => hs b ob (by rintro rfl; exact absurd (Heap.lt_size e) (Nat.not_lt.mpr hb)) (H.base b ob e), H.len, H.le, H.nodup, fun b hb => ⟨(H.new b hb).1, Nat.lt_of_lt_of_le (H.new b hb).2 hz⟩, Nat.le_trans H.sz hz, fun j o' e => ?_⟩
  obtain ⟨b, h1, h2⟩ := H.objs j o' e
  have hne : b ≠ a := by rintro rfl; exact ha (List.mem_of_getElem? h1)
  exact ⟨b, h1, h2.mono (.same hs hn) (List.prefix_refl _) fun ob e => hs b ob hne e⟩
theorem HI.upd (H : HI P ρ hp s) {h' : Heap} {t : Nat} {a : Addr} {i : Nat} {o : O} (hi : ρ[i]? = some a) (hs : Heap.ExtBut a s.heap h') (hn : ∀ o, s.heap.get? a = some o → ¬ ImmO o)
    (hz : s.heap.objs.size ≤ h'.objs.size) (ho : OR P h' ρ a o) : HI P ρ (hp.upd i o) { s with heap := h', toks := t } := by
  have hil : i < hp.n := by rw [← H.len]; exact (List.getElem?_eq_some_iff.mp hi).1
  have hle := H.le
  have ham : a ∈ ρ := List.mem_of_getElem? hi
  refine ⟨fun b ob e => hs b ob (by rintro rfl; rw [H.off ham] at e; cases e) (H.base b ob e), H.len, H.le, H.nodup, fun b hb => ⟨(H.new b hb).1, Nat.lt_of_lt_of_le (H.new b hb).2 hz⟩, Nat.le_trans H.sz hz, fun j o' e => ?_⟩
  have e : (T.put 12 hp.t i o).get j = some o' := e
  by_cases hj : j = i
  · subst hj
    rw [T.put_get 12 _ _ _ (by omega)] at e
    cases e
    exact ⟨a, hi, ho⟩
  · rw [T.put_other 12 _ _ _ _ hj] at e
    obtain ⟨b, h1, h2⟩ := H.objs j o' e
    have hne : b ≠ a := by
      rintro rfl
      exact hj ((List.getElem?_inj (List.getElem?_eq_some_iff.mp h1).1 H.nodup).mp (h1.trans hi.symm))
    exact ⟨b, h1, h2.mono (.same hs hn) (List.prefix_refl _) fun ob e => hs b ob hne e⟩
end

end Mine
end
section
open PySem PyProof.Rows
set_option maxRecDepth 20000
set_option linter.unusedSimpArgs false
set_option linter.unusedVariables false
namespace Mine

def NoE : Value → Shared → Prop := fun _ _ => False

/-- room: so many nestings more -/
structure AOk (n : Nat) (A : Around) : Prop where
  h : A.handled = none
  d : A.depth + n ≤ 990
  u : A.units + 10 * n + 20 ≤ 9900

section
variable {n m : Nat} {A : Around}
theorem AOk.le (x : AOk n A) (h : m ≤ n) : AOk m A := ⟨x.h, by have := x.d; omega, by have := x.u; omega⟩
theorem AOk.in1 (x : AOk (n + 1) A) : AOk n A.in1 := ⟨x.h, by have := x.d; simp only [Around.in1_depth]; omega, by have := x.u; simp only [Around.in1_units]; omega⟩
theorem AOk.deeper (x : AOk (n + 1) A) (env : Env) : AOk n (A.deeper env) := ⟨x.h, by have := x.d; show A.depth + 1 + n ≤ 990; omega, by have := x.u; show A.units + 3 + 10 * n + 20 ≤ 9900; omega⟩
theorem AOk.room (x : AOk n A) : A.depth < recursionLimit := by have := x.d; show A.depth < 1000; omega
theorem AOk.units (x : AOk n A) : A.units < cLine := by have := x.u; show A.units < 9900; omega
theorem AOk.units1 (x : AOk n A) : A.in1.units < cLine := by have := x.u; show A.units + 1 < 9900; omega
end

/-- what a value's making ends in -/
def Res (P : Par) (ρ : List Addr) (s : Shared) (v : V) (hp' : Hp) : Value → Shared → Prop :=
  fun v' s' => ∃ ρ', HI P ρ' hp' s' ∧ Step [] ρ s ρ' s' ∧ VR P s'.heap ρ' v v'

inductive VK where
  | loc | cel | cap
  deriving DecidableEq

/-- a block's names -/
structure Sg where
  scope : Scope
  vars : List (Str × VK)

def VK.fits : VK → Option NameKind → Bool
  | .loc, some .local => true
  | .cel, some .cell => true
  | .cap, some .cell => true
  | .cap, some .free => true
  | _, _ => false

def Sg.ok (G : Sg) : Bool := G.scope.kind == .function && G.vars.all (fun x => x.2.fits (G.scope.names.lookup x.1)) && decide (G.vars.map (·.1)).Nodup

abbrev Loc := List (Option V)

structure FI (P : Par) (G : Sg) (env : Env) (own : List Addr) (ρ : List Addr) (loc : Loc) (h : Heap) : Prop where
  ok : G.ok = true
  scope : env.scope = G.scope
  glob : env.globals = mainGlobals
  bui : env.builtins = builtinsNs
  len : loc.length = G.vars.length
  ns : ∃ m, h.Ns env.locals m ∧ ∀ (i : Nat) (x : Str) v, G.vars[i]? = some (x, VK.loc) → loc[i]? = some v → OV P h ρ v (m x)
  cel : ∀ (i : Nat) (x : Str) (k : VK) v, G.vars[i]? = some (x, k) → k ≠ VK.loc → loc[i]? = some v → ∃ c v', env.cells.lookup x = some c ∧ h.IsCell c v' ∧ OV P h ρ v v' ∧ c ∉ ρ ∧ c ≠ env.locals ∧ (k = VK.cel → c ∈ own)
  L : env.locals ∈ own
  off : ∀ a ∈ own, a ∉ ρ ∧ a < h.objs.size ∧ P.h₀.objs.size ≤ a
  apart : ∀ x y c, env.cells.lookup x = some c → env.cells.lookup y = some c → x = y
  clt : ∀ y c, env.cells.lookup y = some c → c < h.objs.size
  code : ∃ c o vs, env.code = .ref c ∧ P.h₀.get? c = some o ∧ o.data = .fields vs

section
variable {P : Par} {G : Sg} {env : Env} {own : List Addr} {ρ ρ' : List Addr} {loc : Loc} {s s' : Shared}
theorem FI.stepBut {own2 : List Addr} (F : FI P G env own ρ loc s.heap) (x : Step own2 ρ s ρ' s') (hx : ∀ b ∈ own2, b ∈ ρ ∨ (b ∉ own ∧ ∀ y c, env.cells.lookup y = some c → c ≠ b)) : FI P G env own ρ' loc s'.heap := by
  have off' : ∀ a, a ∉ ρ → a < s.heap.objs.size → a ∉ ρ' := fun a h1 h2 hm => by
    rcases x.fresh a hm with h | h
    · exact h1 h
    · exact absurd h2 (Nat.not_lt.mpr h)
  obtain ⟨m, hn, hv⟩ := F.ns
  obtain ⟨hL, hl, h0⟩ := F.off _ F.L
  have keepL : ∀ o, s.heap.get? env.locals = some o → s'.heap.get? env.locals = some o := fun o e => x.keep _ o e hL fun hm => by
    rcases hx _ hm with h | h
    · exact hL h
    · exact h.1 F.L
  refine ⟨F.ok, F.scope, F.glob, F.bui, F.len, ⟨m, ?_, fun i y v h1 h2 => (hv i y v h1 h2).mono x.imm x.pre⟩, fun i y k v h1 h2 h3 => ?_, F.L, fun a ha => ?_, F.apart, fun y c e => Nat.lt_of_lt_of_le (F.clt y c e) x.size, F.code⟩
  · obtain ⟨o, es, ep, ho, r⟩ := hn
    exact ⟨o, es, ep, keepL o ho, r⟩
  · obtain ⟨c, v', e, hc, hov, hcr, hcL, hk⟩ := F.cel i y k v h1 h2 h3
    obtain ⟨o, ho, hd⟩ := hc
    exact ⟨c, v', e, ⟨o, x.keep c o ho hcr fun hm => by
      rcases hx _ hm with h | h
      · exact hcr h
      · exact h.2 y c e rfl, hd⟩, hov.mono x.imm x.pre, off' c hcr (Heap.lt_size ho), hcL, hk⟩
  · obtain ⟨h1, h2, h3⟩ := F.off a ha
    exact ⟨off' a h1 h2, Nat.lt_of_lt_of_le h2 x.size, h3⟩
theorem FI.step (F : FI P G env own ρ loc s.heap) (x : Step [] ρ s ρ' s') : FI P G env own ρ' loc s'.heap := F.stepBut x fun _ h => nomatch h
end

/-- an expression of a block means f -/
def SE (P : Par) (n : Nat) (G : Sg) (e : Expr) (f : Loc → Hp → Option (V × Hp)) : Prop :=
  ∀ A env own s ρ loc hp v hp', AOk n A → HI P ρ hp s → FI P G env own ρ loc s.heap → f loc hp = some (v, hp') →
    wpAny (model P.prog P.w) A (eval e env) (Res P ρ s v hp') NoE s

section
variable {P : Par} {n : Nat} {G : Sg} {e : Expr} {f : Loc → Hp → Option (V × Hp)}
theorem SE.use (x : SE P n G e f) {A : Around} {env : Env} {own : List Addr} {s : Shared} {ρ : List Addr} {loc : Loc} {hp : Hp} {v : V} {hp' : Hp} {Q : Value → Shared → Prop} {E : Value → Shared → Prop}
    (a : AOk n A) (H : HI P ρ hp s) (F : FI P G env own ρ loc s.heap) (hf : f loc hp = some (v, hp'))
    (k : ∀ v' s' ρ', HI P ρ' hp' s' → FI P G env own ρ' loc s'.heap → Step [] ρ s ρ' s' → VR P s'.heap ρ' v v' → Q v' s') :
    wpAny (model P.prog P.w) A (eval e env) Q E s :=
  wpAny_mono (x A env own s ρ loc hp v hp' a H F hf) (fun v' s' ⟨ρ', h1, h2, h3⟩ => k v' s' ρ' h1 (F.step h2) h2 h3) fun _ _ h => h.elim
theorem SE.le {m : Nat} (x : SE P n G e f) (h : n ≤ m) : SE P m G e f := fun A env own s ρ loc hp v hp' a => x A env own s ρ loc hp v hp' (a.le h)
end

/-- the n-th local -/
def lget : Loc → Nat → Option V
  | [], _ => none
  | v :: r, i => match i with
    | 0 => v
    | i + 1 => lget r i
theorem lget_eq : ∀ (l : Loc) (i : Nat) (v : V), lget l i = some v → l[i]? = some (some v)
  | [], _, _, h => by cases h
  | x :: r, 0, v, h => by
    have h : x = some v := h
    rw [h]; rfl
  | x :: r, i + 1, v, h => by
    have := lget_eq r i v h
    simpa using this

def fLoc (i : Nat) : Loc → Hp → Option (V × Hp) := fun loc hp => match lget loc i with
  | some v => some (v, hp)
  | none => none

theorem Sg.ok_at {G : Sg} (h : G.ok = true) {i : Nat} {x : Str} {k : VK} (e : G.vars[i]? = some (x, k)) : k.fits (G.scope.names.lookup x) = true := by
  unfold Sg.ok at h
  simp only [Bool.and_eq_true] at h
  exact (List.all_eq_true.mp h.1.2) (x, k) (List.mem_of_getElem? e)
theorem Sg.ok_kind {G : Sg} (h : G.ok = true) : G.scope.kind = .function := by
  unfold Sg.ok at h
  simp only [Bool.and_eq_true] at h
  exact eq_of_beq h.1.1
theorem VK.fits_loc {o : Option NameKind} (h : VK.fits .loc o = true) : o = some .local := by
  cases o with
  | none => cases h
  | some k => cases k <;> first | rfl | cases h
theorem VK.fits_cel {o : Option NameKind} (h : VK.fits .cel o = true) : o = some .cell := by
  cases o with
  | none => cases h
  | some k => cases k <;> first | rfl | cases h
theorem VK.fits_cap {o : Option NameKind} (h : VK.fits .cap o = true) : o = some .cell ∨ o = some .free := by
  cases o with
  | none => cases h
  | some k => cases k <;> first | exact .inl rfl | exact .inr rfl | cases h

section
variable {P : Par} {n : Nat} {G : Sg}
theorem SE.loc {i : Nat} {x : Str} {k : VK} {pos : Pos} (hi : G.vars[i]? = some (x, k)) (hd : (x == ("__debug__" : Str)) = false) (hc : (x == ("__classdict__" : Str)) = false) :
    SE P n G (.Name x pos) (fLoc i) := by
  intro A env own s ρ loc hp v hp' a H F hf
  have hl : lget loc i = some v ∧ hp' = hp := by
    unfold fLoc at hf
    cases q : lget loc i with
    | none => rw [q] at hf; cases hf
    | some u => rw [q] at hf; cases hf; exact ⟨rfl, rfl⟩
  obtain ⟨hl, rfl⟩ := hl
  have hl := lget_eq _ _ _ hl
  have fit := Sg.ok_at F.ok hi
  have hk : env.scope.kind = .function := F.scope ▸ Sg.ok_kind F.ok
  have ko : env.kindOf x = G.scope.names.lookup x := by unfold Env.kindOf; rw [F.scope]
  refine wpAny_Name ?_ hd
  have fin : ∀ v', VR P s.heap ρ v v' → Res P ρ s v hp' v' s := fun v' hv => ⟨ρ, H, .refl, hv⟩
  cases k with
  | loc =>
    obtain ⟨m, hn, hv⟩ := F.ns
    have hv := hv i x _ hi hl
    cases q : m x with
    | none => rw [q] at hv; exact hv.elim
    | some v' => rw [q] at hv; exact wpAny_loadName_local hk (ko.trans (VK.fits_loc fit)) hn q (fin v' hv)
  | cel =>
    obtain ⟨c, v', e, hcl, hov, _⟩ := F.cel i x _ _ hi (by decide) hl
    cases v' with
    | none => exact hov.elim
    | some v' => exact wpAny_loadName_cell hk (ko.trans (VK.fits_cel fit)) e hcl (fin v' hov)
  | cap =>
    obtain ⟨c, v', e, hcl, hov, _⟩ := F.cel i x _ _ hi (by decide) hl
    cases v' with
    | none => exact hov.elim
    | some v' =>
      rcases VK.fits_cap fit with q | q
      · exact wpAny_loadName_cell hk (ko.trans q) e hcl (fin v' hov)
      · exact wpAny_loadName_free hk (ko.trans q) e hcl (fin v' hov) hc

def fK (v : V) : Loc → Hp → Option (V × Hp) := fun _ hp => some (v, hp)

theorem SE.k {v : V} {e : Expr} (h : ∀ A env s ρ hp, HI P ρ hp s → wpAny (model P.prog P.w) A (eval e env) (Res P ρ s v hp) NoE s) : SE P n G e (fK v) := by
  intro A env own s ρ loc hp v' hp' a H F hf
  cases hf
  exact h A env s ρ hp H
theorem SE.cint {i : Int} {k : Nat} {pos : Pos} : SE P n G (.Constant (.int i) k pos) (fK (.int i)) :=
  SE.k fun A env s ρ hp H => wpAny_Constant_int ⟨ρ, H.toks _, Step.refl.toks _, .num _ rfl⟩
theorem SE.cnone {k : Nat} {pos : Pos} : SE P n G (.Constant .none k pos) (fK .none) :=
  SE.k fun A env s ρ hp H => wpAny_Constant_none ⟨ρ, H, .refl, .none⟩
theorem SE.cbool {b : Bool} {k : Nat} {pos : Pos} : SE P n G (.Constant (.bool b) k pos) (fK (.bool b)) :=
  SE.k fun A env s ρ hp H => wpAny_Constant_bool ⟨ρ, H, .refl, .bool b⟩
theorem SE.cstr {x : Str} {k : Nat} {pos : Pos} : SE P n G (.Constant (.str x) k pos) (fK (.str x)) :=
  SE.k fun A env s ρ hp H => Calls.Constant_str ⟨ρ, H.toks _, Step.refl.toks _, .str _ _⟩

/-- a name of the top -/
theorem SE.top {v : V} {v' : Value} {x : Str} {pos : Pos} (hx : G.scope.names.lookup x = some .globalImplicit) (hv : P.mg x = some v') (hr : ∀ h ρ, VR P h ρ v v')
    (hd : (x == ("__debug__" : Str)) = false) : SE P n G (.Name x pos) (fK v) := by
  intro A env own s ρ loc hp v1 hp' a H F hf
  cases hf
  have hk : env.scope.kind = .function := F.scope ▸ Sg.ok_kind F.ok
  have ko : env.kindOf x = G.scope.names.lookup x := by unfold Env.kindOf; rw [F.scope]
  exact Calls.Name_function_global hk (ko.trans hx) (Calls.loadGlobal_global (by rw [F.glob]; exact P.g.keeps H.base) hv ⟨ρ, H, .refl, hr _ _⟩) hd
theorem SE.bui {v : V} {v' : Value} {x : Str} {pos : Pos} (hx : G.scope.names.lookup x = some .globalImplicit) (hm : P.mg x = none) (hv : P.mb x = some v') (hr : ∀ h ρ, VR P h ρ v v')
    (hd : (x == ("__debug__" : Str)) = false) : SE P n G (.Name x pos) (fK v) := by
  intro A env own s ρ loc hp v1 hp' a H F hf
  cases hf
  have hk : env.scope.kind = .function := F.scope ▸ Sg.ok_kind F.ok
  have ko : env.kindOf x = G.scope.names.lookup x := by unfold Env.kindOf; rw [F.scope]
  exact Calls.Name_function_global hk (ko.trans hx) (Calls.loadGlobal_builtin (by rw [F.glob]; exact P.g.keeps H.base) hm (by rw [F.bui]; exact P.b.keeps H.base) hv ⟨ρ, H, .refl, hr _ _⟩) hd
end

/-- a step of two values -/
def P2 (P : Par) (n : Nat) (t : Value → Value → Sem Value) (g : V → V → Hp → Option (V × Hp)) : Prop :=
  ∀ A s ρ hp a b a' b' v hp', AOk n A → HI P ρ hp s → VR P s.heap ρ a a' → VR P s.heap ρ b b' → g a b hp = some (v, hp') →
    wpAny (model P.prog P.w) A (t a' b') (Res P ρ s v hp') NoE s
def P1 (P : Par) (n : Nat) (t : Value → Sem Value) (g : V → Hp → Option (V × Hp)) : Prop :=
  ∀ A s ρ hp a a' v hp', AOk n A → HI P ρ hp s → VR P s.heap ρ a a' → g a hp = some (v, hp') →
    wpAny (model P.prog P.w) A (t a') (Res P ρ s v hp') NoE s

def fBin (g : V → V → Hp → Option (V × Hp)) (f1 f2 : Loc → Hp → Option (V × Hp)) : Loc → Hp → Option (V × Hp) := fun loc hp => match f1 loc hp with
  | none => none
  | some (a, hp1) => match f2 loc hp1 with
    | none => none
    | some (b, hp2) => g a b hp2

section
variable {P : Par} {n : Nat} {G : Sg}
theorem fBin_inv {g : V → V → Hp → Option (V × Hp)} {f1 f2 : Loc → Hp → Option (V × Hp)} {loc : Loc} {hp : Hp} {r : V × Hp} (h : fBin g f1 f2 loc hp = some r) :
    ∃ a hp1 b hp2, f1 loc hp = some (a, hp1) ∧ f2 loc hp1 = some (b, hp2) ∧ g a b hp2 = some r := by
  unfold fBin at h
  cases q : f1 loc hp with
  | none => rw [q] at h; cases h
  | some x =>
    obtain ⟨a, hp1⟩ := x
    rw [q] at h
    dsimp only at h
    cases q2 : f2 loc hp1 with
    | none => rw [q2] at h; cases h
    | some y =>
      obtain ⟨b, hp2⟩ := y
      rw [q2] at h
      exact ⟨a, hp1, b, hp2, rfl, q2, h⟩
theorem Res.after {own : List Addr} {ρ ρ₁ : List Addr} {s s₁ : Shared} {v : V} {hp' : Hp} {v' : Value} {s' : Shared} (x : Step [] ρ s ρ₁ s₁) (r : Res P ρ₁ s₁ v hp' v' s') : Res P ρ s v hp' v' s' :=
  let ⟨ρ', h1, h2, h3⟩ := r; ⟨ρ', h1, x.trans h2, h3⟩
theorem SE.bin {e1 e2 : Expr} {op : Operator} {pos : Pos} {f1 f2 : Loc → Hp → Option (V × Hp)} {g : V → V → Hp → Option (V × Hp)} (x1 : SE P n G e1 f1) (x2 : SE P n G e2 f2) (hg : P2 P n (binaryOp op) g) :
    SE P n G (.BinOp e1 op e2 pos) (fBin g f1 f2) := by
  intro A env own s ρ loc hp v hp' a H F hf
  obtain ⟨va, hp1, vb, hp2, h1, h2, h3⟩ := fBin_inv hf
  refine wpAny_BinOp (x1.use a H F h1 fun a' s1 ρ1 H1 F1 S1 r1 => x2.use a H1 F1 h2 fun b' s2 ρ2 H2 F2 S2 r2 => ?_)
  exact wpAny_mono (hg A s2 ρ2 hp2 va vb a' b' v hp' a H2 (r1.mono S2.imm S2.pre) r2 h3) (fun v' s' r => Res.after (own := own) (S1.trans S2) r) fun _ _ h => h
theorem SE.cmp {e1 e2 : Expr} {op : CmpOp} {pos : Pos} {f1 f2 : Loc → Hp → Option (V × Hp)} {g : V → V → Hp → Option (V × Hp)} (x1 : SE P n G e1 f1) (x2 : SE P n G e2 f2) (hg : P2 P n (compareOp op) g)
    (hm : behindInMarks op e2 = false := by with_unfolding_all rfl) : SE P n G (.Compare e1 [op] [e2] pos) (fBin g f1 f2) := by
  intro A env own s ρ loc hp v hp' a H F hf
  obtain ⟨va, hp1, vb, hp2, h1, h2, h3⟩ := fBin_inv hf
  refine wpAny_Compare1 (x1.use a H F h1 fun a' s1 ρ1 H1 F1 S1 r1 => x2.use a H1 F1 h2 fun b' s2 ρ2 H2 F2 S2 r2 => ?_) hm
  exact wpAny_mono (hg A s2 ρ2 hp2 va vb a' b' v hp' a H2 (r1.mono S2.imm S2.pre) r2 h3) (fun v' s' r => Res.after (own := own) (S1.trans S2) r) fun _ _ h => h
end
end Mine
end
section
open PySem PyProof.Rows
set_option maxRecDepth 20000
set_option linter.unusedSimpArgs false
set_option linter.unusedVariables false
namespace Mine
noncomputable section

section
variable {P : Par} {h : Heap} {ρ : List Addr} {v' : Value}
theorem VR.int_inv {i : Int} (x : VR P h ρ (.int i) v') : ∃ t, v' = .int i t := by
  cases x with
  | num t e => cases e; exact ⟨t, rfl⟩
theorem VR.num_inv {v : V} {i : Int} (e : P.num v = some i) (x : VR P h ρ v v') : ∃ t, v' = .int i t := by
  cases x with
  | num t e' => rw [e] at e'; cases e'; exact ⟨t, rfl⟩
  | _ => cases e
theorem VR.tup_inv {vs : List V} (x : VR P h ρ (.tup vs) v') : ∃ a items, v' = .ref a ∧ TupAt h a items ∧ VRs P h ρ vs items.toList := by
  cases x with
  | num t e => cases e
  | tup e r => exact ⟨_, _, rfl, e, r⟩
theorem VR.ob_inv {i : Nat} (x : VR P h ρ (.ob i) v') : ∃ a, ρ[i]? = some a ∧ v' = .ref a := by
  cases x with
  | num t e => cases e
  | ob e => exact ⟨_, e, rfl⟩
theorem VR.rng_inv {a b c : Int} (x : VR P h ρ (.rng a b c) v') : ∃ r, v' = .ref r ∧ RngAt h r a b c := by
  cases x with
  | num t e => cases e
  | rng e => exact ⟨_, rfl, e⟩
theorem VR.slc_inv {lo hi st : Option Int} (x : VR P h ρ (.slc lo hi st) v') : ∃ a, v' = .ref a ∧ SlcAt h a lo hi st := by
  cases x with
  | num t e => cases e
  | slc e => exact ⟨_, rfl, e⟩
theorem VR.none_inv (x : VR P h ρ .none v') : v' = .none := by
  cases x with
  | num t e => cases e
  | none => rfl
theorem VR.bool_inv {b : Bool} (x : VR P h ρ (.bool b) v') : v' = .bool b := by
  cases x with
  | num t e => cases e
  | bool => rfl
theorem VR.str_inv {y : Str} (x : VR P h ρ (.str y) v') : ∃ t, v' = .str y t := by
  cases x with
  | num t e => cases e
  | str _ t => exact ⟨t, rfl⟩
theorem VR.ty_inv {y : String} (x : VR P h ρ (.ty y) v') : v' = .type y := by
  cases x with
  | num t e => cases e
  | ty => rfl

theorem VRs.length {vs : List V} {ws : List Value} (x : VRs P h ρ vs ws) : vs.length = ws.length := by
  induction vs generalizing ws with
  | nil => cases x; rfl
  | cons v vs ih => cases x with | cons _ r => simp [ih r]
theorem VRs.append {vs us : List V} {ws xs : List Value} (x : VRs P h ρ vs ws) (y : VRs P h ρ us xs) : VRs P h ρ (vs ++ us) (ws ++ xs) := by
  induction vs generalizing ws with
  | nil => cases x; exact y
  | cons v vs ih => cases x with | cons a r => exact .cons a (ih r)
theorem VRs.get {vs : List V} {ws : List Value} (x : VRs P h ρ vs ws) {i : Nat} {v : V} (e : vs[i]? = some v) : ∃ w, ws[i]? = some w ∧ VR P h ρ v w := by
  induction vs generalizing ws i with
  | nil => simp at e
  | cons u vs ih =>
    cases x with
    | cons a r =>
      cases i with
      | zero => simp at e; subst e; exact ⟨_, rfl, a⟩
      | succ i => simp at e; obtain ⟨w, h1, h2⟩ := ih r e; exact ⟨w, by simpa using h1, h2⟩
theorem VRs.get_none {vs : List V} {ws : List Value} (x : VRs P h ρ vs ws) {i : Nat} (e : vs[i]? = none) : ws[i]? = none := by
  rw [List.getElem?_eq_none_iff] at e ⊢
  rw [← x.length]; exact e
theorem VRs.take {vs : List V} {ws : List Value} (x : VRs P h ρ vs ws) (k : Nat) : VRs P h ρ (vs.take k) (ws.take k) := by
  induction vs generalizing ws k with
  | nil => cases x; simp; exact .nil
  | cons v vs ih => cases x with
    | cons a r => cases k with
      | zero => exact .nil
      | succ k => simp only [List.take_succ_cons]; exact .cons a (ih r k)
theorem VRs.drop {vs : List V} {ws : List Value} (x : VRs P h ρ vs ws) (k : Nat) : VRs P h ρ (vs.drop k) (ws.drop k) := by
  induction vs generalizing ws k with
  | nil => cases x; simp; exact .nil
  | cons v vs ih => cases x with
    | cons a r => cases k with
      | zero => exact .cons a r
      | succ k => simp only [List.drop_succ_cons]; exact ih r k
end

def ch {α : Type} (b : Bool) (x : Option α) : Option α := match b with
  | true => x
  | false => none
theorem ch_inv {α : Type} {b : Bool} {x : Option α} {r : α} (h : ch b x = some r) : b = true ∧ x = some r := by
  cases b with
  | true => exact ⟨rfl, h⟩
  | false => cases h

/-- a new object on the ledger -/
def mk (hp : Hp) (o : O) : Option (V × Hp) := ch (Nat.blt hp.n 4000) (some (.ob hp.n, hp.push o))

section
variable {P : Par} {ρ : List Addr} {s : Shared} {hp : Hp}
theorem Res.mk {h' : Heap} {t : Nat} {a : Addr} {o : O} {r : V × Hp} (H : HI P ρ hp s) (e : mk hp o = some r) (hk : ∀ b o, s.heap.get? b = some o → h'.get? b = some o) (hz : s.heap.objs.size ≤ h'.objs.size)
    (ha : s.heap.objs.size ≤ a) (ha' : a < h'.objs.size) (ho : OR P h' (ρ ++ [a]) a o) : Res P ρ s r.1 r.2 (.ref a) { s with heap := h', toks := t } := by
  obtain ⟨hn, e⟩ := ch_inv e
  cases e
  refine ⟨ρ ++ [a], H.push (Nat.le_of_ble_eq_true hn) hk hz ha ha' ho, .growTo hk hz ha, .ob ?_⟩
  rw [List.getElem?_append_right (by rw [H.len]; exact Nat.le_refl _), H.len]; simp
theorem Res.grow {h' : Heap} {t : Nat} {v : V} {v' : Value} (H : HI P ρ hp s) (hk : ∀ b o, s.heap.get? b = some o → h'.get? b = some o) (hz : s.heap.objs.size ≤ h'.objs.size)
    (hv : VR P h' ρ v v') : Res P ρ s v hp v' { s with heap := h', toks := t } := ⟨ρ, (H.keeps (s' := { s with heap := h' }) hk hz).toks t, .grow hk hz, hv⟩
theorem Res.here {t : Nat} {v : V} {v' : Value} (H : HI P ρ hp s) (hv : VR P s.heap ρ v v') : Res P ρ s v hp v' { s with toks := t } := ⟨ρ, H.toks t, Step.refl.toks t, hv⟩
theorem Res.at {v : V} {v' : Value} (H : HI P ρ hp s) (hv : VR P s.heap ρ v v') : Res P ρ s v hp v' s := ⟨ρ, H, .refl, hv⟩
theorem HI.obj (H : HI P ρ hp s) {i : Nat} {a : Addr} {o : O} (hi : ρ[i]? = some a) (e : hp.get i = some o) : OR P s.heap ρ a o := by
  obtain ⟨b, h1, h2⟩ := H.objs i o e
  rw [hi] at h1; cases h1; exact h2
theorem Res.tup {vs : List V} {items : Array Value} (H : HI P ρ hp s) (r : VRs P s.heap ρ vs items.toList) :
    Res P ρ s (.tup vs) hp (.ref s.heap.objs.size) { s with heap := s.heap.push { cls := .type "tuple", data := .seq items } } :=
  Res.grow (t := s.toks) H (fun b o e => Heap.get?_push_of_some _ e) (by simp only [Heap.size_push]; omega)
    (.tup ⟨0, Heap.get?_push_size _ rfl⟩ (r.mono (.of fun b o e => Heap.get?_push_of_some _ e) (List.prefix_refl _)))
theorem Res.lst {vs : List V} {items : Array Value} {r : V × Hp} (H : HI P ρ hp s) (e : Mine.mk hp (.lst vs) = some r) (x : VRs P s.heap ρ vs items.toList) :
    Res P ρ s r.1 r.2 (.ref s.heap.objs.size) { s with heap := s.heap.push { cls := .type "list", data := .seq items } } :=
  Res.mk (t := s.toks) H e (fun b o e => Heap.get?_push_of_some _ e) (by simp only [Heap.size_push]; omega) (Nat.le_refl _) (by rw [Heap.size_push]; exact Nat.lt_succ_self _)
    ⟨items, 0, Heap.get?_push_size _ rfl, x.mono (.of fun b o e => Heap.get?_push_of_some _ e) (List.prefix_append _ _)⟩
end

def few (l : List V) : Bool := Nat.ble l.length 5000
theorem few_le {P : Par} {h : Heap} {ρ : List Addr} {l : List V} {ws : List Value} (e : few l = true) (x : VRs P h ρ l ws) : ws.length ≤ 5000 := by
  rw [← x.length]; exact Nat.le_of_ble_eq_true e
theorem few_arr {P : Par} {h : Heap} {ρ : List Addr} {l : List V} {ws : Array Value} (e : few l = true) (x : VRs P h ρ l ws.toList) : ws.size ≤ 5000 := by
  have := few_le e x; simpa using this
theorem line {n : Nat} (h : n ≤ 5000) : n ≤ sizeLine := by rw [sizeLine_eq]; omega

def gAdd : V → V → Hp → Option (V × Hp) := fun a b hp => match a with
  | .int i => match b with
    | .int j => some (.int (i + j), hp)
    | .d2 => some (.sh i, hp)
    | _ => none
  | .tup vs => match b with
    | .tup ws => ch (few (vs ++ ws)) (some (.tup (vs ++ ws), hp))
    | _ => none
  | .ob i => match b with
    | .ob j => match hp.get i with
      | some (.lst vs) => match hp.get j with
        | some (.lst ws) => ch (few (vs ++ ws)) (mk hp (.lst (vs ++ ws)))
        | _ => none
      | _ => none
    | _ => none
  | _ => none

def gSub : V → V → Hp → Option (V × Hp) := fun a b hp => match a with
  | .int i => match b with
    | .int j => some (.int (i - j), hp)
    | _ => none
  | _ => none

def gMod (c : Cfg) : V → V → Hp → Option (V × Hp) := fun a b hp => match b with
  | .int m => match a with
    | .int i => ch (PySem.W.Z.ltB 0 m) (some (.int (Int.fmod i m), hp))
    | .d0 => ch (PySem.W.Z.eqB m 5) (some (.int c.r, hp))
    | .d1 => ch (PySem.W.Z.eqB m c.N && PySem.W.Z.ltB 0 m) (some (.int c.t, hp))
    | .sh k => ch (PySem.W.Z.eqB m c.N && PySem.W.Z.ltB 0 m && PySem.W.Z.ltB (-1) k && PySem.W.Z.ltB k m) (some (.nm k.toNat, hp))
    | _ => none
  | _ => none
theorem arr_nil {a : Array Value} (h : a.isEmpty = true) : a.toList = [] := by
  have : a = #[] := by simpa using h
  rw [this]
section
variable {P : Par} {n : Nat}
theorem lst_at {h : Heap} {ρ : List Addr} {a : Addr} {vs : List V} (x : OR P h ρ a (.lst vs)) : ∃ items k, IsL h a items k ∧ VRs P h ρ vs items.toList := x
theorem pAdd : P2 P n (binaryOp .Add) gAdd := by
  intro A s ρ hp a b a' b' v hp' ha H ra rb hg
  unfold gAdd at hg
  split at hg
  · rename_i i
    obtain ⟨t, rfl⟩ := ra.int_inv
    split at hg
    · rename_i j
      obtain ⟨u, rfl⟩ := rb.int_inv
      cases hg
      exact wpAny_add_int (.here H (.num _ rfl))
    · obtain ⟨u, rfl⟩ := rb.num_inv rfl
      cases hg
      exact wpAny_add_int (.here H (.num _ rfl))
    · cases hg
  · rename_i vs
    split at hg
    · rename_i ws
      obtain ⟨hf, hg⟩ := ch_inv hg
      cases hg
      obtain ⟨x, xs, rfl, ⟨n1, e1⟩, r1⟩ := ra.tup_inv
      obtain ⟨y, ys, rfl, ⟨n2, e2⟩, r2⟩ := rb.tup_inv
      have hsz := few_le hf (r1.append r2)
      rw [List.length_append, Array.length_toList, Array.length_toList] at hsz
      by_cases h1 : xs.isEmpty = true
      · refine concat_meets ⟨_, e1, rfl⟩ ⟨_, e2, rfl⟩ noFill_tuple_add seq_tuple_add PySem.F.slot_tuple_add PySem.F.entry_tuple_add (PySem.F.args_tuple_add_2 _ _)
          (tuple_addW0 x y xs ys n1 n2 none none #[] #[] h1) ⟨e1, e2, ?_⟩
        rw [arr_nil h1] at r1
        cases r1
        exact Res.at H (.tup ⟨n2, e2⟩ r2)
      · by_cases h2 : ys.isEmpty = true
        · refine concat_meets ⟨_, e1, rfl⟩ ⟨_, e2, rfl⟩ noFill_tuple_add seq_tuple_add PySem.F.slot_tuple_add PySem.F.entry_tuple_add (PySem.F.args_tuple_add_2 _ _)
            (tuple_addW1 x y xs ys n1 n2 none none #[] #[] h1 h2) ⟨e1, e2, ?_⟩
          rw [arr_nil h2] at r2
          cases r2
          rw [List.append_nil]
          exact Res.at H (.tup ⟨n1, e1⟩ r1)
        · exact PySem.P.add_tuple e1 e2 h1 h2 (Res.tup H (by rw [Array.toList_append]; exact r1.append r2)) (line hsz)
    · cases hg
  · rename_i i
    split at hg
    · rename_i j
      split at hg
      · rename_i vs hi
        split at hg
        · rename_i ws hj
          obtain ⟨hf, hg⟩ := ch_inv hg
          obtain ⟨x, hx, rfl⟩ := ra.ob_inv
          obtain ⟨y, hy, rfl⟩ := rb.ob_inv
          obtain ⟨xs, n1, e1, r1⟩ := lst_at (H.obj hx hi)
          obtain ⟨ys, n2, e2, r2⟩ := lst_at (H.obj hy hj)
          have hsz := few_le hf (r1.append r2)
          rw [List.length_append, Array.length_toList, Array.length_toList] at hsz
          exact PySem.P.add_list e1 e2 (Res.lst H hg (by rw [Array.toList_append]; exact r1.append r2)) (line hsz)
        · cases hg
      · cases hg
    · cases hg
  · cases hg

theorem pSub : P2 P n (binaryOp .Sub) gSub := by
  intro A s ρ hp a b a' b' v hp' ha H ra rb hg
  unfold gSub at hg
  split at hg
  · obtain ⟨t, rfl⟩ := ra.int_inv
    split at hg
    · obtain ⟨u, rfl⟩ := rb.int_inv
      cases hg
      exact sub_int (.here H (.num _ rfl))
    · cases hg
  · cases hg

theorem pMod : P2 P n (binaryOp .Mod) (gMod P.c) := by
  intro A s ρ hp a b a' b' v hp' ha H ra rb hg
  unfold gMod at hg
  split at hg
  · rename_i m
    obtain ⟨u, rfl⟩ := rb.int_inv
    split at hg
    · obtain ⟨t, rfl⟩ := ra.int_inv
      obtain ⟨hm, hg⟩ := ch_inv hg
      cases hg
      have hm := (PySem.W.Z.ltB_iff _ _).mp hm
      exact mod_int (by omega) (.here H (.num _ rfl))
    · obtain ⟨t, rfl⟩ := ra.num_inv rfl
      obtain ⟨hm, hg⟩ := ch_inv hg
      cases hg
      have hm := (PySem.W.Z.eqB_iff _ _).mp hm
      subst hm
      exact mod_int (by decide) (.here H (.num _ (by rw [P.e0]; rfl)))
    · obtain ⟨t, rfl⟩ := ra.num_inv rfl
      obtain ⟨hm, hg⟩ := ch_inv hg
      cases hg
      simp only [Bool.and_eq_true, PySem.W.Z.eqB_iff, PySem.W.Z.ltB_iff] at hm
      obtain ⟨rfl, hm⟩ := hm
      exact mod_int (by omega) (.here H (.num _ (by rw [P.e1]; rfl)))
    · rename_i k
      obtain ⟨t, rfl⟩ := ra.num_inv rfl
      obtain ⟨hm, hg⟩ := ch_inv hg
      cases hg
      simp only [Bool.and_eq_true, PySem.W.Z.eqB_iff, PySem.W.Z.ltB_iff] at hm
      obtain ⟨⟨⟨rfl, hm⟩, hk⟩, hkn⟩ := hm
      refine mod_int (by omega) (.here H (.num _ ?_))
      show (if (k.toNat : Int) < P.c.N then some (Int.fmod ((k.toNat : Int) + P.D2) P.c.N) else none) = _
      rw [Int.toNat_of_nonneg (by omega), if_pos hkn]
    · cases hg
  · cases hg
end
end
end Mine
end
section
open PySem PyProof.Rows
set_option maxRecDepth 20000
set_option linter.unusedSimpArgs false
set_option linter.unusedVariables false
namespace Mine
noncomputable section

/-- equality of keys, where it is known -/
def keq : V → V → Option Bool := fun a b => match a with
  | .int i => match b with
    | .int j => some (PySem.W.Z.eqB i j)
    | _ => none
  | .nm k => match b with
    | .nm l => some (Nat.beq k l)
    | _ => none
  | _ => none

theorem nu_inj (P : Par) {k l : Nat} (hk : (k : Int) < P.c.N) (hl : (l : Int) < P.c.N) (h : P.nu k = P.nu l) : k = l := by
  unfold Par.nu at h
  show k = l
  have hN : 0 < P.c.N := by omega
  have e1 := Int.fmod_eq_emod_of_nonneg ((k : Int) + P.D2) (b := P.c.N) (by omega)
  have e2 := Int.fmod_eq_emod_of_nonneg ((l : Int) + P.D2) (b := P.c.N) (by omega)
  have h' : ((k : Int) + P.D2) % P.c.N = ((l : Int) + P.D2) % P.c.N := by rw [← e1, ← e2]; exact h
  have d : P.c.N ∣ (((k : Int) + P.D2) - ((l : Int) + P.D2)) := Int.dvd_of_emod_eq_zero (Int.emod_eq_emod_iff_emod_sub_eq_zero.mp h')
  obtain ⟨q, hq⟩ := d
  have hq' : (k : Int) - l = P.c.N * q := by rw [← hq]; omega
  have : q = 0 := by
    rcases Int.lt_trichotomy q 0 with h0 | h0 | h0
    · have : P.c.N * q ≤ P.c.N * (-1) := Int.mul_le_mul_of_nonneg_left (by omega) (by omega)
      omega
    · exact h0
    · have : P.c.N * 1 ≤ P.c.N * q := Int.mul_le_mul_of_nonneg_left (by omega) (by omega)
      omega
  subst this
  omega

theorem num_nm {P : Par} {k : Nat} {i : Int} (h : P.num (.nm k) = some i) : (k : Int) < P.c.N ∧ i = P.nu k := by
  have h : (if (k : Int) < P.c.N then some (P.nu k) else none) = some i := h
  split at h
  · cases h; exact ⟨by assumption, rfl⟩
  · cases h

theorem keq_sound {P : Par} {a b : V} {i j : Int} {e : Bool} (ha : P.num a = some i) (hb : P.num b = some j) (h : keq a b = some e) : e = decide (i = j) := by
  unfold keq at h
  split at h
  · split at h
    · cases h; cases ha; cases hb
      rename_i x y
      cases q : PySem.W.Z.eqB i j with
      | true => simp [(PySem.W.Z.eqB_iff _ _).mp q]
      | false =>
        have : ¬ i = j := fun e => by rw [(PySem.W.Z.eqB_iff _ _).mpr e] at q; cases q
        simp [this]
    · cases h
  · split at h
    · cases h
      rename_i k _ l
      obtain ⟨h1, rfl⟩ := num_nm ha
      obtain ⟨h2, rfl⟩ := num_nm hb
      rw [T.beq_eq]
      by_cases q : k = l
      · subst q; simp
      · have : ¬ P.nu k = P.nu l := fun e => q (nu_inj P h1 h2 e)
        simp [q, this]
    · cases h
  · cases h

/-- equality of rows of keys -/
def kseq : List V → List V → Option Bool
  | [], [] => some true
  | [], _ :: _ => some false
  | _ :: _, [] => some false
  | a :: r, b :: t => match keq a b with
    | none => none
    | some false => some false
    | some true => kseq r t

theorem nums_cons {P : Par} {v : V} {r : List V} {l : List Int} (h : P.nums (v :: r) = some l) : ∃ i t, P.num v = some i ∧ P.nums r = some t ∧ l = i :: t := by
  unfold Par.nums at h
  split at h
  · cases h; exact ⟨_, _, by assumption, by assumption, rfl⟩
  · cases h

theorem kseq_sound {P : Par} : ∀ {a b : List V} {i j : List Int} {e : Bool}, P.nums a = some i → P.nums b = some j → kseq a b = some e → e = decide (i = j)
  | [], [], _, _, _, ha, hb, h => by cases ha; cases hb; cases h; rfl
  | [], _ :: _, _, _, _, ha, hb, h => by
    obtain ⟨i, t, _, _, rfl⟩ := nums_cons hb
    cases ha; cases h; simp
  | _ :: _, [], _, _, _, ha, hb, h => by
    obtain ⟨i, t, _, _, rfl⟩ := nums_cons ha
    cases hb; cases h; simp
  | a :: r, b :: t, _, _, e, ha, hb, h => by
    obtain ⟨i, l, h1, h2, rfl⟩ := nums_cons ha
    obtain ⟨j, m, h3, h4, rfl⟩ := nums_cons hb
    unfold kseq at h
    cases q : keq a b with
    | none => rw [q] at h; cases h
    | some x =>
      rw [q] at h
      have hx := keq_sound h1 h3 q
      cases x with
      | false =>
        cases h
        have : ¬ i = j := fun e => by rw [decide_eq_true e] at hx; cases hx
        simp [this]
      | true =>
        have he := kseq_sound h2 h4 h
        have : i = j := by
          cases d : decide (i = j) with
          | true => exact of_decide_eq_true d
          | false => rw [d] at hx; cases hx
        subst this
        rw [he]; simp

/-- a value by its key -/
def dgetI : List (V × V) → V → Option (Option V)
  | [], _ => some none
  | x :: r, k => match keq x.1 k with
    | none => none
    | some true => some (some x.2)
    | some false => dgetI r k
def dgetT : List (List V × V) → List V → Option (Option V)
  | [], _ => some none
  | x :: r, k => match kseq x.1 k with
    | none => none
    | some true => some (some x.2)
    | some false => dgetT r k

section
variable {P : Par} {h : Heap} {ρ : List Addr}
theorem dgetI_sound {kvs : List (V × V)} {kvs' : List (Int × Value)} (x : KVI P h ρ kvs kvs') {k : V} {i : Int} (hk : P.num k = some i) {r : Option V} (e : dgetI kvs k = some r) : OV P h ρ r (valueAt kvs' i) := by
  induction x with
  | nil => cases e; exact trivial
  | @cons k₀ v i₀ v' r₀ r' h1 h2 h3 ih =>
    unfold dgetI at e
    dsimp only at e
    cases q : keq k₀ k with
    | none => rw [q] at e; cases e
    | some b =>
      rw [q] at e
      have hb := keq_sound h1 hk q
      cases b with
      | true =>
        cases e
        have : i₀ = i := of_decide_eq_true hb.symm
        subst this
        simp only [valueAt, List.find?_cons, decide_true, Option.map_some]
        exact h2
      | false =>
        have : ¬ i₀ = i := of_decide_eq_false hb.symm
        have := ih e
        simpa only [valueAt, List.find?_cons, decide_eq_false ‹¬ i₀ = i›] using this
theorem dgetT_sound {kvs : List (List V × V)} {xs : List (List Int × Addr × Value)} (x : KVT P h ρ kvs xs) {k : List V} {i : List Int} (hk : P.nums k = some i) {r : Option V} (e : dgetT kvs k = some r) :
    OV P h ρ r ((atKey xs i).map (·.2)) := by
  induction x with
  | nil => cases e; exact trivial
  | @cons k₀ v ks a v' r₀ r' h1 h2 h3 h4 ih =>
    unfold dgetT at e
    dsimp only at e
    cases q : kseq k₀ k with
    | none => rw [q] at e; cases e
    | some b =>
      rw [q] at e
      have hb := kseq_sound h1 hk q
      cases b with
      | true =>
        cases e
        have : ks = i := of_decide_eq_true hb.symm
        subst this
        simp only [atKey, List.find?_cons, decide_true, Option.map_some]
        exact h3
      | false =>
        have hne : ¬ ks = i := of_decide_eq_false hb.symm
        have := ih e
        simpa only [atKey, List.find?_cons, decide_eq_false hne] using this

/-- a tuple of numbers is a key -/
theorem itemsAre {vs : List V} {ws : List Value} (x : VRs P h ρ vs ws) {ks : List Int} (e : P.nums vs = some ks) : ItemsAre P.ik ks ws := by
  induction vs generalizing ws ks with
  | nil => cases x; cases e; exact .nil
  | cons v vs ih =>
    obtain ⟨i, l, h1, h2, rfl⟩ := nums_cons e
    cases x with
    | cons a r =>
      obtain ⟨t, rfl⟩ := a.num_inv h1
      exact .cons (by simp [intKind, Value.isInt]) (ih r h2)
theorem isTupKey {vs : List V} {a : Addr} {items : Array Value} (t : TupAt h a items) (x : VRs P h ρ vs items.toList) {ks : List Int} (e : P.nums vs = some ks) : IsTupleKey P.ik h ks a :=
  let ⟨n, ht⟩ := t; ⟨_, items, n, ht, rfl, rfl, itemsAre x e⟩
end

/-- are all of them numbers? -/
def knum : V → Bool
  | .int _ => true
  | .nm _ => true
  | _ => false
def knums : List V → Bool
  | [] => true
  | v :: r => match knum v with
    | true => knums r
    | false => false

section
variable {P : Par} {h : Heap} {ρ : List Addr}
theorem knum_num {v : V} {v' : Value} (e : knum v = true) (x : VR P h ρ v v') : ∃ i, P.num v = some i := by
  cases x with
  | num t q => exact ⟨_, q⟩
  | _ => cases e
theorem knums_nums {vs : List V} {ws : List Value} (e : knums vs = true) (x : VRs P h ρ vs ws) : ∃ l, P.nums vs = some l := by
  induction vs generalizing ws with
  | nil => exact ⟨[], rfl⟩
  | cons v vs ih =>
    cases x with
    | cons a r =>
      unfold knums at e
      split at e
      · rename_i q
        obtain ⟨i, hi⟩ := knum_num q a
        obtain ⟨l, hl⟩ := ih e r
        exact ⟨i :: l, by simp [Par.nums, hi, hl]⟩
      · cases e
end
end
end Mine
end
section
open PySem PyProof.Rows
set_option maxRecDepth 20000
set_option linter.unusedSimpArgs false
set_option linter.unusedVariables false
namespace Mine
noncomputable section

/-- written ints, rows of them -/
def vInts : List V → Option (List Int)
  | [] => some []
  | v :: r => match v with
    | .int i => match vInts r with
      | some l => some (i :: l)
      | none => none
    | _ => none
def vRows : List V → Option (List (List Int))
  | [] => some []
  | v :: r => match v with
    | .tup vs => match vInts vs with
      | none => none
      | some x => match vRows r with
        | some l => some (x :: l)
        | none => none
    | _ => none

abbrev dInts (ns : List Int) : List PyData := ns.map PyData.int
abbrev dRows (rs : List (List Int)) : List PyData := rs.map fun r => PyData.tuple (dInts r)

section
variable {P : Par} {h : Heap} {ρ : List Addr}
theorem reads_ints {vs : List V} {ws : List Value} (x : VRs P h ρ vs ws) {ns : List Int} (e : vInts vs = some ns) : ReadsAll h ws (dInts ns) [] := by
  induction vs generalizing ws ns with
  | nil => cases x; cases e; exact .nil
  | cons v vs ih =>
    cases x with
    | cons a r =>
      unfold vInts at e
      split at e
      · split at e
        · cases e
          obtain ⟨t, rfl⟩ := a.int_inv
          exact .cons (as := []) (bs := []) (.int _ t) (ih r (by assumption))
        · cases e
      · cases e
theorem reads_rows {vs : List V} {ws : List Value} (x : VRs P h ρ vs ws) {rs : List (List Int)} (e : vRows vs = some rs) : ReadsAll h ws (dRows rs) [] := by
  induction vs generalizing ws rs with
  | nil => cases x; cases e; exact .nil
  | cons v vs ih =>
    cases x with
    | cons a r =>
      unfold vRows at e
      split at e
      · split at e
        · cases e
        · split at e
          · cases e
            obtain ⟨b, items, rfl, ⟨n, t⟩, q⟩ := a.tup_inv
            exact .cons (as := []) (bs := []) (.tuple t rfl rfl (reads_ints q (by assumption))) (ih r (by assumption))
          · cases e
      · cases e
end

theorem eqv_rows : ∀ a b : List (List Int), PyData.eqvAll (dRows a) (dRows b) = decide (a = b)
  | [], [] => by simp [PyData.eqvAll]
  | [], _ :: _ => by simp [PyData.eqvAll]
  | _ :: _, [] => by simp [PyData.eqvAll]
  | a :: r, b :: t => by
    show PyData.eqvAll (PyData.tuple (dInts a) :: dRows r) (PyData.tuple (dInts b) :: dRows t) = _
    simp only [PyData.eqvAll, PyData.eqv, PySem.W.ked_eqvAll, eqv_rows r t]
    by_cases h : a = b <;> by_cases h' : r = t <;> simp [h, h']
theorem canLay_rows : ∀ rs : List (List Int), PyData.canLayAll0 (dRows rs) = true
  | [] => rfl
  | _ :: r => by
    show PyData.canLayAll0 (PyData.tuple (dInts _) :: dRows r) = true
    simp [PyData.canLayAll0, PyData.canLay0, PySem.W.ke_canLayAll0, canLay_rows r]
theorem depth_rows : ∀ rs : List (List Int), PyData.depthAll (dRows rs) ≤ 1
  | [] => by simp [PyData.depthAll]
  | _ :: r => by
    have := depth_rows r
    show PyData.depthAll (PyData.tuple (dInts _) :: dRows r) ≤ 1
    simp only [PyData.depthAll, PyData.depth, PySem.W.ke_depthAll]
    omega
theorem shaped_rows (rs : List (List Int)) : SeqAt.shaped (.list (dRows rs)) = true := by
  have := depth_rows rs
  have e : (PyData.list (dRows rs)).depth = PyData.depthAll (dRows rs) + 1 := by simp [PyData.depth]
  have c : (PyData.list (dRows rs)).canLay0 = true := by rw [PyData.canLay0]; exact canLay_rows rs
  unfold SeqAt.shaped
  rw [c, e, Bool.true_and, decide_eq_true_iff]
  omega
theorem shaped_row (r : List Int) : SeqAt.shaped (.tuple (dInts r)) = true := by
  simp [SeqAt.shaped, PyData.canLay0, PyData.depth, PySem.W.ke_canLayAll0, PySem.W.ke_depthAll]

/-- equality, fast -/
def leq : List Int → List Int → Bool
  | [], [] => true
  | [], _ :: _ => false
  | _ :: _, [] => false
  | a :: r, b :: t => match PySem.W.Z.eqB a b with
    | true => leq r t
    | false => false
theorem leq_eq : ∀ a b : List Int, leq a b = decide (a = b)
  | [], [] => by simp [leq]
  | [], _ :: _ => by simp [leq]
  | _ :: _, [] => by simp [leq]
  | a :: r, b :: t => by
    unfold leq
    cases q : PySem.W.Z.eqB a b with
    | true => have := (PySem.W.Z.eqB_iff _ _).mp q; subst this; rw [leq_eq r t]; simp
    | false =>
      have : ¬ a = b := fun e => by rw [(PySem.W.Z.eqB_iff _ _).mpr e] at q; cases q
      simp [this]
def lleq : List (List Int) → List (List Int) → Bool
  | [], [] => true
  | [], _ :: _ => false
  | _ :: _, [] => false
  | a :: r, b :: t => match leq a b with
    | true => lleq r t
    | false => false
theorem lleq_eq : ∀ a b : List (List Int), lleq a b = decide (a = b)
  | [], [] => by simp [lleq]
  | [], _ :: _ => by simp [lleq]
  | _ :: _, [] => by simp [lleq]
  | a :: r, b :: t => by
    unfold lleq
    rw [leq_eq, lleq_eq r t]
    by_cases h : a = b <;> simp [h]
def lmem (a : List Int) : List (List Int) → Bool
  | [] => false
  | b :: r => match leq b a with
    | true => true
    | false => lmem a r

theorem countIn_rows (a : List Int) : ∀ rs : List (List Int), decide (Spec.countIn (.tuple (dInts a)) (dRows rs) ≠ 0) = lmem a rs
  | [] => by simp [Spec.countIn, lmem]
  | b :: r => by
    have ih := countIn_rows a r
    have h0 := countIn_ge0 (.tuple (dInts a)) (dRows r)
    have hs : Spec.same (.tuple (dInts b)) (.tuple (dInts a)) = decide (b = a) := by rw [Spec.same, PySem.W.ke_sameAll]
    show decide (Spec.countIn (.tuple (dInts a)) (PyData.tuple (dInts b) :: dRows r) ≠ 0) = _
    unfold lmem
    rw [leq_eq]
    simp only [Spec.countIn, hs]
    by_cases h : b = a
    · simp only [h, decide_true, if_true]
      rw [decide_eq_true_iff]
      omega
    · simp only [h, decide_false, Bool.false_eq_true, if_false]
      rw [← ih]
      simp
theorem noMix_ints : ∀ a b : List Int, SeqAt.noMixAll (dInts a) (dInts b) = true
  | [], [] => by simp [SeqAt.noMixAll]
  | [], _ :: _ => by simp [SeqAt.noMixAll]
  | _ :: _, [] => by simp [SeqAt.noMixAll]
  | _ :: r, _ :: t => by simp [SeqAt.noMixAll, SeqAt.noMix, noMix_ints r t]
end
end Mine
end
section
open PySem PyProof.Rows
set_option maxRecDepth 20000
set_option linter.unusedSimpArgs false
set_option linter.unusedVariables false
namespace Mine
noncomputable section

def gEq : V → V → Hp → Option (V × Hp) := fun a b hp => match a with
  | .int i => match b with
    | .int j => some (.bool (PySem.W.Z.eqB i j), hp)
    | _ => none
  | .str x => match b with
    | .str y => some (.bool (x == y), hp)
    | _ => none
  | .ob i => match b with
    | .ob j => match hp.get i with
      | some (.lst vs) => match hp.get j with
        | some (.lst ws) => match vInts vs with
          | some x => match vInts ws with
            | some y => some (.bool (leq x y), hp)
            | none => none
          | none => match vRows vs with
            | some x => match vRows ws with
              | some y => some (.bool (lleq x y), hp)
              | none => none
            | none => none
        | _ => none
      | _ => none
    | _ => none
  | _ => none

def gHas : V → V → Hp → Option Bool := fun a b hp => match b with
  | .ob j => match hp.get j with
    | some (.dI kvs _) => match knum a with
      | true => match dgetI kvs a with
        | some (some _) => some true
        | some none => some false
        | none => none
      | false => none
    | some (.dT kvs) => match a with
      | .tup vs => match knums vs with
        | true => match dgetT kvs vs with
          | some (some _) => some true
          | some none => some false
          | none => none
        | false => none
      | _ => none
    | some (.set v) => match knum a with
      | true => keq a v
      | false => none
    | _ => none
  | _ => none
def gIn : V → V → Hp → Option (V × Hp) := fun a b hp => match gHas a b hp with
  | some c => some (.bool c, hp)
  | none => none
def gNotIn : V → V → Hp → Option (V × Hp) := fun a b hp => match gHas a b hp with
  | some c => some (.bool (!c), hp)
  | none => match a with
    | .tup vs => match b with
      | .ob j => match hp.get j with
        | some (.lst ws) => match vInts vs with
          | some x => match vRows ws with
            | some y => some (.bool (!lmem x y), hp)
            | none => none
          | none => none
        | _ => none
      | _ => none
    | _ => none

def isNone : V → Option Bool
  | .none => some true
  | .bool _ => some false
  | .int _ => some false
  | .nm _ => some false
  | .str _ => some false
  | .ob _ => some false
  | .tup _ => some false
  | _ => none
def gIs : V → V → Hp → Option (V × Hp) := fun a b hp => match b with
  | .none => match isNone a with
    | some c => some (.bool c, hp)
    | none => none
  | _ => none
def gIsNot : V → V → Hp → Option (V × Hp) := fun a b hp => match b with
  | .none => match isNone a with
    | some c => some (.bool (!c), hp)
    | none => none
  | _ => none

section
variable {P : Par} {n : Nat}
theorem reads_lst {h : Heap} {ρ : List Addr} {a : Addr} {vs : List V} (x : OR P h ρ a (.lst vs)) {ds : List PyData} (hd : ∀ ws, VRs P h ρ vs ws → ReadsAll h ws ds []) : Reads h (.ref a) (.list ds) [a] := by
  obtain ⟨items, k, ho, r⟩ := x
  exact .list ho rfl rfl (hd _ r)
theorem room64 {A : Around} (a : AOk 8 A) : A.units + 65 < cLine := by have := a.u; show A.units + 65 < 9900; omega

theorem pEq : P2 P 8 (compareOp .Eq) gEq := by
  intro A s ρ hp a b a' b' v hp' ha H ra rb hg
  unfold gEq at hg
  split at hg
  · rename_i i
    split at hg
    · rename_i j
      obtain ⟨t, rfl⟩ := ra.int_inv
      obtain ⟨u, rfl⟩ := rb.int_inv
      cases hg
      refine PyProof.Rows.eq_int ?_
      have e : PySem.W.Z.eqB i j = (i == j) := by
        cases q : PySem.W.Z.eqB i j with
        | true => rw [(PySem.W.Z.eqB_iff _ _).mp q]; simp
        | false =>
          have : ¬ i = j := fun e => by rw [(PySem.W.Z.eqB_iff _ _).mpr e] at q; cases q
          simp [this]
      rw [← e]
      exact Res.at H (.bool _)
    · cases hg
  · split at hg
    · obtain ⟨t, rfl⟩ := ra.str_inv
      obtain ⟨u, rfl⟩ := rb.str_inv
      cases hg
      exact PyProof.Rows.eq_str (Res.at H (.bool _))
    · cases hg
  · split at hg
    · split at hg
      · rename_i vs hi
        split at hg
        · rename_i ws hj
          obtain ⟨x, hx, rfl⟩ := ra.ob_inv
          obtain ⟨y, hy, rfl⟩ := rb.ob_inv
          have o1 := H.obj hx hi
          have o2 := H.obj hy hj
          split at hg
          · rename_i p ep
            split at hg
            · rename_i q eq
              cases hg
              refine eq_dataH (reads_lst o1 fun ws r => reads_ints r ep) (reads_lst o2 fun ws r => reads_ints r eq) (PySem.W.ke_shaped_ints _) (PySem.W.ke_shaped_ints _) (by have := room64 ha; omega) ?_
              rw [PyData.eqv, PySem.W.ked_eqvAll, ← leq_eq]
              exact Res.at H (.bool _)
            · cases hg
          · split at hg
            · rename_i p ep
              split at hg
              · rename_i q eq
                cases hg
                refine eq_dataH (reads_lst o1 fun ws r => reads_rows r ep) (reads_lst o2 fun ws r => reads_rows r eq) (shaped_rows _) (shaped_rows _) (by have := room64 ha; omega) ?_
                rw [PyData.eqv, eqv_rows, ← lleq_eq]
                exact Res.at H (.bool _)
              · cases hg
            · cases hg
        · cases hg
      · cases hg
    · cases hg
  · cases hg

/-- what is asked of a dict -/
inductive Asks (P : Par) (A : Around) (h : Heap) (ρ : List Addr) (a' b' : Value) (c : Bool) : Prop
  | dI {d : Addr} {kvs' : List (Int × Value)} {ep : Nat} {i : Int} : b' = .ref d → (d == sysModules) = false → h.DictAt P.ik d kvs' ep → P.ik.is i a' = true → c = (valueAt kvs' i).isSome → Asks P A h ρ a' b' c
  | dT {d x : Addr} {xs : List (List Int × Addr × Value)} {i : List Int} : b' = .ref d → (d == sysModules) = false → a' = .ref x → h.DictOfH P.tk d xs → P.tk.is h i x → c = (atKey xs i).isSome → Asks P A h ρ a' b' c
  | set {d : Addr} {i j : Int} {t : Tok} : b' = .ref d → h.SetOf P.ik d (fun k => decide (k = j)) 1 → a' = .int i t → c = decide (i = j) → Asks P A h ρ a' b' c

theorem gHas_asks {A : Around} {s : Shared} {ρ : List Addr} {hp : Hp} {a b : V} {a' b' : Value} {c : Bool} (H : HI P ρ hp s) (ra : VR P s.heap ρ a a') (rb : VR P s.heap ρ b b') (hg : gHas a b hp = some c) : Asks P A s.heap ρ a' b' c := by
  unfold gHas at hg
  split at hg
  · obtain ⟨d, hd, rfl⟩ := rb.ob_inv
    have hm := List.mem_of_getElem? hd
    split at hg
    · rename_i kvs ep he
      obtain ⟨kvs', D, K⟩ := H.obj hd he
      split at hg
      · rename_i q
        obtain ⟨i, hi⟩ := knum_num q ra
        obtain ⟨t, rfl⟩ := ra.num_inv hi
        split at hg
        · rename_i r e
          cases hg
          have := dgetI_sound K hi e
          refine .dI rfl (H.notSys hm) D (i := i) (by simp [intKind, Value.isInt]) ?_
          cases q : valueAt kvs' i with
          | none => rw [q] at this; exact this.elim
          | some _ => rfl
        · rename_i e
          cases hg
          have := dgetI_sound K hi e
          refine .dI rfl (H.notSys hm) D (i := i) (by simp [intKind, Value.isInt]) ?_
          cases q : valueAt kvs' i with
          | none => rfl
          | some _ => rw [q] at this; exact this.elim
        · cases hg
      · cases hg
    · rename_i kvs he
      obtain ⟨xs, D, K⟩ := H.obj hd he
      split at hg
      · split at hg
        · rename_i q
          obtain ⟨x, items, rfl, t, r⟩ := ra.tup_inv
          obtain ⟨i, hi⟩ := knums_nums q r
          split at hg
          · rename_i e
            cases hg
            have := dgetT_sound K hi e
            refine .dT rfl (H.notSys hm) rfl D (isTupKey t r hi) ?_
            cases q : atKey xs i with
            | none => rw [q] at this; exact this.elim
            | some _ => rfl
          · rename_i e
            cases hg
            have := dgetT_sound K hi e
            refine .dT rfl (H.notSys hm) rfl D (isTupKey t r hi) ?_
            cases q : atKey xs i with
            | none => rfl
            | some _ => rw [q] at this; exact this.elim
          · cases hg
        · cases hg
      · cases hg
    · rename_i w he
      obtain ⟨j, hj, S⟩ := H.obj hd he
      split at hg
      · rename_i q
        obtain ⟨i, hi⟩ := knum_num q ra
        obtain ⟨t, rfl⟩ := ra.num_inv hi
        exact .set rfl S rfl (keq_sound hi hj hg)
      · cases hg
    · cases hg
  · cases hg

theorem pIn : P2 P 8 (compareOp .In) gIn := by
  intro A s ρ hp a b a' b' v hp' ha H ra rb hg
  unfold gIn at hg
  split at hg
  · rename_i c hc
    cases hg
    cases gHas_asks (A := A) H ra rb hc with
    | dI e1 e2 D k e => subst e1 e; exact wpAny_in_of k e2 D.dictOf.mapOf (Res.here H (.bool _))
    | dT e1 e2 e3 D k e => subst e1 e3 e; exact wpAny_in_heap (ha.le (by decide : 7 ≤ 8)).units1 k e2 D (Res.here H (.bool _))
    | set e1 S e2 e => subst e1 e2 e; exact wpAny_inSet_of (knd := P.ik) (by simp [intKind, Value.isInt]) rfl S (Res.here H (.bool _))
  · cases hg

theorem pNotIn : P2 P 8 (compareOp .NotIn) gNotIn := by
  intro A s ρ hp a b a' b' v hp' ha H ra rb hg
  unfold gNotIn at hg
  split at hg
  · rename_i c hc
    cases hg
    cases gHas_asks (A := A) H ra rb hc with
    | dI e1 e2 D k e => subst e1 e; exact wpAny_notIn_of k e2 D.dictOf.mapOf (Res.here H (.bool _))
    | dT e1 e2 e3 D k e => subst e1 e3 e; exact wpAny_notIn_heap (ha.le (by decide : 7 ≤ 8)).units1 k e2 D (Res.here H (.bool _))
    | set e1 S e2 e => subst e1 e2 e; exact wpAny_notInSet_of (knd := P.ik) (by simp [intKind, Value.isInt]) rfl S (Res.here H (.bool _))
  · split at hg
    · split at hg
      · split at hg
        · rename_i ws hj
          split at hg
          · rename_i p ep
            split at hg
            · rename_i q eq
              cases hg
              obtain ⟨x, items, rfl, ⟨k, t⟩, r⟩ := ra.tup_inv
              obtain ⟨y, hy, rfl⟩ := rb.ob_inv
              refine notIn_list_dataH (reads_lst (H.obj hy hj) fun ws r => reads_rows r eq) (.tuple t rfl rfl (reads_ints r ep)) (shaped_rows _) (shaped_row _) (room64 ha) (fun z hz => ?_) ?_
              · obtain ⟨row, _, rfl⟩ := List.mem_map.mp hz
                rw [SeqAt.noMix]; exact noMix_ints _ _
              · rw [countIn_rows]; exact Res.at H (.bool _)
            · cases hg
          · cases hg
        · cases hg
      · cases hg
    · cases hg

theorem isNone_is {h : Heap} {ρ : List Addr} {a : V} {a' : Value} {c : Bool} (r : VR P h ρ a a') (e : isNone a = some c) : plainIs a' .none = true ∧ (a' == Value.none) = c := by
  unfold isNone at e
  split at e <;> cases e
  · obtain rfl := r.none_inv; exact ⟨rfl, by decide⟩
  · obtain rfl := r.bool_inv; exact ⟨rfl, rfl⟩
  · obtain ⟨t, rfl⟩ := r.int_inv; exact ⟨rfl, rfl⟩
  · cases r with | num t e => exact ⟨rfl, rfl⟩
  · obtain ⟨t, rfl⟩ := r.str_inv; exact ⟨rfl, rfl⟩
  · obtain ⟨a, _, rfl⟩ := r.ob_inv; exact ⟨rfl, rfl⟩
  · obtain ⟨a, _, rfl, _⟩ := r.tup_inv; exact ⟨rfl, rfl⟩
theorem pIs : P2 P n (compareOp .Is) gIs := by
  intro A s ρ hp a b a' b' v hp' ha H ra rb hg
  unfold gIs at hg
  split at hg
  · split at hg
    · rename_i c hc
      cases hg
      obtain rfl := rb.none_inv
      obtain ⟨h1, h2⟩ := isNone_is ra hc
      exact wpAny_is_plain h1 (by rw [h2]; exact Res.at H (.bool _))
    · cases hg
  · cases hg
theorem pIsNot : P2 P n (compareOp .IsNot) gIsNot := by
  intro A s ρ hp a b a' b' v hp' ha H ra rb hg
  unfold gIsNot at hg
  split at hg
  · split at hg
    · rename_i c hc
      cases hg
      obtain rfl := rb.none_inv
      obtain ⟨h1, h2⟩ := isNone_is ra hc
      exact wpAny_isNot_plain h1 (by rw [h2]; exact Res.at H (.bool _))
    · cases hg
  · cases hg
end
end
end Mine
end
section
open PySem PyProof.Rows
set_option maxRecDepth 20000
set_option linter.unusedSimpArgs false
set_option linter.unusedVariables false
namespace Mine
noncomputable section

inductive Fl where
  | next | brk | cont
  | ret (v : V)

def FlR (P : Par) (h : Heap) (ρ : List Addr) : Fl → Flow → Prop
  | .next, f => f = .next
  | .brk, f => f = .brk
  | .cont, f => f = .cont
  | .ret v, f => ∃ v', f = .ret v' ∧ VR P h ρ v v'

/-- the names' block after a piece of the run -/
def At (P : Par) (G : Sg) (env : Env) (own : List Addr) (ρ : List Addr) (s : Shared) (loc' : Loc) (hp' : Hp) (s' : Shared) (ρ' : List Addr) : Prop :=
  HI P ρ' hp' s' ∧ FI P G env own ρ' loc' s'.heap ∧ Step own ρ s ρ' s'

def lset : Loc → Nat → V → Loc
  | [], _, _ => []
  | x :: r, i, v => match i with
    | 0 => some v :: r
    | i + 1 => x :: lset r i v
theorem lset_len : ∀ (l : Loc) (i : Nat) (v : V), (lset l i v).length = l.length
  | [], _, _ => rfl
  | x :: r, 0, v => rfl
  | x :: r, i + 1, v => by show (x :: lset r i v).length = _; simp [lset_len r i v]
theorem lset_get : ∀ (l : Loc) (i j : Nat) (v : V), (lset l i v)[j]? = if j = i ∧ j < l.length then some (some v) else l[j]?
  | [], i, j, v => by simp [lset]
  | x :: r, 0, 0, v => by simp [lset]
  | x :: r, 0, j + 1, v => by simp [lset]
  | x :: r, i + 1, 0, v => by simp [lset]
  | x :: r, i + 1, j + 1, v => by
    show (x :: lset r i v)[j + 1]? = _
    rw [List.getElem?_cons_succ, lset_get r i j v, List.getElem?_cons_succ]
    simp

theorem Sg.ok_nodup {G : Sg} (h : G.ok = true) : (G.vars.map (·.1)).Nodup := by
  unfold Sg.ok at h
  simp only [Bool.and_eq_true, decide_eq_true_eq] at h
  exact h.2
theorem Sg.uniq {G : Sg} (h : G.ok = true) {i j : Nat} {x : Str} {k l : VK} (hi : G.vars[i]? = some (x, k)) (hj : G.vars[j]? = some (x, l)) : i = j := by
  have nd := Sg.ok_nodup h
  have a : (G.vars.map (·.1))[i]? = some x := by rw [List.getElem?_map, hi]; rfl
  have b : (G.vars.map (·.1))[j]? = some x := by rw [List.getElem?_map, hj]; rfl
  exact (List.getElem?_inj (List.getElem?_eq_some_iff.mp a).1 nd).mp (a.trans b.symm)

section
variable {P : Par} {G : Sg} {env : Env} {own : List Addr} {ρ : List Addr} {loc : Loc} {s : Shared} {hp : Hp}

theorem store {A : Around} {i : Nat} {x : Str} {k : VK} {v : V} {v' : Value} (hi : G.vars[i]? = some (x, k)) (hk : k ≠ .cap) (H : HI P ρ hp s) (F : FI P G env own ρ loc s.heap) (hv : VR P s.heap ρ v v') :
    wpAny (model P.prog P.w) A (storeName env x v') (fun _ s' => At P G env own ρ s (lset loc i v) hp s' ρ) NoE s := by
  have fit := Sg.ok_at F.ok hi
  have hkd : env.scope.kind = .function := F.scope ▸ Sg.ok_kind F.ok
  have ko : env.kindOf x = G.scope.names.lookup x := by unfold Env.kindOf; rw [F.scope]
  obtain ⟨m, hn, hm⟩ := F.ns
  obtain ⟨hL, hl, h0⟩ := F.off _ F.L
  obtain ⟨oL, esL, epL, hoL, hdL, _⟩ := id hn
  have immL : ∀ o, s.heap.get? env.locals = some o → ¬ ImmO o := fun o e => by rw [hoL] at e; cases e; exact ImmO.not_dict hdL
  have hil : i < loc.length := by rw [F.len]; exact (List.getElem?_eq_some_iff.mp hi).1
  cases k with
  | cap => exact absurd rfl hk
  | loc =>
    refine wpAny_storeName_local (ko.trans (VK.fits_loc fit)) hn (fun h' hn' hs => ?_) (by rw [hkd]; rfl)
    have hz : s.heap.objs.size ≤ h'.objs.size := Nat.le_of_eq hs.1.symm
    have im : Imm s.heap h' := .same hs.extBut immL
    refine ⟨H.other hL h0 hs.extBut immL hz, ⟨F.ok, F.scope, F.glob, F.bui, by rw [lset_len]; exact F.len, ⟨_, hn', fun j y u hj hu => ?_⟩, fun j y kk u hj hkk hu => ?_, F.L, fun a ha => ?_, F.apart, fun y c e => Nat.lt_of_lt_of_le (F.clt y c e) hz, F.code⟩,
      .change (.inr F.L) hs.extBut immL hz⟩
    · rw [lset_get] at hu
      by_cases q : j = i ∧ j < loc.length
      · rw [if_pos q] at hu
        cases hu
        obtain ⟨rfl, _⟩ := q
        rw [hi] at hj
        cases hj
        simp only [if_true]
        exact hv.mono im (List.prefix_refl _)
      · rw [if_neg q] at hu
        have hne : y ≠ x := fun e => by
          subst e
          have := Sg.uniq F.ok hj hi
          subst this
          exact q ⟨rfl, hil⟩
        show OV P h' ρ u (if y = x then some v' else m y)
        rw [if_neg hne]
        exact (hm j y u hj hu).mono im (List.prefix_refl _)
    · rw [lset_get] at hu
      by_cases q : j = i ∧ j < loc.length
      · obtain ⟨rfl, _⟩ := q
        rw [hi] at hj
        cases hj
        exact absurd rfl hkk
      · rw [if_neg q] at hu
        obtain ⟨c, w, e, hc, hov, h1, h2, h3⟩ := F.cel j y kk u hj hkk hu
        exact ⟨c, w, e, hc.sameBut hs h2, hov.mono im (List.prefix_refl _), h1, h2, h3⟩
    · obtain ⟨h1, h2, h3⟩ := F.off a ha
      exact ⟨h1, Nat.lt_of_lt_of_le h2 hz, h3⟩
  | cel =>
    obtain ⟨u, hu⟩ : ∃ u, loc[i]? = some u := ⟨loc[i], List.getElem?_eq_getElem hil⟩
    obtain ⟨c, w, e, hc, hov, hcr, hcL, hco⟩ := F.cel i x .cel u hi (by decide) hu
    have hco := hco rfl
    obtain ⟨_, hcl, hc0⟩ := F.off c hco
    obtain ⟨oc, hoc, hdc⟩ := id hc
    have immC : ∀ o, s.heap.get? c = some o → ¬ ImmO o := fun o e => by rw [hoc] at e; cases e; exact ImmO.not_cell hdc
    refine wpAny_storeName_cell hkd (ko.trans (VK.fits_cel fit)) e hc (fun h' hc' hs => ?_)
    have hz : s.heap.objs.size ≤ h'.objs.size := Nat.le_of_eq hs.1.symm
    have im : Imm s.heap h' := .same hs.extBut immC
    refine ⟨(H.other (t := s.toks) hcr hc0 hs.extBut immC hz), ⟨F.ok, F.scope, F.glob, F.bui, by rw [lset_len]; exact F.len, ⟨m, hn.sameBut hs (Ne.symm hcL), fun j y u' hj hu' => ?_⟩, fun j y kk u' hj hkk hu' => ?_, F.L, fun a ha => ?_, F.apart, fun y c e => Nat.lt_of_lt_of_le (F.clt y c e) hz, F.code⟩,
      .change (t := s.toks) (.inr hco) hs.extBut immC hz⟩
    · rw [lset_get] at hu'
      by_cases q : j = i ∧ j < loc.length
      · obtain ⟨rfl, _⟩ := q
        rw [hi] at hj
        cases hj
      · rw [if_neg q] at hu'
        exact (hm j y u' hj hu').mono im (List.prefix_refl _)
    · rw [lset_get] at hu'
      by_cases q : j = i ∧ j < loc.length
      · rw [if_pos q] at hu'
        cases hu'
        obtain ⟨rfl, _⟩ := q
        rw [hi] at hj
        cases hj
        exact ⟨c, some v', e, hc', hv.mono im (List.prefix_refl _), hcr, hcL, fun _ => hco⟩
      · rw [if_neg q] at hu'
        obtain ⟨c2, w2, e2, hc2, hov2, h1, h2, h3⟩ := F.cel j y kk u' hj hkk hu'
        have hne : c2 ≠ c := by
          rintro rfl
          have := F.apart y x c2 e2 e
          subst this
          have := Sg.uniq F.ok hj hi
          subst this
          exact q ⟨rfl, hil⟩
        exact ⟨c2, w2, e2, hc2.sameBut hs hne, hov2.mono im (List.prefix_refl _), h1, h2, h3⟩
    · obtain ⟨h1, h2, h3⟩ := F.off a ha
      exact ⟨h1, Nat.lt_of_lt_of_le h2 hz, h3⟩
end

/-- a target -/
def SA (P : Par) (n : Nat) (G : Sg) (t : Expr) (f : V → Loc → Hp → Option (Loc × Hp)) : Prop :=
  ∀ A env own s ρ loc hp v v' loc' hp', AOk n A → HI P ρ hp s → FI P G env own ρ loc s.heap → VR P s.heap ρ v v' → f v loc hp = some (loc', hp') →
    wpAny (model P.prog P.w) A (assign t env v') (fun _ s' => ∃ ρ', At P G env own ρ s loc' hp' s' ρ') NoE s

def aName (i : Nat) : V → Loc → Hp → Option (Loc × Hp) := fun v loc hp => some (lset loc i v, hp)

section
variable {P : Par} {n : Nat} {G : Sg}
theorem SA.name {i : Nat} {x : Str} {k : VK} {pos : Pos} (hi : G.vars[i]? = some (x, k)) (hk : k ≠ .cap) : SA P n G (.Name x pos) (aName i) := by
  intro A env own s ρ loc hp v v' loc' hp' ha H F hv hf
  cases hf
  exact wpAny_assign_Name (wpAny_mono (store hi hk H F hv) (fun _ s' h => ⟨ρ, h⟩) fun _ _ h => h)
end

/-- a statement -/
def S1 (P : Par) (n : Nat) (G : Sg) (st : Stmt) (f : Loc → Hp → Option (Fl × Loc × Hp)) : Prop :=
  ∀ A env own s ρ loc hp fl loc' hp', AOk n A → HI P ρ hp s → FI P G env own ρ loc s.heap → f loc hp = some (fl, loc', hp') →
    wpAny (model P.prog P.w) A (exec st env) (fun fl' s' => ∃ ρ', At P G env own ρ s loc' hp' s' ρ' ∧ FlR P s'.heap ρ' fl fl') NoE s
def SS (P : Par) (n : Nat) (G : Sg) (l : List Stmt) (f : Loc → Hp → Option (Fl × Loc × Hp)) : Prop :=
  ∀ A env own s ρ loc hp fl loc' hp', AOk n A → HI P ρ hp s → FI P G env own ρ loc s.heap → f loc hp = some (fl, loc', hp') →
    wpAny (model P.prog P.w) A (execs l env) (fun fl' s' => ∃ ρ', At P G env own ρ s loc' hp' s' ρ' ∧ FlR P s'.heap ρ' fl fl') NoE s

def fNil : Loc → Hp → Option (Fl × Loc × Hp) := fun loc hp => some (.next, loc, hp)
def fSeq (f g : Loc → Hp → Option (Fl × Loc × Hp)) : Loc → Hp → Option (Fl × Loc × Hp) := fun loc hp => match f loc hp with
  | none => none
  | some (fl, loc1, hp1) => match fl with
    | .next => g loc1 hp1
    | .brk => some (.brk, loc1, hp1)
    | .cont => some (.cont, loc1, hp1)
    | .ret v => some (.ret v, loc1, hp1)

section
variable {P : Par} {n : Nat} {G : Sg}
theorem At.trans {env : Env} {own ρ ρ₁ ρ₂ : List Addr} {s s₁ s₂ : Shared} {loc₂ : Loc} {hp₂ : Hp} (x : Step own ρ s ρ₁ s₁) (y : At P G env own ρ₁ s₁ loc₂ hp₂ s₂ ρ₂) : At P G env own ρ s loc₂ hp₂ s₂ ρ₂ :=
  ⟨y.1, y.2.1, x.trans y.2.2⟩
theorem Step.own' {own ρ ρ' : List Addr} {s s' : Shared} (x : Step [] ρ s ρ' s') : Step own ρ s ρ' s' := x.weaken fun _ h => nomatch h
theorem S1.use {st : Stmt} {f : Loc → Hp → Option (Fl × Loc × Hp)} (x : S1 P n G st f) {A : Around} {env : Env} {own : List Addr} {s : Shared} {ρ : List Addr} {loc loc' : Loc} {hp hp' : Hp} {fl : Fl} {Q : Flow → Shared → Prop} {E : Value → Shared → Prop}
    (a : AOk n A) (H : HI P ρ hp s) (F : FI P G env own ρ loc s.heap) (hf : f loc hp = some (fl, loc', hp'))
    (k : ∀ fl' s' ρ', HI P ρ' hp' s' → FI P G env own ρ' loc' s'.heap → Step own ρ s ρ' s' → FlR P s'.heap ρ' fl fl' → Q fl' s') : wpAny (model P.prog P.w) A (exec st env) Q E s :=
  wpAny_mono (x A env own s ρ loc hp fl loc' hp' a H F hf) (fun fl' s' ⟨ρ', ⟨h1, h2, h3⟩, h4⟩ => k fl' s' ρ' h1 h2 h3 h4) fun _ _ h => h.elim
theorem SS.use {st : List Stmt} {f : Loc → Hp → Option (Fl × Loc × Hp)} (x : SS P n G st f) {A : Around} {env : Env} {own : List Addr} {s : Shared} {ρ : List Addr} {loc loc' : Loc} {hp hp' : Hp} {fl : Fl} {Q : Flow → Shared → Prop} {E : Value → Shared → Prop}
    (a : AOk n A) (H : HI P ρ hp s) (F : FI P G env own ρ loc s.heap) (hf : f loc hp = some (fl, loc', hp'))
    (k : ∀ fl' s' ρ', HI P ρ' hp' s' → FI P G env own ρ' loc' s'.heap → Step own ρ s ρ' s' → FlR P s'.heap ρ' fl fl' → Q fl' s') : wpAny (model P.prog P.w) A (execs st env) Q E s :=
  wpAny_mono (x A env own s ρ loc hp fl loc' hp' a H F hf) (fun fl' s' ⟨ρ', ⟨h1, h2, h3⟩, h4⟩ => k fl' s' ρ' h1 h2 h3 h4) fun _ _ h => h.elim
theorem S1.le {m : Nat} {st : Stmt} {f : Loc → Hp → Option (Fl × Loc × Hp)} (x : S1 P n G st f) (h : n ≤ m) : S1 P m G st f := fun A env own s ρ loc hp fl loc' hp' a => x A env own s ρ loc hp fl loc' hp' (a.le h)
theorem SS.le {m : Nat} {st : List Stmt} {f : Loc → Hp → Option (Fl × Loc × Hp)} (x : SS P n G st f) (h : n ≤ m) : SS P m G st f := fun A env own s ρ loc hp fl loc' hp' a => x A env own s ρ loc hp fl loc' hp' (a.le h)

theorem SS.nil : SS P n G [] fNil := by
  intro A env own s ρ loc hp fl loc' hp' ha H F hf
  cases hf
  exact wpAny_execs_nil ⟨ρ, ⟨H, F, .refl⟩, rfl⟩
theorem SS.cons {st : Stmt} {r : List Stmt} {f g : Loc → Hp → Option (Fl × Loc × Hp)} (x : S1 P n G st f) (y : SS P n G r g) : SS P n G (st :: r) (fSeq f g) := by
  intro A env own s ρ loc hp fl loc' hp' ha H F hf
  unfold fSeq at hf
  cases q : f loc hp with
  | none => rw [q] at hf; cases hf
  | some z =>
    obtain ⟨fl1, loc1, hp1⟩ := z
    rw [q] at hf
    refine wpAny_execs_cons (x.use ha H F q fun fl' s1 ρ1 H1 F1 S1 r1 => ?_)
    cases fl1 with
    | next =>
      obtain rfl : fl' = .next := r1
      exact y.use ha H1 F1 hf fun fl' s2 ρ2 H2 F2 S2 r2 => ⟨ρ2, ⟨H2, F2, S1.trans S2⟩, r2⟩
    | brk => obtain rfl : fl' = .brk := r1; cases hf; exact ⟨ρ1, ⟨H1, F1, S1⟩, rfl⟩
    | cont => obtain rfl : fl' = .cont := r1; cases hf; exact ⟨ρ1, ⟨H1, F1, S1⟩, rfl⟩
    | ret v => obtain ⟨v', rfl, hv⟩ := r1; cases hf; exact ⟨ρ1, ⟨H1, F1, S1⟩, ⟨v', rfl, hv⟩⟩

def fAsg (f : Loc → Hp → Option (V × Hp)) (i : Nat) : Loc → Hp → Option (Fl × Loc × Hp) := fun loc hp => match f loc hp with
  | none => none
  | some (v, hp1) => some (.next, lset loc i v, hp1)
theorem S1.asg {e : Expr} {f : Loc → Hp → Option (V × Hp)} {i : Nat} {x : Str} {k : VK} {px pos : Pos} (y : SE P n G e f) (hi : G.vars[i]? = some (x, k)) (hk : k ≠ .cap)
    (hs : ∀ env : Env, env.scope = G.scope → swapsWith e (some (.Name x px)) pos.line env = pure false := by intro _ _; rfl) : S1 P n G (.Assign [.Name x px] e pos) (fAsg f i) := by
  intro A env own s ρ loc hp fl loc' hp' ha H F hf
  unfold fAsg at hf
  cases q : f loc hp with
  | none => rw [q] at hf; cases hf
  | some z =>
    obtain ⟨v, hp1⟩ := z
    rw [q] at hf
    cases hf
    refine wpAny_Assign_Name (y.use ha H F q fun v' s1 ρ1 H1 F1 S1 r1 => ?_) (hs env F.scope)
    exact wpAny_mono (store hi hk H1 F1 r1) (fun _ s2 h => ⟨ρ1, At.trans S1.own' h, rfl⟩) fun _ _ h => h

def fRet (f : Loc → Hp → Option (V × Hp)) : Loc → Hp → Option (Fl × Loc × Hp) := fun loc hp => match f loc hp with
  | none => none
  | some (v, hp1) => some (.ret v, loc, hp1)
theorem S1.ret {e : Expr} {f : Loc → Hp → Option (V × Hp)} {pos : Pos} (y : SE P n G e f) : S1 P n G (.Return (some e) pos) (fRet f) := by
  intro A env own s ρ loc hp fl loc' hp' ha H F hf
  unfold fRet at hf
  cases q : f loc hp with
  | none => rw [q] at hf; cases hf
  | some z =>
    obtain ⟨v, hp1⟩ := z
    rw [q] at hf
    cases hf
    exact wpAny_Return_some (y.use ha H F q fun v' s1 ρ1 H1 F1 S1 r1 => ⟨ρ1, ⟨H1, F1, S1.own'⟩, ⟨v', rfl, r1⟩⟩)

def fExp (f : Loc → Hp → Option (V × Hp)) : Loc → Hp → Option (Fl × Loc × Hp) := fun loc hp => match f loc hp with
  | none => none
  | some (_, hp1) => some (.next, loc, hp1)
theorem S1.exp {e : Expr} {f : Loc → Hp → Option (V × Hp)} {pos : Pos} (y : SE P n G e f)
    (hi : ∀ env : Env, env.scope = G.scope → interactive env = false) (hs : ∀ env : Env, env.scope = G.scope → swapsWith e none pos.line env = pure false := by intro _ _; rfl) : S1 P n G (.Expr e pos) (fExp f) := by
  intro A env own s ρ loc hp fl loc' hp' ha H F hf
  unfold fExp at hf
  cases q : f loc hp with
  | none => rw [q] at hf; cases hf
  | some z =>
    obtain ⟨v, hp1⟩ := z
    rw [q] at hf
    cases hf
    exact wpAny_Expr_any (y.use ha H F q fun v' s1 ρ1 H1 F1 S1 r1 => ⟨ρ1, ⟨H1, F1, S1.own'⟩, rfl⟩) (hi env F.scope) (hs env F.scope)

theorem S1.brk {pos : Pos} : S1 P n G (.Break pos) (fun loc hp => some (.brk, loc, hp)) := by
  intro A env own s ρ loc hp fl loc' hp' ha H F hf
  cases hf
  exact wpAny_Break ⟨ρ, ⟨H, F, .refl⟩, rfl⟩
theorem S1.cont {pos : Pos} : S1 P n G (.Continue pos) (fun loc hp => some (.cont, loc, hp)) := by
  intro A env own s ρ loc hp fl loc' hp' ha H F hf
  cases hf
  exact wpAny_Continue ⟨ρ, ⟨H, F, .refl⟩, rfl⟩
end

/-- a test -/
def SB (P : Par) (n : Nat) (G : Sg) (e : Expr) (f : Loc → Hp → Option (Bool × Hp)) : Prop :=
  ∀ A env own s ρ loc hp b hp', AOk n A → HI P ρ hp s → FI P G env own ρ loc s.heap → f loc hp = some (b, hp') →
    wpAny (model P.prog P.w) A (isTrue e env (eval e env)) (fun b' s' => b' = b ∧ ∃ ρ', HI P ρ' hp' s' ∧ Step [] ρ s ρ' s') NoE s

section
variable {P : Par} {n : Nat} {G : Sg}
theorem SB.use {e : Expr} {f : Loc → Hp → Option (Bool × Hp)} (x : SB P n G e f) {A : Around} {env : Env} {own : List Addr} {s : Shared} {ρ : List Addr} {loc : Loc} {hp : Hp} {b : Bool} {hp' : Hp} {Q : Bool → Shared → Prop} {E : Value → Shared → Prop}
    (a : AOk n A) (H : HI P ρ hp s) (F : FI P G env own ρ loc s.heap) (hf : f loc hp = some (b, hp'))
    (k : ∀ s' ρ', HI P ρ' hp' s' → FI P G env own ρ' loc s'.heap → Step [] ρ s ρ' s' → Q b s') :
    wpAny (model P.prog P.w) A (isTrue e env (eval e env)) Q E s :=
  wpAny_mono (x A env own s ρ loc hp b hp' a H F hf) (fun b' s' ⟨e, ρ', h1, h2⟩ => by subst e; exact k s' ρ' h1 (F.step h2) h2) fun _ _ h => h.elim
theorem SB.le {m : Nat} {e : Expr} {f : Loc → Hp → Option (Bool × Hp)} (x : SB P n G e f) (h : n ≤ m) : SB P m G e f := fun A env own s ρ loc hp v hp' a => x A env own s ρ loc hp v hp' (a.le h)

def bBin (g : V → V → Hp → Option (V × Hp)) (f1 f2 : Loc → Hp → Option (V × Hp)) : Loc → Hp → Option (Bool × Hp) := fun loc hp => match fBin g f1 f2 loc hp with
  | some (.bool b, hp1) => some (b, hp1)
  | _ => none
theorem SB.cmp {e1 e2 : Expr} {op : CmpOp} {pos : Pos} {f1 f2 : Loc → Hp → Option (V × Hp)} {g : V → V → Hp → Option (V × Hp)} (x1 : SE P n G e1 f1) (x2 : SE P n G e2 f2) (hg : P2 P n (compareOp op) g)
    (hm : behindInMarks op e2 = false := by with_unfolding_all rfl) : SB P n G (.Compare e1 [op] [e2] pos) (bBin g f1 f2) := by
  intro A env own s ρ loc hp b hp' a H F hf
  unfold bBin at hf
  split at hf
  · rename_i c hp1 q
    cases hf
    obtain ⟨va, hp1, vb, hp2, h1, h2, h3⟩ := fBin_inv q
    refine wpAny_isTrue_Compare1 (x1.use a H F h1 fun a' s1 ρ1 H1 F1 S1 r1 => x2.use a H1 F1 h2 fun b' s2 ρ2 H2 F2 S2 r2 => ?_) hm
    refine wpAny_mono (hg A s2 ρ2 hp2 va vb a' b' _ _ a H2 (r1.mono S2.imm S2.pre) r2 h3) (fun v' s' ⟨ρ', q1, q2, q3⟩ => ?_) fun _ _ h => h
    obtain rfl := q3.bool_inv
    exact wpAny_truthy_bool ⟨rfl, ρ', q1, (S1.trans S2).trans q2⟩
  · cases hf

def fIf (b : Loc → Hp → Option (Bool × Hp)) (f g : Loc → Hp → Option (Fl × Loc × Hp)) : Loc → Hp → Option (Fl × Loc × Hp) := fun loc hp => match b loc hp with
  | none => none
  | some (c, hp1) => match c with
    | true => f loc hp1
    | false => g loc hp1
theorem S1.ife {e : Expr} {body orelse : List Stmt} {pos : Pos} {b : Loc → Hp → Option (Bool × Hp)} {f g : Loc → Hp → Option (Fl × Loc × Hp)} (x : SB P n G e b) (y : SS P n G body f) (z : SS P n G orelse g) :
    S1 P n G (.If e body orelse pos) (fIf b f g) := by
  intro A env own s ρ loc hp fl loc' hp' ha H F hf
  unfold fIf at hf
  cases q : b loc hp with
  | none => rw [q] at hf; cases hf
  | some w =>
    obtain ⟨c, hp1⟩ := w
    rw [q] at hf
    refine wpAny_If (x.use ha H F q fun s1 ρ1 H1 F1 S1 => ?_)
    cases c with
    | true =>
      rw [if_pos rfl]
      exact y.use ha H1 F1 hf fun fl' s2 ρ2 H2 F2 S2 r2 => ⟨ρ2, ⟨H2, F2, S1.own'.trans S2⟩, r2⟩
    | false =>
      rw [if_neg Bool.false_ne_true]
      exact z.use ha H1 F1 hf fun fl' s2 ρ2 H2 F2 S2 r2 => ⟨ρ2, ⟨H2, F2, S1.own'.trans S2⟩, r2⟩

def fIfE (b : Loc → Hp → Option (Bool × Hp)) (f g : Loc → Hp → Option (V × Hp)) : Loc → Hp → Option (V × Hp) := fun loc hp => match b loc hp with
  | none => none
  | some (c, hp1) => match c with
    | true => f loc hp1
    | false => g loc hp1
theorem SE.ife {e e1 e2 : Expr} {pos : Pos} {b : Loc → Hp → Option (Bool × Hp)} {f g : Loc → Hp → Option (V × Hp)} (x : SB P n G e b) (y : SE P n G e1 f) (z : SE P n G e2 g) :
    SE P n G (.IfExp e e1 e2 pos) (fIfE b f g) := by
  intro A env own s ρ loc hp v hp' ha H F hf
  unfold fIfE at hf
  cases q : b loc hp with
  | none => rw [q] at hf; cases hf
  | some w =>
    obtain ⟨c, hp1⟩ := w
    rw [q] at hf
    refine wpAny_IfExp (x.use ha H F q fun s1 ρ1 H1 F1 S1 => ?_)
    cases c with
    | true =>
      rw [if_pos rfl]
      exact y.use ha H1 F1 hf fun v' s2 ρ2 H2 F2 S2 r2 => ⟨ρ2, H2, S1.trans S2, r2⟩
    | false =>
      rw [if_neg Bool.false_ne_true]
      exact z.use ha H1 F1 hf fun v' s2 ρ2 H2 F2 S2 r2 => ⟨ρ2, H2, S1.trans S2, r2⟩
end
end
end Mine
end
section
open PySem PyProof.Rows
set_option maxRecDepth 20000
set_option linter.unusedSimpArgs false
set_option linter.unusedVariables false
namespace Mine
noncomputable section

/-- a row of expressions -/
def SEs (P : Par) (n : Nat) (G : Sg) (es : List Expr) (f : Loc → Hp → Option (List V × Hp)) : Prop :=
  ∀ pos A env own s ρ loc hp vs hp', AOk n A → HI P ρ hp s → FI P G env own ρ loc s.heap → f loc hp = some (vs, hp') →
    wpAny (model P.prog P.w) A (spliced (backTo pos (starEach es env))) (fun ws s' => ∃ ρ', HI P ρ' hp' s' ∧ Step [] ρ s ρ' s' ∧ VRs P s'.heap ρ' vs ws) NoE s

def fNo : Loc → Hp → Option (List V × Hp) := fun _ hp => some ([], hp)
def fCo (f : Loc → Hp → Option (V × Hp)) (g : Loc → Hp → Option (List V × Hp)) : Loc → Hp → Option (List V × Hp) := fun loc hp => match f loc hp with
  | none => none
  | some (v, hp1) => match g loc hp1 with
    | none => none
    | some (vs, hp2) => some (v :: vs, hp2)

section
variable {P : Par} {n : Nat} {G : Sg}
theorem SEs.nil : SEs P n G [] fNo := by
  intro pos A env own s ρ loc hp vs hp' ha H F hf
  cases hf
  exact Calls.spliced_nil ⟨ρ, H, .refl, .nil⟩
theorem SEs.cons {e : Expr} {r : List Expr} {f : Loc → Hp → Option (V × Hp)} {g : Loc → Hp → Option (List V × Hp)} (x : SE P n G e f) (y : SEs P n G r g)
    (he : ∀ env, starEach (e :: r) env = (false, eval e env) :: starEach r env := by intro _; rfl) : SEs P n G (e :: r) (fCo f g) := by
  intro pos A env own s ρ loc hp vs hp' ha H F hf
  unfold fCo at hf
  cases q : f loc hp with
  | none => rw [q] at hf; cases hf
  | some z =>
    obtain ⟨v, hp1⟩ := z
    rw [q] at hf
    dsimp only at hf
    cases q2 : g loc hp1 with
    | none => rw [q2] at hf; cases hf
    | some z2 =>
      obtain ⟨us, hp2⟩ := z2
      rw [q2] at hf
      cases hf
      refine args_cons (x.use ha H F q fun v' s1 ρ1 H1 F1 S1 r1 => ?_) (he env)
      exact wpAny_mono (y pos A env own s1 ρ1 loc hp1 us _ ha H1 F1 q2) (fun ws s2 ⟨ρ2, H2, S2, r2⟩ => ⟨ρ2, H2, S1.trans S2, .cons (r1.mono S2.imm S2.pre) r2⟩) fun _ _ h => h
theorem SEs.use {es : List Expr} {f : Loc → Hp → Option (List V × Hp)} (x : SEs P n G es f) {pos : Pos} {A : Around} {env : Env} {own : List Addr} {s : Shared} {ρ : List Addr} {loc : Loc} {hp : Hp} {vs : List V} {hp' : Hp} {Q : List Value → Shared → Prop} {E : Value → Shared → Prop}
    (a : AOk n A) (H : HI P ρ hp s) (F : FI P G env own ρ loc s.heap) (hf : f loc hp = some (vs, hp'))
    (k : ∀ ws s' ρ', HI P ρ' hp' s' → FI P G env own ρ' loc s'.heap → Step [] ρ s ρ' s' → VRs P s'.heap ρ' vs ws → Q ws s') :
    wpAny (model P.prog P.w) A (spliced (backTo pos (starEach es env))) Q E s :=
  wpAny_mono (x pos A env own s ρ loc hp vs hp' a H F hf) (fun v' s' ⟨ρ', h1, h2, h3⟩ => k v' s' ρ' h1 (F.step h2) h2 h3) fun _ _ h => h.elim

def fTup (f : Loc → Hp → Option (List V × Hp)) : Loc → Hp → Option (V × Hp) := fun loc hp => match f loc hp with
  | none => none
  | some (vs, hp1) => ch (few vs) (some (.tup vs, hp1))
def fLst (f : Loc → Hp → Option (List V × Hp)) : Loc → Hp → Option (V × Hp) := fun loc hp => match f loc hp with
  | none => none
  | some (vs, hp1) => ch (few vs) (mk hp1 (.lst vs))
theorem SE.tup {es : List Expr} {k : Nat} {pos : Pos} {f : Loc → Hp → Option (List V × Hp)} (x : SEs P n G es f) : SE P n G (.Tuple es k pos) (fTup f) := by
  intro A env own s ρ loc hp v hp' ha H F hf
  unfold fTup at hf
  cases q : f loc hp with
  | none => rw [q] at hf; cases hf
  | some z =>
    obtain ⟨vs, hp1⟩ := z
    rw [q] at hf
    obtain ⟨hw, hf⟩ := ch_inv hf
    cases hf
    refine wpAny_Tuple_spliced (x.use ha H F q fun ws s1 ρ1 H1 F1 S1 r1 => ⟨line (few_le hw r1), Res.after (own := own) S1 (Res.tup H1 (items := ws.toArray) (by simpa using r1))⟩)
theorem SE.lst {es : List Expr} {pos : Pos} {f : Loc → Hp → Option (List V × Hp)} (x : SEs P n G es f) : SE P n G (.List es pos) (fLst f) := by
  intro A env own s ρ loc hp v hp' ha H F hf
  unfold fLst at hf
  cases q : f loc hp with
  | none => rw [q] at hf; cases hf
  | some z =>
    obtain ⟨vs, hp1⟩ := z
    rw [q] at hf
    obtain ⟨hw, hf⟩ := ch_inv hf
    refine wpAny_List_spliced (x.use ha H F q fun ws s1 ρ1 H1 F1 S1 r1 => ⟨line (few_le hw r1), Res.after (own := own) S1 (Res.lst H1 (items := ws.toArray) hf (by simpa using r1))⟩)
end

/-- parts of a slice -/
def SP (P : Par) (n : Nat) (G : Sg) (o : Option Expr) (f : Loc → Hp → Option (Option Int × Hp)) : Prop :=
  ∀ A env own s ρ loc hp k hp', AOk n A → HI P ρ hp s → FI P G env own ρ loc s.heap → f loc hp = some (k, hp') →
    wpAny (model P.prog P.w) A (evalPart o env) (fun v' s' => ∃ ρ', HI P ρ' hp' s' ∧ Step [] ρ s ρ' s' ∧ IsPart v' k) NoE s
def pNo : Loc → Hp → Option (Option Int × Hp) := fun _ hp => some (none, hp)
def pSo (f : Loc → Hp → Option (V × Hp)) : Loc → Hp → Option (Option Int × Hp) := fun loc hp => match f loc hp with
  | some (.int i, hp1) => some (some i, hp1)
  | _ => none
def fSlc (f g h : Loc → Hp → Option (Option Int × Hp)) : Loc → Hp → Option (V × Hp) := fun loc hp => match f loc hp with
  | none => none
  | some (a, hp1) => match g loc hp1 with
    | none => none
    | some (b, hp2) => match h loc hp2 with
      | none => none
      | some (c, hp3) => some (.slc a b c, hp3)
section
variable {P : Par} {n : Nat} {G : Sg}
theorem SP.no : SP P n G none pNo := by
  intro A env own s ρ loc hp k hp' ha H F hf
  cases hf
  exact wpAny_evalPart_none ⟨ρ, H, .refl, .none⟩
theorem SP.so {e : Expr} {f : Loc → Hp → Option (V × Hp)} (x : SE P n G e f) : SP P n G (some e) (pSo f) := by
  intro A env own s ρ loc hp k hp' ha H F hf
  unfold pSo at hf
  split at hf
  · rename_i q
    cases hf
    refine wpAny_evalPart_some (x.use ha H F q fun v' s1 ρ1 H1 F1 S1 r1 => ?_)
    obtain ⟨t, rfl⟩ := r1.int_inv
    exact ⟨ρ1, H1, S1, .int _ t⟩
  · cases hf
theorem SP.use {o : Option Expr} {f : Loc → Hp → Option (Option Int × Hp)} (x : SP P n G o f) {A : Around} {env : Env} {own : List Addr} {s : Shared} {ρ : List Addr} {loc : Loc} {hp : Hp} {v : Option Int} {hp' : Hp} {Q : Value → Shared → Prop} {E : Value → Shared → Prop}
    (a : AOk n A) (H : HI P ρ hp s) (F : FI P G env own ρ loc s.heap) (hf : f loc hp = some (v, hp'))
    (k : ∀ v' s' ρ', HI P ρ' hp' s' → FI P G env own ρ' loc s'.heap → Step [] ρ s ρ' s' → IsPart v' v → Q v' s') :
    wpAny (model P.prog P.w) A (evalPart o env) Q E s :=
  wpAny_mono (x A env own s ρ loc hp v hp' a H F hf) (fun v' s' ⟨ρ', h1, h2, h3⟩ => k v' s' ρ' h1 (F.step h2) h2 h3) fun _ _ h => h.elim
theorem SE.slc {l u st : Option Expr} {p : Pos} {f g h : Loc → Hp → Option (Option Int × Hp)} (x : SP P n G l f) (y : SP P n G u g) (z : SP P n G st h) : SE P n G (.Slice l u st p) (fSlc f g h) := by
  intro A env own s ρ loc hp v hp' ha H F hf
  unfold fSlc at hf
  cases q1 : f loc hp with
  | none => rw [q1] at hf; cases hf
  | some z1 =>
    obtain ⟨a, hp1⟩ := z1
    rw [q1] at hf
    dsimp only at hf
    cases q2 : g loc hp1 with
    | none => rw [q2] at hf; cases hf
    | some z2 =>
      obtain ⟨b, hp2⟩ := z2
      rw [q2] at hf
      dsimp only at hf
      cases q3 : h loc hp2 with
      | none => rw [q3] at hf; cases hf
      | some z3 =>
        obtain ⟨c, hp3⟩ := z3
        rw [q3] at hf
        cases hf
        refine wpAny_Slice (x.use ha H F q1 fun v1 s1 ρ1 H1 F1 S1 r1 => y.use ha H1 F1 q2 fun v2 s2 ρ2 H2 F2 S2 r2 => z.use ha H2 F2 q3 fun v3 s3 ρ3 H3 F3 S3 r3 => ?_)
        refine Res.after (own := own) ((S1.trans S2).trans S3) (Res.grow (t := s3.toks) H3 (fun b o e => Heap.get?_push_of_some _ e) (by rw [Heap.size_push]; exact Nat.le_succ _) ?_)
        exact .slc ⟨v1, v2, v3, _, Heap.get?_push_size _ rfl, rfl, rfl, r1, r2, r3⟩
end
end
end Mine
end
section
open PySem PyProof.Rows
set_option maxRecDepth 20000
set_option linter.unusedSimpArgs false
set_option linter.unusedVariables false
namespace Mine
noncomputable section

def vnth : List V → Nat → Option V
  | [], _ => none
  | v :: r, i => match i with
    | 0 => some v
    | i + 1 => vnth r i
theorem vnth_eq : ∀ (l : List V) (i : Nat), vnth l i = l[i]?
  | [], _ => rfl
  | x :: r, 0 => rfl
  | x :: r, i + 1 => by show vnth r i = _; rw [vnth_eq r i]; simp

/-- the ends of a slice by ones -/
def cut (lo hi : Option Int) (n : Nat) : Option (Nat × Nat) :=
  match (match lo with | none => some 0 | some i => ch (PySem.W.Z.leB 0 i) (some (bif Nat.ble i.toNat n then i.toNat else n))) with
  | none => none
  | some a => match (match hi with | none => some n | some i => ch (PySem.W.Z.leB 0 i) (some (bif Nat.ble i.toNat n then i.toNat else n))) with
    | none => none
    | some b => ch (Nat.ble a b) (some (a, b))
def vcut (vs : List V) (a b : Nat) : List V := (vs.drop a).take (b - a)

def gItem : V → V → Hp → Option (V × Hp) := fun c k hp => match c with
  | .tup vs => match k with
    | .int i => ch (PySem.W.Z.leB 0 i && PySem.W.Z.ltB i 100000) (match vnth vs i.toNat with | some v => some (v, hp) | none => none)
    | .slc lo hi st => match st with
      | none => match cut lo hi vs.length with
        | some (a, b) => ch (few vs) (some (.tup (vcut vs a b), hp))
        | none => none
      | _ => none
    | _ => none
  | .ob j => match hp.get j with
    | some (.lst vs) => match k with
      | .int i => match PySem.W.Z.ltB i 0 with
        | false => ch (PySem.W.Z.ltB i 100000) (match vnth vs i.toNat with | some v => some (v, hp) | none => none)
        | true => ch (PySem.W.Z.leB (-100000) i && PySem.W.Z.leB 0 (i + vs.length)) (match vnth vs (i + vs.length).toNat with | some v => some (v, hp) | none => none)
      | .slc lo hi st => match st with
        | none => match cut lo hi vs.length with
          | some (a, b) => ch (few vs) (mk hp (.lst (vcut vs a b)))
          | none => none
        | some s => match lo with
          | none => match hi with
            | none => ch (PySem.W.Z.eqB s (-1) && few vs) (mk hp (.lst vs.reverse))
            | _ => none
          | _ => none
      | _ => none
    | some (.dI kvs _) => match knum k with
      | true => match dgetI kvs k with
        | some (some v) => some (v, hp)
        | _ => none
      | false => none
    | some (.dT kvs) => match k with
      | .tup ks => match knums ks with
        | true => match dgetT kvs ks with
          | some (some v) => some (v, hp)
          | _ => none
        | false => none
      | _ => none
    | _ => none
  | _ => none

def cutLo (n a : Nat) : Option Int → Prop
  | none => a = 0
  | some i => 0 ≤ i ∧ a = min i.toNat n
def cutHi (n b : Nat) : Option Int → Prop
  | none => b = n
  | some i => 0 ≤ i ∧ b = min i.toNat n
theorem cut_spec {lo hi : Option Int} {n a b : Nat} (h : cut lo hi n = some (a, b)) :
    a ≤ b ∧ b ≤ n ∧ cutLo n a lo ∧ cutHi n b hi := by
  have mn : ∀ i : Nat, (bif Nat.ble i n then i else n) = min i n := fun i => by
    cases q : Nat.ble i n with
    | true => have := Nat.le_of_ble_eq_true q; simp only [cond_true]; omega
    | false => have : ¬ i ≤ n := fun e => by rw [Nat.ble_eq_true_of_le e] at q; cases q
               simp only [cond_false]; omega
  unfold cut at h
  split at h
  · cases h
  · rename_i a' ea
    split at h
    · cases h
    · rename_i b' eb
      obtain ⟨hab, h⟩ := ch_inv h
      cases h
      have hab := Nat.le_of_ble_eq_true hab
      have ha : cutLo n a lo := by
        cases lo with
        | none => cases ea; rfl
        | some i =>
          obtain ⟨q, e⟩ := ch_inv ea
          rw [mn] at e
          cases e
          exact ⟨(PySem.W.Z.leB_iff _ _).mp q, rfl⟩
      have hb : cutHi n b hi := by
        cases hi with
        | none => cases eb; rfl
        | some i =>
          obtain ⟨q, e⟩ := ch_inv eb
          rw [mn] at e
          cases e
          exact ⟨(PySem.W.Z.leB_iff _ _).mp q, rfl⟩
      refine ⟨hab, ?_, ha, hb⟩
      cases hi with
      | none => simp only [cutHi] at hb; omega
      | some i => simp only [cutHi] at hb; omega

theorem bounds_cut {lo hi : Option Int} {n a b : Nat} (h : cut lo hi n = some (a, b)) : sliceBounds lo hi none n = ((a : Int), (b : Int), 1) := by
  obtain ⟨h1, h2, h3, h4⟩ := cut_spec h
  have p1 : ((1 : Int) > 0) := by omega
  cases lo <;> cases hi <;> simp only [cutLo, cutHi] at h3 h4 <;> simp only [sliceBounds, Option.getD_none, p1, if_true]
  · simp [h3, h4]
  · obtain ⟨h4, rfl⟩ := h4
    rw [if_neg (by omega)]
    simp only [Prod.mk.injEq, and_true]
    omega
  · obtain ⟨h3, rfl⟩ := h3
    rw [if_neg (by omega)]
    simp only [Prod.mk.injEq, and_true]
    omega
  · obtain ⟨h3, rfl⟩ := h3
    obtain ⟨h4, rfl⟩ := h4
    rw [if_neg (by omega), if_neg (by omega)]
    simp only [Prod.mk.injEq, and_true]
    omega
theorem pick_cut {lo hi : Option Int} {items : Array Value} {a b : Nat} (h : cut lo hi items.size = some (a, b)) : slicePick items lo hi none = ((items.toList.drop a).take (b - a)).toArray := by
  unfold slicePick
  rw [bounds_cut h]
  dsimp only
  rw [sliceRange_one, pick_run]

theorem adjust_cut {lo hi : Option Int} {n a b : Nat} (h : cut lo hi n = some (a, b)) : Builtin.Slice.sliceAdjust lo hi 1 (n : Int) = ((a : Int), (b : Int)) := by
  obtain ⟨h1, h2, h3, h4⟩ := cut_spec h
  unfold Builtin.Slice.sliceAdjust
  have p1 : ¬ ((1 : Int) < 0) := by omega
  cases lo <;> cases hi <;> simp only [cutLo, cutHi] at h3 h4 <;> simp only [p1, if_false]
  · simp [h3, h4]
  · obtain ⟨h4, rfl⟩ := h4
    rw [if_neg (by omega)]
    simp only [Prod.mk.injEq]
    omega
  · obtain ⟨h3, rfl⟩ := h3
    rw [if_neg (by omega)]
    simp only [Prod.mk.injEq]
    omega
  · obtain ⟨h3, rfl⟩ := h3
    obtain ⟨h4, rfl⟩ := h4
    rw [if_neg (by omega), if_neg (by omega)]
    simp only [Prod.mk.injEq]
    omega
theorem places_cut (a b : Nat) (h : a ≤ b) : Builtin.Slice.slicePlaces (a : Int) (b : Int) 1 = b - a := by
  unfold Builtin.Slice.slicePlaces
  have h1 : (1 : Int) > 0 := by omega
  simp only [h1, if_true, Int.ediv_one]
  split <;> omega
theorem pick_places (xs : Array Value) (a k : Nat) : ((List.range k).filterMap fun (j : Nat) => xs[((a : Int) + (j : Int) * 1).toNat]?) = (xs.toList.drop a).take k := by
  have e : (fun (j : Nat) => xs[((a : Int) + (j : Int) * 1).toNat]?) = fun j => xs[a + j]? := by
    funext j
    have : ((a : Int) + (j : Int) * 1).toNat = a + j := by omega
    rw [this]
  rw [e, ← pick_run xs a k, List.filterMap_map]
  rfl

section
variable {prog : Program} {w : World} {A : Around} {E : Value → Shared → Prop} {s : Shared}
theorem part_is {v : Value} {k : Option Int} {Q : Option Int → Shared → Prop} (x : IsPart v k) (h : Q k s) : wpAny (model prog w) A (Builtin.Slice.slicePartIndex v) Q E s := by
  cases x with
  | none => exact slicePart_none h
  | int i t => exact slicePart_int h

/-- a tuple's cut by ones -/
theorem getItem_tuple_cut {t sl : Addr} {items : Array Value} {m : Nat} {lo hi : Option Int} {a b : Nat} {Q : Value → Shared → Prop} (ht : s.heap.get? t = some { cls := .type "tuple", data := .seq items m })
    (hs : SlcAt s.heap sl lo hi none) (hc : cut lo hi items.size = some (a, b)) (hsz : items.size ≤ sizeLine)
    (h0 : a = 0 → b = items.size → Q (.ref t) s)
    (h : Q (.ref s.heap.objs.size) { s with heap := s.heap.push { cls := .type "tuple", data := .seq ((items.toList.drop a).take (b - a)).toArray } }) :
    wpAny (model prog w) A (getItem (.ref t) (.ref sl)) Q E s := by
  obtain ⟨h1, h2, _, _⟩ := cut_spec hc
  have ht' : IsTup s.heap t items := ⟨_, ht, rfl, m, rfl⟩
  obtain ⟨vl, vu, vs, os, hos, hcs, hds, pl, pu, ps⟩ := hs
  have hlen : ((items.toList.drop a).take (b - a)).length = b - a := by
    rw [List.length_take, List.length_drop, Array.length_toList]; omega
  have hok : sizeOk (.seq ((items.toList.drop a).take (b - a)).toArray) := by
    show ((items.toList.drop a).take (b - a)).toArray.size ≤ sizeLine
    rw [List.size_toArray, hlen]; omega
  have hTs : s.TypeIs (.ref sl) "slice" := ⟨os, hos, hcs⟩
  unfold getItem
  try with_reducible refine wpAny_holding ?_
  refine wpAny_bind (wpAny_sequenceKey ht'.typeIs (by decide) ?_)
  refine wpAny_bind (wpAny_callSpecial?_slot (name := Str.ofString "__getitem__") ht'.typeIs PyProof.Rows.slot_tuple_getitem
    (wpAny_call_entry PyProof.Rows.slot_tuple_getitem ht'.typeIs PyProof.Rows.entry_tuple_getitem ?_ (PyProof.Rows.args_tuple_getitem _ _)))
  show wpAny _ _ (Builtin.Tuple.tupleItemsOf (.ref t) >>= _) _ _ s
  refine wpAny_bind (tupleItemsOf_ ht' ?_)
  refine wpAny_bind (wpAny_typeOf hTs ?_)
  rw [if_pos (by decide)]
  refine wpAny_bind ?_
  · unfold Builtin.Slice.sliceApplied Builtin.Slice.sliceFields
    refine wpAny_bind (wpAny_bind (wpAny_field hos hds (x := vl) rfl (wpAny_bind (wpAny_field hos hds (x := vu) rfl (wpAny_bind (wpAny_field hos hds (x := vs) rfl (wpAny_pure ?_)))))))
    refine wpAny_bind (part_is ps ?_)
    show wpAny _ _ (if ((1 : Int) == 0) = true then _ else _) _ _ s
    rw [if_neg (by decide)]
    refine wpAny_bind (part_is pl (wpAny_bind (part_is pu (wpAny_bind (wpAny_pure ?_)))))
    show wpAny _ _ (match Builtin.Slice.sliceAdjust lo hi 1 (items.size : Int) with | (lo, hi) => pure (lo, (1 : Int), Builtin.Slice.slicePlaces lo hi 1)) _ _ s
    rw [adjust_cut hc]
    show wpAny _ _ (pure ((a : Int), (1 : Int), Builtin.Slice.slicePlaces (a : Int) (b : Int) 1)) _ _ s
    rw [places_cut a b h1]
    refine wpAny_pure ?_
    show wpAny _ _ (if ((a : Int) == 0 && (1 : Int) == 1 && (b - a) == items.size) = true then _ else _) _ _ s
    by_cases hw : ((a : Int) == 0 && (1 : Int) == 1 && (b - a) == items.size) = true
    · rw [if_pos hw]
      simp only [Bool.and_eq_true, beq_iff_eq] at hw
      have ha : a = 0 := by omega
      have hb : b = items.size := by omega
      refine wpAny_bind ?_
      unfold Builtin.Tuple.tupleIsExact
      refine wpAny_bind (wpAny_typeOf ht'.typeIs (wpAny_pure ?_))
      rw [if_pos (by decide)]
      exact wpAny_bind (wpAny_rule (wpAny_bind (wpAny_pure (wpAny_pure ⟨_, rfl, wpAny_pure (h0 ha hb)⟩))))
    · rw [if_neg hw, pick_places]
      first
        | exact wpAny_bind (m := Builtin.Tuple.tupleExact _) (wpAny_newObj_type (wpAny_pure ⟨_, rfl, wpAny_pure h⟩) hok)
        | exact wpAny_bind (m := Builtin.Tuple.tupleExact _) (wpAny_newObj_type (wpAny_bind (wpAny_pure (wpAny_pure ⟨_, rfl, wpAny_pure h⟩))) hok)
        | exact wpAny_bind (wpAny_bind (m := Builtin.Tuple.tupleExact _) (wpAny_newObj_type (wpAny_pure (wpAny_pure ⟨_, rfl, wpAny_pure h⟩)) hok))
        | exact wpAny_bind (wpAny_bind (m := Builtin.Tuple.tupleExact _) (wpAny_newObj_type (wpAny_pure ⟨_, rfl, wpAny_pure h⟩) hok))
end
theorem VRs.reverse {P : Par} {h : Heap} {ρ : List Addr} {vs : List V} {ws : List Value} (x : VRs P h ρ vs ws) : VRs P h ρ vs.reverse ws.reverse := by
  induction vs generalizing ws with
  | nil => cases x; exact .nil
  | cons v vs ih =>
    cases x with
    | cons a r =>
      rw [List.reverse_cons, List.reverse_cons]
      exact (ih r).append (.cons a .nil)
theorem vcut_rel {P : Par} {h : Heap} {ρ : List Addr} {vs : List V} {ws : List Value} (x : VRs P h ρ vs ws) (a b : Nat) : VRs P h ρ (vcut vs a b) ((ws.drop a).take (b - a)) := (x.drop a).take (b - a)

/-- an item, with the type at hand -/
def ItemOf (P : Par) (A : Around) (s : Shared) (o i : Value) (Q : Value → Shared → Prop) : Prop :=
  ∃ T id, s.TypeIs o T ∧ typeLookup (.type T) "__getitem__" = pure (some (.builtin id)) ∧ wpAny (model P.prog P.w) A (getItem o i) Q NoE s

section
variable {P : Par} {n : Nat}
theorem pItem {A : Around} {s : Shared} {ρ : List Addr} {hp : Hp} {c k : V} {c' k' : Value} {v : V} {hp' : Hp} (ha : AOk 8 A) (H : HI P ρ hp s) (rc : VR P s.heap ρ c c') (rk : VR P s.heap ρ k k') (hg : gItem c k hp = some (v, hp')) :
    ItemOf P A s c' k' (Res P ρ s v hp') := by
  unfold gItem at hg
  split at hg
  · rename_i vs
    obtain ⟨t, items, rfl, ⟨m, ht⟩, r⟩ := rc.tup_inv
    refine ⟨"tuple", _, ⟨_, ht, rfl⟩, PyProof.Rows.slot_tuple_getitem.lookup, ?_⟩
    split at hg
    · rename_i i
      obtain ⟨u, rfl⟩ := rk.int_inv
      obtain ⟨hi, hg⟩ := ch_inv hg
      simp only [Bool.and_eq_true, PySem.W.Z.leB_iff, PySem.W.Z.ltB_iff] at hi
      split at hg
      · rename_i w q
        cases hg
        rw [vnth_eq] at q
        obtain ⟨w', hw, rw'⟩ := r.get q
        have hlt : i.toNat < items.size := by
          have := (List.getElem?_eq_some_iff.mp hw).1
          simpa using this
        refine PySem.P.getItem_tuple ht (by omega) (by omega) (seqIndex_of (n := items.size) hi.1 (by omega)) (y := w') (by rw [← Array.getElem?_toList]; exact hw) (Res.at H rw')
      · cases hg
    · split at hg
      · split at hg
        · rename_i a b hc
          obtain ⟨hf, hg⟩ := ch_inv hg
          cases hg
          obtain ⟨sl, rfl, hs⟩ := rk.slc_inv
          have hlen : vs.length = items.size := by have := r.length; simpa using this
          rw [hlen] at hc
          refine getItem_tuple_cut ht hs hc (line (few_arr hf r)) (fun h1 h2 => ?_) (Res.tup H (by simpa using vcut_rel r a b))
          have e : vcut vs a b = vs := by unfold vcut; rw [h1, h2, ← hlen]; simp
          rw [e]
          exact Res.at H (.tup ⟨m, ht⟩ r)
        · cases hg
      · cases hg
    · cases hg
  · obtain ⟨d, hd, rfl⟩ := rc.ob_inv
    split at hg
    · rename_i vs he
      obtain ⟨items, m, hl, r⟩ := lst_at (H.obj hd he)
      have hlen : vs.length = items.size := by have := r.length; simpa using this
      refine ⟨"list", _, ⟨_, hl, rfl⟩, slot_list_getitem.lookup, ?_⟩
      split at hg
      · rename_i i
        obtain ⟨u, rfl⟩ := rk.int_inv
        split at hg
        · rename_i q0
          have h0 : ¬ i < 0 := fun e => by rw [(PySem.W.Z.ltB_iff _ _).mpr e] at q0; cases q0
          obtain ⟨hi, hg⟩ := ch_inv hg
          have hi := (PySem.W.Z.ltB_iff _ _).mp hi
          split at hg
          · rename_i w q
            cases hg
            rw [vnth_eq] at q
            obtain ⟨w', hw, rw'⟩ := r.get q
            exact wpAny_getItem_list hl.isList (by omega) (by omega) (by rw [← Array.getElem?_toList]; exact hw) (Res.at H rw')
          · cases hg
        · rename_i q0
          have h0 := (PySem.W.Z.ltB_iff _ _).mp q0
          obtain ⟨hi, hg⟩ := ch_inv hg
          simp only [Bool.and_eq_true, PySem.W.Z.leB_iff] at hi
          split at hg
          · rename_i w q
            cases hg
            rw [vnth_eq] at q
            obtain ⟨w', hw, rw'⟩ := r.get q
            exact wpAny_getItem_list_neg hl.isList (by omega) (by omega) (by omega) (by rw [← Array.getElem?_toList, ← hlen]; exact hw) (Res.at H rw')
          · cases hg
      · split at hg
        · split at hg
          · rename_i a b hc
            obtain ⟨hf, hg⟩ := ch_inv hg
            obtain ⟨sl, rfl, ⟨l1, l2, l3, os, hos, hcs, hds, pl, pu, ps⟩⟩ := rk.slc_inv
            rw [hlen] at hc
            refine wpAny_getItem_list_slice hl.isList ⟨os, hos, hcs, hds⟩ pl pu ps (by simp) ?_ (line (few_arr hf r))
            rw [pick_cut hc]
            exact Res.lst H hg (by simpa using vcut_rel r a b)
          · cases hg
        · split at hg
          · split at hg
            · rename_i st
              obtain ⟨hf, hg2⟩ := ch_inv hg
              clear hg
              simp only [Bool.and_eq_true] at hf
              obtain ⟨hs, hf⟩ := hf
              have hs := (PySem.W.Z.eqB_iff _ _).mp hs
              subst hs
              obtain ⟨sl, rfl, ⟨l1, l2, l3, os, hos, hcs, hds, pl, pu, ps⟩⟩ := rk.slc_inv
              refine wpAny_getItem_list_slice hl.isList ⟨os, hos, hcs, hds⟩ pl pu ps (by simp) ?_ (line (few_arr hf r))
              rw [PySem.W.krv_pick]
              exact Res.lst (items := items.toList.reverse.toArray) H hg2 r.reverse
            · cases hg
          · cases hg
      · cases hg
    · rename_i kvs ep he
      obtain ⟨kvs', D, K⟩ := H.obj hd he
      refine ⟨"dict", _, D.dictOf.typeIs, slot_dict_getitem.lookup, ?_⟩
      split at hg
      · rename_i q
        obtain ⟨i, hi⟩ := knum_num q rk
        obtain ⟨t, rfl⟩ := rk.num_inv hi
        split at hg
        · rename_i w e
          cases hg
          have := dgetI_sound K hi e
          cases q : valueAt kvs' i with
          | none => rw [q] at this; exact this.elim
          | some w' =>
            rw [q] at this
            exact wpAny_getItem_of (knd := P.ik) (k := i) (by simp [intKind, Value.isInt]) D.dictOf.mapOf q (Res.here H this)
        · cases hg
      · cases hg
    · rename_i kvs he
      obtain ⟨xs, D, K⟩ := H.obj hd he
      refine ⟨"dict", _, D.typeIs, slot_dict_getitem.lookup, ?_⟩
      split at hg
      · split at hg
        · rename_i q
          obtain ⟨x, items, rfl, t, r⟩ := rk.tup_inv
          obtain ⟨i, hi⟩ := knums_nums q r
          split at hg
          · rename_i w e
            cases hg
            have := dgetT_sound K hi e
            cases q : atKey xs i with
            | none => rw [q] at this; exact this.elim
            | some p =>
              rw [q] at this
              exact wpAny_getItem_heap (knd := P.tk) (ha.le (by decide : 7 ≤ 8)).units1 (isTupKey t r hi) D q (Res.here H this)
          · cases hg
        · cases hg
      · cases hg
    · cases hg
  · cases hg

theorem SE.sub {G : Sg} {e i : Expr} {pos : Pos} {f g : Loc → Hp → Option (V × Hp)} (x : SE P n G e f) (y : SE P n G i g) (h8 : 8 ≤ n)
    (hs : ∀ o j, ∃ ops, subscripted i false o j = operate ops (getItem o j) := by intro _ _; exact ⟨_, rfl⟩) : SE P n G (.Subscript e i pos) (fBin gItem f g) := by
  intro A env own s ρ loc hp v hp' ha H F hf
  obtain ⟨va, hp1, vb, hp2, h1, h2, h3⟩ := fBin_inv hf
  refine Subscript_ (x.use ha H F h1 fun a' s1 ρ1 H1 F1 S1 r1 => y.use ha H1 F1 h2 fun b' s2 ρ2 H2 F2 S2 r2 => ?_)
  obtain ⟨T, id, hT, hl, hg⟩ := pItem (ha.le h8) H2 (r1.mono S2.imm S2.pre) r2 h3
  obtain ⟨ops, ho⟩ := hs a' b'
  exact tail_any hT hl (wpAny_mono hg (fun v' s' r => Res.after (own := own) (S1.trans S2) r) fun _ _ h => h) ho
end
end
end Mine
end
section
open PySem PyProof.Rows
set_option maxRecDepth 20000
set_option linter.unusedSimpArgs false
set_option linter.unusedVariables false
namespace Mine
noncomputable section

/-- an iterator kept in the ledger -/
def gIter : V → Hp → Option (V × Hp) := fun v hp => match v with
  | .ob i => match hp.get i with
    | some (.lst _) => mk hp (.li i 0)
    | some (.dI kvs ep) => mk hp (.ki i 0 kvs.length ep)
    | _ => none
  | _ => none

def gNext (it : Nat) (hp : Hp) : Option (Option V × Hp) := match hp.get it with
  | some (.li l i) => match hp.get l with
    | some (.lst vs) => match vnth vs i with
      | some v => some (some v, hp.upd it (.li l (i + 1)))
      | none => some (none, hp.upd it .dead)
    | _ => none
  | some (.ki d i n ep) => match hp.get d with
    | some (.dI kvs ep') => ch (Nat.beq ep ep' && Nat.beq n kvs.length) (match vnth (kvs.map (·.1)) i with
      | some v => some (some v, hp.upd it (.ki d (i + 1) n ep))
      | none => some (none, hp.upd it .dead))
    | _ => none
  | _ => none

section
variable {P : Par} {n : Nat}
theorem KVI.length {h : Heap} {ρ : List Addr} {l : List (V × V)} {l' : List (Int × Value)} (x : KVI P h ρ l l') : l.length = l'.length := by
  induction x with
  | nil => rfl
  | cons _ _ _ ih => simp [ih]
theorem KVI.get {h : Heap} {ρ : List Addr} {l : List (V × V)} {l' : List (Int × Value)} (x : KVI P h ρ l l') {i : Nat} {k : V} (e : (l.map (·.1))[i]? = some k) : ∃ j v, l'[i]? = some (j, v) ∧ P.num k = some j := by
  induction x generalizing i with
  | nil => simp at e
  | cons h1 h2 h3 ih =>
    cases i with
    | zero => simp at e; subst e; exact ⟨_, _, rfl, h1⟩
    | succ i => simp only [List.map_cons, List.getElem?_cons_succ] at e ⊢; exact ih e

theorem grow1 {s : Shared} {o : Obj} : ∀ b ob, s.heap.get? b = some ob → (s.heap.push o).get? b = some ob := fun b ob e => Heap.get?_push_of_some _ e

theorem pIter : P1 P n pyIter gIter := by
  intro A s ρ hp v v' r hp' ha H rv hg
  unfold gIter at hg
  have sz : ∀ o : Obj, s.heap.objs.size ≤ (s.heap.push o).objs.size := fun o => by rw [Heap.size_push]; exact Nat.le_succ _
  have lt : ∀ o : Obj, s.heap.objs.size < (s.heap.push o).objs.size := fun o => by rw [Heap.size_push]; exact Nat.lt_succ_self _
  split at hg
  · rename_i i
    obtain ⟨a, hi, rfl⟩ := rv.ob_inv
    split at hg
    · rename_i vs he
      obtain ⟨items, m, hl, r⟩ := lst_at (H.obj hi he)
      refine wpAny_pyIter_list hl.isList (Res.mk (t := s.toks) H hg grow1 (sz _) (Nat.le_refl _) (lt _) ?_)
      exact ⟨a, pre_get (List.prefix_append _ _) hi, _, Heap.get?_push_size _ rfl, rfl, rfl⟩
    · rename_i kvs ep he
      obtain ⟨kvs', D, K⟩ := H.obj hi he
      refine wpAny_pyIter_dict (H.notSys (List.mem_of_getElem? hi)) D (Res.mk (t := s.toks) H hg grow1 (sz _) (Nat.le_refl _) (lt _) ?_)
      exact ⟨a, pre_get (List.prefix_append _ _) hi, _, Heap.get?_push_size _ rfl, rfl, by rw [K.length]; rfl⟩
    · cases hg
  · cases hg

theorem not_imm_cls {o : Obj} {c : Value} (h : o.cls = c) (h1 : c ≠ .type "tuple") (h2 : c ≠ .type "range") (h3 : c ≠ .type "slice") : ¬ ImmO o := ImmO.not_cls (h ▸ h1) (h ▸ h2) (h ▸ h3)

/-- what a turn's asking ends in -/
def Nxt (P : Par) (ρ : List Addr) (s : Shared) (r : Option V) (hp' : Hp) : Option Value → Shared → Prop :=
  fun r' s' => OV P s'.heap ρ r r' ∧ HI P ρ hp' s' ∧ Step [] ρ s ρ s'

theorem nxt_some {A : Around} {s : Shared} {ρ : List Addr} {hp : Hp} {it : Nat} {a : Addr} {v : V} {v' : Value} {o : O} {h' : Heap} {t : Nat} (H : HI P ρ hp s) (hi : ρ[it]? = some a) (hs : Heap.SameBut a s.heap h')
    (hn : ∀ o, s.heap.get? a = some o → ¬ ImmO o) (ho : OR P h' ρ a o) (hv : VR P s.heap ρ v v') : Nxt P ρ s (some v) (hp.upd it o) (some v') { s with heap := h', toks := t } := by
  have hz : s.heap.objs.size ≤ h'.objs.size := Nat.le_of_eq hs.1.symm
  exact ⟨hv.mono (.same hs.extBut hn) (List.prefix_refl _), H.upd hi hs.extBut hn hz ho, .change (.inl (List.mem_of_getElem? hi)) hs.extBut hn hz⟩
theorem nxt_none {s : Shared} {ρ : List Addr} {hp : Hp} {it : Nat} {a : Addr} {h' : Heap} {t : Nat} (H : HI P ρ hp s) (hi : ρ[it]? = some a) (hs : Heap.ExtBut a s.heap h')
    (hn : ∀ o, s.heap.get? a = some o → ¬ ImmO o) (hz : s.heap.objs.size ≤ h'.objs.size) : Nxt P ρ s none (hp.upd it .dead) none { s with heap := h', toks := t } :=
  ⟨trivial, H.upd hi hs hn hz trivial, .change (.inl (List.mem_of_getElem? hi)) hs hn hz⟩

theorem pNext {A : Around} {s : Shared} {ρ : List Addr} {hp : Hp} {it : Nat} {a : Addr} {r : Option V} {hp' : Hp} (ha : AOk n A) (H : HI P ρ hp s) (hi : ρ[it]? = some a) (hg : gNext it hp = some (r, hp')) :
    wpAny (model P.prog P.w) A (pyNext (.ref a)) (Nxt P ρ s r hp') NoE s := by
  unfold gNext at hg
  split at hg
  · rename_i l i he
    obtain ⟨b, hb, hit⟩ := H.obj hi he
    have imm : ∀ o, s.heap.get? a = some o → ¬ ImmO o := fun o e => by
      obtain ⟨o', e', hc, _⟩ := hit
      rw [e'] at e; cases e
      exact not_imm_cls hc (by decide) (by decide) (by decide)
    split at hg
    · rename_i vs hl
      obtain ⟨items, m, hL, rr⟩ := lst_at (H.obj hb hl)
      have hab : a ≠ b := by
        rintro rfl
        obtain ⟨o', e', hc, _⟩ := hit
        rw [hL] at e'; cases e'; simp at hc
      split at hg
      · rename_i v q
        cases hg
        rw [vnth_eq] at q
        obtain ⟨w, hw, rw'⟩ := rr.get q
        exact wpAny_pyNext_list_item hit hL.isList (by rw [← Array.getElem?_toList]; exact hw) fun h' hit' hs => nxt_some (A := A) (t := s.toks) H hi hs imm ⟨b, hb, hit'⟩ rw'
      · rename_i q
        cases hg
        rw [vnth_eq] at q
        have hw := rr.get_none q
        exact with_size (wpAny_pyNext_list_end ha.h hit hL.isList (by rw [← Array.getElem?_toList]; exact hw) fun h' hs hz => nxt_none (t := s.toks) H hi hs imm hz)
    · cases hg
  · rename_i d i m ep he
    obtain ⟨b, hb, hit⟩ := H.obj hi he
    have imm : ∀ o, s.heap.get? a = some o → ¬ ImmO o := fun o e => by
      obtain ⟨o', e', hc, _⟩ := hit
      rw [e'] at e; cases e
      exact not_imm_cls hc (by decide) (by decide) (by decide)
    split at hg
    · rename_i kvs ep' hd
      obtain ⟨kvs', D, K⟩ := H.obj hb hd
      obtain ⟨hc, hg2⟩ := ch_inv hg
      clear hg
      simp only [Bool.and_eq_true] at hc
      have e1 := Nat.eq_of_beq_eq_true hc.1
      have e2 := Nat.eq_of_beq_eq_true hc.2
      subst e1 e2
      rw [K.length] at hit
      split at hg2
      · rename_i v q
        cases hg2
        rw [vnth_eq] at q
        obtain ⟨j, w, hw, hj⟩ := K.get q
        refine wpAny_pyNext_dict_item hit D hw fun key h' hk hit' hs => ?_
        obtain ⟨tt, rfl⟩ := Value.isInt_shape (show Value.isInt j key = true from hk)
        exact nxt_some (A := A) (t := s.toks) H hi hs imm ⟨b, hb, by rw [K.length]; exact hit'⟩ (.num _ hj)
      · rename_i q
        cases hg2
        rw [vnth_eq] at q
        have hw : kvs'[i]? = none := by
          rw [List.getElem?_eq_none_iff] at q ⊢
          rw [List.length_map, K.length] at q
          exact q
        exact with_size (wpAny_pyNext_dict_end ha.h hit D hw fun h' hs hz => nxt_none (t := s.toks) H hi hs imm hz)
    · cases hg
  · cases hg
end

/-- an iterator of a loop's own -/
inductive It where
  | li (l i : Nat)
  | ti (vs : List V)
  | ri (x : Int) (n : Nat)
  | ki (d i n ep : Nat)
  | st (i : Nat)

def It.priv : It → Prop
  | .st _ => False
  | _ => True

def ItR (P : Par) (h : Heap) (ρ : List Addr) (a : Addr) : It → Prop
  | .li l i => ∃ b, ρ[l]? = some b ∧ h.IsListIter a b i
  | .ti vs => ∃ t items k, TupAt h t items ∧ VRs P h ρ vs (items.toList.drop k) ∧ h.IsTupleIter a t k
  | .ri x n => IsRangeIter h a x (n : Int) 1
  | .ki d i n ep => ∃ b, ρ[d]? = some b ∧ h.IsKeyIter a b i n ep
  | .st i => ρ[i]? = some a

/-- the loop's own thing stands apart from all else -/
structure Own (P : Par) (env : Env) (own ρ : List Addr) (h : Heap) (a : Addr) : Prop where
  ρ : a ∉ ρ
  own : a ∉ own
  cel : ∀ y c, env.cells.lookup y = some c → c ≠ a
  lo : P.h₀.objs.size ≤ a
  hi : a < h.objs.size

structure ItOk (P : Par) (env : Env) (own ρ : List Addr) (h : Heap) (a : Addr) (it : It) : Prop where
  r : ItR P h ρ a it
  own : it.priv → Own P env own ρ h a

section
variable {P : Par} {env : Env} {own ρ ρ' : List Addr} {s s' : Shared} {a : Addr} {it : It}
theorem Own.step {own' : List Addr} (x : Own P env own ρ s.heap a) (st : Step own' ρ s ρ' s') : Own P env own ρ' s'.heap a :=
  ⟨fun hm => by
    rcases st.fresh a hm with h | h
    · exact x.ρ h
    · exact absurd x.hi (Nat.not_lt.mpr h), x.own, x.cel, x.lo, Nat.lt_of_lt_of_le x.hi st.size⟩
theorem ItR.mono {h h' : Heap} (hi : Imm h h') (hp : ρ <+: ρ') (hk : ∀ o, h.get? a = some o → h'.get? a = some o) (x : ItR P h ρ a it) : ItR P h' ρ' a it := by
  cases it with
  | li l i => obtain ⟨b, e, ob, ho, r⟩ := x; exact ⟨b, pre_get hp e, ob, hk _ ho, r⟩
  | ti vs => obtain ⟨t, items, k, e, r, ob, ho, q⟩ := x; exact ⟨t, items, k, e.imm hi, r.mono hi hp, ob, hk _ ho, q⟩
  | ri x n => exact hk _ x
  | ki d i n ep => obtain ⟨b, e, ob, ho, r⟩ := x; exact ⟨b, pre_get hp e, ob, hk _ ho, r⟩
  | st i => exact pre_get hp x
theorem ItOk.step {own' : List Addr} (x : ItOk P env own ρ s.heap a it) (st : Step own' ρ s ρ' s') (ha : it.priv → a ∉ own') : ItOk P env own ρ' s'.heap a it := by
  refine ⟨?_, fun p => (x.own p).step st⟩
  by_cases p : it.priv
  · exact x.r.mono st.imm st.pre fun o e => st.keep a o e (x.own p).ρ (ha p)
  · cases it with
    | st i => exact pre_get st.pre x.r
    | _ => exact absurd trivial p
end

/-- a loop's iterator -/
def gIt (v : V) (hp : Hp) : Option It := match v with
  | .ob i => match hp.get i with
    | some (.lst _) => some (.li i 0)
    | some (.li _ _) => some (.st i)
    | some (.dI kvs ep) => some (.ki i 0 kvs.length ep)
    | _ => none
  | .tup vs => some (.ti vs)
  | .rng a b c => ch (PySem.W.Z.eqB a 0 && PySem.W.Z.eqB c 1 && PySem.W.Z.ltB (-100000) b && PySem.W.Z.ltB b 100000) (some (.ri 0 b.toNat))
  | _ => none

def gNx (it : It) (hp : Hp) : Option (Option V × It × Hp) := match it with
  | .li l i => match hp.get l with
    | some (.lst vs) => match vnth vs i with
      | some v => some (some v, .li l (i + 1), hp)
      | none => some (none, .li l i, hp)
    | _ => none
  | .ti vs => match vs with
    | [] => some (none, .ti vs, hp)
    | v :: r => some (some v, .ti r, hp)
  | .ri x n => match n with
    | 0 => some (none, .ri x n, hp)
    | m + 1 => some (some (.int x), .ri (x + 1) m, hp)
  | .ki d i n ep => match hp.get d with
    | some (.dI kvs ep') => ch (Nat.beq ep ep' && Nat.beq n kvs.length) (match vnth (kvs.map (·.1)) i with
      | some v => some (some v, .ki d (i + 1) n ep, hp)
      | none => some (none, .ki d i n ep, hp))
    | _ => none
  | .st i => match gNext i hp with
    | some (r, hp1) => some (r, .st i, hp1)
    | none => none

section
variable {P : Par} {n : Nat} {env : Env} {own : List Addr}

/-- an iterator's making ends so -/
def Itd (P : Par) (env : Env) (own ρ : List Addr) (hp : Hp) (s : Shared) (it : It) : Value → Shared → Prop :=
  fun v' s' => ∃ a, v' = .ref a ∧ HI P ρ hp s' ∧ Step [] ρ s ρ s' ∧ (s.heap.objs.size ≤ a ∨ a ∈ ρ) ∧ ItOk P env own ρ s'.heap a it

theorem Itd.new {ρ : List Addr} {hp : Hp} {s : Shared} {it : It} {o : Obj} (H : HI P ρ hp s) (hown : ∀ b ∈ own, b < s.heap.objs.size) (hcel : ∀ y c, env.cells.lookup y = some c → c < s.heap.objs.size)
    (r : ItR P (s.heap.push o) ρ s.heap.objs.size it) : Itd P env own ρ hp s it (.ref s.heap.objs.size) { s with heap := s.heap.push o } := by
  have sz : s.heap.objs.size ≤ (s.heap.push o).objs.size := by rw [Heap.size_push]; exact Nat.le_succ _
  refine ⟨_, rfl, (H.keeps (s' := { s with heap := s.heap.push o }) grow1 sz), Step.grow (t := s.toks) grow1 sz, .inl (Nat.le_refl _), r, fun _ => ⟨fun hm => ?_, fun hm => ?_, fun y c e => ?_, H.sz, ?_⟩⟩
  · exact absurd (H.new _ hm).2 (Nat.lt_irrefl _)
  · exact absurd (hown _ hm) (Nat.lt_irrefl _)
  · exact Nat.ne_of_lt (hcel y c e)
  · show s.heap.objs.size < (s.heap.push o).objs.size
    rw [Heap.size_push]; exact Nat.lt_succ_self _

theorem pIt {A : Around} {ρ : List Addr} {hp : Hp} {s : Shared} {v : V} {v' : Value} {it : It} (ha : AOk n A) (H : HI P ρ hp s) (rv : VR P s.heap ρ v v') (hg : gIt v hp = some it)
    (hown : ∀ b ∈ own, b < s.heap.objs.size) (hcel : ∀ y c, env.cells.lookup y = some c → c < s.heap.objs.size) :
    wpAny (model P.prog P.w) A (pyIter v') (Itd P env own ρ hp s it) NoE s := by
  unfold gIt at hg
  split at hg
  · rename_i i
    obtain ⟨a, hi, rfl⟩ := rv.ob_inv
    split at hg
    · rename_i vs he
      cases hg
      obtain ⟨items, m, hl, r⟩ := lst_at (H.obj hi he)
      exact wpAny_pyIter_list hl.isList (.new H hown hcel ⟨a, hi, _, Heap.get?_push_size _ rfl, rfl, rfl⟩)
    · rename_i l j he
      obtain ⟨b, hb, hit⟩ := H.obj hi he
      cases hg
      exact wpAny_pyIter_listiter hit ⟨a, rfl, H, .refl, .inr (List.mem_of_getElem? hi), hi, fun p => p.elim⟩
    · rename_i kvs ep he
      cases hg
      obtain ⟨kvs', D, K⟩ := H.obj hi he
      refine wpAny_pyIter_dict (H.notSys (List.mem_of_getElem? hi)) D (.new H hown hcel ?_)
      exact ⟨a, hi, _, Heap.get?_push_size _ rfl, rfl, by rw [K.length]; rfl⟩
    · cases hg
  · rename_i vs
    cases hg
    obtain ⟨a, items, rfl, ⟨m, ht⟩, r⟩ := rv.tup_inv
    refine wpAny_pyIter_tuple ⟨_, ht, rfl, m, rfl⟩ (.new H hown hcel ?_)
    exact ⟨a, items, 0, ⟨m, Heap.get?_push_of_some _ ht⟩, r.mono (.of grow1) (List.prefix_refl _), _, Heap.get?_push_size _ rfl, rfl, rfl⟩
  · rename_i a b c
    obtain ⟨x, rfl, t, u, w, hr⟩ := rv.rng_inv
    obtain ⟨hc, hg2⟩ := ch_inv hg
    clear hg
    cases hg2
    simp only [Bool.and_eq_true, PySem.W.Z.eqB_iff, PySem.W.Z.leB_iff, PySem.W.Z.ltB_iff] at hc
    obtain ⟨⟨⟨rfl, rfl⟩, h0⟩, h1⟩ := hc
    refine wpAny_pyIter_range hr (small_one (by decide) (by decide) (by omega) (by omega)) (.new H hown hcel ?_)
    have e : Builtin.Range.rangeSize 0 b 1 = (b.toNat : Int) := by rw [rangeSize_one]; split <;> omega
    show IsRangeIter _ _ 0 (b.toNat : Int) 1
    rw [e]
    exact Heap.get?_push_size _ rfl
  · cases hg

/-- a turn's asking -/
def Nxd (P : Par) (env : Env) (own ρ : List Addr) (a : Addr) (r : Option V) (it' : It) (hp' : Hp) (s : Shared) : Option Value → Shared → Prop :=
  fun r' s' => OV P s'.heap ρ r r' ∧ HI P ρ hp' s' ∧ Step [a] ρ s ρ s' ∧ (r.isSome → ItOk P env own ρ s'.heap a it') ∧ (a ∈ ρ ∨ Own P env own ρ s'.heap a)

theorem Nxd.change {ρ : List Addr} {hp : Hp} {s : Shared} {it : It} {a : Addr} {r : Option V} {r' : Option Value} {h' : Heap} {t : Nat} (H : HI P ρ hp s) (O : Own P env own ρ s.heap a) (hs : Heap.ExtBut a s.heap h') (hz : s.heap.objs.size ≤ h'.objs.size)
    (hn : ∀ o, s.heap.get? a = some o → ¬ ImmO o) (hr : OV P s.heap ρ r r') (hi : r.isSome → ItR P h' ρ a it) : Nxd P env own ρ a r it hp s r' { s with heap := h', toks := t } := by
  have S : Step [a] ρ s ρ { s with heap := h', toks := t } := .change (.inr (by simp)) hs hn hz
  have O' := O.step S
  exact ⟨hr.mono (.same hs hn) (List.prefix_refl _), H.other O.ρ O.lo hs hn hz, S, fun q => ⟨hi q, fun _ => O'⟩, .inr O'⟩

theorem pNx {A : Around} {ρ : List Addr} {hp hp' : Hp} {s : Shared} {it it' : It} {a : Addr} {r : Option V} (ha : AOk n A) (H : HI P ρ hp s) (I : ItOk P env own ρ s.heap a it) (hg : gNx it hp = some (r, it', hp')) :
    wpAny (model P.prog P.w) A (pyNext (.ref a)) (Nxd P env own ρ a r it' hp' s) NoE s := by
  unfold gNx at hg
  split at hg
  · rename_i l i
    obtain ⟨⟨b, hb, hit⟩, O0⟩ := I
    have O := O0 trivial
    clear O0
    have imm : ∀ o, s.heap.get? a = some o → ¬ ImmO o := fun o e => by
      obtain ⟨o', e', hc, _⟩ := hit
      rw [e'] at e; cases e
      exact not_imm_cls hc (by decide) (by decide) (by decide)
    split at hg
    · rename_i vs hl
      obtain ⟨items, m, hL, rr⟩ := lst_at (H.obj hb hl)
      split at hg
      · rename_i v q
        cases hg
        rw [vnth_eq] at q
        obtain ⟨w, hw, rw'⟩ := rr.get q
        exact wpAny_pyNext_list_item hit hL.isList (by rw [← Array.getElem?_toList]; exact hw) fun h' hit' hs => .change (t := s.toks) H O hs.extBut (Nat.le_of_eq hs.1.symm) imm rw' fun _ => ⟨b, hb, hit'⟩
      · rename_i q
        cases hg
        rw [vnth_eq] at q
        have hw := rr.get_none q
        exact with_size (wpAny_pyNext_list_end ha.h hit hL.isList (by rw [← Array.getElem?_toList]; exact hw) fun h' hs hz => .change (t := s.toks) H O hs hz imm trivial fun q => by cases q)
    · cases hg
  · rename_i vs
    obtain ⟨⟨t, items, k, ⟨m, ht⟩, rr, hit⟩, O0⟩ := I
    have O := O0 trivial
    clear O0
    have imm : ∀ o, s.heap.get? a = some o → ¬ ImmO o := fun o e => by
      obtain ⟨o', e', hc, _⟩ := hit
      rw [e'] at e; cases e
      exact not_imm_cls hc (by decide) (by decide) (by decide)
    have hat : t ≠ a := by
      rintro rfl
      obtain ⟨o', e', hc, _⟩ := hit
      rw [ht] at e'; cases e'; simp at hc
    split at hg
    · cases hg
      have hw : items[k]? = none := by
        have := rr.length
        rw [List.length_nil, List.length_drop, Array.length_toList] at this
        exact Array.getElem?_eq_none (by omega)
      exact with_size (wpAny_pyNext_tuple_end ha.h hit ⟨_, ht, rfl, m, rfl⟩ hw fun h' hs hz => .change (t := s.toks) H O hs hz imm trivial fun q => by cases q)
    · rename_i v r
      cases hg
      generalize hd : items.toList.drop k = D at rr
      cases rr with
      | @cons _ w _ ws r1 r2 =>
        have hw : items[k]? = some w := by
          have : (items.toList.drop k)[0]? = some w := by rw [hd]; rfl
          rw [List.getElem?_drop] at this
          simpa using this
        have hd' : items.toList.drop (k + 1) = ws := by
          have : (items.toList.drop k).drop 1 = ws := by rw [hd]; rfl
          rw [List.drop_drop] at this
          exact this
        refine wpAny_pyNext_tuple_item hit ⟨_, ht, rfl, m, rfl⟩ hw fun h' hit' hs => .change (t := s.toks) H O hs.extBut (Nat.le_of_eq hs.1.symm) imm r1 fun _ => ?_
        exact ⟨t, items, k + 1, ⟨m, hs.extBut _ _ hat ht⟩, by rw [hd']; exact r2.mono (.same hs.extBut imm) (List.prefix_refl _), hit'⟩
  · rename_i x n
    obtain ⟨hit, O0⟩ := I
    have O := O0 trivial
    clear O0
    replace hit : IsRangeIter s.heap a x (n : Int) 1 := hit
    have imm : ∀ o, s.heap.get? a = some o → ¬ ImmO o := fun o e => by
      rw [hit] at e; cases e
      exact not_imm_cls (c := .type "range_iterator") rfl (by decide) (by decide) (by decide)
    split at hg
    · cases hg
      exact with_size (wpAny_pyNext_range_end ha.h hit (by omega) fun h' hs hz => .change (t := s.toks) H O hs hz imm trivial fun q => by cases q)
    · rename_i m
      cases hg
      refine wpAny_pyNext_range_item hit (by omega) fun h' hit' hs => .change H O hs.extBut (Nat.le_of_eq hs.1.symm) imm (.num _ rfl) fun _ => ?_
      have e : ((m + 1 : Nat) : Int) - 1 = (m : Int) := by omega
      rw [e] at hit'
      exact hit'
  · rename_i d i m ep
    obtain ⟨⟨b, hb, hit⟩, O0⟩ := I
    have O := O0 trivial
    clear O0
    have imm : ∀ o, s.heap.get? a = some o → ¬ ImmO o := fun o e => by
      obtain ⟨o', e', hc, _⟩ := hit
      rw [e'] at e; cases e
      exact not_imm_cls hc (by decide) (by decide) (by decide)
    split at hg
    · rename_i kvs ep' hd
      obtain ⟨kvs', D, K⟩ := H.obj hb hd
      obtain ⟨hc, hg2⟩ := ch_inv hg
      clear hg
      simp only [Bool.and_eq_true] at hc
      have e1 := Nat.eq_of_beq_eq_true hc.1
      have e2 := Nat.eq_of_beq_eq_true hc.2
      subst e1 e2
      rw [K.length] at hit
      split at hg2
      · rename_i v q
        cases hg2
        rw [vnth_eq] at q
        obtain ⟨j, w, hw, hj⟩ := K.get q
        refine wpAny_pyNext_dict_item hit D hw fun key h' hk hit' hs => ?_
        obtain ⟨tt, rfl⟩ := Value.isInt_shape (show Value.isInt j key = true from hk)
        exact .change (t := s.toks) H O hs.extBut (Nat.le_of_eq hs.1.symm) imm (.num _ hj) fun _ => ⟨b, hb, by rw [K.length]; exact hit'⟩
      · rename_i q
        cases hg2
        rw [vnth_eq] at q
        have hw : kvs'[i]? = none := by
          rw [List.getElem?_eq_none_iff] at q ⊢
          rw [List.length_map] at q
          rw [← K.length]; exact q
        exact with_size (wpAny_pyNext_dict_end ha.h hit D hw fun h' hs hz => .change (t := s.toks) H O hs hz imm trivial fun q => by cases q)
    · cases hg
  · rename_i i
    obtain ⟨hi, _⟩ := I
    have hi : ρ[i]? = some a := hi
    split at hg
    · rename_i q
      cases hg
      refine wpAny_mono (pNext ha H hi q) (fun r' s' ⟨h1, h2, h3⟩ => ?_) fun _ _ h => h
      exact ⟨h1, h2, h3.weaken (fun _ h => nomatch h), fun _ => ⟨pre_get h3.pre hi, fun p => p.elim⟩, .inl (List.mem_of_getElem? hi)⟩
    · cases hg
end
end
end Mine
end
section
open PySem PyProof.Rows
set_option maxRecDepth 20000
set_option linter.unusedSimpArgs false
set_option linter.unusedVariables false
namespace Mine
noncomputable section

/-- an iterator's making -/
def SI (P : Par) (n : Nat) (G : Sg) (e : Expr) (f : Loc → Hp → Option (It × Hp)) : Prop :=
  ∀ A env own s ρ loc hp it hp', AOk n A → HI P ρ hp s → FI P G env own ρ loc s.heap → f loc hp = some (it, hp') →
    wpAny (model P.prog P.w) A (eval e env) (fun x s1 => wpAny (model P.prog P.w) A (pyIter x) (fun v' s2 => ∃ ρ' a, HI P ρ' hp' s2 ∧ Step [] ρ s ρ' s2 ∧ v' = .ref a ∧ (s.heap.objs.size ≤ a ∨ a ∈ ρ) ∧ ItOk P env own ρ' s2.heap a it) NoE s1) NoE s

def fIt (f : Loc → Hp → Option (V × Hp)) : Loc → Hp → Option (It × Hp) := fun loc hp => match f loc hp with
  | none => none
  | some (v, hp1) => match gIt v hp1 with
    | some it => some (it, hp1)
    | none => none

section
variable {P : Par} {n : Nat} {G : Sg}
theorem SI.of {e : Expr} {f : Loc → Hp → Option (V × Hp)} (x : SE P n G e f) : SI P n G e (fIt f) := by
  intro A env own s ρ loc hp it hp' ha H F hf
  unfold fIt at hf
  cases q : f loc hp with
  | none => rw [q] at hf; cases hf
  | some z =>
    obtain ⟨v, hp1⟩ := z
    rw [q] at hf
    dsimp only at hf
    split at hf
    · rename_i q2
      cases hf
      refine x.use ha H F q fun v' s1 ρ1 H1 F1 S1 r1 => ?_
      refine wpAny_mono (pIt (own := own) (env := env) ha H1 r1 q2 (fun b hb => (F1.off b hb).2.1) F1.clt) (fun w s2 ⟨a, e, H2, S2, o2, r2⟩ => ?_) fun _ _ h => h
      refine ⟨ρ1, a, H2, S1.trans S2, e, ?_, r2⟩
      rcases o2 with h | h
      · exact .inl (Nat.le_trans S1.size h)
      · exact (S1.fresh a h).symm
    · cases hf

theorem FI.nxd {env : Env} {own ρ : List Addr} {loc : Loc} {s s' : Shared} {a : Addr} (F : FI P G env own ρ loc s.heap) (x : Step [a] ρ s ρ s') (h : a ∈ ρ ∨ Own P env own ρ s'.heap a) : FI P G env own ρ loc s'.heap :=
  F.stepBut x fun b hb => by
    obtain rfl : b = a := by simpa using hb
    rcases h with h | h
    · exact .inl h
    · exact .inr ⟨h.own, h.cel⟩

def fLoop (aT : V → Loc → Hp → Option (Loc × Hp)) (body orelse : Loc → Hp → Option (Fl × Loc × Hp)) : Nat → It → Loc → Hp → Option (Fl × Loc × Hp)
  | 0, _, _, _ => none
  | k + 1, it, loc, hp => match gNx it hp with
    | none => none
    | some (r, it1, hp1) => match r with
      | none => orelse loc hp1
      | some v => match aT v loc hp1 with
        | none => none
        | some (loc2, hp2) => match body loc2 hp2 with
          | none => none
          | some (fl, loc3, hp3) => match fl with
            | .next => fLoop aT body orelse k it1 loc3 hp3
            | .cont => fLoop aT body orelse k it1 loc3 hp3
            | .brk => some (.next, loc3, hp3)
            | .ret v => some (.ret v, loc3, hp3)

def fFor (k : Nat) (fi : Loc → Hp → Option (It × Hp)) (aT : V → Loc → Hp → Option (Loc × Hp)) (body orelse : Loc → Hp → Option (Fl × Loc × Hp)) : Loc → Hp → Option (Fl × Loc × Hp) := fun loc hp => match fi loc hp with
  | none => none
  | some (it, hp1) => fLoop aT body orelse k it loc hp1

theorem SA.use {t : Expr} {f : V → Loc → Hp → Option (Loc × Hp)} (x : SA P n G t f) {A : Around} {env : Env} {own : List Addr} {s : Shared} {ρ : List Addr} {loc loc' : Loc} {hp hp' : Hp} {v : V} {v' : Value} {Q : Unit → Shared → Prop} {E : Value → Shared → Prop}
    (a : AOk n A) (H : HI P ρ hp s) (F : FI P G env own ρ loc s.heap) (r : VR P s.heap ρ v v') (hf : f v loc hp = some (loc', hp'))
    (k : ∀ s' ρ', HI P ρ' hp' s' → FI P G env own ρ' loc' s'.heap → Step own ρ s ρ' s' → Q () s') : wpAny (model P.prog P.w) A (assign t env v') Q E s :=
  wpAny_mono (x A env own s ρ loc hp v v' loc' hp' a H F r hf) (fun _ s' ⟨ρ', h1, h2, h3⟩ => k s' ρ' h1 h2 h3) fun _ _ h => h.elim

theorem Step.cons {own ρ ρ' : List Addr} {s s' : Shared} {a : Addr} (x : Step own ρ s ρ' s') : Step (a :: own) ρ s ρ' s' := x.weaken fun b hb => .inl (List.mem_cons_of_mem _ hb)
theorem Step.one {own ρ ρ' : List Addr} {s s' : Shared} {a : Addr} (x : Step [a] ρ s ρ' s') : Step (a :: own) ρ s ρ' s' := x.weaken fun b hb => .inl (by
  obtain rfl : b = a := by simpa using hb
  exact List.mem_cons_self)
/-- a thing made on the way, or of the ledger, may be left out -/
theorem Step.drop {own ρ ρ' : List Addr} {s s' : Shared} {a : Addr} (x : Step (a :: own) ρ s ρ' s') (h : s.heap.objs.size ≤ a ∨ a ∈ ρ) : Step own ρ s ρ' s' := by
  refine ⟨x.pre, x.fresh, x.imm, fun b o e h1 h2 => x.keep b o e h1 fun hm => ?_, x.size, x.gens, x.os⟩
  rcases List.mem_cons.mp hm with rfl | hm
  · rcases h with h | h
    · exact absurd (Heap.lt_size e) (Nat.not_lt.mpr h)
    · exact h1 h
  · exact h2 hm

theorem ItOk.stepC {env : Env} {own ρ ρ' : List Addr} {s s' : Shared} {a : Addr} {it : It} (x : ItOk P env own ρ s.heap a it) (st : Step own ρ s ρ' s') : ItOk P env own ρ' s'.heap a it := x.step st fun p => (x.own p).own

theorem loop_sound {target : Expr} {body orelse : List Stmt} {aT : V → Loc → Hp → Option (Loc × Hp)} {fb fo : Loc → Hp → Option (Fl × Loc × Hp)} {it : It} {k : Nat} {a : Addr} {A : Around} {env : Env} {own : List Addr} {s : Shared} {ρ : List Addr} {loc loc' : Loc} {hp hp' : Hp} {fl : Fl} {R : Result → Shared → Prop}
    (ha : AOk n A) (y : SA P n G target aT) (z : SS P n G body fb) (w : SS P n G orelse fo) (hl : ∀ i v, letOwnedTupleGo target i v = pure ())
    (H : HI P ρ hp s) (F : FI P G env own ρ loc s.heap) (hi : ItOk P env own ρ s.heap a it) (hf : fLoop aT fb fo k it loc hp = some (fl, loc', hp'))
    (hR : ∀ fl' s' ρ', HI P ρ' hp' s' → FI P G env own ρ' loc' s'.heap → Step (a :: own) ρ s ρ' s' → FlR P s'.heap ρ' fl fl' → R (.ok fl') s') :
    codeAny (model P.prog P.w) A (.forLoop target (.ref a) body orelse env) R s := by
  refine codeAny_forLoop (fun k s1 => ∃ ρ1 loc1 hp1 it1, HI P ρ1 hp1 s1 ∧ FI P G env own ρ1 loc1 s1.heap ∧ Step (a :: own) ρ s ρ1 s1 ∧ ItOk P env own ρ1 s1.heap a it1 ∧ fLoop aT fb fo k it1 loc1 hp1 = some (fl, loc', hp')) ?_ k ⟨ρ, loc, hp, it, H, F, .refl, hi, hf⟩ (fun v => hl _ v)
  rintro m s1 ⟨ρ1, loc1, hp1, it1, H1, F1, S1, I1, hf⟩
  cases m with
  | zero => cases hf
  | succ m =>
    unfold fLoop at hf
    cases q : gNx it1 hp1 with
    | none => rw [q] at hf; cases hf
    | some x =>
      obtain ⟨r, it2, hp2⟩ := x
      rw [q] at hf
      dsimp only at hf
      refine wpAny_mono (pNx ha H1 I1 q) (fun r' s2 ⟨h1, H2, S2, I2, O2⟩ => ?_) fun _ _ h => h.elim
      have F2 := F1.nxd S2 O2
      have S2 : Step (a :: own) ρ1 s1 ρ1 s2 := S2.one
      cases r with
      | none =>
        cases r' with
        | some _ => exact h1.elim
        | none => exact w.use ha H2 F2 hf fun fl' s3 ρ3 H3 F3 S3 r3 => hR fl' s3 ρ3 H3 F3 ((S1.trans S2).trans S3.cons) r3
      | some v =>
        cases r' with
        | none => exact h1.elim
        | some v' =>
          have I2 := I2 rfl
          dsimp only at hf ⊢
          cases q2 : aT v loc1 hp2 with
          | none => rw [q2] at hf; cases hf
          | some y2 =>
            obtain ⟨loc2, hp3⟩ := y2
            rw [q2] at hf
            dsimp only at hf
            refine y.use ha H2 F2 h1 q2 fun s3 ρ3 H3 F3 S3 => ?_
            have I3 := I2.stepC S3
            cases q3 : fb loc2 hp3 with
            | none => rw [q3] at hf; cases hf
            | some y3 =>
              obtain ⟨fl3, loc3, hp4⟩ := y3
              rw [q3] at hf
              dsimp only at hf
              refine z.use ha H3 F3 q3 fun fl4 s4 ρ4 H4 F4 S4 r4 => ?_
              have I4 := I3.stepC S4
              have S := ((S1.trans S2).trans S3.cons).trans S4.cons
              cases fl3 with
              | next => obtain rfl : fl4 = .next := r4; exact ⟨m, Nat.lt_succ_self _, ρ4, loc3, hp4, it2, H4, F4, S, I4, hf⟩
              | cont => obtain rfl : fl4 = .cont := r4; exact ⟨m, Nat.lt_succ_self _, ρ4, loc3, hp4, it2, H4, F4, S, I4, hf⟩
              | brk => obtain rfl : fl4 = .brk := r4; cases hf; exact hR _ _ ρ4 H4 F4 S rfl
              | ret u => obtain ⟨u', rfl, hu⟩ := r4; cases hf; exact hR _ _ ρ4 H4 F4 S ⟨u', rfl, hu⟩

theorem S1.for {target iter : Expr} {body orelse : List Stmt} {pos : Pos} {k : Nat} {fi : Loc → Hp → Option (It × Hp)} {aT : V → Loc → Hp → Option (Loc × Hp)} {fb fo : Loc → Hp → Option (Fl × Loc × Hp)}
    (x : SI P n G iter fi) (y : SA P n G target aT) (z : SS P n G body fb) (w : SS P n G orelse fo)
    (hl : ∀ i v, letOwnedTupleGo target i v = pure () := by intro _ _; rfl) (hs : ∀ env x, foldedSetIterable iter env x = pure x := by intro _ _; rfl) :
    S1 P n G (.For target iter body orelse pos) (fFor k fi aT fb fo) := by
  intro A env own s ρ loc hp fl loc' hp' ha H F hf
  unfold fFor at hf
  cases q : fi loc hp with
  | none => rw [q] at hf; cases hf
  | some x2 =>
    obtain ⟨it, hp1⟩ := x2
    rw [q] at hf
    dsimp only at hf
    refine wpAny_For (wpAny_mono (x A env own s ρ loc hp it hp1 ha H F q) (fun v s1 h1 => wpAny_mono h1 (fun i s2 ⟨ρ2, a, H2, S2, e, o2, hi⟩ => ?_) fun _ _ h => h.elim) fun _ _ h => h.elim) (hs env)
    subst e
    exact loop_sound ha y z w hl H2 (F.step S2) hi hf fun fl' s' ρ' H' F' S' r' => ⟨ρ', ⟨H', F', (S2.own'.trans S').drop o2⟩, r'⟩

def fWhile (b : Loc → Hp → Option (Bool × Hp)) (body orelse : Loc → Hp → Option (Fl × Loc × Hp)) : Nat → Loc → Hp → Option (Fl × Loc × Hp)
  | 0, _, _ => none
  | k + 1, loc, hp => match b loc hp with
    | none => none
    | some (c, hp1) => match c with
      | false => orelse loc hp1
      | true => match body loc hp1 with
        | none => none
        | some (fl, loc3, hp3) => match fl with
          | .next => fWhile b body orelse k loc3 hp3
          | .cont => fWhile b body orelse k loc3 hp3
          | .brk => some (.next, loc3, hp3)
          | .ret v => some (.ret v, loc3, hp3)

theorem S1.while {test : Expr} {body orelse : List Stmt} {pos : Pos} {k : Nat} {b : Loc → Hp → Option (Bool × Hp)} {fb fo : Loc → Hp → Option (Fl × Loc × Hp)}
    (x : SB P n G test b) (z : SS P n G body fb) (w : SS P n G orelse fo) : S1 P n G (.While test body orelse pos) (fWhile b fb fo k) := by
  intro A env own s ρ loc hp fl loc' hp' ha H F hf
  refine wpAny_While ?_
  refine codeAny_whileLoop (fun k s1 => ∃ ρ1 loc1 hp1, HI P ρ1 hp1 s1 ∧ FI P G env own ρ1 loc1 s1.heap ∧ Step own ρ s ρ1 s1 ∧ fWhile b fb fo k loc1 hp1 = some (fl, loc', hp')) ?_ k ⟨ρ, loc, hp, H, F, .refl, hf⟩
  rintro m s1 ⟨ρ1, loc1, hp1, H1, F1, S1, hf⟩
  cases m with
  | zero => cases hf
  | succ m =>
    unfold fWhile at hf
    cases q : b loc1 hp1 with
    | none => rw [q] at hf; cases hf
    | some y =>
      obtain ⟨c, hp2⟩ := y
      rw [q] at hf
      dsimp only at hf
      refine x.use ha H1 F1 q fun s2 ρ2 H2 F2 S2 => ?_
      cases c with
      | false =>
        rw [if_neg Bool.false_ne_true]
        exact w.use ha H2 F2 hf fun fl' s3 ρ3 H3 F3 S3 r3 => ⟨ρ3, ⟨H3, F3, (S1.trans S2.own').trans S3⟩, r3⟩
      | true =>
        rw [if_pos rfl]
        dsimp only at hf
        cases q3 : fb loc1 hp2 with
        | none => rw [q3] at hf; cases hf
        | some y3 =>
          obtain ⟨fl3, loc3, hp4⟩ := y3
          rw [q3] at hf
          dsimp only at hf
          refine z.use ha H2 F2 q3 fun fl4 s4 ρ4 H4 F4 S4 r4 => ?_
          have S := (S1.trans S2.own').trans S4
          cases fl3 with
          | next => obtain rfl : fl4 = .next := r4; exact ⟨m, Nat.lt_succ_self _, ρ4, loc3, hp4, H4, F4, S, hf⟩
          | cont => obtain rfl : fl4 = .cont := r4; exact ⟨m, Nat.lt_succ_self _, ρ4, loc3, hp4, H4, F4, S, hf⟩
          | brk => obtain rfl : fl4 = .brk := r4; cases hf; exact ⟨ρ4, ⟨H4, F4, S⟩, rfl⟩
          | ret u => obtain ⟨u', rfl, hu⟩ := r4; cases hf; exact ⟨ρ4, ⟨H4, F4, S⟩, ⟨u', rfl, hu⟩⟩
end
end
end Mine
end
section
open PySem PyProof.Rows
namespace Mine
noncomputable section

/-- an iterator of a loop's own -/
def It.pr : It → Bool
  | .st _ => false
  | _ => true

def It.isLi : It → Bool
  | .li _ _ => true
  | _ => false

/-- the captured names' values -/
def lini : List (Option Nat) → Loc → Loc
  | [], _ => []
  | o :: r, loc => (match o with
    | none => none
    | some j => lget loc j) :: lini r loc

def gApp (a x : V) (hp : Hp) : Option (V × Hp) := match a with
  | .ob i => match hp.get i with
    | some (.lst vs) => ch (few vs) (some (.none, hp.upd i (.lst (vs ++ [x]))))
    | _ => none
  | _ => none

def fCompL (aT : V → Loc → Hp → Option (Loc × Hp)) (fe : Loc → Hp → Option (V × Hp)) : Nat → It → Loc → Hp → Option (List V × Hp)
  | 0, _, _, _ => none
  | k + 1, it, loc, hp => match gNx it hp with
    | none => none
    | some (r, it1, hp1) => match r with
      | none => some ([], hp1)
      | some v => match aT v loc hp1 with
        | none => none
        | some (loc2, hp2) => match fe loc2 hp2 with
          | none => none
          | some (x, hp3) => match fCompL aT fe k it1 loc2 hp3 with
            | none => none
            | some (l, hp4) => some (x :: l, hp4)

def fComp (k : Nat) (spec : List (Option Nat)) (fi : Loc → Hp → Option (It × Hp)) (aT : V → Loc → Hp → Option (Loc × Hp)) (fe : Loc → Hp → Option (V × Hp)) : Loc → Hp → Option (V × Hp) := fun loc hp =>
  match fi loc hp with
  | none => none
  | some (it, hp1) => ch it.pr (match fCompL aT fe k it (lini spec loc) hp1 with
    | none => none
    | some (l, hp3) => ch (few l) (mk hp3 (.lst l)))

/-- set an item -/
def dsetI : List (V × V) → V → V → Option (List (V × V) × Nat)
  | [], k, v => some ([(k, v)], 1)
  | x :: r, k, v => match keq x.1 k with
    | none => none
    | some true => some ((x.1, v) :: r, 0)
    | some false => match dsetI r k v with
      | none => none
      | some (l, e) => some (x :: l, e)
def gSet (c k v : V) (hp : Hp) : Option Hp := match c with
  | .ob i => match hp.get i with
    | some (.dI kvs ep) => match knum k with
      | true => match dsetI kvs k v with
        | some (l, e) => ch (Nat.ble kvs.length 5000) (some (hp.upd i (.dI l (ep + e))))
        | none => none
      | false => none
    | some (.dT kvs) => match k with
      | .tup ks => match knums ks with
        | true => match dgetT kvs ks with
          | some none => ch (Nat.ble kvs.length 5000) (some (hp.upd i (.dT (kvs ++ [(ks, v)]))))
          | _ => none
        | false => none
      | _ => none
    | _ => none
  | _ => none

def fDCompL (aT : V → Loc → Hp → Option (Loc × Hp)) (fk fe : Loc → Hp → Option (V × Hp)) : Nat → It → List (List V × V) → Loc → Hp → Option (List (List V × V) × Hp)
  | 0, _, _, _, _ => none
  | k + 1, it, kvs, loc, hp => match gNx it hp with
    | none => none
    | some (r, it1, hp1) => match r with
      | none => some (kvs, hp1)
      | some v => match aT v loc hp1 with
        | none => none
        | some (loc2, hp2) => match fk loc2 hp2 with
          | some (.tup ks, hp3) => match fe loc2 hp3 with
            | none => none
            | some (x, hp4) => match knums ks with
              | true => match dgetT kvs ks with
                | some none => ch (Nat.ble kvs.length 5000) (fDCompL aT fk fe k it1 (kvs ++ [(ks, x)]) loc2 hp4)
                | _ => none
              | false => none
          | _ => none
def fDComp (q : It → Bool) (k : Nat) (spec : List (Option Nat)) (fi : Loc → Hp → Option (It × Hp)) (aT : V → Loc → Hp → Option (Loc × Hp)) (fk fe : Loc → Hp → Option (V × Hp)) : Loc → Hp → Option (V × Hp) := fun loc hp =>
  match fi loc hp with
  | none => none
  | some (it, hp1) => ch (it.pr && q it) (match fDCompL aT fk fe k it [] (lini spec loc) hp1 with
    | none => none
    | some (l, hp3) => mk hp3 (.dT l))

def isLst : V → Hp → Bool := fun v hp => match v with
  | .ob i => match hp.get i with
    | some (.lst _) => true
    | _ => false
  | _ => false
def isDct : V → Hp → Bool := fun v hp => match v with
  | .ob i => match hp.get i with
    | some (.dI _ _) => true
    | some (.dT _) => true
    | _ => false
  | _ => false
/-- a method's call: its object is looked at ahead of the argument -/
def fMet (q : V → Hp → Bool) (g : V → V → Hp → Option (V × Hp)) (f1 f2 : Loc → Hp → Option (V × Hp)) : Loc → Hp → Option (V × Hp) := fun loc hp => match f1 loc hp with
  | none => none
  | some (a, hp1) => ch (q a hp1) (match f2 loc hp1 with
    | none => none
    | some (b, hp2) => g a b hp2)

def fUn (g : V → Hp → Option (V × Hp)) (f : Loc → Hp → Option (V × Hp)) : Loc → Hp → Option (V × Hp) := fun loc hp => match f loc hp with
  | none => none
  | some (a, hp1) => g a hp1

def gLen : V → Hp → Option (V × Hp) := fun v hp => match v with
  | .tup vs => ch (few vs) (some (.int vs.length, hp))
  | .ob i => match hp.get i with
    | some (.lst vs) => ch (few vs) (some (.int vs.length, hp))
    | _ => none
  | _ => none
def gRange : V → Hp → Option (V × Hp) := fun v hp => match v with
  | .int n => ch (PySem.W.Z.ltB (-100000) n && PySem.W.Z.ltB n 100000) (some (.rng 0 n 1, hp))
  | _ => none
def upto : Nat → Int → List V
  | 0, _ => []
  | n + 1, i => .int i :: upto n (i + 1)
def gTuple : V → Hp → Option (V × Hp) := fun v hp => match v with
  | .rng a b c => ch (PySem.W.Z.eqB a 0 && PySem.W.Z.eqB c 1 && PySem.W.Z.leB 0 b && PySem.W.Z.ltB b 5000) (some (.tup (upto b.toNat 0), hp))
  | .ob i => match hp.get i with
    | some (.lst vs) => ch (few vs) (some (.tup vs, hp))
    | _ => none
  | _ => none
def gList : V → Hp → Option (V × Hp) := fun v hp => match v with
  | .rng a b c => ch (PySem.W.Z.eqB a 0 && PySem.W.Z.eqB c 1 && PySem.W.Z.leB 0 b && PySem.W.Z.ltB b 5000) (mk hp (.lst (upto b.toNat 0)))
  | .tup vs => ch (few vs) (mk hp (.lst vs))
  | .ob i => match hp.get i with
    | some (.dT kvs) => ch (Nat.ble kvs.length 5000) (mk hp (.lst (kvs.map fun x => .tup x.1)))
    | _ => none
  | _ => none
def gMin : V → V → Hp → Option (V × Hp) := fun a b hp => match a with
  | .int i => match b with
    | .int j => some (.int (match PySem.W.Z.ltB j i with | true => j | false => i), hp)
    | _ => none
  | _ => none
def gMax : V → V → Hp → Option (V × Hp) := fun a b hp => match a with
  | .int i => match b with
    | .int j => some (.int (match PySem.W.Z.ltB i j with | true => j | false => i), hp)
    | _ => none
  | _ => none

/-- rows in order -/
def lltB : List Int → List Int → Bool
  | _, [] => false
  | [], _ :: _ => true
  | a :: r, b :: t => match PySem.W.Z.eqB a b with
    | true => lltB r t
    | false => PySem.W.Z.ltB a b
def vKeys : List V → Option (List (List Int))
  | [] => some []
  | v :: r => match v with
    | .tup vs => match vInts vs with
      | none => none
      | some x => match vKeys r with
        | none => none
        | some l => some (x :: l)
    | _ => none
def full {α : Type} : List α → Bool
  | [] => false
  | _ :: _ => true
def allFull : List (List Int) → Bool
  | [] => true
  | x :: r => match full x with
    | true => allFull r
    | false => false
/-- the questions of a sort, answered -/
def askRun {α : Type} (ks : List (List Int)) : PySem.W.KasT α → Option α
  | .ret a => some a
  | .ask i j k => match ks[i]? with
    | none => none
    | some x => match ks[j]? with
      | none => none
      | some y => askRun ks (k (lltB x y))
def gSorted : V → Hp → Option (V × Hp) := fun v hp => match v with
  | .ob i => match hp.get i with
    | some (.lst vs) => match vKeys vs with
      | some ks => match Nat.ble 2 vs.length with
        | false => mk hp (.lst vs)
        | true => ch (allFull ks && Nat.blt vs.length 64) (match askRun ks (PySem.W.kas_sort vs.length) with
          | some p => ch (Nat.beq p.size vs.length && p.toList.all fun i => Nat.blt i vs.length) (mk hp (.lst (p.toList.map fun i => vs.getD i .none)))
          | none => none)
      | none => none
    | _ => none
  | _ => none

/-- assignments -/
def fSetI (fv fc fk : Loc → Hp → Option (V × Hp)) : Loc → Hp → Option (Fl × Loc × Hp) := fun loc hp => match fv loc hp with
  | none => none
  | some (v, hp1) => match fc loc hp1 with
    | none => none
    | some (c, hp2) => match fk loc hp2 with
      | none => none
      | some (k, hp3) => match gSet c k v hp3 with
        | none => none
        | some hp4 => some (.next, loc, hp4)

def aTup (l : List (V → Loc → Hp → Option (Loc × Hp))) : V → Loc → Hp → Option (Loc × Hp) := fun v loc hp => match v with
  | .tup vs => go l vs loc hp
  | _ => none
where go : List (V → Loc → Hp → Option (Loc × Hp)) → List V → Loc → Hp → Option (Loc × Hp)
  | [], [], loc, hp => some (loc, hp)
  | a :: r, v :: vs, loc, hp => match a v loc hp with
    | none => none
    | some (loc1, hp1) => go r vs loc1 hp1
  | _, _, _, _ => none

def fAsgT (f : Loc → Hp → Option (V × Hp)) (a : V → Loc → Hp → Option (Loc × Hp)) : Loc → Hp → Option (Fl × Loc × Hp) := fun loc hp => match f loc hp with
  | none => none
  | some (v, hp1) => match a v loc hp1 with
    | none => none
    | some (loc1, hp2) => some (.next, loc1, hp2)

/-- dict displays -/
def fKvs (l : List ((Loc → Hp → Option (V × Hp)) × (Loc → Hp → Option (V × Hp)))) (loc : Loc) (hp : Hp) : Option (List (V × V) × Hp) := match l with
  | [] => some ([], hp)
  | (fk, fv) :: r => match fk loc hp with
    | none => none
    | some (k, hp1) => match fv loc hp1 with
      | none => none
      | some (v, hp2) => match fKvs r loc hp2 with
        | none => none
        | some (kvs, hp3) => some ((k, v) :: kvs, hp3)
def putAll (i : Nat) : List (V × V) → Hp → Option Hp
  | [], hp => some hp
  | x :: r, hp => match gSet (.ob i) x.1 x.2 hp with
    | none => none
    | some hp1 => putAll i r hp1
def fDict (o : O) (l : List ((Loc → Hp → Option (V × Hp)) × (Loc → Hp → Option (V × Hp)))) : Loc → Hp → Option (V × Hp) := fun loc hp => match mk hp o with
  | none => none
  | some (v, hp1) => match fKvs l loc hp1 with
    | none => none
    | some (kvs, hp2) => match putAll hp.n kvs hp2 with
      | none => none
      | some hp3 => some (v, hp3)

/-- truth -/
def gTruth : V → Hp → Option Bool := fun v hp => match v with
  | .none => some false
  | .bool b => some b
  | .ob i => match hp.get i with
    | some (.lst vs) => ch (few vs) (some (full vs))
    | some (.dI kvs _) => ch (Nat.ble kvs.length 5000) (some (full kvs))
    | _ => none
  | _ => none
def bTru (f : Loc → Hp → Option (V × Hp)) : Loc → Hp → Option (Bool × Hp) := fun loc hp => match f loc hp with
  | none => none
  | some (v, hp1) => match gTruth v hp1 with
    | none => none
    | some b => some (b, hp1)
def bAnd (f g : Loc → Hp → Option (Bool × Hp)) : Loc → Hp → Option (Bool × Hp) := fun loc hp => match f loc hp with
  | none => none
  | some (b, hp1) => match b with
    | false => some (false, hp1)
    | true => g loc hp1
def bNo : Loc → Hp → Option (Bool × Hp) := fun _ _ => none
def fBad : Loc → Hp → Option (Fl × Loc × Hp) := fun _ _ => none

/-- the graph -/
def fld (n : Nat) : List (Nat × V) → Option V
  | [] => none
  | x :: r => match Nat.beq x.1 n with
    | true => some x.2
    | false => fld n r
def gAttr (n : Nat) : V → Hp → Option (V × Hp) := fun v hp => match v with
  | .ob i => match hp.get i with
    | some (.gr d) => match hp.get d with
      | some (.gd kvs) => match fld n kvs with
        | some (.ob j) => some (.ob j, hp)
        | _ => none
      | _ => none
    | _ => none
  | _ => none
def gNewD : V → Hp → Option (V × Hp) := fun v hp => match v with
  | .ob i => match hp.get i with
    | some (.gr d) => match hp.get d with
      | some (.gd _) => mk hp (.dI [] 0)
      | _ => none
    | _ => none
  | _ => none
def sput (n : Nat) (v : V) : List (Nat × V) → Option (List (Nat × V))
  | [] => some [(n, v)]
  | x :: r => match Nat.beq x.1 n with
    | true => none
    | false => match sput n v r with
      | none => none
      | some l => some (x :: l)
def gSetA (n : Nat) (c v : V) (hp : Hp) : Option Hp := match c with
  | .ob i => match hp.get i with
    | some (.gr d) => match hp.get d with
      | some (.gd kvs) => match sput n v kvs with
        | some l => ch (Nat.ble kvs.length 900) (some (hp.upd d (.gd l)))
        | none => none
      | _ => none
    | _ => none
  | _ => none
def fSetA (n : Nat) (fv fc : Loc → Hp → Option (V × Hp)) : Loc → Hp → Option (Fl × Loc × Hp) := fun loc hp => match fv loc hp with
  | none => none
  | some (v, hp1) => match fc loc hp1 with
    | none => none
    | some (c, hp2) => match gSetA n c v hp2 with
      | none => none
      | some hp3 => some (.next, loc, hp3)
/-- an empty dict -/
def isE (o : O) : Bool := match o with
  | .dI kvs _ => match kvs with
    | [] => true
    | _ => false
  | .dT kvs => match kvs with
    | [] => true
    | _ => false
  | _ => false
def gUpd0 : V → V → Hp → Option (V × Hp) := fun a b hp => match a with
  | .ob i => match b with
    | .ob j => match hp.get i with
      | some o => match hp.get j with
        | some o2 => ch (isE o && isE o2 && !Nat.beq i j) (some (.none, hp.upd i (.dT [])))
        | none => none
      | none => none
    | _ => none
  | _ => none
/-- d.get(k, x) -/
def gGet (a k x : V) (hp : Hp) : Option V := match a with
  | .ob i => match hp.get i with
    | some (.dI kvs _) => match knum k with
      | true => match dgetI kvs k with
        | some (some v) => some v
        | some none => some x
        | none => none
      | false => none
    | _ => none
  | _ => none
def fGet (fa fk fx : Loc → Hp → Option (V × Hp)) : Loc → Hp → Option (V × Hp) := fun loc hp => match fa loc hp with
  | none => none
  | some (a, hp1) => ch (isDct a hp1) (match fk loc hp1 with
    | none => none
    | some (k, hp2) => match fx loc hp2 with
      | none => none
      | some (x, hp3) => match gGet a k x hp3 with
        | none => none
        | some v => some (v, hp3))
/-- n not in the graph -/
def gNotInG : V → V → Hp → Option (V × Hp) := fun a b hp => match gAttr 1 b hp with
  | some (d, _) => match gHas a d hp with
    | some c => some (.bool (!c), hp)
    | none => none
  | none => none
/-- a function's run -/
def fFn (n : Nat) (body : Loc → Hp → Option (Fl × Loc × Hp)) (args : List V) (hp : Hp) : Option (V × Hp) :=
  match body (args.map some ++ List.replicate n none) hp with
  | none => none
  | some (fl, _, hp1) => match fl with
    | .next => some (.none, hp1)
    | .ret v => some (v, hp1)
    | _ => none
def fCall (F : List V → Hp → Option (V × Hp)) (fs : Loc → Hp → Option (List V × Hp)) : Loc → Hp → Option (V × Hp) := fun loc hp => match fs loc hp with
  | none => none
  | some (vs, hp1) => F vs hp1

def gIterE : V → Hp → Option (V × Hp) := gIter
/-- l.pop() -/
def lpop {α : Type} : List α → Option (List α × α)
  | [] => none
  | v :: r => match r with
    | [] => some ([], v)
    | _ :: _ => match lpop r with
      | none => none
      | some (l, x) => some (v :: l, x)
def gPop : V → Hp → Option (V × Hp) := fun v hp => match v with
  | .ob i => match hp.get i with
    | some (.lst vs) => match lpop vs with
      | some (l, x) => ch (few vs) (some (x, hp.upd i (.lst l)))
      | none => none
    | _ => none
  | _ => none
def gPopItem : V → Hp → Option (V × Hp) := fun v hp => match v with
  | .ob i => match hp.get i with
    | some (.dI kvs ep) => match lpop kvs with
      | some (l, (k, x)) => ch (Nat.ble kvs.length 5000) (some (.tup [k, x], hp.upd i (.dI l (ep + 1))))
      | none => none
    | _ => none
  | _ => none

/-- pairs looked up -/
def zipGo (kvs : List (List V × V)) : List V → List V → Option (List V)
  | a :: r, b :: t => match knums [a, b] with
    | true => match dgetT kvs [a, b] with
      | some (some v) => match zipGo kvs r t with
        | none => none
        | some l => some (v :: l)
      | _ => none
    | false => none
  | _, _ => some []
def fZip (fl fa fb : Loc → Hp → Option (V × Hp)) : Loc → Hp → Option (V × Hp) := fun loc hp => match fa loc hp with
  | some (.ob i, hp1) => match fb loc hp1 with
    | some (.ob j, hp2) => match hp2.get i with
      | some (.lst xs) => match hp2.get j with
        | some (.lst ys) => match fl loc hp2 with
          | some (.ob l, _) => match hp2.get l with
            | some (.dT kvs) => match zipGo kvs xs ys with
              | some vs => ch (few xs) (mk hp2 (.lst vs))
              | none => none
            | _ => none
          | _ => none
        | _ => none
      | _ => none
    | _ => none
  | _ => none

def fSet (f : Loc → Hp → Option (V × Hp)) : Loc → Hp → Option (V × Hp) := fun loc hp => match f loc hp with
  | some (v, hp1) => ch (knum v) (mk hp1 (.set v))
  | none => none

/-- a generator's turns: from the head of its while loop to its next value -/
def genRun (test : Loc → Hp → Option (Bool × Hp)) (pre : Loc → Hp → Option (Fl × Loc × Hp)) (cond : Loc → Hp → Option (Bool × Hp)) (out : Loc → Hp → Option (V × Hp)) (post : Loc → Hp → Option (Fl × Loc × Hp)) :
    Nat → Loc → Hp → Option (Option V × Loc × Hp)
  | 0, _, _ => none
  | k + 1, loc, hp => match test loc hp with
    | none => none
    | some (b, hp1) => match b with
      | false => some (none, loc, hp1)
      | true => match pre loc hp1 with
        | some (.next, loc2, hp2) => match cond loc2 hp2 with
          | none => none
          | some (c, hp3) => match c with
            | true => match out loc2 hp3 with
              | none => none
              | some (v, hp4) => some (some v, loc2, hp4)
            | false => match post loc2 hp3 with
              | some (.next, loc4, hp4) => genRun test pre cond out post k loc4 hp4
              | _ => none
        | _ => none
def genLoop (post : Loc → Hp → Option (Fl × Loc × Hp)) (run : Loc → Hp → Option (Option V × Loc × Hp)) (aT : V → Loc → Hp → Option (Loc × Hp)) (body : Loc → Hp → Option (Fl × Loc × Hp)) :
    Nat → Option V → Loc → Loc → Hp → Option (Fl × Loc × Hp)
  | 0, _, _, _, _ => none
  | k + 1, r, gl, loc, hp => match r with
    | none => some (.next, loc, hp)
    | some v => match aT v loc hp with
      | none => none
      | some (loc2, hp2) => match body loc2 hp2 with
        | some (.next, loc3, hp3) => match post gl hp3 with
          | some (.next, gl2, hp4) => match run gl2 hp4 with
            | none => none
            | some (r2, gl3, hp5) => genLoop post run aT body k r2 gl3 loc3 hp5
          | _ => none
        | _ => none
def fGenFor (k : Nat) (start : Loc → Hp → Option (Loc × Hp)) (init post : Loc → Hp → Option (Fl × Loc × Hp)) (run : Loc → Hp → Option (Option V × Loc × Hp)) (aT : V → Loc → Hp → Option (Loc × Hp)) (body : Loc → Hp → Option (Fl × Loc × Hp)) :
    Loc → Hp → Option (Fl × Loc × Hp) := fun loc hp => match start loc hp with
  | none => none
  | some (gl, hp1) => match init gl hp1 with
    | some (.next, gl2, hp2) => match run gl2 hp2 with
      | none => none
      | some (r, gl3, hp3) => genLoop post run aT body k r gl3 loc hp3
    | _ => none

/-- the first statement -/
def fDrawE : Loc → Hp → Option (V × Hp) := fun loc hp => match lget loc 0 with
  | some (.int i) => match PySem.W.Z.eqB i 0 with
    | true => some (.d0, hp)
    | false => match PySem.W.Z.eqB i 1 with
      | true => some (.d1, hp)
      | false => match PySem.W.Z.eqB i 2 with
        | true => some (.d2, hp)
        | false => none
  | _ => none
end
end Mine
end
section
open PySem PyProof.Rows
set_option maxRecDepth 20000
set_option linter.unusedSimpArgs false
set_option linter.unusedVariables false
namespace Mine
noncomputable section

theorem fUn_inv {g : V → Hp → Option (V × Hp)} {f : Loc → Hp → Option (V × Hp)} {loc : Loc} {hp : Hp} {r : V × Hp} (h : fUn g f loc hp = some r) : ∃ a hp1, f loc hp = some (a, hp1) ∧ g a hp1 = some r := by
  unfold fUn at h
  cases q : f loc hp with
  | none => rw [q] at h; cases h
  | some x => obtain ⟨a, hp1⟩ := x; rw [q] at h; exact ⟨a, hp1, rfl, h⟩

section
variable {P : Par} {n : Nat} {G : Sg}
theorem SE.callB1 {x : Str} {px pos : Pos} {e : Expr} {id : String} {f : Loc → Hp → Option (V × Hp)} {g : V → Hp → Option (V × Hp)} (hx : SE P n G (.Name x px) (fK (.bi id))) (y : SE P n G e f)
    (hg : P1 P n (fun v => call (.builtin id) [v]) g) (he : ∀ env, starEach [e] env = (false, eval e env) :: starEach [] env := by intro _; rfl) : SE P n G (.Call (.Name x px) [e] [] pos) (fUn g f) := by
  intro A env own s ρ loc hp v hp' a H F hf
  obtain ⟨va, hp1, h1, h2⟩ := fUn_inv hf
  refine Call_ (hx.use a H F (hp' := hp) rfl fun fv s0 ρ0 H0 F0 S0 r0 => ?_)
  obtain rfl : fv = .builtin id := by cases r0 with | num t e => cases e | bi => rfl
  refine callWith_builtin1 (args_cons (y.use a H0 F0 h1 fun a' s1 ρ1 H1 F1 S1 r1 => args_nil ?_) (he env)) (he env)
  exact wpAny_mono (hg A s1 ρ1 hp1 va a' _ _ a H1 r1 h2) (fun v' s' r => Res.after (own := own) (S0.trans S1) r) fun _ _ h => h
theorem SE.callT1 {x : Str} {px pos : Pos} {e : Expr} {T : String} {f : Loc → Hp → Option (V × Hp)} {g : V → Hp → Option (V × Hp)} (hx : SE P n G (.Name x px) (fK (.ty T))) (y : SE P n G e f)
    (hg : P1 P n (fun v => call (.type T) [v]) g) (he : ∀ env, starEach [e] env = (false, eval e env) :: starEach [] env := by intro _; rfl) : SE P n G (.Call (.Name x px) [e] [] pos) (fUn g f) := by
  intro A env own s ρ loc hp v hp' a H F hf
  obtain ⟨va, hp1, h1, h2⟩ := fUn_inv hf
  refine Call_ (hx.use a H F (hp' := hp) rfl fun fv s0 ρ0 H0 F0 S0 r0 => ?_)
  obtain rfl := r0.ty_inv
  refine PyProof.Rows.callWith_type1 (args_cons (y.use a H0 F0 h1 fun a' s1 ρ1 H1 F1 S1 r1 => args_nil ?_) (he env)) (he env)
  exact wpAny_mono (hg A s1 ρ1 hp1 va a' _ _ a H1 r1 h2) (fun v' s' r => Res.after (own := own) (S0.trans S1) r) fun _ _ h => h
theorem SE.callB2 {x : Str} {px pos : Pos} {e1 e2 : Expr} {id : String} {f1 f2 : Loc → Hp → Option (V × Hp)} {g : V → V → Hp → Option (V × Hp)} (hx : SE P n G (.Name x px) (fK (.bi id))) (y1 : SE P n G e1 f1) (y2 : SE P n G e2 f2)
    (hg : P2 P n (fun a b => call (.builtin id) [a, b]) g) (he : ∀ env, starEach [e1, e2] env = (false, eval e1 env) :: starEach [e2] env := by intro _; rfl) (he2 : ∀ env, starEach [e2] env = (false, eval e2 env) :: starEach [] env := by intro _; rfl) :
    SE P n G (.Call (.Name x px) [e1, e2] [] pos) (fBin g f1 f2) := by
  intro A env own s ρ loc hp v hp' a H F hf
  obtain ⟨va, hp1, vb, hp2, h1, h2, h3⟩ := fBin_inv hf
  refine Call_ (hx.use a H F (hp' := hp) rfl fun fv s0 ρ0 H0 F0 S0 r0 => ?_)
  obtain rfl : fv = .builtin id := by cases r0 with | num t e => cases e | bi => rfl
  refine callWith_builtin1 (args_cons (y1.use a H0 F0 h1 fun a' s1 ρ1 H1 F1 S1 r1 => args_cons (y2.use a H1 F1 h2 fun b' s2 ρ2 H2 F2 S2 r2 => args_nil ?_) (he2 env)) (he env)) (he env) (by rw [he2 env]; rfl)
  exact wpAny_mono (hg A s2 ρ2 hp2 va vb a' b' _ _ a H2 (r1.mono S2.imm S2.pre) r2 h3) (fun v' s' r => Res.after (own := own) ((S0.trans S1).trans S2) r) fun _ _ h => h

/-- len -/
theorem pLen : P1 P n (fun v => call (.builtin "len") [v]) gLen := by
  intro A s ρ hp v v' r hp' ha H rv hg
  unfold gLen at hg
  split at hg
  · rename_i vs
    obtain ⟨hf, hg2⟩ := ch_inv hg
    clear hg
    cases hg2
    obtain ⟨a, items, rfl, ⟨m, ht⟩, r⟩ := rv.tup_inv
    have hl : vs.length = items.size := by have := r.length; simpa using this
    have := few_arr hf r
    rw [hl]
    exact PyProof.Rows.len_tuple ⟨_, ht, rfl, m, rfl⟩ (by omega) (Res.here H (.num _ rfl))
  · obtain ⟨a, hi, rfl⟩ := rv.ob_inv
    split at hg
    · rename_i vs he
      obtain ⟨hf, hg2⟩ := ch_inv hg
      clear hg
      cases hg2
      obtain ⟨items, m, hL, r⟩ := lst_at (H.obj hi he)
      have hl : vs.length = items.size := by have := r.length; simpa using this
      have := few_arr hf r
      rw [hl]
      exact Calls.call_len_list hL.isList (by omega) (Res.here H (.num _ rfl))
    · cases hg
  · cases hg

theorem pRange : P1 P n (fun v => call (.type "range") [v]) gRange := by
  intro A s ρ hp v v' r hp' ha H rv hg
  unfold gRange at hg
  split at hg
  · obtain ⟨t, rfl⟩ := rv.int_inv
    obtain ⟨hf, hg2⟩ := ch_inv hg
    clear hg
    cases hg2
    refine call_range_1 (Res.grow H grow1 (by rw [Heap.size_push]; exact Nat.le_succ _) (.rng ⟨_, _, _, Heap.get?_push_size _ rfl⟩))
  · cases hg

theorem upto_rel {h : Heap} {ρ : List Addr} : ∀ (n : Nat) (i : Nat) (ws : List Value), (∀ (j : Nat) v, ws[j]? = some v → ∃ t, v = Value.int ((i : Int) + j) t) → ws.length = n → VRs P h ρ (upto n i) ws
  | 0, i, ws, _, hl => by
    have : ws = [] := List.length_eq_zero_iff.mp hl
    subst this; exact .nil
  | n + 1, i, ws, hw, hl => by
    cases ws with
    | nil => simp at hl
    | cons w ws =>
      obtain ⟨t, ht⟩ := hw 0 w rfl
      have ht : w = Value.int (i : Int) t := by simpa using ht
      subst ht
      refine .cons (.num _ rfl) ?_
      have := upto_rel (h := h) (ρ := ρ) n (i + 1) ws (fun j v e => by
        obtain ⟨t, rfl⟩ := hw (j + 1) v (by simpa using e)
        exact ⟨t, by congr 1; push_cast; omega⟩) (by simpa using hl)
      have e : ((i + 1 : Nat) : Int) = (i : Int) + 1 := by push_cast; rfl
      rw [e] at this
      exact this

/-- what a range is laid out as -/
theorem items_upto {h : Heap} {ρ : List Addr} {m : Nat} {b : Int} {xs : Array Value} (x : ItemsOf (fun i v => ∃ t, v = Value.int (0 + (i : Int) * 1) t) xs m) (hm : m = b.toNat) : VRs P h ρ (upto b.toNat 0) xs.toList := by
  subst hm
  obtain ⟨h1, h2⟩ := x
  refine upto_rel (P := P) b.toNat 0 xs.toList (fun j v e => ?_) (by simpa using h1)
  rw [Array.getElem?_toList] at e
  obtain ⟨t, rfl⟩ := h2 j v e
  exact ⟨t, by congr 1; simp⟩

theorem collect_range {prog : Program} {w : World} {A : Around} {E : Value → Shared → Prop} {s : Shared} {Q : List Value → Shared → Prop} {r : Addr} {a b c : Int} {t u v : Tok} {m : Nat} (hh : A.handled = none) (hr : IsRange s.heap r a b c t u v) (hsmall : Builtin.Range.small a b c = true)
    (hn : Builtin.Range.rangeSize a b c = m) (hlen : m ≤ 2 ^ 24)
    (hQ : ∀ h' tk acc, (∀ b o', s.heap.get? b = some o' → h'.get? b = some o') → ItemsOf (fun i v => ∃ t, v = Value.int (a + i * c) t) acc m → Q acc.toList { s with heap := h', toks := tk }) :
    wpAny (model prog w) A (collect (.ref r)) Q E s := by
  unfold collect
  refine wpAny_bind (wpAny_runValue (codeAny_builtin F.entry_proto_collect ?_))
  rw [Around.under_plainId F.plain_proto_collect _]
  show wpAny _ A.in1 (newList [] >>= fun l => again (.builtin "list.__iadd__" ⟨[l, .ref r], []⟩)) _ _ s
  refine wpAny_bind (wpAny_newObj_type ?_)
  refine wpAny_pure ⟨plainId_quiet F.plain_list_iadd _, codeAny_builtin F.entry_list_iadd ?_⟩
  rw [Around.under_plainId F.plain_list_iadd _]
  have hS : (s.heap.push { cls := .type "list", data := .seq ([] : List Value).toArray }).get? s.heap.objs.size = some { cls := .type "list", data := .seq #[] 0 } := Heap.get?_push_size _ rfl
  show wpAny _ A.in1 (Builtin.List.listExtendWith (.ref s.heap.objs.size) (.ref r) (.ref s.heap.objs.size)) _ _ _
  have fin' : ∀ s', (∃ h' tk acc c', s' = { s with heap := h', toks := tk } ∧ (∀ b o', s.heap.get? b = some o' → h'.get? b = some o') ∧ h'.get? s.heap.objs.size = some { cls := .type "list", dict := none, data := .seq acc c', slots := #[] } ∧
      ItemsOf (fun i v => ∃ t, v = Value.int (a + i * c) t) acc m) → wpAny (model prog w) A (match Value.ref s.heap.objs.size with
      | Value.ref a => do
        match (← load a).data with
          | Data.seq xs _ => pure xs.toList
          | _ => unsupported "internal:collect"
      | _ => unsupported "internal:collect") Q E s' := by
    rintro s' ⟨h', tk, acc, c', rfl, hk, hS', hacc⟩
    show wpAny _ A (load s.heap.objs.size >>= _) _ _ _
    exact wpAny_bind (wpAny_load hS' (wpAny_pure (hQ h' tk acc hk hacc)))
  refine wpAny_mono (wpAny_extend_range (A := A) (s := { s with heap := s.heap.push { cls := .type "list", data := .seq ([] : List Value).toArray } }) (R := fun r s' => r = .ok (.ret (.ref s.heap.objs.size)) ∧
      ∃ h' tk acc c', s' = { s with heap := h', toks := tk } ∧ (∀ b o', s.heap.get? b = some o' → h'.get? b = some o') ∧ h'.get? s.heap.objs.size = some { cls := .type "list", dict := none, data := .seq acc c', slots := #[] } ∧
      ItemsOf (fun i v => ∃ t, v = Value.int (a + i * c) t) acc m) hh (Heap.get?_push_of_some _ hr) hsmall hn hlen s.heap.objs.size _ 0 hS fun h' tk acc' c' hk hS' hacc => ⟨rfl, h', tk, acc', c', rfl, fun b o e => hk b o (Nat.ne_of_lt (Heap.lt_size e)) (Heap.get?_push_of_some _ e), hS', hacc⟩)
    (fun fin s' h => ?_) fun e s' h => ?_
  · cases fin with
    | done f => obtain ⟨e, h⟩ := h; cases e; exact fin' _ h
    | again c' => exact ⟨h.1, codeAny_mono h.2 fun r s'' hr => by obtain ⟨rfl, h⟩ := hr; exact fin' _ h⟩
  · exact absurd h.1 (by simp)

theorem meets_tuple_range {r : Addr} {a b c : Int} {t u v : Tok} {m : Nat} (hsmall : Builtin.Range.small a b c = true) (hn : Builtin.Range.rangeSize a b c = m) (hlen : m ≤ 5000) :
    Meets (Builtin.«tuple.__new__» ⟨[.type "tuple", .ref r], []⟩)
      (fun A R s => (A.handled = none ∧ IsRange s.heap r a b c t u v) ∧ ∀ (h' : Heap) (tk : Nat) (acc : Array Value), (∀ b o, s.heap.get? b = some o → h'.get? b = some o) → ItemsOf (fun i v => ∃ t, v = Value.int (a + i * c) t) acc m →
        R (.ok (.ret (.ref h'.objs.size))) { s with heap := h'.push { cls := .type "tuple", data := .seq acc }, toks := tk }) :=
  .of_wp fun prog w A R s h => by
    obtain ⟨⟨hh, hr⟩, h⟩ := h
    have hsub := sub_tuple_self
    have hinit := init_tuple_lookup
    have hmh := madeHere_tuple
    have hT : s.TypeIs (.ref r) "range" := ⟨_, hr, rfl⟩
    have hh1 : A.in1.handled = none := hh
    wp_walk using wpAny_typeOf hT, collect_range hh1 hr hsmall hn (Nat.le_trans hlen (by decide))
    intro h' tk acc hk hacc
    show wpAny _ _ (Builtin.Tuple.tupleExact acc.toList.toArray >>= fun v => ret v) _ _ _
    unfold Builtin.Tuple.tupleExact
    refine wpAny_bind (wpAny_newObj_type ?_ (show acc.toList.toArray.size ≤ sizeLine by simp only [Array.toArray_toList]; rw [hacc.1]; exact line hlen))
    refine wpAny_pure ⟨_, rfl, ?_⟩
    have e : acc.toList.toArray = acc := by simp
    rw [e]
    exact h h' tk acc hk hacc

theorem rng_ok {b : Int} (h0 : 0 ≤ b) (h1 : b < 5000) : Builtin.Range.small 0 b 1 = true ∧ Builtin.Range.rangeSize 0 b 1 = (b.toNat : Int) ∧ b.toNat ≤ 5000 :=
  ⟨small_one (by decide) (by decide) (by omega) (by omega), by rw [rangeSize_one]; split <;> omega, by omega⟩

theorem pTuple : P1 P n (fun v => call (.type "tuple") [v]) gTuple := by
  intro A s ρ hp v v' r hp' ha H rv hg
  unfold gTuple at hg
  split at hg
  · rename_i a b c
    obtain ⟨x, rfl, t, u, w, hr⟩ := rv.rng_inv
    obtain ⟨hf, hg2⟩ := ch_inv hg
    clear hg
    cases hg2
    simp only [Bool.and_eq_true, PySem.W.Z.eqB_iff, PySem.W.Z.leB_iff, PySem.W.Z.ltB_iff] at hf
    obtain ⟨⟨⟨rfl, rfl⟩, h0⟩, h1⟩ := hf
    obtain ⟨q1, q2, q3⟩ := rng_ok h0 h1
    have hT : IsRange s.heap x 0 b 1 t u w := hr
    refine with_size (callType_new F.called_tuple (by decide) (F.typeCall_tuple_1 _) (F.newCall_tuple_1 _) (fun obj => F.args_object_init_2 obj _) F.entry_tuple_new
      (meets_tuple_range q1 q2 q3) ⟨⟨ha.h, hr⟩, fun h' tk acc hk hacc => ⟨⟨_, Heap.get?_push_size _ rfl, rfl⟩, fun hz => ?_⟩⟩)
    refine Res.grow (t := tk) H (fun b o e => Heap.get?_push_of_some _ (hk b o e)) hz (.tup ⟨0, Heap.get?_push_size _ rfl⟩ (items_upto hacc rfl))
  · obtain ⟨a, hi, rfl⟩ := rv.ob_inv
    split at hg
    · rename_i vs he
      obtain ⟨hf, hg2⟩ := ch_inv hg
      clear hg
      cases hg2
      obtain ⟨items, m, hL, r⟩ := lst_at (H.obj hi he)
      refine with_size (call_tuple_list hL.isList (fun h' hk hz => ?_) (line (few_arr hf r)))
      have hz : s.heap.objs.size ≤ (h'.push { cls := .type "tuple", data := .seq items }).objs.size := hz
      refine Res.grow (t := s.toks) H (fun b o e => Heap.get?_push_of_some _ (hk b o e)) hz (.tup ⟨0, Heap.get?_push_size _ rfl⟩ (r.mono (.of fun b o e => Heap.get?_push_of_some _ (hk b o e)) (List.prefix_refl _)))
    · cases hg
  · cases hg

theorem pList0 {A : Around} {s : Shared} {ρ : List Addr} {hp hp' : Hp} {v r : V} {v' : Value} (ha : AOk n A) (H : HI P ρ hp s) (rv : VR P s.heap ρ v v') (hv : ∀ i, v ≠ .ob i) (hg : gList v hp = some (r, hp')) :
    wpAny (model P.prog P.w) A (call (.type "list") [v']) (Res P ρ s r hp') NoE s := by
  unfold gList at hg
  split at hg
  · rename_i a b c
    obtain ⟨x, rfl, t, u, w, hr⟩ := rv.rng_inv
    obtain ⟨hf, hg2⟩ := ch_inv hg
    clear hg
    simp only [Bool.and_eq_true, PySem.W.Z.eqB_iff, PySem.W.Z.leB_iff, PySem.W.Z.ltB_iff] at hf
    obtain ⟨⟨⟨rfl, rfl⟩, h0⟩, h1⟩ := hf
    obtain ⟨q1, q2, q3⟩ := rng_ok h0 h1
    refine with_size (call_list_range ha.h hr q1 q2 (Nat.le_trans q3 (by decide)) fun h' tk acc' c' hk hS hacc hz => ?_)
    have hlt := Heap.lt_size hS
    refine Res.mk (t := tk) H hg2 hk hz (Nat.le_refl _) hlt ⟨acc', c', hS, ?_⟩
    exact items_upto hacc rfl
  · rename_i vs
    obtain ⟨hf, hg2⟩ := ch_inv hg
    clear hg
    obtain ⟨a, items, rfl, ⟨m, ht⟩, r⟩ := rv.tup_inv
    refine with_size (call_list_seq a (.inr rfl) ht rfl rfl (fun h' c' hk hS hz => ?_) (line (few_arr hf r)))
    exact Res.mk (t := s.toks) H hg2 hk hz (Nat.le_refl _) (Heap.lt_size hS) ⟨items, c', hS, r.mono (.of hk) (List.prefix_append _ _)⟩
  · rename_i i
    exact absurd rfl (hv i)
  · cases hg

theorem pMin : P2 P n (fun a b => call (.builtin "min") [a, b]) gMin := by
  intro A s ρ hp a b a' b' v hp' ha H ra rb hg
  unfold gMin at hg
  split at hg
  · rename_i i
    split at hg
    · rename_i j
      obtain ⟨t, rfl⟩ := ra.int_inv
      obtain ⟨u, rfl⟩ := rb.int_inv
      cases hg
      refine with_size (min_two_ints ha.h fun h' tk hk hz => Res.grow (t := tk) H hk hz ?_)
      split
      · rename_i q
        rw [if_pos ((PySem.W.Z.ltB_iff _ _).mp q)]; exact .num _ rfl
      · rename_i q
        rw [if_neg fun e => by rw [(PySem.W.Z.ltB_iff _ _).mpr e] at q; cases q]; exact .num _ rfl
    · cases hg
  · cases hg
theorem pMax : P2 P n (fun a b => call (.builtin "max") [a, b]) gMax := by
  intro A s ρ hp a b a' b' v hp' ha H ra rb hg
  unfold gMax at hg
  split at hg
  · rename_i i
    split at hg
    · rename_i j
      obtain ⟨t, rfl⟩ := ra.int_inv
      obtain ⟨u, rfl⟩ := rb.int_inv
      cases hg
      refine with_size (max_two_ints ha.h fun h' tk hk hz => Res.grow (t := tk) H hk hz ?_)
      split
      · rename_i q
        rw [if_pos ((PySem.W.Z.ltB_iff _ _).mp q)]; exact .num _ rfl
      · rename_i q
        rw [if_neg fun e => by rw [(PySem.W.Z.ltB_iff _ _).mpr e] at q; cases q]; exact .num _ rfl
    · cases hg
  · cases hg
end
end
end Mine
end
section
open PySem PyProof.Rows
set_option maxRecDepth 20000
set_option linter.unusedSimpArgs false
set_option linter.unusedVariables false
namespace Mine
noncomputable section
section
variable {P : Par} {n : Nat} {G : Sg}
theorem fMet_inv {q : V → Hp → Bool} {g : V → V → Hp → Option (V × Hp)} {f1 f2 : Loc → Hp → Option (V × Hp)} {loc : Loc} {hp : Hp} {r : V × Hp} (h : fMet q g f1 f2 loc hp = some r) :
    ∃ a hp1 b hp2, f1 loc hp = some (a, hp1) ∧ q a hp1 = true ∧ f2 loc hp1 = some (b, hp2) ∧ g a b hp2 = some r := by
  unfold fMet at h
  cases q1 : f1 loc hp with
  | none => rw [q1] at h; cases h
  | some x =>
    obtain ⟨a, hp1⟩ := x
    rw [q1] at h
    dsimp only at h
    obtain ⟨hq, h⟩ := ch_inv h
    cases q2 : f2 loc hp1 with
    | none => rw [q2] at h; cases h
    | some y =>
      obtain ⟨b, hp2⟩ := y
      rw [q2] at h
      exact ⟨a, hp1, b, hp2, rfl, hq, q2, h⟩
theorem isLst_inv {ρ : List Addr} {s : Shared} {hp : Hp} {v : V} {v' : Value} (e : isLst v hp = true) (H : HI P ρ hp s) (r : VR P s.heap ρ v v') : ∃ i a vs items m, v = .ob i ∧ v' = .ref a ∧ ρ[i]? = some a ∧ hp.get i = some (.lst vs) ∧ IsL s.heap a items m ∧ VRs P s.heap ρ vs items.toList := by
  unfold isLst at e
  split at e
  · rename_i i
    obtain ⟨a, hi, rfl⟩ := r.ob_inv
    split at e
    · rename_i vs he
      obtain ⟨items, m, h1, h2⟩ := lst_at (H.obj hi he)
      exact ⟨i, a, vs, items, m, rfl, rfl, hi, he, h1, h2⟩
    · cases e
  · cases e
theorem isDct_inv {ρ : List Addr} {s : Shared} {hp : Hp} {v : V} {v' : Value} (e : isDct v hp = true) (H : HI P ρ hp s) (r : VR P s.heap ρ v v') : ∃ i a, v = .ob i ∧ v' = .ref a ∧ ρ[i]? = some a ∧ s.TypeIs (.ref a) "dict" ∧ ∃ o, s.heap.get? a = some o ∧ o.dict = none := by
  unfold isDct at e
  split at e
  · rename_i i
    obtain ⟨a, hi, rfl⟩ := r.ob_inv
    split at e
    · rename_i kvs ep he
      obtain ⟨kvs', ⟨o, es, ho, hc, _⟩, h2⟩ := H.obj hi he
      exact ⟨i, a, rfl, rfl, hi, ⟨o, ho, hc.1⟩, o, ho, hc.2.1⟩
    · rename_i kvs he
      obtain ⟨kvs', ⟨o, es, ep, ho, hc, _⟩, h2⟩ := H.obj hi he
      exact ⟨i, a, rfl, rfl, hi, ⟨o, ho, hc.1⟩, o, ho, hc.2.1⟩
    · cases e
  · cases e

theorem lst_imm {h : Heap} {a : Addr} {items : Array Value} {m : Nat} (x : IsL h a items m) : ∀ o, h.get? a = some o → ¬ ImmO o := fun o e => by
  rw [x] at e; cases e
  exact ImmO.not_cls (fun h => by simp at h) (fun h => by simp at h) (fun h => by simp at h)

/-- a ledger's thing is changed -/
theorem Res.upd {ρ : List Addr} {s : Shared} {hp : Hp} {h' : Heap} {t : Nat} {a : Addr} {i : Nat} {o : O} {v : V} {v' : Value} (H : HI P ρ hp s) (hi : ρ[i]? = some a) (hs : Heap.ExtBut a s.heap h') (hn : ∀ o, s.heap.get? a = some o → ¬ ImmO o)
    (hz : s.heap.objs.size ≤ h'.objs.size) (ho : OR P h' ρ a o) (hv : VR P s.heap ρ v v') : Res P ρ s v (hp.upd i o) v' { s with heap := h', toks := t } :=
  ⟨ρ, H.upd hi hs hn hz ho, .change (.inl (List.mem_of_getElem? hi)) hs hn hz, hv.mono (.same hs hn) (List.prefix_refl _)⟩

theorem SE.app {o e : Expr} {apos pos : Pos} {fo fe : Loc → Hp → Option (V × Hp)} (x : SE P n G o fo) (y : SE P n G e fe)
    (hbase : ∀ env, attributeBase o "append" env (eval o env) = eval o env := by intro _; rfl) (hline : (apos.endLine == pos.line) = true := by rfl) (ht : ∀ env, backTo pos (starEach [e] env) = [(false, eval e env)] := by intro _; rfl) :
    SE P n G (.Call (.Attribute o "append" apos) [e] [] pos) (fMet isLst gApp fo fe) := by
  intro A env own s ρ loc hp v hp' ha H F hf
  obtain ⟨va, hp1, vb, hp2, h1, hq, h2, h3⟩ := fMet_inv hf
  refine wpAny_Call_method1_late (hbase env) hline (ht env) (x.use ha H F h1 fun a' s1 ρ1 H1 F1 S1 r1 => ?_)
  obtain ⟨i, a, vs0, items0, m0, rfl, rfl, hi, he0, hl0, r0⟩ := isLst_inv hq H1 r1
  refine ⟨"list", "list.append", PySem.F.plainAttrs_list, PySem.F.slot_list_append, PySem.F.type_list_append, ⟨_, hl0, rfl⟩, (fun b e => by cases e; exact ⟨_, hl0, rfl⟩), ?_⟩
  refine PySem.P.append_list (y.use ha H1 F1 h2 fun b' s2 ρ2 H2 F2 S2 r2 => ?_)
  unfold gApp at h3
  dsimp only at h3
  split at h3
  · rename_i vs he
    obtain ⟨hfw, h4⟩ := ch_inv h3
    clear h3
    cases h4
    have hi2 := pre_get S2.pre hi
    obtain ⟨items, m, hl, r⟩ := lst_at (H2.obj hi2 he)
    refine ⟨items, m, line (few_arr hfw r), hl, Res.after (own := own) (S1.trans S2) ?_⟩
    have hs := Heap.SameBut.update s2.heap a (Obj.mapSeq fun xs => xs.push b')
    refine Res.upd (t := s2.toks) H2 hi2 hs.extBut (lst_imm hl) (Nat.le_of_eq hs.1.symm) ⟨_, _, hl.update _, ?_⟩ .none
    rw [Array.toList_push]
    exact (r.append (.cons r2 .nil)).mono (.same hs.extBut (lst_imm hl)) (List.prefix_refl _)
  · cases h3
end
end
end Mine
end
section
open PySem PyProof.Rows
set_option maxRecDepth 20000
set_option linter.unusedSimpArgs false
set_option linter.unusedVariables false
namespace Mine
noncomputable section

/-- has it the key? -/
def hasKey (kvs : List (Int × Value)) (k : Int) : Bool := kvs.any fun kv => decide (kv.1 = k)

theorem stored_pos {kvs : List (Int × Value)} {k : Int} (v : Value) (h : hasKey kvs k = true) : stored kvs k v = kvs.map fun kv => if kv.1 = k then (kv.1, v) else kv := if_pos h
theorem stored_neg {kvs : List (Int × Value)} {k : Int} (v : Value) (h : ¬ hasKey kvs k = true) : stored kvs k v = kvs ++ [(k, v)] := if_neg h
section
variable {prog : Program} {w : World} {A : Around} {E : Value → Shared → Prop} {s : Shared}
theorem dictSet_at {d : Addr} {kvs : List (Int × Value)} {ep : Nat} {k : Int} {key v : Value} {Q : Unit → Shared → Prop} (hkey : (intKind prog w).is k key = true) (hm : s.heap.DictAt (intKind prog w) d kvs ep)
    (hQ : ∀ h', h'.DictAt (intKind prog w) d (stored kvs k v) (ep + (if hasKey kvs k = true then 0 else 1)) → Heap.SameBut d s.heap h' → Q () { s with heap := h', toks := s.toks + 1 })
    (hsz : kvs.length ≤ sizeLine) : wpAny (model prog w) A (dictSet d key v) Q E s := by
  obtain ⟨o, es, ho, hc, hd, hk, hp, hn⟩ := hm
  have hes : es.size ≤ sizeLine := by
    have e1 := hp.length
    rw [Array.length_toList] at e1
    omega
  have hidx : (es.findIdx? fun e => (intKind prog w).is k e.key) = kvs.findIdx? fun kv => decide (kv.1 = k) := by
    rw [← hp.findIdx k]; cases es; simp
  unfold dictSet
  try with_reducible refine wpAny_holding ?_
  refine wpAny_bind ((intKind prog w).pyHash hkey ?_)
  unfold dictSetHashed
  try with_reducible refine wpAny_holding ?_
  refine wpAny_bind (wpAny_dictFind_of (s := { s with toks := s.toks + 1 }) hkey ho hd hk ?_)
  cases hi : es.findIdx? fun e => (intKind prog w).is k e.key with
  | some i =>
    have hany : hasKey kvs k = true := any_of_findIdx_some (hidx ▸ hi)
    refine wpAny_bind (wpAny_rule (wpAny_bind (wpAny_updateDict (s := { s with toks := s.toks + 1 }) ho hd (wpAny_point (hQ _ ?_ (Heap.SameBut.update ..))))))
    rw [if_pos hany]
    refine ⟨_, _, Heap.get?_update_self _ ho (Obj.isFreed_of_dict (Obj.data_mapDict hd _)), hc.mapDict _, Obj.data_mapDict hd _, hk.modify _ _, ?_, ?_⟩
    · rw [stored_pos v hany]
      have hl : (es.toList.findIdx? fun e => (intKind prog w).is k e.key) = some i := by rw [← hi]; cases es; simp
      have q := hp.modify hn hl v
      cases es
      simpa using q
    · rw [stored_pos v hany, keys_map_store]; exact hn
  | none =>
    have hnot : k ∉ kvs.map (·.1) := not_mem_of_findIdx_none (hidx ▸ hi)
    have hany : ¬ hasKey kvs k = true := fun q => by
      obtain ⟨kv, h1, h2⟩ := List.any_eq_true.mp q
      exact hnot (List.mem_map.mpr ⟨kv, h1, of_decide_eq_true h2⟩)
    refine wpAny_bind (wpAny_rule (wpAny_updateDictKeys (hz := hes) (s := { s with toks := s.toks + 1 }) ho hd (hQ _ ?_ (Heap.SameBut.update ..))))
    rw [if_neg hany]
    refine ⟨_, _, Heap.get?_update_self _ ho (Obj.isFreed_of_dict (Obj.data_mapDictKeys hd _)), hc.mapDictKeys _, Obj.data_mapDictKeys hd _, hk.push hkey _, ?_, ?_⟩
    · rw [stored_neg v hany]
      have q := hp.append hkey ((intKind prog w).hash k) v
      cases es
      simpa using q
    · rw [stored_neg v hany, List.map_append, List.nodup_append]
      refine ⟨hn, by simp, fun a ha b hb e => ?_⟩
      obtain rfl : b = k := by simpa using hb
      exact hnot (e ▸ ha)

theorem setItem_at {d : Addr} {kvs : List (Int × Value)} {ep : Nat} {k : Int} {key v : Value} {Q : Unit → Shared → Prop} (hkey : (intKind prog w).is k key = true) (hm : s.heap.DictAt (intKind prog w) d kvs ep)
    (hQ : ∀ h', h'.DictAt (intKind prog w) d (stored kvs k v) (ep + (if hasKey kvs k = true then 0 else 1)) → Heap.SameBut d s.heap h' → Q () { s with heap := h', toks := s.toks + 1 })
    (hsz : kvs.length ≤ sizeLine) : wpAny (model prog w) A (setItem (.ref d) key v) Q E s := by
  have hT := hm.dictOf.typeIs
  unfold setItem
  try with_reducible refine wpAny_holding ?_
  refine wpAny_bind (wpAny_sequenceKey hT (by decide) ?_)
  refine wpAny_bind (wpAny_callSpecial?_slot (name := Str.ofString "__setitem__") hT slot_dict_setitem
    (wpAny_call_entry slot_dict_setitem hT entry_dict_setitem ?_ (args_dict_setitem _ _ _)))
  show wpAny _ _ (Builtin.Dict.notOrdered "__setitem__" ⟨[.ref d, key, v], []⟩ >>= _) _ _ s
  refine wpAny_bind (wpAny_notOrdered_dict hT ?_)
  show wpAny _ _ (dictSet d key v >>= _) _ _ s
  exact wpAny_bind (dictSet_at hkey hm (fun h' hm' hs' => wpAny_pure ⟨.none, rfl, wpAny_pure (hQ h' hm' hs')⟩) hsz)
end

section
variable {P : Par} {n : Nat} {G : Sg} {h : Heap} {ρ : List Addr}
theorem KVI.append {l m : List (V × V)} {l' m' : List (Int × Value)} (x : KVI P h ρ l l') (y : KVI P h ρ m m') : KVI P h ρ (l ++ m) (l' ++ m') := by
  induction x with
  | nil => exact y
  | cons a b _ ih => exact .cons a b ih
theorem dsetI_sound {kvs l : List (V × V)} {kvs' : List (Int × Value)} (x : KVI P h ρ kvs kvs') {k v : V} {i : Int} {v' : Value} {e : Nat} (hn : (kvs'.map (·.1)).Nodup) (hk : P.num k = some i) (hv : VR P h ρ v v') (hd : dsetI kvs k v = some (l, e)) :
    KVI P h ρ l (stored kvs' i v') ∧ e = (if hasKey kvs' i = true then 0 else 1) := by
  have key : ∀ {kvs : List (V × V)} {kvs' : List (Int × Value)}, KVI P h ρ kvs kvs' → (kvs'.map (·.1)).Nodup → ∀ {l e}, dsetI kvs k v = some (l, e) →
      (hasKey kvs' i = true → KVI P h ρ l (kvs'.map fun kv => if kv.1 = i then (kv.1, v') else kv) ∧ e = 0) ∧ (¬ hasKey kvs' i = true → KVI P h ρ l (kvs' ++ [(i, v')]) ∧ e = 1) := by
    intro kvs kvs' x
    induction x with
    | nil =>
      intro _ l e hd
      cases hd
      exact ⟨fun q => by simp [hasKey] at q, fun _ => ⟨.cons hk hv .nil, rfl⟩⟩
    | @cons k₀ v₀ i₀ v₀' r r' h1 h2 h3 ih =>
      intro hn l e hd
      rw [List.map_cons, List.nodup_cons] at hn
      unfold dsetI at hd
      dsimp only at hd
      cases q : keq k₀ k with
      | none => rw [q] at hd; cases hd
      | some b =>
        rw [q] at hd
        have hb := keq_sound h1 hk q
        cases b with
        | true =>
          cases hd
          obtain rfl : i₀ = i := of_decide_eq_true hb.symm
          refine ⟨fun _ => ⟨?_, rfl⟩, fun q => absurd (by simp [hasKey]) q⟩
          rw [List.map_cons, if_pos rfl]
          refine .cons h1 hv ?_
          have e : (r'.map fun kv => if kv.1 = i₀ then (kv.1, v') else kv) = r' := by
            rw [List.map_congr_left (g := id), List.map_id]
            intro kv hkv
            have hne : ¬ kv.1 = i₀ := fun e => hn.1 (List.mem_map.mpr ⟨kv, hkv, e⟩)
            rw [if_neg hne]; rfl
          rw [e]; exact h3
        | false =>
          dsimp only at hd
          have hne : ¬ i₀ = i := of_decide_eq_false hb.symm
          cases q2 : dsetI r k v with
          | none => rw [q2] at hd; cases hd
          | some y =>
            obtain ⟨l1, e1⟩ := y
            rw [q2] at hd
            cases hd
            obtain ⟨g1, g2⟩ := ih hn.2 q2
            have hh : hasKey ((i₀, v₀') :: r') i = hasKey r' i := by simp [hasKey, hne]
            rw [hh]
            refine ⟨fun q => ?_, fun q => ?_⟩
            · obtain ⟨u1, u2⟩ := g1 q
              rw [List.map_cons, if_neg hne]
              exact ⟨.cons h1 h2 u1, u2⟩
            · obtain ⟨u1, u2⟩ := g2 q
              exact ⟨.cons h1 h2 u1, u2⟩
  obtain ⟨g1, g2⟩ := key x hn hd
  by_cases q : hasKey kvs' i = true
  · obtain ⟨u1, u2⟩ := g1 q
    rw [stored_pos v' q, if_pos q]; exact ⟨u1, u2⟩
  · obtain ⟨u1, u2⟩ := g2 q
    rw [stored_neg v' q, if_neg q]; exact ⟨u1, u2⟩

theorem KVT.append {l m : List (List V × V)} {l' m' : List (List Int × Addr × Value)} (x : KVT P h ρ l l') (y : KVT P h ρ m m') : KVT P h ρ (l ++ m) (l' ++ m') := by
  induction x with
  | nil => exact y
  | cons a b c _ ih => exact .cons a b c ih

theorem KVT.length {l : List (List V × V)} {l' : List (List Int × Addr × Value)} (x : KVT P h ρ l l') : l.length = l'.length := by
  induction x with
  | nil => rfl
  | cons _ _ _ _ ih => simp [ih]

/-- what setting an item ends in -/
theorem pSet {A : Around} {s : Shared} {ρ : List Addr} {hp hp' : Hp} {c k v : V} {c' k' v' : Value} (ha : AOk 8 A) (H : HI P ρ hp s) (rc : VR P s.heap ρ c c') (rk : VR P s.heap ρ k k') (rv : VR P s.heap ρ v v') (hg : gSet c k v hp = some hp') :
    wpAny (model P.prog P.w) A (setItem c' k' v') (fun _ s' => HI P ρ hp' s' ∧ Step [] ρ s ρ s') NoE s := by
  unfold gSet at hg
  split at hg
  · rename_i i
    obtain ⟨a, hi, rfl⟩ := rc.ob_inv
    split at hg
    · rename_i kvs ep he
      obtain ⟨kvs', D, K⟩ := H.obj hi he
      split at hg
      · rename_i q
        obtain ⟨j, hj⟩ := knum_num q rk
        obtain ⟨t, rfl⟩ := rk.num_inv hj
        split at hg
        · rename_i l e hd
          obtain ⟨hfw, hg2⟩ := ch_inv hg
          clear hg
          cases hg2
          have hl : kvs'.length ≤ 5000 := by rw [← K.length]; exact Nat.le_of_ble_eq_true hfw
          have imm : ∀ o, s.heap.get? a = some o → ¬ ImmO o := fun o e => by
            obtain ⟨o', es, ho, hc, hdd, _⟩ := id D
            rw [ho] at e; cases e; exact ImmO.not_dict hdd
          refine setItem_at (k := j) (by simp [intKind, Value.isInt]) D (fun h' D' hs => ?_) (line hl)
          have hz : s.heap.objs.size ≤ h'.objs.size := Nat.le_of_eq hs.1.symm
          obtain ⟨K2, e2⟩ := dsetI_sound K D.nodup hj rv hd
          rw [← e2] at D'
          exact ⟨H.upd hi hs.extBut imm hz ⟨_, D', K2.mono (.same hs.extBut imm) (List.prefix_refl _)⟩, .change (.inl (List.mem_of_getElem? hi)) hs.extBut imm hz⟩
        · cases hg
      · cases hg
    · rename_i kvs he
      obtain ⟨xs, D, K⟩ := H.obj hi he
      split at hg
      · rename_i ks
        split at hg
        · rename_i q
          obtain ⟨x, items, rfl, t, r⟩ := rk.tup_inv
          obtain ⟨j, hj⟩ := knums_nums q r
          split at hg
          · rename_i hd
            obtain ⟨hfw, hg2⟩ := ch_inv hg
            clear hg
            cases hg2
            have imm : ∀ o, s.heap.get? a = some o → ¬ ImmO o := fun o e => by
              obtain ⟨o', es, ep, ho, hc, hdd, _⟩ := id D
              rw [ho] at e; cases e; exact ImmO.not_dict hdd
            have hno := dgetT_sound K hj hd
            have hno : atKey xs j = none := by
              cases q : atKey xs j with
              | none => rfl
              | some p => rw [q] at hno; exact hno.elim
            have hl : xs.length ≤ 5000 := by rw [← K.length]; exact Nat.le_of_ble_eq_true hfw
            refine wpAny_setItem_heap (knd := P.tk) (k := j) (ha.le (by decide : 7 ≤ 8)).units1 (isTupKey t r hj) D (fun h' D' hs => ?_) (line hl)
            have hz : s.heap.objs.size ≤ h'.objs.size := Nat.le_of_eq hs.1.symm
            rw [storedH_new hno] at D'
            refine ⟨H.upd hi hs.extBut imm hz ⟨_, D', ?_⟩, .change (.inl (List.mem_of_getElem? hi)) hs.extBut imm hz⟩
            exact (K.append (.cons hj ⟨items, t, r⟩ rv .nil)).mono (.same hs.extBut imm) (List.prefix_refl _)
          · cases hg
        · cases hg
      · cases hg
    · cases hg
  · cases hg

theorem S1.setI {ev ec ek : Expr} {p' pos : Pos} {fv fc fk : Loc → Hp → Option (V × Hp)} (x : SE P n G ev fv) (y : SE P n G ec fc) (z : SE P n G ek fk) (h8 : 8 ≤ n)
    (hs : ∀ env : Env, env.scope = G.scope → swapsWith ev (some (.Subscript ec ek p')) pos.line env = pure false := by intro _ _; rfl) : S1 P n G (.Assign [.Subscript ec ek p'] ev pos) (fSetI fv fc fk) := by
  intro A env own s ρ loc hp fl loc' hp' ha H F hf
  unfold fSetI at hf
  cases q1 : fv loc hp with
  | none => rw [q1] at hf; cases hf
  | some z1 =>
    obtain ⟨v, hp1⟩ := z1
    rw [q1] at hf
    dsimp only at hf
    cases q2 : fc loc hp1 with
    | none => rw [q2] at hf; cases hf
    | some z2 =>
      obtain ⟨c, hp2⟩ := z2
      rw [q2] at hf
      dsimp only at hf
      cases q3 : fk loc hp2 with
      | none => rw [q3] at hf; cases hf
      | some z3 =>
        obtain ⟨k, hp3⟩ := z3
        rw [q3] at hf
        dsimp only at hf
        cases q4 : gSet c k v hp3 with
        | none => rw [q4] at hf; cases hf
        | some hp4 =>
          rw [q4] at hf
          cases hf
          refine wpAny_Assign_Subscript (x.use ha H F q1 fun v' s1 ρ1 H1 F1 S1 r1 => y.use ha H1 F1 q2 fun c' s2 ρ2 H2 F2 S2 r2 => z.use ha H2 F2 q3 fun k' s3 ρ3 H3 F3 S3 r3 => ?_) (hs env F.scope)
          have S23 := S2.trans S3
          refine wpAny_mono (pSet (ha.le h8) H3 (r2.mono S3.imm S3.pre) r3 (r1.mono S23.imm S23.pre) q4) (fun _ s4 ⟨H4, S4⟩ => ?_) fun _ _ h => h
          have S := (S1.trans S23).trans S4
          exact ⟨ρ3, ⟨H4, F.step S, S.own'⟩, rfl⟩
end
end
end Mine
end
section
open PySem PyProof.Rows
set_option maxRecDepth 20000
set_option linter.unusedSimpArgs false
set_option linter.unusedVariables false
namespace Mine
noncomputable section

theorem lpop_eq {α : Type} : ∀ {vs l : List α} {x : α}, lpop vs = some (l, x) → vs = l ++ [x]
  | [], _, _, h => by cases h
  | [v], _, _, h => by cases h; rfl
  | v :: w :: r, l, x, h => by
    have h : (match lpop (w :: r) with | none => none | some (l, x) => some (v :: l, x)) = some (l, x) := h
    cases q : lpop (w :: r) with
    | none => rw [q] at h; cases h
    | some y =>
      obtain ⟨l1, x1⟩ := y
      rw [q] at h
      cases h
      rw [lpop_eq q]; rfl

section
variable {prog : Program} {w : World} {K : Type} [DecidableEq K] {knd : KeyKind prog w K}
theorem Pairs.snoc_inv {es : List DictEntry} {kvs : List (K × Value)} {kv : K × Value} (h : Pairs knd es (kvs ++ [kv])) : ∃ es' e, es = es' ++ [e] ∧ Pairs knd es' kvs ∧ knd.is kv.1 e.key = true ∧ e.val = kv.2 := by
  induction kvs generalizing es with
  | nil =>
    cases h with
    | cons h1 h2 h3 => cases h3; exact ⟨[], _, rfl, .nil, h1, h2⟩
  | cons x kvs ih =>
    cases h with
    | cons h1 h2 h3 =>
      obtain ⟨es', e, rfl, p, q1, q2⟩ := ih h3
      exact ⟨_ :: es', e, rfl, .cons h1 h2 p, q1, q2⟩

theorem meets_popitem {d : Addr} (hd : (d == sysModules) = false) :
    MeetsIn prog w (Builtin.«dict.popitem» ⟨[.ref d], []⟩) (fun _ R s => ∃ kvs ep kv, s.heap.DictAt knd d (kvs ++ [kv]) ep ∧ (kvs ++ [kv]).length ≤ sizeLine ∧
      ∀ h' key, knd.is kv.1 key = true → h'.DictAt knd d kvs (ep + 1) → Heap.SameBut d s.heap h' → R (.ok (.ret (.ref h'.objs.size))) { s with heap := h'.push { cls := .type "tuple", data := .seq #[key, kv.2] } }) :=
  .of_wp fun A R s ⟨kvs, ep, kv, hm, hsz, h⟩ => by
    have hT := hm.dictOf.typeIs
    obtain ⟨o, es, ho, hc, hdat, hk, hp, hn⟩ := id hm
    obtain ⟨es', e, hes, hp', h1, h2⟩ := Pairs.snoc_inv hp
    have hes : es = (es' ++ [e]).toArray := by rw [← hes]
    subst hes
    have hsz' : (es' ++ [e]).toArray.size ≤ sizeLine := by
      have := hp.length
      rw [List.size_toArray]
      simp only at this
      omega
    unfold Builtin.«dict.popitem»
    refine wpAny_bind ?_
    unfold Builtin.Dict.noArgs
    refine wpAny_bind (wpAny_notOrdered_dict hT ?_)
    show wpAny _ _ (pure d) _ _ s
    refine wpAny_pure ?_
    unfold Builtin.Dict.showsAll
    rw [if_neg (by rw [hd]; exact Bool.false_ne_true)]
    refine wpAny_bind (wpAny_pure ?_)
    refine wpAny_bind (wpAny_dictEntries ho hdat ?_)
    have hb : (es' ++ [e]).toArray.back? = some e := by simp
    rw [hb]
    dsimp only
    refine wpAny_bind (wpAny_updateDictKeys (hz := hsz') (hf := by rw [Array.size_pop]; omega) ho hdat ?_)
    refine wpAny_bind (wpAny_newTuple (wpAny_pure ⟨_, rfl, ?_⟩) (show 2 ≤ sizeLine by rw [sizeLine_eq]; decide))
    have hkv : e.val = kv.2 := h2
    rw [show [e.key, e.val].toArray = #[e.key, kv.2] by rw [hkv]]
    refine h _ e.key h1 ⟨_, _, Heap.get?_update_self _ ho (Obj.isFreed_of_dict (Obj.data_mapDictKeys hdat _)), hc.mapDictKeys _, Obj.data_mapDictKeys hdat _, ?_, ?_, ?_⟩ (Heap.SameBut.update ..)
    · intro x hx
      refine hk x ?_
      simp only [List.pop_toArray, List.dropLast_concat, List.mem_toArray] at hx
      simp [hx]
    · simpa using hp'
    · rw [List.map_append, List.nodup_append] at hn; exact hn.1
end

section
variable {P : Par} {n : Nat} {G : Sg}
theorem KVI.snoc_inv {h : Heap} {ρ : List Addr} {l : List (V × V)} {k v : V} {l' : List (Int × Value)} (x : KVI P h ρ (l ++ [(k, v)]) l') : ∃ m i v', l' = m ++ [(i, v')] ∧ KVI P h ρ l m ∧ P.num k = some i ∧ VR P h ρ v v' := by
  induction l generalizing l' with
  | nil => cases x with | cons a b c => cases c; exact ⟨[], _, _, rfl, .nil, a, b⟩
  | cons y l ih =>
    cases x with
    | cons a b c =>
      obtain ⟨m, i, v', rfl, h1, h2, h3⟩ := ih c
      exact ⟨_ :: m, i, v', rfl, .cons a b h1, h2, h3⟩
theorem VRs.snoc_inv {h : Heap} {ρ : List Addr} {l : List V} {v : V} {l' : List Value} (x : VRs P h ρ (l ++ [v]) l') : ∃ m v', l' = m ++ [v'] ∧ VRs P h ρ l m ∧ VR P h ρ v v' := by
  induction l generalizing l' with
  | nil => cases x with | cons a c => cases c; exact ⟨[], _, rfl, .nil, a⟩
  | cons y l ih =>
    cases x with
    | cons a c =>
      obtain ⟨m, v', rfl, h1, h2⟩ := ih c
      exact ⟨_ :: m, v', rfl, .cons a h1, h2⟩

theorem dict_imm {h : Heap} {a : Addr} {kvs : List (Int × Value)} {ep : Nat} (D : h.DictAt P.ik a kvs ep) : ∀ o, h.get? a = some o → ¬ ImmO o := fun o e => by
  obtain ⟨o', es, ho, hc, hdd, _⟩ := id D
  rw [ho] at e; cases e; exact ImmO.not_dict hdd

theorem SE.pop {o : Expr} {apos pos : Pos} {fo : Loc → Hp → Option (V × Hp)} (x : SE P n G o fo)
    (hbase : ∀ env, attributeBase o "pop" env (eval o env) = eval o env := by intro _; rfl) (hline : (apos.endLine == pos.line) = true := by rfl) :
    SE P n G (.Call (.Attribute o "pop" apos) [] [] pos) (fUn gPop fo) := by
  intro A env own s ρ loc hp v hp' ha H F hf
  obtain ⟨va, hp1, h1, h3⟩ := fUn_inv hf
  refine wpAny_Call_method0_late (hbase env) hline (x.use ha H F h1 fun a' s1 ρ1 H1 F1 S1 r1 => ?_)
  unfold gPop at h3
  split at h3
  · rename_i i
    obtain ⟨a, hi, rfl⟩ := r1.ob_inv
    split at h3
    · rename_i vs he
      obtain ⟨items, m, hl, r⟩ := lst_at (H1.obj hi he)
      split at h3
      · rename_i l y hp
        obtain ⟨hfw, h4⟩ := ch_inv h3
        clear h3
        cases h4
        have hvs := lpop_eq hp
        subst hvs
        obtain ⟨ms, y', hms, q1, q2⟩ := r.snoc_inv
        have hit : items = (ms ++ [y']).toArray := by rw [← hms]
        subst hit
        refine ⟨"list", "list.pop", PySem.F.plainAttrs_list, PySem.F.slot_list_pop, PySem.F.type_list_pop, ⟨_, hl, rfl⟩, (fun b e => by cases e; exact ⟨_, hl, rfl⟩), ?_⟩
        refine PySem.P.pop_list (y := y') hl (by simp) (Res.after (own := own) S1 ?_) (line (few_arr hfw r))
        have hs := Heap.SameBut.update s1.heap a (Obj.mapSeq fun xs => xs.eraseIdxIfInBounds ((ms ++ [y']).toArray.size - 1))
        refine Res.upd (t := s1.toks) H1 hi hs.extBut (lst_imm hl) (Nat.le_of_eq hs.1.symm) ⟨_, _, hl.update _, ?_⟩ q2
        have e : (((ms ++ [y']).toArray).eraseIdxIfInBounds ((ms ++ [y']).toArray.size - 1)).toList = ms := by
          simp [List.eraseIdxIfInBounds_toArray, List.eraseIdx_append_of_length_le]
        rw [e]
        exact q1.mono (.same hs.extBut (lst_imm hl)) (List.prefix_refl _)
      · cases h3
    · cases h3
  · cases h3

theorem SE.popitem {o : Expr} {apos pos : Pos} {fo : Loc → Hp → Option (V × Hp)} (x : SE P n G o fo)
    (hbase : ∀ env, attributeBase o "popitem" env (eval o env) = eval o env := by intro _; rfl) (hline : (apos.endLine == pos.line) = true := by rfl) :
    SE P n G (.Call (.Attribute o "popitem" apos) [] [] pos) (fUn gPopItem fo) := by
  intro A env own s ρ loc hp v hp' ha H F hf
  obtain ⟨va, hp1, h1, h3⟩ := fUn_inv hf
  refine wpAny_Call_method0_late (hbase env) hline (x.use ha H F h1 fun a' s1 ρ1 H1 F1 S1 r1 => ?_)
  unfold gPopItem at h3
  split at h3
  · rename_i i
    obtain ⟨a, hi, rfl⟩ := r1.ob_inv
    split at h3
    · rename_i kvs ep he
      obtain ⟨kvs', D, K⟩ := H1.obj hi he
      split at h3
      · rename_i l k y hp
        obtain ⟨hfw, h4⟩ := ch_inv h3
        clear h3
        cases h4
        have hvs := lpop_eq hp
        subst hvs
        obtain ⟨ms, j, y', rfl, q1, q2, q3⟩ := K.snoc_inv
        have hl : (ms ++ [(j, y')]).length ≤ 5000 := by rw [← K.length]; exact Nat.le_of_ble_eq_true hfw
        refine ⟨"dict", "dict.popitem", PySem.F.plainAttrs_dict, PySem.F.slot_dict_popitem, PySem.F.type_dict_popitem, D.dictOf.typeIs, D.dictOf.mapOf.noDict, ?_⟩
        refine method_meetsIn PySem.F.slot_dict_popitem PySem.F.entry_dict_popitem rfl (PySem.evalArgs_none ⟨rfl, D.dictOf.typeIs, PySem.F.args_dict_popitem_1 _, _,
          meets_popitem (knd := P.ik) (H1.notSys (List.mem_of_getElem? hi)), ms, ep, (j, y'), D, line hl, fun h' key hkey D' hs => Res.after (own := own) S1 ?_⟩)
        have imm := dict_imm D
        have hz : s1.heap.objs.size ≤ h'.objs.size := Nat.le_of_eq hs.1.symm
        obtain ⟨tt, rfl⟩ := Value.isInt_shape (show Value.isInt j key = true from hkey)
        have im : Imm s1.heap h' := .same hs.extBut imm
        have H2 := H1.upd (t := s1.toks) (o := .dI l (ep + 1)) hi hs.extBut imm hz ⟨_, D', q1.mono im (List.prefix_refl _)⟩
        have S2 : Step [] ρ1 s1 ρ1 { s1 with heap := h', toks := s1.toks } := .change (.inl (List.mem_of_getElem? hi)) hs.extBut imm hz
        exact Res.after (own := own) S2 (Res.tup (s := { s1 with heap := h' }) (items := #[.int j tt, y']) H2 (.cons (.num tt q2) (.cons (q3.mono im (List.prefix_refl _)) .nil)))
      · cases h3
    · cases h3
  · cases h3

theorem SE.get {o e1 e2 : Expr} {apos pos : Pos} {fo f1 f2 : Loc → Hp → Option (V × Hp)} (x : SE P n G o fo) (y : SE P n G e1 f1) (z : SE P n G e2 f2)
    (hbase : ∀ env, attributeBase o "get" env (eval o env) = eval o env := by intro _; rfl) (hline : (apos.endLine == pos.line) = true := by rfl)
    (ht : ∀ env, backTo pos (starEach [e1, e2] env) = [(false, eval e1 env), (false, eval e2 env)] := by intro _; rfl) :
    SE P n G (.Call (.Attribute o "get" apos) [e1, e2] [] pos) (fGet fo f1 f2) := by
  intro A env own s ρ loc hp v hp' ha H F hf
  unfold fGet at hf
  cases q1 : fo loc hp with
  | none => rw [q1] at hf; cases hf
  | some z1 =>
    obtain ⟨va, hp1⟩ := z1
    rw [q1] at hf
    dsimp only at hf
    obtain ⟨hq, hf2⟩ := ch_inv hf
    clear hf
    cases q2 : f1 loc hp1 with
    | none => rw [q2] at hf2; cases hf2
    | some z2 =>
      obtain ⟨vk, hp2⟩ := z2
      rw [q2] at hf2
      dsimp only at hf2
      cases q3 : f2 loc hp2 with
      | none => rw [q3] at hf2; cases hf2
      | some z3 =>
        obtain ⟨vx, hp3⟩ := z3
        rw [q3] at hf2
        dsimp only at hf2
        cases q4 : gGet va vk vx hp3 with
        | none => rw [q4] at hf2; cases hf2
        | some r =>
          rw [q4] at hf2
          cases hf2
          refine wpAny_Call_method2_late (hbase env) hline (ht env) (x.use ha H F q1 fun a' s1 ρ1 H1 F1 S1 r1 => ?_)
          obtain ⟨i, a, rfl, rfl, hi, hT, hnd⟩ := isDct_inv hq H1 r1
          refine ⟨"dict", "dict.get", PySem.F.plainAttrs_dict, PySem.F.slot_dict_get, PySem.F.type_dict_get, hT, (fun b e => by cases e; exact hnd), ?_⟩
          refine wpAny_dict_get2 (knd := P.ik) (H1.notSys (List.mem_of_getElem? hi)) (y.use ha H1 F1 q2 fun k' s2 ρ2 H2 F2 S2 r2 => z.use ha H2 F2 q3 fun x' s3 ρ3 H3 F3 S3 r3 => ?_)
          have hi3 := pre_get (S2.trans S3).pre hi
          unfold gGet at q4
          dsimp only at q4
          split at q4
          · rename_i kvs ep he
            obtain ⟨kvs', D, K⟩ := H3.obj hi3 he
            split at q4
            · rename_i qk
              have rk := r2.mono S3.imm S3.pre
              obtain ⟨j, hj⟩ := knum_num qk rk
              obtain ⟨t, rfl⟩ := rk.num_inv hj
              refine ⟨j, _, by simp [intKind, Value.isInt], D.dictOf.mapOf, ?_⟩
              have S := (S1.trans (S2.trans S3))
              split at q4
              · rename_i w e
                cases q4
                have := dgetI_sound K hj e
                cases q : valueAt kvs' j with
                | none => rw [q] at this; exact this.elim
                | some w' => rw [q] at this; exact Res.after (own := own) S (Res.here H3 this)
              · rename_i e
                cases q4
                have := dgetI_sound K hj e
                cases q : valueAt kvs' j with
                | none => exact Res.after (own := own) S (Res.here H3 r3)
                | some w' => rw [q] at this; exact this.elim
              · cases q4
            · cases q4
          · cases q4

theorem isE_dict {s : Shared} {ρ : List Addr} {a : Addr} {o : O} (h : isE o = true) (x : OR P s.heap ρ a o) : s.heap.DictOf P.ik a [] := by
  unfold isE at h
  split at h
  · split at h
    · obtain ⟨kvs', D, K⟩ := x
      cases K
      exact D.dictOf
    · cases h
  · split at h
    · obtain ⟨xs, ⟨o, es, ep, ho, hc, hd, he, _⟩, K⟩ := x
      cases K
      have : es = #[] := by
        have : es.toList = [] := by simpa using he
        simpa using this
      subst this
      exact ⟨o, #[], ep, ho, hc, hd, fun _ he => by simp at he, .nil, List.nodup_nil⟩
    · cases h
  · cases h
theorem dictE {h : Heap} {ρ : List Addr} {a : Addr} (x : h.DictOf P.ik a []) : OR P h ρ a (.dT []) := by
  obtain ⟨o, es, ep, ho, hc, hd, hk, hp, hn⟩ := x
  have : es = #[] := by
    have : es.toList = [] := by
      generalize es.toList = l at hp
      cases hp; rfl
    simpa using this
  subst this
  exact ⟨[], ⟨o, #[], ep, ho, hc, hd, rfl, fun _ hx => by simp at hx, List.nodup_nil⟩, .nil⟩

theorem SE.update {o e : Expr} {apos pos : Pos} {fo fe : Loc → Hp → Option (V × Hp)} (x : SE P n G o fo) (y : SE P n G e fe)
    (hbase : ∀ env, attributeBase o "update" env (eval o env) = eval o env := by intro _; rfl) (hline : (apos.endLine == pos.line) = true := by rfl) (ht : ∀ env, backTo pos (starEach [e] env) = [(false, eval e env)] := by intro _; rfl) :
    SE P n G (.Call (.Attribute o "update" apos) [e] [] pos) (fMet isDct gUpd0 fo fe) := by
  intro A env own s ρ loc hp v hp' ha H F hf
  obtain ⟨va, hp1, vb, hp2, h1, hq, h2, h3⟩ := fMet_inv hf
  refine wpAny_Call_method1_late (hbase env) hline (ht env) (x.use ha H F h1 fun a' s1 ρ1 H1 F1 S1 r1 => ?_)
  obtain ⟨i, a, rfl, rfl, hi, hT, hnd⟩ := isDct_inv hq H1 r1
  refine ⟨"dict", "dict.update", PySem.F.plainAttrs_dict, PySem.F.slot_dict_update, PySem.F.type_dict_update, hT, (fun b e => by cases e; exact hnd), ?_⟩
  refine method1_meetsIn PySem.F.slot_dict_update PySem.F.entry_dict_update (y.use ha H1 F1 h2 fun b' s2 ρ2 H2 F2 S2 r2 => ?_)
  unfold gUpd0 at h3
  dsimp only at h3
  split at h3
  · rename_i j
    obtain ⟨b, hj, rfl⟩ := r2.ob_inv
    have hi2 := pre_get S2.pre hi
    split at h3
    · rename_i o1 he1
      split at h3
      · rename_i o2 he2
        obtain ⟨hc, h4⟩ := ch_inv h3
        clear h3
        cases h4
        simp only [Bool.and_eq_true, Bool.not_eq_true'] at hc
        obtain ⟨⟨e1, e2⟩, e3⟩ := hc
        have hij := Nat.ne_of_beq_eq_false e3
        have hab : a ≠ b := by
          rintro rfl
          exact hij ((List.getElem?_inj (List.getElem?_eq_some_iff.mp hi2).1 H2.nodup).mp (hi2.trans hj.symm))
        have d1 := isE_dict e1 (H2.obj hi2 he1)
        have d2 := isE_dict e2 (H2.obj hj he2)
        refine ⟨d1.typeIs, PySem.F.args_dict_update_2 _ _, _, meets_dict_update P.ik a b hab (H2.notSys (List.mem_of_getElem? hj)), [], [], d1, d2, Nat.zero_le _, fun h' d1' d2' hs => Res.after (own := own) (S1.trans S2) ?_⟩
        have imm : ∀ o, s2.heap.get? a = some o → ¬ ImmO o := fun o e => by
          obtain ⟨o', es, ep, ho, hc, hdd, _⟩ := id d1
          rw [ho] at e; cases e; exact ImmO.not_dict hdd
        exact Res.upd (t := s2.toks) H2 hi2 hs.extBut imm (Nat.le_of_eq hs.1.symm) (dictE d1') .none
      · cases h3
    · cases h3
  · cases h3
end
end
end Mine
end
section
open PySem PyProof.Rows
set_option maxRecDepth 20000
set_option linter.unusedSimpArgs false
set_option linter.unusedVariables false
namespace Mine
noncomputable section
section
variable {P : Par} {n : Nat} {G : Sg}

/-- truth -/
theorem pTruth {A : Around} {s : Shared} {ρ : List Addr} {hp : Hp} {v : V} {v' : Value} {b : Bool} (ha : AOk n A) (H : HI P ρ hp s) (r : VR P s.heap ρ v v') (hg : gTruth v hp = some b) :
    wpAny (model P.prog P.w) A (truthy v') (fun b' s' => b' = b ∧ HI P ρ hp s' ∧ Step [] ρ s ρ s') NoE s := by
  unfold gTruth at hg
  have emp : ∀ {α : Type} (xs : Array α), (!xs.isEmpty) = full xs.toList := fun xs => by
    obtain ⟨l⟩ := xs
    cases l <;> rfl
  split at hg
  · cases hg; obtain rfl := r.none_inv; exact truthy_none ⟨rfl, H, .refl⟩
  · cases hg; obtain rfl := r.bool_inv; exact wpAny_truthy_bool ⟨rfl, H, .refl⟩
  · obtain ⟨a, hi, rfl⟩ := r.ob_inv
    split at hg
    · rename_i vs he
      obtain ⟨hfw, hg2⟩ := ch_inv hg
      clear hg
      cases hg2
      obtain ⟨items, m, hl, r⟩ := lst_at (H.obj hi he)
      have hsz := few_arr hfw r
      refine wpAny_truthy_list hl.isList (by omega) ⟨?_, H.toks _, Step.refl.toks _⟩
      rw [emp]
      generalize items.toList = l at r
      cases r <;> rfl
    · rename_i kvs ep he
      obtain ⟨hfw, hg2⟩ := ch_inv hg
      clear hg
      cases hg2
      obtain ⟨kvs', D, K⟩ := H.obj hi he
      have hl : kvs'.length ≤ 5000 := by rw [← K.length]; exact Nat.le_of_ble_eq_true hfw
      refine wpAny_truthy_dict (H.notSys (List.mem_of_getElem? hi)) D.dictOf (by omega) ⟨?_, H.toks _, Step.refl.toks _⟩
      cases K <;> rfl
    · cases hg
  · cases hg

theorem SB.tru {e : Expr} {f : Loc → Hp → Option (V × Hp)} (x : SE P n G e f) (he : ∀ env whole, isTrue e env whole = (do let v ← whole; standAt e.pos; holding [v] (truthy v)) := by intro _ _; rfl) : SB P n G e (bTru f) := by
  intro A env own s ρ loc hp b hp' ha H F hf
  unfold bTru at hf
  cases q : f loc hp with
  | none => rw [q] at hf; cases hf
  | some z =>
    obtain ⟨v, hp1⟩ := z
    rw [q] at hf
    dsimp only at hf
    cases q2 : gTruth v hp1 with
    | none => rw [q2] at hf; cases hf
    | some c =>
      rw [q2] at hf
      cases hf
      refine wpAny_isTrue_value (x.use ha H F q fun v' s1 ρ1 H1 F1 S1 r1 => ?_) (he env _)
      exact wpAny_mono (pTruth ha H1 r1 q2) (fun b' s2 ⟨e, H2, S2⟩ => ⟨e, ρ1, H2, S1.trans S2⟩) fun _ _ h => h

theorem SB.and {e1 e2 : Expr} {pos : Pos} {f g : Loc → Hp → Option (Bool × Hp)} (x : SB P n G e1 f) (y : SB P n G e2 g) : SB P n G (.BoolOp .And [e1, e2] pos) (bAnd f g) := by
  intro A env own s ρ loc hp b hp' ha H F hf
  unfold bAnd at hf
  cases q : f loc hp with
  | none => rw [q] at hf; cases hf
  | some z =>
    obtain ⟨c, hp1⟩ := z
    rw [q] at hf
    dsimp only at hf
    refine wpAny_isTrue_BoolOp (wpAny_allTrue_And_cons (x.use ha H F q fun s1 ρ1 H1 F1 S1 => ?_))
    cases c with
    | false =>
      cases hf
      rw [if_neg Bool.false_ne_true]
      exact ⟨rfl, ρ1, H1, S1⟩
    | true =>
      rw [if_pos rfl]
      refine wpAny_allTrue_And_cons (y.use ha H1 F1 hf fun s2 ρ2 H2 F2 S2 => ?_)
      cases b with
      | false => rw [if_neg Bool.false_ne_true]; exact ⟨rfl, ρ2, H2, S1.trans S2⟩
      | true => rw [if_pos rfl]; exact wpAny_allTrue_And_nil ⟨rfl, ρ2, H2, S1.trans S2⟩
/-- a test that is not met -/
theorem SB.no {e : Expr} : SB P n G e bNo := by
  intro A env own s ρ loc hp b hp' ha H F hf
  cases hf
/-- a statement that is not met -/
theorem S1.bad {st : Stmt} : S1 P n G st fBad := by
  intro A env own s ρ loc hp fl loc' hp' ha H F hf
  cases hf

/-- targets in a row -/
inductive SAs (P : Par) (n : Nat) (G : Sg) : List Expr → List (V → Loc → Hp → Option (Loc × Hp)) → Prop
  | nil : SAs P n G [] []
  | cons {t : Expr} {ts : List Expr} {f : V → Loc → Hp → Option (Loc × Hp)} {fs : List (V → Loc → Hp → Option (Loc × Hp))} : SA P n G t f → (∀ env, assignEach (t :: ts) env = (false, assign t env) :: assignEach ts env) → SAs P n G ts fs → SAs P n G (t :: ts) (f :: fs)

theorem SAs.trees {ts : List Expr} {fs : List (V → Loc → Hp → Option (Loc × Hp))} (x : SAs P n G ts fs) (env : Env) : assignEach ts env = ts.map fun t => (false, assign t env) := by
  induction x with
  | nil => rfl
  | cons _ h _ ih => rw [h, ih]; rfl

theorem inOrder {ts : List Expr} {fs : List (V → Loc → Hp → Option (Loc × Hp))} (x : SAs P n G ts fs) : ∀ {A : Around} {env : Env} {own : List Addr} {s : Shared} {ρ : List Addr} {loc loc' : Loc} {hp hp' : Hp} {vs : List V} {ws : List Value},
    AOk n A → HI P ρ hp s → FI P G env own ρ loc s.heap → VRs P s.heap ρ vs ws → aTup.go fs vs loc hp = some (loc', hp') →
    wpAny (model P.prog P.w) A (assignInOrder (ts.map fun t => assign t env) ws) (fun _ s' => ∃ ρ', At P G env own ρ s loc' hp' s' ρ') NoE s := by
  induction x with
  | nil =>
    intro A env own s ρ loc loc' hp hp' vs ws ha H F r hf
    cases r with
    | nil => cases hf; exact wpAny_assignInOrder_none ⟨ρ, H, F, .refl⟩
    | cons a b => cases hf
  | @cons t ts f fs h1 h2 h3 ih =>
    intro A env own s ρ loc loc' hp hp' vs ws ha H F r hf
    cases r with
    | nil => cases hf
    | @cons v w vs ws a b =>
      have hf : (match f v loc hp with | none => none | some (loc1, hp1) => aTup.go fs vs loc1 hp1) = some (loc', hp') := hf
      cases q : f v loc hp with
      | none => rw [q] at hf; cases hf
      | some z =>
        obtain ⟨loc1, hp1⟩ := z
        rw [q] at hf
        refine wpAny_assignInOrder_more (h1.use ha H F a q fun s1 ρ1 H1 F1 S1 => ?_)
        exact wpAny_mono (ih ha H1 F1 (b.mono S1.imm S1.pre) hf) (fun _ s2 ⟨ρ2, h⟩ => ⟨ρ2, At.trans S1 h⟩) fun _ _ h => h

theorem noStar (ts : List Expr) (env : Env) : (ts.map fun t => ((false, assign t env) : Bool × (Value → Sem Unit))).findIdx? (·.1) = none := by
  induction ts with
  | nil => rfl
  | cons t ts ih => rw [List.map_cons, List.findIdx?_cons]; simp [ih]

theorem aTup_len {l : List (V → Loc → Hp → Option (Loc × Hp))} : ∀ {vs : List V} {loc hp r}, aTup.go l vs loc hp = some r → vs.length = l.length := by
  induction l with
  | nil => intro vs loc hp r h; cases vs with | nil => rfl | cons a b => cases h
  | cons f l ih =>
    intro vs loc hp r h
    cases vs with
    | nil => cases h
    | cons v vs =>
      have h : (match f v loc hp with | none => none | some (loc1, hp1) => aTup.go l vs loc1 hp1) = some r := h
      cases q : f v loc hp with
      | none => rw [q] at h; cases h
      | some z => rw [q] at h; rw [List.length_cons, List.length_cons, ih h]
theorem SAs.length {ts : List Expr} {fs : List (V → Loc → Hp → Option (Loc × Hp))} (x : SAs P n G ts fs) : ts.length = fs.length := by
  induction x with
  | nil => rfl
  | cons _ _ _ ih => simp [ih]

theorem SA.tup {ts : List Expr} {k : Nat} {pos : Pos} {fs : List (V → Loc → Hp → Option (Loc × Hp))} (x : SAs P n G ts fs) : SA P n G (.Tuple ts k pos) (aTup fs) := by
  intro A env own s ρ loc hp v v' loc' hp' ha H F r hf
  unfold aTup at hf
  split at hf
  · rename_i vs
    obtain ⟨a, items, rfl, ⟨m, ht⟩, r⟩ := r.tup_inv
    have hlen : (assignEach ts env).length = items.size := by
      have e1 := aTup_len hf
      have e2 := r.length
      rw [x.trees, List.length_map, x.length, ← e1]
      simpa using e2
    rw [arm_assign_Tuple]
    refine wpAny_bind (wpAny_standAt ?_)
    unfold unpack
    rw [hlen, show (assignEach ts env).findIdx? (·.1) = none by rw [x.trees]; exact noStar ts env]
    refine wpAny_bind (wpAny_holding (with_size (wpAny_unpackItems_tuple ha.h ⟨_, ht, rfl, m, rfl⟩ fun h' hs hz => ?_)))
    have hk : ∀ b o, s.heap.get? b = some o → h'.get? b = some o := fun b o e => hs b o (Nat.ne_of_lt (Heap.lt_size e)) e
    have H1 : HI P ρ hp { s with heap := h' } := H.keeps (s' := { s with heap := h' }) hk hz
    have S1 : Step [] ρ s ρ { s with heap := h' } := .grow (t := s.toks) hk hz
    have em : (assignEach ts env).map (·.2) = ts.map fun t => assign t env := by rw [x.trees, List.map_map]; rfl
    show wpAny _ _ (assignInOrder ((assignEach ts env).map (·.2)) items.toList) _ _ _
    rw [em]
    exact wpAny_mono (inOrder x ha H1 (F.step S1) (r.mono (.of hk) (List.prefix_refl _)) hf) (fun _ s2 ⟨ρ2, h⟩ => ⟨ρ2, At.trans S1.own' h⟩) fun _ _ h => h
  · cases hf

theorem S1.asgT {ts : List Expr} {k : Nat} {tp pos : Pos} {e : Expr} {f : Loc → Hp → Option (V × Hp)} {a : V → Loc → Hp → Option (Loc × Hp)} (x : SE P n G e f) (y : SA P n G (.Tuple ts k tp) a)
    (hs : ∀ env : Env, env.scope = G.scope → swapsWithSole [.Tuple ts k tp] e pos.line env = pure false := by intro _ _; rfl)
    (hw : ∀ env : Env, env.scope = G.scope → swappedStores [.Tuple ts k tp] e env = pure none) : S1 P n G (.Assign [.Tuple ts k tp] e pos) (fAsgT f a) := by
  intro A env own s ρ loc hp fl loc' hp' ha H F hf
  unfold fAsgT at hf
  cases q : f loc hp with
  | none => rw [q] at hf; cases hf
  | some z =>
    obtain ⟨v, hp1⟩ := z
    rw [q] at hf
    dsimp only at hf
    cases q2 : a v loc hp1 with
    | none => rw [q2] at hf; cases hf
    | some z2 =>
      obtain ⟨loc1, hp2⟩ := z2
      rw [q2] at hf
      cases hf
      refine Assign_Tuple (x.use ha H F q fun v' s1 ρ1 H1 F1 S1 r1 => y.use ha H1 F1 r1 q2 fun s2 ρ2 H2 F2 S2 => ?_) (hs env F.scope) (hw env F.scope)
      exact ⟨ρ2, ⟨H2, F2, S1.own'.trans S2⟩, rfl⟩

/-- setting an item, below the slot -/
theorem pSetD {A : Around} {s : Shared} {ρ : List Addr} {hp hp' : Hp} {i : Nat} {a : Addr} {k v : V} {k' v' : Value} (ha : AOk 8 A) (H : HI P ρ hp s) (hi : ρ[i]? = some a) (rk : VR P s.heap ρ k k') (rv : VR P s.heap ρ v v') (hg : gSet (.ob i) k v hp = some hp') :
    wpAny (model P.prog P.w) A (dictSet a k' v') (fun _ s' => HI P ρ hp' s' ∧ Step [] ρ s ρ s') NoE s := by
  unfold gSet at hg
  dsimp only at hg
  split at hg
  · rename_i kvs ep he
    obtain ⟨kvs', D, K⟩ := H.obj hi he
    split at hg
    · rename_i q
      obtain ⟨j, hj⟩ := knum_num q rk
      obtain ⟨t, rfl⟩ := rk.num_inv hj
      split at hg
      · rename_i l e hd
        obtain ⟨hfw, hg2⟩ := ch_inv hg
        clear hg
        cases hg2
        have hl : kvs'.length ≤ 5000 := by rw [← K.length]; exact Nat.le_of_ble_eq_true hfw
        refine dictSet_at (k := j) (by simp [intKind, Value.isInt]) D (fun h' D' hs => ?_) (line hl)
        have hz : s.heap.objs.size ≤ h'.objs.size := Nat.le_of_eq hs.1.symm
        obtain ⟨K2, e2⟩ := dsetI_sound K D.nodup hj rv hd
        rw [← e2] at D'
        exact ⟨H.upd hi hs.extBut (dict_imm D) hz ⟨_, D', K2.mono (.same hs.extBut (dict_imm D)) (List.prefix_refl _)⟩, .change (.inl (List.mem_of_getElem? hi)) hs.extBut (dict_imm D) hz⟩
      · cases hg
    · cases hg
  · rename_i kvs he
    obtain ⟨xs, D, K⟩ := H.obj hi he
    split at hg
    · rename_i ks
      split at hg
      · rename_i q
        obtain ⟨x, items, rfl, t, r⟩ := rk.tup_inv
        obtain ⟨j, hj⟩ := knums_nums q r
        split at hg
        · rename_i hd
          obtain ⟨hfw, hg2⟩ := ch_inv hg
          clear hg
          cases hg2
          have imm : ∀ o, s.heap.get? a = some o → ¬ ImmO o := fun o e => by
            obtain ⟨o', es, ep, ho, hc, hdd, _⟩ := id D
            rw [ho] at e; cases e; exact ImmO.not_dict hdd
          have hno := dgetT_sound K hj hd
          have hno : atKey xs j = none := by
            cases q : atKey xs j with
            | none => rfl
            | some p => rw [q] at hno; exact hno.elim
          have hl : xs.length ≤ 5000 := by rw [← K.length]; exact Nat.le_of_ble_eq_true hfw
          refine wpAny_dictSet_heap (knd := P.tk) (k := j) ha.units (isTupKey t r hj) D (fun h' D' hs => ?_) (line hl)
          have hz : s.heap.objs.size ≤ h'.objs.size := Nat.le_of_eq hs.1.symm
          rw [storedH_new hno] at D'
          refine ⟨H.upd hi hs.extBut imm hz ⟨_, D', ?_⟩, .change (.inl (List.mem_of_getElem? hi)) hs.extBut imm hz⟩
          exact (K.append (.cons hj ⟨items, t, r⟩ rv .nil)).mono (.same hs.extBut imm) (List.prefix_refl _)
        · cases hg
      · cases hg
    · cases hg
  · cases hg

/-- the pairs of a display -/
inductive SKs (P : Par) (n : Nat) (G : Sg) : List (Expr × Expr) → List ((Loc → Hp → Option (V × Hp)) × (Loc → Hp → Option (V × Hp))) → Prop
  | nil : SKs P n G [] []
  | cons {a b : Expr} {l : List (Expr × Expr)} {f g : Loc → Hp → Option (V × Hp)} {fs : List ((Loc → Hp → Option (V × Hp)) × (Loc → Hp → Option (V × Hp)))} : SE P n G a f → SE P n G b g → SKs P n G l fs → SKs P n G ((a, b) :: l) ((f, g) :: fs)

/-- pairs related -/
inductive KVs (P : Par) (h : Heap) (ρ : List Addr) : List (V × V) → List (Value × Value) → Prop
  | nil : KVs P h ρ [] []
  | cons {k v : V} {k' v' : Value} {l : List (V × V)} {l' : List (Value × Value)} : VR P h ρ k k' → VR P h ρ v v' → KVs P h ρ l l' → KVs P h ρ ((k, v) :: l) ((k', v') :: l')
theorem KVs.mono {h h' : Heap} {ρ ρ' : List Addr} (hi : Imm h h') (hp : ρ <+: ρ') {l : List (V × V)} {l' : List (Value × Value)} (x : KVs P h ρ l l') : KVs P h' ρ' l l' := by
  induction x with
  | nil => exact .nil
  | cons a b _ ih => exact .cons (a.mono hi hp) (b.mono hi hp) ih

theorem evalKvs {l : List (Expr × Expr)} {fs : List ((Loc → Hp → Option (V × Hp)) × (Loc → Hp → Option (V × Hp)))} (x : SKs P n G l fs) (pos : Pos) : ∀ {A : Around} {env : Env} {own : List Addr} {s : Shared} {ρ : List Addr} {loc : Loc} {hp hp' : Hp} {kvs : List (V × V)},
    AOk n A → HI P ρ hp s → FI P G env own ρ loc s.heap → fKvs fs loc hp = some (kvs, hp') →
    wpAny (model P.prog P.w) A (evalPairs (l.map fun p => (eval p.1 env, do let x ← eval p.2 env; standAt pos; pure x))) (fun vs s' => ∃ ρ', HI P ρ' hp' s' ∧ Step [] ρ s ρ' s' ∧ KVs P s'.heap ρ' kvs vs) NoE s := by
  induction x with
  | nil =>
    intro A env own s ρ loc hp hp' kvs ha H F hf
    cases hf
    exact evalPairs_nil ⟨ρ, H, .refl, .nil⟩
  | @cons a b l f g fs h1 h2 h3 ih =>
    intro A env own s ρ loc hp hp' kvs ha H F hf
    unfold fKvs at hf
    cases q1 : f loc hp with
    | none => rw [q1] at hf; cases hf
    | some z1 =>
      obtain ⟨k, hp1⟩ := z1
      rw [q1] at hf
      dsimp only at hf
      cases q2 : g loc hp1 with
      | none => rw [q2] at hf; cases hf
      | some z2 =>
        obtain ⟨v, hp2⟩ := z2
        rw [q2] at hf
        dsimp only at hf
        cases q3 : fKvs fs loc hp2 with
        | none => rw [q3] at hf; cases hf
        | some z3 =>
          obtain ⟨kvs1, hp3⟩ := z3
          rw [q3] at hf
          cases hf
          refine evalPairs_cons (h1.use ha H F q1 fun k' s1 ρ1 H1 F1 S1 r1 => ?_)
          refine wpAny_bind (h2.use ha H1 F1 q2 fun v' s2 ρ2 H2 F2 S2 r2 => wpAny_bind (wpAny_standAt (wpAny_pure ?_)))
          refine wpAny_mono (ih ha H2 F2 q3) (fun vs s3 ⟨ρ3, H3, S3, r3⟩ => ?_) fun _ _ h => h
          exact ⟨ρ3, H3, (S1.trans S2).trans S3, .cons (r1.mono (S2.trans S3).imm (S2.trans S3).pre) (r2.mono S3.imm S3.pre) r3⟩

theorem storeAll {A : Around} {i : Nat} {a : Addr} (ha : AOk 8 A) : ∀ {kvs : List (V × V)} {vs : List (Value × Value)} {s : Shared} {ρ : List Addr} {hp hp' : Hp}, HI P ρ hp s → ρ[i]? = some a → KVs P s.heap ρ kvs vs → putAll i kvs hp = some hp' →
    wpAny (model P.prog P.w) A (forIn vs PUnit.unit fun (x : Value × Value) (_ : PUnit) => (do dictSet a x.1 x.2; pure (ForInStep.yield PUnit.unit) : Sem (ForInStep PUnit))) (fun _ s' => HI P ρ hp' s' ∧ Step [] ρ s ρ s') NoE s
  | [], _, s, ρ, hp, hp', H, hi, r, hf => by
    cases r
    cases hf
    rw [List.forIn_nil]
    exact wpAny_pure ⟨H, .refl⟩
  | (k, v) :: kvs, _, s, ρ, hp, hp', H, hi, r, hf => by
    cases r with
    | @cons _ _ k' v' _ vs r1 r2 r3 =>
      unfold putAll at hf
      dsimp only at hf
      cases q : gSet (.ob i) k v hp with
      | none => rw [q] at hf; cases hf
      | some hp1 =>
        rw [q] at hf
        rw [List.forIn_cons]
        refine wpAny_bind (wpAny_bind (wpAny_mono (pSetD ha H hi r1 r2 q) (fun _ s1 ⟨H1, S1⟩ => wpAny_pure ?_) fun _ _ h => h))
        exact wpAny_mono (storeAll ha H1 hi (r3.mono S1.imm S1.pre) hf) (fun _ s2 ⟨H2, S2⟩ => ⟨H2, S1.trans S2⟩) fun _ _ h => h

theorem newD {h : Heap} {ρ : List Addr} {o : O} (ho : o = .dI [] 0 ∨ o = .dT []) : OR P (h.push { cls := .type "dict", data := .dict #[] }) ρ h.objs.size o := by
  rcases ho with rfl | rfl
  · exact ⟨[], ⟨_, #[], Heap.get?_push_size _ rfl, ⟨rfl, rfl, rfl⟩, rfl, fun _ he => by simp at he, .nil, List.nodup_nil⟩, .nil⟩
  · exact ⟨[], .new h, .nil⟩

theorem SE.dict {keys : List (Option Expr)} {values : List Expr} {pos : Pos} {l : List (Expr × Expr)} {o : O} {fs : List ((Loc → Hp → Option (V × Hp)) × (Loc → Hp → Option (V × Hp)))} (x : SKs P n G l fs) (h8 : 8 ≤ n) (ho : o = .dI [] 0 ∨ o = .dT [])
    (hshape : ∀ env, (evalEachOpt keys env).zip ((evalEach values env).map fun v => do let x ← v; standAt pos; pure x) = (l.map fun p => (eval p.1 env, do let x ← eval p.2 env; standAt pos; pure x)).map fun p => (some p.1, p.2))
    (h0 : l ≠ []) (hlen : l.length ≤ 15) : SE P n G (.Dict keys values pos) (fDict o fs) := by
  intro A env own s ρ loc hp v hp' ha H F hf
  unfold fDict at hf
  cases q1 : mk hp o with
  | none => rw [q1] at hf; cases hf
  | some z1 =>
    obtain ⟨d, hp1⟩ := z1
    rw [q1] at hf
    dsimp only at hf
    cases q2 : fKvs fs loc hp1 with
    | none => rw [q2] at hf; cases hf
    | some z2 =>
      obtain ⟨kvs, hp2⟩ := z2
      rw [q2] at hf
      dsimp only at hf
      cases q3 : putAll hp.n kvs hp2 with
      | none => rw [q3] at hf; cases hf
      | some hp3 =>
        rw [q3] at hf
        cases hf
        rw [arm_eval_Dict, hshape env, dictDisplay_pairs _ (by simpa using h0) (by rw [List.length_map]; omega)]
        refine wpAny_bind (wpAny_standAt (wpAny_bind ?_))
        unfold subDict
        refine wpAny_bind (wpAny_alloc (wpAny_bind (wpAny_holding ?_)))
        rw [if_pos (by rw [List.length_map]; exact hlen)]
        have sz : s.heap.objs.size ≤ (s.heap.push { cls := .type "dict", data := .dict #[] }).objs.size := by rw [Heap.size_push]; exact Nat.le_succ _
        obtain ⟨ρ1, H1, S1, r1⟩ := Res.mk (t := s.toks) (a := s.heap.objs.size) H q1 grow1 sz (Nat.le_refl _) (by rw [Heap.size_push]; exact Nat.lt_succ_self _) (newD ho)
        obtain ⟨hn, hd⟩ := ch_inv q1
        have hd : v = .ob hp.n := (Prod.mk.inj (Option.some.inj hd)).1.symm
        subst hd
        obtain ⟨a, hi, e⟩ := r1.ob_inv
        cases e
        refine wpAny_bind (wpAny_mono (evalKvs x pos ha H1 (F.step S1) q2) (fun vs s2 ⟨ρ2, H2, S2, r2⟩ => ?_) fun _ _ h => h)
        refine wpAny_holding (wpAny_bind ?_)
        have hi2 := pre_get S2.pre hi
        refine wpAny_mono (storeAll (ha.le h8) H2 hi2 r2 q3) (fun _ s3 ⟨H3, S3⟩ => ?_) fun _ _ h => h
        exact wpAny_pure (wpAny_pure (wpAny_pure ⟨ρ2, H3, (S1.trans S2).trans S3, .ob hi2⟩))

theorem SE.dict0 {pos : Pos} {o : O} (ho : o = .dI [] 0 ∨ o = .dT []) : SE P n G (.Dict [] [] pos) (fDict o []) := by
  intro A env own s ρ loc hp v hp' ha H F hf
  unfold fDict at hf
  cases q1 : mk hp o with
  | none => rw [q1] at hf; cases hf
  | some z1 =>
    obtain ⟨d, hp1⟩ := z1
    rw [q1] at hf
    cases hf
    rw [eval_Dict_empty]
    refine wpAny_bind (wpAny_standAt ?_)
    have sz : s.heap.objs.size ≤ (s.heap.push { cls := .type "dict", data := .dict #[] }).objs.size := by rw [Heap.size_push]; exact Nat.le_succ _
    exact wpAny_newObj_type (Res.mk (t := s.toks) (a := s.heap.objs.size) H q1 grow1 sz (Nat.le_refl _) (by rw [Heap.size_push]; exact Nat.lt_succ_self _) (newD ho))
end
end
end Mine
end
section
open PySem PyProof.Rows
set_option maxRecDepth 20000
set_option linter.unusedSimpArgs false
set_option linter.unusedVariables false
namespace Mine
noncomputable section

/-- the captured cells, as they are laid -/
def clAcc (look : Str → Option Addr) : List (Str × NameKind) → List (Str × Addr) → List (Str × Addr)
  | [], acc => acc
  | (x, k) :: r, acc => if (k == NameKind.free) = true then clAcc look r ((x, (look x).getD 0) :: acc) else clAcc look r acc
def isFree (names : List (Str × NameKind)) (x : Str) : Bool := names.any fun p => p.1 == x && p.2 == NameKind.free

theorem closure_eq {env : Env} {scope : Scope} (h : ∀ x, isFree scope.names x = true → ∃ c, env.cells.lookup x = some c) : closureFor scope env = pure (clAcc (fun x => env.cells.lookup x) scope.names []) := by
  unfold closureFor
  have key : ∀ (names : List (Str × NameKind)) (acc : List (Str × Addr)), (∀ x, isFree names x = true → ∃ c, env.cells.lookup x = some c) →
      (forIn names acc fun (x : Str × NameKind) (r : List (Str × Addr)) => if (x.2 == NameKind.free) = true then (do let c ← cellOf env x.1; pure (ForInStep.yield ((x.1, c) :: r)) : Sem (ForInStep (List (Str × Addr)))) else pure (ForInStep.yield r)) =
        pure (clAcc (fun x => env.cells.lookup x) names acc) := by
    intro names
    induction names with
    | nil => intro acc _; rfl
    | cons p names ih =>
      intro acc hf
      obtain ⟨x, k⟩ := p
      rw [List.forIn_cons]
      have ht : ∀ y, isFree names y = true → ∃ c, env.cells.lookup y = some c := fun y hy => hf y (by unfold isFree at hy ⊢; rw [List.any_cons, hy, Bool.or_true])
      unfold clAcc
      by_cases q : (k == NameKind.free) = true
      · rw [if_pos q, if_pos q]
        obtain ⟨c, hc⟩ := hf x (by unfold isFree; rw [List.any_cons]; simp [q])
        have e : cellOf env x = pure c := by unfold cellOf; rw [hc]
        rw [e, hc]
        simp only [pure_bind]
        exact ih _ ht
      · rw [if_neg q, if_neg q]
        simp only [pure_bind]
        exact ih _ ht
  have := key scope.names [] h
  simp only [bind_pure]
  exact this

theorem clAcc_look (look : Str → Option Addr) (x : Str) : ∀ (names : List (Str × NameKind)) (acc : List (Str × Addr)), (clAcc look names acc).lookup x = if isFree names x = true then some ((look x).getD 0) else acc.lookup x
  | [], acc => by simp [clAcc, isFree]
  | (y, k) :: r, acc => by
    unfold clAcc
    by_cases q : (k == NameKind.free) = true
    · rw [if_pos q, clAcc_look look x r]
      by_cases e : y == x
      · have e := eq_of_beq e
        subst e
        have : isFree ((y, k) :: r) y = true := by unfold isFree; rw [List.any_cons]; simp [q]
        rw [this, if_pos rfl]
        split
        · rfl
        · simp
      · have e2 : (x == y) = false := by
          cases h : x == y with
          | false => rfl
          | true => exact absurd (by rw [eq_of_beq h]; simp) e
        have : isFree ((y, k) :: r) x = isFree r x := by unfold isFree; rw [List.any_cons]; simp [e]
        rw [this, List.lookup_cons, e2]
    · rw [if_neg q, clAcc_look look x r]
      have : isFree ((y, k) :: r) x = isFree r x := by unfold isFree; rw [List.any_cons]; simp [q]
      rw [this]

/-- a block in a block: its names -/
def Sg.inner (G : Sg) (scope : Scope) (vars : List (Str × VK)) : Sg :=
  ⟨{ scope with names := scope.names.map fun (n, k) => if (k == .free && G.scope.kind == .function && G.scope.names.lookup n == some .cell) then (n, .cell) else (n, k) }, vars⟩

/-- do the captured names stand where they are said to stand? -/
def capsOk (G : Sg) (scope : Scope) : List (Str × VK) → List (Option Nat) → Bool
  | [], [] => true
  | (x, k) :: r, o :: t => (match k with
    | .loc => o.isNone
    | .cel => o.isNone && scope.names.lookup x == some .cell
    | .cap => (match o with
      | none => false
      | some j => isFree scope.names x && (match G.vars[j]? with
        | some (y, k') => y == x && k' != .loc
        | none => false))) && capsOk G scope r t
  | _, _ => false
theorem capsOk_at {G : Sg} {scope : Scope} : ∀ {vars : List (Str × VK)} {spec : List (Option Nat)} {i : Nat} {x : Str} {k : VK}, capsOk G scope vars spec = true → vars[i]? = some (x, k) →
    (k ≠ .cap ∧ spec[i]? = some none ∧ (k = .cel → scope.names.lookup x = some .cell)) ∨ (k = .cap ∧ ∃ j k', spec[i]? = some (some j) ∧ isFree scope.names x = true ∧ G.vars[j]? = some (x, k') ∧ k' ≠ .loc)
  | [], _, _, _, _, _, h => by simp at h
  | _ :: _, [], _, _, _, h, _ => by simp [capsOk] at h
  | (y, l) :: r, o :: t, i, x, k, h, hi => by
    unfold capsOk at h
    rw [Bool.and_eq_true] at h
    obtain ⟨h1, h2⟩ := h
    cases i with
    | succ i => simpa using capsOk_at h2 (by simpa using hi)
    | zero =>
      simp at hi
      obtain ⟨rfl, rfl⟩ := hi
      cases l with
      | loc =>
        left
        cases o with
        | none => exact ⟨by decide, rfl, fun h => nomatch h⟩
        | some _ => simp at h1
      | cel =>
        left
        cases o with
        | none => simp at h1; exact ⟨by decide, rfl, fun _ => h1⟩
        | some _ => simp at h1
      | cap =>
        right
        cases o with
        | none => simp at h1
        | some j =>
          simp only [Bool.and_eq_true] at h1
          obtain ⟨g1, g2⟩ := h1
          split at g2
          · rename_i y' k' e
            simp only [Bool.and_eq_true, bne_iff_ne, ne_eq] at g2
            have := eq_of_beq g2.1
            subst this
            exact ⟨rfl, j, k', rfl, g1, e, g2.2⟩
          · cases g2
theorem capsOk_len {G : Sg} {scope : Scope} : ∀ {vars : List (Str × VK)} {spec : List (Option Nat)}, capsOk G scope vars spec = true → spec.length = vars.length
  | [], [], _ => rfl
  | [], _ :: _, h => by simp [capsOk] at h
  | _ :: _, [], h => by simp [capsOk] at h
  | _ :: r, _ :: t, h => by
    unfold capsOk at h
    rw [Bool.and_eq_true] at h
    rw [List.length_cons, List.length_cons, capsOk_len h.2]
theorem lini_get (loc : Loc) : ∀ (spec : List (Option Nat)) (i : Nat), (lini spec loc)[i]? = (spec[i]?).map fun o => match o with
    | none => none
    | some j => lget loc j
  | [], i => by simp [lini]
  | o :: r, 0 => by cases o <;> rfl
  | o :: r, i + 1 => by
    show ((_ :: lini r loc))[i + 1]? = _
    rw [List.getElem?_cons_succ, lini_get loc r i, List.getElem?_cons_succ]
theorem lini_len (loc : Loc) : ∀ spec : List (Option Nat), (lini spec loc).length = spec.length
  | [] => rfl
  | o :: r => by show (_ :: lini r loc).length = _; simp [lini_len loc r]
theorem lget_val : ∀ (l : Loc) (i : Nat), i < l.length → l[i]? = some (lget l i)
  | [], _, h => by simp at h
  | x :: r, 0, _ => rfl
  | x :: r, i + 1, h => by
    rw [List.getElem?_cons_succ, lget_val r i (by simpa using h)]
    rfl

/-- the cells of a block's own: none or one -/
def ownC : Option Str → Nat → List (Str × Addr) → List (Str × Addr)
  | none, _, cl => cl
  | some x, n, cl => (x, n) :: cl
def ownH : Option Str → Heap → Heap
  | none, h => h
  | some _, h => h.push { cls := .type "cell", data := .cell none }
def ownL : Option Str → Nat → List Addr
  | none, n => [n]
  | some _, n => [n, n + 1]

/-- a comprehension's block -/
def cenvOf (env : Env) (scope : Scope) (L : Addr) (x : Option Str) : Env :=
  { scope := relabel scope env, locals := L, globals := env.globals, cells := ownC x (L + 1) (clAcc (fun x => env.cells.lookup x) scope.names []), qual := env.qual, func := none, code := env.code, frame := env.frame, builtins := env.builtins }

section
variable {M : Model} {A : Around} {E : Value → Shared → Prop} {s : Shared} {env : Env}
theorem newEnv_own {scope : Scope} {cl : List (Str × Addr)} {x : Option Str} {Q : Env → Shared → Prop} (hcf : ∀ n cl, cellsFrom n scope.names cl = ownC x n cl) (hpc : ∀ h, pushCells h scope.names = ownH x h)
    (hQ : Q (newEnv scope s.heap.objs.size env.globals (ownC x (s.heap.objs.size + 1) cl) env.qual none .none (some env) builtinsNs) { s with heap := ownH x (s.heap.push { cls := .type "dict", data := .dict #[] }) }) :
    wpAny M A (newFunctionEnv scope env.globals cl [] env.qual none .none (some env)) Q E s := by
  simp only [newFunctionEnv, Option.isSome_some, if_true]
  refine wpAny_bind (wpAny_alloc ?_)
  refine wpAny_bind (wpAny_layCells _ (fun name kind cells => by cases hkc : kind == NameKind.cell <;> simp [hkc]) _ _ _ _ ?_)
  rw [show ({ s with heap := s.heap.push { cls := .type "dict", data := .dict #[] } } : Shared).heap.objs.size = s.heap.objs.size + 1 from Heap.size_push .., hcf, hpc]
  rw [List.forIn_nil]
  exact wpAny_bind (wpAny_pure (wpAny_pure hQ))
end

section
variable {P : Par} {n : Nat} {G : Sg}
theorem innerFI {env : Env} {own ρ : List Addr} {loc : Loc} {s : Shared} {hp : Hp} {scope : Scope} {vars : List (Str × VK)} {spec : List (Option Nat)} {x : Option Str} (H : HI P ρ hp s) (F : FI P G env own ρ loc s.heap)
    (hok : (G.inner scope vars).ok = true) (hcaps : capsOk G scope vars spec = true) (hx : ∀ y, scope.names.lookup y = some .cell → x = some y) (hfree : ∀ y, isFree scope.names y = true → ∃ (i : Nat) (k : VK), G.vars[i]? = some (y, k) ∧ k ≠ .loc)
    (hxf : ∀ y, x = some y → isFree scope.names y = false) :
    let h' := ownH x (s.heap.push { cls := .type "dict", data := .dict #[] })
    HI P ρ hp { s with heap := h' } ∧ Step [] ρ s ρ { s with heap := h' } ∧ FI P (G.inner scope vars) (cenvOf env scope s.heap.objs.size x) (ownL x s.heap.objs.size) ρ (lini spec loc) h' ∧
      (∀ y c, (cenvOf env scope s.heap.objs.size x).cells.lookup y = some c → s.heap.objs.size ≤ c ∨ env.cells.lookup y = some c) ∧ (∀ a ∈ ownL x s.heap.objs.size, s.heap.objs.size ≤ a) := by
  intro h'
  have hk : ∀ b o, s.heap.get? b = some o → h'.get? b = some o := fun b o e => by
    show (ownH x _).get? b = _
    cases x with
    | none => exact Heap.get?_push_of_some _ e
    | some _ => exact Heap.get?_push_of_some _ (Heap.get?_push_of_some _ e)
  have sz1 : (s.heap.push { cls := .type "dict", data := .dict #[] }).objs.size = s.heap.objs.size + 1 := Heap.size_push ..
  have hsz : h'.objs.size = s.heap.objs.size + (ownL x s.heap.objs.size).length := by
    show (ownH x _).objs.size = _
    cases x with
    | none => rw [ownH, sz1]; rfl
    | some _ => rw [ownH, Heap.size_push, sz1]; rfl
  have hz : s.heap.objs.size ≤ h'.objs.size := by omega
  have H' : HI P ρ hp { s with heap := h' } := H.keeps (s' := { s with heap := h' }) hk hz
  have S' : Step [] ρ s ρ { s with heap := h' } := .grow (t := s.toks) hk hz
  refine ⟨H', S', ?_⟩
  have cells_of : ∀ y c, env.cells.lookup y = some c → c < s.heap.objs.size := F.clt
  have look : ∀ y c, (cenvOf env scope s.heap.objs.size x).cells.lookup y = some c → (x = some y ∧ c = s.heap.objs.size + 1) ∨ env.cells.lookup y = some c := fun y c e => by
    have base : ∀ c, (clAcc (fun x => env.cells.lookup x) scope.names []).lookup y = some c → env.cells.lookup y = some c := fun c e => by
      rw [clAcc_look] at e
      split at e
      · rename_i hf
        obtain ⟨i, k, h1, h2⟩ := hfree y hf
        have hil : i < loc.length := by rw [F.len]; exact (List.getElem?_eq_some_iff.mp h1).1
        obtain ⟨c', v', e', _⟩ := F.cel i y k _ h1 h2 (List.getElem?_eq_getElem hil)
        rw [e'] at e ⊢
        exact e
      · cases e
    cases x with
    | none => exact .inr (base c e)
    | some z =>
      have e : List.lookup y ((z, s.heap.objs.size + 1) :: clAcc (fun x => env.cells.lookup x) scope.names []) = some c := e
      rw [List.lookup_cons] at e
      cases q : y == z with
      | true => rw [q] at e; cases e; rw [eq_of_beq q]; exact .inl ⟨rfl, rfl⟩
      | false => rw [q] at e; exact .inr (base c e)
  have lt0 : s.heap.objs.size < h'.objs.size := by
    rw [hsz]
    cases x with
    | none => exact Nat.lt_succ_self _
    | some _ => exact Nat.lt_succ_of_lt (Nat.lt_succ_self _)
  have lt1 : ∀ z, x = some z → s.heap.objs.size + 1 < h'.objs.size := fun z e => by
    rw [hsz, e]
    exact Nat.lt_succ_self _
  have own_ge : ∀ a ∈ ownL x s.heap.objs.size, s.heap.objs.size ≤ a ∧ a < h'.objs.size := fun a ha => by
    cases x with
    | none =>
      have e : a = s.heap.objs.size := by simpa [ownL] using ha
      rw [e]; exact ⟨Nat.le_refl _, lt0⟩
    | some z =>
      have e : a = s.heap.objs.size ∨ a = s.heap.objs.size + 1 := by simpa [ownL] using ha
      rcases e with e | e
      · rw [e]; exact ⟨Nat.le_refl _, lt0⟩
      · rw [e]; exact ⟨Nat.le_succ _, lt1 z rfl⟩
  refine ⟨⟨hok, ?_, F.glob, F.bui, by rw [lini_len, capsOk_len hcaps]; rfl, ⟨fun _ => none, ?_, fun i y v h1 h2 => ?_⟩, fun i y k v h1 h2 h3 => ?_, ?_, fun a ha => ?_, fun y z c h1 h2 => ?_, fun y c e => ?_, F.code⟩, fun y c e => ?_, fun a ha => (own_ge a ha).1⟩
  · show relabel scope env = _
    unfold relabel Sg.inner Env.kindOf
    rw [F.scope]
  · have : (s.heap.push { cls := .type "dict", data := .dict #[] }).Ns s.heap.objs.size fun _ => none := Heap.Ns.new s.heap (.type "dict")
    show (ownH x _).Ns _ _
    cases x with
    | none => exact this
    | some _ => exact this.keeps fun b o e => Heap.get?_push_of_some _ e
  · rcases capsOk_at hcaps h1 with ⟨_, e, _⟩ | ⟨e, _⟩
    · rw [lini_get, e] at h2
      cases h2
      trivial
    · cases e
  · rcases capsOk_at hcaps h1 with ⟨e1, e, e2⟩ | ⟨e, j, k', e2, e3, e4, e5⟩
    · have hc : k = .cel := by cases k <;> first | exact absurd rfl h2 | rfl | exact absurd rfl e1
      subst hc
      have hxy := hx y (e2 rfl)
      subst hxy
      rw [lini_get, e] at h3
      cases h3
      refine ⟨s.heap.objs.size + 1, none, ?_, ?_, trivial, fun hm => ?_, ?_, fun _ => by simp [ownL]⟩
      · show List.lookup y ((y, s.heap.objs.size + 1) :: _) = _
        simp
      · refine ⟨{ cls := .type "cell", data := .cell none }, ?_, rfl⟩
        have := Heap.get?_push_size (s.heap.push { cls := .type "dict", data := .dict #[] }) (o := { cls := .type "cell", data := .cell none }) rfl
        rw [sz1] at this
        exact this
      · exact absurd (H.new _ hm).2 (Nat.not_lt.mpr (Nat.le_succ _))
      · show s.heap.objs.size + 1 ≠ s.heap.objs.size
        omega
    · subst e
      rw [lini_get, e2] at h3
      have hjl : j < loc.length := by rw [F.len]; exact (List.getElem?_eq_some_iff.mp e4).1
      have hv : lget loc j = v := by simpa using h3
      obtain ⟨c, v', q1, q2, q3, q4, q5, _⟩ := F.cel j y k' v e4 e5 (by rw [lget_val loc j hjl, hv])
      refine ⟨c, v', ?_, q2.keeps hk, q3.mono (.of hk) (List.prefix_refl _), q4, ?_, fun h => nomatch h⟩
      · have base : (clAcc (fun x => env.cells.lookup x) scope.names []).lookup y = some c := by rw [clAcc_look, if_pos e3, q1]; rfl
        show List.lookup y (ownC x _ _) = _
        cases x with
        | none => exact base
        | some z =>
          have hne : (y == z) = false := by
            cases q : y == z with
            | false => rfl
            | true =>
              have := eq_of_beq q
              subst this
              rw [hxf y rfl] at e3; cases e3
          show List.lookup y ((z, _) :: _) = _
          rw [List.lookup_cons, hne]
          exact base
      · exact Nat.ne_of_lt (F.clt y c q1)
  · show s.heap.objs.size ∈ ownL x s.heap.objs.size
    cases x <;> simp [ownL]
  · obtain ⟨g1, g2⟩ := own_ge a ha
    exact ⟨fun hm => absurd (H.new a hm).2 (Nat.not_lt.mpr g1), g2, Nat.le_trans H.sz g1⟩
  · rcases look y c h1 with ⟨a1, a2⟩ | a1
    · rcases look z c h2 with ⟨b1, b2⟩ | b1
      · rw [a1] at b1; exact Option.some.inj b1
      · have q := F.clt z c b1
        rw [a2] at q
        exact absurd q (Nat.not_lt.mpr (Nat.le_succ _))
    · rcases look z c h2 with ⟨b1, b2⟩ | b1
      · have q := F.clt y c a1
        rw [b2] at q
        exact absurd q (Nat.not_lt.mpr (Nat.le_succ _))
      · exact F.apart y z c a1 b1
  · rcases look y c e with ⟨a1, a2⟩ | a1
    · rw [a2]; exact lt1 y a1
    · exact Nat.lt_of_lt_of_le (F.clt y c a1) hz
  · rcases look y c e with ⟨_, a2⟩ | a1
    · rw [a2]; exact .inl (Nat.le_succ _)
    · exact .inr a1
end
end
end Mine
end
section
open PySem PyProof.Rows
set_option maxRecDepth 20000
set_option linter.unusedSimpArgs false
set_option linter.unusedVariables false
namespace Mine
noncomputable section
section
variable {P : Par} {n : Nat} {G : Sg}

theorem append_call {prog : Program} {w : World} {A : Around} {E : Value → Shared → Prop} {s : Shared} {D : Addr} {items : Array Value} {m : Nat} {x : Value} {Q : Value → Shared → Prop} (hl : IsL s.heap D items m) (hsz : items.size ≤ sizeLine)
    (h : Q .none { s with heap := s.heap.update D (Obj.mapSeq (·.push x)) }) : wpAny (model prog w) A (call (.builtin "list.append") [.ref D, x]) Q E s := by
  refine wpAny_call_entry slot_list_append hl.isList.typeIs entry_list_append ?_ (args_list_append _ _)
  show wpAny _ _ (updateSeq D (·.push x) >>= fun _ => ret .none) _ _ s
  exact wpAny_bind (wpAny_updateSeq hl rfl (wpAny_pure ⟨.none, rfl, h⟩))

/-- an iterator's own iterator is itself -/
theorem pSelf {A : Around} {env : Env} {own ρ : List Addr} {s : Shared} {hp : Hp} {a : Addr} {it : It} {Q : Value → Shared → Prop} (H : HI P ρ hp s) (I : ItOk P env own ρ s.heap a it)
    (hst : ∀ i, it = .st i → ∃ l j, hp.get i = some (.li l j)) (h : Q (.ref a) s) : ∀ {E : Value → Shared → Prop}, wpAny (model P.prog P.w) A (pyIter (.ref a)) Q E s := by
  intro E
  obtain ⟨r, _⟩ := I
  cases it with
  | li l i => obtain ⟨b, _, hit⟩ := r; exact wpAny_pyIter_listiter hit h
  | ti vs => obtain ⟨t, items, k, _, _, hit⟩ := r; exact wpAny_pyIter_tupleiter hit h
  | ri x m => exact wpAny_pyIter_rangeiter r h
  | ki d i m ep => obtain ⟨b, _, hit⟩ := r; exact wpAny_pyIter_keyiter hit h
  | st i =>
    obtain ⟨l, j, e⟩ := hst i rfl
    obtain ⟨b, _, hit⟩ := H.obj r e
    exact wpAny_pyIter_listiter hit h

/-- a thing of the loop's own besides its iterator: the list that grows -/
theorem Own.keepL {env : Env} {own own2 ρ ρ' : List Addr} {s s' : Shared} {D : Addr} {items : Array Value} {m : Nat} (O : Own P env own ρ s.heap D) (S : Step own2 ρ s ρ' s') (hD : D ∉ own2) (hl : IsL s.heap D items m) : IsL s'.heap D items m :=
  S.keep D _ hl O.ρ hD

theorem fCompL_inv {aT : V → Loc → Hp → Option (Loc × Hp)} {fe : Loc → Hp → Option (V × Hp)} {k : Nat} {it : It} {loc : Loc} {hp hp' : Hp} {l : List V} (h : fCompL aT fe (k + 1) it loc hp = some (l, hp')) :
    (∃ it1, gNx it hp = some (none, it1, hp') ∧ l = []) ∨ ∃ v it1 hp1 loc2 hp2 x hp3 r, gNx it hp = some (some v, it1, hp1) ∧ aT v loc hp1 = some (loc2, hp2) ∧ fe loc2 hp2 = some (x, hp3) ∧ fCompL aT fe k it1 loc2 hp3 = some (r, hp') ∧ l = x :: r := by
  unfold fCompL at h
  cases q1 : gNx it hp with
  | none => rw [q1] at h; cases h
  | some z1 =>
    obtain ⟨r, it1, hp1⟩ := z1
    rw [q1] at h
    dsimp only at h
    cases r with
    | none => cases h; exact .inl ⟨it1, rfl, rfl⟩
    | some v =>
      dsimp only at h
      cases q2 : aT v loc hp1 with
      | none => rw [q2] at h; cases h
      | some z2 =>
        obtain ⟨loc2, hp2⟩ := z2
        rw [q2] at h
        dsimp only at h
        cases q3 : fe loc2 hp2 with
        | none => rw [q3] at h; cases h
        | some z3 =>
          obtain ⟨x, hp3⟩ := z3
          rw [q3] at h
          dsimp only at h
          cases q4 : fCompL aT fe k it1 loc2 hp3 with
          | none => rw [q4] at h; cases h
          | some z4 =>
            obtain ⟨r, hp4⟩ := z4
            rw [q4] at h
            cases h
            exact .inr ⟨v, it1, hp1, loc2, hp2, x, hp3, r, rfl, q2, q3, q4, rfl⟩

theorem comp_loop {elt target iter : Expr} {scope : Scope} {pos : Pos} {aT : V → Loc → Hp → Option (Loc × Hp)} {fe : Loc → Hp → Option (V × Hp)} {A : Around} {env : Env} {own ρ : List Addr} {s : Shared} {loc : Loc} {hp hp' : Hp} {it : It} {a D : Addr} {k : Nat} {l : List V} {R : Result → Shared → Prop}
    (ha : AOk n A) (y : SA P n G target aT) (z : SE P n G elt fe) (hl : ∀ v, letOwnedTupleGo target (.ref a) v = pure ()) (hfew : few l = true)
    (H : HI P ρ hp s) (F : FI P G env own ρ loc s.heap) (hi : ItOk P env own ρ s.heap a it) (O : Own P env own ρ s.heap D) (hDa : D ≠ a) (hD : IsL s.heap D #[] 0) (hf : fCompL aT fe k it loc hp = some (l, hp'))
    (hR : ∀ s' ρ' loc' items m, HI P ρ' hp' s' → FI P G env own ρ' loc' s'.heap → Step (D :: a :: own) ρ s ρ' s' → Own P env own ρ' s'.heap D → IsL s'.heap D items m → VRs P s'.heap ρ' l items.toList → R (.ok .next) s') :
    codeAny (model P.prog P.w) A (.compLoop (.ListComp elt [⟨target, iter, [], 0⟩] scope pos) 0 (.ref a) (.ref D) env) R s := by
  refine codeAny_compLoop_list (fun k s1 => ∃ ρ1 loc1 hp1 it1 items m us vs, HI P ρ1 hp1 s1 ∧ FI P G env own ρ1 loc1 s1.heap ∧ Step (D :: a :: own) ρ s ρ1 s1 ∧ ItOk P env own ρ1 s1.heap a it1 ∧ Own P env own ρ1 s1.heap D ∧ IsL s1.heap D items m ∧
      VRs P s1.heap ρ1 us items.toList ∧ l = us ++ vs ∧ fCompL aT fe k it1 loc1 hp1 = some (vs, hp')) ?_ k ⟨ρ, loc, hp, it, #[], 0, [], l, H, F, .refl, hi, O, hD, .nil, rfl, hf⟩ hl
  rintro m0 s1 ⟨ρ1, loc1, hp1, it1, items, m, us, vs, H1, F1, S1, I1, O1, D1, r1, e1, hf⟩
  cases m0 with
  | zero => cases hf
  | succ m0 =>
    have two : ∀ {ρ ρ' : List Addr} {s s' : Shared}, Step own ρ s ρ' s' → Step (D :: a :: own) ρ s ρ' s' := fun x => x.cons.cons
    rcases fCompL_inv hf with ⟨it2, q1, rfl⟩ | ⟨v, it2, hp2, loc2, hp3, x, hp4, rest, q1, q2, q3, q4, rfl⟩
    · refine wpAny_mono (pNx ha H1 I1 q1) (fun r' s2 ⟨h1, H2, S2, I2, O2⟩ => ?_) fun _ _ h => h.elim
      cases r' with
      | some _ => exact h1.elim
      | none =>
        have hDa' : D ∉ [a] := by simpa using hDa
        rw [List.append_nil] at e1
        subst e1
        exact hR s2 ρ1 loc1 items m H2 (F1.nxd S2 O2) (S1.trans S2.one.cons) (O1.step S2) (O1.keepL S2 hDa' D1) (r1.mono S2.imm S2.pre)
    · refine wpAny_mono (pNx ha H1 I1 q1) (fun r' s2 ⟨h1, H2, S2, I2, O2⟩ => ?_) fun _ _ h => h.elim
      cases r' with
      | none => exact h1.elim
      | some v' =>
        have hDa' : D ∉ [a] := by simpa using hDa
        have I2 := I2 rfl
        have F2 := F1.nxd S2 O2
        have OD2 := O1.step S2
        have D2 := O1.keepL S2 hDa' D1
        refine y.use ha H2 F2 h1 q2 fun s3 ρ3 H3 F3 S3 => ?_
        have I3 := I2.stepC S3
        have D3 := OD2.keepL S3 OD2.own D2
        have OD3 := OD2.step S3
        refine z.use ha H3 F3 q3 fun x' s4 ρ4 H4 F4 S4 r4 => ?_
        have I4 := I3.stepC (own := own) S4.own'
        have D4 := OD3.keepL S4 (by simp) D3
        have OD4 := OD3.step S4
        have r5 : VRs P s4.heap ρ4 us items.toList := r1.mono ((S2.imm.trans S3.imm).trans S4.imm) ((S2.pre.trans S3.pre).trans S4.pre)
        have hlen : items.size ≤ 5000 := by
          have h2 := Nat.le_of_ble_eq_true hfew
          have h3 : us.length = items.size := by have := r1.length; simpa using this
          rw [e1, List.length_append] at h2
          omega
        refine append_call D4 (line hlen) ?_
        have hs := Heap.SameBut.update s4.heap D (Obj.mapSeq fun xs => xs.push x')
        have imm := lst_imm D4
        have hz : s4.heap.objs.size ≤ (s4.heap.update D (Obj.mapSeq fun xs => xs.push x')).objs.size := Nat.le_of_eq hs.1.symm
        have S5 : Step [D] ρ4 s4 ρ4 { s4 with heap := s4.heap.update D (Obj.mapSeq fun xs => xs.push x') } := .change (t := s4.toks) (.inr (by simp)) hs.extBut imm hz
        have S5' : Step (D :: a :: own) ρ4 s4 ρ4 { s4 with heap := s4.heap.update D (Obj.mapSeq fun xs => xs.push x') } := S5.weaken fun b hb => .inl (by
          obtain rfl : b = D := by simpa using hb
          exact List.mem_cons_self)
        have H5 := H4.other (t := s4.toks) OD4.ρ OD4.lo hs.extBut imm hz
        have F5 := F4.stepBut S5 fun b hb => by
          obtain rfl : b = D := by simpa using hb
          exact .inr ⟨OD4.own, OD4.cel⟩
        have I5 := I4.step S5 fun _ => by simpa using Ne.symm hDa
        refine ⟨m0, Nat.lt_succ_self _, ρ4, loc2, hp4, it2, _, _, us ++ [x], rest, H5, F5, (((S1.trans S2.one.cons).trans (two S3)).trans (two S4.own')).trans S5', I5, OD4.step S5, D4.update _, ?_, by rw [e1, List.append_assoc]; rfl, q4⟩
        rw [Array.toList_push]
        exact (r5.append (.cons r4 .nil)).mono S5.imm S5.pre

theorem Step.clear {own ρ ρ' : List Addr} {s s' : Shared} (x : Step own ρ s ρ' s') (h : ∀ a ∈ own, s.heap.objs.size ≤ a ∨ a ∈ ρ) : Step [] ρ s ρ' s' :=
  ⟨x.pre, x.fresh, x.imm, fun b o e h1 _ => x.keep b o e h1 fun hm => by
    rcases h b hm with h | h
    · exact absurd (Heap.lt_size e) (Nat.not_lt.mpr h)
    · exact h1 h, x.size, x.gens, x.os⟩
theorem Step.snoc {own ρ ρ' : List Addr} {s s' : Shared} {a : Addr} (x : Step own ρ s ρ' s') (h : s.heap.objs.size ≤ a) : Step own ρ s (ρ' ++ [a]) s' :=
  ⟨x.pre.trans (List.prefix_append _ _), fun b hb => by
    rcases List.mem_append.mp hb with hb | hb
    · exact x.fresh b hb
    · rw [List.mem_singleton.mp hb]; exact .inr h, x.imm, x.keep, x.size, x.gens, x.os⟩
theorem HI.adopt {ρ : List Addr} {s : Shared} {hp : Hp} {a : Addr} {o : O} (H : HI P ρ hp s) (hn : hp.n < 4000) (h1 : a ∉ ρ) (h2 : P.h₀.objs.size ≤ a) (h3 : a < s.heap.objs.size) (ho : OR P s.heap (ρ ++ [a]) a o) : HI P (ρ ++ [a]) (hp.push o) s := by
  refine ⟨H.base, by rw [List.length_append, H.len]; rfl, hn, ?_, fun b hb => ?_, H.sz, fun i o' e => ?_⟩
  · rw [List.nodup_append]
    exact ⟨H.nodup, by simp, fun x hx y hy e => by rw [List.mem_singleton.mp hy] at e; exact h1 (e ▸ hx)⟩
  · rcases List.mem_append.mp hb with hb | hb
    · exact H.new b hb
    · rw [List.mem_singleton.mp hb]; exact ⟨h2, h3⟩
  · have e : (T.put 12 hp.t hp.n o).get i = some o' := e
    by_cases hi : i = hp.n
    · subst hi
      rw [T.put_get 12 _ _ _ (Nat.lt_of_lt_of_le hn (by decide))] at e
      cases e
      exact ⟨a, by rw [List.getElem?_append_right (by rw [H.len]; exact Nat.le_refl _), H.len]; simp, ho⟩
    · rw [T.put_other 12 _ _ _ _ hi] at e
      obtain ⟨b, q1, q2⟩ := H.objs i o' e
      exact ⟨b, pre_get (List.prefix_append _ _) q1, q2.mono (.refl _) (List.prefix_append _ _) fun _ e => e⟩

/-- what is to be seen of a comprehension's text -/
structure CompOk (G : Sg) (scope : Scope) (vars : List (Str × VK)) (spec : List (Option Nat)) (x : Option Str) : Prop where
  kind : scope.kind = .function
  names : ∀ y ∈ scope.names, y.2 = .local → scope.names.lookup y.1 = some .local
  ok : (G.inner scope vars).ok = true
  caps : capsOk G scope vars spec = true
  cel : ∀ y, scope.names.lookup y = some .cell → x = some y
  free : ∀ y, isFree scope.names y = true → ∃ (i : Nat) (k : VK), G.vars[i]? = some (y, k) ∧ k ≠ .loc
  xfree : ∀ y, x = some y → isFree scope.names y = false
  cf : ∀ n cl, cellsFrom n scope.names cl = ownC x n cl
  pc : ∀ h, pushCells h scope.names = ownH x h

/-- a list's comprehension, and what is done with the list -/
theorem comp_walk {elt target iter : Expr} {scope : Scope} {pos fpos : Pos} {vars : List (Str × VK)} {spec : List (Option Nat)} {x : Option Str} {k : Nat} {fi : Loc → Hp → Option (It × Hp)} {aT : V → Loc → Hp → Option (Loc × Hp)} {fe : Loc → Hp → Option (V × Hp)}
    (C : CompOk G scope vars spec x) (xi : SI P n G iter fi) (y : SA P n (G.inner scope vars) target aT) (z : SE P n (G.inner scope vars) elt fe)
    (hl : ∀ it v, letOwnedTupleGo target it v = pure ()) (hs : ∀ env x, foldedSetIterable iter env x = pure x)
    {A : Around} {env : Env} {own ρ : List Addr} {s : Shared} {loc : Loc} {hp hp' : Hp} {v : V} {use : Option (Value → Sem Unit)} {Q : Value → Shared → Prop}
    (ha : AOk n A) (H : HI P ρ hp s) (F : FI P G env own ρ loc s.heap) (hf : fComp k spec fi aT fe loc hp = some (v, hp'))
    (hQ : ∀ D C s' ρ' m, HI P ρ' hp' s' → FI P G env own ρ' loc s'.heap → Step [] ρ s ρ' s' → VR P s'.heap ρ' v (.ref D) → s'.heap.Ns C m → C ∉ ρ' → C ∉ own → (∀ y c, env.cells.lookup y = some c → c ≠ C) → s.heap.objs.size ≤ C → P.h₀.objs.size ≤ C →
      compPost (model P.prog P.w) A NoE use Q (.ref D) C (.ok .next) s') :
    wpAny (model P.prog P.w) A (comprehension (.ListComp elt [⟨target, iter, [], 0⟩] scope pos) scope env fpos (newList []) false (eval iter env) use) Q NoE s := by
  unfold fComp at hf
  cases q1 : fi loc hp with
  | none => rw [q1] at hf; cases hf
  | some z1 =>
    obtain ⟨it, hp1⟩ := z1
    rw [q1] at hf
    dsimp only at hf
    obtain ⟨hpr, hf1⟩ := ch_inv hf
    clear hf
    cases q2 : fCompL aT fe k it (lini spec loc) hp1 with
    | none => rw [q2] at hf1; cases hf1
    | some z2 =>
      obtain ⟨l, hp3⟩ := z2
      rw [q2] at hf1
      dsimp only at hf1
      obtain ⟨hfew, hf2⟩ := ch_inv hf1
      clear hf1
      have hclos : closureFor scope env = pure (clAcc (fun x => env.cells.lookup x) scope.names []) := closure_eq fun y hy => by
        obtain ⟨i, k, h1, h2⟩ := C.free y hy
        have hil : i < loc.length := by rw [F.len]; exact (List.getElem?_eq_some_iff.mp h1).1
        obtain ⟨c, _, e, _⟩ := F.cel i y k _ h1 h2 (List.getElem?_eq_getElem hil)
        exact ⟨c, e⟩
      refine wpAny_comprehension_free (g := ⟨target, iter, [], 0⟩) (gs := []) rfl (hs env) hclos C.kind C.names ?_
      refine wpAny_mono (xi A env own s ρ loc hp it hp1 ha H F q1) (fun xv s1 h1 => wpAny_mono h1 (fun iv s2 ⟨ρ2, a, H2, S2, e, o2, I2⟩ => ?_) fun _ _ h => h.elim) fun _ _ h => h.elim
      subst e
      have F2 := F.step S2
      refine wpAny_newObj_type ?_
      have hlt2 : s2.heap.objs.size < (s2.heap.push { cls := .type "list", data := .seq ([] : List Value).toArray }).objs.size := by rw [Heap.size_push]; exact Nat.lt_succ_self _
      have H3 : HI P ρ2 hp1 { s2 with heap := s2.heap.push { cls := .type "list", data := .seq ([] : List Value).toArray } } := H2.keeps (s' := { s2 with heap := s2.heap.push { cls := .type "list", data := .seq ([] : List Value).toArray } }) grow1 (Nat.le_of_lt hlt2)
      have S3 : Step [] ρ2 s2 ρ2 { s2 with heap := s2.heap.push { cls := .type "list", data := .seq ([] : List Value).toArray } } := .grow (t := s2.toks) grow1 (Nat.le_of_lt hlt2)
      have F3 := F2.step S3
      have hD3 : IsL (s2.heap.push { cls := .type "list", data := .seq ([] : List Value).toArray }) s2.heap.objs.size #[] 0 := Heap.get?_push_size _ rfl
      generalize hs3 : ({ s2 with heap := s2.heap.push { cls := .type "list", data := .seq ([] : List Value).toArray } } : Shared) = s3 at H3 S3 F3 ⊢
      have hz3 : s3.heap.objs.size = s2.heap.objs.size + 1 := by rw [← hs3]; exact Heap.size_push ..
      have hD3 : IsL s3.heap s2.heap.objs.size #[] 0 := by rw [← hs3]; exact hD3
      refine newEnv_own C.cf C.pc ?_
      obtain ⟨H4, S4, F4, look, og⟩ := innerFI H3 F3 C.ok C.caps C.cel C.free C.xfree
      show codeAny _ _ (.compStart (.ListComp elt [⟨target, iter, [], 0⟩] scope pos) 0 (.ref a) (.ref s2.heap.objs.size) (cenvOf env scope s3.heap.objs.size x)) (compPost _ _ _ use Q (.ref s2.heap.objs.size) s3.heap.objs.size) _
      generalize hs4 : ({ s3 with heap := ownH x (s3.heap.push { cls := .type "dict", data := .dict #[] }) } : Shared) = s4 at H4 S4 ⊢
      have F4 : FI P (G.inner scope vars) (cenvOf env scope s3.heap.objs.size x) (ownL x s3.heap.objs.size) ρ2 (lini spec loc) s4.heap := by rw [← hs4]; exact F4
      have hD4 : IsL s4.heap s2.heap.objs.size #[] 0 := S4.keep _ _ hD3 (fun hm => absurd (H2.new _ hm).2 (Nat.lt_irrefl _)) (by simp)
      have priv : it.priv := by cases it <;> first | trivial | cases hpr
      have Oa := I2.own priv
      have S24 := S3.trans S4
      have ha2 : a < s2.heap.objs.size := Oa.hi
      have hge : ∀ b ∈ ownL x s3.heap.objs.size, s2.heap.objs.size < b := fun b hb => by
        have := og b hb
        rw [hz3] at this
        exact this
      have Oa4 : Own P (cenvOf env scope s3.heap.objs.size x) (ownL x s3.heap.objs.size) ρ2 s4.heap a := by
        refine ⟨Oa.ρ, fun hm => absurd (hge a hm) (Nat.not_lt.mpr (Nat.le_of_lt ha2)), fun y c e => ?_, Oa.lo, Nat.lt_of_lt_of_le ha2 S24.size⟩
        rcases look y c e with h | h
        · rw [hz3] at h
          exact (Nat.ne_of_lt (Nat.lt_of_lt_of_le (Nat.lt_succ_of_lt ha2) h)).symm
        · exact Oa.cel y c h
      have I4 : ItOk P (cenvOf env scope s3.heap.objs.size x) (ownL x s3.heap.objs.size) ρ2 s4.heap a it := ⟨(I2.step S24 fun _ => by simp).r, fun _ => Oa4⟩
      have OD4 : Own P (cenvOf env scope s3.heap.objs.size x) (ownL x s3.heap.objs.size) ρ2 s4.heap s2.heap.objs.size := by
        refine ⟨fun hm => absurd (H2.new _ hm).2 (Nat.lt_irrefl _), fun hm => absurd (hge _ hm) (Nat.lt_irrefl _), fun y c e => ?_, H2.sz, Heap.lt_size hD4⟩
        rcases look y c e with h | h
        · rw [hz3] at h
          exact (Nat.ne_of_lt h).symm
        · exact Nat.ne_of_lt (F2.clt y c h)
      have hDa : s2.heap.objs.size ≠ a := (Nat.ne_of_lt ha2).symm
      have loop : codeAny (model P.prog P.w) A (.compLoop (.ListComp elt [⟨target, iter, [], 0⟩] scope pos) 0 (.ref a) (.ref s2.heap.objs.size) (cenvOf env scope s3.heap.objs.size x)) (compPost (model P.prog P.w) A NoE use Q (.ref s2.heap.objs.size) s3.heap.objs.size) s4 := by
        refine comp_loop ha y z (fun v => hl _ v) hfew H4 F4 I4 OD4 hDa hD4 q2 fun s5 ρ5 loc5 items m H5 F5 S5 O5 D5 r5 => ?_
        obtain ⟨hn, e⟩ := ch_inv hf2
        cases e
        have hn := Nat.le_of_ble_eq_true hn
        have hle : s.heap.objs.size ≤ s2.heap.objs.size := S2.size
        have tot : Step (s2.heap.objs.size :: a :: ownL x s3.heap.objs.size) ρ s ρ5 s5 := (((S2.trans S24).weaken fun _ h => nomatch h).trans S5)
        have tot0 : Step [] ρ s ρ5 s5 := tot.clear fun b hb => by
          rcases List.mem_cons.mp hb with rfl | hb
          · exact .inl hle
          · rcases List.mem_cons.mp hb with rfl | hb
            · exact o2
            · exact .inl (Nat.le_trans hle (Nat.le_of_lt (hge b hb)))
        have tot1 := tot0.snoc (a := s2.heap.objs.size) hle
        obtain ⟨mm, hNs, _⟩ := F5.ns
        obtain ⟨c1, c2, c3⟩ := F5.off _ F5.L
        have hC : s.heap.objs.size ≤ s3.heap.objs.size := by rw [hz3]; exact Nat.le_trans hle (Nat.le_succ _)
        refine hQ s2.heap.objs.size s3.heap.objs.size s5 (ρ5 ++ [s2.heap.objs.size]) mm (H5.adopt hn O5.ρ O5.lo O5.hi ⟨items, m, D5, r5.mono (.refl _) (List.prefix_append _ _)⟩) (F.step tot1) tot1 (.ob ?_) hNs (fun hm => ?_) (fun hm => ?_) (fun y c e => ?_) hC c3
        · rw [List.getElem?_append_right (by rw [H5.len]; exact Nat.le_refl _), H5.len]; simp
        · rcases List.mem_append.mp hm with h | h
          · exact c1 h
          · have h : s3.heap.objs.size = s2.heap.objs.size := by simpa using h
            rw [hz3] at h
            exact absurd h (Nat.succ_ne_self _)
        · exact absurd (F.off _ hm).2.1 (Nat.not_lt.mpr hC)
        · exact Nat.ne_of_lt (Nat.lt_of_lt_of_le (F.clt y c e) hC)
      exact codeAny_compStart_list loop (pSelf H4 I4 (fun i e => by subst e; cases hpr) loop)
end
end
end Mine
end
section
open PySem PyProof.Rows
set_option maxRecDepth 20000
set_option linter.unusedSimpArgs false
set_option linter.unusedVariables false
namespace Mine
noncomputable section
section
variable {P : Par} {n : Nat} {G : Sg}
theorem Ns_imm {h : Heap} {a : Addr} {m : Str → Option Value} (x : h.Ns a m) : ∀ o, h.get? a = some o → ¬ ImmO o := fun o e => by
  obtain ⟨o', es, ep, ho, hd, _⟩ := x
  rw [ho] at e; cases e; exact ImmO.not_dict hd

theorem SE.comp {elt target iter : Expr} {scope : Scope} {pos : Pos} {vars : List (Str × VK)} {spec : List (Option Nat)} {x : Option Str} {k : Nat} {fi : Loc → Hp → Option (It × Hp)} {aT : V → Loc → Hp → Option (Loc × Hp)} {fe : Loc → Hp → Option (V × Hp)}
    (C : CompOk G scope vars spec x) (xi : SI P n G iter fi) (y : SA P n (G.inner scope vars) target aT) (z : SE P n (G.inner scope vars) elt fe)
    (hl : ∀ it v, letOwnedTupleGo target it v = pure () := by intro _ _; rfl) (hs : ∀ env x, foldedSetIterable iter env x = pure x := by intro _ _; rfl) :
    SE P n G (.ListComp elt [⟨target, iter, [], 0⟩] scope pos) (fComp k spec fi aT fe) := by
  intro A env own s ρ loc hp v hp' ha H F hf
  rw [eval_ListComp]
  show wpAny _ A (comprehension (.ListComp elt [⟨target, iter, [], 0⟩] scope pos) scope env _ (newList []) false (eval iter env) none) _ _ s
  refine comp_walk (use := none) C xi y z hl hs ha H F hf fun D Ca s' ρ' m H' F' S' r' hN c1 c2 c3 c4 c5 => ⟨m, hN, fun h' hsb => ?_⟩
  have hz : s'.heap.objs.size ≤ h'.objs.size := Nat.le_of_eq hsb.1.symm
  have S2 : Step [Ca] ρ' s' ρ' { s' with heap := h' } := .change (t := s'.toks) (.inr (by simp)) hsb.extBut (Ns_imm hN) hz
  refine ⟨ρ', H'.other (t := s'.toks) c1 c5 hsb.extBut (Ns_imm hN) hz, ((S'.weaken fun _ h => nomatch h).trans S2).clear fun b hb => ?_, r'.mono S2.imm S2.pre⟩
  obtain rfl : b = Ca := by simpa using hb
  exact .inl c4

/-- a comprehension whose list goes straight into a local name -/
theorem S1.asgC {elt target iter : Expr} {scope : Scope} {cpos pos px : Pos} {vars : List (Str × VK)} {spec : List (Option Nat)} {x : Option Str} {k i : Nat} {y0 : Str} {fi : Loc → Hp → Option (It × Hp)} {aT : V → Loc → Hp → Option (Loc × Hp)} {fe : Loc → Hp → Option (V × Hp)}
    (C : CompOk G scope vars spec x) (xi : SI P n G iter fi) (y : SA P n (G.inner scope vars) target aT) (z : SE P n (G.inner scope vars) elt fe) (hi : G.vars[i]? = some (y0, .loc))
    (hsw : ∀ env : Env, env.scope = G.scope → swapsWith (.ListComp elt [⟨target, iter, [], 0⟩] scope cpos) (some (.Name y0 px)) pos.line env = pure true)
    (hl : ∀ it v, letOwnedTupleGo target it v = pure () := by intro _ _; rfl) (hs : ∀ env x, foldedSetIterable iter env x = pure x := by intro _ _; rfl) :
    S1 P n G (.Assign [.Name y0 px] (.ListComp elt [⟨target, iter, [], 0⟩] scope cpos) pos) (fAsg (fComp k spec fi aT fe) i) := by
  intro A env own s ρ loc hp fl loc' hp' ha H F hf
  unfold fAsg at hf
  cases q : fComp k spec fi aT fe loc hp with
  | none => rw [q] at hf; cases hf
  | some w =>
    obtain ⟨v, hp1⟩ := w
    rw [q] at hf
    cases hf
    rw [exec_Assign_Name_used _ _ _ _ (hsw env F.scope)]
    refine wpAny_bind (wpAny_standAt (wpAny_bind ?_))
    show wpAny _ A (do let _ ← comprehension (.ListComp elt [⟨target, iter, [], 0⟩] scope cpos) scope env _ (newList []) false (eval iter env) (some (assign (.Name y0 px) env))) _ _ s
    refine wpAny_bind (wpAny_mono (comp_walk (use := some (assign (.Name y0 px) env)) (Q := fun _ s' => ∃ ρ', At P G env own ρ s (lset loc i v) hp' s' ρ') C xi y z hl hs ha H F q fun D Ca s' ρ' m H' F' S' r' hN c1 c2 c3 c4 c5 => ?_)
      (fun _ s' ⟨ρ', h⟩ => wpAny_pure (wpAny_pure ⟨ρ', h, rfl⟩)) fun _ _ h => h)
    show wpAny _ A (assign (.Name y0 px) env (.ref D)) _ _ _
    refine (SA.name hi (by decide)).use (n := n) ha H' F' r' rfl fun s2 ρ2 H2 F2 S2 => ?_
    have hN2 : s2.heap.Ns Ca m := by
      obtain ⟨o, es, ep, ho, r⟩ := hN
      exact ⟨o, es, ep, S2.keep _ _ ho c1 c2, r⟩
    refine ⟨m, hN2, fun h' hsb => ?_⟩
    have hz : s2.heap.objs.size ≤ h'.objs.size := Nat.le_of_eq hsb.1.symm
    have hCl : Ca < s'.heap.objs.size := by obtain ⟨o, _, _, ho, _⟩ := hN; exact Heap.lt_size ho
    have c1' : Ca ∉ ρ2 := fun hm => by
      rcases S2.fresh _ hm with h | h
      · exact c1 h
      · exact absurd hCl (Nat.not_lt.mpr h)
    have S3 : Step [Ca] ρ2 s2 ρ2 { s2 with heap := h' } := .change (t := s2.toks) (.inr (by simp)) hsb.extBut (Ns_imm hN2) hz
    refine ⟨ρ2, H2.other (t := s2.toks) c1' c5 hsb.extBut (Ns_imm hN2) hz, F2.stepBut S3 fun b hb => ?_, ?_⟩
    · obtain rfl : b = Ca := by simpa using hb
      exact .inr ⟨c2, c3⟩
    · have S23 := (S'.own'.trans S2)
      have a1 : Step (Ca :: own) ρ s ρ2 s2 := S23.cons
      have a2 : Step (Ca :: own) ρ2 s2 ρ2 { s2 with heap := h' } := S3.one
      exact (a1.trans a2).drop (.inl c4)
end
end
end Mine
end
section
open PySem PyProof.Rows
set_option maxRecDepth 20000
set_option linter.unusedSimpArgs false
set_option linter.unusedVariables false
namespace Mine
noncomputable section
section
variable {prog : Program} {w : World} {A : Around} {R : Result → Shared → Prop} {s : Shared}
/-- a turn of a dict's comprehension, the owned tuple's going told apart -/
theorem dcomp_loop {kx vx target iter : Expr} {scope : Scope} {pos : Pos} {it : Value} {D : Addr} {env : Env} (I : Nat → Shared → Prop)
    (turn : ∀ n s, I n s → wpAny (model prog w) A (pyNext it) (fun r s₁ => match r with
      | none => R (.ok .next) s₁
      | some v => wpAny (model prog w) A (letOwnedTupleGo target it v) (fun _ s₂ => wpAny (model prog w) A (assign target env v) (fun _ s₃ => wpAny (model prog w) A (eval kx env) (fun kv s₄ => wpAny (model prog w) A (eval vx env) (fun vv s₅ =>
          wpAny (model prog w) A (dictSet D kv vv) (fun _ s₆ => ∃ m, m < n ∧ I m s₆) NoE s₅) NoE s₄) NoE s₃) NoE s₂) NoE s₁) NoE s)
    (n : Nat) (h : I n s) : codeAny (model prog w) A (.compLoop (.DictComp kx vx [⟨target, iter, [], 0⟩] scope pos) 0 it (.ref D) env) R s := by
  refine codeAny_loop rfl I (fun n s hI => ?_) n h
  show wpAny _ A ((compTurn (.DictComp kx vx [⟨target, iter, [], 0⟩] scope pos) 0 it (.ref D) env).onRaise (fun x => do noteFrame x env; theTreesLotGoes x)) _ _ s
  refine wpAny_noted ?_
  rw [compTurn_dict]
  refine wpAny_bind (wpAny_standAt (wpAny_bind (wpAny_mono (turn n s hI) (fun r s₁ h₁ => ?_) fun _ _ h' => h'.elim)))
  cases r with
  | none => exact wpAny_pure h₁
  | some v =>
    refine wpAny_bind (wpAny_mono h₁ (fun _ s₂ h₂ => wpAny_bind (wpAny_mono h₂ (fun _ s₃ h₃ => ?_) fun _ _ h' => h'.elim)) fun _ _ h' => h'.elim)
    refine wpAny_bind (wpAny_of_eq (a := true) (List.forIn_nil ..) ?_)
    exact wpAny_bind (wpAny_bind (wpAny_mono h₃ (fun kv s₄ h₄ => wpAny_bind (wpAny_holding (wpAny_mono h₄ (fun vv s₅ h₅ => wpAny_bind (wpAny_standAt (wpAny_holding (wpAny_mono h₅ (fun _ s₆ h₆ => wpAny_pure ⟨rfl, h₆⟩) fun _ _ h' => h'.elim)))) fun _ _ h' => h'.elim))) fun _ _ h' => h'.elim))
end
section
variable {P : Par} {n : Nat} {G : Sg}
theorem fDCompL_inv {aT : V → Loc → Hp → Option (Loc × Hp)} {fk fe : Loc → Hp → Option (V × Hp)} {k : Nat} {it : It} {kvs : List (List V × V)} {loc : Loc} {hp hp' : Hp} {l : List (List V × V)} (h : fDCompL aT fk fe (k + 1) it kvs loc hp = some (l, hp')) :
    (∃ it1, gNx it hp = some (none, it1, hp') ∧ l = kvs) ∨ ∃ v it1 hp1 loc2 hp2 ks hp3 x hp4, gNx it hp = some (some v, it1, hp1) ∧ aT v loc hp1 = some (loc2, hp2) ∧ fk loc2 hp2 = some (.tup ks, hp3) ∧ fe loc2 hp3 = some (x, hp4) ∧ knums ks = true ∧
      dgetT kvs ks = some none ∧ kvs.length ≤ 5000 ∧ fDCompL aT fk fe k it1 (kvs ++ [(ks, x)]) loc2 hp4 = some (l, hp') := by
  unfold fDCompL at h
  split at h
  · cases h
  · rename_i r it1 hp1 q1
    split at h
    · cases h; exact .inl ⟨it1, q1, rfl⟩
    · rename_i v
      split at h
      · cases h
      · rename_i loc2 hp2 q2
        split at h
        · rename_i ks hp3 q3
          split at h
          · cases h
          · rename_i x hp4 q4
            split at h
            · rename_i q5
              split at h
              · rename_i q6
                obtain ⟨q7, q8⟩ := ch_inv h
                exact .inr ⟨v, it1, hp1, loc2, hp2, ks, hp3, x, hp4, q1, q2, q3, q4, q5, q6, Nat.le_of_ble_eq_true q7, q8⟩
              · cases h
            · cases h
        · cases h

/-- how a target lets a loop's own tuple go -/
def Lets (P : Par) (target : Expr) (q : It → Bool) (aT : V → Loc → Hp → Option (Loc × Hp)) : Prop :=
  ∀ A env own ρ s hp it a v v' loc r Q, q it = true → HI P ρ hp s → ItOk P env own ρ s.heap a it → VR P s.heap ρ v v' → aT v loc hp = some r → Q () s → wpAny (model P.prog P.w) A (letOwnedTupleGo target (.ref a) v') Q NoE s
theorem Lets.plain {target : Expr} {q : It → Bool} {aT : V → Loc → Hp → Option (Loc × Hp)} (h : ∀ it v, letOwnedTupleGo target it v = pure ()) : Lets P target q aT := by
  intro A env own ρ s hp it a v v' loc r Q _ _ _ _ _ hQ
  rw [h]; exact wpAny_pure hQ
theorem Lets.tup {ts : List Expr} {k : Nat} {pos : Pos} {fs : List (V → Loc → Hp → Option (Loc × Hp))} : Lets P (.Tuple ts k pos) It.isLi (aTup fs) := by
  intro A env own ρ s hp it a v v' loc r Q hq H I rv hf hQ
  unfold aTup at hf
  split at hf
  · obtain ⟨T, items, rfl, _, _⟩ := rv.tup_inv
    cases it with
    | li l i => obtain ⟨b, _, hit⟩ := I.r; exact wpAny_letOwnedTupleGo_listiter hit hQ
    | _ => cases hq
  · cases hf

theorem gNx_li {q : It → Bool} (hq : q = It.pr ∨ q = It.isLi) {it it' : It} {hp hp' : Hp} {r : Option V} (h : gNx it hp = some (r, it', hp')) (hi : q it = true) : q it' = true := by
  have key : (it.pr = true → it'.pr = true) ∧ (it.isLi = true → it'.isLi = true) := by
    unfold gNx at h
    split at h
    · split at h
      · split at h <;> cases h <;> exact ⟨fun _ => rfl, fun _ => rfl⟩
      · cases h
    · split at h <;> cases h <;> exact ⟨fun _ => rfl, fun h => nomatch h⟩
    · split at h <;> cases h <;> exact ⟨fun _ => rfl, fun h => nomatch h⟩
    · split at h
      · obtain ⟨_, h⟩ := ch_inv h
        split at h <;> cases h <;> exact ⟨fun _ => rfl, fun h => nomatch h⟩
      · cases h
    · exact ⟨fun h => (nomatch h), fun h => (nomatch h)⟩
  rcases hq with rfl | rfl
  · exact key.1 hi
  · exact key.2 hi

theorem dictH_imm {h : Heap} {a : Addr} {xs : List (List Int × Addr × Value)} (D : h.DictOfH P.tk a xs) : ∀ o, h.get? a = some o → ¬ ImmO o := fun o e => by
  obtain ⟨o', es, ep, ho, hc, hdd, _⟩ := id D
  rw [ho] at e; cases e; exact ImmO.not_dict hdd

theorem Own.keepO {env : Env} {own own2 ρ ρ' : List Addr} {s s' : Shared} {D : Addr} {o : O} (O : Own P env own ρ s.heap D) (S : Step own2 ρ s ρ' s') (hD : D ∉ own2) (x : OR P s.heap ρ D o) : OR P s'.heap ρ' D o :=
  x.mono S.imm S.pre fun ob e => S.keep D ob e O.ρ hD

theorem dcomp_sound {kx vx target iter : Expr} {scope : Scope} {pos : Pos} {aT : V → Loc → Hp → Option (Loc × Hp)} {fk fe : Loc → Hp → Option (V × Hp)} {q : It → Bool} {A : Around} {env : Env} {own ρ : List Addr} {s : Shared} {loc : Loc} {hp hp' : Hp} {it : It} {a D : Addr} {k : Nat} {l : List (List V × V)} {R : Result → Shared → Prop}
    (ha : AOk n A) (y : SA P n G target aT) (zk : SE P n G kx fk) (z : SE P n G vx fe) (hq : q = It.pr ∨ q = It.isLi) (hl : Lets P target q aT) (hqi : q it = true)
    (H : HI P ρ hp s) (F : FI P G env own ρ loc s.heap) (hi : ItOk P env own ρ s.heap a it) (O : Own P env own ρ s.heap D) (hDa : D ≠ a) (hD : OR P s.heap ρ D (.dT [])) (hf : fDCompL aT fk fe k it [] loc hp = some (l, hp'))
    (hR : ∀ s' ρ' loc', HI P ρ' hp' s' → FI P G env own ρ' loc' s'.heap → Step (D :: a :: own) ρ s ρ' s' → Own P env own ρ' s'.heap D → OR P s'.heap ρ' D (.dT l) → R (.ok .next) s') :
    codeAny (model P.prog P.w) A (.compLoop (.DictComp kx vx [⟨target, iter, [], 0⟩] scope pos) 0 (.ref a) (.ref D) env) R s := by
  refine dcomp_loop (fun k s1 => ∃ ρ1 loc1 hp1 it1 kvs, HI P ρ1 hp1 s1 ∧ FI P G env own ρ1 loc1 s1.heap ∧ Step (D :: a :: own) ρ s ρ1 s1 ∧ ItOk P env own ρ1 s1.heap a it1 ∧ q it1 = true ∧ Own P env own ρ1 s1.heap D ∧ OR P s1.heap ρ1 D (.dT kvs) ∧
      fDCompL aT fk fe k it1 kvs loc1 hp1 = some (l, hp')) ?_ k ⟨ρ, loc, hp, it, [], H, F, .refl, hi, hqi, O, hD, hf⟩
  rintro m0 s1 ⟨ρ1, loc1, hp1, it1, kvs, H1, F1, S1, I1, qi1, O1, D1, hf⟩
  cases m0 with
  | zero => cases hf
  | succ m0 =>
    have two : ∀ {ρ ρ' : List Addr} {s s' : Shared}, Step own ρ s ρ' s' → Step (D :: a :: own) ρ s ρ' s' := fun x => x.cons.cons
    have hDa' : D ∉ [a] := by simpa using hDa
    rcases fDCompL_inv hf with ⟨it2, q1, rfl⟩ | ⟨v, it2, hp2, loc2, hp3, ks, hp4, x, hp5, q1, q2, q3, q4, q5, q6, q7, q8⟩
    · refine wpAny_mono (pNx ha H1 I1 q1) (fun r' s2 ⟨h1, H2, S2, I2, O2⟩ => ?_) fun _ _ h => h.elim
      cases r' with
      | some _ => exact h1.elim
      | none => exact hR s2 ρ1 loc1 H2 (F1.nxd S2 O2) (S1.trans S2.one.cons) (O1.step S2) (O1.keepO S2 hDa' D1)
    · refine wpAny_mono (pNx ha H1 I1 q1) (fun r' s2 ⟨h1, H2, S2, I2, O2⟩ => ?_) fun _ _ h => h.elim
      cases r' with
      | none => exact h1.elim
      | some v' =>
        have I2 := I2 rfl
        have F2 := F1.nxd S2 O2
        have OD2 := O1.step S2
        have D2 := O1.keepO S2 hDa' D1
        have qi2 := gNx_li hq q1 qi1
        refine hl A env own ρ1 s2 hp2 it2 a v v' loc1 _ _ qi2 H2 I2 h1 q2 ?_
        refine y.use ha H2 F2 h1 q2 fun s3 ρ3 H3 F3 S3 => ?_
        have I3 := I2.stepC S3
        have D3 := OD2.keepO S3 OD2.own D2
        have OD3 := OD2.step S3
        refine zk.use ha H3 F3 q3 fun kv' s4 ρ4 H4 F4 S4 r4 => z.use ha H4 F4 q4 fun x' s5 ρ5 H5 F5 S5 r5 => ?_
        have S45 := S4.trans S5
        have I5 := I3.stepC (own := own) S45.own'
        have D5 := OD3.keepO S45 (by simp) D3
        have OD5 := OD3.step S45
        obtain ⟨xa, items, rfl, t, rr⟩ := (r4.mono S5.imm S5.pre).tup_inv
        obtain ⟨j, hj⟩ := knums_nums q5 rr
        obtain ⟨xs, Dd, K⟩ := D5
        have imm := dictH_imm Dd
        have hno := dgetT_sound K hj q6
        have hno : atKey xs j = none := by
          cases q : atKey xs j with
          | none => rfl
          | some p => rw [q] at hno; exact hno.elim
        refine wpAny_dictSet_heap (knd := P.tk) (k := j) ha.units (isTupKey t rr hj) Dd (fun h' D' hs => ?_) (line (by rw [← K.length]; exact q7))
        rw [storedH_new hno] at D'
        have hz : s5.heap.objs.size ≤ h'.objs.size := Nat.le_of_eq hs.1.symm
        have S6 : Step [D] ρ5 s5 ρ5 { s5 with heap := h', toks := s5.toks + P.tk.draws j } := .change (.inr (by simp)) hs.extBut imm hz
        have S6' : Step (D :: a :: own) ρ5 s5 ρ5 { s5 with heap := h', toks := s5.toks + P.tk.draws j } := S6.weaken fun b hb => .inl (by
          obtain rfl : b = D := by simpa using hb
          exact List.mem_cons_self)
        have H6 := H5.other (t := s5.toks + P.tk.draws j) OD5.ρ OD5.lo hs.extBut imm hz
        have F6 := F5.stepBut S6 fun b hb => by
          obtain rfl : b = D := by simpa using hb
          exact .inr ⟨OD5.own, OD5.cel⟩
        have I6 := I5.step S6 fun _ => by simpa using Ne.symm hDa
        exact ⟨m0, Nat.lt_succ_self _, ρ5, loc2, hp5, it2, kvs ++ [(ks, x)], H6, F6, (((S1.trans S2.one.cons).trans (two S3)).trans (two S45.own')).trans S6', I6, qi2, OD5.step S6,
          ⟨_, D', (K.append (.cons hj ⟨items, t, rr⟩ r5 .nil)).mono S6.imm S6.pre⟩, q8⟩
/-- a dict's comprehension -/
theorem dcomp_walk {kx vx target iter : Expr} {scope : Scope} {pos fpos : Pos} {vars : List (Str × VK)} {spec : List (Option Nat)} {x : Option Str} {k : Nat} {fi : Loc → Hp → Option (It × Hp)} {aT : V → Loc → Hp → Option (Loc × Hp)} {fk fe : Loc → Hp → Option (V × Hp)} {qi : It → Bool}
    (C : CompOk G scope vars spec x) (xi : SI P n G iter fi) (y : SA P n (G.inner scope vars) target aT) (zk : SE P n (G.inner scope vars) kx fk) (z : SE P n (G.inner scope vars) vx fe)
    (hqq : qi = It.pr ∨ qi = It.isLi) (hl : Lets P target qi aT) (hs : ∀ env x, foldedSetIterable iter env x = pure x)
    {A : Around} {env : Env} {own ρ : List Addr} {s : Shared} {loc : Loc} {hp hp' : Hp} {v : V} {Q : Value → Shared → Prop}
    (ha : AOk n A) (H : HI P ρ hp s) (F : FI P G env own ρ loc s.heap) (hf : fDComp qi k spec fi aT fk fe loc hp = some (v, hp'))
    (hQ : ∀ D C s' ρ' m, HI P ρ' hp' s' → FI P G env own ρ' loc s'.heap → Step [] ρ s ρ' s' → VR P s'.heap ρ' v (.ref D) → s'.heap.Ns C m → C ∉ ρ' → C ∉ own → (∀ y c, env.cells.lookup y = some c → c ≠ C) → s.heap.objs.size ≤ C → P.h₀.objs.size ≤ C →
      compPost (model P.prog P.w) A NoE none Q (.ref D) C (.ok .next) s') :
    wpAny (model P.prog P.w) A (comprehension (.DictComp kx vx [⟨target, iter, [], 0⟩] scope pos) scope env fpos newDict false (eval iter env) none) Q NoE s := by
  unfold fDComp at hf
  cases q1 : fi loc hp with
  | none => rw [q1] at hf; cases hf
  | some z1 =>
    obtain ⟨it, hp1⟩ := z1
    rw [q1] at hf
    dsimp only at hf
    obtain ⟨hpr, hf1⟩ := ch_inv hf
    clear hf
    cases q2 : fDCompL aT fk fe k it [] (lini spec loc) hp1 with
    | none => rw [q2] at hf1; cases hf1
    | some z2 =>
      obtain ⟨l, hp3⟩ := z2
      rw [q2] at hf1
      have hf2 : mk hp3 (.dT l) = some (v, hp') := hf1
      clear hf1
      rw [Bool.and_eq_true] at hpr
      obtain ⟨hpr, hqi⟩ := hpr
      have hclos : closureFor scope env = pure (clAcc (fun x => env.cells.lookup x) scope.names []) := closure_eq fun y hy => by
        obtain ⟨i, k, h1, h2⟩ := C.free y hy
        have hil : i < loc.length := by rw [F.len]; exact (List.getElem?_eq_some_iff.mp h1).1
        obtain ⟨c, _, e, _⟩ := F.cel i y k _ h1 h2 (List.getElem?_eq_getElem hil)
        exact ⟨c, e⟩
      refine wpAny_comprehension_free (use := none) (g := ⟨target, iter, [], 0⟩) (gs := []) rfl (hs env) hclos C.kind C.names ?_
      refine wpAny_mono (xi A env own s ρ loc hp it hp1 ha H F q1) (fun xv s1 h1 => wpAny_mono h1 (fun iv s2 ⟨ρ2, a, H2, S2, e, o2, I2⟩ => ?_) fun _ _ h => h.elim) fun _ _ h => h.elim
      subst e
      have F2 := F.step S2
      refine wpAny_newObj_type ?_
      have hlt2 : s2.heap.objs.size < (s2.heap.push { cls := .type "dict", data := .dict #[] }).objs.size := by rw [Heap.size_push]; exact Nat.lt_succ_self _
      have H3 : HI P ρ2 hp1 { s2 with heap := s2.heap.push { cls := .type "dict", data := .dict #[] } } := H2.keeps (s' := { s2 with heap := s2.heap.push { cls := .type "dict", data := .dict #[] } }) grow1 (Nat.le_of_lt hlt2)
      have S3 : Step [] ρ2 s2 ρ2 { s2 with heap := s2.heap.push { cls := .type "dict", data := .dict #[] } } := .grow (t := s2.toks) grow1 (Nat.le_of_lt hlt2)
      have F3 := F2.step S3
      have hD3 : OR P (s2.heap.push { cls := .type "dict", data := .dict #[] }) ρ2 s2.heap.objs.size (.dT []) := newD (.inr rfl)
      generalize hs3 : ({ s2 with heap := s2.heap.push { cls := .type "dict", data := .dict #[] } } : Shared) = s3 at H3 S3 F3 ⊢
      have hz3 : s3.heap.objs.size = s2.heap.objs.size + 1 := by rw [← hs3]; exact Heap.size_push ..
      have hD3 : OR P s3.heap ρ2 s2.heap.objs.size (.dT []) := by rw [← hs3]; exact hD3
      refine newEnv_own C.cf C.pc ?_
      obtain ⟨H4, S4, F4, look, og⟩ := innerFI H3 F3 C.ok C.caps C.cel C.free C.xfree
      show codeAny _ _ (.compStart (.DictComp kx vx [⟨target, iter, [], 0⟩] scope pos) 0 (.ref a) (.ref s2.heap.objs.size) (cenvOf env scope s3.heap.objs.size x)) (compPost _ _ _ none Q (.ref s2.heap.objs.size) s3.heap.objs.size) _
      generalize hs4 : ({ s3 with heap := ownH x (s3.heap.push { cls := .type "dict", data := .dict #[] }) } : Shared) = s4 at H4 S4 ⊢
      have F4 : FI P (G.inner scope vars) (cenvOf env scope s3.heap.objs.size x) (ownL x s3.heap.objs.size) ρ2 (lini spec loc) s4.heap := by rw [← hs4]; exact F4
      have hD4 : OR P s4.heap ρ2 s2.heap.objs.size (.dT []) := hD3.mono S4.imm S4.pre fun ob e => S4.keep _ ob e (fun hm => absurd (H2.new _ hm).2 (Nat.lt_irrefl _)) (by simp)
      have priv : it.priv := by cases it <;> first | trivial | cases hpr
      have Oa := I2.own priv
      have S24 := S3.trans S4
      have ha2 : a < s2.heap.objs.size := Oa.hi
      have hge : ∀ b ∈ ownL x s3.heap.objs.size, s2.heap.objs.size < b := fun b hb => by
        have := og b hb
        rw [hz3] at this
        exact this
      have Oa4 : Own P (cenvOf env scope s3.heap.objs.size x) (ownL x s3.heap.objs.size) ρ2 s4.heap a := by
        refine ⟨Oa.ρ, fun hm => absurd (hge a hm) (Nat.not_lt.mpr (Nat.le_of_lt ha2)), fun y c e => ?_, Oa.lo, Nat.lt_of_lt_of_le ha2 S24.size⟩
        rcases look y c e with h | h
        · rw [hz3] at h
          exact (Nat.ne_of_lt (Nat.lt_of_lt_of_le (Nat.lt_succ_of_lt ha2) h)).symm
        · exact Oa.cel y c h
      have I4 : ItOk P (cenvOf env scope s3.heap.objs.size x) (ownL x s3.heap.objs.size) ρ2 s4.heap a it := ⟨(I2.step S24 fun _ => by simp).r, fun _ => Oa4⟩
      have OD4 : Own P (cenvOf env scope s3.heap.objs.size x) (ownL x s3.heap.objs.size) ρ2 s4.heap s2.heap.objs.size := by
        refine ⟨fun hm => absurd (H2.new _ hm).2 (Nat.lt_irrefl _), fun hm => absurd (hge _ hm) (Nat.lt_irrefl _), fun y c e => ?_, H2.sz, Nat.lt_of_lt_of_le (by rw [hz3]; exact Nat.lt_succ_self _) S4.size⟩
        rcases look y c e with h | h
        · rw [hz3] at h
          exact (Nat.ne_of_lt h).symm
        · exact Nat.ne_of_lt (F2.clt y c h)
      have hDa : s2.heap.objs.size ≠ a := (Nat.ne_of_lt ha2).symm
      have loop : codeAny (model P.prog P.w) A (.compLoop (.DictComp kx vx [⟨target, iter, [], 0⟩] scope pos) 0 (.ref a) (.ref s2.heap.objs.size) (cenvOf env scope s3.heap.objs.size x)) (compPost (model P.prog P.w) A NoE none Q (.ref s2.heap.objs.size) s3.heap.objs.size) s4 := by
        refine dcomp_sound ha y zk z hqq hl hqi H4 F4 I4 OD4 hDa hD4 q2 fun s5 ρ5 loc5 H5 F5 S5 O5 D5 => ?_
        obtain ⟨hn, e⟩ := ch_inv hf2
        cases e
        have hn := Nat.le_of_ble_eq_true hn
        have hle : s.heap.objs.size ≤ s2.heap.objs.size := S2.size
        have tot : Step (s2.heap.objs.size :: a :: ownL x s3.heap.objs.size) ρ s ρ5 s5 := (((S2.trans S24).weaken fun _ h => nomatch h).trans S5)
        have tot0 : Step [] ρ s ρ5 s5 := tot.clear fun b hb => by
          rcases List.mem_cons.mp hb with rfl | hb
          · exact .inl hle
          · rcases List.mem_cons.mp hb with rfl | hb
            · exact o2
            · exact .inl (Nat.le_trans hle (Nat.le_of_lt (hge b hb)))
        have tot1 := tot0.snoc (a := s2.heap.objs.size) hle
        obtain ⟨mm, hNs, _⟩ := F5.ns
        obtain ⟨c1, c2, c3⟩ := F5.off _ F5.L
        have hC : s.heap.objs.size ≤ s3.heap.objs.size := by rw [hz3]; exact Nat.le_trans hle (Nat.le_succ _)
        refine hQ s2.heap.objs.size s3.heap.objs.size s5 (ρ5 ++ [s2.heap.objs.size]) mm (H5.adopt hn O5.ρ O5.lo O5.hi (D5.mono (.refl _) (List.prefix_append _ _) fun _ e => e)) (F.step tot1) tot1 (.ob ?_) hNs (fun hm => ?_) (fun hm => ?_) (fun y c e => ?_) hC c3
        · rw [List.getElem?_append_right (by rw [H5.len]; exact Nat.le_refl _), H5.len]; simp
        · rcases List.mem_append.mp hm with h | h
          · exact c1 h
          · have h : s3.heap.objs.size = s2.heap.objs.size := by simpa using h
            rw [hz3] at h
            exact absurd h (Nat.succ_ne_self _)
        · exact absurd (F.off _ hm).2.1 (Nat.not_lt.mpr hC)
        · exact Nat.ne_of_lt (Nat.lt_of_lt_of_le (F.clt y c e) hC)
      exact codeAny_compStart_dict loop (pSelf H4 I4 (fun i e => by subst e; cases hpr) loop)

theorem SE.dcomp {kx vx target iter : Expr} {scope : Scope} {pos : Pos} {vars : List (Str × VK)} {spec : List (Option Nat)} {x : Option Str} {k : Nat} {fi : Loc → Hp → Option (It × Hp)} {aT : V → Loc → Hp → Option (Loc × Hp)} {fk fe : Loc → Hp → Option (V × Hp)} {qi : It → Bool}
    (C : CompOk G scope vars spec x) (xi : SI P n G iter fi) (y : SA P n (G.inner scope vars) target aT) (zk : SE P n (G.inner scope vars) kx fk) (z : SE P n (G.inner scope vars) vx fe)
    (hqq : qi = It.pr ∨ qi = It.isLi) (hl : Lets P target qi aT) (hs : ∀ env x, foldedSetIterable iter env x = pure x := by intro _ _; rfl) :
    SE P n G (.DictComp kx vx [⟨target, iter, [], 0⟩] scope pos) (fDComp qi k spec fi aT fk fe) := by
  intro A env own s ρ loc hp v hp' ha H F hf
  rw [arm_eval_DictComp]
  show wpAny _ A (comprehension (.DictComp kx vx [⟨target, iter, [], 0⟩] scope pos) scope env _ newDict false (eval iter env) none) _ _ s
  refine dcomp_walk C xi y zk z hqq hl hs ha H F hf fun D Ca s' ρ' m H' F' S' r' hN c1 c2 c3 c4 c5 => ⟨m, hN, fun h' hsb => ?_⟩
  have hz : s'.heap.objs.size ≤ h'.objs.size := Nat.le_of_eq hsb.1.symm
  have S2 : Step [Ca] ρ' s' ρ' { s' with heap := h' } := .change (t := s'.toks) (.inr (by simp)) hsb.extBut (Ns_imm hN) hz
  refine ⟨ρ', H'.other (t := s'.toks) c1 c5 hsb.extBut (Ns_imm hN) hz, ((S'.weaken fun _ h => nomatch h).trans S2).clear fun b hb => ?_, r'.mono S2.imm S2.pre⟩
  obtain rfl : b = Ca := by simpa using hb
  exact .inl c4
end
end
end Mine
end
section
open PySem PyProof.Rows
set_option maxRecDepth 20000
set_option linter.unusedSimpArgs false
set_option linter.unusedVariables false
namespace Mine
noncomputable section

/-- a function of the top means F -/
def FN (P : Par) (n : Nat) (fa : Addr) (F : List V → Hp → Option (V × Hp)) : Prop :=
  (∃ o fd, P.h₀.get? fa = some o ∧ o.data = .func fd) ∧ ∀ A s ρ hp vs ws v hp' (R : Result → Shared → Prop), AOk n A → HI P ρ hp s → VRs P s.heap ρ vs ws → F vs hp = some (v, hp') →
    (∀ v' s', Res P ρ s v hp' v' s' → R (.ok (.ret v')) s') → codeAny (model P.prog P.w) A (.call (.ref fa) ⟨ws, []⟩) R s

theorem FN.call {P : Par} {n : Nat} {fa : Addr} {F : List V → Hp → Option (V × Hp)} (x : FN P n fa F) {A : Around} {s : Shared} {ρ : List Addr} {hp hp' : Hp} {vs : List V} {ws : List Value} {v : V} (ha : AOk n A) (H : HI P ρ hp s) (r : VRs P s.heap ρ vs ws) (h : F vs hp = some (v, hp')) :
    wpAny (model P.prog P.w) A (PySem.call (.ref fa) ws) (Res P ρ s v hp') NoE s := wpAny_call (x.2 A s ρ hp vs ws v hp' _ ha H r h fun _ _ h => h)

/-- how the arguments are bound -/
def Binds (P : Par) (fd : FuncData) (names : List Str) (ext : List V → Hp → Option (List V × Hp)) : Prop :=
  ∀ A s ρ hp vs ws vs' hp', HI P ρ hp s → VRs P s.heap ρ vs ws → ext vs hp = some (vs', hp') →
    wpAny (model P.prog P.w) A (bindArgs fd ⟨ws, []⟩) (fun binds s' => ∃ ρ' ws', HI P ρ' hp' s' ∧ Step [] ρ s ρ' s' ∧ VRs P s'.heap ρ' vs' ws' ∧ vs'.length = names.length ∧ binds = names.zip ws') NoE s

section
variable {P : Par} {n : Nat} {G : Sg}
theorem zip_look {α : Type} : ∀ {names : List Str} {ws : List α} {i : Nat} {x : Str} {w : α}, names.Nodup → names[i]? = some x → ws[i]? = some w → (names.zip ws).lookup x = some w
  | [], _, _, _, _, _, h, _ => by simp at h
  | _ :: _, [], _, _, _, _, _, h => by simp at h
  | y :: names, u :: ws, i, x, w, hn, h1, h2 => by
    cases i with
    | zero => simp at h1 h2; subst h1 h2; simp
    | succ i =>
      have h1 : names[i]? = some x := by simpa using h1
      have h2 : ws[i]? = some w := by simpa using h2
      rw [List.nodup_cons] at hn
      have hne : (x == y) = false := by
        cases q : x == y with
        | false => rfl
        | true =>
          have := eq_of_beq q
          subst this
          exact (hn.1 (List.mem_of_getElem? h1)).elim
      rw [List.zip_cons_cons, List.lookup_cons, hne]
      exact zip_look hn.2 h1 h2
theorem zip_none {α : Type} : ∀ {names : List Str} {ws : List α} {x : Str}, x ∉ names → (names.zip ws).lookup x = none
  | [], _, _, _ => by simp
  | _ :: _, [], _, _ => by simp
  | y :: names, u :: ws, x, h => by
    have h1 : x ≠ y := fun e => h (by simp [e])
    have h2 : x ∉ names := fun e => h (by simp [e])
    have hne : (x == y) = false := by
      cases q : x == y with
      | false => rfl
      | true => exact absurd (eq_of_beq q) h1
    rw [List.zip_cons_cons, List.lookup_cons, hne]
    exact zip_none h2
theorem lookup_rev {α : Type} {l : List (Str × α)} (h : (l.map (·.1)).Nodup) (x : Str) : l.reverse.lookup x = l.lookup x := by
  induction l with
  | nil => rfl
  | cons p l ih =>
    obtain ⟨y, a⟩ := p
    rw [List.map_cons, List.nodup_cons] at h
    rw [List.reverse_cons, List.lookup_append, ih h.2, List.lookup_cons]
    cases q : x == y with
    | true =>
      have := eq_of_beq q
      subst this
      have : l.lookup x = none := by
        cases e : l.lookup x with
        | none => rfl
        | some a => exact absurd (List.mem_map.mpr ⟨_, mem_of_lookup e, rfl⟩) h.1
      rw [this]
      simp
    | false =>
      cases e : l.lookup x with
      | none => simp [List.lookup_cons, q, e]
      | some a => simp [List.lookup_cons, q, e]

theorem FN.of {fa : Addr} {o : Obj} {fd : FuncData} {body : List Stmt} {names : List Str} {ext : List V → Hp → Option (List V × Hp)} {rest : Nat} {f : Loc → Hp → Option (Fl × Loc × Hp)}
    (ho : P.h₀.get? fa = some o) (hd : o.data = .func fd) (hcd : P.h₀.CodeRec fd.code fd.qualname) (hbody : fd.body = .stmts body) (hclo : fd.closure = []) (hglob : fd.globals = mainGlobals) (hbui : fd.builtins = builtinsNs)
    (hG : G.scope = fd.scope) (hok : G.ok = true) (hcell : ∀ x ∈ fd.scope.names, x.2 ≠ .cell) (hnames : (G.vars.map (·.1)).take names.length = names) (hvl : ∀ v ∈ G.vars, v.2 = .loc) (hlen : G.vars.length = names.length + rest)
    (hb : Binds P fd names ext) (hf : SS P n G body f) (hco : fd.scope.isCoroutine = false := by rfl) (hgen : fd.scope.isGenerator = false := by rfl) (hk : fd.scope.kind = .function := by rfl) :
    FN P (n + 1) fa (fun vs hp => match ext vs hp with
      | none => none
      | some (vs', hp1) => fFn rest f vs' hp1) := by
  refine ⟨⟨o, fd, ho, hd⟩, fun A s ρ hp vs ws v hp' R ha H r hF hR => ?_⟩
  dsimp only at hF
  cases q : ext vs hp with
  | none => rw [q] at hF; cases hF
  | some z =>
    obtain ⟨vs', hp1⟩ := z
    rw [q] at hF
    dsimp only at hF
    have hnd : names.Nodup := by rw [← hnames]; exact (Sg.ok_nodup hok).sublist (List.take_sublist _ _)
    have at_name : ∀ {i : Nat} {x : Str} {k : VK}, G.vars[i]? = some (x, k) → i < names.length → names[i]? = some x := fun {i x k} hi hlt => by
      rw [← hnames, List.getElem?_take_of_lt hlt, List.getElem?_map, hi]; rfl
    refine codeAny_call_function ha.room (H.base _ _ ho) hd hco hgen hbody (hcd.keeps fun b o e => H.base b o e) ?_
    refine wpAny_mono (hb A.in1 s ρ hp vs ws vs' hp1 H r q) (fun binds s1 ⟨ρ1, ws', H1, S1, r1, hl, hbd⟩ => ?_) fun _ _ h => h.elim
    subst hbd
    have hwl : ws'.length = names.length := by rw [← r1.length, hl]
    have hloc : ∀ x ∈ names.zip ws', fd.scope.names.lookup x.1 = some .local := fun x hx => by
      obtain ⟨i, hi⟩ := List.mem_iff_getElem?.mp hx
      have h1 : names[i]? = some x.1 := by
        rw [List.getElem?_zip_eq_some] at hi; exact hi.1
      have hlt := (List.getElem?_eq_some_iff.mp h1).1
      have hgv : i < G.vars.length := by omega
      have h2 := List.getElem?_eq_getElem hgv
      have h3 : G.vars[i]? = some (G.vars[i].1, G.vars[i].2) := h2
      have h4 := at_name h3 hlt
      rw [h1] at h4
      have h5 := hvl _ (List.getElem_mem hgv)
      rw [h5, ← Option.some.inj h4] at h3
      have := Sg.ok_at hok h3
      rw [hG] at this
      exact VK.fits_loc this
    refine wpAny_newFunctionEnv hcell hloc (fun h2 hns hsb => ⟨(P.nolimit.keeps fun b o e => H1.base b o e).fresh _ hsb, codeAny_func ?_⟩) hk
    have hk2 : ∀ b o, s1.heap.get? b = some o → h2.get? b = some o := fun b o e => hsb.extBut b o (Nat.ne_of_lt (Heap.lt_size e)) (Heap.get?_push_of_some _ e)
    have hz2 : h2.objs.size = s1.heap.objs.size + 1 := hsb.1.trans (Heap.size_push ..)
    have hz2' : s1.heap.objs.size ≤ h2.objs.size := by rw [hz2]; exact Nat.le_succ _
    have H2 : HI P ρ1 hp1 { s1 with heap := h2, toks := s1.toks + (names.zip ws').length } := (H1.keeps (s' := { s1 with heap := h2 }) hk2 hz2').toks _
    have S2 : Step [] ρ1 s1 ρ1 { s1 with heap := h2, toks := s1.toks + (names.zip ws').length } := .grow hk2 hz2'
    have F2 : FI P G (callEnv fd s1.heap.objs.size fa) [s1.heap.objs.size] ρ1 (vs'.map some ++ List.replicate rest none) h2 := by
      refine ⟨hok, hG.symm, hglob, hbui, by rw [List.length_append, List.length_map, List.length_replicate, hl, hlen], ⟨_, hns, fun i x u hi hu => ?_⟩, fun i x k u hi hkk hu => ?_, List.mem_singleton.mpr rfl, fun a ha => ?_, fun x y c h1 h2 => ?_, fun y c e => ?_, ?_⟩
      · have hzn : ((names.zip ws').map (·.1)).Nodup := by rw [List.map_fst_zip (by rw [hwl]; exact Nat.le_refl _)]; exact hnd
        rw [lookup_rev hzn]
        by_cases hlt : i < names.length
        · rw [List.getElem?_append_left (by rw [List.length_map, hl]; exact hlt), List.getElem?_map] at hu
          have hvi : i < vs'.length := by rw [hl]; exact hlt
          rw [List.getElem?_eq_getElem hvi] at hu
          obtain rfl : u = some vs'[i] := (Option.some.inj hu).symm
          obtain ⟨w, hw, rw'⟩ := r1.get (List.getElem?_eq_getElem hvi)
          rw [zip_look hnd (at_name hi hlt) hw]
          exact rw'.mono (.of hk2) (List.prefix_refl _)
        · rw [List.getElem?_append_right (by rw [List.length_map, hl]; omega)] at hu
          have : u = none := by
            have := List.mem_of_getElem? hu
            exact List.eq_of_mem_replicate this
          subst this
          have hx : x ∉ names := fun hm => by
            obtain ⟨j, hj⟩ := List.mem_iff_getElem?.mp hm
            have hjl := (List.getElem?_eq_some_iff.mp hj).1
            have hgv : j < G.vars.length := by omega
            have h3 : G.vars[j]? = some (G.vars[j].1, G.vars[j].2) := List.getElem?_eq_getElem hgv
            have h4 := at_name h3 hjl
            rw [hj] at h4
            rw [← Option.some.inj h4] at h3
            have := Sg.uniq hok hi h3
            omega
          rw [zip_none hx]
          trivial
      · exact absurd (hvl _ (List.mem_of_getElem? hi)) hkk
      · obtain rfl : a = s1.heap.objs.size := by simpa using ha
        exact ⟨fun hm => absurd (H1.new _ hm).2 (Nat.lt_irrefl _), by rw [hz2]; exact Nat.lt_succ_self _, H1.sz⟩
      · have : (callEnv fd s1.heap.objs.size fa).cells = [] := hclo
        rw [this] at h1; cases h1
      · have : (callEnv fd s1.heap.objs.size fa).cells = [] := hclo
        rw [this] at e; cases e
      · obtain ⟨c, oc, vs, tq, e1, e2, e3, _⟩ := hcd
        exact ⟨c, oc, vs, e1, e2, e3⟩
    unfold fFn at hF
    cases q2 : f (vs'.map some ++ List.replicate rest none) hp1 with
    | none => rw [q2] at hF; cases hF
    | some z2 =>
      obtain ⟨fl, loc', hp2⟩ := z2
      rw [q2] at hF
      dsimp only at hF
      refine hf.use (ha.deeper _) H2 F2 q2 fun fl' s3 ρ3 H3 F3 S3 r3 => ?_
      have S : Step [] ρ s ρ3 s3 := S1.trans ((S2.own'.trans S3).clear fun b hb => .inl (by
        obtain rfl : b = s1.heap.objs.size := by simpa using hb
        exact Nat.le_refl _))
      cases fl with
      | next =>
        cases hF
        obtain rfl : fl' = .next := r3
        exact hR _ _ ⟨ρ3, H3, S, .none⟩
      | ret u =>
        cases hF
        obtain ⟨u', rfl, hu⟩ := r3
        exact hR _ _ ⟨ρ3, H3, S, hu⟩
      | brk => cases hF
      | cont => cases hF
end
end
end Mine
end
section
open PySem PyProof.Rows
set_option maxRecDepth 20000
set_option linter.unusedSimpArgs false
set_option linter.unusedVariables false
namespace Mine
noncomputable section
section
variable {P : Par} {n : Nat} {G : Sg}
theorem SE.callF {x : Str} {px pos : Pos} {e : Expr} {es : List Expr} {fa : Addr} {fs : Loc → Hp → Option (List V × Hp)} {F : List V → Hp → Option (V × Hp)} (hx : SE P n G (.Name x px) (fK (.st fa))) (y : SEs P n G (e :: es) fs) (hF : FN P n fa F)
    (he : ∀ env, starEach (e :: es) env = (false, eval e env) :: starEach es env := by intro _; rfl) : SE P n G (.Call (.Name x px) (e :: es) [] pos) (fCall F fs) := by
  intro A env own s ρ loc hp v hp' ha H Fi hf
  unfold fCall at hf
  cases q : fs loc hp with
  | none => rw [q] at hf; cases hf
  | some z =>
    obtain ⟨vs, hp1⟩ := z
    rw [q] at hf
    dsimp only at hf
    obtain ⟨o, fd, ho, hd⟩ := hF.1
    refine Call_ (hx.use ha H Fi (hp' := hp) rfl fun fv s0 ρ0 H0 F0 S0 r0 => ?_)
    obtain rfl : fv = .ref fa := by cases r0 with | num t e => cases e | st => rfl
    refine callWith_def hd (y.use ha H0 F0 q fun ws s1 ρ1 H1 F1 S1 r1 => ⟨H1.base _ _ ho, ?_⟩) (he env)
    exact wpAny_mono (hF.call ha H1 r1 hf) (fun v' s' r => Res.after (own := own) (S0.trans S1) r) fun _ _ h => h

/-- arguments as they are -/
theorem Binds.plain {fd : FuncData} {names : List Str} {k : Nat} (hk : names.length = k) (h : ∀ ws : List Value, ws.length = k → bindArgs fd ⟨ws, []⟩ = pure (names.zip ws)) :
    Binds P fd names (fun vs hp => ch (Nat.beq vs.length k) (some (vs, hp))) := by
  intro A s ρ hp vs ws vs' hp' H r hf
  obtain ⟨hl, hf⟩ := ch_inv hf
  cases hf
  have hl := Nat.eq_of_beq_eq_true hl
  rw [h ws (by rw [← r.length, hl])]
  exact wpAny_pure ⟨ρ, ws, H, .refl, r, hl.trans hk.symm, rfl⟩

/-- defaults behind the arguments -/
theorem Binds.defaults {fd : FuncData} {names : List Str} {k : Nat} {ds : List V} {T : Addr} {items : List Value} {m : Nat} (hk : names.length = k + ds.length) (ht : P.h₀.get? T = some { cls := .type "tuple", data := .seq items.toArray m })
    (hds : ∀ h ρ, (∀ b o, P.h₀.get? b = some o → h.get? b = some o) → VRs P h ρ ds items)
    (h : ∀ (ws : List Value), ws.length = k → ∀ (M : Model) A (Q : List (Str × Value) → Shared → Prop) E s, s.heap.get? T = some { cls := .type "tuple", data := .seq items.toArray m } → Q (names.zip (ws ++ items)) s → wpAny M A (bindArgs fd ⟨ws, []⟩) Q E s) :
    Binds P fd names (fun vs hp => ch (Nat.beq vs.length k) (some (vs ++ ds, hp))) := by
  intro A s ρ hp vs ws vs' hp' H r hf
  obtain ⟨hl, hf⟩ := ch_inv hf
  cases hf
  have hl := Nat.eq_of_beq_eq_true hl
  exact h ws (by rw [← r.length, hl]) _ _ _ _ _ (H.base _ _ ht) ⟨ρ, _, H, .refl, r.append (hds _ _ H.base), by rw [List.length_append, hl, hk], rfl⟩

/-- defaults behind the arguments, and a dict for the keywords that are not there -/
theorem Binds.kw {fd : FuncData} {names : List Str} {k : Nat} {ds : List V} {items : List Value} (hk : names.length = k + ds.length + 1)
    (hds : ∀ h ρ, (∀ b o, P.h₀.get? b = some o → h.get? b = some o) → VRs P h ρ ds items)
    (h : ∀ (ws : List Value), ws.length = k → ∀ (M : Model) A (Q : List (Str × Value) → Shared → Prop) E s, (∀ b o, P.h₀.get? b = some o → s.heap.get? b = some o) →
      Q (names.zip (ws ++ items ++ [.ref s.heap.objs.size])) { s with heap := s.heap.push { cls := .type "dict", data := .dict #[] } } → wpAny M A (bindArgs fd ⟨ws, []⟩) Q E s) :
    Binds P fd names (fun vs hp => ch (Nat.beq vs.length k) (match mk hp (.dI [] 0) with
      | none => none
      | some (d, hp1) => some (vs ++ ds ++ [d], hp1))) := by
  intro A s ρ hp vs ws vs' hp' H r hf
  obtain ⟨hl, hf⟩ := ch_inv hf
  have hl := Nat.eq_of_beq_eq_true hl
  cases q : mk hp (.dI [] 0) with
  | none => rw [q] at hf; cases hf
  | some z =>
    obtain ⟨d, hp1⟩ := z
    rw [q] at hf
    cases hf
    refine h ws (by rw [← r.length, hl]) _ _ _ _ _ H.base ?_
    have sz : s.heap.objs.size ≤ (s.heap.push { cls := .type "dict", data := .dict #[] }).objs.size := by rw [Heap.size_push]; exact Nat.le_succ _
    obtain ⟨ρ1, H1, S1, r1⟩ := Res.mk (t := s.toks) (a := s.heap.objs.size) H q grow1 sz (Nat.le_refl _) (by rw [Heap.size_push]; exact Nat.lt_succ_self _) (newD (.inl rfl))
    exact ⟨ρ1, _, H1, S1, ((r.mono S1.imm S1.pre).append (hds _ _ H1.base)).append (.cons r1 .nil), by rw [List.length_append, List.length_append, hl, hk]; rfl, rfl⟩
end
end
end Mine
end
section
open PySem PyProof.Rows PySem.W
set_option maxRecDepth 20000
set_option linter.unusedSimpArgs false
set_option linter.unusedVariables false
namespace Mine
noncomputable section
section
variable {P : Par} {n : Nat} {G : Sg}
/-- rows of ints, related -/
inductive RowsR (h : Heap) : List Value → List (List Int) → Prop
  | nil : RowsR h [] []
  | cons {a : Addr} {items : Array Value} {vs : List V} {x : List Int} {ws : List Value} {ks : List (List Int)} {P : Par} {ρ : List Addr} : TupAt h a items → VRs P h ρ vs items.toList → vInts vs = some x → RowsR h ws ks → RowsR h (.ref a :: ws) (x :: ks)
theorem vKeys_rows {h : Heap} {ρ : List Addr} {vs : List V} {ws : List Value} {ks : List (List Int)} (r : VRs P h ρ vs ws) (e : vKeys vs = some ks) : RowsR h ws ks := by
  induction vs generalizing ws ks with
  | nil => cases r; cases e; exact .nil
  | cons v vs ih =>
    cases r with
    | cons a r =>
      unfold vKeys at e
      split at e
      · split at e
        · cases e
        · split at e
          · cases e
          · cases e
            obtain ⟨b, items, rfl, t, q⟩ := a.tup_inv
            exact .cons t q (by assumption) (ih r (by assumption))
      · cases e
theorem RowsR.get {h : Heap} {ws : List Value} {ks : List (List Int)} (r : RowsR h ws ks) {i : Nat} {x : List Int} (e : ks[i]? = some x) : ∃ a items, ws[i]? = some (.ref a) ∧ TupAt h a items ∧ ∃ (P : Par) (ρ : List Addr) (vs : List V), VRs P h ρ vs items.toList ∧ vInts vs = some x := by
  induction r generalizing i with
  | nil => simp at e
  | cons t q v _ ih =>
    cases i with
    | zero => simp at e; subst e; exact ⟨_, _, rfl, t, _, _, _, q, v⟩
    | succ i => simpa using ih (by simpa using e)
theorem RowsR.length {h : Heap} {ws : List Value} {ks : List (List Int)} (r : RowsR h ws ks) : ws.length = ks.length := by
  induction r with
  | nil => rfl
  | cons _ _ _ _ ih => simp [ih]

/-- ints at hand -/
inductive IntsR : List Value → List Int → Prop
  | nil : IntsR [] []
  | cons {i : Int} {t : Tok} {ws : List Value} {ns : List Int} : IntsR ws ns → IntsR (.int i t :: ws) (i :: ns)
theorem ints_of {h : Heap} {ρ : List Addr} {vs : List V} {ws : List Value} {ns : List Int} (r : VRs P h ρ vs ws) (e : vInts vs = some ns) : IntsR ws ns := by
  induction vs generalizing ws ns with
  | nil => cases r; cases e; exact .nil
  | cons v vs ih =>
    cases r with
    | cons a r =>
      unfold vInts at e
      split at e
      · split at e
        · cases e
          obtain ⟨t, rfl⟩ := a.int_inv
          exact .cons (ih r (by assumption))
        · cases e
      · cases e

theorem lex {prog : Program} {w : World} {A : Around} {b : Bool} {Q : Bool → Shared → Prop} {s : Shared} : ∀ {xs ys : List Value} {ms ns : List Int} {i : Nat}, IntsR xs ms → IntsR ys ns → Q (lltB ms ns) s → KatLex prog w A b (decide (xs.length < ys.length)) Q (xs.zip ys) i s
  | [], [], _, _, i, hx, hy, h => by
    cases hx; cases hy
    exact kat_nil h
  | [], y :: ys, _, _, i, hx, hy, h => by
    cases hx; cases hy
    refine kat_nil ?_
    have h : Q true s := h
    simpa using h
  | x :: xs, [], _, _, i, hx, hy, h => by
    cases hx; cases hy
    refine kat_nil ?_
    have h : Q false s := h
    simpa using h
  | _ :: xs, _ :: ys, _, _, i, hx, hy, h => by
    cases hx with
    | @cons a t _ ms hx =>
      cases hy with
      | @cons c u _ ns hy =>
        rw [List.zip_cons_cons]
        refine kat_cons (wpAny_eqBool_int ?_)
        have h : Q (match Z.eqB a c with | true => lltB ms ns | false => Z.ltB a c) s := h
        have hl : decide ((Value.int a t :: xs).length < (Value.int c u :: ys).length) = decide (xs.length < ys.length) := by simp
        rw [hl]
        by_cases e : a = c
        · rw [(Z.eqB_iff a c).mpr e] at h
          rw [show (a == c) = true by simp [e]]
          exact kat_yes (lex hx hy h)
        · have e2 : Z.eqB a c = false := by
            cases q : Z.eqB a c with
            | false => rfl
            | true => exact absurd ((Z.eqB_iff a c).mp q) e
          rw [e2] at h
          rw [show (a == c) = false by simp [e]]
          refine kat_no ?_
          have hz : Z.ltB a c = decide (a < c) := by
            cases q : Z.ltB a c with
            | true => simp [(Z.ltB_iff a c).mp q]
            | false =>
              have : ¬ a < c := fun e => by rw [(Z.ltB_iff a c).mpr e] at q; cases q
              simp [this]
          have h : Q (Z.ltB a c) s := h
          rw [hz] at h
          cases (b && i == 0) with
          | true => exact oneLt_int h
          | false => exact kat_one _ _ (lt_int h)

theorem askRun_wp {α : Type} {prog : Program} {w : World} {A : Around} {b : Bool} {s : Shared} {ws : List Value} {ks : List (List Int)} (r : RowsR s.heap ws ks) {Q : α → Shared → Prop} : ∀ (t : KasT α) {p : α}, askRun ks t = some p → Q p s →
    t.kasWp (kas_ask prog w A (tuples' b) ws) Q s
  | .ret a, p, e, h => by cases e; exact h
  | .ask i j k, p, e, h => by
    unfold askRun at e
    split at e
    · cases e
    · rename_i x hx
      split at e
      · cases e
      · rename_i y hy
        obtain ⟨a1, it1, g1, ⟨n1, t1⟩, _, _, _, q1, v1⟩ := r.get hx
        obtain ⟨a2, it2, g2, ⟨n2, t2⟩, _, _, _, q2, v2⟩ := r.get hy
        show wpAny (model prog w) A (keyLt' (tuples' b) (ws.getD i Value.none) (ws.getD j Value.none)) _ (fun _ _ => False) s
        rw [List.getD_eq_getElem?_getD, List.getD_eq_getElem?_getD, g1, g2]
        refine kat_lt t1 rfl t2 rfl ?_
        have := lex (prog := prog) (w := w) (A := A) (b := b) (Q := fun c s' => (k c).kasWp (kas_ask prog w A (tuples' b) ws) Q s') (s := s) (i := 0) (ints_of q1 v1) (ints_of q2 v2) (askRun_wp r (k (lltB x y)) e h)
        simpa using this

theorem rows_firsts {h : Heap} {ws : List Value} {ks : List (List Int)} (r : RowsR h ws ks) (hf : allFull ks = true) : ∃ fs, KatTups h ws fs ∧ fs.length = ws.length ∧ ∀ v ∈ fs, ∃ i t, v = Value.int i t := by
  induction r with
  | nil => exact ⟨[], .nil, rfl, fun v hv => by simp at hv⟩
  | @cons a items vs x ws ks P ρ t q v r ih =>
    unfold allFull at hf
    split at hf
    · rename_i hx
      obtain ⟨fs, h1, h2, h3⟩ := ih hf
      obtain ⟨m, ht⟩ := t
      have hi := ints_of q v
      cases x with
      | nil => cases hx
      | cons i x =>
        generalize hl : items.toList = l at hi
        cases hi with
        | @cons _ tk ws' _ hi =>
          refine ⟨.int i tk :: fs, .cons ht rfl rfl ?_ h1, by simp [h2], fun v hv => ?_⟩
          · rw [← Array.getElem?_toList, hl]; rfl
          · rcases List.mem_cons.mp hv with rfl | hv
            · exact ⟨i, tk, rfl⟩
            · exact h3 v hv
    · cases hf

theorem VRs.perm {h : Heap} {ρ : List Addr} {vs : List V} {ws : List Value} (r : VRs P h ρ vs ws) : ∀ {l : List Nat}, (∀ i ∈ l, i < vs.length) → VRs P h ρ (l.map fun i => vs.getD i .none) (l.map fun i => ws.getD i Value.none)
  | [], _ => .nil
  | i :: l, hl => by
    have hi := hl i List.mem_cons_self
    obtain ⟨w, h1, h2⟩ := r.get (List.getElem?_eq_getElem hi)
    rw [List.map_cons, List.map_cons]
    refine .cons ?_ (r.perm fun j hj => hl j (List.mem_cons_of_mem _ hj))
    rw [List.getD_eq_getElem?_getD, List.getD_eq_getElem?_getD, h1, List.getElem?_eq_getElem hi]
    exact h2

theorem RowsR.mono {h h' : Heap} (hi : Imm h h') {ws : List Value} {ks : List (List Int)} (r : RowsR h ws ks) : RowsR h' ws ks := by
  induction r with
  | nil => exact .nil
  | cons t q v _ ih => exact .cons (t.imm hi) (q.mono hi (List.prefix_refl _)) v ih

theorem list_sort_rows {prog : Program} {w : World} {A : Around} {E : Value → Shared → Prop} {s : Shared} {a : Addr} {ws : List Value} {ks : List (List Int)} {m : Nat} {out : List Value} {Q : PySem.Fin → Shared → Prop}
    (ho : s.heap.get? a = some (seqObj "list" ws.toArray m)) (r : RowsR s.heap ws ks) (h64 : ws.length < 64)
    (ht : (ws.length < 2 ∧ out = ws) ∨ (2 ≤ ws.length ∧ allFull ks = true ∧ ∃ p, askRun ks (kas_sort ws.length) = some p ∧ p.size = ws.length ∧ out = p.toList.map fun i => ws.getD i Value.none))
    (h : Q (.done (.ret .none)) { s with heap := sortedHeap s.heap a ws out.toArray }) : wpAny (model prog w) A (Builtin.«list.sort» ⟨[.ref a], []⟩) Q E s := by
  have ha : a < s.heap.objs.size := Heap.lt_size ho
  obtain ⟨e1, ho1⟩ : ∃ e1, (s.heap.update a (Obj.mapSeq fun _ => #[])).get? a = some (seqObj "list" #[] e1) := ⟨_, get?_update_seq ho (fun _ => #[])⟩
  have hlo : out.length = ws.length := by
    rcases ht with ⟨_, rfl⟩ | ⟨_, _, p, _, hp, rfl⟩
    · rfl
    · rw [List.length_map, Array.length_toList, hp]
  rw [list_sort_plain]
  refine wpAny_bind (listItems_at ho rfl ?_)
  refine wpAny_bind (listUpdate_at ho rfl ?_ (by rw [List.size_toArray, sizeLine_eq]; omega) (Nat.zero_le _))
  refine wpAny_bind (seqEpoch_at ho1 rfl ?_)
  refine wpAny_bind (wpAny_newTuple ?_ (by show ws.length ≤ _; rw [sizeLine_eq]; omega))
  refine wpAny_bind (wpAny_newList ?_ (Nat.zero_le _))
  refine wpAny_holding ?_
  have ho6 : (((s.heap.update a (Obj.mapSeq fun _ => #[])).push (seqObj "tuple" ws.toArray 0)).push (seqObj "list" #[] 0)).get? a = some (seqObj "list" #[] e1) := by
    rw [Heap.get?_push_ne _ _ _ (by rw [size_push', Heap.size_update]; exact Nat.ne_of_lt (Nat.lt_succ_of_lt ha)), Heap.get?_push_ne _ _ _ (by rw [Heap.size_update]; exact Nat.ne_of_lt ha)]
    exact ho1
  have im : Imm s.heap (((s.heap.update a (Obj.mapSeq fun _ => #[])).push (seqObj "tuple" ws.toArray 0)).push (seqObj "list" #[] 0)) := fun b o k e => by
    have hne : b ≠ a := by
      rintro rfl
      rw [ho] at e; cases e
      exact ImmO.not_cls (fun h => by simp [seqObj] at h) (fun h => by simp [seqObj] at h) (fun h => by simp [seqObj] at h) k
    exact Heap.get?_push_of_some _ (Heap.get?_push_of_some _ ((Heap.get?_update_other _ _ (Ne.symm hne)).trans e))
  show wpAny (model prog w) A _ Q E { s with heap := ((s.heap.update a (Obj.mapSeq fun _ => #[])).push (seqObj "tuple" ws.toArray 0)).push (seqObj "list" #[] 0) }
  dsimp only
  rcases ht with ⟨h2, rfl⟩ | ⟨h2, hf, p, hp, hps, rfl⟩
  · have h2' : out.toArray.size < 2 := by rw [List.size_toArray]; exact h2
    rw [if_pos h2', if_pos h2']
    refine wpAny_bind (wpAny_pure ?_)
    rw [StateT.run_pure]
    refine wpAny_bind (wpAny_pure ?_)
    dsimp only
    refine wpAny_bind (seqEpoch_at ho6 rfl ?_)
    have e : (arrOf (SortSt.mk' general' (out.toArray.zip out.toArray) #[] 7 none)).map (·.2) = out.toArray := by
      show (out.toArray.zip out.toArray).map (·.2) = _
      apply Array.toList_inj.mp
      simp [List.map_snd_zip]
    rw [e]
    refine wpAny_bind (listUpdate_at ho6 rfl ?_ (Nat.zero_le _) (by rw [List.size_toArray, sizeLine_eq]; omega))
    simp only [bne_self_eq_false, Bool.false_eq_true, if_false]
    exact wpAny_pure h
  · have h2' : ¬ ws.toArray.size < 2 := by rw [List.size_toArray]; omega
    rw [if_neg h2', if_neg h2']
    have r6 := r.mono im
    obtain ⟨fs, f1, f2, f3⟩ := rows_firsts r6 hf
    refine wpAny_bind (kat_kind (T := .type "int") f1 (by omega) (fun v hv => ?_) (by decide) ?_)
    · obtain ⟨i, t, rfl⟩ := f3 v hv
      exact Looks.of_pure rfl
    refine wpAny_bind (wpAny_mono (kat_run (vs := ws) (ks := ws) (Q := fun st' s' => s' = _ ∧ failedOf st' = none ∧ (arrOf st').map (·.2) = List.toArray (p.toList.map fun i => ws.getD i Value.none)) (G := fun p' s' => p' = p ∧ s' = _)
      rfl h2 h64 (fun p' st' s' a1 a2 a3 a4 => ⟨a4.2, a3, by rw [← a4.1]; exact kat_snds rfl a2⟩) (askRun_wp r6 _ hp ⟨rfl, rfl⟩)) ?_ fun _ _ e => e)
    rintro ⟨⟨⟩, st'⟩ s' ⟨rfl, hfail, hout⟩
    dsimp only at hfail hout ⊢
    refine wpAny_bind (seqEpoch_at ho6 rfl ?_)
    rw [hout]
    refine wpAny_bind (listUpdate_at ho6 rfl ?_ (Nat.zero_le _) (by rw [List.size_toArray, hlo, sizeLine_eq]; omega))
    rw [hfail]
    simp only [bne_self_eq_false, Bool.false_eq_true, if_false]
    exact wpAny_pure h

theorem sorted_rows {prog : Program} {w : World} {A : Around} {E : Value → Shared → Prop} {s : Shared} {l : Addr} {ws : List Value} {ks : List (List Int)} {out : List Value} {Q : Value → Shared → Prop}
    (hl : s.heap.IsList l ws.toArray) (r : RowsR s.heap ws ks) (h64 : ws.length < 64)
    (ht : (ws.length < 2 ∧ out = ws) ∨ (2 ≤ ws.length ∧ allFull ks = true ∧ ∃ p, askRun ks (kas_sort ws.length) = some p ∧ p.size = ws.length ∧ out = p.toList.map fun i => ws.getD i Value.none))
    (h : Q (.ref (s.heap.objs.size + 1)) { s with heap := sortedAll s.heap ws out.toArray }) : wpAny (model prog w) A (call (.builtin "sorted") [.ref l]) Q E s := by
  refine Calls.call_function_entry kind_sorted plain_sorted entry_sorted (args_sorted1 _) ?_
  unfold Builtin.«sorted»
  refine wpAny_bind (m := checkCount "sorted" 1 1 _) (wpAny_pure ?_)
  refine wpAny_bind (collect_list hl ?_ (by rw [sizeLine_eq]; omega))
  refine wpAny_bind (wpAny_newList ?_ (by rw [sizeLine_eq]; omega))
  have hsz : ((s.heap.push (seqObj "list" #[] 0)).update s.heap.objs.size (Obj.mapSeq (· ++ ws.toArray))).objs.size = s.heap.objs.size + 1 := by
    rw [Heap.size_update, size_push']
  have hoL : (((s.heap.push (seqObj "list" #[] 0)).update s.heap.objs.size (Obj.mapSeq (· ++ ws.toArray))).push (seqObj "list" ws.toArray 0)).get? (s.heap.objs.size + 1) = some (seqObj "list" ws.toArray 0) := by
    rw [← hsz]; exact Heap.get?_push_size _ rfl
  have keep : ∀ b o, s.heap.get? b = some o → (((s.heap.push (seqObj "list" #[] 0)).update s.heap.objs.size (Obj.mapSeq (· ++ ws.toArray))).push (seqObj "list" ws.toArray 0)).get? b = some o := fun b o q => by
    have hlt : b < s.heap.objs.size := Heap.lt_size q
    rw [Heap.get?_push_ne _ _ _ (by rw [hsz]; exact Nat.ne_of_lt (Nat.lt_succ_of_lt hlt)), Heap.get?_update_ne _ _ _ _ (Nat.ne_of_lt hlt), Heap.get?_push_ne _ _ _ (Nat.ne_of_lt hlt)]
    exact q
  show wpAny _ _ _ _ _ { s with heap := ((s.heap.push (seqObj "list" #[] 0)).update s.heap.objs.size (Obj.mapSeq (· ++ ws.toArray))).push (seqObj "list" ws.toArray 0) }
  rw [hsz]
  refine wpAny_bind (wpAny_holding (wpAny_call_entry slot_list_sort ⟨_, hoL, rfl⟩ entry_list_sort ?body (args_list_sort _)))
  case body =>
    exact list_sort_rows (s := { s with heap := ((s.heap.push (seqObj "list" #[] 0)).update s.heap.objs.size (Obj.mapSeq (· ++ ws.toArray))).push (seqObj "list" ws.toArray 0) }) hoL (r.mono (.of keep)) h64 ht ⟨_, rfl, wpAny_pure ⟨_, rfl, h⟩⟩

theorem pSorted : P1 P n (fun v => call (.builtin "sorted") [v]) gSorted := by
  intro A s ρ hp v v' r hp' ha H rv hg
  unfold gSorted at hg
  split at hg
  · obtain ⟨a, hi, rfl⟩ := rv.ob_inv
    split at hg
    · rename_i vs he
      obtain ⟨items, m, hL, rr⟩ := lst_at (H.obj hi he)
      split at hg
      · rename_i ks hk
        have hr := vKeys_rows rr hk
        have hvl : vs.length = items.toList.length := rr.length
        have fin : ∀ {out : List Value} {us : List V}, mk hp (.lst us) = some (r, hp') → VRs P s.heap ρ us out → s.heap.objs.size ≤ (sortedAll s.heap items.toList out.toArray).objs.size →
            Res P ρ s r hp' (.ref (s.heap.objs.size + 1)) { s with heap := sortedAll s.heap items.toList out.toArray } := fun {out us} e q hz => by
          obtain ⟨c, hc⟩ := sortedAll_at s.heap items.toList out.toArray
          exact Res.mk (t := s.toks) H e (fun b o => sortedAll_old) hz (Nat.le_succ _) (Heap.lt_size hc) ⟨out.toArray, c, hc, q.mono (.of fun b o => sortedAll_old) (List.prefix_append _ _)⟩
        split at hg
        · rename_i q
          have hlt : items.toList.length < 2 := by
            rw [← hvl]
            refine Nat.lt_of_not_le fun hle => ?_
            rw [Nat.ble_eq_true_of_le hle] at q; cases q
          exact with_size (sorted_rows (out := items.toList) hL.isList hr (by omega) (.inl ⟨hlt, rfl⟩) fun hz => fin hg rr hz)
        · rename_i q
          obtain ⟨hc, hg2⟩ := ch_inv hg
          clear hg
          rw [Bool.and_eq_true] at hc
          have h2 := Nat.le_of_ble_eq_true q
          have h64 : vs.length < 64 := Nat.le_of_ble_eq_true hc.2
          split at hg2
          · rename_i p hp0
            obtain ⟨hp1, hg3⟩ := ch_inv hg2
            clear hg2
            rw [Bool.and_eq_true, List.all_eq_true] at hp1
            have hps := Nat.eq_of_beq_eq_true hp1.1
            rw [hvl] at hp0 hps h2 h64
            exact with_size (sorted_rows (out := p.toList.map fun i => items.toList.getD i Value.none) hL.isList hr h64 (.inr ⟨h2, hc.1, p, hp0, hps, rfl⟩)
              fun hz => fin hg3 (rr.perm fun i hi => Nat.le_of_ble_eq_true (hp1.2 i hi)) hz)
          · cases hg2
      · cases hg
    · cases hg
  · cases hg
end
end
end Mine
end
section
open PySem PyProof.Rows
set_option maxRecDepth 20000
set_option linter.unusedSimpArgs false
set_option linter.unusedVariables false
namespace Mine
noncomputable section
section
variable {prog : Program} {w : World} {A : Around} {R : Result → Shared → Prop} {s : Shared}
/-- a turn of a list's comprehension, the owned tuple's going told apart -/
theorem lcomp_loop {elt target iter : Expr} {scope : Scope} {pos : Pos} {it acc : Value} {env : Env} (I : Nat → Shared → Prop)
    (turn : ∀ n s, I n s → wpAny (model prog w) A (pyNext it) (fun r s₁ => match r with
      | none => R (.ok .next) s₁
      | some v => wpAny (model prog w) A (letOwnedTupleGo target it v) (fun _ s₂ => wpAny (model prog w) A (assign target env v) (fun _ s₃ => wpAny (model prog w) A (eval elt env) (fun x s₄ =>
          wpAny (model prog w) A (call (.builtin "list.append") [acc, x]) (fun _ s₅ => ∃ m, m < n ∧ I m s₅) NoE s₄) NoE s₃) NoE s₂) NoE s₁) NoE s)
    (n : Nat) (h : I n s) : codeAny (model prog w) A (.compLoop (.ListComp elt [⟨target, iter, [], 0⟩] scope pos) 0 it acc env) R s := by
  refine codeAny_loop rfl I (fun n s hI => ?_) n h
  show wpAny _ A ((compTurn (.ListComp elt [⟨target, iter, [], 0⟩] scope pos) 0 it acc env).onRaise (fun x => do noteFrame x env; theTreesLotGoes x)) _ _ s
  refine wpAny_noted ?_
  rw [compTurn_list1]
  refine wpAny_bind (wpAny_standAt (wpAny_bind (wpAny_mono (turn n s hI) (fun r s₁ h₁ => ?_) fun _ _ h' => h'.elim)))
  cases r with
  | none => exact wpAny_pure h₁
  | some v =>
    exact wpAny_bind (wpAny_mono h₁ (fun _ s₂ h₂ => wpAny_bind (wpAny_mono h₂ (fun _ s₃ h₃ => wpAny_bind (wpAny_bind (wpAny_mono h₃ (fun x s₄ h₄ => wpAny_bind (wpAny_mono h₄
      (fun _ s₅ h₅ => wpAny_pure (wpAny_pure ⟨rfl, h₅⟩)) fun _ _ h' => h'.elim)) fun _ _ h' => h'.elim))) fun _ _ h' => h'.elim)) fun _ _ h' => h'.elim)
end
section
variable {P : Par} {n : Nat} {G : Sg}
/-- the pair's turn: the two names are set, the table is asked -/
theorem pair_turn {A : Around} {s : Shared} {env : Env} {xh xt xl : Str} {ph pt pl p1 p2 p3 p4 ps : Pos} {k1 k2 : Nat} {T D c : Addr} {x y : Value} {m : Str → Option Value} {kvs : List (List V × V)} {ρ : List Addr} {u v r : V} {Q : Value → Shared → Prop}
    (ha : AOk 8 A) (hk : env.scope.kind = .function) (h1 : env.kindOf xh = some .local) (h2 : env.kindOf xt = some .local) (h3 : env.kindOf xl = some .cell ∨ env.kindOf xl = some .free) (hne : xh ≠ xt)
    (hd1 : (xh == ("__debug__" : Str)) = false) (hd2 : (xt == ("__debug__" : Str)) = false) (hd3 : (xl == ("__debug__" : Str)) = false) (hc3 : (xl == ("__classdict__" : Str)) = false)
    (hT : s.heap.IsTuple T #[x, y]) (hn : s.heap.Ns env.locals m) (hcl : env.cells.lookup xl = some c) (hc : s.heap.IsCell c (some (.ref D))) (hcL : c ≠ env.locals) (hDL : D ≠ env.locals)
    {hb : Heap} {xs : List (List Int × Addr × Value)} (Dd : s.heap.DictOfH P.tk D xs) (K : KVT P hb ρ kvs xs) (rx : VR P s.heap ρ u x) (ry : VR P s.heap ρ v y) (hku : knums [u, v] = true) (hg : dgetT kvs [u, v] = some (some r))
    (hQ : ∀ r' h' tk m', (∀ b o, b ≠ env.locals → s.heap.get? b = some o → h'.get? b = some o) → s.heap.objs.size ≤ h'.objs.size → h'.Ns env.locals m' → VR P hb ρ r r' → Q r' { s with heap := h', toks := tk }) :
    wpAny (model P.prog P.w) A (assign (.Tuple [.Name xh ph, .Name xt pt] k1 ps) env (.ref T)) (fun _ s1 => wpAny (model P.prog P.w) A (eval (.Subscript (.Name xl pl) (.Tuple [.Name xh p1, .Name xt p2] k2 p3) p4) env) Q NoE s1) NoE s := by
  rw [arm_assign_Tuple]
  refine wpAny_bind (wpAny_standAt ?_)
  unfold unpack
  have hst : assignEach [.Name xh ph, .Name xt pt] env = [(false, assign (.Name xh ph) env), (false, assign (.Name xt pt) env)] := rfl
  rw [hst]
  refine wpAny_bind (wpAny_holding (with_size (wpAny_unpackItems_tuple (items := #[x, y]) ha.h hT fun h1' hs1 hz1 => ?_)))
  have hk1 : ∀ b o, s.heap.get? b = some o → h1'.get? b = some o := fun b o e => hs1 b o (Nat.ne_of_lt (Heap.lt_size e)) e
  show wpAny _ _ (assignInOrder [assign (.Name xh ph) env, assign (.Name xt pt) env] [x, y]) _ _ _
  have hp : (env.scope.kind == .class || (env.scope.kind == .module && env.locals != env.globals)) = false := by rw [hk]; rfl
  refine wpAny_assignInOrder_more (wpAny_assign_Name (wpAny_storeName_local h1 (hn.keeps hk1) (fun h2' hn2 hs2 => ?_) hp))
  refine wpAny_assignInOrder_more (wpAny_assign_Name (wpAny_storeName_local h2 hn2 (fun h3' hn3 hs3 => ?_) hp))
  refine wpAny_assignInOrder_none ?_
  have hk3 : ∀ b o, b ≠ env.locals → s.heap.get? b = some o → h3'.get? b = some o := fun b o hb e => hs3.extBut b o hb (hs2.extBut b o hb (hk1 b o e))
  have hz3 : s.heap.objs.size ≤ h3'.objs.size := by rw [hs3.1, hs2.1]; exact hz1
  have immL := Ns_imm hn
  have im3 : Imm s.heap h3' := fun b o k e => hk3 b o (fun hb => by subst hb; exact immL o e k) e
  have hc3' : h3'.IsCell c (some (.ref D)) := let ⟨o, ho, q⟩ := hc; ⟨o, hk3 c o hcL ho, q⟩
  have hD3 : h3'.DictOfH P.tk D xs := DictOfH.imm im3 (fun o e => hk3 D o hDL e) Dd
  have rx3 := rx.mono im3 (List.prefix_refl ρ)
  have ry3 := ry.mono im3 (List.prefix_refl ρ)
  have q1 : (fun z => if z = xt then some y else if z = xh then some x else m z) xh = some x := by
    show (if xh = xt then _ else _) = _
    rw [if_neg hne, if_pos rfl]
  have q2 : (fun z => if z = xt then some y else if z = xh then some x else m z) xt = some y := if_pos rfl
  refine Subscript_ (wpAny_Name ?_ hd3)
  have fin : wpAny (model P.prog P.w) A (eval (.Tuple [.Name xh p1, .Name xt p2] k2 p3) env) (fun i s₂ => wpAny (model P.prog P.w) A (subscriptTail (.Name xl pl) (.Tuple [.Name xh p1, .Name xt p2] k2 p3) (.ref D) i) Q NoE s₂) NoE { s with heap := h3', toks := s.toks + 1 + 1 } := by
    refine wpAny_Tuple_spliced (args_cons (wpAny_Name (wpAny_loadName_local hk h1 hn3 q1 (args_cons (wpAny_Name (wpAny_loadName_local hk h2 hn3 q2 (args_nil ⟨by show 2 ≤ sizeLine; rw [sizeLine_eq]; decide, ?_⟩)) hd2))) hd1))
    have g : ∀ b o, h3'.get? b = some o → (h3'.push { cls := .type "tuple", data := .seq [x, y].toArray }).get? b = some o := fun b o e => Heap.get?_push_of_some _ e
    have hT4 : TupAt (h3'.push { cls := .type "tuple", data := .seq [x, y].toArray }) h3'.objs.size #[x, y] := ⟨0, Heap.get?_push_size _ rfl⟩
    have hD4 : (h3'.push { cls := .type "tuple", data := .seq [x, y].toArray }).DictOfH P.tk D xs := DictOfH.imm (.of g) (g D) hD3
    have rr : VRs P (h3'.push { cls := .type "tuple", data := .seq [x, y].toArray }) ρ [u, v] (#[x, y] : Array Value).toList := .cons (rx3.mono (.of g) (List.prefix_refl _)) (.cons (ry3.mono (.of g) (List.prefix_refl _)) .nil)
    obtain ⟨j, hj⟩ := knums_nums hku rr
    have hv := dgetT_sound K hj hg
    cases q : atKey xs j with
    | none => rw [q] at hv; exact hv.elim
    | some pr =>
      rw [q] at hv
      refine tail_any hD4.typeIs slot_dict_getitem.lookup (wpAny_getItem_heap (knd := P.tk) (k := j) (ha.le (by decide : 7 ≤ 8)).units1 (isTupKey hT4 rr hj) hD4 q ?_) rfl
      refine hQ _ _ _ _ (fun b o hb e => g b o (hk3 b o hb e)) (by rw [Heap.size_push]; exact Nat.le_succ_of_le hz3) (hn3.keeps g) hv
  rcases h3 with h3 | h3
  · exact wpAny_loadName_cell hk h3 hcl hc3' fin
  · exact wpAny_loadName_free hk h3 hcl hc3' fin hc3

theorem zipGo_inv {kvs : List (List V × V)} {u v : V} {us vs l : List V} (h : zipGo kvs (u :: us) (v :: vs) = some l) : ∃ r l', knums [u, v] = true ∧ dgetT kvs [u, v] = some (some r) ∧ zipGo kvs us vs = some l' ∧ l = r :: l' := by
  unfold zipGo at h
  split at h
  · rename_i q1
    split at h
    · rename_i r q2
      split at h
      · cases h
      · rename_i l' q3
        cases h
        exact ⟨r, l', q1, q2, q3, rfl⟩
    · cases h
  · cases h

/-- pairs of two rows, looked up: the loop -/
theorem zip_loop {A : Around} {s : Shared} {env : Env} {xh xt xl : Str} {ph pt pl p1 p2 p3 p4 ps : Pos} {k1 k2 : Nat} {iter : Expr} {scope : Scope} {pos : Pos} {D c Ca L z TI TO i1 i2 l1 l2 : Addr} {xs ys : Array Value} {m0 : Str → Option Value} {kvs : List (List V × V)} {ρ : List Addr} {us vs l : List V} {h0 : Heap} {R : Result → Shared → Prop}
    (ha : AOk 8 A) (hk : env.scope.kind = .function) (h1 : env.kindOf xh = some .local) (h2 : env.kindOf xt = some .local) (h3 : env.kindOf xl = some .cell ∨ env.kindOf xl = some .free) (hne : xh ≠ xt)
    (hd1 : (xh == ("__debug__" : Str)) = false) (hd2 : (xt == ("__debug__" : Str)) = false) (hd3 : (xl == ("__debug__" : Str)) = false) (hc3 : (xl == ("__classdict__" : Str)) = false)
    (hcl : env.cells.lookup xl = some c) (hL : env.locals = L)
    (Z : ZipApart z TI TO i1 i2 l1 l2) (hz : h0.objs.size ≤ z) (hTI : h0.objs.size ≤ TI) (hTO : h0.objs.size ≤ TO) (hi1 : h0.objs.size ≤ i1) (hi2 : h0.objs.size ≤ i2) (hLn : h0.objs.size ≤ L) (hCn : h0.objs.size ≤ Ca)
    (ap : Ca ≠ L ∧ L ∉ [z, TI, TO, i1, i2] ∧ Ca ∉ [z, TI, TO, i1, i2])
    (hc : h0.IsCell c (some (.ref D))) (hD : OR P h0 ρ D (.dT kvs)) (hDl : D < h0.objs.size) (hl1 : h0.IsList l1 xs) (hl2 : h0.IsList l2 ys) (rx : VRs P h0 ρ us xs.toList) (ry : VRs P h0 ρ vs ys.toList) (hlen : xs.size ≤ 5000)
    (hk0 : ∀ b o, h0.get? b = some o → s.heap.get? b = some o) (hs0 : h0.objs.size ≤ s.heap.objs.size) (hn : s.heap.Ns L m0) (hA : IsL s.heap Ca #[] 0)
    (hst : IsZip s.heap z TI TO .none ∧ IsPair s.heap TI (.ref i1) (.ref i2) ∧ (∃ a b, IsPair s.heap TO a b) ∧ s.heap.IsListIter i1 l1 0 ∧ s.heap.IsListIter i2 l2 0 ∧ s.heap.IsList l1 xs ∧ s.heap.IsList l2 ys)
    (hg : zipGo kvs us vs = some l)
    (hR : ∀ h' tk m items k, (∀ b o, h0.get? b = some o → h'.get? b = some o) → s.heap.objs.size ≤ h'.objs.size → h'.Ns L m → IsL h' Ca items k → VRs P h0 ρ l items.toList → R (.ok .next) { s with heap := h', toks := tk }) :
    codeAny (model P.prog P.w) A (.compLoop (.ListComp (.Subscript (.Name xl pl) (.Tuple [.Name xh p1, .Name xt p2] k2 p3) p4) [⟨.Tuple [.Name xh ph, .Name xt pt] k1 ps, iter, [], 0⟩] scope pos) 0 (.ref z) (.ref Ca) env) R s := by
  subst hL
  obtain ⟨xs0, Dd0, K0⟩ := hD
  have W := WalksT.zip2 (prog := P.prog) (w := P.w) (A := A) ha.h z TI TO i1 i2 l1 l2 Z xs ys
  have ul : us.length = xs.size := by have := rx.length; simpa using this
  have vl : vs.length = ys.size := by have := ry.length; simpa using this
  have old : ∀ b o, h0.get? b = some o → b ∉ [z, TO, i1, i2] := fun b o e hm => by
    have hlt := Heap.lt_size e
    simp only [List.mem_cons, List.not_mem_nil, or_false] at hm
    rcases hm with h | h | h | h <;> subst h
    · exact absurd hlt (Nat.not_lt.mpr hz)
    · exact absurd hlt (Nat.not_lt.mpr hTO)
    · exact absurd hlt (Nat.not_lt.mpr hi1)
    · exact absurd hlt (Nat.not_lt.mpr hi2)
  have wrL : env.locals ∉ [z, TO, i1, i2] := fun hm => ap.2.1 (by simp at hm ⊢; rcases hm with h | h | h | h <;> simp [h])
  have wrC : Ca ∉ [z, TO, i1, i2] := fun hm => ap.2.2 (by simp at hm ⊢; rcases hm with h | h | h | h <;> simp [h])
  have l1lt : l1 < h0.objs.size := by obtain ⟨_, e, _⟩ := hl1; exact Heap.lt_size e
  have l2lt : l2 < h0.objs.size := by obtain ⟨_, e, _⟩ := hl2; exact Heap.lt_size e
  have fpne : ∀ b ∈ [z, TI, TO, i1, i2, l1, l2], b ≠ env.locals ∧ b ≠ Ca := fun b hb => by
    have : b ∈ [z, TI, TO, i1, i2] ∨ b = l1 ∨ b = l2 := by
      simp at hb ⊢
      rcases hb with h | h | h | h | h | h | h <;> simp [h]
    rcases this with h | h | h
    · exact ⟨fun e => ap.2.1 (e ▸ h), fun e => ap.2.2 (e ▸ h)⟩
    · exact ⟨fun e => absurd (show env.locals < _ by rw [← e, h]; exact l1lt) (Nat.not_lt.mpr hLn), fun e => absurd (show Ca < _ by rw [← e, h]; exact l1lt) (Nat.not_lt.mpr hCn)⟩
    · exact ⟨fun e => absurd (show env.locals < _ by rw [← e, h]; exact l2lt) (Nat.not_lt.mpr hLn), fun e => absurd (show Ca < _ by rw [← e, h]; exact l2lt) (Nat.not_lt.mpr hCn)⟩
  have clt : c ≠ env.locals := fun e => by
    obtain ⟨o, ho, _⟩ := hc
    exact absurd (e ▸ Heap.lt_size ho) (Nat.not_lt.mpr hLn)
  have dlt : D ≠ env.locals := fun e => absurd (e ▸ hDl) (Nat.not_lt.mpr hLn)
  refine lcomp_loop (fun k s1 => ∃ j h1 tk m items kk dn rest, s1 = { s with heap := h1, toks := tk } ∧ (∀ b o, h0.get? b = some o → h1.get? b = some o) ∧ s.heap.objs.size ≤ h1.objs.size ∧ h1.Ns env.locals m ∧ IsL h1 Ca items kk ∧ VRs P h0 ρ dn items.toList ∧
      (IsZip h1 z TI TO .none ∧ IsPair h1 TI (.ref i1) (.ref i2) ∧ (∃ a b, IsPair h1 TO a b) ∧ h1.IsListIter i1 l1 j ∧ h1.IsListIter i2 l2 j ∧ h1.IsList l1 xs ∧ h1.IsList l2 ys) ∧
      zipGo kvs (us.drop j) (vs.drop j) = some rest ∧ l = dn ++ rest ∧ dn.length = j ∧ j ≤ min xs.size ys.size ∧ k = min xs.size ys.size - j) ?_ (min xs.size ys.size) ⟨0, s.heap, s.toks, m0, #[], 0, [], l, rfl, hk0, Nat.le_refl _, hn, hA, .nil, hst, hg, rfl, rfl, Nat.zero_le _, rfl⟩
  rintro k s1 ⟨j, h1', tk, m, items, kk, dn, rest, rfl, hk1, hz1, hn1, hA1, rd, hst1, hgo, hl, hdn, hj, rfl⟩
  by_cases hlt : j < min xs.size ys.size
  · have hux : j < us.length := by rw [ul]; exact Nat.lt_of_lt_of_le hlt (Nat.min_le_left _ _)
    have hvy : j < vs.length := by rw [vl]; exact Nat.lt_of_lt_of_le hlt (Nat.min_le_right _ _)
    rw [List.drop_eq_getElem_cons hux, List.drop_eq_getElem_cons hvy] at hgo
    obtain ⟨r, rest', g1, g2, g3, rfl⟩ := zipGo_inv hgo
    refine with_size (W.item j _ _ _ hlt hst1 fun T vals h2' tk2 hPt hTn hT hMid hk2 hz2 => ?_)
    obtain ⟨x, y, hx, hy, rfl⟩ := hPt
    refine with_size (W.go _ _ _ j T _ _ _ hMid fun h3' hst3 hk3 hz3 => ?_)
    have hTw := W.apart j T h2' hMid
    have hT3 : h3'.IsTuple T #[x, y] := let ⟨o, ho, q⟩ := hT; ⟨o, hk3 T o hTw ho, q⟩
    have k03 : ∀ b o, h0.get? b = some o → h3'.get? b = some o := fun b o e => hk3 b o (old b o e) (hk2 b o (old b o e) (hk1 b o e))
    have k13 : ∀ b o, b ∉ [z, TO, i1, i2] → h1'.get? b = some o → h3'.get? b = some o := fun b o hb e => hk3 b o hb (hk2 b o hb e)
    have hn3 : h3'.Ns env.locals m := let ⟨o, es, ep, ho, q⟩ := hn1; ⟨o, es, ep, k13 _ o wrL ho, q⟩
    have hA3 : IsL h3' Ca items kk := k13 _ _ wrC hA1
    obtain ⟨x', hx', rx'⟩ := rx.get (List.getElem?_eq_getElem hux)
    obtain ⟨y', hy', ry'⟩ := ry.get (List.getElem?_eq_getElem hvy)
    rw [Array.getElem?_toList] at hx' hy'
    rw [hx] at hx'
    rw [hy] at hy'
    cases hx'
    cases hy'
    have i03 : Imm h0 h3' := .of k03
    refine pair_turn (m := m) (hb := h0) (kvs := kvs) (ρ := ρ) (u := us[j]) (v := vs[j]) (r := r) ha hk h1 h2 h3 hne hd1 hd2 hd3 hc3 hT3 hn3 hcl (let ⟨o, ho, q⟩ := hc; ⟨o, k03 c o ho, q⟩) clt dlt (DictOfH.imm i03 (k03 D) Dd0) K0
      (rx'.mono i03 (List.prefix_refl _)) (ry'.mono i03 (List.prefix_refl _)) g1 g2 fun r' h4' tk4 m' hk4 hz4 hn4 rr => ?_
    have hA4 : IsL h4' Ca items kk := hk4 _ _ ap.1 hA3
    have hsz : items.size ≤ 5000 := by
      have e1 : dn.length = items.size := by have := rd.length; simpa using this
      have e2 : min xs.size ys.size ≤ xs.size := Nat.min_le_left _ _
      omega
    refine append_call (s := { s with heap := h4', toks := tk4 }) hA4 (line hsz) ?_
    have hs5 := Heap.SameBut.update h4' Ca (Obj.mapSeq fun xs => xs.push r')
    have k04 : ∀ b o, h0.get? b = some o → h4'.get? b = some o := fun b o e => hk4 b o (fun h => absurd (h ▸ Heap.lt_size e) (Nat.not_lt.mpr hLn)) (k03 b o e)
    have k45 : ∀ b o, b ≠ Ca → h4'.get? b = some o → (h4'.update Ca (Obj.mapSeq fun xs => xs.push r')).get? b = some o := fun b o hb e => hs5.extBut b o hb e
    have k05 : ∀ b o, h0.get? b = some o → (h4'.update Ca (Obj.mapSeq fun xs => xs.push r')).get? b = some o := fun b o e => k45 b o (fun h => absurd (h ▸ Heap.lt_size e) (Nat.not_lt.mpr hCn)) (k04 b o e)
    refine ⟨min xs.size ys.size - (j + 1), by omega, j + 1, _, tk4, m', _, _, dn ++ [r], rest', rfl, k05, ?_, ?_, hA4.update _, ?_, ?_, g3, by rw [hl, List.append_assoc]; rfl, by simp [hdn], hlt, rfl⟩
    · rw [show (h4'.update Ca (Obj.mapSeq fun xs => xs.push r')).objs.size = h4'.objs.size from hs5.1]
      exact Nat.le_trans hz1 (Nat.le_trans hz2 (Nat.le_trans hz3 hz4))
    · exact let ⟨o, es, ep, ho, q⟩ := hn4; ⟨o, es, ep, k45 _ o (Ne.symm ap.1) ho, q⟩
    · rw [Array.toList_push]; exact rd.append (.cons rr .nil)
    · exact W.frame (j + 1) h3' _ hst3 fun b hb o e => k45 b o (fpne b hb).2 (hk4 b o (fpne b hb).1 e)
  · have he : j = min xs.size ys.size := Nat.le_antisymm hj (Nat.not_lt.mp hlt)
    have hrest : rest = [] := by
      rcases Nat.le_total xs.size ys.size with h | h
      · have : us.drop j = [] := List.drop_eq_nil_of_le (by rw [ul, he, Nat.min_eq_left h]; exact Nat.le_refl _)
        rw [this] at hgo
        cases q : vs.drop j <;> (rw [q] at hgo; cases hgo; rfl)
      · have : vs.drop j = [] := List.drop_eq_nil_of_le (by rw [vl, he, Nat.min_eq_right h]; exact Nat.le_refl _)
        rw [this] at hgo
        cases q : us.drop j <;> (rw [q] at hgo; cases hgo; rfl)
    subst hrest
    rw [List.append_nil] at hl
    subst hl
    rw [he] at hst1
    refine with_size (W.done _ _ _ hst1 fun h' tk' hk' hz' => ?_)
    exact hR h' tk' m items kk (fun b o e => hk' b o (old b o e) (hk1 b o e)) (Nat.le_trans hz1 hz') (let ⟨o, es, ep, ho, q⟩ := hn1; ⟨o, es, ep, hk' _ o wrL ho, q⟩) (hk' _ _ wrC hA1) rd

theorem fZip_inv {fl fa fb : Loc → Hp → Option (V × Hp)} {loc : Loc} {hp : Hp} {r : V × Hp} (h : fZip fl fa fb loc hp = some r) : ∃ i hp1 j hp2 l hp3 xs ys kvs vs, fa loc hp = some (.ob i, hp1) ∧ fb loc hp1 = some (.ob j, hp2) ∧ hp2.get i = some (.lst xs) ∧ hp2.get j = some (.lst ys) ∧
    fl loc hp2 = some (.ob l, hp3) ∧ hp2.get l = some (.dT kvs) ∧ zipGo kvs xs ys = some vs ∧ few xs = true ∧ mk hp2 (.lst vs) = some r := by
  unfold fZip at h
  split at h
  · rename_i i hp1 q1
    split at h
    · rename_i j hp2 q2
      split at h
      · rename_i xs q3
        split at h
        · rename_i ys q4
          split at h
          · rename_i l hp3 q5
            split at h
            · rename_i kvs q6
              split at h
              · rename_i vs q7
                obtain ⟨q8, q9⟩ := ch_inv h
                exact ⟨i, hp1, j, hp2, l, hp3, xs, ys, kvs, vs, q1, q2, q3, q4, q5, q6, q7, q8, q9⟩
              · cases h
            · cases h
          · cases h
        · cases h
      · cases h
    · cases h
  · cases h

theorem SE.zipc {e1 e2 : Expr} {x xh xt xl : Str} {px ph pt pl p1 p2 p3 p4 ps pc pos : Pos} {k1 k2 j : Nat} {scope : Scope} {fa fb : Loc → Hp → Option (V × Hp)} (xz : SE P n G (.Name x px) (fK (.ty "zip"))) (xa : SE P n G e1 fa) (xb : SE P n G e2 fb)
    (C : CompOk G scope [(xh, .loc), (xt, .loc), (xl, .cap)] [none, none, some j] none) (h8 : 8 ≤ n) (hne : xh ≠ xt) (hd1 : (xh == ("__debug__" : Str)) = false) (hd2 : (xt == ("__debug__" : Str)) = false) (hd3 : (xl == ("__debug__" : Str)) = false) (hc3 : (xl == ("__classdict__" : Str)) = false)
    (he : ∀ env, starEach [e1, e2] env = (false, eval e1 env) :: starEach [e2] env := by intro _; rfl) (he2 : ∀ env, starEach [e2] env = (false, eval e2 env) :: starEach [] env := by intro _; rfl) :
    SE P n G (.ListComp (.Subscript (.Name xl pl) (.Tuple [.Name xh p1, .Name xt p2] k2 p3) p4) [⟨.Tuple [.Name xh ph, .Name xt pt] k1 ps, .Call (.Name x px) [e1, e2] [] pc, [], 0⟩] scope pos) (fZip (fLoc j) fa fb) := by
  intro A env own s ρ loc hp v hp' ha H F hf
  obtain ⟨i1, hp1, i2, hp2, l, hp3, us, vs, kvs, out, f1, f2, f3, f4, f5, f6, f7, f8, f9⟩ := fZip_inv hf
  rw [eval_ListComp]
  have hclos : closureFor scope env = pure (clAcc (fun x => env.cells.lookup x) scope.names []) := closure_eq fun y hy => by
    obtain ⟨i, k, h1, h2⟩ := C.free y hy
    have hil : i < loc.length := by rw [F.len]; exact (List.getElem?_eq_some_iff.mp h1).1
    obtain ⟨c, _, e, _⟩ := F.cel i y k _ h1 h2 (List.getElem?_eq_getElem hil)
    exact ⟨c, e⟩
  show wpAny _ A (comprehension (.ListComp (.Subscript (.Name xl pl) (.Tuple [.Name xh p1, .Name xt p2] k2 p3) p4) [⟨.Tuple [.Name xh ph, .Name xt pt] k1 ps, .Call (.Name x px) [e1, e2] [] pc, [], 0⟩] scope pos) scope env _ (newList []) false (eval (.Call (.Name x px) [e1, e2] [] pc) env) none) _ _ s
  refine wpAny_comprehension_free (use := none) (g := ⟨.Tuple [.Name xh ph, .Name xt pt] k1 ps, .Call (.Name x px) [e1, e2] [] pc, [], 0⟩) (gs := []) rfl (fun _ => rfl) hclos C.kind C.names ?_
  refine Call_ (xz.use ha H F (hp' := hp) rfl fun fv s0 ρ0 H0 F0 S0 r0 => ?_)
  obtain rfl := r0.ty_inv
  refine PyProof.Rows.callWith_type1 (args_cons (xa.use ha H0 F0 f1 fun a' s1 ρ1 H1 F1 S1 r1 => args_cons (xb.use ha H1 F1 f2 fun b' s2 ρ2 H2 F2 S2 r2 => args_nil ?_) (he2 env)) (he env)) (he env) (by rw [he2 env]; rfl)
  obtain ⟨l1, hi1, rfl⟩ := (r1.mono S2.imm S2.pre).ob_inv
  obtain ⟨l2, hi2, rfl⟩ := r2.ob_inv
  obtain ⟨xs, m1, hl1, q1⟩ := lst_at (H2.obj hi1 f3)
  obtain ⟨ys, m2, hl2, q2⟩ := lst_at (H2.obj hi2 f4)
  have Stot := (S0.trans S1).trans S2
  refine with_size (call_zip_2 hl1.isList hl2.isList fun h3 hz hTI hTO hit1 hit2 hsz3 hk3 hz3 => ?_)
  refine wpAny_pyIter_zip hz ?_
  refine wpAny_newObj_type ?_
  dsimp only
  generalize hlist : ({ cls := .type "list", data := .seq ([] : List Value).toArray } : Obj) = ol
  have k24 : ∀ b o, s2.heap.get? b = some o → (h3.push ol).get? b = some o := fun b o e => Heap.get?_push_of_some _ (hk3 b o e)
  have sz4 : (h3.push ol).objs.size = s2.heap.objs.size + 6 := by rw [Heap.size_push, hsz3]
  have z24 : s2.heap.objs.size ≤ (h3.push ol).objs.size := by rw [sz4]; exact Nat.le_add_right _ _
  have H4 : HI P ρ2 hp2 { s2 with heap := h3.push ol } := H2.keeps (s' := { s2 with heap := h3.push ol }) k24 z24
  have S4 : Step [] ρ2 s2 ρ2 { s2 with heap := h3.push ol } := .grow (t := s2.toks) k24 z24
  have F4 := F2.step S4
  have hD4 : IsL (h3.push ol) h3.objs.size #[] 0 := by rw [← hlist]; exact Heap.get?_push_size _ rfl
  rw [hsz3]
  rw [hsz3] at hD4
  refine newEnv_own C.cf C.pc ?_
  obtain ⟨H5, S5, F5, look, og⟩ := innerFI H4 F4 C.ok C.caps C.cel C.free C.xfree
  have hL : ({ s2 with heap := h3.push ol } : Shared).heap.objs.size = s2.heap.objs.size + 6 := sz4
  rw [hL] at F5 look og ⊢
  show codeAny _ _ (.compStart (.ListComp (.Subscript (.Name xl pl) (.Tuple [.Name xh p1, .Name xt p2] k2 p3) p4) [⟨.Tuple [.Name xh ph, .Name xt pt] k1 ps, .Call (.Name x px) [e1, e2] [] pc, [], 0⟩] scope pos) 0 (.ref (s2.heap.objs.size + 4)) (.ref (s2.heap.objs.size + 5)) (cenvOf env scope (s2.heap.objs.size + 6) none))
    (compPost _ _ _ none (Res P ρ s v hp') (.ref (s2.heap.objs.size + 5)) (s2.heap.objs.size + 6)) { s2 with heap := (h3.push ol).push { cls := .type "dict", data := .dict #[] } }
  have g45 : ∀ b o, (h3.push ol).get? b = some o → ((h3.push ol).push { cls := .type "dict", data := .dict #[] }).get? b = some o := fun b o e => Heap.get?_push_of_some _ e
  have g35 : ∀ b o, h3.get? b = some o → ((h3.push ol).push { cls := .type "dict", data := .dict #[] }).get? b = some o := fun b o e => g45 b o (Heap.get?_push_of_some _ e)
  have sz5 : ((h3.push ol).push { cls := .type "dict", data := .dict #[] }).objs.size = s2.heap.objs.size + 7 := by rw [Heap.size_push, sz4]
  obtain ⟨m5, hn5, _⟩ := F5.ns
  have kd : ∀ {y : Str} {i : Nat}, ([(xh, VK.loc), (xt, .loc), (xl, .cap)] : List (Str × VK))[i]? = some (y, VK.loc) → (cenvOf env scope (s2.heap.objs.size + 6) none).kindOf y = some .local := fun {y i} hi => by
    have := Sg.ok_at F5.ok hi
    unfold Env.kindOf
    rw [F5.scope]
    exact VK.fits_loc this
  have kl : (cenvOf env scope (s2.heap.objs.size + 6) none).kindOf xl = some .cell ∨ (cenvOf env scope (s2.heap.objs.size + 6) none).kindOf xl = some .free := by
    have := Sg.ok_at F5.ok (i := 2) (x := xl) (k := .cap) rfl
    unfold Env.kindOf
    rw [F5.scope]
    exact VK.fits_cap this
  have hkf : (cenvOf env scope (s2.heap.objs.size + 6) none).scope.kind = .function := by rw [F5.scope]; exact Sg.ok_kind F5.ok
  rcases capsOk_at C.caps (i := 2) (x := xl) (k := .cap) rfl with ⟨e, _⟩ | ⟨_, j', k', eb, e3, e4, e5⟩
  · exact absurd rfl e
  · have eb : some (some j) = some (some j') := eb
    obtain rfl : j = j' := Option.some.inj (Option.some.inj eb)
    clear eb
    have hjl : j < loc.length := by rw [F.len]; exact (List.getElem?_eq_some_iff.mp e4).1
    have hlv : lget loc j = some (.ob l) := by
      unfold fLoc at f5
      cases q : lget loc j with
      | none => rw [q] at f5; cases f5
      | some u => rw [q] at f5; cases f5; rfl
    obtain ⟨c, v', c1, c2, c3, _⟩ := F2.cel j xl k' _ e4 e5 (by rw [lget_val loc j hjl, hlv])
    cases v' with
    | none => exact c3.elim
    | some v' =>
      obtain ⟨Dl, hDl, rfl⟩ := VR.ob_inv (show VR P s2.heap ρ2 (.ob l) v' from c3)
      have hcl : (cenvOf env scope (s2.heap.objs.size + 6) none).cells.lookup xl = some c := by
        show (clAcc _ _ _).lookup xl = _
        rw [clAcc_look, if_pos e3, c1]; rfl
      have a1 : l1 < s2.heap.objs.size := Heap.lt_size hl1
      have a2 : l2 < s2.heap.objs.size := Heap.lt_size hl2
      have xsz : xs.size ≤ 5000 := few_arr f8 q1
      have ne : ∀ {i k : Nat}, i ≠ k → s2.heap.objs.size + i ≠ s2.heap.objs.size + k := fun h e => h (Nat.add_left_cancel e)
      have loop : codeAny (model P.prog P.w) A (.compLoop (.ListComp (.Subscript (.Name xl pl) (.Tuple [.Name xh p1, .Name xt p2] k2 p3) p4) [⟨.Tuple [.Name xh ph, .Name xt pt] k1 ps, .Call (.Name x px) [e1, e2] [] pc, [], 0⟩] scope pos) 0 (.ref (s2.heap.objs.size + 4)) (.ref (s2.heap.objs.size + 5)) (cenvOf env scope (s2.heap.objs.size + 6) none))
          (compPost (model P.prog P.w) A NoE none (Res P ρ s v hp') (.ref (s2.heap.objs.size + 5)) (s2.heap.objs.size + 6)) { s2 with heap := (h3.push ol).push { cls := .type "dict", data := .dict #[] } } := by
        refine zip_loop (h0 := s2.heap) (kvs := kvs) (us := us) (vs := vs) (l := out) (ρ := ρ2) (xs := xs) (ys := ys) (D := Dl) (ha.le h8) hkf (kd (i := 0) rfl) (kd (i := 1) rfl) kl hne hd1 hd2 hd3 hc3 hcl rfl (zipApart_new a1 a2) (Nat.le_add_right _ _) (Nat.le_add_right _ _) (Nat.le_add_right _ _) (Nat.le_refl _) (Nat.le_add_right _ _) (Nat.le_add_right _ _) (Nat.le_add_right _ _) ?_ c2 (H2.obj hDl f6) (H2.new _ (List.mem_of_getElem? hDl)).2 hl1.isList hl2.isList q1 q2 xsz
          (fun b o e => g45 b o (k24 b o e)) (by show s2.heap.objs.size ≤ _; rw [sz5]; exact Nat.le_add_right _ _) hn5 (g45 _ _ hD4) ⟨g35 _ _ hz, g35 _ _ hTI, ⟨_, _, g35 _ _ hTO⟩, hit1.at fun o e => g35 _ o e, hit2.at fun o e => g35 _ o e, hl1.isList.at fun o e => g35 _ o (hk3 _ o e), hl2.isList.at fun o e => g35 _ o (hk3 _ o e)⟩ f7 ?_
        · refine ⟨ne (by decide), fun hm => ?_, fun hm => ?_⟩
          · have hm : s2.heap.objs.size + 6 ∈ [s2.heap.objs.size + 4, s2.heap.objs.size + 2, s2.heap.objs.size + 3, s2.heap.objs.size, s2.heap.objs.size + 1] := hm
            simp at hm
          · simp at hm
        · intro h' tk m items kk2 kk hzz hnn hAA rr
          refine ⟨m, hnn, fun h'' hsb => ?_⟩
          have hA2 : IsL h'' (s2.heap.objs.size + 5) items kk2 := hsb.extBut _ _ (ne (by decide)) hAA
          have kf : ∀ b o, s2.heap.get? b = some o → h''.get? b = some o := fun b o e => hsb.extBut b o (fun h => absurd (h ▸ Heap.lt_size e) (Nat.not_lt.mpr (Nat.le_add_right _ _))) (kk b o e)
          have zf : s2.heap.objs.size ≤ h''.objs.size := Nat.le_trans (Nat.le_add_right _ 5) (Nat.le_of_lt (Heap.lt_size hA2))
          exact Res.after (own := own) Stot (Res.mk (t := tk) H2 f9 kf zf (Nat.le_add_right _ _) (Heap.lt_size hA2) ⟨items, kk2, hA2, rr.mono (.of kf) (List.prefix_append _ _)⟩)
      exact codeAny_compStart_list loop (wpAny_pyIter_zip (g35 _ _ hz) loop)
end
end
end Mine
end
section
open PySem PyProof.Rows
set_option maxRecDepth 100000
set_option linter.unusedSimpArgs false
set_option linter.unusedVariables false
namespace Mine
noncomputable section

/-- a dict, by its entries -/
def RawD (h : Heap) (d : Addr) (es : Array DictEntry) (ep : Nat) : Prop := ∃ o, h.get? d = some o ∧ o.ExactDict ∧ o.data = .dict es ep

section
variable {prog : Program} {w : World} {A : Around} {E : Value → Shared → Prop} {s : Shared} {it d : Addr} {es : Array DictEntry} {i ep : Nat}
theorem raw_iter {Q : Value → Shared → Prop} (hd : (d == sysModules) = false) (hm : RawD s.heap d es ep)
    (hQ : Q (.ref s.heap.objs.size) { s with heap := s.heap.push { cls := .type "dict_keyiterator", data := .fields #[.ref d, .int 0 0, .int es.size 0, .int ep 0] } }) :
    wpAny (model prog w) A (pyIter (.ref d)) Q E s := by
  obtain ⟨o, ho, hc, hdat⟩ := id hm
  have hT : s.TypeIs (.ref d) "dict" := ⟨o, ho, hc.1⟩
  refine wpAny_pyIter_slot hT PySem.F.slot_dict_iter (wpAny_call_entry PySem.F.slot_dict_iter hT PySem.F.entry_dict_iter ?_ (PySem.F.args_dict_iter_1 _))
  unfold Builtin.«dict.__iter__»
  refine wpAny_bind ?_
  unfold Builtin.Dict.dictSlotNone
  refine wpAny_bind (wpAny_notOrdered_dict hT ?_)
  show wpAny _ _ (pure (Value.ref d)) _ _ s
  refine wpAny_pure ?_
  show wpAny _ _ (Builtin.Dict.showsAll d >>= _) _ _ s
  unfold Builtin.Dict.showsAll
  rw [if_neg (by rw [hd]; exact Bool.false_ne_true)]
  refine wpAny_bind (wpAny_pure ?_)
  refine wpAny_bind (wpAny_dictEntries ho hdat ?_)
  refine wpAny_bind (wpAny_dictEpoch ho hdat ?_)
  exact wpAny_bind (wpAny_newObj_type (wpAny_pure ⟨_, rfl, "dict_keyiterator", _, ⟨_, Heap.get?_push_size _ rfl, rfl⟩, PySem.F.slot_dict_keyiterator_next.lookup, hQ⟩))

theorem raw_next {Q : Option Value → Shared → Prop} (hh : A.handled = none) (hit : s.heap.IsKeyIter it d i es.size ep) (hm : RawD s.heap d es ep)
    (h1 : ∀ e h', es[i]? = some e → h'.IsKeyIter it d (i + 1) es.size ep → Heap.SameBut it s.heap h' → Q (some e.key) { s with heap := h' })
    (h2 : ∀ h', es[i]? = none → Heap.ExtBut it s.heap h' → Q none { s with heap := h' }) :
    wpAny (model prog w) A (pyNext (.ref it)) Q E s := by
  obtain ⟨o, ho, hc, hd⟩ := id hit
  obtain ⟨od, hod, hcd, hdd⟩ := id hm
  unfold pyNext
  refine wpAny_bind (wpAny_attempt (wpAny_callSpecial?_slot (name := Str.ofString "__next__") hit.typeIs PySem.F.slot_dict_keyiterator_next
    (wpAny_call_entry PySem.F.slot_dict_keyiterator_next hit.typeIs PySem.F.entry_dict_keyiterator_next ?_ (PySem.F.args_dict_keyiterator_next_1 _))))
  refine wpAny_bind (wpAny_pure ?_)
  refine wpAny_bind ?_
  refine wpAny_bind ?_
  first | refine wpAny_bind (wpAny_typeNameOfWhole_keyiter hit.typeIs (wpAny_pure ?_)) | refine wpAny_bind (wpAny_typeNameOf_keyiter hit.typeIs (wpAny_pure ?_))
  refine wpAny_bind (wpAny_fieldsOf ho hd ?_)
  have hown : Builtin.Dict_items.ownsTuple "dict_keyiterator" = false := by decide
  simp only [hown, Bool.false_eq_true, if_false]
  show wpAny _ _ (if (Value.ref d == Value.none) = true then _ else _) _ _ s
  rw [if_neg (show ¬ ((Value.ref d == Value.none) = true) from Bool.false_ne_true)]
  refine wpAny_bind (wpAny_pure ?_)
  refine wpAny_bind (wpAny_dictEntries hod hdd ?_)
  rw [if_neg (by simp)]
  refine wpAny_bind (wpAny_pure ?_)
  refine wpAny_bind (wpAny_dictEpoch hod hdd ?_)
  rw [if_neg (by simp)]
  refine wpAny_pure ?_
  simp only [show ¬ ((i : Int) < 0) from by omega, if_false, Int.toNat_natCast]
  cases q : es[i]? with
  | some e =>
    refine wpAny_bind ?_
    first | refine wpAny_bind (wpAny_typeNameOfWhole_keyiter hit.typeIs (wpAny_pure ?_)) | refine wpAny_bind (wpAny_typeNameOf_keyiter hit.typeIs (wpAny_pure ?_))
    refine wpAny_bind (wpAny_isOneOf_keyiter hit.typeIs ?_)
    show wpAny _ _ (setField (.ref it) 1 (rawInt ((i : Int) + 1)) >>= _) _ _ s
    refine wpAny_bind (wpAny_setField ho hd (by simp) ?_)
    have hit' : (s.heap.update it (Obj.mapFields (·.setIfInBounds 1 (rawInt ((i : Int) + 1))))).IsKeyIter it d (i + 1) es.size ep :=
      ⟨_, Heap.get?_update_self _ ho (Obj.isFreed_of_fields (Obj.data_mapFields hd _)), (Obj.cls_mapFields ..).trans hc, by rw [Obj.data_mapFields hd]; simp [rawInt]⟩
    refine wpAny_bind (wpAny_holding ?_)
    refine wpAny_bind (wpAny_isOneOf_keyiter (s := { s with heap := s.heap.update it (Obj.mapFields (·.setIfInBounds 1 (rawInt ((i : Int) + 1)))) }) hit'.typeIs ?_)
    show wpAny _ _ (pure e.key) _ _ _
    exact wpAny_pure (wpAny_pure ⟨_, rfl, wpAny_pure (h1 e _ q hit' (Heap.SameBut.update ..))⟩)
  | none =>
    refine wpAny_bind ?_
    first | refine wpAny_bind (wpAny_typeNameOfWhole_keyiter hit.typeIs (wpAny_pure ?_)) | refine wpAny_bind (wpAny_typeNameOf_keyiter hit.typeIs (wpAny_pure ?_))
    show wpAny _ _ (setField (.ref it) 0 .none >>= _) _ _ s
    refine wpAny_bind (wpAny_setField ho hd (by simp) ?_)
    show wpAny _ _ (newExc (.type "StopIteration") [] >>= _) _ _ _
    refine wpAny_bind ?_
    simp only [newExc, newTuple]
    refine wpAny_bind (wpAny_newObj_type ?_ (by size_fits))
    refine wpAny_bind (m := firstArgMember _ _) (wpAny_of_eq (a := Value.none) (by first | rfl | (simp only [firstArgMember]; rfl)) ?_)
    refine wpAny_newObj_type ?_ (by size_fits)
    simp only [raiseNew]
    refine wpAny_bind (wpAny_handled ?_)
    rw [show A.in1.handled = none from hh]
    refine wpAny_bind (wpAny_pure (wpAny_throw ?_))
    refine wpAny_bind (wpAny_isInstance (T := "StopIteration") (b := true) ⟨_, Heap.get?_push_size _ rfl, rfl⟩ isSubtype_stop ?_)
    exact wpAny_pure (h2 _ q (((Heap.SameBut.update ..).extBut.push _).push _))

theorem RawD.at {h h' : Heap} (x : RawD h d es ep) (e : ∀ o, h.get? d = some o → h'.get? d = some o) : RawD h' d es ep := let ⟨o, ho, r⟩ := x; ⟨o, e _ ho, r⟩

theorem walksRaw (hh : A.handled = none) (I d : Addr) (hne : d ≠ I) (es : Array DictEntry) (ep : Nat) :
    Walks prog w A I [I, d] [I] es.size (fun i v => ∃ e, es[i]? = some e ∧ v = e.key) (fun i h => h.IsKeyIter I d i es.size ep ∧ RawD h d es ep) where
  sub := fun b hb => by simp at hb; simp [hb]
  frame := fun _ _ _ st hk => ⟨st.1.at fun o e => hk I (by simp) o e, st.2.at fun o e => hk d (by simp) o e⟩
  item := fun i s Q E hi st hQ => by
    refine raw_next hh st.1 st.2 (fun e h' he hit' hs' => ?_) fun h' he => ?_
    · exact hQ e.key h' s.toks ⟨e, he, rfl⟩ ⟨hit', st.2.at fun o q => hs'.extBut d o hne q⟩ fun b o hb q => hs'.extBut b o (fun h => hb (by simp [h])) q
    · rw [Array.getElem?_eq_getElem hi] at he; cases he
  done := fun s Q E st hQ => by
    refine raw_next hh st.1 st.2 (fun e h' he _ _ => ?_) fun h' _ hs' => hQ h' s.toks fun b o hb q => hs' b o (fun h => hb (by simp [h])) q
    rw [Array.getElem?_eq_none (Nat.le_refl _)] at he; cases he
  self := fun _ _ _ _ st hQ => wpAny_pyIter_keyiter st.1 hQ

theorem hint_dict {Q : Bool → Shared → Prop} (hT : s.TypeIs (.ref d) "dict") (h : Q false s) : wpAny (model prog w) A (Builtin.List.listLengthHint (.ref d)) Q E s := by
  unfold Builtin.List.listLengthHint
  refine wpAny_bind (wpAny_specialOf hT PySem.F.slot_dict_len.lookup ?_)
  generalize hid : ("dict.__len__" : String) = id0
  wp_delta
  rw [show splitId id0 = some ("dict", "__len__") from by subst hid; decide +kernel]
  subst hid
  refine wpAny_bind (wpAny_isInstance (T := "dict") (b := true) hT (by rw [isSubtype_type]; kernel_rfl) ?_)
  refine wpAny_ite_split (fun hab => absurd hab (by decide)) (fun _ => ?_)
  refine wpAny_ite_split (fun _ => ?_) (fun hab => absurd (by decide +kernel) hab)
  refine wpAny_bind (wpAny_typeOf hT ?_)
  exact wpAny_pure h

theorem extend_raw {R : Result → Shared → Prop} {S : Addr} {res : Value} {c₀ : Nat} (hh : A.handled = none) (hd : (d == sysModules) = false) (hm : RawD s.heap d es ep) (hn : es.size ≤ sizeLine)
    (hS : s.heap.get? S = some { cls := .type "list", data := .seq #[] c₀ })
    (hR : ∀ h' tk acc' c', (∀ b o, b ≠ S → s.heap.get? b = some o → h'.get? b = some o) → h'.get? S = some { cls := .type "list", dict := none, data := .seq acc' c', slots := #[] } →
      ItemsOf (fun i v => ∃ e, es[i]? = some e ∧ v = e.key) acc' es.size → R (.ok (.ret res)) { s with heap := h', toks := tk }) :
    wpAny (model prog w) A.in1 (Builtin.List.listExtendWith (.ref S) (.ref d) res)
      (fun fin s' => match fin with | .done f => R (.ok f) s' | .again c' => c'.quiet = true ∧ codeAny (model prog w) A c' R s') (fun e s' => R (.error e) s') s := by
  obtain ⟨o, ho, hc, hdat⟩ := id hm
  have hT : s.TypeIs (.ref d) "dict" := ⟨o, ho, hc.1⟩
  have hSd : S ≠ d := fun e => by rw [e, ho] at hS; cases hS; have := hc.1; simp at this
  have hSlt : S < s.heap.objs.size := Heap.lt_size hS
  have hdlt : d < s.heap.objs.size := Heap.lt_size ho
  have hSI : S ≠ s.heap.objs.size := Nat.ne_of_lt hSlt
  have hdI : d ≠ s.heap.objs.size := Nat.ne_of_lt hdlt
  have hSf : S ∉ [s.heap.objs.size, d] := fun hm => by
    rcases List.mem_cons.mp hm with h | h
    · exact hSI h
    · exact hSd (List.mem_singleton.mp h)
  have W := (walksRaw (prog := prog) (w := w) (A := A.in1) hh s.heap.objs.size d hdI es ep).toS
  unfold Builtin.List.listExtendWith
  refine wpAny_bind (wpAny_typeOf (T := "dict") hT ?_)
  have h1 : Builtin.List.listSameRef (.ref S) (.ref d) = false := by simp [Builtin.List.listSameRef, hSd]
  have h2 : (Value.type "dict" == Value.type "list") = false := by decide
  have h3 : (Value.type "dict" == Value.type "tuple") = false := by decide
  simp only [h1, h2, h3, Bool.or_false, Bool.false_eq_true, if_false]
  refine wpAny_bind (raw_iter hd hm ?_)
  have grow : ∀ b ob, s.heap.get? b = some ob → (s.heap.push { cls := .type "dict_keyiterator", data := .fields #[.ref d, .int 0 0, .int es.size 0, .int ep 0] }).get? b = some ob := fun b ob e => Heap.get?_push_of_some _ e
  refine wpAny_bind (wpAny_holding (hint_dict ⟨o, grow _ _ ho, hc.1⟩ ?_))
  have hit : (s.heap.push { cls := .type "dict_keyiterator", data := .fields #[.ref d, .int 0 0, .int es.size 0, .int ep 0] }).IsKeyIter s.heap.objs.size d 0 es.size ep := ⟨_, Heap.get?_push_size _ rfl, rfl, rfl⟩
  have key : ∀ (h : Heap) (c₁ : Nat), h.IsKeyIter s.heap.objs.size d 0 es.size ep → (∀ b o, b ≠ S → s.heap.get? b = some o → h.get? b = some o) → h.get? S = some { cls := .type "list", data := .seq #[] c₁ } →
      codeAny (model prog w) A (.builtin "list.extend.loop" ⟨[.ref S, .ref s.heap.objs.size, res], []⟩) R { s with heap := h } := by
    intro h c₁ hit hk hS₁
    refine codeAny_extend_loopS W hn S hSf res es.size 0 _ #[] c₁ rfl (Nat.zero_le _) ⟨hit, hm.at fun o e => hk d o (Ne.symm hSd) e⟩ hS₁ (ItemsOf.nil _) fun s' acc' c' hmv hS' hacc => ?_
    rw [Moved.eq_with hmv]
    refine hR s'.heap s'.toks acc' c' (fun b o hb e => hmv.heap b o (fun hmem => ?_) (hk b o hb e)) hS' hacc
    rcases List.mem_cons.mp hmem with e' | hmem
    · exact hb e'
    · exact absurd (Heap.lt_size e) (by rw [List.mem_singleton.mp hmem]; exact Nat.lt_irrefl _)
  have hS₁ := grow _ _ hS
  refine wpAny_ite_split (fun _ => ?_) (fun _ => wpAny_pure ⟨plainId_quiet PySem.F.plain_extend_loop _, key _ c₀ hit (fun b o _ e => grow b o e) hS₁⟩)
  refine wpAny_bind (wpAny_rule ?_)
  refine wpAny_bind ?_
  show wpAny _ _ (updateSeq S (·.push .none) >>= fun _ => updateSeq S (·.pop)) _ _ _
  refine wpAny_bind (wpAny_updateSeq hS₁ rfl ?_)
  have hS₂ := Heap.get?_update_self (Obj.mapSeq (·.push Value.none)) hS₁ rfl
  refine wpAny_updateSeq (hz := by seq_fits) hS₂ rfl ?_
  have hS₃ := Heap.get?_update_self (Obj.mapSeq (·.pop)) hS₂ rfl
  refine wpAny_pure ⟨plainId_quiet PySem.F.plain_extend_loop _, key _ _ ?_ (fun b o hb e => ?_) hS₃⟩
  · obtain ⟨oi, hoi, r⟩ := hit
    exact ⟨oi, (Heap.get?_update_other _ _ hSI).trans ((Heap.get?_update_other _ _ hSI).trans hoi), r⟩
  · exact (Heap.get?_update_other _ _ (Ne.symm hb)).trans ((Heap.get?_update_other _ _ (Ne.symm hb)).trans (grow b o e))

theorem call_list_raw {Q : Value → Shared → Prop} (hh : A.handled = none) (hd : (d == sysModules) = false) (hm : RawD s.heap d es ep) (hn : es.size ≤ sizeLine)
    (hQ : ∀ h' tk acc' c', (∀ b o, s.heap.get? b = some o → h'.get? b = some o) → h'.get? s.heap.objs.size = some { cls := .type "list", dict := none, data := .seq acc' c', slots := #[] } →
      ItemsOf (fun i v => ∃ e, es[i]? = some e ∧ v = e.key) acc' es.size → Q (.ref s.heap.objs.size) { s with heap := h', toks := tk }) :
    wpAny (model prog w) A (call (.type "list") [.ref d]) Q E s := by
  obtain ⟨o, ho, hc, hdat⟩ := id hm
  refine callType_codes (Q₁ := fun obj s₁ => obj = .ref s.heap.objs.size ∧ s₁ = { s with heap := s.heap.push { cls := .type "list", data := .seq #[] } }) PySem.F.called_list (PySem.F.typeCall_list_1 _) PySem.F.entry_list_init
    (code_list_new _ ⟨rfl, rfl⟩) fun obj s₁ h₁ => ?_
  obtain ⟨rfl, rfl⟩ := h₁
  have hS : (s.heap.push { cls := .type "list", data := .seq #[] }).get? s.heap.objs.size = some { cls := .type "list", data := .seq #[] } := Heap.get?_push_size _ rfl
  refine ⟨⟨_, hS, rfl⟩, PySem.F.args_list_init_2 _ _, ?_⟩
  show wpAny _ _ (do let old ← Builtin.List.listItems (.ref s.heap.objs.size); Builtin.List.listUpdate (.ref s.heap.objs.size) (fun _ => #[]); letGo old.toList.reverse; Builtin.List.listExtendWith (.ref s.heap.objs.size) (.ref d) .none) _ _ _
  refine wpAny_bind ?_
  unfold Builtin.List.listItems
  refine wpAny_bind (wpAny_seqItems hS rfl (wpAny_pure ?_))
  show wpAny _ _ (updateSeq s.heap.objs.size (fun _ => #[]) >>= fun _ => letGo (#[] : Array Value).toList.reverse >>= fun _ => Builtin.List.listExtendWith (.ref s.heap.objs.size) (.ref d) .none) _ _ _
  refine wpAny_bind (wpAny_updateSeq hS rfl ?_)
  have hS₂ := Heap.get?_update_self (Obj.mapSeq (fun _ => (#[] : Array Value))) hS rfl
  have oth : ∀ b o, s.heap.get? b = some o → ((s.heap.push { cls := .type "list", data := .seq #[] }).update s.heap.objs.size (Obj.mapSeq (fun _ => (#[] : Array Value)))).get? b = some o :=
    fun b o e => (Heap.get?_update_other _ _ (Nat.ne_of_gt (Heap.lt_size e))).trans (Heap.get?_push_of_some _ e)
  refine wpAny_bind (wpAny_letGo ?_)
  refine extend_raw (A := A.in1) hh hd (hm.at fun o e => oth d o e) hn hS₂ fun h' tk acc' c' hk hS' hacc => ?_
  exact ⟨rfl, hQ h' tk acc' c' (fun b o e => hk b o (Nat.ne_of_lt (Heap.lt_size e)) (oth b o e)) hS' hacc⟩
end

section
variable {P : Par} {n : Nat} {G : Sg}
theorem keysR {h : Heap} {ρ : List Addr} {kvs : List (List V × V)} {xs : List (List Int × Addr × Value)} (K : KVT P h ρ kvs xs) : VRs P h ρ (kvs.map fun x => .tup x.1) (xs.map fun x => Value.ref x.2.1) := by
  induction K with
  | nil => exact .nil
  | cons a b c _ ih => obtain ⟨items, t, r⟩ := b; exact .cons (.tup t r) ih

theorem pList : P1 P n (fun v => call (.type "list") [v]) gList := by
  intro A s ρ hp v v' r hp' ha H rv hg
  by_cases hv : ∀ i, v ≠ .ob i
  · exact pList0 ha H rv hv hg
  · obtain ⟨i, rfl⟩ : ∃ i, v = .ob i := by
      refine Classical.byContradiction fun h => hv fun i e => h ⟨i, e⟩
    unfold gList at hg
    dsimp only at hg
    split at hg
    · rename_i kvs he
      obtain ⟨a, hi, rfl⟩ := rv.ob_inv
      obtain ⟨hf, hg2⟩ := ch_inv hg
      clear hg
      obtain ⟨xs, ⟨o, es, ep, ho, hc, hd, hes, hx, hn⟩, K⟩ := H.obj hi he
      have hsz : es.size = xs.length := size_of_entries hes
      have hl : es.size ≤ 5000 := by rw [hsz, ← K.length]; exact Nat.le_of_ble_eq_true hf
      refine with_size (call_list_raw ha.h (H.notSys (List.mem_of_getElem? hi)) ⟨o, ho, hc, hd⟩ (line hl) fun h' tk acc' c' hk hS hacc hz => ?_)
      have e : acc'.toList = xs.map fun x => Value.ref x.2.1 := by
        obtain ⟨h1, h2⟩ := hacc
        refine List.ext_getElem? fun j => ?_
        rw [Array.getElem?_toList, List.getElem?_map]
        cases q : acc'[j]? with
        | none =>
          have : xs[j]? = none := by
            rw [List.getElem?_eq_none_iff, ← hsz, ← h1]
            exact Array.getElem?_eq_none_iff.mp q
          rw [this]; rfl
        | some u =>
          obtain ⟨en, g1, rfl⟩ := h2 j u q
          rw [entry_at hes] at g1
          cases q2 : xs[j]? with
          | none => rw [q2] at g1; cases g1
          | some x => rw [q2] at g1; cases g1; rfl
      refine Res.mk (t := tk) H hg2 hk hz (Nat.le_refl _) (Heap.lt_size hS) ⟨acc', c', hS, ?_⟩
      rw [e]
      exact (keysR K).mono (.of hk) (List.prefix_append _ _)
    · cases hg
end
end
end Mine
end
section
open PySem PyProof.Rows
set_option maxRecDepth 20000
set_option linter.unusedSimpArgs false
set_option linter.unusedVariables false
namespace Mine
noncomputable section

/-- the n-th drawn number -/
def Par.draw (P : Par) (i : Nat) : Int := if i = 0 then P.D0 else if i = 1 then P.D1 else P.D2

/-- the script and what stands in for it -/
structure DrawOk (P : Par) (sa ra : Addr) : Prop where
  rest : P.mg "_law_rest" = some (.ref ra)
  tup : ∃ t0 t1 t2 m, P.h₀.get? ra = some { cls := .type "tuple", data := .seq #[.int 0 t0, .int 17 t1, .int 5 t2] m }
  scr : ∃ items, P.h₀.IsList sa items ∧ items.size ≤ 5000 ∧ (∀ i, i < 3 → i < items.size → ∃ t, items[i]? = some (.int (P.draw i) t)) ∧ (∀ i, i < 3 → ¬ i < items.size → (#[0, 17, 5] : Array Int)[i]? = some (P.draw i))

section
variable {P : Par} {n : Nat} {G : Sg}
theorem draw_elt {sa ra : Addr} {xk xs xl : Str} {p1 p2 p3 p4 p5 p6 p7 p8 p9 p10 p11 : Pos} (D : DrawOk P sa ra) (h8 : 8 ≤ n) (hk : G.vars[0]? = some (xk, .loc)) (hs : G.vars[1]? = some (xs, .cap))
    (hlen : SE P n G (.Name xl p3) (fK (.bi "len"))) (hr : G.scope.names.lookup ("_law_rest" : Str) = some .globalImplicit) (hd1 : (xk == ("__debug__" : Str)) = false) (hd2 : (xs == ("__debug__" : Str)) = false) (hc1 : (xk == ("__classdict__" : Str)) = false) (hc2 : (xs == ("__classdict__" : Str)) = false) :
    SE P n G (.IfExp (.Compare (.Name xk p1) [.Lt] [.Call (.Name xl p3) [.Name xs p4] [] p5] p2) (.Subscript (.Name xs p6) (.Name xk p7) p8) (.Subscript (.Name "_law_rest" p9) (.Name xk p10) p11) p2) (fun loc hp => match lget loc 1 with
      | some (.st a) => ch (Nat.beq a sa) (fDrawE loc hp)
      | _ => none) := by
  intro A env own s ρ loc hp v hp' ha H F hf
  dsimp only at hf
  split at hf
  · rename_i a hs1
    obtain ⟨ha1, hf2⟩ := ch_inv hf
    clear hf
    have ha1 := Nat.eq_of_beq_eq_true ha1
    subst ha1
    obtain ⟨items, hl, hsz, hd, hn⟩ := D.scr
    have hl' : s.heap.IsList a items := let ⟨o, ho, r⟩ := hl; ⟨o, H.base _ _ ho, r⟩
    obtain ⟨i, hi, hk0, hv, rfl⟩ : ∃ i : Nat, i < 3 ∧ lget loc 0 = some (.int (i : Int)) ∧ (∀ t, VR P s.heap ρ v (.int (P.draw i) t)) ∧ hp' = hp := by
      unfold fDrawE at hf2
      split at hf2
      · rename_i i hi
        split at hf2
        · rename_i q
          have := (PySem.W.Z.eqB_iff _ _).mp q
          subst this
          cases hf2
          exact ⟨0, by decide, hi, fun t => .num t rfl, rfl⟩
        · split at hf2
          · rename_i q
            have := (PySem.W.Z.eqB_iff _ _).mp q
            subst this
            cases hf2
            exact ⟨1, by decide, hi, fun t => .num t rfl, rfl⟩
          · split at hf2
            · rename_i q
              have := (PySem.W.Z.eqB_iff _ _).mp q
              subst this
              cases hf2
              exact ⟨2, by decide, hi, fun t => .num t rfl, rfl⟩
            · cases hf2
      · cases hf2
    have fk : fLoc 0 loc hp' = some (.int (i : Int), hp') := by unfold fLoc; rw [hk0]
    have fs : fLoc 1 loc hp' = some (.st a, hp') := by unfold fLoc; rw [hs1]
    have xk0 : ∀ p, SE P n G (.Name xk p) (fLoc 0) := fun p => SE.loc hk hd1 hc1
    have xs0 : ∀ p, SE P n G (.Name xs p) (fLoc 1) := fun p => SE.loc hs hd2 hc2
    refine wpAny_IfExp (wpAny_isTrue_Compare1 ((xk0 p1).use ha H F fk fun k' s1 ρ1 H1 F1 S1 r1 => ?_) rfl)
    obtain ⟨tk, rfl⟩ := r1.int_inv
    refine Call_ (hlen.use ha H1 F1 (hp' := hp') rfl fun fv s2 ρ2 H2 F2 S2 r2 => ?_)
    obtain rfl : fv = .builtin "len" := by cases r2 with | num t e => cases e | bi => rfl
    refine callWith_builtin1 (args_cons ((xs0 p4).use ha H2 F2 fs fun a' s3 ρ3 H3 F3 S3 r3 => args_nil ?_) rfl) rfl
    obtain rfl : a' = .ref a := by cases r3 with | num t e => cases e | st => rfl
    have l3 : s3.heap.IsList a items := let ⟨o, ho, r⟩ := hl; ⟨o, H3.base _ _ ho, r⟩
    refine Calls.call_len_list l3 (by omega) ?_
    refine lt_int (wpAny_truthy_bool ?_)
    have S13 := (S1.trans S2).trans S3
    have H4 : HI P ρ3 hp' { s3 with toks := s3.toks + 1 + 1 } := H3.toks _
    have F4 : FI P G env own ρ3 loc s3.heap := F3
    by_cases q : (i : Int) < (items.size : Int)
    · rw [if_pos (by simpa using q)]
      have qn : i < items.size := by omega
      obtain ⟨t, hit⟩ := hd i hi qn
      refine Subscript_ ((xs0 p6).use ha H4 F4 fs fun o' s5 ρ5 H5 F5 S5 r5 => (xk0 p7).use ha H5 F5 fk fun i' s6 ρ6 H6 F6 S6 r6 => ?_)
      obtain rfl : o' = .ref a := by cases r5 with | num t e => cases e | st => rfl
      obtain ⟨t6, rfl⟩ := r6.int_inv
      have l6 : s6.heap.IsList a items := let ⟨o, ho, r⟩ := hl; ⟨o, H6.base _ _ ho, r⟩
      refine tail_any l6.typeIs slot_list_getitem.lookup (wpAny_getItem_list l6 (by omega) (by omega) (by simpa using hit) ?_) rfl
      have S := ((S13.toks (s3.toks + 1 + 1)).trans S5).trans S6
      exact ⟨ρ6, H6, S, (hv t).mono S.imm S.pre⟩
    · rw [if_neg (by simpa using q)]
      have qn : ¬ i < items.size := by omega
      have hit := hn i hi qn
      obtain ⟨t0, t1, t2, m, ht⟩ := D.tup
      have hrest : SE P n G (.Name "_law_rest" p9) (fK (.st ra)) := SE.top hr D.rest (fun h ρ => .st ra) rfl
      refine Subscript_ (hrest.use ha H4 F4 (hp' := hp') rfl fun o' s5 ρ5 H5 F5 S5 r5 => (xk0 p10).use ha H5 F5 fk fun i' s6 ρ6 H6 F6 S6 r6 => ?_)
      obtain rfl : o' = .ref ra := by cases r5 with | num t e => cases e | st => rfl
      obtain ⟨t6, rfl⟩ := r6.int_inv
      have t6' := H6.base _ _ ht
      have S := ((S13.toks (s3.toks + 1 + 1)).trans S5).trans S6
      obtain ⟨tt, htt⟩ : ∃ tt, (#[.int 0 t0, .int 17 t1, .int 5 t2] : Array Value)[i]? = some (.int (P.draw i) tt) := by
        match i, hi, hit with
        | 0, _, h => exact ⟨t0, by simpa using h⟩
        | 1, _, h => exact ⟨t1, by simpa using h⟩
        | 2, _, h => exact ⟨t2, by simpa using h⟩
      refine tail_any ⟨_, t6', rfl⟩ PyProof.Rows.slot_tuple_getitem.lookup (PySem.P.getItem_tuple t6' (by omega) (by omega) (seqIndex_of (n := 3) (by omega) (by omega)) (by simpa using htt) ⟨ρ6, H6, S, (hv tt).mono S.imm S.pre⟩) rfl
  · cases hf
end
end
end Mine
end
section
open PySem PyProof.Rows PySem.W
set_option maxRecDepth 20000
set_option linter.unusedSimpArgs false
set_option linter.unusedVariables false
namespace Mine
noncomputable section

def isFld (n : Nat) : Prop := n = 1 ∨ n = 2 ∨ n = 3 ∨ n = 4
theorem gName_eq {m n : Nat} (hm : isFld m) (hn : isFld n) : ((gName m == gName n) = true) ↔ m = n := by
  rcases hm with rfl | rfl | rfl | rfl <;> rcases hn with rfl | rfl | rfl | rfl <;> decide

/-- what the model's fragment says of the class Graph -/
structure GraphOk (P : Par) : Prop where
  get : plainGet P.K P.CG "_node" = true ∧ plainGet P.K P.CG "_adj" = true ∧ plainGet P.K P.CG "graph" = true
  dict : hasDictIn P.K P.CG = true
  own : findIn P.K (.ref P.CG) "_node" = some none ∧ findIn P.K (.ref P.CG) "_adj" = some none ∧ findIn P.K (.ref P.CG) "graph" = some none

section
variable {P : Par} {n : Nat} {G : Sg}
theorem KVS.look {h : Heap} {ρ : List Addr} {kvs : List (Nat × V)} {es : List DictEntry} (x : KVS P h ρ kvs es) {k : Nat} (hk : isFld k) {v : V} (e : fld k kvs = some v) : ∃ en, es.find? (·.key.isStr (gName k)) = some en ∧ VR P h ρ v en.val := by
  induction x with
  | nil => cases e
  | @cons m u en t r r' hm hkey hh hv _ ih =>
    unfold fld at e
    have hs : en.key.isStr (gName k) = (gName m == gName k) := by rw [hkey]; rfl
    rw [List.find?_cons, hs]
    cases q : Nat.beq m k with
    | true =>
      have := Nat.eq_of_beq_eq_true q
      subst this
      rw [(gName_eq hm hm).mpr rfl]
      simp only [q] at e
      cases e
      exact ⟨en, rfl, hv⟩
    | false =>
      have hne := Nat.ne_of_beq_eq_false q
      have : (gName m == gName k) = false := by
        cases b : gName m == gName k with
        | false => rfl
        | true => exact absurd ((gName_eq hm hk).mp b) hne
      rw [this]
      simp only [q] at e
      exact ih e

theorem gr_at {ρ : List Addr} {s : Shared} {hp : Hp} {i d : Nat} {a : Addr} {kvs : List (Nat × V)} (H : HI P ρ hp s) (hi : ρ[i]? = some a) (e1 : hp.get i = some (.gr d)) (e2 : hp.get d = some (.gd kvs)) :
    ∃ b es ep sl, ρ[d]? = some b ∧ s.heap.get? a = some { cls := .ref P.CG, dict := some b, data := .plain } ∧ s.heap.get? b = some { cls := .type "dict", data := .dict es ep, slots := sl } ∧ KVS P s.heap ρ kvs es.toList := by
  obtain ⟨b, hb, ha⟩ := H.obj hi e1
  obtain ⟨es, ep, sl, ho, K⟩ := H.obj hb e2
  exact ⟨b, es, ep, sl, hb, ha, ho, K⟩

/-- a field of the graph -/
theorem pAttr {A : Around} {s : Shared} {ρ : List Addr} {hp hp' : Hp} {k : Nat} {g v : V} {g' : Value} {expr : Bool} (Go : GraphOk P) (hk : k = 1 ∨ k = 2 ∨ k = 4) (H : HI P ρ hp s) (r : VR P s.heap ρ g g') (hg : gAttr k g hp = some (v, hp')) :
    wpAny (model P.prog P.w) A (getAttr g' (gName k) expr) (Res P ρ s v hp') NoE s := by
  unfold gAttr at hg
  split at hg
  · rename_i i
    obtain ⟨a, hi, rfl⟩ := r.ob_inv
    split at hg
    · rename_i d e1
      split at hg
      · rename_i kvs e2
        split at hg
        · rename_i j e3
          cases hg
          obtain ⟨b, es, ep, sl, hb, ha, ho, K⟩ := gr_at H hi e1 e2
          obtain ⟨en, f1, f2⟩ := K.look (show isFld k by rcases hk with h | h | h <;> simp [isFld, h]) e3
          obtain ⟨c, hc, hv⟩ := f2.ob_inv
          have I : InstAt s.heap a { cls := .ref P.CG, dict := some b, data := .plain } P.CG (some { cls := .type "dict", data := .dict es ep, slots := sl }) := ⟨ha, rfl, rfl, ho⟩
          have X := P.kin.keeps H.base
          have hl : lookIn (gName k) { cls := .type "dict", data := .dict es ep, slots := sl } = some (some en.val) := by
            unfold lookIn
            dsimp only
            rw [f1]
          have fin : Res P ρ s (.ob j) hp en.val { s with toks := s.toks + 1 } := Res.here H f2
          have hh : handedIn en.val = true := by rw [hv]; rfl
          rcases hk with rfl | rfl | rfl
          · exact get_value X I (plainGet_of Go.get.1).1 (findObj_own Go.dict Go.own.1 rfl hl) hh fin
          · exact get_value X I (plainGet_of Go.get.2.1).1 (findObj_own Go.dict Go.own.2.1 rfl hl) hh fin
          · exact get_value X I (plainGet_of Go.get.2.2).1 (findObj_own Go.dict Go.own.2.2 rfl hl) hh fin
        · cases hg
      · cases hg
    · cases hg
  · cases hg

theorem SE.attr {e : Expr} {k : Nat} {pos : Pos} {f : Loc → Hp → Option (V × Hp)} (Go : GraphOk P) (hk : k = 1 ∨ k = 2 ∨ k = 4) (x : SE P n G e f)
    (hbase : ∀ env, attributeBase e (gName k) env (eval e env) = eval e env := by intro _; rfl) : SE P n G (.Attribute e (gName k) pos) (fUn (gAttr k) f) := by
  intro A env own s ρ loc hp v hp' ha H F hf
  obtain ⟨va, hp1, h1, h2⟩ := fUn_inv hf
  rw [arm_eval_Attribute, hbase]
  refine wpAny_bind (x.use ha H F h1 fun a' s1 ρ1 H1 F1 S1 r1 => wpAny_bind (wpAny_standAt (wpAny_bind (wpAny_holding ?_))))
  refine wpAny_mono (pAttr Go hk H1 r1 h2) (fun v' s2 r => wpAny_bind (wpAny_letTemporaryGo (wpAny_pure (Res.after (own := own) S1 r)))) fun _ _ h => h
end
end
end Mine
end
section
open PySem PyProof.Rows PySem.W
set_option maxRecDepth 20000
set_option linter.unusedSimpArgs false
set_option linter.unusedVariables false
namespace Mine
noncomputable section
section
variable {prog : Program} {w : World} {A : Around} {E : Value → Shared → Prop} {s : Shared} {K : Frag} {x C f : Addr} {v : Value} {ox : Obj} {od : Option Obj}
/-- «in» by the class's own function -/
theorem notIn_X {Q : Value → Shared → Prop} (X : K.In s.heap) (I : InstAt s.heap x ox C od) (hs : findIn K (.ref C) "__contains__" = some (some (.ref f))) (hf : isFn K (.ref f) = true)
    (h : wpAny (model prog w) A (call (.ref f) [.ref x, v]) (fun r s' => wpAny (model prog w) A (truthy r) (fun b => Q (.bool (!b))) E s') E s) : wpAny (model prog w) A (compareOp .NotIn v (.ref x)) Q E s := by
  refine wpAny_bind (m := contains (.ref x) v) ?_
  unfold contains
  refine wpAny_holding (wpAny_bind (wpAny_bind (I.type.here ((looks_findIn X hs).here ?_))))
  rw [if_neg (by simp)]
  exact wpAny_bind (unlessNone_K X I hs hf (wpAny_mono h (fun _ _ z => wpAny_mono z (fun _ _ z => wpAny_pure z) fun _ _ z => z) fun _ _ z => z))
theorem getItem_X {Q : Value → Shared → Prop} (X : K.In s.heap) (I : InstAt s.heap x ox C od) (hq : noSeq K C = true) (hs : findIn K (.ref C) "__getitem__" = some (some (.ref f))) (hf : isFn K (.ref f) = true)
    (h : wpAny (model prog w) A (call (.ref f) [.ref x, v]) Q E s) : wpAny (model prog w) A (getItem (.ref x) v) Q E s := by
  unfold getItem sequenceKey
  refine wpAny_holding (wpAny_bind (wpAny_bind (I.type.here ?_)))
  refine wpAny_bind ((anyM_none X hq).here ?_)
  rw [if_pos (show (!false) = true from rfl)]
  exact wpAny_pure (wpAny_bind (special_fn X I hs (beq_iff_eq.mp hf) (wpAny_mono h (fun _ _ z => wpAny_pure z) fun _ _ z => z)))
end
end
end Mine
end
section
open PySem PyProof.Rows PySem.W
set_option maxRecDepth 20000
set_option linter.unusedSimpArgs false
set_option linter.unusedVariables false
namespace Mine
noncomputable section
theorem under_tc {n : Nat} {A : Around} {C : Addr} {a : List Value} (h : AOk (n + 1) A) : AOk n (A.under (.builtin "type.__call__" ⟨.ref C :: a, []⟩)) := by
  have e : (Code.builtin "type.__call__" ⟨.ref C :: a, []⟩).weight ≤ 1 := by
    have g : guardIds.contains "type.__call__" = false := by decide +kernel
    simp [Code.weight, Code.frames, Code.isFrame, Code.isCreation, Code.isGuard, Code.isCaller, -List.contains_eq_mem, g]
  have e2 : (Code.builtin "type.__call__" ⟨.ref C :: a, []⟩).cUnits ≤ 4 := by
    simp [Code.cUnits, Code.frames, Code.isFrame]
  refine ⟨h.h, ?_, ?_⟩
  · have := h.d
    show A.depth + _ + n ≤ 990
    omega
  · have := h.u
    show A.units + _ + 10 * n + 20 ≤ 9900
    omega

/-- Graph() -/
def fNewG (Fi : List V → Hp → Option (V × Hp)) : Loc → Hp → Option (V × Hp) := fun _ hp => match mk hp (.gd []) with
  | none => none
  | some (_, hp1) => match mk hp1 (.gr hp.n) with
    | none => none
    | some (g, hp2) => match Fi [g] hp2 with
      | some (.none, hp3) => some (g, hp3)
      | _ => none

section
variable {P : Par} {n : Nat} {G : Sg}
theorem mk_inv {hp hp' : Hp} {o : O} {v : V} (h : mk hp o = some (v, hp')) : v = .ob hp.n ∧ hp' = hp.push o ∧ hp.n < 4000 := by
  obtain ⟨hn, e⟩ := ch_inv h
  cases e
  exact ⟨rfl, rfl, Nat.le_of_ble_eq_true hn⟩

theorem SE.newG {x : Str} {px pos : Pos} {fI : Addr} {Fi : List V → Hp → Option (V × Hp)} (hx : SE P (n + 1) G (.Name x px) (fK (.st P.CG))) (hk : keepIn P.K (.ref P.CG) = true) (hm : makesIn P.K P.CG = true) (hi : findIn P.K (.ref P.CG) "__init__" = some (some (.ref fI)))
    (hf : typeIn P.K (.ref fI) = some (.type "function")) (hF : FN P n fI Fi) : SE P (n + 1) G (.Call (.Name x px) [] [] pos) (fNewG Fi) := by
  intro A env own s ρ loc hp v hp' ha H F hfn
  unfold fNewG at hfn
  cases q1 : mk hp (.gd []) with
  | none => rw [q1] at hfn; cases hfn
  | some z1 =>
    obtain ⟨d, hp1⟩ := z1
    rw [q1] at hfn
    dsimp only at hfn
    cases q2 : mk hp1 (.gr hp.n) with
    | none => rw [q2] at hfn; cases hfn
    | some z2 =>
      obtain ⟨g, hp2⟩ := z2
      rw [q2] at hfn
      dsimp only at hfn
      split at hfn
      · rename_i hp3 q3
        cases hfn
        refine Call_ (hx.use ha H F (hp' := hp) rfl fun fv s0 ρ0 H0 F0 S0 r0 => ?_)
        obtain rfl : fv = .ref P.CG := by cases r0 with | num t e => cases e | st => rfl
        have X := P.kin.keeps H0.base
        refine callWith_K0 X hk (wpAny_call ?_)
        obtain ⟨h, gg, dr, t, os⟩ := s0
        obtain ⟨e1, e2, e3⟩ := mk_inv q1
        obtain ⟨e4, e5, e6⟩ := mk_inv q2
        subst e1 e2
        refine make_core (rest := []) (kw := []) (makes_of X hm) (looks_findIn X hi) (fun self => bind_fn X self hf) (.inl rfl) ?_
        have sz1 : (h.push emptyDict).objs.size = h.objs.size + 1 := Heap.size_push ..
        have H1 : HI P (ρ0 ++ [h.objs.size]) (hp.push (.gd [])) ⟨h.push emptyDict, gg, dr, t, os⟩ := H0.push (s := ⟨h, gg, dr, t, os⟩) (t := t) e3 (fun b o e => Heap.get?_push_of_some _ e) (by rw [sz1]; exact Nat.le_succ _) (Nat.le_refl _) (by rw [sz1]; exact Nat.lt_succ_self _) ⟨#[], 0, #[], Heap.get?_push_size _ rfl, .nil⟩
        have S1 : Step [] ρ0 ⟨h, gg, dr, t, os⟩ (ρ0 ++ [h.objs.size]) ⟨h.push emptyDict, gg, dr, t, os⟩ := .growTo (t := t) (fun b o e => Heap.get?_push_of_some _ e) (by rw [sz1]; exact Nat.le_succ _) (Nat.le_refl _)
        have hlen : ρ0.length = hp.n := H0.len
        have hd : (ρ0 ++ [h.objs.size] ++ [h.objs.size + 1])[hp.n]? = some h.objs.size := by
          rw [List.append_assoc, List.getElem?_append_right (by rw [hlen]; exact Nat.le_refl _), hlen]; simp
        have sz2 : ((h.push emptyDict).push (instObj P.CG h.objs.size)).objs.size = h.objs.size + 2 := by rw [Heap.size_push, sz1]
        have hnew : ((h.push emptyDict).push (instObj P.CG h.objs.size)).get? (h.objs.size + 1) = some (instObj P.CG h.objs.size) := by rw [← sz1]; exact Heap.get?_push_size _ rfl
        have g2 : ∀ b o, (h.push emptyDict).get? b = some o → ((h.push emptyDict).push (instObj P.CG h.objs.size)).get? b = some o := fun b o e => Heap.get?_push_of_some _ e
        have H2 : HI P (ρ0 ++ [h.objs.size] ++ [h.objs.size + 1]) ((hp.push (.gd [])).push (.gr hp.n)) ⟨(h.push emptyDict).push (instObj P.CG h.objs.size), gg, dr, t, os⟩ :=
          H1.push (s := ⟨h.push emptyDict, gg, dr, t, os⟩) (t := t) e6 g2 (by rw [sz2]; show (h.push emptyDict).objs.size ≤ _; rw [sz1]; exact Nat.le_succ _) (by show (h.push emptyDict).objs.size ≤ _; rw [sz1]; exact Nat.le_refl _) (by rw [sz2]; exact Nat.lt_succ_self _) ⟨h.objs.size, hd, hnew⟩
        have S2 : Step [] (ρ0 ++ [h.objs.size]) ⟨h.push emptyDict, gg, dr, t, os⟩ (ρ0 ++ [h.objs.size] ++ [h.objs.size + 1]) ⟨(h.push emptyDict).push (instObj P.CG h.objs.size), gg, dr, t, os⟩ :=
          .growTo (t := t) g2 (by rw [sz2]; show (h.push emptyDict).objs.size ≤ _; rw [sz1]; exact Nat.le_succ _) (by show (h.push emptyDict).objs.size ≤ _; rw [sz1]; exact Nat.le_refl _)
        have hg : (ρ0 ++ [h.objs.size] ++ [h.objs.size + 1])[(hp.push (.gd [])).n]? = some (h.objs.size + 1) := by
          rw [List.getElem?_append_right (by rw [H1.len]; exact Nat.le_refl _), H1.len]; simp
        subst e4 e5
        refine hF.2 _ _ _ _ [.ob (hp.push (.gd [])).n] [.ref (h.objs.size + 1)] _ _ _ (under_tc ha) H2 (.cons (.ob hg) .nil) q3 fun v' s3 r3 => ?_
        obtain ⟨ρ3, H3, S3, rv⟩ := r3
        obtain rfl := rv.none_inv
        have S := ((S0.trans S1).trans S2).trans S3
        exact ⟨rfl, ρ3, H3, S, .ob (pre_get S3.pre hg)⟩
      · cases hfn
end
end
end Mine
end
section
open PySem PyProof.Rows PySem.W Builtin Builtin.ObjectAttr
set_option maxRecDepth 20000
set_option linter.unusedSimpArgs false
set_option linter.unusedVariables false
namespace Mine
noncomputable section
section
variable {prog : Program} {w : World} {A : Around} {s : Shared} {K : Frag} {x C dx : Addr} {v : Value} {name : Str} {es : Array DictEntry} {ep : Nat} {sl : Array (Option Value)}
theorem putName_new (hfree : es.toList.find? (·.key.isStr name) = none) (h : Int) (key v : Value) : Obj.putName name h key v { cls := .type "dict", data := .dict es ep, slots := sl } = { cls := .type "dict", data := .dict (es.push ⟨h, key, v⟩) (ep + 1), slots := sl } := by
  have hi : es.findIdx? (·.key.isStr name) = none := by
    rw [Array.findIdx?_eq_none_iff]
    intro e he
    have := List.find?_eq_none.mp hfree e (Array.mem_toList_iff.mpr he)
    simpa using this
  rw [Obj.putName_eq]
  simp only [Obj.putNameByArray, hi]

theorem store_new {E : Value → Shared → Prop} {Q : Unit → Shared → Prop} (X : K.In s.heap) (hx : s.heap.get? x = some { cls := .ref C, dict := some dx, data := .plain }) (hD : s.heap.get? dx = some { cls := .type "dict", data := .dict es ep, slots := sl })
    (hs : findIn K (.ref C) "__setattr__" = some (some (.builtin "object.__setattr__"))) (hp : plainOver K C = true) (ht : takerIn K C name = some none) (hh : hasDictIn K C = true)
    (hfree : es.toList.find? (·.key.isStr name) = none) (href : es.toList.any (·.refKey) = false) (hz : es.size ≤ 1000)
    (h : ∀ hash t h', hash = hashStr w name → h'.get? dx = some { cls := .type "dict", data := .dict (es.push ⟨hash, .str name t, v⟩) (ep + 1), slots := sl } → Heap.SameBut dx s.heap h' → Q () { s with heap := h', toks := s.toks + 2 }) : wpAny (model prog w) A (setAttr (.ref x) name v) Q E s := by
  have I : InstAt s.heap x { cls := .ref C, dict := some dx, data := .plain } C (some { cls := .type "dict", data := .dict es ep, slots := sl }) := ⟨hx, rfl, rfl, hD⟩
  refine set_plain X I hs ?_
  refine osa_open (s := { s with toks := s.toks + 1 }) X I hp ht fun b => ?_
  obtain ⟨cd, hc, hd'⟩ := any_some hh
  refine wpAny_bind (wpAny_pure (wpAny_bind (wpAny_bind (wpAny_loadPart (s := { s with toks := s.toks + 1 }) hx (wpAny_bind (Looks.here (s := { s with toks := s.toks + 1 }) (looks_clsIn X hc) ?_))))))
  rw [hd']
  refine wpAny_pure (a := some dx) (wpAny_bind (wpAny_pure (wpAny_bind ?_)))
  unfold nsSet
  refine wpAny_bind (wpAny_bind (wpAny_askSetting (wpAny_pure (wpAny_bind (wpAny_mkText (wpAny_bind (wpAny_loadPart hD ?_)))))))
  dsimp only
  have c : (!es.any (·.key.isStr name) && es.any (·.refKey)) = false := by
    rw [← Array.any_toList, ← Array.any_toList, href, Bool.and_false]
  rw [aRefKeyMayBeTheName_at, c]
  refine wpAny_updatePart hD ?_
  have hn : ∀ hash t, Obj.putName name hash (.str name t) v { cls := .type "dict", data := .dict es ep, slots := sl } = { cls := .type "dict", data := .dict (es.push ⟨hash, .str name t, v⟩) (ep + 1), slots := sl } := fun hash t => putName_new hfree hash _ v
  have hg : ∀ hash t, (s.heap.update dx (Obj.putName name hash (.str name t) v)).get? dx = some { cls := .type "dict", data := .dict (es.push ⟨hash, .str name t, v⟩) (ep + 1), slots := sl } := fun hash t => by
    rw [← hn]
    exact Heap.get?_update_self _ hD (by rw [hn]; rfl)
  refine wpAny_bind (wpAny_lookBehind (hg _ _) (pastItsLine_dict (by rw [Array.size_push, sizeLine_eq]; omega)) ?_)
  exact wpAny_pure (h _ _ _ rfl (hg _ _) (Heap.SameBut.update ..))
end

/-- what the model's fragment says of stores into a graph -/
structure StoreOk (P : Par) : Prop where
  set : findIn P.K (.ref P.CG) "__setattr__" = some (some (.builtin "object.__setattr__"))
  plain : plainOver P.K P.CG = true
  take : ∀ k, isFld k → takerIn P.K P.CG (gName k) = some none
  dict : hasDictIn P.K P.CG = true

section
variable {P : Par} {n : Nat} {G : Sg}
theorem sput_inv {k : Nat} {v : V} : ∀ {kvs l : List (Nat × V)}, sput k v kvs = some l → l = kvs ++ [(k, v)] ∧ ∀ p ∈ kvs, p.1 ≠ k
  | [], l, h => by cases h; exact ⟨rfl, fun p hp => by simp at hp⟩
  | x :: r, l, h => by
    unfold sput at h
    split at h
    · cases h
    · rename_i q
      split at h
      · cases h
      · rename_i l' q2
        cases h
        obtain ⟨e, hn⟩ := sput_inv q2
        refine ⟨by rw [e]; rfl, fun p hp => ?_⟩
        rcases List.mem_cons.mp hp with rfl | hp
        · exact Nat.ne_of_beq_eq_false q
        · exact hn p hp
theorem KVS.free {h : Heap} {ρ : List Addr} {kvs : List (Nat × V)} {es : List DictEntry} (x : KVS P h ρ kvs es) {k : Nat} (hk : isFld k) (hn : ∀ p ∈ kvs, p.1 ≠ k) : es.find? (·.key.isStr (gName k)) = none ∧ es.any (·.refKey) = false := by
  induction x with
  | nil => exact ⟨rfl, rfl⟩
  | @cons m u en t r r' hm hkey hh hv _ ih =>
    obtain ⟨h1, h2⟩ := ih fun p hp => hn p (List.mem_cons_of_mem _ hp)
    have hne := hn _ List.mem_cons_self
    have hs : en.key.isStr (gName k) = (gName m == gName k) := by rw [hkey]; rfl
    have hf : (gName m == gName k) = false := by
      cases b : gName m == gName k with
      | false => rfl
      | true => exact absurd ((gName_eq hm hk).mp b) hne
    refine ⟨by rw [List.find?_cons, hs, hf]; exact h1, ?_⟩
    rw [List.any_cons, h2]
    simp [DictEntry.refKey, hkey]
theorem KVS.snoc {h : Heap} {ρ : List Addr} {kvs : List (Nat × V)} {es : List DictEntry} (x : KVS P h ρ kvs es) {k : Nat} {v : V} {e : DictEntry} {t : Tok} (hk : isFld k) (hkey : e.key = .str (gName k) t) (hh : e.hash = hashStr P.w (gName k)) (hv : VR P h ρ v e.val) : KVS P h ρ (kvs ++ [(k, v)]) (es ++ [e]) := by
  induction x with
  | nil => exact .cons hk hkey hh hv .nil
  | cons a b c d _ ih => exact .cons a b c d ih
theorem KVS.length {h : Heap} {ρ : List Addr} {kvs : List (Nat × V)} {es : List DictEntry} (x : KVS P h ρ kvs es) : kvs.length = es.length := by
  induction x with
  | nil => rfl
  | cons _ _ _ _ _ ih => simp [ih]

theorem pSetA {A : Around} {s : Shared} {ρ : List Addr} {hp hp' : Hp} {k : Nat} {g v : V} {g' v' : Value} (So : StoreOk P) (hk : isFld k) (H : HI P ρ hp s) (rg : VR P s.heap ρ g g') (rv : VR P s.heap ρ v v') (hg : gSetA k g v hp = some hp') :
    wpAny (model P.prog P.w) A (setAttr g' (gName k) v') (fun _ s' => HI P ρ hp' s' ∧ Step [] ρ s ρ s') NoE s := by
  unfold gSetA at hg
  split at hg
  · rename_i i
    obtain ⟨a, hi, rfl⟩ := rg.ob_inv
    split at hg
    · rename_i d e1
      split at hg
      · rename_i kvs e2
        split at hg
        · rename_i l e3
          obtain ⟨hc, hg2⟩ := ch_inv hg
          clear hg
          cases hg2
          obtain ⟨b, es, ep, sl, hb, ha, ho, K⟩ := gr_at H hi e1 e2
          obtain ⟨rfl, hn⟩ := sput_inv e3
          obtain ⟨f1, f2⟩ := K.free hk hn
          have hsz : es.size ≤ 1000 := by
            have e : kvs.length = es.size := by have := K.length; simpa using this
            have := Nat.le_of_ble_eq_true hc
            omega
          refine store_new (P.kin.keeps H.base) ha ho So.set So.plain (So.take k hk) So.dict f1 f2 hsz fun hash t h' hh hget hs => ?_
          have imm : ∀ o, s.heap.get? b = some o → ¬ ImmO o := fun o e => by rw [ho] at e; cases e; exact ImmO.not_dict rfl
          have hz : s.heap.objs.size ≤ h'.objs.size := Nat.le_of_eq hs.1.symm
          refine ⟨H.upd hb hs.extBut imm hz ⟨_, _, _, hget, ?_⟩, .change (.inl (List.mem_of_getElem? hb)) hs.extBut imm hz⟩
          rw [Array.toList_push]
          exact (K.snoc (e := ⟨hash, .str (gName k) t, v'⟩) hk rfl hh rv).mono (.same hs.extBut imm) (List.prefix_refl _)
        · cases hg
      · cases hg
    · cases hg
  · cases hg

theorem S1.setA {ev eo : Expr} {k : Nat} {p' pos : Pos} {fv fo : Loc → Hp → Option (V × Hp)} (So : StoreOk P) (hk : isFld k) (x : SE P n G ev fv) (y : SE P n G eo fo)
    (hs : ∀ env : Env, env.scope = G.scope → swapsWith ev (some (.Attribute eo (gName k) p')) pos.line env = pure false := by intro _ _; rfl) : S1 P n G (.Assign [.Attribute eo (gName k) p'] ev pos) (fSetA k fv fo) := by
  intro A env own s ρ loc hp fl loc' hp' ha H F hf
  unfold fSetA at hf
  cases q1 : fv loc hp with
  | none => rw [q1] at hf; cases hf
  | some z1 =>
    obtain ⟨v, hp1⟩ := z1
    rw [q1] at hf
    dsimp only at hf
    cases q2 : fo loc hp1 with
    | none => rw [q2] at hf; cases hf
    | some z2 =>
      obtain ⟨c, hp2⟩ := z2
      rw [q2] at hf
      dsimp only at hf
      cases q3 : gSetA k c v hp2 with
      | none => rw [q3] at hf; cases hf
      | some hp3 =>
        rw [q3] at hf
        cases hf
        refine plainObj_wpAny_Assign_Attribute (x.use ha H F q1 fun v' s1 ρ1 H1 F1 S1 r1 => y.use ha H1 F1 q2 fun c' s2 ρ2 H2 F2 S2 r2 => ?_) (hs env F.scope)
        refine wpAny_mono (pSetA So hk H2 r2 (r1.mono S2.imm S2.pre) q3) (fun _ s3 ⟨H3, S3⟩ => ?_) fun _ _ h => h
        have S := (S1.trans S2).trans S3
        exact ⟨ρ2, ⟨H3, F.step S, S.own'⟩, rfl⟩
end
end
end Mine
end
section
open PySem PyProof.Rows PySem.W Builtin Builtin.ObjectAttr
set_option maxRecDepth 20000
set_option linter.unusedSimpArgs false
set_option linter.unusedVariables false
namespace Mine
noncomputable section
section
variable {prog : Program} {w : World} {A : Around} {E : Value → Shared → Prop} {s : Shared} {env : Env}
/-- a call of an attribute: the method is fetched, then called -/
theorem Call_attr {o : Expr} {name : Str} {apos pos : Pos} {args : List Expr} {trees : List (Bool × Sem Value)} {Q : Value → Shared → Prop}
    (hbase : attributeBase o name env (eval o env) = eval o env)
    (hfew : ((backTo pos (starEach args env)).all (fun x => !x.1) && (backToKw pos (keywordEach [] env)).all (fun x => x.1.isSome)
      && decide (args.length + ([] : List Keyword).length + (if ([] : List Keyword).isEmpty then 0 else 1) < 30)) = true)
    (hline : (apos.endLine == pos.line) = true) (htrees : backTo pos (starEach args env) = trees)
    (h : wpAny (model prog w) A (eval o env) (fun ov s₁ => ∀ pl, wpAny (model prog w) A (getMethod ov name pl) (fun r s₂ => wpAny (model prog w) A (callWith pos r.1 r.2 trees []) Q E s₂) E s₁) E s) :
    wpAny (model prog w) A (eval (.Call (.Attribute o name apos) args [] pos) env) Q E s := by
  subst htrees
  rw [arm_eval_Call, hbase]
  refine wpAny_bind (wpAny_mono h (fun ov s₁ h₁ => ?_) fun _ _ e => e)
  refine wpAny_bind (wpAny_standAt ?_)
  have hform : methodCallForm (args.length + ([] : List Keyword).length) (backTo pos (starEach args env)) (backToKw pos (keywordEach [] env)) = true := hfew
  have hpos : methodCallPos true o env apos pos = pure pos := by unfold methodCallPos; simp [hline]
  unfold methodCall
  rw [hform]
  refine wpAny_bind (wpAny_holding (wpAny_mono (h₁ _) (fun r s₂ h₂ => ?_) fun _ _ e => e))
  exact wpAny_bind (wpAny_of_eq hpos h₂)
end
end
end Mine
namespace Mine
noncomputable section
open PySem PyProof.Rows PySem.W Builtin Builtin.ObjectAttr
section
variable {prog : Program} {w : World} {A : Around} {E : Value → Shared → Prop} {s : Shared} {K : Frag} {x C : Addr} {ox : Obj} {od : Option Obj} {name : Str} {T : String}
/-- a class's field that is a built-in type, read through an object -/
theorem get_type {expr : Bool} {Q : Value → Shared → Prop} {odd : Obj} (X : K.In s.heap) (I : InstAt s.heap x ox C (some odd)) (hga : findIn K (.ref C) "__getattribute__" = some (some (.builtin "object.__getattribute__")))
    (hd : hasDictIn K C = true) (hf : findIn K (.ref C) name = some (some (.type T))) (hTy : ∀ {M : Model} {h : Heap}, Looks M h (typeOf (.type T)) (.type "type")) (hT : typeLookup (.type "type") "__get__" = pure none) (hc : copiedNames.contains name = false) (hl : lookIn name odd = some none)
    (h : Q (.type T) { s with toks := s.toks + 1 }) : wpAny (model prog w) A (getAttr (.ref x) name expr) Q E s := by
  refine get_open X I hga ?_
  obtain ⟨hh', g, d, t, os⟩ := s
  obtain ⟨cd, hcd, hdd⟩ := any_some hd
  have ho : PySem.W.ownOf cd (some odd) name = some none := by unfold PySem.W.ownOf; rw [if_pos hdd]; exact hl
  have L0 := I.type (M := model prog w)
  have L1 : Looks (model prog w) hh' (find (.ref x) (.ref C) name) (.value (.type T)) := by
    have L2 : Looks (model prog w) hh' (getOf (some (.type T))) none := (show Looks (model prog w) hh' (typeOf (.type T)) (.type "type") from hTy).andThen (Looks.of_pure hT)
    have G : Looks (model prog w) hh' (copiedAttributeGuard name (.ref x)) () := by
      unfold copiedAttributeGuard
      dsimp only
      split
      · rename_i q2
        have q2 : copiedNames.contains name = true := q2
        rw [hc] at q2; cases q2
      · exact .now
    refine (looks_findIn X hf).andThen (L2.andThen (Looks.now.andThen ?_))
    refine (looks_own X I hcd ho).andThen ?_
    exact G.andThen (Looks.tag ((Looks.of_pure (handedOut_of rfl)).andThen .now))
  refine wpAny_bind (wpAny_pure (wpAny_bind (L0.at (wpAny_bind (L1.at ?_)))))
  refine wpAny_pure ?_
  show wpAny _ _ (handedOut (.type T)) _ _ _
  rw [handedOut_of rfl]; exact wpAny_pure h
end
end
end Mine
namespace Mine
noncomputable section
open PySem PyProof.Rows PySem.W Builtin Builtin.ObjectAttr
section
variable {prog : Program} {w : World} {A : Around} {E : Value → Shared → Prop} {s : Shared} {K : Frag} {x C : Addr} {ox : Obj} {od : Option Obj} {name : Str} {T : String}
/-- the same as a method -/
theorem method_type {pl : Sem Bool} {Q : Value × List Value → Shared → Prop} (X : K.In s.heap) (I : InstAt s.heap x ox C od) (hga : findIn K (.ref C) "__getattribute__" = some (some (.builtin "object.__getattribute__"))) (hk : findIn K (.ref C) "__getattr__" = some none)
    (hf : findIn K (.ref C) name = some (some (.type T))) (hTy : ∀ {M : Model} {h : Heap}, Looks M h (typeOf (.type T)) (.type "type"))
    (h : wpAny (model prog w) A (getAttr (.ref x) name) (fun v => Q (v, [])) E s) : wpAny (model prog w) A (getMethod (.ref x) name pl) Q E s := by
  have hcan := PySem.F.canon_object_ga
  unfold getMethod specialOf
  refine wpAny_bind (wpAny_bind (I.type.here ((looks_findIn X hga).here ?_)))
  dsimp only
  rw [hcan, if_neg (by decide)]
  refine wpAny_bind (wpAny_bind (I.type.here ((looks_findIn X hk).here ?_)))
  refine wpAny_bind (wpAny_bind (I.type.here ((looks_findIn X hf).here ?_)))
  refine wpAny_bind (hTy.here ?_)
  rw [if_pos (by decide)]
  exact wpAny_bind (wpAny_mono h (fun _ _ z => wpAny_pure z) fun _ _ z => z)
end
end
end Mine
end
section
open PySem PyProof.Rows PySem.W Builtin Builtin.ObjectAttr
set_option maxRecDepth 100000
set_option linter.unusedSimpArgs false
set_option linter.unusedVariables false
namespace Mine
noncomputable section
theorem dict_ck0 : checkTypeCall "dict" ⟨[], []⟩ = pure () := by kernel_rfl
theorem dict_new0 : checkBuiltinCall "dict.__new__" ⟨[.type "dict"], []⟩ = pure () := by kernel_rfl
section
variable {prog : Program} {w : World} {A : Around} {E : Value → Shared → Prop} {s : Shared}
theorem code_dict0 {Q₁ : Value → Shared → Prop} (h : Q₁ (.ref s.heap.objs.size) { s with heap := s.heap.push emptyDict }) :
    codeAny (model prog w) A (.call (.builtin "dict.__new__") ⟨[.type "dict"], []⟩) (wants Q₁ E) s := by
  refine codeAny_call_builtin PySem.F.kt_plain_dict_new PySem.F.kt_entry_dict_new (wpAny_of_eq dict_new0 ?_)
  have hsub := PySem.F.kt_sub_dict
  have hmro := PySem.F.kt_mro_dict
  obtain ⟨hp, g, d, tk, os⟩ := s
  unfold Builtin.«dict.__new__»
  wp_walk
  exact h
theorem call_dict0 {Q : Value → Shared → Prop} (h : Q (.ref s.heap.objs.size) { s with heap := s.heap.push emptyDict }) :
    wpAny (model prog w) A (call (.type "dict") []) Q E s := by
  refine callType_codes (Q₁ := fun obj s₁ => obj = .ref s.heap.objs.size ∧ s₁ = { s with heap := s.heap.push emptyDict }) PySem.F.kt_called_dict dict_ck0 PySem.F.entry_dict_init (code_dict0 ⟨rfl, rfl⟩) ?_
  rintro obj s₁ ⟨rfl, rfl⟩
  have hnew : (s.heap.push emptyDict).get? s.heap.objs.size = some emptyDict := Heap.get?_push_size _ rfl
  have hT : Shared.TypeIs { s with heap := s.heap.push emptyDict } (.ref s.heap.objs.size) "dict" := ⟨_, hnew, rfl⟩
  refine ⟨hT, PySem.F.args_dict_init_1 _, ?_⟩
  unfold Builtin.«dict.__init__»
  refine wpAny_bind ?_
  unfold Builtin.Dict.selfAndRest
  refine wpAny_bind (wpAny_notOrdered_dict hT ?_)
  show wpAny _ _ (pure (s.heap.objs.size, [])) _ _ _
  refine wpAny_pure ?_
  show wpAny _ _ (Builtin.Dict.addKeywords s.heap.objs.size [] >>= _) _ _ _
  exact wpAny_bind (wpAny_pure (wpAny_pure ⟨rfl, h⟩))
end
end
end Mine
end
section
open PySem PyProof.Rows PySem.W Builtin Builtin.ObjectAttr
set_option maxRecDepth 20000
set_option linter.unusedSimpArgs false
set_option linter.unusedVariables false
namespace Mine
noncomputable section
section
variable {P : Par} {n : Nat} {G : Sg}
/-- a class field of Graph that makes an empty dict -/
structure FacOk (P : Par) (nm : Str) : Prop where
  ga : findIn P.K (.ref P.CG) "__getattribute__" = some (some (.builtin "object.__getattribute__"))
  gk : findIn P.K (.ref P.CG) "__getattr__" = some none
  f : findIn P.K (.ref P.CG) nm = some (some (.type "dict"))
  c : copiedNames.contains nm = false
  no : ∀ m, isFld m → (gName m == nm) = false

theorem KVS.noref {h : Heap} {ρ : List Addr} {kvs : List (Nat × V)} {es : List DictEntry} (x : KVS P h ρ kvs es) : es.any (·.refKey) = false := by
  induction x with
  | nil => rfl
  | cons _ hkey _ _ _ ih => rw [List.any_cons, ih]; simp [DictEntry.refKey, hkey]
theorem KVS.miss {h : Heap} {ρ : List Addr} {kvs : List (Nat × V)} {es : List DictEntry} (x : KVS P h ρ kvs es) {nm : Str} (hk : ∀ m, isFld m → (gName m == nm) = false) : es.find? (·.key.isStr nm) = none := by
  induction x with
  | nil => rfl
  | @cons m u en t r r' hm hkey hh hv _ ih =>
    have hs : en.key.isStr nm = (gName m == nm) := by rw [hkey]; rfl
    rw [List.find?_cons, hs, hk m hm]
    exact ih

theorem looks_metatype {M : Model} {h : Heap} : Looks M h (typeOf (.type "dict")) (.type "type") := by
  have e : ((Manifest.find? "dict").elim "type" (·.metatype)) = "type" := by decide +kernel
  exact Looks.of_pure (by show (pure (Value.type ((Manifest.find? "dict").elim "type" (·.metatype))) : Sem Value) = _; rw [e])
theorem type_get : typeLookup (.type "type") "__get__" = pure none := by
  rw [typeLookup_type, builtinLookup_eq_fast]; kernel_rfl

/-- self.factory() -/
theorem SE.newD {e : Expr} {nm : Str} {apos pos : Pos} {f : Loc → Hp → Option (V × Hp)} (Go : GraphOk P) (Fo : FacOk P nm) (x : SE P n G e f)
    (hbase : ∀ env, attributeBase e nm env (eval e env) = eval e env := by intro _; rfl) (hline : (apos.endLine == pos.line) = true := by rfl) :
    SE P n G (.Call (.Attribute e nm apos) [] [] pos) (fUn gNewD f) := by
  intro A env own s ρ loc hp v hp' ha H F hf
  obtain ⟨va, hp1, h1, h2⟩ := fUn_inv hf
  refine Call_attr (hbase _) rfl hline rfl (x.use ha H F h1 fun a' s1 ρ1 H1 F1 S1 r1 pl => ?_)
  unfold gNewD at h2
  split at h2
  · rename_i i
    obtain ⟨a, hi, rfl⟩ := r1.ob_inv
    split at h2
    · rename_i d e1
      split at h2
      · rename_i kvs e2
        obtain ⟨b, es, ep, sl, hb, hga, ho, K⟩ := gr_at H1 hi e1 e2
        have I : InstAt s1.heap a { cls := .ref P.CG, dict := some b, data := .plain } P.CG (some { cls := .type "dict", data := .dict es ep, slots := sl }) := ⟨hga, rfl, rfl, ho⟩
        have X := P.kin.keeps H1.base
        have hl : lookIn nm { cls := .type "dict", data := .dict es ep, slots := sl } = some none := by
          unfold lookIn
          dsimp only
          rw [K.miss Fo.no]
          dsimp only
          rw [K.noref]
          rfl
        refine method_type X I Fo.ga Fo.gk Fo.f looks_metatype ?_
        refine get_type X I Fo.ga Go.dict Fo.f looks_metatype type_get Fo.c hl ?_
        refine PyProof.Rows.callWith_type0 (call_dict0 ?_)
        exact Res.after (own := own) S1 (Res.mk (s := s1) (t := s1.toks + 1) H1 h2 grow1 (by show s1.heap.objs.size ≤ (s1.heap.push emptyDict).objs.size; rw [Heap.size_push]; exact Nat.le_succ _) (Nat.le_refl _) (by show s1.heap.objs.size < (s1.heap.push emptyDict).objs.size; rw [Heap.size_push]; exact Nat.lt_succ_self _) (Mine.newD (.inl rfl)))
      · cases h2
    · cases h2
  · cases h2
end
end
end Mine
end
section
open PySem PyProof.Rows PySem.W
set_option maxRecDepth 20000
set_option linter.unusedSimpArgs false
set_option linter.unusedVariables false
namespace Mine
noncomputable section
section
variable {P : Par} {n : Nat} {G : Sg}
theorem main_or {prog : Program} {w : World} {A : Around} {E : Value → Shared → Prop} {s : Shared} {env : Env} {Q : Bool → Shared → Prop} (hc : ∃ c o vs, env.code = .ref c ∧ s.heap.get? c = some o ∧ o.data = .fields vs) (h : ∀ b, Q b s) : wpAny (model prog w) A (inMainModule env) Q E s := by
  obtain ⟨c, o, vs, e, ho, hd⟩ := hc
  unfold inMainModule
  try dsimp only
  rw [e]
  split
  · exact wpAny_pure (h _)
  · refine wpAny_bind (wpAny_fieldsOf ho hd ?_)
    split
    · exact wpAny_bind (wpAny_askSetting (wpAny_pure (h _)))
    · exact wpAny_pure (h _)

theorem set_imm {h : Heap} {a : Addr} {S : Int → Bool} {k : Nat} (D : h.SetOf P.ik a S k) : ∀ o, h.get? a = some o → ¬ ImmO o := fun o e => by
  obtain ⟨o', es, ep, t, ho, hex, hd, _⟩ := D
  rw [ho] at e; cases e
  intro x
  rcases x with ⟨_, _, _, e⟩ | ⟨_, _, e⟩ | ⟨_, _, e⟩ <;> (rw [hd] at e; cases e)

/-- {e} -/
theorem SE.set1 {e : Expr} {pos : Pos} {f : Loc → Hp → Option (V × Hp)} (x : SE P n G e f) (hp : [e].all kdsPlain = true := by rfl) : SE P n G (.Set [e] 0 pos) (fSet f) := by
  intro A env own s ρ loc hq v hp' ha H F hf
  unfold fSet at hf
  split at hf
  · rename_i u hp1 q
    obtain ⟨hk, hf⟩ := ch_inv hf
    rw [arm_eval_Set]
    refine wpAny_bind (wpAny_standAt ?_)
    obtain ⟨c, o, vs, hce, hco, hcd⟩ := F.code
    refine wpAny_bind (main_or ⟨c, o, vs, hce, H.base _ _ hco, hcd⟩ fun b => ?_)
    rw [kds_star [e] hp, List.map_map]
    refine kds_core (ts := (evalEach [e] env).map fun t => do let v ← t; standAt pos; pure v) rfl ?_ ?_ ?_ fun led => ?_
    · refine List.findIdx?_eq_none_iff.mpr fun x hx => ?_
      obtain ⟨t, _, rfl⟩ := List.mem_map.mp hx
      rfl
    · rw [List.length_map, kds_len]; exact (by decide : 1 ≤ 30)
    · rw [List.map_map]; rfl
    · obtain ⟨h, gg, dr, t, os⟩ := s
      have hnew : (h.push { cls := .type "set", dict := none, data := .set #[] 0 (.fresh 0 0 led) }).get? h.objs.size = some { cls := .type "set", dict := none, data := .set #[] 0 (.fresh 0 0 led) } := Heap.get?_push_size _ rfl
      have hsz : (h.push { cls := .type "set", dict := none, data := .set #[] 0 (.fresh 0 0 led) }).objs.size = h.objs.size + 1 := Heap.size_push ..
      have S0 : Step [] ρ ⟨h, gg, dr, t, os⟩ ρ ⟨h.push { cls := .type "set", dict := none, data := .set #[] 0 (.fresh 0 0 led) }, gg, dr, t, os⟩ := .grow (s := ⟨h, gg, dr, t, os⟩) (t := t) (fun b o e => Heap.get?_push_of_some _ e) (by rw [hsz]; exact Nat.le_succ _)
      have H0 : HI P ρ hq ⟨h.push { cls := .type "set", dict := none, data := .set #[] 0 (.fresh 0 0 led) }, gg, dr, t, os⟩ := H.keeps (s' := ⟨h.push { cls := .type "set", dict := none, data := .set #[] 0 (.fresh 0 0 led) }, gg, dr, t, os⟩) (fun b o e => Heap.get?_push_of_some _ e) (by show h.objs.size ≤ (h.push _).objs.size; rw [hsz]; exact Nat.le_succ _)
      refine kds_all pos [e] _ _ ?_
      show wpAny _ _ (eval e env) _ _ _
      have hDρ : h.objs.size ∉ ρ := fun hm => absurd (H.new _ hm).2 (Nat.lt_irrefl _)
      refine x.use ha H0 (F.step S0) q fun e' s1 ρ1 H1 F1 S1 r1 => ?_
      obtain ⟨i, hi, rk⟩ : ∃ i, P.num u = some i ∧ ∃ tk, e' = .int i tk := by
        cases r1 with
        | num t e => exact ⟨_, e, _, rfl⟩
        | _ => cases hk
      obtain ⟨tk, rfl⟩ := rk
      have hD1 := S1.keep _ _ hnew hDρ (by simp)
      have hD : h.objs.size ∉ ρ1 := fun hm => by
        rcases S1.fresh _ hm with q | q
        · exact hDρ q
        · have : (h.push { cls := .type "set", dict := none, data := .set #[] 0 (.fresh 0 0 led) }).objs.size ≤ h.objs.size := q
          omega
      show wpAny _ _ (setAdd _ _) _ _ _
      have hkey : P.ik.is i (.int i tk) = true := intKind_is _ _ _ _
      unfold setAdd
      refine wpAny_holding (wpAny_bind (P.ik.pyHash hkey ?_))
      refine wpAny_setAddHashed_of (s := { s1 with toks := s1.toks + 1 }) hkey rfl ((setObjOf_fresh (knd := P.ik) led).setOf hD1 (by decide)) (by decide) fun h' hsb hS' => ?_
      obtain ⟨e1, e2, e3⟩ := mk_inv hf
      subst e1 e2
      have hS2 : h'.SetOf P.ik h.objs.size (fun k => decide (k = i)) 1 := by
        have e : (fun k' => false || decide (k' = i)) = (fun k' => decide (k' = i)) := by funext k'; simp
        have := hS'
        simp only [Bool.false_eq_true, if_false] at this
        rw [e] at this
        exact this
      have hz : s1.heap.objs.size ≤ h'.objs.size := Nat.le_of_eq hsb.1.symm
      have imm : ∀ o, s1.heap.get? h.objs.size = some o → ¬ ImmO o := set_imm (P := P) ((setObjOf_fresh (knd := P.ik) led).setOf hD1 (by decide))
      have hb0 : P.h₀.objs.size ≤ h.objs.size := H.sz
      have H2 := H1.other (t := s1.toks + 1) hD hb0 hsb.extBut imm hz
      have hlt : h.objs.size < h'.objs.size := Nat.lt_of_lt_of_le (Heap.lt_size hD1) hz
      have H3 := H2.adopt (o := .set u) e3 hD hb0 hlt ⟨i, hi, hS2⟩
      have S2 : Step [h.objs.size] ρ1 s1 ρ1 { s1 with heap := h', toks := s1.toks + 1 } := .change (t := s1.toks + 1) (.inr (.head _)) hsb.extBut imm hz
      have S3 : Step [] ρ ⟨h, gg, dr, t, os⟩ ρ1 { s1 with heap := h', toks := s1.toks + 1 } := ((S0.trans S1).weaken (fun _ h => nomatch h) |>.trans S2).clear (fun a ha => .inl (by rw [List.mem_singleton.mp ha]; exact Nat.le_refl _))
      have hfin : Res P ρ ⟨h, gg, dr, t, os⟩ (.ob hp1.n) (hp1.push (.set u)) (.ref h.objs.size) { s1 with heap := h', toks := s1.toks + 1 } :=
        ⟨ρ1 ++ [h.objs.size], H3, S3.snoc (Nat.le_refl _), .ob (by rw [← H1.len]; simp)⟩
      exact kds_fill_nil rfl hfin
  · cases hf
end
end
end Mine
end
section
open PySem PyProof.Rows PySem.W Builtin Builtin.ObjectAttr
set_option maxRecDepth 20000
set_option linter.unusedSimpArgs false
set_option linter.unusedVariables false
namespace Mine
noncomputable section
section
variable {P : Par} {n : Nat} {G : Sg}
/-- try, where nothing is raised -/
theorem S1.try {body : List Stmt} {h₀ : ExceptHandler} {hs : List ExceptHandler} {pos : Pos} {f : Loc → Hp → Option (Fl × Loc × Hp)} (x : SS P n G body f) : S1 P n G (.Try body (h₀ :: hs) [] [] pos) f := by
  intro A env own s ρ loc hp fl loc' hp' ha H F hf
  refine wpAny_Try_except (x.use ha H F hf fun fl' s' ρ' H' F' S' r' => ?_)
  cases fl with
  | next =>
    have r' : fl' = .next := r'
    subst r'
    exact wpAny_pure ⟨ρ', ⟨H', F', S'⟩, rfl⟩
  | brk =>
    have r' : fl' = .brk := r'
    subst r'
    exact ⟨ρ', ⟨H', F', S'⟩, rfl⟩
  | cont =>
    have r' : fl' = .cont := r'
    subst r'
    exact ⟨ρ', ⟨H', F', S'⟩, rfl⟩
  | ret v =>
    obtain ⟨v', rfl, hv⟩ := r'
    exact ⟨ρ', ⟨H', F', S'⟩, v', rfl, hv⟩

def fPlain (k : Nat) (rest : Nat) (f : Loc → Hp → Option (Fl × Loc × Hp)) : List V → Hp → Option (V × Hp) := fun vs hp => match ch (Nat.beq vs.length k) (some (vs, hp)) with
  | none => none
  | some (vs', hp1) => fFn rest f vs' hp1

/-- n not in the graph -/
theorem pNotInG {m : Nat} {fC : Addr} (hs : findIn P.K (.ref P.CG) "__contains__" = some (some (.ref fC))) (hf : isFn P.K (.ref fC) = true)
    (hF : FN P m fC (fPlain 2 0 (fSeq (fRet (fBin gIn (fLoc 1) (fUn (gAttr 1) (fLoc 0)))) fNil))) : P2 P m (compareOp .NotIn) gNotInG := by
  intro A s ρ hp a b a' b' v hp' ha H ra rb hg
  unfold gNotInG at hg
  split at hg
  · rename_i d hp1 e1
    split at hg
    · rename_i c e2
      cases hg
      have e1' := e1
      unfold gAttr at e1
      split at e1
      · rename_i i
        obtain ⟨x, hi, rfl⟩ := rb.ob_inv
        split at e1
        · rename_i dd e3
          split at e1
          · rename_i kvs e4
            split at e1
            · rename_i j e5
              cases e1
              obtain ⟨y, es, ep, sl, hy, hga, ho, K⟩ := gr_at H hi e3 e4
              have I : InstAt s.heap x { cls := .ref P.CG, dict := some y, data := .plain } P.CG (some { cls := .type "dict", data := .dict es ep, slots := sl }) := ⟨hga, rfl, rfl, ho⟩
              have X := P.kin.keeps H.base
              refine notIn_X X I hs hf (wpAny_mono (hF.call (vs := [.ob i, a]) ha H (.cons (.ob hi) (.cons ra .nil)) (v := .bool c) (hp' := hp) ?_) (fun r' s' rr => ?_) fun _ _ h => h)
              · show fFn 0 _ [.ob i, a] hp = _
                unfold fFn fSeq fRet fBin fUn fLoc
                dsimp only [List.map, List.replicate, HAppend.hAppend, Append.append, List.append, lget]
                rw [e1']
                dsimp only
                unfold gIn
                rw [e2]
              · obtain ⟨ρ', H', S', rv⟩ := rr
                obtain rfl := rv.bool_inv
                refine wpAny_pure ?_
                exact ⟨ρ', H', S', .bool _⟩
            · cases e1
          · cases e1
        · cases e1
      · cases e1
    · cases hg
  · cases hg
end
end
end Mine
end
section
open PySem PySem.Calls PyProof.Rows PySem.W Builtin Builtin.ObjectAttr Builtin.Getset_descriptor
set_option maxRecDepth 100000
set_option linter.unusedSimpArgs false
set_option linter.unusedVariables false
namespace Mine
theorem slot_setX {prog : Program} {w : World} {A : Around} {R : Result → Shared → Prop} {s : Shared} {K : Frag} {x C p : Addr} {ox ox' : Obj} {od : Option Obj} {v : Value} {i : Nat} (X : K.In s.heap) (I : InstAt s.heap x ox C od)
    (hp : slotIn K p C = some i) (hi : i < 1000)
    (e : { ox with slots := (ox.slots ++ Array.replicate (i + 1 - ox.slots.size) none).setIfInBounds i (some v) } = ox') (hf : ox'.isFreed = false)
    (h : ∀ h', h'.get? x = some ox' → Heap.SameBut x s.heap h' → R (.ok (.ret .none)) { s with heap := h' }) :
    codeAny (model prog w) A (.call (.builtin "member_descriptor.__set__") ⟨[.ref p, .ref x, v], []⟩) R s := by
  obtain ⟨n, tn, owner, behind, tb, d, sl, cd, ho, hc, hm, hb, rfl⟩ := slot_of X hp
  obtain ⟨hh, g, dr, t, os⟩ := s
  have L0 := I.type (M := model prog w)
  have L1 := looks_mroIn (M := model prog w) X hm
  have L2 : Looks (model prog w) hh (Slots.slotNamesOf (.ref C)) cd.slotNames := (looks_clsIn X hc).andThen .now
  have hx := I.at_
  dsimp only at ho hx L0 L1
  have f0 := looks_field (M := model prog w) ho 0 (v := .str n tn) rfl
  have f1 := looks_field (M := model prog w) ho 1 (v := owner) rfl
  have f3 := looks_field (M := model prog w) ho 3 (v := .builtin "proto.slot#set") rfl
  have f4 := looks_field (M := model prog w) ho 4 (v := .int behind tb) rfl
  refine codeAny_call_builtin KF.slot_mset.plain KF.entry_mset (KF.slot_mset.check _ _ _ _ _ _ _ _ ⟨_, ho, rfl⟩ (KF.args_mset _ _ _) ?_)
  unfold Builtin.«member_descriptor.__set__» descrSet descrStoreThrough descrCheckInstance descrNameAndClass isInstance
  have f5 : Looks (model prog w) hh (descrItself (.ref p)) [.ref p] := ((Looks.ld (part := none) ho).andThen .now).andThen (Looks.of_pure (by kernel_rfl))
  repeat lk
  refine ⟨Code.quiet_builtin _ (by decide +kernel), codeAny_builtin KF.entry_slotset ?_⟩
  unfold Builtin.«proto.slot#set» Slots.target
  repeat lk
  rw [if_neg hb]
  refine wpAny_pure (wpAny_bind ?_)
  unfold setSlotAt
  dsimp only
  rw [if_neg (by rw [sizeLine_eq]; omega)]
  refine wpAny_updatePart hx (wpAny_pure (h _ ?_ (Heap.SameBut.update ..)))
  subst e
  exact Heap.get?_update_self _ hx hf
end Mine
namespace Mine
noncomputable section
section
variable {prog : Program} {w : World} {A : Around} {E : Value → Shared → Prop} {s : Shared} {K : Frag} {x C p : Addr} {ox ox' od : Obj} {name : Str} {v : Value} {i : Nat}
theorem get_slotX {expr : Bool} {Q : Value → Shared → Prop} (X : K.In s.heap) (I : InstAt s.heap x ox C (some od)) (hg : plainGet K C name = true) (hc : isClsIn K C = true)
    (ha : findIn K (.ref C) name = some (some (.ref p))) (hn : specialIn K (.ref p) "__get__" = some (some (.builtin "member_descriptor.__get__"))) (ht : takesIn K (.ref p) = some true) (hp : slotIn K p C = some i)
    (hv : (ox.slots[i]?).join = some v) (hh : handedIn v = true) (h : Q v { s with toks := s.toks + 1 }) : wpAny (model prog w) A (getAttr (.ref x) name expr) Q E s :=
  get_bind X I (plainGet_of hg).1 (findObj_data hc ha hn ht) (plainGet_of hg).2 (wpAny_call (slot_get (s := { s with toks := s.toks + 1 }) X I hp hv (handed_on hh h)))
theorem set_slotX {Q : Unit → Shared → Prop} (X : K.In s.heap) (I : InstAt s.heap x ox C (some od))
    (hs : findIn K (.ref C) "__setattr__" = some (some (.builtin "object.__setattr__"))) (hp : plainOver K C = true) (ht : takerIn K C name = some (some (.ref p))) (hT : typeIn K (.ref p) = some (.type "member_descriptor")) (hi : slotIn K p C = some i) (hz : i < 1000)
    (e : { ox with slots := (ox.slots ++ Array.replicate (i + 1 - ox.slots.size) none).setIfInBounds i (some v) } = ox') (hf : ox'.isFreed = false)
    (h : ∀ h', h'.get? x = some ox' → Heap.SameBut x s.heap h' → Q () { s with heap := h', toks := s.toks + 1 }) : wpAny (model prog w) A (setAttr (.ref x) name v) Q E s :=
  set_plain X I hs (osa_descr (s := { s with toks := s.toks + 1 }) KF.slot_mset X I hp ht hT (slot_setX (s := { s with toks := s.toks + 1 }) X I hi hz e hf fun h' g sb => h h' g sb))
end

def Par.VC (P : Par) (b : Bool) : Addr := bif b then P.CA else P.CV
/-- what the model's fragment says of a view's class -/
structure ViewOk (P : Par) (C p : Addr) : Prop where
  get : plainGet P.K C "_atlas" = true
  cls : isClsIn P.K C = true
  fnd : findIn P.K (.ref C) "_atlas" = some (some (.ref p))
  des : specialIn P.K (.ref p) "__get__" = some (some (.builtin "member_descriptor.__get__"))
  dat : takesIn P.K (.ref p) = some true
  slt : slotIn P.K p C = some 0
  set : findIn P.K (.ref C) "__setattr__" = some (some (.builtin "object.__setattr__"))
  pln : plainOver P.K C = true
  tak : takerIn P.K C "_atlas" = some (some (.ref p))
  typ : typeIn P.K (.ref p) = some (.type "member_descriptor")

def gSlot : V → Hp → Option (V × Hp) := fun v hp => match v with
  | .ob i => match hp.get i with
    | some (.vw _ d (.ob j)) => match hp.get d with
      | some (.dI _ _) => some (.ob j, hp)
      | _ => none
    | _ => none
  | _ => none
def gSetSlot : V → V → Hp → Option Hp := fun c v hp => match c with
  | .ob i => match hp.get i with
    | some (.nw b d) => match hp.get d with
      | some (.dI _ _) => some (hp.upd i (.vw b d v))
      | _ => none
    | _ => none
  | _ => none
def fSetSlot (fv fc : Loc → Hp → Option (V × Hp)) : Loc → Hp → Option (Fl × Loc × Hp) := fun loc hp => match fv loc hp with
  | none => none
  | some (v, hp1) => match fc loc hp1 with
    | none => none
    | some (c, hp2) => match gSetSlot c v hp2 with
      | none => none
      | some hp3 => some (.next, loc, hp3)

section
variable {P : Par} {n : Nat} {G : Sg}
theorem vw_at {ρ : List Addr} {s : Shared} {hp : Hp} {i d : Nat} {a : Addr} {b : Bool} {v : V} {kvs : List (V × V)} {ep : Nat} (H : HI P ρ hp s) (hi : ρ[i]? = some a) (e1 : hp.get i = some (.vw b d v)) (e2 : hp.get d = some (.dI kvs ep)) :
    ∃ ox od v', InstAt s.heap a ox (P.VC b) (some od) ∧ ox.slots = #[some v'] ∧ VR P s.heap ρ v v' := by
  obtain ⟨dx, v', hd, ho, r⟩ := H.obj hi e1
  obtain ⟨kvs', ⟨od, es, hod, _⟩, _⟩ := H.obj hd e2
  exact ⟨_, od, v', ⟨ho, rfl, rfl, hod⟩, rfl, r⟩
theorem pSlot {A : Around} {s : Shared} {ρ : List Addr} {hp hp' : Hp} {g v : V} {g' : Value} {expr : Bool} {p : Addr} (Vo : ∀ b, ViewOk P (P.VC b) p) (H : HI P ρ hp s) (r : VR P s.heap ρ g g') (hg : gSlot g hp = some (v, hp')) :
    wpAny (model P.prog P.w) A (getAttr g' "_atlas" expr) (Res P ρ s v hp') NoE s := by
  unfold gSlot at hg
  split at hg
  · rename_i i
    obtain ⟨a, hi, rfl⟩ := r.ob_inv
    split at hg
    · rename_i b d j e1
      split at hg
      · rename_i kvs ep e2
        cases hg
        obtain ⟨ox, od, v', I, hs, rv⟩ := vw_at H hi e1 e2
        have V := Vo b
        obtain ⟨c, hc, rfl⟩ := rv.ob_inv
        exact get_slotX (P.kin.keeps H.base) I V.get V.cls V.fnd V.des V.dat V.slt (by rw [hs]; rfl) rfl (Res.here H (.ob hc))
      · cases hg
    · cases hg
  · cases hg
theorem SE.slot {e : Expr} {pos : Pos} {p : Addr} {f : Loc → Hp → Option (V × Hp)} (Vo : ∀ b, ViewOk P (P.VC b) p) (x : SE P n G e f)
    (hbase : ∀ env, attributeBase e "_atlas" env (eval e env) = eval e env := by intro _; rfl) : SE P n G (.Attribute e "_atlas" pos) (fUn gSlot f) := by
  intro A env own s ρ loc hp v hp' ha H F hf
  obtain ⟨va, hp1, h1, h2⟩ := fUn_inv hf
  rw [arm_eval_Attribute, hbase]
  refine wpAny_bind (x.use ha H F h1 fun a' s1 ρ1 H1 F1 S1 r1 => wpAny_bind (wpAny_standAt (wpAny_bind (wpAny_holding ?_))))
  refine wpAny_mono (pSlot Vo H1 r1 h2) (fun v' s2 r => wpAny_bind (wpAny_letTemporaryGo (wpAny_pure (Res.after (own := own) S1 r)))) fun _ _ h => h

theorem pSetSlot {A : Around} {s : Shared} {ρ : List Addr} {hp hp' : Hp} {g v : V} {g' v' : Value} {p : Addr} (Vo : ∀ b, ViewOk P (P.VC b) p) (H : HI P ρ hp s) (rg : VR P s.heap ρ g g') (rv : VR P s.heap ρ v v') (hg : gSetSlot g v hp = some hp') :
    wpAny (model P.prog P.w) A (setAttr g' "_atlas" v') (fun _ s' => HI P ρ hp' s' ∧ Step [] ρ s ρ s') NoE s := by
  unfold gSetSlot at hg
  split at hg
  · rename_i i
    obtain ⟨a, hi, rfl⟩ := rg.ob_inv
    split at hg
    · rename_i b d e1
      split at hg
      · rename_i kvs ep e2
        cases hg
        obtain ⟨dx, hd, ho⟩ := H.obj hi e1
        obtain ⟨kvs', ⟨od, es, hod, _⟩, _⟩ := H.obj hd e2
        have I : InstAt s.heap a { cls := .ref (P.VC b), dict := some dx, data := .plain } (P.VC b) (some od) := ⟨ho, rfl, rfl, hod⟩
        have V := Vo b
        refine set_slotX (P.kin.keeps H.base) I V.set V.pln V.tak V.typ V.slt (by decide) rfl rfl fun h' hget hs => ?_
        have imm : ∀ o, s.heap.get? a = some o → ¬ ImmO o := fun o e => by
          rw [ho] at e; cases e
          exact fun x => by rcases x with ⟨e, _⟩ | ⟨e, _⟩ | ⟨e, _⟩ <;> cases e
        have hz : s.heap.objs.size ≤ h'.objs.size := Nat.le_of_eq hs.1.symm
        exact ⟨H.upd hi hs.extBut imm hz ⟨dx, v', hd, hget, rv.mono (.same hs.extBut imm) (List.prefix_refl _)⟩, .change (.inl (List.mem_of_getElem? hi)) hs.extBut imm hz⟩
      · cases hg
    · cases hg
  · cases hg
theorem S1.setSlot {ev eo : Expr} {p' pos : Pos} {p : Addr} {fv fo : Loc → Hp → Option (V × Hp)} (Vo : ∀ b, ViewOk P (P.VC b) p) (x : SE P n G ev fv) (y : SE P n G eo fo)
    (hs : ∀ env : Env, env.scope = G.scope → swapsWith ev (some (.Attribute eo "_atlas" p')) pos.line env = pure false := by intro _ _; rfl) : S1 P n G (.Assign [.Attribute eo "_atlas" p'] ev pos) (fSetSlot fv fo) := by
  intro A env own s ρ loc hp fl loc' hp' ha H F hf
  unfold fSetSlot at hf
  cases q1 : fv loc hp with
  | none => rw [q1] at hf; cases hf
  | some z1 =>
    obtain ⟨v, hp1⟩ := z1
    rw [q1] at hf
    dsimp only at hf
    cases q2 : fo loc hp1 with
    | none => rw [q2] at hf; cases hf
    | some z2 =>
      obtain ⟨c, hp2⟩ := z2
      rw [q2] at hf
      dsimp only at hf
      cases q3 : gSetSlot c v hp2 with
      | none => rw [q3] at hf; cases hf
      | some hp3 =>
        rw [q3] at hf
        cases hf
        refine plainObj_wpAny_Assign_Attribute (x.use ha H F q1 fun v' s1 ρ1 H1 F1 S1 r1 => y.use ha H1 F1 q2 fun c' s2 ρ2 H2 F2 S2 r2 => ?_) (hs env F.scope)
        refine wpAny_mono (pSetSlot Vo H2 r2 (r1.mono S2.imm S2.pre) q3) (fun _ s3 ⟨H3, S3⟩ => ?_) fun _ _ h => h
        have S := (S1.trans S2).trans S3
        exact ⟨ρ2, ⟨H3, F.step S, S.own'⟩, rfl⟩
end
end
end Mine
end
section
open PySem PySem.Calls PyProof.Rows PySem.W Builtin Builtin.ObjectAttr
set_option maxRecDepth 100000
set_option linter.unusedSimpArgs false
set_option linter.unusedVariables false
namespace Mine
noncomputable section

/-- a view is made -/
def gNewV (b : Bool) (Fi : List V → Hp → Option (V × Hp)) : V → Hp → Option (V × Hp) := fun v hp => match mk hp (.dI [] 0) with
  | none => none
  | some (_, hp1) => match mk hp1 (.nw b hp.n) with
    | none => none
    | some (g, hp2) => match Fi [g, v] hp2 with
      | some (.none, hp3) => some (g, hp3)
      | _ => none

section
variable {P : Par} {n : Nat} {G : Sg}
theorem SE.newV {b : Bool} {x : Str} {px pos : Pos} {e : Expr} {f : Loc → Hp → Option (V × Hp)} {fI : Addr} {Fi : List V → Hp → Option (V × Hp)} (hx : SE P (n + 1) G (.Name x px) (fK (.st (P.VC b)))) (hk : keepIn P.K (.ref (P.VC b)) = true) (hm : makesIn P.K (P.VC b) = true) (hi : findIn P.K (.ref (P.VC b)) "__init__" = some (some (.ref fI)))
    (hf : typeIn P.K (.ref fI) = some (.type "function")) (y : SE P (n + 1) G e f) (hF : FN P n fI Fi)
    (he : ∀ env, starEach [e] env = (false, eval e env) :: starEach [] env := by intro _; rfl) : SE P (n + 1) G (.Call (.Name x px) [e] [] pos) (fUn (gNewV b Fi) f) := by
  intro A env own s ρ loc hp v hp' ha H F hfn
  obtain ⟨va, hq, h1, h2⟩ := fUn_inv hfn
  unfold gNewV at h2
  cases q1 : mk hq (.dI [] 0) with
  | none => rw [q1] at h2; cases h2
  | some z1 =>
    obtain ⟨d, hp1⟩ := z1
    rw [q1] at h2
    dsimp only at h2
    cases q2 : mk hp1 (.nw b hq.n) with
    | none => rw [q2] at h2; cases h2
    | some z2 =>
      obtain ⟨g, hp2⟩ := z2
      rw [q2] at h2
      dsimp only at h2
      split at h2
      · rename_i hp3 q3
        cases h2
        refine Call_ (hx.use ha H F (hp' := hp) rfl fun fv s00 ρ00 H00 F00 S00 r00 => ?_)
        obtain rfl : fv = .ref (P.VC b) := by cases r00 with | num t e => cases e | st => rfl
        refine callWith_K (P.kin.keeps H00.base) hk (args_cons (y.use ha H00 F00 h1 fun a' s0 ρ0 H0 F0 S0 r0 => args_nil ?_) (he env)) (he env)
        have X := P.kin.keeps H0.base
        refine ⟨X, wpAny_call ?_⟩
        obtain ⟨h, gg, dr, t, os⟩ := s0
        obtain ⟨e1, e2, e3⟩ := mk_inv q1
        obtain ⟨e4, e5, e6⟩ := mk_inv q2
        subst e1 e2
        refine make_core (rest := [a']) (kw := []) (makes_of X hm) (looks_findIn X hi) (fun self => bind_fn X self hf) (.inl rfl) ?_
        have sz1 : (h.push emptyDict).objs.size = h.objs.size + 1 := Heap.size_push ..
        have H1 : HI P (ρ0 ++ [h.objs.size]) (hq.push (.dI [] 0)) ⟨h.push emptyDict, gg, dr, t, os⟩ := H0.push (s := ⟨h, gg, dr, t, os⟩) (t := t) e3 (fun b o e => Heap.get?_push_of_some _ e) (by rw [sz1]; exact Nat.le_succ _) (Nat.le_refl _) (by rw [sz1]; exact Nat.lt_succ_self _) (Mine.newD (.inl rfl))
        have S1 : Step [] ρ0 ⟨h, gg, dr, t, os⟩ (ρ0 ++ [h.objs.size]) ⟨h.push emptyDict, gg, dr, t, os⟩ := .growTo (t := t) (fun b o e => Heap.get?_push_of_some _ e) (by rw [sz1]; exact Nat.le_succ _) (Nat.le_refl _)
        have hlen : ρ0.length = hq.n := H0.len
        have hd : (ρ0 ++ [h.objs.size] ++ [h.objs.size + 1])[hq.n]? = some h.objs.size := by
          rw [List.append_assoc, List.getElem?_append_right (by rw [hlen]; exact Nat.le_refl _), hlen]; simp
        have sz2 : ((h.push emptyDict).push (instObj (P.VC b) h.objs.size)).objs.size = h.objs.size + 2 := by rw [Heap.size_push, sz1]
        have hnew : ((h.push emptyDict).push (instObj (P.VC b) h.objs.size)).get? (h.objs.size + 1) = some (instObj (P.VC b) h.objs.size) := by rw [← sz1]; exact Heap.get?_push_size _ rfl
        have g2 : ∀ a o, (h.push emptyDict).get? a = some o → ((h.push emptyDict).push (instObj (P.VC b) h.objs.size)).get? a = some o := fun a o e => Heap.get?_push_of_some _ e
        have H2 : HI P (ρ0 ++ [h.objs.size] ++ [h.objs.size + 1]) ((hq.push (.dI [] 0)).push (.nw b hq.n)) ⟨(h.push emptyDict).push (instObj (P.VC b) h.objs.size), gg, dr, t, os⟩ :=
          H1.push (s := ⟨h.push emptyDict, gg, dr, t, os⟩) (t := t) e6 g2 (by rw [sz2]; show (h.push emptyDict).objs.size ≤ _; rw [sz1]; exact Nat.le_succ _) (by show (h.push emptyDict).objs.size ≤ _; rw [sz1]; exact Nat.le_refl _) (by rw [sz2]; exact Nat.lt_succ_self _) ⟨h.objs.size, hd, hnew⟩
        have S2 : Step [] (ρ0 ++ [h.objs.size]) ⟨h.push emptyDict, gg, dr, t, os⟩ (ρ0 ++ [h.objs.size] ++ [h.objs.size + 1]) ⟨(h.push emptyDict).push (instObj (P.VC b) h.objs.size), gg, dr, t, os⟩ :=
          .growTo (t := t) g2 (by rw [sz2]; show (h.push emptyDict).objs.size ≤ _; rw [sz1]; exact Nat.le_succ _) (by show (h.push emptyDict).objs.size ≤ _; rw [sz1]; exact Nat.le_refl _)
        have hg : (ρ0 ++ [h.objs.size] ++ [h.objs.size + 1])[(hq.push (.dI [] 0)).n]? = some (h.objs.size + 1) := by
          rw [List.getElem?_append_right (by rw [H1.len]; exact Nat.le_refl _), H1.len]; simp
        subst e4 e5
        have r2 := (r0.mono S1.imm S1.pre).mono S2.imm S2.pre
        refine hF.2 _ _ _ _ [.ob (hq.push (.dI [] 0)).n, va] [.ref (h.objs.size + 1), a'] _ _ _ (under_tc ha) H2 (.cons (.ob hg) (.cons r2 .nil)) q3 fun v' s3 r3 => ?_
        obtain ⟨ρ3, H3, S3, rv⟩ := r3
        obtain rfl := rv.none_inv
        have S := (((S00.trans S0).trans S1).trans S2).trans S3
        exact ⟨rfl, ρ3, H3, S, .ob (pre_get S3.pre hg)⟩
      · cases h2
end

/-- the functions of the views -/
def FinitV : List V → Hp → Option (V × Hp) := fPlain 2 0 (fSeq (fSetSlot (fLoc 1) (fLoc 0)) fNil)
def FitemV : List V → Hp → Option (V × Hp) := fPlain 2 0 (fSeq (fRet (fUn (gNewV false FinitV) (fBin gItem (fUn gSlot (fLoc 0)) (fLoc 1)))) fNil)
def FiterV : List V → Hp → Option (V × Hp) := fPlain 1 0 (fSeq (fRet (fUn gIter (fUn gSlot (fLoc 0)))) fNil)
def FadjV : List V → Hp → Option (V × Hp) := fPlain 1 0 (fSeq (fRet (fUn (gNewV true FinitV) (fUn (gAttr 2) (fLoc 0)))) fNil)

/-- an item of a view, an iterator over one -/
def isVw (b : Bool) : V → Hp → Bool := fun v hp => match v with
  | .ob i => match hp.get i with
    | some (.vw c d _) => match hp.get d with
      | some (.dI _ _) => (match b with
        | true => c
        | false => !c)
      | _ => false
    | _ => false
  | _ => false
theorem isVw_inv {P : Par} {b : Bool} {v : V} {v' : Value} {hp : Hp} {ρ : List Addr} {s : Shared} (h : isVw b v hp = true) (H : HI P ρ hp s) (r : VR P s.heap ρ v v') : ∃ i a ox od, v = .ob i ∧ v' = .ref a ∧ ρ[i]? = some a ∧ InstAt s.heap a ox (P.VC b) (some od) := by
  unfold isVw at h
  split at h
  · rename_i i
    obtain ⟨a, hi, rfl⟩ := r.ob_inv
    split at h
    · rename_i c d u e1
      split at h
      · rename_i kvs ep e2
        obtain ⟨ox, od, w, I, _⟩ := vw_at H hi e1 e2
        have : c = b := by cases b <;> cases c <;> first | rfl | cases h
        subst this
        exact ⟨i, a, ox, od, rfl, rfl, hi, I⟩
      · cases h
    · cases h
  · cases h

section
variable {prog : Program} {w : World} {A : Around} {E : Value → Shared → Prop} {s : Shared} {K : Frag} {x C f : Addr} {ox : Obj} {od : Option Obj}
/-- an item of an object, by the class's own function -/
theorem sub_X {value slice : Expr} {i : Value} {Q : Value → Shared → Prop} (X : K.In s.heap) (I : InstAt s.heap x ox C od) (hs : findIn K (.ref C) "__getitem__" = some (some (.ref f))) (hf : fnIn K f = true) (hfn : isFn K (.ref f) = true)
    (h : wpAny (model prog w) A.in1 (call (.ref f) [.ref x, i]) Q E s)
    (hsl : subscripted slice true (.ref x) i = runValue (.builtin "lifetime.subscript" ⟨[.ref x, i], []⟩)) :
    wpAny (model prog w) A (subscriptTail value slice (.ref x) i) Q E s := by
  unfold fnIn at hf
  split at hf
  · rename_i e
    unfold subscriptTail getitemInPython
    refine wpAny_bind (wpAny_bind (wpAny_bind (I.type.here ((looks_findIn X hs).here ?_))))
    dsimp only
    refine wpAny_bind (wpAny_load (X _ _ e) (wpAny_pure ?_))
    dsimp only
    rw [hsl]
    refine wpAny_bind (wpAny_runValue (codeAny_builtin entry_sub ?_))
    unfold Builtin.«lifetime.subscript»
    refine wpAny_bind (special_fn X I hs (beq_iff_eq.mp hfn) (wpAny_mono h (fun v s' z => ?_) fun _ _ z => z))
    refine wpAny_pure ?_
    show wpAny (model prog w) A (letTemporaryGo value (.ref x) v >>= fun _ => pure v) Q E s'
    exact wpAny_bind (wpAny_letTemporaryGo (wpAny_pure z))
  · cases hf
end
/-- what the model's fragment says of a class's own function -/
structure MethOk (P : Par) (C : Addr) (nm : Str) (f : Addr) : Prop where
  find : findIn P.K (.ref C) nm = some (some (.ref f))
  fn : fnIn P.K f = true
  is : isFn P.K (.ref f) = true
section
variable {P : Par} {n : Nat} {G : Sg}
theorem SE.subV {b : Bool} {fI : Addr} {e i : Expr} {pos : Pos} {f g : Loc → Hp → Option (V × Hp)} (x : SE P (n + 1) G e f) (y : SE P (n + 1) G i g) (M : MethOk P (P.VC b) "__getitem__" fI) {F : List V → Hp → Option (V × Hp)} (hF : FN P n fI F)
    (hsl : ∀ o j, subscripted i true o j = runValue (.builtin "lifetime.subscript" ⟨[o, j], []⟩) := by intro _ _; rfl) : SE P (n + 1) G (.Subscript e i pos) (fBin (fun a j hp => ch (isVw b a hp) (F [a, j] hp)) f g) := by
  intro A env own s ρ loc hp v hp' ha H Fi hf
  obtain ⟨va, hp1, vb, hp2, h1, h2, h3⟩ := fBin_inv hf
  refine Subscript_ (x.use ha H Fi h1 fun a' s1 ρ1 H1 F1 S1 r1 => y.use ha H1 F1 h2 fun b' s2 ρ2 H2 F2 S2 r2 => ?_)
  obtain ⟨hq, h4⟩ := ch_inv h3
  obtain ⟨k, a, ox, od, rfl, rfl, hi, I⟩ := isVw_inv hq H2 (r1.mono S2.imm S2.pre)
  exact sub_X (P.kin.keeps H2.base) I M.find M.fn M.is (wpAny_mono (hF.call ha.in1 H2 (.cons (.ob hi) (.cons r2 .nil)) h4) (fun v' s' r => Res.after (own := own) (S1.trans S2) r) fun _ _ h => h) (hsl _ _)

def isGr : V → Hp → Bool := fun v hp => match v with
  | .ob i => match hp.get i with
    | some (.gr d) => match hp.get d with
      | some (.gd _) => true
      | _ => false
    | _ => false
  | _ => false
theorem isGr_inv {v : V} {v' : Value} {hp : Hp} {ρ : List Addr} {s : Shared} (h : isGr v hp = true) (H : HI P ρ hp s) (r : VR P s.heap ρ v v') : ∃ i a ox od, v = .ob i ∧ v' = .ref a ∧ ρ[i]? = some a ∧ InstAt s.heap a ox P.CG (some od) := by
  unfold isGr at h
  split at h
  · rename_i i
    obtain ⟨a, hi, rfl⟩ := r.ob_inv
    split at h
    · rename_i d e1
      split at h
      · rename_i kvs e2
        obtain ⟨b, es, ep, sl, hb, ha, ho, K⟩ := gr_at H hi e1 e2
        exact ⟨i, a, _, _, rfl, rfl, hi, ⟨ha, rfl, rfl, ho⟩⟩
      · cases h
    · cases h
  · cases h
theorem SE.subG {fI : Addr} {e i : Expr} {pos : Pos} {f g : Loc → Hp → Option (V × Hp)} (x : SE P (n + 1) G e f) (y : SE P (n + 1) G i g) (M : MethOk P P.CG "__getitem__" fI) {F : List V → Hp → Option (V × Hp)} (hF : FN P n fI F)
    (hsl : ∀ o j, subscripted i true o j = runValue (.builtin "lifetime.subscript" ⟨[o, j], []⟩) := by intro _ _; rfl) : SE P (n + 1) G (.Subscript e i pos) (fBin (fun a j hp => ch (isGr a hp) (F [a, j] hp)) f g) := by
  intro A env own s ρ loc hp v hp' ha H Fi hf
  obtain ⟨va, hp1, vb, hp2, h1, h2, h3⟩ := fBin_inv hf
  refine Subscript_ (x.use ha H Fi h1 fun a' s1 ρ1 H1 F1 S1 r1 => y.use ha H1 F1 h2 fun b' s2 ρ2 H2 F2 S2 r2 => ?_)
  obtain ⟨hq, h4⟩ := ch_inv h3
  obtain ⟨k, a, ox, od, rfl, rfl, hi, I⟩ := isGr_inv hq H2 (r1.mono S2.imm S2.pre)
  exact sub_X (P.kin.keeps H2.base) I M.find M.fn M.is (wpAny_mono (hF.call ha.in1 H2 (.cons (.ob hi) (.cons r2 .nil)) h4) (fun v' s' r => Res.after (own := own) (S1.trans S2) r) fun _ _ h => h) (hsl _ _)
end
end
end Mine
end
section
open PySem PySem.Calls PyProof.Rows PySem.W Builtin Builtin.ObjectAttr
set_option maxRecDepth 100000
set_option linter.unusedSimpArgs false
set_option linter.unusedVariables false
namespace Mine
noncomputable section
section
variable {prog : Program} {w : World} {A : Around} {E : Value → Shared → Prop} {s : Shared} {K : Frag} {x C f : Addr} {ox : Obj} {od : Option Obj}
/-- iter by the class's own function, where it gives a dict's iterator -/
theorem iter_X {Q : Value → Shared → Prop} (X : K.In s.heap) (I : InstAt s.heap x ox C od) (hs : findIn K (.ref C) "__iter__" = some (some (.ref f))) (hf : isFn K (.ref f) = true)
    (h : wpAny (model prog w) A (call (.ref f) [.ref x]) (fun it s' => s'.TypeIs it "dict_keyiterator" ∧ Q it s') E s) : wpAny (model prog w) A (pyIter (.ref x)) Q E s := by
  unfold pyIter
  have L : Looks (model prog w) s.heap (specialOf (.ref x) "__iter__") (some (.ref f)) := I.type.andThen (looks_findIn X hs)
  have B := bind_fn (M := model prog w) X (.ref x) (beq_iff_eq.mp hf)
  refine wpAny_bind (L.here ?_)
  show wpAny _ _ (callSpecialIfBoundUnlessNone? (.ref x) "__iter__" _ >>= _) Q E s
  refine wpAny_bind (wpAny_mono (?_ : wpAny (model prog w) A _ (fun r s' => ∃ it, r = some it ∧ s'.TypeIs it "dict_keyiterator" ∧ Q it s') E s) (fun r s' hr => ?_) fun _ _ z => z)
  · simp only [callSpecialIfBoundUnlessNone?, bindSpecialIfBound?]
    refine wpAny_holding (wpAny_bind (wpAny_bind (L.here ?_)))
    have fin : ∀ refuse : Sem Value, wpAny (model prog w) A (if (Value.ref f == Value.none) = true then (refuse >>= fun v => pure (some v)) else (call (.ref f) [.ref x] >>= fun v => pure (some v))) (fun r s' => ∃ it, r = some it ∧ s'.TypeIs it "dict_keyiterator" ∧ Q it s') E s := by
      intro refuse
      rw [if_neg (by simp)]
      exact wpAny_bind (wpAny_mono h (fun v s' h' => wpAny_pure ⟨v, rfl, h'⟩) fun _ _ h' => h')
    refine wpAny_bind (wpAny_askSetting (wpAny_ite ?_))
    split
    · exact wpAny_bind (B.here (wpAny_pure (fin _)))
    · exact wpAny_tryCatch (wpAny_bind (B.here (wpAny_pure (fin _))))
  · obtain ⟨it, rfl, hT, hq⟩ := hr
    exact wpAny_bind (wpAny_specialOf hT F.slot_dict_keyiterator_next.lookup (wpAny_pure hq))
end

/-- a loop over a view -/
def fItV (F : List V → Hp → Option (V × Hp)) (f : Loc → Hp → Option (V × Hp)) : Loc → Hp → Option (It × Hp) := fun loc hp => match f loc hp with
  | none => none
  | some (a, hp1) => ch (isVw false a hp1) (match F [a] hp1 with
    | some (.ob i, hp2) => match hp2.get i with
      | some (.ki _ _ _ _) => some (.st i, hp2)
      | _ => none
    | _ => none)
section
variable {P : Par} {n : Nat} {G : Sg}
theorem SI.vw {e : Expr} {f : Loc → Hp → Option (V × Hp)} {fI : Addr} {F : List V → Hp → Option (V × Hp)} (x : SE P n G e f) (M : MethOk P (P.VC false) "__iter__" fI) (hF : FN P n fI F) : SI P n G e (fItV F f) := by
  intro A env own s ρ loc hp it hp' ha H Fi hf
  unfold fItV at hf
  cases q : f loc hp with
  | none => rw [q] at hf; cases hf
  | some z =>
    obtain ⟨v, hp1⟩ := z
    rw [q] at hf
    dsimp only at hf
    obtain ⟨hq, hf2⟩ := ch_inv hf
    split at hf2
    · rename_i i hp2 q2
      split at hf2
      · rename_i d j m ep q3
        cases hf2
        refine x.use ha H Fi q fun a' s1 ρ1 H1 F1 S1 r1 => ?_
        obtain ⟨k, a, ox, od, rfl, rfl, hi, I⟩ := isVw_inv hq H1 r1
        refine iter_X (P.kin.keeps H1.base) I M.find M.is (wpAny_mono (hF.call ha H1 (.cons (.ob hi) .nil) q2) (fun v' s2 r2 => ?_) fun _ _ h => h)
        obtain ⟨ρ2, H2, S2, rv⟩ := r2
        obtain ⟨c, hc, rfl⟩ := rv.ob_inv
        obtain ⟨b, hb, hit⟩ := H2.obj hc q3
        have S := S1.trans S2
        exact ⟨hit.typeIs, ρ2, c, H2, S, rfl, (S.fresh _ (List.mem_of_getElem? hc)).symm, hc, fun p => p.elim⟩
      · cases hf2
    · cases hf2
end
end
end Mine
end
section
open PySem PySem.Calls PyProof.Rows PySem.W
set_option maxRecDepth 20000
set_option linter.unusedSimpArgs false
set_option linter.unusedVariables false
namespace Mine
/-- no frame of the collector's on the stack -/
def okC : Code → Bool
  | .builtin id _ => !(id == "lifetime.gc.finalise")
  | _ => true
structure NoFin (Γ : Ctx) : Prop where
  code : okC Γ.code = true
  below : ∀ x ∈ Γ.below, okC x.1 = true
/-- wp in such contexts, nothing raised -/
def wpN {α : Type} (M : Model) (A : Around) (t : Sem α) (Q : α → Shared → Prop) (s : Shared) : Prop :=
  ∀ Γ p, Γ.In A → NoFin Γ → Sem.wp M Γ t (fun a _ s' => Q a s') (fun _ _ _ => False) p s
def codeN (M : Model) (A : Around) (c : Code) (R : Result → Shared → Prop) (s : Shared) : Prop :=
  ∀ Γ p, Γ.code = c → Γ.Below A → NoFin Γ → wpCode M Γ R p s
section
variable {α β : Type} {M : Model} {A : Around} {s : Shared}
theorem wpN_of {t : Sem α} {Q : α → Shared → Prop} (h : wpAny M A t Q NoE s) : wpN M A t Q s := fun Γ p hΓ _ => h Γ p hΓ
theorem codeN_of {c : Code} {R : Result → Shared → Prop} (h : codeAny M A c R s) : codeN M A c R s := fun Γ p hc hΓ _ => h Γ p hc hΓ
theorem wpN_mono {t : Sem α} {Q Q' : α → Shared → Prop} (h : wpN M A t Q s) (hQ : ∀ a s, Q a s → Q' a s) : wpN M A t Q' s :=
  fun Γ p hΓ hn => Sem.wp_mono M Γ t (fun a _ s => hQ a s) (fun _ _ _ h => h) p s (h Γ p hΓ hn)
theorem wpN_pure {a : α} {Q : α → Shared → Prop} (h : Q a s) : wpN M A (pure a) Q s := fun _ _ _ _ => h
theorem wpN_bind {m : Sem α} {f : α → Sem β} {Q : β → Shared → Prop} (h : wpN M A m (fun a s' => wpN M A (f a) Q s') s) : wpN M A (m >>= f) Q s := fun Γ p hΓ hn => by
  rw [Sem.wp_bind']
  exact Sem.wp_mono M Γ m (fun a p' s' h' => h' Γ p' hΓ hn) (fun _ _ _ h' => h') p s (h Γ p hΓ hn)
theorem wpN_bindA {m : Sem α} {f : α → Sem β} {Q : β → Shared → Prop} (h : wpAny M A m (fun a s' => wpN M A (f a) Q s') NoE s) : wpN M A (m >>= f) Q s := wpN_bind (wpN_of h)
theorem wpN_onRaise {m : Sem α} {k : Value → Sem Unit} {Q : α → Shared → Prop} (h : wpN M A m Q s) : wpN M A (m.onRaise k) Q s := fun Γ p hΓ hn => by
  rw [Sem.wp_onRaise]
  exact Sem.wp_mono M Γ m (fun _ _ _ h' => h') (fun _ _ _ h' => h'.elim) p s (h Γ p hΓ hn)
theorem wpN_tryCatch {m : Sem α} {k : Value → Sem α} {Q : α → Shared → Prop} (h : wpN M A m Q s) : wpN M A (tryCatch m k) Q s := fun Γ p hΓ hn => by
  rw [Sem.wp_tryCatch']
  exact Sem.wp_mono M Γ m (fun _ _ _ h' => h') (fun _ _ _ h' => h'.elim) p s (h Γ p hΓ hn)
theorem wpN_attempt {m : Sem α} {Q : Except Value α → Shared → Prop} (h : wpN M A m (fun a => Q (.ok a)) s) : wpN M A m.attempt Q s := fun Γ p hΓ hn => by
  rw [Sem.wp_attempt]
  exact Sem.wp_mono M Γ m (fun _ _ _ h' => h') (fun _ _ _ h' => h'.elim) p s (h Γ p hΓ hn)
theorem wpN_holding {vs : List Value} {m : Sem α} {Q : α → Shared → Prop} (h : wpN M A m Q s) : wpN M A (holding vs m) Q s := fun Γ p hΓ hn => by
  rw [Sem.wp_holding]; exact h Γ p hΓ hn
theorem wpN_keep {vs : List Value} {m : Sem α} {Q : α → Shared → Prop} (h : wpN M A m Q s) : wpN M A (m.keep vs) Q s := fun Γ p hΓ hn => by
  rw [Sem.wp_keep]; exact h Γ p hΓ hn
theorem NoFin.enter {Γ : Ctx} (hn : NoFin Γ) {c : Code} (ok : okC c = true) (h : Option Value) (p : Pos) : NoFin (Γ.enter c h p) := ⟨ok, fun x hx => by
  rcases List.mem_cons.mp hx with rfl | hx
  · exact hn.code
  · exact hn.below x hx⟩
theorem NoFin.goto {Γ : Ctx} (hn : NoFin Γ) {c : Code} (ok : okC c = true) : NoFin (Γ.goto c) := ⟨ok, hn.below⟩
theorem wpN_run {c : Code} {h : Option Value} {Q : Flow → Shared → Prop} (ok : okC c = true)
    (hc : codeN M (A.mark h) c (fun r s' => match r with | .ok f => Q f s' | .error _ => False) s) (hnb : h ≠ some byPass := by intro x; cases x) : wpN M A (run c h) Q s := fun Γ p hΓ hn => by
  rw [Sem.wp_run]
  obtain ⟨r, s', hr, hq⟩ := hc _ p rfl (hΓ.enter c h p hnb) (hn.enter ok h p)
  exact ⟨r, s', hr, by cases r <;> exact hq⟩
theorem wpN_runOwn {c : Code} {env : Env} {h : Option Value} {Q : Flow → Shared → Prop} (ok : okC c = true)
    (hc : codeN M (A.mark h) c (fun r s' => match r with | .ok f => Q f s' | .error _ => False) s) (hnb : h ≠ some byPass := by intro x; cases x) : wpN M A (runOwn c env h) Q s := by
  unfold runOwn
  exact wpN_onRaise (wpN_run ok hc hnb)
theorem wpN_runValue {c : Code} {Q : Value → Shared → Prop} (ok : okC c = true)
    (hc : codeN M A c (fun r s' => match r with | .ok (.ret v) => Q v s' | _ => False) s) : wpN M A (runValue c) Q s := fun Γ p hΓ hn => by
  rw [Sem.wp_runValue]
  obtain ⟨r, s', hr, hq⟩ := hc _ p rfl (hΓ.enter c none p (by intro x; cases x)) (hn.enter ok none p)
  exact ⟨r, s', hr, by rcases r with e | (_ | _ | _ | v) <;> exact hq⟩
theorem wpN_call {f : Value} {pos : List Value} {kw : List (Str × Value)} {Q : Value → Shared → Prop}
    (hc : codeN M A (.call f ⟨pos, kw⟩) (fun r s' => match r with | .ok (.ret v) => Q v s' | _ => False) s) : wpN M A (call f pos kw) Q s := wpN_runValue rfl hc
theorem codeN_mono {c : Code} {R R' : Result → Shared → Prop} (h : codeN M A c R s) (hR : ∀ r s, R r s → R' r s) : codeN M A c R' s :=
  fun Γ p hc hΓ hn => by
    obtain ⟨r, s', hr, hq⟩ := h Γ p hc hΓ hn
    exact ⟨r, s', hr, hR _ _ hq⟩
theorem codeN_of_tree {c : Code} {R : Result → Shared → Prop} 
    (h : wpN M (A.under c) (M.den c) (fun fin s' => match fin with | .done f => R (.ok f) s' | .again c' => c'.quiet = true ∧ okC c' = true ∧ codeN M A c' R s') s) : codeN M A c R s := fun Γ p hc hΓ hn => by
  rw [wpCode_iff_wp, hc]
  refine Sem.wp_mono M Γ _ (fun fin p' s' h' => ?_) (fun _ _ _ h' => h'.elim) p s (h Γ p (hc ▸ hΓ.in) hn)
  cases fin with
  | done f => exact h'
  | again c' => exact ⟨h'.1, h'.2.2 (Γ.goto c') p' rfl (hΓ.goto c') (hn.goto h'.2.1)⟩
theorem codeN_loop {c : Code} {R : Result → Shared → Prop} (hq : c.quiet = true) (ok : okC c = true) (I : Nat → Shared → Prop)
    (turn : ∀ n s, I n s → wpN M (A.under c) (M.den c) (fun fin s' => match fin with
        | .done f => R (.ok f) s'
        | .again c' => (c' = c ∧ ∃ m, m < n ∧ I m s') ∨ (c'.quiet = true ∧ okC c' = true ∧ codeN M A c' R s')) s)
    (n : Nat) (h : I n s) : codeN M A c R s := by
  induction n using Nat.strongRecOn generalizing s with
  | ind n ih =>
    refine codeN_of_tree (wpN_mono (turn n s h) (fun fin s' hf => ?_))
    cases fin with
    | done f => exact hf
    | again c' =>
      rcases hf with ⟨rfl, m, hm, hI⟩ | hf
      · exact ⟨hq, ok, ih m hm hI⟩
      · exact hf
theorem wpN_stack {Q : List (Code × Pos) → Shared → Prop} (h : ∀ st : List (Code × Pos), (∀ x ∈ st, okC x.1 = true) → Q st s) : wpN M A stack Q s := fun Γ p _ hn => by
  show Q ((Γ.code, p) :: Γ.below) s
  refine h _ fun x hx => ?_
  rcases List.mem_cons.mp hx with rfl | hx
  · exact hn.code
  · exact hn.below x hx
end
end Mine
end
section
open PySem PySem.Calls PyProof.Rows PySem.W
set_option maxRecDepth 20000
set_option linter.unusedSimpArgs false
set_option linter.unusedVariables false
namespace Mine
noncomputable section
section
variable {M : Model} {A : Around} {s : Shared} {env : Env}
theorem wpN_execs_cons {st : Stmt} {rest : List Stmt} {Q : Flow → Shared → Prop} (h : wpN M A (exec st env) (fun f s' => match f with | .next => wpN M A (execs rest env) Q s' | f => Q f s') s) : wpN M A (execs (st :: rest) env) Q s := by
  rw [execs_cons]
  exact wpN_bind (wpN_mono h (fun f s' h' => by cases f <;> first | exact h' | exact wpN_pure h'))
theorem wpN_If {test : Expr} {body orelse : List Stmt} {pos : Pos} {Q : Flow → Shared → Prop} (h : wpN M A (isTrue test env (eval test env)) (fun b s₂ => if b then wpN M A (execs body env) Q s₂ else wpN M A (execs orelse env) Q s₂) s) :
    wpN M A (exec (.If test body orelse pos) env) Q s := by
  rw [exec_If]
  refine wpN_bindA (wpAny_standAt (wpN_bind (wpN_mono h fun b s' h' => ?_)))
  cases b <;> exact h'
theorem wpN_Assign_Name {x : Str} {pos' pos : Pos} {value : Expr} {Q : Flow → Shared → Prop} (h : wpN M A (eval value env) (fun v s₁ => wpAny M A (storeName env x v) (fun _ => Q .next) NoE s₁) s)
    (hs : swapsWith value (some (.Name x pos')) pos.line env = pure false) : wpN M A (exec (.Assign [.Name x pos'] value pos) env) Q s := by
  rw [exec_Assign_Name env x pos' value pos hs]
  exact wpN_bindA (wpAny_standAt (wpN_bind (wpN_mono h fun v s' h' => wpN_bindA (wpAny_standAt (wpN_bindA (wpAny_bindName (wpAny_mono h' (fun _ _ z => wpN_pure z) fun _ _ z => z)))))))
theorem wpN_Return {e : Expr} {pos : Pos} {Q : Flow → Shared → Prop} (h : wpN M A (eval e env) (fun v => Q (.ret v)) s) : wpN M A (exec (.Return (some e) pos) env) Q s := by
  rw [exec_Return_some]
  exact wpN_bindA (wpAny_standAt (wpN_bind (wpN_mono h fun v s' h' => wpN_pure h')))
theorem wpN_Try {body : List Stmt} {h₀ : ExceptHandler} {hs : List ExceptHandler} {pos : Pos} {Q : Flow → Shared → Prop} (h : wpN M A (execs body env) (fun f s₁ => Q f s₁) s) : wpN M A (exec (.Try body (h₀ :: hs) [] [] pos) env) Q s := by
  rw [arm_exec_Try]
  refine wpN_bindA (wpAny_standAt ?_)
  unfold tryStmt
  simp only [List.isEmpty_nil, if_true, List.isEmpty_cons, Bool.false_and, Bool.false_eq_true, if_false]
  refine wpN_bind (wpN_attempt (wpN_mono h (fun f s₁ h₁ => ?_)))
  cases f <;> exact wpN_pure h₁
theorem wpN_While {test : Expr} {body orelse : List Stmt} {pos : Pos} {Q : Flow → Shared → Prop} (h : codeN M A (.whileLoop test body orelse env) (fun r s' => match r with | .ok f => Q f s' | .error _ => False) s) :
    wpN M A (exec (.While test body orelse pos) env) Q s := by
  rw [exec_While]
  exact wpN_bindA (wpAny_standAt (wpN_runOwn rfl h))
theorem wpN_For {target iter : Expr} {body orelse : List Stmt} {pos : Pos} {Q : Flow → Shared → Prop}
    (h : wpN M A (eval iter env) (fun x s₁ => wpAny M A (pyIter x) (fun it s₂ => codeN M A (.forLoop target it body orelse env) (fun r s' => match r with | .ok f => Q f s' | .error _ => False) s₂) NoE s₁) s)
    (hs : ∀ x, foldedSetIterable iter env x = pure x) : wpN M A (exec (.For target iter body orelse pos) env) Q s := by
  rw [exec_For]
  refine wpN_bindA (wpAny_standAt (wpN_bind (wpN_mono h fun x s₁ h₁ => ?_)))
  rw [hs x]
  exact wpN_bindA (wpAny_pure (wpN_bindA (wpAny_standAt (wpN_bindA (wpAny_holding (wpAny_mono h₁ (fun it s₂ h₂ => wpN_runOwn rfl h₂) fun _ _ z => z))))))
end
section
variable {prog : Program} {w : World} {A : Around} {s : Shared} {env : Env} {R : Result → Shared → Prop}
theorem codeN_whileLoop {test : Expr} {body orelse : List Stmt} (I : Nat → Shared → Prop)
    (turn : ∀ n s, I n s → wpN (model prog w) A (isTrue test env (eval test env)) (fun b s₂ =>
        if b then wpN (model prog w) A (execs body env) (fun f s₃ => match f with
            | .next | .cont => ∃ m, m < n ∧ I m s₃
            | .brk => R (.ok .next) s₃
            | .ret v => R (.ok (.ret v)) s₃) s₂
        else wpN (model prog w) A (execs orelse env) (fun f s₃ => R (.ok f) s₃) s₂) s)
    (n : Nat) (h : I n s) : codeN (model prog w) A (.whileLoop test body orelse env) R s := by
  refine codeN_loop rfl rfl I (fun n s hI => ?_) n h
  show wpN _ A ((whileTurn test body orelse env).onRaise (fun x => do noteFrame x env; theTreesLotGoes x)) _ s
  refine wpN_onRaise ?_
  simp only [whileTurn]
  refine wpN_bind (wpN_mono (turn n s hI) (fun b s₂ h₂ => ?_))
  cases b with
  | false =>
    simp only [Bool.false_eq_true, if_false] at h₂ ⊢
    exact wpN_bind (wpN_mono h₂ (fun f s₃ h₃ => wpN_pure h₃))
  | true =>
    simp only [if_true] at h₂ ⊢
    refine wpN_bind (wpN_mono h₂ (fun f s₃ h₃ => ?_))
    cases f with
    | next => exact wpN_pure (.inl ⟨rfl, h₃⟩)
    | cont => exact wpN_pure (.inl ⟨rfl, h₃⟩)
    | brk => exact wpN_pure h₃
    | ret v => exact wpN_pure h₃
theorem codeN_block {stmts : List Stmt} (h : wpN (model prog w) A (execs stmts env) (fun f s' => R (.ok f) s') s) : codeN (model prog w) A (.block stmts env) R s := by
  refine codeN_of_tree ?_
  show wpN _ _ (do return Fin.done (← (execs stmts env).onRaise (fun x => do noteFrame x env; theTreesLotGoes x))) _ s
  exact wpN_bind (wpN_onRaise (wpN_mono h (fun f s' h' => wpN_pure h')))
theorem codeN_forLoop {target : Expr} {it : Value} {body orelse : List Stmt} (I : Nat → Shared → Prop)
    (turn : ∀ n s, I n s → wpAny (model prog w) A (pyNext it) (fun r s₁ => match r with
      | none => wpN (model prog w) A (execs orelse env) (fun f s₃ => R (.ok f) s₃) s₁
      | some v => wpAny (model prog w) A (letOwnedTupleGo target it v) (fun _ s₁' => wpAny (model prog w) A (assign target env v) (fun _ s₂ => wpN (model prog w) A (execs body env) (fun f s₃ => match f with
            | .next | .cont => ∃ m, m < n ∧ I m s₃
            | .brk => R (.ok .next) s₃
            | .ret v => R (.ok (.ret v)) s₃) s₂) NoE s₁') NoE s₁) NoE s)
    (n : Nat) (h : I n s) : codeN (model prog w) A (.forLoop target it body orelse env) R s := by
  refine codeN_loop rfl rfl I (fun n s hI => ?_) n h
  show wpN _ A ((forTurn target it body orelse env).onRaise (fun x => do noteFrame x env; theTreesLotGoes x)) _ s
  refine wpN_onRaise ?_
  simp only [forTurn]
  refine wpN_bindA (wpAny_standAt (wpN_bind (wpN_onRaise (wpN_of (wpAny_mono (turn n s hI) (fun r s₁ h₁ => ?_) fun _ _ h => h)))))
  cases r with
  | none => exact wpN_pure (.inr ⟨rfl, rfl, codeN_block h₁⟩)
  | some v =>
    refine wpN_bindA (wpAny_mono h₁ (fun _ s₁' h₁' => ?_) fun _ _ h' => h')
    refine wpN_bindA (wpAny_mono h₁' (fun _ s₂ h₂ => wpN_bind (wpN_mono h₂ (fun f s₃ h₃ => ?_))) fun _ _ h' => h')
    cases f with
    | next => exact wpN_pure (.inl ⟨rfl, h₃⟩)
    | cont => exact wpN_pure (.inl ⟨rfl, h₃⟩)
    | brk => exact wpN_pure h₃
    | ret v => exact wpN_pure h₃
end

def SEn (P : Par) (n : Nat) (G : Sg) (e : Expr) (f : Loc → Hp → Option (V × Hp)) : Prop :=
  ∀ A env own s ρ loc hp v hp', AOk n A → HI P ρ hp s → FI P G env own ρ loc s.heap → f loc hp = some (v, hp') →
    wpN (model P.prog P.w) A (eval e env) (Res P ρ s v hp') s
def S1n (P : Par) (n : Nat) (G : Sg) (st : Stmt) (f : Loc → Hp → Option (Fl × Loc × Hp)) : Prop :=
  ∀ A env own s ρ loc hp fl loc' hp', AOk n A → HI P ρ hp s → FI P G env own ρ loc s.heap → f loc hp = some (fl, loc', hp') →
    wpN (model P.prog P.w) A (exec st env) (fun fl' s' => ∃ ρ', At P G env own ρ s loc' hp' s' ρ' ∧ FlR P s'.heap ρ' fl fl') s
def SSn (P : Par) (n : Nat) (G : Sg) (l : List Stmt) (f : Loc → Hp → Option (Fl × Loc × Hp)) : Prop :=
  ∀ A env own s ρ loc hp fl loc' hp', AOk n A → HI P ρ hp s → FI P G env own ρ loc s.heap → f loc hp = some (fl, loc', hp') →
    wpN (model P.prog P.w) A (execs l env) (fun fl' s' => ∃ ρ', At P G env own ρ s loc' hp' s' ρ' ∧ FlR P s'.heap ρ' fl fl') s
def SIn (P : Par) (n : Nat) (G : Sg) (e : Expr) (f : Loc → Hp → Option (It × Hp)) : Prop :=
  ∀ A env own s ρ loc hp it hp', AOk n A → HI P ρ hp s → FI P G env own ρ loc s.heap → f loc hp = some (it, hp') →
    wpN (model P.prog P.w) A (eval e env) (fun x s1 => wpAny (model P.prog P.w) A (pyIter x) (fun v' s2 => ∃ ρ' a, HI P ρ' hp' s2 ∧ Step [] ρ s ρ' s2 ∧ v' = .ref a ∧ (s.heap.objs.size ≤ a ∨ a ∈ ρ) ∧ ItOk P env own ρ' s2.heap a it) NoE s1) s

section
variable {P : Par} {n : Nat} {G : Sg}
theorem SEn.of {e : Expr} {f : Loc → Hp → Option (V × Hp)} (x : SE P n G e f) : SEn P n G e f := fun A env own s ρ loc hp v hp' a H F h => wpN_of (x A env own s ρ loc hp v hp' a H F h)
theorem S1n.of {e : Stmt} {f : Loc → Hp → Option (Fl × Loc × Hp)} (x : S1 P n G e f) : S1n P n G e f := fun A env own s ρ loc hp fl loc' hp' a H F h => wpN_of (x A env own s ρ loc hp fl loc' hp' a H F h)
theorem SSn.of {e : List Stmt} {f : Loc → Hp → Option (Fl × Loc × Hp)} (x : SS P n G e f) : SSn P n G e f := fun A env own s ρ loc hp fl loc' hp' a H F h => wpN_of (x A env own s ρ loc hp fl loc' hp' a H F h)
theorem SIn.of {e : Expr} {f : Loc → Hp → Option (It × Hp)} (x : SI P n G e f) : SIn P n G e f := fun A env own s ρ loc hp it hp' a H F h => wpN_of (x A env own s ρ loc hp it hp' a H F h)
theorem SEn.use {e : Expr} {f : Loc → Hp → Option (V × Hp)} (x : SEn P n G e f) {A : Around} {env : Env} {own : List Addr} {s : Shared} {ρ : List Addr} {loc : Loc} {hp : Hp} {v : V} {hp' : Hp} {Q : Value → Shared → Prop}
    (a : AOk n A) (H : HI P ρ hp s) (F : FI P G env own ρ loc s.heap) (hf : f loc hp = some (v, hp'))
    (k : ∀ v' s' ρ', HI P ρ' hp' s' → FI P G env own ρ' loc s'.heap → Step [] ρ s ρ' s' → VR P s'.heap ρ' v v' → Q v' s') :
    wpN (model P.prog P.w) A (eval e env) Q s :=
  wpN_mono (x A env own s ρ loc hp v hp' a H F hf) (fun v' s' ⟨ρ', h1, h2, h3⟩ => k v' s' ρ' h1 (F.step h2) h2 h3)
theorem S1n.use {st : Stmt} {f : Loc → Hp → Option (Fl × Loc × Hp)} (x : S1n P n G st f) {A : Around} {env : Env} {own : List Addr} {s : Shared} {ρ : List Addr} {loc loc' : Loc} {hp hp' : Hp} {fl : Fl} {Q : Flow → Shared → Prop}
    (a : AOk n A) (H : HI P ρ hp s) (F : FI P G env own ρ loc s.heap) (hf : f loc hp = some (fl, loc', hp'))
    (k : ∀ fl' s' ρ', HI P ρ' hp' s' → FI P G env own ρ' loc' s'.heap → Step own ρ s ρ' s' → FlR P s'.heap ρ' fl fl' → Q fl' s') : wpN (model P.prog P.w) A (exec st env) Q s :=
  wpN_mono (x A env own s ρ loc hp fl loc' hp' a H F hf) (fun fl' s' ⟨ρ', ⟨h1, h2, h3⟩, h4⟩ => k fl' s' ρ' h1 h2 h3 h4)
theorem SSn.use {st : List Stmt} {f : Loc → Hp → Option (Fl × Loc × Hp)} (x : SSn P n G st f) {A : Around} {env : Env} {own : List Addr} {s : Shared} {ρ : List Addr} {loc loc' : Loc} {hp hp' : Hp} {fl : Fl} {Q : Flow → Shared → Prop}
    (a : AOk n A) (H : HI P ρ hp s) (F : FI P G env own ρ loc s.heap) (hf : f loc hp = some (fl, loc', hp'))
    (k : ∀ fl' s' ρ', HI P ρ' hp' s' → FI P G env own ρ' loc' s'.heap → Step own ρ s ρ' s' → FlR P s'.heap ρ' fl fl' → Q fl' s') : wpN (model P.prog P.w) A (execs st env) Q s :=
  wpN_mono (x A env own s ρ loc hp fl loc' hp' a H F hf) (fun fl' s' ⟨ρ', ⟨h1, h2, h3⟩, h4⟩ => k fl' s' ρ' h1 h2 h3 h4)

theorem SSn.cons {st : Stmt} {r : List Stmt} {f g : Loc → Hp → Option (Fl × Loc × Hp)} (x : S1n P n G st f) (y : SSn P n G r g) : SSn P n G (st :: r) (fSeq f g) := by
  intro A env own s ρ loc hp fl loc' hp' ha H F hf
  unfold fSeq at hf
  cases q : f loc hp with
  | none => rw [q] at hf; cases hf
  | some z =>
    obtain ⟨fl1, loc1, hp1⟩ := z
    rw [q] at hf
    refine wpN_execs_cons (x.use ha H F q fun fl' s1 ρ1 H1 F1 S1 r1 => ?_)
    cases fl1 with
    | next =>
      obtain rfl : fl' = .next := r1
      exact y.use ha H1 F1 hf fun fl' s2 ρ2 H2 F2 S2 r2 => ⟨ρ2, ⟨H2, F2, S1.trans S2⟩, r2⟩
    | brk => obtain rfl : fl' = .brk := r1; cases hf; exact ⟨ρ1, ⟨H1, F1, S1⟩, rfl⟩
    | cont => obtain rfl : fl' = .cont := r1; cases hf; exact ⟨ρ1, ⟨H1, F1, S1⟩, rfl⟩
    | ret v => obtain ⟨v', rfl, hv⟩ := r1; cases hf; exact ⟨ρ1, ⟨H1, F1, S1⟩, ⟨v', rfl, hv⟩⟩
theorem S1n.ife {e : Expr} {body orelse : List Stmt} {pos : Pos} {b : Loc → Hp → Option (Bool × Hp)} {f g : Loc → Hp → Option (Fl × Loc × Hp)} (x : SB P n G e b) (y : SSn P n G body f) (z : SSn P n G orelse g) :
    S1n P n G (.If e body orelse pos) (fIf b f g) := by
  intro A env own s ρ loc hp fl loc' hp' ha H F hf
  unfold fIf at hf
  cases q : b loc hp with
  | none => rw [q] at hf; cases hf
  | some w =>
    obtain ⟨c, hp1⟩ := w
    rw [q] at hf
    refine wpN_If (wpN_of (x.use ha H F q fun s1 ρ1 H1 F1 S1 => ?_))
    cases c with
    | true =>
      rw [if_pos rfl]
      exact y.use ha H1 F1 hf fun fl' s2 ρ2 H2 F2 S2 r2 => ⟨ρ2, ⟨H2, F2, S1.own'.trans S2⟩, r2⟩
    | false =>
      rw [if_neg Bool.false_ne_true]
      exact z.use ha H1 F1 hf fun fl' s2 ρ2 H2 F2 S2 r2 => ⟨ρ2, ⟨H2, F2, S1.own'.trans S2⟩, r2⟩
theorem S1n.asg {e : Expr} {f : Loc → Hp → Option (V × Hp)} {i : Nat} {x : Str} {k : VK} {px pos : Pos} (y : SEn P n G e f) (hi : G.vars[i]? = some (x, k)) (hk : k ≠ .cap)
    (hs : ∀ env : Env, env.scope = G.scope → swapsWith e (some (.Name x px)) pos.line env = pure false := by intro _ _; rfl) : S1n P n G (.Assign [.Name x px] e pos) (fAsg f i) := by
  intro A env own s ρ loc hp fl loc' hp' ha H F hf
  unfold fAsg at hf
  cases q : f loc hp with
  | none => rw [q] at hf; cases hf
  | some z =>
    obtain ⟨v, hp1⟩ := z
    rw [q] at hf
    cases hf
    refine wpN_Assign_Name (y.use ha H F q fun v' s1 ρ1 H1 F1 S1 r1 => ?_) (hs env F.scope)
    exact wpAny_mono (store hi hk H1 F1 r1) (fun _ s2 h => ⟨ρ1, At.trans S1.own' h, rfl⟩) fun _ _ h => h
theorem S1n.ret {e : Expr} {f : Loc → Hp → Option (V × Hp)} {pos : Pos} (y : SEn P n G e f) : S1n P n G (.Return (some e) pos) (fRet f) := by
  intro A env own s ρ loc hp fl loc' hp' ha H F hf
  unfold fRet at hf
  cases q : f loc hp with
  | none => rw [q] at hf; cases hf
  | some z =>
    obtain ⟨v, hp1⟩ := z
    rw [q] at hf
    cases hf
    exact wpN_Return (y.use ha H F q fun v' s1 ρ1 H1 F1 S1 r1 => ⟨ρ1, ⟨H1, F1, S1.own'⟩, ⟨v', rfl, r1⟩⟩)
theorem S1n.try {body : List Stmt} {h₀ : ExceptHandler} {hs : List ExceptHandler} {pos : Pos} {f : Loc → Hp → Option (Fl × Loc × Hp)} (x : SSn P n G body f) : S1n P n G (.Try body (h₀ :: hs) [] [] pos) f :=
  fun A env own s ρ loc hp fl loc' hp' ha H F hf => wpN_Try (x A env own s ρ loc hp fl loc' hp' ha H F hf)
theorem S1n.while {test : Expr} {body orelse : List Stmt} {pos : Pos} {k : Nat} {b : Loc → Hp → Option (Bool × Hp)} {fb fo : Loc → Hp → Option (Fl × Loc × Hp)}
    (x : SB P n G test b) (z : SSn P n G body fb) (w : SSn P n G orelse fo) : S1n P n G (.While test body orelse pos) (fWhile b fb fo k) := by
  intro A env own s ρ loc hp fl loc' hp' ha H F hf
  refine wpN_While ?_
  refine codeN_whileLoop (fun k s1 => ∃ ρ1 loc1 hp1, HI P ρ1 hp1 s1 ∧ FI P G env own ρ1 loc1 s1.heap ∧ Step own ρ s ρ1 s1 ∧ fWhile b fb fo k loc1 hp1 = some (fl, loc', hp')) ?_ k ⟨ρ, loc, hp, H, F, .refl, hf⟩
  rintro m s1 ⟨ρ1, loc1, hp1, H1, F1, S1, hf⟩
  cases m with
  | zero => cases hf
  | succ m =>
    unfold fWhile at hf
    cases q : b loc1 hp1 with
    | none => rw [q] at hf; cases hf
    | some y =>
      obtain ⟨c, hp2⟩ := y
      rw [q] at hf
      dsimp only at hf
      refine wpN_of (x.use ha H1 F1 q fun s2 ρ2 H2 F2 S2 => ?_)
      cases c with
      | false =>
        rw [if_neg Bool.false_ne_true]
        exact w.use ha H2 F2 hf fun fl' s3 ρ3 H3 F3 S3 r3 => ⟨ρ3, ⟨H3, F3, (S1.trans S2.own').trans S3⟩, r3⟩
      | true =>
        rw [if_pos rfl]
        dsimp only at hf
        cases q3 : fb loc1 hp2 with
        | none => rw [q3] at hf; cases hf
        | some y3 =>
          obtain ⟨fl3, loc3, hp3⟩ := y3
          rw [q3] at hf
          dsimp only at hf
          refine z.use ha H2 F2 q3 fun fl4 s3 ρ3 H3 F3 S3 r3 => ?_
          have S := (S1.trans S2.own').trans S3
          cases fl3 with
          | next => obtain rfl : fl4 = .next := r3; exact ⟨m, Nat.lt_succ_self _, ρ3, loc3, hp3, H3, F3, S, hf⟩
          | cont => obtain rfl : fl4 = .cont := r3; exact ⟨m, Nat.lt_succ_self _, ρ3, loc3, hp3, H3, F3, S, hf⟩
          | brk => obtain rfl : fl4 = .brk := r3; cases hf; exact ⟨ρ3, ⟨H3, F3, S⟩, rfl⟩
          | ret v => obtain ⟨v', rfl, hv⟩ := r3; cases hf; exact ⟨ρ3, ⟨H3, F3, S⟩, ⟨v', rfl, hv⟩⟩
theorem S1n.for {target iter : Expr} {body orelse : List Stmt} {pos : Pos} {k : Nat} {fi : Loc → Hp → Option (It × Hp)} {aT : V → Loc → Hp → Option (Loc × Hp)} {fb fo : Loc → Hp → Option (Fl × Loc × Hp)}
    (x : SIn P n G iter fi) (y : SA P n G target aT) (z : SSn P n G body fb) (w : SSn P n G orelse fo)
    (hl : ∀ i v, letOwnedTupleGo target i v = pure () := by intro _ _; rfl) (hs : ∀ env x, foldedSetIterable iter env x = pure x := by intro _ _; rfl) :
    S1n P n G (.For target iter body orelse pos) (fFor k fi aT fb fo) := by
  intro A env own s ρ loc hp fl loc' hp' ha H F hf
  unfold fFor at hf
  cases q : fi loc hp with
  | none => rw [q] at hf; cases hf
  | some x2 =>
    obtain ⟨it, hp1⟩ := x2
    rw [q] at hf
    dsimp only at hf
    refine wpN_For (wpN_mono (x A env own s ρ loc hp it hp1 ha H F q) (fun v s1 h1 => wpAny_mono h1 (fun i s2 ⟨ρ2, a, H2, S2, e, o2, hi⟩ => ?_) fun _ _ h => h.elim)) (hs env)
    subst e
    have F2 := F.step S2
    refine codeN_forLoop (fun k s1 => ∃ ρ1 loc1 hp1 it1, HI P ρ1 hp1 s1 ∧ FI P G env own ρ1 loc1 s1.heap ∧ Step (a :: own) ρ2 s2 ρ1 s1 ∧ ItOk P env own ρ1 s1.heap a it1 ∧ fLoop aT fb fo k it1 loc1 hp1 = some (fl, loc', hp')) ?_ k ⟨ρ2, loc, hp1, it, H2, F2, .refl, hi, hf⟩
    rintro m s1 ⟨ρ1, loc1, hp1, it1, H1, F1, S1, I1, hf⟩
    cases m with
    | zero => cases hf
    | succ m =>
      unfold fLoop at hf
      cases q : gNx it1 hp1 with
      | none => rw [q] at hf; cases hf
      | some x =>
        obtain ⟨r, it2, hp2⟩ := x
        rw [q] at hf
        dsimp only at hf
        refine wpAny_mono (pNx ha H1 I1 q) (fun r' s3 ⟨h1, H3, S3, I3, O3⟩ => ?_) fun _ _ h => h.elim
        have F3 := F1.nxd S3 O3
        have S3 : Step (a :: own) ρ1 s1 ρ1 s3 := S3.one
        cases r with
        | none =>
          cases r' with
          | some _ => exact h1.elim
          | none => exact w.use ha H3 F3 hf fun fl' s4 ρ4 H4 F4 S4 r4 => ⟨ρ4, ⟨H4, F4, (S2.own'.trans ((S1.trans S3).trans S4.cons)).drop o2⟩, r4⟩
        | some v =>
          cases r' with
          | none => exact h1.elim
          | some v' =>
            have I3 := I3 rfl
            dsimp only at hf ⊢
            cases q2 : aT v loc1 hp2 with
            | none => rw [q2] at hf; cases hf
            | some y2 =>
              obtain ⟨loc2, hp3⟩ := y2
              rw [q2] at hf
              dsimp only at hf
              rw [hl]
              refine wpAny_pure (y.use ha H3 F3 h1 q2 fun s4 ρ4 H4 F4 S4 => ?_)
              have I4 := I3.stepC S4
              cases q3 : fb loc2 hp3 with
              | none => rw [q3] at hf; cases hf
              | some y3 =>
                obtain ⟨fl3, loc3, hp4⟩ := y3
                rw [q3] at hf
                dsimp only at hf
                refine z.use ha H4 F4 q3 fun fl4 s5 ρ5 H5 F5 S5 r5 => ?_
                have I5 := I4.stepC S5
                have S := ((S1.trans S3).trans S4.cons).trans S5.cons
                have Sd := (S2.own'.trans S).drop o2
                cases fl3 with
                | next => obtain rfl : fl4 = .next := r5; exact ⟨m, Nat.lt_succ_self _, ρ5, loc3, hp4, it2, H5, F5, S, I5, hf⟩
                | cont => obtain rfl : fl4 = .cont := r5; exact ⟨m, Nat.lt_succ_self _, ρ5, loc3, hp4, it2, H5, F5, S, I5, hf⟩
                | brk => obtain rfl : fl4 = .brk := r5; cases hf; exact ⟨ρ5, ⟨H5, F5, Sd⟩, rfl⟩
                | ret v => obtain ⟨v', rfl, hv⟩ := r5; cases hf; exact ⟨ρ5, ⟨H5, F5, Sd⟩, ⟨v', rfl, hv⟩⟩
end
end
end Mine
end
section
open PySem PySem.Calls PyProof.Rows PySem.W
set_option maxRecDepth 100000
set_option linter.unusedSimpArgs false
set_option linter.unusedVariables false
namespace Mine
noncomputable section
section
variable {prog : Program} {w : World} {A : Around} {s : Shared} {env : Env} {R : Result → Shared → Prop}
theorem codeN_builtin {id : String} {args : Args} {b : Builtin} (hb : entryFor table id = some b)
    (h : wpN (model prog w) (A.under (.builtin id args)) (b args) (fun fin s' => match fin with | .done f => R (.ok f) s' | .again c' => c'.quiet = true ∧ okC c' = true ∧ codeN (model prog w) A c' R s') s) :
    codeN (model prog w) A (.builtin id args) R s := by
  refine codeN_of_tree ?_
  show wpN _ _ (match entryFor table id with | some b => b args | none => unsupported ((withoutEnding? id "#data").getD id)) _ s
  rw [hb]; exact h
theorem codeN_call_builtin {id : String} {args : Args} {b : Builtin} (hq : plainId id = true) (ok : okC (.builtin id args) = true) (hb : entryFor table id = some b)
    (h : wpAny (model prog w) A.in1 (checkBuiltinCall id args) (fun _ s₁ => wpN (model prog w) A.in1 (b args) (fun fin s' => match fin with | .done f => R (.ok f) s' | .again c' => c'.quiet = true ∧ okC c' = true ∧ codeN (model prog w) A c' R s') s₁) NoE s) :
    codeN (model prog w) A (.call (.builtin id) args) R s := by
  refine codeN_of_tree ?_
  show wpN _ A.in1 (do checkBuiltinCall id args; again (.builtin id args)) _ s
  refine wpN_bindA (wpAny_mono h (fun _ s₁ h₁ => wpN_pure (And.intro (plainId_quiet hq args) (And.intro ok (codeN_builtin hb ?_)))) fun _ _ h' => h')
  rw [Around.under_plainId hq args]; exact h₁
theorem codeN_func {body : List Stmt} {env : Env} (h : wpN (model prog w) (A.deeper env) (execs body env) (fun f s' => R (.ok (.ret (match f with | .ret v => v | _ => .none))) s') s) :
    codeN (model prog w) A (.func body env) R s := by
  refine codeN_of_tree ?_
  show wpN _ (A.deeper env) (do point; match ← (execs body env).onRaise (leaving env) with | .ret v => ret v | _ => ret .none) _ s
  refine wpN_bindA (wpAny_point (wpN_bind (wpN_onRaise (wpN_mono h (fun f s' h' => ?_)))))
  cases f <;> exact wpN_pure h'
theorem codeN_call_function {a : Addr} {args : Args} {o : Obj} {fd : FuncData} {body : List Stmt} (hroom : A.depth < recursionLimit)
    (ho : s.heap.get? a = some o)
    (hd' : o.data = .func fd) (hco : fd.scope.isCoroutine = false) (hgen : fd.scope.isGenerator = false) (hbody : fd.body = .stmts body) (hcd : s.heap.CodeRec fd.code fd.qualname)
    (h : wpAny (model prog w) A.in1 (bindArgs fd args) (fun binds s₁ =>
      wpAny (model prog w) A.in1 (newFunctionEnv fd.scope fd.globals fd.closure binds (fd.qualname ++ ".<locals>.") (some a) fd.code none fd.builtins)
        (fun env s₂ => s₂.heap.NoLimit ∧ codeN (model prog w) A (.func body env) R s₂) NoE s₁) NoE s) :
    codeN (model prog w) A (.call (.ref a) args) R s := by
  refine codeN_of_tree ?_
  show wpN _ A.in1 (callAny (.ref a) args) _ s
  simp only [callAny]
  refine wpN_bindA (wpAny_load ho ?_)
  obtain ⟨c, oc, vs, tq, hc, hoc, hdc, hq⟩ := hcd
  simp only [hd', callFunction, hco, hgen, hbody, hc]
  rw [hc] at h
  refine wpN_bindA (m := field (.ref c) 1) (wpAny_field hoc hdc hq (wpN_bindA (wpAny_pure ?_)))
  exact wpN_bindA (wpAny_mono h (fun binds s₁ h₁ => wpN_bindA (wpAny_mono h₁ (fun env s₂ h₂ => wpN_bindA (wpAny_enterFrame h₂.1 hroom
    (wpN_pure (And.intro rfl (And.intro rfl h₂.2))))) fun _ _ h' => h')) fun _ _ h' => h')
theorem wpN_ite2 {α : Type} {c : Prop} [Decidable c] {a b : Sem α} {Q : α → Shared → Prop} (ha : wpN (model prog w) A a Q s) (hb : wpN (model prog w) A b Q s) : wpN (model prog w) A (if c then a else b) Q s := by
  by_cases h : c
  · rw [if_pos h]; exact ha
  · rw [if_neg h]; exact hb
theorem wpN_callWith {K : Frag} {pos : Pos} {f : Value} {first : List Value} {args : List (Bool × Sem Value)} {Q : Value → Shared → Prop} (hplain : args.any (·.1) = false) (hk : keepIn K f = true)
    (h : wpAny (model prog w) A (evalArgs f true args []) (fun a s₁ => K.In s₁.heap ∧ wpN (model prog w) A (call f (first ++ a.pos) a.kw) Q s₁) NoE s) : wpN (model prog w) A (callWith pos f first args []) Q s := by
  unfold callWith
  refine wpN_bindA (wpAny_holding (wpAny_mono h (fun a s₁ h₁ => wpN_bindA (wpAny_standAt ?_)) fun _ _ x => x))
  obtain ⟨k, hk', L⟩ := keeps_K hk _ h₁.1
  simp only [hplain]
  refine wpN_bindA (L.here ?_)
  have tail : ∀ {t : Sem Value}, wpN (model prog w) A t Q s₁ → wpN (model prog w) A (t >>= fun r => holding [r] point >>= fun _ => pure r) Q s₁ :=
    fun ht => wpN_bind (wpN_mono ht (fun r s₂ hr => wpN_bindA (wpAny_holding (wpAny_point (wpN_pure hr)))))
  have marked (mk : Value) : wpN (model prog w) A (callMarked mk f (first ++ a.pos) a.kw) Q s₁ := by unfold callMarked; exact wpN_keep h₁.2
  have oper : ∀ {vs : List Value}, wpN (model prog w) A (operate vs (call f (first ++ a.pos) a.kw)) Q s₁ := fun Γ p hΓ hn => by rw [Sem.wp_operate]; exact h₁.2 Γ p hΓ hn
  rcases hk' with rfl | rfl | rfl <;> (try dsimp only) <;> first | exact tail h₁.2 | exact tail oper | exact wpN_ite2 (tail h₁.2) (tail (marked _)) | exact wpN_ite2 (tail oper) (tail (marked _))
theorem wpN_Subscript {value slice : Expr} {pos : Pos} {Q : Value → Shared → Prop}
    (h : wpN (model prog w) A (eval value env) (fun o s₁ => wpAny (model prog w) A (eval slice env) (fun i s₂ => wpN (model prog w) A (subscriptTail value slice o i) Q s₂) NoE s₁) s) :
    wpN (model prog w) A (eval (.Subscript value slice pos) env) Q s := by
  rw [eval_Subscript]
  exact wpN_bind (wpN_mono h (fun o s₁ h₁ => wpN_bindA (wpAny_holding (wpAny_mono h₁ (fun i s₂ h₂ => wpN_bindA (wpAny_standAt h₂)) fun _ _ x => x))))
theorem wpN_special_fn {K : Frag} {x C f : Addr} {ox : Obj} {od : Option Obj} {name : Str} {args : List Value} {Q : Option Value → Shared → Prop} (X : K.In s.heap) (I : InstAt s.heap x ox C od)
    (hs : findIn K (.ref C) name = some (some (.ref f))) (hf : typeIn K (.ref f) = some (.type "function")) (h : wpN (model prog w) A (call (.ref f) (.ref x :: args)) (fun v => Q (some v)) s) :
    wpN (model prog w) A (callSpecial? (.ref x) name args) Q s :=
  wpN_bindA (wpAny_bind (I.type.here ((looks_findIn X hs).here (wpN_holding (wpN_bindA ((bind_fn X _ hf).here (wpN_bind (wpN_mono h (fun _ _ z => wpN_pure z)))))))))
theorem subN_X {K : Frag} {x C f : Addr} {ox : Obj} {od : Option Obj} {value slice : Expr} {i : Value} {Q : Value → Shared → Prop} (X : K.In s.heap) (I : InstAt s.heap x ox C od) (hs : findIn K (.ref C) "__getitem__" = some (some (.ref f))) (hf : fnIn K f = true) (hfn : isFn K (.ref f) = true)
    (h : wpN (model prog w) A.in1 (call (.ref f) [.ref x, i]) Q s)
    (hsl : subscripted slice true (.ref x) i = runValue (.builtin "lifetime.subscript" ⟨[.ref x, i], []⟩)) :
    wpN (model prog w) A (subscriptTail value slice (.ref x) i) Q s := by
  unfold fnIn at hf
  split at hf
  · rename_i e
    unfold subscriptTail getitemInPython
    refine wpN_bindA (wpAny_bind (wpAny_bind (I.type.here ((looks_findIn X hs).here ?_))))
    dsimp only
    refine wpAny_bind (wpAny_load (X _ _ e) (wpAny_pure ?_))
    dsimp only
    rw [hsl]
    refine wpN_bind (wpN_runValue rfl (codeN_builtin entry_sub ?_))
    unfold Builtin.«lifetime.subscript»
    refine wpN_bind (wpN_special_fn X I hs (beq_iff_eq.mp hfn) (wpN_mono h (fun v s' z => ?_)))
    refine wpN_pure ?_
    show wpN (model prog w) A (letTemporaryGo value (.ref x) v >>= fun _ => pure v) Q s'
    exact wpN_bindA (wpAny_letTemporaryGo (wpN_pure z))
  · cases hf
end

/-- a function of the text's own means F, in such contexts -/
def FNn (P : Par) (n : Nat) (fa : Addr) (F : List V → Hp → Option (V × Hp)) : Prop :=
  (∃ o fd, P.h₀.get? fa = some o ∧ o.data = .func fd) ∧ ∀ A s ρ hp vs ws v hp' (R : Result → Shared → Prop), AOk n A → HI P ρ hp s → VRs P s.heap ρ vs ws → F vs hp = some (v, hp') →
    (∀ v' s', Res P ρ s v hp' v' s' → R (.ok (.ret v')) s') → codeN (model P.prog P.w) A (.call (.ref fa) ⟨ws, []⟩) R s
section
variable {P : Par} {n : Nat} {G : Sg}
theorem FNn.call {fa : Addr} {F : List V → Hp → Option (V × Hp)} (x : FNn P n fa F) {A : Around} {s : Shared} {ρ : List Addr} {hp hp' : Hp} {vs : List V} {ws : List Value} {v : V} (ha : AOk n A) (H : HI P ρ hp s) (r : VRs P s.heap ρ vs ws) (h : F vs hp = some (v, hp')) :
    wpN (model P.prog P.w) A (call (.ref fa) ws) (Res P ρ s v hp') s :=
  wpN_call (x.2 A s ρ hp vs ws v hp' _ ha H r h fun _ _ z => z)
theorem FNn.of {fa : Addr} {o : Obj} {fd : FuncData} {body : List Stmt} {names : List Str} {ext : List V → Hp → Option (List V × Hp)} {rest : Nat} {f : Loc → Hp → Option (Fl × Loc × Hp)}
    (ho : P.h₀.get? fa = some o) (hd : o.data = .func fd) (hcd : P.h₀.CodeRec fd.code fd.qualname) (hbody : fd.body = .stmts body) (hclo : fd.closure = []) (hglob : fd.globals = mainGlobals) (hbui : fd.builtins = builtinsNs)
    (hG : G.scope = fd.scope) (hok : G.ok = true) (hcell : ∀ x ∈ fd.scope.names, x.2 ≠ .cell) (hnames : (G.vars.map (·.1)).take names.length = names) (hvl : ∀ v ∈ G.vars, v.2 = .loc) (hlen : G.vars.length = names.length + rest)
    (hb : Binds P fd names ext) (hf : SSn P n G body f) (hco : fd.scope.isCoroutine = false := by rfl) (hgen : fd.scope.isGenerator = false := by rfl) (hk : fd.scope.kind = .function := by rfl) :
    FNn P (n + 1) fa (fun vs hp => match ext vs hp with
      | none => none
      | some (vs', hp1) => fFn rest f vs' hp1) := by
  refine ⟨⟨o, fd, ho, hd⟩, fun A s ρ hp vs ws v hp' R ha H r hF hR => ?_⟩
  dsimp only at hF
  cases q : ext vs hp with
  | none => rw [q] at hF; cases hF
  | some z =>
    obtain ⟨vs', hp1⟩ := z
    rw [q] at hF
    dsimp only at hF
    have hnd : names.Nodup := by rw [← hnames]; exact (Sg.ok_nodup hok).sublist (List.take_sublist _ _)
    have at_name : ∀ {i : Nat} {x : Str} {k : VK}, G.vars[i]? = some (x, k) → i < names.length → names[i]? = some x := fun {i x k} hi hlt => by
      rw [← hnames, List.getElem?_take_of_lt hlt, List.getElem?_map, hi]; rfl
    refine codeN_call_function ha.room (H.base _ _ ho) hd hco hgen hbody (hcd.keeps fun b o e => H.base b o e) ?_
    refine wpAny_mono (hb A.in1 s ρ hp vs ws vs' hp1 H r q) (fun binds s1 ⟨ρ1, ws', H1, S1, r1, hl, hbd⟩ => ?_) fun _ _ h => h.elim
    subst hbd
    have hwl : ws'.length = names.length := by rw [← r1.length, hl]
    have hloc : ∀ x ∈ names.zip ws', fd.scope.names.lookup x.1 = some .local := fun x hx => by
      obtain ⟨i, hi⟩ := List.mem_iff_getElem?.mp hx
      have h1 : names[i]? = some x.1 := by
        rw [List.getElem?_zip_eq_some] at hi; exact hi.1
      have hlt := (List.getElem?_eq_some_iff.mp h1).1
      have hgv : i < G.vars.length := by omega
      have h2 := List.getElem?_eq_getElem hgv
      have h3 : G.vars[i]? = some (G.vars[i].1, G.vars[i].2) := h2
      have h4 := at_name h3 hlt
      rw [h1] at h4
      have h5 := hvl _ (List.getElem_mem hgv)
      rw [h5, ← Option.some.inj h4] at h3
      have := Sg.ok_at hok h3
      rw [hG] at this
      exact VK.fits_loc this
    refine wpAny_newFunctionEnv hcell hloc (fun h2 hns hsb => ⟨(P.nolimit.keeps fun b o e => H1.base b o e).fresh _ hsb, codeN_func ?_⟩) hk
    have hk2 : ∀ b o, s1.heap.get? b = some o → h2.get? b = some o := fun b o e => hsb.extBut b o (Nat.ne_of_lt (Heap.lt_size e)) (Heap.get?_push_of_some _ e)
    have hz2 : h2.objs.size = s1.heap.objs.size + 1 := hsb.1.trans (Heap.size_push ..)
    have hz2' : s1.heap.objs.size ≤ h2.objs.size := by rw [hz2]; exact Nat.le_succ _
    have H2 : HI P ρ1 hp1 { s1 with heap := h2, toks := s1.toks + (names.zip ws').length } := (H1.keeps (s' := { s1 with heap := h2 }) hk2 hz2').toks _
    have S2 : Step [] ρ1 s1 ρ1 { s1 with heap := h2, toks := s1.toks + (names.zip ws').length } := .grow hk2 hz2'
    have F2 : FI P G (callEnv fd s1.heap.objs.size fa) [s1.heap.objs.size] ρ1 (vs'.map some ++ List.replicate rest none) h2 := by
      refine ⟨hok, hG.symm, hglob, hbui, by rw [List.length_append, List.length_map, List.length_replicate, hl, hlen], ⟨_, hns, fun i x u hi hu => ?_⟩, fun i x k u hi hkk hu => ?_, List.mem_singleton.mpr rfl, fun a ha => ?_, fun x y c h1 h2 => ?_, fun y c e => ?_, ?_⟩
      · have hzn : ((names.zip ws').map (·.1)).Nodup := by rw [List.map_fst_zip (by rw [hwl]; exact Nat.le_refl _)]; exact hnd
        rw [lookup_rev hzn]
        by_cases hlt : i < names.length
        · rw [List.getElem?_append_left (by rw [List.length_map, hl]; exact hlt), List.getElem?_map] at hu
          have hvi : i < vs'.length := by rw [hl]; exact hlt
          rw [List.getElem?_eq_getElem hvi] at hu
          obtain rfl : u = some vs'[i] := (Option.some.inj hu).symm
          obtain ⟨w, hw, rw'⟩ := r1.get (List.getElem?_eq_getElem hvi)
          rw [zip_look hnd (at_name hi hlt) hw]
          exact rw'.mono (.of hk2) (List.prefix_refl _)
        · rw [List.getElem?_append_right (by rw [List.length_map, hl]; omega)] at hu
          have : u = none := by
            have := List.mem_of_getElem? hu
            exact List.eq_of_mem_replicate this
          subst this
          have hx : x ∉ names := fun hm => by
            obtain ⟨j, hj⟩ := List.mem_iff_getElem?.mp hm
            have hjl := (List.getElem?_eq_some_iff.mp hj).1
            have hgv : j < G.vars.length := by omega
            have h3 : G.vars[j]? = some (G.vars[j].1, G.vars[j].2) := List.getElem?_eq_getElem hgv
            have h4 := at_name h3 hjl
            rw [hj] at h4
            rw [← Option.some.inj h4] at h3
            have := Sg.uniq hok hi h3
            omega
          rw [zip_none hx]
          trivial
      · exact absurd (hvl _ (List.mem_of_getElem? hi)) hkk
      · obtain rfl : a = s1.heap.objs.size := by simpa using ha
        exact ⟨fun hm => absurd (H1.new _ hm).2 (Nat.lt_irrefl _), by rw [hz2]; exact Nat.lt_succ_self _, H1.sz⟩
      · have : (callEnv fd s1.heap.objs.size fa).cells = [] := hclo
        rw [this] at h1; cases h1
      · have : (callEnv fd s1.heap.objs.size fa).cells = [] := hclo
        rw [this] at e; cases e
      · obtain ⟨c, oc, vs, tq, e1, e2, e3, _⟩ := hcd
        exact ⟨c, oc, vs, e1, e2, e3⟩
    unfold fFn at hF
    cases q2 : f (vs'.map some ++ List.replicate rest none) hp1 with
    | none => rw [q2] at hF; cases hF
    | some z2 =>
      obtain ⟨fl, loc', hp2⟩ := z2
      rw [q2] at hF
      dsimp only at hF
      refine hf.use (ha.deeper _) H2 F2 q2 fun fl' s3 ρ3 H3 F3 S3 r3 => ?_
      have S : Step [] ρ s ρ3 s3 := S1.trans ((S2.own'.trans S3).clear fun b hb => .inl (by
        obtain rfl : b = s1.heap.objs.size := by simpa using hb
        exact Nat.le_refl _))
      cases fl with
      | next =>
        cases hF
        obtain rfl : fl' = .next := r3
        exact hR _ _ ⟨ρ3, H3, S, .none⟩
      | ret u =>
        cases hF
        obtain ⟨u', rfl, hu⟩ := r3
        exact hR _ _ ⟨ρ3, H3, S, hu⟩
      | brk => cases hF
      | cont => cases hF
end
end
end Mine
end
section
open PySem PySem.Calls PyProof.Rows PySem.W
set_option maxRecDepth 100000
set_option linter.unusedSimpArgs false
set_option linter.unusedVariables false
namespace Mine
noncomputable section
section
variable {P : Par} {n : Nat} {G : Sg}
theorem SEn.callF {x : Str} {px pos : Pos} {e : Expr} {es : List Expr} {fa : Addr} {fs : Loc → Hp → Option (List V × Hp)} {F : List V → Hp → Option (V × Hp)} (hx : SE P n G (.Name x px) (fK (.st fa))) (hk : keepIn P.K (.ref fa) = true) (y : SEs P n G (e :: es) fs) (hF : FNn P n fa F)
    (hall : ∀ env, (backTo pos (starEach (e :: es) env)).any (·.1) = false := by intro _; rfl) (he : ∀ env, starEach (e :: es) env = (false, eval e env) :: starEach es env := by intro _; rfl) : SEn P n G (.Call (.Name x px) (e :: es) [] pos) (fCall F fs) := by
  intro A env own s ρ loc hp v hp' ha H Fi hf
  unfold fCall at hf
  cases q : fs loc hp with
  | none => rw [q] at hf; cases hf
  | some z =>
    obtain ⟨vs, hp1⟩ := z
    rw [q] at hf
    dsimp only at hf
    refine wpN_bindA (m := eval (.Name x px) env) (f := fun f => callWith pos f [] (backTo pos (starEach (e :: es) env)) []) (hx.use ha H Fi (hp' := hp) rfl fun fv s0 ρ0 H0 F0 S0 r0 => ?_)
    obtain rfl : fv = .ref fa := by cases r0 with | num t e => cases e | st => rfl
    have h1 : wpAny (model P.prog P.w) A (spliced (backTo pos (starEach (e :: es) env))) (fun ws s1 => P.K.In s1.heap ∧ wpN (model P.prog P.w) A (call (.ref fa) ws) (Res P ρ s v hp') s1) NoE s0 :=
      y.use ha H0 F0 q fun ws s1 ρ1 H1 F1 S1 r1 => ⟨P.kin.keeps H1.base, wpN_mono (hF.call ha H1 r1 hf) fun v' s' r => Res.after (own := own) (S0.trans S1) r⟩
    refine wpN_callWith (hall env) hk ?_
    rw [he env] at h1 ⊢
    exact evalArgs_plain h1
theorem SEn.subG {fI : Addr} {e i : Expr} {pos : Pos} {f g : Loc → Hp → Option (V × Hp)} (x : SE P (n + 1) G e f) (y : SE P (n + 1) G i g) (M : MethOk P P.CG "__getitem__" fI) {F : List V → Hp → Option (V × Hp)} (hF : FNn P n fI F)
    (hsl : ∀ o j, subscripted i true o j = runValue (.builtin "lifetime.subscript" ⟨[o, j], []⟩) := by intro _ _; rfl) : SEn P (n + 1) G (.Subscript e i pos) (fBin (fun a j hp => ch (isGr a hp) (F [a, j] hp)) f g) := by
  intro A env own s ρ loc hp v hp' ha H Fi hf
  obtain ⟨va, hp1, vb, hp2, h1, h2, h3⟩ := fBin_inv hf
  refine wpN_Subscript (wpN_of (x.use ha H Fi h1 fun a' s1 ρ1 H1 F1 S1 r1 => y.use ha H1 F1 h2 fun b' s2 ρ2 H2 F2 S2 r2 => ?_))
  obtain ⟨hq, h4⟩ := ch_inv h3
  obtain ⟨k, a, ox, od, rfl, rfl, hi, I⟩ := isGr_inv hq H2 (r1.mono S2.imm S2.pre)
  exact subN_X (P.kin.keeps H2.base) I M.find M.fn M.is (wpN_mono (hF.call ha.in1 H2 (.cons (.ob hi) (.cons r2 .nil)) h4) fun v' s' r => Res.after (own := own) (S1.trans S2) r) (hsl _ _)
theorem SEn.subV {b : Bool} {fI : Addr} {e i : Expr} {pos : Pos} {f g : Loc → Hp → Option (V × Hp)} (x : SEn P (n + 1) G e f) (y : SE P (n + 1) G i g) (M : MethOk P (P.VC b) "__getitem__" fI) {F : List V → Hp → Option (V × Hp)} (hF : FN P n fI F)
    (hsl : ∀ o j, subscripted i true o j = runValue (.builtin "lifetime.subscript" ⟨[o, j], []⟩) := by intro _ _; rfl) : SEn P (n + 1) G (.Subscript e i pos) (fBin (fun a j hp => ch (isVw b a hp) (F [a, j] hp)) f g) := by
  intro A env own s ρ loc hp v hp' ha H Fi hf
  obtain ⟨va, hp1, vb, hp2, h1, h2, h3⟩ := fBin_inv hf
  refine wpN_Subscript (x.use ha H Fi h1 fun a' s1 ρ1 H1 F1 S1 r1 => y.use ha H1 F1 h2 fun b' s2 ρ2 H2 F2 S2 r2 => ?_)
  obtain ⟨hq, h4⟩ := ch_inv h3
  obtain ⟨k, a, ox, od, rfl, rfl, hi, I⟩ := isVw_inv hq H2 (r1.mono S2.imm S2.pre)
  exact wpN_of (sub_X (P.kin.keeps H2.base) I M.find M.fn M.is (wpAny_mono (hF.call ha.in1 H2 (.cons (.ob hi) (.cons r2 .nil)) h4) (fun v' s' r => Res.after (own := own) (S1.trans S2) r) fun _ _ h => h) (hsl _ _))
theorem SIn.vw {e : Expr} {f : Loc → Hp → Option (V × Hp)} {fI : Addr} {F : List V → Hp → Option (V × Hp)} (x : SEn P n G e f) (M : MethOk P (P.VC false) "__iter__" fI) (hF : FN P n fI F) : SIn P n G e (fItV F f) := by
  intro A env own s ρ loc hp it hp' ha H Fi hf
  unfold fItV at hf
  cases q : f loc hp with
  | none => rw [q] at hf; cases hf
  | some z =>
    obtain ⟨v, hp1⟩ := z
    rw [q] at hf
    dsimp only at hf
    obtain ⟨hq, hf2⟩ := ch_inv hf
    split at hf2
    · rename_i i hp2 q2
      split at hf2
      · rename_i d j m ep q3
        cases hf2
        refine x.use ha H Fi q fun a' s1 ρ1 H1 F1 S1 r1 => ?_
        obtain ⟨k, a, ox, od, rfl, rfl, hi, I⟩ := isVw_inv hq H1 r1
        refine iter_X (P.kin.keeps H1.base) I M.find M.is (wpAny_mono (hF.call ha H1 (.cons (.ob hi) .nil) q2) (fun v' s2 r2 => ?_) fun _ _ h => h)
        obtain ⟨ρ2, H2, S2, rv⟩ := r2
        obtain ⟨c, hc, rfl⟩ := rv.ob_inv
        obtain ⟨b, hb, hit⟩ := H2.obj hc q3
        have S := S1.trans S2
        exact ⟨hit.typeIs, ρ2, c, H2, S, rfl, (S.fresh _ (List.mem_of_getElem? hc)).symm, hc, fun p => p.elim⟩
      · cases hf2
    · cases hf2
theorem SIn.fIt {e : Expr} {f : Loc → Hp → Option (V × Hp)} (x : SE P n G e f) : SIn P n G e (Mine.fIt f) := SIn.of (SI.of x)
end

-- the read of an attribute, where the class has its own thing
section
variable {prog : Program} {w : World} {A : Around} {s : Shared} {K : Frag} {x C : Addr} {ox : Obj} {od : Option Obj} {name : Str} {expr : Bool} {Q : Value → Shared → Prop}
theorem getN_bind {g a : Value} (X : K.In s.heap) (I : InstAt s.heap x ox C od) (hga : findIn K (.ref C) "__getattribute__" = some (some (.builtin "object.__getattribute__")))
    (hf : findObj K C od name = some (.bind g a)) (hk : findIn K (.ref C) "__getattr__" = some none)
    (h : wpN (model prog w) A.in1 (call g [a, .ref x, .ref C]) (fun v s' => handedIn v = true ∧ Q v s') { s with toks := s.toks + 1 }) :
    wpN (model prog w) A (getAttr (.ref x) name expr) Q s := by
  obtain ⟨hh, gg, d, t, os⟩ := s
  have L0 := I.type (M := model prog w)
  have L1 := looks_findIn (M := model prog w) X hga
  unfold getAttr getAttrBy
  refine wpN_bindA (wpAny_mkText (wpN_holding (wpN_bindA (L0.at (wpN_bindA (L1.at ?_))))))
  show wpN _ _ (getAttrEveryday _ _ _) _ _
  refine wpN_bind (wpN_onRaise (wpN_runValue rfl (codeN_builtin F.plainObj_entry_getattr_hooked ?_)))
  have L2 := looks_find (M := model prog w) X I hf
  have L3 := looks_findIn (M := model prog w) X hk
  refine wpN_bindA (wpAny_pure (wpN_bindA (L0.at (wpN_bindA (L2.at (wpN_bindA (L3.at ?_)))))))
  show wpN _ _ (holding [a] (call g [a, .ref x, .ref C]) >>= ret) _ _
  refine wpN_bind (wpN_holding (wpN_mono h (fun v s' z => wpN_pure ?_)))
  show wpN _ _ (handedOut v) _ _
  rw [handedOut_of z.1]; exact wpN_pure z.2
end
end
end Mine
end
section
open PySem PySem.Calls PyProof.Rows PySem.W Builtin Builtin.ObjectAttr Builtin.Getset_descriptor
set_option maxRecDepth 100000
set_option linter.unusedSimpArgs false
set_option linter.unusedVariables false
namespace Mine
noncomputable section
theorem isFreed_slots (o : Obj) (sl : Array (Option Value)) : Obj.isFreed { o with slots := sl } = o.isFreed := by
  obtain ⟨a, b, c, d⟩ := o
  cases c <;> rfl
theorem entry_fdict : entryFor table "function.__dict__" = some Builtin.«function.__dict__» := entryFor_of_tree (by kernel_rfl)
section
variable {prog : Program} {w : World} {A : Around} {s : Shared} {K : Frag} {p x C dx : Addr} {ox od : Obj} {R : Result → Shared → Prop}
theorem handedOutN (X : K.In s.heap) (hx : s.heap.get? x = some ox) (hc : ox.cls = .ref C) (hdx : ox.dict = some dx) (hd : s.heap.get? dx = some od) (hdl : od.isFreed = false) (hh : hasDictIn K C = true) (hth : nsIn K cStatics "_thread.count" = some none)
    {Q : Option Addr → Shared → Prop} (h : ∀ h' sl, h'.get? dx = some { od with slots := sl } → Heap.SameBut dx s.heap h' → Q (some dx) { s with heap := h' }) :
    wpN (model prog w) A (instanceDictHandedOut x) Q s := by
  obtain ⟨cd, hcd, hdict⟩ := any_some hh
  obtain ⟨oc, odi, oda, osl⟩ := ox
  dsimp only at hc hdx
  subst hc hdx
  unfold instanceDictHandedOut instanceDict
  refine wpN_bindA (wpAny_bind (wpAny_loadPart hx ?_))
  dsimp only
  refine wpAny_bind ((looks_clsIn X hcd).here ?_)
  rw [hdict]
  refine wpAny_pure (a := some dx) ?_
  dsimp only
  refine wpN_bindA (wpAny_loadPart hx ?_)
  dsimp only
  refine wpN_bind (wpN_mono (Q := fun r s' => r = none ∧ s' = s) ?_ fun r s' hr => ?_)
  · refine wpN_bindA (m := load dx) (wpAny_load hd ?_)
    dsimp only
    refine wpN_ite2 (wpN_pure ⟨rfl, rfl⟩) (wpN_bind (m := stack) (wpN_stack fun st hst => ?_))
    generalize hfs : List.findSome? _ st = r
    have : r = none := by
      rw [← hfs, List.findSome?_eq_none_iff]
      intro y hy
      have := hst y hy
      obtain ⟨c, q⟩ := y
      dsimp only
      split
      · simp [okC] at this
      · rfl
    subst this
    dsimp only
    refine wpN_bindA ((looks_nsIn X hth).here ?_)
    exact wpN_pure ⟨rfl, rfl⟩
  · obtain ⟨rfl, rfl⟩ := hr
    dsimp only
    refine wpN_bindA (wpAny_update hd (wpN_pure ?_))
    by_cases hsl : od.slots.isEmpty = true
    · refine h _ #[none] ?_ (Heap.SameBut.update ..)
      have e : (if od.slots.isEmpty = true then { od with slots := #[none] } else od) = { od with slots := #[none] } := if_pos hsl
      rw [← e]
      exact Heap.get?_update_self _ hd (by rw [e, isFreed_slots]; exact hdl)
    · refine h _ od.slots ?_ (Heap.SameBut.update ..)
      have e : (if od.slots.isEmpty = true then { od with slots := #[none] } else od) = od := if_neg hsl
      have := Heap.get?_update_self (fun o : Obj => if o.slots.isEmpty = true then { o with slots := #[none] } else o) hd (by show Obj.isFreed (if od.slots.isEmpty = true then { od with slots := #[none] } else od) = false; rw [e]; exact hdl)
      rw [this]
      show some (if od.slots.isEmpty = true then { od with slots := #[none] } else od) = _
      rw [e]

/-- x.__dict__ -/
theorem dictN_get {tp owner : Value} {nm : Str} {tn : Tok} {fset : Value} (X : K.In s.heap) (I : InstAt s.heap x ox C (some od)) (hp : recIn K p "getset_descriptor" = some [.str nm tn, owner, .builtin "function.__dict__", fset]) (hm : mroIn K C owner = some true)
    (hs1 : mroIn K C (.type "staticmethod") = some false) (hs2 : mroIn K C (.type "classmethod") = some false) (hdx : ox.dict = some dx) (hdl : od.isFreed = false) (hh : hasDictIn K C = true) (hth : nsIn K cStatics "_thread.count" = some none)
    (h : ∀ h' sl, h'.get? dx = some { od with slots := sl } → Heap.SameBut dx s.heap h' → R (.ok (.ret (.ref dx))) { s with heap := h' }) :
    codeN (model prog w) A (.call (.builtin "getset_descriptor.__get__") ⟨[.ref p, .ref x, tp], []⟩) R s := by
  obtain ⟨d, sl, ho⟩ := rec_of X hp
  have hd : s.heap.get? dx = some od := by
    have := I.dict
    rw [hdx] at this
    exact this
  have hx := I.at_
  have hc := I.cls
  have L0 := I.type (M := model prog w)
  have L1 := looks_mroIn (M := model prog w) X hm
  have L2 := looks_mroIn (M := model prog w) X hs1
  have L3 := looks_mroIn (M := model prog w) X hs2
  have f0 := looks_field (M := model prog w) ho 0 (v := .str nm tn) rfl
  have f1 := looks_field (M := model prog w) ho 1 (v := owner) rfl
  have f2 := looks_field (M := model prog w) ho 2 (v := .builtin "function.__dict__") rfl
  have f4 : Looks (model prog w) s.heap (descrItself (.ref p)) [] := ((Looks.ld (part := none) ho).andThen .now).andThen (Looks.of_pure (by kernel_rfl))
  refine codeN_call_builtin KF.slot_gs.plain (show (!("getset_descriptor.__get__" == "lifetime.gc.finalise")) = true by decide +kernel) KF.entry_gs (KF.slot_gs.check _ _ _ _ _ _ _ _ ⟨_, ho, rfl⟩ (KF.args_gs _ _ _) ?_)
  unfold Builtin.«getset_descriptor.__get__» descrGet
  rw [dga_obj]
  refine wpN_bindA (wpAny_pure ?_)
  unfold descrGetter
  refine wpN_bindA (m := descrCheckInstance (.ref p) (.ref x)) ?_
  obtain ⟨hh', g, dr, t, os⟩ := s
  unfold descrCheckInstance descrNameAndClass isInstance
  repeat lk
  refine wpN_bindA (f2.at ?_)
  dsimp only
  refine wpN_bindA (wpAny_rule (wpN_bindA (f4.at (wpN_pure ⟨Code.quiet_builtin _ (by decide +kernel), (show (!("function.__dict__" == "lifetime.gc.finalise")) = true by decide +kernel), codeN_builtin entry_fdict ?_⟩))))
  unfold Builtin.«function.__dict__»
  dsimp only
  refine wpN_bindA ?_
  unfold isInstance
  repeat lk
  rw [if_neg Bool.false_ne_true]
  refine wpN_bind (handedOutN X hx hc hdx hd hdl hh hth fun h' sl' e1 e2 => wpN_pure ?_)
  exact h h' sl' e1 e2
end
end
end Mine
end
section
open PySem PySem.Calls PyProof.Rows PySem.W Builtin Builtin.ObjectAttr
set_option maxRecDepth 100000
set_option linter.unusedSimpArgs false
set_option linter.unusedVariables false
namespace Mine
noncomputable section

/-- an attribute of one of the text's own objects -/
structure StAt (P : Par) (pa CP : Addr) (nm : Str) (v' : Value) : Prop where
  at_ : ∃ ox dx od, P.K.lookup pa = some ox ∧ ox.cls = .ref CP ∧ notCls ox = true ∧ ox.dict = some dx ∧ P.K.lookup dx = some od ∧ findObj P.K CP (some od) nm = some (.value v')
  get : plainGet P.K CP nm = true
  handed : handedIn v' = true
def gStA (pa : Addr) (r : V) : V → Hp → Option (V × Hp) := fun v hp => match v with
  | .st a => ch (Nat.beq a pa) (some (r, hp))
  | _ => none
section
variable {P : Par} {n : Nat} {G : Sg}
theorem VR.st_inv {P : Par} {h : Heap} {ρ : List Addr} {a : Addr} {v' : Value} (x : VR P h ρ (.st a) v') : v' = .ref a := by cases x with | num t e => cases e | st => rfl
theorem StAt.here {pa CP : Addr} {nm : Str} {v' : Value} (S : StAt P pa CP nm v') {h : Heap} (X : P.K.In h) : ∃ ox od, InstAt h pa ox CP (some od) ∧ findObj P.K CP (some od) nm = some (.value v') := by
  obtain ⟨ox, dx, od, h1, h2, h3, h4, h5, h6⟩ := S.at_
  refine ⟨ox, od, ⟨X _ _ h1, h2, h3, ?_⟩, h6⟩
  rw [h4]; exact X _ _ h5
theorem SE.stA {e : Expr} {pos : Pos} {pa CP : Addr} {nm : Str} {v' : Value} {r : V} {f : Loc → Hp → Option (V × Hp)} (S : StAt P pa CP nm v') (hr : ∀ h ρ, VR P h ρ r v') (x : SE P n G e f)
    (hbase : ∀ env, attributeBase e nm env (eval e env) = eval e env := by intro _; rfl) : SE P n G (.Attribute e nm pos) (fUn (gStA pa r) f) := by
  intro A env own s ρ loc hp v hp' ha H F hf
  obtain ⟨va, hp1, h1, h2⟩ := fUn_inv hf
  rw [arm_eval_Attribute, hbase]
  refine wpAny_bind (x.use ha H F h1 fun a' s1 ρ1 H1 F1 S1 r1 => wpAny_bind (wpAny_standAt (wpAny_bind (wpAny_holding ?_))))
  unfold gStA at h2
  split at h2
  · rename_i a
    obtain ⟨hq, h3⟩ := ch_inv h2
    clear h2
    cases h3
    obtain rfl := Nat.eq_of_beq_eq_true hq
    obtain rfl := r1.st_inv
    have X := P.kin.keeps H1.base
    obtain ⟨ox, od, I, hfo⟩ := S.here X
    refine get_value X I (plainGet_of S.get).1 hfo S.handed (wpAny_bind (wpAny_letTemporaryGo (wpAny_pure (Res.after (own := own) S1 (Res.here H1 (hr _ _))))))
  · cases h2

def gStC (pa : Addr) (F : List V → Hp → Option (V × Hp)) : V → V → Hp → Option (V × Hp) := fun a b hp => match a with
  | .st q => ch (Nat.beq q pa) (F [b] hp)
  | _ => none
/-- a method of one of the text's own objects that is a plain field: called as it is -/
theorem SE.stC {o e : Expr} {apos pos : Pos} {pa CP : Addr} {nm : Str} {fa : Addr} {f g : Loc → Hp → Option (V × Hp)} {F : List V → Hp → Option (V × Hp)} (S : StAt P pa CP nm (.ref fa)) (hno : findIn P.K (.ref CP) nm = some none) (hk : keepIn P.K (.ref fa) = true) (x : SE P n G o f) (y : SE P n G e g) (hF : FN P n fa F)
    (hbase : ∀ env, attributeBase o nm env (eval o env) = eval o env := by intro _; rfl) (hline : (apos.endLine == pos.line) = true := by rfl)
    (he : ∀ env, starEach [e] env = (false, eval e env) :: starEach [] env := by intro _; rfl) :
    SE P n G (.Call (.Attribute o nm apos) [e] [] pos) (fBin (gStC pa F) f g) := by
  intro A env own s ρ loc hp v hp' ha H Fi hf
  obtain ⟨va, hp1, vb, hp2, h1, h2, h3⟩ := fBin_inv hf
  refine Call_attr (trees := backTo pos (starEach [e] env)) (hbase _) ?_ hline rfl (x.use ha H Fi h1 fun a' s1 ρ1 H1 F1 S1 r1 pl => ?_)
  · rw [he env]; rfl
  unfold gStC at h3
  split at h3
  · rename_i q
    obtain ⟨hq, h4⟩ := ch_inv h3
    obtain rfl := Nat.eq_of_beq_eq_true hq
    obtain rfl := r1.st_inv
    have X := P.kin.keeps H1.base
    obtain ⟨ox, od, I, hfo⟩ := S.here X
    refine method_usual X I (plainGet_of S.get).1 (plainGet_of S.get).2 hno rfl ?_
    refine get_value X I (plainGet_of S.get).1 hfo S.handed ?_
    have H1' := H1.toks (s1.toks + 1)
    have St : Step [] ρ1 s1 ρ1 { s1 with toks := s1.toks + 1 } := Step.refl.toks _
    refine callWith_K (P.kin.keeps H1'.base) hk (args_cons (y.use ha H1' (F1.step St) h2 fun b' s2 ρ2 H2 F2 S2 r2 => args_nil ?_) (he env)) (he env)
    refine ⟨P.kin.keeps H2.base, wpAny_mono (hF.call ha H2 (.cons r2 .nil) h4) (fun v' s' r => Res.after (own := own) ((S1.trans St).trans S2) r) fun _ _ h => h⟩
  · cases h3

/-- identity with one of the text's own things -/
def gIsSt (nf : Addr) : V → V → Hp → Option (V × Hp) := fun a b hp => match b with
  | .st y => ch (Nat.beq y nf) (match a with
    | .st x => ch (Nat.beq x nf) (some (.bool true, hp))
    | _ => none)
  | _ => none
theorem pIsSt {nf : Addr} : P2 P n (compareOp .Is) (gIsSt nf) := by
  intro A s ρ hp a b a' b' v hp' ha H ra rb hg
  unfold gIsSt at hg
  split at hg
  · rename_i y
    obtain ⟨hq, h2⟩ := ch_inv hg
    obtain rfl := Nat.eq_of_beq_eq_true hq
    obtain rfl := rb.st_inv
    clear hg
    split at h2
    · rename_i x
      obtain ⟨hq2, h3⟩ := ch_inv h2
      obtain rfl := Nat.eq_of_beq_eq_true hq2
      cases h3
      obtain rfl := ra.st_inv
      exact wpAny_is_ref_self (Res.at H (.bool _))
    · cases h2
  · cases hg
end

section
variable {prog : Program} {w : World} {A : Around} {s : Shared}
theorem meets_get_miss {d : Addr} {k : Str} {key : Value} (hkey : (strKind prog w).is k key = true) (hd : (d == sysModules) = false) (dflt : Value) :
    MeetsIn prog w (Builtin.«dict.get» ⟨[.ref d, key, dflt], []⟩) (fun _ R s => (∃ o es ep, s.heap.get? d = some o ∧ o.data = .dict es ep ∧ KeysOf (strKind prog w) es ∧ (es.findIdx? fun e => (strKind prog w).is k e.key) = none) ∧ R (.ok (.ret dflt)) { s with toks := s.toks + 1 }) :=
  .of_wp fun A R s ⟨⟨o, es, ep, ho, hdt, hk, hf⟩, h⟩ => by
    show wpAny _ _ (dictGet d key >>= _) _ _ s
    refine wpAny_bind ?_
    unfold dictGet
    try with_reducible refine wpAny_holding ?_
    refine wpAny_bind ((strKind prog w).pyHash hkey (wpAny_bind (wpAny_dictFind_of (s := { s with toks := s.toks + 1 }) hkey ho hdt hk ?_)))
    rw [hf]
    refine wpAny_pure ?_
    show wpAny _ _ (Builtin.Dict.missed d key >>= _) _ _ _
    exact wpAny_bind (wpAny_missed_other hd (wpAny_pure ⟨dflt, rfl, h⟩))
theorem setItem_raw {d : Addr} {es : Array DictEntry} {ep : Nat} {sl : Array (Option Value)} {k : Str} {key v : Value} {E : Value → Shared → Prop} {Q : Unit → Shared → Prop} (hkey : (strKind prog w).is k key = true) (ho : s.heap.get? d = some { cls := .type "dict", data := .dict es ep, slots := sl }) (hk : KeysOf (strKind prog w) es)
    (hf : (es.findIdx? fun e => (strKind prog w).is k e.key) = none) (hes : es.size ≤ sizeLine)
    (hQ : ∀ h', h'.get? d = some { cls := .type "dict", data := .dict (es.push ⟨hashStr w k, key, v⟩) (ep + 1), slots := sl } → Heap.SameBut d s.heap h' → Q () { s with heap := h', toks := s.toks + 1 }) : wpAny (model prog w) A (setItem (.ref d) key v) Q E s := by
  have hT : s.TypeIs (.ref d) "dict" := ⟨_, ho, rfl⟩
  unfold setItem
  try with_reducible refine wpAny_holding ?_
  refine wpAny_bind (wpAny_sequenceKey hT (by decide) ?_)
  refine wpAny_bind (wpAny_callSpecial?_slot (name := Str.ofString "__setitem__") hT slot_dict_setitem
    (wpAny_call_entry slot_dict_setitem hT entry_dict_setitem ?_ (args_dict_setitem _ _ _)))
  show wpAny _ _ (Builtin.Dict.notOrdered "__setitem__" ⟨[.ref d, key, v], []⟩ >>= _) _ _ s
  refine wpAny_bind (wpAny_notOrdered_dict hT ?_)
  show wpAny _ _ (dictSet d key v >>= _) _ _ s
  refine wpAny_bind ?_
  unfold dictSet
  try with_reducible refine wpAny_holding ?_
  refine wpAny_bind ((strKind prog w).pyHash hkey ?_)
  unfold dictSetHashed
  try with_reducible refine wpAny_holding ?_
  refine wpAny_bind (wpAny_dictFind_of (s := { s with toks := s.toks + 1 }) hkey ho rfl hk ?_)
  rw [hf]
  refine wpAny_bind (wpAny_rule (wpAny_updateDictKeys (hz := hes) (s := { s with toks := s.toks + 1 }) ho rfl (wpAny_pure ⟨.none, rfl, wpAny_pure (hQ _ ?_ (Heap.SameBut.update ..))⟩)))
  exact Heap.get?_update_self _ ho rfl
end
end
end Mine
end
section
open PySem PySem.Calls PyProof.Rows PySem.W Builtin Builtin.ObjectAttr
set_option maxRecDepth 100000
set_option linter.unusedSimpArgs false
set_option linter.unusedVariables false
namespace Mine
noncomputable section
abbrev Par.sk (P : Par) : KeyKind P.prog P.w Str := strKind P.prog P.w
section
variable {P : Par} {n : Nat} {G : Sg}
theorem KVS.keys {h : Heap} {ρ : List Addr} {kvs : List (Nat × V)} {es : List DictEntry} (x : KVS P h ρ kvs es) : ∀ e ∈ es, ∃ k, P.sk.is k e.key = true ∧ e.hash = P.sk.hash k := by
  induction x with
  | nil => intro e he; cases he
  | cons hm hkey hh hv _ ih =>
    intro e he
    rcases List.mem_cons.mp he with rfl | he
    · exact ⟨_, by rw [hkey]; exact strKind_is _ _ _ _, hh⟩
    · exact ih e he
theorem KVS.keysOf {h : Heap} {ρ : List Addr} {kvs : List (Nat × V)} {es : Array DictEntry} (x : KVS P h ρ kvs es.toList) : KeysOf P.sk es := fun e he => x.keys e (Array.mem_toList_iff.mpr he)
def fldNone (k : Nat) : List (Nat × V) → Bool
  | [] => true
  | x :: r => match Nat.beq x.1 k with
    | true => false
    | false => fldNone k r
theorem KVS.none {h : Heap} {ρ : List Addr} {kvs : List (Nat × V)} {es : List DictEntry} (x : KVS P h ρ kvs es) {k : Nat} (hk : isFld k) (hn : fldNone k kvs = true) : (∀ e ∈ es, P.sk.is (gName k) e.key = false) ∧ es.find? (·.key.isStr (gName k)) = Option.none ∧ ∀ p ∈ kvs, p.1 ≠ k := by
  induction x with
  | nil => exact ⟨fun e he => (by cases he), rfl, fun p hp => (by cases hp)⟩
  | @cons m u en t r r' hm hkey hh hv _ ih =>
    unfold fldNone at hn
    split at hn
    · cases hn
    · rename_i q
      have hne := Nat.ne_of_beq_eq_false q
      obtain ⟨i1, i2, i3⟩ := ih hn
      have hf : (gName m == gName k) = false := by
        cases b : gName m == gName k with
        | false => rfl
        | true => exact absurd ((gName_eq hm hk).mp b) hne
      refine ⟨fun e he => ?_, ?_, fun p hp => ?_⟩
      · rcases List.mem_cons.mp he with rfl | he
        · rw [hkey]
          cases q2 : P.sk.is (gName k) (.str (gName m) t) with
          | false => rfl
          | true =>
            have := P.sk.inj _ _ _ q2 (strKind_is _ _ (gName m) t)
            rw [this] at hf
            simp at hf
        · exact i1 e he
      · have hs : en.key.isStr (gName k) = (gName m == gName k) := by rw [hkey]; rfl
        rw [List.find?_cons, hs, hf]; exact i2
      · rcases List.mem_cons.mp hp with rfl | hp
        · exact hne
        · exact i3 p hp
theorem idxNone {es : Array DictEntry} {p : DictEntry → Bool} (h : ∀ e ∈ es.toList, p e = false) : es.findIdx? p = Option.none := by
  rw [Array.findIdx?_eq_none_iff]
  intro e he
  exact h e (Array.mem_toList_iff.mpr he)

/-- the fields' dict asked for a name that is not there -/
def gGetS (c k x : V) (hp : Hp) : Option V := match c with
  | .ob d => match hp.get d with
    | some (.gd kvs) => match k with
      | .str y => ch (y == gName 3 && fldNone 3 kvs) (some x)
      | _ => none
    | _ => none
  | _ => none
def isGd : V → Hp → Bool := fun v hp => match v with
  | .ob i => match hp.get i with
    | some (.gd _) => true
    | _ => false
  | _ => false
def fGetS (fa fk fx : Loc → Hp → Option (V × Hp)) : Loc → Hp → Option (V × Hp) := fun loc hp => match fa loc hp with
  | none => none
  | some (a, hp1) => ch (isGd a hp1) (match fk loc hp1 with
    | none => none
    | some (k, hp2) => match fx loc hp2 with
      | none => none
      | some (x, hp3) => match gGetS a k x hp3 with
        | none => none
        | some v => some (v, hp3))
theorem SE.getS {o e1 e2 : Expr} {apos pos : Pos} {fo f1 f2 : Loc → Hp → Option (V × Hp)} (x : SE P n G o fo) (y : SE P n G e1 f1) (z : SE P n G e2 f2)
    (hbase : ∀ env, attributeBase o "get" env (eval o env) = eval o env := by intro _; rfl) (hline : (apos.endLine == pos.line) = true := by rfl)
    (ht : ∀ env, backTo pos (starEach [e1, e2] env) = [(false, eval e1 env), (false, eval e2 env)] := by intro _; rfl) :
    SE P n G (.Call (.Attribute o "get" apos) [e1, e2] [] pos) (fGetS fo f1 f2) := by
  intro A env own s ρ loc hp v hp' ha H F hf
  unfold fGetS at hf
  cases q1 : fo loc hp with
  | none => rw [q1] at hf; cases hf
  | some z1 =>
    obtain ⟨va, hp1⟩ := z1
    rw [q1] at hf
    dsimp only at hf
    obtain ⟨hq, hf2⟩ := ch_inv hf
    clear hf
    cases q2 : f1 loc hp1 with
    | none => rw [q2] at hf2; cases hf2
    | some z2 =>
      obtain ⟨vk, hp2⟩ := z2
      rw [q2] at hf2
      dsimp only at hf2
      cases q3 : f2 loc hp2 with
      | none => rw [q3] at hf2; cases hf2
      | some z3 =>
        obtain ⟨vx, hp3⟩ := z3
        rw [q3] at hf2
        dsimp only at hf2
        cases q4 : gGetS va vk vx hp3 with
        | none => rw [q4] at hf2; cases hf2
        | some r =>
          rw [q4] at hf2
          cases hf2
          refine wpAny_Call_method2_late (hbase env) hline (ht env) (x.use ha H F q1 fun a' s1 ρ1 H1 F1 S1 r1 => ?_)
          unfold isGd at hq
          split at hq
          · rename_i d
            obtain ⟨b, hb, rfl⟩ := r1.ob_inv
            split at hq
            · rename_i kvs0 e0
              obtain ⟨es0, ep0, sl0, ho0, K0⟩ := H1.obj hb e0
              refine ⟨"dict", "dict.get", PySem.F.plainAttrs_dict, PySem.F.slot_dict_get, PySem.F.type_dict_get, ⟨_, ho0, rfl⟩, (fun c e => by cases e; exact ⟨_, ho0, rfl⟩), ?_⟩
              refine method2_meetsIn PySem.F.slot_dict_get PySem.F.entry_dict_get (y.use ha H1 F1 q2 fun k' s2 ρ2 H2 F2 S2 r2 => z.use ha H2 F2 q3 fun x' s3 ρ3 H3 F3 S3 r3 => ?_)
              have hb3 := pre_get (S2.trans S3).pre hb
              unfold gGetS at q4
              dsimp only at q4
              split at q4
              · rename_i kvs e3
                obtain ⟨es, ep, sl, ho, K⟩ := H3.obj hb3 e3
                split at q4
                · rename_i y0
                  obtain ⟨hc, q5⟩ := ch_inv q4
                  cases q5
                  simp only [Bool.and_eq_true, beq_iff_eq] at hc
                  obtain ⟨rfl, hfn⟩ := hc
                  obtain ⟨t, rfl⟩ := (r2.mono S3.imm S3.pre).str_inv
                  obtain ⟨n1, n2, n3⟩ := K.none (k := 3) (by simp [isFld]) hfn
                  refine ⟨⟨_, ho, rfl⟩, PySem.F.args_dict_get_3 _ _ _, _, meets_get_miss (k := gName 3) (strKind_is _ _ _ _) (H3.notSys (List.mem_of_getElem? hb3)) _, ⟨_, es, ep, ho, rfl, K.keysOf, idxNone n1⟩, ?_⟩
                  exact Res.after (own := own) (S1.trans (S2.trans S3)) (Res.here H3 r3)
                · cases q4
              · cases q4
            · cases hq
          · cases hq

/-- a name put into the fields' dict -/
def gPutS (c k v : V) (hp : Hp) : Option Hp := match c with
  | .ob d => match hp.get d with
    | some (.gd kvs) => match k with
      | .str y => ch (y == gName 3 && fldNone 3 kvs && Nat.ble kvs.length 900) (some (hp.upd d (.gd (kvs ++ [(3, v)]))))
      | _ => none
    | _ => none
  | _ => none
def fPutS (fv fc fk : Loc → Hp → Option (V × Hp)) : Loc → Hp → Option (Fl × Loc × Hp) := fun loc hp => match fv loc hp with
  | none => none
  | some (v, hp1) => match fc loc hp1 with
    | none => none
    | some (c, hp2) => match fk loc hp2 with
      | none => none
      | some (k, hp3) => match gPutS c k v hp3 with
        | none => none
        | some hp4 => some (.next, loc, hp4)

theorem S1.putS {ev ec ek : Expr} {p' pos : Pos} {fv fc fk : Loc → Hp → Option (V × Hp)} (x : SE P n G ev fv) (y : SE P n G ec fc) (z : SE P n G ek fk)
    (hs : ∀ env : Env, env.scope = G.scope → swapsWith ev (some (.Subscript ec ek p')) pos.line env = pure false := by intro _ _; rfl) : S1 P n G (.Assign [.Subscript ec ek p'] ev pos) (fPutS fv fc fk) := by
  intro A env own s ρ loc hp fl loc' hp' ha H F hf
  unfold fPutS at hf
  cases q1 : fv loc hp with
  | none => rw [q1] at hf; cases hf
  | some z1 =>
    obtain ⟨v, hp1⟩ := z1
    rw [q1] at hf
    dsimp only at hf
    cases q2 : fc loc hp1 with
    | none => rw [q2] at hf; cases hf
    | some z2 =>
      obtain ⟨c, hp2⟩ := z2
      rw [q2] at hf
      dsimp only at hf
      cases q3 : fk loc hp2 with
      | none => rw [q3] at hf; cases hf
      | some z3 =>
        obtain ⟨k, hp3⟩ := z3
        rw [q3] at hf
        dsimp only at hf
        cases q4 : gPutS c k v hp3 with
        | none => rw [q4] at hf; cases hf
        | some hp4 =>
          rw [q4] at hf
          cases hf
          refine wpAny_Assign_Subscript (x.use ha H F q1 fun v' s1 ρ1 H1 F1 S1 r1 => y.use ha H1 F1 q2 fun c' s2 ρ2 H2 F2 S2 r2 => z.use ha H2 F2 q3 fun k' s3 ρ3 H3 F3 S3 r3 => ?_) (hs env F.scope)
          have S23 := S2.trans S3
          have rc := r2.mono S3.imm S3.pre
          have rv := r1.mono S23.imm S23.pre
          unfold gPutS at q4
          split at q4
          · rename_i d
            obtain ⟨b, hb, rfl⟩ := rc.ob_inv
            split at q4
            · rename_i kvs e3
              obtain ⟨es, ep, sl, ho, K⟩ := H3.obj hb e3
              split at q4
              · rename_i y0
                obtain ⟨hc, q5⟩ := ch_inv q4
                cases q5
                simp only [Bool.and_eq_true, beq_iff_eq] at hc
                obtain ⟨⟨rfl, hfn⟩, hlen⟩ := hc
                obtain ⟨t, rfl⟩ := r3.str_inv
                have hk3 : isFld 3 := by simp [isFld]
                obtain ⟨n1, n2, n3⟩ := K.none hk3 hfn
                have hsz : es.size ≤ sizeLine := by
                  have e : kvs.length = es.size := by have := K.length; simpa using this
                  have := Nat.le_of_ble_eq_true hlen
                  rw [sizeLine_eq]; omega
                refine setItem_raw (k := gName 3) (strKind_is _ _ _ _) ho K.keysOf (idxNone n1) hsz fun h' hget hsb => ?_
                have imm : ∀ o, s3.heap.get? b = some o → ¬ ImmO o := fun o e => by rw [ho] at e; cases e; exact ImmO.not_dict rfl
                have hz : s3.heap.objs.size ≤ h'.objs.size := Nat.le_of_eq hsb.1.symm
                have H4 := H3.upd (t := s3.toks + 1) (o := .gd (kvs ++ [(3, v)])) hb hsb.extBut imm hz ⟨_, _, _, hget, by
                  rw [Array.toList_push]
                  exact (K.snoc (e := ⟨hashStr P.w (gName 3), .str (gName 3) t, _⟩) hk3 rfl rfl rv).mono (.same hsb.extBut imm) (List.prefix_refl _)⟩
                have S4 : Step [] ρ3 s3 ρ3 { s3 with heap := h', toks := s3.toks + 1 } := .change (t := s3.toks + 1) (.inl (List.mem_of_getElem? hb)) hsb.extBut imm hz
                have S := (S1.trans S23).trans S4
                exact ⟨ρ3, ⟨H4, F.step S, S.own'⟩, rfl⟩
              · cases q4
            · cases q4
          · cases q4

/-- the graph's own dict, asked for by name -/
structure DictOk (P : Par) (p : Addr) (nm : Str) (tn : Tok) (fset : Value) : Prop where
  get : plainGet P.K P.CG "__dict__" = true
  cls : (clsIn P.K P.CG).isSome = true
  fnd : findIn P.K (.ref P.CG) "__dict__" = some (some (.ref p))
  des : specialIn P.K (.ref p) "__get__" = some (some (.builtin "getset_descriptor.__get__"))
  dat : takesIn P.K (.ref p) = some true
  recd : recIn P.K p "getset_descriptor" = some [.str nm tn, .ref P.CG, .builtin "function.__dict__", fset]
  mro : mroIn P.K P.CG (.ref P.CG) = some true
  sm : mroIn P.K P.CG (.type "staticmethod") = some false
  cm : mroIn P.K P.CG (.type "classmethod") = some false
  dict : hasDictIn P.K P.CG = true
  thr : nsIn P.K cStatics "_thread.count" = some none
def gDictO : V → Hp → Option (V × Hp) := fun v hp => match v with
  | .ob i => match hp.get i with
    | some (.gr d) => match hp.get d with
      | some (.gd kvs) => some (.ob d, hp.upd d (.gd kvs))
      | _ => none
    | _ => none
  | _ => none
theorem SEn.dictO {e : Expr} {pos : Pos} {p : Addr} {nm : Str} {tn : Tok} {fset : Value} {f : Loc → Hp → Option (V × Hp)} (D : DictOk P p nm tn fset) (x : SE P n G e f)
    (hbase : ∀ env, attributeBase e "__dict__" env (eval e env) = eval e env := by intro _; rfl) : SEn P n G (.Attribute e "__dict__" pos) (fUn gDictO f) := by
  intro A env own s ρ loc hp v hp' ha H F hf
  obtain ⟨va, hp1, h1, h2⟩ := fUn_inv hf
  rw [arm_eval_Attribute, hbase]
  refine wpN_bindA (x.use ha H F h1 fun a' s1 ρ1 H1 F1 S1 r1 => wpN_bindA (wpAny_standAt (wpN_bind (wpN_holding ?_))))
  unfold gDictO at h2
  split at h2
  · rename_i i
    obtain ⟨a, hi, rfl⟩ := r1.ob_inv
    split at h2
    · rename_i d e1
      split at h2
      · rename_i kvs e2
        cases h2
        obtain ⟨b, es, ep, sl, hb, hga, ho, K⟩ := gr_at H1 hi e1 e2
        have I : InstAt s1.heap a { cls := .ref P.CG, dict := some b, data := .plain } P.CG (some { cls := .type "dict", data := .dict es ep, slots := sl }) := ⟨hga, rfl, rfl, ho⟩
        have X := P.kin.keeps H1.base
        refine getN_bind X I (plainGet_of D.get).1 (findObj_data D.cls D.fnd D.des D.dat) (plainGet_of D.get).2 ?_
        refine wpN_call (dictN_get (s := { s1 with toks := s1.toks + 1 }) X I D.recd D.mro D.sm D.cm rfl rfl D.dict D.thr fun h' sl' hget hsb => ?_)
        refine ⟨rfl, wpN_bindA (wpAny_letTemporaryGo (wpN_pure ?_))⟩
        have imm : ∀ o, s1.heap.get? b = some o → ¬ ImmO o := fun o e => by rw [ho] at e; cases e; exact ImmO.not_dict rfl
        have hz : s1.heap.objs.size ≤ h'.objs.size := Nat.le_of_eq hsb.1.symm
        have S4 : Step [] ρ1 s1 ρ1 { s1 with heap := h', toks := s1.toks + 1 } := .change (t := s1.toks + 1) (.inl (List.mem_of_getElem? hb)) hsb.extBut imm hz
        have H4 := H1.upd (t := s1.toks + 1) (o := .gd kvs) hb hsb.extBut imm hz ⟨es, ep, sl', hget, K.mono (.same hsb.extBut imm) (List.prefix_refl _)⟩
        exact Res.after (own := own) S1 ⟨ρ1, H4, S4, .ob hb⟩
      · cases h2
    · cases h2
  · cases h2
end
end
end Mine
end
section
open PySem PySem.Calls PyProof.Rows PySem.W Builtin Builtin.ObjectAttr
set_option maxRecDepth 100000
set_option linter.unusedSimpArgs false
set_option linter.unusedVariables false
namespace Mine
noncomputable section
/-- the view of the neighbours: kept among the fields, or made by F -/
def gAdj (pa CG : Addr) (F : List V → Hp → Option (V × Hp)) : V → Hp → Option (V × Hp) := fun g hp => match g with
  | .ob i => match hp.get i with
    | some (.gr d) => match hp.get d with
      | some (.gd kvs) => match fld 3 kvs with
        | some (.ob j) => some (.ob j, hp)
        | some _ => none
        | none => ch (fldNone 3 kvs) (match F [.st pa, .ob i, .st CG] hp with
          | some (.ob j, hp1) => some (.ob j, hp1)
          | _ => none)
      | _ => none
    | _ => none
  | _ => none
/-- what the model's fragment says of a property that is kept -/
structure PropOk (P : Par) (pa fget : Addr) : Prop where
  get : plainGet P.K P.CG "adj" = true
  dict : hasDictIn P.K P.CG = true
  fnd : findIn P.K (.ref P.CG) "adj" = some (some (.ref pa))
  des : specialIn P.K (.ref pa) "__get__" = some (some (.ref fget))
  dat : takesIn P.K (.ref pa) = some false
section
variable {P : Par} {n : Nat} {G : Sg}
theorem PropOk.own {pa fget : Addr} (Po : PropOk P pa fget) {od : Obj} {v : Value} (hl : lookIn "adj" od = some (some v)) : findObj P.K P.CG (some od) "adj" = some (.value v) := by
  obtain ⟨cd, hc, hd⟩ := any_some Po.dict
  unfold findObj
  rw [hc, Option.bind_some, Po.fnd, Option.bind_some]
  have ho : PySem.W.ownOf cd (some od) "adj" = some (some v) := by unfold PySem.W.ownOf; rw [if_pos hd]; exact hl
  simp [Po.des, Po.dat, ho]
theorem PropOk.bind {pa fget : Addr} (Po : PropOk P pa fget) {od : Obj} (hl : lookIn "adj" od = some none) : findObj P.K P.CG (some od) "adj" = some (.bind (.ref fget) (.ref pa)) := by
  obtain ⟨cd, hc, hd⟩ := any_some Po.dict
  unfold findObj
  rw [hc, Option.bind_some, Po.fnd, Option.bind_some]
  have ho : PySem.W.ownOf cd (some od) "adj" = some none := by unfold PySem.W.ownOf; rw [if_pos hd]; exact hl
  have hcn : copiedNames.contains ("adj" : Str) = false := by decide +kernel
  simp only [Po.des, Po.dat, ho, Option.bind_some, hcn, Bool.false_and, Bool.false_eq_true, if_false]
theorem SEn.adj {e : Expr} {pos : Pos} {pa fget : Addr} {f : Loc → Hp → Option (V × Hp)} {F : List V → Hp → Option (V × Hp)} (Po : PropOk P pa fget) (x : SE P (n + 1) G e f) (hF : FNn P n fget F)
    (hbase : ∀ env, attributeBase e "adj" env (eval e env) = eval e env := by intro _; rfl) : SEn P (n + 1) G (.Attribute e "adj" pos) (fUn (gAdj pa P.CG F) f) := by
  intro A env own s ρ loc hp v hp' ha H Fi hf
  obtain ⟨va, hp1, h1, h2⟩ := fUn_inv hf
  rw [arm_eval_Attribute, hbase]
  refine wpN_bindA (x.use ha H Fi h1 fun a' s1 ρ1 H1 F1 S1 r1 => wpN_bindA (wpAny_standAt (wpN_bind (wpN_holding ?_))))
  unfold gAdj at h2
  split at h2
  · rename_i i
    obtain ⟨a, hi, rfl⟩ := r1.ob_inv
    split at h2
    · rename_i d e1
      split at h2
      · rename_i kvs e2
        obtain ⟨b, es, ep, sl, hb, hga, ho, K⟩ := gr_at H1 hi e1 e2
        have I : InstAt s1.heap a { cls := .ref P.CG, dict := some b, data := .plain } P.CG (some { cls := .type "dict", data := .dict es ep, slots := sl }) := ⟨hga, rfl, rfl, ho⟩
        have X := P.kin.keeps H1.base
        have h3 : isFld 3 := by simp [isFld]
        split at h2
        · rename_i j e3
          cases h2
          obtain ⟨en, f1, f2⟩ := K.look h3 e3
          obtain ⟨c, hc, hv⟩ := f2.ob_inv
          have hl : lookIn "adj" { cls := .type "dict", data := .dict es ep, slots := sl } = some (some en.val) := by
            unfold lookIn
            dsimp only
            rw [show ("adj" : Str) = gName 3 from rfl, f1]
          have hh : handedIn en.val = true := by rw [hv]; rfl
          exact wpN_of (get_value X I (plainGet_of Po.get).1 (Po.own hl) hh (wpN_bindA (wpAny_letTemporaryGo (wpN_pure (Res.after (own := own) S1 (Res.here H1 f2))))))
        · cases h2
        · obtain ⟨hn, h4⟩ := ch_inv h2
          obtain ⟨_, n2, _⟩ := K.none h3 hn
          have hl : lookIn "adj" { cls := .type "dict", data := .dict es ep, slots := sl } = some none := by
            unfold lookIn
            dsimp only
            rw [show ("adj" : Str) = gName 3 from rfl, n2]
            dsimp only
            rw [K.noref]
            rfl
          split at h4
          · rename_i j hp2 q
            cases h4
            refine getN_bind X I (plainGet_of Po.get).1 (Po.bind hl) (plainGet_of Po.get).2 ?_
            have H1' := H1.toks (s1.toks + 1)
            have St : Step [] ρ1 s1 ρ1 { s1 with toks := s1.toks + 1 } := Step.refl.toks _
            refine wpN_mono (hF.call (vs := [.st pa, .ob i, .st P.CG]) ha.in1 H1' (.cons (.st _) (.cons (.ob hi) (.cons (.st _) .nil))) q) fun v' s2 r => ?_
            obtain ⟨ρ2, H2, S2, rv⟩ := r
            obtain ⟨c, hc, rfl⟩ := rv.ob_inv
            refine ⟨rfl, wpN_bindA (wpAny_letTemporaryGo (wpN_pure ⟨ρ2, H2, (S1.trans St).trans S2, .ob hc⟩))⟩
          · cases h4
      · cases h2
    · cases h2
  · cases h2
end
/-- cached_property.__get__ -/
def fGetB (pa nf : Addr) (Fa : List V → Hp → Option (V × Hp)) : Loc → Hp → Option (Fl × Loc × Hp) :=
  fSeq (fIf (bBin gIs (fLoc 1) (fK .none)) (fSeq (fRet (fLoc 0)) fNil) fNil)
  (fSeq (fIf (bBin gIs (fUn (gStA pa (.str "adj")) (fLoc 0)) (fK .none)) (fSeq fBad fNil) fNil)
  (fSeq (fSeq (fAsg (fUn gDictO (fLoc 1)) 3) fNil)
  (fSeq (fAsg (fGetS (fLoc 3) (fUn (gStA pa (.str "adj")) (fLoc 0)) (fK (.st nf))) 4)
  (fSeq (fIf (bBin (gIsSt nf) (fLoc 4) (fK (.st nf))) (fSeq (fAsg (fBin (gStC pa Fa) (fLoc 0) (fLoc 1)) 4) (fSeq (fSeq (fPutS (fLoc 4) (fLoc 3) (fUn (gStA pa (.str "adj")) (fLoc 0))) fNil) fNil)) fNil)
  (fSeq (fRet (fLoc 4)) fNil)))))
def Fget (pa nf : Addr) : List V → Hp → Option (V × Hp) := fPlain 3 2 (fGetB pa nf FadjV)
/-- Graph.__getitem__ -/
def FitemG (pa nf CG : Addr) : List V → Hp → Option (V × Hp) := fPlain 2 0 (fSeq (fRet (fBin (fun a j hp => ch (isVw true a hp) (FitemV [a, j] hp)) (fUn (gAdj pa CG (Fget pa nf)) (fLoc 0)) (fLoc 1))) fNil)
def gItemG (pa nf CG : Addr) : V → V → Hp → Option (V × Hp) := fun a j hp => ch (isGr a hp) (FitemG pa nf CG [a, j] hp)
end
end Mine
end
section
open PySem PySem.Calls PyProof.Rows PySem.W
set_option maxRecDepth 100000
set_option linter.unusedSimpArgs false
set_option linter.unusedVariables false
namespace Mine
noncomputable section
section
variable {M : Model} {A : Around} {R : GenEnd} {Y : Protocol} {n : Nat} {s₀ : Shared} {c : Code} {fs : List Frame} {s : Shared} {env : Env} {K : Flow → Sem Fin} {H : Value → Sem Fin} {gd : Bool → Bool} {lv : List Value → List Value}
theorem seg_SS {l rest : List Stmt} (h : wpAny M (A.over c fs) (execs l env) (fun f s' => f = .next ∧ Seg M A R Y n s₀ c ((execs rest env).wrap K H gd lv) fs s') NoE s) : Seg M A R Y n s₀ c ((execs (l ++ rest) env).wrap K H gd lv) fs s := by
  rw [execs_app_wrap]
  exact seg_wrap (wpAny_mono h (fun f s' h' => by obtain ⟨rfl, h'⟩ := h'; exact h') fun _ _ h => h.elim)
theorem seg_If {test : Expr} {body orelse : List Stmt} {pos : Pos} (h : wpAny M (A.over c fs) (isTrue test env (eval test env)) (fun b s' => if b = true then Seg M A R Y n s₀ c ((execs body env).wrap K H gd lv) fs s' else Seg M A R Y n s₀ c ((execs orelse env).wrap K H gd lv) fs s') NoE s) :
    Seg M A R Y n s₀ c ((exec (.If test body orelse pos) env).wrap K H gd lv) fs s := by
  rw [exec_If]
  refine seg_at ?_
  show Seg M A R Y n s₀ c (((isTrue test env (eval test env)) >>= fun b => if b = true then execs body env else execs orelse env).wrap K H gd lv) fs s
  rw [Sem.bind_eq_wrap', Sem.wrap_wrap]
  refine seg_wrap (wpAny_mono h (fun b s' h' => ?_) fun _ _ h => h.elim)
  cases b with
  | true => rw [if_pos rfl] at h'; show Seg M A R Y n s₀ c (Sem.wrap K H _ _ (if true = true then _ else _)) fs s'; rw [if_pos rfl]; exact h'
  | false => rw [if_neg Bool.false_ne_true] at h'; show Seg M A R Y n s₀ c (Sem.wrap K H _ _ (if false = true then _ else _)) fs s'; rw [if_neg Bool.false_ne_true]; exact h'
end

/-- the turns of a generator and of the loop over it, in turn -/
structure GC where
  gl : Loc
  loc : Loc
  hp : Hp
section
variable (fInit fPost : Loc → Hp → Option (Fl × Loc × Hp)) (run : Loc → Hp → Option (Option V × Loc × Hp)) (aT : V → Loc → Hp → Option (Loc × Hp)) (body : Loc → Hp → Option (Fl × Loc × Hp))
def gFrom (first : Bool) (gl : Loc) (hp : Hp) : Option (Option V × Loc × Hp) := match (match first with | true => fInit gl hp | false => fPost gl hp) with
  | some (.next, gl2, hp2) => run gl2 hp2
  | _ => none
def gTurn (v : V) (gl loc : Loc) (hp : Hp) : Option GC := match aT v loc hp with
  | none => none
  | some (loc2, hp2) => match body loc2 hp2 with
    | some (.next, loc3, hp3) => some ⟨gl, loc3, hp3⟩
    | _ => none
def cfgAt (c0 : GC) : Nat → Option GC
  | 0 => some c0
  | i + 1 => match cfgAt c0 i with
    | none => none
    | some c => match gFrom fInit fPost run (Nat.beq i 0) c.gl c.hp with
      | some (some v, gl, hp) => gTurn aT body v gl c.loc hp
      | _ => none
/-- the whole loop goes through, in fewer than N turns, and ends so -/
def gAll (c0 : GC) (N : Nat) (loc' : Loc) (hp' : Hp) : Prop :=
  ∀ i c, cfgAt fInit fPost run aT body c0 i = some c → i < N ∧ ((∃ gl', gFrom fInit fPost run (Nat.beq i 0) c.gl c.hp = some (none, gl', hp') ∧ c.loc = loc') ∨
    (∃ v gl' hp1 c', gFrom fInit fPost run (Nat.beq i 0) c.gl c.hp = some (some v, gl', hp1) ∧ gTurn aT body v gl' c.loc hp1 = some c'))
end
end
end Mine
end
section
open PySem PySem.Calls PyProof.Rows PySem.W
set_option maxRecDepth 100000
set_option linter.unusedSimpArgs false
set_option linter.unusedVariables false
namespace Mine
noncomputable section
section
variable {P : Par} {own : List Addr} {ρ ρ' : List Addr} {s s' : Shared} {g : Nat} {x : GenState}
theorem HI.setGen {hp : Hp} (H : HI P ρ hp s) : HI P ρ hp (s.setGen g x) := ⟨H.base, H.len, H.le, H.nodup, H.new, H.sz, H.objs⟩
theorem Step.setGen (S : Step own ρ s ρ' s') (hg : g < s.gens.size) : Step own ρ (s.setGen g x) ρ' (s'.setGen g x) := by
  refine ⟨S.pre, S.fresh, S.imm, S.keep, S.size, ?_, S.os⟩
  obtain ⟨l, e, hl⟩ := S.gens
  refine ⟨l, ?_, hl⟩
  show (s'.gens.setIfInBounds g x).toList = (s.gens.setIfInBounds g x).toList ++ l
  rw [Array.toList_setIfInBounds, Array.toList_setIfInBounds, e, List.set_append_left _ _ (by simpa using hg)]
theorem Step.gsize (S : Step own ρ s ρ' s') : s.gens.size ≤ s'.gens.size := by
  obtain ⟨l, e, _⟩ := S.gens
  have := congrArg List.length e
  simp at this
  omega
theorem setGen_set (s : Shared) (g : Nat) (x y : GenState) : (s.setGen g x).setGen g y = s.setGen g y := by
  show ({ s with gens := (s.gens.setIfInBounds g x).setIfInBounds g y } : Shared) = { s with gens := s.gens.setIfInBounds g y }
  congr 1
  apply Array.ext'
  simp [Array.toList_setIfInBounds]
end

/-- the two frames side by side -/
structure Pair (P : Par) (G Gb : Sg) (env envg : Env) (own : List Addr) (LG a : Addr) (g : Nat) : Prop where
  l1 : LG ∉ own
  l2 : ∀ y c, env.cells.lookup y = some c → c ≠ LG
  l3 : ∀ y c, envg.cells.lookup y = some c → False
  l4 : a ≠ LG
structure Inv (P : Par) (G Gb : Sg) (env envg : Env) (own : List Addr) (LG a : Addr) (g : Nat) (ρs : List Addr) (ss : Shared) (gl loc : Loc) (hp : Hp) (ρ : List Addr) (s : Shared) : Prop where
  H : HI P ρ hp s
  Fg : FI P Gb envg [LG] ρ gl s.heap
  Fl : FI P G env own ρ loc s.heap
  St : Step (LG :: own) ρs (ss.setGen g .finished) ρ (s.setGen g .finished)
  ga : s.heap.IsGen a g
  gO : Own P env own ρ s.heap a
  gs : g < s.gens.size
section
variable {P : Par} {G Gb : Sg} {env envg : Env} {own : List Addr} {LG a : Addr} {g : Nat} {ρs : List Addr} {ss : Shared} {gl gl' loc loc' : Loc} {hp hp' : Hp} {ρ ρ' : List Addr} {s s' : Shared}
theorem IsGen.step {own2 : List Addr} (x : s.heap.IsGen a g) (S : Step own2 ρ s ρ' s') (h1 : a ∉ ρ) (h2 : a ∉ own2) : s'.heap.IsGen a g := by
  obtain ⟨o, nm, qn, ho, r⟩ := x
  exact ⟨o, nm, qn, S.keep _ _ ho h1 h2, r⟩
theorem Inv.setGen (I : Inv P G Gb env envg own LG a g ρs ss gl loc hp ρ s) (x : GenState) : Inv P G Gb env envg own LG a g ρs ss gl loc hp ρ (s.setGen g x) :=
  ⟨I.H.setGen, I.Fg, I.Fl, by rw [setGen_set]; exact I.St, I.ga, I.gO, by show g < (s.gens.setIfInBounds g x).size; rw [Array.size_setIfInBounds]; exact I.gs⟩
theorem Inv.gen (W : Pair P G Gb env envg own LG a g) (I : Inv P G Gb env envg own LG a g ρs ss gl loc hp ρ s) (H' : HI P ρ' hp' s') (F' : FI P Gb envg [LG] ρ' gl' s'.heap) (S : Step [LG] ρ s ρ' s') : Inv P G Gb env envg own LG a g ρs ss gl' loc hp' ρ' s' := by
  refine ⟨H', F', I.Fl.stepBut S (fun b hb => ?_), I.St.trans ((S.setGen I.gs).weaken fun b hb => ?_), IsGen.step I.ga S I.gO.ρ (by simpa using W.l4), I.gO.step S, Nat.lt_of_lt_of_le I.gs S.gsize⟩
  · obtain rfl := List.mem_singleton.mp hb
    exact .inr ⟨W.l1, W.l2⟩
  · obtain rfl := List.mem_singleton.mp hb
    exact .inl List.mem_cons_self
theorem Inv.law (W : Pair P G Gb env envg own LG a g) (I : Inv P G Gb env envg own LG a g ρs ss gl loc hp ρ s) (H' : HI P ρ' hp' s') (F' : FI P G env own ρ' loc' s'.heap) (S : Step own ρ s ρ' s') : Inv P G Gb env envg own LG a g ρs ss gl loc' hp' ρ' s' := by
  refine ⟨H', I.Fg.stepBut S (fun b hb => ?_), F', I.St.trans ((S.setGen I.gs).weaken fun b hb => ?_), IsGen.step I.ga S I.gO.ρ I.gO.own, I.gO.step S, Nat.lt_of_lt_of_le I.gs S.gsize⟩
  · refine .inr ⟨fun hm => ?_, fun y c e => (W.l3 y c e).elim⟩
    obtain rfl := List.mem_singleton.mp hm
    exact W.l1 hb
  · exact .inl (List.mem_cons_of_mem _ hb)
end
theorem AOk.over {n : Nat} {A : Around} {body : List Stmt} {env : Env} {test : Expr} {wb wo : List Stmt} {k : Result → Sem Fin} {p : Pos} (h : AOk (n + 2) A) : AOk n (A.in1.over (.whileLoop test wb wo env) [.ret k none false [] (.func body env) p []]) := by
  refine ⟨h.h, ?_, ?_⟩
  · have := h.d
    show A.in1.depth + frameCount [((Code.func body env), p)] + (Code.whileLoop test wb wo env).weight + n ≤ 990
    have e1 : frameCount [((Code.func body env), p)] = 1 := rfl
    have e2 : (Code.whileLoop test wb wo env).weight = 0 := rfl
    rw [e1, e2]
    simp only [Around.in1_depth]
    omega
  · have := h.u
    show A.in1.units + unitsOf [((Code.func body env), p)] + (Code.whileLoop test wb wo env).cUnits + 10 * n + 20 ≤ 9900
    have e1 : unitsOf [((Code.func body env), p)] = 3 := rfl
    have e2 : (Code.whileLoop test wb wo env).cUnits = 0 := rfl
    rw [e1, e2]
    simp only [Around.in1_units]
    omega
theorem AOk.over0 {n : Nat} {A : Around} {body : List Stmt} {env : Env} (h : AOk (n + 2) A) : AOk n (A.in1.over (.func body env) []) := by
  refine ⟨h.h, ?_, ?_⟩
  · have := h.d
    show A.in1.depth + frameCount [] + (Code.func body env).weight + n ≤ 990
    have e1 : frameCount [] = 0 := rfl
    have e2 : (Code.func body env).weight = 1 := rfl
    rw [e1, e2]
    simp only [Around.in1_depth]
    omega
  · have := h.u
    show A.in1.units + unitsOf [] + (Code.func body env).cUnits + 10 * n + 20 ≤ 9900
    have e1 : unitsOf [] = 0 := rfl
    have e2 : (Code.func body env).cUnits = 3 := rfl
    rw [e1, e2]
    simp only [Around.in1_units]
    omega
end
end Mine
end
section
open PySem PySem.Calls PyProof.Rows PySem.W
set_option maxRecDepth 100000
set_option linter.unusedSimpArgs false
set_option linter.unusedVariables false
namespace Mine
noncomputable section
/-- a generator's body: some lines, then a while whose turns may yield -/
structure GenOk (P : Par) (n : Nat) (Gb : Sg) (pre : List Stmt) (test : Expr) (nst : List Stmt) (ce ye : Expr) (yp ep ip : Pos) (pst : List Stmt) (fInit : Loc → Hp → Option (Fl × Loc × Hp)) (fT : Loc → Hp → Option (Bool × Hp)) (fPre : Loc → Hp → Option (Fl × Loc × Hp)) (fC : Loc → Hp → Option (Bool × Hp)) (fO : Loc → Hp → Option (V × Hp)) (fPost : Loc → Hp → Option (Fl × Loc × Hp)) : Prop where
  h1 : SS P n Gb pre fInit
  h2 : SB P n Gb test fT
  h3 : SS P n Gb nst fPre
  h4 : SB P n Gb ce fC
  h5 : SE P n Gb ye fO
  h6 : SS P n Gb pst fPost
  co : ∀ env : Env, env.scope = Gb.scope → env.scope.isCoroutine = false
  ia : ∀ env : Env, env.scope = Gb.scope → interactive env = false
/-- all that a loop over a generator is made of -/
structure GPar where
  P : Par
  G : Sg
  Gb : Sg
  env : Env
  envg : Env
  own : List Addr
  LG : Addr
  a : Addr
  g : Nat
  ρs : List Addr
  ss : Shared
  N : Nat
  fInit : Loc → Hp → Option (Fl × Loc × Hp)
  fPost : Loc → Hp → Option (Fl × Loc × Hp)
  fuel₀ : Nat
  fT : Loc → Hp → Option (Bool × Hp)
  fPre : Loc → Hp → Option (Fl × Loc × Hp)
  fC : Loc → Hp → Option (Bool × Hp)
  fO : Loc → Hp → Option (V × Hp)
  aT : V → Loc → Hp → Option (Loc × Hp)
  body : Loc → Hp → Option (Fl × Loc × Hp)
  c0 : GC
abbrev GPar.run (Z : GPar) : Loc → Hp → Option (Option V × Loc × Hp) := genRun Z.fT Z.fPre Z.fC Z.fO Z.fPost Z.fuel₀
abbrev GPar.frm (Z : GPar) (i : Nat) (c : GC) : Option (Option V × Loc × Hp) := gFrom Z.fInit Z.fPost Z.run (Nat.beq i 0) c.gl c.hp
abbrev GPar.cfg (Z : GPar) (i : Nat) : Option GC := cfgAt Z.fInit Z.fPost Z.run Z.aT Z.body Z.c0 i
abbrev GPar.inv (Z : GPar) : Loc → Loc → Hp → List Addr → Shared → Prop := Inv Z.P Z.G Z.Gb Z.env Z.envg Z.own Z.LG Z.a Z.g Z.ρs Z.ss
abbrev GPar.pair (Z : GPar) : Prop := Pair Z.P Z.G Z.Gb Z.env Z.envg Z.own Z.LG Z.a Z.g
abbrev GPar.all (Z : GPar) (locE : Loc) (hpE : Hp) : Prop := gAll Z.fInit Z.fPost Z.run Z.aT Z.body Z.c0 Z.N locE hpE
abbrev GPar.M (Z : GPar) : Model := model Z.P.prog Z.P.w
/-- what a yield hands over -/
def GPar.Y (Z : GPar) : Protocol := fun m s₀ v s kap => ∃ i c vv gl' hp' ρ', m + 1 + i = Z.N ∧ Z.cfg i = some c ∧ Z.frm i c = some (some vv, gl', hp') ∧
  Z.inv gl' c.loc hp' ρ' s ∧ VR Z.P s.heap ρ' vv v ∧ (∀ s'' ρ'' c'', Z.cfg (i + 1) = some c'' → Z.inv c''.gl c''.loc c''.hp ρ'' s'' → kap (.send .none) s'')
/-- what its end hands over -/
def GPar.Pn (Z : GPar) : Nat → Shared → Shared → Prop := fun n s₀ s₁ => ∃ i c gl' hp' ρ', n + i = Z.N ∧ Z.cfg i = some c ∧ Z.frm i c = some (none, gl', hp') ∧ Z.inv gl' c.loc hp' ρ' s₁
abbrev GPar.R (Z : GPar) : GenEnd := fun n s₀ r s₁ => r = .ok (.ret .none) ∧ Z.Pn n s₀ s₁

abbrev genBody (pre : List Stmt) (test : Expr) (nst : List Stmt) (ce ye : Expr) (yp ep ip : Pos) (pst : List Stmt) (wpos : Pos) : List Stmt := pre ++ [.While test (nst ++ (.If ce [.Expr (.Yield (some ye) yp) ep] [] ip :: pst)) [] wpos]

section
variable {n : Nat} {pre : List Stmt} {test : Expr} {nst : List Stmt} {ce ye : Expr} {yp ep ip wpos : Pos} {pst : List Stmt} {A : Around} {locE : Loc} {hpE : Hp} {Z : GPar}
theorem gseg_loop (W : Z.pair) (O : GenOk Z.P n Z.Gb pre test nst ce ye yp ep ip pst Z.fInit Z.fT Z.fPre Z.fC Z.fO Z.fPost) (ha : AOk (n + 2) A) (hsc : Z.envg.scope = Z.Gb.scope)
    (hall : Z.all locE hpE) (bd : List Stmt) (k : Result → Sem Fin) (p : Pos)
    (hk : ∀ n s₀ s, Z.R n s₀ (.ok (.ret .none)) s → Seg Z.M A.in1 Z.R Z.Y n s₀ (.func bd Z.envg) (k (.ok .next)) [] s) :
    ∀ m i, m + i = Z.N → ∀ fuel gl hp c r gl' hp' ρ s s₀, Z.cfg i = some c → Z.frm i c = some (r, gl', hp') → genRun Z.fT Z.fPre Z.fC Z.fO Z.fPost fuel gl hp = some (r, gl', hp') →
      Z.inv gl c.loc hp ρ s →
      Seg Z.M A.in1 Z.R Z.Y m s₀
        (.whileLoop test (nst ++ (.If ce [.Expr (.Yield (some ye) yp) ep] [] ip :: pst)) [] Z.envg) (Z.M.den (.whileLoop test (nst ++ (.If ce [.Expr (.Yield (some ye) yp) ep] [] ip :: pst)) [] Z.envg)) [.ret k none false [] (.func bd Z.envg) p []] s := by
  intro m
  induction m using Nat.strongRecOn with
  | ind m ihm =>
    intro i hmi fuel
    induction fuel with
    | zero => intro gl hp c r gl' hp' ρ s s₀ _ _ h; cases h
    | succ fuel ihf =>
      intro gl hp c r gl' hp' ρ s s₀ hc hg hr I
      have hA : AOk n (A.in1.over (.whileLoop test (nst ++ (.If ce [.Expr (.Yield (some ye) yp) ep] [] ip :: pst)) [] Z.envg) [.ret k none false [] (.func bd Z.envg) p []]) := ha.over
      unfold genRun at hr
      cases q1 : Z.fT gl hp with
      | none => rw [q1] at hr; cases hr
      | some z1 =>
        obtain ⟨b, hp1⟩ := z1
        rw [q1] at hr
        dsimp only at hr
        refine seg_whileLoop (wpAny_mono (O.h2.use (Q := fun b' s' => b' = b ∧ ∃ ρ1, Z.inv gl c.loc hp1 ρ1 s') (E := NoE) hA I.H I.Fg q1 fun s1 ρ1 H1 F1 S1 => ⟨rfl, ρ1, I.gen W H1 F1 S1.own'⟩) (fun b' s1 hb => ?_) fun _ _ h => h.elim)
        obtain ⟨rfl, ρ1, I1⟩ := hb
        cases b' with
        | false =>
          rw [if_neg Bool.false_ne_true]
          cases hr
          show Seg _ _ _ _ _ _ _ (leafOf (.ok .next)) _ _
          exact seg_leaf _ (hk _ _ _ ⟨rfl, i, c, _, _, ρ1, hmi, hc, hg, I1⟩)
        | true =>
          rw [if_pos rfl]
          dsimp only at hr
          cases q2 : Z.fPre gl hp1 with
          | none => rw [q2] at hr; cases hr
          | some z2 =>
            obtain ⟨fl2, gl2, hp2⟩ := z2
            rw [q2] at hr
            cases fl2 with
            | brk | cont | ret _ => cases hr
            | next =>
              dsimp only at hr
              refine seg_SS (O.h3.use (E := NoE) hA I1.H I1.Fg q2 fun fl' s2 ρ2 H2 F2 S2 r2 => ?_)
              obtain rfl : fl' = .next := r2
              have I2 := I1.gen W H2 F2 S2
              refine ⟨rfl, seg_execs_cons (seg_If ?_)⟩
              cases q3 : Z.fC gl2 hp2 with
              | none => rw [q3] at hr; cases hr
              | some z3 =>
                obtain ⟨cc, hp3⟩ := z3
                rw [q3] at hr
                dsimp only at hr
                refine O.h4.use hA I2.H I2.Fg q3 fun s3 ρ3 H3 F3 S3 => ?_
                have I3 := I2.gen W H3 F3 S3.own'
                cases cc with
                | true =>
                  rw [if_pos rfl]
                  dsimp only at hr
                  cases q4 : Z.fO gl2 hp3 with
                  | none => rw [q4] at hr; cases hr
                  | some z4 =>
                    obtain ⟨vv, hp4⟩ := z4
                    rw [q4] at hr
                    cases hr
                    have hiN := (hall i c hc).1
                    obtain ⟨m', rfl⟩ : ∃ m', m = m' + 1 := ⟨m - 1, by omega⟩
                    refine seg_execs_cons (seg_Expr_Yield rfl rfl rfl (O.h5.use hA I3.H I3.Fg q4 fun v' s4 ρ4 H4 F4 S4 r4 kap hkap => ?_) (O.co _ hsc) (O.ia _ hsc))
                    have I4 := I3.gen W H4 F4 S4.own'
                    refine ⟨i, c, vv, _, _, ρ4, hmi, hc, hg, I4, r4, fun s5 ρ5 c5 hc5 I5 => hkap .none s5 ?_⟩
                    show Seg _ _ _ _ _ _ _ ((execs pst Z.envg).wrap _ _ _ _) _ _
                    obtain ⟨r5, gl5, hp5, hn5⟩ : ∃ r gl hp, Z.frm (i + 1) c5 = some (r, gl, hp) := by
                      rcases (hall (i + 1) c5 hc5).2 with ⟨gl', h, _⟩ | ⟨v, gl', hp', _, h, _⟩
                      · exact ⟨_, _, _, h⟩
                      · exact ⟨_, _, _, h⟩
                    have hn5' := hn5
                    unfold GPar.frm gFrom at hn5
                    have e0 : Nat.beq (i + 1) 0 = false := rfl
                    rw [e0] at hn5
                    dsimp only at hn5
                    split at hn5
                    · rename_i gl6 hp6 q6
                      rw [← List.append_nil pst]
                      refine seg_SS (O.h6.use (E := NoE) hA I5.H I5.Fg q6 fun fl' s6 ρ6 H6 F6 S6 r6 => ?_)
                      obtain rfl : fl' = .next := r6
                      have I6 := I5.gen W H6 F6 S6
                      refine ⟨rfl, ?_⟩
                      show Seg _ _ _ _ _ _ _ (.pure (.again _)) _ _
                      rw [List.append_nil]
                      exact seg_again rfl (ihm m' (Nat.lt_succ_self _) (i + 1) (by omega) Z.fuel₀ gl6 hp6 c5 r5 gl5 hp5 ρ6 s6 s5 hc5 hn5' hn5 I6)
                    · cases hn5
                | false =>
                  rw [if_neg Bool.false_ne_true]
                  dsimp only at hr
                  show Seg _ _ _ _ _ _ _ ((execs pst Z.envg).wrap _ _ _ _) _ _
                  cases q6 : Z.fPost gl2 hp3 with
                  | none => rw [q6] at hr; cases hr
                  | some z6 =>
                    obtain ⟨fl6, gl6, hp6⟩ := z6
                    rw [q6] at hr
                    cases fl6 with
                    | brk | cont | ret _ => cases hr
                    | next =>
                      dsimp only at hr
                      rw [← List.append_nil pst]
                      refine seg_SS (O.h6.use (E := NoE) hA I3.H I3.Fg q6 fun fl' s6 ρ6 H6 F6 S6 r6 => ?_)
                      obtain rfl : fl' = .next := r6
                      have I6 := I3.gen W H6 F6 S6
                      refine ⟨rfl, ?_⟩
                      show Seg _ _ _ _ _ _ _ (.pure (.again _)) _ _
                      rw [List.append_nil]
                      exact seg_again rfl (ihf gl6 hp6 c r gl' hp' ρ6 s6 s₀ hc hg hr I6)
end
end
end Mine
end
section
open PySem PySem.Calls PyProof.Rows PySem.W
set_option maxRecDepth 100000
set_option linter.unusedSimpArgs false
set_option linter.unusedVariables false
namespace Mine
noncomputable section
section
variable {n : Nat} {pre : List Stmt} {test : Expr} {nst : List Stmt} {ce ye : Expr} {yp ep ip wpos : Pos} {pst : List Stmt} {A : Around} {locE : Loc} {hpE : Hp} {Z : GPar}
theorem gseg_start (W : Z.pair) (O : GenOk Z.P n Z.Gb pre test nst ce ye yp ep ip pst Z.fInit Z.fT Z.fPre Z.fC Z.fO Z.fPost) (ha : AOk (n + 2) A) (hsc : Z.envg.scope = Z.Gb.scope) (hall : Z.all locE hpE)
    {ρ : List Addr} {s : Shared} (I : Z.inv Z.c0.gl Z.c0.loc Z.c0.hp ρ s) :
    Seg Z.M A.in1 Z.R Z.Y Z.N s (.func (genBody pre test nst ce ye yp ep ip pst wpos) Z.envg) (Z.M.den (.func (genBody pre test nst ce ye yp ep ip pst wpos) Z.envg)) [] s := by
  have hc : Z.cfg 0 = some Z.c0 := rfl
  obtain ⟨r5, gl5, hp5, hn5⟩ : ∃ r gl hp, Z.frm 0 Z.c0 = some (r, gl, hp) := by
    rcases (hall 0 Z.c0 hc).2 with ⟨gl', h, _⟩ | ⟨v, gl', hp', _, h, _⟩
    · exact ⟨_, _, _, h⟩
    · exact ⟨_, _, _, h⟩
  have hn5' := hn5
  unfold GPar.frm gFrom at hn5
  have e0 : Nat.beq 0 0 = true := rfl
  rw [e0] at hn5
  dsimp only at hn5
  split at hn5
  · rename_i gl6 hp6 q6
    refine seg_func (seg_SS (O.h1.use (E := NoE) ha.over0 I.H I.Fg q6 fun fl' s6 ρ6 H6 F6 S6 r6 => ?_))
    obtain rfl : fl' = .next := r6
    have I6 := I.gen W H6 F6 S6
    refine ⟨rfl, seg_execs_cons (seg_While fun p => ?_)⟩
    refine gseg_loop (hpE := hpE) (locE := locE) W O ha hsc hall _ _ p (fun n s₀ s h => ?_) Z.N 0 (Nat.add_zero _) Z.fuel₀ gl6 hp6 Z.c0 r5 gl5 hp5 ρ6 s6 s hc hn5' hn5 I6
    show Seg _ _ _ _ _ _ _ (leafOf (.ok (.ret .none))) _ _
    exact seg_end _ h
  · cases hn5
end
section
variable {prog : Program} {w : World} {A : Around} {E : Value → Shared → Prop} {s : Shared}
theorem pyNext_gen {a : Addr} {g n : Nat} {gs : GenState} {P : Nat → Shared → Shared → Prop} {Y : Protocol} {Q : Option Value → Shared → Prop} (hh : A.handled = none)
    (hl : s.heap.NoLimit) (hroom : A.depth < recursionLimit)
    (hg : s.heap.IsGen a g) (hgs : s.gens[g]? = some gs)
    (hgo : gs.Goes (model prog w) A.in1 (fun n s₀ r s₁ => r = .ok (.ret .none) ∧ P n s₀ s₁) Y n (.send .none) (s.setGen g .running))
    (hY : ∀ v s₁ gs', Y (n - 1) (s.setGen g .running) v s₁ (fun r' s'' => match n with
        | 0 => False
        | m + 1 => gs'.Goes (model prog w) A.in1 (fun n s₀ r s₁ => r = .ok (.ret .none) ∧ P n s₀ s₁) Y m r' s'') → Q (some v) (s₁.setGen g gs'))
    (hP : ∀ s₁, P n (s.setGen g .running) s₁ → ∀ h', (∀ b o, s₁.heap.get? b = some o → h'.get? b = some o) → s₁.heap.objs.size ≤ h'.objs.size → Q none { s₁.setGen g .finished with heap := h' }) :
    wpAny (model prog w) A (pyNext (.ref a)) Q E s := by
  unfold pyNext
  refine wpAny_bind (wpAny_attempt (wpAny_callSpecial?_slot (name := Str.ofString "__next__") hg.typeIs slot_gen_next
    (wpAny_call_entry slot_gen_next hg.typeIs entry_gen_next ?_ (args_gen_next _))))
  show wpAny _ _ (Builtin.Generator.genWake (.ref a) (.send .none)) _ _ s
  unfold Builtin.Generator.genWake
  refine wpAny_bind (wpAny_holding (wpAny_genNumber hg (wpAny_bind (wpAny_genState hgs ?_))))
  cases gs with
  | running => exact hgo.elim
  | finished => exact hgo.elim
  | _ =>
    refine wpAny_bind (wpAny_roomToWake hl hroom ?_)
    show wpAny _ _ (.resume g (.send .none) [] _) _ _ s
    refine wpAny_resume hgs hgo (fun x s₁ hx => ?_) (fun v s₁ gs' hv => ?_)
    · obtain ⟨rfl, hp⟩ := hx
      show wpAny _ _ (newExc (.type "StopIteration") [] >>= _) _ _ _
      refine wpAny_bind ?_
      simp only [newExc, newTuple]
      refine wpAny_bind (wpAny_newObj_type ?_ (by size_fits))
      refine wpAny_bind (m := firstArgMember _ _) (wpAny_of_eq (a := Value.none) (by first | rfl | (simp only [firstArgMember]; rfl)) ?_)
      refine wpAny_newObj_type ?_ (by size_fits)
      simp only [raiseNew]
      refine wpAny_bind (wpAny_bind (wpAny_handled ?_))
      rw [show A.in1.handled = none from hh]
      refine wpAny_throw ?_
      refine wpAny_bind (wpAny_isInstance (T := "StopIteration") (b := true) ⟨_, Heap.get?_push_size _ rfl, rfl⟩ isSubtype_stop ?_)
      refine wpAny_pure (hP s₁ hp _ (fun b o hb => Heap.get?_push_of_some _ (Heap.get?_push_of_some _ hb)) ?_)
      rw [Heap.size_push, Heap.size_push]
      exact Nat.le_trans (Nat.le_succ _) (Nat.le_succ _)
    · exact wpAny_pure ⟨v, rfl, wpAny_pure (hY v s₁ gs' hv)⟩
end
theorem gens_at {own : List Addr} {ρ ρ' : List Addr} {s s' : Shared} {g : Nat} {x : GenState} (S : Step own ρ s ρ' s') (h : s.gens[g]? = some x) : s'.gens[g]? = some x := by
  obtain ⟨l, e, _⟩ := S.gens
  rw [← Array.getElem?_toList] at h ⊢
  rw [e, List.getElem?_append_left (List.getElem?_eq_some_iff.mp h).1]
  exact h
theorem setGen_at {s : Shared} {g : Nat} {x : GenState} (h : g < s.gens.size) : (s.setGen g x).gens[g]? = some x := by
  show (s.gens.setIfInBounds g x)[g]? = some x
  simp [h]
section
variable {n : Nat} {pre : List Stmt} {test : Expr} {nst : List Stmt} {ce ye : Expr} {yp ep ip wpos : Pos} {pst : List Stmt} {A : Around} {locE : Loc} {hpE : Hp} {Z : GPar}
/-- the loop over the generator -/
theorem gfor {target : Expr} {bd : List Stmt} {R : Result → Shared → Prop} (W : Z.pair) (O : GenOk Z.P n Z.Gb pre test nst ce ye yp ep ip pst Z.fInit Z.fT Z.fPre Z.fC Z.fO Z.fPost) (ha : AOk (n + 2) A) (hsc : Z.envg.scope = Z.Gb.scope) (hall : Z.all locE hpE)
    (y : SA Z.P (n + 2) Z.G target Z.aT) (z : SS Z.P (n + 2) Z.G bd Z.body) (hl : ∀ i v, letOwnedTupleGo target i v = pure ())
    {ρ : List Addr} {s : Shared} (I : Z.inv Z.c0.gl Z.c0.loc Z.c0.hp ρ s) (hgs : s.gens[Z.g]? = some (.fresh (.func (genBody pre test nst ce ye yp ep ip pst wpos) Z.envg)))
    (hR : ∀ ρ' s', HI Z.P ρ' hpE s' → FI Z.P Z.G Z.env Z.own ρ' locE s'.heap → Step (Z.LG :: Z.own) Z.ρs (Z.ss.setGen Z.g .finished) ρ' s' → R (.ok .next) s') :
    codeAny Z.M A (.forLoop target (.ref Z.a) bd [] Z.env) R s := by
  refine codeAny_forLoop_any (fun m s => ∃ i c ρ gs, m = Z.N - i ∧ Z.cfg i = some c ∧ Z.inv c.gl c.loc c.hp ρ s ∧ s.gens[Z.g]? = some gs ∧ (∀ s'' ρ'', Z.inv c.gl c.loc c.hp ρ'' s'' → gs.Goes Z.M A.in1 Z.R Z.Y (Z.N - i) (.send .none) s'')) ?_ Z.N
    ⟨0, Z.c0, ρ, _, (Nat.sub_zero _).symm, rfl, I, hgs, fun s'' ρ'' I'' => ⟨rfl, gseg_start W O ha hsc hall I''⟩⟩
  rintro m s ⟨i, c, ρ, gs, rfl, hc, I, hgs, hgo⟩
  obtain ⟨hiN, hcase⟩ := hall i c hc
  have hlim : s.heap.NoLimit := Z.P.nolimit.keeps fun b o e => I.H.base b o e
  refine pyNext_gen ha.h hlim ha.room I.ga hgs (hgo _ _ (I.setGen .running)) (fun v s₁ gs' hY => ?_) (fun s₁ hP h' hk hz => ?_)
  · obtain ⟨i', c', vv, gl', hp', ρ', e, hc', hfr, I1, rv, hkap⟩ := hY
    obtain rfl : i' = i := by omega
    obtain rfl : c' = c := Option.some.inj (hc'.symm.trans hc)
    have hlt : Z.g < s₁.gens.size := I1.gs
    rcases hcase with ⟨gl'', hfr', _⟩ | ⟨v2, gl2, hp2, c2, hfr', ht⟩
    · cases hfr.symm.trans hfr'
    · cases hfr.symm.trans hfr'
      have hcn : Z.cfg (i' + 1) = some c2 := by
        show (match Z.cfg i' with
          | none => none
          | some c => match Z.frm i' c with
            | some (some v, gl, hp) => gTurn Z.aT Z.body v gl c.loc hp
            | _ => none) = some c2
        rw [hc]
        show (match Z.frm i' c' with
          | some (some v, gl, hp) => gTurn Z.aT Z.body v gl c'.loc hp
          | _ => none) = some c2
        have hfr2 : Z.frm i' c' = _ := hfr
        simp only [hfr2]
        exact ht
      unfold gTurn at ht
      cases q1 : Z.aT vv c'.loc hp' with
      | none => rw [q1] at ht; cases ht
      | some z1 =>
        obtain ⟨loc2, hp2⟩ := z1
        rw [q1] at ht
        dsimp only at ht
        split at ht
        · rename_i loc3 hp3 q2
          cases ht
          have I2 := I1.setGen gs'
          show wpAny _ _ (letOwnedTupleGo target (.ref Z.a) v) _ _ _
          rw [hl]
          refine wpAny_pure (y.use ha I2.H I2.Fl rv q1 fun s2 ρ2 H2 F2 S2 => ?_)
          have I3 := I2.law W H2 F2 S2
          have g3 := gens_at S2 (setGen_at hlt)
          refine z.use ha H2 F2 q2 fun fl' s3 ρ3 H3 F3 S3 r3 => ?_
          obtain rfl : fl' = .next := r3
          refine ⟨Z.N - (i' + 1), by omega, i' + 1, _, ρ3, gs', rfl, hcn, I3.law W H3 F3 S3, gens_at S3 g3, fun s'' ρ'' I'' => ?_⟩
          have hk := hkap s'' ρ'' _ hcn I''
          obtain ⟨q, hq⟩ : ∃ q, Z.N - i' = q + 1 := ⟨Z.N - i' - 1, by omega⟩
          rw [hq] at hk
          dsimp only at hk
          rw [show Z.N - (i' + 1) = q by omega]
          exact hk
        · cases ht
  · obtain ⟨i', c', gl', hp', ρ', e, hc', hfr, I1⟩ := hP
    obtain rfl : i' = i := by omega
    obtain rfl : c' = c := Option.some.inj (hc'.symm.trans hc)
    rcases hcase with ⟨gl'', hfr', hloc⟩ | ⟨v2, gl2, hp2, c2, hfr', ht⟩
    · cases hfr.symm.trans hfr'
      subst hloc
      have I2 := I1.setGen .finished
      have S : Step [] ρ' (s₁.setGen Z.g .finished) ρ' { s₁.setGen Z.g .finished with heap := h' } := .grow (s := s₁.setGen Z.g .finished) (t := s₁.toks) hk hz
      refine wpAny_execs_nil (hR ρ' _ (I2.H.keeps (s' := { s₁.setGen Z.g .finished with heap := h' }) hk hz) (I2.Fl.step S) ?_)
      have St := I2.St
      rw [setGen_set] at St
      exact St.trans S.own'
    · cases hfr.symm.trans hfr'
end
end
end Mine
end
section
open PySem PySem.Calls PyProof.Rows PySem.W
set_option maxRecDepth 100000
set_option linter.unusedSimpArgs false
set_option linter.unusedVariables false
namespace Mine
noncomputable section
/-- a generator stands ready -/
def GMade (P : Par) (Gb : Sg) (gb : List Stmt) (own ρ : List Addr) (s : Shared) (gl : Loc) (hp' : Hp) (v : Value) (s' : Shared) : Prop :=
  ∃ ρ' a LG envg g, v = .ref a ∧ HI P ρ' hp' s' ∧ Step own ρ s ρ' s' ∧ FI P Gb envg [LG] ρ' gl s'.heap ∧ (∀ y c, envg.cells.lookup y = some c → False) ∧ s'.heap.IsGen a g ∧ s'.gens[g]? = some (.fresh (.func gb envg)) ∧
    s.heap.objs.size ≤ LG ∧ s.heap.objs.size ≤ a ∧ a < s'.heap.objs.size ∧ a ≠ LG ∧ a ∉ ρ' ∧ s.gens.size ≤ g
/-- a call that gives a generator -/
def FG (P : Par) (n : Nat) (fa : Addr) (Gb : Sg) (gb : List Stmt) (F : List V → Hp → Option (Loc × Hp)) : Prop :=
  (∃ o fd, P.h₀.get? fa = some o ∧ o.data = .func fd) ∧ ∀ A s ρ hp vs ws gl hp' (R : Result → Shared → Prop), AOk n A → HI P ρ hp s → VRs P s.heap ρ vs ws → F vs hp = some (gl, hp') →
    (∀ v' s', GMade P Gb gb [] ρ s gl hp' v' s' → R (.ok (.ret v')) s') → codeN (model P.prog P.w) A (.call (.ref fa) ⟨ws, []⟩) R s
/-- lines that end in such a call's return -/
def RG (P : Par) (n : Nat) (G : Sg) (l : List Stmt) (Gb : Sg) (gb : List Stmt) (f : Loc → Hp → Option (Loc × Hp)) : Prop :=
  ∀ A env own s ρ loc hp gl hp', AOk n A → HI P ρ hp s → FI P G env own ρ loc s.heap → f loc hp = some (gl, hp') →
    wpN (model P.prog P.w) A (execs l env) (fun fl s' => ∃ v', fl = .ret v' ∧ GMade P Gb gb own ρ s gl hp' v' s') s
def SG (P : Par) (n : Nat) (G : Sg) (e : Expr) (Gb : Sg) (gb : List Stmt) (f : Loc → Hp → Option (Loc × Hp)) : Prop :=
  ∀ A env own s ρ loc hp gl hp', AOk n A → HI P ρ hp s → FI P G env own ρ loc s.heap → f loc hp = some (gl, hp') →
    wpN (model P.prog P.w) A (eval e env) (fun v' s' => GMade P Gb gb [] ρ s gl hp' v' s') s
section
variable {P : Par} {Gb : Sg} {gb : List Stmt} {own ρ ρ₁ : List Addr} {s s₁ : Shared} {gl : Loc} {hp' : Hp} {v : Value} {s' : Shared}
theorem GMade.after (S : Step own ρ s ρ₁ s₁) (M : GMade P Gb gb own ρ₁ s₁ gl hp' v s') : GMade P Gb gb own ρ s gl hp' v s' := by
  obtain ⟨ρ', a, LG, envg, g, h1, h2, h3, h4, h5, h6, h7, h8, h9, h10, h11, h12, h13⟩ := M
  exact ⟨ρ', a, LG, envg, g, h1, h2, S.trans h3, h4, h5, h6, h7, Nat.le_trans S.size h8, Nat.le_trans S.size h9, h10, h11, h12, Nat.le_trans S.gsize h13⟩
theorem GMade.clear (M : GMade P Gb gb own ρ s gl hp' v s') (h : ∀ a ∈ own, s.heap.objs.size ≤ a ∨ a ∈ ρ) : GMade P Gb gb [] ρ s gl hp' v s' := by
  obtain ⟨ρ', a, LG, envg, g, h1, h2, h3, h4⟩ := M
  exact ⟨ρ', a, LG, envg, g, h1, h2, h3.clear h, h4⟩
theorem GMade.toOwn (M : GMade P Gb gb [] ρ s gl hp' v s') : GMade P Gb gb own ρ s gl hp' v s' := by
  obtain ⟨ρ', a, LG, envg, g, h1, h2, h3, h4⟩ := M
  exact ⟨ρ', a, LG, envg, g, h1, h2, h3.own', h4⟩
end
section
variable {P : Par} {n : Nat} {G : Sg}
theorem FG.ofGen {fa : Addr} {o : Obj} {fd : FuncData} {body : List Stmt} {names : List Str} {ext : List V → Hp → Option (List V × Hp)} {rest : Nat}
    (ho : P.h₀.get? fa = some o) (hd : o.data = .func fd) (hcd : P.h₀.CodeRec fd.code fd.qualname) (hbody : fd.body = .stmts body) (hclo : fd.closure = []) (hglob : fd.globals = mainGlobals) (hbui : fd.builtins = builtinsNs)
    (hG : G.scope = fd.scope) (hok : G.ok = true) (hcell : ∀ x ∈ fd.scope.names, x.2 ≠ .cell) (hnames : (G.vars.map (·.1)).take names.length = names) (hvl : ∀ v ∈ G.vars, v.2 = .loc) (hlen : G.vars.length = names.length + rest)
    (hb : Binds P fd names ext) (hco : fd.scope.isCoroutine = false := by rfl) (hgen : fd.scope.isGenerator = true := by rfl) (hk : fd.scope.kind = .function := by rfl) :
    FG P (n + 1) fa G body (fun vs hp => match ext vs hp with
      | none => none
      | some (vs', hp1) => some (vs'.map some ++ List.replicate rest none, hp1)) := by
  refine ⟨⟨o, fd, ho, hd⟩, fun A s ρ hp vs ws gl hp' R ha H r hF hR => codeN_of ?_⟩
  dsimp only at hF
  cases q : ext vs hp with
  | none => rw [q] at hF; cases hF
  | some z =>
    obtain ⟨vs', hp1⟩ := z
    rw [q] at hF
    dsimp only at hF
    have hnd : names.Nodup := by rw [← hnames]; exact (Sg.ok_nodup hok).sublist (List.take_sublist _ _)
    have at_name : ∀ {i : Nat} {x : Str} {k : VK}, G.vars[i]? = some (x, k) → i < names.length → names[i]? = some x := fun {i x k} hi hlt => by
      rw [← hnames, List.getElem?_take_of_lt hlt, List.getElem?_map, hi]; rfl
    refine codeAny_call_generator ha.room (H.base _ _ ho) hd hco hgen hbody (hcd.keeps fun b o e => H.base b o e) ?_
    refine wpAny_mono (hb A.in1 s ρ hp vs ws vs' hp1 H r q) (fun binds s1 ⟨ρ1, ws', H1, S1, r1, hl, hbd⟩ => ?_) fun _ _ h => h.elim
    subst hbd
    have hwl : ws'.length = names.length := by rw [← r1.length, hl]
    have hloc : ∀ x ∈ names.zip ws', fd.scope.names.lookup x.1 = some .local := fun x hx => by
      obtain ⟨i, hi⟩ := List.mem_iff_getElem?.mp hx
      have h1 : names[i]? = some x.1 := by
        rw [List.getElem?_zip_eq_some] at hi; exact hi.1
      have hlt := (List.getElem?_eq_some_iff.mp h1).1
      have hgv : i < G.vars.length := by omega
      have h2 := List.getElem?_eq_getElem hgv
      have h3 : G.vars[i]? = some (G.vars[i].1, G.vars[i].2) := h2
      have h4 := at_name h3 hlt
      rw [h1] at h4
      have h5 := hvl _ (List.getElem_mem hgv)
      rw [h5, ← Option.some.inj h4] at h3
      have := Sg.ok_at hok h3
      rw [hG] at this
      exact VK.fits_loc this
    refine wpAny_newFunctionEnv hcell hloc (fun h2 hns hsb => ⟨(P.nolimit.keeps fun b o e => H1.base b o e).fresh _ hsb, ?_⟩) hk
    have hk2 : ∀ b o, s1.heap.get? b = some o → h2.get? b = some o := fun b o e => hsb.extBut b o (Nat.ne_of_lt (Heap.lt_size e)) (Heap.get?_push_of_some _ e)
    have hz2 : h2.objs.size = s1.heap.objs.size + 1 := hsb.1.trans (Heap.size_push ..)
    have hz2' : s1.heap.objs.size ≤ h2.objs.size := by rw [hz2]; exact Nat.le_succ _
    have H2 : HI P ρ1 hp1 { s1 with heap := h2, toks := s1.toks + (names.zip ws').length } := (H1.keeps (s' := { s1 with heap := h2 }) hk2 hz2').toks _
    have S2 : Step [] ρ1 s1 ρ1 { s1 with heap := h2, toks := s1.toks + (names.zip ws').length } := .grow hk2 hz2'
    have F2 : FI P G (callEnv fd s1.heap.objs.size fa) [s1.heap.objs.size] ρ1 (vs'.map some ++ List.replicate rest none) h2 := by
      refine ⟨hok, hG.symm, hglob, hbui, by rw [List.length_append, List.length_map, List.length_replicate, hl, hlen], ⟨_, hns, fun i x u hi hu => ?_⟩, fun i x k u hi hkk hu => ?_, List.mem_singleton.mpr rfl, fun a ha => ?_, fun x y c h1 h2 => ?_, fun y c e => ?_, ?_⟩
      · have hzn : ((names.zip ws').map (·.1)).Nodup := by rw [List.map_fst_zip (by rw [hwl]; exact Nat.le_refl _)]; exact hnd
        rw [lookup_rev hzn]
        by_cases hlt : i < names.length
        · rw [List.getElem?_append_left (by rw [List.length_map, hl]; exact hlt), List.getElem?_map] at hu
          have hvi : i < vs'.length := by rw [hl]; exact hlt
          rw [List.getElem?_eq_getElem hvi] at hu
          obtain rfl : u = some vs'[i] := (Option.some.inj hu).symm
          obtain ⟨w, hw, rw'⟩ := r1.get (List.getElem?_eq_getElem hvi)
          rw [zip_look hnd (at_name hi hlt) hw]
          exact rw'.mono (.of hk2) (List.prefix_refl _)
        · rw [List.getElem?_append_right (by rw [List.length_map, hl]; omega)] at hu
          have : u = none := by
            have := List.mem_of_getElem? hu
            exact List.eq_of_mem_replicate this
          subst this
          have hx : x ∉ names := fun hm => by
            obtain ⟨j, hj⟩ := List.mem_iff_getElem?.mp hm
            have hjl := (List.getElem?_eq_some_iff.mp hj).1
            have hgv : j < G.vars.length := by omega
            have h3 : G.vars[j]? = some (G.vars[j].1, G.vars[j].2) := List.getElem?_eq_getElem hgv
            have h4 := at_name h3 hjl
            rw [hj] at h4
            rw [← Option.some.inj h4] at h3
            have := Sg.uniq hok hi h3
            omega
          rw [zip_none hx]
          trivial
      · exact absurd (hvl _ (List.mem_of_getElem? hi)) hkk
      · obtain rfl : a = s1.heap.objs.size := by simpa using ha
        exact ⟨fun hm => absurd (H1.new _ hm).2 (Nat.lt_irrefl _), by rw [hz2]; exact Nat.lt_succ_self _, H1.sz⟩
      · have : (callEnv fd s1.heap.objs.size fa).cells = [] := hclo
        rw [this] at h1; cases h1
      · have : (callEnv fd s1.heap.objs.size fa).cells = [] := hclo
        rw [this] at e; cases e
      · obtain ⟨c, oc, vs, tq, e1, e2, e3, _⟩ := hcd
        exact ⟨c, oc, vs, e1, e2, e3⟩
    cases hF
    have H3 := H2.keeps (s' := { s1 with heap := h2.push { cls := .type "generator", data := .fields #[.int s1.gens.size 0, .str fd.name (s1.toks + (names.zip ws').length), .str fd.qualname (s1.toks + (names.zip ws').length + 1)] } }) (fun b o e => Heap.get?_push_of_some _ e) (by show h2.objs.size ≤ (h2.push _).objs.size; rw [Heap.size_push]; exact Nat.le_succ _)
    have S3 : Step [] ρ1 { s1 with heap := h2 } ρ1 { s1 with heap := h2.push { cls := .type "generator", data := .fields #[.int s1.gens.size 0, .str fd.name (s1.toks + (names.zip ws').length), .str fd.qualname (s1.toks + (names.zip ws').length + 1)] } } := .grow (s := { s1 with heap := h2 }) (t := s1.toks) (fun b o e => Heap.get?_push_of_some _ e) (by show h2.objs.size ≤ (h2.push _).objs.size; rw [Heap.size_push]; exact Nat.le_succ _)
    have F3 := FI.step (s := { s1 with heap := h2 }) F2 S3
    have hnot : h2.objs.size ∉ ρ1 := fun hm => absurd (H2.new _ hm).2 (Nat.lt_irrefl _)
    have hk4 : ∀ b o, s1.heap.get? b = some o → (h2.push { cls := .type "generator", data := .fields #[.int s1.gens.size 0, .str fd.name (s1.toks + (names.zip ws').length), .str fd.qualname (s1.toks + (names.zip ws').length + 1)] }).get? b = some o := fun b o e => Heap.get?_push_of_some _ (hk2 b o e)
    refine hR _ _ ⟨ρ1, h2.objs.size, s1.heap.objs.size, callEnv fd s1.heap.objs.size fa, s1.gens.size, rfl, ⟨H3.base, H3.len, H3.le, H3.nodup, H3.new, H3.sz, H3.objs⟩, S1.trans ⟨List.prefix_refl _, fun _ h => .inl h, .of hk4, fun b o e _ _ => hk4 b o e, ?_, ⟨[.fresh (.func body (callEnv fd s1.heap.objs.size fa))], (by simp; rfl), fun x hx => by rw [List.mem_singleton.mp hx]; rfl⟩, rfl⟩,
      F3, fun y c e => ?_, ⟨_, _, _, Heap.get?_push_size _ rfl, rfl, rfl, rfl⟩, ?_, S1.size, Nat.le_trans S1.size hz2', ?_, ?_, hnot, S1.gsize⟩
    · show s1.heap.objs.size ≤ (h2.push _).objs.size
      rw [Heap.size_push]; exact Nat.le_succ_of_le hz2'
    · have : (callEnv fd s1.heap.objs.size fa).cells = [] := hclo
      rw [this] at e; cases e
    · show (s1.gens.push (.fresh (.func body (callEnv fd s1.heap.objs.size fa))))[s1.gens.size]? = _
      simp
    · show h2.objs.size < (h2.push _).objs.size
      rw [Heap.size_push]; exact Nat.lt_succ_self _
    · rw [hz2]; exact Nat.succ_ne_self _
theorem FG.of {fa : Addr} {o : Obj} {fd : FuncData} {body : List Stmt} {names : List Str} {ext : List V → Hp → Option (List V × Hp)} {rest : Nat} {f : Loc → Hp → Option (Loc × Hp)} {Gb : Sg} {gb : List Stmt}
    (ho : P.h₀.get? fa = some o) (hd : o.data = .func fd) (hcd : P.h₀.CodeRec fd.code fd.qualname) (hbody : fd.body = .stmts body) (hclo : fd.closure = []) (hglob : fd.globals = mainGlobals) (hbui : fd.builtins = builtinsNs)
    (hG : G.scope = fd.scope) (hok : G.ok = true) (hcell : ∀ x ∈ fd.scope.names, x.2 ≠ .cell) (hnames : (G.vars.map (·.1)).take names.length = names) (hvl : ∀ v ∈ G.vars, v.2 = .loc) (hlen : G.vars.length = names.length + rest)
    (hb : Binds P fd names ext) (hf : RG P n G body Gb gb f) (hco : fd.scope.isCoroutine = false := by rfl) (hgen : fd.scope.isGenerator = false := by rfl) (hk : fd.scope.kind = .function := by rfl) :
    FG P (n + 1) fa Gb gb (fun vs hp => match ext vs hp with
      | none => none
      | some (vs', hp1) => f (vs'.map some ++ List.replicate rest none) hp1) := by
  refine ⟨⟨o, fd, ho, hd⟩, fun A s ρ hp vs ws gl hp' R ha H r hF hR => ?_⟩
  dsimp only at hF
  cases q : ext vs hp with
  | none => rw [q] at hF; cases hF
  | some z =>
    obtain ⟨vs', hp1⟩ := z
    rw [q] at hF
    dsimp only at hF
    have hnd : names.Nodup := by rw [← hnames]; exact (Sg.ok_nodup hok).sublist (List.take_sublist _ _)
    have at_name : ∀ {i : Nat} {x : Str} {k : VK}, G.vars[i]? = some (x, k) → i < names.length → names[i]? = some x := fun {i x k} hi hlt => by
      rw [← hnames, List.getElem?_take_of_lt hlt, List.getElem?_map, hi]; rfl
    refine codeN_call_function ha.room (H.base _ _ ho) hd hco hgen hbody (hcd.keeps fun b o e => H.base b o e) ?_
    refine wpAny_mono (hb A.in1 s ρ hp vs ws vs' hp1 H r q) (fun binds s1 ⟨ρ1, ws', H1, S1, r1, hl, hbd⟩ => ?_) fun _ _ h => h.elim
    subst hbd
    have hwl : ws'.length = names.length := by rw [← r1.length, hl]
    have hloc : ∀ x ∈ names.zip ws', fd.scope.names.lookup x.1 = some .local := fun x hx => by
      obtain ⟨i, hi⟩ := List.mem_iff_getElem?.mp hx
      have h1 : names[i]? = some x.1 := by
        rw [List.getElem?_zip_eq_some] at hi; exact hi.1
      have hlt := (List.getElem?_eq_some_iff.mp h1).1
      have hgv : i < G.vars.length := by omega
      have h2 := List.getElem?_eq_getElem hgv
      have h3 : G.vars[i]? = some (G.vars[i].1, G.vars[i].2) := h2
      have h4 := at_name h3 hlt
      rw [h1] at h4
      have h5 := hvl _ (List.getElem_mem hgv)
      rw [h5, ← Option.some.inj h4] at h3
      have := Sg.ok_at hok h3
      rw [hG] at this
      exact VK.fits_loc this
    refine wpAny_newFunctionEnv hcell hloc (fun h2 hns hsb => ⟨(P.nolimit.keeps fun b o e => H1.base b o e).fresh _ hsb, codeN_func ?_⟩) hk
    have hk2 : ∀ b o, s1.heap.get? b = some o → h2.get? b = some o := fun b o e => hsb.extBut b o (Nat.ne_of_lt (Heap.lt_size e)) (Heap.get?_push_of_some _ e)
    have hz2 : h2.objs.size = s1.heap.objs.size + 1 := hsb.1.trans (Heap.size_push ..)
    have hz2' : s1.heap.objs.size ≤ h2.objs.size := by rw [hz2]; exact Nat.le_succ _
    have H2 : HI P ρ1 hp1 { s1 with heap := h2, toks := s1.toks + (names.zip ws').length } := (H1.keeps (s' := { s1 with heap := h2 }) hk2 hz2').toks _
    have S2 : Step [] ρ1 s1 ρ1 { s1 with heap := h2, toks := s1.toks + (names.zip ws').length } := .grow hk2 hz2'
    have F2 : FI P G (callEnv fd s1.heap.objs.size fa) [s1.heap.objs.size] ρ1 (vs'.map some ++ List.replicate rest none) h2 := by
      refine ⟨hok, hG.symm, hglob, hbui, by rw [List.length_append, List.length_map, List.length_replicate, hl, hlen], ⟨_, hns, fun i x u hi hu => ?_⟩, fun i x k u hi hkk hu => ?_, List.mem_singleton.mpr rfl, fun a ha => ?_, fun x y c h1 h2 => ?_, fun y c e => ?_, ?_⟩
      · have hzn : ((names.zip ws').map (·.1)).Nodup := by rw [List.map_fst_zip (by rw [hwl]; exact Nat.le_refl _)]; exact hnd
        rw [lookup_rev hzn]
        by_cases hlt : i < names.length
        · rw [List.getElem?_append_left (by rw [List.length_map, hl]; exact hlt), List.getElem?_map] at hu
          have hvi : i < vs'.length := by rw [hl]; exact hlt
          rw [List.getElem?_eq_getElem hvi] at hu
          obtain rfl : u = some vs'[i] := (Option.some.inj hu).symm
          obtain ⟨w, hw, rw'⟩ := r1.get (List.getElem?_eq_getElem hvi)
          rw [zip_look hnd (at_name hi hlt) hw]
          exact rw'.mono (.of hk2) (List.prefix_refl _)
        · rw [List.getElem?_append_right (by rw [List.length_map, hl]; omega)] at hu
          have : u = none := by
            have := List.mem_of_getElem? hu
            exact List.eq_of_mem_replicate this
          subst this
          have hx : x ∉ names := fun hm => by
            obtain ⟨j, hj⟩ := List.mem_iff_getElem?.mp hm
            have hjl := (List.getElem?_eq_some_iff.mp hj).1
            have hgv : j < G.vars.length := by omega
            have h3 : G.vars[j]? = some (G.vars[j].1, G.vars[j].2) := List.getElem?_eq_getElem hgv
            have h4 := at_name h3 hjl
            rw [hj] at h4
            rw [← Option.some.inj h4] at h3
            have := Sg.uniq hok hi h3
            omega
          rw [zip_none hx]
          trivial
      · exact absurd (hvl _ (List.mem_of_getElem? hi)) hkk
      · obtain rfl : a = s1.heap.objs.size := by simpa using ha
        exact ⟨fun hm => absurd (H1.new _ hm).2 (Nat.lt_irrefl _), by rw [hz2]; exact Nat.lt_succ_self _, H1.sz⟩
      · have : (callEnv fd s1.heap.objs.size fa).cells = [] := hclo
        rw [this] at h1; cases h1
      · have : (callEnv fd s1.heap.objs.size fa).cells = [] := hclo
        rw [this] at e; cases e
      · obtain ⟨c, oc, vs, tq, e1, e2, e3, _⟩ := hcd
        exact ⟨c, oc, vs, e1, e2, e3⟩
    refine wpN_mono (hf _ _ _ _ _ _ _ _ _ (ha.deeper _) H2 F2 hF) fun fl' s3 ⟨v', e, M⟩ => ?_
    subst e
    exact hR _ _ (GMade.after S1 ((GMade.after S2.own' M).clear fun b hb => .inl (by
      obtain rfl : b = s1.heap.objs.size := by simpa using hb
      exact Nat.le_refl _)))
end
end
end Mine
end
section
open PySem PySem.Calls PyProof.Rows PySem.W
set_option maxRecDepth 100000
set_option linter.unusedSimpArgs false
set_option linter.unusedVariables false
namespace Mine
noncomputable section
def fSeqG (f : Loc → Hp → Option (Fl × Loc × Hp)) (g : Loc → Hp → Option (Loc × Hp)) : Loc → Hp → Option (Loc × Hp) := fun loc hp => match f loc hp with
  | some (.next, loc1, hp1) => g loc1 hp1
  | _ => none
def fCallG (F : List V → Hp → Option (Loc × Hp)) (fs : Loc → Hp → Option (List V × Hp)) : Loc → Hp → Option (Loc × Hp) := fun loc hp => match fs loc hp with
  | none => none
  | some (vs, hp1) => F vs hp1
section
variable {P : Par} {n : Nat} {G Gb : Sg} {gb : List Stmt}
theorem RG.cons {st : Stmt} {r : List Stmt} {f : Loc → Hp → Option (Fl × Loc × Hp)} {g : Loc → Hp → Option (Loc × Hp)} (x : S1n P n G st f) (y : RG P n G r Gb gb g) : RG P n G (st :: r) Gb gb (fSeqG f g) := by
  intro A env own s ρ loc hp gl hp' ha H F hf
  unfold fSeqG at hf
  split at hf
  · rename_i loc1 hp1 q
    refine wpN_execs_cons (x.use ha H F q fun fl' s1 ρ1 H1 F1 S1 r1 => ?_)
    obtain rfl : fl' = .next := r1
    exact wpN_mono (y A env own s1 ρ1 loc1 hp1 gl hp' ha H1 F1 hf) fun fl s' ⟨v', e, M⟩ => ⟨v', e, M.after S1⟩
  · cases hf
theorem RG.ret {e : Expr} {pos : Pos} {f : Loc → Hp → Option (Loc × Hp)} (x : SG P n G e Gb gb f) : RG P n G [.Return (some e) pos] Gb gb f := by
  intro A env own s ρ loc hp gl hp' ha H F hf
  exact wpN_execs_cons (wpN_Return (wpN_mono (x A env own s ρ loc hp gl hp' ha H F hf) fun v' s' M => ⟨v', rfl, M.toOwn⟩))
theorem SG.callF {x : Str} {px pos : Pos} {e : Expr} {es : List Expr} {fa : Addr} {fs : Loc → Hp → Option (List V × Hp)} {F : List V → Hp → Option (Loc × Hp)} (hx : SE P n G (.Name x px) (fK (.st fa))) (hk : keepIn P.K (.ref fa) = true) (y : SEs P n G (e :: es) fs) (hF : FG P n fa Gb gb F)
    (hall : ∀ env, (backTo pos (starEach (e :: es) env)).any (·.1) = false := by intro _; rfl) (he : ∀ env, starEach (e :: es) env = (false, eval e env) :: starEach es env := by intro _; rfl) : SG P n G (.Call (.Name x px) (e :: es) [] pos) Gb gb (fCallG F fs) := by
  intro A env own s ρ loc hp gl hp' ha H Fi hf
  unfold fCallG at hf
  cases q : fs loc hp with
  | none => rw [q] at hf; cases hf
  | some z =>
    obtain ⟨vs, hp1⟩ := z
    rw [q] at hf
    dsimp only at hf
    refine wpN_bindA (m := eval (.Name x px) env) (f := fun f => callWith pos f [] (backTo pos (starEach (e :: es) env)) []) (hx.use ha H Fi (hp' := hp) rfl fun fv s0 ρ0 H0 F0 S0 r0 => ?_)
    obtain rfl : fv = .ref fa := by cases r0 with | num t e => cases e | st => rfl
    have h1 : wpAny (model P.prog P.w) A (spliced (backTo pos (starEach (e :: es) env))) (fun ws s1 => P.K.In s1.heap ∧ wpN (model P.prog P.w) A (call (.ref fa) ws) (fun v' s' => GMade P Gb gb [] ρ s gl hp' v' s') s1) NoE s0 :=
      y.use ha H0 F0 q fun ws s1 ρ1 H1 F1 S1 r1 => ⟨P.kin.keeps H1.base, wpN_call (hF.2 A s1 ρ1 hp1 vs ws gl hp' _ ha H1 r1 hf fun v' s' M => M.after (S0.trans S1))⟩
    refine wpN_callWith (hall env) hk ?_
    rw [he env] at h1 ⊢
    exact evalArgs_plain h1
end
section
variable {fInit fPost : Loc → Hp → Option (Fl × Loc × Hp)} {run : Loc → Hp → Option (Option V × Loc × Hp)} {aT : V → Loc → Hp → Option (Loc × Hp)} {body : Loc → Hp → Option (Fl × Loc × Hp)} {c0 : GC} {fl : Fl} {locE : Loc} {hpE : Hp}
theorem cfgAt_pred {i j : Nat} {c : GC} (h : cfgAt fInit fPost run aT body c0 (i + j) = some c) : ∃ c', cfgAt fInit fPost run aT body c0 i = some c' := by
  induction j generalizing c with
  | zero => exact ⟨c, h⟩
  | succ j ih =>
    have h : cfgAt fInit fPost run aT body c0 ((i + j) + 1) = some c := h
    unfold cfgAt at h
    cases q : cfgAt fInit fPost run aT body c0 (i + j) with
    | none => rw [q] at h; cases h
    | some c' => exact ih q
theorem gAll_go : ∀ (k i : Nat) (c : GC) (r : Option V) (gl : Loc) (hp : Hp), cfgAt fInit fPost run aT body c0 i = some c → gFrom fInit fPost run (Nat.beq i 0) c.gl c.hp = some (r, gl, hp) → genLoop fPost run aT body k r gl c.loc hp = some (fl, locE, hpE) →
    fl = .next ∧ ∀ j cj, cfgAt fInit fPost run aT body c0 (i + j) = some cj → j < k ∧ ((∃ gl', gFrom fInit fPost run (Nat.beq (i + j) 0) cj.gl cj.hp = some (none, gl', hpE) ∧ cj.loc = locE) ∨
      (∃ v gl' hp1 c', gFrom fInit fPost run (Nat.beq (i + j) 0) cj.gl cj.hp = some (some v, gl', hp1) ∧ gTurn aT body v gl' cj.loc hp1 = some c'))
  | 0, i, c, r, gl, hp, _, _, h => by cases h
  | k + 1, i, c, r, gl, hp, hc, hf, h => by
    unfold genLoop at h
    cases r with
    | none =>
      cases h
      refine ⟨rfl, fun j cj hj => ?_⟩
      cases j with
      | zero =>
        obtain rfl : cj = c := Option.some.inj (hj.symm.trans hc)
        exact ⟨Nat.succ_pos _, .inl ⟨gl, hf, rfl⟩⟩
      | succ j =>
        rw [show i + (j + 1) = (i + 1) + j by omega] at hj
        obtain ⟨c', h'⟩ := cfgAt_pred hj
        unfold cfgAt at h'
        rw [hc] at h'
        dsimp only at h'
        rw [hf] at h'
        cases h'
    | some v =>
      dsimp only at h
      cases q1 : aT v c.loc hp with
      | none => rw [q1] at h; cases h
      | some z1 =>
        obtain ⟨loc2, hp2⟩ := z1
        rw [q1] at h
        dsimp only at h
        split at h
        · rename_i loc3 hp3 q2
          split at h
          · rename_i gl2 hp4 q3
            cases q4 : run gl2 hp4 with
            | none => rw [q4] at h; cases h
            | some z4 =>
              obtain ⟨r2, gl3, hp5⟩ := z4
              rw [q4] at h
              dsimp only at h
              have ht : gTurn aT body v gl c.loc hp = some ⟨gl, loc3, hp3⟩ := by
                unfold gTurn
                rw [q1]
                dsimp only
                rw [q2]
              have hc1 : cfgAt fInit fPost run aT body c0 (i + 1) = some ⟨gl, loc3, hp3⟩ := by
                unfold cfgAt
                rw [hc]
                dsimp only
                rw [hf]
                exact ht
              have hf1 : gFrom fInit fPost run (Nat.beq (i + 1) 0) gl hp3 = some (r2, gl3, hp5) := by
                unfold gFrom
                show (match (match false with | true => fInit gl hp3 | false => fPost gl hp3) with
                  | some (.next, gl2, hp2) => run gl2 hp2
                  | _ => none) = _
                dsimp only
                rw [q3]
                exact q4
              obtain ⟨e, ih⟩ := gAll_go k (i + 1) ⟨gl, loc3, hp3⟩ r2 gl3 hp5 hc1 hf1 h
              refine ⟨e, fun j cj hj => ?_⟩
              cases j with
              | zero =>
                obtain rfl : cj = c := Option.some.inj (hj.symm.trans hc)
                exact ⟨Nat.succ_pos _, .inr ⟨v, gl, hp, _, hf, ht⟩⟩
              | succ j =>
                rw [show i + (j + 1) = (i + 1) + j by omega] at hj ⊢
                obtain ⟨a, b⟩ := ih j cj hj
                exact ⟨Nat.succ_lt_succ a, b⟩
          · cases h
        · cases h
end
end
end Mine
end
section
open PySem PySem.Calls PyProof.Rows PySem.W
set_option maxRecDepth 100000
set_option linter.unusedSimpArgs false
set_option linter.unusedVariables false
namespace Mine
noncomputable section
theorem Step.setNew {own ρ ρ' : List Addr} {s s' : Shared} {g : Nat} (S : Step own ρ s ρ' s') (hg : s.gens.size ≤ g) : Step own ρ s ρ' (s'.setGen g .finished) := by
  refine ⟨S.pre, S.fresh, S.imm, S.keep, S.size, ?_, S.os⟩
  obtain ⟨l, e, hl⟩ := S.gens
  refine ⟨l.set (g - s.gens.size) .finished, ?_, fun x hx => ?_⟩
  · show (s'.gens.setIfInBounds g .finished).toList = _
    rw [Array.toList_setIfInBounds, e, List.set_append_right _ _ (by simpa using hg)]
    simp
  · rcases List.mem_or_eq_of_mem_set hx with h | rfl
    · exact hl x h
    · rfl
section
variable {P : Par} {n : Nat} {G Gb : Sg}
theorem S1n.genFor {target iter : Expr} {bd : List Stmt} {pos : Pos} {pre : List Stmt} {test : Expr} {nst : List Stmt} {ce ye : Expr} {yp ep ip wpos : Pos} {pst : List Stmt} {k fuel : Nat}
    {fs : Loc → Hp → Option (Loc × Hp)} {fInit fPre fPost body : Loc → Hp → Option (Fl × Loc × Hp)} {fT fC : Loc → Hp → Option (Bool × Hp)} {fO : Loc → Hp → Option (V × Hp)} {aT : V → Loc → Hp → Option (Loc × Hp)}
    (x : SG P (n + 2) G iter Gb (genBody pre test nst ce ye yp ep ip pst wpos) fs) (O : GenOk P n Gb pre test nst ce ye yp ep ip pst fInit fT fPre fC fO fPost) (y : SA P (n + 2) G target aT) (z : SS P (n + 2) G bd body)
    (hl : ∀ i v, letOwnedTupleGo target i v = pure () := by intro _ _; rfl) (hs : ∀ env x, foldedSetIterable iter env x = pure x := by intro _ _; rfl) :
    S1n P (n + 2) G (.For target iter bd [] pos) (fGenFor k fs fInit fPost (genRun fT fPre fC fO fPost fuel) aT body) := by
  intro A env own s ρ loc hp fl loc' hp' ha H F hf
  unfold fGenFor at hf
  cases q : fs loc hp with
  | none => rw [q] at hf; cases hf
  | some x1 =>
    obtain ⟨gl, hp1⟩ := x1
    rw [q] at hf
    dsimp only at hf
    split at hf
    · rename_i gl2 hp2 q2
      cases q3 : genRun fT fPre fC fO fPost fuel gl2 hp2 with
      | none => rw [q3] at hf; cases hf
      | some x3 =>
        obtain ⟨r, gl3, hp3⟩ := x3
        rw [q3] at hf
        dsimp only at hf
        refine wpN_For (wpN_mono (x A env own s ρ loc hp gl hp1 ha H F q) (fun v s1 h1 => ?_)) (hs env)
        obtain ⟨ρ1, a, LG, envg, g, rfl, H1, S1, Fg, hcel, hg, hgs, hLG, hla, hhi, hne, haρ, hng⟩ := h1
        have F1 := F.step S1
        refine wpAny_pyIter_gen hg ?_
        have hc0 : cfgAt fInit fPost (genRun fT fPre fC fO fPost fuel) aT body ⟨gl, loc, hp1⟩ 0 = some ⟨gl, loc, hp1⟩ := rfl
        have hfr : gFrom fInit fPost (genRun fT fPre fC fO fPost fuel) (Nat.beq 0 0) gl hp1 = some (r, gl3, hp3) := by
          unfold gFrom
          show (match fInit gl hp1 with
            | some (.next, gl2, hp2) => genRun fT fPre fC fO fPost fuel gl2 hp2
            | _ => none) = _
          rw [q2]
          exact q3
        obtain ⟨rfl, hall⟩ := gAll_go k 0 ⟨gl, loc, hp1⟩ r gl3 hp3 hc0 hfr hf
        have hnot : ∀ b, s.heap.objs.size ≤ b → b ∉ own := fun b hb hm => absurd (F.off b hm).2.1 (Nat.not_lt.mpr hb)
        have hnc : ∀ b, s.heap.objs.size ≤ b → ∀ y c, env.cells.lookup y = some c → c ≠ b := fun b hb y c e h => absurd (F.clt y c e) (Nat.not_lt.mpr (h ▸ hb))
        let Z : GPar := ⟨P, G, Gb, env, envg, own, LG, a, g, ρ1, s1, k, fInit, fPost, fuel, fT, fPre, fC, fO, aT, body, ⟨gl, loc, hp1⟩⟩
        have W : Z.pair := ⟨hnot _ hLG, hnc _ hLG, hcel, hne⟩
        have hgz : g < s1.gens.size := by
          rcases Nat.lt_or_ge g s1.gens.size with h | h
          · exact h
          · rw [Array.getElem?_eq_none h] at hgs; cases hgs
        have I : Z.inv Z.c0.gl Z.c0.loc Z.c0.hp ρ1 s1 := ⟨H1, Fg, F1, .refl, hg, ⟨haρ, hnot _ hla, hnc _ hla, Nat.le_trans H.sz hla, hhi⟩, hgz⟩
        refine codeN_of (gfor (Z := Z) (locE := loc') (hpE := hp') W O ha Fg.scope (fun i c hc => ?_) y z hl I hgs fun ρ' s' H' F' S' => ?_)
        · have := hall i c (by rw [Nat.zero_add]; exact hc)
          rw [Nat.zero_add] at this
          exact this
        · exact ⟨ρ', ⟨H', F', ((S1.own'.setNew hng).cons.trans S').drop (.inl hLG)⟩, rfl⟩
    · cases hf
end
end
end Mine
end
section
open PySem PySem.Calls PyProof.Rows PySem.W
set_option maxRecDepth 100000
set_option linter.unusedSimpArgs false
set_option linter.unusedVariables false
namespace Mine
noncomputable section
/-- a method of Graph that is a function -/
structure MetOk (P : Par) (nm : Str) (f : Addr) : Prop where
  ga : findIn P.K (.ref P.CG) "__getattribute__" = some (some (.builtin "object.__getattribute__"))
  gk : findIn P.K (.ref P.CG) "__getattr__" = some none
  find : findIn P.K (.ref P.CG) nm = some (some (.ref f))
  ty : typeIn P.K (.ref f) = some (.type "function")
  no : ∀ m, isFld m → (gName m == nm) = false
  kp : keepIn P.K (.ref f) = true
def fMetF (F : List V → Hp → Option (V × Hp)) (f : Loc → Hp → Option (V × Hp)) (fs : Loc → Hp → Option (List V × Hp)) : Loc → Hp → Option (V × Hp) := fun loc hp => match f loc hp with
  | none => none
  | some (v, hp1) => match isGr v hp1 with
    | true => match fs loc hp1 with
      | none => none
      | some (vs, hp2) => F (v :: vs) hp2
    | false => none
section
variable {P : Par} {n : Nat} {G : Sg}
theorem SE.callM {o e : Expr} {es : List Expr} {nm : Str} {apos pos : Pos} {fa : Addr} {f : Loc → Hp → Option (V × Hp)} {fs : Loc → Hp → Option (List V × Hp)} {F : List V → Hp → Option (V × Hp)} (M : MetOk P nm fa) (x : SE P n G o f) (y : SEs P n G (e :: es) fs) (hF : FN P n fa F)
    (hfew : ∀ env, ((backTo pos (starEach (e :: es) env)).all (fun x => !x.1) && (backToKw pos (keywordEach [] env)).all (fun x => x.1.isSome)
      && decide ((e :: es).length + ([] : List Keyword).length + (if ([] : List Keyword).isEmpty then 0 else 1) < 30)) = true := by intro _; rfl)
    (hall : ∀ env, (backTo pos (starEach es env)).any (·.1) = false := by intro _; rfl)
    (hbase : ∀ env, attributeBase o nm env (eval o env) = eval o env := by intro _; rfl) (hline : (apos.endLine == pos.line) = true := by rfl)
    (he : ∀ env, starEach (e :: es) env = (false, eval e env) :: starEach es env := by intro _; rfl) :
    SE P n G (.Call (.Attribute o nm apos) (e :: es) [] pos) (fMetF F f fs) := by
  intro A env own s ρ loc hp v hp' ha H Fi hf
  unfold fMetF at hf
  cases q : f loc hp with
  | none => rw [q] at hf; cases hf
  | some z =>
    obtain ⟨va, hp1⟩ := z
    rw [q] at hf
    dsimp only at hf
    cases q1 : isGr va hp1 with
    | false => rw [q1] at hf; cases hf
    | true =>
      rw [q1] at hf
      dsimp only at hf
      cases q2 : fs loc hp1 with
      | none => rw [q2] at hf; cases hf
      | some z2 =>
        obtain ⟨vs, hp2⟩ := z2
        rw [q2] at hf
        dsimp only at hf
        refine Call_attr (hbase _) (hfew env) hline rfl (x.use ha H Fi q fun a' s1 ρ1 H1 F1 S1 r1 pl => ?_)
        unfold isGr at q1
        split at q1
        · rename_i i
          obtain ⟨a, hi, rfl⟩ := r1.ob_inv
          split at q1
          · rename_i d e1
            split at q1
            · rename_i kvs e2
              obtain ⟨b, es', ep, sl, hb, hga, ho, K⟩ := gr_at H1 hi e1 e2
              have I : InstAt s1.heap a { cls := .ref P.CG, dict := some b, data := .plain } P.CG (some { cls := .type "dict", data := .dict es' ep, slots := sl }) := ⟨hga, rfl, rfl, ho⟩
              have X := P.kin.keeps H1.base
              have hl : lookIn nm { cls := .type "dict", data := .dict es' ep, slots := sl } = some none := by
                unfold lookIn
                dsimp only
                rw [K.miss M.no]
                dsimp only
                rw [K.noref]
                rfl
              refine method_fn X I M.ga M.gk M.find M.ty (by unfold shadowIn; dsimp only; rw [hl]; rfl) ?_
              refine callWith_K (first := [.ref a]) X M.kp (y.use ha H1 F1 q2 fun ws s2 ρ2 H2 F2 S2 r2 => ⟨P.kin.keeps H2.base, ?_⟩) (he env) (hall env)
              exact wpAny_mono (hF.call ha H2 (.cons (.ob (pre_get S2.pre hi)) r2) hf) (fun v' s' r => Res.after (own := own) (S1.trans S2) r) fun _ _ h => h
            · cases q1
          · cases q1
        · cases q1
end
end
end Mine
end
section
open PySem PySem.Calls PyProof.Rows PySem.W
set_option maxRecDepth 100000
set_option linter.unusedSimpArgs false
set_option linter.unusedVariables false
namespace Mine
noncomputable section
section
variable {P : Par} {n m : Nat} {G : Sg}
theorem P2.le {t : Value → Value → Sem Value} {g : V → V → Hp → Option (V × Hp)} (x : P2 P n t g) (h : n ≤ m) : P2 P m t g := fun A s ρ hp a b a' b' v hp' ha => x A s ρ hp a b a' b' v hp' (ha.le h)
theorem FN.le {fa : Addr} {F : List V → Hp → Option (V × Hp)} (x : FN P n fa F) (h : n ≤ m) : FN P m fa F := ⟨x.1, fun A s ρ hp vs ws v hp' R ha => x.2 A s ρ hp vs ws v hp' R (ha.le h)⟩
theorem FNn.le {fa : Addr} {F : List V → Hp → Option (V × Hp)} (x : FNn P n fa F) (h : n ≤ m) : FNn P m fa F := ⟨x.1, fun A s ρ hp vs ws v hp' R ha => x.2 A s ρ hp vs ws v hp' R (ha.le h)⟩
theorem FN.toN {fa : Addr} {F : List V → Hp → Option (V × Hp)} (x : FN P n fa F) : FNn P n fa F := ⟨x.1, fun A s ρ hp vs ws v hp' R ha H r hF hR => codeN_of (x.2 A s ρ hp vs ws v hp' R ha H r hF hR)⟩
theorem my_entry_iter : entryFor table "iter" = some Builtin.«iter» := entryFor_of_fast (by kernel_rfl)
theorem my_args_iter (a : Value) : argsOk "iter" ⟨[a], []⟩ := by unfold argsOk; kernel_rfl
theorem pIterB : P1 P (n + 1) (fun v => call (.builtin "iter") [v]) gIter := by
  intro A s ρ hp v v' r hp' ha H rv hg
  refine call_function_entry (by decide +kernel) (by decide +kernel) my_entry_iter (my_args_iter _) ?_
  unfold Builtin.«iter»
  refine wpAny_bind (m := someArgs "iter" 1 2 _) (wpAny_of_eq (a := [v']) (by first | rfl | kernel_rfl!) ?_)
  show wpAny _ _ (pyIter v' >>= _) _ _ _
  exact wpAny_bind (wpAny_mono (pIter _ _ _ _ _ _ _ _ ha.in1 H rv hg) (fun it s' h => wpAny_pure ⟨_, rfl, h⟩) fun _ _ h => h)
end
/-- a function stands at an address -/
def FnAt (P : Par) (fa : Addr) (st : Stmt) (df : Value) : Prop := ∃ o fd, P.h₀.get? fa = some o ∧ o.data = .func fd ∧ P.h₀.CodeRec fd.code fd.qualname ∧ fd.closure = [] ∧ fd.globals = mainGlobals ∧ fd.builtins = builtinsNs ∧
  fd.params = sArgs st ∧ fd.body = .stmts (sBody st) ∧ fd.scope = sScope st ∧ fd.defaults = df ∧ fd.kwdefaults = .none
end
end Mine
end
section
open PySem PySem.Calls PyProof.Rows PySem.W
set_option maxRecDepth 100000
set_option linter.unusedSimpArgs false
set_option linter.unusedVariables false
namespace Mine
noncomputable section
/-- what the head's run says -/
structure KOk (P : Par) : Prop where
  gPred : P.mg "predecessor" = some (.ref 153)
  gAsp : P.mg "all_shortest_paths" = some (.ref 327)
  gBpp : P.mg "_build_paths_from_predecessors" = some (.ref 334)
  gAV : P.mg "AtlasView" = some (.ref (P.VC false))
  gDV : P.mg "AdjacencyView" = some (.ref (P.VC true))
  gNF : P.mg "_NOT_FOUND" = some (.ref 652)
  gG : P.mg "Graph" = some (.ref P.CG)
  nLen : P.mg "len" = none
  nRange : P.mg "range" = none
  nTuple : P.mg "tuple" = none
  nList : P.mg "list" = none
  nSorted : P.mg "sorted" = none
  nIter : P.mg "iter" = none
  nMin : P.mg "min" = none
  nMax : P.mg "max" = none
  nZip : P.mg "zip" = none
  bLen : P.mb "len" = some (.builtin "len")
  bRange : P.mb "range" = some (.type "range")
  bTuple : P.mb "tuple" = some (.type "tuple")
  bList : P.mb "list" = some (.type "list")
  bSorted : P.mb "sorted" = some (.builtin "sorted")
  bIter : P.mb "iter" = some (.builtin "iter")
  bMin : P.mb "min" = some (.builtin "min")
  bMax : P.mb "max" = some (.builtin "max")
  bZip : P.mb "zip" = some (.type "zip")
  go : GraphOk P
  so : StoreOk P
  fac1 : FacOk P "graph_attr_dict_factory"
  fac2 : FacOk P "node_dict_factory"
  fac3 : FacOk P "adjlist_outer_dict_factory"
  fac4 : FacOk P "adjlist_inner_dict_factory"
  fac5 : FacOk P "node_attr_dict_factory"
  fac6 : FacOk P "edge_attr_dict_factory"
  vo : ∀ b, ViewOk P (P.VC b) 389
  vk : ∀ b, keepIn P.K (.ref (P.VC b)) = true
  vm : ∀ b, makesIn P.K (P.VC b) = true
  vi : ∀ b, findIn P.K (.ref (P.VC b)) "__init__" = some (some (.ref 349))
  vt : typeIn P.K (.ref 349) = some (.type "function")
  gk : keepIn P.K (.ref P.CG) = true
  gm : makesIn P.K P.CG = true
  gi : findIn P.K (.ref P.CG) "__init__" = some (some (.ref 711))
  gt : typeIn P.K (.ref 711) = some (.type "function")
  meItemV : MethOk P (P.VC true) "__getitem__" 406
  meIterV : MethOk P (P.VC false) "__iter__" 363
  meItemG : MethOk P P.CG "__getitem__" 749
  hasG : findIn P.K (.ref P.CG) "__contains__" = some (some (.ref 735))
  hasF : isFn P.K (.ref 735) = true
  prop : PropOk P 720 681
  stN : ∃ t, StAt P 720 691 "attrname" (.str "adj" t)
  stF : StAt P 720 691 "func" (.ref 718)
  noF : findIn P.K (.ref 691) "func" = some none
  kpF : keepIn P.K (.ref 718) = true
  dic : ∃ nm tn fset, DictOk P 907 nm tn fset
  met : MetOk P "add_edges_from" 808
  kpP : keepIn P.K (.ref 153) = true
  kpA : keepIn P.K (.ref 327) = true
  kpB : keepIn P.K (.ref 334) = true
  fPred : ∃ T m, FnAt P 153 (topS 12) (.ref T) ∧ P.h₀.get? T = some { cls := .type "tuple", data := .seq #[.none, .none, .none] m }
  fAsp : ∃ T m t, FnAt P 327 (topS 32) (.ref T) ∧ P.h₀.get? T = some { cls := .type "tuple", data := .seq #[.none, .str "dijkstra" t] m }
  fBpp : FnAt P 334 (topS 33) .none
  fVInit : FnAt P 349 (sIn (topS 35) 1) .none
  fVIter : FnAt P 363 (sIn (topS 35) 3) .none
  fVItem : FnAt P 406 (sIn (topS 36) 1) .none
  fCGet : ∃ T m, FnAt P 681 (sIn (topS 46) 2) (.ref T) ∧ P.h₀.get? T = some { cls := .type "tuple", data := .seq #[.none] m }
  fAdj : FnAt P 718 (sIn (topS 48) 7) .none
  fHas : FnAt P 735 (sIn (topS 48) 9) .none
  fItem : FnAt P 749 (sIn (topS 48) 11) .none
  fInit : ∃ T m, FnAt P 711 (sIn (topS 48) 6) (.ref T) ∧ P.h₀.get? T = some { cls := .type "tuple", data := .seq #[.none] m }
  fAdd : FnAt P 808 (sIn (topS 48) 19) .none
/-- a function without defaults that is called with all its arguments -/
theorem FnAt.plain {P : Par} {n : Nat} {fa : Addr} {st : Stmt} {G : Sg} {names : List Str} {k rest : Nat} {f : Loc → Hp → Option (Fl × Loc × Hp)} (X : FnAt P fa st .none) (hG : G.scope = sScope st) (hok : G.ok = true) (hcell : ∀ x ∈ (sScope st).names, x.2 ≠ .cell)
    (hnames : (G.vars.map (·.1)).take names.length = names) (hvl : ∀ v ∈ G.vars, v.2 = .loc) (hlen : G.vars.length = names.length + rest) (hk : names.length = k)
    (hb : ∀ fd : FuncData, fd.params = sArgs st → fd.defaults = .none → fd.kwdefaults = .none → ∀ ws : List Value, ws.length = k → bindArgs fd ⟨ws, []⟩ = pure (names.zip ws))
    (hf : SS P n G (sBody st) f) (hco : (sScope st).isCoroutine = false := by rfl) (hgen : (sScope st).isGenerator = false := by rfl) (hkk : (sScope st).kind = .function := by rfl) : FN P (n + 1) fa (fPlain k rest f) := by
  obtain ⟨o, fd, ho, hd, hcd, hclo, hg, hbu, hp, hbd, hs, hdf, hkd⟩ := X
  have := FN.of (G := G) (rest := rest) ho hd hcd hbd hclo hg hbu (hG.trans hs.symm) hok (by rw [hs]; exact hcell) hnames hvl hlen (Binds.plain hk (hb fd hp hdf hkd)) hf (by rw [hs]; exact hco) (by rw [hs]; exact hgen) (by rw [hs]; exact hkk)
  exact this
theorem FnAt.defaults {P : Par} {n : Nat} {fa T : Addr} {m : Nat} {st : Stmt} {G : Sg} {names : List Str} {k rest : Nat} {ds : List V} {items : List Value} {f : Loc → Hp → Option (Fl × Loc × Hp)} (X : FnAt P fa st (.ref T)) (ht : P.h₀.get? T = some { cls := .type "tuple", data := .seq items.toArray m })
    (hG : G.scope = sScope st) (hok : G.ok = true) (hcell : ∀ x ∈ (sScope st).names, x.2 ≠ .cell)
    (hnames : (G.vars.map (·.1)).take names.length = names) (hvl : ∀ v ∈ G.vars, v.2 = .loc) (hlen : G.vars.length = names.length + rest) (hk : names.length = k + ds.length)
    (hds : ∀ h ρ, VRs P h ρ ds items)
    (hb : ∀ fd : FuncData, fd.params = sArgs st → fd.defaults = .ref T → fd.kwdefaults = .none → ∀ ws : List Value, ws.length = k → ∃ K : Option (Array Value) → Sem (List (Str × Value)), bindArgs fd ⟨ws, []⟩ = (seqItems? fd.defaults >>= K) ∧ K (some items.toArray) = pure (names.zip (ws ++ items)))
    (hf : SS P n G (sBody st) f) (hco : (sScope st).isCoroutine = false := by rfl) (hgen : (sScope st).isGenerator = false := by rfl) (hkk : (sScope st).kind = .function := by rfl) :
    FN P (n + 1) fa (fun vs hp => match ch (Nat.beq vs.length k) (some (vs ++ ds, hp)) with | none => none | some (vs', hp1) => fFn rest f vs' hp1) := by
  obtain ⟨o, fd, ho, hd, hcd, hclo, hg, hbu, hp, hbd, hs, hdf, hkd⟩ := X
  refine FN.of (G := G) (rest := rest) ho hd hcd hbd hclo hg hbu (hG.trans hs.symm) hok (by rw [hs]; exact hcell) hnames hvl hlen (Binds.defaults hk ht (fun h ρ _ => hds h ρ) (fun ws hw M A Q E s he hQ => ?_)) hf (by rw [hs]; exact hco) (by rw [hs]; exact hgen) (by rw [hs]; exact hkk)
  obtain ⟨K, e1, e2⟩ := hb fd hp hdf hkd ws hw
  rw [e1, hdf]
  exact wpAny_bind (wpAny_seqItems he rfl (wpAny_of_eq e2 hQ))
section
variable {P : Par} {n : Nat}
def GvIter : Sg := ⟨sScope (sIn (topS 35) 3), [("self", .loc)]⟩
theorem ssViter (X : KOk P) : SS P (n + 1) GvIter (sBody (sIn (topS 35) 3)) (fSeq (fRet (fUn gIter (fUn gSlot (fLoc 0)))) fNil) :=
  SS.cons (S1.ret (SE.callB1 (SE.bui rfl X.nIter X.bIter (fun _ _ => .bi _) rfl) (SE.slot X.vo (SE.loc (i := 0) rfl rfl rfl)) pIterB)) SS.nil
theorem fnViter (X : KOk P) : FN P (n + 2) 363 FiterV := X.fVIter.plain (G := GvIter) (names := ["self"]) rfl rfl (by decide) rfl (by decide) rfl rfl (fun fd h1 h2 h3 ws hw => by
  cases fd; dsimp only at h1 h2 h3; subst h1 h2 h3
  match ws, hw with
  | [a], _ => kernel_rfl) (ssViter X)
def GvInit : Sg := ⟨sScope (sIn (topS 35) 1), [("self", .loc), ("d", .loc)]⟩
theorem ssVinit (X : KOk P) : SS P n GvInit (sBody (sIn (topS 35) 1)) (fSeq (fSetSlot (fLoc 1) (fLoc 0)) fNil) :=
  SS.cons (S1.setSlot X.vo (SE.loc (i := 1) rfl rfl rfl) (SE.loc (i := 0) rfl rfl rfl)) SS.nil
theorem fnVinit (X : KOk P) : FN P (n + 1) 349 FinitV := X.fVInit.plain (G := GvInit) (names := ["self", "d"]) rfl rfl (by decide) rfl (by decide) rfl rfl (fun fd h1 h2 h3 ws hw => by
  cases fd; dsimp only at h1 h2 h3; subst h1 h2 h3
  match ws, hw with
  | [a, b], _ => kernel_rfl) (ssVinit X)
def GvItem : Sg := ⟨sScope (sIn (topS 36) 1), [("self", .loc), ("name", .loc)]⟩
theorem ssVitem (X : KOk P) : SS P (n + 9) GvItem (sBody (sIn (topS 36) 1)) (fSeq (fRet (fUn (gNewV false FinitV) (fBin gItem (fUn gSlot (fLoc 0)) (fLoc 1)))) fNil) :=
  SS.cons (S1.ret (SE.newV (b := false) (SE.top rfl X.gAV (fun _ _ => .st _) rfl) (X.vk false) (X.vm false) (X.vi false) X.vt (SE.sub (SE.slot X.vo (SE.loc (i := 0) rfl rfl rfl)) (SE.loc (i := 1) rfl rfl rfl) (by omega)) (fnVinit X))) SS.nil
theorem fnVitem (X : KOk P) : FN P (n + 10) 406 FitemV := X.fVItem.plain (G := GvItem) (names := ["self", "name"]) rfl rfl (by decide) rfl (by decide) rfl rfl (fun fd h1 h2 h3 ws hw => by
  cases fd; dsimp only at h1 h2 h3; subst h1 h2 h3
  match ws, hw with
  | [a, b], _ => kernel_rfl) (ssVitem X)
def Gadj : Sg := ⟨sScope (sIn (topS 48) 7), [("self", .loc)]⟩
theorem ssAdj (X : KOk P) : SS P (n + 9) Gadj (sBody (sIn (topS 48) 7)) (fSeq (fRet (fUn (gNewV true FinitV) (fUn (gAttr 2) (fLoc 0)))) fNil) :=
  SS.cons (S1.ret (SE.newV (b := true) (SE.top rfl X.gDV (fun _ _ => .st _) rfl) (X.vk true) (X.vm true) (X.vi true) X.vt (SE.attr X.go (.inr (.inl rfl)) (SE.loc (i := 0) rfl rfl rfl)) (fnVinit X))) SS.nil
theorem fnAdj (X : KOk P) : FN P (n + 10) 718 FadjV := X.fAdj.plain (G := Gadj) (names := ["self"]) rfl rfl (by decide) rfl (by decide) rfl rfl (fun fd h1 h2 h3 ws hw => by
  cases fd; dsimp only at h1 h2 h3; subst h1 h2 h3
  match ws, hw with
  | [a], _ => kernel_rfl) (ssAdj X)
theorem fSeq_nil (f : Loc → Hp → Option (Fl × Loc × Hp)) : fSeq f fNil = f := by
  funext loc hp
  unfold fSeq
  cases f loc hp with
  | none => rfl
  | some x =>
    obtain ⟨fl, loc1, hp1⟩ := x
    cases fl <;> rfl
def Ghas : Sg := ⟨sScope (sIn (topS 48) 9), [("self", .loc), ("n", .loc)]⟩
theorem ssHas (X : KOk P) : SS P (n + 8) Ghas (sBody (sIn (topS 48) 9)) (fSeq (fSeq (fRet (fBin gIn (fLoc 1) (fUn (gAttr 1) (fLoc 0)))) fNil) fNil) :=
  SS.cons (S1.try (SS.cons (S1.ret (SE.cmp (SE.loc (i := 1) rfl rfl rfl) (SE.attr X.go (.inl rfl) (SE.loc (i := 0) rfl rfl rfl)) (pIn.le (by omega)))) SS.nil)) SS.nil
theorem fnHas (X : KOk P) : FN P (n + 9) 735 (fPlain 2 0 (fSeq (fRet (fBin gIn (fLoc 1) (fUn (gAttr 1) (fLoc 0)))) fNil)) := by
  have := X.fHas.plain (G := Ghas) (names := ["self", "n"]) (k := 2) (rest := 0) (n := n + 8) rfl rfl (by decide) rfl (by decide) rfl rfl (fun fd h1 h2 h3 ws hw => by
    cases fd; dsimp only at h1 h2 h3; subst h1 h2 h3
    match ws, hw with
    | [a, b], _ => kernel_rfl) (ssHas X)
  rw [fSeq_nil] at this
  exact this
theorem pNotG (X : KOk P) : P2 P (n + 10) (compareOp .NotIn) gNotInG := (pNotInG X.hasG X.hasF (fnHas (n := n) X)).le (by omega)
end
end
end Mine
end
section
open PySem PySem.Calls PyProof.Rows PySem.W
set_option maxRecDepth 100000
set_option linter.unusedSimpArgs false
set_option linter.unusedVariables false
namespace Mine
noncomputable section
section
variable {P : Par} {n : Nat} {fa : Addr} {st : Stmt} {df : Value} {G : Sg} {names : List Str} {rest : Nat} {ext : List V → Hp → Option (List V × Hp)}
theorem FnAt.fn {f : Loc → Hp → Option (Fl × Loc × Hp)} (X : FnAt P fa st df) (hG : G.scope = sScope st) (hok : G.ok = true) (hcell : ∀ x ∈ (sScope st).names, x.2 ≠ .cell)
    (hnames : (G.vars.map (·.1)).take names.length = names) (hvl : ∀ v ∈ G.vars, v.2 = .loc) (hlen : G.vars.length = names.length + rest)
    (hb : ∀ fd : FuncData, fd.params = sArgs st → fd.defaults = df → fd.kwdefaults = .none → Binds P fd names ext)
    (hf : SS P n G (sBody st) f) (hco : (sScope st).isCoroutine = false := by rfl) (hgen : (sScope st).isGenerator = false := by rfl) (hkk : (sScope st).kind = .function := by rfl) : FN P (n + 1) fa (fun vs hp => match ext vs hp with
      | none => none
      | some (vs', hp1) => fFn rest f vs' hp1) := by
  obtain ⟨o, fd, ho, hd, hcd, hclo, hg, hbu, hp, hbd, hs, hdf, hkd⟩ := X
  exact FN.of (G := G) (rest := rest) ho hd hcd hbd hclo hg hbu (hG.trans hs.symm) hok (by rw [hs]; exact hcell) hnames hvl hlen (hb fd hp hdf hkd) hf (by rw [hs]; exact hco) (by rw [hs]; exact hgen) (by rw [hs]; exact hkk)
theorem FnAt.fnN {f : Loc → Hp → Option (Fl × Loc × Hp)} (X : FnAt P fa st df) (hG : G.scope = sScope st) (hok : G.ok = true) (hcell : ∀ x ∈ (sScope st).names, x.2 ≠ .cell)
    (hnames : (G.vars.map (·.1)).take names.length = names) (hvl : ∀ v ∈ G.vars, v.2 = .loc) (hlen : G.vars.length = names.length + rest)
    (hb : ∀ fd : FuncData, fd.params = sArgs st → fd.defaults = df → fd.kwdefaults = .none → Binds P fd names ext)
    (hf : SSn P n G (sBody st) f) (hco : (sScope st).isCoroutine = false := by rfl) (hgen : (sScope st).isGenerator = false := by rfl) (hkk : (sScope st).kind = .function := by rfl) : FNn P (n + 1) fa (fun vs hp => match ext vs hp with
      | none => none
      | some (vs', hp1) => fFn rest f vs' hp1) := by
  obtain ⟨o, fd, ho, hd, hcd, hclo, hg, hbu, hp, hbd, hs, hdf, hkd⟩ := X
  exact FNn.of (G := G) (rest := rest) ho hd hcd hbd hclo hg hbu (hG.trans hs.symm) hok (by rw [hs]; exact hcell) hnames hvl hlen (hb fd hp hdf hkd) hf (by rw [hs]; exact hco) (by rw [hs]; exact hgen) (by rw [hs]; exact hkk)
theorem FnAt.fgG (X : FnAt P fa st df) (hG : G.scope = sScope st) (hok : G.ok = true) (hcell : ∀ x ∈ (sScope st).names, x.2 ≠ .cell)
    (hnames : (G.vars.map (·.1)).take names.length = names) (hvl : ∀ v ∈ G.vars, v.2 = .loc) (hlen : G.vars.length = names.length + rest)
    (hb : ∀ fd : FuncData, fd.params = sArgs st → fd.defaults = df → fd.kwdefaults = .none → Binds P fd names ext)
    (hco : (sScope st).isCoroutine = false := by rfl) (hgen : (sScope st).isGenerator = true := by rfl) (hkk : (sScope st).kind = .function := by rfl) : FG P (n + 1) fa G (sBody st) (fun vs hp => match ext vs hp with
      | none => none
      | some (vs', hp1) => some (vs'.map some ++ List.replicate rest none, hp1)) := by
  obtain ⟨o, fd, ho, hd, hcd, hclo, hg, hbu, hp, hbd, hs, hdf, hkd⟩ := X
  exact FG.ofGen (G := G) (rest := rest) ho hd hcd hbd hclo hg hbu (hG.trans hs.symm) hok (by rw [hs]; exact hcell) hnames hvl hlen (hb fd hp hdf hkd) (by rw [hs]; exact hco) (by rw [hs]; exact hgen) (by rw [hs]; exact hkk)
theorem FnAt.fg {f : Loc → Hp → Option (Loc × Hp)} {Gb : Sg} {gb : List Stmt} (X : FnAt P fa st df) (hG : G.scope = sScope st) (hok : G.ok = true) (hcell : ∀ x ∈ (sScope st).names, x.2 ≠ .cell)
    (hnames : (G.vars.map (·.1)).take names.length = names) (hvl : ∀ v ∈ G.vars, v.2 = .loc) (hlen : G.vars.length = names.length + rest)
    (hb : ∀ fd : FuncData, fd.params = sArgs st → fd.defaults = df → fd.kwdefaults = .none → Binds P fd names ext)
    (hf : RG P n G (sBody st) Gb gb f) (hco : (sScope st).isCoroutine = false := by rfl) (hgen : (sScope st).isGenerator = false := by rfl) (hkk : (sScope st).kind = .function := by rfl) : FG P (n + 1) fa Gb gb (fun vs hp => match ext vs hp with
      | none => none
      | some (vs', hp1) => f (vs'.map some ++ List.replicate rest none) hp1) := by
  obtain ⟨o, fd, ho, hd, hcd, hclo, hg, hbu, hp, hbd, hs, hdf, hkd⟩ := X
  exact FG.of (G := G) (rest := rest) ho hd hcd hbd hclo hg hbu (hG.trans hs.symm) hok (by rw [hs]; exact hcell) hnames hvl hlen (hb fd hp hdf hkd) hf (by rw [hs]; exact hco) (by rw [hs]; exact hgen) (by rw [hs]; exact hkk)
/-- all arguments given; the defaults are read all the same -/
theorem Binds.given {fd : FuncData} {T : Addr} {m k : Nat} {items : List Value} (hdf : fd.defaults = .ref T) (ht : P.h₀.get? T = some { cls := .type "tuple", data := .seq items.toArray m }) (hk : names.length = k)
    (hb : ∀ ws : List Value, ws.length = k → ∃ K : Option (Array Value) → Sem (List (Str × Value)), bindArgs fd ⟨ws, []⟩ = (seqItems? fd.defaults >>= K) ∧ K (some items.toArray) = pure (names.zip ws)) :
    Binds P fd names (fun vs hp => ch (Nat.beq vs.length k) (some (vs, hp))) := by
  intro A s ρ hp vs ws vs' hp' H r hf
  obtain ⟨hl, hf⟩ := ch_inv hf
  cases hf
  have hl := Nat.eq_of_beq_eq_true hl
  obtain ⟨K, e1, e2⟩ := hb ws (by rw [← r.length, hl])
  rw [e1, hdf]
  exact wpAny_bind (wpAny_seqItems (H.base _ _ ht) rfl (wpAny_of_eq e2 ⟨ρ, ws, H, .refl, r, hl.trans hk.symm, rfl⟩))
end
section
variable {P : Par} {n : Nat}
def Gcget : Sg := ⟨sScope (sIn (topS 46) 2), [("self", .loc), ("inst\x61nce", .loc), ("owner", .loc), ("cache", .loc), ("val", .loc)]⟩
theorem ssCget (X : KOk P) : SSn P (n + 12) Gcget (sBody (sIn (topS 46) 2)) (fGetB 720 652 FadjV) := by
  obtain ⟨t, SN⟩ := X.stN
  obtain ⟨nm, tn, fset, D⟩ := X.dic
  exact SSn.cons (S1n.of (S1.ife (SB.cmp (SE.loc (i := 1) rfl rfl rfl) SE.cnone pIs) (SS.cons (S1.ret (SE.loc (i := 0) rfl rfl rfl)) SS.nil) SS.nil))
    (SSn.cons (S1n.of (S1.ife (SB.cmp (SE.stA SN (fun _ _ => .str _ _) (SE.loc (i := 0) rfl rfl rfl)) SE.cnone pIs) (SS.cons S1.bad SS.nil) SS.nil))
    (SSn.cons (S1n.try (SSn.cons (S1n.asg (i := 3) (SEn.dictO D (SE.loc (i := 1) rfl rfl rfl)) rfl (by decide)) (SSn.of SS.nil)))
    (SSn.cons (S1n.of (S1.asg (i := 4) (SE.getS (SE.loc (i := 3) rfl rfl rfl) (SE.stA SN (fun _ _ => .str _ _) (SE.loc (i := 0) rfl rfl rfl)) (SE.top rfl X.gNF (fun _ _ => .st _) rfl)) rfl (by decide)))
    (SSn.cons (S1n.of (S1.ife (SB.cmp (SE.loc (i := 4) rfl rfl rfl) (SE.top rfl X.gNF (fun _ _ => .st _) rfl) pIsSt) (SS.cons (S1.asg (i := 4) (SE.stC X.stF X.noF X.kpF (SE.loc (i := 0) rfl rfl rfl) (SE.loc (i := 1) rfl rfl rfl) ((fnAdj (n := n) X).le (by omega))) rfl (by decide))
      (SS.cons (S1.try (SS.cons (S1.putS (SE.loc (i := 4) rfl rfl rfl) (SE.loc (i := 3) rfl rfl rfl) (SE.stA SN (fun _ _ => .str _ _) (SE.loc (i := 0) rfl rfl rfl))) SS.nil)) SS.nil)) SS.nil))
    (SSn.cons (S1n.of (S1.ret (SE.loc (i := 4) rfl rfl rfl))) (SSn.of SS.nil))))))
theorem fnCget (X : KOk P) : FNn P (n + 13) 681 (Fget 720 652) := by
  obtain ⟨T, m, hX, ht⟩ := X.fCGet
  exact hX.fnN (G := Gcget) (names := ["self", "inst\x61nce", "owner"]) (rest := 2) rfl rfl (by decide) rfl (by decide) rfl (fun fd h1 h2 h3 => Binds.given (k := 3) (items := [.none]) h2 ht rfl fun ws hw => by
    cases fd; dsimp only at h1 h2 h3; subst h1 h2 h3
    match ws, hw with
    | [a, b, c], _ => exact ⟨_, rfl, by kernel_rfl⟩) (ssCget X)
end
end
end Mine
end
section
open PySem PySem.Calls PyProof.Rows PySem.W
set_option maxRecDepth 100000
set_option linter.unusedSimpArgs false
set_option linter.unusedVariables false
namespace Mine
noncomputable section
section
variable {P : Par} {n : Nat} {G : Sg}
theorem SE.neg {i : Int} {k : Nat} {p1 pos : Pos} : SE P n G (.UnaryOp .USub (.Constant (.int i) k p1) pos) (fK (.int (-i))) := by
  intro A env own s ρ loc hp v hp' ha H F hf
  rw [arm_eval_UnaryOp]
  refine wpAny_bind ((SE.cint (k := k) (pos := p1)).use (f := fK (.int i)) ha H F (hp' := hp) rfl fun v' s1 ρ1 H1 F1 S1 r1 => ?_)
  obtain ⟨t, rfl⟩ : ∃ t, v' = .int i t := by cases r1 with | num t e => cases e; exact ⟨t, rfl⟩
  refine wpAny_bind (wpAny_standAt (wpAny_holding (PyProof.Rows.neg_int ?_)))
  cases hf
  exact ⟨ρ1, H1.toks _, S1.toks _, .num _ rfl⟩
theorem notInt (h : G.scope.kind = .function) : ∀ env : Env, env.scope = G.scope → interactive env = false := fun env e => by
  unfold interactive
  rw [e, h]
  rfl
def GgItem : Sg := ⟨sScope (sIn (topS 48) 11), [("self", .loc), ("n", .loc)]⟩
theorem ssGitem (X : KOk P) : SSn P (n + 14) GgItem (sBody (sIn (topS 48) 11)) (fSeq (fRet (fBin (fun a j hp => ch (isVw true a hp) (FitemV [a, j] hp)) (fUn (gAdj 720 P.CG (Fget 720 652)) (fLoc 0)) (fLoc 1))) fNil) :=
  SSn.cons (S1n.ret (SEn.subV (SEn.adj X.prop (SE.loc (i := 0) rfl rfl rfl) (fnCget (n := n) X)) (SE.loc (i := 1) rfl rfl rfl) X.meItemV ((fnVitem (n := n) X).le (by omega)))) (SSn.of SS.nil)
theorem fnGitem (X : KOk P) : FNn P (n + 15) 749 (FitemG 720 652 P.CG) :=
  X.fItem.fnN (G := GgItem) (names := ["self", "n"]) (rest := 0) rfl rfl (by decide) rfl (by decide) rfl (fun fd h1 h2 h3 => Binds.plain rfl fun ws hw => by
    cases fd; dsimp only at h1 h2 h3; subst h1 h2 h3
    match ws, hw with
    | [a, b], _ => kernel_rfl) (ssGitem X)
end
end
end Mine
end
section
open PySem PySem.Calls PyProof.Rows PySem.W
set_option maxRecDepth 100000
set_option linter.unusedSimpArgs false
set_option linter.unusedVariables false
namespace Mine
noncomputable section

def Gpred : Sg := ⟨sScope (topS 12), [("G", .loc), ("source", .loc), ("target", .loc), ("cutoff", .loc), ("return_seen", .loc), ("level", .loc), ("nextlevel", .loc), ("seen", .loc), ("pred", .loc), ("thislevel", .loc), ("v", .loc), ("w", .loc)]⟩
def bPred (CG : Addr) : Loc → Hp → Option (Fl × Loc × Hp) :=
 (fSeq (fIf (bBin gNotInG (fLoc 1) (fLoc 0)) (fSeq fBad
 fNil) fNil)
 (fSeq (fAsg (fK (.int 0)) 5)
 (fSeq (fAsg (fLst (fCo (fLoc 1) fNo)) 6)
 (fSeq (fAsg (fDict (.dI [] 0) [((fLoc 1), (fLoc 5))]) 7)
 (fSeq (fAsg (fDict (.dI [] 0) [((fLoc 1), (fLst fNo))]) 8)
 (fSeq (fWhile (bTru (fLoc 6)) (fSeq (fAsg (fBin gAdd (fLoc 5) (fK (.int 1))) 5)
 (fSeq (fAsg (fLoc 6) 9)
 (fSeq (fAsg (fLst fNo) 6)
 (fSeq (fFor 200 (fIt (fLoc 9)) (aName 10) (fSeq (fFor 200 (fItV FiterV (fBin (gItemG 720 652 CG) (fLoc 0) (fLoc 10))) (aName 11) (fSeq (fIf (bBin gNotIn (fLoc 11) (fLoc 7)) (fSeq (fSetI (fLst (fCo (fLoc 10) fNo)) (fLoc 8) (fLoc 11))
 (fSeq (fSetI (fLoc 5) (fLoc 7) (fLoc 11))
 (fSeq (fExp (fMet isLst gApp (fLoc 6) (fLoc 11)))
 fNil))) (fSeq (fIf (bBin gEq (fBin gItem (fLoc 7) (fLoc 11)) (fLoc 5)) (fSeq (fExp (fMet isLst gApp (fBin gItem (fLoc 8) (fLoc 11)) (fLoc 10)))
 fNil) fNil)
 fNil))
 fNil) fNil)
 fNil) fNil)
 (fSeq (fIf (bAnd (bTru (fLoc 3)) bNo) (fSeq (fun loc hp => some (.brk, loc, hp))
 fNil) fNil)
 fNil))))) fNil 200)
 (fSeq (fIf (bBin gIsNot (fLoc 2) (fK .none)) (fSeq (fIf (bTru (fLoc 4)) (fSeq (fIf (bBin gNotIn (fLoc 2) (fLoc 8)) (fSeq (fRet (fTup (fCo (fLst fNo) (fCo (fK (.int (-1))) fNo))))
 fNil) fNil)
 (fSeq (fRet (fTup (fCo (fBin gItem (fLoc 8) (fLoc 2)) (fCo (fBin gItem (fLoc 7) (fLoc 2)) fNo))))
 fNil)) (fSeq (fIf (bBin gNotIn (fLoc 2) (fLoc 8)) (fSeq (fRet (fLst fNo))
 fNil) fNil)
 (fSeq (fRet (fBin gItem (fLoc 8) (fLoc 2)))
 fNil)))
 fNil) (fSeq (fIf (bTru (fLoc 4)) (fSeq (fRet (fTup (fCo (fLoc 8) (fCo (fLoc 7) fNo))))
 fNil) (fSeq (fRet (fLoc 8))
 fNil))
 fNil))
 fNil)))))))
def FPred (CG : Addr) : List V → Hp → Option (V × Hp) := fun vs hp => match ch (Nat.beq vs.length 2) (some (vs ++ [.none, .none, .none], hp)) with
  | none => none
  | some (vs', hp1) => fFn 7 (bPred CG) vs' hp1
section
variable {P : Par} {n : Nat}
theorem ssPred (X : KOk P) : SSn P (n + 20) Gpred (sBody (topS 12)) (bPred P.CG) :=
 (SSn.cons (S1n.of (S1.ife (SB.cmp (SE.loc (i := 1) rfl rfl rfl) (SE.loc (i := 0) rfl rfl rfl) ((pNotG (n := n) X).le (by omega))) (SS.cons S1.bad
 SS.nil) SS.nil))
 (SSn.cons (S1n.of (S1.asg (i := 5) SE.cint rfl (by decide)))
 (SSn.cons (S1n.of (S1.asg (i := 6) (SE.lst (SEs.cons (SE.loc (i := 1) rfl rfl rfl) SEs.nil)) rfl (by decide)))
 (SSn.cons (S1n.of (S1.asg (i := 7) (SE.dict (SKs.cons (SE.loc (i := 1) rfl rfl rfl) (SE.loc (i := 5) rfl rfl rfl) SKs.nil) (by omega) (.inl rfl) (by intro _; rfl) (by intro h; cases h) (by show _ ≤ _; decide)) rfl (by decide)))
 (SSn.cons (S1n.of (S1.asg (i := 8) (SE.dict (SKs.cons (SE.loc (i := 1) rfl rfl rfl) (SE.lst SEs.nil) SKs.nil) (by omega) (.inl rfl) (by intro _; rfl) (by intro h; cases h) (by show _ ≤ _; decide)) rfl (by decide)))
 (SSn.cons (S1n.while (SB.tru (SE.loc (i := 6) rfl rfl rfl)) (SSn.cons (S1n.of (S1.asg (i := 5) (SE.bin (SE.loc (i := 5) rfl rfl rfl) SE.cint pAdd) rfl (by decide)))
 (SSn.cons (S1n.of (S1.asg (i := 9) (SE.loc (i := 6) rfl rfl rfl) rfl (by decide)))
 (SSn.cons (S1n.of (S1.asg (i := 6) (SE.lst SEs.nil) rfl (by decide)))
 (SSn.cons (S1n.for (SIn.of (SI.of (SE.loc (i := 9) rfl rfl rfl))) (SA.name (i := 10) rfl (by decide)) (SSn.cons (S1n.for (SIn.vw (SEn.subG (SE.loc (i := 0) rfl rfl rfl) (SE.loc (i := 10) rfl rfl rfl) X.meItemG ((fnGitem (n := n) X).le (by omega))) X.meIterV ((fnViter (n := n) X).le (by omega))) (SA.name (i := 11) rfl (by decide)) (SSn.of (SS.cons (S1.ife (SB.cmp (SE.loc (i := 11) rfl rfl rfl) (SE.loc (i := 7) rfl rfl rfl) (pNotIn.le (by omega))) (SS.cons (S1.setI (SE.lst (SEs.cons (SE.loc (i := 10) rfl rfl rfl) SEs.nil)) (SE.loc (i := 8) rfl rfl rfl) (SE.loc (i := 11) rfl rfl rfl) (by omega))
 (SS.cons (S1.setI (SE.loc (i := 5) rfl rfl rfl) (SE.loc (i := 7) rfl rfl rfl) (SE.loc (i := 11) rfl rfl rfl) (by omega))
 (SS.cons (S1.exp (SE.app (SE.loc (i := 6) rfl rfl rfl) (SE.loc (i := 11) rfl rfl rfl)) (notInt rfl))
 SS.nil))) (SS.cons (S1.ife (SB.cmp (SE.sub (SE.loc (i := 7) rfl rfl rfl) (SE.loc (i := 11) rfl rfl rfl) (by omega)) (SE.loc (i := 5) rfl rfl rfl) (pEq.le (by omega))) (SS.cons (S1.exp (SE.app (SE.sub (SE.loc (i := 8) rfl rfl rfl) (SE.loc (i := 11) rfl rfl rfl) (by omega)) (SE.loc (i := 10) rfl rfl rfl)) (notInt rfl))
 SS.nil) SS.nil)
 SS.nil))
 SS.nil)) (SSn.of SS.nil))
 (SSn.of SS.nil)) (SSn.of SS.nil))
 (SSn.of (SS.cons (S1.ife (SB.and (SB.tru (SE.loc (i := 3) rfl rfl rfl)) SB.no) (SS.cons S1.brk
 SS.nil) SS.nil)
 SS.nil)))))) (SSn.of SS.nil))
 (SSn.of (SS.cons (S1.ife (SB.cmp (SE.loc (i := 2) rfl rfl rfl) SE.cnone pIsNot) (SS.cons (S1.ife (SB.tru (SE.loc (i := 4) rfl rfl rfl)) (SS.cons (S1.ife (SB.cmp (SE.loc (i := 2) rfl rfl rfl) (SE.loc (i := 8) rfl rfl rfl) (pNotIn.le (by omega))) (SS.cons (S1.ret (SE.tup (SEs.cons (SE.lst SEs.nil) (SEs.cons SE.neg SEs.nil))))
 SS.nil) SS.nil)
 (SS.cons (S1.ret (SE.tup (SEs.cons (SE.sub (SE.loc (i := 8) rfl rfl rfl) (SE.loc (i := 2) rfl rfl rfl) (by omega)) (SEs.cons (SE.sub (SE.loc (i := 7) rfl rfl rfl) (SE.loc (i := 2) rfl rfl rfl) (by omega)) SEs.nil))))
 SS.nil)) (SS.cons (S1.ife (SB.cmp (SE.loc (i := 2) rfl rfl rfl) (SE.loc (i := 8) rfl rfl rfl) (pNotIn.le (by omega))) (SS.cons (S1.ret (SE.lst SEs.nil))
 SS.nil) SS.nil)
 (SS.cons (S1.ret (SE.sub (SE.loc (i := 8) rfl rfl rfl) (SE.loc (i := 2) rfl rfl rfl) (by omega)))
 SS.nil)))
 SS.nil) (SS.cons (S1.ife (SB.tru (SE.loc (i := 4) rfl rfl rfl)) (SS.cons (S1.ret (SE.tup (SEs.cons (SE.loc (i := 8) rfl rfl rfl) (SEs.cons (SE.loc (i := 7) rfl rfl rfl) SEs.nil))))
 SS.nil) (SS.cons (S1.ret (SE.loc (i := 8) rfl rfl rfl))
 SS.nil))
 SS.nil))
 SS.nil))))))))
theorem fnPred (X : KOk P) : FNn P (n + 21) 153 (FPred P.CG) := by
  obtain ⟨T, m, hX, ht⟩ := X.fPred
  exact hX.fnN (G := Gpred) (names := ["G", "source", "target", "cutoff", "return_seen"]) (rest := 7) rfl rfl (by decide) rfl (by decide) rfl (fun fd h1 h2 h3 => Binds.defaults (k := 2) (ds := [.none, .none, .none]) (items := [.none, .none, .none]) rfl ht (fun _ _ _ => .cons .none (.cons .none (.cons .none .nil))) fun ws hw M A Q E s he hQ => by
    cases fd; dsimp only at h1 h2 h3; subst h1 h2 h3
    match ws, hw with
    | [a, b], _ => exact BindsTo.of_defaults (binds := _) rfl he rfl rfl (by kernel_rfl) _ _ _ _ hQ) (ssPred X)
end
end
end Mine
end
section
open PySem PySem.Calls PyProof.Rows PySem.W
set_option maxRecDepth 100000
set_option linter.unusedSimpArgs false
set_option linter.unusedVariables false
namespace Mine
noncomputable section

def Gadd : Sg := ⟨sScope (sIn (topS 48) 19), [("self", .loc), ("ebunch_to_add", .loc), ("attr", .loc), ("e", .loc), ("ne", .loc), ("u", .loc), ("v", .loc), ("dd", .loc), ("datadict", .loc)]⟩
def bAdd : Loc → Hp → Option (Fl × Loc × Hp) :=
 (fSeq (fFor 200 (fIt (fLoc 1)) (aName 3) (fSeq (fAsg (fUn gLen (fLoc 3)) 4)
 (fSeq (fIf (bBin gEq (fLoc 4) (fK (.int 3))) (fSeq (fAsgT (fLoc 3) (aTup [(aName 5), (aName 6), (aName 7)]))
 fNil) (fSeq (fIf (bBin gEq (fLoc 4) (fK (.int 2))) (fSeq (fAsgT (fLoc 3) (aTup [(aName 5), (aName 6)]))
 (fSeq (fAsg (fDict (.dI [] 0) []) 7)
 fNil)) (fSeq fBad
 fNil))
 fNil))
 (fSeq (fIf (bBin gNotIn (fLoc 5) (fUn (gAttr 1) (fLoc 0))) (fSeq (fIf (bBin gIs (fLoc 5) (fK .none)) (fSeq fBad
 fNil) fNil)
 (fSeq (fSetI (fUn gNewD (fLoc 0)) (fUn (gAttr 2) (fLoc 0)) (fLoc 5))
 (fSeq (fSetI (fUn gNewD (fLoc 0)) (fUn (gAttr 1) (fLoc 0)) (fLoc 5))
 fNil))) fNil)
 (fSeq (fIf (bBin gNotIn (fLoc 6) (fUn (gAttr 1) (fLoc 0))) (fSeq (fIf (bBin gIs (fLoc 6) (fK .none)) (fSeq fBad
 fNil) fNil)
 (fSeq (fSetI (fUn gNewD (fLoc 0)) (fUn (gAttr 2) (fLoc 0)) (fLoc 6))
 (fSeq (fSetI (fUn gNewD (fLoc 0)) (fUn (gAttr 1) (fLoc 0)) (fLoc 6))
 fNil))) fNil)
 (fSeq (fAsg (fGet (fBin gItem (fUn (gAttr 2) (fLoc 0)) (fLoc 5)) (fLoc 6) (fUn gNewD (fLoc 0))) 8)
 (fSeq (fExp (fMet isDct gUpd0 (fLoc 8) (fLoc 2)))
 (fSeq (fExp (fMet isDct gUpd0 (fLoc 8) (fLoc 7)))
 (fSeq (fSetI (fLoc 8) (fBin gItem (fUn (gAttr 2) (fLoc 0)) (fLoc 5)) (fLoc 6))
 (fSeq (fSetI (fLoc 8) (fBin gItem (fUn (gAttr 2) (fLoc 0)) (fLoc 6)) (fLoc 5))
 fNil))))))))) fNil)
 fNil)
def FAdd : List V → Hp → Option (V × Hp) := fun vs hp => match ch (Nat.beq vs.length 2) (match mk hp (.dI [] 0) with
      | none => none
      | some (d, hp1) => some (vs ++ [] ++ [d], hp1)) with
  | none => none
  | some (vs', hp1) => fFn 6 bAdd vs' hp1
section
variable {M : Model} {A : Around} {Q : List (Str × Value) → Shared → Prop} {E : Value → Shared → Prop} {s : Shared}
theorem myKw {t : Sem (List (Str × Value))} {d : Value → List (Str × Value)} (e : t = (alloc { cls := .type "dict", data := .dict #[] } >>= fun a => pure (d (.ref a)))) (hQ : Q (d (.ref s.heap.objs.size)) { s with heap := s.heap.push { cls := .type "dict", data := .dict #[] } }) : wpAny M A t Q E s := by
  rw [e]
  exact wpAny_bind (wpAny_alloc (wpAny_pure hQ))
theorem myKwD {t : Sem (List (Str × Value))} {K : Option (Array Value) → Sem (List (Str × Value))} {d : Value → List (Str × Value)} {T : Addr} {items : Array Value} {m : Nat} (ht : s.heap.get? T = some { cls := .type "tuple", data := .seq items m }) (e : t = (seqItems? (.ref T) >>= K))
    (e2 : K (some items) = (alloc { cls := .type "dict", data := .dict #[] } >>= fun a => pure (d (.ref a)))) (hQ : Q (d (.ref s.heap.objs.size)) { s with heap := s.heap.push { cls := .type "dict", data := .dict #[] } }) : wpAny M A t Q E s := by
  rw [e]
  exact wpAny_bind (wpAny_seqItems ht rfl (myKw e2 hQ))
end
section
variable {P : Par} {n : Nat}
theorem ssAdd (X : KOk P) : SS P (n + 20) Gadd (sBody (sIn (topS 48) 19)) bAdd :=
 (SS.cons (S1.for (SI.of (SE.loc (i := 1) rfl rfl rfl)) (SA.name (i := 3) rfl (by decide)) (SS.cons (S1.asg (i := 4) (SE.callB1 (SE.bui rfl X.nLen X.bLen (fun _ _ => .bi _) rfl) (SE.loc (i := 3) rfl rfl rfl) pLen) rfl (by decide))
 (SS.cons (S1.ife (SB.cmp (SE.loc (i := 4) rfl rfl rfl) SE.cint (pEq.le (by omega))) (SS.cons (S1.asgT (SE.loc (i := 3) rfl rfl rfl) (SA.tup (SAs.cons (SA.name (i := 5) rfl (by decide)) (by intro _; rfl) (SAs.cons (SA.name (i := 6) rfl (by decide)) (by intro _; rfl) (SAs.cons (SA.name (i := 7) rfl (by decide)) (by intro _; rfl) SAs.nil)))) (hw := by intro env e; cases env; dsimp only at e; subst e; rfl))
 SS.nil) (SS.cons (S1.ife (SB.cmp (SE.loc (i := 4) rfl rfl rfl) SE.cint (pEq.le (by omega))) (SS.cons (S1.asgT (SE.loc (i := 3) rfl rfl rfl) (SA.tup (SAs.cons (SA.name (i := 5) rfl (by decide)) (by intro _; rfl) (SAs.cons (SA.name (i := 6) rfl (by decide)) (by intro _; rfl) SAs.nil))) (hw := by intro env e; cases env; dsimp only at e; subst e; rfl))
 (SS.cons (S1.asg (i := 7) (SE.dict0 (.inl rfl)) rfl (by decide))
 SS.nil)) (SS.cons S1.bad
 SS.nil))
 SS.nil))
 (SS.cons (S1.ife (SB.cmp (SE.loc (i := 5) rfl rfl rfl) (SE.attr X.go (.inl rfl) (SE.loc (i := 0) rfl rfl rfl)) (pNotIn.le (by omega))) (SS.cons (S1.ife (SB.cmp (SE.loc (i := 5) rfl rfl rfl) SE.cnone pIs) (SS.cons S1.bad
 SS.nil) SS.nil)
 (SS.cons (S1.setI (SE.newD X.go X.fac4 (SE.loc (i := 0) rfl rfl rfl)) (SE.attr X.go (.inr (.inl rfl)) (SE.loc (i := 0) rfl rfl rfl)) (SE.loc (i := 5) rfl rfl rfl) (by omega))
 (SS.cons (S1.setI (SE.newD X.go X.fac5 (SE.loc (i := 0) rfl rfl rfl)) (SE.attr X.go (.inl rfl) (SE.loc (i := 0) rfl rfl rfl)) (SE.loc (i := 5) rfl rfl rfl) (by omega))
 SS.nil))) SS.nil)
 (SS.cons (S1.ife (SB.cmp (SE.loc (i := 6) rfl rfl rfl) (SE.attr X.go (.inl rfl) (SE.loc (i := 0) rfl rfl rfl)) (pNotIn.le (by omega))) (SS.cons (S1.ife (SB.cmp (SE.loc (i := 6) rfl rfl rfl) SE.cnone pIs) (SS.cons S1.bad
 SS.nil) SS.nil)
 (SS.cons (S1.setI (SE.newD X.go X.fac4 (SE.loc (i := 0) rfl rfl rfl)) (SE.attr X.go (.inr (.inl rfl)) (SE.loc (i := 0) rfl rfl rfl)) (SE.loc (i := 6) rfl rfl rfl) (by omega))
 (SS.cons (S1.setI (SE.newD X.go X.fac5 (SE.loc (i := 0) rfl rfl rfl)) (SE.attr X.go (.inl rfl) (SE.loc (i := 0) rfl rfl rfl)) (SE.loc (i := 6) rfl rfl rfl) (by omega))
 SS.nil))) SS.nil)
 (SS.cons (S1.asg (i := 8) (SE.get (SE.sub (SE.attr X.go (.inr (.inl rfl)) (SE.loc (i := 0) rfl rfl rfl)) (SE.loc (i := 5) rfl rfl rfl) (by omega)) (SE.loc (i := 6) rfl rfl rfl) (SE.newD X.go X.fac6 (SE.loc (i := 0) rfl rfl rfl))) rfl (by decide))
 (SS.cons (S1.exp (SE.update (SE.loc (i := 8) rfl rfl rfl) (SE.loc (i := 2) rfl rfl rfl)) (notInt rfl))
 (SS.cons (S1.exp (SE.update (SE.loc (i := 8) rfl rfl rfl) (SE.loc (i := 7) rfl rfl rfl)) (notInt rfl))
 (SS.cons (S1.setI (SE.loc (i := 8) rfl rfl rfl) (SE.sub (SE.attr X.go (.inr (.inl rfl)) (SE.loc (i := 0) rfl rfl rfl)) (SE.loc (i := 5) rfl rfl rfl) (by omega)) (SE.loc (i := 6) rfl rfl rfl) (by omega))
 (SS.cons (S1.setI (SE.loc (i := 8) rfl rfl rfl) (SE.sub (SE.attr X.go (.inr (.inl rfl)) (SE.loc (i := 0) rfl rfl rfl)) (SE.loc (i := 6) rfl rfl rfl) (by omega)) (SE.loc (i := 5) rfl rfl rfl) (by omega))
 SS.nil))))))))) SS.nil)
 SS.nil)
theorem fnAdd (X : KOk P) : FN P (n + 21) 808 FAdd :=
  X.fAdd.fn (G := Gadd) (names := ["self", "ebunch_to_add", "attr"]) (rest := 6) rfl rfl (by decide) rfl (by decide) rfl (fun fd h1 h2 h3 => Binds.kw (k := 2) (ds := []) (items := []) rfl (fun _ _ _ => .nil) fun ws hw M A Q E s he hQ => by
    cases fd; dsimp only at h1 h2 h3; subst h1 h2 h3
    match ws, hw with
    | [a, b], _ => exact myKw (d := fun d => [("self", a), ("ebunch_to_add", b), ("attr", d)]) (by kernel_rfl) hQ) (ssAdd X)
end
def Ginit : Sg := ⟨sScope (sIn (topS 48) 6), [("self", .loc), ("incoming_graph_data", .loc), ("attr", .loc)]⟩
def bInit : Loc → Hp → Option (Fl × Loc × Hp) :=
 (fSeq (fSetA 4 (fUn gNewD (fLoc 0)) (fLoc 0))
 (fSeq (fSetA 1 (fUn gNewD (fLoc 0)) (fLoc 0))
 (fSeq (fSetA 2 (fUn gNewD (fLoc 0)) (fLoc 0))
 (fSeq (fIf (bBin gIsNot (fLoc 1) (fK .none)) (fSeq fBad
 fNil) fNil)
 (fSeq (fExp (fMet isDct gUpd0 (fUn (gAttr 4) (fLoc 0)) (fLoc 2)))
 fNil)))))
def FInit : List V → Hp → Option (V × Hp) := fun vs hp => match ch (Nat.beq vs.length 1) (match mk hp (.dI [] 0) with
      | none => none
      | some (d, hp1) => some (vs ++ [.none] ++ [d], hp1)) with
  | none => none
  | some (vs', hp1) => fFn 0 bInit vs' hp1
section
variable {P : Par} {n : Nat}
theorem ssInit (X : KOk P) : SS P (n + 20) Ginit (sBody (sIn (topS 48) 6)) bInit :=
 (SS.cons (S1.setA X.so (.inr (.inr (.inr rfl))) (SE.newD X.go X.fac1 (SE.loc (i := 0) rfl rfl rfl)) (SE.loc (i := 0) rfl rfl rfl))
 (SS.cons (S1.setA X.so (.inl rfl) (SE.newD X.go X.fac2 (SE.loc (i := 0) rfl rfl rfl)) (SE.loc (i := 0) rfl rfl rfl))
 (SS.cons (S1.setA X.so (.inr (.inl rfl)) (SE.newD X.go X.fac3 (SE.loc (i := 0) rfl rfl rfl)) (SE.loc (i := 0) rfl rfl rfl))
 (SS.cons (S1.ife (SB.cmp (SE.loc (i := 1) rfl rfl rfl) SE.cnone pIsNot) (SS.cons S1.bad
 SS.nil) SS.nil)
 (SS.cons (S1.exp (SE.update (SE.attr X.go (.inr (.inr rfl)) (SE.loc (i := 0) rfl rfl rfl)) (SE.loc (i := 2) rfl rfl rfl)) (notInt rfl))
 SS.nil)))))
theorem fnGinit (X : KOk P) : FN P (n + 21) 711 FInit := by
  obtain ⟨T, m, hX, ht⟩ := X.fInit
  exact hX.fn (G := Ginit) (names := ["self", "incoming_graph_data", "attr"]) (rest := 0) rfl rfl (by decide) rfl (by decide) rfl (fun fd h1 h2 h3 => Binds.kw (k := 1) (ds := [.none]) (items := [.none]) rfl (fun _ _ _ => .cons .none .nil) fun ws hw M A Q E s he hQ => by
    cases fd; dsimp only at h1 h2 h3; subst h1 h2 h3
    match ws, hw with
    | [a], _ => exact myKwD (d := fun d => [("self", a), ("incoming_graph_data", .none), ("attr", d)]) (he _ _ ht) rfl (by kernel_rfl) hQ) (ssInit X)
end
end
end Mine
end
section
open PySem PySem.Calls PyProof.Rows PySem.W
set_option maxRecDepth 100000
set_option linter.unusedSimpArgs false
set_option linter.unusedVariables false
namespace Mine
noncomputable section

def wTest : Stmt → Expr
  | .While t _ _ _ => t
  | .If t _ _ _ => t
  | _ => .Constant .none 0 default
def wBody : Stmt → List Stmt
  | .While _ b _ _ => b
  | .If _ b _ _ => b
  | _ => []
def wPos : Stmt → Pos
  | .While _ _ _ p => p
  | .If _ _ _ p => p
  | .Expr _ p => p
  | _ => default
def yOf : Stmt → Expr
  | .Expr (.Yield (some e) _) _ => e
  | _ => .Constant .none 0 default
def yPos : Stmt → Pos
  | .Expr (.Yield _ p) _ => p
  | _ => default
def nth (l : List Stmt) (i : Nat) : Stmt := l[i]?.getD (.Pass default)
abbrev bB : List Stmt := sBody (topS 33)
abbrev bW : Stmt := nth bB 3
abbrev bI : Stmt := nth (wBody bW) 1
abbrev bY : Stmt := nth (wBody bI) 0
def Gbpp : Sg := ⟨sScope (topS 33), [("sources", .loc), ("target", .loc), ("pred", .loc), ("stack", .loc), ("path", .loc), ("node", .loc), ("earlier", .loc)]⟩
def pInit : Loc → Hp → Option (Fl × Loc × Hp) :=
 (fSeq (fIf (bBin gNotIn (fLoc 1) (fLoc 2)) (fSeq fBad
 fNil) fNil)
 (fSeq (fAsg (fDict (.dI [] 0) [((fLoc 1), (fUn gIter (fBin gItem (fLoc 2) (fLoc 1))))]) 3)
 (fSeq (fAsg (fLst (fCo (fLoc 1) fNo)) 4)
 fNil)))
def pTest : Loc → Hp → Option (Bool × Hp) := (bTru (fLoc 3))
def pPre : Loc → Hp → Option (Fl × Loc × Hp) := (fSeq (fAsg (fBin gItem (fLoc 4) (fK (.int (-1)))) 5)
 fNil)
def pCond : Loc → Hp → Option (Bool × Hp) := (bBin gIn (fLoc 5) (fLoc 0))
def pOut : Loc → Hp → Option (V × Hp) := (fBin gItem (fLoc 4) (fSlc pNo pNo (pSo (fK (.int (-1))))))
def pPost : Loc → Hp → Option (Fl × Loc × Hp) := (fSeq (fFor 200 (fIt (fBin gItem (fLoc 3) (fLoc 5))) (aName 6) (fSeq (fIf (bBin gIn (fLoc 6) (fLoc 3)) (fSeq (fun loc hp => some (.cont, loc, hp))
 fNil) fNil)
 (fSeq (fSetI (fUn gIter (fBin gItem (fLoc 2) (fLoc 6))) (fLoc 3) (fLoc 6))
 (fSeq (fExp (fMet isLst gApp (fLoc 4) (fLoc 6)))
 (fSeq (fun loc hp => some (.brk, loc, hp))
 fNil)))) (fSeq (fExp (fUn gPopItem (fLoc 3)))
 (fSeq (fExp (fUn gPop (fLoc 4)))
 fNil)))
 fNil)
def FBpp : List V → Hp → Option (Loc × Hp) := fun vs hp => match ch (Nat.beq vs.length 3) (some (vs, hp)) with
  | none => none
  | some (vs', hp1) => some (vs'.map some ++ List.replicate 4 none, hp1)
section
variable {P : Par} {n : Nat}
theorem bBpp : bB = genBody (bB.take 3) (wTest bW) ((wBody bW).take 1) (wTest bI) (yOf bY) (yPos bY) (wPos bY) (wPos bI) ((wBody bW).drop 2) (wPos bW) := rfl
theorem genBpp (X : KOk P) : GenOk P (n + 20) Gbpp (bB.take 3) (wTest bW) ((wBody bW).take 1) (wTest bI) (yOf bY) (yPos bY) (wPos bY) (wPos bI) ((wBody bW).drop 2) pInit pTest pPre pCond pOut pPost where
  h1 := (SS.cons (S1.ife (SB.cmp (SE.loc (i := 1) rfl rfl rfl) (SE.loc (i := 2) rfl rfl rfl) (pNotIn.le (by omega))) (SS.cons S1.bad
 SS.nil) SS.nil)
 (SS.cons (S1.asg (i := 3) (SE.dict (SKs.cons (SE.loc (i := 1) rfl rfl rfl) (SE.callB1 (SE.bui rfl X.nIter X.bIter (fun _ _ => .bi _) rfl) (SE.sub (SE.loc (i := 2) rfl rfl rfl) (SE.loc (i := 1) rfl rfl rfl) (by omega)) pIterB) SKs.nil) (by omega) (.inl rfl) (by intro _; rfl) (by intro h; cases h) (by show _ ≤ _; decide)) rfl (by decide))
 (SS.cons (S1.asg (i := 4) (SE.lst (SEs.cons (SE.loc (i := 1) rfl rfl rfl) SEs.nil)) rfl (by decide))
 SS.nil)))
  h2 := (SB.tru (SE.loc (i := 3) rfl rfl rfl))
  h3 := (SS.cons (S1.asg (i := 5) (SE.sub (SE.loc (i := 4) rfl rfl rfl) SE.neg (by omega)) rfl (by decide))
 SS.nil)
  h4 := (SB.cmp (SE.loc (i := 5) rfl rfl rfl) (SE.loc (i := 0) rfl rfl rfl) (pIn.le (by omega)))
  h5 := (SE.sub (SE.loc (i := 4) rfl rfl rfl) (SE.slc SP.no SP.no (SP.so SE.neg)) (by omega))
  h6 := (SS.cons (S1.for (SI.of (SE.sub (SE.loc (i := 3) rfl rfl rfl) (SE.loc (i := 5) rfl rfl rfl) (by omega))) (SA.name (i := 6) rfl (by decide)) (SS.cons (S1.ife (SB.cmp (SE.loc (i := 6) rfl rfl rfl) (SE.loc (i := 3) rfl rfl rfl) (pIn.le (by omega))) (SS.cons S1.cont
 SS.nil) SS.nil)
 (SS.cons (S1.setI (SE.callB1 (SE.bui rfl X.nIter X.bIter (fun _ _ => .bi _) rfl) (SE.sub (SE.loc (i := 2) rfl rfl rfl) (SE.loc (i := 6) rfl rfl rfl) (by omega)) pIterB) (SE.loc (i := 3) rfl rfl rfl) (SE.loc (i := 6) rfl rfl rfl) (by omega))
 (SS.cons (S1.exp (SE.app (SE.loc (i := 4) rfl rfl rfl) (SE.loc (i := 6) rfl rfl rfl)) (notInt rfl))
 (SS.cons S1.brk
 SS.nil)))) (SS.cons (S1.exp (SE.popitem (SE.loc (i := 3) rfl rfl rfl)) (notInt rfl))
 (SS.cons (S1.exp (SE.pop (SE.loc (i := 4) rfl rfl rfl)) (notInt rfl))
 SS.nil)))
 SS.nil)
  co := fun env e => by rw [e]; rfl
  ia := notInt rfl
theorem fgBpp (X : KOk P) : FG P (n + 1) 334 Gbpp (genBody (bB.take 3) (wTest bW) ((wBody bW).take 1) (wTest bI) (yOf bY) (yPos bY) (wPos bY) (wPos bI) ((wBody bW).drop 2) (wPos bW)) FBpp :=
  X.fBpp.fgG (G := Gbpp) (names := ["sources", "target", "pred"]) (rest := 4) rfl rfl (by decide) rfl (by decide) rfl (fun fd h1 h2 h3 => Binds.plain rfl fun ws hw => by
    cases fd; dsimp only at h1 h2 h3; subst h1 h2 h3
    match ws, hw with
    | [a, b, c], _ => kernel_rfl)
end
def Gasp : Sg := ⟨sScope (topS 32), [("G", .loc), ("source", .loc), ("target", .loc), ("weight", .loc), ("method", .loc), ("pred", .loc), ("dist", .loc)]⟩
def bAsp (CG : Addr) : Loc → Hp → Option (Loc × Hp) :=
 fSeqG (fAsg (fIfE (bBin gIs (fLoc 3) (fK .none)) (fK (.str "unweighted")) (fLoc 4)) 4)
 (fSeqG (fIf (bBin gEq (fLoc 4) (fK (.str "unweighted"))) (fSeq (fAsg (fCall (FPred CG) (fCo (fLoc 0) (fCo (fLoc 1) fNo))) 5)
 fNil) (fSeq fBad
 fNil))
 (fCallG FBpp (fCo (fSet (fLoc 1)) (fCo (fLoc 2) (fCo (fLoc 5) fNo)))))
def FAsp (CG : Addr) : List V → Hp → Option (Loc × Hp) := fun vs hp => match ch (Nat.beq vs.length 3) (some (vs ++ [.none, .str "dijkstra"], hp)) with
  | none => none
  | some (vs', hp1) => bAsp CG (vs'.map some ++ List.replicate 2 none) hp1
section
variable {P : Par} {n : Nat}
theorem rgAsp (X : KOk P) : RG P (n + 24) Gasp (sBody (topS 32)) Gbpp (genBody (bB.take 3) (wTest bW) ((wBody bW).take 1) (wTest bI) (yOf bY) (yPos bY) (wPos bY) (wPos bI) ((wBody bW).drop 2) (wPos bW)) (bAsp P.CG) :=
  RG.cons (S1n.of (S1.asg (i := 4) (SE.ife (SB.cmp (SE.loc (i := 3) rfl rfl rfl) SE.cnone pIs) SE.cstr (SE.loc (i := 4) rfl rfl rfl)) rfl (by decide)))
  (RG.cons (S1n.ife (SB.cmp (SE.loc (i := 4) rfl rfl rfl) SE.cstr (pEq.le (by omega))) (SSn.cons (S1n.asg (i := 5) (SEn.callF (SE.top rfl X.gPred (fun _ _ => .st _) rfl) X.kpP (SEs.cons (SE.loc (i := 0) rfl rfl rfl) (SEs.cons (SE.loc (i := 1) rfl rfl rfl) SEs.nil)) ((fnPred (n := n) X).le (by omega))) rfl (by decide))
 (SSn.of SS.nil)) (SSn.of (SS.cons S1.bad
 SS.nil)))
  (RG.ret (SG.callF (SE.top rfl X.gBpp (fun _ _ => .st _) rfl) X.kpB (SEs.cons (SE.set1 (SE.loc (i := 1) rfl rfl rfl)) (SEs.cons (SE.loc (i := 2) rfl rfl rfl) (SEs.cons (SE.loc (i := 5) rfl rfl rfl) SEs.nil))) (fgBpp (n := n + 23) X))))
theorem fgAsp (X : KOk P) : FG P (n + 25) 327 Gbpp (genBody (bB.take 3) (wTest bW) ((wBody bW).take 1) (wTest bI) (yOf bY) (yPos bY) (wPos bY) (wPos bI) ((wBody bW).drop 2) (wPos bW)) (FAsp P.CG) := by
  obtain ⟨T, m, t, hX, ht⟩ := X.fAsp
  exact hX.fg (G := Gasp) (names := ["G", "source", "target", "weight", "method"]) (rest := 2) rfl rfl (by decide) rfl (by decide) rfl (fun fd h1 h2 h3 => Binds.defaults (k := 3) (ds := [.none, .str "dijkstra"]) (items := [.none, .str "dijkstra" t]) rfl ht (fun _ _ _ => .cons .none (.cons (.str _ _) .nil)) fun ws hw M A Q E s he hQ => by
    cases fd; dsimp only at h1 h2 h3; subst h1 h2 h3
    match ws, hw with
    | [a, b, c], _ => exact BindsTo.of_defaults (binds := _) rfl he rfl rfl (by kernel_rfl) _ _ _ _ hQ) (rgAsp X)
end
end
end Mine
end
section
open PySem PySem.Calls PyProof.Rows PySem.W
set_option maxRecDepth 100000
set_option linter.unusedSimpArgs false
set_option linter.unusedVariables false
namespace Mine
noncomputable section

theorem look_mem {α : Type} : ∀ {l : List (Str × α)} {x : Str} {v : α}, l.lookup x = some v → (x, v) ∈ l
  | [], _, _, h => by cases h
  | (a, b) :: l, x, v, h => by
    rw [List.lookup_cons] at h
    split at h
    · rename_i q
      cases h
      rw [eq_of_beq q]
      exact List.mem_cons_self
    · exact List.mem_cons_of_mem _ (look_mem h)
theorem heT {es r : List Expr} {k : Nat} {p : Pos} : ∀ env, starEach (.Tuple es k p :: r) env = (false, eval (.Tuple es k p) env) :: starEach r env := fun _ => rfl
def dzip : List (Option Expr) → List Expr → List (Expr × Expr)
  | some a :: l, b :: r => (a, b) :: dzip l r
  | _, _ => []
theorem SE.dictZ {P : Par} {n : Nat} {G : Sg} {keys : List (Option Expr)} {values : List Expr} {pos : Pos} {o : O} {fs : List ((Loc → Hp → Option (V × Hp)) × (Loc → Hp → Option (V × Hp)))} (x : SKs P n G (dzip keys values) fs) (h8 : 8 ≤ n) (ho : o = .dI [] 0 ∨ o = .dT [])
    (hshape : ∀ env, (evalEachOpt keys env).zip ((evalEach values env).map fun v => do let x ← v; standAt pos; pure x) = ((dzip keys values).map fun p => (eval p.1 env, do let x ← eval p.2 env; standAt pos; pure x)).map fun p => (some p.1, p.2))
    (h0 : dzip keys values ≠ []) (hlen : (dzip keys values).length ≤ 15) : SE P n G (.Dict keys values pos) (fDict o fs) := SE.dict x h8 ho hshape h0 hlen
theorem CompOk.of {G : Sg} {scope : Scope} {vars : List (Str × VK)} {spec : List (Option Nat)} {x : Option Str} (kind : scope.kind = .function) (names : ∀ y ∈ scope.names, y.2 = .local → scope.names.lookup y.1 = some .local) (ok : (G.inner scope vars).ok = true) (caps : capsOk G scope vars spec = true)
    (cel : ∀ p ∈ scope.names, p.2 = .cell → x = some p.1) (free : ∀ p ∈ scope.names, p.2 = .free → (G.vars.any fun q => q.1 == p.1 && q.2 != .loc) = true) (xfree : ∀ y, x = some y → isFree scope.names y = false)
    (cf : ∀ n cl, cellsFrom n scope.names cl = ownC x n cl) (pc : ∀ h, pushCells h scope.names = ownH x h) : CompOk G scope vars spec x := by
  refine ⟨kind, names, ok, caps, fun y h => cel _ (look_mem h) rfl, fun y h => ?_, xfree, cf, pc⟩
  unfold isFree at h
  obtain ⟨p, hp, hq⟩ := List.any_eq_true.mp h
  simp only [Bool.and_eq_true, beq_iff_eq] at hq
  obtain ⟨q, hq1, hq2⟩ := List.any_eq_true.mp (free p hp hq.2)
  simp only [Bool.and_eq_true, beq_iff_eq, bne_iff_ne] at hq2
  obtain ⟨j, hj⟩ := List.getElem?_of_mem hq1
  obtain ⟨qn, qk⟩ := q
  dsimp only at hq2
  exact ⟨j, qk, by rw [hj, hq2.1, hq.1], hq2.2⟩
def fDrawX (sa : Addr) : Loc → Hp → Option (V × Hp) := fun loc hp => match lget loc 1 with
  | some (.st a) => ch (Nat.beq a sa) (fDrawE loc hp)
  | _ => none
def Glaw : Sg := ⟨sScope (topS 51), [("script", .cel), ("draw", .cel), ("mirrors", .loc), ("lengths", .loc), ("ring", .cel), ("unmoved", .loc), ("words", .loc), ("places", .cel), ("steps", .loc), ("place", .cel), ("letter", .loc), ("onward", .loc), ("names", .cel), ("letters", .cel), ("net", .loc), ("goal", .loc), ("alike", .loc), ("word", .loc), ("k", .loc), ("one", .cel), ("two", .cel), ("row", .loc), ("other", .loc), ("told", .loc), ("way", .loc)]⟩
set_option maxHeartbeats 1000000
section
variable {P : Par} {n : Nat}
def fst0 (CG : Addr) (c : Cfg) (sa : Addr) : Loc → Hp → Option (Fl × Loc × Hp) :=
 (fAsg (fComp 200 [none, some 0] (fIt (fUn gRange (fK (.int 3)))) (aName 0) (fDrawX sa)) 1)
theorem st0 {sa : Addr} (X : KOk P) (D : DrawOk P sa 915) : S1 P (n + 30) Glaw (nth (sBody (topS 51)) 0) (fst0 P.CG P.c sa) :=
 (S1.asg (i := 1) (SE.comp (vars := [("k", .loc), ("script", .cap)]) (x := none) (CompOk.of rfl (by decide +kernel) rfl rfl (by decide +kernel) (by decide +kernel) (by intro y h; cases h <;> rfl) (by intro _ _; rfl) (by intro _; rfl)) (SI.of (SE.callT1 (SE.bui rfl X.nRange X.bRange (fun _ _ => .ty _) rfl) SE.cint pRange)) (SA.name (i := 0) rfl (by decide)) (draw_elt D (by omega) rfl rfl (SE.bui rfl X.nLen X.bLen (fun _ _ => .bi _) rfl) rfl rfl rfl rfl rfl)) rfl (by decide) (hs := (by intro env e; cases env; dsimp only at e; subst e; rfl)))
def fst1 (CG : Addr) (c : Cfg) (sa : Addr) : Loc → Hp → Option (Fl × Loc × Hp) :=
 (fIf (bBin gEq (fBin (gMod c) (fBin gItem (fLoc 1) (fK (.int 0))) (fK (.int 5))) (fK (.int 0))) (fSeq (fAsg (fLst (fCo (fTup (fCo (fK (.int 1)) (fCo (fK (.int 0)) (fCo (fK (.int 2)) (fCo (fK (.int 3)) fNo))))) (fCo (fTup (fCo (fK (.int 0)) (fCo (fK (.int 2)) (fCo (fK (.int 1)) (fCo (fK (.int 3)) fNo))))) (fCo (fTup (fCo (fK (.int 0)) (fCo (fK (.int 1)) (fCo (fK (.int 3)) (fCo (fK (.int 2)) fNo))))) fNo)))) 2)
 (fSeq (fAsg (fDict (.dT []) [((fTup (fCo (fK (.int 0)) (fCo (fK (.int 1)) fNo))), (fK (.int 3))), ((fTup (fCo (fK (.int 0)) (fCo (fK (.int 2)) fNo))), (fK (.int 2))), ((fTup (fCo (fK (.int 1)) (fCo (fK (.int 2)) fNo))), (fK (.int 3)))]) 3)
 fNil)) (fSeq (fAsg (fBin gAdd (fK (.int 2)) (fBin (gMod c) (fBin gItem (fLoc 1) (fK (.int 0))) (fK (.int 5)))) 4)
 (fSeq (fAsg (fComp 200 [none, some 4] (fIt (fTup (fCo (fK (.int 0)) (fCo (fK (.int 1)) fNo)))) (aName 0) (fUn gTuple (fBin gAdd (fComp 200 [none, some 1, some 0] (fIt (fUn gRange (fLoc 1))) (aName 0) (fBin (gMod c) (fBin gSub (fLoc 2) (fLoc 0)) (fLoc 1))) (fLst (fCo (fLoc 1) (fCo (fBin gAdd (fLoc 1) (fK (.int 1))) fNo)))))) 2)
 (fSeq (fExp (fMet isLst gApp (fLoc 2) (fUn gTuple (fBin gAdd (fUn gList (fUn gRange (fLoc 4))) (fLst (fCo (fBin gAdd (fLoc 4) (fK (.int 1))) (fCo (fLoc 4) fNo)))))))
 (fSeq (fAsg (fDict (.dT []) [((fTup (fCo (fK (.int 0)) (fCo (fK (.int 1)) fNo))), (fLoc 4)), ((fTup (fCo (fK (.int 0)) (fCo (fK (.int 2)) fNo))), (fK (.int 2))), ((fTup (fCo (fK (.int 1)) (fCo (fK (.int 2)) fNo))), (fK (.int 2)))]) 3)
 fNil)))))
theorem st1 {sa : Addr} (X : KOk P) (D : DrawOk P sa 915) : S1 P (n + 30) Glaw (nth (sBody (topS 51)) 1) (fst1 P.CG P.c sa) :=
 (by refine S1.ife ?_ ?_ ?_; exact (SB.cmp (SE.bin (SE.sub (SE.loc (i := 1) rfl rfl rfl) SE.cint (by omega)) SE.cint pMod) SE.cint (pEq.le (by omega))); exact (by refine SS.cons ?_ ?_; exact (by refine S1.asg (i := 2) (x := "mirrors") (k := .loc) ?_ ?_ ?_ ?_; exact (SE.lst (by refine SEs.cons ?_ ?_ ?_; exact (SE.tup (SEs.cons SE.cint (SEs.cons SE.cint (SEs.cons SE.cint (SEs.cons SE.cint SEs.nil))))); exact (by refine SEs.cons ?_ ?_ ?_; exact (SE.tup (SEs.cons SE.cint (SEs.cons SE.cint (SEs.cons SE.cint (SEs.cons SE.cint SEs.nil))))); exact (by refine SEs.cons ?_ ?_ ?_; exact (SE.tup (SEs.cons SE.cint (SEs.cons SE.cint (SEs.cons SE.cint (SEs.cons SE.cint SEs.nil))))); exact SEs.nil; exact heT); exact heT); exact heT)); rfl; decide; intro env e; kernel_rfl); exact (by refine SS.cons ?_ ?_; exact (by refine S1.asg (i := 3) (x := "lengths") (k := .loc) ?_ ?_ ?_ ?_; exact (by refine SE.dictZ ?_ ?_ ?_ ?_ ?_ ?_; refine SKs.cons ?_ ?_ ?_; exact (SE.tup (SEs.cons SE.cint (SEs.cons SE.cint SEs.nil))); exact SE.cint; refine SKs.cons ?_ ?_ ?_; exact (SE.tup (SEs.cons SE.cint (SEs.cons SE.cint SEs.nil))); exact SE.cint; refine SKs.cons ?_ ?_ ?_; exact (SE.tup (SEs.cons SE.cint (SEs.cons SE.cint SEs.nil))); exact SE.cint; exact SKs.nil; omega; exact (.inr rfl); intro _; rfl; intro h; cases h; show _ ≤ _; decide); rfl; decide; intro env e; kernel_rfl); exact SS.nil)); exact (by refine SS.cons ?_ ?_; exact (S1.asg (i := 4) (SE.bin SE.cint (SE.bin (SE.sub (SE.loc (i := 1) rfl rfl rfl) SE.cint (by omega)) SE.cint pMod) pAdd) rfl (by decide)); exact (by refine SS.cons ?_ ?_; exact (S1.asgC (i := 2) (vars := [("turn", .cel), ("ring", .cap)]) (x := (some "turn")) (CompOk.of rfl (by decide +kernel) rfl rfl (by decide +kernel) (by decide +kernel) (by intro y h; cases h <;> rfl) (by intro _ _; rfl) (by intro _; rfl)) (SI.of (SE.tup (SEs.cons SE.cint (SEs.cons SE.cint SEs.nil)))) (SA.name (i := 0) rfl (by decide)) (SE.callT1 (SE.bui rfl X.nTuple X.bTuple (fun _ _ => .ty _) rfl) (SE.bin (SE.comp (vars := [("x", .loc), ("ring", .cap), ("turn", .cap)]) (x := none) (CompOk.of rfl (by decide +kernel) rfl rfl (by decide +kernel) (by decide +kernel) (by intro y h; cases h <;> rfl) (by intro _ _; rfl) (by intro _; rfl)) (SI.of (SE.callT1 (SE.bui rfl X.nRange X.bRange (fun _ _ => .ty _) rfl) (SE.loc (i := 1) rfl rfl rfl) pRange)) (SA.name (i := 0) rfl (by decide)) (SE.bin (SE.bin (SE.loc (i := 2) rfl rfl rfl) (SE.loc (i := 0) rfl rfl rfl) pSub) (SE.loc (i := 1) rfl rfl rfl) pMod)) (SE.lst (SEs.cons (SE.loc (i := 1) rfl rfl rfl) (SEs.cons (SE.bin (SE.loc (i := 1) rfl rfl rfl) SE.cint pAdd) SEs.nil))) pAdd) pTuple) rfl (by intro env e; cases env; dsimp only at e; subst e; rfl)); exact (by refine SS.cons ?_ ?_; exact (S1.exp (SE.app (SE.loc (i := 2) rfl rfl rfl) (SE.callT1 (SE.bui rfl X.nTuple X.bTuple (fun _ _ => .ty _) rfl) (SE.bin (SE.callT1 (SE.bui rfl X.nList X.bList (fun _ _ => .ty _) rfl) (SE.callT1 (SE.bui rfl X.nRange X.bRange (fun _ _ => .ty _) rfl) (SE.loc (i := 4) rfl rfl rfl) pRange) pList) (SE.lst (SEs.cons (SE.bin (SE.loc (i := 4) rfl rfl rfl) SE.cint pAdd) (SEs.cons (SE.loc (i := 4) rfl rfl rfl) SEs.nil))) pAdd) pTuple)) (notInt rfl)); exact (by refine SS.cons ?_ ?_; exact (by refine S1.asg (i := 3) (x := "lengths") (k := .loc) ?_ ?_ ?_ ?_; exact (by refine SE.dictZ ?_ ?_ ?_ ?_ ?_ ?_; refine SKs.cons ?_ ?_ ?_; exact (SE.tup (SEs.cons SE.cint (SEs.cons SE.cint SEs.nil))); exact (SE.loc (i := 4) rfl rfl rfl); refine SKs.cons ?_ ?_ ?_; exact (SE.tup (SEs.cons SE.cint (SEs.cons SE.cint SEs.nil))); exact SE.cint; refine SKs.cons ?_ ?_ ?_; exact (SE.tup (SEs.cons SE.cint (SEs.cons SE.cint SEs.nil))); exact SE.cint; exact SKs.nil; omega; exact (.inr rfl); intro _; rfl; intro h; cases h; show _ ≤ _; decide); rfl; decide; intro env e; kernel_rfl); exact SS.nil)))))
def fst2 (CG : Addr) (c : Cfg) (sa : Addr) : Loc → Hp → Option (Fl × Loc × Hp) :=
 (fAsg (fUn gTuple (fUn gRange (fUn gLen (fBin gItem (fLoc 2) (fK (.int 0)))))) 5)
theorem st2 {sa : Addr} (X : KOk P) (D : DrawOk P sa 915) : S1 P (n + 30) Glaw (nth (sBody (topS 51)) 2) (fst2 P.CG P.c sa) :=
 (S1.asg (i := 5) (SE.callT1 (SE.bui rfl X.nTuple X.bTuple (fun _ _ => .ty _) rfl) (SE.callT1 (SE.bui rfl X.nRange X.bRange (fun _ _ => .ty _) rfl) (SE.callB1 (SE.bui rfl X.nLen X.bLen (fun _ _ => .bi _) rfl) (SE.sub (SE.loc (i := 2) rfl rfl rfl) SE.cint (by omega)) pLen) pRange) pTuple) rfl (by decide))
def fst3 (CG : Addr) (c : Cfg) (sa : Addr) : Loc → Hp → Option (Fl × Loc × Hp) :=
 (fAsgT (fTup (fCo (fDict (.dT []) [((fLoc 5), (fTup fNo))]) (fCo (fLst (fCo (fLoc 5) fNo)) (fCo (fLst fNo) fNo)))) (aTup [(aName 6), (aName 7), (aName 8)]))
theorem st3 {sa : Addr} (X : KOk P) (D : DrawOk P sa 915) : S1 P (n + 30) Glaw (nth (sBody (topS 51)) 3) (fst3 P.CG P.c sa) :=
 (S1.asgT (SE.tup (SEs.cons (SE.dict (SKs.cons (SE.loc (i := 5) rfl rfl rfl) (SE.tup SEs.nil) SKs.nil) (by omega) (.inr rfl) (by intro _; rfl) (by intro h; cases h) (by show _ ≤ _; decide)) (SEs.cons (SE.lst (SEs.cons (SE.loc (i := 5) rfl rfl rfl) SEs.nil)) (SEs.cons (SE.lst SEs.nil) SEs.nil)))) (SA.tup (SAs.cons (SA.name (i := 6) rfl (by decide)) (by intro _; rfl) (SAs.cons (SA.name (i := 7) rfl (by decide)) (by intro _; rfl) (SAs.cons (SA.name (i := 8) rfl (by decide)) (by intro _; rfl) SAs.nil)))) (hw := by intro env e; cases env; dsimp only at e; subst e; rfl))
def fst4 (CG : Addr) (c : Cfg) (sa : Addr) : Loc → Hp → Option (Fl × Loc × Hp) :=
 (fFor 200 (fIt (fLoc 7)) (aName 9) (fSeq (fFor 200 (fIt (fUn gRange (fK (.int 3)))) (aName 10) (fSeq (fAsg (fUn gTuple (fComp 200 [none, some 9] (fIt (fBin gItem (fLoc 2) (fLoc 10))) (aName 0) (fBin gItem (fLoc 1) (fLoc 0)))) 11)
 (fSeq (fIf (bBin gNotIn (fLoc 11) (fLoc 6)) (fSeq (fSetI (fBin gAdd (fBin gItem (fLoc 6) (fLoc 9)) (fTup (fCo (fLoc 10) fNo))) (fLoc 6) (fLoc 11))
 (fSeq (fExp (fMet isLst gApp (fLoc 7) (fLoc 11)))
 fNil)) fNil)
 (fSeq (fExp (fMet isLst gApp (fLoc 8) (fTup (fCo (fLoc 9) (fCo (fLoc 11) (fCo (fLoc 10) fNo))))))
 fNil))) fNil)
 fNil) fNil)
theorem st4 {sa : Addr} (X : KOk P) (D : DrawOk P sa 915) : S1 P (n + 30) Glaw (nth (sBody (topS 51)) 4) (fst4 P.CG P.c sa) :=
 (S1.for (SI.of (SE.loc (i := 7) rfl rfl rfl)) (SA.name (i := 9) rfl (by decide)) (SS.cons (S1.for (SI.of (SE.callT1 (SE.bui rfl X.nRange X.bRange (fun _ _ => .ty _) rfl) SE.cint pRange)) (SA.name (i := 10) rfl (by decide)) (SS.cons (S1.asg (i := 11) (SE.callT1 (SE.bui rfl X.nTuple X.bTuple (fun _ _ => .ty _) rfl) (SE.comp (vars := [("x", .loc), ("place", .cap)]) (x := none) (CompOk.of rfl (by decide +kernel) rfl rfl (by decide +kernel) (by decide +kernel) (by intro y h; cases h <;> rfl) (by intro _ _; rfl) (by intro _; rfl)) (SI.of (SE.sub (SE.loc (i := 2) rfl rfl rfl) (SE.loc (i := 10) rfl rfl rfl) (by omega))) (SA.name (i := 0) rfl (by decide)) (SE.sub (SE.loc (i := 1) rfl rfl rfl) (SE.loc (i := 0) rfl rfl rfl) (by omega))) pTuple) rfl (by decide))
 (SS.cons (S1.ife (SB.cmp (SE.loc (i := 11) rfl rfl rfl) (SE.loc (i := 6) rfl rfl rfl) (pNotIn.le (by omega))) (SS.cons (S1.setI (SE.bin (SE.sub (SE.loc (i := 6) rfl rfl rfl) (SE.loc (i := 9) rfl rfl rfl) (by omega)) (SE.tup (SEs.cons (SE.loc (i := 10) rfl rfl rfl) SEs.nil)) pAdd) (SE.loc (i := 6) rfl rfl rfl) (SE.loc (i := 11) rfl rfl rfl) (by omega))
 (SS.cons (S1.exp (SE.app (SE.loc (i := 7) rfl rfl rfl) (SE.loc (i := 11) rfl rfl rfl)) (notInt rfl))
 SS.nil)) SS.nil)
 (SS.cons (S1.exp (SE.app (SE.loc (i := 8) rfl rfl rfl) (SE.tup (SEs.cons (SE.loc (i := 9) rfl rfl rfl) (SEs.cons (SE.loc (i := 11) rfl rfl rfl) (SEs.cons (SE.loc (i := 10) rfl rfl rfl) SEs.nil))))) (notInt rfl))
 SS.nil))) SS.nil)
 SS.nil) SS.nil)
def fst5 (CG : Addr) (c : Cfg) (sa : Addr) : Loc → Hp → Option (Fl × Loc × Hp) :=
 (fAsg (fDComp It.pr 200 [none, some 7, some 1] (fIt (fUn gRange (fUn gLen (fLoc 7)))) (aName 0) (fBin gItem (fLoc 1) (fLoc 0)) (fBin (gMod c) (fBin gAdd (fLoc 0) (fBin gItem (fLoc 2) (fK (.int 2)))) (fUn gLen (fLoc 1)))) 12)
theorem st5 {sa : Addr} (X : KOk P) (D : DrawOk P sa 915) : S1 P (n + 30) Glaw (nth (sBody (topS 51)) 5) (fst5 P.CG P.c sa) :=
 (S1.asg (i := 12) (SE.dcomp (vars := [("k", .loc), ("places", .cap), ("draw", .cap)]) (x := none) (CompOk.of rfl (by decide +kernel) rfl rfl (by decide +kernel) (by decide +kernel) (by intro y h; cases h <;> rfl) (by intro _ _; rfl) (by intro _; rfl)) (SI.of (SE.callT1 (SE.bui rfl X.nRange X.bRange (fun _ _ => .ty _) rfl) (SE.callB1 (SE.bui rfl X.nLen X.bLen (fun _ _ => .bi _) rfl) (SE.loc (i := 7) rfl rfl rfl) pLen) pRange)) (SA.name (i := 0) rfl (by decide)) (SE.sub (SE.loc (i := 1) rfl rfl rfl) (SE.loc (i := 0) rfl rfl rfl) (by omega)) (SE.bin (SE.bin (SE.loc (i := 0) rfl rfl rfl) (SE.sub (SE.loc (i := 2) rfl rfl rfl) SE.cint (by omega)) pAdd) (SE.callB1 (SE.bui rfl X.nLen X.bLen (fun _ _ => .bi _) rfl) (SE.loc (i := 1) rfl rfl rfl) pLen) pMod) (.inl rfl) (Lets.plain (by intro _ _; rfl))) rfl (by decide) (hs := by intro env e; cases env; dsimp only at e; subst e; rfl))
def fst6 (CG : Addr) (c : Cfg) (sa : Addr) : Loc → Hp → Option (Fl × Loc × Hp) :=
 (fAsg (fDComp It.isLi 200 [none, none, none, some 12] (fIt (fLoc 8)) (aTup [(aName 0), (aName 1), (aName 2)]) (fTup (fCo (fBin gItem (fLoc 3) (fLoc 0)) (fCo (fBin gItem (fLoc 3) (fLoc 1)) fNo))) (fLoc 2)) 13)
theorem st6 {sa : Addr} (X : KOk P) (D : DrawOk P sa 915) : S1 P (n + 30) Glaw (nth (sBody (topS 51)) 6) (fst6 P.CG P.c sa) :=
 (S1.asg (i := 13) (SE.dcomp (vars := [("here", .loc), ("there", .loc), ("letter", .loc), ("names", .cap)]) (x := none) (CompOk.of rfl (by decide +kernel) rfl rfl (by decide +kernel) (by decide +kernel) (by intro y h; cases h <;> rfl) (by intro _ _; rfl) (by intro _; rfl)) (SI.of (SE.loc (i := 8) rfl rfl rfl)) (SA.tup (SAs.cons (SA.name (i := 0) rfl (by decide)) (by intro _; rfl) (SAs.cons (SA.name (i := 1) rfl (by decide)) (by intro _; rfl) (SAs.cons (SA.name (i := 2) rfl (by decide)) (by intro _; rfl) SAs.nil)))) (SE.tup (SEs.cons (SE.sub (SE.loc (i := 3) rfl rfl rfl) (SE.loc (i := 0) rfl rfl rfl) (by omega)) (SEs.cons (SE.sub (SE.loc (i := 3) rfl rfl rfl) (SE.loc (i := 1) rfl rfl rfl) (by omega)) SEs.nil))) (SE.loc (i := 2) rfl rfl rfl) (.inr rfl) Lets.tup) rfl (by decide) (hs := by intro env e; cases env; dsimp only at e; subst e; rfl))
def fst7 (CG : Addr) (c : Cfg) (sa : Addr) : Loc → Hp → Option (Fl × Loc × Hp) :=
 (fAsg (fNewG FInit) 14)
theorem st7 {sa : Addr} (X : KOk P) (D : DrawOk P sa 915) : S1 P (n + 30) Glaw (nth (sBody (topS 51)) 7) (fst7 P.CG P.c sa) :=
 (S1.asg (i := 14) (SE.newG (SE.top rfl X.gG (fun _ _ => .st _) rfl) X.gk X.gm X.gi X.gt ((fnGinit (n := n) X).le (by omega))) rfl (by decide))
def fst8 (CG : Addr) (c : Cfg) (sa : Addr) : Loc → Hp → Option (Fl × Loc × Hp) :=
 (fExp (fMetF FAdd (fLoc 14) (fCo (fUn gList (fLoc 13)) fNo)))
theorem st8 {sa : Addr} (X : KOk P) (D : DrawOk P sa 915) : S1 P (n + 30) Glaw (nth (sBody (topS 51)) 8) (fst8 P.CG P.c sa) :=
 (S1.exp (SE.callM X.met (SE.loc (i := 14) rfl rfl rfl) (SEs.cons (SE.callT1 (SE.bui rfl X.nList X.bList (fun _ _ => .ty _) rfl) (SE.loc (i := 13) rfl rfl rfl) pList) SEs.nil) ((fnAdd (n := n) X).le (by omega))) (notInt rfl))
def fst9 (CG : Addr) (c : Cfg) (sa : Addr) : Loc → Hp → Option (Fl × Loc × Hp) :=
 (fAsg (fBin gItem (fLoc 7) (fBin (gMod c) (fBin gItem (fLoc 1) (fK (.int 1))) (fUn gLen (fLoc 7)))) 15)
theorem st9 {sa : Addr} (X : KOk P) (D : DrawOk P sa 915) : S1 P (n + 30) Glaw (nth (sBody (topS 51)) 9) (fst9 P.CG P.c sa) :=
 (S1.asg (i := 15) (SE.sub (SE.loc (i := 7) rfl rfl rfl) (SE.bin (SE.sub (SE.loc (i := 1) rfl rfl rfl) SE.cint (by omega)) (SE.callB1 (SE.bui rfl X.nLen X.bLen (fun _ _ => .bi _) rfl) (SE.loc (i := 7) rfl rfl rfl) pLen) pMod) (by omega)) rfl (by decide))
def fst10 (CG : Addr) (c : Cfg) (sa : Addr) : Loc → Hp → Option (Fl × Loc × Hp) :=
 (fAsg (fLst (fCo (fBin gItem (fLoc 6) (fLoc 15)) fNo)) 16)
theorem st10 {sa : Addr} (X : KOk P) (D : DrawOk P sa 915) : S1 P (n + 30) Glaw (nth (sBody (topS 51)) 10) (fst10 P.CG P.c sa) :=
 (by refine S1.asg (i := 16) (x := "alike") (k := .loc) ?_ ?_ ?_ ?_; exact (SE.lst (SEs.cons (SE.sub (SE.loc (i := 6) rfl rfl rfl) (SE.loc (i := 15) rfl rfl rfl) (by omega)) SEs.nil)); rfl; decide; intro env e; kernel_rfl)
def fst11 (CG : Addr) (c : Cfg) (sa : Addr) : Loc → Hp → Option (Fl × Loc × Hp) :=
 (fFor 200 (fIt (fLoc 16)) (aName 17) (fSeq (fFor 200 (fIt (fUn gRange (fBin gSub (fUn gLen (fLoc 17)) (fK (.int 1))))) (aName 18) (fSeq (fAsgT (fTup (fCo (fBin gItem (fLoc 17) (fLoc 18)) (fCo (fBin gItem (fLoc 17) (fBin gAdd (fLoc 18) (fK (.int 1)))) fNo))) (aTup [(aName 19), (aName 20)]))
 (fSeq (fAsg (fComp 200 [none, some 19, some 20] (fIt (fUn gRange (fBin gItem (fLoc 3) (fTup (fCo (fBin gMin (fLoc 19) (fLoc 20)) (fCo (fBin gMax (fLoc 19) (fLoc 20)) fNo)))))) (aName 0) (fBin gItem (fTup (fCo (fLoc 1) (fCo (fLoc 2) fNo))) (fBin (gMod c) (fLoc 0) (fK (.int 2))))) 21)
 (fSeq (fIf (bBin gEq (fUn gList (fBin gItem (fLoc 17) (fSlc (pSo (fLoc 18)) (pSo (fBin gAdd (fLoc 18) (fUn gLen (fLoc 21)))) pNo))) (fLoc 21)) (fSeq (fAsg (fBin gAdd (fBin gAdd (fBin gItem (fLoc 17) (fSlc pNo (pSo (fLoc 18)) pNo)) (fUn gTuple (fComp 200 [none, some 20, some 19] (fIt (fUn gRange (fUn gLen (fLoc 21)))) (aName 0) (fBin gItem (fTup (fCo (fLoc 1) (fCo (fLoc 2) fNo))) (fBin (gMod c) (fLoc 0) (fK (.int 2))))))) (fBin gItem (fLoc 17) (fSlc (pSo (fBin gAdd (fLoc 18) (fUn gLen (fLoc 21)))) pNo pNo))) 22)
 (fSeq (fIf (bBin gNotIn (fLoc 22) (fLoc 16)) (fSeq (fExp (fMet isLst gApp (fLoc 16) (fLoc 22)))
 fNil) fNil)
 fNil)) fNil)
 fNil))) fNil)
 fNil) fNil)
theorem st11 {sa : Addr} (X : KOk P) (D : DrawOk P sa 915) : S1 P (n + 30) Glaw (nth (sBody (topS 51)) 11) (fst11 P.CG P.c sa) :=
 (S1.for (SI.of (SE.loc (i := 16) rfl rfl rfl)) (SA.name (i := 17) rfl (by decide)) (SS.cons (S1.for (SI.of (SE.callT1 (SE.bui rfl X.nRange X.bRange (fun _ _ => .ty _) rfl) (SE.bin (SE.callB1 (SE.bui rfl X.nLen X.bLen (fun _ _ => .bi _) rfl) (SE.loc (i := 17) rfl rfl rfl) pLen) SE.cint pSub) pRange)) (SA.name (i := 18) rfl (by decide)) (SS.cons (S1.asgT (SE.tup (SEs.cons (SE.sub (SE.loc (i := 17) rfl rfl rfl) (SE.loc (i := 18) rfl rfl rfl) (by omega)) (SEs.cons (SE.sub (SE.loc (i := 17) rfl rfl rfl) (SE.bin (SE.loc (i := 18) rfl rfl rfl) SE.cint pAdd) (by omega)) SEs.nil))) (SA.tup (SAs.cons (SA.name (i := 19) rfl (by decide)) (by intro _; rfl) (SAs.cons (SA.name (i := 20) rfl (by decide)) (by intro _; rfl) SAs.nil))) (hw := by intro env e; cases env; dsimp only at e; subst e; rfl))
 (SS.cons (S1.asgC (i := 21) (vars := [("m", .loc), ("one", .cap), ("two", .cap)]) (x := none) (CompOk.of rfl (by decide +kernel) rfl rfl (by decide +kernel) (by decide +kernel) (by intro y h; cases h <;> rfl) (by intro _ _; rfl) (by intro _; rfl)) (SI.of (SE.callT1 (SE.bui rfl X.nRange X.bRange (fun _ _ => .ty _) rfl) (SE.sub (SE.loc (i := 3) rfl rfl rfl) (SE.tup (SEs.cons (SE.callB2 (SE.bui rfl X.nMin X.bMin (fun _ _ => .bi _) rfl) (SE.loc (i := 19) rfl rfl rfl) (SE.loc (i := 20) rfl rfl rfl) pMin) (SEs.cons (SE.callB2 (SE.bui rfl X.nMax X.bMax (fun _ _ => .bi _) rfl) (SE.loc (i := 19) rfl rfl rfl) (SE.loc (i := 20) rfl rfl rfl) pMax) SEs.nil))) (by omega)) pRange)) (SA.name (i := 0) rfl (by decide)) (SE.sub (SE.tup (SEs.cons (SE.loc (i := 1) rfl rfl rfl) (SEs.cons (SE.loc (i := 2) rfl rfl rfl) SEs.nil))) (SE.bin (SE.loc (i := 0) rfl rfl rfl) SE.cint pMod) (by omega)) rfl (by intro env e; cases env; dsimp only at e; subst e; rfl))
 (SS.cons (S1.ife (SB.cmp (SE.callT1 (SE.bui rfl X.nList X.bList (fun _ _ => .ty _) rfl) (SE.sub (SE.loc (i := 17) rfl rfl rfl) (SE.slc (SP.so (SE.loc (i := 18) rfl rfl rfl)) (SP.so (SE.bin (SE.loc (i := 18) rfl rfl rfl) (SE.callB1 (SE.bui rfl X.nLen X.bLen (fun _ _ => .bi _) rfl) (SE.loc (i := 21) rfl rfl rfl) pLen) pAdd)) SP.no) (by omega)) pList) (SE.loc (i := 21) rfl rfl rfl) (pEq.le (by omega))) (SS.cons (S1.asg (i := 22) (SE.bin (SE.bin (SE.sub (SE.loc (i := 17) rfl rfl rfl) (SE.slc SP.no (SP.so (SE.loc (i := 18) rfl rfl rfl)) SP.no) (by omega)) (SE.callT1 (SE.bui rfl X.nTuple X.bTuple (fun _ _ => .ty _) rfl) (SE.comp (vars := [("m", .loc), ("two", .cap), ("one", .cap)]) (x := none) (CompOk.of rfl (by decide +kernel) rfl rfl (by decide +kernel) (by decide +kernel) (by intro y h; cases h <;> rfl) (by intro _ _; rfl) (by intro _; rfl)) (SI.of (SE.callT1 (SE.bui rfl X.nRange X.bRange (fun _ _ => .ty _) rfl) (SE.callB1 (SE.bui rfl X.nLen X.bLen (fun _ _ => .bi _) rfl) (SE.loc (i := 21) rfl rfl rfl) pLen) pRange)) (SA.name (i := 0) rfl (by decide)) (SE.sub (SE.tup (SEs.cons (SE.loc (i := 1) rfl rfl rfl) (SEs.cons (SE.loc (i := 2) rfl rfl rfl) SEs.nil))) (SE.bin (SE.loc (i := 0) rfl rfl rfl) SE.cint pMod) (by omega))) pTuple) pAdd) (SE.sub (SE.loc (i := 17) rfl rfl rfl) (SE.slc (SP.so (SE.bin (SE.loc (i := 18) rfl rfl rfl) (SE.callB1 (SE.bui rfl X.nLen X.bLen (fun _ _ => .bi _) rfl) (SE.loc (i := 21) rfl rfl rfl) pLen) pAdd)) SP.no SP.no) (by omega)) pAdd) rfl (by decide))
 (SS.cons (S1.ife (SB.cmp (SE.loc (i := 22) rfl rfl rfl) (SE.loc (i := 16) rfl rfl rfl) (pNotIn.le (by omega))) (SS.cons (S1.exp (SE.app (SE.loc (i := 16) rfl rfl rfl) (SE.loc (i := 22) rfl rfl rfl)) (notInt rfl))
 SS.nil) SS.nil)
 SS.nil)) SS.nil)
 SS.nil))) SS.nil)
 SS.nil) SS.nil)
def fst12 (CG : Addr) (c : Cfg) (sa : Addr) : Loc → Hp → Option (Fl × Loc × Hp) :=
 (fAsg (fLst fNo) 23)
theorem st12 {sa : Addr} (X : KOk P) (D : DrawOk P sa 915) : S1 P (n + 30) Glaw (nth (sBody (topS 51)) 12) (fst12 P.CG P.c sa) :=
 (by refine S1.asg (i := 23) (x := "told") (k := .loc) ?_ ?_ ?_ ?_; exact (SE.lst SEs.nil); rfl; decide; intro env e; kernel_rfl)
def fst13 (CG : Addr) (c : Cfg) (sa : Addr) : Loc → Hp → Option (Fl × Loc × Hp) :=
 (fGenFor 60 (fCallG (FAsp CG) (fCo (fLoc 14) (fCo (fBin gItem (fLoc 12) (fLoc 5)) (fCo (fBin gItem (fLoc 12) (fLoc 15)) fNo)))) pInit pPost (genRun pTest pPre pCond pOut pPost 400) (aName 24) (fSeq (fExp (fMet isLst gApp (fLoc 23) (fUn gTuple (fZip (fLoc 13) (fLoc 24) (fBin gItem (fLoc 24) (fSlc (pSo (fK (.int 1))) pNo pNo))))))
 fNil))
theorem st13 {sa : Addr} (X : KOk P) (D : DrawOk P sa 915) : S1n P (n + 30) Glaw (nth (sBody (topS 51)) 13) (fst13 P.CG P.c sa) :=
 (S1n.genFor (fuel := 400) (SG.callF (SE.top rfl X.gAsp (fun _ _ => .st _) rfl) X.kpA (SEs.cons (SE.loc (i := 14) rfl rfl rfl) (SEs.cons (SE.sub (SE.loc (i := 12) rfl rfl rfl) (SE.loc (i := 5) rfl rfl rfl) (by omega)) (SEs.cons (SE.sub (SE.loc (i := 12) rfl rfl rfl) (SE.loc (i := 15) rfl rfl rfl) (by omega)) SEs.nil))) (fgAsp (n := n + 5) X)) (genBpp (n := n + 8) X) (SA.name (i := 24) rfl (by decide)) (SS.cons (S1.exp (SE.app (SE.loc (i := 23) rfl rfl rfl) (SE.callT1 (SE.bui rfl X.nTuple X.bTuple (fun _ _ => .ty _) rfl) (SE.zipc (SE.bui rfl X.nZip X.bZip (fun _ _ => .ty _) rfl) (SE.loc (i := 24) rfl rfl rfl) (SE.sub (SE.loc (i := 24) rfl rfl rfl) (SE.slc (SP.so SE.cint) SP.no SP.no) (by omega)) (CompOk.of rfl (by decide +kernel) rfl rfl (by decide +kernel) (by decide +kernel) (by intro y h; cases h <;> rfl) (by intro _ _; rfl) (by intro _; rfl)) (by omega) (by decide +kernel) rfl rfl rfl rfl) pTuple)) (notInt rfl))
 SS.nil))
def fst14 (CG : Addr) (c : Cfg) (sa : Addr) : Loc → Hp → Option (Fl × Loc × Hp) :=
 (fRet (fBin gEq (fUn gSorted (fLoc 23)) (fUn gSorted (fLoc 16))))
theorem st14 {sa : Addr} (X : KOk P) (D : DrawOk P sa 915) : S1 P (n + 30) Glaw (nth (sBody (topS 51)) 14) (fst14 P.CG P.c sa) :=
 (S1.ret (SE.cmp (SE.callB1 (SE.bui rfl X.nSorted X.bSorted (fun _ _ => .bi _) rfl) (SE.loc (i := 23) rfl rfl rfl) pSorted) (SE.callB1 (SE.bui rfl X.nSorted X.bSorted (fun _ _ => .bi _) rfl) (SE.loc (i := 16) rfl rfl rfl) pSorted) (pEq.le (by omega))))
def lawB (CG : Addr) (c : Cfg) (sa : Addr) : Loc → Hp → Option (Fl × Loc × Hp) := (fSeq (fst9 CG c sa) (fSeq (fst10 CG c sa) (fSeq (fst11 CG c sa) (fSeq (fst12 CG c sa) (fSeq (fst13 CG c sa) (fSeq (fst14 CG c sa) fNil))))))
def lawA (CG : Addr) (c : Cfg) (sa : Addr) (g : Loc → Hp → Option (Fl × Loc × Hp)) : Loc → Hp → Option (Fl × Loc × Hp) := (fSeq (fst1 CG c sa) (fSeq (fst2 CG c sa) (fSeq (fst3 CG c sa) (fSeq (fst4 CG c sa) (fSeq (fst5 CG c sa) (fSeq (fst6 CG c sa) (fSeq (fst7 CG c sa) (fSeq (fst8 CG c sa) g))))))))
def lawF (CG : Addr) (c : Cfg) (sa : Addr) : Loc → Hp → Option (Fl × Loc × Hp) := fSeq (fst0 CG c sa) (lawA CG c sa (lawB CG c sa))
theorem lawList : sBody (topS 51) = nth (sBody (topS 51)) 0 :: nth (sBody (topS 51)) 1 :: nth (sBody (topS 51)) 2 :: nth (sBody (topS 51)) 3 :: nth (sBody (topS 51)) 4 :: nth (sBody (topS 51)) 5 :: nth (sBody (topS 51)) 6 :: nth (sBody (topS 51)) 7 :: nth (sBody (topS 51)) 8 :: nth (sBody (topS 51)) 9 :: nth (sBody (topS 51)) 10 :: nth (sBody (topS 51)) 11 :: nth (sBody (topS 51)) 12 :: nth (sBody (topS 51)) 13 :: nth (sBody (topS 51)) 14 :: [] := rfl
theorem ssLaw {sa : Addr} (X : KOk P) (D : DrawOk P sa 915) : SSn P (n + 30) Glaw (sBody (topS 51)) (lawF P.CG P.c sa) := by
  rw [lawList]
  exact (SSn.cons (S1n.of (st0 X D)) (SSn.cons (S1n.of (st1 X D)) (SSn.cons (S1n.of (st2 X D)) (SSn.cons (S1n.of (st3 X D)) (SSn.cons (S1n.of (st4 X D)) (SSn.cons (S1n.of (st5 X D)) (SSn.cons (S1n.of (st6 X D)) (SSn.cons (S1n.of (st7 X D)) (SSn.cons (S1n.of (st8 X D)) (SSn.cons (S1n.of (st9 X D)) (SSn.cons (S1n.of (st10 X D)) (SSn.cons (S1n.of (st11 X D)) (SSn.cons (S1n.of (st12 X D)) (SSn.cons ((st13 X D)) (SSn.cons (S1n.of (st14 X D)) (SSn.of SS.nil))))))))))))))))
end
end
end Mine
end
section
open PySem PySem.Calls PyProof.Rows PySem.W
set_option maxRecDepth 100000
set_option linter.unusedSimpArgs false
set_option linter.unusedVariables false
namespace Mine
noncomputable section
theorem lookup_of_fst {α : Type} : ∀ {l : List (Str × α)} {x : Str}, x ∈ l.map (·.1) → ∃ v, l.lookup x = some v
  | [], _, h => by cases h
  | (a, b) :: l, x, h => by
    rw [List.lookup_cons]
    by_cases q : (x == a) = true
    · rw [q]; exact ⟨b, rfl⟩
    · rw [Bool.not_eq_true] at q
      rw [q]
      rcases List.mem_cons.mp h with h | h
      · subst h; simp at q
      · exact lookup_of_fst h
theorem lookup_nodup {α : Type} : ∀ {l : List (Str × α)} {x : Str} {v : α}, (l.map (·.1)).Nodup → (x, v) ∈ l → l.lookup x = some v
  | (a, b) :: l, x, v, hn, h => by
    rw [List.lookup_cons]
    rw [List.map_cons, List.nodup_cons] at hn
    rcases List.mem_cons.mp h with h | h
    · cases h; simp
    · have : (x == a) = false := by
        rw [beq_eq_false_iff_ne]
        intro e
        exact hn.1 (e ▸ List.mem_map_of_mem (f := (·.1)) h)
      rw [this]
      exact lookup_nodup hn.2 h
def lawCellNames : List Str := ["two", "one", "letters", "names", "place", "places", "ring", "draw", "script"]
theorem law_cells (n : Nat) : (cellsFrom n (sScope (topS 51)).names []).map (·.1) = lawCellNames := rfl
section
variable {P : Par} {n : Nat}
/-- the law's own frame -/
theorem law_call {A : Around} {s : Shared} {ρ : List Addr} {hp hp' : Hp} {sa : Addr} {v : V} {loc' : Loc} {R : Result → Shared → Prop} (X : KOk P) (D : DrawOk P sa 915) (FL : FnAt P 920 (topS 51) .none) (ha : AOk (n + 31) A) (H : HI P ρ hp s)
    (hf : lawF P.CG P.c sa (some (.st sa) :: List.replicate 24 none) hp = some (.ret v, loc', hp'))
    (hR : ∀ v' s' ρ', HI P ρ' hp' s' → Step [] ρ s ρ' s' → VR P s'.heap ρ' v v' → R (.ok (.ret v')) s') : codeN (model P.prog P.w) A (.call (.ref 920) ⟨[.ref sa], []⟩) R s := by
  obtain ⟨o, fd, ho, hd, hcd, hclo, hglob, hbui, hp1, hbody, hsc, hdf, hkd⟩ := FL
  have hbind : bindArgs fd ⟨[.ref sa], []⟩ = pure [(("script" : Str), Value.ref sa)] := by
    cases fd; dsimp only at hp1 hdf hkd; subst hp1 hdf hkd
    kernel_rfl
  refine codeN_call_function ha.room (H.base _ _ ho) hd (by rw [hsc]; rfl) (by rw [hsc]; rfl) hbody (hcd.keeps fun b o e => H.base b o e) ?_
  rw [hbind, hclo]
  have hks : fd.scope.names.lookup ("script" : Str) = some NameKind.cell := by rw [hsc]; rfl
  refine wpAny_pure (wpAny_newFunctionEnv_cells (by rw [hsc]; rfl) (fun x hx => ?_) fun env he s1 x => ?_)
  · obtain rfl := List.mem_singleton.mp hx
    refine .inr ⟨hks, ?_⟩
    rw [hsc]
    obtain ⟨c, hc⟩ := lookup_of_fst (l := cellsFrom (s.heap.objs.size + 1) (sScope (topS 51)).names []) (x := "script") (by rw [law_cells]; decide +kernel)
    rw [hc]; rfl
  · have e1 : env.scope = sScope (topS 51) := by rw [he]; exact hsc
    have e2 : env.cells = cellsFrom (s.heap.objs.size + 1) (sScope (topS 51)).names [] := by rw [he, ← hsc]; rfl
    have e3 : env.locals = s.heap.objs.size := by rw [he]; rfl
    have e4 : env.globals = mainGlobals := by rw [he]; exact hglob
    have e5 : env.builtins = builtinsNs := by rw [he]; exact hbui
    have e6 : env.code = fd.code := by rw [he]; rfl
    have hkind : env.kindOf "script" = some .cell := by
      show env.scope.names.lookup ("script" : Str) = _
      rw [e1]; rfl
    clear he
    have hnl : ¬ env.kindOf "script" = some .local := by rw [hkind]; decide
    unfold bindL bindL bindC bindC at x
    rw [if_neg hnl, if_neg hnl] at x
    obtain ⟨h1, tk, rfl⟩ := x.toInCall.same
    have hk1 : ∀ b o, s.heap.get? b = some o → h1.get? b = some o := x.toInCall.keep
    have hL : s.heap.objs.size < h1.objs.size := by have := x.toInCall.ns.lt; rw [e3] at this; exact this
    have hz1 := Nat.le_of_lt hL
    have H1 : HI P ρ hp { s with heap := h1, toks := tk } := (H.keeps (s' := { s with heap := h1 }) hk1 hz1).toks _
    have S1 : Step [] ρ s ρ { s with heap := h1, toks := tk } := .grow hk1 hz1
    have newR : ∀ a, s.heap.objs.size ≤ a → a ∉ ρ := fun a h hm => absurd (H.new _ hm).2 (Nat.not_lt.mpr h)
    refine ⟨(P.nolimit.keeps fun b o e => H1.base b o e), codeN_func ?_⟩
    have hnd : (env.cells.map (·.1)).Nodup := by rw [e2, law_cells]; decide +kernel
    have hown : ∀ a ∈ env.locals :: env.cells.map (·.2), s.heap.objs.size ≤ a ∧ a < h1.objs.size := fun a ha => by
      rcases List.mem_cons.mp ha with rfl | ha
      · rw [e3]; exact ⟨Nat.le_refl _, hL⟩
      · obtain ⟨⟨y, c⟩, hm, rfl⟩ := List.mem_map.mp ha
        have hab := x.above _ _ hm
        rw [e3] at hab
        obtain ⟨oc, hoc, _⟩ := x.cell _ _ (lookup_nodup hnd hm)
        exact ⟨Nat.le_of_lt hab, Heap.lt_size hoc⟩
    have F1 : FI P Glaw env (env.locals :: env.cells.map (·.2)) ρ (some (.st sa) :: List.replicate 24 none) h1 := by
      refine ⟨rfl, e1, e4, e5, rfl, ⟨_, x.toInCall.ns, fun i y u hi hu => ?_⟩, fun i y k u hi hkk hu => ?_, List.mem_cons_self, fun a ha => ?_, fun y z c h2 h3 => ?_, fun y c e => ?_, ?_⟩
      · cases i with
        | zero => cases hi
        | succ i =>
          have hu : (List.replicate 24 none)[i]? = some u := hu
          obtain rfl : u = none := List.eq_of_mem_replicate (List.mem_of_getElem? hu)
          trivial
      · have hy : y ∈ env.cells.map (·.1) := by
          rw [e2, law_cells]
          have : ∀ q ∈ Glaw.vars, q.2 ≠ .loc → q.1 ∈ lawCellNames := by decide +kernel
          exact this _ (List.mem_of_getElem? hi) hkk
        obtain ⟨c, hc⟩ := lookup_of_fst hy
        have hcm := mem_of_lookup hc
        have hab := x.above _ _ hcm
        rw [e3] at hab
        refine ⟨c, _, hc, x.cell _ _ hc, ?_, newR _ (Nat.le_of_lt hab), by rw [e3]; exact Nat.ne_of_gt hab, fun _ => List.mem_cons_of_mem _ (List.mem_map_of_mem hcm)⟩
        cases i with
        | zero =>
          cases hi
          cases hu
          exact .st _
        | succ i =>
          have hu : (List.replicate 24 none)[i]? = some u := hu
          obtain rfl : u = none := List.eq_of_mem_replicate (List.mem_of_getElem? hu)
          have hne : y ≠ "script" := fun e => by
            subst e
            have := Sg.uniq (G := Glaw) rfl hi (show Glaw.vars[0]? = some (("script" : Str), VK.cel) from rfl)
            omega
          rw [if_neg hne]
          trivial
      · have hge := hown a ha
        exact ⟨newR _ hge.1, hge.2, Nat.le_trans H.sz hge.1⟩
      · exact name_of_addr x.apart (mem_of_lookup h2) (mem_of_lookup h3)
      · obtain ⟨oc, hoc, _⟩ := x.cell _ _ e
        exact Heap.lt_size hoc
      · obtain ⟨c, oc, vs, tq, h2, h3, h4, _⟩ := hcd
        exact ⟨c, oc, vs, by rw [e6]; exact h2, h3, h4⟩
    refine (ssLaw (n := n) X D).use (ha.deeper _) H1 F1 hf fun fl' s3 ρ3 H3 F3 S3 r3 => ?_
    obtain ⟨u', rfl, hu⟩ := r3
    refine hR _ _ _ H3 ((S1.own'.trans S3).clear fun b hb => .inl (hown b hb).1) hu
end
end
end Mine
end
section
open PySem PySem.Calls PyProof.Rows PySem.W
set_option maxRecDepth 100000
set_option linter.unusedSimpArgs false
set_option linter.unusedVariables false
namespace Mine
theorem caller_noFin : NoFin (⟨.builtin "claim.caller" {}, none, none, [], none⟩ : Ctx) := ⟨by decide +kernel, fun x hx => nomatch hx⟩
theorem thread_ends_N {prog : Program} {w : World} {t : Sem Fin} {s : Shared} {R : Result → Shared → Prop} (hreg : s.asleep)
    (h : wpN (model prog w) callerA t (fun fin s' => ∃ f, fin = .done f ∧ (R (.ok f) s' ∧ leftWithCleanup s'.gens = false)) s) :
    ∃ n r s' s'', runN (denote table) prog w n s ⟨t, .builtin "claim.caller" {}, default, []⟩ = .halted (outcomeOf r) s' ∧
      schedN (denote table) prog w n (.single s ⟨t, .builtin "claim.caller" {}, default, []⟩) = .halted (outcomeOf r) s' ∧ s'.forget = s''.forget ∧ R r s'' := by
  have hw : Sem.wp (model prog w) ⟨.builtin "claim.caller" {}, none, none, [], none⟩ t (Sem.finPost (model prog w) ⟨.builtin "claim.caller" {}, none, none, [], none⟩ (fun r s' => R r s' ∧ leftWithCleanup s'.gens = false)) (fun e _ s' => R (.error e) s' ∧ leftWithCleanup s'.gens = false) default s := by
    refine Sem.wp_mono _ _ t (fun fin p' s' h' => ?_) (fun _ _ _ h' => h'.elim) default s (h _ default caller_in caller_noFin)
    obtain ⟨f, rfl, hf⟩ := h'
    exact hf
  obtain ⟨n, r, s₁, s₂, hs, hn, hfo, hR⟩ := wp_halts_full (M := model prog w) (R := R) hreg hw
  exact ⟨n, r, s₂, s₁, hn, hs, hfo, hR⟩
theorem callFrom_N {c : ClaimW} {tree : List Value → Sem Fin} {w : World} {s : Shared} {free : Addr → Prop} {gens : Prop} {kept : Heap → Prop} (hz : s.asleep) (hgens : s.gens = #[])
    (hspec : ∀ args, c.pre args = true → WData.layableAll args = true →
      ∀ ord : List DictEntry → List DictEntry, (∀ l, (ord l).Perm l) →
      ∃ vs s₁, layAllW c.records (classAt s.heap) w.params ord args s = some (vs, s₁) ∧
        wpN (model c.prog w) callerA (tree vs) (fun fin s' => ∃ f, fin = .done f ∧ (c.Ends s args vs s₁ (.ok f) s' ∧ s'.os = s.os ∧ AllBare s'.gens ∧ kept s'.heap)) s₁) :
    c.CallFrom (fun vs => ⟨tree vs, .builtin "claim.caller" {}, default, []⟩) w free gens kept s := by
  intro args hpre hlay ord hord
  obtain ⟨vs, s₁, hlaid, hcode⟩ := hspec args hpre hlay ord hord
  have hal := layAllW_rest _ _ _ hlaid
  obtain ⟨k, r, s', s'', hrun, hsched, hfo, hcase, hos, hkp⟩ := thread_ends_N (prog := c.prog) (w := w) (t := tree vs) (s := s₁)
    (R := fun r s' => c.Ends s args vs s₁ r s' ∧ s'.os = s.os ∧ kept s'.heap)
    (Shared.asleep_of_life hal.2.2.2 hz)
    (wpN_mono hcode (by
      rintro fin s' ⟨f, e, h1, h2, h3, h4⟩
      exact ⟨f, e, ⟨h1, h2, h4⟩, leftWithCleanup_false_of_bare h3⟩))
  obtain ⟨eh, _, _, eo, _⟩ := Shared.forget_eq hfo
  have hcase := hcase.congr eh
  have hkp : kept s'.heap := by first | exact eh ▸ hkp | (rw [eh] at hkp; exact hkp) | (rw [← eh] at hkp; exact hkp)
  rw [← eo] at hos
  have hlife : s'.heap.life = s.heap.life := (runN_life _ _ _ hrun).trans hal.2.2.2
  refine ⟨vs, s₁, hlaid, k, _, s', hsched, ?_, (fun _ i x hx => by rw [hgens] at hx; simp at hx), hkp, by rw [hlife], Shared.rest_eq hos⟩
  rcases hcase with ⟨v, rfl, d1, d2, d3, d4, d5⟩ | ⟨e, ob, cls, rfl, d1, d2, d3, d4, d5⟩
  · exact .inl ⟨v, rfl, d1, d2, d3, fun b o y _ => d4 b o y, d5⟩
  · exact .inr ⟨e, ob, cls, rfl, d1, d2, d3, d4, fun b o y _ => d5 b o y⟩
/-- the law holds when its call does as it should, in contexts that start at the caller's own -/
theorem holds_mine {r : OpenRow} {q : Program} {loose : List Str} {Xt : Shared → Bool} {XP : (Str → Option Value) → Heap → Prop} {α : Type} {Yf : Shared → α} {Ya : World → α} {YP : World → Heap → Prop} {d : DefRec} {kwd : List (Str × Expr)} {N : Nat}
    (left : LeftO r.prog q loose Xt Yf Ya N) (hY : ∀ w s, Yf s = Ya w → YP w s.heap) (hYk : ∀ w h h', YP w h → (∀ b o, h.get? b = some o → h'.get? b = some o) → YP w h')
    (hX : ∀ s, Xt s = true → XP (s.heap.nsMap mainGlobals) s.heap) (hXk : ∀ mg h h', XP mg h → (∀ b o, h.get? b = some o → h'.get? b = some o) → XP mg h')
    (hdef : defOf q r.name = some (d, kwd)) (hp : r.prog.theDef r.name = some (d.params, d.body, d.scope)) (hk : kwWritten? d.params.kwonlyargs d.params.kw_defaults = some kwd) (hRf : ∀ s, Xt s = true → RecFacts r.records s.heap) (hwr : (!r.writes || r.records.isEmpty) = true)
    (k1 : r.wellSaid = true) (ok : (chainsOk q && opensWell r.prog && (frees r.toRowW && r.within.isEmpty)) = true) (hb : r.prog.bare) (hw : r.toRowW.promised)
    (call : ∀ (w : World) (s₀ s₁ : Shared) (mg mb : Str → Option Value), Ground q loose r.records XP w s₀ mg mb s₁.heap → YP w s₁.heap → ∀ (args : List WData) (vs : List Value) (as : List Addr),
      r.toRowW.claim.pre args = true → WData.layableAll args = true → Laid r.records w s₀ s₁ args vs as → sysModules < s₀.heap.objs.size → ∃ f, mg r.name = some f ∧
        wpN (model r.prog w) callerA (PySem.call f vs) (fun v s' => GoodWG r.toRowW.claim (classAt s₀.heap) (ExcName.means s₀.heap) args s₁ (.ok (.ret v)) s') s₁) : r.Holds := by
  have ok0 := ok
  obtain ⟨ok, k5⟩ := Bool.and_eq_true_iff.mp ok
  obtain ⟨hch, o1⟩ := Bool.and_eq_true_iff.mp ok
  obtain ⟨k5, k6⟩ := Bool.and_eq_true_iff.mp k5
  obtain ⟨hsame, hu, ha, hap, hm⟩ := frees_parts k5
  refine ⟨k1, hw, ⟨hb, o1, by show r.makers.map _ = []; rw [hm]; rfl⟩, hw.witness, fun w => ⟨(left.behind hX hch w).1, fun s' hs' => ?_⟩⟩
  obtain ⟨s₀, hf, hg0, s, hT, hz, hgens, hg, G00, y⟩ := (left.behind (XP := fun mg h => XP mg h ∧ RecFacts r.records h) (fun s hs => ⟨hX s hs, hRf s hs⟩) hch w).2 s' hs'
  have G0 : Ground q loose [] XP w s (s.heap.nsMap mainGlobals) (s.heap.nsMap builtinsNs) s.heap := ⟨G00.T, G00.B, G00.D, G00.TE, G00.TD, G00.W, G00.X.1, G00.cls, G00.has, G00.apart, G00.once, G00.K⟩
  have RF := G00.X.2
  have hT' := hT
  refine ⟨s₀, hf, hg0, s, hT, (fun n hn => ?_), RF.1, RF.2.1, ?_⟩
  · obtain rfl : n = r.name := by split at hn <;> simp_all
    exact pinned_of_view hg G0 hdef hp hk
  have hgens : s.gens = #[] := Array.eq_empty_of_size_eq_zero (beq_iff_eq.mp hgens)
  have G : Ground q loose r.records XP w s _ _ s.heap := RF.ground G0
  refine callFrom_N (c := r.toRowW.claim) hz hgens fun args hpre hlay ord hord => ?_
  obtain ⟨⟨vs, s₁⟩, hlaid⟩ := Option.isSome_iff_exists.mp (layAllW_isSome (P := w.params) (ord := ord) G.has args r.args s (pre_splitW hpre).1)
  have keeps := layAllW_keeps _ _ _ hlaid
  have hal := layAllW_rest _ _ _ hlaid
  obtain ⟨as, hrd, hin, hold⟩ := reads_layAllW hord _ _ _ hlaid hlay s₁.heap (fun _ _ e => e)
  have L : Laid r.records w s s₁ args vs as := ⟨⟨ord, hord, hlaid⟩, hrd, hin, hold, keeps, hal.1.trans hgens, hal.2.2.1⟩
  have G₁ := G.keeps hXk keeps
  obtain ⟨f, hf, h⟩ := call w s s₁ _ _ G₁ (hYk _ _ _ (hY w s y) keeps) args vs as hpre hlay L G.low
  have hi := ident_freeW hu ha hap
  have hwi : r.toRowW.claim.within = [] := List.isEmpty_iff.mp k6
  refine ⟨vs, s₁, hlaid, wpN_bindA (wpAny_nsGet G₁.T.g ?_)⟩
  rw [hf]
  refine wpN_bind (wpN_mono h fun v s' g => wpN_pure ⟨_, rfl, ?_⟩)
  have z := g.laid (c := r.toRowW.claim) hsame hwi hi L
  exact ⟨z.1, z.2.1, z.2.2, fun q => ⟨namesKept_of hT' hg _ keeps g.2.1.old, noTable hwr q⟩⟩
end Mine
end
section
open PySem PySem.Calls PyProof.Rows PySem.W
set_option maxRecDepth 100000
set_option linter.unusedSimpArgs false
set_option linter.unusedVariables false
namespace Mine
noncomputable section
theorem fac_of {P : Par} {nm : Str} (h : facChk P.K nm = true) (hG : P.CG = 906) (ga : findIn P.K (.ref P.CG) "__getattribute__" = some (some (.builtin "object.__getattribute__"))) (gk : findIn P.K (.ref P.CG) "__getattr__" = some none)
    (no : (gName 1 == nm) = false ∧ (gName 2 == nm) = false ∧ (gName 3 == nm) = false ∧ (gName 4 == nm) = false) : FacOk P nm := by
  unfold facChk at h
  simp only [Bool.and_eq_true, decide_eq_true_eq, Bool.not_eq_true'] at h
  refine ⟨ga, gk, by rw [hG]; exact h.1, h.2, fun m hm => ?_⟩
  rcases hm with rfl | rfl | rfl | rfl
  · exact no.1
  · exact no.2.1
  · exact no.2.2.1
  · exact no.2.2.2
theorem meth_of {P : Par} {C : Addr} {nm : Str} {f : Addr} (h : methChk P.K C nm f = true) : MethOk P C nm f := by
  unfold methChk at h
  simp only [Bool.and_eq_true, decide_eq_true_eq] at h
  exact ⟨h.1.1, h.1.2, h.2⟩
theorem view_of {P : Par} {C : Addr} (h : viewChk P.K C = true) : ViewOk P C 389 ∧ keepIn P.K (.ref C) = true ∧ makesIn P.K C = true ∧ findIn P.K (.ref C) "__init__" = some (some (.ref 349)) := by
  unfold viewChk at h
  simp only [Bool.and_eq_true, decide_eq_true_eq] at h
  obtain ⟨⟨⟨⟨⟨⟨⟨⟨⟨⟨⟨⟨h1, h2⟩, h3⟩, h4⟩, h5⟩, h6⟩, h7⟩, h8⟩, h9⟩, h10⟩, h11⟩, h12⟩, h13⟩ := h
  exact ⟨⟨h1, h2, h3, h4, h5, h6, h7, h8, h9, h10⟩, h11, h12, h13⟩
theorem st_of {P : Par} {nm : Str} {p : Value → Bool} (h : stChk P.K nm p = true) : ∃ v, p v = true ∧ StAt P 720 691 nm v := by
  unfold stChk at h
  split at h
  · rename_i ox e1
    simp only [Bool.and_eq_true, decide_eq_true_eq] at h
    obtain ⟨⟨⟨h1, h2⟩, h3⟩, h4⟩ := h
    split at h3
    · rename_i dx e2
      split at h3
      · rename_i od e3
        split at h3
        · rename_i v e4
          simp only [Bool.and_eq_true] at h3
          exact ⟨v, h3.1, ⟨ox, dx, od, e1, h1, h2, e2, e3, e4⟩, h4, h3.2⟩
        · cases h3
      · cases h3
    · cases h3
  · cases h
theorem isAdj_inv {v : Value} (h : isAdj v = true) : ∃ t, v = .str "adj" t := by
  unfold isAdj at h
  split at h
  · rename_i x t
    obtain rfl := of_decide_eq_true h
    exact ⟨t, rfl⟩
  · cases h
theorem dic_of {K : Frag} (h : dicChk K = true) : ∃ nm tn fset, recIn K 907 "getset_descriptor" = some [.str nm tn, .ref 906, .builtin "function.__dict__", fset] := by
  unfold dicChk at h
  split at h
  · rename_i nm tn C g fset e
    simp only [Bool.and_eq_true, decide_eq_true_eq] at h
    obtain ⟨rfl, rfl⟩ := h
    exact ⟨nm, tn, fset, e⟩
  · cases h
end
end Mine
end
section
open PySem PySem.Calls PyProof.Rows PySem.W
set_option maxRecDepth 100000
set_option linter.unusedSimpArgs false
set_option linter.unusedVariables false
namespace Mine
noncomputable section
theorem mg_of {h0 h : Heap} {mg : Str → Option Value} (k : ∀ b o, h0.get? b = some o → h.get? b = some o) (n : h.Ns mainGlobals mg) {y : Str} {v : Value} (e : gOf h0 y = some v) (x : Str) : mg x = gOf h0 x := by
  unfold gOf Heap.nsMap at e ⊢
  cases q : h0.get? mainGlobals with
  | none => rw [q] at e; cases e
  | some o =>
    rw [q] at e
    obtain ⟨o', es, ep, h1, h2, _, h3⟩ := n
    obtain rfl : o' = o := Option.some.inj (h1.symm.trans (k _ _ q))
    dsimp only at e ⊢
    rw [h2]
    exact (h3 x).symm
theorem code_of {h : Heap} {cd : Value} {q : Str} (e : codeChk h.get? cd q = true) : h.CodeRec cd q := by
  unfold codeChk at e
  split at e
  · rename_i c
    split at e
    · rename_i c1 d1 vs s1 e1
      split at e
      · rename_i x t e2
        obtain rfl := of_decide_eq_true e
        exact ⟨c, _, vs, t, rfl, e1, rfl, by rw [← Array.getElem?_toList]; exact e2⟩
      · cases e
    · cases e
  · cases e
theorem tup_of {h : Heap} {a : Addr} {l : List Value} (e : tupOf h.get? a = some l) : ∃ m, h.get? a = some { cls := .type "tuple", data := .seq l.toArray m } := by
  unfold tupOf at e
  split at e
  · rename_i items m e1
    cases e
    exact ⟨m, e1⟩
  · cases e
theorem fn_of {P : Par} {h0 : Heap} {fa : Addr} {st : Stmt} {p : Value → Bool} (k : ∀ b o, h0.get? b = some o → P.h₀.get? b = some o) (h : fnChk h0.get? fa p = true) (ho : fnObs h0.get? fa = some (sArgs st, .stmts (sBody st), sScope st)) : ∃ df, p df = true ∧ FnAt P fa st df := by
  unfold fnChk at h
  split at h
  · rename_i c d fd s1 e1
    unfold fnObs at ho
    rw [e1] at ho
    dsimp only at ho
    simp only [Bool.and_eq_true, decide_eq_true_eq] at h
    obtain ⟨⟨⟨⟨⟨h1, h2⟩, h3⟩, h4⟩, h5⟩, h6⟩ := h
    obtain ⟨h7, h8⟩ := Prod.mk.inj (Option.some.inj ho)
    obtain ⟨h8, h9⟩ := Prod.mk.inj h8
    exact ⟨fd.defaults, h5, _, fd, k _ _ e1, rfl, (code_of h1).keeps k, List.isEmpty_iff.mp h2, h3, h4, h7, h8, h9, rfl, h6⟩
  · cases h
theorem no_of {P : Par} {fa : Addr} {st : Stmt} (h : ∃ df, noDf df = true ∧ FnAt P fa st df) : FnAt P fa st .none := by
  obtain ⟨df, h1, h2⟩ := h
  obtain rfl := of_decide_eq_true h1
  exact h2
theorem df_of {P : Par} {h0 : Heap} {fa : Addr} {st : Stmt} {p : List Value → Bool} (k : ∀ b o, h0.get? b = some o → P.h₀.get? b = some o) (h : ∃ df, tupDf h0.get? p df = true ∧ FnAt P fa st df) : ∃ l T m, p l = true ∧ FnAt P fa st (.ref T) ∧ P.h₀.get? T = some { cls := .type "tuple", data := .seq l.toArray m } := by
  obtain ⟨df, h1, h2⟩ := h
  unfold tupDf at h1
  split at h1
  · rename_i T
    split at h1
    · rename_i l e
      obtain ⟨m, hm⟩ := tup_of e
      exact ⟨l, T, m, h1, h2, k _ _ hm⟩
    · cases h1
  · cases h1
end
end Mine
end
section
open PySem PySem.Calls PyProof.Rows PySem.W
set_option maxRecDepth 100000
set_option linter.unusedSimpArgs false
set_option linter.unusedVariables false
namespace Mine
noncomputable section
theorem kok_of {P : Par} {s0 : Shared} (e : headObs s0.heap.get? s0 = headVal) (k : ∀ b o, s0.heap.get? b = some o → P.h₀.get? b = some o) (hK : P.K = fragOf lawAddrs s0.heap.get?) (hG : P.CG = 906) (hA : P.CA = 410) (hV : P.CV = 388)
    (hb : ∀ x : Str, x ≠ "__name__" → P.mb x = bootBuiltins x) : KOk P ∧ FnAt P 920 (topS 51) .none ∧ P.mg "law" = some (.ref 920) ∧ P.mg "_law_rest" = some (.ref 915) ∧ ∃ t0 t1 t2 m, P.h₀.get? 915 = some { cls := .type "tuple", data := .seq #[.int 0 t0, .int 17 t1, .int 5 t2] m } := by
  obtain ⟨e1, e2⟩ := Prod.mk.inj e
  clear e
  simp only [Bool.and_eq_true] at e1
  obtain ⟨⟨hk, hg⟩, hf⟩ := e1
  unfold fnList at e2
  simp only [List.map_cons, List.map_nil, List.cons.injEq] at e2
  obtain ⟨o1, o2, o3, o4, o5, o6, o7, o8, o9, o10, o11, o12, o13, _⟩ := e2
  rw [← hK] at hk
  unfold gChk at hg
  simp only [Bool.and_eq_true, decide_eq_true_eq] at hg
  obtain ⟨⟨⟨⟨⟨⟨⟨⟨⟨g1, g2⟩, g3⟩, g4⟩, g5⟩, g6⟩, g7⟩, g8⟩, g9⟩, g10⟩ := hg
  have M : ∀ x, P.mg x = gOf s0.heap x := mg_of k P.g g1
  have nob : ∀ x ∈ (["len", "range", "tuple", "list", "sorted", "iter", "min", "max", "zip"] : List Str), P.mg x = none := fun x hx => by
    rw [M]; exact of_decide_eq_true (List.all_eq_true.mp g10 x hx)
  unfold fChk at hf
  simp only [Bool.and_eq_true] at hf
  obtain ⟨⟨⟨⟨⟨⟨⟨⟨⟨⟨⟨⟨⟨f1, f2⟩, f3⟩, f4⟩, f5⟩, f6⟩, f7⟩, f8⟩, f9⟩, f10⟩, f11⟩, f12⟩, f13⟩, f14⟩ := hf
  have fn1 := df_of k (fn_of k f1 o1)
  have fn2 := df_of k (fn_of k f2 o2)
  have fn3 := no_of (fn_of k f3 o3)
  have fn4 := no_of (fn_of k f4 o4)
  have fn5 := no_of (fn_of k f5 o5)
  have fn6 := no_of (fn_of k f6 o6)
  have fn7 := df_of k (fn_of k f7 o7)
  have fn8 := no_of (fn_of k f8 o8)
  have fn9 := no_of (fn_of k f9 o9)
  have fn10 := no_of (fn_of k f10 o10)
  have fn11 := df_of k (fn_of k f11 o11)
  have fn12 := no_of (fn_of k f12 o12)
  have fn13 := no_of (fn_of k f13 o13)
  have rest : ∃ t0 t1 t2 m, P.h₀.get? 915 = some { cls := .type "tuple", data := .seq #[.int 0 t0, .int 17 t1, .int 5 t2] m } := by
    split at f14
    · rename_i l q
      obtain ⟨m, hm⟩ := tup_of q
      unfold isRest at f14
      split at f14
      · rename_i a t0 b t1 c t2
        simp only [Bool.and_eq_true, decide_eq_true_eq] at f14
        obtain ⟨⟨rfl, rfl⟩, rfl⟩ := f14
        exact ⟨t0, t1, t2, m, k _ _ hm⟩
      · cases f14
    · cases f14
  refine ⟨?_, fn13, (M _).trans g9, (M _).trans g8, rest⟩
  have mG := (M _).trans g7
  have mA := (M _).trans g5
  have mV := (M _).trans g4
  have mP := (M _).trans g1
  have mQ := (M _).trans g2
  have mB := (M _).trans g3
  have mN := (M _).trans g6
  obtain ⟨l1, T1, m1, p1, q1, r1⟩ := fn1
  obtain rfl := of_decide_eq_true p1
  obtain ⟨l2, T2, m2, p2, q2, r2⟩ := fn2
  obtain ⟨t2, rfl⟩ : ∃ t, l2 = [.none, .str "dijkstra" t] := by
    unfold isDij at p2
    split at p2
    · rename_i x t
      obtain rfl := of_decide_eq_true p2
      exact ⟨t, rfl⟩
    · cases p2
  obtain ⟨l7, T7, m7, p7, q7, r7⟩ := fn7
  obtain rfl := of_decide_eq_true p7
  obtain ⟨l11, T11, m11, p11, q11, r11⟩ := fn11
  obtain rfl := of_decide_eq_true p11
  clear M k
  unfold kChk at hk
  simp only [Bool.and_eq_true, decide_eq_true_eq] at hk
  obtain ⟨⟨⟨⟨⟨⟨⟨⟨⟨⟨⟨⟨⟨⟨⟨⟨⟨⟨⟨⟨⟨⟨⟨⟨⟨⟨⟨⟨⟨⟨⟨⟨⟨⟨⟨⟨⟨⟨⟨⟨⟨⟨⟨⟨⟨⟨⟨⟨⟨⟨⟨⟨⟨⟨⟨⟨h1, h2⟩, h3⟩, h4⟩, h5⟩, h6⟩, h7⟩, h8⟩, h9⟩, h10⟩, h11⟩, h12⟩, h13⟩, h14⟩, h15⟩, h16⟩, h17⟩, h18⟩, h19⟩, h20⟩, h21⟩, h22⟩, h23⟩, h24⟩, h25⟩, h26⟩, h27⟩, h28⟩, h29⟩, h30⟩, h31⟩, h32⟩, h33⟩, h34⟩, h35⟩, h36⟩, h37⟩, h38⟩, h39⟩, h40⟩, h41⟩, h42⟩, h43⟩, h44⟩, h45⟩, h46⟩, h47⟩, h48⟩, h49⟩, h50⟩, h51⟩, h52⟩, h53⟩, h54⟩, h55⟩, h56⟩, h57⟩ := hk
  have v1 := view_of h22
  have v2 := view_of h23
  have sN := st_of h38
  have sF := st_of h39
  have dc := dic_of h47
  obtain ⟨prog, w, h₀, D0, D1, D2, c, e0, e1, mg, mb, gg, bb, nl, KK, kin, CG, CA, CV⟩ := P
  dsimp only at hK hG hA hV
  subst hG hA hV
  obtain ⟨dn, dt, ds, dr⟩ := dc
  obtain ⟨sv, sv1, sv2⟩ := sN
  obtain ⟨st, rfl⟩ := isAdj_inv sv1
  obtain ⟨fv, fv1, fv2⟩ := sF
  obtain rfl := of_decide_eq_true fv1
  exact {
    gPred := mP, gAsp := mQ, gBpp := mB, gAV := mV, gDV := mA, gNF := mN, gG := mG
    nLen := nob _ (by decide +kernel), nRange := nob _ (by decide +kernel), nTuple := nob _ (by decide +kernel), nList := nob _ (by decide +kernel), nSorted := nob _ (by decide +kernel), nIter := nob _ (by decide +kernel), nMin := nob _ (by decide +kernel), nMax := nob _ (by decide +kernel), nZip := nob _ (by decide +kernel)
    bLen := (hb _ (by decide +kernel)).trans (by decide +kernel), bRange := (hb _ (by decide +kernel)).trans (by decide +kernel), bTuple := (hb _ (by decide +kernel)).trans (by decide +kernel), bList := (hb _ (by decide +kernel)).trans (by decide +kernel), bSorted := (hb _ (by decide +kernel)).trans (by decide +kernel), bIter := (hb _ (by decide +kernel)).trans (by decide +kernel), bMin := (hb _ (by decide +kernel)).trans (by decide +kernel), bMax := (hb _ (by decide +kernel)).trans (by decide +kernel), bZip := (hb _ (by decide +kernel)).trans (by decide +kernel)
    go := ⟨⟨h1, h2, h3⟩, h4, h5, h6, h7⟩
    so := ⟨h8, h9, fun k hk => (by rcases hk with rfl | rfl | rfl | rfl <;> assumption), h4⟩
    fac1 := (fac_of h16 rfl h14 h15 (by decide +kernel)), fac2 := (fac_of h17 rfl h14 h15 (by decide +kernel)), fac3 := (fac_of h18 rfl h14 h15 (by decide +kernel)), fac4 := (fac_of h19 rfl h14 h15 (by decide +kernel)), fac5 := (fac_of h20 rfl h14 h15 (by decide +kernel)), fac6 := (fac_of h21 rfl h14 h15 (by decide +kernel))
    vo := fun b => (by cases b; exact v2.1; exact v1.1)
    vk := fun b => (by cases b; exact v2.2.1; exact v1.2.1)
    vm := fun b => (by cases b; exact v2.2.2.1; exact v1.2.2.1)
    vi := fun b => (by cases b; exact v2.2.2.2; exact v1.2.2.2)
    vt := h24, gk := h25, gm := h26, gi := h27, gt := h28
    meItemV := meth_of h29, meIterV := meth_of h30, meItemG := meth_of h31
    hasG := h32, hasF := h33
    prop := ⟨h34, h4, h35, h36, h37⟩
    stN := ⟨st, sv2⟩, stF := fv2, noF := h40, kpF := h41
    dic := ⟨dn, dt, ds, ⟨h42, h43, h44, h45, h46, dr, h48, h49, h50, h4, h51⟩⟩
    met := ⟨h14, h15, h52, h53, fun m hm => (by rcases hm with rfl | rfl | rfl | rfl <;> decide +kernel), h54⟩
    kpP := h55, kpA := h56, kpB := h57
    fPred := ⟨T1, m1, q1, r1⟩, fAsp := ⟨T2, m2, t2, q2, r2⟩, fBpp := fn3, fVInit := fn4, fVIter := fn5, fVItem := fn6, fCGet := ⟨T7, m7, q7, r7⟩, fAdj := fn8, fHas := fn9, fItem := fn10, fInit := ⟨T11, m11, q11, r11⟩, fAdd := fn12 }
end
end Mine
end
section
open PySem PySem.Calls PyProof.Rows PySem.W
set_option maxRecDepth 100000
set_option linter.unusedSimpArgs false
set_option linter.unusedVariables false
namespace Mine
noncomputable section
theorem args_open {w : World} {h : Heap} {cl : Str → Option Addr} {args : List WData} {vals : List Value} {as : List Addr}
    (hpre : PySem.Challenge.rw_ah5017_01.row.toRowW.claim.pre args = true) (hlay : WData.layableAll args = true) (hrd : ReadsAllW PySem.Challenge.rw_ah5017_01.row.toRowW.records cl h vals args as) (hwl : WellAll w.params h vals args) (hlo : ∀ a ∈ as, (a == sysModules) = false) :
    ∃ (l : Addr) (xs : List Int) (items : List Value), vals = [.ref l] ∧ h.IsList l items.toArray ∧ IntsAre items xs ∧ xs.length ≤ 63 := by
  wrow_args hpre hlay hrd hwl hlo
  rename_i h1 _ _ _ h2 h3 h4
  exact ⟨_, _, _, rfl, by assumption, by assumption, by omega⟩
theorem ints_at : ∀ {vs : List Value} {xs : List Int}, IntsAre vs xs → vs.length = xs.length ∧ ∀ (i : Nat) (x : Int), xs[i]? = some x → ∃ t, vs[i]? = some (.int x t)
  | _, _, .nil => ⟨rfl, fun i x h => by cases h⟩
  | _, _, .cons n t r => ⟨congrArg (· + 1) (ints_at r).1, fun i x h => by
    cases i with
    | zero => cases h; exact ⟨t, rfl⟩
    | succ i => exact (ints_at r).2 i x h⟩
def drawOf (xs : List Int) (i : Nat) (d : Int) : Int := match xs[i]? with
  | some x => x
  | none => d
/-- the number of places -/
def Nof (r : Int) : Int := if r = 0 then 24 else 4 * (r + 2)
def Good (r t : Int) : Prop := ∀ sa, ∃ loc' hp', lawF 906 ⟨r, Nof r, t⟩ sa (some (.st sa) :: List.replicate 24 none) ⟨.nil, 0⟩ = some (.ret (.bool true), loc', hp')
def AllGood : Prop := ∀ r, 0 ≤ r → r < 5 → ∀ t, 0 ≤ t → t < Nof r → Good r t
theorem Nof_pos {r : Int} (h : 0 ≤ r) : 0 < Nof r := by unfold Nof; split <;> omega
theorem fmod_range (a : Int) {b : Int} (h : 0 < b) : 0 ≤ Int.fmod a b ∧ Int.fmod a b < b := ⟨Int.fmod_nonneg_of_pos a h, Int.fmod_lt_of_pos a h⟩
/-- what the head tells, of a heap -/
def Seen (w : World) (h : Heap) : Prop := ∃ s0, headObs s0.heap.get? s0 = headVal ∧ ∀ b o, s0.heap.get? b = some o → h.get? b = some o
theorem law_run (all : AllGood) {q : Program} {loose : List Str} {XP : (Str → Option Value) → Heap → Prop} (w : World) (s₀ s₁ : Shared) (mg mb : Str → Option Value)
    (G : Ground q loose PySem.Challenge.rw_ah5017_01.row.records XP w s₀ mg mb s₁.heap) (Y : Seen w s₁.heap) (args : List WData) (vs : List Value) (as : List Addr)
    (hpre : PySem.Challenge.rw_ah5017_01.row.toRowW.claim.pre args = true) (hlay : WData.layableAll args = true) (L : Laid PySem.Challenge.rw_ah5017_01.row.records w s₀ s₁ args vs as) (low : sysModules < s₀.heap.objs.size) : ∃ f, mg PySem.Challenge.rw_ah5017_01.row.name = some f ∧
      wpN (model PySem.Challenge.rw_ah5017_01.row.prog w) callerA (PySem.call f vs) (fun v s' => GoodWG PySem.Challenge.rw_ah5017_01.row.toRowW.claim (classAt s₀.heap) (ExcName.means s₀.heap) args s₁ (.ok (.ret v)) s') s₁ := by
  obtain ⟨sh, e, k⟩ := Y
  obtain ⟨sa, xs, items, rfl, hl, hi, hn⟩ := args_open hpre hlay L.reads L.well (L.low low)
  obtain ⟨hlen, hat⟩ := ints_at hi
  have r0 := fmod_range (drawOf xs 0 0) (b := 5) (by decide)
  have n0 := Nof_pos r0.1
  have t0 := fmod_range (drawOf xs 1 17) n0
  let P : Par := ⟨PySem.Challenge.rw_ah5017_01.row.prog, w, s₁.heap, drawOf xs 0 0, drawOf xs 1 17, drawOf xs 2 5, ⟨Int.fmod (drawOf xs 0 0) 5, Nof (Int.fmod (drawOf xs 0 0) 5), Int.fmod (drawOf xs 1 17) (Nof (Int.fmod (drawOf xs 0 0) 5))⟩, rfl, rfl, mg, mb, G.T.g, G.T.b, G.T.nolimit, fragOf lawAddrs sh.heap.get?, fun a o h => k _ _ (fragOf_in a o h), 906, 410, 388⟩
  obtain ⟨X, FL, m1, m2, tup⟩ := kok_of (P := P) e k rfl rfl rfl rfl G.T.builtins
  have D : DrawOk P sa 915 := by
    refine ⟨m2, tup, items.toArray, hl, by rw [List.size_toArray]; omega, fun i h1 h2 => ?_, fun i h1 h2 => ?_⟩
    · rw [List.size_toArray] at h2
      have h3 : i < xs.length := by omega
      have h4 : xs[i]? = some (P.draw i) := by
        match i, h1 with
        | 0, _ => rw [show P.draw 0 = drawOf xs 0 0 from rfl]; unfold drawOf; rw [List.getElem?_eq_getElem h3]
        | 1, _ => rw [show P.draw 1 = drawOf xs 1 17 from rfl]; unfold drawOf; rw [List.getElem?_eq_getElem h3]
        | 2, _ => rw [show P.draw 2 = drawOf xs 2 5 from rfl]; unfold drawOf; rw [List.getElem?_eq_getElem h3]
      obtain ⟨t, ht⟩ := hat i _ h4
      exact ⟨t, by rw [List.getElem?_toArray]; exact ht⟩
    · rw [List.size_toArray] at h2
      have h3 : xs[i]? = none := List.getElem?_eq_none (by omega)
      match i, h1, h3 with
      | 0, _, h3 => rw [show P.draw 0 = drawOf xs 0 0 from rfl]; unfold drawOf; rw [h3]; rfl
      | 1, _, h3 => rw [show P.draw 1 = drawOf xs 1 17 from rfl]; unfold drawOf; rw [h3]; rfl
      | 2, _, h3 => rw [show P.draw 2 = drawOf xs 2 5 from rfl]; unfold drawOf; rw [h3]; rfl
  have H : HI P [] ⟨.nil, 0⟩ s₁ := ⟨fun _ _ e => e, rfl, by decide, .nil, fun a h => (nomatch h), Nat.le_refl _, fun i o h => by rw [show (⟨.nil, 0⟩ : Hp).get i = none from rfl] at h; cases h⟩
  obtain ⟨loc', hp', hf⟩ := all _ r0.1 r0.2 _ t0.1 t0.2 sa
  refine ⟨.ref 920, m1, wpN_call (law_call (n := 0) (P := P) X D FL ⟨rfl, by decide, by decide⟩ H hf fun v' s' ρ' H' S r => ?_)⟩
  obtain rfl : v' = .bool true := by
    cases r with
    | bool => rfl
    | num t e => cases e
  refine ⟨.inl ⟨.bool true, .bool true, [], rfl, fun cls => rfl, .bool true, ?_, fun _ => ⟨.nil, fun a h => (nomatch h)⟩⟩, .of_keep fun b o e => S.keep b o e (fun h => (nomatch h)) (fun h => (nomatch h)), S.os, ?_⟩
  · exact postW_of (by wrow_shape) (by wtm_val) (by w_fin)
  · obtain ⟨l, hl, hb⟩ := S.gens
    intro y hy
    have := L.gens
    rw [this] at hl
    exact hb y (by have := Array.mem_toList_iff.mpr hy; rw [hl] at this; simpa using this)
end
end Mine
end
section
open PySem PySem.Calls PyProof.Rows PySem.W
set_option maxRecDepth 100000
set_option linter.unusedVariables false
namespace Mine
theorem lawLeft : LeftO PySem.Challenge.pw_ah5017_01 lawQ lawLoose lawXt (fun s => headObs s.heap.get? s) (fun _ => headVal) 16458 := fun w => runH_of (f := fun g s => (openSeen lawQ lawLoose (importedModules PySem.Challenge.pw_ah5017_01.main.body) lawXt true s, headObs g s)) (hdL w)
def sPos : Stmt → Pos
  | .FunctionDef _ _ _ _ _ _ _ _ _ p => p
  | _ => default
def dLaw : DefRec := ⟨"law", sArgs (topS 51), sBody (topS 51), sScope (topS 51), sPos (topS 51)⟩
theorem hdefL : defOf lawQ PySem.Challenge.rw_ah5017_01.row.name = some (dLaw, []) := by kernel_rfl
theorem hpL : PySem.Challenge.rw_ah5017_01.row.prog.theDef PySem.Challenge.rw_ah5017_01.row.name = some (dLaw.params, dLaw.body, dLaw.scope) := by kernel_rfl
theorem hkL : kwWritten? dLaw.params.kwonlyargs dLaw.params.kw_defaults = some [] := by kernel_rfl
theorem hokL : (chainsOk lawQ && opensWell PySem.Challenge.rw_ah5017_01.row.prog && (frees PySem.Challenge.rw_ah5017_01.row.toRowW && PySem.Challenge.rw_ah5017_01.row.within.isEmpty)) = true := by kernel_rfl
theorem hbL : PySem.Challenge.rw_ah5017_01.row.prog.bare := ⟨rfl, rfl, rfl, rfl, rfl, by decide +kernel⟩
theorem hwL : PySem.Challenge.rw_ah5017_01.row.toRowW.promised := by w_witness2
theorem row_holds (all : AllGood) (said : PySem.Challenge.rw_ah5017_01.row.wellSaid = true) : PySem.Challenge.rw_ah5017_01.row.Holds := 
  holds_mine (q := lawQ) (loose := lawLoose) (Xt := lawXt) (XP := XL lawQ []) (Yf := fun s => headObs s.heap.get? s) (Ya := fun _ => headVal) (YP := Seen) (N := 16458) lawLeft (fun w s e => ⟨s, e, fun _ _ h => h⟩) (fun w h h' Y k => let ⟨s0, e, k0⟩ := Y; ⟨s0, e, fun b o z => k _ _ (k0 _ _ z)⟩)
    (fun s e => xl_of s (Bool.and_eq_true_iff.mp e).1) XL.keeps hdefL hpL hkL (fun s e => recFacts_of (Bool.and_eq_true_iff.mp e).2) rfl said hokL hbL hwL (law_run all)
theorem law_holds (all : AllGood) : PySem.Challenge.rw_ah5017_01.Holds := by
  w_on
  o_law
  exact row_holds all (by assumption)
end Mine
end
section
open PySem PySem.W
set_option maxRecDepth 100000
namespace Mine
noncomputable section
def lc1 (sa : Addr) : Loc := some (.st sa) :: some (.ob 0) :: List.replicate 23 none
def hp1 : Hp := ⟨.node (some (.lst [.d0, .d1, .d2])) .nil .nil, 1⟩
def q0 : List V := [.int (.ofNat (nat_lit 0)), .int (.ofNat (nat_lit 1)), .int (.ofNat (nat_lit 2)), .int (.ofNat (nat_lit 3))]
def q1 : List V := [.int (.ofNat (nat_lit 3)), .int (.ofNat (nat_lit 2)), .int (.ofNat (nat_lit 1)), .int (.ofNat (nat_lit 0))]
def q2 : List V := [.int (.ofNat (nat_lit 3)), .int (.ofNat (nat_lit 2)), .int (.ofNat (nat_lit 0)), .int (.ofNat (nat_lit 1))]
def q3 : List V := [.int (.ofNat (nat_lit 1)), .int (.ofNat (nat_lit 0)), .int (.ofNat (nat_lit 2)), .int (.ofNat (nat_lit 3))]
def q4 : List V := [.int (.ofNat (nat_lit 0)), .int (.ofNat (nat_lit 2)), .int (.ofNat (nat_lit 1)), .int (.ofNat (nat_lit 3))]
def q5 : List V := [.int (.ofNat (nat_lit 0)), .int (.ofNat (nat_lit 1)), .int (.ofNat (nat_lit 3)), .int (.ofNat (nat_lit 2))]
def q6 : List V := [.int (.ofNat (nat_lit 0))]
def q7 : List V := [.int (.ofNat (nat_lit 1))]
def q8 : List V := [.int (.ofNat (nat_lit 2))]
def q9 : List V := [.int (.ofNat (nat_lit 1)), .int (.ofNat (nat_lit 2)), .int (.ofNat (nat_lit 0)), .int (.ofNat (nat_lit 3))]
def q10 : List V := [.int (.ofNat (nat_lit 0)), .int (.ofNat (nat_lit 1))]
def q11 : List V := [.int (.ofNat (nat_lit 1)), .int (.ofNat (nat_lit 0)), .int (.ofNat (nat_lit 3)), .int (.ofNat (nat_lit 2))]
def q12 : List V := [.int (.ofNat (nat_lit 0)), .int (.ofNat (nat_lit 2))]
def q13 : List V := [.int (.ofNat (nat_lit 2)), .int (.ofNat (nat_lit 0)), .int (.ofNat (nat_lit 1)), .int (.ofNat (nat_lit 3))]
def q14 : List V := [.int (.ofNat (nat_lit 1)), .int (.ofNat (nat_lit 0))]
def q15 : List V := [.int (.ofNat (nat_lit 0)), .int (.ofNat (nat_lit 2)), .int (.ofNat (nat_lit 3)), .int (.ofNat (nat_lit 1))]
def q16 : List V := [.int (.ofNat (nat_lit 1)), .int (.ofNat (nat_lit 2))]
def q17 : List V := [.int (.ofNat (nat_lit 0)), .int (.ofNat (nat_lit 3)), .int (.ofNat (nat_lit 1)), .int (.ofNat (nat_lit 2))]
def q18 : List V := [.int (.ofNat (nat_lit 2)), .int (.ofNat (nat_lit 1))]
def q19 : List V := [.int (.ofNat (nat_lit 2)), .int (.ofNat (nat_lit 1)), .int (.ofNat (nat_lit 0)), .int (.ofNat (nat_lit 3))]
def q20 : List V := [.int (.ofNat (nat_lit 0)), .int (.ofNat (nat_lit 1)), .int (.ofNat (nat_lit 0))]
def q21 : List V := [.int (.ofNat (nat_lit 1)), .int (.ofNat (nat_lit 2)), .int (.ofNat (nat_lit 3)), .int (.ofNat (nat_lit 0))]
def q22 : List V := [.int (.ofNat (nat_lit 0)), .int (.ofNat (nat_lit 1)), .int (.ofNat (nat_lit 2))]
def q23 : List V := [.int (.ofNat (nat_lit 1)), .int (.ofNat (nat_lit 3)), .int (.ofNat (nat_lit 0)), .int (.ofNat (nat_lit 2))]
def q24 : List V := [.int (.ofNat (nat_lit 0)), .int (.ofNat (nat_lit 2)), .int (.ofNat (nat_lit 1))]
def q25 : List V := [.int (.ofNat (nat_lit 2)), .int (.ofNat (nat_lit 0)), .int (.ofNat (nat_lit 3)), .int (.ofNat (nat_lit 1))]
def q26 : List V := [.int (.ofNat (nat_lit 1)), .int (.ofNat (nat_lit 0)), .int (.ofNat (nat_lit 2))]
def q27 : List V := [.int (.ofNat (nat_lit 0)), .int (.ofNat (nat_lit 3)), .int (.ofNat (nat_lit 2)), .int (.ofNat (nat_lit 1))]
def q28 : List V := [.int (.ofNat (nat_lit 1)), .int (.ofNat (nat_lit 2)), .int (.ofNat (nat_lit 1))]
def q29 : List V := [.int (.ofNat (nat_lit 3)), .int (.ofNat (nat_lit 0)), .int (.ofNat (nat_lit 1)), .int (.ofNat (nat_lit 2))]
def q30 : List V := [.int (.ofNat (nat_lit 2)), .int (.ofNat (nat_lit 1)), .int (.ofNat (nat_lit 0))]
def q31 : List V := [.int (.ofNat (nat_lit 2)), .int (.ofNat (nat_lit 1)), .int (.ofNat (nat_lit 3)), .int (.ofNat (nat_lit 0))]
def q32 : List V := [.int (.ofNat (nat_lit 0)), .int (.ofNat (nat_lit 1)), .int (.ofNat (nat_lit 0)), .int (.ofNat (nat_lit 2))]
def q33 : List V := [.int (.ofNat (nat_lit 1)), .int (.ofNat (nat_lit 3)), .int (.ofNat (nat_lit 2)), .int (.ofNat (nat_lit 0))]
def q34 : List V := [.int (.ofNat (nat_lit 0)), .int (.ofNat (nat_lit 1)), .int (.ofNat (nat_lit 2)), .int (.ofNat (nat_lit 1))]
def q35 : List V := [.int (.ofNat (nat_lit 3)), .int (.ofNat (nat_lit 1)), .int (.ofNat (nat_lit 0)), .int (.ofNat (nat_lit 2))]
def q36 : List V := [.int (.ofNat (nat_lit 0)), .int (.ofNat (nat_lit 2)), .int (.ofNat (nat_lit 1)), .int (.ofNat (nat_lit 0))]
def q37 : List V := [.int (.ofNat (nat_lit 2)), .int (.ofNat (nat_lit 3)), .int (.ofNat (nat_lit 0)), .int (.ofNat (nat_lit 1))]
def q38 : List V := [.int (.ofNat (nat_lit 1)), .int (.ofNat (nat_lit 0)), .int (.ofNat (nat_lit 2)), .int (.ofNat (nat_lit 1))]
def q39 : List V := [.int (.ofNat (nat_lit 3)), .int (.ofNat (nat_lit 0)), .int (.ofNat (nat_lit 2)), .int (.ofNat (nat_lit 1))]
def q40 : List V := [.int (.ofNat (nat_lit 1)), .int (.ofNat (nat_lit 2)), .int (.ofNat (nat_lit 1)), .int (.ofNat (nat_lit 0))]
def q41 : List V := [.int (.ofNat (nat_lit 2)), .int (.ofNat (nat_lit 3)), .int (.ofNat (nat_lit 1)), .int (.ofNat (nat_lit 0))]
def q42 : List V := [.int (.ofNat (nat_lit 0)), .int (.ofNat (nat_lit 1)), .int (.ofNat (nat_lit 0)), .int (.ofNat (nat_lit 2)), .int (.ofNat (nat_lit 1))]
def q43 : List V := [.int (.ofNat (nat_lit 3)), .int (.ofNat (nat_lit 1)), .int (.ofNat (nat_lit 2)), .int (.ofNat (nat_lit 0))]
def q44 : List V := [.int (.ofNat (nat_lit 0)), .int (.ofNat (nat_lit 1)), .int (.ofNat (nat_lit 2)), .int (.ofNat (nat_lit 1)), .int (.ofNat (nat_lit 0))]
def q45 : List V := [.int (.ofNat (nat_lit 1)), .int (.ofNat (nat_lit 0)), .int (.ofNat (nat_lit 2)), .int (.ofNat (nat_lit 1)), .int (.ofNat (nat_lit 0))]
def q46 : List V := [.int (.ofNat (nat_lit 0)), .int (.ofNat (nat_lit 1)), .int (.ofNat (nat_lit 0)), .int (.ofNat (nat_lit 2)), .int (.ofNat (nat_lit 1)), .int (.ofNat (nat_lit 0))]
def q47 : List V := [.int (.ofNat (nat_lit 0)), .int (.ofNat (nat_lit 1)), .int (.ofNat (nat_lit 2)), .int (.ofNat (nat_lit 3)), .int (.ofNat (nat_lit 4))]
def q48 : List V := [.int (.ofNat (nat_lit 2)), .int (.ofNat (nat_lit 1)), .int (.ofNat (nat_lit 0)), .int (.ofNat (nat_lit 4)), .int (.ofNat (nat_lit 3))]
def q49 : List V := [.int (.ofNat (nat_lit 2)), .int (.ofNat (nat_lit 1)), .int (.ofNat (nat_lit 0)), .int (.ofNat (nat_lit 3)), .int (.ofNat (nat_lit 4))]
def q50 : List V := [.int (.ofNat (nat_lit 0)), .int (.ofNat (nat_lit 2)), .int (.ofNat (nat_lit 1)), .int (.ofNat (nat_lit 3)), .int (.ofNat (nat_lit 4))]
def q51 : List V := [.int (.ofNat (nat_lit 1)), .int (.ofNat (nat_lit 0)), .int (.ofNat (nat_lit 2)), .int (.ofNat (nat_lit 3)), .int (.ofNat (nat_lit 4))]
def q52 : List V := [.int (.ofNat (nat_lit 0)), .int (.ofNat (nat_lit 1)), .int (.ofNat (nat_lit 2)), .int (.ofNat (nat_lit 4)), .int (.ofNat (nat_lit 3))]
def q53 : List V := [.int (.ofNat (nat_lit 2)), .int (.ofNat (nat_lit 0)), .int (.ofNat (nat_lit 1)), .int (.ofNat (nat_lit 4)), .int (.ofNat (nat_lit 3))]
def q54 : List V := [.int (.ofNat (nat_lit 1)), .int (.ofNat (nat_lit 2)), .int (.ofNat (nat_lit 0)), .int (.ofNat (nat_lit 3)), .int (.ofNat (nat_lit 4))]
def q55 : List V := [.int (.ofNat (nat_lit 1)), .int (.ofNat (nat_lit 0)), .int (.ofNat (nat_lit 2)), .int (.ofNat (nat_lit 4)), .int (.ofNat (nat_lit 3))]
def q56 : List V := [.int (.ofNat (nat_lit 2)), .int (.ofNat (nat_lit 0)), .int (.ofNat (nat_lit 1)), .int (.ofNat (nat_lit 3)), .int (.ofNat (nat_lit 4))]
def q57 : List V := [.int (.ofNat (nat_lit 1)), .int (.ofNat (nat_lit 2)), .int (.ofNat (nat_lit 0)), .int (.ofNat (nat_lit 4)), .int (.ofNat (nat_lit 3))]
def q58 : List V := [.int (.ofNat (nat_lit 0)), .int (.ofNat (nat_lit 2)), .int (.ofNat (nat_lit 1)), .int (.ofNat (nat_lit 4)), .int (.ofNat (nat_lit 3))]
def q59 : List V := [.int (.ofNat (nat_lit 3)), .int (.ofNat (nat_lit 4))]
def q60 : List V := [.int (.ofNat (nat_lit 4)), .int (.ofNat (nat_lit 3))]
def q61 : List V := [.int (.ofNat (nat_lit 0)), .int (.ofNat (nat_lit 1)), .int (.ofNat (nat_lit 2)), .int (.ofNat (nat_lit 3)), .int (.ofNat (nat_lit 4)), .int (.ofNat (nat_lit 5))]
def q62 : List V := [.int (.ofNat (nat_lit 2)), .int (.ofNat (nat_lit 3)), .int (.ofNat (nat_lit 0)), .int (.ofNat (nat_lit 1)), .int (.ofNat (nat_lit 5)), .int (.ofNat (nat_lit 4))]
def q63 : List V := [.int (.ofNat (nat_lit 2)), .int (.ofNat (nat_lit 3)), .int (.ofNat (nat_lit 0)), .int (.ofNat (nat_lit 1)), .int (.ofNat (nat_lit 4)), .int (.ofNat (nat_lit 5))]
def q64 : List V := [.int (.ofNat (nat_lit 0)), .int (.ofNat (nat_lit 3)), .int (.ofNat (nat_lit 2)), .int (.ofNat (nat_lit 1)), .int (.ofNat (nat_lit 4)), .int (.ofNat (nat_lit 5))]
def q65 : List V := [.int (.ofNat (nat_lit 1)), .int (.ofNat (nat_lit 0)), .int (.ofNat (nat_lit 3)), .int (.ofNat (nat_lit 2)), .int (.ofNat (nat_lit 4)), .int (.ofNat (nat_lit 5))]
def q66 : List V := [.int (.ofNat (nat_lit 0)), .int (.ofNat (nat_lit 1)), .int (.ofNat (nat_lit 2)), .int (.ofNat (nat_lit 3)), .int (.ofNat (nat_lit 5)), .int (.ofNat (nat_lit 4))]
def q67 : List V := [.int (.ofNat (nat_lit 3)), .int (.ofNat (nat_lit 0)), .int (.ofNat (nat_lit 1)), .int (.ofNat (nat_lit 2)), .int (.ofNat (nat_lit 5)), .int (.ofNat (nat_lit 4))]
def q68 : List V := [.int (.ofNat (nat_lit 3)), .int (.ofNat (nat_lit 0)), .int (.ofNat (nat_lit 1)), .int (.ofNat (nat_lit 2)), .int (.ofNat (nat_lit 4)), .int (.ofNat (nat_lit 5))]
def q69 : List V := [.int (.ofNat (nat_lit 0)), .int (.ofNat (nat_lit 3)), .int (.ofNat (nat_lit 2)), .int (.ofNat (nat_lit 1)), .int (.ofNat (nat_lit 5)), .int (.ofNat (nat_lit 4))]
def q70 : List V := [.int (.ofNat (nat_lit 1)), .int (.ofNat (nat_lit 2)), .int (.ofNat (nat_lit 3)), .int (.ofNat (nat_lit 0)), .int (.ofNat (nat_lit 4)), .int (.ofNat (nat_lit 5))]
def q71 : List V := [.int (.ofNat (nat_lit 1)), .int (.ofNat (nat_lit 0)), .int (.ofNat (nat_lit 3)), .int (.ofNat (nat_lit 2)), .int (.ofNat (nat_lit 5)), .int (.ofNat (nat_lit 4))]
def q72 : List V := [.int (.ofNat (nat_lit 3)), .int (.ofNat (nat_lit 2)), .int (.ofNat (nat_lit 1)), .int (.ofNat (nat_lit 0)), .int (.ofNat (nat_lit 4)), .int (.ofNat (nat_lit 5))]
def q73 : List V := [.int (.ofNat (nat_lit 2)), .int (.ofNat (nat_lit 1)), .int (.ofNat (nat_lit 0)), .int (.ofNat (nat_lit 3)), .int (.ofNat (nat_lit 4)), .int (.ofNat (nat_lit 5))]
def q74 : List V := [.int (.ofNat (nat_lit 1)), .int (.ofNat (nat_lit 2)), .int (.ofNat (nat_lit 3)), .int (.ofNat (nat_lit 0)), .int (.ofNat (nat_lit 5)), .int (.ofNat (nat_lit 4))]
def q75 : List V := [.int (.ofNat (nat_lit 3)), .int (.ofNat (nat_lit 2)), .int (.ofNat (nat_lit 1)), .int (.ofNat (nat_lit 0)), .int (.ofNat (nat_lit 5)), .int (.ofNat (nat_lit 4))]
def q76 : List V := [.int (.ofNat (nat_lit 2)), .int (.ofNat (nat_lit 1)), .int (.ofNat (nat_lit 0)), .int (.ofNat (nat_lit 3)), .int (.ofNat (nat_lit 5)), .int (.ofNat (nat_lit 4))]
def q77 : List V := [.int (.ofNat (nat_lit 4)), .int (.ofNat (nat_lit 5))]
def q78 : List V := [.int (.ofNat (nat_lit 5)), .int (.ofNat (nat_lit 4))]
def q79 : List V := [.int (.ofNat (nat_lit 1)), .int (.ofNat (nat_lit 0)), .int (.ofNat (nat_lit 1))]
def q80 : List V := [.int (.ofNat (nat_lit 0)), .int (.ofNat (nat_lit 1)), .int (.ofNat (nat_lit 0)), .int (.ofNat (nat_lit 1))]
def q81 : List V := [.int (.ofNat (nat_lit 1)), .int (.ofNat (nat_lit 0)), .int (.ofNat (nat_lit 1)), .int (.ofNat (nat_lit 2))]
def q82 : List V := [.int (.ofNat (nat_lit 0)), .int (.ofNat (nat_lit 1)), .int (.ofNat (nat_lit 0)), .int (.ofNat (nat_lit 1)), .int (.ofNat (nat_lit 2))]
def q83 : List V := [.int (.ofNat (nat_lit 0)), .int (.ofNat (nat_lit 1)), .int (.ofNat (nat_lit 2)), .int (.ofNat (nat_lit 3)), .int (.ofNat (nat_lit 4)), .int (.ofNat (nat_lit 5)), .int (.ofNat (nat_lit 6))]
def q84 : List V := [.int (.ofNat (nat_lit 3)), .int (.ofNat (nat_lit 2)), .int (.ofNat (nat_lit 1)), .int (.ofNat (nat_lit 0)), .int (.ofNat (nat_lit 4)), .int (.ofNat (nat_lit 6)), .int (.ofNat (nat_lit 5))]
def q85 : List V := [.int (.ofNat (nat_lit 3)), .int (.ofNat (nat_lit 2)), .int (.ofNat (nat_lit 1)), .int (.ofNat (nat_lit 0)), .int (.ofNat (nat_lit 4)), .int (.ofNat (nat_lit 5)), .int (.ofNat (nat_lit 6))]
def q86 : List V := [.int (.ofNat (nat_lit 0)), .int (.ofNat (nat_lit 4)), .int (.ofNat (nat_lit 3)), .int (.ofNat (nat_lit 2)), .int (.ofNat (nat_lit 1))]
def q87 : List V := [.int (.ofNat (nat_lit 0)), .int (.ofNat (nat_lit 4)), .int (.ofNat (nat_lit 3)), .int (.ofNat (nat_lit 2)), .int (.ofNat (nat_lit 1)), .int (.ofNat (nat_lit 5)), .int (.ofNat (nat_lit 6))]
def q88 : List V := [.int (.ofNat (nat_lit 1)), .int (.ofNat (nat_lit 0)), .int (.ofNat (nat_lit 4)), .int (.ofNat (nat_lit 3)), .int (.ofNat (nat_lit 2)), .int (.ofNat (nat_lit 5)), .int (.ofNat (nat_lit 6))]
def q89 : List V := [.int (.ofNat (nat_lit 0)), .int (.ofNat (nat_lit 1)), .int (.ofNat (nat_lit 2)), .int (.ofNat (nat_lit 3)), .int (.ofNat (nat_lit 4)), .int (.ofNat (nat_lit 6)), .int (.ofNat (nat_lit 5))]
def q90 : List V := [.int (.ofNat (nat_lit 4)), .int (.ofNat (nat_lit 0)), .int (.ofNat (nat_lit 1)), .int (.ofNat (nat_lit 2)), .int (.ofNat (nat_lit 3)), .int (.ofNat (nat_lit 6)), .int (.ofNat (nat_lit 5))]
def q91 : List V := [.int (.ofNat (nat_lit 3)), .int (.ofNat (nat_lit 4)), .int (.ofNat (nat_lit 0)), .int (.ofNat (nat_lit 1)), .int (.ofNat (nat_lit 2)), .int (.ofNat (nat_lit 5)), .int (.ofNat (nat_lit 6))]
def q92 : List V := [.int (.ofNat (nat_lit 2)), .int (.ofNat (nat_lit 1)), .int (.ofNat (nat_lit 0)), .int (.ofNat (nat_lit 4)), .int (.ofNat (nat_lit 3)), .int (.ofNat (nat_lit 6)), .int (.ofNat (nat_lit 5))]
def q93 : List V := [.int (.ofNat (nat_lit 1)), .int (.ofNat (nat_lit 0)), .int (.ofNat (nat_lit 4)), .int (.ofNat (nat_lit 3)), .int (.ofNat (nat_lit 2)), .int (.ofNat (nat_lit 6)), .int (.ofNat (nat_lit 5))]
def q94 : List V := [.int (.ofNat (nat_lit 4)), .int (.ofNat (nat_lit 0)), .int (.ofNat (nat_lit 1)), .int (.ofNat (nat_lit 2)), .int (.ofNat (nat_lit 3)), .int (.ofNat (nat_lit 5)), .int (.ofNat (nat_lit 6))]
def q95 : List V := [.int (.ofNat (nat_lit 2)), .int (.ofNat (nat_lit 3)), .int (.ofNat (nat_lit 4)), .int (.ofNat (nat_lit 0)), .int (.ofNat (nat_lit 1)), .int (.ofNat (nat_lit 5)), .int (.ofNat (nat_lit 6))]
def q96 : List V := [.int (.ofNat (nat_lit 3)), .int (.ofNat (nat_lit 4)), .int (.ofNat (nat_lit 0)), .int (.ofNat (nat_lit 1)), .int (.ofNat (nat_lit 2)), .int (.ofNat (nat_lit 6)), .int (.ofNat (nat_lit 5))]
def q97 : List V := [.int (.ofNat (nat_lit 1)), .int (.ofNat (nat_lit 2)), .int (.ofNat (nat_lit 3)), .int (.ofNat (nat_lit 4)), .int (.ofNat (nat_lit 0)), .int (.ofNat (nat_lit 6)), .int (.ofNat (nat_lit 5))]
def q98 : List V := [.int (.ofNat (nat_lit 4)), .int (.ofNat (nat_lit 3)), .int (.ofNat (nat_lit 2)), .int (.ofNat (nat_lit 1)), .int (.ofNat (nat_lit 0)), .int (.ofNat (nat_lit 6)), .int (.ofNat (nat_lit 5))]
def q99 : List V := [.int (.ofNat (nat_lit 4)), .int (.ofNat (nat_lit 3)), .int (.ofNat (nat_lit 2)), .int (.ofNat (nat_lit 1)), .int (.ofNat (nat_lit 0)), .int (.ofNat (nat_lit 5)), .int (.ofNat (nat_lit 6))]
def q100 : List V := [.int (.ofNat (nat_lit 0)), .int (.ofNat (nat_lit 4)), .int (.ofNat (nat_lit 3)), .int (.ofNat (nat_lit 2)), .int (.ofNat (nat_lit 1)), .int (.ofNat (nat_lit 6)), .int (.ofNat (nat_lit 5))]
def q101 : List V := [.int (.ofNat (nat_lit 1)), .int (.ofNat (nat_lit 2)), .int (.ofNat (nat_lit 3)), .int (.ofNat (nat_lit 4)), .int (.ofNat (nat_lit 0)), .int (.ofNat (nat_lit 5)), .int (.ofNat (nat_lit 6))]
def q102 : List V := [.int (.ofNat (nat_lit 2)), .int (.ofNat (nat_lit 1)), .int (.ofNat (nat_lit 0)), .int (.ofNat (nat_lit 4)), .int (.ofNat (nat_lit 3)), .int (.ofNat (nat_lit 5)), .int (.ofNat (nat_lit 6))]
def q103 : List V := [.int (.ofNat (nat_lit 2)), .int (.ofNat (nat_lit 3)), .int (.ofNat (nat_lit 4)), .int (.ofNat (nat_lit 0)), .int (.ofNat (nat_lit 1)), .int (.ofNat (nat_lit 6)), .int (.ofNat (nat_lit 5))]
def q104 : List V := [.int (.ofNat (nat_lit 5)), .int (.ofNat (nat_lit 6))]
def q105 : List V := [.int (.ofNat (nat_lit 6)), .int (.ofNat (nat_lit 5))]
def q106 : List V := [.int (.ofNat (nat_lit 1)), .int (.ofNat (nat_lit 0)), .int (.ofNat (nat_lit 4)), .int (.ofNat (nat_lit 3)), .int (.ofNat (nat_lit 2))]
def q107 : List V := [.int (.ofNat (nat_lit 1)), .int (.ofNat (nat_lit 0)), .int (.ofNat (nat_lit 1)), .int (.ofNat (nat_lit 0))]
def q108 : List V := [.int (.ofNat (nat_lit 0)), .int (.ofNat (nat_lit 1)), .int (.ofNat (nat_lit 0)), .int (.ofNat (nat_lit 1)), .int (.ofNat (nat_lit 0))]
def q109 : List V := [.int (.ofNat (nat_lit 1)), .int (.ofNat (nat_lit 0)), .int (.ofNat (nat_lit 1)), .int (.ofNat (nat_lit 0)), .int (.ofNat (nat_lit 2))]
def q110 : List V := [.int (.ofNat (nat_lit 0)), .int (.ofNat (nat_lit 1)), .int (.ofNat (nat_lit 0)), .int (.ofNat (nat_lit 1)), .int (.ofNat (nat_lit 0)), .int (.ofNat (nat_lit 2))]
def q111 : List V := [.int (.ofNat (nat_lit 0)), .int (.ofNat (nat_lit 1)), .int (.ofNat (nat_lit 2)), .int (.ofNat (nat_lit 3)), .int (.ofNat (nat_lit 4)), .int (.ofNat (nat_lit 5)), .int (.ofNat (nat_lit 6)), .int (.ofNat (nat_lit 7))]
def q112 : List V := [.int (.ofNat (nat_lit 3)), .int (.ofNat (nat_lit 4)), .int (.ofNat (nat_lit 5)), .int (.ofNat (nat_lit 0)), .int (.ofNat (nat_lit 1)), .int (.ofNat (nat_lit 2)), .int (.ofNat (nat_lit 7)), .int (.ofNat (nat_lit 6))]
def q113 : List V := [.int (.ofNat (nat_lit 3)), .int (.ofNat (nat_lit 4)), .int (.ofNat (nat_lit 5)), .int (.ofNat (nat_lit 0)), .int (.ofNat (nat_lit 1)), .int (.ofNat (nat_lit 2)), .int (.ofNat (nat_lit 6)), .int (.ofNat (nat_lit 7))]
def q114 : List V := [.int (.ofNat (nat_lit 0)), .int (.ofNat (nat_lit 5)), .int (.ofNat (nat_lit 4)), .int (.ofNat (nat_lit 3)), .int (.ofNat (nat_lit 2)), .int (.ofNat (nat_lit 1))]
def q115 : List V := [.int (.ofNat (nat_lit 0)), .int (.ofNat (nat_lit 5)), .int (.ofNat (nat_lit 4)), .int (.ofNat (nat_lit 3)), .int (.ofNat (nat_lit 2)), .int (.ofNat (nat_lit 1)), .int (.ofNat (nat_lit 6)), .int (.ofNat (nat_lit 7))]
def q116 : List V := [.int (.ofNat (nat_lit 1)), .int (.ofNat (nat_lit 0)), .int (.ofNat (nat_lit 5)), .int (.ofNat (nat_lit 4)), .int (.ofNat (nat_lit 3)), .int (.ofNat (nat_lit 2)), .int (.ofNat (nat_lit 6)), .int (.ofNat (nat_lit 7))]
def q117 : List V := [.int (.ofNat (nat_lit 0)), .int (.ofNat (nat_lit 1)), .int (.ofNat (nat_lit 2)), .int (.ofNat (nat_lit 3)), .int (.ofNat (nat_lit 4)), .int (.ofNat (nat_lit 5)), .int (.ofNat (nat_lit 7)), .int (.ofNat (nat_lit 6))]
def q118 : List V := [.int (.ofNat (nat_lit 5)), .int (.ofNat (nat_lit 0)), .int (.ofNat (nat_lit 1)), .int (.ofNat (nat_lit 2)), .int (.ofNat (nat_lit 3)), .int (.ofNat (nat_lit 4)), .int (.ofNat (nat_lit 7)), .int (.ofNat (nat_lit 6))]
def q119 : List V := [.int (.ofNat (nat_lit 4)), .int (.ofNat (nat_lit 5)), .int (.ofNat (nat_lit 0)), .int (.ofNat (nat_lit 1)), .int (.ofNat (nat_lit 2)), .int (.ofNat (nat_lit 3)), .int (.ofNat (nat_lit 6)), .int (.ofNat (nat_lit 7))]
def q120 : List V := [.int (.ofNat (nat_lit 2)), .int (.ofNat (nat_lit 1)), .int (.ofNat (nat_lit 0)), .int (.ofNat (nat_lit 5)), .int (.ofNat (nat_lit 4)), .int (.ofNat (nat_lit 3)), .int (.ofNat (nat_lit 7)), .int (.ofNat (nat_lit 6))]
def q121 : List V := [.int (.ofNat (nat_lit 1)), .int (.ofNat (nat_lit 0)), .int (.ofNat (nat_lit 5)), .int (.ofNat (nat_lit 4)), .int (.ofNat (nat_lit 3)), .int (.ofNat (nat_lit 2)), .int (.ofNat (nat_lit 7)), .int (.ofNat (nat_lit 6))]
def q122 : List V := [.int (.ofNat (nat_lit 5)), .int (.ofNat (nat_lit 0)), .int (.ofNat (nat_lit 1)), .int (.ofNat (nat_lit 2)), .int (.ofNat (nat_lit 3)), .int (.ofNat (nat_lit 4)), .int (.ofNat (nat_lit 6)), .int (.ofNat (nat_lit 7))]
def q123 : List V := [.int (.ofNat (nat_lit 3)), .int (.ofNat (nat_lit 2)), .int (.ofNat (nat_lit 1)), .int (.ofNat (nat_lit 0)), .int (.ofNat (nat_lit 5)), .int (.ofNat (nat_lit 4)), .int (.ofNat (nat_lit 7)), .int (.ofNat (nat_lit 6))]
def q124 : List V := [.int (.ofNat (nat_lit 4)), .int (.ofNat (nat_lit 5)), .int (.ofNat (nat_lit 0)), .int (.ofNat (nat_lit 1)), .int (.ofNat (nat_lit 2)), .int (.ofNat (nat_lit 3)), .int (.ofNat (nat_lit 7)), .int (.ofNat (nat_lit 6))]
def q125 : List V := [.int (.ofNat (nat_lit 0)), .int (.ofNat (nat_lit 5)), .int (.ofNat (nat_lit 4)), .int (.ofNat (nat_lit 3)), .int (.ofNat (nat_lit 2)), .int (.ofNat (nat_lit 1)), .int (.ofNat (nat_lit 7)), .int (.ofNat (nat_lit 6))]
def q126 : List V := [.int (.ofNat (nat_lit 1)), .int (.ofNat (nat_lit 2)), .int (.ofNat (nat_lit 3)), .int (.ofNat (nat_lit 4)), .int (.ofNat (nat_lit 5)), .int (.ofNat (nat_lit 0)), .int (.ofNat (nat_lit 6)), .int (.ofNat (nat_lit 7))]
def q127 : List V := [.int (.ofNat (nat_lit 5)), .int (.ofNat (nat_lit 4)), .int (.ofNat (nat_lit 3)), .int (.ofNat (nat_lit 2)), .int (.ofNat (nat_lit 1)), .int (.ofNat (nat_lit 0)), .int (.ofNat (nat_lit 6)), .int (.ofNat (nat_lit 7))]
def q128 : List V := [.int (.ofNat (nat_lit 2)), .int (.ofNat (nat_lit 1)), .int (.ofNat (nat_lit 0)), .int (.ofNat (nat_lit 5)), .int (.ofNat (nat_lit 4)), .int (.ofNat (nat_lit 3)), .int (.ofNat (nat_lit 6)), .int (.ofNat (nat_lit 7))]
def q129 : List V := [.int (.ofNat (nat_lit 1)), .int (.ofNat (nat_lit 2)), .int (.ofNat (nat_lit 3)), .int (.ofNat (nat_lit 4)), .int (.ofNat (nat_lit 5)), .int (.ofNat (nat_lit 0)), .int (.ofNat (nat_lit 7)), .int (.ofNat (nat_lit 6))]
def q130 : List V := [.int (.ofNat (nat_lit 5)), .int (.ofNat (nat_lit 4)), .int (.ofNat (nat_lit 3)), .int (.ofNat (nat_lit 2)), .int (.ofNat (nat_lit 1)), .int (.ofNat (nat_lit 0)), .int (.ofNat (nat_lit 7)), .int (.ofNat (nat_lit 6))]
def q131 : List V := [.int (.ofNat (nat_lit 2)), .int (.ofNat (nat_lit 3)), .int (.ofNat (nat_lit 4)), .int (.ofNat (nat_lit 5)), .int (.ofNat (nat_lit 0)), .int (.ofNat (nat_lit 1)), .int (.ofNat (nat_lit 6)), .int (.ofNat (nat_lit 7))]
def q132 : List V := [.int (.ofNat (nat_lit 4)), .int (.ofNat (nat_lit 3)), .int (.ofNat (nat_lit 2)), .int (.ofNat (nat_lit 1)), .int (.ofNat (nat_lit 0)), .int (.ofNat (nat_lit 5)), .int (.ofNat (nat_lit 6)), .int (.ofNat (nat_lit 7))]
def q133 : List V := [.int (.ofNat (nat_lit 3)), .int (.ofNat (nat_lit 2)), .int (.ofNat (nat_lit 1)), .int (.ofNat (nat_lit 0)), .int (.ofNat (nat_lit 5)), .int (.ofNat (nat_lit 4)), .int (.ofNat (nat_lit 6)), .int (.ofNat (nat_lit 7))]
def q134 : List V := [.int (.ofNat (nat_lit 2)), .int (.ofNat (nat_lit 3)), .int (.ofNat (nat_lit 4)), .int (.ofNat (nat_lit 5)), .int (.ofNat (nat_lit 0)), .int (.ofNat (nat_lit 1)), .int (.ofNat (nat_lit 7)), .int (.ofNat (nat_lit 6))]
def q135 : List V := [.int (.ofNat (nat_lit 4)), .int (.ofNat (nat_lit 3)), .int (.ofNat (nat_lit 2)), .int (.ofNat (nat_lit 1)), .int (.ofNat (nat_lit 0)), .int (.ofNat (nat_lit 5)), .int (.ofNat (nat_lit 7)), .int (.ofNat (nat_lit 6))]
def q136 : List V := [.int (.ofNat (nat_lit 6)), .int (.ofNat (nat_lit 7))]
def q137 : List V := [.int (.ofNat (nat_lit 7)), .int (.ofNat (nat_lit 6))]
def q138 : List V := [.int (.ofNat (nat_lit 1)), .int (.ofNat (nat_lit 0)), .int (.ofNat (nat_lit 5)), .int (.ofNat (nat_lit 4)), .int (.ofNat (nat_lit 3)), .int (.ofNat (nat_lit 2))]
def q139 : List V := [.int (.ofNat (nat_lit 1)), .int (.ofNat (nat_lit 0)), .int (.ofNat (nat_lit 1)), .int (.ofNat (nat_lit 0)), .int (.ofNat (nat_lit 1))]
def q140 : List V := [.int (.ofNat (nat_lit 0)), .int (.ofNat (nat_lit 1)), .int (.ofNat (nat_lit 0)), .int (.ofNat (nat_lit 1)), .int (.ofNat (nat_lit 0)), .int (.ofNat (nat_lit 1))]
def q141 : List V := [.int (.ofNat (nat_lit 1)), .int (.ofNat (nat_lit 0)), .int (.ofNat (nat_lit 1)), .int (.ofNat (nat_lit 0)), .int (.ofNat (nat_lit 1)), .int (.ofNat (nat_lit 2))]
def q142 : List V := [.int (.ofNat (nat_lit 0)), .int (.ofNat (nat_lit 1)), .int (.ofNat (nat_lit 0)), .int (.ofNat (nat_lit 1)), .int (.ofNat (nat_lit 0)), .int (.ofNat (nat_lit 1)), .int (.ofNat (nat_lit 2))]
def loR0 (sa : Addr) : Loc := [(.some (.st sa)), (.some (.ob (nat_lit 0))), (.some (.ob (nat_lit 1))), (.some (.ob (nat_lit 2))), .none, (.some (.tup q0)), (.some (.ob (nat_lit 3))), (.some (.ob (nat_lit 4))), (.some (.ob (nat_lit 5))), (.some (.tup q1)), (.some (.int (.ofNat (nat_lit 2)))), (.some (.tup q2)), (.some (.ob (nat_lit 78))), (.some (.ob (nat_lit 79))), (.some (.ob (nat_lit 81))), .none, .none, .none, .none, .none, .none, .none, .none, .none, .none]
def hpR0 : Hp := ⟨(.node (.some (.lst [.d0, .d1, .d2])) (.node (.some (.lst [(.tup q3), (.tup q4), (.tup q5)])) (.node (.some (.dT [(q0, (.tup [])), (q3, (.tup q6)), (q4, (.tup q7)), (q5, (.tup q8)), (q9, (.tup q10)), (q11, (.tup q12)), (q13, (.tup q14)), (q15, (.tup q16)), (q17, (.tup q18)), (q19, (.tup q20)), (q21, (.tup q22)), (q23, (.tup q24)), (q25, (.tup q26)), (q27, (.tup q28)), (q29, (.tup q30)), (q31, (.tup q32)), (q33, (.tup q34)), (q35, (.tup q36)), (q37, (.tup q38)), (q39, (.tup q40)), (q41, (.tup q42)), (q43, (.tup q44)), (q2, (.tup q45)), (q1, (.tup q46))])) (.node (.some (.lst q4)) (.node (.some (.lst q11)) (.node (.some (.lst q5)) (.node (.some (.lst q27)) (.node (.some (.dT [])) (.node (.some (.dI [((.nm (nat_lit 20)), (.ob (nat_lit 257))), ((.nm (nat_lit 21)), (.ob (nat_lit 265))), ((.nm (nat_lit 22)), (.ob (nat_lit 273)))] (nat_lit 3))) .nil .nil) .nil) (.node (.some (.dT [])) .nil .nil)) (.node (.some (.dI [((.nm (nat_lit 0)), (.ob (nat_lit 97))), ((.nm (nat_lit 6)), (.ob (nat_lit 115))), ((.nm (nat_lit 7)), (.ob (nat_lit 121)))] (nat_lit 3))) (.node (.some (.dI [((.nm (nat_lit 7)), (.ob (nat_lit 161))), ((.nm (nat_lit 8)), (.ob (nat_lit 171))), ((.nm (nat_lit 19)), (.ob (nat_lit 207)))] (nat_lit 3))) .nil .nil) (.node (.some (.dT [])) .nil .nil))) (.node (.some (.lst q17)) (.node (.some (.dT [([(.nm (nat_lit 0)), (.nm (nat_lit 1))], (.int (.ofNat (nat_lit 0)))), ([(.nm (nat_lit 0)), (.nm (nat_lit 2))], (.int (.ofNat (nat_lit 1)))), ([(.nm (nat_lit 0)), (.nm (nat_lit 3))], (.int (.ofNat (nat_lit 2)))), ([(.nm (nat_lit 1)), (.nm (nat_lit 0))], (.int (.ofNat (nat_lit 0)))), ([(.nm (nat_lit 1)), (.nm (nat_lit 4))], (.int (.ofNat (nat_lit 1)))), ([(.nm (nat_lit 1)), (.nm (nat_lit 5))], (.int (.ofNat (nat_lit 2)))), ([(.nm (nat_lit 2)), (.nm (nat_lit 6))], (.int (.ofNat (nat_lit 0)))), ([(.nm (nat_lit 2)), (.nm (nat_lit 0))], (.int (.ofNat (nat_lit 1)))), ([(.nm (nat_lit 2)), (.nm (nat_lit 7))], (.int (.ofNat (nat_lit 2)))), ([(.nm (nat_lit 3)), (.nm (nat_lit 5))], (.int (.ofNat (nat_lit 0)))), ([(.nm (nat_lit 3)), (.nm (nat_lit 8))], (.int (.ofNat (nat_lit 1)))), ([(.nm (nat_lit 3)), (.nm (nat_lit 0))], (.int (.ofNat (nat_lit 2)))), ([(.nm (nat_lit 4)), (.nm (nat_lit 9))], (.int (.ofNat (nat_lit 0)))), ([(.nm (nat_lit 4)), (.nm (nat_lit 1))], (.int (.ofNat (nat_lit 1)))), ([(.nm (nat_lit 4)), (.nm (nat_lit 10))], (.int (.ofNat (nat_lit 2)))), ([(.nm (nat_lit 5)), (.nm (nat_lit 3))], (.int (.ofNat (nat_lit 0)))), ([(.nm (nat_lit 5)), (.nm (nat_lit 11))], (.int (.ofNat (nat_lit 1)))), ([(.nm (nat_lit 5)), (.nm (nat_lit 1))], (.int (.ofNat (nat_lit 2)))), ([(.nm (nat_lit 6)), (.nm (nat_lit 2))], (.int (.ofNat (nat_lit 0)))), ([(.nm (nat_lit 6)), (.nm (nat_lit 9))], (.int (.ofNat (nat_lit 1)))), ([(.nm (nat_lit 6)), (.nm (nat_lit 12))], (.int (.ofNat (nat_lit 2)))), ([(.nm (nat_lit 7)), (.nm (nat_lit 12))], (.int (.ofNat (nat_lit 0)))), ([(.nm (nat_lit 7)), (.nm (nat_lit 13))], (.int (.ofNat (nat_lit 1)))), ([(.nm (nat_lit 7)), (.nm (nat_lit 2))], (.int (.ofNat (nat_lit 2)))), ([(.nm (nat_lit 8)), (.nm (nat_lit 14))], (.int (.ofNat (nat_lit 0)))), ([(.nm (nat_lit 8)), (.nm (nat_lit 3))], (.int (.ofNat (nat_lit 1)))), ([(.nm (nat_lit 8)), (.nm (nat_lit 13))], (.int (.ofNat (nat_lit 2)))), ([(.nm (nat_lit 9)), (.nm (nat_lit 4))], (.int (.ofNat (nat_lit 0)))), ([(.nm (nat_lit 9)), (.nm (nat_lit 6))], (.int (.ofNat (nat_lit 1)))), ([(.nm (nat_lit 9)), (.nm (nat_lit 15))], (.int (.ofNat (nat_lit 2)))), ([(.nm (nat_lit 10)), (.nm (nat_lit 15))], (.int (.ofNat (nat_lit 0)))), ([(.nm (nat_lit 10)), (.nm (nat_lit 16))], (.int (.ofNat (nat_lit 1)))), ([(.nm (nat_lit 10)), (.nm (nat_lit 4))], (.int (.ofNat (nat_lit 2)))), ([(.nm (nat_lit 11)), (.nm (nat_lit 17))], (.int (.ofNat (nat_lit 0)))), ([(.nm (nat_lit 11)), (.nm (nat_lit 5))], (.int (.ofNat (nat_lit 1)))), ([(.nm (nat_lit 11)), (.nm (nat_lit 16))], (.int (.ofNat (nat_lit 2)))), ([(.nm (nat_lit 12)), (.nm (nat_lit 7))], (.int (.ofNat (nat_lit 0)))), ([(.nm (nat_lit 12)), (.nm (nat_lit 18))], (.int (.ofNat (nat_lit 1)))), ([(.nm (nat_lit 12)), (.nm (nat_lit 6))], (.int (.ofNat (nat_lit 2)))), ([(.nm (nat_lit 13)), (.nm (nat_lit 19))], (.int (.ofNat (nat_lit 0)))), ([(.nm (nat_lit 13)), (.nm (nat_lit 7))], (.int (.ofNat (nat_lit 1)))), ([(.nm (nat_lit 13)), (.nm (nat_lit 8))], (.int (.ofNat (nat_lit 2)))), ([(.nm (nat_lit 14)), (.nm (nat_lit 8))], (.int (.ofNat (nat_lit 0)))), ([(.nm (nat_lit 14)), (.nm (nat_lit 17))], (.int (.ofNat (nat_lit 1)))), ([(.nm (nat_lit 14)), (.nm (nat_lit 19))], (.int (.ofNat (nat_lit 2)))), ([(.nm (nat_lit 15)), (.nm (nat_lit 10))], (.int (.ofNat (nat_lit 0)))), ([(.nm (nat_lit 15)), (.nm (nat_lit 20))], (.int (.ofNat (nat_lit 1)))), ([(.nm (nat_lit 15)), (.nm (nat_lit 9))], (.int (.ofNat (nat_lit 2)))), ([(.nm (nat_lit 16)), (.nm (nat_lit 21))], (.int (.ofNat (nat_lit 0)))), ([(.nm (nat_lit 16)), (.nm (nat_lit 10))], (.int (.ofNat (nat_lit 1)))), ([(.nm (nat_lit 16)), (.nm (nat_lit 11))], (.int (.ofNat (nat_lit 2)))), ([(.nm (nat_lit 17)), (.nm (nat_lit 11))], (.int (.ofNat (nat_lit 0)))), ([(.nm (nat_lit 17)), (.nm (nat_lit 14))], (.int (.ofNat (nat_lit 1)))), ([(.nm (nat_lit 17)), (.nm (nat_lit 21))], (.int (.ofNat (nat_lit 2)))), ([(.nm (nat_lit 18)), (.nm (nat_lit 22))], (.int (.ofNat (nat_lit 0)))), ([(.nm (nat_lit 18)), (.nm (nat_lit 12))], (.int (.ofNat (nat_lit 1)))), ([(.nm (nat_lit 18)), (.nm (nat_lit 20))], (.int (.ofNat (nat_lit 2)))), ([(.nm (nat_lit 19)), (.nm (nat_lit 13))], (.int (.ofNat (nat_lit 0)))), ([(.nm (nat_lit 19)), (.nm (nat_lit 22))], (.int (.ofNat (nat_lit 1)))), ([(.nm (nat_lit 19)), (.nm (nat_lit 14))], (.int (.ofNat (nat_lit 2)))), ([(.nm (nat_lit 20)), (.nm (nat_lit 23))], (.int (.ofNat (nat_lit 0)))), ([(.nm (nat_lit 20)), (.nm (nat_lit 15))], (.int (.ofNat (nat_lit 1)))), ([(.nm (nat_lit 20)), (.nm (nat_lit 18))], (.int (.ofNat (nat_lit 2)))), ([(.nm (nat_lit 21)), (.nm (nat_lit 16))], (.int (.ofNat (nat_lit 0)))), ([(.nm (nat_lit 21)), (.nm (nat_lit 23))], (.int (.ofNat (nat_lit 1)))), ([(.nm (nat_lit 21)), (.nm (nat_lit 17))], (.int (.ofNat (nat_lit 2)))), ([(.nm (nat_lit 22)), (.nm (nat_lit 18))], (.int (.ofNat (nat_lit 0)))), ([(.nm (nat_lit 22)), (.nm (nat_lit 19))], (.int (.ofNat (nat_lit 1)))), ([(.nm (nat_lit 22)), (.nm (nat_lit 23))], (.int (.ofNat (nat_lit 2)))), ([(.nm (nat_lit 23)), (.nm (nat_lit 20))], (.int (.ofNat (nat_lit 0)))), ([(.nm (nat_lit 23)), (.nm (nat_lit 21))], (.int (.ofNat (nat_lit 1)))), ([(.nm (nat_lit 23)), (.nm (nat_lit 22))], (.int (.ofNat (nat_lit 2))))])) (.node (.some (.dI [((.nm (nat_lit 5)), (.ob (nat_lit 145))), ((.nm (nat_lit 17)), (.ob (nat_lit 191))), ((.nm (nat_lit 16)), (.ob (nat_lit 195)))] (nat_lit 3))) (.node (.some (.dI [] (nat_lit 0))) .nil .nil) .nil) (.node (.some (.dT [])) .nil .nil)) (.node (.some (.dT [])) (.node (.some (.dI [] (nat_lit 0))) .nil .nil) (.node (.some (.dT [])) .nil .nil)))) (.node (.some (.lst q3)) (.node (.some (.lst q35)) (.node (.some (.lst q35)) (.node (.some (.dI [] (nat_lit 0))) (.node (.some (.dI [] (nat_lit 0))) .nil .nil) .nil) (.node (.some (.dI [((.nm (nat_lit 12)), (.ob (nat_lit 201))), ((.nm (nat_lit 22)), (.ob (nat_lit 243))), ((.nm (nat_lit 20)), (.ob (nat_lit 247)))] (nat_lit 3))) .nil .nil)) (.node (.some (.dI [] (nat_lit 0))) (.node (.some (.dT [])) .nil .nil) (.node (.some (.dI [] (nat_lit 0))) .nil .nil))) (.node (.some (.lst q21)) (.node (.some (.dI [] (nat_lit 0))) (.node (.some (.dT [])) (.node (.some (.dI [] (nat_lit 0))) .nil .nil) .nil) (.node (.some (.dT [])) .nil .nil)) (.node (.some (.dI [((.nm (nat_lit 2)), (.ob (nat_lit 121))), ((.nm (nat_lit 12)), (.ob (nat_lit 157))), ((.nm (nat_lit 13)), (.ob (nat_lit 161)))] (nat_lit 3))) (.node (.some (.dI [((.nm (nat_lit 10)), (.ob (nat_lit 185))), ((.nm (nat_lit 11)), (.ob (nat_lit 195))), ((.nm (nat_lit 21)), (.ob (nat_lit 229)))] (nat_lit 3))) .nil .nil) (.node (.some (.dT [])) .nil .nil))))) (.node (.some (.lst q11)) (.node (.some (.lst q3)) (.node (.some (.lst q31)) (.node (.some (.lst q31)) (.node (.some (.dI [((.nm (nat_lit 4)), (.ob (nat_lit 133))), ((.nm (nat_lit 6)), (.ob (nat_lit 151))), ((.nm (nat_lit 15)), (.ob (nat_lit 179)))] (nat_lit 3))) (.node (.some (.dI [] (nat_lit 0))) .nil .nil) .nil) (.node (.some (.dT [])) .nil .nil)) (.node (.some (.dI [((.nm (nat_lit 0)), (.ob (nat_lit 101))), ((.nm (nat_lit 5)), (.ob (nat_lit 123))), ((.nm (nat_lit 8)), (.ob (nat_lit 127)))] (nat_lit 3))) (.node (.some (.dI [] (nat_lit 0))) .nil .nil) (.node (.some (.dI [((.nm (nat_lit 16)), (.ob (nat_lit 229))), ((.nm (nat_lit 17)), (.ob (nat_lit 239))), ((.nm (nat_lit 23)), (.ob (nat_lit 265)))] (nat_lit 3))) .nil .nil))) (.node (.some (.lst q21)) (.node (.some (.dT [])) (.node (.some (.dI [] (nat_lit 0))) (.node (.some (.dI [] (nat_lit 0))) .nil .nil) .nil) (.node (.some (.dI [] (nat_lit 0))) .nil .nil)) (.node (.some (.dT [])) (.node (.some (.dT [])) .nil .nil) (.node (.some (.dT [])) .nil .nil)))) (.node (.some (.lst q25)) (.node (.some (.lst q37)) (.node (.some (.lst q41)) (.node (.some (.dT [])) (.node (.some (.dI [] (nat_lit 0))) .nil .nil) .nil) (.node (.some (.dI [] (nat_lit 0))) .nil .nil)) (.node (.some (.dT [])) (.node (.some (.dT [])) .nil .nil) (.node (.some (.dI [] (nat_lit 0))) .nil .nil))) (.node (.some (.lst q43)) (.node (.some (.dI [((.nm (nat_lit 0)), (.ob (nat_lit 93))), ((.nm (nat_lit 4)), (.ob (nat_lit 107))), ((.nm (nat_lit 5)), (.ob (nat_lit 111)))] (nat_lit 3))) (.node (.some (.dT [])) .nil .nil) (.node (.some (.dI [] (nat_lit 0))) .nil .nil)) (.node (.some (.dT [])) (.node (.some (.dI [] (nat_lit 0))) .nil .nil) (.node (.some (.dT [])) .nil .nil)))))) (.node (.some (.lst [(.tup [(.tup q0), (.tup q3), (.int (.ofNat (nat_lit 0)))]), (.tup [(.tup q0), (.tup q4), (.int (.ofNat (nat_lit 1)))]), (.tup [(.tup q0), (.tup q5), (.int (.ofNat (nat_lit 2)))]), (.tup [(.tup q3), (.tup q0), (.int (.ofNat (nat_lit 0)))]), (.tup [(.tup q3), (.tup q9), (.int (.ofNat (nat_lit 1)))]), (.tup [(.tup q3), (.tup q11), (.int (.ofNat (nat_lit 2)))]), (.tup [(.tup q4), (.tup q13), (.int (.ofNat (nat_lit 0)))]), (.tup [(.tup q4), (.tup q0), (.int (.ofNat (nat_lit 1)))]), (.tup [(.tup q4), (.tup q15), (.int (.ofNat (nat_lit 2)))]), (.tup [(.tup q5), (.tup q11), (.int (.ofNat (nat_lit 0)))]), (.tup [(.tup q5), (.tup q17), (.int (.ofNat (nat_lit 1)))]), (.tup [(.tup q5), (.tup q0), (.int (.ofNat (nat_lit 2)))]), (.tup [(.tup q9), (.tup q19), (.int (.ofNat (nat_lit 0)))]), (.tup [(.tup q9), (.tup q3), (.int (.ofNat (nat_lit 1)))]), (.tup [(.tup q9), (.tup q21), (.int (.ofNat (nat_lit 2)))]), (.tup [(.tup q11), (.tup q5), (.int (.ofNat (nat_lit 0)))]), (.tup [(.tup q11), (.tup q23), (.int (.ofNat (nat_lit 1)))]), (.tup [(.tup q11), (.tup q3), (.int (.ofNat (nat_lit 2)))]), (.tup [(.tup q13), (.tup q4), (.int (.ofNat (nat_lit 0)))]), (.tup [(.tup q13), (.tup q19), (.int (.ofNat (nat_lit 1)))]), (.tup [(.tup q13), (.tup q25), (.int (.ofNat (nat_lit 2)))]), (.tup [(.tup q15), (.tup q25), (.int (.ofNat (nat_lit 0)))]), (.tup [(.tup q15), (.tup q27), (.int (.ofNat (nat_lit 1)))]), (.tup [(.tup q15), (.tup q4), (.int (.ofNat (nat_lit 2)))]), (.tup [(.tup q17), (.tup q29), (.int (.ofNat (nat_lit 0)))]), (.tup [(.tup q17), (.tup q5), (.int (.ofNat (nat_lit 1)))]), (.tup [(.tup q17), (.tup q27), (.int (.ofNat (nat_lit 2)))]), (.tup [(.tup q19), (.tup q9), (.int (.ofNat (nat_lit 0)))]), (.tup [(.tup q19), (.tup q13), (.int (.ofNat (nat_lit 1)))]), (.tup [(.tup q19), (.tup q31), (.int (.ofNat (nat_lit 2)))]), (.tup [(.tup q21), (.tup q31), (.int (.ofNat (nat_lit 0)))]), (.tup [(.tup q21), (.tup q33), (.int (.ofNat (nat_lit 1)))]), (.tup [(.tup q21), (.tup q9), (.int (.ofNat (nat_lit 2)))]), (.tup [(.tup q23), (.tup q35), (.int (.ofNat (nat_lit 0)))]), (.tup [(.tup q23), (.tup q11), (.int (.ofNat (nat_lit 1)))]), (.tup [(.tup q23), (.tup q33), (.int (.ofNat (nat_lit 2)))]), (.tup [(.tup q25), (.tup q15), (.int (.ofNat (nat_lit 0)))]), (.tup [(.tup q25), (.tup q37), (.int (.ofNat (nat_lit 1)))]), (.tup [(.tup q25), (.tup q13), (.int (.ofNat (nat_lit 2)))]), (.tup [(.tup q27), (.tup q39), (.int (.ofNat (nat_lit 0)))]), (.tup [(.tup q27), (.tup q15), (.int (.ofNat (nat_lit 1)))]), (.tup [(.tup q27), (.tup q17), (.int (.ofNat (nat_lit 2)))]), (.tup [(.tup q29), (.tup q17), (.int (.ofNat (nat_lit 0)))]), (.tup [(.tup q29), (.tup q35), (.int (.ofNat (nat_lit 1)))]), (.tup [(.tup q29), (.tup q39), (.int (.ofNat (nat_lit 2)))]), (.tup [(.tup q31), (.tup q21), (.int (.ofNat (nat_lit 0)))]), (.tup [(.tup q31), (.tup q41), (.int (.ofNat (nat_lit 1)))]), (.tup [(.tup q31), (.tup q19), (.int (.ofNat (nat_lit 2)))]), (.tup [(.tup q33), (.tup q43), (.int (.ofNat (nat_lit 0)))]), (.tup [(.tup q33), (.tup q21), (.int (.ofNat (nat_lit 1)))]), (.tup [(.tup q33), (.tup q23), (.int (.ofNat (nat_lit 2)))]), (.tup [(.tup q35), (.tup q23), (.int (.ofNat (nat_lit 0)))]), (.tup [(.tup q35), (.tup q29), (.int (.ofNat (nat_lit 1)))]), (.tup [(.tup q35), (.tup q43), (.int (.ofNat (nat_lit 2)))]), (.tup [(.tup q37), (.tup q2), (.int (.ofNat (nat_lit 0)))]), (.tup [(.tup q37), (.tup q25), (.int (.ofNat (nat_lit 1)))]), (.tup [(.tup q37), (.tup q41), (.int (.ofNat (nat_lit 2)))]), (.tup [(.tup q39), (.tup q27), (.int (.ofNat (nat_lit 0)))]), (.tup [(.tup q39), (.tup q2), (.int (.ofNat (nat_lit 1)))]), (.tup [(.tup q39), (.tup q29), (.int (.ofNat (nat_lit 2)))]), (.tup [(.tup q41), (.tup q1), (.int (.ofNat (nat_lit 0)))]), (.tup [(.tup q41), (.tup q31), (.int (.ofNat (nat_lit 1)))]), (.tup [(.tup q41), (.tup q37), (.int (.ofNat (nat_lit 2)))]), (.tup [(.tup q43), (.tup q33), (.int (.ofNat (nat_lit 0)))]), (.tup [(.tup q43), (.tup q1), (.int (.ofNat (nat_lit 1)))]), (.tup [(.tup q43), (.tup q35), (.int (.ofNat (nat_lit 2)))]), (.tup [(.tup q2), (.tup q37), (.int (.ofNat (nat_lit 0)))]), (.tup [(.tup q2), (.tup q39), (.int (.ofNat (nat_lit 1)))]), (.tup [(.tup q2), (.tup q1), (.int (.ofNat (nat_lit 2)))]), (.tup [(.tup q1), (.tup q41), (.int (.ofNat (nat_lit 0)))]), (.tup [(.tup q1), (.tup q43), (.int (.ofNat (nat_lit 1)))]), (.tup [(.tup q1), (.tup q2), (.int (.ofNat (nat_lit 2)))])])) (.node (.some (.lst q0)) (.node (.some (.lst q0)) (.node (.some (.lst q9)) (.node (.some (.lst q29)) (.node (.some (.dI [] (nat_lit 0))) (.node (.some (.dT [])) .nil .nil) .nil) (.node (.some (.dI [] (nat_lit 0))) .nil .nil)) (.node (.some (.dT [])) (.node (.some (.dT [])) .nil .nil) (.node (.some (.dI [] (nat_lit 0))) .nil .nil))) (.node (.some (.lst q35)) (.node (.some (.gr (nat_lit 80))) (.node (.some (.dT [])) (.node (.some (.dT [])) .nil .nil) .nil) (.node (.some (.dI [] (nat_lit 0))) .nil .nil)) (.node (.some (.dI [((.nm (nat_lit 2)), (.ob (nat_lit 115))), ((.nm (nat_lit 9)), (.ob (nat_lit 151))), ((.nm (nat_lit 12)), (.ob (nat_lit 155)))] (nat_lit 3))) (.node (.some (.dI [((.nm (nat_lit 9)), (.ob (nat_lit 179))), ((.nm (nat_lit 10)), (.ob (nat_lit 181))), ((.nm (nat_lit 20)), (.ob (nat_lit 223)))] (nat_lit 3))) .nil .nil) (.node (.some (.dI [((.nm (nat_lit 18)), (.ob (nat_lit 243))), ((.nm (nat_lit 19)), (.ob (nat_lit 251))), ((.nm (nat_lit 23)), (.ob (nat_lit 273)))] (nat_lit 3))) .nil .nil)))) (.node (.some (.lst q19)) (.node (.some (.lst q33)) (.node (.some (.lst q39)) (.node (.some (.dI [((.nm (nat_lit 4)), (.ob (nat_lit 139))), ((.nm (nat_lit 15)), (.ob (nat_lit 181))), ((.nm (nat_lit 16)), (.ob (nat_lit 185)))] (nat_lit 3))) (.node (.some (.dT [])) .nil .nil) .nil) (.node (.some (.dT [])) .nil .nil)) (.node (.some (.dI [((.nm (nat_lit 1)), (.ob (nat_lit 107))), ((.nm (nat_lit 9)), (.ob (nat_lit 133))), ((.nm (nat_lit 10)), (.ob (nat_lit 139)))] (nat_lit 3))) (.node (.some (.dI [] (nat_lit 0))) .nil .nil) (.node (.some (.dI [] (nat_lit 0))) .nil .nil))) (.node (.some (.lst q23)) (.node (.some (.dI [((.nm (nat_lit 1)), (.ob (nat_lit 93))), ((.nm (nat_lit 2)), (.ob (nat_lit 97))), ((.nm (nat_lit 3)), (.ob (nat_lit 101)))] (nat_lit 3))) (.node (.some (.dI [((.nm (nat_lit 6)), (.ob (nat_lit 155))), ((.nm (nat_lit 7)), (.ob (nat_lit 157))), ((.nm (nat_lit 18)), (.ob (nat_lit 201)))] (nat_lit 3))) .nil .nil) (.node (.some (.dT [])) .nil .nil)) (.node (.some (.dT [])) (.node (.some (.dT [])) .nil .nil) (.node (.some (.dI [] (nat_lit 0))) .nil .nil))))) (.node (.some (.lst q0)) (.node (.some (.lst q5)) (.node (.some (.lst q33)) (.node (.some (.lst q33)) (.node (.some (.dT [])) (.node (.some (.dI [] (nat_lit 0))) .nil .nil) .nil) (.node (.some (.dI [] (nat_lit 0))) .nil .nil)) (.node (.some (.dT [])) (.node (.some (.dI [((.nm (nat_lit 8)), (.ob (nat_lit 167))), ((.nm (nat_lit 17)), (.ob (nat_lit 215))), ((.nm (nat_lit 19)), (.ob (nat_lit 217)))] (nat_lit 3))) .nil .nil) (.node (.some (.dT [])) .nil .nil))) (.node (.some (.lst q19)) (.node (.some (.dI [((.nm (nat_lit 0)), (.ob (nat_lit 89))), ((.nm (nat_lit 1)), (.ob (nat_lit 91))), ((.nm (nat_lit 2)), (.ob (nat_lit 95))), ((.nm (nat_lit 3)), (.ob (nat_lit 99))), ((.nm (nat_lit 4)), (.ob (nat_lit 105))), ((.nm (nat_lit 5)), (.ob (nat_lit 109))), ((.nm (nat_lit 6)), (.ob (nat_lit 113))), ((.nm (nat_lit 7)), (.ob (nat_lit 119))), ((.nm (nat_lit 8)), (.ob (nat_lit 125))), ((.nm (nat_lit 9)), (.ob (nat_lit 131))), ((.nm (nat_lit 10)), (.ob (nat_lit 137))), ((.nm (nat_lit 11)), (.ob (nat_lit 143))), ((.nm (nat_lit 12)), (.ob (nat_lit 153))), ((.nm (nat_lit 13)), (.ob (nat_lit 159))), ((.nm (nat_lit 14)), (.ob (nat_lit 165))), ((.nm (nat_lit 15)), (.ob (nat_lit 177))), ((.nm (nat_lit 16)), (.ob (nat_lit 183))), ((.nm (nat_lit 17)), (.ob (nat_lit 189))), ((.nm (nat_lit 18)), (.ob (nat_lit 199))), ((.nm (nat_lit 19)), (.ob (nat_lit 205))), ((.nm (nat_lit 20)), (.ob (nat_lit 221))), ((.nm (nat_lit 21)), (.ob (nat_lit 227))), ((.nm (nat_lit 22)), (.ob (nat_lit 241))), ((.nm (nat_lit 23)), (.ob (nat_lit 255)))] (nat_lit 24))) (.node (.some (.dI [] (nat_lit 0))) (.node (.some (.dI [] (nat_lit 0))) .nil .nil) .nil) (.node (.some (.dI [] (nat_lit 0))) .nil .nil)) (.node (.some (.dI [] (nat_lit 0))) (.node (.some (.dT [])) .nil .nil) (.node (.some (.dI [] (nat_lit 0))) .nil .nil)))) (.node (.some (.lst q4)) (.node (.some (.lst q39)) (.node (.some (.lst q2)) (.node (.some (.dI [] (nat_lit 0))) (.node (.some (.dI [] (nat_lit 0))) .nil .nil) .nil) (.node (.some (.dI [((.nm (nat_lit 13)), (.ob (nat_lit 207))), ((.nm (nat_lit 14)), (.ob (nat_lit 217))), ((.nm (nat_lit 22)), (.ob (nat_lit 251)))] (nat_lit 3))) .nil .nil)) (.node (.some (.dI [((.nm (nat_lit 1)), (.ob (nat_lit 111))), ((.nm (nat_lit 3)), (.ob (nat_lit 123))), ((.nm (nat_lit 11)), (.ob (nat_lit 145)))] (nat_lit 3))) (.node (.some (.dI [] (nat_lit 0))) .nil .nil) (.node (.some (.dI [] (nat_lit 0))) .nil .nil))) (.node (.some (.lst q25)) (.node (.some (.dT [])) (.node (.some (.dT [])) .nil .nil) (.node (.some (.dI [((.nm (nat_lit 15)), (.ob (nat_lit 223))), ((.nm (nat_lit 18)), (.ob (nat_lit 247))), ((.nm (nat_lit 23)), (.ob (nat_lit 257)))] (nat_lit 3))) .nil .nil)) (.node (.some (.dI [((.nm (nat_lit 3)), (.ob (nat_lit 127))), ((.nm (nat_lit 14)), (.ob (nat_lit 167))), ((.nm (nat_lit 13)), (.ob (nat_lit 171)))] (nat_lit 3))) (.node (.some (.dI [((.nm (nat_lit 11)), (.ob (nat_lit 191))), ((.nm (nat_lit 14)), (.ob (nat_lit 215))), ((.nm (nat_lit 21)), (.ob (nat_lit 239)))] (nat_lit 3))) .nil .nil) (.node (.some (.dI [] (nat_lit 0))) .nil .nil))))))) (.node (.some (.dT [(q10, (.int (.ofNat (nat_lit 3)))), (q12, (.int (.ofNat (nat_lit 2)))), (q16, (.int (.ofNat (nat_lit 3))))])) (.node (.some (.lst [(.tup q0), (.tup q3), (.tup q4), (.tup q5), (.tup q9), (.tup q11), (.tup q13), (.tup q15), (.tup q17), (.tup q19), (.tup q21), (.tup q23), (.tup q25), (.tup q27), (.tup q29), (.tup q31), (.tup q33), (.tup q35), (.tup q37), (.tup q39), (.tup q41), (.tup q43), (.tup q2), (.tup q1)])) (.node (.some (.lst q5)) (.node (.some (.lst q17)) (.node (.some (.lst q27)) (.node (.some (.lst q2)) (.node (.some (.dI [] (nat_lit 0))) (.node (.some (.dI [] (nat_lit 0))) .nil .nil) .nil) (.node (.some (.dI [] (nat_lit 0))) .nil .nil)) (.node (.some (.dI [] (nat_lit 0))) (.node (.some (.dI [] (nat_lit 0))) .nil .nil) (.node (.some (.dI [] (nat_lit 0))) .nil .nil))) (.node (.some (.lst q17)) (.node (.some (.gd [(4, (.ob (nat_lit 83))), (1, (.ob (nat_lit 84))), (2, (.ob (nat_lit 85)))])) (.node (.some (.dI [] (nat_lit 0))) (.node (.some (.dI [] (nat_lit 0))) .nil .nil) .nil) (.node (.some (.dI [] (nat_lit 0))) .nil .nil)) (.node (.some (.dI [] (nat_lit 0))) (.node (.some (.dI [] (nat_lit 0))) .nil .nil) (.node (.some (.dI [] (nat_lit 0))) .nil .nil)))) (.node (.some (.lst q4)) (.node (.some (.lst q11)) (.node (.some (.lst q37)) (.node (.some (.dI [] (nat_lit 0))) (.node (.some (.dI [] (nat_lit 0))) .nil .nil) .nil) (.node (.some (.dI [] (nat_lit 0))) .nil .nil)) (.node (.some (.dI [] (nat_lit 0))) (.node (.some (.dI [] (nat_lit 0))) .nil .nil) (.node (.some (.dI [] (nat_lit 0))) .nil .nil))) (.node (.some (.lst q23)) (.node (.some (.dI [] (nat_lit 0))) (.node (.some (.dI [] (nat_lit 0))) .nil .nil) (.node (.some (.dI [] (nat_lit 0))) .nil .nil)) (.node (.some (.dI [] (nat_lit 0))) (.node (.some (.dI [] (nat_lit 0))) .nil .nil) (.node (.some (.dI [] (nat_lit 0))) .nil .nil))))) (.node (.some (.lst q13)) (.node (.some (.lst q21)) (.node (.some (.lst q31)) (.node (.some (.lst q37)) (.node (.some (.dI [] (nat_lit 0))) (.node (.some (.dI [] (nat_lit 0))) .nil .nil) .nil) (.node (.some (.dI [] (nat_lit 0))) .nil .nil)) (.node (.some (.dI [] (nat_lit 0))) (.node (.some (.dI [] (nat_lit 0))) .nil .nil) (.node (.some (.dI [] (nat_lit 0))) .nil .nil))) (.node (.some (.lst q41)) (.node (.some (.dI [((.nm (nat_lit 0)), (.ob (nat_lit 90))), ((.nm (nat_lit 1)), (.ob (nat_lit 92))), ((.nm (nat_lit 2)), (.ob (nat_lit 96))), ((.nm (nat_lit 3)), (.ob (nat_lit 100))), ((.nm (nat_lit 4)), (.ob (nat_lit 106))), ((.nm (nat_lit 5)), (.ob (nat_lit 110))), ((.nm (nat_lit 6)), (.ob (nat_lit 114))), ((.nm (nat_lit 7)), (.ob (nat_lit 120))), ((.nm (nat_lit 8)), (.ob (nat_lit 126))), ((.nm (nat_lit 9)), (.ob (nat_lit 132))), ((.nm (nat_lit 10)), (.ob (nat_lit 138))), ((.nm (nat_lit 11)), (.ob (nat_lit 144))), ((.nm (nat_lit 12)), (.ob (nat_lit 154))), ((.nm (nat_lit 13)), (.ob (nat_lit 160))), ((.nm (nat_lit 14)), (.ob (nat_lit 166))), ((.nm (nat_lit 15)), (.ob (nat_lit 178))), ((.nm (nat_lit 16)), (.ob (nat_lit 184))), ((.nm (nat_lit 17)), (.ob (nat_lit 190))), ((.nm (nat_lit 18)), (.ob (nat_lit 200))), ((.nm (nat_lit 19)), (.ob (nat_lit 206))), ((.nm (nat_lit 20)), (.ob (nat_lit 222))), ((.nm (nat_lit 21)), (.ob (nat_lit 228))), ((.nm (nat_lit 22)), (.ob (nat_lit 242))), ((.nm (nat_lit 23)), (.ob (nat_lit 256)))] (nat_lit 24))) (.node (.some (.dI [] (nat_lit 0))) (.node (.some (.dI [] (nat_lit 0))) .nil .nil) .nil) (.node (.some (.dI [] (nat_lit 0))) .nil .nil)) (.node (.some (.dI [] (nat_lit 0))) (.node (.some (.dI [] (nat_lit 0))) .nil .nil) (.node (.some (.dI [] (nat_lit 0))) .nil .nil)))) (.node (.some (.lst q27)) (.node (.some (.lst q13)) (.node (.some (.lst q43)) (.node (.some (.dI [] (nat_lit 0))) (.node (.some (.dI [] (nat_lit 0))) .nil .nil) .nil) (.node (.some (.dI [] (nat_lit 0))) .nil .nil)) (.node (.some (.dI [] (nat_lit 0))) (.node (.some (.dI [] (nat_lit 0))) .nil .nil) (.node (.some (.dI [] (nat_lit 0))) .nil .nil))) (.node (.some (.lst q2)) (.node (.some (.dI [] (nat_lit 0))) (.node (.some (.dI [] (nat_lit 0))) .nil .nil) (.node (.some (.dI [] (nat_lit 0))) .nil .nil)) (.node (.some (.dI [] (nat_lit 0))) (.node (.some (.dI [] (nat_lit 0))) .nil .nil) (.node (.some (.dI [] (nat_lit 0))) .nil .nil)))))) (.node (.some (.lst q3)) (.node (.some (.lst q9)) (.node (.some (.lst q19)) (.node (.some (.lst q13)) (.node (.some (.lst q1)) (.node (.some (.dI [] (nat_lit 0))) (.node (.some (.dI [] (nat_lit 0))) .nil .nil) .nil) (.node (.some (.dI [] (nat_lit 0))) .nil .nil)) (.node (.some (.dI [] (nat_lit 0))) (.node (.some (.dI [] (nat_lit 0))) .nil .nil) (.node (.some (.dI [] (nat_lit 0))) .nil .nil))) (.node (.some (.lst q39)) (.node (.some (.dI [] (nat_lit 0))) (.node (.some (.dI [] (nat_lit 0))) (.node (.some (.dI [] (nat_lit 0))) .nil .nil) .nil) (.node (.some (.dI [] (nat_lit 0))) .nil .nil)) (.node (.some (.dI [] (nat_lit 0))) (.node (.some (.dI [] (nat_lit 0))) .nil .nil) (.node (.some (.dI [] (nat_lit 0))) .nil .nil)))) (.node (.some (.lst q25)) (.node (.some (.lst q15)) (.node (.some (.lst q1)) (.node (.some (.dI [] (nat_lit 0))) (.node (.some (.dI [] (nat_lit 0))) .nil .nil) .nil) (.node (.some (.dI [] (nat_lit 0))) .nil .nil)) (.node (.some (.dI [] (nat_lit 0))) (.node (.some (.dI [] (nat_lit 0))) .nil .nil) (.node (.some (.dI [] (nat_lit 0))) .nil .nil))) (.node (.some (.lst q29)) (.node (.some (.dI [] (nat_lit 0))) (.node (.some (.dI [] (nat_lit 0))) .nil .nil) (.node (.some (.dI [] (nat_lit 0))) .nil .nil)) (.node (.some (.dI [] (nat_lit 0))) (.node (.some (.dI [] (nat_lit 0))) .nil .nil) (.node (.some (.dI [] (nat_lit 0))) .nil .nil))))) (.node (.some (.lst q15)) (.node (.some (.lst q23)) (.node (.some (.lst q9)) (.node (.some (.lst q1)) (.node (.some (.dI [] (nat_lit 0))) (.node (.some (.dI [] (nat_lit 0))) .nil .nil) .nil) (.node (.some (.dI [] (nat_lit 0))) .nil .nil)) (.node (.some (.dI [] (nat_lit 0))) (.node (.some (.dI [] (nat_lit 0))) .nil .nil) (.node (.some (.dI [] (nat_lit 0))) .nil .nil))) (.node (.some (.lst q43)) (.node (.some (.lst [(.tup [(.nm (nat_lit 0)), (.nm (nat_lit 1))]), (.tup [(.nm (nat_lit 0)), (.nm (nat_lit 2))]), (.tup [(.nm (nat_lit 0)), (.nm (nat_lit 3))]), (.tup [(.nm (nat_lit 1)), (.nm (nat_lit 0))]), (.tup [(.nm (nat_lit 1)), (.nm (nat_lit 4))]), (.tup [(.nm (nat_lit 1)), (.nm (nat_lit 5))]), (.tup [(.nm (nat_lit 2)), (.nm (nat_lit 6))]), (.tup [(.nm (nat_lit 2)), (.nm (nat_lit 0))]), (.tup [(.nm (nat_lit 2)), (.nm (nat_lit 7))]), (.tup [(.nm (nat_lit 3)), (.nm (nat_lit 5))]), (.tup [(.nm (nat_lit 3)), (.nm (nat_lit 8))]), (.tup [(.nm (nat_lit 3)), (.nm (nat_lit 0))]), (.tup [(.nm (nat_lit 4)), (.nm (nat_lit 9))]), (.tup [(.nm (nat_lit 4)), (.nm (nat_lit 1))]), (.tup [(.nm (nat_lit 4)), (.nm (nat_lit 10))]), (.tup [(.nm (nat_lit 5)), (.nm (nat_lit 3))]), (.tup [(.nm (nat_lit 5)), (.nm (nat_lit 11))]), (.tup [(.nm (nat_lit 5)), (.nm (nat_lit 1))]), (.tup [(.nm (nat_lit 6)), (.nm (nat_lit 2))]), (.tup [(.nm (nat_lit 6)), (.nm (nat_lit 9))]), (.tup [(.nm (nat_lit 6)), (.nm (nat_lit 12))]), (.tup [(.nm (nat_lit 7)), (.nm (nat_lit 12))]), (.tup [(.nm (nat_lit 7)), (.nm (nat_lit 13))]), (.tup [(.nm (nat_lit 7)), (.nm (nat_lit 2))]), (.tup [(.nm (nat_lit 8)), (.nm (nat_lit 14))]), (.tup [(.nm (nat_lit 8)), (.nm (nat_lit 3))]), (.tup [(.nm (nat_lit 8)), (.nm (nat_lit 13))]), (.tup [(.nm (nat_lit 9)), (.nm (nat_lit 4))]), (.tup [(.nm (nat_lit 9)), (.nm (nat_lit 6))]), (.tup [(.nm (nat_lit 9)), (.nm (nat_lit 15))]), (.tup [(.nm (nat_lit 10)), (.nm (nat_lit 15))]), (.tup [(.nm (nat_lit 10)), (.nm (nat_lit 16))]), (.tup [(.nm (nat_lit 10)), (.nm (nat_lit 4))]), (.tup [(.nm (nat_lit 11)), (.nm (nat_lit 17))]), (.tup [(.nm (nat_lit 11)), (.nm (nat_lit 5))]), (.tup [(.nm (nat_lit 11)), (.nm (nat_lit 16))]), (.tup [(.nm (nat_lit 12)), (.nm (nat_lit 7))]), (.tup [(.nm (nat_lit 12)), (.nm (nat_lit 18))]), (.tup [(.nm (nat_lit 12)), (.nm (nat_lit 6))]), (.tup [(.nm (nat_lit 13)), (.nm (nat_lit 19))]), (.tup [(.nm (nat_lit 13)), (.nm (nat_lit 7))]), (.tup [(.nm (nat_lit 13)), (.nm (nat_lit 8))]), (.tup [(.nm (nat_lit 14)), (.nm (nat_lit 8))]), (.tup [(.nm (nat_lit 14)), (.nm (nat_lit 17))]), (.tup [(.nm (nat_lit 14)), (.nm (nat_lit 19))]), (.tup [(.nm (nat_lit 15)), (.nm (nat_lit 10))]), (.tup [(.nm (nat_lit 15)), (.nm (nat_lit 20))]), (.tup [(.nm (nat_lit 15)), (.nm (nat_lit 9))]), (.tup [(.nm (nat_lit 16)), (.nm (nat_lit 21))]), (.tup [(.nm (nat_lit 16)), (.nm (nat_lit 10))]), (.tup [(.nm (nat_lit 16)), (.nm (nat_lit 11))]), (.tup [(.nm (nat_lit 17)), (.nm (nat_lit 11))]), (.tup [(.nm (nat_lit 17)), (.nm (nat_lit 14))]), (.tup [(.nm (nat_lit 17)), (.nm (nat_lit 21))]), (.tup [(.nm (nat_lit 18)), (.nm (nat_lit 22))]), (.tup [(.nm (nat_lit 18)), (.nm (nat_lit 12))]), (.tup [(.nm (nat_lit 18)), (.nm (nat_lit 20))]), (.tup [(.nm (nat_lit 19)), (.nm (nat_lit 13))]), (.tup [(.nm (nat_lit 19)), (.nm (nat_lit 22))]), (.tup [(.nm (nat_lit 19)), (.nm (nat_lit 14))]), (.tup [(.nm (nat_lit 20)), (.nm (nat_lit 23))]), (.tup [(.nm (nat_lit 20)), (.nm (nat_lit 15))]), (.tup [(.nm (nat_lit 20)), (.nm (nat_lit 18))]), (.tup [(.nm (nat_lit 21)), (.nm (nat_lit 16))]), (.tup [(.nm (nat_lit 21)), (.nm (nat_lit 23))]), (.tup [(.nm (nat_lit 21)), (.nm (nat_lit 17))]), (.tup [(.nm (nat_lit 22)), (.nm (nat_lit 18))]), (.tup [(.nm (nat_lit 22)), (.nm (nat_lit 19))]), (.tup [(.nm (nat_lit 22)), (.nm (nat_lit 23))]), (.tup [(.nm (nat_lit 23)), (.nm (nat_lit 20))]), (.tup [(.nm (nat_lit 23)), (.nm (nat_lit 21))]), (.tup [(.nm (nat_lit 23)), (.nm (nat_lit 22))])])) (.node (.some (.dI [] (nat_lit 0))) (.node (.some (.dI [] (nat_lit 0))) .nil .nil) .nil) (.node (.some (.dI [] (nat_lit 0))) .nil .nil)) (.node (.some (.dI [] (nat_lit 0))) (.node (.some (.dI [] (nat_lit 0))) .nil .nil) (.node (.some (.dI [] (nat_lit 0))) .nil .nil)))) (.node (.some (.lst q29)) (.node (.some (.lst q15)) (.node (.some (.dT [(q0, (.nm (nat_lit 0))), (q3, (.nm (nat_lit 1))), (q4, (.nm (nat_lit 2))), (q5, (.nm (nat_lit 3))), (q9, (.nm (nat_lit 4))), (q11, (.nm (nat_lit 5))), (q13, (.nm (nat_lit 6))), (q15, (.nm (nat_lit 7))), (q17, (.nm (nat_lit 8))), (q19, (.nm (nat_lit 9))), (q21, (.nm (nat_lit 10))), (q23, (.nm (nat_lit 11))), (q25, (.nm (nat_lit 12))), (q27, (.nm (nat_lit 13))), (q29, (.nm (nat_lit 14))), (q31, (.nm (nat_lit 15))), (q33, (.nm (nat_lit 16))), (q35, (.nm (nat_lit 17))), (q37, (.nm (nat_lit 18))), (q39, (.nm (nat_lit 19))), (q41, (.nm (nat_lit 20))), (q43, (.nm (nat_lit 21))), (q2, (.nm (nat_lit 22))), (q1, (.nm (nat_lit 23)))])) (.node (.some (.dI [] (nat_lit 0))) (.node (.some (.dI [] (nat_lit 0))) .nil .nil) .nil) (.node (.some (.dI [] (nat_lit 0))) .nil .nil)) (.node (.some (.dI [] (nat_lit 0))) (.node (.some (.dI [] (nat_lit 0))) .nil .nil) (.node (.some (.dI [] (nat_lit 0))) .nil .nil))) (.node (.some (.lst q41)) (.node (.some (.dI [] (nat_lit 0))) (.node (.some (.dI [] (nat_lit 0))) .nil .nil) (.node (.some (.dI [] (nat_lit 0))) .nil .nil)) (.node (.some (.dI [] (nat_lit 0))) (.node (.some (.dI [] (nat_lit 0))) .nil .nil) (.node (.some (.dI [] (nat_lit 0))) .nil .nil)))))))), (nat_lit 280)⟩
theorem preR0 (sa : Addr) (t : Int) (g : Loc → Hp → Option (Fl × Loc × Hp)) : lawA 906 ⟨0, 24, t⟩ sa g (lc1 sa) hp1 = g (loR0 sa) hpR0 := by kernel_rfl
def loR1 (sa : Addr) : Loc := [(.some (.st sa)), (.some (.ob (nat_lit 0))), (.some (.ob (nat_lit 7))), (.some (.ob (nat_lit 11))), (.some (.int (.ofNat (nat_lit 3)))), (.some (.tup q47)), (.some (.ob (nat_lit 12))), (.some (.ob (nat_lit 13))), (.some (.ob (nat_lit 14))), (.some (.tup q48)), (.some (.int (.ofNat (nat_lit 2)))), (.some (.tup q49)), (.some (.ob (nat_lit 51))), (.some (.ob (nat_lit 52))), (.some (.ob (nat_lit 54))), .none, .none, .none, .none, .none, .none, .none, .none, .none, .none]
def hpR1 : Hp := ⟨(.node (.some (.lst [.d0, .d1, .d2])) (.node (.some (.lst q24)) (.node (.some (.lst q50)) (.node (.some (.lst [(.tup q50), (.tup q51), (.tup q52)])) (.node (.some (.lst q50)) (.node (.some (.lst q53)) (.node (.some (.dI [] (nat_lit 0))) (.node (.some (.dI [] (nat_lit 0))) .nil .nil) .nil) (.node (.some (.dI [] (nat_lit 0))) .nil .nil)) (.node (.some (.lst q54)) (.node (.some (.dI [] (nat_lit 0))) (.node (.some (.dI [] (nat_lit 0))) .nil .nil) .nil) (.node (.some (.dI [] (nat_lit 0))) .nil .nil))) (.node (.some (.lst q55)) (.node (.some (.lst q56)) (.node (.some (.dI [] (nat_lit 0))) (.node (.some (.dI [] (nat_lit 0))) .nil .nil) .nil) (.node (.some (.dI [] (nat_lit 0))) .nil .nil)) (.node (.some (.dI [] (nat_lit 0))) (.node (.some (.dI [] (nat_lit 0))) (.node (.some (.dI [] (nat_lit 0))) .nil .nil) .nil) (.node (.some (.dI [] (nat_lit 0))) .nil .nil)))) (.node (.some (.dT [(q10, (.int (.ofNat (nat_lit 3)))), (q12, (.int (.ofNat (nat_lit 2)))), (q16, (.int (.ofNat (nat_lit 2))))])) (.node (.some (.lst q56)) (.node (.some (.lst q57)) (.node (.some (.dI [] (nat_lit 0))) (.node (.some (.dI [] (nat_lit 0))) .nil .nil) .nil) (.node (.some (.dI [] (nat_lit 0))) .nil .nil)) (.node (.some (.dT [(q47, (.nm (nat_lit 0))), (q50, (.nm (nat_lit 1))), (q51, (.nm (nat_lit 2))), (q52, (.nm (nat_lit 3))), (q56, (.nm (nat_lit 4))), (q58, (.nm (nat_lit 5))), (q54, (.nm (nat_lit 6))), (q55, (.nm (nat_lit 7))), (q49, (.nm (nat_lit 8))), (q53, (.nm (nat_lit 9))), (q57, (.nm (nat_lit 10))), (q48, (.nm (nat_lit 11)))])) (.node (.some (.dI [] (nat_lit 0))) (.node (.some (.dI [] (nat_lit 0))) .nil .nil) .nil) (.node (.some (.dI [] (nat_lit 0))) .nil .nil))) (.node (.some (.lst q49)) (.node (.some (.lst q58)) (.node (.some (.dI [] (nat_lit 0))) (.node (.some (.dI [] (nat_lit 0))) .nil .nil) .nil) (.node (.some (.dI [] (nat_lit 0))) .nil .nil)) (.node (.some (.lst [(.tup [(.nm (nat_lit 0)), (.nm (nat_lit 1))]), (.tup [(.nm (nat_lit 0)), (.nm (nat_lit 2))]), (.tup [(.nm (nat_lit 0)), (.nm (nat_lit 3))]), (.tup [(.nm (nat_lit 1)), (.nm (nat_lit 0))]), (.tup [(.nm (nat_lit 1)), (.nm (nat_lit 4))]), (.tup [(.nm (nat_lit 1)), (.nm (nat_lit 5))]), (.tup [(.nm (nat_lit 2)), (.nm (nat_lit 6))]), (.tup [(.nm (nat_lit 2)), (.nm (nat_lit 0))]), (.tup [(.nm (nat_lit 2)), (.nm (nat_lit 7))]), (.tup [(.nm (nat_lit 3)), (.nm (nat_lit 5))]), (.tup [(.nm (nat_lit 3)), (.nm (nat_lit 7))]), (.tup [(.nm (nat_lit 3)), (.nm (nat_lit 0))]), (.tup [(.nm (nat_lit 4)), (.nm (nat_lit 8))]), (.tup [(.nm (nat_lit 4)), (.nm (nat_lit 1))]), (.tup [(.nm (nat_lit 4)), (.nm (nat_lit 9))]), (.tup [(.nm (nat_lit 5)), (.nm (nat_lit 3))]), (.tup [(.nm (nat_lit 5)), (.nm (nat_lit 9))]), (.tup [(.nm (nat_lit 5)), (.nm (nat_lit 1))]), (.tup [(.nm (nat_lit 6)), (.nm (nat_lit 2))]), (.tup [(.nm (nat_lit 6)), (.nm (nat_lit 8))]), (.tup [(.nm (nat_lit 6)), (.nm (nat_lit 10))]), (.tup [(.nm (nat_lit 7)), (.nm (nat_lit 10))]), (.tup [(.nm (nat_lit 7)), (.nm (nat_lit 3))]), (.tup [(.nm (nat_lit 7)), (.nm (nat_lit 2))]), (.tup [(.nm (nat_lit 8)), (.nm (nat_lit 4))]), (.tup [(.nm (nat_lit 8)), (.nm (nat_lit 6))]), (.tup [(.nm (nat_lit 8)), (.nm (nat_lit 11))]), (.tup [(.nm (nat_lit 9)), (.nm (nat_lit 11))]), (.tup [(.nm (nat_lit 9)), (.nm (nat_lit 5))]), (.tup [(.nm (nat_lit 9)), (.nm (nat_lit 4))]), (.tup [(.nm (nat_lit 10)), (.nm (nat_lit 7))]), (.tup [(.nm (nat_lit 10)), (.nm (nat_lit 11))]), (.tup [(.nm (nat_lit 10)), (.nm (nat_lit 6))]), (.tup [(.nm (nat_lit 11)), (.nm (nat_lit 9))]), (.tup [(.nm (nat_lit 11)), (.nm (nat_lit 10))]), (.tup [(.nm (nat_lit 11)), (.nm (nat_lit 8))])])) (.node (.some (.dI [] (nat_lit 0))) (.node (.some (.dI [] (nat_lit 0))) .nil .nil) .nil) (.node (.some (.dI [] (nat_lit 0))) .nil .nil))))) (.node (.some (.lst q59)) (.node (.some (.lst q60)) (.node (.some (.lst q52)) (.node (.some (.lst q51)) (.node (.some (.dI [] (nat_lit 0))) (.node (.some (.dI [] (nat_lit 0))) .nil .nil) .nil) (.node (.some (.dI [] (nat_lit 0))) .nil .nil)) (.node (.some (.lst q57)) (.node (.some (.dI [] (nat_lit 0))) (.node (.some (.dI [] (nat_lit 0))) .nil .nil) .nil) (.node (.some (.dI [] (nat_lit 0))) .nil .nil))) (.node (.some (.lst q55)) (.node (.some (.lst q48)) (.node (.some (.dI [] (nat_lit 0))) (.node (.some (.dI [] (nat_lit 0))) .nil .nil) .nil) (.node (.some (.dI [] (nat_lit 0))) .nil .nil)) (.node (.some (.dI [((.nm (nat_lit 0)), (.ob (nat_lit 63))), ((.nm (nat_lit 1)), (.ob (nat_lit 65))), ((.nm (nat_lit 2)), (.ob (nat_lit 69))), ((.nm (nat_lit 3)), (.ob (nat_lit 73))), ((.nm (nat_lit 4)), (.ob (nat_lit 79))), ((.nm (nat_lit 5)), (.ob (nat_lit 83))), ((.nm (nat_lit 6)), (.ob (nat_lit 87))), ((.nm (nat_lit 7)), (.ob (nat_lit 93))), ((.nm (nat_lit 8)), (.ob (nat_lit 103))), ((.nm (nat_lit 9)), (.ob (nat_lit 109))), ((.nm (nat_lit 10)), (.ob (nat_lit 123))), ((.nm (nat_lit 11)), (.ob (nat_lit 137)))] (nat_lit 12))) (.node (.some (.dI [] (nat_lit 0))) (.node (.some (.dI [] (nat_lit 0))) .nil .nil) .nil) (.node (.some (.dI [] (nat_lit 0))) .nil .nil)))) (.node (.some (.lst [(.tup q47), (.tup q50), (.tup q51), (.tup q52), (.tup q56), (.tup q58), (.tup q54), (.tup q55), (.tup q49), (.tup q53), (.tup q57), (.tup q48)])) (.node (.some (.lst q54)) (.node (.some (.lst q52)) (.node (.some (.dI [] (nat_lit 0))) (.node (.some (.dI [] (nat_lit 0))) .nil .nil) .nil) (.node (.some (.dI [] (nat_lit 0))) .nil .nil)) (.node (.some (.gd [(4, (.ob (nat_lit 56))), (1, (.ob (nat_lit 57))), (2, (.ob (nat_lit 58)))])) (.node (.some (.dI [] (nat_lit 0))) (.node (.some (.dI [] (nat_lit 0))) .nil .nil) .nil) (.node (.some (.dI [] (nat_lit 0))) .nil .nil))) (.node (.some (.lst q53)) (.node (.some (.lst q55)) (.node (.some (.dI [] (nat_lit 0))) (.node (.some (.dI [] (nat_lit 0))) .nil .nil) .nil) (.node (.some (.dI [] (nat_lit 0))) .nil .nil)) (.node (.some (.dI [] (nat_lit 0))) (.node (.some (.dI [] (nat_lit 0))) .nil .nil) (.node (.some (.dI [] (nat_lit 0))) .nil .nil)))))) (.node (.some (.lst q59)) (.node (.some (.lst q26)) (.node (.some (.lst q22)) (.node (.some (.lst q51)) (.node (.some (.lst q50)) (.node (.some (.dI [((.nm (nat_lit 0)), (.ob (nat_lit 66))), ((.nm (nat_lit 4)), (.ob (nat_lit 80))), ((.nm (nat_lit 5)), (.ob (nat_lit 84)))] (nat_lit 3))) (.node (.some (.dI [] (nat_lit 0))) .nil .nil) .nil) (.node (.some (.dT [])) .nil .nil)) (.node (.some (.lst q53)) (.node (.some (.dT [])) (.node (.some (.dI [] (nat_lit 0))) .nil .nil) .nil) (.node (.some (.dI [] (nat_lit 0))) .nil .nil))) (.node (.some (.lst q58)) (.node (.some (.lst q54)) (.node (.some (.dI [((.nm (nat_lit 0)), (.ob (nat_lit 74))), ((.nm (nat_lit 5)), (.ob (nat_lit 96))), ((.nm (nat_lit 7)), (.ob (nat_lit 98)))] (nat_lit 3))) (.node (.some (.dI [((.nm (nat_lit 8)), (.ob (nat_lit 138))), ((.nm (nat_lit 9)), (.ob (nat_lit 140))), ((.nm (nat_lit 10)), (.ob (nat_lit 148)))] (nat_lit 3))) .nil .nil) .nil) (.node (.some (.dT [])) .nil .nil)) (.node (.some (.dT [])) (.node (.some (.dT [])) (.node (.some (.dI [] (nat_lit 0))) .nil .nil) .nil) (.node (.some (.dT [])) .nil .nil)))) (.node (.some (.dT [(q47, (.tup [])), (q50, (.tup q6)), (q51, (.tup q7)), (q52, (.tup q8)), (q56, (.tup q10)), (q58, (.tup q12)), (q54, (.tup q14)), (q55, (.tup q16)), (q49, (.tup q20)), (q53, (.tup q22)), (q57, (.tup q26)), (q48, (.tup q32))])) (.node (.some (.lst q58)) (.node (.some (.lst q57)) (.node (.some (.dI [((.nm (nat_lit 0)), (.ob (nat_lit 70))), ((.nm (nat_lit 6)), (.ob (nat_lit 88))), ((.nm (nat_lit 7)), (.ob (nat_lit 94)))] (nat_lit 3))) (.node (.some (.dI [] (nat_lit 0))) .nil .nil) .nil) (.node (.some (.dI [] (nat_lit 0))) .nil .nil)) (.node (.some (.dT [([(.nm (nat_lit 0)), (.nm (nat_lit 1))], (.int (.ofNat (nat_lit 0)))), ([(.nm (nat_lit 0)), (.nm (nat_lit 2))], (.int (.ofNat (nat_lit 1)))), ([(.nm (nat_lit 0)), (.nm (nat_lit 3))], (.int (.ofNat (nat_lit 2)))), ([(.nm (nat_lit 1)), (.nm (nat_lit 0))], (.int (.ofNat (nat_lit 0)))), ([(.nm (nat_lit 1)), (.nm (nat_lit 4))], (.int (.ofNat (nat_lit 1)))), ([(.nm (nat_lit 1)), (.nm (nat_lit 5))], (.int (.ofNat (nat_lit 2)))), ([(.nm (nat_lit 2)), (.nm (nat_lit 6))], (.int (.ofNat (nat_lit 0)))), ([(.nm (nat_lit 2)), (.nm (nat_lit 0))], (.int (.ofNat (nat_lit 1)))), ([(.nm (nat_lit 2)), (.nm (nat_lit 7))], (.int (.ofNat (nat_lit 2)))), ([(.nm (nat_lit 3)), (.nm (nat_lit 5))], (.int (.ofNat (nat_lit 0)))), ([(.nm (nat_lit 3)), (.nm (nat_lit 7))], (.int (.ofNat (nat_lit 1)))), ([(.nm (nat_lit 3)), (.nm (nat_lit 0))], (.int (.ofNat (nat_lit 2)))), ([(.nm (nat_lit 4)), (.nm (nat_lit 8))], (.int (.ofNat (nat_lit 0)))), ([(.nm (nat_lit 4)), (.nm (nat_lit 1))], (.int (.ofNat (nat_lit 1)))), ([(.nm (nat_lit 4)), (.nm (nat_lit 9))], (.int (.ofNat (nat_lit 2)))), ([(.nm (nat_lit 5)), (.nm (nat_lit 3))], (.int (.ofNat (nat_lit 0)))), ([(.nm (nat_lit 5)), (.nm (nat_lit 9))], (.int (.ofNat (nat_lit 1)))), ([(.nm (nat_lit 5)), (.nm (nat_lit 1))], (.int (.ofNat (nat_lit 2)))), ([(.nm (nat_lit 6)), (.nm (nat_lit 2))], (.int (.ofNat (nat_lit 0)))), ([(.nm (nat_lit 6)), (.nm (nat_lit 8))], (.int (.ofNat (nat_lit 1)))), ([(.nm (nat_lit 6)), (.nm (nat_lit 10))], (.int (.ofNat (nat_lit 2)))), ([(.nm (nat_lit 7)), (.nm (nat_lit 10))], (.int (.ofNat (nat_lit 0)))), ([(.nm (nat_lit 7)), (.nm (nat_lit 3))], (.int (.ofNat (nat_lit 1)))), ([(.nm (nat_lit 7)), (.nm (nat_lit 2))], (.int (.ofNat (nat_lit 2)))), ([(.nm (nat_lit 8)), (.nm (nat_lit 4))], (.int (.ofNat (nat_lit 0)))), ([(.nm (nat_lit 8)), (.nm (nat_lit 6))], (.int (.ofNat (nat_lit 1)))), ([(.nm (nat_lit 8)), (.nm (nat_lit 11))], (.int (.ofNat (nat_lit 2)))), ([(.nm (nat_lit 9)), (.nm (nat_lit 11))], (.int (.ofNat (nat_lit 0)))), ([(.nm (nat_lit 9)), (.nm (nat_lit 5))], (.int (.ofNat (nat_lit 1)))), ([(.nm (nat_lit 9)), (.nm (nat_lit 4))], (.int (.ofNat (nat_lit 2)))), ([(.nm (nat_lit 10)), (.nm (nat_lit 7))], (.int (.ofNat (nat_lit 0)))), ([(.nm (nat_lit 10)), (.nm (nat_lit 11))], (.int (.ofNat (nat_lit 1)))), ([(.nm (nat_lit 10)), (.nm (nat_lit 6))], (.int (.ofNat (nat_lit 2)))), ([(.nm (nat_lit 11)), (.nm (nat_lit 9))], (.int (.ofNat (nat_lit 0)))), ([(.nm (nat_lit 11)), (.nm (nat_lit 10))], (.int (.ofNat (nat_lit 1)))), ([(.nm (nat_lit 11)), (.nm (nat_lit 8))], (.int (.ofNat (nat_lit 2))))])) (.node (.some (.dT [])) (.node (.some (.dT [])) .nil .nil) .nil) (.node (.some (.dI [] (nat_lit 0))) .nil .nil))) (.node (.some (.lst q50)) (.node (.some (.lst q56)) (.node (.some (.dI [] (nat_lit 0))) (.node (.some (.dT [])) .nil .nil) .nil) (.node (.some (.dI [((.nm (nat_lit 4)), (.ob (nat_lit 110))), ((.nm (nat_lit 5)), (.ob (nat_lit 114))), ((.nm (nat_lit 11)), (.ob (nat_lit 140)))] (nat_lit 3))) .nil .nil)) (.node (.some (.dI [] (nat_lit 0))) (.node (.some (.dI [((.nm (nat_lit 2)), (.ob (nat_lit 94))), ((.nm (nat_lit 3)), (.ob (nat_lit 98))), ((.nm (nat_lit 10)), (.ob (nat_lit 126)))] (nat_lit 3))) (.node (.some (.dI [] (nat_lit 0))) .nil .nil) .nil) (.node (.some (.dT [])) .nil .nil))))) (.node (.some (.lst q51)) (.node (.some (.lst q52)) (.node (.some (.lst q47)) (.node (.some (.lst q49)) (.node (.some (.dT [])) (.node (.some (.dI [] (nat_lit 0))) .nil .nil) .nil) (.node (.some (.dT [])) .nil .nil)) (.node (.some (.lst q49)) (.node (.some (.dI [((.nm (nat_lit 1)), (.ob (nat_lit 84))), ((.nm (nat_lit 3)), (.ob (nat_lit 96))), ((.nm (nat_lit 9)), (.ob (nat_lit 114)))] (nat_lit 3))) (.node (.some (.dI [] (nat_lit 0))) .nil .nil) .nil) (.node (.some (.dT [])) .nil .nil))) (.node (.some (.lst q47)) (.node (.some (.lst q48)) (.node (.some (.dT [])) (.node (.some (.dT [])) .nil .nil) .nil) (.node (.some (.dI [] (nat_lit 0))) .nil .nil)) (.node (.some (.dI [((.nm (nat_lit 0)), (.ob (nat_lit 62))), ((.nm (nat_lit 1)), (.ob (nat_lit 64))), ((.nm (nat_lit 2)), (.ob (nat_lit 68))), ((.nm (nat_lit 3)), (.ob (nat_lit 72))), ((.nm (nat_lit 4)), (.ob (nat_lit 78))), ((.nm (nat_lit 5)), (.ob (nat_lit 82))), ((.nm (nat_lit 6)), (.ob (nat_lit 86))), ((.nm (nat_lit 7)), (.ob (nat_lit 92))), ((.nm (nat_lit 8)), (.ob (nat_lit 102))), ((.nm (nat_lit 9)), (.ob (nat_lit 108))), ((.nm (nat_lit 10)), (.ob (nat_lit 122))), ((.nm (nat_lit 11)), (.ob (nat_lit 136)))] (nat_lit 12))) (.node (.some (.dI [] (nat_lit 0))) (.node (.some (.dI [] (nat_lit 0))) .nil .nil) .nil) (.node (.some (.dI [((.nm (nat_lit 6)), (.ob (nat_lit 124))), ((.nm (nat_lit 7)), (.ob (nat_lit 126))), ((.nm (nat_lit 11)), (.ob (nat_lit 148)))] (nat_lit 3))) .nil .nil)))) (.node (.some (.lst [(.tup [(.tup q47), (.tup q50), (.int (.ofNat (nat_lit 0)))]), (.tup [(.tup q47), (.tup q51), (.int (.ofNat (nat_lit 1)))]), (.tup [(.tup q47), (.tup q52), (.int (.ofNat (nat_lit 2)))]), (.tup [(.tup q50), (.tup q47), (.int (.ofNat (nat_lit 0)))]), (.tup [(.tup q50), (.tup q56), (.int (.ofNat (nat_lit 1)))]), (.tup [(.tup q50), (.tup q58), (.int (.ofNat (nat_lit 2)))]), (.tup [(.tup q51), (.tup q54), (.int (.ofNat (nat_lit 0)))]), (.tup [(.tup q51), (.tup q47), (.int (.ofNat (nat_lit 1)))]), (.tup [(.tup q51), (.tup q55), (.int (.ofNat (nat_lit 2)))]), (.tup [(.tup q52), (.tup q58), (.int (.ofNat (nat_lit 0)))]), (.tup [(.tup q52), (.tup q55), (.int (.ofNat (nat_lit 1)))]), (.tup [(.tup q52), (.tup q47), (.int (.ofNat (nat_lit 2)))]), (.tup [(.tup q56), (.tup q49), (.int (.ofNat (nat_lit 0)))]), (.tup [(.tup q56), (.tup q50), (.int (.ofNat (nat_lit 1)))]), (.tup [(.tup q56), (.tup q53), (.int (.ofNat (nat_lit 2)))]), (.tup [(.tup q58), (.tup q52), (.int (.ofNat (nat_lit 0)))]), (.tup [(.tup q58), (.tup q53), (.int (.ofNat (nat_lit 1)))]), (.tup [(.tup q58), (.tup q50), (.int (.ofNat (nat_lit 2)))]), (.tup [(.tup q54), (.tup q51), (.int (.ofNat (nat_lit 0)))]), (.tup [(.tup q54), (.tup q49), (.int (.ofNat (nat_lit 1)))]), (.tup [(.tup q54), (.tup q57), (.int (.ofNat (nat_lit 2)))]), (.tup [(.tup q55), (.tup q57), (.int (.ofNat (nat_lit 0)))]), (.tup [(.tup q55), (.tup q52), (.int (.ofNat (nat_lit 1)))]), (.tup [(.tup q55), (.tup q51), (.int (.ofNat (nat_lit 2)))]), (.tup [(.tup q49), (.tup q56), (.int (.ofNat (nat_lit 0)))]), (.tup [(.tup q49), (.tup q54), (.int (.ofNat (nat_lit 1)))]), (.tup [(.tup q49), (.tup q48), (.int (.ofNat (nat_lit 2)))]), (.tup [(.tup q53), (.tup q48), (.int (.ofNat (nat_lit 0)))]), (.tup [(.tup q53), (.tup q58), (.int (.ofNat (nat_lit 1)))]), (.tup [(.tup q53), (.tup q56), (.int (.ofNat (nat_lit 2)))]), (.tup [(.tup q57), (.tup q55), (.int (.ofNat (nat_lit 0)))]), (.tup [(.tup q57), (.tup q48), (.int (.ofNat (nat_lit 1)))]), (.tup [(.tup q57), (.tup q54), (.int (.ofNat (nat_lit 2)))]), (.tup [(.tup q48), (.tup q53), (.int (.ofNat (nat_lit 0)))]), (.tup [(.tup q48), (.tup q57), (.int (.ofNat (nat_lit 1)))]), (.tup [(.tup q48), (.tup q49), (.int (.ofNat (nat_lit 2)))])])) (.node (.some (.lst q47)) (.node (.some (.lst q51)) (.node (.some (.dT [])) (.node (.some (.dI [] (nat_lit 0))) .nil .nil) .nil) (.node (.some (.dI [((.nm (nat_lit 4)), (.ob (nat_lit 104))), ((.nm (nat_lit 6)), (.ob (nat_lit 120))), ((.nm (nat_lit 11)), (.ob (nat_lit 138)))] (nat_lit 3))) .nil .nil)) (.node (.some (.gr (nat_lit 53))) (.node (.some (.dI [((.nm (nat_lit 2)), (.ob (nat_lit 88))), ((.nm (nat_lit 8)), (.ob (nat_lit 120))), ((.nm (nat_lit 10)), (.ob (nat_lit 124)))] (nat_lit 3))) (.node (.some (.dI [] (nat_lit 0))) .nil .nil) .nil) (.node (.some (.dI [] (nat_lit 0))) .nil .nil))) (.node (.some (.lst q52)) (.node (.some (.lst q48)) (.node (.some (.dI [((.nm (nat_lit 1)), (.ob (nat_lit 80))), ((.nm (nat_lit 8)), (.ob (nat_lit 104))), ((.nm (nat_lit 9)), (.ob (nat_lit 110)))] (nat_lit 3))) (.node (.some (.dI [] (nat_lit 0))) .nil .nil) .nil) (.node (.some (.dT [])) .nil .nil)) (.node (.some (.dI [((.nm (nat_lit 1)), (.ob (nat_lit 66))), ((.nm (nat_lit 2)), (.ob (nat_lit 70))), ((.nm (nat_lit 3)), (.ob (nat_lit 74)))] (nat_lit 3))) (.node (.some (.dT [])) .nil .nil) (.node (.some (.dT [])) .nil .nil))))))), (nat_lit 157)⟩
theorem preR1 (sa : Addr) (t : Int) (g : Loc → Hp → Option (Fl × Loc × Hp)) : lawA 906 ⟨1, 12, t⟩ sa g (lc1 sa) hp1 = g (loR1 sa) hpR1 := by kernel_rfl
def loR2 (sa : Addr) : Loc := [(.some (.st sa)), (.some (.ob (nat_lit 0))), (.some (.ob (nat_lit 7))), (.some (.ob (nat_lit 11))), (.some (.int (.ofNat (nat_lit 4)))), (.some (.tup q61)), (.some (.ob (nat_lit 12))), (.some (.ob (nat_lit 13))), (.some (.ob (nat_lit 14))), (.some (.tup q62)), (.some (.int (.ofNat (nat_lit 2)))), (.some (.tup q63)), (.some (.ob (nat_lit 63))), (.some (.ob (nat_lit 64))), (.some (.ob (nat_lit 66))), .none, .none, .none, .none, .none, .none, .none, .none, .none, .none]
def hpR2 : Hp := ⟨(.node (.some (.lst [.d0, .d1, .d2])) (.node (.some (.lst q27)) (.node (.some (.lst q64)) (.node (.some (.lst [(.tup q64), (.tup q65), (.tup q66)])) (.node (.some (.lst q64)) (.node (.some (.lst q67)) (.node (.some (.dT [(q61, (.nm (nat_lit 0))), (q64, (.nm (nat_lit 1))), (q65, (.nm (nat_lit 2))), (q66, (.nm (nat_lit 3))), (q68, (.nm (nat_lit 4))), (q69, (.nm (nat_lit 5))), (q70, (.nm (nat_lit 6))), (q71, (.nm (nat_lit 7))), (q72, (.nm (nat_lit 8))), (q67, (.nm (nat_lit 9))), (q73, (.nm (nat_lit 10))), (q74, (.nm (nat_lit 11))), (q63, (.nm (nat_lit 12))), (q75, (.nm (nat_lit 13))), (q76, (.nm (nat_lit 14))), (q62, (.nm (nat_lit 15)))])) (.node (.some (.dI [] (nat_lit 0))) .nil .nil) (.node (.some (.dI [] (nat_lit 0))) .nil .nil)) (.node (.some (.dI [] (nat_lit 0))) (.node (.some (.dI [] (nat_lit 0))) .nil .nil) .nil)) (.node (.some (.lst q76)) (.node (.some (.dI [] (nat_lit 0))) (.node (.some (.dI [] (nat_lit 0))) .nil .nil) .nil) (.node (.some (.dI [] (nat_lit 0))) (.node (.some (.dI [] (nat_lit 0))) .nil .nil) .nil))) (.node (.some (.lst q71)) (.node (.some (.lst q68)) (.node (.some (.lst [(.tup [(.nm (nat_lit 0)), (.nm (nat_lit 1))]), (.tup [(.nm (nat_lit 0)), (.nm (nat_lit 2))]), (.tup [(.nm (nat_lit 0)), (.nm (nat_lit 3))]), (.tup [(.nm (nat_lit 1)), (.nm (nat_lit 0))]), (.tup [(.nm (nat_lit 1)), (.nm (nat_lit 4))]), (.tup [(.nm (nat_lit 1)), (.nm (nat_lit 5))]), (.tup [(.nm (nat_lit 2)), (.nm (nat_lit 6))]), (.tup [(.nm (nat_lit 2)), (.nm (nat_lit 0))]), (.tup [(.nm (nat_lit 2)), (.nm (nat_lit 7))]), (.tup [(.nm (nat_lit 3)), (.nm (nat_lit 5))]), (.tup [(.nm (nat_lit 3)), (.nm (nat_lit 7))]), (.tup [(.nm (nat_lit 3)), (.nm (nat_lit 0))]), (.tup [(.nm (nat_lit 4)), (.nm (nat_lit 8))]), (.tup [(.nm (nat_lit 4)), (.nm (nat_lit 1))]), (.tup [(.nm (nat_lit 4)), (.nm (nat_lit 9))]), (.tup [(.nm (nat_lit 5)), (.nm (nat_lit 3))]), (.tup [(.nm (nat_lit 5)), (.nm (nat_lit 9))]), (.tup [(.nm (nat_lit 5)), (.nm (nat_lit 1))]), (.tup [(.nm (nat_lit 6)), (.nm (nat_lit 2))]), (.tup [(.nm (nat_lit 6)), (.nm (nat_lit 10))]), (.tup [(.nm (nat_lit 6)), (.nm (nat_lit 11))]), (.tup [(.nm (nat_lit 7)), (.nm (nat_lit 11))]), (.tup [(.nm (nat_lit 7)), (.nm (nat_lit 3))]), (.tup [(.nm (nat_lit 7)), (.nm (nat_lit 2))]), (.tup [(.nm (nat_lit 8)), (.nm (nat_lit 4))]), (.tup [(.nm (nat_lit 8)), (.nm (nat_lit 12))]), (.tup [(.nm (nat_lit 8)), (.nm (nat_lit 13))]), (.tup [(.nm (nat_lit 9)), (.nm (nat_lit 13))]), (.tup [(.nm (nat_lit 9)), (.nm (nat_lit 5))]), (.tup [(.nm (nat_lit 9)), (.nm (nat_lit 4))]), (.tup [(.nm (nat_lit 10)), (.nm (nat_lit 12))]), (.tup [(.nm (nat_lit 10)), (.nm (nat_lit 6))]), (.tup [(.nm (nat_lit 10)), (.nm (nat_lit 14))]), (.tup [(.nm (nat_lit 11)), (.nm (nat_lit 7))]), (.tup [(.nm (nat_lit 11)), (.nm (nat_lit 14))]), (.tup [(.nm (nat_lit 11)), (.nm (nat_lit 6))]), (.tup [(.nm (nat_lit 12)), (.nm (nat_lit 10))]), (.tup [(.nm (nat_lit 12)), (.nm (nat_lit 8))]), (.tup [(.nm (nat_lit 12)), (.nm (nat_lit 15))]), (.tup [(.nm (nat_lit 13)), (.nm (nat_lit 9))]), (.tup [(.nm (nat_lit 13)), (.nm (nat_lit 15))]), (.tup [(.nm (nat_lit 13)), (.nm (nat_lit 8))]), (.tup [(.nm (nat_lit 14)), (.nm (nat_lit 15))]), (.tup [(.nm (nat_lit 14)), (.nm (nat_lit 11))]), (.tup [(.nm (nat_lit 14)), (.nm (nat_lit 10))]), (.tup [(.nm (nat_lit 15)), (.nm (nat_lit 14))]), (.tup [(.nm (nat_lit 15)), (.nm (nat_lit 13))]), (.tup [(.nm (nat_lit 15)), (.nm (nat_lit 12))])])) (.node (.some (.dI [] (nat_lit 0))) .nil .nil) (.node (.some (.dI [] (nat_lit 0))) .nil .nil)) (.node (.some (.dI [] (nat_lit 0))) (.node (.some (.dI [] (nat_lit 0))) .nil .nil) .nil)) (.node (.some (.lst q62)) (.node (.some (.dI [] (nat_lit 0))) (.node (.some (.dI [] (nat_lit 0))) .nil .nil) .nil) (.node (.some (.dI [] (nat_lit 0))) (.node (.some (.dI [] (nat_lit 0))) .nil .nil) .nil)))) (.node (.some (.dT [(q10, (.int (.ofNat (nat_lit 4)))), (q12, (.int (.ofNat (nat_lit 2)))), (q16, (.int (.ofNat (nat_lit 2))))])) (.node (.some (.lst q68)) (.node (.some (.lst q74)) (.node (.some (.dI [] (nat_lit 0))) (.node (.some (.dI [] (nat_lit 0))) .nil .nil) (.node (.some (.dI [] (nat_lit 0))) .nil .nil)) (.node (.some (.dI [] (nat_lit 0))) (.node (.some (.dI [] (nat_lit 0))) .nil .nil) .nil)) (.node (.some (.lst q73)) (.node (.some (.dI [] (nat_lit 0))) (.node (.some (.dI [] (nat_lit 0))) .nil .nil) .nil) (.node (.some (.dI [] (nat_lit 0))) (.node (.some (.dI [] (nat_lit 0))) .nil .nil) .nil))) (.node (.some (.lst q72)) (.node (.some (.lst q69)) (.node (.some (.dI [] (nat_lit 0))) (.node (.some (.dI [] (nat_lit 0))) .nil .nil) .nil) (.node (.some (.dI [] (nat_lit 0))) (.node (.some (.dI [] (nat_lit 0))) .nil .nil) .nil)) (.node (.some (.lst q73)) (.node (.some (.dI [] (nat_lit 0))) (.node (.some (.dI [] (nat_lit 0))) .nil .nil) .nil) (.node (.some (.dI [] (nat_lit 0))) (.node (.some (.dI [] (nat_lit 0))) .nil .nil) .nil))))) (.node (.some (.lst q77)) (.node (.some (.lst q78)) (.node (.some (.lst q66)) (.node (.some (.lst q65)) (.node (.some (.gd [(4, (.ob (nat_lit 68))), (1, (.ob (nat_lit 69))), (2, (.ob (nat_lit 70)))])) (.node (.some (.dI [] (nat_lit 0))) .nil .nil) (.node (.some (.dI [] (nat_lit 0))) .nil .nil)) (.node (.some (.dI [] (nat_lit 0))) (.node (.some (.dI [] (nat_lit 0))) .nil .nil) .nil)) (.node (.some (.lst q76)) (.node (.some (.dI [] (nat_lit 0))) (.node (.some (.dI [] (nat_lit 0))) .nil .nil) .nil) (.node (.some (.dI [] (nat_lit 0))) (.node (.some (.dI [] (nat_lit 0))) .nil .nil) .nil))) (.node (.some (.lst q71)) (.node (.some (.lst q75)) (.node (.some (.dI [] (nat_lit 0))) (.node (.some (.dI [] (nat_lit 0))) .nil .nil) .nil) (.node (.some (.dI [] (nat_lit 0))) (.node (.some (.dI [] (nat_lit 0))) .nil .nil) .nil)) (.node (.some (.lst q62)) (.node (.some (.dI [] (nat_lit 0))) (.node (.some (.dI [] (nat_lit 0))) .nil .nil) .nil) (.node (.some (.dI [] (nat_lit 0))) (.node (.some (.dI [] (nat_lit 0))) .nil .nil) .nil)))) (.node (.some (.lst [(.tup q61), (.tup q64), (.tup q65), (.tup q66), (.tup q68), (.tup q69), (.tup q70), (.tup q71), (.tup q72), (.tup q67), (.tup q73), (.tup q74), (.tup q63), (.tup q75), (.tup q76), (.tup q62)])) (.node (.some (.lst q70)) (.node (.some (.lst q66)) (.node (.some (.dI [((.nm (nat_lit 0)), (.ob (nat_lit 75))), ((.nm (nat_lit 1)), (.ob (nat_lit 77))), ((.nm (nat_lit 2)), (.ob (nat_lit 81))), ((.nm (nat_lit 3)), (.ob (nat_lit 85))), ((.nm (nat_lit 4)), (.ob (nat_lit 91))), ((.nm (nat_lit 5)), (.ob (nat_lit 95))), ((.nm (nat_lit 6)), (.ob (nat_lit 99))), ((.nm (nat_lit 7)), (.ob (nat_lit 105))), ((.nm (nat_lit 8)), (.ob (nat_lit 115))), ((.nm (nat_lit 9)), (.ob (nat_lit 121))), ((.nm (nat_lit 10)), (.ob (nat_lit 133))), ((.nm (nat_lit 11)), (.ob (nat_lit 137))), ((.nm (nat_lit 12)), (.ob (nat_lit 149))), ((.nm (nat_lit 13)), (.ob (nat_lit 153))), ((.nm (nat_lit 14)), (.ob (nat_lit 167))), ((.nm (nat_lit 15)), (.ob (nat_lit 181)))] (nat_lit 16))) (.node (.some (.dI [] (nat_lit 0))) .nil .nil) (.node (.some (.dI [] (nat_lit 0))) .nil .nil)) (.node (.some (.dI [] (nat_lit 0))) (.node (.some (.dI [] (nat_lit 0))) .nil .nil) .nil)) (.node (.some (.lst q62)) (.node (.some (.dI [] (nat_lit 0))) (.node (.some (.dI [] (nat_lit 0))) .nil .nil) .nil) (.node (.some (.dI [] (nat_lit 0))) (.node (.some (.dI [] (nat_lit 0))) .nil .nil) .nil))) (.node (.some (.lst q67)) (.node (.some (.lst q63)) (.node (.some (.dI [] (nat_lit 0))) (.node (.some (.dI [] (nat_lit 0))) .nil .nil) .nil) (.node (.some (.dI [] (nat_lit 0))) (.node (.some (.dI [] (nat_lit 0))) .nil .nil) .nil)) (.node (.some (.lst q75)) (.node (.some (.dI [] (nat_lit 0))) (.node (.some (.dI [] (nat_lit 0))) .nil .nil) .nil) (.node (.some (.dI [] (nat_lit 0))) (.node (.some (.dI [] (nat_lit 0))) .nil .nil) .nil)))))) (.node (.some (.lst q77)) (.node (.some (.lst q11)) (.node (.some (.lst q0)) (.node (.some (.lst q65)) (.node (.some (.lst q64)) (.node (.some (.dT [([(.nm (nat_lit 0)), (.nm (nat_lit 1))], (.int (.ofNat (nat_lit 0)))), ([(.nm (nat_lit 0)), (.nm (nat_lit 2))], (.int (.ofNat (nat_lit 1)))), ([(.nm (nat_lit 0)), (.nm (nat_lit 3))], (.int (.ofNat (nat_lit 2)))), ([(.nm (nat_lit 1)), (.nm (nat_lit 0))], (.int (.ofNat (nat_lit 0)))), ([(.nm (nat_lit 1)), (.nm (nat_lit 4))], (.int (.ofNat (nat_lit 1)))), ([(.nm (nat_lit 1)), (.nm (nat_lit 5))], (.int (.ofNat (nat_lit 2)))), ([(.nm (nat_lit 2)), (.nm (nat_lit 6))], (.int (.ofNat (nat_lit 0)))), ([(.nm (nat_lit 2)), (.nm (nat_lit 0))], (.int (.ofNat (nat_lit 1)))), ([(.nm (nat_lit 2)), (.nm (nat_lit 7))], (.int (.ofNat (nat_lit 2)))), ([(.nm (nat_lit 3)), (.nm (nat_lit 5))], (.int (.ofNat (nat_lit 0)))), ([(.nm (nat_lit 3)), (.nm (nat_lit 7))], (.int (.ofNat (nat_lit 1)))), ([(.nm (nat_lit 3)), (.nm (nat_lit 0))], (.int (.ofNat (nat_lit 2)))), ([(.nm (nat_lit 4)), (.nm (nat_lit 8))], (.int (.ofNat (nat_lit 0)))), ([(.nm (nat_lit 4)), (.nm (nat_lit 1))], (.int (.ofNat (nat_lit 1)))), ([(.nm (nat_lit 4)), (.nm (nat_lit 9))], (.int (.ofNat (nat_lit 2)))), ([(.nm (nat_lit 5)), (.nm (nat_lit 3))], (.int (.ofNat (nat_lit 0)))), ([(.nm (nat_lit 5)), (.nm (nat_lit 9))], (.int (.ofNat (nat_lit 1)))), ([(.nm (nat_lit 5)), (.nm (nat_lit 1))], (.int (.ofNat (nat_lit 2)))), ([(.nm (nat_lit 6)), (.nm (nat_lit 2))], (.int (.ofNat (nat_lit 0)))), ([(.nm (nat_lit 6)), (.nm (nat_lit 10))], (.int (.ofNat (nat_lit 1)))), ([(.nm (nat_lit 6)), (.nm (nat_lit 11))], (.int (.ofNat (nat_lit 2)))), ([(.nm (nat_lit 7)), (.nm (nat_lit 11))], (.int (.ofNat (nat_lit 0)))), ([(.nm (nat_lit 7)), (.nm (nat_lit 3))], (.int (.ofNat (nat_lit 1)))), ([(.nm (nat_lit 7)), (.nm (nat_lit 2))], (.int (.ofNat (nat_lit 2)))), ([(.nm (nat_lit 8)), (.nm (nat_lit 4))], (.int (.ofNat (nat_lit 0)))), ([(.nm (nat_lit 8)), (.nm (nat_lit 12))], (.int (.ofNat (nat_lit 1)))), ([(.nm (nat_lit 8)), (.nm (nat_lit 13))], (.int (.ofNat (nat_lit 2)))), ([(.nm (nat_lit 9)), (.nm (nat_lit 13))], (.int (.ofNat (nat_lit 0)))), ([(.nm (nat_lit 9)), (.nm (nat_lit 5))], (.int (.ofNat (nat_lit 1)))), ([(.nm (nat_lit 9)), (.nm (nat_lit 4))], (.int (.ofNat (nat_lit 2)))), ([(.nm (nat_lit 10)), (.nm (nat_lit 12))], (.int (.ofNat (nat_lit 0)))), ([(.nm (nat_lit 10)), (.nm (nat_lit 6))], (.int (.ofNat (nat_lit 1)))), ([(.nm (nat_lit 10)), (.nm (nat_lit 14))], (.int (.ofNat (nat_lit 2)))), ([(.nm (nat_lit 11)), (.nm (nat_lit 7))], (.int (.ofNat (nat_lit 0)))), ([(.nm (nat_lit 11)), (.nm (nat_lit 14))], (.int (.ofNat (nat_lit 1)))), ([(.nm (nat_lit 11)), (.nm (nat_lit 6))], (.int (.ofNat (nat_lit 2)))), ([(.nm (nat_lit 12)), (.nm (nat_lit 10))], (.int (.ofNat (nat_lit 0)))), ([(.nm (nat_lit 12)), (.nm (nat_lit 8))], (.int (.ofNat (nat_lit 1)))), ([(.nm (nat_lit 12)), (.nm (nat_lit 15))], (.int (.ofNat (nat_lit 2)))), ([(.nm (nat_lit 13)), (.nm (nat_lit 9))], (.int (.ofNat (nat_lit 0)))), ([(.nm (nat_lit 13)), (.nm (nat_lit 15))], (.int (.ofNat (nat_lit 1)))), ([(.nm (nat_lit 13)), (.nm (nat_lit 8))], (.int (.ofNat (nat_lit 2)))), ([(.nm (nat_lit 14)), (.nm (nat_lit 15))], (.int (.ofNat (nat_lit 0)))), ([(.nm (nat_lit 14)), (.nm (nat_lit 11))], (.int (.ofNat (nat_lit 1)))), ([(.nm (nat_lit 14)), (.nm (nat_lit 10))], (.int (.ofNat (nat_lit 2)))), ([(.nm (nat_lit 15)), (.nm (nat_lit 14))], (.int (.ofNat (nat_lit 0)))), ([(.nm (nat_lit 15)), (.nm (nat_lit 13))], (.int (.ofNat (nat_lit 1)))), ([(.nm (nat_lit 15)), (.nm (nat_lit 12))], (.int (.ofNat (nat_lit 2))))])) (.node (.some (.dI [] (nat_lit 0))) .nil .nil) (.node (.some (.dI [] (nat_lit 0))) .nil .nil)) (.node (.some (.dT [])) (.node (.some (.dI [] (nat_lit 0))) .nil .nil) .nil)) (.node (.some (.lst q71)) (.node (.some (.dI [((.nm (nat_lit 0)), (.ob (nat_lit 82))), ((.nm (nat_lit 6)), (.ob (nat_lit 100))), ((.nm (nat_lit 7)), (.ob (nat_lit 106)))] (nat_lit 3))) (.node (.some (.dI [] (nat_lit 0))) .nil .nil) .nil) (.node (.some (.dI [] (nat_lit 0))) (.node (.some (.dI [] (nat_lit 0))) .nil .nil) .nil))) (.node (.some (.lst q69)) (.node (.some (.lst q63)) (.node (.some (.dI [] (nat_lit 0))) (.node (.some (.dI [((.nm (nat_lit 6)), (.ob (nat_lit 138))), ((.nm (nat_lit 7)), (.ob (nat_lit 140))), ((.nm (nat_lit 14)), (.ob (nat_lit 172)))] (nat_lit 3))) .nil .nil) (.node (.some (.dI [] (nat_lit 0))) .nil .nil)) (.node (.some (.dI [((.nm (nat_lit 2)), (.ob (nat_lit 106))), ((.nm (nat_lit 3)), (.ob (nat_lit 110))), ((.nm (nat_lit 11)), (.ob (nat_lit 140)))] (nat_lit 3))) (.node (.some (.dT [])) .nil .nil) .nil)) (.node (.some (.lst q72)) (.node (.some (.dI [] (nat_lit 0))) (.node (.some (.dI [((.nm (nat_lit 8)), (.ob (nat_lit 154))), ((.nm (nat_lit 9)), (.ob (nat_lit 156))), ((.nm (nat_lit 15)), (.ob (nat_lit 186)))] (nat_lit 3))) .nil .nil) .nil) (.node (.some (.dI [((.nm (nat_lit 4)), (.ob (nat_lit 122))), ((.nm (nat_lit 5)), (.ob (nat_lit 126))), ((.nm (nat_lit 13)), (.ob (nat_lit 156)))] (nat_lit 3))) (.node (.some (.dI [] (nat_lit 0))) .nil .nil) .nil)))) (.node (.some (.dT [(q61, (.tup [])), (q64, (.tup q6)), (q65, (.tup q7)), (q66, (.tup q8)), (q68, (.tup q10)), (q69, (.tup q12)), (q70, (.tup q14)), (q71, (.tup q16)), (q72, (.tup q20)), (q67, (.tup q22)), (q73, (.tup q79)), (q74, (.tup q26)), (q63, (.tup q80)), (q75, (.tup q32)), (q76, (.tup q81)), (q62, (.tup q82))])) (.node (.some (.lst q69)) (.node (.some (.lst q74)) (.node (.some (.dT [])) (.node (.some (.dI [((.nm (nat_lit 6)), (.ob (nat_lit 134))), ((.nm (nat_lit 12)), (.ob (nat_lit 162))), ((.nm (nat_lit 14)), (.ob (nat_lit 168)))] (nat_lit 3))) .nil .nil) (.node (.some (.dI [] (nat_lit 0))) .nil .nil)) (.node (.some (.dT [])) (.node (.some (.dI [] (nat_lit 0))) .nil .nil) .nil)) (.node (.some (.lst q72)) (.node (.some (.dI [((.nm (nat_lit 0)), (.ob (nat_lit 86))), ((.nm (nat_lit 5)), (.ob (nat_lit 108))), ((.nm (nat_lit 7)), (.ob (nat_lit 110)))] (nat_lit 3))) (.node (.some (.dI [((.nm (nat_lit 8)), (.ob (nat_lit 150))), ((.nm (nat_lit 10)), (.ob (nat_lit 162))), ((.nm (nat_lit 15)), (.ob (nat_lit 182)))] (nat_lit 3))) .nil .nil) .nil) (.node (.some (.dT [])) (.node (.some (.dI [((.nm (nat_lit 12)), (.ob (nat_lit 182))), ((.nm (nat_lit 13)), (.ob (nat_lit 186))), ((.nm (nat_lit 14)), (.ob (nat_lit 190)))] (nat_lit 3))) .nil .nil) .nil))) (.node (.some (.lst q64)) (.node (.some (.lst q68)) (.node (.some (.dI [((.nm (nat_lit 0)), (.ob (nat_lit 78))), ((.nm (nat_lit 4)), (.ob (nat_lit 92))), ((.nm (nat_lit 5)), (.ob (nat_lit 96)))] (nat_lit 3))) (.node (.some (.dT [])) .nil .nil) .nil) (.node (.some (.dT [])) (.node (.some (.dT [])) .nil .nil) .nil)) (.node (.some (.lst q76)) (.node (.some (.dT [])) (.node (.some (.dT [])) .nil .nil) .nil) (.node (.some (.dI [] (nat_lit 0))) (.node (.some (.dI [] (nat_lit 0))) .nil .nil) .nil))))) (.node (.some (.lst q65)) (.node (.some (.lst q66)) (.node (.some (.lst q61)) (.node (.some (.lst q73)) (.node (.some (.gr (nat_lit 65))) (.node (.some (.dI [] (nat_lit 0))) .nil .nil) (.node (.some (.dI [] (nat_lit 0))) .nil .nil)) (.node (.some (.dI [((.nm (nat_lit 2)), (.ob (nat_lit 100))), ((.nm (nat_lit 10)), (.ob (nat_lit 134))), ((.nm (nat_lit 11)), (.ob (nat_lit 138)))] (nat_lit 3))) (.node (.some (.dT [])) .nil .nil) .nil)) (.node (.some (.lst q70)) (.node (.some (.dT [])) (.node (.some (.dI [] (nat_lit 0))) .nil .nil) .nil) (.node (.some (.dI [((.nm (nat_lit 4)), (.ob (nat_lit 116))), ((.nm (nat_lit 12)), (.ob (nat_lit 150))), ((.nm (nat_lit 13)), (.ob (nat_lit 154)))] (nat_lit 3))) (.node (.some (.dI [] (nat_lit 0))) .nil .nil) .nil))) (.node (.some (.lst q61)) (.node (.some (.lst q75)) (.node (.some (.dI [((.nm (nat_lit 1)), (.ob (nat_lit 78))), ((.nm (nat_lit 2)), (.ob (nat_lit 82))), ((.nm (nat_lit 3)), (.ob (nat_lit 86)))] (nat_lit 3))) (.node (.some (.dT [])) .nil .nil) .nil) (.node (.some (.dT [])) (.node (.some (.dI [] (nat_lit 0))) .nil .nil) .nil)) (.node (.some (.lst q74)) (.node (.some (.dI [((.nm (nat_lit 1)), (.ob (nat_lit 92))), ((.nm (nat_lit 8)), (.ob (nat_lit 116))), ((.nm (nat_lit 9)), (.ob (nat_lit 122)))] (nat_lit 3))) (.node (.some (.dT [])) .nil .nil) .nil) (.node (.some (.dT [])) (.node (.some (.dT [])) .nil .nil) .nil)))) (.node (.some (.lst [(.tup [(.tup q61), (.tup q64), (.int (.ofNat (nat_lit 0)))]), (.tup [(.tup q61), (.tup q65), (.int (.ofNat (nat_lit 1)))]), (.tup [(.tup q61), (.tup q66), (.int (.ofNat (nat_lit 2)))]), (.tup [(.tup q64), (.tup q61), (.int (.ofNat (nat_lit 0)))]), (.tup [(.tup q64), (.tup q68), (.int (.ofNat (nat_lit 1)))]), (.tup [(.tup q64), (.tup q69), (.int (.ofNat (nat_lit 2)))]), (.tup [(.tup q65), (.tup q70), (.int (.ofNat (nat_lit 0)))]), (.tup [(.tup q65), (.tup q61), (.int (.ofNat (nat_lit 1)))]), (.tup [(.tup q65), (.tup q71), (.int (.ofNat (nat_lit 2)))]), (.tup [(.tup q66), (.tup q69), (.int (.ofNat (nat_lit 0)))]), (.tup [(.tup q66), (.tup q71), (.int (.ofNat (nat_lit 1)))]), (.tup [(.tup q66), (.tup q61), (.int (.ofNat (nat_lit 2)))]), (.tup [(.tup q68), (.tup q72), (.int (.ofNat (nat_lit 0)))]), (.tup [(.tup q68), (.tup q64), (.int (.ofNat (nat_lit 1)))]), (.tup [(.tup q68), (.tup q67), (.int (.ofNat (nat_lit 2)))]), (.tup [(.tup q69), (.tup q66), (.int (.ofNat (nat_lit 0)))]), (.tup [(.tup q69), (.tup q67), (.int (.ofNat (nat_lit 1)))]), (.tup [(.tup q69), (.tup q64), (.int (.ofNat (nat_lit 2)))]), (.tup [(.tup q70), (.tup q65), (.int (.ofNat (nat_lit 0)))]), (.tup [(.tup q70), (.tup q73), (.int (.ofNat (nat_lit 1)))]), (.tup [(.tup q70), (.tup q74), (.int (.ofNat (nat_lit 2)))]), (.tup [(.tup q71), (.tup q74), (.int (.ofNat (nat_lit 0)))]), (.tup [(.tup q71), (.tup q66), (.int (.ofNat (nat_lit 1)))]), (.tup [(.tup q71), (.tup q65), (.int (.ofNat (nat_lit 2)))]), (.tup [(.tup q72), (.tup q68), (.int (.ofNat (nat_lit 0)))]), (.tup [(.tup q72), (.tup q63), (.int (.ofNat (nat_lit 1)))]), (.tup [(.tup q72), (.tup q75), (.int (.ofNat (nat_lit 2)))]), (.tup [(.tup q67), (.tup q75), (.int (.ofNat (nat_lit 0)))]), (.tup [(.tup q67), (.tup q69), (.int (.ofNat (nat_lit 1)))]), (.tup [(.tup q67), (.tup q68), (.int (.ofNat (nat_lit 2)))]), (.tup [(.tup q73), (.tup q63), (.int (.ofNat (nat_lit 0)))]), (.tup [(.tup q73), (.tup q70), (.int (.ofNat (nat_lit 1)))]), (.tup [(.tup q73), (.tup q76), (.int (.ofNat (nat_lit 2)))]), (.tup [(.tup q74), (.tup q71), (.int (.ofNat (nat_lit 0)))]), (.tup [(.tup q74), (.tup q76), (.int (.ofNat (nat_lit 1)))]), (.tup [(.tup q74), (.tup q70), (.int (.ofNat (nat_lit 2)))]), (.tup [(.tup q63), (.tup q73), (.int (.ofNat (nat_lit 0)))]), (.tup [(.tup q63), (.tup q72), (.int (.ofNat (nat_lit 1)))]), (.tup [(.tup q63), (.tup q62), (.int (.ofNat (nat_lit 2)))]), (.tup [(.tup q75), (.tup q67), (.int (.ofNat (nat_lit 0)))]), (.tup [(.tup q75), (.tup q62), (.int (.ofNat (nat_lit 1)))]), (.tup [(.tup q75), (.tup q72), (.int (.ofNat (nat_lit 2)))]), (.tup [(.tup q76), (.tup q62), (.int (.ofNat (nat_lit 0)))]), (.tup [(.tup q76), (.tup q74), (.int (.ofNat (nat_lit 1)))]), (.tup [(.tup q76), (.tup q73), (.int (.ofNat (nat_lit 2)))]), (.tup [(.tup q62), (.tup q76), (.int (.ofNat (nat_lit 0)))]), (.tup [(.tup q62), (.tup q75), (.int (.ofNat (nat_lit 1)))]), (.tup [(.tup q62), (.tup q63), (.int (.ofNat (nat_lit 2)))])])) (.node (.some (.lst q61)) (.node (.some (.lst q65)) (.node (.some (.dI [((.nm (nat_lit 0)), (.ob (nat_lit 74))), ((.nm (nat_lit 1)), (.ob (nat_lit 76))), ((.nm (nat_lit 2)), (.ob (nat_lit 80))), ((.nm (nat_lit 3)), (.ob (nat_lit 84))), ((.nm (nat_lit 4)), (.ob (nat_lit 90))), ((.nm (nat_lit 5)), (.ob (nat_lit 94))), ((.nm (nat_lit 6)), (.ob (nat_lit 98))), ((.nm (nat_lit 7)), (.ob (nat_lit 104))), ((.nm (nat_lit 8)), (.ob (nat_lit 114))), ((.nm (nat_lit 9)), (.ob (nat_lit 120))), ((.nm (nat_lit 10)), (.ob (nat_lit 132))), ((.nm (nat_lit 11)), (.ob (nat_lit 136))), ((.nm (nat_lit 12)), (.ob (nat_lit 148))), ((.nm (nat_lit 13)), (.ob (nat_lit 152))), ((.nm (nat_lit 14)), (.ob (nat_lit 166))), ((.nm (nat_lit 15)), (.ob (nat_lit 180)))] (nat_lit 16))) (.node (.some (.dT [])) .nil .nil) (.node (.some (.dI [] (nat_lit 0))) .nil .nil)) (.node (.some (.dI [] (nat_lit 0))) (.node (.some (.dI [((.nm (nat_lit 10)), (.ob (nat_lit 168))), ((.nm (nat_lit 11)), (.ob (nat_lit 172))), ((.nm (nat_lit 15)), (.ob (nat_lit 190)))] (nat_lit 3))) .nil .nil) .nil)) (.node (.some (.lst q67)) (.node (.some (.dT [])) (.node (.some (.dT [])) .nil .nil) .nil) (.node (.some (.dI [] (nat_lit 0))) (.node (.some (.dT [])) .nil .nil) .nil))) (.node (.some (.lst q66)) (.node (.some (.lst q70)) (.node (.some (.dT [])) (.node (.some (.dI [] (nat_lit 0))) .nil .nil) .nil) (.node (.some (.dT [])) (.node (.some (.dI [] (nat_lit 0))) .nil .nil) .nil)) (.node (.some (.lst q63)) (.node (.some (.dI [((.nm (nat_lit 1)), (.ob (nat_lit 96))), ((.nm (nat_lit 3)), (.ob (nat_lit 108))), ((.nm (nat_lit 9)), (.ob (nat_lit 126)))] (nat_lit 3))) (.node (.some (.dI [] (nat_lit 0))) .nil .nil) .nil) (.node (.some (.dT [])) (.node (.some (.dT [])) .nil .nil) .nil))))))), (nat_lit 201)⟩
theorem preR2 (sa : Addr) (t : Int) (g : Loc → Hp → Option (Fl × Loc × Hp)) : lawA 906 ⟨2, 16, t⟩ sa g (lc1 sa) hp1 = g (loR2 sa) hpR2 := by kernel_rfl
def loR3 (sa : Addr) : Loc := [(.some (.st sa)), (.some (.ob (nat_lit 0))), (.some (.ob (nat_lit 7))), (.some (.ob (nat_lit 11))), (.some (.int (.ofNat (nat_lit 5)))), (.some (.tup q83)), (.some (.ob (nat_lit 12))), (.some (.ob (nat_lit 13))), (.some (.ob (nat_lit 14))), (.some (.tup q84)), (.some (.int (.ofNat (nat_lit 2)))), (.some (.tup q85)), (.some (.ob (nat_lit 75))), (.some (.ob (nat_lit 76))), (.some (.ob (nat_lit 78))), .none, .none, .none, .none, .none, .none, .none, .none, .none, .none]
def hpR3 : Hp := ⟨(.node (.some (.lst [.d0, .d1, .d2])) (.node (.some (.lst q86)) (.node (.some (.lst q87)) (.node (.some (.lst [(.tup q87), (.tup q88), (.tup q89)])) (.node (.some (.lst q87)) (.node (.some (.lst q90)) (.node (.some (.lst q91)) (.node (.some (.dI [] (nat_lit 0))) .nil .nil) (.node (.some (.dI [] (nat_lit 0))) .nil .nil)) (.node (.some (.dI [] (nat_lit 0))) (.node (.some (.dI [] (nat_lit 0))) .nil .nil) (.node (.some (.dI [] (nat_lit 0))) .nil .nil))) (.node (.some (.lst q92)) (.node (.some (.dI [] (nat_lit 0))) (.node (.some (.dI [] (nat_lit 0))) .nil .nil) (.node (.some (.dI [] (nat_lit 0))) .nil .nil)) (.node (.some (.dI [] (nat_lit 0))) (.node (.some (.dI [] (nat_lit 0))) .nil .nil) (.node (.some (.dI [] (nat_lit 0))) .nil .nil)))) (.node (.some (.lst q93)) (.node (.some (.lst q94)) (.node (.some (.lst q95)) (.node (.some (.dI [] (nat_lit 0))) .nil .nil) (.node (.some (.dI [] (nat_lit 0))) .nil .nil)) (.node (.some (.dI [] (nat_lit 0))) (.node (.some (.dI [] (nat_lit 0))) .nil .nil) (.node (.some (.dI [] (nat_lit 0))) .nil .nil))) (.node (.some (.lst q96)) (.node (.some (.dI [] (nat_lit 0))) (.node (.some (.dI [] (nat_lit 0))) .nil .nil) (.node (.some (.dI [] (nat_lit 0))) .nil .nil)) (.node (.some (.dI [] (nat_lit 0))) (.node (.some (.dI [] (nat_lit 0))) .nil .nil) .nil)))) (.node (.some (.dT [(q10, (.int (.ofNat (nat_lit 5)))), (q12, (.int (.ofNat (nat_lit 2)))), (q16, (.int (.ofNat (nat_lit 2))))])) (.node (.some (.lst q94)) (.node (.some (.lst q97)) (.node (.some (.lst q98)) (.node (.some (.dI [] (nat_lit 0))) .nil .nil) (.node (.some (.dI [] (nat_lit 0))) .nil .nil)) (.node (.some (.dI [] (nat_lit 0))) (.node (.some (.dI [] (nat_lit 0))) .nil .nil) (.node (.some (.dI [] (nat_lit 0))) .nil .nil))) (.node (.some (.lst q85)) (.node (.some (.lst [(.tup [(.nm (nat_lit 0)), (.nm (nat_lit 1))]), (.tup [(.nm (nat_lit 0)), (.nm (nat_lit 2))]), (.tup [(.nm (nat_lit 0)), (.nm (nat_lit 3))]), (.tup [(.nm (nat_lit 1)), (.nm (nat_lit 0))]), (.tup [(.nm (nat_lit 1)), (.nm (nat_lit 4))]), (.tup [(.nm (nat_lit 1)), (.nm (nat_lit 5))]), (.tup [(.nm (nat_lit 2)), (.nm (nat_lit 6))]), (.tup [(.nm (nat_lit 2)), (.nm (nat_lit 0))]), (.tup [(.nm (nat_lit 2)), (.nm (nat_lit 7))]), (.tup [(.nm (nat_lit 3)), (.nm (nat_lit 5))]), (.tup [(.nm (nat_lit 3)), (.nm (nat_lit 7))]), (.tup [(.nm (nat_lit 3)), (.nm (nat_lit 0))]), (.tup [(.nm (nat_lit 4)), (.nm (nat_lit 8))]), (.tup [(.nm (nat_lit 4)), (.nm (nat_lit 1))]), (.tup [(.nm (nat_lit 4)), (.nm (nat_lit 9))]), (.tup [(.nm (nat_lit 5)), (.nm (nat_lit 3))]), (.tup [(.nm (nat_lit 5)), (.nm (nat_lit 9))]), (.tup [(.nm (nat_lit 5)), (.nm (nat_lit 1))]), (.tup [(.nm (nat_lit 6)), (.nm (nat_lit 2))]), (.tup [(.nm (nat_lit 6)), (.nm (nat_lit 10))]), (.tup [(.nm (nat_lit 6)), (.nm (nat_lit 11))]), (.tup [(.nm (nat_lit 7)), (.nm (nat_lit 11))]), (.tup [(.nm (nat_lit 7)), (.nm (nat_lit 3))]), (.tup [(.nm (nat_lit 7)), (.nm (nat_lit 2))]), (.tup [(.nm (nat_lit 8)), (.nm (nat_lit 4))]), (.tup [(.nm (nat_lit 8)), (.nm (nat_lit 12))]), (.tup [(.nm (nat_lit 8)), (.nm (nat_lit 13))]), (.tup [(.nm (nat_lit 9)), (.nm (nat_lit 13))]), (.tup [(.nm (nat_lit 9)), (.nm (nat_lit 5))]), (.tup [(.nm (nat_lit 9)), (.nm (nat_lit 4))]), (.tup [(.nm (nat_lit 10)), (.nm (nat_lit 14))]), (.tup [(.nm (nat_lit 10)), (.nm (nat_lit 6))]), (.tup [(.nm (nat_lit 10)), (.nm (nat_lit 15))]), (.tup [(.nm (nat_lit 11)), (.nm (nat_lit 7))]), (.tup [(.nm (nat_lit 11)), (.nm (nat_lit 15))]), (.tup [(.nm (nat_lit 11)), (.nm (nat_lit 6))]), (.tup [(.nm (nat_lit 12)), (.nm (nat_lit 16))]), (.tup [(.nm (nat_lit 12)), (.nm (nat_lit 8))]), (.tup [(.nm (nat_lit 12)), (.nm (nat_lit 17))]), (.tup [(.nm (nat_lit 13)), (.nm (nat_lit 9))]), (.tup [(.nm (nat_lit 13)), (.nm (nat_lit 17))]), (.tup [(.nm (nat_lit 13)), (.nm (nat_lit 8))]), (.tup [(.nm (nat_lit 14)), (.nm (nat_lit 10))]), (.tup [(.nm (nat_lit 14)), (.nm (nat_lit 16))]), (.tup [(.nm (nat_lit 14)), (.nm (nat_lit 18))]), (.tup [(.nm (nat_lit 15)), (.nm (nat_lit 18))]), (.tup [(.nm (nat_lit 15)), (.nm (nat_lit 11))]), (.tup [(.nm (nat_lit 15)), (.nm (nat_lit 10))]), (.tup [(.nm (nat_lit 16)), (.nm (nat_lit 12))]), (.tup [(.nm (nat_lit 16)), (.nm (nat_lit 14))]), (.tup [(.nm (nat_lit 16)), (.nm (nat_lit 19))]), (.tup [(.nm (nat_lit 17)), (.nm (nat_lit 19))]), (.tup [(.nm (nat_lit 17)), (.nm (nat_lit 13))]), (.tup [(.nm (nat_lit 17)), (.nm (nat_lit 12))]), (.tup [(.nm (nat_lit 18)), (.nm (nat_lit 15))]), (.tup [(.nm (nat_lit 18)), (.nm (nat_lit 19))]), (.tup [(.nm (nat_lit 18)), (.nm (nat_lit 14))]), (.tup [(.nm (nat_lit 19)), (.nm (nat_lit 17))]), (.tup [(.nm (nat_lit 19)), (.nm (nat_lit 18))]), (.tup [(.nm (nat_lit 19)), (.nm (nat_lit 16))])])) (.node (.some (.dI [] (nat_lit 0))) .nil .nil) (.node (.some (.dI [] (nat_lit 0))) .nil .nil)) (.node (.some (.dI [] (nat_lit 0))) (.node (.some (.dI [] (nat_lit 0))) .nil .nil) (.node (.some (.dI [] (nat_lit 0))) .nil .nil)))) (.node (.some (.lst q99)) (.node (.some (.lst q100)) (.node (.some (.dT [(q83, (.nm (nat_lit 0))), (q87, (.nm (nat_lit 1))), (q88, (.nm (nat_lit 2))), (q89, (.nm (nat_lit 3))), (q94, (.nm (nat_lit 4))), (q100, (.nm (nat_lit 5))), (q101, (.nm (nat_lit 6))), (q93, (.nm (nat_lit 7))), (q99, (.nm (nat_lit 8))), (q90, (.nm (nat_lit 9))), (q102, (.nm (nat_lit 10))), (q97, (.nm (nat_lit 11))), (q91, (.nm (nat_lit 12))), (q98, (.nm (nat_lit 13))), (q95, (.nm (nat_lit 14))), (q92, (.nm (nat_lit 15))), (q85, (.nm (nat_lit 16))), (q96, (.nm (nat_lit 17))), (q103, (.nm (nat_lit 18))), (q84, (.nm (nat_lit 19)))])) (.node (.some (.dI [] (nat_lit 0))) .nil .nil) (.node (.some (.dI [] (nat_lit 0))) .nil .nil)) (.node (.some (.dI [] (nat_lit 0))) (.node (.some (.dI [] (nat_lit 0))) .nil .nil) (.node (.some (.dI [] (nat_lit 0))) .nil .nil))) (.node (.some (.lst q103)) (.node (.some (.dI [] (nat_lit 0))) (.node (.some (.dI [] (nat_lit 0))) .nil .nil) (.node (.some (.dI [] (nat_lit 0))) .nil .nil)) (.node (.some (.dI [] (nat_lit 0))) (.node (.some (.dI [] (nat_lit 0))) .nil .nil) .nil))))) (.node (.some (.lst q104)) (.node (.some (.lst q105)) (.node (.some (.lst q89)) (.node (.some (.lst q88)) (.node (.some (.lst q84)) (.node (.some (.dI [] (nat_lit 0))) .nil .nil) (.node (.some (.dI [] (nat_lit 0))) .nil .nil)) (.node (.some (.dI [] (nat_lit 0))) (.node (.some (.dI [] (nat_lit 0))) .nil .nil) (.node (.some (.dI [] (nat_lit 0))) .nil .nil))) (.node (.some (.lst q92)) (.node (.some (.dI [((.nm (nat_lit 0)), (.ob (nat_lit 87))), ((.nm (nat_lit 1)), (.ob (nat_lit 89))), ((.nm (nat_lit 2)), (.ob (nat_lit 93))), ((.nm (nat_lit 3)), (.ob (nat_lit 97))), ((.nm (nat_lit 4)), (.ob (nat_lit 103))), ((.nm (nat_lit 5)), (.ob (nat_lit 107))), ((.nm (nat_lit 6)), (.ob (nat_lit 111))), ((.nm (nat_lit 7)), (.ob (nat_lit 117))), ((.nm (nat_lit 8)), (.ob (nat_lit 127))), ((.nm (nat_lit 9)), (.ob (nat_lit 133))), ((.nm (nat_lit 10)), (.ob (nat_lit 145))), ((.nm (nat_lit 11)), (.ob (nat_lit 149))), ((.nm (nat_lit 12)), (.ob (nat_lit 161))), ((.nm (nat_lit 13)), (.ob (nat_lit 165))), ((.nm (nat_lit 14)), (.ob (nat_lit 175))), ((.nm (nat_lit 15)), (.ob (nat_lit 181))), ((.nm (nat_lit 16)), (.ob (nat_lit 191))), ((.nm (nat_lit 17)), (.ob (nat_lit 197))), ((.nm (nat_lit 18)), (.ob (nat_lit 211))), ((.nm (nat_lit 19)), (.ob (nat_lit 225)))] (nat_lit 20))) (.node (.some (.dI [] (nat_lit 0))) .nil .nil) (.node (.some (.dI [] (nat_lit 0))) .nil .nil)) (.node (.some (.dI [] (nat_lit 0))) (.node (.some (.dI [] (nat_lit 0))) .nil .nil) (.node (.some (.dI [] (nat_lit 0))) .nil .nil)))) (.node (.some (.lst q93)) (.node (.some (.lst q98)) (.node (.some (.lst q103)) (.node (.some (.dI [] (nat_lit 0))) .nil .nil) (.node (.some (.dI [] (nat_lit 0))) .nil .nil)) (.node (.some (.dI [] (nat_lit 0))) (.node (.some (.dI [] (nat_lit 0))) .nil .nil) (.node (.some (.dI [] (nat_lit 0))) .nil .nil))) (.node (.some (.lst q102)) (.node (.some (.dI [] (nat_lit 0))) (.node (.some (.dI [] (nat_lit 0))) .nil .nil) (.node (.some (.dI [] (nat_lit 0))) .nil .nil)) (.node (.some (.dI [] (nat_lit 0))) (.node (.some (.dI [] (nat_lit 0))) .nil .nil) .nil)))) (.node (.some (.lst [(.tup q83), (.tup q87), (.tup q88), (.tup q89), (.tup q94), (.tup q100), (.tup q101), (.tup q93), (.tup q99), (.tup q90), (.tup q102), (.tup q97), (.tup q91), (.tup q98), (.tup q95), (.tup q92), (.tup q85), (.tup q96), (.tup q103), (.tup q84)])) (.node (.some (.lst q101)) (.node (.some (.lst q89)) (.node (.some (.lst q92)) (.node (.some (.dI [] (nat_lit 0))) .nil .nil) (.node (.some (.dI [] (nat_lit 0))) .nil .nil)) (.node (.some (.dI [] (nat_lit 0))) (.node (.some (.dI [] (nat_lit 0))) .nil .nil) (.node (.some (.dI [] (nat_lit 0))) .nil .nil))) (.node (.some (.lst q96)) (.node (.some (.dI [] (nat_lit 0))) (.node (.some (.dI [] (nat_lit 0))) .nil .nil) (.node (.some (.dI [] (nat_lit 0))) .nil .nil)) (.node (.some (.dI [] (nat_lit 0))) (.node (.some (.dI [] (nat_lit 0))) .nil .nil) .nil))) (.node (.some (.lst q90)) (.node (.some (.lst q95)) (.node (.some (.gd [(4, (.ob (nat_lit 80))), (1, (.ob (nat_lit 81))), (2, (.ob (nat_lit 82)))])) (.node (.some (.dI [] (nat_lit 0))) .nil .nil) (.node (.some (.dI [] (nat_lit 0))) .nil .nil)) (.node (.some (.dI [] (nat_lit 0))) (.node (.some (.dI [] (nat_lit 0))) .nil .nil) (.node (.some (.dI [] (nat_lit 0))) .nil .nil))) (.node (.some (.lst q97)) (.node (.some (.dI [] (nat_lit 0))) (.node (.some (.dI [] (nat_lit 0))) .nil .nil) (.node (.some (.dI [] (nat_lit 0))) .nil .nil)) (.node (.some (.dI [] (nat_lit 0))) (.node (.some (.dI [] (nat_lit 0))) .nil .nil) .nil)))))) (.node (.some (.lst q104)) (.node (.some (.lst q106)) (.node (.some (.lst q47)) (.node (.some (.lst q88)) (.node (.some (.lst q87)) (.node (.some (.lst q95)) (.node (.some (.dT [])) .nil .nil) (.node (.some (.dT [])) .nil .nil)) (.node (.some (.dI [((.nm (nat_lit 0)), (.ob (nat_lit 98))), ((.nm (nat_lit 5)), (.ob (nat_lit 120))), ((.nm (nat_lit 7)), (.ob (nat_lit 122)))] (nat_lit 3))) (.node (.some (.dI [((.nm (nat_lit 8)), (.ob (nat_lit 162))), ((.nm (nat_lit 16)), (.ob (nat_lit 192))), ((.nm (nat_lit 17)), (.ob (nat_lit 198)))] (nat_lit 3))) .nil .nil) (.node (.some (.dI [((.nm (nat_lit 16)), (.ob (nat_lit 226))), ((.nm (nat_lit 17)), (.ob (nat_lit 228))), ((.nm (nat_lit 18)), (.ob (nat_lit 236)))] (nat_lit 3))) .nil .nil))) (.node (.some (.lst q93)) (.node (.some (.dT [])) (.node (.some (.dI [((.nm (nat_lit 6)), (.ob (nat_lit 146))), ((.nm (nat_lit 14)), (.ob (nat_lit 176))), ((.nm (nat_lit 15)), (.ob (nat_lit 182)))] (nat_lit 3))) .nil .nil) (.node (.some (.dT [])) .nil .nil)) (.node (.some (.dT [])) (.node (.some (.dT [])) .nil .nil) (.node (.some (.dI [] (nat_lit 0))) .nil .nil)))) (.node (.some (.lst q100)) (.node (.some (.lst q91)) (.node (.some (.lst q96)) (.node (.some (.dI [] (nat_lit 0))) .nil .nil) (.node (.some (.dI [] (nat_lit 0))) .nil .nil)) (.node (.some (.dT [])) (.node (.some (.dT [])) .nil .nil) (.node (.some (.dI [] (nat_lit 0))) .nil .nil))) (.node (.some (.lst q99)) (.node (.some (.dI [((.nm (nat_lit 0)), (.ob (nat_lit 90))), ((.nm (nat_lit 4)), (.ob (nat_lit 104))), ((.nm (nat_lit 5)), (.ob (nat_lit 108)))] (nat_lit 3))) (.node (.some (.dT [])) .nil .nil) (.node (.some (.dI [] (nat_lit 0))) .nil .nil)) (.node (.some (.dT [])) (.node (.some (.dI [] (nat_lit 0))) .nil .nil) .nil)))) (.node (.some (.dT [(q83, (.tup [])), (q87, (.tup q6)), (q88, (.tup q7)), (q89, (.tup q8)), (q94, (.tup q10)), (q100, (.tup q12)), (q101, (.tup q14)), (q93, (.tup q16)), (q99, (.tup q20)), (q90, (.tup q22)), (q102, (.tup q79)), (q97, (.tup q26)), (q91, (.tup q80)), (q98, (.tup q32)), (q95, (.tup q107)), (q92, (.tup q81)), (q85, (.tup q108)), (q96, (.tup q82)), (q103, (.tup q109)), (q84, (.tup q110))])) (.node (.some (.lst q100)) (.node (.some (.lst q97)) (.node (.some (.lst q91)) (.node (.some (.dI [((.nm (nat_lit 4)), (.ob (nat_lit 134))), ((.nm (nat_lit 5)), (.ob (nat_lit 138))), ((.nm (nat_lit 13)), (.ob (nat_lit 168)))] (nat_lit 3))) .nil .nil) (.node (.some (.dI [((.nm (nat_lit 12)), (.ob (nat_lit 198))), ((.nm (nat_lit 13)), (.ob (nat_lit 202))), ((.nm (nat_lit 19)), (.ob (nat_lit 228)))] (nat_lit 3))) .nil .nil)) (.node (.some (.dI [] (nat_lit 0))) (.node (.some (.dI [((.nm (nat_lit 8)), (.ob (nat_lit 166))), ((.nm (nat_lit 9)), (.ob (nat_lit 168))), ((.nm (nat_lit 17)), (.ob (nat_lit 202)))] (nat_lit 3))) .nil .nil) (.node (.some (.dT [])) .nil .nil))) (.node (.some (.lst q99)) (.node (.some (.dI [] (nat_lit 0))) (.node (.some (.dI [((.nm (nat_lit 6)), (.ob (nat_lit 150))), ((.nm (nat_lit 7)), (.ob (nat_lit 152))), ((.nm (nat_lit 15)), (.ob (nat_lit 186)))] (nat_lit 3))) .nil .nil) (.node (.some (.dT [])) .nil .nil)) (.node (.some (.dI [((.nm (nat_lit 2)), (.ob (nat_lit 118))), ((.nm (nat_lit 3)), (.ob (nat_lit 122))), ((.nm (nat_lit 11)), (.ob (nat_lit 152)))] (nat_lit 3))) (.node (.some (.dI [((.nm (nat_lit 10)), (.ob (nat_lit 182))), ((.nm (nat_lit 11)), (.ob (nat_lit 186))), ((.nm (nat_lit 18)), (.ob (nat_lit 214)))] (nat_lit 3))) .nil .nil) (.node (.some (.dI [] (nat_lit 0))) .nil .nil)))) (.node (.some (.lst q87)) (.node (.some (.lst q94)) (.node (.some (.dT [([(.nm (nat_lit 0)), (.nm (nat_lit 1))], (.int (.ofNat (nat_lit 0)))), ([(.nm (nat_lit 0)), (.nm (nat_lit 2))], (.int (.ofNat (nat_lit 1)))), ([(.nm (nat_lit 0)), (.nm (nat_lit 3))], (.int (.ofNat (nat_lit 2)))), ([(.nm (nat_lit 1)), (.nm (nat_lit 0))], (.int (.ofNat (nat_lit 0)))), ([(.nm (nat_lit 1)), (.nm (nat_lit 4))], (.int (.ofNat (nat_lit 1)))), ([(.nm (nat_lit 1)), (.nm (nat_lit 5))], (.int (.ofNat (nat_lit 2)))), ([(.nm (nat_lit 2)), (.nm (nat_lit 6))], (.int (.ofNat (nat_lit 0)))), ([(.nm (nat_lit 2)), (.nm (nat_lit 0))], (.int (.ofNat (nat_lit 1)))), ([(.nm (nat_lit 2)), (.nm (nat_lit 7))], (.int (.ofNat (nat_lit 2)))), ([(.nm (nat_lit 3)), (.nm (nat_lit 5))], (.int (.ofNat (nat_lit 0)))), ([(.nm (nat_lit 3)), (.nm (nat_lit 7))], (.int (.ofNat (nat_lit 1)))), ([(.nm (nat_lit 3)), (.nm (nat_lit 0))], (.int (.ofNat (nat_lit 2)))), ([(.nm (nat_lit 4)), (.nm (nat_lit 8))], (.int (.ofNat (nat_lit 0)))), ([(.nm (nat_lit 4)), (.nm (nat_lit 1))], (.int (.ofNat (nat_lit 1)))), ([(.nm (nat_lit 4)), (.nm (nat_lit 9))], (.int (.ofNat (nat_lit 2)))), ([(.nm (nat_lit 5)), (.nm (nat_lit 3))], (.int (.ofNat (nat_lit 0)))), ([(.nm (nat_lit 5)), (.nm (nat_lit 9))], (.int (.ofNat (nat_lit 1)))), ([(.nm (nat_lit 5)), (.nm (nat_lit 1))], (.int (.ofNat (nat_lit 2)))), ([(.nm (nat_lit 6)), (.nm (nat_lit 2))], (.int (.ofNat (nat_lit 0)))), ([(.nm (nat_lit 6)), (.nm (nat_lit 10))], (.int (.ofNat (nat_lit 1)))), ([(.nm (nat_lit 6)), (.nm (nat_lit 11))], (.int (.ofNat (nat_lit 2)))), ([(.nm (nat_lit 7)), (.nm (nat_lit 11))], (.int (.ofNat (nat_lit 0)))), ([(.nm (nat_lit 7)), (.nm (nat_lit 3))], (.int (.ofNat (nat_lit 1)))), ([(.nm (nat_lit 7)), (.nm (nat_lit 2))], (.int (.ofNat (nat_lit 2)))), ([(.nm (nat_lit 8)), (.nm (nat_lit 4))], (.int (.ofNat (nat_lit 0)))), ([(.nm (nat_lit 8)), (.nm (nat_lit 12))], (.int (.ofNat (nat_lit 1)))), ([(.nm (nat_lit 8)), (.nm (nat_lit 13))], (.int (.ofNat (nat_lit 2)))), ([(.nm (nat_lit 9)), (.nm (nat_lit 13))], (.int (.ofNat (nat_lit 0)))), ([(.nm (nat_lit 9)), (.nm (nat_lit 5))], (.int (.ofNat (nat_lit 1)))), ([(.nm (nat_lit 9)), (.nm (nat_lit 4))], (.int (.ofNat (nat_lit 2)))), ([(.nm (nat_lit 10)), (.nm (nat_lit 14))], (.int (.ofNat (nat_lit 0)))), ([(.nm (nat_lit 10)), (.nm (nat_lit 6))], (.int (.ofNat (nat_lit 1)))), ([(.nm (nat_lit 10)), (.nm (nat_lit 15))], (.int (.ofNat (nat_lit 2)))), ([(.nm (nat_lit 11)), (.nm (nat_lit 7))], (.int (.ofNat (nat_lit 0)))), ([(.nm (nat_lit 11)), (.nm (nat_lit 15))], (.int (.ofNat (nat_lit 1)))), ([(.nm (nat_lit 11)), (.nm (nat_lit 6))], (.int (.ofNat (nat_lit 2)))), ([(.nm (nat_lit 12)), (.nm (nat_lit 16))], (.int (.ofNat (nat_lit 0)))), ([(.nm (nat_lit 12)), (.nm (nat_lit 8))], (.int (.ofNat (nat_lit 1)))), ([(.nm (nat_lit 12)), (.nm (nat_lit 17))], (.int (.ofNat (nat_lit 2)))), ([(.nm (nat_lit 13)), (.nm (nat_lit 9))], (.int (.ofNat (nat_lit 0)))), ([(.nm (nat_lit 13)), (.nm (nat_lit 17))], (.int (.ofNat (nat_lit 1)))), ([(.nm (nat_lit 13)), (.nm (nat_lit 8))], (.int (.ofNat (nat_lit 2)))), ([(.nm (nat_lit 14)), (.nm (nat_lit 10))], (.int (.ofNat (nat_lit 0)))), ([(.nm (nat_lit 14)), (.nm (nat_lit 16))], (.int (.ofNat (nat_lit 1)))), ([(.nm (nat_lit 14)), (.nm (nat_lit 18))], (.int (.ofNat (nat_lit 2)))), ([(.nm (nat_lit 15)), (.nm (nat_lit 18))], (.int (.ofNat (nat_lit 0)))), ([(.nm (nat_lit 15)), (.nm (nat_lit 11))], (.int (.ofNat (nat_lit 1)))), ([(.nm (nat_lit 15)), (.nm (nat_lit 10))], (.int (.ofNat (nat_lit 2)))), ([(.nm (nat_lit 16)), (.nm (nat_lit 12))], (.int (.ofNat (nat_lit 0)))), ([(.nm (nat_lit 16)), (.nm (nat_lit 14))], (.int (.ofNat (nat_lit 1)))), ([(.nm (nat_lit 16)), (.nm (nat_lit 19))], (.int (.ofNat (nat_lit 2)))), ([(.nm (nat_lit 17)), (.nm (nat_lit 19))], (.int (.ofNat (nat_lit 0)))), ([(.nm (nat_lit 17)), (.nm (nat_lit 13))], (.int (.ofNat (nat_lit 1)))), ([(.nm (nat_lit 17)), (.nm (nat_lit 12))], (.int (.ofNat (nat_lit 2)))), ([(.nm (nat_lit 18)), (.nm (nat_lit 15))], (.int (.ofNat (nat_lit 0)))), ([(.nm (nat_lit 18)), (.nm (nat_lit 19))], (.int (.ofNat (nat_lit 1)))), ([(.nm (nat_lit 18)), (.nm (nat_lit 14))], (.int (.ofNat (nat_lit 2)))), ([(.nm (nat_lit 19)), (.nm (nat_lit 17))], (.int (.ofNat (nat_lit 0)))), ([(.nm (nat_lit 19)), (.nm (nat_lit 18))], (.int (.ofNat (nat_lit 1)))), ([(.nm (nat_lit 19)), (.nm (nat_lit 16))], (.int (.ofNat (nat_lit 2))))])) (.node (.some (.dI [] (nat_lit 0))) .nil .nil) (.node (.some (.dI [] (nat_lit 0))) .nil .nil)) (.node (.some (.dT [])) (.node (.some (.dI [] (nat_lit 0))) .nil .nil) (.node (.some (.dT [])) .nil .nil))) (.node (.some (.lst q103)) (.node (.some (.dI [((.nm (nat_lit 0)), (.ob (nat_lit 94))), ((.nm (nat_lit 6)), (.ob (nat_lit 112))), ((.nm (nat_lit 7)), (.ob (nat_lit 118)))] (nat_lit 3))) (.node (.some (.dI [] (nat_lit 0))) .nil .nil) (.node (.some (.dI [] (nat_lit 0))) .nil .nil)) (.node (.some (.dI [] (nat_lit 0))) (.node (.some (.dI [] (nat_lit 0))) .nil .nil) .nil))))) (.node (.some (.lst q88)) (.node (.some (.lst q89)) (.node (.some (.lst q83)) (.node (.some (.lst q102)) (.node (.some (.lst q84)) (.node (.some (.dI [] (nat_lit 0))) .nil .nil) (.node (.some (.dI [] (nat_lit 0))) .nil .nil)) (.node (.some (.dT [])) (.node (.some (.dT [])) .nil .nil) (.node (.some (.dT [])) .nil .nil))) (.node (.some (.lst q101)) (.node (.some (.dI [((.nm (nat_lit 0)), (.ob (nat_lit 86))), ((.nm (nat_lit 1)), (.ob (nat_lit 88))), ((.nm (nat_lit 2)), (.ob (nat_lit 92))), ((.nm (nat_lit 3)), (.ob (nat_lit 96))), ((.nm (nat_lit 4)), (.ob (nat_lit 102))), ((.nm (nat_lit 5)), (.ob (nat_lit 106))), ((.nm (nat_lit 6)), (.ob (nat_lit 110))), ((.nm (nat_lit 7)), (.ob (nat_lit 116))), ((.nm (nat_lit 8)), (.ob (nat_lit 126))), ((.nm (nat_lit 9)), (.ob (nat_lit 132))), ((.nm (nat_lit 10)), (.ob (nat_lit 144))), ((.nm (nat_lit 11)), (.ob (nat_lit 148))), ((.nm (nat_lit 12)), (.ob (nat_lit 160))), ((.nm (nat_lit 13)), (.ob (nat_lit 164))), ((.nm (nat_lit 14)), (.ob (nat_lit 174))), ((.nm (nat_lit 15)), (.ob (nat_lit 180))), ((.nm (nat_lit 16)), (.ob (nat_lit 190))), ((.nm (nat_lit 17)), (.ob (nat_lit 196))), ((.nm (nat_lit 18)), (.ob (nat_lit 210))), ((.nm (nat_lit 19)), (.ob (nat_lit 224)))] (nat_lit 20))) (.node (.some (.dT [])) .nil .nil) (.node (.some (.dI [((.nm (nat_lit 14)), (.ob (nat_lit 212))), ((.nm (nat_lit 15)), (.ob (nat_lit 214))), ((.nm (nat_lit 19)), (.ob (nat_lit 236)))] (nat_lit 3))) .nil .nil)) (.node (.some (.dI [] (nat_lit 0))) (.node (.some (.dI [] (nat_lit 0))) .nil .nil) (.node (.some (.dI [] (nat_lit 0))) .nil .nil)))) (.node (.some (.lst q83)) (.node (.some (.lst q98)) (.node (.some (.lst q85)) (.node (.some (.dT [])) .nil .nil) (.node (.some (.dT [])) .nil .nil)) (.node (.some (.dI [((.nm (nat_lit 1)), (.ob (nat_lit 108))), ((.nm (nat_lit 3)), (.ob (nat_lit 120))), ((.nm (nat_lit 9)), (.ob (nat_lit 138)))] (nat_lit 3))) (.node (.some (.dI [] (nat_lit 0))) .nil .nil) (.node (.some (.dI [] (nat_lit 0))) .nil .nil))) (.node (.some (.lst q85)) (.node (.some (.dT [])) (.node (.some (.dI [] (nat_lit 0))) .nil .nil) (.node (.some (.dI [] (nat_lit 0))) .nil .nil)) (.node (.some (.dT [])) (.node (.some (.dT [])) .nil .nil) .nil)))) (.node (.some (.lst [(.tup [(.tup q83), (.tup q87), (.int (.ofNat (nat_lit 0)))]), (.tup [(.tup q83), (.tup q88), (.int (.ofNat (nat_lit 1)))]), (.tup [(.tup q83), (.tup q89), (.int (.ofNat (nat_lit 2)))]), (.tup [(.tup q87), (.tup q83), (.int (.ofNat (nat_lit 0)))]), (.tup [(.tup q87), (.tup q94), (.int (.ofNat (nat_lit 1)))]), (.tup [(.tup q87), (.tup q100), (.int (.ofNat (nat_lit 2)))]), (.tup [(.tup q88), (.tup q101), (.int (.ofNat (nat_lit 0)))]), (.tup [(.tup q88), (.tup q83), (.int (.ofNat (nat_lit 1)))]), (.tup [(.tup q88), (.tup q93), (.int (.ofNat (nat_lit 2)))]), (.tup [(.tup q89), (.tup q100), (.int (.ofNat (nat_lit 0)))]), (.tup [(.tup q89), (.tup q93), (.int (.ofNat (nat_lit 1)))]), (.tup [(.tup q89), (.tup q83), (.int (.ofNat (nat_lit 2)))]), (.tup [(.tup q94), (.tup q99), (.int (.ofNat (nat_lit 0)))]), (.tup [(.tup q94), (.tup q87), (.int (.ofNat (nat_lit 1)))]), (.tup [(.tup q94), (.tup q90), (.int (.ofNat (nat_lit 2)))]), (.tup [(.tup q100), (.tup q89), (.int (.ofNat (nat_lit 0)))]), (.tup [(.tup q100), (.tup q90), (.int (.ofNat (nat_lit 1)))]), (.tup [(.tup q100), (.tup q87), (.int (.ofNat (nat_lit 2)))]), (.tup [(.tup q101), (.tup q88), (.int (.ofNat (nat_lit 0)))]), (.tup [(.tup q101), (.tup q102), (.int (.ofNat (nat_lit 1)))]), (.tup [(.tup q101), (.tup q97), (.int (.ofNat (nat_lit 2)))]), (.tup [(.tup q93), (.tup q97), (.int (.ofNat (nat_lit 0)))]), (.tup [(.tup q93), (.tup q89), (.int (.ofNat (nat_lit 1)))]), (.tup [(.tup q93), (.tup q88), (.int (.ofNat (nat_lit 2)))]), (.tup [(.tup q99), (.tup q94), (.int (.ofNat (nat_lit 0)))]), (.tup [(.tup q99), (.tup q91), (.int (.ofNat (nat_lit 1)))]), (.tup [(.tup q99), (.tup q98), (.int (.ofNat (nat_lit 2)))]), (.tup [(.tup q90), (.tup q98), (.int (.ofNat (nat_lit 0)))]), (.tup [(.tup q90), (.tup q100), (.int (.ofNat (nat_lit 1)))]), (.tup [(.tup q90), (.tup q94), (.int (.ofNat (nat_lit 2)))]), (.tup [(.tup q102), (.tup q95), (.int (.ofNat (nat_lit 0)))]), (.tup [(.tup q102), (.tup q101), (.int (.ofNat (nat_lit 1)))]), (.tup [(.tup q102), (.tup q92), (.int (.ofNat (nat_lit 2)))]), (.tup [(.tup q97), (.tup q93), (.int (.ofNat (nat_lit 0)))]), (.tup [(.tup q97), (.tup q92), (.int (.ofNat (nat_lit 1)))]), (.tup [(.tup q97), (.tup q101), (.int (.ofNat (nat_lit 2)))]), (.tup [(.tup q91), (.tup q85), (.int (.ofNat (nat_lit 0)))]), (.tup [(.tup q91), (.tup q99), (.int (.ofNat (nat_lit 1)))]), (.tup [(.tup q91), (.tup q96), (.int (.ofNat (nat_lit 2)))]), (.tup [(.tup q98), (.tup q90), (.int (.ofNat (nat_lit 0)))]), (.tup [(.tup q98), (.tup q96), (.int (.ofNat (nat_lit 1)))]), (.tup [(.tup q98), (.tup q99), (.int (.ofNat (nat_lit 2)))]), (.tup [(.tup q95), (.tup q102), (.int (.ofNat (nat_lit 0)))]), (.tup [(.tup q95), (.tup q85), (.int (.ofNat (nat_lit 1)))]), (.tup [(.tup q95), (.tup q103), (.int (.ofNat (nat_lit 2)))]), (.tup [(.tup q92), (.tup q103), (.int (.ofNat (nat_lit 0)))]), (.tup [(.tup q92), (.tup q97), (.int (.ofNat (nat_lit 1)))]), (.tup [(.tup q92), (.tup q102), (.int (.ofNat (nat_lit 2)))]), (.tup [(.tup q85), (.tup q91), (.int (.ofNat (nat_lit 0)))]), (.tup [(.tup q85), (.tup q95), (.int (.ofNat (nat_lit 1)))]), (.tup [(.tup q85), (.tup q84), (.int (.ofNat (nat_lit 2)))]), (.tup [(.tup q96), (.tup q84), (.int (.ofNat (nat_lit 0)))]), (.tup [(.tup q96), (.tup q98), (.int (.ofNat (nat_lit 1)))]), (.tup [(.tup q96), (.tup q91), (.int (.ofNat (nat_lit 2)))]), (.tup [(.tup q103), (.tup q92), (.int (.ofNat (nat_lit 0)))]), (.tup [(.tup q103), (.tup q84), (.int (.ofNat (nat_lit 1)))]), (.tup [(.tup q103), (.tup q95), (.int (.ofNat (nat_lit 2)))]), (.tup [(.tup q84), (.tup q96), (.int (.ofNat (nat_lit 0)))]), (.tup [(.tup q84), (.tup q103), (.int (.ofNat (nat_lit 1)))]), (.tup [(.tup q84), (.tup q85), (.int (.ofNat (nat_lit 2)))])])) (.node (.some (.lst q83)) (.node (.some (.lst q88)) (.node (.some (.lst q84)) (.node (.some (.dT [])) .nil .nil) (.node (.some (.dT [])) .nil .nil)) (.node (.some (.dI [((.nm (nat_lit 1)), (.ob (nat_lit 104))), ((.nm (nat_lit 8)), (.ob (nat_lit 128))), ((.nm (nat_lit 9)), (.ob (nat_lit 134)))] (nat_lit 3))) (.node (.some (.dT [])) .nil .nil) (.node (.some (.dI [] (nat_lit 0))) .nil .nil))) (.node (.some (.lst q90)) (.node (.some (.dI [((.nm (nat_lit 1)), (.ob (nat_lit 90))), ((.nm (nat_lit 2)), (.ob (nat_lit 94))), ((.nm (nat_lit 3)), (.ob (nat_lit 98)))] (nat_lit 3))) (.node (.some (.dT [])) .nil .nil) (.node (.some (.dT [])) .nil .nil)) (.node (.some (.dT [])) (.node (.some (.dT [])) .nil .nil) .nil))) (.node (.some (.lst q89)) (.node (.some (.lst q101)) (.node (.some (.gr (nat_lit 77))) (.node (.some (.dI [] (nat_lit 0))) .nil .nil) (.node (.some (.dI [] (nat_lit 0))) .nil .nil)) (.node (.some (.dI [((.nm (nat_lit 2)), (.ob (nat_lit 112))), ((.nm (nat_lit 10)), (.ob (nat_lit 146))), ((.nm (nat_lit 11)), (.ob (nat_lit 150)))] (nat_lit 3))) (.node (.some (.dI [((.nm (nat_lit 10)), (.ob (nat_lit 176))), ((.nm (nat_lit 16)), (.ob (nat_lit 208))), ((.nm (nat_lit 18)), (.ob (nat_lit 212)))] (nat_lit 3))) .nil .nil) (.node (.some (.dI [] (nat_lit 0))) .nil .nil))) (.node (.some (.lst q102)) (.node (.some (.dT [])) (.node (.some (.dI [] (nat_lit 0))) .nil .nil) (.node (.some (.dI [] (nat_lit 0))) .nil .nil)) (.node (.some (.dI [((.nm (nat_lit 4)), (.ob (nat_lit 128))), ((.nm (nat_lit 12)), (.ob (nat_lit 162))), ((.nm (nat_lit 13)), (.ob (nat_lit 166)))] (nat_lit 3))) (.node (.some (.dI [((.nm (nat_lit 12)), (.ob (nat_lit 192))), ((.nm (nat_lit 14)), (.ob (nat_lit 208))), ((.nm (nat_lit 19)), (.ob (nat_lit 226)))] (nat_lit 3))) .nil .nil) .nil))))))), (nat_lit 245)⟩
theorem preR3 (sa : Addr) (t : Int) (g : Loc → Hp → Option (Fl × Loc × Hp)) : lawA 906 ⟨3, 20, t⟩ sa g (lc1 sa) hp1 = g (loR3 sa) hpR3 := by kernel_rfl
def loR4 (sa : Addr) : Loc := [(.some (.st sa)), (.some (.ob (nat_lit 0))), (.some (.ob (nat_lit 7))), (.some (.ob (nat_lit 11))), (.some (.int (.ofNat (nat_lit 6)))), (.some (.tup q111)), (.some (.ob (nat_lit 12))), (.some (.ob (nat_lit 13))), (.some (.ob (nat_lit 14))), (.some (.tup q112)), (.some (.int (.ofNat (nat_lit 2)))), (.some (.tup q113)), (.some (.ob (nat_lit 87))), (.some (.ob (nat_lit 88))), (.some (.ob (nat_lit 90))), .none, .none, .none, .none, .none, .none, .none, .none, .none, .none]
def hpR4 : Hp := ⟨(.node (.some (.lst [.d0, .d1, .d2])) (.node (.some (.lst q114)) (.node (.some (.lst q115)) (.node (.some (.lst [(.tup q115), (.tup q116), (.tup q117)])) (.node (.some (.lst q115)) (.node (.some (.lst q118)) (.node (.some (.lst q119)) (.node (.some (.dI [] (nat_lit 0))) (.node (.some (.dI [] (nat_lit 0))) .nil .nil) .nil) (.node (.some (.dI [] (nat_lit 0))) .nil .nil)) (.node (.some (.lst [(.tup [(.nm (nat_lit 0)), (.nm (nat_lit 1))]), (.tup [(.nm (nat_lit 0)), (.nm (nat_lit 2))]), (.tup [(.nm (nat_lit 0)), (.nm (nat_lit 3))]), (.tup [(.nm (nat_lit 1)), (.nm (nat_lit 0))]), (.tup [(.nm (nat_lit 1)), (.nm (nat_lit 4))]), (.tup [(.nm (nat_lit 1)), (.nm (nat_lit 5))]), (.tup [(.nm (nat_lit 2)), (.nm (nat_lit 6))]), (.tup [(.nm (nat_lit 2)), (.nm (nat_lit 0))]), (.tup [(.nm (nat_lit 2)), (.nm (nat_lit 7))]), (.tup [(.nm (nat_lit 3)), (.nm (nat_lit 5))]), (.tup [(.nm (nat_lit 3)), (.nm (nat_lit 7))]), (.tup [(.nm (nat_lit 3)), (.nm (nat_lit 0))]), (.tup [(.nm (nat_lit 4)), (.nm (nat_lit 8))]), (.tup [(.nm (nat_lit 4)), (.nm (nat_lit 1))]), (.tup [(.nm (nat_lit 4)), (.nm (nat_lit 9))]), (.tup [(.nm (nat_lit 5)), (.nm (nat_lit 3))]), (.tup [(.nm (nat_lit 5)), (.nm (nat_lit 9))]), (.tup [(.nm (nat_lit 5)), (.nm (nat_lit 1))]), (.tup [(.nm (nat_lit 6)), (.nm (nat_lit 2))]), (.tup [(.nm (nat_lit 6)), (.nm (nat_lit 10))]), (.tup [(.nm (nat_lit 6)), (.nm (nat_lit 11))]), (.tup [(.nm (nat_lit 7)), (.nm (nat_lit 11))]), (.tup [(.nm (nat_lit 7)), (.nm (nat_lit 3))]), (.tup [(.nm (nat_lit 7)), (.nm (nat_lit 2))]), (.tup [(.nm (nat_lit 8)), (.nm (nat_lit 4))]), (.tup [(.nm (nat_lit 8)), (.nm (nat_lit 12))]), (.tup [(.nm (nat_lit 8)), (.nm (nat_lit 13))]), (.tup [(.nm (nat_lit 9)), (.nm (nat_lit 13))]), (.tup [(.nm (nat_lit 9)), (.nm (nat_lit 5))]), (.tup [(.nm (nat_lit 9)), (.nm (nat_lit 4))]), (.tup [(.nm (nat_lit 10)), (.nm (nat_lit 14))]), (.tup [(.nm (nat_lit 10)), (.nm (nat_lit 6))]), (.tup [(.nm (nat_lit 10)), (.nm (nat_lit 15))]), (.tup [(.nm (nat_lit 11)), (.nm (nat_lit 7))]), (.tup [(.nm (nat_lit 11)), (.nm (nat_lit 15))]), (.tup [(.nm (nat_lit 11)), (.nm (nat_lit 6))]), (.tup [(.nm (nat_lit 12)), (.nm (nat_lit 16))]), (.tup [(.nm (nat_lit 12)), (.nm (nat_lit 8))]), (.tup [(.nm (nat_lit 12)), (.nm (nat_lit 17))]), (.tup [(.nm (nat_lit 13)), (.nm (nat_lit 9))]), (.tup [(.nm (nat_lit 13)), (.nm (nat_lit 17))]), (.tup [(.nm (nat_lit 13)), (.nm (nat_lit 8))]), (.tup [(.nm (nat_lit 14)), (.nm (nat_lit 10))]), (.tup [(.nm (nat_lit 14)), (.nm (nat_lit 18))]), (.tup [(.nm (nat_lit 14)), (.nm (nat_lit 19))]), (.tup [(.nm (nat_lit 15)), (.nm (nat_lit 19))]), (.tup [(.nm (nat_lit 15)), (.nm (nat_lit 11))]), (.tup [(.nm (nat_lit 15)), (.nm (nat_lit 10))]), (.tup [(.nm (nat_lit 16)), (.nm (nat_lit 12))]), (.tup [(.nm (nat_lit 16)), (.nm (nat_lit 20))]), (.tup [(.nm (nat_lit 16)), (.nm (nat_lit 21))]), (.tup [(.nm (nat_lit 17)), (.nm (nat_lit 21))]), (.tup [(.nm (nat_lit 17)), (.nm (nat_lit 13))]), (.tup [(.nm (nat_lit 17)), (.nm (nat_lit 12))]), (.tup [(.nm (nat_lit 18)), (.nm (nat_lit 20))]), (.tup [(.nm (nat_lit 18)), (.nm (nat_lit 14))]), (.tup [(.nm (nat_lit 18)), (.nm (nat_lit 22))]), (.tup [(.nm (nat_lit 19)), (.nm (nat_lit 15))]), (.tup [(.nm (nat_lit 19)), (.nm (nat_lit 22))]), (.tup [(.nm (nat_lit 19)), (.nm (nat_lit 14))]), (.tup [(.nm (nat_lit 20)), (.nm (nat_lit 18))]), (.tup [(.nm (nat_lit 20)), (.nm (nat_lit 16))]), (.tup [(.nm (nat_lit 20)), (.nm (nat_lit 23))]), (.tup [(.nm (nat_lit 21)), (.nm (nat_lit 17))]), (.tup [(.nm (nat_lit 21)), (.nm (nat_lit 23))]), (.tup [(.nm (nat_lit 21)), (.nm (nat_lit 16))]), (.tup [(.nm (nat_lit 22)), (.nm (nat_lit 23))]), (.tup [(.nm (nat_lit 22)), (.nm (nat_lit 19))]), (.tup [(.nm (nat_lit 22)), (.nm (nat_lit 18))]), (.tup [(.nm (nat_lit 23)), (.nm (nat_lit 22))]), (.tup [(.nm (nat_lit 23)), (.nm (nat_lit 21))]), (.tup [(.nm (nat_lit 23)), (.nm (nat_lit 20))])])) (.node (.some (.dI [] (nat_lit 0))) (.node (.some (.dI [] (nat_lit 0))) .nil .nil) .nil) (.node (.some (.dI [] (nat_lit 0))) .nil .nil))) (.node (.some (.lst q120)) (.node (.some (.lst q112)) (.node (.some (.dI [] (nat_lit 0))) (.node (.some (.dI [] (nat_lit 0))) .nil .nil) .nil) (.node (.some (.dI [] (nat_lit 0))) .nil .nil)) (.node (.some (.dI [] (nat_lit 0))) (.node (.some (.dI [] (nat_lit 0))) .nil .nil) (.node (.some (.dI [] (nat_lit 0))) .nil .nil)))) (.node (.some (.lst q121)) (.node (.some (.lst q122)) (.node (.some (.lst q123)) (.node (.some (.dI [] (nat_lit 0))) (.node (.some (.dI [] (nat_lit 0))) .nil .nil) .nil) (.node (.some (.dI [] (nat_lit 0))) .nil .nil)) (.node (.some (.dI [] (nat_lit 0))) (.node (.some (.dI [] (nat_lit 0))) .nil .nil) (.node (.some (.dI [] (nat_lit 0))) .nil .nil))) (.node (.some (.lst q124)) (.node (.some (.dT [(q111, (.nm (nat_lit 0))), (q115, (.nm (nat_lit 1))), (q116, (.nm (nat_lit 2))), (q117, (.nm (nat_lit 3))), (q122, (.nm (nat_lit 4))), (q125, (.nm (nat_lit 5))), (q126, (.nm (nat_lit 6))), (q121, (.nm (nat_lit 7))), (q127, (.nm (nat_lit 8))), (q118, (.nm (nat_lit 9))), (q128, (.nm (nat_lit 10))), (q129, (.nm (nat_lit 11))), (q119, (.nm (nat_lit 12))), (q130, (.nm (nat_lit 13))), (q131, (.nm (nat_lit 14))), (q120, (.nm (nat_lit 15))), (q132, (.nm (nat_lit 16))), (q124, (.nm (nat_lit 17))), (q133, (.nm (nat_lit 18))), (q134, (.nm (nat_lit 19))), (q113, (.nm (nat_lit 20))), (q135, (.nm (nat_lit 21))), (q123, (.nm (nat_lit 22))), (q112, (.nm (nat_lit 23)))])) (.node (.some (.dI [] (nat_lit 0))) (.node (.some (.dI [] (nat_lit 0))) .nil .nil) .nil) (.node (.some (.dI [] (nat_lit 0))) .nil .nil)) (.node (.some (.dI [] (nat_lit 0))) (.node (.some (.dI [] (nat_lit 0))) .nil .nil) (.node (.some (.dI [] (nat_lit 0))) .nil .nil))))) (.node (.some (.dT [(q10, (.int (.ofNat (nat_lit 6)))), (q12, (.int (.ofNat (nat_lit 2)))), (q16, (.int (.ofNat (nat_lit 2))))])) (.node (.some (.lst q122)) (.node (.some (.lst q129)) (.node (.some (.lst q130)) (.node (.some (.dI [] (nat_lit 0))) (.node (.some (.dI [] (nat_lit 0))) .nil .nil) .nil) (.node (.some (.dI [] (nat_lit 0))) .nil .nil)) (.node (.some (.dI [] (nat_lit 0))) (.node (.some (.dI [] (nat_lit 0))) .nil .nil) (.node (.some (.dI [] (nat_lit 0))) .nil .nil))) (.node (.some (.lst q132)) (.node (.some (.lst q133)) (.node (.some (.dI [] (nat_lit 0))) (.node (.some (.dI [] (nat_lit 0))) .nil .nil) .nil) (.node (.some (.dI [] (nat_lit 0))) .nil .nil)) (.node (.some (.dI [] (nat_lit 0))) (.node (.some (.dI [] (nat_lit 0))) .nil .nil) (.node (.some (.dI [] (nat_lit 0))) .nil .nil)))) (.node (.some (.lst q127)) (.node (.some (.lst q125)) (.node (.some (.lst q133)) (.node (.some (.dI [] (nat_lit 0))) (.node (.some (.dI [] (nat_lit 0))) .nil .nil) .nil) (.node (.some (.dI [] (nat_lit 0))) .nil .nil)) (.node (.some (.dI [] (nat_lit 0))) (.node (.some (.dI [] (nat_lit 0))) .nil .nil) (.node (.some (.dI [] (nat_lit 0))) .nil .nil))) (.node (.some (.lst q134)) (.node (.some (.dI [] (nat_lit 0))) (.node (.some (.dI [] (nat_lit 0))) (.node (.some (.dI [] (nat_lit 0))) .nil .nil) .nil) (.node (.some (.dI [] (nat_lit 0))) .nil .nil)) (.node (.some (.dI [] (nat_lit 0))) (.node (.some (.dI [] (nat_lit 0))) .nil .nil) (.node (.some (.dI [] (nat_lit 0))) .nil .nil)))))) (.node (.some (.lst q136)) (.node (.some (.lst q137)) (.node (.some (.lst q117)) (.node (.some (.lst q116)) (.node (.some (.lst q135)) (.node (.some (.dI [] (nat_lit 0))) (.node (.some (.dI [] (nat_lit 0))) .nil .nil) .nil) (.node (.some (.dI [] (nat_lit 0))) .nil .nil)) (.node (.some (.dI [] (nat_lit 0))) (.node (.some (.dI [] (nat_lit 0))) .nil .nil) (.node (.some (.dI [] (nat_lit 0))) .nil .nil))) (.node (.some (.lst q120)) (.node (.some (.lst q112)) (.node (.some (.dI [] (nat_lit 0))) (.node (.some (.dI [] (nat_lit 0))) .nil .nil) .nil) (.node (.some (.dI [] (nat_lit 0))) .nil .nil)) (.node (.some (.dI [] (nat_lit 0))) (.node (.some (.dI [] (nat_lit 0))) .nil .nil) (.node (.some (.dI [] (nat_lit 0))) .nil .nil)))) (.node (.some (.lst q121)) (.node (.some (.lst q130)) (.node (.some (.lst q123)) (.node (.some (.dI [] (nat_lit 0))) (.node (.some (.dI [] (nat_lit 0))) .nil .nil) .nil) (.node (.some (.dI [] (nat_lit 0))) .nil .nil)) (.node (.some (.dI [] (nat_lit 0))) (.node (.some (.dI [] (nat_lit 0))) .nil .nil) (.node (.some (.dI [] (nat_lit 0))) .nil .nil))) (.node (.some (.lst q128)) (.node (.some (.gd [(4, (.ob (nat_lit 92))), (1, (.ob (nat_lit 93))), (2, (.ob (nat_lit 94)))])) (.node (.some (.dI [] (nat_lit 0))) (.node (.some (.dI [] (nat_lit 0))) .nil .nil) .nil) (.node (.some (.dI [] (nat_lit 0))) .nil .nil)) (.node (.some (.dI [] (nat_lit 0))) (.node (.some (.dI [] (nat_lit 0))) .nil .nil) (.node (.some (.dI [] (nat_lit 0))) .nil .nil))))) (.node (.some (.lst [(.tup q111), (.tup q115), (.tup q116), (.tup q117), (.tup q122), (.tup q125), (.tup q126), (.tup q121), (.tup q127), (.tup q118), (.tup q128), (.tup q129), (.tup q119), (.tup q130), (.tup q131), (.tup q120), (.tup q132), (.tup q124), (.tup q133), (.tup q134), (.tup q113), (.tup q135), (.tup q123), (.tup q112)])) (.node (.some (.lst q126)) (.node (.some (.lst q117)) (.node (.some (.lst q113)) (.node (.some (.dI [] (nat_lit 0))) (.node (.some (.dI [] (nat_lit 0))) .nil .nil) .nil) (.node (.some (.dI [] (nat_lit 0))) .nil .nil)) (.node (.some (.dI [] (nat_lit 0))) (.node (.some (.dI [] (nat_lit 0))) .nil .nil) (.node (.some (.dI [] (nat_lit 0))) .nil .nil))) (.node (.some (.lst q124)) (.node (.some (.lst q135)) (.node (.some (.dI [] (nat_lit 0))) (.node (.some (.dI [] (nat_lit 0))) .nil .nil) .nil) (.node (.some (.dI [] (nat_lit 0))) .nil .nil)) (.node (.some (.dI [] (nat_lit 0))) (.node (.some (.dI [] (nat_lit 0))) .nil .nil) (.node (.some (.dI [] (nat_lit 0))) .nil .nil)))) (.node (.some (.lst q118)) (.node (.some (.lst q131)) (.node (.some (.lst q112)) (.node (.some (.dI [] (nat_lit 0))) (.node (.some (.dI [] (nat_lit 0))) .nil .nil) .nil) (.node (.some (.dI [] (nat_lit 0))) .nil .nil)) (.node (.some (.dI [] (nat_lit 0))) (.node (.some (.dI [] (nat_lit 0))) .nil .nil) (.node (.some (.dI [] (nat_lit 0))) .nil .nil))) (.node (.some (.lst q129)) (.node (.some (.dI [((.nm (nat_lit 0)), (.ob (nat_lit 99))), ((.nm (nat_lit 1)), (.ob (nat_lit 101))), ((.nm (nat_lit 2)), (.ob (nat_lit 105))), ((.nm (nat_lit 3)), (.ob (nat_lit 109))), ((.nm (nat_lit 4)), (.ob (nat_lit 115))), ((.nm (nat_lit 5)), (.ob (nat_lit 119))), ((.nm (nat_lit 6)), (.ob (nat_lit 123))), ((.nm (nat_lit 7)), (.ob (nat_lit 129))), ((.nm (nat_lit 8)), (.ob (nat_lit 139))), ((.nm (nat_lit 9)), (.ob (nat_lit 145))), ((.nm (nat_lit 10)), (.ob (nat_lit 157))), ((.nm (nat_lit 11)), (.ob (nat_lit 161))), ((.nm (nat_lit 12)), (.ob (nat_lit 173))), ((.nm (nat_lit 13)), (.ob (nat_lit 177))), ((.nm (nat_lit 14)), (.ob (nat_lit 187))), ((.nm (nat_lit 15)), (.ob (nat_lit 193))), ((.nm (nat_lit 16)), (.ob (nat_lit 203))), ((.nm (nat_lit 17)), (.ob (nat_lit 209))), ((.nm (nat_lit 18)), (.ob (nat_lit 221))), ((.nm (nat_lit 19)), (.ob (nat_lit 225))), ((.nm (nat_lit 20)), (.ob (nat_lit 237))), ((.nm (nat_lit 21)), (.ob (nat_lit 241))), ((.nm (nat_lit 22)), (.ob (nat_lit 255))), ((.nm (nat_lit 23)), (.ob (nat_lit 269)))] (nat_lit 24))) (.node (.some (.dI [] (nat_lit 0))) (.node (.some (.dI [] (nat_lit 0))) .nil .nil) .nil) (.node (.some (.dI [] (nat_lit 0))) .nil .nil)) (.node (.some (.dI [] (nat_lit 0))) (.node (.some (.dI [] (nat_lit 0))) .nil .nil) (.node (.some (.dI [] (nat_lit 0))) .nil .nil))))))) (.node (.some (.lst q136)) (.node (.some (.lst q138)) (.node (.some (.lst q61)) (.node (.some (.lst q116)) (.node (.some (.lst q115)) (.node (.some (.lst q113)) (.node (.some (.dI [((.nm (nat_lit 2)), (.ob (nat_lit 130))), ((.nm (nat_lit 3)), (.ob (nat_lit 134))), ((.nm (nat_lit 11)), (.ob (nat_lit 164)))] (nat_lit 3))) (.node (.some (.dT [])) .nil .nil) .nil) (.node (.some (.dI [((.nm (nat_lit 10)), (.ob (nat_lit 194))), ((.nm (nat_lit 11)), (.ob (nat_lit 198))), ((.nm (nat_lit 19)), (.ob (nat_lit 228)))] (nat_lit 3))) .nil .nil)) (.node (.some (.dI [] (nat_lit 0))) (.node (.some (.dI [((.nm (nat_lit 6)), (.ob (nat_lit 162))), ((.nm (nat_lit 7)), (.ob (nat_lit 164))), ((.nm (nat_lit 15)), (.ob (nat_lit 198)))] (nat_lit 3))) (.node (.some (.dI [] (nat_lit 0))) .nil .nil) .nil) (.node (.some (.dI [((.nm (nat_lit 14)), (.ob (nat_lit 226))), ((.nm (nat_lit 15)), (.ob (nat_lit 228))), ((.nm (nat_lit 22)), (.ob (nat_lit 260)))] (nat_lit 3))) .nil .nil))) (.node (.some (.lst q121)) (.node (.some (.lst q132)) (.node (.some (.dI [((.nm (nat_lit 4)), (.ob (nat_lit 146))), ((.nm (nat_lit 5)), (.ob (nat_lit 150))), ((.nm (nat_lit 13)), (.ob (nat_lit 180)))] (nat_lit 3))) (.node (.some (.dI [] (nat_lit 0))) .nil .nil) .nil) (.node (.some (.dI [((.nm (nat_lit 12)), (.ob (nat_lit 210))), ((.nm (nat_lit 13)), (.ob (nat_lit 214))), ((.nm (nat_lit 21)), (.ob (nat_lit 244)))] (nat_lit 3))) .nil .nil)) (.node (.some (.dI [] (nat_lit 0))) (.node (.some (.dI [((.nm (nat_lit 8)), (.ob (nat_lit 178))), ((.nm (nat_lit 9)), (.ob (nat_lit 180))), ((.nm (nat_lit 17)), (.ob (nat_lit 214)))] (nat_lit 3))) .nil .nil) (.node (.some (.dI [((.nm (nat_lit 16)), (.ob (nat_lit 242))), ((.nm (nat_lit 17)), (.ob (nat_lit 244))), ((.nm (nat_lit 23)), (.ob (nat_lit 274)))] (nat_lit 3))) .nil .nil)))) (.node (.some (.lst q125)) (.node (.some (.lst q119)) (.node (.some (.lst q120)) (.node (.some (.dI [] (nat_lit 0))) (.node (.some (.dI [] (nat_lit 0))) .nil .nil) .nil) (.node (.some (.dI [] (nat_lit 0))) .nil .nil)) (.node (.some (.dI [((.nm (nat_lit 0)), (.ob (nat_lit 106))), ((.nm (nat_lit 6)), (.ob (nat_lit 124))), ((.nm (nat_lit 7)), (.ob (nat_lit 130)))] (nat_lit 3))) (.node (.some (.dI [] (nat_lit 0))) .nil .nil) (.node (.some (.dI [] (nat_lit 0))) .nil .nil))) (.node (.some (.lst q127)) (.node (.some (.dT [([(.nm (nat_lit 0)), (.nm (nat_lit 1))], (.int (.ofNat (nat_lit 0)))), ([(.nm (nat_lit 0)), (.nm (nat_lit 2))], (.int (.ofNat (nat_lit 1)))), ([(.nm (nat_lit 0)), (.nm (nat_lit 3))], (.int (.ofNat (nat_lit 2)))), ([(.nm (nat_lit 1)), (.nm (nat_lit 0))], (.int (.ofNat (nat_lit 0)))), ([(.nm (nat_lit 1)), (.nm (nat_lit 4))], (.int (.ofNat (nat_lit 1)))), ([(.nm (nat_lit 1)), (.nm (nat_lit 5))], (.int (.ofNat (nat_lit 2)))), ([(.nm (nat_lit 2)), (.nm (nat_lit 6))], (.int (.ofNat (nat_lit 0)))), ([(.nm (nat_lit 2)), (.nm (nat_lit 0))], (.int (.ofNat (nat_lit 1)))), ([(.nm (nat_lit 2)), (.nm (nat_lit 7))], (.int (.ofNat (nat_lit 2)))), ([(.nm (nat_lit 3)), (.nm (nat_lit 5))], (.int (.ofNat (nat_lit 0)))), ([(.nm (nat_lit 3)), (.nm (nat_lit 7))], (.int (.ofNat (nat_lit 1)))), ([(.nm (nat_lit 3)), (.nm (nat_lit 0))], (.int (.ofNat (nat_lit 2)))), ([(.nm (nat_lit 4)), (.nm (nat_lit 8))], (.int (.ofNat (nat_lit 0)))), ([(.nm (nat_lit 4)), (.nm (nat_lit 1))], (.int (.ofNat (nat_lit 1)))), ([(.nm (nat_lit 4)), (.nm (nat_lit 9))], (.int (.ofNat (nat_lit 2)))), ([(.nm (nat_lit 5)), (.nm (nat_lit 3))], (.int (.ofNat (nat_lit 0)))), ([(.nm (nat_lit 5)), (.nm (nat_lit 9))], (.int (.ofNat (nat_lit 1)))), ([(.nm (nat_lit 5)), (.nm (nat_lit 1))], (.int (.ofNat (nat_lit 2)))), ([(.nm (nat_lit 6)), (.nm (nat_lit 2))], (.int (.ofNat (nat_lit 0)))), ([(.nm (nat_lit 6)), (.nm (nat_lit 10))], (.int (.ofNat (nat_lit 1)))), ([(.nm (nat_lit 6)), (.nm (nat_lit 11))], (.int (.ofNat (nat_lit 2)))), ([(.nm (nat_lit 7)), (.nm (nat_lit 11))], (.int (.ofNat (nat_lit 0)))), ([(.nm (nat_lit 7)), (.nm (nat_lit 3))], (.int (.ofNat (nat_lit 1)))), ([(.nm (nat_lit 7)), (.nm (nat_lit 2))], (.int (.ofNat (nat_lit 2)))), ([(.nm (nat_lit 8)), (.nm (nat_lit 4))], (.int (.ofNat (nat_lit 0)))), ([(.nm (nat_lit 8)), (.nm (nat_lit 12))], (.int (.ofNat (nat_lit 1)))), ([(.nm (nat_lit 8)), (.nm (nat_lit 13))], (.int (.ofNat (nat_lit 2)))), ([(.nm (nat_lit 9)), (.nm (nat_lit 13))], (.int (.ofNat (nat_lit 0)))), ([(.nm (nat_lit 9)), (.nm (nat_lit 5))], (.int (.ofNat (nat_lit 1)))), ([(.nm (nat_lit 9)), (.nm (nat_lit 4))], (.int (.ofNat (nat_lit 2)))), ([(.nm (nat_lit 10)), (.nm (nat_lit 14))], (.int (.ofNat (nat_lit 0)))), ([(.nm (nat_lit 10)), (.nm (nat_lit 6))], (.int (.ofNat (nat_lit 1)))), ([(.nm (nat_lit 10)), (.nm (nat_lit 15))], (.int (.ofNat (nat_lit 2)))), ([(.nm (nat_lit 11)), (.nm (nat_lit 7))], (.int (.ofNat (nat_lit 0)))), ([(.nm (nat_lit 11)), (.nm (nat_lit 15))], (.int (.ofNat (nat_lit 1)))), ([(.nm (nat_lit 11)), (.nm (nat_lit 6))], (.int (.ofNat (nat_lit 2)))), ([(.nm (nat_lit 12)), (.nm (nat_lit 16))], (.int (.ofNat (nat_lit 0)))), ([(.nm (nat_lit 12)), (.nm (nat_lit 8))], (.int (.ofNat (nat_lit 1)))), ([(.nm (nat_lit 12)), (.nm (nat_lit 17))], (.int (.ofNat (nat_lit 2)))), ([(.nm (nat_lit 13)), (.nm (nat_lit 9))], (.int (.ofNat (nat_lit 0)))), ([(.nm (nat_lit 13)), (.nm (nat_lit 17))], (.int (.ofNat (nat_lit 1)))), ([(.nm (nat_lit 13)), (.nm (nat_lit 8))], (.int (.ofNat (nat_lit 2)))), ([(.nm (nat_lit 14)), (.nm (nat_lit 10))], (.int (.ofNat (nat_lit 0)))), ([(.nm (nat_lit 14)), (.nm (nat_lit 18))], (.int (.ofNat (nat_lit 1)))), ([(.nm (nat_lit 14)), (.nm (nat_lit 19))], (.int (.ofNat (nat_lit 2)))), ([(.nm (nat_lit 15)), (.nm (nat_lit 19))], (.int (.ofNat (nat_lit 0)))), ([(.nm (nat_lit 15)), (.nm (nat_lit 11))], (.int (.ofNat (nat_lit 1)))), ([(.nm (nat_lit 15)), (.nm (nat_lit 10))], (.int (.ofNat (nat_lit 2)))), ([(.nm (nat_lit 16)), (.nm (nat_lit 12))], (.int (.ofNat (nat_lit 0)))), ([(.nm (nat_lit 16)), (.nm (nat_lit 20))], (.int (.ofNat (nat_lit 1)))), ([(.nm (nat_lit 16)), (.nm (nat_lit 21))], (.int (.ofNat (nat_lit 2)))), ([(.nm (nat_lit 17)), (.nm (nat_lit 21))], (.int (.ofNat (nat_lit 0)))), ([(.nm (nat_lit 17)), (.nm (nat_lit 13))], (.int (.ofNat (nat_lit 1)))), ([(.nm (nat_lit 17)), (.nm (nat_lit 12))], (.int (.ofNat (nat_lit 2)))), ([(.nm (nat_lit 18)), (.nm (nat_lit 20))], (.int (.ofNat (nat_lit 0)))), ([(.nm (nat_lit 18)), (.nm (nat_lit 14))], (.int (.ofNat (nat_lit 1)))), ([(.nm (nat_lit 18)), (.nm (nat_lit 22))], (.int (.ofNat (nat_lit 2)))), ([(.nm (nat_lit 19)), (.nm (nat_lit 15))], (.int (.ofNat (nat_lit 0)))), ([(.nm (nat_lit 19)), (.nm (nat_lit 22))], (.int (.ofNat (nat_lit 1)))), ([(.nm (nat_lit 19)), (.nm (nat_lit 14))], (.int (.ofNat (nat_lit 2)))), ([(.nm (nat_lit 20)), (.nm (nat_lit 18))], (.int (.ofNat (nat_lit 0)))), ([(.nm (nat_lit 20)), (.nm (nat_lit 16))], (.int (.ofNat (nat_lit 1)))), ([(.nm (nat_lit 20)), (.nm (nat_lit 23))], (.int (.ofNat (nat_lit 2)))), ([(.nm (nat_lit 21)), (.nm (nat_lit 17))], (.int (.ofNat (nat_lit 0)))), ([(.nm (nat_lit 21)), (.nm (nat_lit 23))], (.int (.ofNat (nat_lit 1)))), ([(.nm (nat_lit 21)), (.nm (nat_lit 16))], (.int (.ofNat (nat_lit 2)))), ([(.nm (nat_lit 22)), (.nm (nat_lit 23))], (.int (.ofNat (nat_lit 0)))), ([(.nm (nat_lit 22)), (.nm (nat_lit 19))], (.int (.ofNat (nat_lit 1)))), ([(.nm (nat_lit 22)), (.nm (nat_lit 18))], (.int (.ofNat (nat_lit 2)))), ([(.nm (nat_lit 23)), (.nm (nat_lit 22))], (.int (.ofNat (nat_lit 0)))), ([(.nm (nat_lit 23)), (.nm (nat_lit 21))], (.int (.ofNat (nat_lit 1)))), ([(.nm (nat_lit 23)), (.nm (nat_lit 20))], (.int (.ofNat (nat_lit 2))))])) (.node (.some (.dI [] (nat_lit 0))) (.node (.some (.dI [] (nat_lit 0))) .nil .nil) .nil) (.node (.some (.dI [] (nat_lit 0))) .nil .nil)) (.node (.some (.dT [])) (.node (.some (.dI [] (nat_lit 0))) .nil .nil) (.node (.some (.dI [] (nat_lit 0))) .nil .nil))))) (.node (.some (.dT [(q111, (.tup [])), (q115, (.tup q6)), (q116, (.tup q7)), (q117, (.tup q8)), (q122, (.tup q10)), (q125, (.tup q12)), (q126, (.tup q14)), (q121, (.tup q16)), (q127, (.tup q20)), (q118, (.tup q22)), (q128, (.tup q79)), (q129, (.tup q26)), (q119, (.tup q80)), (q130, (.tup q32)), (q131, (.tup q107)), (q120, (.tup q81)), (q132, (.tup q108)), (q124, (.tup q82)), (q133, (.tup q139)), (q134, (.tup q109)), (q113, (.tup q140)), (q135, (.tup q110)), (q123, (.tup q141)), (q112, (.tup q142))])) (.node (.some (.lst q125)) (.node (.some (.lst q129)) (.node (.some (.lst q119)) (.node (.some (.dT [])) (.node (.some (.dT [])) .nil .nil) .nil) (.node (.some (.dI [] (nat_lit 0))) .nil .nil)) (.node (.some (.dI [((.nm (nat_lit 0)), (.ob (nat_lit 102))), ((.nm (nat_lit 4)), (.ob (nat_lit 116))), ((.nm (nat_lit 5)), (.ob (nat_lit 120)))] (nat_lit 3))) (.node (.some (.dT [])) .nil .nil) (.node (.some (.dT [])) .nil .nil))) (.node (.some (.lst q127)) (.node (.some (.lst q123)) (.node (.some (.dI [] (nat_lit 0))) (.node (.some (.dI [] (nat_lit 0))) .nil .nil) .nil) (.node (.some (.dI [] (nat_lit 0))) .nil .nil)) (.node (.some (.dT [])) (.node (.some (.dT [])) .nil .nil) (.node (.some (.dT [])) .nil .nil)))) (.node (.some (.lst q115)) (.node (.some (.lst q122)) (.node (.some (.lst q132)) (.node (.some (.dT [])) (.node (.some (.dI [((.nm (nat_lit 20)), (.ob (nat_lit 270))), ((.nm (nat_lit 21)), (.ob (nat_lit 274))), ((.nm (nat_lit 22)), (.ob (nat_lit 278)))] (nat_lit 3))) .nil .nil) .nil) (.node (.some (.dT [])) .nil .nil)) (.node (.some (.dI [((.nm (nat_lit 0)), (.ob (nat_lit 110))), ((.nm (nat_lit 5)), (.ob (nat_lit 132))), ((.nm (nat_lit 7)), (.ob (nat_lit 134)))] (nat_lit 3))) (.node (.some (.dI [((.nm (nat_lit 8)), (.ob (nat_lit 174))), ((.nm (nat_lit 16)), (.ob (nat_lit 204))), ((.nm (nat_lit 17)), (.ob (nat_lit 210)))] (nat_lit 3))) .nil .nil) (.node (.some (.dI [((.nm (nat_lit 16)), (.ob (nat_lit 238))), ((.nm (nat_lit 18)), (.ob (nat_lit 250))), ((.nm (nat_lit 23)), (.ob (nat_lit 270)))] (nat_lit 3))) .nil .nil))) (.node (.some (.lst q134)) (.node (.some (.dT [])) (.node (.some (.dI [((.nm (nat_lit 6)), (.ob (nat_lit 158))), ((.nm (nat_lit 14)), (.ob (nat_lit 188))), ((.nm (nat_lit 15)), (.ob (nat_lit 194)))] (nat_lit 3))) (.node (.some (.dI [] (nat_lit 0))) .nil .nil) .nil) (.node (.some (.dI [((.nm (nat_lit 14)), (.ob (nat_lit 222))), ((.nm (nat_lit 20)), (.ob (nat_lit 250))), ((.nm (nat_lit 22)), (.ob (nat_lit 256)))] (nat_lit 3))) .nil .nil)) (.node (.some (.dT [])) (.node (.some (.dT [])) .nil .nil) (.node (.some (.dI [] (nat_lit 0))) .nil .nil)))))) (.node (.some (.lst q116)) (.node (.some (.lst q117)) (.node (.some (.lst q111)) (.node (.some (.lst q128)) (.node (.some (.lst q135)) (.node (.some (.dT [])) (.node (.some (.dI [] (nat_lit 0))) .nil .nil) .nil) (.node (.some (.dT [])) .nil .nil)) (.node (.some (.dI [((.nm (nat_lit 1)), (.ob (nat_lit 102))), ((.nm (nat_lit 2)), (.ob (nat_lit 106))), ((.nm (nat_lit 3)), (.ob (nat_lit 110)))] (nat_lit 3))) (.node (.some (.dT [])) .nil .nil) (.node (.some (.dT [])) .nil .nil))) (.node (.some (.lst q126)) (.node (.some (.lst q134)) (.node (.some (.dT [])) (.node (.some (.dT [])) .nil .nil) .nil) (.node (.some (.dT [])) .nil .nil)) (.node (.some (.dI [((.nm (nat_lit 1)), (.ob (nat_lit 116))), ((.nm (nat_lit 8)), (.ob (nat_lit 140))), ((.nm (nat_lit 9)), (.ob (nat_lit 146)))] (nat_lit 3))) (.node (.some (.dT [])) .nil .nil) (.node (.some (.dT [])) .nil .nil)))) (.node (.some (.lst q111)) (.node (.some (.lst q130)) (.node (.some (.lst q131)) (.node (.some (.dI [((.nm (nat_lit 4)), (.ob (nat_lit 140))), ((.nm (nat_lit 12)), (.ob (nat_lit 174))), ((.nm (nat_lit 13)), (.ob (nat_lit 178)))] (nat_lit 3))) (.node (.some (.dI [] (nat_lit 0))) .nil .nil) .nil) (.node (.some (.dI [((.nm (nat_lit 12)), (.ob (nat_lit 204))), ((.nm (nat_lit 20)), (.ob (nat_lit 238))), ((.nm (nat_lit 21)), (.ob (nat_lit 242)))] (nat_lit 3))) .nil .nil)) (.node (.some (.dT [])) (.node (.some (.dI [] (nat_lit 0))) .nil .nil) (.node (.some (.dI [] (nat_lit 0))) .nil .nil))) (.node (.some (.lst q133)) (.node (.some (.gr (nat_lit 89))) (.node (.some (.dI [] (nat_lit 0))) (.node (.some (.dI [] (nat_lit 0))) .nil .nil) .nil) (.node (.some (.dI [] (nat_lit 0))) .nil .nil)) (.node (.some (.dI [((.nm (nat_lit 2)), (.ob (nat_lit 124))), ((.nm (nat_lit 10)), (.ob (nat_lit 158))), ((.nm (nat_lit 11)), (.ob (nat_lit 162)))] (nat_lit 3))) (.node (.some (.dI [((.nm (nat_lit 10)), (.ob (nat_lit 188))), ((.nm (nat_lit 18)), (.ob (nat_lit 222))), ((.nm (nat_lit 19)), (.ob (nat_lit 226)))] (nat_lit 3))) .nil .nil) (.node (.some (.dT [])) .nil .nil))))) (.node (.some (.lst [(.tup [(.tup q111), (.tup q115), (.int (.ofNat (nat_lit 0)))]), (.tup [(.tup q111), (.tup q116), (.int (.ofNat (nat_lit 1)))]), (.tup [(.tup q111), (.tup q117), (.int (.ofNat (nat_lit 2)))]), (.tup [(.tup q115), (.tup q111), (.int (.ofNat (nat_lit 0)))]), (.tup [(.tup q115), (.tup q122), (.int (.ofNat (nat_lit 1)))]), (.tup [(.tup q115), (.tup q125), (.int (.ofNat (nat_lit 2)))]), (.tup [(.tup q116), (.tup q126), (.int (.ofNat (nat_lit 0)))]), (.tup [(.tup q116), (.tup q111), (.int (.ofNat (nat_lit 1)))]), (.tup [(.tup q116), (.tup q121), (.int (.ofNat (nat_lit 2)))]), (.tup [(.tup q117), (.tup q125), (.int (.ofNat (nat_lit 0)))]), (.tup [(.tup q117), (.tup q121), (.int (.ofNat (nat_lit 1)))]), (.tup [(.tup q117), (.tup q111), (.int (.ofNat (nat_lit 2)))]), (.tup [(.tup q122), (.tup q127), (.int (.ofNat (nat_lit 0)))]), (.tup [(.tup q122), (.tup q115), (.int (.ofNat (nat_lit 1)))]), (.tup [(.tup q122), (.tup q118), (.int (.ofNat (nat_lit 2)))]), (.tup [(.tup q125), (.tup q117), (.int (.ofNat (nat_lit 0)))]), (.tup [(.tup q125), (.tup q118), (.int (.ofNat (nat_lit 1)))]), (.tup [(.tup q125), (.tup q115), (.int (.ofNat (nat_lit 2)))]), (.tup [(.tup q126), (.tup q116), (.int (.ofNat (nat_lit 0)))]), (.tup [(.tup q126), (.tup q128), (.int (.ofNat (nat_lit 1)))]), (.tup [(.tup q126), (.tup q129), (.int (.ofNat (nat_lit 2)))]), (.tup [(.tup q121), (.tup q129), (.int (.ofNat (nat_lit 0)))]), (.tup [(.tup q121), (.tup q117), (.int (.ofNat (nat_lit 1)))]), (.tup [(.tup q121), (.tup q116), (.int (.ofNat (nat_lit 2)))]), (.tup [(.tup q127), (.tup q122), (.int (.ofNat (nat_lit 0)))]), (.tup [(.tup q127), (.tup q119), (.int (.ofNat (nat_lit 1)))]), (.tup [(.tup q127), (.tup q130), (.int (.ofNat (nat_lit 2)))]), (.tup [(.tup q118), (.tup q130), (.int (.ofNat (nat_lit 0)))]), (.tup [(.tup q118), (.tup q125), (.int (.ofNat (nat_lit 1)))]), (.tup [(.tup q118), (.tup q122), (.int (.ofNat (nat_lit 2)))]), (.tup [(.tup q128), (.tup q131), (.int (.ofNat (nat_lit 0)))]), (.tup [(.tup q128), (.tup q126), (.int (.ofNat (nat_lit 1)))]), (.tup [(.tup q128), (.tup q120), (.int (.ofNat (nat_lit 2)))]), (.tup [(.tup q129), (.tup q121), (.int (.ofNat (nat_lit 0)))]), (.tup [(.tup q129), (.tup q120), (.int (.ofNat (nat_lit 1)))]), (.tup [(.tup q129), (.tup q126), (.int (.ofNat (nat_lit 2)))]), (.tup [(.tup q119), (.tup q132), (.int (.ofNat (nat_lit 0)))]), (.tup [(.tup q119), (.tup q127), (.int (.ofNat (nat_lit 1)))]), (.tup [(.tup q119), (.tup q124), (.int (.ofNat (nat_lit 2)))]), (.tup [(.tup q130), (.tup q118), (.int (.ofNat (nat_lit 0)))]), (.tup [(.tup q130), (.tup q124), (.int (.ofNat (nat_lit 1)))]), (.tup [(.tup q130), (.tup q127), (.int (.ofNat (nat_lit 2)))]), (.tup [(.tup q131), (.tup q128), (.int (.ofNat (nat_lit 0)))]), (.tup [(.tup q131), (.tup q133), (.int (.ofNat (nat_lit 1)))]), (.tup [(.tup q131), (.tup q134), (.int (.ofNat (nat_lit 2)))]), (.tup [(.tup q120), (.tup q134), (.int (.ofNat (nat_lit 0)))]), (.tup [(.tup q120), (.tup q129), (.int (.ofNat (nat_lit 1)))]), (.tup [(.tup q120), (.tup q128), (.int (.ofNat (nat_lit 2)))]), (.tup [(.tup q132), (.tup q119), (.int (.ofNat (nat_lit 0)))]), (.tup [(.tup q132), (.tup q113), (.int (.ofNat (nat_lit 1)))]), (.tup [(.tup q132), (.tup q135), (.int (.ofNat (nat_lit 2)))]), (.tup [(.tup q124), (.tup q135), (.int (.ofNat (nat_lit 0)))]), (.tup [(.tup q124), (.tup q130), (.int (.ofNat (nat_lit 1)))]), (.tup [(.tup q124), (.tup q119), (.int (.ofNat (nat_lit 2)))]), (.tup [(.tup q133), (.tup q113), (.int (.ofNat (nat_lit 0)))]), (.tup [(.tup q133), (.tup q131), (.int (.ofNat (nat_lit 1)))]), (.tup [(.tup q133), (.tup q123), (.int (.ofNat (nat_lit 2)))]), (.tup [(.tup q134), (.tup q120), (.int (.ofNat (nat_lit 0)))]), (.tup [(.tup q134), (.tup q123), (.int (.ofNat (nat_lit 1)))]), (.tup [(.tup q134), (.tup q131), (.int (.ofNat (nat_lit 2)))]), (.tup [(.tup q113), (.tup q133), (.int (.ofNat (nat_lit 0)))]), (.tup [(.tup q113), (.tup q132), (.int (.ofNat (nat_lit 1)))]), (.tup [(.tup q113), (.tup q112), (.int (.ofNat (nat_lit 2)))]), (.tup [(.tup q135), (.tup q124), (.int (.ofNat (nat_lit 0)))]), (.tup [(.tup q135), (.tup q112), (.int (.ofNat (nat_lit 1)))]), (.tup [(.tup q135), (.tup q132), (.int (.ofNat (nat_lit 2)))]), (.tup [(.tup q123), (.tup q112), (.int (.ofNat (nat_lit 0)))]), (.tup [(.tup q123), (.tup q134), (.int (.ofNat (nat_lit 1)))]), (.tup [(.tup q123), (.tup q133), (.int (.ofNat (nat_lit 2)))]), (.tup [(.tup q112), (.tup q123), (.int (.ofNat (nat_lit 0)))]), (.tup [(.tup q112), (.tup q135), (.int (.ofNat (nat_lit 1)))]), (.tup [(.tup q112), (.tup q113), (.int (.ofNat (nat_lit 2)))])])) (.node (.some (.lst q111)) (.node (.some (.lst q116)) (.node (.some (.lst q131)) (.node (.some (.dT [])) (.node (.some (.dI [] (nat_lit 0))) .nil .nil) .nil) (.node (.some (.dT [])) .nil .nil)) (.node (.some (.dT [])) (.node (.some (.dI [] (nat_lit 0))) .nil .nil) (.node (.some (.dI [] (nat_lit 0))) .nil .nil))) (.node (.some (.lst q118)) (.node (.some (.lst q113)) (.node (.some (.dT [])) (.node (.some (.dT [])) .nil .nil) .nil) (.node (.some (.dT [])) .nil .nil)) (.node (.some (.dI [((.nm (nat_lit 1)), (.ob (nat_lit 120))), ((.nm (nat_lit 3)), (.ob (nat_lit 132))), ((.nm (nat_lit 9)), (.ob (nat_lit 150)))] (nat_lit 3))) (.node (.some (.dI [] (nat_lit 0))) .nil .nil) (.node (.some (.dI [] (nat_lit 0))) .nil .nil)))) (.node (.some (.lst q117)) (.node (.some (.lst q126)) (.node (.some (.lst q124)) (.node (.some (.dI [] (nat_lit 0))) (.node (.some (.dT [])) .nil .nil) .nil) (.node (.some (.dI [] (nat_lit 0))) .nil .nil)) (.node (.some (.dT [])) (.node (.some (.dT [])) .nil .nil) (.node (.some (.dT [])) .nil .nil))) (.node (.some (.lst q128)) (.node (.some (.dI [((.nm (nat_lit 0)), (.ob (nat_lit 98))), ((.nm (nat_lit 1)), (.ob (nat_lit 100))), ((.nm (nat_lit 2)), (.ob (nat_lit 104))), ((.nm (nat_lit 3)), (.ob (nat_lit 108))), ((.nm (nat_lit 4)), (.ob (nat_lit 114))), ((.nm (nat_lit 5)), (.ob (nat_lit 118))), ((.nm (nat_lit 6)), (.ob (nat_lit 122))), ((.nm (nat_lit 7)), (.ob (nat_lit 128))), ((.nm (nat_lit 8)), (.ob (nat_lit 138))), ((.nm (nat_lit 9)), (.ob (nat_lit 144))), ((.nm (nat_lit 10)), (.ob (nat_lit 156))), ((.nm (nat_lit 11)), (.ob (nat_lit 160))), ((.nm (nat_lit 12)), (.ob (nat_lit 172))), ((.nm (nat_lit 13)), (.ob (nat_lit 176))), ((.nm (nat_lit 14)), (.ob (nat_lit 186))), ((.nm (nat_lit 15)), (.ob (nat_lit 192))), ((.nm (nat_lit 16)), (.ob (nat_lit 202))), ((.nm (nat_lit 17)), (.ob (nat_lit 208))), ((.nm (nat_lit 18)), (.ob (nat_lit 220))), ((.nm (nat_lit 19)), (.ob (nat_lit 224))), ((.nm (nat_lit 20)), (.ob (nat_lit 236))), ((.nm (nat_lit 21)), (.ob (nat_lit 240))), ((.nm (nat_lit 22)), (.ob (nat_lit 254))), ((.nm (nat_lit 23)), (.ob (nat_lit 268)))] (nat_lit 24))) (.node (.some (.dT [])) (.node (.some (.dI [] (nat_lit 0))) .nil .nil) .nil) (.node (.some (.dT [])) .nil .nil)) (.node (.some (.dI [] (nat_lit 0))) (.node (.some (.dI [] (nat_lit 0))) .nil .nil) (.node (.some (.dI [((.nm (nat_lit 18)), (.ob (nat_lit 256))), ((.nm (nat_lit 19)), (.ob (nat_lit 260))), ((.nm (nat_lit 23)), (.ob (nat_lit 278)))] (nat_lit 3))) .nil .nil)))))))), (nat_lit 289)⟩
theorem preR4 (sa : Addr) (t : Int) (g : Loc → Hp → Option (Fl × Loc × Hp)) : lawA 906 ⟨4, 24, t⟩ sa g (lc1 sa) hp1 = g (loR4 sa) hpR4 := by kernel_rfl
end
end Mine
end
section
open PySem PySem.W
set_option maxRecDepth 100000
namespace Mine
noncomputable section
def goodV : Option (Fl × Loc × Hp) → Bool
  | some (.ret (.bool true), _, _) => true
  | _ => false
theorem ev0x0 (sa : Addr) : goodV (lawB 906 ⟨0, 24, 0⟩ sa (loR0 sa) hpR0) = true := by kernel_rfl
theorem ev0x1 (sa : Addr) : goodV (lawB 906 ⟨0, 24, 1⟩ sa (loR0 sa) hpR0) = true := by kernel_rfl
theorem ev0x2 (sa : Addr) : goodV (lawB 906 ⟨0, 24, 2⟩ sa (loR0 sa) hpR0) = true := by kernel_rfl
theorem ev0x3 (sa : Addr) : goodV (lawB 906 ⟨0, 24, 3⟩ sa (loR0 sa) hpR0) = true := by kernel_rfl
theorem ev0x4 (sa : Addr) : goodV (lawB 906 ⟨0, 24, 4⟩ sa (loR0 sa) hpR0) = true := by kernel_rfl
theorem ev0x5 (sa : Addr) : goodV (lawB 906 ⟨0, 24, 5⟩ sa (loR0 sa) hpR0) = true := by kernel_rfl
theorem ev0x6 (sa : Addr) : goodV (lawB 906 ⟨0, 24, 6⟩ sa (loR0 sa) hpR0) = true := by kernel_rfl
theorem ev0x7 (sa : Addr) : goodV (lawB 906 ⟨0, 24, 7⟩ sa (loR0 sa) hpR0) = true := by kernel_rfl
theorem ev0x8 (sa : Addr) : goodV (lawB 906 ⟨0, 24, 8⟩ sa (loR0 sa) hpR0) = true := by kernel_rfl
theorem ev0x9 (sa : Addr) : goodV (lawB 906 ⟨0, 24, 9⟩ sa (loR0 sa) hpR0) = true := by kernel_rfl
theorem ev0x10 (sa : Addr) : goodV (lawB 906 ⟨0, 24, 10⟩ sa (loR0 sa) hpR0) = true := by kernel_rfl
theorem ev0x11 (sa : Addr) : goodV (lawB 906 ⟨0, 24, 11⟩ sa (loR0 sa) hpR0) = true := by kernel_rfl
theorem ev0x12 (sa : Addr) : goodV (lawB 906 ⟨0, 24, 12⟩ sa (loR0 sa) hpR0) = true := by kernel_rfl
theorem ev0x13 (sa : Addr) : goodV (lawB 906 ⟨0, 24, 13⟩ sa (loR0 sa) hpR0) = true := by kernel_rfl
theorem ev0x14 (sa : Addr) : goodV (lawB 906 ⟨0, 24, 14⟩ sa (loR0 sa) hpR0) = true := by kernel_rfl
theorem ev0x15 (sa : Addr) : goodV (lawB 906 ⟨0, 24, 15⟩ sa (loR0 sa) hpR0) = true := by kernel_rfl
theorem ev0x16 (sa : Addr) : goodV (lawB 906 ⟨0, 24, 16⟩ sa (loR0 sa) hpR0) = true := by kernel_rfl
theorem ev0x17 (sa : Addr) : goodV (lawB 906 ⟨0, 24, 17⟩ sa (loR0 sa) hpR0) = true := by kernel_rfl
theorem ev0x18 (sa : Addr) : goodV (lawB 906 ⟨0, 24, 18⟩ sa (loR0 sa) hpR0) = true := by kernel_rfl
theorem ev0x19 (sa : Addr) : goodV (lawB 906 ⟨0, 24, 19⟩ sa (loR0 sa) hpR0) = true := by kernel_rfl
theorem ev0x20 (sa : Addr) : goodV (lawB 906 ⟨0, 24, 20⟩ sa (loR0 sa) hpR0) = true := by kernel_rfl
theorem ev0x21 (sa : Addr) : goodV (lawB 906 ⟨0, 24, 21⟩ sa (loR0 sa) hpR0) = true := by kernel_rfl
theorem ev0x22 (sa : Addr) : goodV (lawB 906 ⟨0, 24, 22⟩ sa (loR0 sa) hpR0) = true := by kernel_rfl
theorem ev0x23 (sa : Addr) : goodV (lawB 906 ⟨0, 24, 23⟩ sa (loR0 sa) hpR0) = true := by kernel_rfl
theorem ev1x0 (sa : Addr) : goodV (lawB 906 ⟨1, 12, 0⟩ sa (loR1 sa) hpR1) = true := by kernel_rfl
theorem ev1x1 (sa : Addr) : goodV (lawB 906 ⟨1, 12, 1⟩ sa (loR1 sa) hpR1) = true := by kernel_rfl
theorem ev1x2 (sa : Addr) : goodV (lawB 906 ⟨1, 12, 2⟩ sa (loR1 sa) hpR1) = true := by kernel_rfl
theorem ev1x3 (sa : Addr) : goodV (lawB 906 ⟨1, 12, 3⟩ sa (loR1 sa) hpR1) = true := by kernel_rfl
theorem ev1x4 (sa : Addr) : goodV (lawB 906 ⟨1, 12, 4⟩ sa (loR1 sa) hpR1) = true := by kernel_rfl
theorem ev1x5 (sa : Addr) : goodV (lawB 906 ⟨1, 12, 5⟩ sa (loR1 sa) hpR1) = true := by kernel_rfl
theorem ev1x6 (sa : Addr) : goodV (lawB 906 ⟨1, 12, 6⟩ sa (loR1 sa) hpR1) = true := by kernel_rfl
theorem ev1x7 (sa : Addr) : goodV (lawB 906 ⟨1, 12, 7⟩ sa (loR1 sa) hpR1) = true := by kernel_rfl
theorem ev1x8 (sa : Addr) : goodV (lawB 906 ⟨1, 12, 8⟩ sa (loR1 sa) hpR1) = true := by kernel_rfl
theorem ev1x9 (sa : Addr) : goodV (lawB 906 ⟨1, 12, 9⟩ sa (loR1 sa) hpR1) = true := by kernel_rfl
theorem ev1x10 (sa : Addr) : goodV (lawB 906 ⟨1, 12, 10⟩ sa (loR1 sa) hpR1) = true := by kernel_rfl
theorem ev1x11 (sa : Addr) : goodV (lawB 906 ⟨1, 12, 11⟩ sa (loR1 sa) hpR1) = true := by kernel_rfl
theorem ev2x0 (sa : Addr) : goodV (lawB 906 ⟨2, 16, 0⟩ sa (loR2 sa) hpR2) = true := by kernel_rfl
theorem ev2x1 (sa : Addr) : goodV (lawB 906 ⟨2, 16, 1⟩ sa (loR2 sa) hpR2) = true := by kernel_rfl
theorem ev2x2 (sa : Addr) : goodV (lawB 906 ⟨2, 16, 2⟩ sa (loR2 sa) hpR2) = true := by kernel_rfl
theorem ev2x3 (sa : Addr) : goodV (lawB 906 ⟨2, 16, 3⟩ sa (loR2 sa) hpR2) = true := by kernel_rfl
theorem ev2x4 (sa : Addr) : goodV (lawB 906 ⟨2, 16, 4⟩ sa (loR2 sa) hpR2) = true := by kernel_rfl
theorem ev2x5 (sa : Addr) : goodV (lawB 906 ⟨2, 16, 5⟩ sa (loR2 sa) hpR2) = true := by kernel_rfl
theorem ev2x6 (sa : Addr) : goodV (lawB 906 ⟨2, 16, 6⟩ sa (loR2 sa) hpR2) = true := by kernel_rfl
theorem ev2x7 (sa : Addr) : goodV (lawB 906 ⟨2, 16, 7⟩ sa (loR2 sa) hpR2) = true := by kernel_rfl
theorem ev2x8 (sa : Addr) : goodV (lawB 906 ⟨2, 16, 8⟩ sa (loR2 sa) hpR2) = true := by kernel_rfl
theorem ev2x9 (sa : Addr) : goodV (lawB 906 ⟨2, 16, 9⟩ sa (loR2 sa) hpR2) = true := by kernel_rfl
theorem ev2x10 (sa : Addr) : goodV (lawB 906 ⟨2, 16, 10⟩ sa (loR2 sa) hpR2) = true := by kernel_rfl
theorem ev2x11 (sa : Addr) : goodV (lawB 906 ⟨2, 16, 11⟩ sa (loR2 sa) hpR2) = true := by kernel_rfl
theorem ev2x12 (sa : Addr) : goodV (lawB 906 ⟨2, 16, 12⟩ sa (loR2 sa) hpR2) = true := by kernel_rfl
theorem ev2x13 (sa : Addr) : goodV (lawB 906 ⟨2, 16, 13⟩ sa (loR2 sa) hpR2) = true := by kernel_rfl
theorem ev2x14 (sa : Addr) : goodV (lawB 906 ⟨2, 16, 14⟩ sa (loR2 sa) hpR2) = true := by kernel_rfl
theorem ev2x15 (sa : Addr) : goodV (lawB 906 ⟨2, 16, 15⟩ sa (loR2 sa) hpR2) = true := by kernel_rfl
theorem ev3x0 (sa : Addr) : goodV (lawB 906 ⟨3, 20, 0⟩ sa (loR3 sa) hpR3) = true := by kernel_rfl
theorem ev3x1 (sa : Addr) : goodV (lawB 906 ⟨3, 20, 1⟩ sa (loR3 sa) hpR3) = true := by kernel_rfl
theorem ev3x2 (sa : Addr) : goodV (lawB 906 ⟨3, 20, 2⟩ sa (loR3 sa) hpR3) = true := by kernel_rfl
theorem ev3x3 (sa : Addr) : goodV (lawB 906 ⟨3, 20, 3⟩ sa (loR3 sa) hpR3) = true := by kernel_rfl
theorem ev3x4 (sa : Addr) : goodV (lawB 906 ⟨3, 20, 4⟩ sa (loR3 sa) hpR3) = true := by kernel_rfl
theorem ev3x5 (sa : Addr) : goodV (lawB 906 ⟨3, 20, 5⟩ sa (loR3 sa) hpR3) = true := by kernel_rfl
theorem ev3x6 (sa : Addr) : goodV (lawB 906 ⟨3, 20, 6⟩ sa (loR3 sa) hpR3) = true := by kernel_rfl
theorem ev3x7 (sa : Addr) : goodV (lawB 906 ⟨3, 20, 7⟩ sa (loR3 sa) hpR3) = true := by kernel_rfl
theorem ev3x8 (sa : Addr) : goodV (lawB 906 ⟨3, 20, 8⟩ sa (loR3 sa) hpR3) = true := by kernel_rfl
theorem ev3x9 (sa : Addr) : goodV (lawB 906 ⟨3, 20, 9⟩ sa (loR3 sa) hpR3) = true := by kernel_rfl
theorem ev3x10 (sa : Addr) : goodV (lawB 906 ⟨3, 20, 10⟩ sa (loR3 sa) hpR3) = true := by kernel_rfl
theorem ev3x11 (sa : Addr) : goodV (lawB 906 ⟨3, 20, 11⟩ sa (loR3 sa) hpR3) = true := by kernel_rfl
theorem ev3x12 (sa : Addr) : goodV (lawB 906 ⟨3, 20, 12⟩ sa (loR3 sa) hpR3) = true := by kernel_rfl
theorem ev3x13 (sa : Addr) : goodV (lawB 906 ⟨3, 20, 13⟩ sa (loR3 sa) hpR3) = true := by kernel_rfl
theorem ev3x14 (sa : Addr) : goodV (lawB 906 ⟨3, 20, 14⟩ sa (loR3 sa) hpR3) = true := by kernel_rfl
theorem ev3x15 (sa : Addr) : goodV (lawB 906 ⟨3, 20, 15⟩ sa (loR3 sa) hpR3) = true := by kernel_rfl
theorem ev3x16 (sa : Addr) : goodV (lawB 906 ⟨3, 20, 16⟩ sa (loR3 sa) hpR3) = true := by kernel_rfl
theorem ev3x17 (sa : Addr) : goodV (lawB 906 ⟨3, 20, 17⟩ sa (loR3 sa) hpR3) = true := by kernel_rfl
theorem ev3x18 (sa : Addr) : goodV (lawB 906 ⟨3, 20, 18⟩ sa (loR3 sa) hpR3) = true := by kernel_rfl
theorem ev3x19 (sa : Addr) : goodV (lawB 906 ⟨3, 20, 19⟩ sa (loR3 sa) hpR3) = true := by kernel_rfl
theorem ev4x0 (sa : Addr) : goodV (lawB 906 ⟨4, 24, 0⟩ sa (loR4 sa) hpR4) = true := by kernel_rfl
theorem ev4x1 (sa : Addr) : goodV (lawB 906 ⟨4, 24, 1⟩ sa (loR4 sa) hpR4) = true := by kernel_rfl
theorem ev4x2 (sa : Addr) : goodV (lawB 906 ⟨4, 24, 2⟩ sa (loR4 sa) hpR4) = true := by kernel_rfl
theorem ev4x3 (sa : Addr) : goodV (lawB 906 ⟨4, 24, 3⟩ sa (loR4 sa) hpR4) = true := by kernel_rfl
theorem ev4x4 (sa : Addr) : goodV (lawB 906 ⟨4, 24, 4⟩ sa (loR4 sa) hpR4) = true := by kernel_rfl
theorem ev4x5 (sa : Addr) : goodV (lawB 906 ⟨4, 24, 5⟩ sa (loR4 sa) hpR4) = true := by kernel_rfl
theorem ev4x6 (sa : Addr) : goodV (lawB 906 ⟨4, 24, 6⟩ sa (loR4 sa) hpR4) = true := by kernel_rfl
theorem ev4x7 (sa : Addr) : goodV (lawB 906 ⟨4, 24, 7⟩ sa (loR4 sa) hpR4) = true := by kernel_rfl
theorem ev4x8 (sa : Addr) : goodV (lawB 906 ⟨4, 24, 8⟩ sa (loR4 sa) hpR4) = true := by kernel_rfl
theorem ev4x9 (sa : Addr) : goodV (lawB 906 ⟨4, 24, 9⟩ sa (loR4 sa) hpR4) = true := by kernel_rfl
theorem ev4x10 (sa : Addr) : goodV (lawB 906 ⟨4, 24, 10⟩ sa (loR4 sa) hpR4) = true := by kernel_rfl
theorem ev4x11 (sa : Addr) : goodV (lawB 906 ⟨4, 24, 11⟩ sa (loR4 sa) hpR4) = true := by kernel_rfl
theorem ev4x12 (sa : Addr) : goodV (lawB 906 ⟨4, 24, 12⟩ sa (loR4 sa) hpR4) = true := by kernel_rfl
theorem ev4x13 (sa : Addr) : goodV (lawB 906 ⟨4, 24, 13⟩ sa (loR4 sa) hpR4) = true := by kernel_rfl
theorem ev4x14 (sa : Addr) : goodV (lawB 906 ⟨4, 24, 14⟩ sa (loR4 sa) hpR4) = true := by kernel_rfl
theorem ev4x15 (sa : Addr) : goodV (lawB 906 ⟨4, 24, 15⟩ sa (loR4 sa) hpR4) = true := by kernel_rfl
theorem ev4x16 (sa : Addr) : goodV (lawB 906 ⟨4, 24, 16⟩ sa (loR4 sa) hpR4) = true := by kernel_rfl
theorem ev4x17 (sa : Addr) : goodV (lawB 906 ⟨4, 24, 17⟩ sa (loR4 sa) hpR4) = true := by kernel_rfl
theorem ev4x18 (sa : Addr) : goodV (lawB 906 ⟨4, 24, 18⟩ sa (loR4 sa) hpR4) = true := by kernel_rfl
theorem ev4x19 (sa : Addr) : goodV (lawB 906 ⟨4, 24, 19⟩ sa (loR4 sa) hpR4) = true := by kernel_rfl
theorem ev4x20 (sa : Addr) : goodV (lawB 906 ⟨4, 24, 20⟩ sa (loR4 sa) hpR4) = true := by kernel_rfl
theorem ev4x21 (sa : Addr) : goodV (lawB 906 ⟨4, 24, 21⟩ sa (loR4 sa) hpR4) = true := by kernel_rfl
theorem ev4x22 (sa : Addr) : goodV (lawB 906 ⟨4, 24, 22⟩ sa (loR4 sa) hpR4) = true := by kernel_rfl
theorem ev4x23 (sa : Addr) : goodV (lawB 906 ⟨4, 24, 23⟩ sa (loR4 sa) hpR4) = true := by kernel_rfl
end
end Mine
end
section
open PySem PySem.W
set_option maxRecDepth 100000
namespace Mine
noncomputable section
/-- the first statement, with the look at the script's place as a Bool -/
def fDrawB (b : Bool) : Loc → Hp → Option (V × Hp) := fun loc hp => match lget loc 1 with
  | some (.st _) => ch b (fDrawE loc hp)
  | _ => none
def fst0B (b : Bool) : Loc → Hp → Option (Fl × Loc × Hp) :=
 (fAsg (fComp 200 [none, some 0] (fIt (fUn gRange (fK (.int 3)))) (aName 0) (fDrawB b)) 1)
theorem fst0_eq (c : Cfg) (sa : Addr) : fst0 906 c sa (some (.st sa) :: List.replicate 24 none) ⟨.nil, 0⟩ = fst0B (Nat.beq sa sa) (some (.st sa) :: List.replicate 24 none) ⟨.nil, 0⟩ := by kernel_rfl
theorem fst0_ok (c : Cfg) (sa : Addr) : fst0 906 c sa (some (.st sa) :: List.replicate 24 none) ⟨.nil, 0⟩ = some (.next, lc1 sa, hp1) := by
  rw [fst0_eq, show Nat.beq sa sa = true from Nat.beq_refl sa]
  kernel_rfl
theorem lawF_eq (c : Cfg) (sa : Addr) : lawF 906 c sa (some (.st sa) :: List.replicate 24 none) ⟨.nil, 0⟩ = lawA 906 c sa (lawB 906 c sa) (lc1 sa) hp1 := by
  unfold lawF fSeq
  rw [fst0_ok]
theorem goodV_inv {x : Option (Fl × Loc × Hp)} (h : goodV x = true) : ∃ l p, x = some (.ret (.bool true), l, p) := by
  unfold goodV at h
  split at h
  · exact ⟨_, _, rfl⟩
  · cases h
end
end Mine
end
section
open PySem PySem.W
set_option maxRecDepth 100000
namespace Mine
noncomputable section
theorem evs0 : ∀ n : Nat, n < 24 → ∀ sa, goodV (lawB 906 ⟨0, 24, (n : Int)⟩ sa (loR0 sa) hpR0) = true
  | 0, _ => ev0x0
  | 1, _ => ev0x1
  | 2, _ => ev0x2
  | 3, _ => ev0x3
  | 4, _ => ev0x4
  | 5, _ => ev0x5
  | 6, _ => ev0x6
  | 7, _ => ev0x7
  | 8, _ => ev0x8
  | 9, _ => ev0x9
  | 10, _ => ev0x10
  | 11, _ => ev0x11
  | 12, _ => ev0x12
  | 13, _ => ev0x13
  | 14, _ => ev0x14
  | 15, _ => ev0x15
  | 16, _ => ev0x16
  | 17, _ => ev0x17
  | 18, _ => ev0x18
  | 19, _ => ev0x19
  | 20, _ => ev0x20
  | 21, _ => ev0x21
  | 22, _ => ev0x22
  | 23, _ => ev0x23
  | n + 24, h => absurd h (by omega)
theorem good0 (t : Int) (h0 : 0 ≤ t) (h1 : t < 24) (sa : Addr) : ∃ loc' hp', lawF 906 ⟨0, 24, t⟩ sa (some (.st sa) :: List.replicate 24 none) ⟨.nil, 0⟩ = some (.ret (.bool true), loc', hp') := by
  obtain ⟨n, rfl⟩ : ∃ n : Nat, t = n := ⟨t.toNat, by omega⟩
  rw [lawF_eq, preR0]
  exact goodV_inv (evs0 n (by omega) sa)
theorem evs1 : ∀ n : Nat, n < 12 → ∀ sa, goodV (lawB 906 ⟨1, 12, (n : Int)⟩ sa (loR1 sa) hpR1) = true
  | 0, _ => ev1x0
  | 1, _ => ev1x1
  | 2, _ => ev1x2
  | 3, _ => ev1x3
  | 4, _ => ev1x4
  | 5, _ => ev1x5
  | 6, _ => ev1x6
  | 7, _ => ev1x7
  | 8, _ => ev1x8
  | 9, _ => ev1x9
  | 10, _ => ev1x10
  | 11, _ => ev1x11
  | n + 12, h => absurd h (by omega)
theorem good1 (t : Int) (h0 : 0 ≤ t) (h1 : t < 12) (sa : Addr) : ∃ loc' hp', lawF 906 ⟨1, 12, t⟩ sa (some (.st sa) :: List.replicate 24 none) ⟨.nil, 0⟩ = some (.ret (.bool true), loc', hp') := by
  obtain ⟨n, rfl⟩ : ∃ n : Nat, t = n := ⟨t.toNat, by omega⟩
  rw [lawF_eq, preR1]
  exact goodV_inv (evs1 n (by omega) sa)
theorem evs2 : ∀ n : Nat, n < 16 → ∀ sa, goodV (lawB 906 ⟨2, 16, (n : Int)⟩ sa (loR2 sa) hpR2) = true
  | 0, _ => ev2x0
  | 1, _ => ev2x1
  | 2, _ => ev2x2
  | 3, _ => ev2x3
  | 4, _ => ev2x4
  | 5, _ => ev2x5
  | 6, _ => ev2x6
  | 7, _ => ev2x7
  | 8, _ => ev2x8
  | 9, _ => ev2x9
  | 10, _ => ev2x10
  | 11, _ => ev2x11
  | 12, _ => ev2x12
  | 13, _ => ev2x13
  | 14, _ => ev2x14
  | 15, _ => ev2x15
  | n + 16, h => absurd h (by omega)
theorem good2 (t : Int) (h0 : 0 ≤ t) (h1 : t < 16) (sa : Addr) : ∃ loc' hp', lawF 906 ⟨2, 16, t⟩ sa (some (.st sa) :: List.replicate 24 none) ⟨.nil, 0⟩ = some (.ret (.bool true), loc', hp') := by
  obtain ⟨n, rfl⟩ : ∃ n : Nat, t = n := ⟨t.toNat, by omega⟩
  rw [lawF_eq, preR2]
  exact goodV_inv (evs2 n (by omega) sa)
theorem evs3 : ∀ n : Nat, n < 20 → ∀ sa, goodV (lawB 906 ⟨3, 20, (n : Int)⟩ sa (loR3 sa) hpR3) = true
  | 0, _ => ev3x0
  | 1, _ => ev3x1
  | 2, _ => ev3x2
  | 3, _ => ev3x3
  | 4, _ => ev3x4
  | 5, _ => ev3x5
  | 6, _ => ev3x6
  | 7, _ => ev3x7
  | 8, _ => ev3x8
  | 9, _ => ev3x9
  | 10, _ => ev3x10
  | 11, _ => ev3x11
  | 12, _ => ev3x12
  | 13, _ => ev3x13
  | 14, _ => ev3x14
  | 15, _ => ev3x15
  | 16, _ => ev3x16
  | 17, _ => ev3x17
  | 18, _ => ev3x18
  | 19, _ => ev3x19
  | n + 20, h => absurd h (by omega)
theorem good3 (t : Int) (h0 : 0 ≤ t) (h1 : t < 20) (sa : Addr) : ∃ loc' hp', lawF 906 ⟨3, 20, t⟩ sa (some (.st sa) :: List.replicate 24 none) ⟨.nil, 0⟩ = some (.ret (.bool true), loc', hp') := by
  obtain ⟨n, rfl⟩ : ∃ n : Nat, t = n := ⟨t.toNat, by omega⟩
  rw [lawF_eq, preR3]
  exact goodV_inv (evs3 n (by omega) sa)
theorem evs4 : ∀ n : Nat, n < 24 → ∀ sa, goodV (lawB 906 ⟨4, 24, (n : Int)⟩ sa (loR4 sa) hpR4) = true
  | 0, _ => ev4x0
  | 1, _ => ev4x1
  | 2, _ => ev4x2
  | 3, _ => ev4x3
  | 4, _ => ev4x4
  | 5, _ => ev4x5
  | 6, _ => ev4x6
  | 7, _ => ev4x7
  | 8, _ => ev4x8
  | 9, _ => ev4x9
  | 10, _ => ev4x10
  | 11, _ => ev4x11
  | 12, _ => ev4x12
  | 13, _ => ev4x13
  | 14, _ => ev4x14
  | 15, _ => ev4x15
  | 16, _ => ev4x16
  | 17, _ => ev4x17
  | 18, _ => ev4x18
  | 19, _ => ev4x19
  | 20, _ => ev4x20
  | 21, _ => ev4x21
  | 22, _ => ev4x22
  | 23, _ => ev4x23
  | n + 24, h => absurd h (by omega)
theorem good4 (t : Int) (h0 : 0 ≤ t) (h1 : t < 24) (sa : Addr) : ∃ loc' hp', lawF 906 ⟨4, 24, t⟩ sa (some (.st sa) :: List.replicate 24 none) ⟨.nil, 0⟩ = some (.ret (.bool true), loc', hp') := by
  obtain ⟨n, rfl⟩ : ∃ n : Nat, t = n := ⟨t.toNat, by omega⟩
  rw [lawF_eq, preR4]
  exact goodV_inv (evs4 n (by omega) sa)
theorem allGood : AllGood := by
  intro r h0 h1 t h2 h3 sa
  have hr : r = 0 ∨ r = 1 ∨ r = 2 ∨ r = 3 ∨ r = 4 := by omega
  rcases hr with rfl | rfl | rfl | rfl | rfl
  · rw [show Nof 0 = 24 from by decide] at h3 ⊢; exact good0 t h2 h3 sa
  · rw [show Nof 1 = 12 from by decide] at h3 ⊢; exact good1 t h2 h3 sa
  · rw [show Nof 2 = 16 from by decide] at h3 ⊢; exact good2 t h2 h3 sa
  · rw [show Nof 3 = 20 from by decide] at h3 ⊢; exact good3 t h2 h3 sa
  · rw [show Nof 4 = 24 from by decide] at h3 ⊢; exact good4 t h2 h3 sa
end
end Mine
end
theorem PySem.Challenge.cw_ah5017_01_holds : PySem.Challenge.rw_ah5017_01.Holds :=
  Mine.law_holds Mine.allGood
