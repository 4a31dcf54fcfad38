import PyProof.Rows.All
import Wide.All
import OpenK.AllK
import Wide.FinOn
import Lean
import PySem.Challenge.RW_mq0369_01
set_option Elab.async false
section
open PySem PySem.W PyProof.Rows
set_option maxRecDepth 100000
set_option maxHeartbeats 0
namespace Mine
noncomputable def topRunT (stp : SharedT → Thread → Option (SharedT × Thread)) (ok : Thread → Bool) : Nat → SharedT → Thread → Option SharedT
  | 0, _, _ => none
  | n + 1, s, t => match through t with
    | true => some s
    | false => match ok t with
      | false => none
      | true => match stp s t with
        | some (s', t') => topRunT stp ok n s' t'
        | none => none
theorem topRun_of {tb : String → Option Builtin} {p : Program} {w : World} {n₀ : Nat} {ann : Option Value} : ∀ {n : Nat} {s s' : SharedT} {t : Thread},
    topRunT (stepT (denote tb) p w) (stepOk n₀ ann) n s t = some s' → topRun tb p w n₀ ann n s.abs t = some s'.abs
  | 0, _, _, _, h => by cases h
  | n + 1, s, s', t, h => by
    unfold topRunT at h
    unfold topRun
    cases ht : through t with
    | true => rw [ht] at h; cases h; rfl
    | false =>
      rw [ht] at h
      cases hk : stepOk n₀ ann t with
      | false => rw [hk] at h; cases h
      | true =>
        rw [hk] at h
        cases hs : stepT (denote tb) p w s t with
        | none => rw [hs] at h; cases h
        | some r => obtain ⟨s₂, t₂⟩ := r; rw [hs] at h; rw [stepT_spec hs]; exact topRun_of h
noncomputable def treeGo : List Obj → Nat → BT → Option BT
  | [], _, t => some t
  | o :: r, n, t => match (t.ins n o).get n with
    | some _ => treeGo r (n + 1) (t.ins n o)
    | none => none
theorem treeGo_abs {life : Life} : ∀ (l : List Obj) (n : Nat) (t t' : BT) (h : Heap), treeGo l n t = some t' → absHeap t n life = h → absHeap t' (n + l.length) life = l.foldl (fun h o => h.push o) h
  | [], n, t, t', h, e, ha => by cases e; exact ha
  | o :: r, n, t, t', h, e, ha => by
    unfold treeGo at e
    split at e
    · rename_i x hx
      have := treeGo_abs r (n + 1) _ t' (h.push o) e (by rw [absHeap_ins (by rw [hx]; rfl), ha])
      rw [List.length_cons, show n + (r.length + 1) = n + 1 + r.length by omega]
      exact this
    · cases e
theorem push_all {life : Life} : ∀ (l pre : List Obj), l.foldl (fun h o => h.push o) (⟨pre.toArray, life⟩ : Heap) = ⟨(pre ++ l).toArray, life⟩
  | [], pre => by simp
  | o :: r, pre => by
    rw [List.foldl_cons]
    have : (⟨pre.toArray, life⟩ : Heap).push o = ⟨(pre ++ [o]).toArray, life⟩ := by
      unfold Heap.push
      simp
    rw [this, push_all r (pre ++ [o])]
    simp
theorem treeGo_heap {h : Heap} {T : BT} (e : treeGo h.objs.toList 0 .nil = some T) : absHeap T h.objs.size h.life = h := by
  have := treeGo_abs (life := h.life) h.objs.toList 0 .nil T ⟨#[], h.life⟩ e rfl
  rw [show (⟨#[], h.life⟩ : Heap) = ⟨([] : List Obj).toArray, h.life⟩ from rfl, push_all] at this
  simpa using this
noncomputable def chk {X : Type} (stp : SharedT → Thread → Option (SharedT × Thread)) (ok : Nat → Option Value → Thread → Bool) (ns : Heap → Addr → Str → Option Value) (p : Program) (N : Nat) (mods : List Str) (obs : Shared → X) (s₀ : Shared) : Option X :=
  match s₀.heap.isNs mainGlobals && s₀.gens.size == 0 with
  | true => match treeGo s₀.heap.objs.toList 0 .nil with
    | some T => match topRunT stp (ok s₀.heap.objs.size (ns s₀.heap mainGlobals "__annotations__")) N ⟨T, s₀.heap.objs.size, s₀.heap.life, s₀.gens, s₀.drawn, s₀.toks, s₀.os⟩ (topStub p) with
      | some S => match staticsOk mods s₀.heap S.abs.heap && namesBound p S.abs.heap && gensDone S.abs && laidKept s₀.heap S.abs.heap with
        | true => some (obs S.abs)
        | false => none
      | none => none
    | none => none
  | false => none
theorem chk_of {X : Type} {p : Program} {w : World} {N : Nat} {obs : Shared → X} {s₀ : Shared} {x : X} (h : chk (stepT (denote treeTable) p w) stepOk Heap.nsMap p N (importedModules p.main.body) obs s₀ = some x) :
    (topFrom treeTable p w N s₀).map obs = some x := by
  unfold chk at h
  unfold topFrom
  split at h
  · rename_i h1
    rw [h1]
    split at h
    · rename_i T hT
      split at h
      · rename_i S hS
        have e : (SharedT.abs ⟨T, s₀.heap.objs.size, s₀.heap.life, s₀.gens, s₀.drawn, s₀.toks, s₀.os⟩) = s₀ := by
          unfold SharedT.abs
          dsimp only
          rw [treeGo_heap hT]
        have r := topRun_of hS
        rw [e] at r
        dsimp only
        rw [r]
        show Option.map obs (match (staticsOk (importedModules p.main.body) s₀.heap S.abs.heap && namesBound p S.abs.heap && gensDone S.abs && laidKept s₀.heap S.abs.heap) with | true => some S.abs | false => none) = some x
        split at h
        · exact h
        · cases h
      · cases h
    · cases h
  · cases h
noncomputable def chk0 {X : Type} (stp : SharedT → Thread → Option (SharedT × Thread)) (ok : Nat → Option Value → Thread → Bool) (ns : Heap → Addr → Str → Option Value) (p : Program) (N : Nat) (obs : Shared → X) (s₀ : Shared) : Option X :=
  match s₀.heap.isNs mainGlobals && s₀.gens.size == 0 with
  | true => match treeGo s₀.heap.objs.toList 0 .nil with
    | some T => match topRunT stp (ok s₀.heap.objs.size (ns s₀.heap mainGlobals "__annotations__")) N ⟨T, s₀.heap.objs.size, s₀.heap.life, s₀.gens, s₀.drawn, s₀.toks, s₀.os⟩ (topStub p) with
      | some S => some (obs S.abs)
      | none => none
    | none => none
  | false => none
theorem chk_pair {X Y : Type} {stp : SharedT → Thread → Option (SharedT × Thread)} {ok : Nat → Option Value → Thread → Bool} {ns : Heap → Addr → Str → Option Value} {p : Program} {N : Nat} {mods : List Str} {o1 : Shared → X} {o2 : Shared → Y} {s₀ : Shared} {a : X} {b : Y}
    (h1 : chk stp ok ns p N mods o1 s₀ = some a) (h2 : chk0 stp ok ns p N o2 s₀ = some b) : chk stp ok ns p N mods (fun s => (o1 s, o2 s)) s₀ = some (a, b) := by
  unfold chk at h1 ⊢
  unfold chk0 at h2
  split at h1
  · rename_i e1
    rw [e1] at h2
    split at h1
    · rename_i T hT
      rw [hT] at h2
      split at h1
      · rename_i S hS
        dsimp only at h2
        rw [hS] at h2
        split at h1
        · dsimp only at h2 ⊢
          rw [Option.some.inj h1, Option.some.inj h2]
        · cases h1
      · cases h1
    · cases h1
  · cases h1
theorem bind_pair {X Y : Type} {stp : SharedT → Thread → Option (SharedT × Thread)} {ok : Nat → Option Value → Thread → Bool} {ns : Heap → Addr → Str → Option Value} {p : Program} {N : Nat} {mods : List Str} {o1 : Shared → X} {o2 : Shared → Y} {o : Option Shared} {a : X} {b : Y}
    (h1 : o.bind (chk stp ok ns p N mods o1) = some a) (h2 : o.bind (chk0 stp ok ns p N o2) = some b) : o.bind (chk stp ok ns p N mods fun s => (o1 s, o2 s)) = some (a, b) := by
  cases o with
  | none => cases h1
  | some s₀ => exact chk_pair h1 h2
theorem left_of {p q : Program} {loose : List Str} {Xt : Shared → Bool} {α : Type} {Yf : Shared → α} {Ya : World → α} {N : Nat}
    (h : ∀ w : World, (fencedOpening treeTable p w N).bind (chk (stepT (denote treeTable) p w) stepOk Heap.nsMap p N (importedModules p.main.body) (fun s => (openSeen q loose (importedModules p.main.body) Xt true s, Yf s))) = some (openGood q loose, Ya w)) :
    LeftO p q loose Xt Yf Ya N := fun w => by
  obtain ⟨s₀, a, b⟩ := Option.bind_eq_some_iff.mp (h w)
  unfold openEnds
  rw [a]
  exact chk_of b
end Mine
end
section
open PySem PySem.W PyProof.Rows
set_option maxRecDepth 100000
set_option maxHeartbeats 0
namespace Mine
def stAt (l : List Stmt) (n : Nat) : Stmt := (l[n]?).getD default
def bodyOf : Stmt → List Stmt
  | .FunctionDef _ _ b _ _ _ _ _ _ _ => b
  | .ClassDef _ _ _ b _ _ _ _ _ _ _ => b
  | _ => []
def parsOf : Stmt → Arguments
  | .FunctionDef _ a _ _ _ _ _ _ _ _ => a
  | _ => default
def scopOf : Stmt → Scope
  | .FunctionDef _ _ _ _ _ _ s _ _ _ => s
  | _ => default
noncomputable abbrev b44 : List Stmt := by
  refine (?f : (l : List Stmt) → bodyOf (stAt PySem.Challenge.pw_mq0369_01.main.body 2) = l → List Stmt) _ (by conv => lhs; whnf)
  exact fun l _ => l
noncomputable abbrev p44 : Arguments := by
  refine (?f : (l : Arguments) → parsOf (stAt PySem.Challenge.pw_mq0369_01.main.body 2) = l → Arguments) _ (by conv => lhs; whnf)
  exact fun l _ => l
noncomputable abbrev s44 : Scope := by
  refine (?f : (l : Scope) → scopOf (stAt PySem.Challenge.pw_mq0369_01.main.body 2) = l → Scope) _ (by conv => lhs; whnf)
  exact fun l _ => l
noncomputable abbrev b58 : List Stmt := by
  refine (?f : (l : List Stmt) → bodyOf (stAt PySem.Challenge.pw_mq0369_01.main.body 5) = l → List Stmt) _ (by conv => lhs; whnf)
  exact fun l _ => l
noncomputable abbrev p58 : Arguments := by
  refine (?f : (l : Arguments) → parsOf (stAt PySem.Challenge.pw_mq0369_01.main.body 5) = l → Arguments) _ (by conv => lhs; whnf)
  exact fun l _ => l
noncomputable abbrev s58 : Scope := by
  refine (?f : (l : Scope) → scopOf (stAt PySem.Challenge.pw_mq0369_01.main.body 5) = l → Scope) _ (by conv => lhs; whnf)
  exact fun l _ => l
noncomputable abbrev b85 : List Stmt := by
  refine (?f : (l : List Stmt) → bodyOf (stAt (bodyOf (stAt PySem.Challenge.pw_mq0369_01.main.body 7)) 1) = l → List Stmt) _ (by conv => lhs; whnf)
  exact fun l _ => l
noncomputable abbrev p85 : Arguments := by
  refine (?f : (l : Arguments) → parsOf (stAt (bodyOf (stAt PySem.Challenge.pw_mq0369_01.main.body 7)) 1) = l → Arguments) _ (by conv => lhs; whnf)
  exact fun l _ => l
noncomputable abbrev s85 : Scope := by
  refine (?f : (l : Scope) → scopOf (stAt (bodyOf (stAt PySem.Challenge.pw_mq0369_01.main.body 7)) 1) = l → Scope) _ (by conv => lhs; whnf)
  exact fun l _ => l
noncomputable abbrev b362 : List Stmt := by
  refine (?f : (l : List Stmt) → bodyOf (stAt (bodyOf (stAt PySem.Challenge.pw_mq0369_01.main.body 11)) 1) = l → List Stmt) _ (by conv => lhs; whnf)
  exact fun l _ => l
noncomputable abbrev p362 : Arguments := by
  refine (?f : (l : Arguments) → parsOf (stAt (bodyOf (stAt PySem.Challenge.pw_mq0369_01.main.body 11)) 1) = l → Arguments) _ (by conv => lhs; whnf)
  exact fun l _ => l
noncomputable abbrev s362 : Scope := by
  refine (?f : (l : Scope) → scopOf (stAt (bodyOf (stAt PySem.Challenge.pw_mq0369_01.main.body 11)) 1) = l → Scope) _ (by conv => lhs; whnf)
  exact fun l _ => l
noncomputable abbrev b369 : List Stmt := by
  refine (?f : (l : List Stmt) → bodyOf (stAt (bodyOf (stAt PySem.Challenge.pw_mq0369_01.main.body 11)) 2) = l → List Stmt) _ (by conv => lhs; whnf)
  exact fun l _ => l
noncomputable abbrev p369 : Arguments := by
  refine (?f : (l : Arguments) → parsOf (stAt (bodyOf (stAt PySem.Challenge.pw_mq0369_01.main.body 11)) 2) = l → Arguments) _ (by conv => lhs; whnf)
  exact fun l _ => l
noncomputable abbrev s369 : Scope := by
  refine (?f : (l : Scope) → scopOf (stAt (bodyOf (stAt PySem.Challenge.pw_mq0369_01.main.body 11)) 2) = l → Scope) _ (by conv => lhs; whnf)
  exact fun l _ => l
noncomputable abbrev b376 : List Stmt := by
  refine (?f : (l : List Stmt) → bodyOf (stAt (bodyOf (stAt PySem.Challenge.pw_mq0369_01.main.body 11)) 3) = l → List Stmt) _ (by conv => lhs; whnf)
  exact fun l _ => l
noncomputable abbrev p376 : Arguments := by
  refine (?f : (l : Arguments) → parsOf (stAt (bodyOf (stAt PySem.Challenge.pw_mq0369_01.main.body 11)) 3) = l → Arguments) _ (by conv => lhs; whnf)
  exact fun l _ => l
noncomputable abbrev s376 : Scope := by
  refine (?f : (l : Scope) → scopOf (stAt (bodyOf (stAt PySem.Challenge.pw_mq0369_01.main.body 11)) 3) = l → Scope) _ (by conv => lhs; whnf)
  exact fun l _ => l
noncomputable abbrev b538 : List Stmt := by
  refine (?f : (l : List Stmt) → bodyOf (stAt (bodyOf (stAt PySem.Challenge.pw_mq0369_01.main.body 11)) 25) = l → List Stmt) _ (by conv => lhs; whnf)
  exact fun l _ => l
noncomputable abbrev p538 : Arguments := by
  refine (?f : (l : Arguments) → parsOf (stAt (bodyOf (stAt PySem.Challenge.pw_mq0369_01.main.body 11)) 25) = l → Arguments) _ (by conv => lhs; whnf)
  exact fun l _ => l
noncomputable abbrev s538 : Scope := by
  refine (?f : (l : Scope) → scopOf (stAt (bodyOf (stAt PySem.Challenge.pw_mq0369_01.main.body 11)) 25) = l → Scope) _ (by conv => lhs; whnf)
  exact fun l _ => l
noncomputable abbrev b651 : List Stmt := by
  refine (?f : (l : List Stmt) → bodyOf (stAt (bodyOf (stAt PySem.Challenge.pw_mq0369_01.main.body 20)) 0) = l → List Stmt) _ (by conv => lhs; whnf)
  exact fun l _ => l
noncomputable abbrev p651 : Arguments := by
  refine (?f : (l : Arguments) → parsOf (stAt (bodyOf (stAt PySem.Challenge.pw_mq0369_01.main.body 20)) 0) = l → Arguments) _ (by conv => lhs; whnf)
  exact fun l _ => l
noncomputable abbrev s651 : Scope := by
  refine (?f : (l : Scope) → scopOf (stAt (bodyOf (stAt PySem.Challenge.pw_mq0369_01.main.body 20)) 0) = l → Scope) _ (by conv => lhs; whnf)
  exact fun l _ => l
noncomputable abbrev b658 : List Stmt := by
  refine (?f : (l : List Stmt) → bodyOf (stAt (bodyOf (stAt PySem.Challenge.pw_mq0369_01.main.body 20)) 1) = l → List Stmt) _ (by conv => lhs; whnf)
  exact fun l _ => l
noncomputable abbrev p658 : Arguments := by
  refine (?f : (l : Arguments) → parsOf (stAt (bodyOf (stAt PySem.Challenge.pw_mq0369_01.main.body 20)) 1) = l → Arguments) _ (by conv => lhs; whnf)
  exact fun l _ => l
noncomputable abbrev s658 : Scope := by
  refine (?f : (l : Scope) → scopOf (stAt (bodyOf (stAt PySem.Challenge.pw_mq0369_01.main.body 20)) 1) = l → Scope) _ (by conv => lhs; whnf)
  exact fun l _ => l
noncomputable abbrev b688 : List Stmt := by
  refine (?f : (l : List Stmt) → bodyOf (stAt (bodyOf (stAt PySem.Challenge.pw_mq0369_01.main.body 20)) 5) = l → List Stmt) _ (by conv => lhs; whnf)
  exact fun l _ => l
noncomputable abbrev p688 : Arguments := by
  refine (?f : (l : Arguments) → parsOf (stAt (bodyOf (stAt PySem.Challenge.pw_mq0369_01.main.body 20)) 5) = l → Arguments) _ (by conv => lhs; whnf)
  exact fun l _ => l
noncomputable abbrev s688 : Scope := by
  refine (?f : (l : Scope) → scopOf (stAt (bodyOf (stAt PySem.Challenge.pw_mq0369_01.main.body 20)) 5) = l → Scope) _ (by conv => lhs; whnf)
  exact fun l _ => l
noncomputable abbrev b695 : List Stmt := by
  refine (?f : (l : List Stmt) → bodyOf (stAt (bodyOf (stAt PySem.Challenge.pw_mq0369_01.main.body 20)) 6) = l → List Stmt) _ (by conv => lhs; whnf)
  exact fun l _ => l
noncomputable abbrev p695 : Arguments := by
  refine (?f : (l : Arguments) → parsOf (stAt (bodyOf (stAt PySem.Challenge.pw_mq0369_01.main.body 20)) 6) = l → Arguments) _ (by conv => lhs; whnf)
  exact fun l _ => l
noncomputable abbrev s695 : Scope := by
  refine (?f : (l : Scope) → scopOf (stAt (bodyOf (stAt PySem.Challenge.pw_mq0369_01.main.body 20)) 6) = l → Scope) _ (by conv => lhs; whnf)
  exact fun l _ => l
noncomputable abbrev b717 : List Stmt := by
  refine (?f : (l : List Stmt) → bodyOf (stAt (bodyOf (stAt PySem.Challenge.pw_mq0369_01.main.body 20)) 9) = l → List Stmt) _ (by conv => lhs; whnf)
  exact fun l _ => l
noncomputable abbrev p717 : Arguments := by
  refine (?f : (l : Arguments) → parsOf (stAt (bodyOf (stAt PySem.Challenge.pw_mq0369_01.main.body 20)) 9) = l → Arguments) _ (by conv => lhs; whnf)
  exact fun l _ => l
noncomputable abbrev s717 : Scope := by
  refine (?f : (l : Scope) → scopOf (stAt (bodyOf (stAt PySem.Challenge.pw_mq0369_01.main.body 20)) 9) = l → Scope) _ (by conv => lhs; whnf)
  exact fun l _ => l
noncomputable abbrev b724 : List Stmt := by
  refine (?f : (l : List Stmt) → bodyOf (stAt (bodyOf (stAt PySem.Challenge.pw_mq0369_01.main.body 20)) 10) = l → List Stmt) _ (by conv => lhs; whnf)
  exact fun l _ => l
noncomputable abbrev p724 : Arguments := by
  refine (?f : (l : Arguments) → parsOf (stAt (bodyOf (stAt PySem.Challenge.pw_mq0369_01.main.body 20)) 10) = l → Arguments) _ (by conv => lhs; whnf)
  exact fun l _ => l
noncomputable abbrev s724 : Scope := by
  refine (?f : (l : Scope) → scopOf (stAt (bodyOf (stAt PySem.Challenge.pw_mq0369_01.main.body 20)) 10) = l → Scope) _ (by conv => lhs; whnf)
  exact fun l _ => l
noncomputable abbrev b739 : List Stmt := by
  refine (?f : (l : List Stmt) → bodyOf (stAt PySem.Challenge.pw_mq0369_01.main.body 21) = l → List Stmt) _ (by conv => lhs; whnf)
  exact fun l _ => l
noncomputable abbrev p739 : Arguments := by
  refine (?f : (l : Arguments) → parsOf (stAt PySem.Challenge.pw_mq0369_01.main.body 21) = l → Arguments) _ (by conv => lhs; whnf)
  exact fun l _ => l
noncomputable abbrev s739 : Scope := by
  refine (?f : (l : Scope) → scopOf (stAt PySem.Challenge.pw_mq0369_01.main.body 21) = l → Scope) _ (by conv => lhs; whnf)
  exact fun l _ => l
noncomputable abbrev b752 : List Stmt := by
  refine (?f : (l : List Stmt) → bodyOf (stAt PySem.Challenge.pw_mq0369_01.main.body 24) = l → List Stmt) _ (by conv => lhs; whnf)
  exact fun l _ => l
noncomputable abbrev p752 : Arguments := by
  refine (?f : (l : Arguments) → parsOf (stAt PySem.Challenge.pw_mq0369_01.main.body 24) = l → Arguments) _ (by conv => lhs; whnf)
  exact fun l _ => l
noncomputable abbrev s752 : Scope := by
  refine (?f : (l : Scope) → scopOf (stAt PySem.Challenge.pw_mq0369_01.main.body 24) = l → Scope) _ (by conv => lhs; whnf)
  exact fun l _ => l
noncomputable abbrev b759 : List Stmt := by
  refine (?f : (l : List Stmt) → bodyOf (stAt PySem.Challenge.pw_mq0369_01.main.body 26) = l → List Stmt) _ (by conv => lhs; whnf)
  exact fun l _ => l
noncomputable abbrev p759 : Arguments := by
  refine (?f : (l : Arguments) → parsOf (stAt PySem.Challenge.pw_mq0369_01.main.body 26) = l → Arguments) _ (by conv => lhs; whnf)
  exact fun l _ => l
noncomputable abbrev s759 : Scope := by
  refine (?f : (l : Scope) → scopOf (stAt PySem.Challenge.pw_mq0369_01.main.body 26) = l → Scope) _ (by conv => lhs; whnf)
  exact fun l _ => l
noncomputable abbrev b764 : List Stmt := by
  refine (?f : (l : List Stmt) → bodyOf (stAt PySem.Challenge.pw_mq0369_01.main.body 27) = l → List Stmt) _ (by conv => lhs; whnf)
  exact fun l _ => l
noncomputable abbrev p764 : Arguments := by
  refine (?f : (l : Arguments) → parsOf (stAt PySem.Challenge.pw_mq0369_01.main.body 27) = l → Arguments) _ (by conv => lhs; whnf)
  exact fun l _ => l
noncomputable abbrev s764 : Scope := by
  refine (?f : (l : Scope) → scopOf (stAt PySem.Challenge.pw_mq0369_01.main.body 27) = l → Scope) _ (by conv => lhs; whnf)
  exact fun l _ => l
noncomputable abbrev b771 : List Stmt := by
  refine (?f : (l : List Stmt) → bodyOf (stAt PySem.Challenge.pw_mq0369_01.main.body 28) = l → List Stmt) _ (by conv => lhs; whnf)
  exact fun l _ => l
noncomputable abbrev p771 : Arguments := by
  refine (?f : (l : Arguments) → parsOf (stAt PySem.Challenge.pw_mq0369_01.main.body 28) = l → Arguments) _ (by conv => lhs; whnf)
  exact fun l _ => l
noncomputable abbrev s771 : Scope := by
  refine (?f : (l : Scope) → scopOf (stAt PySem.Challenge.pw_mq0369_01.main.body 28) = l → Scope) _ (by conv => lhs; whnf)
  exact fun l _ => l
noncomputable abbrev b778 : List Stmt := by
  refine (?f : (l : List Stmt) → bodyOf (stAt PySem.Challenge.pw_mq0369_01.main.body 29) = l → List Stmt) _ (by conv => lhs; whnf)
  exact fun l _ => l
noncomputable abbrev p778 : Arguments := by
  refine (?f : (l : Arguments) → parsOf (stAt PySem.Challenge.pw_mq0369_01.main.body 29) = l → Arguments) _ (by conv => lhs; whnf)
  exact fun l _ => l
noncomputable abbrev s778 : Scope := by
  refine (?f : (l : Scope) → scopOf (stAt PySem.Challenge.pw_mq0369_01.main.body 29) = l → Scope) _ (by conv => lhs; whnf)
  exact fun l _ => l
noncomputable def K0 : Params → Frag := fun P =>
  (nat_lit 2, { cls := Value.none, data := Data.dict #[{ hash := PyData.keyHash P (Str.ofString "\x69mport.loaded._sre"), key := Value.str (Str.ofString "\x69mport.loaded._sre") 183, val := Value.bool true }, { hash := PyData.keyHash P (Str.ofString "class._frozen_importlib.BuiltinImporter"), key := Value.str (Str.ofString "class._frozen_importlib.BuiltinImporter") 185, val := Value.ref 14 }, { hash := PyData.keyHash P (Str.ofString "watched.\x69mport"), key := Value.str (Str.ofString "watched.\x69mport") 206, val := Value.ref 18 }, { hash := PyData.keyHash P (Str.ofString "class._frozen_importlib.ModuleSpec"), key := Value.str (Str.ofString "class._frozen_importlib.ModuleSpec") 216, val := Value.ref 22 }, { hash := PyData.keyHash P (Str.ofString "sys.modules.booked-epoch"), key := Value.str (Str.ofString "sys.modules.booked-epoch") 245, val := Value.int 4 0 }, { hash := PyData.keyHash P (Str.ofString "\x69mport.later-laid._sre"), key := Value.str (Str.ofString "\x69mport.later-laid._sre") 270, val := Value.bool true }, { hash := PyData.keyHash P (Str.ofString "watched.library"), key := Value.str (Str.ofString "watched.library") 272, val := Value.ref 27 }, { hash := PyData.keyHash P (Str.ofString "watched.library-objects"), key := Value.str (Str.ofString "watched.library-objects") 0, val := Value.str (Str.ofString "\x0c\x1e") 0 }, { hash := PyData.keyHash P (Str.ofString "watched.library-deep._sre"), key := Value.str (Str.ofString "watched.library-deep._sre") 273, val := Value.str (Str.ofString "\x04\x00\x00\x0b\x04\x00\x00\x0b\x04\x00\x00\x03\x04\x00\x00\x0b\x08\x04dict\x02") 0 }, { hash := PyData.keyHash P (Str.ofString "\x69mport.loaded._collections"), key := Value.str (Str.ofString "\x69mport.loaded._collections") 280, val := Value.bool true }, { hash := PyData.keyHash P (Str.ofString "sys.modules.landed._collections"), key := Value.str (Str.ofString "sys.modules.landed._collections") 294, val := Value.bool true }, { hash := PyData.keyHash P (Str.ofString "\x69mport.later-laid._collections"), key := Value.str (Str.ofString "\x69mport.later-laid._collections") 309, val := Value.bool true }, { hash := PyData.keyHash P (Str.ofString "watched.library-deep._collections"), key := Value.str (Str.ofString "watched.library-deep._collections") 311, val := Value.str (Str.ofString "\x04\x00\x00\x1d\x04\x00\x00\x1d\x04\x00\x00\x03\x04\x00\x00\x1d\x08\x04dict\x02") 0 }, { hash := PyData.keyHash P (Str.ofString "type.__subclasses__.OSError.0"), key := Value.str (Str.ofString "type.__subclasses__.OSError.0") 367, val := Value.int 68 0 }, { hash := PyData.keyHash P (Str.ofString "type.__subclasses__.OSError.n"), key := Value.str (Str.ofString "type.__subclasses__.OSError.n") 368, val := Value.int 1 0 }] 15 }) ::
  (nat_lit 3, { cls := Value.type "dict", data := Data.dict #[{ hash := PyData.keyHash P (Str.ofString "__name__"), key := Value.str (Str.ofString "__name__") 165, val := Value.str (Str.ofString "law_mq0369_01") 1243 }, { hash := PyData.keyHash P (Str.ofString "__doc__"), key := Value.str (Str.ofString "__doc__") 166, val := Value.none }, { hash := PyData.keyHash P (Str.ofString "__package__"), key := Value.str (Str.ofString "__package__") 167, val := Value.none }, { hash := PyData.keyHash P (Str.ofString "__loader__"), key := Value.str (Str.ofString "__loader__") 168, val := Value.builtin "__main__.__loader__#opaque" }, { hash := PyData.keyHash P (Str.ofString "__spec__"), key := Value.str (Str.ofString "__spec__") 169, val := Value.none }, { hash := PyData.keyHash P (Str.ofString "__annotations__"), key := Value.str (Str.ofString "__annotations__") 170, val := Value.ref 6 }, { hash := PyData.keyHash P (Str.ofString "__builtins__"), key := Value.str (Str.ofString "__builtins__") 171, val := Value.ref 4 }, { hash := PyData.keyHash P (Str.ofString "__file__"), key := Value.str (Str.ofString "__file__") 173, val := Value.str (Str.ofString "/claim/cut.py") 172 }, { hash := PyData.keyHash P (Str.ofString "__cached__"), key := Value.str (Str.ofString "__cached__") 174, val := Value.none }, { hash := PyData.keyHash P (Str.ofString "_sre"), key := Value.str (Str.ofString "_sre") 275, val := Value.ref 12 }, { hash := PyData.keyHash P (Str.ofString "deque"), key := Value.str (Str.ofString "deque") 317, val := Value.type "collections.deque" }, { hash := PyData.keyHash P (Str.ofString "_wall"), key := Value.str (Str.ofString "_wall") 330, val := Value.ref 44 }, { hash := PyData.keyHash P (Str.ofString "_whence"), key := Value.str (Str.ofString "_whence") 340, val := Value.ref 51 }, { hash := PyData.keyHash P (Str.ofString "_index"), key := Value.str (Str.ofString "_index") 348, val := Value.ref 58 }, { hash := PyData.keyHash P (Str.ofString "UnsupportedOperation"), key := Value.str (Str.ofString "UnsupportedOperation") 370, val := Value.ref 68 }, { hash := PyData.keyHash P (Str.ofString "IOBase"), key := Value.str (Str.ofString "IOBase") 402, val := Value.ref 88 }, { hash := PyData.keyHash P (Str.ofString "BufferedIOBase"), key := Value.str (Str.ofString "BufferedIOBase") 420, val := Value.ref 103 }, { hash := PyData.keyHash P (Str.ofString "TextIOBase"), key := Value.str (Str.ofString "TextIOBase") 438, val := Value.ref 115 }, { hash := PyData.keyHash P (Str.ofString "BytesIO"), key := Value.str (Str.ofString "BytesIO") 700, val := Value.ref 345 }, { hash := PyData.keyHash P (Str.ofString "StringIO"), key := Value.str (Str.ofString "StringIO") 987, val := Value.ref 592 }, { hash := PyData.keyHash P (Str.ofString "_kind"), key := Value.str (Str.ofString "_kind") 998, val := Value.ref 601 }, { hash := PyData.keyHash P (Str.ofString "_fspath"), key := Value.str (Str.ofString "_fspath") 1007, val := Value.ref 608 }, { hash := PyData.keyHash P (Str.ofString "_check_arg_types"), key := Value.str (Str.ofString "_check_arg_types") 1017, val := Value.ref 615 }, { hash := PyData.keyHash P (Str.ofString "isabs"), key := Value.str (Str.ofString "isabs") 1024, val := Value.ref 622 }, { hash := PyData.keyHash P (Str.ofString "join"), key := Value.str (Str.ofString "join") 1035, val := Value.ref 629 }, { hash := PyData.keyHash P (Str.ofString "dirname"), key := Value.str (Str.ofString "dirname") 1045, val := Value.ref 636 }, { hash := PyData.keyHash P (Str.ofString "shlex"), key := Value.str (Str.ofString "shlex") 1186, val := Value.ref 727 }, { hash := PyData.keyHash P (Str.ofString "split"), key := Value.str (Str.ofString "split") 1196, val := Value.ref 739 }, { hash := PyData.keyHash P (Str.ofString "tspecials"), key := Value.str (Str.ofString "tspecials") 1232, val := Value.ref 744 }, { hash := PyData.keyHash P (Str.ofString "_formatparam"), key := Value.str (Str.ofString "_formatparam") 1242, val := Value.ref 752 }, { hash := PyData.keyHash P (Str.ofString "_law_value"), key := Value.str (Str.ofString "_law_value") 1255, val := Value.ref 759 }, { hash := PyData.keyHash P (Str.ofString "_law_rows"), key := Value.str (Str.ofString "_law_rows") 1261, val := Value.ref 764 }, { hash := PyData.keyHash P (Str.ofString "_law_read"), key := Value.str (Str.ofString "_law_read") 1269, val := Value.ref 771 }, { hash := PyData.keyHash P (Str.ofString "law"), key := Value.str (Str.ofString "law") 1282, val := Value.ref 778 }] 34 }) ::
  (nat_lit 38, { cls := Value.type "tuple", data := Data.seq #[] }) ::
  (nat_lit 40, { cls := Value.type "tuple", data := Data.seq #[Value.str (Str.ofString "k") 327] }) ::
  (nat_lit 41, { cls := Value.type "tuple", data := Data.seq #[] }) ::
  (nat_lit 43, { cls := Value.type "code", data := Data.fields #[Value.str (Str.ofString "_wall") 324, Value.str (Str.ofString "_wall") 325, Value.str (Str.ofString "/claim/cut.py") 326, Value.int 3 0, Value.int 1 0, Value.int 0 0, Value.int 0 0, Value.int 3 0, Value.ref 38, Value.bool true, Value.int 318 0, Value.ref 39, Value.none, Value.ref 40, Value.ref 41, Value.ref 42, Value.int 328 0, Value.int 3 0, Value.str (Str.ofString "/claim/cut.py") 329] }) ::
  (nat_lit 44, { cls := Value.type "function", data := Data.func { name := Str.ofString "_wall", qualname := Str.ofString "_wall", params := p44, body := FuncBody.stmts b44, scope := s44, globals := 3, closure := [], defaults := Value.none, kwdefaults := Value.none, pyModule := Value.str (Str.ofString "__main__") 164, code := Value.ref 43 } }) ::
  (nat_lit 52, { cls := Value.type "tuple", data := Data.seq #[] }) ::
  (nat_lit 54, { cls := Value.type "tuple", data := Data.seq #[Value.str (Str.ofString "n") 344, Value.str (Str.ofString "what") 345] }) ::
  (nat_lit 55, { cls := Value.type "tuple", data := Data.seq #[] }) ::
  (nat_lit 57, { cls := Value.type "code", data := Data.fields #[Value.str (Str.ofString "_index") 341, Value.str (Str.ofString "_index") 342, Value.str (Str.ofString "/claim/cut.py") 343, Value.int 12 0, Value.int 2 0, Value.int 0 0, Value.int 0 0, Value.int 3 0, Value.ref 52, Value.bool true, Value.int 318 0, Value.ref 53, Value.none, Value.ref 54, Value.ref 55, Value.ref 56, Value.int 346 0, Value.int 12 0, Value.str (Str.ofString "/claim/cut.py") 347] }) ::
  (nat_lit 58, { cls := Value.type "function", data := Data.func { name := Str.ofString "_index", qualname := Str.ofString "_index", params := p58, body := FuncBody.stmts b58, scope := s58, globals := 3, closure := [], defaults := Value.none, kwdefaults := Value.none, pyModule := Value.str (Str.ofString "io") 331, code := Value.ref 57 } }) ::
  (nat_lit 59, { cls := Value.type "tuple", data := Data.seq #[Value.type "OSError", Value.type "ValueError"] }) ::
  (nat_lit 67, { cls := Value.type "dict", data := Data.dict #[{ hash := PyData.keyHash P (Str.ofString "__module__"), key := Value.str (Str.ofString "__module__") 356, val := Value.str (Str.ofString "io") 361 }, { hash := PyData.keyHash P (Str.ofString "__firstlineno__"), key := Value.str (Str.ofString "__firstlineno__") 360, val := Value.int 19 359 }, { hash := PyData.keyHash P (Str.ofString "__static_attributes__"), key := Value.str (Str.ofString "__static_attributes__") 363, val := Value.ref 66 }, { hash := PyData.keyHash P (Str.ofString "__weakref__"), key := Value.str (Str.ofString "__weakref__") 365, val := Value.ref 69 }, { hash := PyData.keyHash P (Str.ofString "__doc__"), key := Value.str (Str.ofString "__doc__") 366, val := Value.none }] 3 }) ::
  (nat_lit 68, { cls := Value.type "type", data := Data.cls { name := Str.ofString "UnsupportedOperation", bases := [Value.type "OSError", Value.type "ValueError"], mro := [Value.ref 68, Value.type "OSError", Value.type "ValueError", Value.type "Exception", Value.type "BaseException", Value.type "object"], ns := 67, qualname := Str.ofString "UnsupportedOperation" }, slots := #[some (Value.ref 59), none, some (Value.str (Str.ofString "UnsupportedOperation") 349), some (Value.str (Str.ofString "UnsupportedOperation") 357), some (Value.builtin "OSError.__new__"), some (Value.bool true)] }) ::
  (nat_lit 69, { cls := Value.type "getset_descriptor", data := Data.fields #[Value.str (Str.ofString "__weakref__") 364, Value.ref 68, Value.builtin "ExceptionGroup.__weakref__", Value.none] }) ::
  (nat_lit 79, { cls := Value.type "tuple", data := Data.seq #[] }) ::
  (nat_lit 81, { cls := Value.type "tuple", data := Data.seq #[Value.str (Str.ofString "cls") 388, Value.str (Str.ofString "args") 389, Value.str (Str.ofString "kwargs") 390] }) ::
  (nat_lit 82, { cls := Value.type "tuple", data := Data.seq #[] }) ::
  (nat_lit 84, { cls := Value.type "code", data := Data.fields #[Value.str (Str.ofString "__new__") 385, Value.str (Str.ofString "IOBase.__new__") 386, Value.str (Str.ofString "/claim/cut.py") 387, Value.int 24 0, Value.int 1 0, Value.int 1 0, Value.int 0 0, Value.int 15 0, Value.ref 79, Value.bool true, Value.int 318 0, Value.ref 80, Value.none, Value.ref 81, Value.ref 82, Value.ref 83, Value.int 391 0, Value.int 24 0, Value.str (Str.ofString "/claim/cut.py") 392] }) ::
  (nat_lit 85, { cls := Value.type "function", data := Data.func { name := Str.ofString "__new__", qualname := Str.ofString "IOBase.__new__", params := p85, body := FuncBody.stmts b85, scope := s85, globals := 3, closure := [], defaults := Value.none, kwdefaults := Value.none, pyModule := Value.str (Str.ofString "io") 331, code := Value.ref 84 } }) ::
  (nat_lit 87, { cls := Value.type "dict", data := Data.dict #[{ hash := PyData.keyHash P (Str.ofString "__module__"), key := Value.str (Str.ofString "__module__") 378, val := Value.str (Str.ofString "io") 383 }, { hash := PyData.keyHash P (Str.ofString "__firstlineno__"), key := Value.str (Str.ofString "__firstlineno__") 382, val := Value.int 21 381 }, { hash := PyData.keyHash P (Str.ofString "__new__"), key := Value.str (Str.ofString "__new__") 393, val := Value.ref 89 }, { hash := PyData.keyHash P (Str.ofString "__static_attributes__"), key := Value.str (Str.ofString "__static_attributes__") 394, val := Value.ref 86 }, { hash := PyData.keyHash P (Str.ofString "__dict__"), key := Value.str (Str.ofString "__dict__") 397, val := Value.ref 90 }, { hash := PyData.keyHash P (Str.ofString "__weakref__"), key := Value.str (Str.ofString "__weakref__") 399, val := Value.ref 91 }, { hash := PyData.keyHash P (Str.ofString "__doc__"), key := Value.str (Str.ofString "__doc__") 400, val := Value.none }] 4 }) ::
  (nat_lit 88, { cls := Value.type "type", data := Data.cls { name := Str.ofString "IOBase", bases := [Value.type "object"], mro := [Value.ref 88, Value.type "object"], ns := 87, qualname := Str.ofString "IOBase", subclasses := [Value.ref 103, Value.ref 115] }, slots := #[none, none, some (Value.str (Str.ofString "IOBase") 371), some (Value.str (Str.ofString "IOBase") 379), some Value.none, some (Value.bool true)] }) ::
  (nat_lit 89, { cls := Value.type "staticmethod", data := Data.fields #[Value.ref 85] }) ::
  (nat_lit 90, { cls := Value.type "getset_descriptor", data := Data.fields #[Value.str (Str.ofString "__dict__") 396, Value.ref 88, Value.builtin "function.__dict__", Value.builtin "function.__dict__#set"] }) ::
  (nat_lit 91, { cls := Value.type "getset_descriptor", data := Data.fields #[Value.str (Str.ofString "__weakref__") 398, Value.ref 88, Value.builtin "ExceptionGroup.__weakref__", Value.none] }) ::
  (nat_lit 94, { cls := Value.type "tuple", data := Data.seq #[Value.ref 88] }) ::
  (nat_lit 102, { cls := Value.type "dict", data := Data.dict #[{ hash := PyData.keyHash P (Str.ofString "__module__"), key := Value.str (Str.ofString "__module__") 410, val := Value.str (Str.ofString "io") 415 }, { hash := PyData.keyHash P (Str.ofString "__firstlineno__"), key := Value.str (Str.ofString "__firstlineno__") 414, val := Value.int 28 413 }, { hash := PyData.keyHash P (Str.ofString "__static_attributes__"), key := Value.str (Str.ofString "__static_attributes__") 417, val := Value.ref 101 }, { hash := PyData.keyHash P (Str.ofString "__doc__"), key := Value.str (Str.ofString "__doc__") 418, val := Value.none }] 2 }) ::
  (nat_lit 103, { cls := Value.type "type", data := Data.cls { name := Str.ofString "BufferedIOBase", bases := [Value.ref 88], mro := [Value.ref 103, Value.ref 88, Value.type "object"], ns := 102, qualname := Str.ofString "BufferedIOBase", subclasses := [Value.ref 345] }, slots := #[some (Value.ref 94), none, some (Value.str (Str.ofString "BufferedIOBase") 403), some (Value.str (Str.ofString "BufferedIOBase") 411), some Value.none, some (Value.bool true)] }) ::
  (nat_lit 106, { cls := Value.type "tuple", data := Data.seq #[Value.ref 88] }) ::
  (nat_lit 114, { cls := Value.type "dict", data := Data.dict #[{ hash := PyData.keyHash P (Str.ofString "__module__"), key := Value.str (Str.ofString "__module__") 428, val := Value.str (Str.ofString "io") 433 }, { hash := PyData.keyHash P (Str.ofString "__firstlineno__"), key := Value.str (Str.ofString "__firstlineno__") 432, val := Value.int 30 431 }, { hash := PyData.keyHash P (Str.ofString "__static_attributes__"), key := Value.str (Str.ofString "__static_attributes__") 435, val := Value.ref 113 }, { hash := PyData.keyHash P (Str.ofString "__doc__"), key := Value.str (Str.ofString "__doc__") 436, val := Value.none }] 2 }) ::
  (nat_lit 115, { cls := Value.type "type", data := Data.cls { name := Str.ofString "TextIOBase", bases := [Value.ref 88], mro := [Value.ref 115, Value.ref 88, Value.type "object"], ns := 114, qualname := Str.ofString "TextIOBase", subclasses := [Value.ref 592] }, slots := #[some (Value.ref 106), none, some (Value.str (Str.ofString "TextIOBase") 421), some (Value.str (Str.ofString "TextIOBase") 429), some Value.none, some (Value.bool true)] }) ::
  (nat_lit 118, { cls := Value.type "tuple", data := Data.seq #[Value.ref 103] }) ::
  (nat_lit 154, { cls := Value.type "property", data := Data.fields #[Value.ref 153, Value.none, Value.none, Value.none, Value.str (Str.ofString "closed") 486, Value.bool false] }) ::
  (nat_lit 344, { cls := Value.type "dict", data := Data.dict #[{ hash := PyData.keyHash P (Str.ofString "__module__"), key := Value.str (Str.ofString "__module__") 446, val := Value.str (Str.ofString "_io") 451 }, { hash := PyData.keyHash P (Str.ofString "__firstlineno__"), key := Value.str (Str.ofString "__firstlineno__") 450, val := Value.int 32 449 }, { hash := PyData.keyHash P (Str.ofString "__init__"), key := Value.str (Str.ofString "__init__") 460, val := Value.ref 132 }, { hash := PyData.keyHash P (Str.ofString "_BytesIO__check"), key := Value.str (Str.ofString "_BytesIO__check") 467, val := Value.ref 139 }, { hash := PyData.keyHash P (Str.ofString "_BytesIO__line"), key := Value.str (Str.ofString "_BytesIO__line") 478, val := Value.ref 146 }, { hash := PyData.keyHash P (Str.ofString "closed"), key := Value.str (Str.ofString "closed") 486, val := Value.ref 154 }, { hash := PyData.keyHash P (Str.ofString "close"), key := Value.str (Str.ofString "close") 493, val := Value.ref 161 }, { hash := PyData.keyHash P (Str.ofString "__enter__"), key := Value.str (Str.ofString "__enter__") 500, val := Value.ref 168 }, { hash := PyData.keyHash P (Str.ofString "__exit__"), key := Value.str (Str.ofString "__exit__") 508, val := Value.ref 175 }, { hash := PyData.keyHash P (Str.ofString "readable"), key := Value.str (Str.ofString "readable") 515, val := Value.ref 182 }, { hash := PyData.keyHash P (Str.ofString "writable"), key := Value.str (Str.ofString "writable") 522, val := Value.ref 189 }, { hash := PyData.keyHash P (Str.ofString "seekable"), key := Value.str (Str.ofString "seekable") 529, val := Value.ref 196 }, { hash := PyData.keyHash P (Str.ofString "isatty"), key := Value.str (Str.ofString "isatty") 536, val := Value.ref 203 }, { hash := PyData.keyHash P (Str.ofString "flush"), key := Value.str (Str.ofString "flush") 543, val := Value.ref 210 }, { hash := PyData.keyHash P (Str.ofString "fileno"), key := Value.str (Str.ofString "fileno") 550, val := Value.ref 217 }, { hash := PyData.keyHash P (Str.ofString "detach"), key := Value.str (Str.ofString "detach") 557, val := Value.ref 224 }, { hash := PyData.keyHash P (Str.ofString "getvalue"), key := Value.str (Str.ofString "getvalue") 564, val := Value.ref 231 }, { hash := PyData.keyHash P (Str.ofString "getbuffer"), key := Value.str (Str.ofString "getbuffer") 571, val := Value.ref 238 }, { hash := PyData.keyHash P (Str.ofString "tell"), key := Value.str (Str.ofString "tell") 578, val := Value.ref 245 }, { hash := PyData.keyHash P (Str.ofString "seek"), key := Value.str (Str.ofString "seek") 588, val := Value.ref 253 }, { hash := PyData.keyHash P (Str.ofString "truncate"), key := Value.str (Str.ofString "truncate") 596, val := Value.ref 261 }, { hash := PyData.keyHash P (Str.ofString "read"), key := Value.str (Str.ofString "read") 608, val := Value.ref 269 }, { hash := PyData.keyHash P (Str.ofString "read1"), key := Value.str (Str.ofString "read1") 618, val := Value.ref 277 }, { hash := PyData.keyHash P (Str.ofString "readinto"), key := Value.str (Str.ofString "readinto") 628, val := Value.ref 284 }, { hash := PyData.keyHash P (Str.ofString "readinto1"), key := Value.str (Str.ofString "readinto1") 636, val := Value.ref 291 }, { hash := PyData.keyHash P (Str.ofString "readline"), key := Value.str (Str.ofString "readline") 646, val := Value.ref 299 }, { hash := PyData.keyHash P (Str.ofString "readlines"), key := Value.str (Str.ofString "readlines") 654, val := Value.ref 307 }, { hash := PyData.keyHash P (Str.ofString "__iter__"), key := Value.str (Str.ofString "__iter__") 661, val := Value.ref 314 }, { hash := PyData.keyHash P (Str.ofString "__next__"), key := Value.str (Str.ofString "__next__") 669, val := Value.ref 321 }, { hash := PyData.keyHash P (Str.ofString "write"), key := Value.str (Str.ofString "write") 679, val := Value.ref 328 }, { hash := PyData.keyHash P (Str.ofString "writelines"), key := Value.str (Str.ofString "writelines") 687, val := Value.ref 335 }, { hash := PyData.keyHash P (Str.ofString "__repr__"), key := Value.str (Str.ofString "__repr__") 694, val := Value.ref 342 }, { hash := PyData.keyHash P (Str.ofString "__static_attributes__"), key := Value.str (Str.ofString "__static_attributes__") 697, val := Value.ref 343 }, { hash := PyData.keyHash P (Str.ofString "__doc__"), key := Value.str (Str.ofString "__doc__") 698, val := Value.none }] 2 }) ::
  (nat_lit 345, { cls := Value.type "type", data := Data.cls { name := Str.ofString "BytesIO", bases := [Value.ref 103], mro := [Value.ref 345, Value.ref 103, Value.ref 88, Value.type "object"], ns := 344, qualname := Str.ofString "BytesIO" }, slots := #[some (Value.ref 118), none, some (Value.str (Str.ofString "BytesIO") 439), some (Value.str (Str.ofString "BytesIO") 447), some Value.none, some (Value.bool true)] }) ::
  (nat_lit 348, { cls := Value.type "tuple", data := Data.seq #[Value.ref 115] }) ::
  (nat_lit 355, { cls := Value.type "tuple", data := Data.seq #[Value.str (Str.ofString "") 715, Value.str (Str.ofString "\n") 716] }) ::
  (nat_lit 356, { cls := Value.type "tuple", data := Data.seq #[] }) ::
  (nat_lit 358, { cls := Value.type "tuple", data := Data.seq #[Value.str (Str.ofString "self") 720, Value.str (Str.ofString "initial_value") 721, Value.str (Str.ofString "newline") 722] }) ::
  (nat_lit 359, { cls := Value.type "tuple", data := Data.seq #[] }) ::
  (nat_lit 361, { cls := Value.type "code", data := Data.fields #[Value.str (Str.ofString "__init__") 717, Value.str (Str.ofString "StringIO.__init__") 718, Value.str (Str.ofString "/claim/cut.py") 719, Value.int 205 0, Value.int 3 0, Value.int 0 0, Value.int 0 0, Value.int 3 0, Value.ref 356, Value.bool true, Value.int 318 0, Value.ref 357, Value.none, Value.ref 358, Value.ref 359, Value.ref 360, Value.int 723 0, Value.int 205 0, Value.str (Str.ofString "/claim/cut.py") 724] }) ::
  (nat_lit 362, { cls := Value.type "function", data := Data.func { name := Str.ofString "__init__", qualname := Str.ofString "StringIO.__init__", params := p362, body := FuncBody.stmts b362, scope := s362, globals := 3, closure := [], defaults := Value.ref 355, kwdefaults := Value.none, pyModule := Value.str (Str.ofString "io") 331, code := Value.ref 361 } }) ::
  (nat_lit 363, { cls := Value.type "tuple", data := Data.seq #[] }) ::
  (nat_lit 365, { cls := Value.type "tuple", data := Data.seq #[Value.str (Str.ofString "self") 729, Value.str (Str.ofString "s") 730, Value.str (Str.ofString "newline") 731] }) ::
  (nat_lit 366, { cls := Value.type "tuple", data := Data.seq #[] }) ::
  (nat_lit 368, { cls := Value.type "code", data := Data.fields #[Value.str (Str.ofString "__translated") 726, Value.str (Str.ofString "StringIO.__translated") 727, Value.str (Str.ofString "/claim/cut.py") 728, Value.int 218 0, Value.int 2 0, Value.int 0 0, Value.int 0 0, Value.int 3 0, Value.ref 363, Value.bool true, Value.int 318 0, Value.ref 364, Value.none, Value.ref 365, Value.ref 366, Value.ref 367, Value.int 732 0, Value.int 218 0, Value.str (Str.ofString "/claim/cut.py") 733] }) ::
  (nat_lit 369, { cls := Value.type "function", data := Data.func { name := Str.ofString "__translated", qualname := Str.ofString "StringIO.__translated", params := p369, body := FuncBody.stmts b369, scope := s369, globals := 3, closure := [], defaults := Value.none, kwdefaults := Value.none, pyModule := Value.str (Str.ofString "io") 331, code := Value.ref 368 } }) ::
  (nat_lit 370, { cls := Value.type "tuple", data := Data.seq #[] }) ::
  (nat_lit 372, { cls := Value.type "tuple", data := Data.seq #[Value.str (Str.ofString "self") 738] }) ::
  (nat_lit 373, { cls := Value.type "tuple", data := Data.seq #[] }) ::
  (nat_lit 375, { cls := Value.type "code", data := Data.fields #[Value.str (Str.ofString "__check") 735, Value.str (Str.ofString "StringIO.__check") 736, Value.str (Str.ofString "/claim/cut.py") 737, Value.int 226 0, Value.int 1 0, Value.int 0 0, Value.int 0 0, Value.int 3 0, Value.ref 370, Value.bool true, Value.int 318 0, Value.ref 371, Value.none, Value.ref 372, Value.ref 373, Value.ref 374, Value.int 739 0, Value.int 226 0, Value.str (Str.ofString "/claim/cut.py") 740] }) ::
  (nat_lit 376, { cls := Value.type "function", data := Data.func { name := Str.ofString "__check", qualname := Str.ofString "StringIO.__check", params := p376, body := FuncBody.stmts b376, scope := s376, globals := 3, closure := [], defaults := Value.none, kwdefaults := Value.none, pyModule := Value.str (Str.ofString "io") 331, code := Value.ref 375 } }) ::
  (nat_lit 398, { cls := Value.type "property", data := Data.fields #[Value.ref 397, Value.none, Value.none, Value.none, Value.str (Str.ofString "closed") 771, Value.bool false] }) ::
  (nat_lit 406, { cls := Value.type "property", data := Data.fields #[Value.ref 405, Value.none, Value.none, Value.none, Value.str (Str.ofString "line_buffering") 779, Value.bool false] }) ::
  (nat_lit 414, { cls := Value.type "property", data := Data.fields #[Value.ref 413, Value.none, Value.none, Value.none, Value.str (Str.ofString "newlines") 787, Value.bool false] }) ::
  (nat_lit 422, { cls := Value.type "property", data := Data.fields #[Value.ref 421, Value.none, Value.none, Value.none, Value.str (Str.ofString "encoding") 795, Value.bool false] }) ::
  (nat_lit 430, { cls := Value.type "property", data := Data.fields #[Value.ref 429, Value.none, Value.none, Value.none, Value.str (Str.ofString "errors") 803, Value.bool false] }) ::
  (nat_lit 531, { cls := Value.type "tuple", data := Data.seq #[Value.int (-1) 908] }) ::
  (nat_lit 532, { cls := Value.type "tuple", data := Data.seq #[] }) ::
  (nat_lit 534, { cls := Value.type "tuple", data := Data.seq #[Value.str (Str.ofString "self") 912, Value.str (Str.ofString "size") 913, Value.str (Str.ofString "start") 914, Value.str (Str.ofString "stop") 915] }) ::
  (nat_lit 535, { cls := Value.type "tuple", data := Data.seq #[] }) ::
  (nat_lit 537, { cls := Value.type "code", data := Data.fields #[Value.str (Str.ofString "read") 909, Value.str (Str.ofString "StringIO.read") 910, Value.str (Str.ofString "/claim/cut.py") 911, Value.int 348 0, Value.int 2 0, Value.int 2 0, Value.int 0 0, Value.int 3 0, Value.ref 532, Value.bool true, Value.int 318 0, Value.ref 533, Value.none, Value.ref 534, Value.ref 535, Value.ref 536, Value.int 916 0, Value.int 348 0, Value.str (Str.ofString "/claim/cut.py") 917] }) ::
  (nat_lit 538, { cls := Value.type "function", data := Data.func { name := Str.ofString "read", qualname := Str.ofString "StringIO.read", params := p538, body := FuncBody.stmts b538, scope := s538, globals := 3, closure := [], defaults := Value.ref 531, kwdefaults := Value.none, pyModule := Value.str (Str.ofString "io") 331, code := Value.ref 537 } }) ::
  (nat_lit 591, { cls := Value.type "dict", data := Data.dict #[{ hash := PyData.keyHash P (Str.ofString "__module__"), key := Value.str (Str.ofString "__module__") 708, val := Value.str (Str.ofString "_io") 713 }, { hash := PyData.keyHash P (Str.ofString "__firstlineno__"), key := Value.str (Str.ofString "__firstlineno__") 712, val := Value.int 202 711 }, { hash := PyData.keyHash P (Str.ofString "__init__"), key := Value.str (Str.ofString "__init__") 725, val := Value.ref 362 }, { hash := PyData.keyHash P (Str.ofString "_StringIO__translated"), key := Value.str (Str.ofString "_StringIO__translated") 734, val := Value.ref 369 }, { hash := PyData.keyHash P (Str.ofString "_StringIO__check"), key := Value.str (Str.ofString "_StringIO__check") 741, val := Value.ref 376 }, { hash := PyData.keyHash P (Str.ofString "_StringIO__check_dot"), key := Value.str (Str.ofString "_StringIO__check_dot") 748, val := Value.ref 383 }, { hash := PyData.keyHash P (Str.ofString "_StringIO__line"), key := Value.str (Str.ofString "_StringIO__line") 763, val := Value.ref 390 }, { hash := PyData.keyHash P (Str.ofString "closed"), key := Value.str (Str.ofString "closed") 771, val := Value.ref 398 }, { hash := PyData.keyHash P (Str.ofString "line_buffering"), key := Value.str (Str.ofString "line_buffering") 779, val := Value.ref 406 }, { hash := PyData.keyHash P (Str.ofString "newlines"), key := Value.str (Str.ofString "newlines") 787, val := Value.ref 414 }, { hash := PyData.keyHash P (Str.ofString "encoding"), key := Value.str (Str.ofString "encoding") 795, val := Value.ref 422 }, { hash := PyData.keyHash P (Str.ofString "errors"), key := Value.str (Str.ofString "errors") 803, val := Value.ref 430 }, { hash := PyData.keyHash P (Str.ofString "close"), key := Value.str (Str.ofString "close") 810, val := Value.ref 437 }, { hash := PyData.keyHash P (Str.ofString "__enter__"), key := Value.str (Str.ofString "__enter__") 817, val := Value.ref 444 }, { hash := PyData.keyHash P (Str.ofString "__exit__"), key := Value.str (Str.ofString "__exit__") 825, val := Value.ref 451 }, { hash := PyData.keyHash P (Str.ofString "readable"), key := Value.str (Str.ofString "readable") 832, val := Value.ref 458 }, { hash := PyData.keyHash P (Str.ofString "writable"), key := Value.str (Str.ofString "writable") 839, val := Value.ref 465 }, { hash := PyData.keyHash P (Str.ofString "seekable"), key := Value.str (Str.ofString "seekable") 846, val := Value.ref 472 }, { hash := PyData.keyHash P (Str.ofString "isatty"), key := Value.str (Str.ofString "isatty") 853, val := Value.ref 479 }, { hash := PyData.keyHash P (Str.ofString "flush"), key := Value.str (Str.ofString "flush") 860, val := Value.ref 486 }, { hash := PyData.keyHash P (Str.ofString "fileno"), key := Value.str (Str.ofString "fileno") 867, val := Value.ref 493 }, { hash := PyData.keyHash P (Str.ofString "detach"), key := Value.str (Str.ofString "detach") 874, val := Value.ref 500 }, { hash := PyData.keyHash P (Str.ofString "getvalue"), key := Value.str (Str.ofString "getvalue") 881, val := Value.ref 507 }, { hash := PyData.keyHash P (Str.ofString "tell"), key := Value.str (Str.ofString "tell") 888, val := Value.ref 514 }, { hash := PyData.keyHash P (Str.ofString "seek"), key := Value.str (Str.ofString "seek") 898, val := Value.ref 522 }, { hash := PyData.keyHash P (Str.ofString "truncate"), key := Value.str (Str.ofString "truncate") 906, val := Value.ref 530 }, { hash := PyData.keyHash P (Str.ofString "read"), key := Value.str (Str.ofString "read") 918, val := Value.ref 538 }, { hash := PyData.keyHash P (Str.ofString "readline"), key := Value.str (Str.ofString "readline") 928, val := Value.ref 546 }, { hash := PyData.keyHash P (Str.ofString "readlines"), key := Value.str (Str.ofString "readlines") 938, val := Value.ref 554 }, { hash := PyData.keyHash P (Str.ofString "__iter__"), key := Value.str (Str.ofString "__iter__") 945, val := Value.ref 561 }, { hash := PyData.keyHash P (Str.ofString "__next__"), key := Value.str (Str.ofString "__next__") 953, val := Value.ref 568 }, { hash := PyData.keyHash P (Str.ofString "write"), key := Value.str (Str.ofString "write") 965, val := Value.ref 575 }, { hash := PyData.keyHash P (Str.ofString "writelines"), key := Value.str (Str.ofString "writelines") 973, val := Value.ref 582 }, { hash := PyData.keyHash P (Str.ofString "__repr__"), key := Value.str (Str.ofString "__repr__") 980, val := Value.ref 589 }, { hash := PyData.keyHash P (Str.ofString "__static_attributes__"), key := Value.str (Str.ofString "__static_attributes__") 984, val := Value.ref 590 }, { hash := PyData.keyHash P (Str.ofString "__doc__"), key := Value.str (Str.ofString "__doc__") 985, val := Value.none }] 2 }) ::
  (nat_lit 592, { cls := Value.type "type", data := Data.cls { name := Str.ofString "StringIO", bases := [Value.ref 115], mro := [Value.ref 592, Value.ref 115, Value.ref 88, Value.type "object"], ns := 591, qualname := Str.ofString "StringIO" }, slots := #[some (Value.ref 348), none, some (Value.str (Str.ofString "StringIO") 701), some (Value.str (Str.ofString "StringIO") 709), some Value.none, some (Value.bool true)] }) ::
  (nat_lit 644, { cls := Value.type "tuple", data := Data.seq #[Value.none, Value.none, Value.bool false, Value.bool false] }) ::
  (nat_lit 645, { cls := Value.type "tuple", data := Data.seq #[] }) ::
  (nat_lit 647, { cls := Value.type "tuple", data := Data.seq #[Value.str (Str.ofString "self") 1063, Value.str (Str.ofString "instream") 1064, Value.str (Str.ofString "infile") 1065, Value.str (Str.ofString "posix") 1066, Value.str (Str.ofString "punctuation_chars") 1067, Value.str (Str.ofString "t") 1068] }) ::
  (nat_lit 648, { cls := Value.type "tuple", data := Data.seq #[] }) ::
  (nat_lit 650, { cls := Value.type "code", data := Data.fields #[Value.str (Str.ofString "__init__") 1060, Value.str (Str.ofString "shlex.__init__") 1061, Value.str (Str.ofString "/claim/cut.py") 1062, Value.int 473 0, Value.int 5 0, Value.int 0 0, Value.int 0 0, Value.int 3 0, Value.ref 645, Value.bool true, Value.int 318 0, Value.ref 646, Value.none, Value.ref 647, Value.ref 648, Value.ref 649, Value.int 1069 0, Value.int 473 0, Value.str (Str.ofString "/claim/cut.py") 1070] }) ::
  (nat_lit 651, { cls := Value.type "function", data := Data.func { name := Str.ofString "__init__", qualname := Str.ofString "shlex.__init__", params := p651, body := FuncBody.stmts b651, scope := s651, globals := 3, closure := [], defaults := Value.ref 644, kwdefaults := Value.none, pyModule := Value.str (Str.ofString "cpy313.shlex") 1046, code := Value.ref 650 } }) ::
  (nat_lit 652, { cls := Value.type "tuple", data := Data.seq #[] }) ::
  (nat_lit 654, { cls := Value.type "tuple", data := Data.seq #[Value.str (Str.ofString "self") 1075] }) ::
  (nat_lit 655, { cls := Value.type "tuple", data := Data.seq #[] }) ::
  (nat_lit 657, { cls := Value.type "code", data := Data.fields #[Value.str (Str.ofString "punctuation_chars") 1072, Value.str (Str.ofString "shlex.punctuation_chars") 1073, Value.str (Str.ofString "/claim/cut.py") 1074, Value.int 514 0, Value.int 1 0, Value.int 0 0, Value.int 0 0, Value.int 3 0, Value.ref 652, Value.bool true, Value.int 318 0, Value.ref 653, Value.none, Value.ref 654, Value.ref 655, Value.ref 656, Value.int 1076 0, Value.int 514 0, Value.str (Str.ofString "/claim/cut.py") 1077] }) ::
  (nat_lit 658, { cls := Value.type "function", data := Data.func { name := Str.ofString "punctuation_chars", qualname := Str.ofString "shlex.punctuation_chars", params := p658, body := FuncBody.stmts b658, scope := s658, globals := 3, closure := [], defaults := Value.none, kwdefaults := Value.none, pyModule := Value.str (Str.ofString "cpy313.shlex") 1046, code := Value.ref 657 } }) ::
  (nat_lit 659, { cls := Value.type "property", data := Data.fields #[Value.ref 658, Value.none, Value.none, Value.none, Value.str (Str.ofString "punctuation_chars") 1079, Value.bool false] }) ::
  (nat_lit 682, { cls := Value.type "tuple", data := Data.seq #[] }) ::
  (nat_lit 684, { cls := Value.type "tuple", data := Data.seq #[Value.str (Str.ofString "self") 1107, Value.str (Str.ofString "tok") 1108, Value.str (Str.ofString "raw") 1109, Value.str (Str.ofString "spec") 1110, Value.str (Str.ofString "newfile") 1111, Value.str (Str.ofString "newstream") 1112] }) ::
  (nat_lit 685, { cls := Value.type "tuple", data := Data.seq #[] }) ::
  (nat_lit 687, { cls := Value.type "code", data := Data.fields #[Value.str (Str.ofString "get_token") 1104, Value.str (Str.ofString "shlex.get_token") 1105, Value.str (Str.ofString "/claim/cut.py") 1106, Value.int 541 0, Value.int 1 0, Value.int 0 0, Value.int 0 0, Value.int 3 0, Value.ref 682, Value.bool true, Value.int 318 0, Value.ref 683, Value.none, Value.ref 684, Value.ref 685, Value.ref 686, Value.int 1113 0, Value.int 541 0, Value.str (Str.ofString "/claim/cut.py") 1114] }) ::
  (nat_lit 688, { cls := Value.type "function", data := Data.func { name := Str.ofString "get_token", qualname := Str.ofString "shlex.get_token", params := p688, body := FuncBody.stmts b688, scope := s688, globals := 3, closure := [], defaults := Value.none, kwdefaults := Value.none, pyModule := Value.str (Str.ofString "cpy313.shlex") 1046, code := Value.ref 687 } }) ::
  (nat_lit 689, { cls := Value.type "tuple", data := Data.seq #[] }) ::
  (nat_lit 691, { cls := Value.type "tuple", data := Data.seq #[Value.str (Str.ofString "self") 1119, Value.str (Str.ofString "quoted") 1120, Value.str (Str.ofString "escapedstate") 1121, Value.str (Str.ofString "nextchar") 1122, Value.str (Str.ofString "result") 1123] }) ::
  (nat_lit 692, { cls := Value.type "tuple", data := Data.seq #[] }) ::
  (nat_lit 694, { cls := Value.type "code", data := Data.fields #[Value.str (Str.ofString "read_token") 1116, Value.str (Str.ofString "shlex.read_token") 1117, Value.str (Str.ofString "/claim/cut.py") 1118, Value.int 568 0, Value.int 1 0, Value.int 0 0, Value.int 0 0, Value.int 3 0, Value.ref 689, Value.bool true, Value.int 318 0, Value.ref 690, Value.none, Value.ref 691, Value.ref 692, Value.ref 693, Value.int 1124 0, Value.int 568 0, Value.str (Str.ofString "/claim/cut.py") 1125] }) ::
  (nat_lit 695, { cls := Value.type "function", data := Data.func { name := Str.ofString "read_token", qualname := Str.ofString "shlex.read_token", params := p695, body := FuncBody.stmts b695, scope := s695, globals := 3, closure := [], defaults := Value.none, kwdefaults := Value.none, pyModule := Value.str (Str.ofString "cpy313.shlex") 1046, code := Value.ref 694 } }) ::
  (nat_lit 711, { cls := Value.type "tuple", data := Data.seq #[] }) ::
  (nat_lit 713, { cls := Value.type "tuple", data := Data.seq #[Value.str (Str.ofString "self") 1147] }) ::
  (nat_lit 714, { cls := Value.type "tuple", data := Data.seq #[] }) ::
  (nat_lit 716, { cls := Value.type "code", data := Data.fields #[Value.str (Str.ofString "__iter__") 1144, Value.str (Str.ofString "shlex.__iter__") 1145, Value.str (Str.ofString "/claim/cut.py") 1146, Value.int 715 0, Value.int 1 0, Value.int 0 0, Value.int 0 0, Value.int 3 0, Value.ref 711, Value.bool true, Value.int 318 0, Value.ref 712, Value.none, Value.ref 713, Value.ref 714, Value.ref 715, Value.int 1148 0, Value.int 715 0, Value.str (Str.ofString "/claim/cut.py") 1149] }) ::
  (nat_lit 717, { cls := Value.type "function", data := Data.func { name := Str.ofString "__iter__", qualname := Str.ofString "shlex.__iter__", params := p717, body := FuncBody.stmts b717, scope := s717, globals := 3, closure := [], defaults := Value.none, kwdefaults := Value.none, pyModule := Value.str (Str.ofString "cpy313.shlex") 1046, code := Value.ref 716 } }) ::
  (nat_lit 718, { cls := Value.type "tuple", data := Data.seq #[] }) ::
  (nat_lit 720, { cls := Value.type "tuple", data := Data.seq #[Value.str (Str.ofString "self") 1154, Value.str (Str.ofString "token") 1155] }) ::
  (nat_lit 721, { cls := Value.type "tuple", data := Data.seq #[] }) ::
  (nat_lit 723, { cls := Value.type "code", data := Data.fields #[Value.str (Str.ofString "__next__") 1151, Value.str (Str.ofString "shlex.__next__") 1152, Value.str (Str.ofString "/claim/cut.py") 1153, Value.int 718 0, Value.int 1 0, Value.int 0 0, Value.int 0 0, Value.int 3 0, Value.ref 718, Value.bool true, Value.int 318 0, Value.ref 719, Value.none, Value.ref 720, Value.ref 721, Value.ref 722, Value.int 1156 0, Value.int 718 0, Value.str (Str.ofString "/claim/cut.py") 1157] }) ::
  (nat_lit 724, { cls := Value.type "function", data := Data.func { name := Str.ofString "__next__", qualname := Str.ofString "shlex.__next__", params := p724, body := FuncBody.stmts b724, scope := s724, globals := 3, closure := [], defaults := Value.none, kwdefaults := Value.none, pyModule := Value.str (Str.ofString "cpy313.shlex") 1046, code := Value.ref 723 } }) ::
  (nat_lit 726, { cls := Value.type "dict", data := Data.dict #[{ hash := PyData.keyHash P (Str.ofString "__module__"), key := Value.str (Str.ofString "__module__") 1055, val := Value.str (Str.ofString "cpy313.shlex") 1046 }, { hash := PyData.keyHash P (Str.ofString "__firstlineno__"), key := Value.str (Str.ofString "__firstlineno__") 1059, val := Value.int 471 1058 }, { hash := PyData.keyHash P (Str.ofString "__init__"), key := Value.str (Str.ofString "__init__") 1071, val := Value.ref 651 }, { hash := PyData.keyHash P (Str.ofString "punctuation_chars"), key := Value.str (Str.ofString "punctuation_chars") 1079, val := Value.ref 659 }, { hash := PyData.keyHash P (Str.ofString "push_token"), key := Value.str (Str.ofString "push_token") 1087, val := Value.ref 666 }, { hash := PyData.keyHash P (Str.ofString "push_source"), key := Value.str (Str.ofString "push_source") 1096, val := Value.ref 674 }, { hash := PyData.keyHash P (Str.ofString "pop_source"), key := Value.str (Str.ofString "pop_source") 1103, val := Value.ref 681 }, { hash := PyData.keyHash P (Str.ofString "get_token"), key := Value.str (Str.ofString "get_token") 1115, val := Value.ref 688 }, { hash := PyData.keyHash P (Str.ofString "read_token"), key := Value.str (Str.ofString "read_token") 1126, val := Value.ref 695 }, { hash := PyData.keyHash P (Str.ofString "sourcehook"), key := Value.str (Str.ofString "sourcehook") 1134, val := Value.ref 702 }, { hash := PyData.keyHash P (Str.ofString "error_leader"), key := Value.str (Str.ofString "error_leader") 1143, val := Value.ref 710 }, { hash := PyData.keyHash P (Str.ofString "__iter__"), key := Value.str (Str.ofString "__iter__") 1150, val := Value.ref 717 }, { hash := PyData.keyHash P (Str.ofString "__next__"), key := Value.str (Str.ofString "__next__") 1158, val := Value.ref 724 }, { hash := PyData.keyHash P (Str.ofString "__static_attributes__"), key := Value.str (Str.ofString "__static_attributes__") 1179, val := Value.ref 725 }, { hash := PyData.keyHash P (Str.ofString "__dict__"), key := Value.str (Str.ofString "__dict__") 1181, val := Value.ref 728 }, { hash := PyData.keyHash P (Str.ofString "__weakref__"), key := Value.str (Str.ofString "__weakref__") 1183, val := Value.ref 729 }, { hash := PyData.keyHash P (Str.ofString "__doc__"), key := Value.str (Str.ofString "__doc__") 1184, val := Value.none }] 4 }) ::
  (nat_lit 727, { cls := Value.type "type", data := Data.cls { name := Str.ofString "shlex", bases := [Value.type "object"], mro := [Value.ref 727, Value.type "object"], ns := 726, qualname := Str.ofString "shlex" }, slots := #[none, none, some (Value.str (Str.ofString "shlex") 1048), some (Value.str (Str.ofString "shlex") 1056), some (Value.builtin "object.__new__"), some (Value.bool true)] }) ::
  (nat_lit 728, { cls := Value.type "getset_descriptor", data := Data.fields #[Value.str (Str.ofString "__dict__") 1180, Value.ref 727, Value.builtin "function.__dict__", Value.builtin "function.__dict__#set"] }) ::
  (nat_lit 729, { cls := Value.type "getset_descriptor", data := Data.fields #[Value.str (Str.ofString "__weakref__") 1182, Value.ref 727, Value.builtin "ExceptionGroup.__weakref__", Value.none] }) ::
  (nat_lit 732, { cls := Value.type "tuple", data := Data.seq #[Value.bool false, Value.bool true] }) ::
  (nat_lit 733, { cls := Value.type "tuple", data := Data.seq #[] }) ::
  (nat_lit 735, { cls := Value.type "tuple", data := Data.seq #[Value.str (Str.ofString "s") 1190, Value.str (Str.ofString "comments") 1191, Value.str (Str.ofString "posix") 1192, Value.str (Str.ofString "lex") 1193] }) ::
  (nat_lit 736, { cls := Value.type "tuple", data := Data.seq #[] }) ::
  (nat_lit 738, { cls := Value.type "code", data := Data.fields #[Value.str (Str.ofString "split") 1187, Value.str (Str.ofString "split") 1188, Value.str (Str.ofString "/claim/cut.py") 1189, Value.int 723 0, Value.int 3 0, Value.int 0 0, Value.int 0 0, Value.int 3 0, Value.ref 733, Value.bool true, Value.int 318 0, Value.ref 734, Value.none, Value.ref 735, Value.ref 736, Value.ref 737, Value.int 1194 0, Value.int 723 0, Value.str (Str.ofString "/claim/cut.py") 1195] }) ::
  (nat_lit 739, { cls := Value.type "function", data := Data.func { name := Str.ofString "split", qualname := Str.ofString "split", params := p739, body := FuncBody.stmts b739, scope := s739, globals := 3, closure := [], defaults := Value.ref 732, kwdefaults := Value.none, pyModule := Value.str (Str.ofString "cpy313.shlex") 1046, code := Value.ref 738 } }) ::
  (nat_lit 744, { cls := Value.type "re.Pattern", data := Data.fields #[Value.str (Str.ofString "[ \\(\\)<>@,;:\\\\\"/\\[\\]\\?=]") 1200, Value.int 32 1231, Value.int 0 0, Value.none, Value.none, Value.ref 743, Value.int 0 0] }) ::
  (nat_lit 745, { cls := Value.type "tuple", data := Data.seq #[Value.none, Value.int 1 1233] }) ::
  (nat_lit 746, { cls := Value.type "tuple", data := Data.seq #[] }) ::
  (nat_lit 748, { cls := Value.type "tuple", data := Data.seq #[Value.str (Str.ofString "param") 1237, Value.str (Str.ofString "value") 1238, Value.str (Str.ofString "quote") 1239] }) ::
  (nat_lit 749, { cls := Value.type "tuple", data := Data.seq #[] }) ::
  (nat_lit 751, { cls := Value.type "code", data := Data.fields #[Value.str (Str.ofString "_formatparam") 1234, Value.str (Str.ofString "_formatparam") 1235, Value.str (Str.ofString "/claim/cut.py") 1236, Value.int 733 0, Value.int 3 0, Value.int 0 0, Value.int 0 0, Value.int 3 0, Value.ref 746, Value.bool true, Value.int 318 0, Value.ref 747, Value.none, Value.ref 748, Value.ref 749, Value.ref 750, Value.int 1240 0, Value.int 733 0, Value.str (Str.ofString "/claim/cut.py") 1241] }) ::
  (nat_lit 752, { cls := Value.type "function", data := Data.func { name := Str.ofString "_formatparam", qualname := Str.ofString "_formatparam", params := p752, body := FuncBody.stmts b752, scope := s752, globals := 3, closure := [], defaults := Value.ref 745, kwdefaults := Value.none, pyModule := Value.str (Str.ofString "cpy313.wsgiref.headers") 1197, code := Value.ref 751 } }) ::
  (nat_lit 753, { cls := Value.type "tuple", data := Data.seq #[] }) ::
  (nat_lit 755, { cls := Value.type "tuple", data := Data.seq #[Value.str (Str.ofString "script") 1248, Value.str (Str.ofString "value") 1249, Value.str (Str.ofString "number") 1250, Value.str (Str.ofString "rest") 1251, Value.str (Str.ofString "more") 1252] }) ::
  (nat_lit 756, { cls := Value.type "tuple", data := Data.seq #[] }) ::
  (nat_lit 758, { cls := Value.type "code", data := Data.fields #[Value.str (Str.ofString "_law_value") 1245, Value.str (Str.ofString "_law_value") 1246, Value.str (Str.ofString "/claim/cut.py") 1247, Value.int 743 0, Value.int 1 0, Value.int 0 0, Value.int 0 0, Value.int 3 0, Value.ref 753, Value.bool true, Value.int 318 0, Value.ref 754, Value.none, Value.ref 755, Value.ref 756, Value.ref 757, Value.int 1253 0, Value.int 743 0, Value.str (Str.ofString "/claim/cut.py") 1254] }) ::
  (nat_lit 759, { cls := Value.type "function", data := Data.func { name := Str.ofString "_law_value", qualname := Str.ofString "_law_value", params := p759, body := FuncBody.stmts b759, scope := s759, globals := 3, closure := [], defaults := Value.none, kwdefaults := Value.none, pyModule := Value.str (Str.ofString "law_mq0369_01") 1243, code := Value.ref 758 } }) ::
  (nat_lit 760, { cls := Value.type "tuple", data := Data.seq #[] }) ::
  (nat_lit 763, { cls := Value.type "code", data := Data.fields #[Value.str (Str.ofString "_law_rows") 1256, Value.str (Str.ofString "_law_rows") 1257, Value.str (Str.ofString "/claim/cut.py") 1258, Value.int 750 0, Value.int 1 0, Value.int 0 0, Value.int 0 0, Value.int 3 0, Value.ref 760, Value.bool true, Value.int 318 0, Value.ref 761, Value.none, Value.none, Value.none, Value.ref 762, Value.int 1259 0, Value.int 750 0, Value.str (Str.ofString "/claim/cut.py") 1260] }) ::
  (nat_lit 764, { cls := Value.type "function", data := Data.func { name := Str.ofString "_law_rows", qualname := Str.ofString "_law_rows", params := p764, body := FuncBody.stmts b764, scope := s764, globals := 3, closure := [], defaults := Value.none, kwdefaults := Value.none, pyModule := Value.str (Str.ofString "law_mq0369_01") 1243, code := Value.ref 763 } }) ::
  (nat_lit 765, { cls := Value.type "tuple", data := Data.seq #[] }) ::
  (nat_lit 767, { cls := Value.type "tuple", data := Data.seq #[Value.str (Str.ofString "text") 1265, Value.str (Str.ofString "fault") 1266] }) ::
  (nat_lit 768, { cls := Value.type "tuple", data := Data.seq #[] }) ::
  (nat_lit 770, { cls := Value.type "code", data := Data.fields #[Value.str (Str.ofString "_law_read") 1262, Value.str (Str.ofString "_law_read") 1263, Value.str (Str.ofString "/claim/cut.py") 1264, Value.int 768 0, Value.int 1 0, Value.int 0 0, Value.int 0 0, Value.int 3 0, Value.ref 765, Value.bool true, Value.int 318 0, Value.ref 766, Value.none, Value.ref 767, Value.ref 768, Value.ref 769, Value.int 1267 0, Value.int 768 0, Value.str (Str.ofString "/claim/cut.py") 1268] }) ::
  (nat_lit 771, { cls := Value.type "function", data := Data.func { name := Str.ofString "_law_read", qualname := Str.ofString "_law_read", params := p771, body := FuncBody.stmts b771, scope := s771, globals := 3, closure := [], defaults := Value.none, kwdefaults := Value.none, pyModule := Value.str (Str.ofString "law_mq0369_01") 1243, code := Value.ref 770 } }) ::
  (nat_lit 772, { cls := Value.type "tuple", data := Data.seq #[] }) ::
  (nat_lit 774, { cls := Value.type "tuple", data := Data.seq #[Value.str (Str.ofString "script") 1273, Value.str (Str.ofString "value") 1274, Value.str (Str.ofString "written") 1275, Value.str (Str.ofString "rows") 1276, Value.str (Str.ofString "place") 1277, Value.str (Str.ofString "ahead") 1278, Value.str (Str.ofString "behind") 1279] }) ::
  (nat_lit 775, { cls := Value.type "tuple", data := Data.seq #[] }) ::
  (nat_lit 777, { cls := Value.type "code", data := Data.fields #[Value.str (Str.ofString "law") 1270, Value.str (Str.ofString "law") 1271, Value.str (Str.ofString "/claim/cut.py") 1272, Value.int 773 0, Value.int 1 0, Value.int 0 0, Value.int 0 0, Value.int 3 0, Value.ref 772, Value.bool true, Value.int 318 0, Value.ref 773, Value.none, Value.ref 774, Value.ref 775, Value.ref 776, Value.int 1280 0, Value.int 773 0, Value.str (Str.ofString "/claim/cut.py") 1281] }) ::
  (nat_lit 778, { cls := Value.type "function", data := Data.func { name := Str.ofString "law", qualname := Str.ofString "law", params := p778, body := FuncBody.stmts b778, scope := s778, globals := 3, closure := [], defaults := Value.none, kwdefaults := Value.none, pyModule := Value.str (Str.ofString "law_mq0369_01") 1243, code := Value.ref 777 } }) :: []
noncomputable def KK : Params → Frag := by
  refine (?f : (l : Params → Frag) → K0 = l → Params → Frag) _ (by (delta K0 b44 p44 s44 b58 p58 s58 b85 p85 s85 b362 p362 s362 b369 p369 s369 b376 p376 s376 b538 p538 s538 b651 p651 s651 b658 p658 s658 b688 p688 s688 b695 p695 s695 b717 p717 s717 b724 p724 s724 b739 p739 s739 b752 p752 s752 b759 p759 s759 b764 p764 s764 b771 p771 s771 b778 p778 s778); exact rfl)
  exact fun l _ => l
noncomputable abbrev asK : List Addr := nat_lit 2 :: nat_lit 3 :: nat_lit 38 :: nat_lit 40 :: nat_lit 41 :: nat_lit 43 :: nat_lit 44 :: nat_lit 52 :: nat_lit 54 :: nat_lit 55 :: nat_lit 57 :: nat_lit 58 :: nat_lit 59 :: nat_lit 67 :: nat_lit 68 :: nat_lit 69 :: nat_lit 79 :: nat_lit 81 :: nat_lit 82 :: nat_lit 84 :: nat_lit 85 :: nat_lit 87 :: nat_lit 88 :: nat_lit 89 :: nat_lit 90 :: nat_lit 91 :: nat_lit 94 :: nat_lit 102 :: nat_lit 103 :: nat_lit 106 :: nat_lit 114 :: nat_lit 115 :: nat_lit 118 :: nat_lit 154 :: nat_lit 344 :: nat_lit 345 :: nat_lit 348 :: nat_lit 355 :: nat_lit 356 :: nat_lit 358 :: nat_lit 359 :: nat_lit 361 :: nat_lit 362 :: nat_lit 363 :: nat_lit 365 :: nat_lit 366 :: nat_lit 368 :: nat_lit 369 :: nat_lit 370 :: nat_lit 372 :: nat_lit 373 :: nat_lit 375 :: nat_lit 376 :: nat_lit 398 :: nat_lit 406 :: nat_lit 414 :: nat_lit 422 :: nat_lit 430 :: nat_lit 531 :: nat_lit 532 :: nat_lit 534 :: nat_lit 535 :: nat_lit 537 :: nat_lit 538 :: nat_lit 591 :: nat_lit 592 :: nat_lit 644 :: nat_lit 645 :: nat_lit 647 :: nat_lit 648 :: nat_lit 650 :: nat_lit 651 :: nat_lit 652 :: nat_lit 654 :: nat_lit 655 :: nat_lit 657 :: nat_lit 658 :: nat_lit 659 :: nat_lit 682 :: nat_lit 684 :: nat_lit 685 :: nat_lit 687 :: nat_lit 688 :: nat_lit 689 :: nat_lit 691 :: nat_lit 692 :: nat_lit 694 :: nat_lit 695 :: nat_lit 711 :: nat_lit 713 :: nat_lit 714 :: nat_lit 716 :: nat_lit 717 :: nat_lit 718 :: nat_lit 720 :: nat_lit 721 :: nat_lit 723 :: nat_lit 724 :: nat_lit 726 :: nat_lit 727 :: nat_lit 728 :: nat_lit 729 :: nat_lit 732 :: nat_lit 733 :: nat_lit 735 :: nat_lit 736 :: nat_lit 738 :: nat_lit 739 :: nat_lit 744 :: nat_lit 745 :: nat_lit 746 :: nat_lit 748 :: nat_lit 749 :: nat_lit 751 :: nat_lit 752 :: nat_lit 753 :: nat_lit 755 :: nat_lit 756 :: nat_lit 758 :: nat_lit 759 :: nat_lit 760 :: nat_lit 763 :: nat_lit 764 :: nat_lit 765 :: nat_lit 767 :: nat_lit 768 :: nat_lit 770 :: nat_lit 771 :: nat_lit 772 :: nat_lit 774 :: nat_lit 775 :: nat_lit 777 :: nat_lit 778 :: []
noncomputable abbrev t0 : Stmt := by
  refine (?f : (l : Stmt) → stAt PySem.Challenge.pw_mq0369_01.main.body 0 = l → Stmt) _ (by conv => lhs; whnf)
  exact fun l _ => l
noncomputable abbrev t1 : Stmt := by
  refine (?f : (l : Stmt) → stAt PySem.Challenge.pw_mq0369_01.main.body 1 = l → Stmt) _ (by conv => lhs; whnf)
  exact fun l _ => l
noncomputable abbrev t2 : Stmt := by
  refine (?f : (l : Stmt) → stAt PySem.Challenge.pw_mq0369_01.main.body 2 = l → Stmt) _ (by conv => lhs; whnf)
  exact fun l _ => l
noncomputable abbrev t4 : Stmt := by
  refine (?f : (l : Stmt) → stAt PySem.Challenge.pw_mq0369_01.main.body 4 = l → Stmt) _ (by conv => lhs; whnf)
  exact fun l _ => l
noncomputable abbrev t5 : Stmt := by
  refine (?f : (l : Stmt) → stAt PySem.Challenge.pw_mq0369_01.main.body 5 = l → Stmt) _ (by conv => lhs; whnf)
  exact fun l _ => l
noncomputable abbrev t6 : Stmt := by
  refine (?f : (l : Stmt) → stAt PySem.Challenge.pw_mq0369_01.main.body 6 = l → Stmt) _ (by conv => lhs; whnf)
  exact fun l _ => l
noncomputable abbrev t7 : Stmt := by
  refine (?f : (l : Stmt) → stAt PySem.Challenge.pw_mq0369_01.main.body 7 = l → Stmt) _ (by conv => lhs; whnf)
  exact fun l _ => l
noncomputable abbrev t8 : Stmt := by
  refine (?f : (l : Stmt) → stAt PySem.Challenge.pw_mq0369_01.main.body 8 = l → Stmt) _ (by conv => lhs; whnf)
  exact fun l _ => l
noncomputable abbrev t9 : Stmt := by
  refine (?f : (l : Stmt) → stAt PySem.Challenge.pw_mq0369_01.main.body 9 = l → Stmt) _ (by conv => lhs; whnf)
  exact fun l _ => l
noncomputable abbrev t10 : Stmt := by
  refine (?f : (l : Stmt) → stAt PySem.Challenge.pw_mq0369_01.main.body 10 = l → Stmt) _ (by conv => lhs; whnf)
  exact fun l _ => l
noncomputable abbrev t11 : Stmt := by
  refine (?f : (l : Stmt) → stAt PySem.Challenge.pw_mq0369_01.main.body 11 = l → Stmt) _ (by conv => lhs; whnf)
  exact fun l _ => l
noncomputable abbrev t13 : Stmt := by
  refine (?f : (l : Stmt) → stAt PySem.Challenge.pw_mq0369_01.main.body 13 = l → Stmt) _ (by conv => lhs; whnf)
  exact fun l _ => l
noncomputable abbrev t14 : Stmt := by
  refine (?f : (l : Stmt) → stAt PySem.Challenge.pw_mq0369_01.main.body 14 = l → Stmt) _ (by conv => lhs; whnf)
  exact fun l _ => l
noncomputable abbrev t15 : Stmt := by
  refine (?f : (l : Stmt) → stAt PySem.Challenge.pw_mq0369_01.main.body 15 = l → Stmt) _ (by conv => lhs; whnf)
  exact fun l _ => l
noncomputable abbrev t16 : Stmt := by
  refine (?f : (l : Stmt) → stAt PySem.Challenge.pw_mq0369_01.main.body 16 = l → Stmt) _ (by conv => lhs; whnf)
  exact fun l _ => l
noncomputable abbrev t17 : Stmt := by
  refine (?f : (l : Stmt) → stAt PySem.Challenge.pw_mq0369_01.main.body 17 = l → Stmt) _ (by conv => lhs; whnf)
  exact fun l _ => l
noncomputable abbrev t18 : Stmt := by
  refine (?f : (l : Stmt) → stAt PySem.Challenge.pw_mq0369_01.main.body 18 = l → Stmt) _ (by conv => lhs; whnf)
  exact fun l _ => l
noncomputable abbrev t20 : Stmt := by
  refine (?f : (l : Stmt) → stAt PySem.Challenge.pw_mq0369_01.main.body 20 = l → Stmt) _ (by conv => lhs; whnf)
  exact fun l _ => l
noncomputable abbrev t23 : Stmt := by
  refine (?f : (l : Stmt) → stAt PySem.Challenge.pw_mq0369_01.main.body 23 = l → Stmt) _ (by conv => lhs; whnf)
  exact fun l _ => l
noncomputable abbrev t26 : Stmt := by
  refine (?f : (l : Stmt) → stAt PySem.Challenge.pw_mq0369_01.main.body 26 = l → Stmt) _ (by conv => lhs; whnf)
  exact fun l _ => l
noncomputable abbrev t27 : Stmt := by
  refine (?f : (l : Stmt) → stAt PySem.Challenge.pw_mq0369_01.main.body 27 = l → Stmt) _ (by conv => lhs; whnf)
  exact fun l _ => l
noncomputable abbrev t28 : Stmt := by
  refine (?f : (l : Stmt) → stAt PySem.Challenge.pw_mq0369_01.main.body 28 = l → Stmt) _ (by conv => lhs; whnf)
  exact fun l _ => l
noncomputable abbrev t29 : Stmt := by
  refine (?f : (l : Stmt) → stAt PySem.Challenge.pw_mq0369_01.main.body 29 = l → Stmt) _ (by conv => lhs; whnf)
  exact fun l _ => l
noncomputable def vw0 : Program := { PySem.Challenge.pw_mq0369_01 with main := { PySem.Challenge.pw_mq0369_01.main with body := [t0, t1, t2, t4, t5, t6, t7, t8, t9, t10, t11, t13, t14, t15, t16, t17, t18, t20, t23, t26, t27, t28, t29] } }
noncomputable def vw : Program := by
  refine (?f : (l : Program) → vw0 = l → Program) _ (by (delta vw0 t0 t1 t2 t4 t5 t6 t7 t8 t9 t10 t11 t13 t14 t15 t16 t17 t18 t20 t23 t26 t27 t28 t29); exact rfl)
  exact fun l _ => l
noncomputable abbrev lo : List Str := [Str.ofString "UnsupportedOperation", Str.ofString "IOBase", Str.ofString "BufferedIOBase", Str.ofString "TextIOBase", Str.ofString "BytesIO", Str.ofString "StringIO", Str.ofString "shlex", Str.ofString "split", Str.ofString "tspecials", Str.ofString "_formatparam"]
theorem left1a (w : World) : (fencedOpening treeTable PySem.Challenge.pw_mq0369_01 w 12000).bind (chk (stepT (denote treeTable) PySem.Challenge.pw_mq0369_01 w) stepOk Heap.nsMap PySem.Challenge.pw_mq0369_01 12000 (importedModules PySem.Challenge.pw_mq0369_01.main.body) (openSeen vw lo (importedModules PySem.Challenge.pw_mq0369_01.main.body) (fun s => xlAt vw [] s && recOk [] s) true)) = some (openGood vw lo) := by
  unfold fencedOpening
  rw [PySem.W.Fast.te14364793385576792824, PySem.W.Fast.te10274390034422433532, PySem.W.Fast.te1435165496053646825, PySem.W.Fast.te14289696077712309145, PySem.W.Fast.te10156331382660048174, PySem.W.Fast.te11892475500146522536, PySem.W.Fast.te6613529449190102663, PySem.W.Fast.te8920871248978507458, PySem.W.Fast.te5923862056798008813, PySem.W.Fast.te4187177175401517315]
  kernel_rfl
theorem left1b (w : World) : (fencedOpening treeTable PySem.Challenge.pw_mq0369_01 w 12000).bind (chk0 (stepT (denote treeTable) PySem.Challenge.pw_mq0369_01 w) stepOk Heap.nsMap PySem.Challenge.pw_mq0369_01 12000 (fun s => asK.map s.heap.get?)) = some ((KK w.params).map fun p => some p.2) := by
  unfold fencedOpening
  rw [PySem.W.Fast.te14364793385576792824, PySem.W.Fast.te10274390034422433532, PySem.W.Fast.te1435165496053646825, PySem.W.Fast.te14289696077712309145, PySem.W.Fast.te10156331382660048174, PySem.W.Fast.te11892475500146522536, PySem.W.Fast.te6613529449190102663, PySem.W.Fast.te8920871248978507458]
  kernel_rfl
theorem left1 (w : World) : (fencedOpening treeTable PySem.Challenge.pw_mq0369_01 w 12000).bind (chk (stepT (denote treeTable) PySem.Challenge.pw_mq0369_01 w) stepOk Heap.nsMap PySem.Challenge.pw_mq0369_01 12000 (importedModules PySem.Challenge.pw_mq0369_01.main.body)
      (fun s => (openSeen vw lo (importedModules PySem.Challenge.pw_mq0369_01.main.body) (fun s => xlAt vw [] s && recOk [] s) true s, asK.map s.heap.get?))) = some (openGood vw lo, (KK w.params).map fun p => some p.2) :=
  bind_pair (left1a w) (left1b w)

end Mine
end
section
open PySem PySem.W PyProof.Rows PySem.Calls PySem.Spec
set_option maxRecDepth 100000
set_option maxHeartbeats 0
namespace Mine
theorem rsaid : PySem.Challenge.rw_mq0369_01.row.wellSaid = true := by
  delta OpenRow.wellSaid OpenRow.partSaid looksOpen
  repeat' with_reducible refine look_both ?_ ?_
  all_goals decide +kernel
theorem said0 : PySem.Challenge.rw_mq0369_01.wellSaid = true := by
  delta OpenLaw.wellSaid
  repeat' with_reducible refine look_both ?_ ?_
  · exact rsaid
  all_goals decide +kernel
theorem okOpen : opensWell PySem.Challenge.rw_mq0369_01.row.prog = true := by
  delta opensWell
  repeat' with_reducible refine look_both ?_ ?_
  all_goals decide +kernel
theorem okA : (chainsOk vw && opensWell PySem.Challenge.rw_mq0369_01.row.prog && (frees PySem.Challenge.rw_mq0369_01.row.toRowW && PySem.Challenge.rw_mq0369_01.row.within.isEmpty)) = true :=
  look_both (look_both (by decide +kernel) okOpen) (by decide +kernel)
theorem okB : PySem.Challenge.rw_mq0369_01.row.prog.tablesWhole = true := by decide +kernel
end Mine
end
section
open PySem PySem.W PyProof.Rows
namespace Mine
inductive Stt | sp | wd | dq | sq | es
noncomputable def Stt.str : Stt → Str
  | .sp => Str.ofString " "
  | .wd => Str.ofString "a"
  | .dq => Str.ofString "\""
  | .sq => Str.ofString "'"
  | .es => Str.ofString "\\"
inductive Out
  | fin (tok : List Nat) (q : Bool) (eof : Bool) (rest : List Nat)
  | noClose
  | noEsc
noncomputable def hasC (w : Str) (c : Nat) : Bool := decide (c ∈ w.cps.toList)
noncomputable def isWs (c : Nat) : Bool := hasC (Str.ofString " \t\r\n") c
noncomputable def rt : List Nat → Stt → Stt → Bool → List Nat → Out
  | [], st, _, q, tok => match st with
    | .sp => .fin tok q true []
    | .wd => .fin tok q true []
    | .dq => .noClose
    | .sq => .noClose
    | .es => .noEsc
  | c :: r, st, esc, q, tok => match st with
    | .sp => if isWs c then rt r .sp esc q tok else if c = 92 then rt r .es .wd q tok else if c = 34 then rt r .dq esc q tok else if c = 39 then rt r .sq esc q tok else rt r .wd esc q [c]
    | .wd => if isWs c then (if tok ≠ [] ∨ q = true then .fin tok q false r else rt r .sp esc q tok) else if c = 92 then rt r .es .wd q tok else if c = 34 then rt r .dq esc q tok else if c = 39 then rt r .sq esc q tok else rt r .wd esc q (tok ++ [c])
    | .dq => if c = 34 then rt r .wd esc true tok else if c = 92 then rt r .es .dq true tok else rt r .dq esc true (tok ++ [c])
    | .sq => if c = 39 then rt r .wd esc true tok else rt r .sq esc true (tok ++ [c])
    | .es => match esc with
      | .dq => if c = 92 ∨ c = 34 then rt r .dq .dq q (tok ++ [c]) else rt r .dq .dq q (tok ++ [92] ++ [c])
      | _ => rt r .wd esc q (tok ++ [c])
section
variable {prog : Program} {w : World} {A : Around} {E : Value → Shared → Prop} {s : Shared} {Q : Value → Shared → Prop} {u t : Tok}
theorem in_one {c : Nat} {x : Str} {b : Bool} (hb : hasC x c = b) (h : Q (.bool b) s) : wpAny (model prog w) A (compareOp .In (.str ⟨#[c]⟩ u) (.str x t)) Q E s := by
  refine in_str ?_
  rw [StrLaws.found_one]
  unfold hasC at hb
  rw [hb]
  exact h
theorem notIn_one {c : Nat} {x : Str} {b : Bool} (hb : hasC x c = b) (h : Q (.bool !b) s) : wpAny (model prog w) A (compareOp .NotIn (.str ⟨#[c]⟩ u) (.str x t)) Q E s := by
  refine notIn_str ?_
  have := StrLaws.found_one x c
  unfold hasC at hb
  rw [hb] at this
  rw [this]
  exact h
theorem hasC_nil (c : Nat) : hasC (Str.ofString "") c = false := rfl
theorem hasC_ofString (l : String) (c : Nat) : hasC (Str.ofString l) c = decide (c ∈ l.toList.map Char.toNat) := by unfold hasC; rw [Str.ofString_eq_toList]
theorem eq_one {c : Nat} {x : Str} {b : Bool} (hb : ((⟨#[c]⟩ : Str) == x) = b) (h : Q (.bool b) s) : wpAny (model prog w) A (compareOp .Eq (.str ⟨#[c]⟩ u) (.str x t)) Q E s := by
  refine eq_str ?_
  rw [hb]
  exact h
theorem ne_one {c : Nat} {x : Str} {b : Bool} (hb : ((⟨#[c]⟩ : Str) == x) = b) (h : Q (.bool !b) s) : wpAny (model prog w) A (compareOp .NotEq (.str ⟨#[c]⟩ u) (.str x t)) Q E s := by
  refine ne_str ?_
  rw [← hb] at h
  exact h
theorem eq_lit {x y : Str} (b : Bool) (hb : (x == y) = b) (h : Q (.bool b) s) : wpAny (model prog w) A (compareOp .Eq (.str x u) (.str y t)) Q E s := by
  refine eq_str ?_
  rw [hb]
  exact h
theorem in_lit {x y : Str} (b : Bool) (hb : (!(Builtin.Str.occurrences x y 0 x.length 1).isEmpty) = b) (h : Q (.bool b) s) : wpAny (model prog w) A (compareOp .In (.str y u) (.str x t)) Q E s := by
  refine in_str ?_
  rw [hb]
  exact h
theorem truthy_one {c : Nat} {Q : Bool → Shared → Prop} (h : ∀ k, Q true { s with toks := k }) : wpAny (model prog w) A (PySem.truthy (.str ⟨#[c]⟩ t)) Q E s :=
  SBL.truthy (by show ((1 : Nat) : Int) < _; decide) (h _)
theorem truthy_ne {x : Str} {Q : Bool → Shared → Prop} (h0 : x.length ≠ 0) (h1 : x.length ≤ 1000) (h : ∀ k, Q true { s with toks := k }) : wpAny (model prog w) A (PySem.truthy (.str x t)) Q E s := by
  refine SBL.truthy (by omega) ?_
  have : ((x.length : Int) != 0) = true := by rw [bne_iff_ne]; omega
  rw [this]
  exact h _
theorem one_ne {c d : Nat} {x : Str} (hx : x = ⟨#[d]⟩) (h : c ≠ d) : ((⟨#[c]⟩ : Str) == x) = false := by
  subst hx
  rw [beq_eq_false_iff_ne]
  intro e
  apply h
  injection e with e
  simpa using e
end

theorem ws_facts {c : Nat} (h : isWs c = true) : c ≠ 34 ∧ c ≠ 39 ∧ c ≠ 92 := by
  unfold isWs at h
  rw [hasC_ofString] at h
  simp at h
  omega
theorem q_false {c : Nat} (h1 : c ≠ 34) (h2 : c ≠ 39) : hasC (Str.ofString "'\"") c = false := by
  rw [hasC_ofString]
  simp
  omega
theorem e_false {c : Nat} (h1 : c ≠ 92) : hasC (Str.ofString "\\") c = false := by
  rw [hasC_ofString]
  simp
  omega
noncomputable def sOne (c : Nat) : Str := ⟨#[c]⟩
theorem len_append_one (x : Str) (c : Nat) : (x ++ (⟨#[c]⟩ : Str)).length = x.length + 1 := by rw [Str.length_append]; rfl
theorem cps_append_one (x : Str) (c : Nat) : (x ++ (⟨#[c]⟩ : Str)).cps.toList = x.cps.toList ++ [c] := by
  rw [Str.cps_append]; simp
theorem nil_of {x : Str} (h : x.length = 0) : x = Str.ofString "" := by
  cases x with
  | mk a =>
    have : a = #[] := by
      apply Array.eq_empty_of_size_eq_zero
      exact h
    subst this
    rfl
theorem drop_next {x : Str} {kk : Int} {c : Nat} {l : List Nat} (h0 : 0 ≤ kk) (hl : x.cps.toList.drop kk.toNat = c :: l) : x.cps.toList.drop (kk + 1).toNat = l := by
  rw [show (kk + 1).toNat = kk.toNat + 1 by omega, ← List.drop_drop, hl]
  rfl
theorem drop_lt {x : Str} {kk : Int} {c : Nat} {l : List Nat} (h0 : 0 ≤ kk) (hl : x.cps.toList.drop kk.toNat = c :: l) : kk + 1 ≤ x.length := by
  have h1 : x.cps.toList.length = x.length := by simp [Str.length]
  have h2 := congrArg List.length hl
  rw [List.length_drop, List.length_cons] at h2
  omega
end Mine
end
section
open PySem PySem.W PyProof.Rows PySem.Calls PySem.Spec
set_option maxRecDepth 100000
set_option maxHeartbeats 4000000
namespace Mine
abbrev deqObj : Obj := { cls := .type "collections.deque", data := .fields #[.none, rawInt 0] }
theorem dq_noBool : typeLookup (.type "collections.deque") "__bool__" = pure none := by rw [typeLookup_type, builtinLookup_eq_fast]; kernel_rfl
theorem dq_slotLen : Slot "collections.deque" "__len__" "collections.deque.__len__" :=
  .of (owner := "collections.deque") (n := "__len__") (by rw [typeLookup_type, builtinLookup_eq_fast]; kernel_rfl) (by decide +kernel) (by decide +kernel) (by decide +kernel)
    (by first | exact .inl (by decide +kernel) | exact .inr (by decide +kernel)) (by rw [isSubtype_type]; kernel_rfl)
theorem dq_entryLen : entryFor table "collections.deque.__len__" = some Builtin.«collections.deque.__len__» := entryFor_of_tree (by kernel_rfl)
theorem dq_argsLen (a : Value) : argsOk "collections.deque.__len__" ⟨[a], []⟩ := by unfold argsOk; kernel_rfl
section
variable {prog : Program} {w : World} {A : Around} {E : Value → Shared → Prop} {s : Shared}
theorem dq_truthy {a : Addr} {Q : Bool → Shared → Prop} (ho : s.heap.get? a = some deqObj) (h : ∀ k, Q false { s with toks := k }) : wpAny (model prog w) A (truthy (.ref a)) Q E s := by
  have hT : s.TypeIs (.ref a) "collections.deque" := (show ∃ o, s.heap.get? a = some o ∧ o.cls = .type "collections.deque" from ⟨_, ho, rfl⟩)
  have body : ∀ A, wpAny (model prog w) A (Builtin.«len» ⟨[.ref a], []⟩) (fun fin s' => ∃ r, fin = .done (.ret r) ∧ ∃ t, r = .int 0 t ∧ ∃ k, s' = { s with toks := k }) E s := by
    intro A
    unfold Builtin.«len»
    refine wpAny_bind (m := oneArg "len" _) (wpAny_pure ?_)
    refine wpAny_bind (m := callSpecial? (.ref a) (Str.ofString "__len__")) (wpAny_callSpecial?_slot (name := Str.ofString "__len__") hT dq_slotLen
      (wpAny_call_entry dq_slotLen hT dq_entryLen ?_ (dq_argsLen _)))
    · show wpAny _ _ (do retInt (← Builtin.Deque.size (.ref a))) _ _ s
      unfold Builtin.Deque.size fieldsOf
      refine wpAny_bind (wpAny_bind ?_)
      show wpAny _ _ (load a >>= _) _ _ _
      refine wpAny_bind (wpAny_load ho ?_)
      refine wpAny_pure (wpAny_pure ?_)
      show wpAny _ _ (retInt ((((#[.none, rawInt 0] : Array Value).size - 2 : Nat)) : Int)) _ _ _
      refine wpAny_bind (wpAny_mkInt (wpAny_pure ⟨_, rfl, ?_⟩))
      refine wpAny_bind (wpAny_holding (wpAny_pure ?_))
      refine wpAny_bind (wpAny_letGo ?_)
      show wpAny _ _ (if (0 : Int) < 0 then _ else _) _ _ _
      rw [if_neg (by omega)]
      show wpAny _ _ (if (0 : Int) ≥ 2 ^ 63 then _ else _) _ _ _
      rw [if_neg (by omega)]
      exact wpAny_bind (wpAny_mkInt (wpAny_pure ⟨_, rfl, _, rfl, _, rfl⟩))
  have key : wpAny (model prog w) A (runValue (.builtin "len" ⟨[.ref a], []⟩)) (fun r s' => ∃ t, r = .int 0 t ∧ ∃ k, s' = { s with toks := k }) E s := by
    refine wpAny_runValue (codeAny_builtin entry_len ?_)
    rw [Around.under_plainId plain_len _]
    exact wpAny_mono (body _) (fun fin s' h' => by obtain ⟨r, rfl, hq⟩ := h'; exact hq) fun _ _ e => e
  unfold truthy
  first
    | refine wpAny_bind (wpAny_callSpecial?_none (name := Str.ofString "__bool__") hT dq_noBool ?_)
    | refine wpAny_bind (wpAny_pure (wpAny_bind (wpAny_callSpecial?_none (name := Str.ofString "__bool__") hT dq_noBool ?_)))
  first
    | refine wpAny_bind (wpAny_specialOf (name := Str.ofString "__len__") hT dq_slotLen.lookup ?_)
    | refine wpAny_bind (wpAny_pure (wpAny_bind (wpAny_specialOf (name := Str.ofString "__len__") hT dq_slotLen.lookup ?_)))
  first
    | exact wpAny_bind (wpAny_mono key (fun r s' h' => by obtain ⟨t, rfl, k, rfl⟩ := h'; exact wpAny_pure (h k)) fun _ _ e => e)
    | exact wpAny_bind (wpAny_pure (wpAny_bind (wpAny_mono key (fun r s' h' => by obtain ⟨t, rfl, k, rfl⟩ := h'; exact wpAny_pure (h k)) fun _ _ e => e)))
end
theorem dq_mro : mroOf (.type "collections.deque") = pure [.type "collections.deque", .type "object"] := by rw [mroOf_type]; kernel_rfl
theorem dq_lookupNew : typeLookup (.type "collections.deque") "__new__" = pure (some (.builtin "collections.deque.__new__")) := by rw [typeLookup_type, builtinLookup_eq_fast]; kernel_rfl
theorem dq_slotInit : Slot "collections.deque" "__init__" "collections.deque.__init__" :=
  .of (owner := "collections.deque") (n := "__init__") (by rw [typeLookup_type, builtinLookup_eq_fast]; kernel_rfl) (by decide +kernel) (by decide +kernel) (by decide +kernel)
    (by first | exact .inl (by decide +kernel) | exact .inr (by decide +kernel)) (by rw [isSubtype_type]; kernel_rfl)
theorem dq_called : TypeCalled "collections.deque" "collections.deque.__new__" "collections.deque.__init__" :=
  ⟨by decide +kernel, by decide +kernel, ⟨_, _, dq_mro⟩, madeBy_type dq_mro dq_lookupNew (by decide +kernel), by decide +kernel, by rw [isSubtype_type]; kernel_rfl, dq_slotInit⟩
theorem dq_typeCall : checkTypeCall "collections.deque" ⟨[], []⟩ = pure () := by kernel_rfl
theorem dq_newCall : checkBuiltinCall "collections.deque.__new__" ⟨[.type "collections.deque"], []⟩ = pure () := by kernel_rfl
theorem dq_entryNew : entryFor table "collections.deque.__new__" = some Builtin.«collections.deque.__new__» := entryFor_of_tree (by kernel_rfl)
theorem dq_entryInit : entryFor table "collections.deque.__init__" = some Builtin.«collections.deque.__init__» := entryFor_of_tree (by kernel_rfl)
theorem dq_plainNew : plainId "collections.deque.__new__" = true := by decide +kernel
theorem dq_argsInit (a : Value) : argsOk "collections.deque.__init__" ⟨[a], []⟩ := by unfold argsOk; kernel_rfl
theorem dq_sub : isSubtype (.type "collections.deque") (.type "collections.deque") = pure true := by rw [isSubtype_type]; kernel_rfl
section
variable {prog : Program} {w : World} {A : Around} {E : Value → Shared → Prop} {s : Shared}
theorem dq_newTree : Builtin.«collections.deque.__new__» ⟨[.type "collections.deque"], []⟩ = (alloc deqObj >>= fun a => ret (.ref a)) := by kernel_rfl
theorem dq_codeNew {Q₁ : Value → Shared → Prop} (h : Q₁ (.ref s.heap.objs.size) { s with heap := s.heap.push deqObj }) :
    codeAny (model prog w) A (.call (.builtin "collections.deque.__new__") ⟨[.type "collections.deque"], []⟩) (wants Q₁ E) s := by
  refine codeAny_call_builtin dq_plainNew dq_entryNew (wpAny_of_eq dq_newCall ?_)
  rw [dq_newTree]
  exact wpAny_bind (wpAny_alloc (wpAny_pure h))
theorem dq_initTree (a : Addr) : Builtin.«collections.deque.__init__» ⟨[.ref a], []⟩ = (setField (.ref a) 0 .none >>= fun _ => Builtin.Deque.clear (.ref a) >>= fun _ => ret .none) := by kernel_rfl
theorem dq_init {a : Addr} {R : Result → Shared → Prop} (ho : s.heap.get? a = some deqObj) (h : ∀ h', Heap.SameBut a s.heap h' → h'.get? a = some deqObj → R (.ok (.ret .none)) { s with heap := h' }) :
    wpAny (model prog w) A.in1 (Builtin.«collections.deque.__init__» ⟨[.ref a], []⟩)
      (fun fin s' => match fin with | .done f => R (.ok f) s' | .again c' => c'.quiet = true ∧ codeAny (model prog w) A c' R s') (fun e s' => R (.error e) s') s := by
  rw [dq_initTree]
  unfold setField Builtin.Deque.clear Builtin.Deque.items fieldsOf
  dsimp only
  refine wpAny_bind ?_
  unfold updateField
  refine wpAny_bind (wpAny_load ho ?_)
  show wpAny _ _ (update a (Obj.mapFields fun x => x.setIfInBounds 0 .none)) _ _ _
  have hg : (s.heap.update a (Obj.mapFields fun x => x.setIfInBounds 0 .none)).get? a = some deqObj := Heap.get?_update_self _ ho rfl
  refine wpAny_update ho ?_
  refine wpAny_bind (wpAny_bind (wpAny_bind (wpAny_bind (wpAny_load hg ?_))))
  refine wpAny_pure (wpAny_pure ?_)
  show wpAny _ _ (pure ()) _ _ _
  exact wpAny_pure (wpAny_pure (h _ (Heap.SameBut.update ..) hg))
theorem dq_call {h₀ : Heap} {L : Addr} {m : Str → Option Value} {news : List (Addr × Obj)} {Q : Value → Shared → Prop} (F : Fr h₀ L s.heap m) (N : News h₀ L s.heap news)
    (h : ∀ a h', (∀ p ∈ news, p.1 < a) → Fr h₀ L h' m → News h₀ L h' ((a, deqObj) :: news) → Q (.ref a) { s with heap := h' }) : wpAny (model prog w) A (call (.type "collections.deque") []) Q E s := by
  refine callType_codes (Q₁ := fun obj s₁ => obj = .ref s.heap.objs.size ∧ s₁ = { s with heap := s.heap.push deqObj }) dq_called dq_typeCall dq_entryInit
    (dq_codeNew ⟨rfl, rfl⟩) fun obj s₁ h₁ => ?_
  obtain ⟨rfl, rfl⟩ := h₁
  have hS : (s.heap.push deqObj).get? s.heap.objs.size = some deqObj := Heap.get?_push_size _ rfl
  refine ⟨⟨_, hS, rfl⟩, dq_argsInit _, dq_init hS fun h' hs hg => ⟨rfl, ?_⟩⟩
  have F1 := F.push deqObj
  have N1 := N.push F deqObj
  have same : ∀ b, h'.get? b = (s.heap.push deqObj).get? b := fun b => by
    by_cases e : b = s.heap.objs.size
    · rw [e, hg]; exact hS.symm
    · exact hs.2 b e
  refine h _ _ (fun p hp => Heap.lt_size (N p hp).1) ⟨?_, fun b o e => (same b).trans (F1.keep b o e), F1.above⟩ fun p hp => ⟨(same p.1).trans (N1 p hp).1, (N1 p hp).2⟩
  obtain ⟨oL, a1, a2, hL, a3⟩ := F1.ns
  exact ⟨oL, a1, a2, (same L).trans hL, a3⟩
end
end Mine
end
section
open PySem PySem.W PyProof.Rows PySem.Calls PySem.Spec
set_option maxRecDepth 100000
set_option maxHeartbeats 4000000
namespace Mine
def NewBack (K : Frag) (C fI : Addr) (rest : List Value) (prog : Program) (w : World) (A : Around) (R : Result → Shared → Prop) (r : Result) (s₁ : Shared) : Prop := match r with
  | .ok (.ret v) => ∃ x dx, v = .ref x ∧ s₁.heap.get? x = some (instObj C dx) ∧ K.In s₁.heap ∧ codeAny (model prog w) A (.call (.ref fI) ⟨.ref x :: rest, []⟩) (InitBack x R) s₁
  | .ok _ => False
  | .error e => R (.error e) s₁
section
variable {prog : Program} {w : World} {A : Around} {K : Frag} {C fN fI p : Addr} {R : Result → Shared → Prop} {s : Shared} {rest : List Value} {oc : Value} {od : Option Addr} {cd : ClassData} {sl : Array (Option Value)} {r2 : List Value}
theorem own_call (X : K.In s.heap) (hC : K.lookup C = some ⟨oc, od, .cls cd, sl⟩) (e4 : cd.mro.isEmpty = false) (hmro : cd.mro.head? = some (.ref C)) (hsl : (sl.toList[4]?).join = some .none)
    (hcall : specialIn K (.ref C) "__call__" = some (some (.builtin "type.__call__"))) (htyp : instIn K (.ref C) (.type "type") = some true) (hself : mroIn K C (.ref C) = some true)
    (hr : readsIn K C (.type "type") = true) (hf : findCls K (.ref C) (.type "type") "__new__" = some (.get (.builtin "staticmethod.__get__") (.ref p) .none (.ref C))) (hp : recIn K p "staticmethod" = some (.ref fN :: r2))
    (hi : findIn K (.ref C) "__init__" = some (some (.ref fI))) (hfi : typeIn K (.ref fI) = some (.type "function"))
    (h : codeAny (model prog w) (A.under (.builtin "type.__call__" ⟨.ref C :: rest, []⟩)) (.call (.ref fN) ⟨.ref C :: rest, []⟩) (NewBack K C fI rest prog w (A.under (.builtin "type.__call__" ⟨.ref C :: rest, []⟩)) R) { s with toks := s.toks + 1 }) :
    codeAny (model prog w) A (.call (.ref C) ⟨rest, []⟩) R s := by
  have hC' := X _ _ hC
  have hc : clsIn K C = some cd := by unfold clsIn; rw [hC]
  have call : Looks (model prog w) s.heap (specialOf (.ref C) "__call__") (some (.builtin "type.__call__")) := looks_specialIn X hcall
  have typ : Looks (model prog w) s.heap (isInstance (.ref C) (.type "type")) true := looks_instIn X htyp
  have hm : Looks (model prog w) s.heap (mroOf (.ref C)) cd.mro := (looks_clsIn X hc).andThen .now
  obtain ⟨l, hl⟩ : ∃ l, cd.mro = .ref C :: l := by
    cases q : cd.mro with
    | nil => rw [q] at e4; cases e4
    | cons c l => rw [q] at hmro; cases hmro; exact ⟨l, rfl⟩
  have made : Looks (model prog w) s.heap (Bind.madeBy (.ref C)) none := by
    intro A Q E s k q
    unfold Bind.madeBy
    refine wpAny_bind (hm A _ E s k ?_)
    rw [hl, List.forIn_cons]
    refine wpAny_bind (wpAny_bind (wpAny_bind (wpAny_bind (wpAny_loadPart (k _ _ hC') (wpAny_pure ?_)))))
    dsimp only
    rw [← Array.getElem?_toList, hsl]
    exact wpAny_pure (wpAny_pure (wpAny_pure q))
  obtain ⟨hh, g, d, t, os⟩ := s
  dsimp only at X hC' call typ hm made h
  refine codeAny_of_tree ?_
  show wpAny _ _ (callAny (.ref C) _) _ _ _
  refine nd_load hC' ?_
  show wpAny _ _ (callAny.viaDunder (.ref C) _) _ _ _
  unfold callAny.viaDunder
  refine wpAny_bind (call.at ?_)
  dsimp only
  rw [tc_bind]
  refine wpAny_bind (wpAny_pure (wpAny_bind (wpAny_pure ?_)))
  refine wpAny_pure (a := Fin.again (.call (.builtin "type.__call__") ⟨.ref C :: rest, []⟩)) (And.intro rfl ?_)
  refine codeAny_call_builtin_at (Code.quiet_builtin _ (by decide +kernel)) entry_typeCall (check_slot tc_kind tc_split typ (tc_args _ _ _) ?_)
  unfold Builtin.«type.__call__»
  have gt : ∀ (A : Around) (Q : Value → Shared → Prop) (E : Value → Shared → Prop), Q (.ref fN) ⟨hh, g, d, t + 1, os⟩ → wpAny (model prog w) A (getAttr (.ref C) "__new__") Q E ⟨hh, g, d, t, os⟩ := fun A Q E q =>
    cls_bind (s := ⟨hh, g, d, t, os⟩) X hr hf (wpAny_call (sm_get (s := ⟨hh, g, d, t + 1, os⟩) X hp (handed_on rfl q)))
  repeat (first | simp only [e4, Bool.false_eq_true, if_false] | with_reducible refine gt _ _ _ ?_ | with_reducible refine wpAny_call ?_ | lk)
  refine codeAny_mono h fun r s₁ hr₁ => ?_
  rcases r with e | (v | _ | _ | _)
  · exact hr₁
  all_goals try exact hr₁.elim
  obtain ⟨x, dx, rfl, hx, X₁, hq⟩ := hr₁
  obtain ⟨hh₁, g₁, d₁, t₁, os₁⟩ := s₁
  dsimp only at hx X₁ hq ⊢
  have t1 : Looks (model prog w) hh₁ (typeOf (.ref x)) (.ref C) := (Looks.ld hx).andThen .now
  have s1 : Looks (model prog w) hh₁ (isSubtype (.ref C) (.ref C)) true := looks_mroIn X₁ hself
  have i1 : Looks (model prog w) hh₁ (typeLookup (.ref C) "__init__") (some (.ref fI)) := looks_findIn X₁ hi
  have b1 : Looks (model prog w) hh₁ (bindSpecial (.ref fI) (.ref x)) (.ref fI, [.ref x]) := bind_fn X₁ _ hfi
  unfold isInstance callSpecial? specialOf
  repeat (first | with_reducible refine wpAny_call ?_ | lk)
  refine codeAny_mono hq fun r s' z => ?_
  rcases r with e | (v | _ | _ | _) <;> first | exact z | exact z.elim | skip
  obtain ⟨rfl, z⟩ := z
  exact wpAny_pure (wpAny_pure z)
end
end Mine
end
section
open PySem PySem.W PyProof.Rows PySem.Calls PySem.Spec
set_option maxRecDepth 100000
set_option maxHeartbeats 4000000
namespace Mine
theorem ob_mro : mroOf (.type "object") = pure [.type "object"] := by rw [mroOf_type]; kernel_rfl
theorem ob_new : typeLookup (.type "object") "__new__" = pure (some (.builtin "object.__new__")) := by rw [typeLookup_type, builtinLookup_eq_fast]; kernel_rfl
theorem ob_made : Bind.madeBy (.type "object") = pure (some "object.__new__") := madeBy_type ob_mro ob_new (by decide +kernel)
section
variable {prog : Program} {w : World} {A : Around} {R : Result → Shared → Prop} {h : Heap} {g : Array GenState} {d : Drawn} {t : Nat} {os : OsState}
theorem base592 (X : (KK w.params).In h) : Looks (model prog w) h (Bind.staticBase (.ref 592)) (.type "object") := by
  have h592 := X 592 _ rfl
  have h115 := X 115 _ rfl
  have h88 := X 88 _ rfl
  intro A Q E s k q
  obtain ⟨hh, g, d, t, os⟩ := s
  dsimp only at k q
  have h592 := k _ _ h592
  have h115 := k _ _ h115
  have h88 := k _ _ h88
  have m0 : Looks (model prog w) hh (Bind.madeBy (.type "object")) (some "object.__new__") := Looks.of_pure ob_made
  unfold Bind.staticBase
  repeat lk
  exact q
theorem new592 (X : (KK w.params).In h) (hq : R (.ok (.ret (.ref (h.objs.size + 1)))) ⟨(h.push emptyDict).push (instObj 592 h.objs.size), g, d, t, os⟩) :
    codeAny (model prog w) A (.call (.builtin "object.__new__") ⟨[.ref 592], []⟩) R ⟨h, g, d, t, os⟩ := by
  have base := base592 (prog := prog) X
  have made : Looks (model prog w) h (Bind.madeBy (.type "object")) (some "object.__new__") := Looks.of_pure ob_made
  have hC := X 592 _ rfl
  have typ : Looks (model prog w) h (isInstance (.ref 592) (.type "type")) true := looks_instIn X rfl
  have top : Looks (model prog w) h (isSubtype (.ref 592) (.type "object")) true := looks_mroIn X rfl
  have F := PySem.F.objNew
  refine codeAny_call_builtin_code (Code.quiet_builtin _ F.quiet) ?_
  simp only [checkBuiltinCall, F.kind, F.split, F.row]
  have here : Looks (model prog w) h (Bind.madeHere "object.__new__" (.ref 592)) () := base.andThen (made.andThen (Looks.of_pure (by simp only [Option.map_some, bne_self_eq_false, Bool.false_eq_true, if_false])))
  have args : Bind.checkArgs "object.__new__" ⟨.hand, "object.__new__", "__new__", .cls, []⟩ ⟨[.ref 592], []⟩ = pure () := by kernel_rfl
  rw [args]
  repeat (first | simp only [bne_self_eq_false, Bool.false_eq_true, if_false] | lk)
  refine codeAny_builtin F.entry ?_
  unfold Builtin.«object.__new__»
  have fin : ∀ A', wpAny (model prog w) A' (do
      let d ← if typeHasDict (.ref 592) then some <$> alloc { cls := .type "dict", data := .dict #[] } else pure none
      ret (← newObj (.ref 592) .plain d)) (fun fin s' => match fin with | .done f => R (.ok f) s' | .again c' => c'.quiet = true ∧ codeAny (model prog w) A c' R s') (fun e s' => R (.error e) s') ⟨h, g, d, t, os⟩ := by
    intro A'
    show wpAny _ _ ((alloc emptyDict >>= fun x => pure (some x)) >>= _) _ _ _
    refine wpAny_bind (wpAny_bind (wpAny_alloc (wpAny_pure (wpAny_bind ?_))))
    show wpAny _ _ (newObjAsIs _ _ _) _ _ _
    unfold newObjAsIs classHasDel
    refine wpAny_bind (wpAny_alloc (wpAny_bind (wpAny_bind (wpAny_load (Heap.get?_push_of_some _ (Heap.get?_push_of_some _ hC)) (wpAny_pure ?_)))))
    refine wpAny_pure (wpAny_pure ?_)
    show R _ _
    rw [Heap.size_push]
    exact hq
  repeat (first | simp only [Bool.false_eq_true, if_false, bne_self_eq_false, Bool.not_true] | exact fin _ | lk)
end
theorem new592K {prog : Program} {w : World} {A : Around} {E : Value → Shared → Prop} {s : Shared} {h₀ : Heap} {L : Addr} {m : Str → Option Value} {news : List (Addr × Obj)} {Q : Value → Shared → Prop} (F : Fr h₀ L s.heap m) (X₀ : (KK w.params).In h₀) (N : News h₀ L s.heap news)
    (h : ∀ x dx h', Fr h₀ L h' m → News h₀ L h' ((x, instObj 592 dx) :: (dx, dictOf [] 0) :: news) → (∀ p ∈ news, p.1 < dx) → dx < x → Q (.ref x) { s with heap := h' }) :
    wpAny (model prog w) A (call (.builtin "object.__new__") [.ref 592]) Q E s := by
  obtain ⟨hh, g, d, t, os⟩ := s
  have N' := (N.push F emptyDict).push (F.push _) (instObj 592 hh.objs.size)
  rw [Heap.size_push] at N'
  exact wpAny_call (new592 (X₀.keeps F.keep) (h _ hh.objs.size _ ((F.push _).push _) N' (fun p hp => Heap.lt_size (N p hp).1) (Nat.lt_succ_self _)))
end Mine
end
open PySem PySem.W PyProof.Rows PySem.Calls PySem.Spec
local macro_rules | `(tactic| k_room) => `(tactic| ktr_room)
local macro_rules | `(tactic| k_units) => `(tactic| ktr_units)
section
open PySem PySem.W PyProof.Rows PySem.Calls PySem.Spec
set_option maxRecDepth 100000
set_option maxHeartbeats 0
namespace Mine
noncomputable abbrev LO : List Str := looseW vw [Str.ofString "UnsupportedOperation", Str.ofString "IOBase", Str.ofString "BufferedIOBase", Str.ofString "TextIOBase", Str.ofString "BytesIO", Str.ofString "StringIO", Str.ofString "shlex", Str.ofString "split", Str.ofString "tspecials", Str.ofString "_formatparam"]

theorem slice_eq {x : Str} {i j : Int} (h0 : 0 ≤ i) (h1 : i ≤ j) (h2 : j ≤ x.length) : Txt.slice x (some i) (some j) = ⟨((x.cps.toList.drop i.toNat).take (j - i).toNat).toArray⟩ := by
  have h := slice_closesL h0 h1 h2
  simpa using h
theorem slice_one {x : Str} {k j : Int} {r : List Nat} (hr : x.cps.toList.drop k.toNat = r) (h0 : 0 ≤ k) (hk : k < x.length) (hj : j = k + 1) :
    Txt.slice x (some k) (some j) = ⟨(r.take 1).toArray⟩ := by
  subst hj
  rw [slice_eq h0 (by omega) (by omega), hr, show (k + 1 - k).toNat = 1 by omega]
theorem drop_some {x : Str} {k : Int} {r : List Nat} (hr : x.cps.toList.drop k.toNat = r) (h0 : 0 ≤ k) (hk : k < x.length) : (r.take 1).length = 1 := by
  have : x.cps.toList.length = x.length := by simp [Str.length]
  rw [List.length_take, ← hr, List.length_drop]
  omega
theorem drop_none {x : Str} {k : Int} {r : List Nat} (hr : x.cps.toList.drop k.toNat = r) (hk : (x.length : Int) ≤ k) : r = [] := by
  have : x.cps.toList.length = x.length := by simp [Str.length]
  rw [← hr, List.drop_eq_nil_iff]
  omega
local macro_rules | `(tactic| k_all) => `(tactic| assumption)
theorem read1 {w : World} {mean : ExcName → Option Value} {mg mb : Str → Option Value} {dp un : Nat} {gd : Option (List Code)} {cn : Str} {nms : List (Str × NameKind)} {mor : List (Str × Const)} {a : Addr} {ccd : Value} {cl : List (Str × Addr)} {outer : List Env} {A₀ : Around} {base h₀ : Heap} {L : Addr} {m : Str → Option Value} {s : Shared} {Q E : Value → Shared → Prop} {x : Str} {t t1 t2 t3 j1 j2 j3 : Tok} {i1 i2 i3 k : Int} {aS dS : Addr} {tail : List (Addr × Obj)} {r : List Nat} : Below A₀ base outer h₀ → Fr h₀ L s.heap m → (KK w.params).In h₀ → News h₀ L s.heap ((aS, instObj 592 dS) :: (dS, dictOf [⟨i1, .str (Str.ofString "_StringIO__newline") j1, .str (Str.ofString "\n") t1⟩, ⟨i2, .str (Str.ofString "_StringIO__buf") j2, .str x t2⟩, ⟨i3, .str (Str.ofString "_StringIO__pos") j3, .int k t3⟩] 3) :: tail) → Top vw LO mean mg mb h₀ → 
    dp + 20 < recursionLimit → un + 200 < cLine → x.length ≤ 100 → 0 ≤ k → k ≤ x.length → @LT.lt Nat _ dS aS → (∀ p ∈ tail, p.1 ≠ dS) → x.cps.toList.drop k.toNat = r →
    (∀ (y : Str) (k' : Int) (t' t3' : Tok) (h' : Heap) (tk : Nat), y = ⟨(r.take 1).toArray⟩ → k' = k + (r.take 1).length → Fr h₀ L h' m → News h₀ L h' ((aS, instObj 592 dS) :: (dS, dictOf [⟨i1, .str (Str.ofString "_StringIO__newline") j1, .str (Str.ofString "\n") t1⟩, ⟨i2, .str (Str.ofString "_StringIO__buf") j2, .str x t2⟩, ⟨i3, .str (Str.ofString "_StringIO__pos") j3, .int k' t3'⟩] 3) :: tail) → Q (.str y t') { s with heap := h', toks := tk }) →
    wpAny (model PySem.Challenge.rw_mq0369_01.row.prog w) (ktrTop dp un gd cn ⟨.function, nms, false, false, mor⟩ L a ccd cl outer) (call (.ref 538) [.ref aS, .int 1 t]) Q E s := by
  w_on
  k_fill
  intro B F X N T hd' hu hx hk0 hk1 hlt htl hr hret
  refine wpAny_call ?_
  k_dflt k_enter
  k_steps
  · refine hret _ _ _ _ _ _ ?_ ?_ (by k_asm) (by k_asm)
    · rw [drop_none hr (by omega)]; rfl
    · rw [drop_none hr (by omega)]; simp
  · refine hret _ _ _ _ _ _ ?_ ?_ (by k_asm) (by k_asm)
    · exact slice_one hr hk0 (by omega) rfl
    · rw [drop_some hr hk0 (by omega)]; rfl
  · refine hret _ _ _ _ _ _ ?_ ?_ (by k_asm) (by k_asm)
    · exact slice_one hr hk0 (by omega) (by omega)
    · rw [drop_some hr hk0 (by omega)]; omega
end Mine
end
section
open PySem PySem.W PyProof.Rows PySem.Calls PySem.Spec
set_option maxRecDepth 100000
set_option maxHeartbeats 0
namespace Mine
local macro_rules | `(tactic| walk_at "call builtin:object.__new__") => `(tactic| (k_here; k_dflt (refine' new592K ?k1 ?k2 ?k3 ?_; (case k1 => k_asm); (case k2 => k_asm); (case k3 => k_asm); k_whole; intro x' d' h' F' N' l1 l2; (try k_lt l1); (try k_lt2 l2); (try k_sweep))))
theorem lt_of_all {d : Nat} : ∀ {l : List (Addr × Obj)}, AllLt d l → ∀ p ∈ l, @LT.lt Nat _ p.1 d
  | [], _, p, hp => by cases hp
  | q :: r, h, p, hp => by
    cases hp with
    | head => exact h.1
    | tail _ hp => exact lt_of_all h.2 p hp
theorem drop_two {h₀ : Heap} {L : Addr} {h : Heap} {a b c d : Addr × Obj} {t : List (Addr × Obj)} (N : News h₀ L h (a :: b :: c :: d :: t)) : News h₀ L h (a :: b :: t) := fun p hp => N p (by
  simp only [List.mem_cons] at hp ⊢
  rcases hp with h | h | h <;> simp only [h, true_or, or_true])
theorem newIO {w : World} {mean : ExcName → Option Value} {mg mb : Str → Option Value} {dp un : Nat} {gd : Option (List Code)} {cn : Str} {nms : List (Str × NameKind)} {mor : List (Str × Const)} {a : Addr} {ccd : Value} {cl : List (Str × Addr)} {outer : List Env} {A₀ : Around} {base h₀ : Heap} {L : Addr} {m : Str → Option Value} {s : Shared} {Q E : Value → Shared → Prop} {x : Str} {t : Tok} {news : List (Addr × Obj)} : Below A₀ base outer h₀ → Fr h₀ L s.heap m → (KK w.params).In h₀ → News h₀ L s.heap (news) → Top vw LO mean mg mb h₀ → 
    dp + 60 < recursionLimit → un + 600 < cLine → x.length ≤ 100 →
    (∀ (aS dS : Addr) (t1 t2 t3 j1 j2 j3 : Tok) (i1 i2 i3 : Int) (h' : Heap) (tk' : Nat), (∀ p ∈ news, @LT.lt Nat _ p.1 dS) → @LT.lt Nat _ dS aS → Fr h₀ L h' m → News h₀ L h' ((aS, instObj 592 dS) :: (dS, dictOf [⟨i1, .str (Str.ofString "_StringIO__newline") j1, .str (Str.ofString "\n") t1⟩, ⟨i2, .str (Str.ofString "_StringIO__buf") j2, .str x t2⟩, ⟨i3, .str (Str.ofString "_StringIO__pos") j3, .int 0 t3⟩] 3) :: news) → Q (.ref aS) { s with heap := h', toks := tk' }) →
    wpAny (model PySem.Challenge.rw_mq0369_01.row.prog w) (ktrTop dp un gd cn ⟨.function, nms, false, false, mor⟩ L a ccd cl outer) (call (.ref 592) [.str x t]) Q E s := by
  w_on
  k_fill
  intro B F X N T hd' hu hx hret
  refine wpAny_call (own_call (X.keeps F.keep) (C := 592) (fN := 85) (fI := 362) rfl rfl rfl rfl (by k_is) (by k_is) (by k_is) (by k_is) (by k_is) (by k_is) (by k_is) (by k_is) ?_)
  k_dflt k_enter
  k_steps
  rename Fr _ _ _ _ => nF
  rename News _ _ _ _ => nE
  refine ⟨_, _, rfl, News.get nE (by k_mem), Frag.In.keeps (by k_asm) (Fr.keep nF), ?_⟩
  k_dflt k_enter
  k_steps
  rename Fr h₀ L _ m => kF
  rename News h₀ L _ _ => kN
  rename @LT.lt Nat _ _ _ ∧ @LT.lt Nat _ _ _ ∧ AllLt _ _ => l1
  exact hret _ _ _ _ _ _ _ _ _ _ _ _ _ (fun p hp => lt_of_all l1.2.2 p hp) (by assumption) kF (drop_two kN)
end Mine
end
section
open PySem PySem.W PyProof.Rows PySem.Calls PySem.Spec
set_option maxRecDepth 100000
set_option maxHeartbeats 0
namespace Mine

def Held (P : Prop) : Prop := P
theorem held {P : Prop} (h : Held P) : P := h
theorem cutF {α : Type} {M : Model} {A : Around} {t : Sem α} {Q : α → Shared → Prop} {E : Value → Shared → Prop} {s : Shared} {h₀ h : Heap} {L : Addr} {m : Str → Option Value} (_F : Fr h₀ L h m) (R : Heap → Addr → (α → Shared → Prop) → Prop) (h1 : ∀ Fin, R h₀ L Fin → wpAny M A t Fin E s) (h2 : R h₀ L Q) : wpAny M A t Q E s := h1 Q h2
theorem cutN {α τ : Type} {M : Model} {A : Around} {t : Sem α} {Q : α → Shared → Prop} {E : Value → Shared → Prop} {s : Shared} {h₀ h : Heap} {L : Addr} {m : Str → Option Value} (_F : Fr h₀ L h m) (v : α) (Led : τ → List (Addr × Obj))
    (h1 : ∀ Fin : α → Shared → Prop, (∀ c h' tk', Fr h₀ L h' m → News h₀ L h' (Led c) → Fin v { s with heap := h', toks := tk' }) → wpAny M A t Fin E s)
    (h2 : ∀ c h' tk', Fr h₀ L h' m → News h₀ L h' (Led c) → Q v { s with heap := h', toks := tk' }) : wpAny M A t Q E s := h1 Q h2
theorem fr_kst {h₀ h : Heap} {L : Addr} {m : Str → Option Value} {ps : List (Str × Value)} (F : Fr h₀ L h m) (h1 : ∀ p ∈ ps, m p.1 = some p.2) : Fr h₀ L h (kstB m ps) := by
  have e : kstB m ps = m := by
    funext y
    exact kstB_eq h1 fun _ => rfl
  rw [e]
  exact F
theorem raised_mono {base G : Heap} {l : List Env} {e t : Addr} {cls : Value} {vs : List Value} {news news' : List (Addr × Obj)} {h : Heap} (R : RaisedS base G l e cls t vs news h) (hs : ∀ p ∈ news', p ∈ news) : RaisedS base G l e cls t vs news' h := by
  obtain ⟨⟨B, h1, h2, h3, h4⟩, h5⟩ := R
  exact ⟨⟨B, h1, h2, fun q hq => h3 q (hs q hq), h4⟩, h5⟩
def endSt (eof : Bool) (t : Tok) : Value := if eof then .none else .str (Str.ofString " ") t
def GoodRS (st esc : Stt) (q : Bool) (tok : Str) : Prop := (st = .sp → tok = Str.ofString "" ∧ q = false) ∧ (st = .es → esc = .wd ∨ esc = .dq)
structure RS where
  k : Int
  t3 : Tok
  st : Stt
  ts : Tok
  ln : Int
  tl : Tok
  tok : Str
  tt : Tok
  q : Bool
  esc : Stt
  te : Tok
local macro_rules | `(tactic| k_all) => `(tactic| assumption)
local macro_rules | `(tactic| walk_at "leaving ref") => `(tactic| (k_here; first
  | (refine' leave_raiseS ?k1 ?k0 ?k2 ?k3 ?_; (case k0 => first | assumption | exact Heap.MadeExc.of (by assumption)); (case k2 => assumption); (case k1 => assumption); (case k3 => k_asm); k_whole; intro h' t' S' R' U'; (try clear R'); (try dsimp only at S' U' ⊢))
  | (refine' leave_onS ?k1 ?k2 ?k3 ?k4 ?_; (case k3 => assumption); (case k2 => assumption); (case k1 => assumption); (case k4 => assumption); k_whole; intro h' S' R' U'; (try clear R'); (try dsimp only at S' U' ⊢))))
local macro_rules | `(tactic| walk_at "call ref") => `(tactic| k_extra "call!")
local macro_rules | `(tactic| walk_at "compareOp In str str") => `(tactic| (with_reducible refine in_one (by first | assumption | exact hasC_nil _) ?_))
local macro_rules | `(tactic| walk_at "compareOp In str str") => `(tactic| first | refine in_lit true (by decide +kernel) ?_ | refine in_lit false (by decide +kernel) ?_)
local macro_rules | `(tactic| walk_at "compareOp NotIn str str") => `(tactic| (with_reducible refine notIn_one (by first | assumption | exact hasC_nil _) ?_))
local macro_rules | `(tactic| walk_at "compareOp Eq str str") => `(tactic| (with_reducible refine eq_one (by assumption) ?_))
local macro_rules | `(tactic| walk_at "compareOp Eq str str") => `(tactic| (with_reducible refine eq_lit _ (by assumption) ?_))
local macro_rules | `(tactic| walk_at "compareOp Eq str str") => `(tactic| first | refine eq_lit true (by decide +kernel) ?_ | refine eq_lit false (by decide +kernel) ?_)
local macro_rules | `(tactic| walk_at "compareOp NotEq str str") => `(tactic| (with_reducible refine ne_one (by assumption) ?_))
local macro_rules | `(tactic| walk_at "truthy str") => `(tactic| (with_reducible refine truthy_one ?_; intro _))
local macro_rules | `(tactic| walk_at "truthy str") => `(tactic| (with_reducible refine truthy_ne (by assumption) (by omega) ?_; intro _))
theorem szK : 1000 ≤ sizeLine := by decide
theorem meas {n : Nat} {kk : Int} (h0 : 0 ≤ kk) (h : kk + 1 ≤ (n : Int)) : n - (kk + 1).toNat < n - kk.toNat := by omega
theorem tl1 {n : Nat} {kk : Int} (h0 : 0 ≤ kk) (h : n ≤ 2 * kk.toNat) : n + 1 ≤ 2 * (kk + 1).toNat := by omega
theorem tl2 {n : Nat} {kk : Int} (h0 : 0 ≤ kk) (h : n ≤ 2 * kk.toNat) : n + 1 + 1 ≤ 2 * (kk + 1).toNat := by omega
theorem szA {n m : Nat} {kk : Int} {c : Nat} (h1 : n ≤ 2 * kk.toNat) (h2 : kk + 1 ≤ (m : Int)) (h3 : m ≤ 100) : n + (⟨#[c]⟩ : Str).length ≤ sizeLine := Nat.le_trans (by show n + 1 ≤ 1000; omega : _ ≤ 1000) szK
theorem szB {n m : Nat} {kk : Int} (h1 : n ≤ 2 * kk.toNat) (h2 : kk + 1 ≤ (m : Int)) (h3 : m ≤ 100) : n + (Str.ofString "\\").length ≤ sizeLine := Nat.le_trans (by show n + 1 ≤ 1000; omega : _ ≤ 1000) szK
theorem szC {z : Str} {m : Nat} {kk : Int} {c : Nat} (h1 : z.length ≤ 2 * kk.toNat) (h2 : kk + 1 ≤ (m : Int)) (h3 : m ≤ 100) : (z ++ Str.ofString "\\").length + (⟨#[c]⟩ : Str).length ≤ sizeLine := Nat.le_trans (by rw [Str.length_append]; show z.length + 1 + 1 ≤ 1000; omega : _ ≤ 1000) szK
local macro_rules | `(tactic| walk_at "inplaceOp Add str str") => `(tactic| ((refine SBL.iadd (hsz := ?hsz) ?_); (case hsz => first | exact szA (by assumption) (by assumption) (by assumption) | exact szB (by assumption) (by assumption) (by assumption) | exact szC (by assumption) (by assumption) (by assumption)); intro _ _ _))
theorem k1pos {kk : Int} (h0 : 0 ≤ kk) : 0 ≤ kk + 1 := by omega
theorem cutQ {α : Type} {M : Model} {A : Around} {t : Sem α} {Q : α → Shared → Prop} {E : Value → Shared → Prop} {s : Shared} (h : ∀ Fin : α → Shared → Prop, (∀ f s', Q f s' → Fin f s') → wpAny M A t Fin E s) : wpAny M A t Q E s := h Q fun _ _ h => h
theorem tok_ne {x : Str} (h : ¬ x.length = 0) : x.cps.toList ≠ [] := by
  intro e
  apply h
  have := congrArg List.length e
  simpa [Str.length] using this
theorem len_append_bs (x : Str) : (x ++ (Str.ofString "\\")).length = x.length + 1 := by rw [Str.length_append]; rfl
theorem cps_append_bs (x : Str) : (x ++ (Str.ofString "\\")).cps.toList = x.cps.toList ++ [92] := by
  rw [Str.cps_append, Array.toList_append]; rfl
theorem len_append_dq (x : Str) : (x ++ (Str.ofString "\"")).length = x.length + 1 := by rw [Str.length_append]; rfl
theorem cps_append_dq (x : Str) : (x ++ (Str.ofString "\"")).cps.toList = x.cps.toList ++ [34] := by
  rw [Str.cps_append, Array.toList_append]; rfl
theorem rtok {w : World} {mean : ExcName → Option Value} {mg mb : Str → Option Value} {dp un : Nat} {gd : Option (List Code)} {cn : Str} {nms : List (Str × NameKind)} {mor : List (Str × Const)} {a : Addr} {ccd : Value} {cl : List (Str × Addr)} {outer : List Env} {A₀ : Around} {base h₀ : Heap} {L : Addr} {m : Str → Option Value} {s : Shared} {Q E : Value → Shared → Prop} {x : Str} {t1 t2 t3 j1 j2 j3 : Tok} {i1 i2 i3 k : Int} {aS dS : Addr}{wc : Str} {u0 u1 u2 u3 u4 u5 u6 u7 q0 q1 q2 q3 q4 q5 q6 q7 q8 q9 q10 q11 q12 q13 q14 q15 q16 q17 q18 : Tok} {g0 g1 g2 g3 g4 g5 g6 g7 g8 g9 g10 g11 g12 g13 g14 g15 g16 g17 g18 : Int} {aX dX aP aF : Addr}{ts tt tl : Tok} {ln : Int} {tail : List (Addr × Obj)} {ρ : Out} : Below A₀ base outer h₀ → Fr h₀ L s.heap m → (KK w.params).In h₀ → News h₀ L s.heap ((aS, instObj 592 dS) :: (dS, dictOf [⟨i1, .str (Str.ofString "_StringIO__newline") j1, .str (Str.ofString "\n") t1⟩, ⟨i2, .str (Str.ofString "_StringIO__buf") j2, .str x t2⟩, ⟨i3, .str (Str.ofString "_StringIO__pos") j3, .int k t3⟩] 3) :: (aX, instObj 727 dX) :: (dX, dictOf [⟨g0, .str (Str.ofString "instream") q0, .ref aS⟩, ⟨g1, .str (Str.ofString "infile") q1, .none⟩, ⟨g2, .str (Str.ofString "posix") q2, .bool true⟩, ⟨g3, .str (Str.ofString "eof") q3, .none⟩, ⟨g4, .str (Str.ofString "commenters") q4, .str (Str.ofString "") u0⟩, ⟨g5, .str (Str.ofString "wordchars") q5, .str wc u1⟩, ⟨g6, .str (Str.ofString "whitespace") q6, .str (Str.ofString " \t\r\n") u2⟩, ⟨g7, .str (Str.ofString "whitespace_split") q7, .bool true⟩, ⟨g8, .str (Str.ofString "quotes") q8, .str (Str.ofString "'\"") u3⟩, ⟨g9, .str (Str.ofString "escape") q9, .str (Str.ofString "\\") u4⟩, ⟨g10, .str (Str.ofString "escapedquotes") q10, .str (Str.ofString "\"") u5⟩, ⟨g11, .str (Str.ofString "state") q11, .str (Str.ofString " ") ts⟩, ⟨g12, .str (Str.ofString "pushback") q12, .ref aP⟩, ⟨g13, .str (Str.ofString "lineno") q13, .int ln tl⟩, ⟨g14, .str (Str.ofString "debug") q14, .int 0 u6⟩, ⟨g15, .str (Str.ofString "token") q15, .str (Str.ofString "") tt⟩, ⟨g16, .str (Str.ofString "filestack") q16, .ref aF⟩, ⟨g17, .str (Str.ofString "source") q17, .none⟩, ⟨g18, .str (Str.ofString "_punctuation_chars") q18, .str (Str.ofString "") u7⟩] 19) :: tail) → Top vw LO mean mg mb h₀ → 
    dp + 40 < recursionLimit → un + 400 < cLine → x.length ≤ 100 → 0 ≤ k → k ≤ x.length → rt (x.cps.toList.drop k.toNat) .sp .sp false [] = ρ → ρ ≠ .noEsc → (∀ p ∈ tail, p.1 ≠ dS) → (∀ p ∈ tail, p.1 ≠ dX) → @LT.lt Nat _ dS aS → @LT.lt Nat _ dX aX → @LT.lt Nat _ aX dS → hasC wc 34 = false → hasC wc 39 = false →
    (∀ (tok' : Str) (q' eof' : Bool) (rest : List Nat) (k' ln' : Int) (tv t3' ts' tl' tt' : Tok) (h' : Heap) (tk' : Nat), ρ = .fin tok'.cps.toList q' eof' rest → x.cps.toList.drop k'.toNat = rest → 0 ≤ k' → k' ≤ x.length → tok'.length ≤ 200 → Fr h₀ L h' m → News h₀ L h' ((aS, instObj 592 dS) :: (dS, dictOf [⟨i1, .str (Str.ofString "_StringIO__newline") j1, .str (Str.ofString "\n") t1⟩, ⟨i2, .str (Str.ofString "_StringIO__buf") j2, .str x t2⟩, ⟨i3, .str (Str.ofString "_StringIO__pos") j3, .int k' t3'⟩] 3) :: (aX, instObj 727 dX) :: (dX, dictOf [⟨g0, .str (Str.ofString "instream") q0, .ref aS⟩, ⟨g1, .str (Str.ofString "infile") q1, .none⟩, ⟨g2, .str (Str.ofString "posix") q2, .bool true⟩, ⟨g3, .str (Str.ofString "eof") q3, .none⟩, ⟨g4, .str (Str.ofString "commenters") q4, .str (Str.ofString "") u0⟩, ⟨g5, .str (Str.ofString "wordchars") q5, .str wc u1⟩, ⟨g6, .str (Str.ofString "whitespace") q6, .str (Str.ofString " \t\r\n") u2⟩, ⟨g7, .str (Str.ofString "whitespace_split") q7, .bool true⟩, ⟨g8, .str (Str.ofString "quotes") q8, .str (Str.ofString "'\"") u3⟩, ⟨g9, .str (Str.ofString "escape") q9, .str (Str.ofString "\\") u4⟩, ⟨g10, .str (Str.ofString "escapedquotes") q10, .str (Str.ofString "\"") u5⟩, ⟨g11, .str (Str.ofString "state") q11, endSt eof' ts'⟩, ⟨g12, .str (Str.ofString "pushback") q12, .ref aP⟩, ⟨g13, .str (Str.ofString "lineno") q13, (.int ln' tl')⟩, ⟨g14, .str (Str.ofString "debug") q14, .int 0 u6⟩, ⟨g15, .str (Str.ofString "token") q15, .str (Str.ofString "") tt'⟩, ⟨g16, .str (Str.ofString "filestack") q16, .ref aF⟩, ⟨g17, .str (Str.ofString "source") q17, .none⟩, ⟨g18, .str (Str.ofString "_punctuation_chars") q18, .str (Str.ofString "") u7⟩] 19) :: tail) → 
      Q (if q' = false ∧ tok' = Str.ofString "" then .none else .str tok' tv) { s with heap := h', toks := tk' }) →
    (∀ (e te : Addr) (tm : Tok) (g₂ h' : Heap) (tk' : Nat), ρ = .noClose → Fr h₀ L g₂ m → g₂.UpToSlots h' → RaisedS base g₂ ((envX cn ⟨.function, nms, false, false, mor⟩ L a ccd cl) :: outer) e (.type "ValueError") te [.str (Str.ofString "No closing quotation") tm] tail h' → E (.ref e) { s with heap := h', toks := tk' }) → 
    wpAny (model PySem.Challenge.rw_mq0369_01.row.prog w) (ktrTop dp un gd cn ⟨.function, nms, false, false, mor⟩ L a ccd cl outer) (call (.ref 695) [.ref aX]) Q E s := by
  w_on
  k_fill
  intro B F X N T hd' hu hx hk0 hk1 hr hne htS htX h1 h2 h3 hw1 hw2 hret hraise
  refine wpAny_call ?_
  k_dflt k_enter
  k_with_none
  k_with "exec While Constant cons nil" => (refine held ?_)
  k_steps
  unfold Held
  rename Fr _ _ _ _ => F1
  rename News _ _ _ _ => N1
  rename Below _ _ _ _ => B1
  refine cutF F1 (fun g L' Fin => ∀ (tok' : Str) (q' eof' : Bool) (rest : List Nat) (k' ln' : Int) (t3' ts' tl' tt' : Tok) (h' : Heap) (tk' : Nat) (um : Str → Option Value), ρ = .fin tok'.cps.toList q' eof' rest → x.cps.toList.drop k'.toNat = rest → 0 ≤ k' → k' ≤ x.length → tok'.length ≤ 200 → Fr g L' h' (kstB um [(Str.ofString "quoted", .bool q'), (Str.ofString "self", .ref aX)]) → News g L' h' ((aS, instObj 592 dS) :: (dS, dictOf [⟨i1, .str (Str.ofString "_StringIO__newline") j1, .str (Str.ofString "\n") t1⟩, ⟨i2, .str (Str.ofString "_StringIO__buf") j2, .str x t2⟩, ⟨i3, .str (Str.ofString "_StringIO__pos") j3, .int k' t3'⟩] 3) :: (aX, instObj 727 dX) :: (dX, dictOf [⟨g0, .str (Str.ofString "instream") q0, .ref aS⟩, ⟨g1, .str (Str.ofString "infile") q1, .none⟩, ⟨g2, .str (Str.ofString "posix") q2, .bool true⟩, ⟨g3, .str (Str.ofString "eof") q3, .none⟩, ⟨g4, .str (Str.ofString "commenters") q4, .str (Str.ofString "") u0⟩, ⟨g5, .str (Str.ofString "wordchars") q5, .str wc u1⟩, ⟨g6, .str (Str.ofString "whitespace") q6, .str (Str.ofString " \t\r\n") u2⟩, ⟨g7, .str (Str.ofString "whitespace_split") q7, .bool true⟩, ⟨g8, .str (Str.ofString "quotes") q8, .str (Str.ofString "'\"") u3⟩, ⟨g9, .str (Str.ofString "escape") q9, .str (Str.ofString "\\") u4⟩, ⟨g10, .str (Str.ofString "escapedquotes") q10, .str (Str.ofString "\"") u5⟩, ⟨g11, .str (Str.ofString "state") q11, endSt eof' ts'⟩, ⟨g12, .str (Str.ofString "pushback") q12, .ref aP⟩, ⟨g13, .str (Str.ofString "lineno") q13, (.int ln' tl')⟩, ⟨g14, .str (Str.ofString "debug") q14, .int 0 u6⟩, ⟨g15, .str (Str.ofString "token") q15, (.str tok' tt')⟩, ⟨g16, .str (Str.ofString "filestack") q16, .ref aF⟩, ⟨g17, .str (Str.ofString "source") q17, .none⟩, ⟨g18, .str (Str.ofString "_punctuation_chars") q18, .str (Str.ofString "") u7⟩] 19) :: tail) → Fin .next { s with heap := h', toks := tk' }) ?_ ?_
  rotate_left
  · intro tok' q' eof' rest k' ln' t3' ts' tl' tt' h' tk' um e1 e2 e3 e4 e5 F6 N6
    clear F1 N1
    have hv := fun tv (tt'' : Tok) (h'' : Heap) (tk'' : Nat) => hret tok' q' eof' rest k' ln' tv t3' ts' tl' tt'' h'' tk'' e1 e2 e3 e4 e5
    cases q'
    · by_cases ht : tok'.length = 0
      · have e6 := nil_of ht
        subst e6
        k_steps
        rename Fr _ _ _ _ => nF
        rename News _ _ _ _ => nE
        exact hv 0 _ _ _ nF nE
      · have f0 : (tok' == Str.ofString "") = false := by
          rw [beq_eq_false_iff_ne]
          intro e
          subst e
          exact ht rfl
        have f1 : ¬ (tok' = Str.ofString "") := by
          intro e
          rw [e] at ht
          exact ht rfl
        simp only [f1, and_false, if_false] at hv
        k_steps
        rename Fr _ _ _ _ => nF
        rename News _ _ _ _ => nE
        exact hv _ _ _ _ nF nE
    · k_steps
      rename Fr _ _ _ _ => nF
      rename News _ _ _ _ => nE
      exact hv _ _ _ _ nF nE

  intro Fin hfin
  obtain ⟨mm, te0, F1', hmm⟩ : ∃ mm te0, Fr _ _ _ mm ∧ ∀ p ∈ [(Str.ofString "quoted", Value.bool false), (Str.ofString "escapedstate", Value.str (Str.ofString " ") te0), (Str.ofString "self", Value.ref aX)], mm p.1 = some p.2 := ⟨_, _, F1, by kst_all⟩
  clear F1
  refine' ksw_while (σ := RS) (fun c => (aS, instObj 592 dS) :: (dS, dictOf [⟨i1, .str (Str.ofString "_StringIO__newline") j1, .str (Str.ofString "\n") t1⟩, ⟨i2, .str (Str.ofString "_StringIO__buf") j2, .str x t2⟩, ⟨i3, .str (Str.ofString "_StringIO__pos") j3, .int c.k c.t3⟩] 3) :: (aX, instObj 727 dX) :: (dX, dictOf [⟨g0, .str (Str.ofString "instream") q0, .ref aS⟩, ⟨g1, .str (Str.ofString "infile") q1, .none⟩, ⟨g2, .str (Str.ofString "posix") q2, .bool true⟩, ⟨g3, .str (Str.ofString "eof") q3, .none⟩, ⟨g4, .str (Str.ofString "commenters") q4, .str (Str.ofString "") u0⟩, ⟨g5, .str (Str.ofString "wordchars") q5, .str wc u1⟩, ⟨g6, .str (Str.ofString "whitespace") q6, .str (Str.ofString " \t\r\n") u2⟩, ⟨g7, .str (Str.ofString "whitespace_split") q7, .bool true⟩, ⟨g8, .str (Str.ofString "quotes") q8, .str (Str.ofString "'\"") u3⟩, ⟨g9, .str (Str.ofString "escape") q9, .str (Str.ofString "\\") u4⟩, ⟨g10, .str (Str.ofString "escapedquotes") q10, .str (Str.ofString "\"") u5⟩, ⟨g11, .str (Str.ofString "state") q11, .str c.st.str c.ts⟩, ⟨g12, .str (Str.ofString "pushback") q12, .ref aP⟩, ⟨g13, .str (Str.ofString "lineno") q13, .int c.ln c.tl⟩, ⟨g14, .str (Str.ofString "debug") q14, .int 0 u6⟩, ⟨g15, .str (Str.ofString "token") q15, .str c.tok c.tt⟩, ⟨g16, .str (Str.ofString "filestack") q16, .ref aF⟩, ⟨g17, .str (Str.ofString "source") q17, .none⟩, ⟨g18, .str (Str.ofString "_punctuation_chars") q18, .str (Str.ofString "") u7⟩] 19) :: tail) (fun c => [(Str.ofString "quoted", .bool c.q), (Str.ofString "escapedstate", .str c.esc.str c.te), (Str.ofString "self", .ref aX)]) (fun _ => True) [Str.ofString "nextchar"] (fun c => 0 ≤ c.k ∧ c.k ≤ x.length ∧ c.tok.length ≤ 2 * c.k.toNat ∧ GoodRS c.st c.esc c.q c.tok ∧ rt (x.cps.toList.drop c.k.toNat) c.st c.esc c.q c.tok.cps.toList = ρ) (fun c => x.length - c.k.toNat) ⟨k, t3, .sp, ts, ln, tl, (Str.ofString ""), tt, false, .sp, te0⟩ F1' N1 trivial hmm ?hp ?turn
  case hp => exact ⟨hk0, hk1, Nat.zero_le _, ⟨fun _ => ⟨rfl, rfl⟩, fun h => (by cases h)⟩, hr⟩
  case turn =>
    intro c u h tk _ hP F2 N2
    obtain ⟨kk, kt3, kst, kts, kln, ktl, ktok, ktt, kq, kesc, kte⟩ := c
    dsimp only at hP F2 N2
    clear F1' N1
    obtain ⟨p1, p2, p3, p4, p5⟩ := hP
    have htl : ∀ p ∈ (aX, instObj 727 dX) :: (dX, dictOf [⟨g0, .str (Str.ofString "instream") q0, .ref aS⟩, ⟨g1, .str (Str.ofString "infile") q1, .none⟩, ⟨g2, .str (Str.ofString "posix") q2, .bool true⟩, ⟨g3, .str (Str.ofString "eof") q3, .none⟩, ⟨g4, .str (Str.ofString "commenters") q4, .str (Str.ofString "") u0⟩, ⟨g5, .str (Str.ofString "wordchars") q5, .str wc u1⟩, ⟨g6, .str (Str.ofString "whitespace") q6, .str (Str.ofString " \t\r\n") u2⟩, ⟨g7, .str (Str.ofString "whitespace_split") q7, .bool true⟩, ⟨g8, .str (Str.ofString "quotes") q8, .str (Str.ofString "'\"") u3⟩, ⟨g9, .str (Str.ofString "escape") q9, .str (Str.ofString "\\") u4⟩, ⟨g10, .str (Str.ofString "escapedquotes") q10, .str (Str.ofString "\"") u5⟩, ⟨g11, .str (Str.ofString "state") q11, .str kst.str kts⟩, ⟨g12, .str (Str.ofString "pushback") q12, .ref aP⟩, ⟨g13, .str (Str.ofString "lineno") q13, .int kln ktl⟩, ⟨g14, .str (Str.ofString "debug") q14, .int 0 u6⟩, ⟨g15, .str (Str.ofString "token") q15, .str ktok ktt⟩, ⟨g16, .str (Str.ofString "filestack") q16, .ref aF⟩, ⟨g17, .str (Str.ofString "source") q17, .none⟩, ⟨g18, .str (Str.ofString "_punctuation_chars") q18, .str (Str.ofString "") u7⟩] 19) :: tail, p.1 ≠ dS := by
      intro p hp
      simp only [List.mem_cons] at hp
      rcases hp with rfl | rfl | hp
      · exact neN (by dsimp only; omega)
      · exact neN (by dsimp only; omega)
      · exact htS p hp
    k_with_none
    k_with "execs cons" => (refine held ?_)
    k_steps
    unfold Held
    k_with_none
    refine cutQ ?_
    intro FinT hFinT
    k_with_none
    k_with "call!" => k_dflt (refine' read1 ?rB ?rF ?rX ?rN ?rT ?rd ?ru hx p1 p2 h1 htl rfl ?_; (case rB => k_asm); (case rF => k_asm); (case rX => k_asm); (case rN => k_asm); (case rT => k_asm); (case rd => ktr_room); (case ru => ktr_units); intro y k' t' t3' h' tk' hy hk' F' N')
    k_with "exec If" => ((with_reducible show wpAny _ _ (exec (Stmt.If (Expr.Compare (Expr.Name _ _) [CmpOp.Eq] [Expr.Constant (Const.str _) _ _] _) _ _ _) _) _ _ _); refine held ?_)
    k_steps
    unfold Held
    rename Fr _ _ _ _ => F3
    rename News _ _ _ _ => N3
    k_with_none
    refine cutN F3 .next (fun c : Int × Tok => (aS, instObj 592 dS) :: (dS, dictOf [⟨i1, .str (Str.ofString "_StringIO__newline") j1, .str (Str.ofString "\n") t1⟩, ⟨i2, .str (Str.ofString "_StringIO__buf") j2, .str x t2⟩, ⟨i3, .str (Str.ofString "_StringIO__pos") j3, .int k' t3'⟩] 3) :: (aX, instObj 727 dX) :: (dX, dictOf [⟨g0, .str (Str.ofString "instream") q0, .ref aS⟩, ⟨g1, .str (Str.ofString "infile") q1, .none⟩, ⟨g2, .str (Str.ofString "posix") q2, .bool true⟩, ⟨g3, .str (Str.ofString "eof") q3, .none⟩, ⟨g4, .str (Str.ofString "commenters") q4, .str (Str.ofString "") u0⟩, ⟨g5, .str (Str.ofString "wordchars") q5, .str wc u1⟩, ⟨g6, .str (Str.ofString "whitespace") q6, .str (Str.ofString " \t\r\n") u2⟩, ⟨g7, .str (Str.ofString "whitespace_split") q7, .bool true⟩, ⟨g8, .str (Str.ofString "quotes") q8, .str (Str.ofString "'\"") u3⟩, ⟨g9, .str (Str.ofString "escape") q9, .str (Str.ofString "\\") u4⟩, ⟨g10, .str (Str.ofString "escapedquotes") q10, .str (Str.ofString "\"") u5⟩, ⟨g11, .str (Str.ofString "state") q11, .str kst.str kts⟩, ⟨g12, .str (Str.ofString "pushback") q12, .ref aP⟩, ⟨g13, .str (Str.ofString "lineno") q13, .int c.1 c.2⟩, ⟨g14, .str (Str.ofString "debug") q14, .int 0 u6⟩, ⟨g15, .str (Str.ofString "token") q15, .str ktok ktt⟩, ⟨g16, .str (Str.ofString "filestack") q16, .ref aF⟩, ⟨g17, .str (Str.ofString "source") q17, .none⟩, ⟨g18, .str (Str.ofString "_punctuation_chars") q18, .str (Str.ofString "") u7⟩] 19) :: tail) ?_ ?_
    · intro Fin2 hfin2
      k_steps
      all_goals exact hfin2 ⟨_, _⟩ _ _ (by k_asm) (by k_asm)
    clear F3 N3 htl
    rintro ⟨ln', tl'⟩ h4 tk4 F4 N4
    dsimp only at F4 N4
    k_with "exec If" => ((with_reducible show wpAny _ _ (exec (Stmt.If (Expr.Compare _ [CmpOp.Is] _ _) _ _ _) _) _ _ _); refine held ?_)
    k_steps
    unfold Held
    k_with_none
    rename Fr _ _ _ _ => F4
    rename News _ _ _ _ => N4
    cases kst
    all_goals dsimp only [Stt.str] at N4
    case sp =>
      obtain ⟨e1, e2⟩ := p4.1 rfl
      subst e1 e2
      k_with_none
      k_with "exec If" => ((with_reducible show wpAny _ _ (exec (Stmt.If (Expr.UnaryOp _ (Expr.Name _ _) _) _ _ _) _) _ _ _); refine held ?_)
      k_steps
      unfold Held
      k_with_none
      rename Fr _ _ _ _ => F4
      rename News _ _ _ _ => N4
      obtain ⟨l, hl⟩ : ∃ l, x.cps.toList.drop kk.toNat = l := ⟨_, rfl⟩
      rw [hl] at hy hk' p5
      cases l with
      | nil =>
        have hy' : y = Str.ofString "" := hy
        have hk2 : k' = kk := by simpa using hk'
        subst hy' hk2
        clear hy hk'
        k_steps
        rename Fr _ _ _ _ => nF
        rename News _ _ _ _ => nE
        first
        | exact hFinT _ _ (hfin (Str.ofString "") false true [] _ _ _ 0 _ _ _ _ _ (p5.symm) (hl) (by omega) (by omega) (by first | omega | exact Nat.zero_le _) (fr_kst nF (by kst_all)) nE)
        | exact hFinT _ _ (hfin (Str.ofString "") false true [] _ _ _ 0 _ _ _ _ _ (p5.symm) (hl) (by omega) (by omega) (by first | omega | exact Nat.zero_le _) (fr_kst nF (by kst_all)) (fun p hp => nE p (List.Mem.tail _ hp)))

      | cons c l =>
        have hy' : y = ⟨#[c]⟩ := hy
        have hk2 : k' = kk + 1 := by simpa using hk'
        have hl2 := drop_next p1 hl
        have hlt := drop_lt p1 hl
        subst hy' hk2
        clear hy hk'
        by_cases hw : isWs c = true
        · have fW : hasC (Str.ofString " \t\r\n") c = true := hw
          k_steps
          refine hFinT _ _ ?_
          rename Fr _ _ _ _ => nF
          rename News _ _ _ _ => nE
          first
          | refine ksw_end ⟨_, _, .sp, _, _, _, _, _, _, kesc, _⟩ nF nE (fun _ hp => hp) trivial (by kst_all) (by intro z z2 z3; simp only [List.forall_mem_cons, List.not_mem_nil, false_implies, implies_true, and_true, ne_eq] at z2; simp only [List.contains_cons, List.contains_nil, Bool.or_false, Bool.or_eq_false_iff, beq_eq_false_iff_ne, ne_eq] at z3; simp [kstB, z2, z3]) ?z4 ?z5
          | refine ksw_end ⟨_, _, .sp, _, _, _, _, _, _, kesc, _⟩ nF nE (fun _ hp => List.Mem.tail _ hp) trivial (by kst_all) (by intro z z2 z3; simp only [List.forall_mem_cons, List.not_mem_nil, false_implies, implies_true, and_true, ne_eq] at z2; simp only [List.contains_cons, List.contains_nil, Bool.or_false, Bool.or_eq_false_iff, beq_eq_false_iff_ne, ne_eq] at z3; simp [kstB, z2, z3]) ?z4 ?z5
          case z4 =>
            refine ⟨by dsimp only; first | exact k1pos p1 | omega, by dsimp only; first | assumption | omega, ?_, ?_, ?_⟩
            · dsimp only; exact Nat.zero_le _
            · exact ⟨fun _ => ⟨rfl, rfl⟩, fun h => (by cases h)⟩
            · dsimp only
              rw [hl2, ← p5]
              simp [rt, hw]; rfl
          case z5 => dsimp only; first | exact meas p1 (by assumption) | omega

        by_cases hc : c = 92
        · subst hc
          have fW : hasC (Str.ofString " \t\r\n") 92 = false := by decide +kernel
          have fE : hasC (Str.ofString "\\") 92 = true := by decide +kernel
          have fQ : hasC (Str.ofString "'\"") 92 = false := by decide +kernel
          k_steps
          refine hFinT _ _ ?_
          rename Fr _ _ _ _ => nF
          rename News _ _ _ _ => nE
          first
          | refine ksw_end ⟨_, _, .es, _, _, _, _, _, _, .wd, _⟩ nF nE (fun _ hp => hp) trivial (by kst_all) (by intro z z2 z3; simp only [List.forall_mem_cons, List.not_mem_nil, false_implies, implies_true, and_true, ne_eq] at z2; simp only [List.contains_cons, List.contains_nil, Bool.or_false, Bool.or_eq_false_iff, beq_eq_false_iff_ne, ne_eq] at z3; simp [kstB, z2, z3]) ?z4 ?z5
          | refine ksw_end ⟨_, _, .es, _, _, _, _, _, _, .wd, _⟩ nF nE (fun _ hp => List.Mem.tail _ hp) trivial (by kst_all) (by intro z z2 z3; simp only [List.forall_mem_cons, List.not_mem_nil, false_implies, implies_true, and_true, ne_eq] at z2; simp only [List.contains_cons, List.contains_nil, Bool.or_false, Bool.or_eq_false_iff, beq_eq_false_iff_ne, ne_eq] at z3; simp [kstB, z2, z3]) ?z4 ?z5
          case z4 =>
            refine ⟨by dsimp only; first | exact k1pos p1 | omega, by dsimp only; first | assumption | omega, ?_, ?_, ?_⟩
            · dsimp only; exact Nat.zero_le _
            · exact ⟨fun h => (by cases h), fun _ => .inl rfl⟩
            · dsimp only
              rw [hl2, ← p5]
              simp [rt, hw]; rfl
          case z5 => dsimp only; first | exact meas p1 (by assumption) | omega

        have h92 := hc
        by_cases hc : c = 34
        · subst hc
          have fW : hasC (Str.ofString " \t\r\n") 34 = false := by decide +kernel
          have fE : hasC (Str.ofString "\\") 34 = false := by decide +kernel
          have fQ : hasC (Str.ofString "'\"") 34 = true := by decide +kernel
          k_steps
          refine hFinT _ _ ?_
          rename Fr _ _ _ _ => nF
          rename News _ _ _ _ => nE
          first
          | refine ksw_end ⟨_, _, .dq, _, _, _, _, _, _, kesc, _⟩ nF nE (fun _ hp => hp) trivial (by kst_all) (by intro z z2 z3; simp only [List.forall_mem_cons, List.not_mem_nil, false_implies, implies_true, and_true, ne_eq] at z2; simp only [List.contains_cons, List.contains_nil, Bool.or_false, Bool.or_eq_false_iff, beq_eq_false_iff_ne, ne_eq] at z3; simp [kstB, z2, z3]) ?z4 ?z5
          | refine ksw_end ⟨_, _, .dq, _, _, _, _, _, _, kesc, _⟩ nF nE (fun _ hp => List.Mem.tail _ hp) trivial (by kst_all) (by intro z z2 z3; simp only [List.forall_mem_cons, List.not_mem_nil, false_implies, implies_true, and_true, ne_eq] at z2; simp only [List.contains_cons, List.contains_nil, Bool.or_false, Bool.or_eq_false_iff, beq_eq_false_iff_ne, ne_eq] at z3; simp [kstB, z2, z3]) ?z4 ?z5
          case z4 =>
            refine ⟨by dsimp only; first | exact k1pos p1 | omega, by dsimp only; first | assumption | omega, ?_, ?_, ?_⟩
            · dsimp only; exact Nat.zero_le _
            · exact ⟨fun h => (by cases h), fun h => (by cases h)⟩
            · dsimp only
              rw [hl2, ← p5]
              simp [rt, hw]; rfl
          case z5 => dsimp only; first | exact meas p1 (by assumption) | omega

        have h34 := hc
        by_cases hc : c = 39
        · subst hc
          have fW : hasC (Str.ofString " \t\r\n") 39 = false := by decide +kernel
          have fE : hasC (Str.ofString "\\") 39 = false := by decide +kernel
          have fQ : hasC (Str.ofString "'\"") 39 = true := by decide +kernel
          k_steps
          refine hFinT _ _ ?_
          rename Fr _ _ _ _ => nF
          rename News _ _ _ _ => nE
          first
          | refine ksw_end ⟨_, _, .sq, _, _, _, _, _, _, kesc, _⟩ nF nE (fun _ hp => hp) trivial (by kst_all) (by intro z z2 z3; simp only [List.forall_mem_cons, List.not_mem_nil, false_implies, implies_true, and_true, ne_eq] at z2; simp only [List.contains_cons, List.contains_nil, Bool.or_false, Bool.or_eq_false_iff, beq_eq_false_iff_ne, ne_eq] at z3; simp [kstB, z2, z3]) ?z4 ?z5
          | refine ksw_end ⟨_, _, .sq, _, _, _, _, _, _, kesc, _⟩ nF nE (fun _ hp => List.Mem.tail _ hp) trivial (by kst_all) (by intro z z2 z3; simp only [List.forall_mem_cons, List.not_mem_nil, false_implies, implies_true, and_true, ne_eq] at z2; simp only [List.contains_cons, List.contains_nil, Bool.or_false, Bool.or_eq_false_iff, beq_eq_false_iff_ne, ne_eq] at z3; simp [kstB, z2, z3]) ?z4 ?z5
          case z4 =>
            refine ⟨by dsimp only; first | exact k1pos p1 | omega, by dsimp only; first | assumption | omega, ?_, ?_, ?_⟩
            · dsimp only; exact Nat.zero_le _
            · exact ⟨fun h => (by cases h), fun h => (by cases h)⟩
            · dsimp only
              rw [hl2, ← p5]
              simp [rt, hw]; rfl
          case z5 => dsimp only; first | exact meas p1 (by assumption) | omega

        have fW : hasC (Str.ofString " \t\r\n") c = false := by simpa [isWs] using hw
        have fE : hasC (Str.ofString "\\") c = false := e_false h92
        have fQ : hasC (Str.ofString "'\"") c = false := q_false h34 hc
        cases fwc : hasC wc c
        all_goals
          k_steps
          refine hFinT _ _ ?_
          rename Fr _ _ _ _ => nF
          rename News _ _ _ _ => nE
          first
          | refine ksw_end ⟨_, _, .wd, _, _, _, _, _, _, kesc, _⟩ nF nE (fun _ hp => hp) trivial (by kst_all) (by intro z z2 z3; simp only [List.forall_mem_cons, List.not_mem_nil, false_implies, implies_true, and_true, ne_eq] at z2; simp only [List.contains_cons, List.contains_nil, Bool.or_false, Bool.or_eq_false_iff, beq_eq_false_iff_ne, ne_eq] at z3; simp [kstB, z2, z3]) ?z4 ?z5
          | refine ksw_end ⟨_, _, .wd, _, _, _, _, _, _, kesc, _⟩ nF nE (fun _ hp => List.Mem.tail _ hp) trivial (by kst_all) (by intro z z2 z3; simp only [List.forall_mem_cons, List.not_mem_nil, false_implies, implies_true, and_true, ne_eq] at z2; simp only [List.contains_cons, List.contains_nil, Bool.or_false, Bool.or_eq_false_iff, beq_eq_false_iff_ne, ne_eq] at z3; simp [kstB, z2, z3]) ?z4 ?z5
          case z4 =>
            refine ⟨by dsimp only; first | exact k1pos p1 | omega, by dsimp only; first | assumption | omega, ?_, ?_, ?_⟩
            · dsimp only; show 1 ≤ _; omega
            · exact ⟨fun h => (by cases h), fun h => (by cases h)⟩
            · dsimp only
              rw [hl2, ← p5]
              simp [rt, hw, h92, h34, hc]
          case z5 => dsimp only; first | exact meas p1 (by assumption) | omega



    case wd =>
      k_with_none
      k_with "exec If" => ((with_reducible show wpAny _ _ (exec (Stmt.If (Expr.UnaryOp _ (Expr.Name _ _) _) _ _ _) _) _ _ _); refine held ?_)
      k_steps
      unfold Held
      k_with_none
      rename Fr _ _ _ _ => F4
      rename News _ _ _ _ => N4
      obtain ⟨l, hl⟩ : ∃ l, x.cps.toList.drop kk.toNat = l := ⟨_, rfl⟩
      rw [hl] at hy hk' p5
      cases l with
      | nil =>
        have hy' : y = Str.ofString "" := hy
        have hk2 : k' = kk := by simpa using hk'
        subst hy' hk2
        clear hy hk'
        k_steps
        rename Fr _ _ _ _ => nF
        rename News _ _ _ _ => nE
        first
        | exact hFinT _ _ (hfin ktok kq true [] _ _ _ 0 _ _ _ _ _ (p5.symm) (hl) (by omega) (by omega) (by first | omega | exact Nat.zero_le _) (fr_kst nF (by kst_all)) nE)
        | exact hFinT _ _ (hfin ktok kq true [] _ _ _ 0 _ _ _ _ _ (p5.symm) (hl) (by omega) (by omega) (by first | omega | exact Nat.zero_le _) (fr_kst nF (by kst_all)) (fun p hp => nE p (List.Mem.tail _ hp)))

      | cons c l =>
        have hy' : y = ⟨#[c]⟩ := hy
        have hk2 : k' = kk + 1 := by simpa using hk'
        have hl2 := drop_next p1 hl
        have hlt := drop_lt p1 hl
        subst hy' hk2
        clear hy hk'
        by_cases hw : isWs c = true
        · have fW : hasC (Str.ofString " \t\r\n") c = true := hw
          by_cases ht : ktok.length = 0
          · have e1 := nil_of ht
            subst e1
            cases kq
            · k_steps
              refine hFinT _ _ ?_
              rename Fr _ _ _ _ => nF
              rename News _ _ _ _ => nE
              first
              | refine ksw_end ⟨_, _, .sp, _, _, _, _, _, _, kesc, _⟩ nF nE (fun _ hp => hp) trivial (by kst_all) (by intro z z2 z3; simp only [List.forall_mem_cons, List.not_mem_nil, false_implies, implies_true, and_true, ne_eq] at z2; simp only [List.contains_cons, List.contains_nil, Bool.or_false, Bool.or_eq_false_iff, beq_eq_false_iff_ne, ne_eq] at z3; simp [kstB, z2, z3]) ?z4 ?z5
              | refine ksw_end ⟨_, _, .sp, _, _, _, _, _, _, kesc, _⟩ nF nE (fun _ hp => List.Mem.tail _ hp) trivial (by kst_all) (by intro z z2 z3; simp only [List.forall_mem_cons, List.not_mem_nil, false_implies, implies_true, and_true, ne_eq] at z2; simp only [List.contains_cons, List.contains_nil, Bool.or_false, Bool.or_eq_false_iff, beq_eq_false_iff_ne, ne_eq] at z3; simp [kstB, z2, z3]) ?z4 ?z5
              case z4 =>
                refine ⟨by dsimp only; first | exact k1pos p1 | omega, by dsimp only; first | assumption | omega, ?_, ?_, ?_⟩
                · dsimp only; exact Nat.zero_le _
                · exact ⟨fun _ => ⟨rfl, rfl⟩, fun h => (by cases h)⟩
                · dsimp only
                  rw [hl2, ← p5]
                  simp [rt, hw]; rfl
              case z5 => dsimp only; first | exact meas p1 (by assumption) | omega
            · k_steps
              rename Fr _ _ _ _ => nF
              rename News _ _ _ _ => nE
              first
              | exact hFinT _ _ (hfin (Str.ofString "") true false l _ _ _ _ _ _ _ _ _ (by rw [← p5]; simp [rt, hw]) (hl2) (by omega) (by omega) (by first | omega | exact Nat.zero_le _) (fr_kst nF (by kst_all)) nE)
              | exact hFinT _ _ (hfin (Str.ofString "") true false l _ _ _ _ _ _ _ _ _ (by rw [← p5]; simp [rt, hw]) (hl2) (by omega) (by omega) (by first | omega | exact Nat.zero_le _) (fr_kst nF (by kst_all)) (fun p hp => nE p (List.Mem.tail _ hp)))
          · have htn : ktok.length ≠ 0 := ht
            k_steps
            rename Fr _ _ _ _ => nF
            rename News _ _ _ _ => nE
            first
            | exact hFinT _ _ (hfin ktok kq false l _ _ _ _ _ _ _ _ _ (by rw [← p5]; simp [rt, hw, tok_ne ht]) (hl2) (by omega) (by omega) (by first | omega | exact Nat.zero_le _) (fr_kst nF (by kst_all)) nE)
            | exact hFinT _ _ (hfin ktok kq false l _ _ _ _ _ _ _ _ _ (by rw [← p5]; simp [rt, hw, tok_ne ht]) (hl2) (by omega) (by omega) (by first | omega | exact Nat.zero_le _) (fr_kst nF (by kst_all)) (fun p hp => nE p (List.Mem.tail _ hp)))

        by_cases hc : c = 92
        · subst hc
          have fW : hasC (Str.ofString " \t\r\n") 92 = false := by decide +kernel
          have fE : hasC (Str.ofString "\\") 92 = true := by decide +kernel
          have fQ : hasC (Str.ofString "'\"") 92 = false := by decide +kernel
          k_steps
          refine hFinT _ _ ?_
          rename Fr _ _ _ _ => nF
          rename News _ _ _ _ => nE
          first
          | refine ksw_end ⟨_, _, .es, _, _, _, _, _, _, .wd, _⟩ nF nE (fun _ hp => hp) trivial (by kst_all) (by intro z z2 z3; simp only [List.forall_mem_cons, List.not_mem_nil, false_implies, implies_true, and_true, ne_eq] at z2; simp only [List.contains_cons, List.contains_nil, Bool.or_false, Bool.or_eq_false_iff, beq_eq_false_iff_ne, ne_eq] at z3; simp [kstB, z2, z3]) ?z4 ?z5
          | refine ksw_end ⟨_, _, .es, _, _, _, _, _, _, .wd, _⟩ nF nE (fun _ hp => List.Mem.tail _ hp) trivial (by kst_all) (by intro z z2 z3; simp only [List.forall_mem_cons, List.not_mem_nil, false_implies, implies_true, and_true, ne_eq] at z2; simp only [List.contains_cons, List.contains_nil, Bool.or_false, Bool.or_eq_false_iff, beq_eq_false_iff_ne, ne_eq] at z3; simp [kstB, z2, z3]) ?z4 ?z5
          case z4 =>
            refine ⟨by dsimp only; first | exact k1pos p1 | omega, by dsimp only; first | assumption | omega, ?_, ?_, ?_⟩
            · dsimp only; omega
            · exact ⟨fun h => (by cases h), fun _ => .inl rfl⟩
            · dsimp only
              rw [hl2, ← p5]
              simp [rt, hw]
          case z5 => dsimp only; first | exact meas p1 (by assumption) | omega

        have h92 := hc
        by_cases hc : c = 34
        · subst hc
          have fW : hasC (Str.ofString " \t\r\n") 34 = false := by decide +kernel
          have fE : hasC (Str.ofString "\\") 34 = false := by decide +kernel
          have fQ : hasC (Str.ofString "'\"") 34 = true := by decide +kernel
          k_steps
          refine hFinT _ _ ?_
          rename Fr _ _ _ _ => nF
          rename News _ _ _ _ => nE
          first
          | refine ksw_end ⟨_, _, .dq, _, _, _, _, _, _, kesc, _⟩ nF nE (fun _ hp => hp) trivial (by kst_all) (by intro z z2 z3; simp only [List.forall_mem_cons, List.not_mem_nil, false_implies, implies_true, and_true, ne_eq] at z2; simp only [List.contains_cons, List.contains_nil, Bool.or_false, Bool.or_eq_false_iff, beq_eq_false_iff_ne, ne_eq] at z3; simp [kstB, z2, z3]) ?z4 ?z5
          | refine ksw_end ⟨_, _, .dq, _, _, _, _, _, _, kesc, _⟩ nF nE (fun _ hp => List.Mem.tail _ hp) trivial (by kst_all) (by intro z z2 z3; simp only [List.forall_mem_cons, List.not_mem_nil, false_implies, implies_true, and_true, ne_eq] at z2; simp only [List.contains_cons, List.contains_nil, Bool.or_false, Bool.or_eq_false_iff, beq_eq_false_iff_ne, ne_eq] at z3; simp [kstB, z2, z3]) ?z4 ?z5
          case z4 =>
            refine ⟨by dsimp only; first | exact k1pos p1 | omega, by dsimp only; first | assumption | omega, ?_, ?_, ?_⟩
            · dsimp only; omega
            · exact ⟨fun h => (by cases h), fun h => (by cases h)⟩
            · dsimp only
              rw [hl2, ← p5]
              simp [rt, hw]
          case z5 => dsimp only; first | exact meas p1 (by assumption) | omega

        have h34 := hc
        by_cases hc : c = 39
        · subst hc
          have fW : hasC (Str.ofString " \t\r\n") 39 = false := by decide +kernel
          have fE : hasC (Str.ofString "\\") 39 = false := by decide +kernel
          have fQ : hasC (Str.ofString "'\"") 39 = true := by decide +kernel
          k_steps
          refine hFinT _ _ ?_
          rename Fr _ _ _ _ => nF
          rename News _ _ _ _ => nE
          first
          | refine ksw_end ⟨_, _, .sq, _, _, _, _, _, _, kesc, _⟩ nF nE (fun _ hp => hp) trivial (by kst_all) (by intro z z2 z3; simp only [List.forall_mem_cons, List.not_mem_nil, false_implies, implies_true, and_true, ne_eq] at z2; simp only [List.contains_cons, List.contains_nil, Bool.or_false, Bool.or_eq_false_iff, beq_eq_false_iff_ne, ne_eq] at z3; simp [kstB, z2, z3]) ?z4 ?z5
          | refine ksw_end ⟨_, _, .sq, _, _, _, _, _, _, kesc, _⟩ nF nE (fun _ hp => List.Mem.tail _ hp) trivial (by kst_all) (by intro z z2 z3; simp only [List.forall_mem_cons, List.not_mem_nil, false_implies, implies_true, and_true, ne_eq] at z2; simp only [List.contains_cons, List.contains_nil, Bool.or_false, Bool.or_eq_false_iff, beq_eq_false_iff_ne, ne_eq] at z3; simp [kstB, z2, z3]) ?z4 ?z5
          case z4 =>
            refine ⟨by dsimp only; first | exact k1pos p1 | omega, by dsimp only; first | assumption | omega, ?_, ?_, ?_⟩
            · dsimp only; omega
            · exact ⟨fun h => (by cases h), fun h => (by cases h)⟩
            · dsimp only
              rw [hl2, ← p5]
              simp [rt, hw]
          case z5 => dsimp only; first | exact meas p1 (by assumption) | omega

        have fW : hasC (Str.ofString " \t\r\n") c = false := by simpa [isWs] using hw
        have fE : hasC (Str.ofString "\\") c = false := e_false h92
        have fQ : hasC (Str.ofString "'\"") c = false := q_false h34 hc
        cases fwc : hasC wc c
        all_goals
          k_steps
          refine hFinT _ _ ?_
          rename Fr _ _ _ _ => nF
          rename News _ _ _ _ => nE
          first
          | refine ksw_end ⟨_, _, .wd, _, _, _, _, _, _, kesc, _⟩ nF nE (fun _ hp => hp) trivial (by kst_all) (by intro z z2 z3; simp only [List.forall_mem_cons, List.not_mem_nil, false_implies, implies_true, and_true, ne_eq] at z2; simp only [List.contains_cons, List.contains_nil, Bool.or_false, Bool.or_eq_false_iff, beq_eq_false_iff_ne, ne_eq] at z3; simp [kstB, z2, z3]) ?z4 ?z5
          | refine ksw_end ⟨_, _, .wd, _, _, _, _, _, _, kesc, _⟩ nF nE (fun _ hp => List.Mem.tail _ hp) trivial (by kst_all) (by intro z z2 z3; simp only [List.forall_mem_cons, List.not_mem_nil, false_implies, implies_true, and_true, ne_eq] at z2; simp only [List.contains_cons, List.contains_nil, Bool.or_false, Bool.or_eq_false_iff, beq_eq_false_iff_ne, ne_eq] at z3; simp [kstB, z2, z3]) ?z4 ?z5
          case z4 =>
            refine ⟨by dsimp only; first | exact k1pos p1 | omega, by dsimp only; first | assumption | omega, ?_, ?_, ?_⟩
            · dsimp only; rw [len_append_one]; first | exact tl1 p1 p3 | omega
            · exact ⟨fun h => (by cases h), fun h => (by cases h)⟩
            · dsimp only
              rw [hl2, ← p5]
              rw [cps_append_one]; simp [rt, hw, h92, h34, hc]
          case z5 => dsimp only; first | exact meas p1 (by assumption) | omega



    case dq =>
      k_with_none
      k_with "exec If" => ((with_reducible show wpAny _ _ (exec (Stmt.If (Expr.UnaryOp _ (Expr.Name _ _) _) _ _ _) _) _ _ _); refine held ?_)
      k_steps
      unfold Held
      k_with_none
      rename Fr _ _ _ _ => F4
      rename News _ _ _ _ => N4
      obtain ⟨l, hl⟩ : ∃ l, x.cps.toList.drop kk.toNat = l := ⟨_, rfl⟩
      rw [hl] at hy hk' p5
      cases l with
      | nil =>
        have hy' : y = Str.ofString "" := hy
        have hk2 : k' = kk := by simpa using hk'
        subst hy' hk2
        clear hy hk'
        k_steps
        rename RaisedS _ _ _ _ _ _ _ _ _ => nR
        exact hraise _ _ _ _ _ _ p5.symm (by k_asm) (by k_asm) (raised_mono nR fun p hp => by simp [hp])

      | cons c l =>
        have hy' : y = ⟨#[c]⟩ := hy
        have hk2 : k' = kk + 1 := by simpa using hk'
        have hl2 := drop_next p1 hl
        have hlt := drop_lt p1 hl
        subst hy' hk2
        clear hy hk'
        by_cases hc : c = 34
        · subst hc
          have f1 : ((⟨#[34]⟩ : Str) == (Str.ofString "\"")) = true := by decide +kernel
          k_steps
          refine hFinT _ _ ?_
          rename Fr _ _ _ _ => nF
          rename News _ _ _ _ => nE
          first
          | refine ksw_end ⟨_, _, .wd, _, _, _, _, _, _, kesc, _⟩ nF nE (fun _ hp => hp) trivial (by kst_all) (by intro z z2 z3; simp only [List.forall_mem_cons, List.not_mem_nil, false_implies, implies_true, and_true, ne_eq] at z2; simp only [List.contains_cons, List.contains_nil, Bool.or_false, Bool.or_eq_false_iff, beq_eq_false_iff_ne, ne_eq] at z3; simp [kstB, z2, z3]) ?z4 ?z5
          | refine ksw_end ⟨_, _, .wd, _, _, _, _, _, _, kesc, _⟩ nF nE (fun _ hp => List.Mem.tail _ hp) trivial (by kst_all) (by intro z z2 z3; simp only [List.forall_mem_cons, List.not_mem_nil, false_implies, implies_true, and_true, ne_eq] at z2; simp only [List.contains_cons, List.contains_nil, Bool.or_false, Bool.or_eq_false_iff, beq_eq_false_iff_ne, ne_eq] at z3; simp [kstB, z2, z3]) ?z4 ?z5
          case z4 =>
            refine ⟨by dsimp only; first | exact k1pos p1 | omega, by dsimp only; first | assumption | omega, ?_, ?_, ?_⟩
            · dsimp only; omega
            · exact ⟨fun h => (by cases h), fun h => (by cases h)⟩
            · dsimp only
              rw [hl2, ← p5]
              simp [rt]
          case z5 => dsimp only; first | exact meas p1 (by assumption) | omega

        have f1 : ((⟨#[c]⟩ : Str) == (Str.ofString "\"")) = false := one_ne rfl hc
        by_cases h92 : c = 92
        · subst h92
          have fE : hasC (Str.ofString "\\") 92 = true := by decide +kernel
          k_steps
          refine hFinT _ _ ?_
          rename Fr _ _ _ _ => nF
          rename News _ _ _ _ => nE
          first
          | refine ksw_end ⟨_, _, .es, _, _, _, _, _, _, .dq, _⟩ nF nE (fun _ hp => hp) trivial (by kst_all) (by intro z z2 z3; simp only [List.forall_mem_cons, List.not_mem_nil, false_implies, implies_true, and_true, ne_eq] at z2; simp only [List.contains_cons, List.contains_nil, Bool.or_false, Bool.or_eq_false_iff, beq_eq_false_iff_ne, ne_eq] at z3; simp [kstB, z2, z3]) ?z4 ?z5
          | refine ksw_end ⟨_, _, .es, _, _, _, _, _, _, .dq, _⟩ nF nE (fun _ hp => List.Mem.tail _ hp) trivial (by kst_all) (by intro z z2 z3; simp only [List.forall_mem_cons, List.not_mem_nil, false_implies, implies_true, and_true, ne_eq] at z2; simp only [List.contains_cons, List.contains_nil, Bool.or_false, Bool.or_eq_false_iff, beq_eq_false_iff_ne, ne_eq] at z3; simp [kstB, z2, z3]) ?z4 ?z5
          case z4 =>
            refine ⟨by dsimp only; first | exact k1pos p1 | omega, by dsimp only; first | assumption | omega, ?_, ?_, ?_⟩
            · dsimp only; omega
            · exact ⟨fun h => (by cases h), fun _ => .inr rfl⟩
            · dsimp only
              rw [hl2, ← p5]
              simp [rt]
          case z5 => dsimp only; first | exact meas p1 (by assumption) | omega

        have fE : hasC (Str.ofString "\\") c = false := e_false h92
        k_steps
        refine hFinT _ _ ?_
        rename Fr _ _ _ _ => nF
        rename News _ _ _ _ => nE
        first
        | refine ksw_end ⟨_, _, .dq, _, _, _, _, _, _, kesc, _⟩ nF nE (fun _ hp => hp) trivial (by kst_all) (by intro z z2 z3; simp only [List.forall_mem_cons, List.not_mem_nil, false_implies, implies_true, and_true, ne_eq] at z2; simp only [List.contains_cons, List.contains_nil, Bool.or_false, Bool.or_eq_false_iff, beq_eq_false_iff_ne, ne_eq] at z3; simp [kstB, z2, z3]) ?z4 ?z5
        | refine ksw_end ⟨_, _, .dq, _, _, _, _, _, _, kesc, _⟩ nF nE (fun _ hp => List.Mem.tail _ hp) trivial (by kst_all) (by intro z z2 z3; simp only [List.forall_mem_cons, List.not_mem_nil, false_implies, implies_true, and_true, ne_eq] at z2; simp only [List.contains_cons, List.contains_nil, Bool.or_false, Bool.or_eq_false_iff, beq_eq_false_iff_ne, ne_eq] at z3; simp [kstB, z2, z3]) ?z4 ?z5
        case z4 =>
          refine ⟨by dsimp only; first | exact k1pos p1 | omega, by dsimp only; first | assumption | omega, ?_, ?_, ?_⟩
          · dsimp only; rw [len_append_one]; first | exact tl1 p1 p3 | omega
          · exact ⟨fun h => (by cases h), fun h => (by cases h)⟩
          · dsimp only
            rw [hl2, ← p5]
            rw [cps_append_one]; simp [rt, hc, h92]
        case z5 => dsimp only; first | exact meas p1 (by assumption) | omega



    case sq =>
      k_with_none
      k_with "exec If" => ((with_reducible show wpAny _ _ (exec (Stmt.If (Expr.UnaryOp _ (Expr.Name _ _) _) _ _ _) _) _ _ _); refine held ?_)
      k_steps
      unfold Held
      k_with_none
      rename Fr _ _ _ _ => F4
      rename News _ _ _ _ => N4
      obtain ⟨l, hl⟩ : ∃ l, x.cps.toList.drop kk.toNat = l := ⟨_, rfl⟩
      rw [hl] at hy hk' p5
      cases l with
      | nil =>
        have hy' : y = Str.ofString "" := hy
        have hk2 : k' = kk := by simpa using hk'
        subst hy' hk2
        clear hy hk'
        k_steps
        rename RaisedS _ _ _ _ _ _ _ _ _ => nR
        exact hraise _ _ _ _ _ _ p5.symm (by k_asm) (by k_asm) (raised_mono nR fun p hp => by simp [hp])

      | cons c l =>
        have hy' : y = ⟨#[c]⟩ := hy
        have hk2 : k' = kk + 1 := by simpa using hk'
        have hl2 := drop_next p1 hl
        have hlt := drop_lt p1 hl
        subst hy' hk2
        clear hy hk'
        by_cases hc : c = 39
        · subst hc
          have f1 : ((⟨#[39]⟩ : Str) == (Str.ofString "'")) = true := by decide +kernel
          k_steps
          refine hFinT _ _ ?_
          rename Fr _ _ _ _ => nF
          rename News _ _ _ _ => nE
          first
          | refine ksw_end ⟨_, _, .wd, _, _, _, _, _, _, kesc, _⟩ nF nE (fun _ hp => hp) trivial (by kst_all) (by intro z z2 z3; simp only [List.forall_mem_cons, List.not_mem_nil, false_implies, implies_true, and_true, ne_eq] at z2; simp only [List.contains_cons, List.contains_nil, Bool.or_false, Bool.or_eq_false_iff, beq_eq_false_iff_ne, ne_eq] at z3; simp [kstB, z2, z3]) ?z4 ?z5
          | refine ksw_end ⟨_, _, .wd, _, _, _, _, _, _, kesc, _⟩ nF nE (fun _ hp => List.Mem.tail _ hp) trivial (by kst_all) (by intro z z2 z3; simp only [List.forall_mem_cons, List.not_mem_nil, false_implies, implies_true, and_true, ne_eq] at z2; simp only [List.contains_cons, List.contains_nil, Bool.or_false, Bool.or_eq_false_iff, beq_eq_false_iff_ne, ne_eq] at z3; simp [kstB, z2, z3]) ?z4 ?z5
          case z4 =>
            refine ⟨by dsimp only; first | exact k1pos p1 | omega, by dsimp only; first | assumption | omega, ?_, ?_, ?_⟩
            · dsimp only; omega
            · exact ⟨fun h => (by cases h), fun h => (by cases h)⟩
            · dsimp only
              rw [hl2, ← p5]
              simp [rt]
          case z5 => dsimp only; first | exact meas p1 (by assumption) | omega

        have f1 : ((⟨#[c]⟩ : Str) == (Str.ofString "'")) = false := one_ne rfl hc
        cases fE : hasC (Str.ofString "\\") c
        all_goals
          k_steps
          refine hFinT _ _ ?_
          rename Fr _ _ _ _ => nF
          rename News _ _ _ _ => nE
          first
          | refine ksw_end ⟨_, _, .sq, _, _, _, _, _, _, kesc, _⟩ nF nE (fun _ hp => hp) trivial (by kst_all) (by intro z z2 z3; simp only [List.forall_mem_cons, List.not_mem_nil, false_implies, implies_true, and_true, ne_eq] at z2; simp only [List.contains_cons, List.contains_nil, Bool.or_false, Bool.or_eq_false_iff, beq_eq_false_iff_ne, ne_eq] at z3; simp [kstB, z2, z3]) ?z4 ?z5
          | refine ksw_end ⟨_, _, .sq, _, _, _, _, _, _, kesc, _⟩ nF nE (fun _ hp => List.Mem.tail _ hp) trivial (by kst_all) (by intro z z2 z3; simp only [List.forall_mem_cons, List.not_mem_nil, false_implies, implies_true, and_true, ne_eq] at z2; simp only [List.contains_cons, List.contains_nil, Bool.or_false, Bool.or_eq_false_iff, beq_eq_false_iff_ne, ne_eq] at z3; simp [kstB, z2, z3]) ?z4 ?z5
          case z4 =>
            refine ⟨by dsimp only; first | exact k1pos p1 | omega, by dsimp only; first | assumption | omega, ?_, ?_, ?_⟩
            · dsimp only; rw [len_append_one]; first | exact tl1 p1 p3 | omega
            · exact ⟨fun h => (by cases h), fun h => (by cases h)⟩
            · dsimp only
              rw [hl2, ← p5]
              rw [cps_append_one]; simp [rt, hc]
          case z5 => dsimp only; first | exact meas p1 (by assumption) | omega



    case es =>
      k_with_none
      k_with "exec If" => ((with_reducible show wpAny _ _ (exec (Stmt.If (Expr.UnaryOp _ (Expr.Name _ _) _) _ _ _) _) _ _ _); refine held ?_)
      k_steps
      unfold Held
      k_with_none
      rename Fr _ _ _ _ => F4
      rename News _ _ _ _ => N4
      obtain ⟨l, hl⟩ : ∃ l, x.cps.toList.drop kk.toNat = l := ⟨_, rfl⟩
      rw [hl] at hy hk' p5
      cases l with
      | nil =>
        have hy' : y = Str.ofString "" := hy
        have hk2 : k' = kk := by simpa using hk'
        subst hy' hk2
        clear hy hk'
        exact absurd p5.symm hne
      | cons c l =>
        have hy' : y = ⟨#[c]⟩ := hy
        have hk2 : k' = kk + 1 := by simpa using hk'
        have hl2 := drop_next p1 hl
        have hlt := drop_lt p1 hl
        subst hy' hk2
        clear hy hk'
        rcases p4.2 rfl with e1 | e1
        · subst e1
          dsimp only [Stt.str] at F4
          k_steps
          refine hFinT _ _ ?_
          rename Fr _ _ _ _ => nF
          rename News _ _ _ _ => nE
          first
          | refine ksw_end ⟨_, _, .wd, _, _, _, _, _, _, .wd, _⟩ nF nE (fun _ hp => hp) trivial (by kst_all) (by intro z z2 z3; simp only [List.forall_mem_cons, List.not_mem_nil, false_implies, implies_true, and_true, ne_eq] at z2; simp only [List.contains_cons, List.contains_nil, Bool.or_false, Bool.or_eq_false_iff, beq_eq_false_iff_ne, ne_eq] at z3; simp [kstB, z2, z3]) ?z4 ?z5
          | refine ksw_end ⟨_, _, .wd, _, _, _, _, _, _, .wd, _⟩ nF nE (fun _ hp => List.Mem.tail _ hp) trivial (by kst_all) (by intro z z2 z3; simp only [List.forall_mem_cons, List.not_mem_nil, false_implies, implies_true, and_true, ne_eq] at z2; simp only [List.contains_cons, List.contains_nil, Bool.or_false, Bool.or_eq_false_iff, beq_eq_false_iff_ne, ne_eq] at z3; simp [kstB, z2, z3]) ?z4 ?z5
          case z4 =>
            refine ⟨by dsimp only; first | exact k1pos p1 | omega, by dsimp only; first | assumption | omega, ?_, ?_, ?_⟩
            · dsimp only; rw [len_append_one]; first | exact tl1 p1 p3 | omega
            · exact ⟨fun h => (by cases h), fun h => (by cases h)⟩
            · dsimp only
              rw [hl2, ← p5]
              rw [cps_append_one]; simp [rt]
          case z5 => dsimp only; first | exact meas p1 (by assumption) | omega

        · subst e1
          dsimp only [Stt.str] at F4
          by_cases h92 : c = 92
          · subst h92
            have f1 : ((⟨#[92]⟩ : Str) == (Str.ofString "\\")) = true := by decide +kernel
            k_steps
            refine hFinT _ _ ?_
            rename Fr _ _ _ _ => nF
            rename News _ _ _ _ => nE
            first
            | refine ksw_end ⟨_, _, .dq, _, _, _, _, _, _, .dq, _⟩ nF nE (fun _ hp => hp) trivial (by kst_all) (by intro z z2 z3; simp only [List.forall_mem_cons, List.not_mem_nil, false_implies, implies_true, and_true, ne_eq] at z2; simp only [List.contains_cons, List.contains_nil, Bool.or_false, Bool.or_eq_false_iff, beq_eq_false_iff_ne, ne_eq] at z3; simp [kstB, z2, z3]) ?z4 ?z5
            | refine ksw_end ⟨_, _, .dq, _, _, _, _, _, _, .dq, _⟩ nF nE (fun _ hp => List.Mem.tail _ hp) trivial (by kst_all) (by intro z z2 z3; simp only [List.forall_mem_cons, List.not_mem_nil, false_implies, implies_true, and_true, ne_eq] at z2; simp only [List.contains_cons, List.contains_nil, Bool.or_false, Bool.or_eq_false_iff, beq_eq_false_iff_ne, ne_eq] at z3; simp [kstB, z2, z3]) ?z4 ?z5
            case z4 =>
              refine ⟨by dsimp only; first | exact k1pos p1 | omega, by dsimp only; first | assumption | omega, ?_, ?_, ?_⟩
              · dsimp only; rw [len_append_bs]; first | exact tl1 p1 p3 | omega
              · exact ⟨fun h => (by cases h), fun h => (by cases h)⟩
              · dsimp only
                rw [hl2, ← p5]
                rw [cps_append_bs]; simp [rt]
            case z5 => dsimp only; first | exact meas p1 (by assumption) | omega

          have f1 : ((⟨#[c]⟩ : Str) == (Str.ofString "\\")) = false := one_ne rfl h92
          by_cases h34 : c = 34
          · subst h34
            have f2 : ((⟨#[34]⟩ : Str) == (Str.ofString "\"")) = true := by decide +kernel
            k_steps
            refine hFinT _ _ ?_
            rename Fr _ _ _ _ => nF
            rename News _ _ _ _ => nE
            first
            | refine ksw_end ⟨_, _, .dq, _, _, _, _, _, _, .dq, _⟩ nF nE (fun _ hp => hp) trivial (by kst_all) (by intro z z2 z3; simp only [List.forall_mem_cons, List.not_mem_nil, false_implies, implies_true, and_true, ne_eq] at z2; simp only [List.contains_cons, List.contains_nil, Bool.or_false, Bool.or_eq_false_iff, beq_eq_false_iff_ne, ne_eq] at z3; simp [kstB, z2, z3]) ?z4 ?z5
            | refine ksw_end ⟨_, _, .dq, _, _, _, _, _, _, .dq, _⟩ nF nE (fun _ hp => List.Mem.tail _ hp) trivial (by kst_all) (by intro z z2 z3; simp only [List.forall_mem_cons, List.not_mem_nil, false_implies, implies_true, and_true, ne_eq] at z2; simp only [List.contains_cons, List.contains_nil, Bool.or_false, Bool.or_eq_false_iff, beq_eq_false_iff_ne, ne_eq] at z3; simp [kstB, z2, z3]) ?z4 ?z5
            case z4 =>
              refine ⟨by dsimp only; first | exact k1pos p1 | omega, by dsimp only; first | assumption | omega, ?_, ?_, ?_⟩
              · dsimp only; rw [len_append_dq]; first | exact tl1 p1 p3 | omega
              · exact ⟨fun h => (by cases h), fun h => (by cases h)⟩
              · dsimp only
                rw [hl2, ← p5]
                rw [cps_append_dq]; simp [rt]
            case z5 => dsimp only; first | exact meas p1 (by assumption) | omega

          have f2 : ((⟨#[c]⟩ : Str) == (Str.ofString "\"")) = false := one_ne rfl h34
          k_steps
          refine hFinT _ _ ?_
          rename Fr _ _ _ _ => nF
          rename News _ _ _ _ => nE
          first
          | refine ksw_end ⟨_, _, .dq, _, _, _, _, _, _, .dq, _⟩ nF nE (fun _ hp => hp) trivial (by kst_all) (by intro z z2 z3; simp only [List.forall_mem_cons, List.not_mem_nil, false_implies, implies_true, and_true, ne_eq] at z2; simp only [List.contains_cons, List.contains_nil, Bool.or_false, Bool.or_eq_false_iff, beq_eq_false_iff_ne, ne_eq] at z3; simp [kstB, z2, z3]) ?z4 ?z5
          | refine ksw_end ⟨_, _, .dq, _, _, _, _, _, _, .dq, _⟩ nF nE (fun _ hp => List.Mem.tail _ hp) trivial (by kst_all) (by intro z z2 z3; simp only [List.forall_mem_cons, List.not_mem_nil, false_implies, implies_true, and_true, ne_eq] at z2; simp only [List.contains_cons, List.contains_nil, Bool.or_false, Bool.or_eq_false_iff, beq_eq_false_iff_ne, ne_eq] at z3; simp [kstB, z2, z3]) ?z4 ?z5
          case z4 =>
            refine ⟨by dsimp only; first | exact k1pos p1 | omega, by dsimp only; first | assumption | omega, ?_, ?_, ?_⟩
            · dsimp only; rw [len_append_one, len_append_bs]; first | exact tl2 p1 p3 | omega
            · exact ⟨fun h => (by cases h), fun h => (by cases h)⟩
            · dsimp only
              rw [hl2, ← p5]
              rw [cps_append_one, cps_append_bs]; simp [rt, h92, h34]
          case z5 => dsimp only; first | exact meas p1 (by assumption) | omega



end Mine
end
section
open PySem PySem.W PyProof.Rows PySem.Calls PySem.Spec
set_option maxRecDepth 100000
set_option maxHeartbeats 0
namespace Mine
local macro_rules | `(tactic| k_all) => `(tactic| assumption)
local macro_rules | `(tactic| walk_at "call ref") => `(tactic| k_extra "call!")
local macro_rules | `(tactic| walk_at "compareOp Eq str str") => `(tactic| first | refine eq_lit true (by decide +kernel) ?_ | refine eq_lit false (by decide +kernel) ?_)
theorem rtokN {w : World} {mean : ExcName → Option Value} {mg mb : Str → Option Value} {dp un : Nat} {gd : Option (List Code)} {cn : Str} {nms : List (Str × NameKind)} {mor : List (Str × Const)} {a : Addr} {ccd : Value} {cl : List (Str × Addr)} {outer : List Env} {A₀ : Around} {base h₀ : Heap} {L : Addr} {m : Str → Option Value} {s : Shared} {Q E : Value → Shared → Prop} {x : Str} {t1 t2 t3 j1 j2 j3 : Tok} {i1 i2 i3 k : Int} {aS dS : Addr}{wc : Str} {u0 u1 u2 u3 u4 u5 u6 u7 q0 q1 q2 q3 q4 q5 q6 q7 q8 q9 q10 q11 q12 q13 q14 q15 q16 q17 q18 : Tok} {g0 g1 g2 g3 g4 g5 g6 g7 g8 g9 g10 g11 g12 g13 g14 g15 g16 g17 g18 : Int} {aX dX aP aF : Addr}{tt tl : Tok} {ln : Int} {tail : List (Addr × Obj)} : Below A₀ base outer h₀ → Fr h₀ L s.heap m → (KK w.params).In h₀ → News h₀ L s.heap ((aS, instObj 592 dS) :: (dS, dictOf [⟨i1, .str (Str.ofString "_StringIO__newline") j1, .str (Str.ofString "\n") t1⟩, ⟨i2, .str (Str.ofString "_StringIO__buf") j2, .str x t2⟩, ⟨i3, .str (Str.ofString "_StringIO__pos") j3, .int k t3⟩] 3) :: (aX, instObj 727 dX) :: (dX, dictOf [⟨g0, .str (Str.ofString "instream") q0, .ref aS⟩, ⟨g1, .str (Str.ofString "infile") q1, .none⟩, ⟨g2, .str (Str.ofString "posix") q2, .bool true⟩, ⟨g3, .str (Str.ofString "eof") q3, .none⟩, ⟨g4, .str (Str.ofString "commenters") q4, .str (Str.ofString "") u0⟩, ⟨g5, .str (Str.ofString "wordchars") q5, .str wc u1⟩, ⟨g6, .str (Str.ofString "whitespace") q6, .str (Str.ofString " \t\r\n") u2⟩, ⟨g7, .str (Str.ofString "whitespace_split") q7, .bool true⟩, ⟨g8, .str (Str.ofString "quotes") q8, .str (Str.ofString "'\"") u3⟩, ⟨g9, .str (Str.ofString "escape") q9, .str (Str.ofString "\\") u4⟩, ⟨g10, .str (Str.ofString "escapedquotes") q10, .str (Str.ofString "\"") u5⟩, ⟨g11, .str (Str.ofString "state") q11, .none⟩, ⟨g12, .str (Str.ofString "pushback") q12, .ref aP⟩, ⟨g13, .str (Str.ofString "lineno") q13, .int ln tl⟩, ⟨g14, .str (Str.ofString "debug") q14, .int 0 u6⟩, ⟨g15, .str (Str.ofString "token") q15, .str (Str.ofString "") tt⟩, ⟨g16, .str (Str.ofString "filestack") q16, .ref aF⟩, ⟨g17, .str (Str.ofString "source") q17, .none⟩, ⟨g18, .str (Str.ofString "_punctuation_chars") q18, .str (Str.ofString "") u7⟩] 19) :: tail) → Top vw LO mean mg mb h₀ → 
    dp + 40 < recursionLimit → un + 400 < cLine → x.length ≤ 100 → 0 ≤ k → k ≤ x.length → x.cps.toList.drop k.toNat = [] → (∀ p ∈ tail, p.1 ≠ dS) → (∀ p ∈ tail, p.1 ≠ dX) → @LT.lt Nat _ dS aS → @LT.lt Nat _ dX aX → @LT.lt Nat _ aX dS → 
    (∀ (ln' : Int) (t3' tl' tt' : Tok) (h' : Heap) (tk' : Nat), Fr h₀ L h' m → News h₀ L h' ((aS, instObj 592 dS) :: (dS, dictOf [⟨i1, .str (Str.ofString "_StringIO__newline") j1, .str (Str.ofString "\n") t1⟩, ⟨i2, .str (Str.ofString "_StringIO__buf") j2, .str x t2⟩, ⟨i3, .str (Str.ofString "_StringIO__pos") j3, .int k t3'⟩] 3) :: (aX, instObj 727 dX) :: (dX, dictOf [⟨g0, .str (Str.ofString "instream") q0, .ref aS⟩, ⟨g1, .str (Str.ofString "infile") q1, .none⟩, ⟨g2, .str (Str.ofString "posix") q2, .bool true⟩, ⟨g3, .str (Str.ofString "eof") q3, .none⟩, ⟨g4, .str (Str.ofString "commenters") q4, .str (Str.ofString "") u0⟩, ⟨g5, .str (Str.ofString "wordchars") q5, .str wc u1⟩, ⟨g6, .str (Str.ofString "whitespace") q6, .str (Str.ofString " \t\r\n") u2⟩, ⟨g7, .str (Str.ofString "whitespace_split") q7, .bool true⟩, ⟨g8, .str (Str.ofString "quotes") q8, .str (Str.ofString "'\"") u3⟩, ⟨g9, .str (Str.ofString "escape") q9, .str (Str.ofString "\\") u4⟩, ⟨g10, .str (Str.ofString "escapedquotes") q10, .str (Str.ofString "\"") u5⟩, ⟨g11, .str (Str.ofString "state") q11, .none⟩, ⟨g12, .str (Str.ofString "pushback") q12, .ref aP⟩, ⟨g13, .str (Str.ofString "lineno") q13, (.int ln' tl')⟩, ⟨g14, .str (Str.ofString "debug") q14, .int 0 u6⟩, ⟨g15, .str (Str.ofString "token") q15, .str (Str.ofString "") tt'⟩, ⟨g16, .str (Str.ofString "filestack") q16, .ref aF⟩, ⟨g17, .str (Str.ofString "source") q17, .none⟩, ⟨g18, .str (Str.ofString "_punctuation_chars") q18, .str (Str.ofString "") u7⟩] 19) :: tail) → Q .none { s with heap := h', toks := tk' }) →
    wpAny (model PySem.Challenge.rw_mq0369_01.row.prog w) (ktrTop dp un gd cn ⟨.function, nms, false, false, mor⟩ L a ccd cl outer) (call (.ref 695) [.ref aX]) Q E s := by
  w_on
  k_fill
  intro B F X N T hd' hu hx hk0 hk1 hr htS htX h1 h2 h3 hret
  refine wpAny_call ?_
  k_dflt k_enter
  k_with_none
  have htl : ∀ p ∈ (aX, instObj 727 dX) :: (dX, dictOf [⟨g0, .str (Str.ofString "instream") q0, .ref aS⟩, ⟨g1, .str (Str.ofString "infile") q1, .none⟩, ⟨g2, .str (Str.ofString "posix") q2, .bool true⟩, ⟨g3, .str (Str.ofString "eof") q3, .none⟩, ⟨g4, .str (Str.ofString "commenters") q4, .str (Str.ofString "") u0⟩, ⟨g5, .str (Str.ofString "wordchars") q5, .str wc u1⟩, ⟨g6, .str (Str.ofString "whitespace") q6, .str (Str.ofString " \t\r\n") u2⟩, ⟨g7, .str (Str.ofString "whitespace_split") q7, .bool true⟩, ⟨g8, .str (Str.ofString "quotes") q8, .str (Str.ofString "'\"") u3⟩, ⟨g9, .str (Str.ofString "escape") q9, .str (Str.ofString "\\") u4⟩, ⟨g10, .str (Str.ofString "escapedquotes") q10, .str (Str.ofString "\"") u5⟩, ⟨g11, .str (Str.ofString "state") q11, .none⟩, ⟨g12, .str (Str.ofString "pushback") q12, .ref aP⟩, ⟨g13, .str (Str.ofString "lineno") q13, .int ln tl⟩, ⟨g14, .str (Str.ofString "debug") q14, .int 0 u6⟩, ⟨g15, .str (Str.ofString "token") q15, .str (Str.ofString "") tt⟩, ⟨g16, .str (Str.ofString "filestack") q16, .ref aF⟩, ⟨g17, .str (Str.ofString "source") q17, .none⟩, ⟨g18, .str (Str.ofString "_punctuation_chars") q18, .str (Str.ofString "") u7⟩] 19) :: tail, p.1 ≠ dS := by
    intro p hp
    simp only [List.mem_cons] at hp
    rcases hp with rfl | rfl | hp
    · exact neN (by dsimp only; omega)
    · exact neN (by dsimp only; omega)
    · exact htS p hp
  k_with "call!" => k_dflt (refine' read1 ?rB ?rF ?rX ?rN ?rT ?rd ?ru hx hk0 hk1 h1 htl hr ?_; (case rB => k_asm); (case rF => k_asm); (case rX => k_asm); (case rN => k_asm); (case rT => k_asm); (case rd => ktr_room); (case ru => ktr_units); intro y k' t' t3' h' tk' hy hk' F' N'; (have hy' : y = Str.ofString "" := hy); (have hk2 : k' = k := by simpa using hk'); subst hy' hk2; clear hy hk')
  k_steps
  rename Fr _ _ _ _ => nF
  rename News _ _ _ _ => nE
  exact hret _ _ _ _ _ _ nF nE
end Mine
end
section
open PySem PySem.W PyProof.Rows PySem.Calls PySem.Spec
set_option maxRecDepth 100000
set_option maxHeartbeats 0
namespace Mine
local macro_rules | `(tactic| k_all) => `(tactic| assumption)
local macro_rules | `(tactic| walk_at "leaving ref") => `(tactic| (k_here; first
  | (refine' leave_raiseS ?k1 ?k0 ?k2 ?k3 ?_; (case k0 => first | assumption | exact Heap.MadeExc.of (by assumption)); (case k2 => assumption); (case k1 => assumption); (case k3 => k_asm); k_whole; intro h' t' S' R' U'; (try clear R'); (try dsimp only at S' U' ⊢))
  | (refine' leave_onS ?k1 ?k2 ?k3 ?k4 ?_; (case k3 => assumption); (case k2 => assumption); (case k1 => assumption); (case k4 => assumption); k_whole; intro h' S' R' U'; (try clear R'); (try dsimp only at S' U' ⊢))))
local macro_rules | `(tactic| walk_at "call ref") => `(tactic| k_extra "call!")
local macro_rules | `(tactic| walk_at "truthy ref") => `(tactic| (refine dq_truthy (News.get (by assumption) (by k_mem)) ?_; intro _))
theorem nxt {w : World} {mean : ExcName → Option Value} {mg mb : Str → Option Value} {dp un : Nat} {gd : Option (List Code)} {cn : Str} {nms : List (Str × NameKind)} {mor : List (Str × Const)} {a : Addr} {ccd : Value} {cl : List (Str × Addr)} {outer : List Env} {A₀ : Around} {base h₀ : Heap} {L : Addr} {m : Str → Option Value} {s : Shared} {Q E : Value → Shared → Prop} {x : Str} {t1 t2 t3 j1 j2 j3 : Tok} {i1 i2 i3 k : Int} {aS dS : Addr}{wc : Str} {u0 u1 u2 u3 u4 u5 u6 u7 q0 q1 q2 q3 q4 q5 q6 q7 q8 q9 q10 q11 q12 q13 q14 q15 q16 q17 q18 : Tok} {g0 g1 g2 g3 g4 g5 g6 g7 g8 g9 g10 g11 g12 g13 g14 g15 g16 g17 g18 : Int} {aX dX aP aF : Addr}{ts tt tl : Tok} {ln : Int} {tail : List (Addr × Obj)} {ρ : Out} : Below A₀ base outer h₀ → Fr h₀ L s.heap m → (KK w.params).In h₀ → News h₀ L s.heap ((aS, instObj 592 dS) :: (dS, dictOf [⟨i1, .str (Str.ofString "_StringIO__newline") j1, .str (Str.ofString "\n") t1⟩, ⟨i2, .str (Str.ofString "_StringIO__buf") j2, .str x t2⟩, ⟨i3, .str (Str.ofString "_StringIO__pos") j3, .int k t3⟩] 3) :: (aX, instObj 727 dX) :: (dX, dictOf [⟨g0, .str (Str.ofString "instream") q0, .ref aS⟩, ⟨g1, .str (Str.ofString "infile") q1, .none⟩, ⟨g2, .str (Str.ofString "posix") q2, .bool true⟩, ⟨g3, .str (Str.ofString "eof") q3, .none⟩, ⟨g4, .str (Str.ofString "commenters") q4, .str (Str.ofString "") u0⟩, ⟨g5, .str (Str.ofString "wordchars") q5, .str wc u1⟩, ⟨g6, .str (Str.ofString "whitespace") q6, .str (Str.ofString " \t\r\n") u2⟩, ⟨g7, .str (Str.ofString "whitespace_split") q7, .bool true⟩, ⟨g8, .str (Str.ofString "quotes") q8, .str (Str.ofString "'\"") u3⟩, ⟨g9, .str (Str.ofString "escape") q9, .str (Str.ofString "\\") u4⟩, ⟨g10, .str (Str.ofString "escapedquotes") q10, .str (Str.ofString "\"") u5⟩, ⟨g11, .str (Str.ofString "state") q11, .str (Str.ofString " ") ts⟩, ⟨g12, .str (Str.ofString "pushback") q12, .ref aP⟩, ⟨g13, .str (Str.ofString "lineno") q13, .int ln tl⟩, ⟨g14, .str (Str.ofString "debug") q14, .int 0 u6⟩, ⟨g15, .str (Str.ofString "token") q15, .str (Str.ofString "") tt⟩, ⟨g16, .str (Str.ofString "filestack") q16, .ref aF⟩, ⟨g17, .str (Str.ofString "source") q17, .none⟩, ⟨g18, .str (Str.ofString "_punctuation_chars") q18, .str (Str.ofString "") u7⟩] 19) :: (aP, deqObj) :: (aF, deqObj) :: tail) → Top vw LO mean mg mb h₀ → 
    dp + 100 < recursionLimit → un + 1000 < cLine → x.length ≤ 100 → 0 ≤ k → k ≤ x.length → rt (x.cps.toList.drop k.toNat) .sp .sp false [] = ρ → ρ ≠ .noEsc → @LT.lt Nat _ dX aX → @LT.lt Nat _ aX dS → @LT.lt Nat _ dS aS → @LT.lt Nat _ aS aP → @LT.lt Nat _ aP aF → (∀ p ∈ tail, p.1 ≠ dS ∧ p.1 ≠ dX) → hasC wc 34 = false → hasC wc 39 = false →
    (∀ (tok' : Str) (q' eof' : Bool) (rest : List Nat) (k' ln' : Int) (tv t3' ts' tl' tt' : Tok) (h' : Heap) (tk' : Nat), ρ = .fin tok'.cps.toList q' eof' rest → x.cps.toList.drop k'.toNat = rest → 0 ≤ k' → k' ≤ x.length → tok'.length ≤ 200 → ¬ (q' = false ∧ tok' = Str.ofString "") → Fr h₀ L h' m → News h₀ L h' ((aS, instObj 592 dS) :: (dS, dictOf [⟨i1, .str (Str.ofString "_StringIO__newline") j1, .str (Str.ofString "\n") t1⟩, ⟨i2, .str (Str.ofString "_StringIO__buf") j2, .str x t2⟩, ⟨i3, .str (Str.ofString "_StringIO__pos") j3, .int k' t3'⟩] 3) :: (aX, instObj 727 dX) :: (dX, dictOf [⟨g0, .str (Str.ofString "instream") q0, .ref aS⟩, ⟨g1, .str (Str.ofString "infile") q1, .none⟩, ⟨g2, .str (Str.ofString "posix") q2, .bool true⟩, ⟨g3, .str (Str.ofString "eof") q3, .none⟩, ⟨g4, .str (Str.ofString "commenters") q4, .str (Str.ofString "") u0⟩, ⟨g5, .str (Str.ofString "wordchars") q5, .str wc u1⟩, ⟨g6, .str (Str.ofString "whitespace") q6, .str (Str.ofString " \t\r\n") u2⟩, ⟨g7, .str (Str.ofString "whitespace_split") q7, .bool true⟩, ⟨g8, .str (Str.ofString "quotes") q8, .str (Str.ofString "'\"") u3⟩, ⟨g9, .str (Str.ofString "escape") q9, .str (Str.ofString "\\") u4⟩, ⟨g10, .str (Str.ofString "escapedquotes") q10, .str (Str.ofString "\"") u5⟩, ⟨g11, .str (Str.ofString "state") q11, endSt eof' ts'⟩, ⟨g12, .str (Str.ofString "pushback") q12, .ref aP⟩, ⟨g13, .str (Str.ofString "lineno") q13, (.int ln' tl')⟩, ⟨g14, .str (Str.ofString "debug") q14, .int 0 u6⟩, ⟨g15, .str (Str.ofString "token") q15, .str (Str.ofString "") tt'⟩, ⟨g16, .str (Str.ofString "filestack") q16, .ref aF⟩, ⟨g17, .str (Str.ofString "source") q17, .none⟩, ⟨g18, .str (Str.ofString "_punctuation_chars") q18, .str (Str.ofString "") u7⟩] 19) :: (aP, deqObj) :: (aF, deqObj) :: tail) → 
      Q (.str tok' tv) { s with heap := h', toks := tk' }) →
    (∀ (e te : Addr) (eof' : Bool) (rest : List Nat) (g₂ h' : Heap) (tk' : Nat), ρ = .fin [] false eof' rest → Fr h₀ L g₂ m → g₂.UpToSlots h' → RaisedS base g₂ ((envX cn ⟨.function, nms, false, false, mor⟩ L a ccd cl) :: outer) e (.type "StopIteration") te [] tail h' → E (.ref e) { s with heap := h', toks := tk' }) → 
    (∀ (e te : Addr) (tm : Tok) (g₂ h' : Heap) (tk' : Nat), ρ = .noClose → Fr h₀ L g₂ m → g₂.UpToSlots h' → RaisedS base g₂ ((envX cn ⟨.function, nms, false, false, mor⟩ L a ccd cl) :: outer) e (.type "ValueError") te [.str (Str.ofString "No closing quotation") tm] tail h' → E (.ref e) { s with heap := h', toks := tk' }) → 
    wpAny (model PySem.Challenge.rw_mq0369_01.row.prog w) (ktrTop dp un gd cn ⟨.function, nms, false, false, mor⟩ L a ccd cl outer) (call (.ref 724) [.ref aX]) Q E s := by
  w_on
  k_fill
  intro B F X N T hd' hu hx hk0 hk1 hr hne o1 o2 o3 o4 o5 o6 hw1 hw2 hret hstop hraise
  have htS : ∀ p ∈ (aP, deqObj) :: (aF, deqObj) :: tail, p.1 ≠ dS := by
    intro p hp
    simp only [List.mem_cons] at hp
    rcases hp with rfl | rfl | hp
    · exact neN (by dsimp only; omega)
    · exact neN (by dsimp only; omega)
    · exact (o6 p hp).1
  have htX : ∀ p ∈ (aP, deqObj) :: (aF, deqObj) :: tail, p.1 ≠ dX := by
    intro p hp
    simp only [List.mem_cons] at hp
    rcases hp with rfl | rfl | hp
    · exact neN (by dsimp only; omega)
    · exact neN (by dsimp only; omega)
    · exact (o6 p hp).2
  refine wpAny_call ?_
  k_dflt k_enter
  k_with_none
  k_with "call!" => k_dflt (refine' rtok ?rB ?rF ?rX ?rN ?rT ?rd ?ru hx hk0 hk1 hr hne htS htX o3 o1 o2 hw1 hw2 ?_ ?_; (case rB => k_asm); (case rF => k_asm); (case rX => k_asm); (case rN => k_asm); (case rT => k_asm); (case rd => ktr_room); (case ru => ktr_units); (any_goals (first | (intro tok' q' eof' rest k' ln' tv t3' ts' tl' tt' h' tk' z1 z2 z3 z4 z5 F' N'; by_cases hz : q' = false ∧ tok' = Str.ofString "" <;> (first | rw [if_pos hz] | rw [if_neg hz])) | (intro e te tm g2 h' tk' z1 F' U' R'))))
  k_steps
  · rename RaisedS _ _ _ _ _ _ _ _ _ => nR
    obtain ⟨hz1, hz2⟩ := hz
    subst hz1 hz2
    exact hstop _ _ _ _ _ _ _ z1 (by k_asm) (by k_asm) (raised_mono nR fun p hp => by simp [hp])
  · rename Fr _ _ _ _ => nF
    rename News _ _ _ _ => nE
    exact hret _ _ _ _ _ _ _ _ _ _ _ _ _ z1 z2 z3 z4 z5 hz nF nE
  · rename RaisedS _ _ _ _ _ _ _ _ _ => nR
    exact hraise _ _ _ _ _ _ z1 (by k_asm) (by k_asm) (raised_mono nR fun p hp => by simp [hp])
theorem nxtN {w : World} {mean : ExcName → Option Value} {mg mb : Str → Option Value} {dp un : Nat} {gd : Option (List Code)} {cn : Str} {nms : List (Str × NameKind)} {mor : List (Str × Const)} {a : Addr} {ccd : Value} {cl : List (Str × Addr)} {outer : List Env} {A₀ : Around} {base h₀ : Heap} {L : Addr} {m : Str → Option Value} {s : Shared} {Q E : Value → Shared → Prop} {x : Str} {t1 t2 t3 j1 j2 j3 : Tok} {i1 i2 i3 k : Int} {aS dS : Addr}{wc : Str} {u0 u1 u2 u3 u4 u5 u6 u7 q0 q1 q2 q3 q4 q5 q6 q7 q8 q9 q10 q11 q12 q13 q14 q15 q16 q17 q18 : Tok} {g0 g1 g2 g3 g4 g5 g6 g7 g8 g9 g10 g11 g12 g13 g14 g15 g16 g17 g18 : Int} {aX dX aP aF : Addr}{tt tl : Tok} {ln : Int} {tail : List (Addr × Obj)} : Below A₀ base outer h₀ → Fr h₀ L s.heap m → (KK w.params).In h₀ → News h₀ L s.heap ((aS, instObj 592 dS) :: (dS, dictOf [⟨i1, .str (Str.ofString "_StringIO__newline") j1, .str (Str.ofString "\n") t1⟩, ⟨i2, .str (Str.ofString "_StringIO__buf") j2, .str x t2⟩, ⟨i3, .str (Str.ofString "_StringIO__pos") j3, .int k t3⟩] 3) :: (aX, instObj 727 dX) :: (dX, dictOf [⟨g0, .str (Str.ofString "instream") q0, .ref aS⟩, ⟨g1, .str (Str.ofString "infile") q1, .none⟩, ⟨g2, .str (Str.ofString "posix") q2, .bool true⟩, ⟨g3, .str (Str.ofString "eof") q3, .none⟩, ⟨g4, .str (Str.ofString "commenters") q4, .str (Str.ofString "") u0⟩, ⟨g5, .str (Str.ofString "wordchars") q5, .str wc u1⟩, ⟨g6, .str (Str.ofString "whitespace") q6, .str (Str.ofString " \t\r\n") u2⟩, ⟨g7, .str (Str.ofString "whitespace_split") q7, .bool true⟩, ⟨g8, .str (Str.ofString "quotes") q8, .str (Str.ofString "'\"") u3⟩, ⟨g9, .str (Str.ofString "escape") q9, .str (Str.ofString "\\") u4⟩, ⟨g10, .str (Str.ofString "escapedquotes") q10, .str (Str.ofString "\"") u5⟩, ⟨g11, .str (Str.ofString "state") q11, .none⟩, ⟨g12, .str (Str.ofString "pushback") q12, .ref aP⟩, ⟨g13, .str (Str.ofString "lineno") q13, .int ln tl⟩, ⟨g14, .str (Str.ofString "debug") q14, .int 0 u6⟩, ⟨g15, .str (Str.ofString "token") q15, .str (Str.ofString "") tt⟩, ⟨g16, .str (Str.ofString "filestack") q16, .ref aF⟩, ⟨g17, .str (Str.ofString "source") q17, .none⟩, ⟨g18, .str (Str.ofString "_punctuation_chars") q18, .str (Str.ofString "") u7⟩] 19) :: (aP, deqObj) :: (aF, deqObj) :: tail) → Top vw LO mean mg mb h₀ → 
    dp + 100 < recursionLimit → un + 1000 < cLine → x.length ≤ 100 → 0 ≤ k → k ≤ x.length → x.cps.toList.drop k.toNat = [] → @LT.lt Nat _ dX aX → @LT.lt Nat _ aX dS → @LT.lt Nat _ dS aS → @LT.lt Nat _ aS aP → @LT.lt Nat _ aP aF → (∀ p ∈ tail, p.1 ≠ dS ∧ p.1 ≠ dX) →
    (∀ (e te : Addr) (g₂ h' : Heap) (tk' : Nat), Fr h₀ L g₂ m → g₂.UpToSlots h' → RaisedS base g₂ ((envX cn ⟨.function, nms, false, false, mor⟩ L a ccd cl) :: outer) e (.type "StopIteration") te [] tail h' → E (.ref e) { s with heap := h', toks := tk' }) → 
    wpAny (model PySem.Challenge.rw_mq0369_01.row.prog w) (ktrTop dp un gd cn ⟨.function, nms, false, false, mor⟩ L a ccd cl outer) (call (.ref 724) [.ref aX]) Q E s := by
  w_on
  k_fill
  intro B F X N T hd' hu hx hk0 hk1 hr o1 o2 o3 o4 o5 o6 hstop
  have htS : ∀ p ∈ (aP, deqObj) :: (aF, deqObj) :: tail, p.1 ≠ dS := by
    intro p hp
    simp only [List.mem_cons] at hp
    rcases hp with rfl | rfl | hp
    · exact neN (by dsimp only; omega)
    · exact neN (by dsimp only; omega)
    · exact (o6 p hp).1
  have htX : ∀ p ∈ (aP, deqObj) :: (aF, deqObj) :: tail, p.1 ≠ dX := by
    intro p hp
    simp only [List.mem_cons] at hp
    rcases hp with rfl | rfl | hp
    · exact neN (by dsimp only; omega)
    · exact neN (by dsimp only; omega)
    · exact (o6 p hp).2
  refine wpAny_call ?_
  k_dflt k_enter
  k_with_none
  k_with "call!" => k_dflt (refine' rtokN ?rB ?rF ?rX ?rN ?rT ?rd ?ru hx hk0 hk1 hr htS htX o3 o1 o2 ?_; (case rB => k_asm); (case rF => k_asm); (case rX => k_asm); (case rN => k_asm); (case rT => k_asm); (case rd => ktr_room); (case ru => ktr_units); intro ln' t3' tl' tt' h' tk' F' N')
  k_steps
  rename RaisedS _ _ _ _ _ _ _ _ _ => nR
  exact hstop _ _ _ _ _ (by k_asm) (by k_asm) (raised_mono nR fun p hp => by simp [hp])
end Mine
end
section
open PySem PySem.W PyProof.Rows PySem.Calls PySem.Spec
set_option maxRecDepth 100000
set_option maxHeartbeats 0
namespace Mine
theorem owit_stopS {M : Model} {A A₀ : Around} {E : Value → Shared → Prop} {s : Shared} {base g G : Heap} {m : Str → Option Value} {Q : Option Value → Shared → Prop} {outer : List Env} {L a e t : Addr} {name : Str} {scope : Scope} {cd : Value} {vs : List Value} {news : List (Addr × Obj)} {X : String}
    (R : RaisedS base G (envOf name scope L a cd :: outer) e (.type X) t vs news s.heap) (F : Fr g L G m) (K : Below A₀ base outer g) (hsm : G.UpToSlots s.heap) (hsub : isSubtype (.type X) (.type "StopIteration") = pure true)
    (k : ∀ g', KtsTurn (outer.filterMap (·.frame)) g g' → Fr g' L s.heap m → News g' L s.heap news → Below A₀ base outer g' → Q none s) : OwitStop M A Q E (.ref e) s := by
  obtain ⟨⟨B, hB, hBG, hl, hfl, _⟩, _⟩ := R
  have hL : B.get? L = none := by
    obtain ⟨_, ⟨L', _, hf, hn', _⟩, _⟩ := hfl.2.2.1
    obtain rfl : L = L' := Option.some.inj hf
    exact hn'
  have hf' := flyingW_base hB hfl
  obtain ⟨ob, hob, hobc⟩ := hf'.there
  have hT : s.TypeIs (.ref e) X := (show ∃ o, s.heap.get? e = some o ∧ o.cls = .type X from ⟨ob, hob, hobc⟩)
  unfold OwitStop
  refine wpAny_isInstance hT hsub ?_
  show (if true = true then Q none s else E (.ref e) s)
  rw [if_pos rfl]
  obtain ⟨g', T, F', K'⟩ := kts_ground K F hBG hfl.1 hsm
  exact k g' T F' (fun q hq => ⟨hfl.1 _ _ (hl q hq).1, (fun z => by have := (hl q hq).1; rw [z, hL] at this; cases this), T.none_ _ (kts_none F.keep (hl q hq).2.1)⟩) K'
/-- the other exit: what is no StopIteration goes on, and nothing of the heap has changed. -/
theorem owit_elseS {M : Model} {A : Around} {E : Value → Shared → Prop} {s : Shared} {base G : Heap} {Q : Option Value → Shared → Prop} {l : List Env} {e t : Addr} {vs : List Value} {news : List (Addr × Obj)} {X : String}
    (R : RaisedS base G l e (.type X) t vs news s.heap) (hsub : isSubtype (.type X) (.type "StopIteration") = pure false) (k : E (.ref e) s) : OwitStop M A Q E (.ref e) s := by
  obtain ⟨⟨B, hB, hBG, hl, hfl, _⟩, _⟩ := R
  have hf' := flyingW_base hB hfl
  obtain ⟨ob, hob, hobc⟩ := hf'.there
  have hT : s.TypeIs (.ref e) X := (show ∃ o, s.heap.get? e = some o ∧ o.cls = .type X from ⟨ob, hob, hobc⟩)
  unfold OwitStop
  refine wpAny_isInstance hT hsub ?_
  show (if false = true then Q none s else E (.ref e) s)
  rw [if_neg (by decide)]
  exact k
theorem sub_stop : isSubtype (.type "StopIteration") (.type "StopIteration") = pure true := by rw [isSubtype_type]; kernel_rfl
theorem sub_value : isSubtype (.type "ValueError") (.type "StopIteration") = pure false := by rw [isSubtype_type]; kernel_rfl
end Mine
end
section
open PySem PySem.W PyProof.Rows PySem.Calls PySem.Spec
set_option maxRecDepth 100000
set_option maxHeartbeats 0
namespace Mine
inductive AllT : Nat → List Nat → Option (List (List Nat)) → Prop
  | stop {n cs eof rest} : rt cs .sp .sp false [] = .fin [] false eof rest → AllT (n + 1) cs (some [])
  | last {n cs tok q} : rt cs .sp .sp false [] = .fin tok q true [] → ¬ (q = false ∧ tok = []) → AllT (n + 1) cs (some [tok])
  | more {n cs tok q rest r} : rt cs .sp .sp false [] = .fin tok q false rest → ¬ (q = false ∧ tok = []) → AllT n rest r → AllT (n + 1) cs (r.map (tok :: ·))
  | bad {n cs} : rt cs .sp .sp false [] = .noClose → AllT (n + 1) cs none
inductive Words : List Value → List (List Nat) → Prop
  | nil : Words [] []
  | snoc {vs ws t tk} : Words vs ws → Words (vs ++ [.str t tk]) (ws ++ [t.cps.toList])
theorem size1000 : 1000 ≤ sizeLine := by decide
theorem strNil {t : Str} (h : t.cps.toList = []) : t = Str.ofString "" := by
  obtain ⟨c⟩ := t
  obtain ⟨l⟩ := c
  cases h
  rfl
theorem Words.push {acc : Array Value} {ws t tk} (h : Words acc.toList ws) : Words (acc.push (.str t tk)).toList (ws ++ [t.cps.toList]) := by
  rw [Array.toList_push]; exact .snoc h
theorem loopN {w : World} {mean : ExcName → Option Value} {mg mb : Str → Option Value} {dp un : Nat} {gd : Option (List Code)} {cn : Str} {nms : List (Str × NameKind)} {mor : List (Str × Const)} {a : Addr} {ccd : Value} {outer : List Env} {A₀ : Around} {base h₀ : Heap} {L : Addr} {m : Str → Option Value}  {x : Str} {t1 t2 j1 j2 j3 : Tok} {i1 i2 i3 : Int} {aS dS : Addr}{wc : Str} {u0 u1 u2 u3 u4 u5 u6 u7 q0 q1 q2 q3 q4 q5 q6 q7 q8 q9 q10 q11 q12 q13 q14 q15 q16 q17 q18 : Tok} {g0 g1 g2 g3 g4 g5 g6 g7 g8 g9 g10 g11 g12 g13 g14 g15 g16 g17 g18 : Int} {aX dX aP aF : Addr}{tail : List (Addr × Obj)} {aL : Addr} {res : Value} (B : Below A₀ base outer h₀) (X : (KK w.params).In h₀) (T : Top vw LO mean mg mb h₀) (hd : dp + 110 < recursionLimit) (hu : un + 1010 < cLine) (hx : x.length ≤ 100) (o1 : @LT.lt Nat _ dX aX) (o2 : @LT.lt Nat _ aX dS) (o3 : @LT.lt Nat _ dS aS) (o4 : @LT.lt Nat _ aS aP) (o5 : @LT.lt Nat _ aP aF) (o6 : @LT.lt Nat _ aF aL) (o7 : ∀ p ∈ tail, p.1 ≠ dS ∧ p.1 ≠ dX ∧ p.1 ≠ aL) {R : Result → Shared → Prop}
    {s : Shared} {k ln : Int} {t3 tl tt : Tok} {acc : Array Value} {c : Nat} (hc : x.cps.toList.drop k.toNat = []) (k0 : 0 ≤ k) (k1 : k ≤ x.length) (Fh : Fr h₀ L s.heap m) (N : News h₀ L s.heap ((aS, instObj 592 dS) :: (dS, dictOf [⟨i1, .str (Str.ofString "_StringIO__newline") j1, .str (Str.ofString "\n") t1⟩, ⟨i2, .str (Str.ofString "_StringIO__buf") j2, .str x t2⟩, ⟨i3, .str (Str.ofString "_StringIO__pos") j3, .int k t3⟩] 3) :: (aX, instObj 727 dX) :: (dX, dictOf [⟨g0, .str (Str.ofString "instream") q0, .ref aS⟩, ⟨g1, .str (Str.ofString "infile") q1, .none⟩, ⟨g2, .str (Str.ofString "posix") q2, .bool true⟩, ⟨g3, .str (Str.ofString "eof") q3, .none⟩, ⟨g4, .str (Str.ofString "commenters") q4, .str (Str.ofString "") u0⟩, ⟨g5, .str (Str.ofString "wordchars") q5, .str wc u1⟩, ⟨g6, .str (Str.ofString "whitespace") q6, .str (Str.ofString " \t\r\n") u2⟩, ⟨g7, .str (Str.ofString "whitespace_split") q7, .bool true⟩, ⟨g8, .str (Str.ofString "quotes") q8, .str (Str.ofString "'\"") u3⟩, ⟨g9, .str (Str.ofString "escape") q9, .str (Str.ofString "\\") u4⟩, ⟨g10, .str (Str.ofString "escapedquotes") q10, .str (Str.ofString "\"") u5⟩, ⟨g11, .str (Str.ofString "state") q11, .none⟩, ⟨g12, .str (Str.ofString "pushback") q12, .ref aP⟩, ⟨g13, .str (Str.ofString "lineno") q13, .int ln tl⟩, ⟨g14, .str (Str.ofString "debug") q14, .int 0 u6⟩, ⟨g15, .str (Str.ofString "token") q15, .str (Str.ofString "") tt⟩, ⟨g16, .str (Str.ofString "filestack") q16, .ref aF⟩, ⟨g17, .str (Str.ofString "source") q17, .none⟩, ⟨g18, .str (Str.ofString "_punctuation_chars") q18, .str (Str.ofString "") u7⟩] 19) :: (aP, deqObj) :: (aF, deqObj) :: (aL, ({ cls := .type "list", dict := none, data := .seq acc c, slots := #[] } : Obj)) :: tail)) 
    (hR : ∀ (g' h' : Heap) (tk' : Nat), KtsTurn (outer.filterMap (·.frame)) h₀ g' → Fr g' L h' m → News g' L h' ((aL, ({ cls := .type "list", dict := none, data := .seq acc c, slots := #[] } : Obj)) :: tail) → Below A₀ base outer g' → R (.ok (.ret res)) { s with heap := h', toks := tk' }) :
    codeAny (model PySem.Challenge.rw_mq0369_01.row.prog w) (ktrTop dp un gd cn ⟨.function, nms, false, false, mor⟩ L a ccd [] outer) (.builtin "list.extend.loop" ⟨[.ref aL, .ref aX, res], []⟩) R s := by
    w_on
    refine codeAny_builtin F.entry_extend_loop ?_
    rw [Around.under_plainId F.plain_extend_loop _]
    refine wpAny_bind (owit_next Fh X (C := 727) (f := 724) (InstAt.of_news N (by k_mem) (by k_mem)) (by rfl) (by rfl) ?_)
    refine nxtN (dp := dp) (un := un + 1) (cl := []) B Fh X N T (by omega) (by omega) hx k0 k1 hc o1 o2 o3 o4 o5 (by
    intro p hp
    rcases List.mem_cons.mp hp with rfl | hp
    · exact ⟨neN (by dsimp only; omega), neN (by dsimp only; omega)⟩
    · exact ⟨(o7 p hp).1, (o7 p hp).2.1⟩) ?_
    intro e te g₂ h' tk' F2 U2 R2
    refine owit_stopS (name := cn) R2 F2 B U2 sub_stop fun g' Tn F' N' B' => ?_
    exact wpAny_pure (hR _ _ _ Tn F' N' B')
theorem loopL {w : World} {mean : ExcName → Option Value} {mg mb : Str → Option Value} {dp un : Nat} {gd : Option (List Code)} {cn : Str} {nms : List (Str × NameKind)} {mor : List (Str × Const)} {a : Addr} {ccd : Value} {outer : List Env} {A₀ : Around} {base h₀ : Heap} {L : Addr} {m : Str → Option Value}  {x : Str} {t1 t2 j1 j2 j3 : Tok} {i1 i2 i3 : Int} {aS dS : Addr}{wc : Str} {u0 u1 u2 u3 u4 u5 u6 u7 q0 q1 q2 q3 q4 q5 q6 q7 q8 q9 q10 q11 q12 q13 q14 q15 q16 q17 q18 : Tok} {g0 g1 g2 g3 g4 g5 g6 g7 g8 g9 g10 g11 g12 g13 g14 g15 g16 g17 g18 : Int} {aX dX aP aF : Addr}{tail : List (Addr × Obj)} {aL : Addr} {res : Value} (B : Below A₀ base outer h₀) (X : (KK w.params).In h₀) (T : Top vw LO mean mg mb h₀) (hd : dp + 110 < recursionLimit) (hu : un + 1010 < cLine) (hx : x.length ≤ 100) (o1 : @LT.lt Nat _ dX aX) (o2 : @LT.lt Nat _ aX dS) (o3 : @LT.lt Nat _ dS aS) (o4 : @LT.lt Nat _ aS aP) (o5 : @LT.lt Nat _ aP aF) (o6 : @LT.lt Nat _ aF aL) (o7 : ∀ p ∈ tail, p.1 ≠ dS ∧ p.1 ≠ dX ∧ p.1 ≠ aL) (hw1 : hasC wc 34 = false) (hw2 : hasC wc 39 = false) {R : Result → Shared → Prop} {n : Nat} {cs : List Nat} {ρ : Option (List (List Nat))} (al : AllT n cs ρ) :
    ∀ {s : Shared} {k ln : Int} {t3 ts tl tt : Tok} {acc : Array Value} {c : Nat} {ws : List (List Nat)}, x.cps.toList.drop k.toNat = cs → 0 ≤ k → k ≤ x.length → Fr h₀ L s.heap m → News h₀ L s.heap ((aS, instObj 592 dS) :: (dS, dictOf [⟨i1, .str (Str.ofString "_StringIO__newline") j1, .str (Str.ofString "\n") t1⟩, ⟨i2, .str (Str.ofString "_StringIO__buf") j2, .str x t2⟩, ⟨i3, .str (Str.ofString "_StringIO__pos") j3, .int k t3⟩] 3) :: (aX, instObj 727 dX) :: (dX, dictOf [⟨g0, .str (Str.ofString "instream") q0, .ref aS⟩, ⟨g1, .str (Str.ofString "infile") q1, .none⟩, ⟨g2, .str (Str.ofString "posix") q2, .bool true⟩, ⟨g3, .str (Str.ofString "eof") q3, .none⟩, ⟨g4, .str (Str.ofString "commenters") q4, .str (Str.ofString "") u0⟩, ⟨g5, .str (Str.ofString "wordchars") q5, .str wc u1⟩, ⟨g6, .str (Str.ofString "whitespace") q6, .str (Str.ofString " \t\r\n") u2⟩, ⟨g7, .str (Str.ofString "whitespace_split") q7, .bool true⟩, ⟨g8, .str (Str.ofString "quotes") q8, .str (Str.ofString "'\"") u3⟩, ⟨g9, .str (Str.ofString "escape") q9, .str (Str.ofString "\\") u4⟩, ⟨g10, .str (Str.ofString "escapedquotes") q10, .str (Str.ofString "\"") u5⟩, ⟨g11, .str (Str.ofString "state") q11, .str (Str.ofString " ") ts⟩, ⟨g12, .str (Str.ofString "pushback") q12, .ref aP⟩, ⟨g13, .str (Str.ofString "lineno") q13, .int ln tl⟩, ⟨g14, .str (Str.ofString "debug") q14, .int 0 u6⟩, ⟨g15, .str (Str.ofString "token") q15, .str (Str.ofString "") tt⟩, ⟨g16, .str (Str.ofString "filestack") q16, .ref aF⟩, ⟨g17, .str (Str.ofString "source") q17, .none⟩, ⟨g18, .str (Str.ofString "_punctuation_chars") q18, .str (Str.ofString "") u7⟩] 19) :: (aP, deqObj) :: (aF, deqObj) :: (aL, ({ cls := .type "list", dict := none, data := .seq acc c, slots := #[] } : Obj)) :: tail) → Words acc.toList ws → acc.size + n ≤ 1000 → (∀ (ws' : List (List Nat)) (acc' : Array Value) (c' : Nat) (g' h' : Heap) (tk' : Nat), ρ = some ws' → KtsTurn (outer.filterMap (·.frame)) h₀ g' → Fr g' L h' m → News g' L h' ((aL, ({ cls := .type "list", dict := none, data := .seq acc' c', slots := #[] } : Obj)) :: tail) → Below A₀ base outer g' → Words acc'.toList (ws ++ ws') → R (.ok (.ret res)) { s with heap := h', toks := tk' }) →
    (∀ (e te : Addr) (tm : Tok) (g₂ h' : Heap) (tk' : Nat), ρ = none → Fr h₀ L g₂ m → g₂.UpToSlots h' → RaisedS base g₂ ((envX cn ⟨.function, nms, false, false, mor⟩ L a ccd []) :: outer) e (.type "ValueError") te [.str (Str.ofString "No closing quotation") tm] tail h' → R (.error (.ref e)) { s with heap := h', toks := tk' }) →
    codeAny (model PySem.Challenge.rw_mq0369_01.row.prog w) (ktrTop dp un gd cn ⟨.function, nms, false, false, mor⟩ L a ccd [] outer) (.builtin "list.extend.loop" ⟨[.ref aL, .ref aX, res], []⟩) R s := by
  w_on
  induction al with
  | stop hr =>
    intro s k ln t3 ts tl tt acc c ws hc k0 k1 Fh N hW hz hok hbad
    refine codeAny_builtin F.entry_extend_loop ?_
    rw [Around.under_plainId F.plain_extend_loop _]
    refine wpAny_bind (owit_next Fh X (C := 727) (f := 724) (InstAt.of_news N (by k_mem) (by k_mem)) (by rfl) (by rfl) ?_)
    refine nxt (dp := dp) (un := un + 1) (cl := []) B Fh X N T (by omega) (by omega) hx k0 k1 ((congrArg (fun l => rt l .sp .sp false []) hc).trans hr) (by intro z; cases z) o1 o2 o3 o4 o5 (by
    intro p hp
    rcases List.mem_cons.mp hp with rfl | hp
    · exact ⟨neN (by dsimp only; omega), neN (by dsimp only; omega)⟩
    · exact ⟨(o7 p hp).1, (o7 p hp).2.1⟩) hw1 hw2 ?_ ?_ ?_
    · intro tok' q' eof' rest k' ln' tv t3' ts' tl' tt' h' tk' z1 z2 z3 z4 z5 z6 F' N'
      injection z1 with e1 e2
      exact absurd ⟨e2.symm, strNil e1.symm⟩ z6
    · intro e te eof' rest g₂ h' tk' z1 F2 U2 R2
      refine owit_stopS (name := cn) R2 F2 B U2 sub_stop fun g' Tn F' N' B' => ?_
      exact wpAny_pure (hok [] _ _ _ _ _ rfl Tn F' N' B' (by rw [List.append_nil]; exact hW))
    · intro e te tm g₂ h' tk' z1
      cases z1
  | bad hr =>
    intro s k ln t3 ts tl tt acc c ws hc k0 k1 Fh N hW hz hok hbad
    refine codeAny_builtin F.entry_extend_loop ?_
    rw [Around.under_plainId F.plain_extend_loop _]
    refine wpAny_bind (owit_next Fh X (C := 727) (f := 724) (InstAt.of_news N (by k_mem) (by k_mem)) (by rfl) (by rfl) ?_)
    refine nxt (dp := dp) (un := un + 1) (cl := []) B Fh X N T (by omega) (by omega) hx k0 k1 ((congrArg (fun l => rt l .sp .sp false []) hc).trans hr) (by intro z; cases z) o1 o2 o3 o4 o5 (by
    intro p hp
    rcases List.mem_cons.mp hp with rfl | hp
    · exact ⟨neN (by dsimp only; omega), neN (by dsimp only; omega)⟩
    · exact ⟨(o7 p hp).1, (o7 p hp).2.1⟩) hw1 hw2 ?_ ?_ ?_
    · intro tok' q' eof' rest k' ln' tv t3' ts' tl' tt' h' tk' z1
      cases z1
    · intro e te eof' rest g₂ h' tk' z1
      cases z1
    · intro e te tm g₂ h' tk' z1 F2 U2 R2
      refine owit_elseS R2 sub_value ?_
      exact hbad _ _ _ _ _ _ rfl F2 U2 (raised_mono R2 fun p hp => List.mem_cons_of_mem _ hp)
  | last hr hne =>
    intro s k ln t3 ts tl tt acc c ws hc k0 k1 Fh N hW hz hok hbad
    refine codeAny_builtin F.entry_extend_loop ?_
    rw [Around.under_plainId F.plain_extend_loop _]
    refine wpAny_bind (owit_next Fh X (C := 727) (f := 724) (InstAt.of_news N (by k_mem) (by k_mem)) (by rfl) (by rfl) ?_)
    refine nxt (dp := dp) (un := un + 1) (cl := []) B Fh X N T (by omega) (by omega) hx k0 k1 ((congrArg (fun l => rt l .sp .sp false []) hc).trans hr) (by intro z; cases z) o1 o2 o3 o4 o5 (by
    intro p hp
    rcases List.mem_cons.mp hp with rfl | hp
    · exact ⟨neN (by dsimp only; omega), neN (by dsimp only; omega)⟩
    · exact ⟨(o7 p hp).1, (o7 p hp).2.1⟩) hw1 hw2 ?_ ?_ ?_
    · intro tok' q' eof' rest k' ln' tv t3' ts' tl' tt' h' tk' z1 z2 z3 z4 z5 z6 F' N'
      injection z1 with e1 e2 e3 e4
      subst e3 e4
      refine wpAny_bind ?_
      have hL := (N' (aL, _) (by k_mem)).1
      have hU := news_upd (f := Obj.mapSeq (·.push (.str tok' tv))) (pre := [_, _, _, _, _, _]) F' N' (by
        intro p hp
        simp only [List.mem_cons, List.not_mem_nil, or_false] at hp
        rcases hp with rfl | rfl | rfl | rfl | rfl | rfl <;> exact neN (by dsimp only; omega)) (fun p hp => (o7 p hp).2.2) rfl rfl
      obtain ⟨hF, hN⟩ := hU
      refine wpAny_updateSeq hL rfl (wpAny_pure ⟨plainId_quiet F.plain_extend_loop _, ?_⟩) (Nat.le_trans (by omega : acc.size ≤ 1000) size1000) (by rw [Array.size_push]; exact Nat.succ_le_succ (Nat.le_trans (by omega : acc.size ≤ 1000) size1000))
      refine loopN B X T hd hu hx o1 o2 o3 o4 o5 o6 o7 z2 z3 z4 hF hN ?_
      intro g' h'' tk'' Tn F2 N2 B2
      exact hok [_] _ _ _ _ _ rfl Tn F2 N2 B2 (e1 ▸ hW.push)
    · intro e te eof' rest g₂ h' tk' z1
      injection z1 with e1 e2
      exact absurd ⟨e2, e1⟩ hne
    · intro e te tm g₂ h' tk' z1
      cases z1
  | more hr hne al ih =>
    intro s k ln t3 ts tl tt acc c ws hc k0 k1 Fh N hW hz hok hbad
    refine codeAny_builtin F.entry_extend_loop ?_
    rw [Around.under_plainId F.plain_extend_loop _]
    refine wpAny_bind (owit_next Fh X (C := 727) (f := 724) (InstAt.of_news N (by k_mem) (by k_mem)) (by rfl) (by rfl) ?_)
    refine nxt (dp := dp) (un := un + 1) (cl := []) B Fh X N T (by omega) (by omega) hx k0 k1 ((congrArg (fun l => rt l .sp .sp false []) hc).trans hr) (by intro z; cases z) o1 o2 o3 o4 o5 (by
    intro p hp
    rcases List.mem_cons.mp hp with rfl | hp
    · exact ⟨neN (by dsimp only; omega), neN (by dsimp only; omega)⟩
    · exact ⟨(o7 p hp).1, (o7 p hp).2.1⟩) hw1 hw2 ?_ ?_ ?_
    · intro tok' q' eof' rest k' ln' tv t3' ts' tl' tt' h' tk' z1 z2 z3 z4 z5 z6 F' N'
      injection z1 with e1 e2 e3 e4
      subst e3 e4
      refine wpAny_bind ?_
      have hL := (N' (aL, _) (by k_mem)).1
      have hU := news_upd (f := Obj.mapSeq (·.push (.str tok' tv))) (pre := [_, _, _, _, _, _]) F' N' (by
        intro p hp
        simp only [List.mem_cons, List.not_mem_nil, or_false] at hp
        rcases hp with rfl | rfl | rfl | rfl | rfl | rfl <;> exact neN (by dsimp only; omega)) (fun p hp => (o7 p hp).2.2) rfl rfl
      obtain ⟨hF, hN⟩ := hU
      refine wpAny_updateSeq hL rfl (wpAny_pure ⟨plainId_quiet F.plain_extend_loop _, ?_⟩) (Nat.le_trans (by omega : acc.size ≤ 1000) size1000) (by rw [Array.size_push]; exact Nat.succ_le_succ (Nat.le_trans (by omega : acc.size ≤ 1000) size1000))
      refine ih z2 z3 z4 hF hN (e1 ▸ hW.push) (by rw [Array.size_push]; omega) ?_ ?_
      · intro ws' acc' c' g' h'' tk'' hρ Tn F2 N2 B2 hW2
        subst hρ
        exact hok (_ :: ws') _ _ _ _ _ rfl Tn F2 N2 B2 (by rw [List.append_cons]; exact hW2)
      · intro e te tm g₂ h'' tk'' hρ F2 U2 R2
        subst hρ
        exact hbad _ _ _ _ _ _ rfl F2 U2 R2
    · intro e te eof' rest g₂ h' tk' z1
      injection z1 with e1 e2
      exact absurd ⟨e2, e1⟩ hne
    · intro e te tm g₂ h' tk' z1
      cases z1
end Mine
end
section
open PySem PySem.W PyProof.Rows PySem.Calls PySem.Spec
set_option maxRecDepth 100000
set_option maxHeartbeats 0
namespace Mine
theorem itr {w : World} {mean : ExcName → Option Value} {mg mb : Str → Option Value} {dp un : Nat} {gd : Option (List Code)} {cn : Str} {nms : List (Str × NameKind)} {mor : List (Str × Const)} {a : Addr} {ccd : Value} {cl : List (Str × Addr)} {outer : List Env} {A₀ : Around} {base h₀ : Heap} {L : Addr} {m : Str → Option Value} {s : Shared} {Q E : Value → Shared → Prop} {aX dX : Addr} {news : List (Addr × Obj)} : Below A₀ base outer h₀ → Fr h₀ L s.heap m → (KK w.params).In h₀ → News h₀ L s.heap (news) → Top vw LO mean mg mb h₀ → 
    dp + 20 < recursionLimit → un + 200 < cLine → (aX, instObj 727 dX) ∈ news → (∀ (h' : Heap) (tk' : Nat), Fr h₀ L h' m → News h₀ L h' news → Q (.ref aX) { s with heap := h', toks := tk' }) →
    wpAny (model PySem.Challenge.rw_mq0369_01.row.prog w) (ktrTop dp un gd cn ⟨.function, nms, false, false, mor⟩ L a ccd cl outer) (call (.ref 717) [.ref aX]) Q E s := by
  w_on
  k_fill
  intro B F X N T hd' hu hm hret
  refine wpAny_call ?_
  k_dflt k_enter
  k_steps
  rename Fr _ _ _ _ => nF
  rename News _ _ _ _ => nE
  exact hret _ _ nF nE
theorem mem_rot {α : Type _} {a b c d e f l p : α} {t : List α} (h : p ∈ a :: b :: c :: d :: e :: f :: l :: t) : p ∈ l :: a :: b :: c :: d :: e :: f :: t := by
  simp only [List.mem_cons] at h ⊢
  rcases h with h | h | h | h | h | h | h | h <;> simp only [h, true_or, or_true]
theorem listLex {w : World} {mean : ExcName → Option Value} {mg mb : Str → Option Value} {dp un : Nat} {gd : Option (List Code)} {cn : Str} {nms : List (Str × NameKind)} {mor : List (Str × Const)} {a : Addr} {ccd : Value} {outer : List Env} {A₀ : Around} {base h₀ : Heap} {L : Addr} {m : Str → Option Value}  {x : Str} {t1 t2 j1 j2 j3 : Tok} {i1 i2 i3 : Int} {aS dS : Addr}{wc : Str} {u0 u1 u2 u3 u4 u5 u6 u7 q0 q1 q2 q3 q4 q5 q6 q7 q8 q9 q10 q11 q12 q13 q14 q15 q16 q17 q18 : Tok} {g0 g1 g2 g3 g4 g5 g6 g7 g8 g9 g10 g11 g12 g13 g14 g15 g16 g17 g18 : Int} {aX dX aP aF : Addr}{tail : List (Addr × Obj)} (B : Below A₀ base outer h₀) (X : (KK w.params).In h₀) (T : Top vw LO mean mg mb h₀) (hd : dp + 120 < recursionLimit) (hu : un + 1020 < cLine) (hx : x.length ≤ 100) (o1 : @LT.lt Nat _ dX aX) (o2 : @LT.lt Nat _ aX dS) (o3 : @LT.lt Nat _ dS aS) (o4 : @LT.lt Nat _ aS aP) (o5 : @LT.lt Nat _ aP aF) (o7 : ∀ p ∈ tail, p.1 ≠ dS ∧ p.1 ≠ dX) (hw1 : hasC wc 34 = false) (hw2 : hasC wc 39 = false) {Q E : Value → Shared → Prop} {n : Nat} {ρ : Option (List (List Nat))} 
    {s : Shared} {k ln : Int} {t3 ts tl tt : Tok} (al : AllT n (x.cps.toList.drop k.toNat) ρ) (hn : n ≤ 900) (k0 : 0 ≤ k) (k1 : k ≤ x.length) (Fh : Fr h₀ L s.heap m) (N : News h₀ L s.heap ((aS, instObj 592 dS) :: (dS, dictOf [⟨i1, .str (Str.ofString "_StringIO__newline") j1, .str (Str.ofString "\n") t1⟩, ⟨i2, .str (Str.ofString "_StringIO__buf") j2, .str x t2⟩, ⟨i3, .str (Str.ofString "_StringIO__pos") j3, .int k t3⟩] 3) :: (aX, instObj 727 dX) :: (dX, dictOf [⟨g0, .str (Str.ofString "instream") q0, .ref aS⟩, ⟨g1, .str (Str.ofString "infile") q1, .none⟩, ⟨g2, .str (Str.ofString "posix") q2, .bool true⟩, ⟨g3, .str (Str.ofString "eof") q3, .none⟩, ⟨g4, .str (Str.ofString "commenters") q4, .str (Str.ofString "") u0⟩, ⟨g5, .str (Str.ofString "wordchars") q5, .str wc u1⟩, ⟨g6, .str (Str.ofString "whitespace") q6, .str (Str.ofString " \t\r\n") u2⟩, ⟨g7, .str (Str.ofString "whitespace_split") q7, .bool true⟩, ⟨g8, .str (Str.ofString "quotes") q8, .str (Str.ofString "'\"") u3⟩, ⟨g9, .str (Str.ofString "escape") q9, .str (Str.ofString "\\") u4⟩, ⟨g10, .str (Str.ofString "escapedquotes") q10, .str (Str.ofString "\"") u5⟩, ⟨g11, .str (Str.ofString "state") q11, .str (Str.ofString " ") ts⟩, ⟨g12, .str (Str.ofString "pushback") q12, .ref aP⟩, ⟨g13, .str (Str.ofString "lineno") q13, .int ln tl⟩, ⟨g14, .str (Str.ofString "debug") q14, .int 0 u6⟩, ⟨g15, .str (Str.ofString "token") q15, .str (Str.ofString "") tt⟩, ⟨g16, .str (Str.ofString "filestack") q16, .ref aF⟩, ⟨g17, .str (Str.ofString "source") q17, .none⟩, ⟨g18, .str (Str.ofString "_punctuation_chars") q18, .str (Str.ofString "") u7⟩] 19) :: (aP, deqObj) :: (aF, deqObj) :: tail)) :
    (∀ (ws' : List (List Nat)) (aL : Addr) (acc' : Array Value) (c' : Nat) (g' h' : Heap) (tk' : Nat), ρ = some ws' → @LT.lt Nat _ aF aL → (∀ p ∈ tail, @LT.lt Nat _ p.1 aL) → KtsTurn (outer.filterMap (·.frame)) h₀ g' → Fr g' L h' m → News g' L h' ((aL, ({ cls := .type "list", dict := none, data := .seq acc' c', slots := #[] } : Obj)) :: tail) → Below A₀ base outer g' → Words acc'.toList ws' → Q (.ref aL) { s with heap := h', toks := tk' }) →
    (∀ (e te : Addr) (tm : Tok) (g₂ h' : Heap) (tk' : Nat), ρ = none → Fr h₀ L g₂ m → g₂.UpToSlots h' → RaisedS base g₂ ((envX cn ⟨.function, nms, false, false, mor⟩ L a ccd []) :: outer) e (.type "ValueError") te [.str (Str.ofString "No closing quotation") tm] tail h' → E (.ref e) { s with heap := h', toks := tk' }) →
    wpAny (model PySem.Challenge.rw_mq0369_01.row.prog w) (ktrTop dp un gd cn ⟨.function, nms, false, false, mor⟩ L a ccd [] outer) (call (.type "list") [.ref aX]) Q E s := by
  w_on
  intro hok hbad
  have lt : ∀ p ∈ ((aS, instObj 592 dS) :: (dS, dictOf [⟨i1, .str (Str.ofString "_StringIO__newline") j1, .str (Str.ofString "\n") t1⟩, ⟨i2, .str (Str.ofString "_StringIO__buf") j2, .str x t2⟩, ⟨i3, .str (Str.ofString "_StringIO__pos") j3, .int k t3⟩] 3) :: (aX, instObj 727 dX) :: (dX, dictOf [⟨g0, .str (Str.ofString "instream") q0, .ref aS⟩, ⟨g1, .str (Str.ofString "infile") q1, .none⟩, ⟨g2, .str (Str.ofString "posix") q2, .bool true⟩, ⟨g3, .str (Str.ofString "eof") q3, .none⟩, ⟨g4, .str (Str.ofString "commenters") q4, .str (Str.ofString "") u0⟩, ⟨g5, .str (Str.ofString "wordchars") q5, .str wc u1⟩, ⟨g6, .str (Str.ofString "whitespace") q6, .str (Str.ofString " \t\r\n") u2⟩, ⟨g7, .str (Str.ofString "whitespace_split") q7, .bool true⟩, ⟨g8, .str (Str.ofString "quotes") q8, .str (Str.ofString "'\"") u3⟩, ⟨g9, .str (Str.ofString "escape") q9, .str (Str.ofString "\\") u4⟩, ⟨g10, .str (Str.ofString "escapedquotes") q10, .str (Str.ofString "\"") u5⟩, ⟨g11, .str (Str.ofString "state") q11, .str (Str.ofString " ") ts⟩, ⟨g12, .str (Str.ofString "pushback") q12, .ref aP⟩, ⟨g13, .str (Str.ofString "lineno") q13, .int ln tl⟩, ⟨g14, .str (Str.ofString "debug") q14, .int 0 u6⟩, ⟨g15, .str (Str.ofString "token") q15, .str (Str.ofString "") tt⟩, ⟨g16, .str (Str.ofString "filestack") q16, .ref aF⟩, ⟨g17, .str (Str.ofString "source") q17, .none⟩, ⟨g18, .str (Str.ofString "_punctuation_chars") q18, .str (Str.ofString "") u7⟩] 19) :: (aP, deqObj) :: (aF, deqObj) :: tail), @LT.lt Nat _ p.1 s.heap.objs.size := fun p hp => Heap.lt_size (N p hp).1
  have l1 : @LT.lt Nat _ aF s.heap.objs.size := lt (aF, _) (by k_mem)
  have l2 : ∀ p ∈ tail, @LT.lt Nat _ p.1 s.heap.objs.size := fun p hp => lt p (by simp only [List.mem_cons, hp, or_true])
  refine callType_codes (Q₁ := fun obj s₁ => obj = .ref s.heap.objs.size ∧ s₁ = { s with heap := s.heap.push { cls := .type "list", data := .seq #[] } }) F.called_list (F.typeCall_list_1 _) F.entry_list_init
    (code_list_new _ ⟨rfl, rfl⟩) fun obj s₁ h₁ => ?_
  obtain ⟨rfl, rfl⟩ := h₁
  refine ⟨⟨_, Heap.get?_push_size _ rfl, rfl⟩, F.args_list_init_2 _ _, ?_⟩
  have F1 := Fh.push ({ cls := .type "list", data := .seq #[] } : Obj)
  have N1 := News.push Fh N ({ cls := .type "list", data := .seq #[] } : Obj)
  have N2 : News h₀ L (s.heap.push ({ cls := .type "list", data := .seq #[] } : Obj)) ((aS, instObj 592 dS) :: (dS, dictOf [⟨i1, .str (Str.ofString "_StringIO__newline") j1, .str (Str.ofString "\n") t1⟩, ⟨i2, .str (Str.ofString "_StringIO__buf") j2, .str x t2⟩, ⟨i3, .str (Str.ofString "_StringIO__pos") j3, .int k t3⟩] 3) :: (aX, instObj 727 dX) :: (dX, dictOf [⟨g0, .str (Str.ofString "instream") q0, .ref aS⟩, ⟨g1, .str (Str.ofString "infile") q1, .none⟩, ⟨g2, .str (Str.ofString "posix") q2, .bool true⟩, ⟨g3, .str (Str.ofString "eof") q3, .none⟩, ⟨g4, .str (Str.ofString "commenters") q4, .str (Str.ofString "") u0⟩, ⟨g5, .str (Str.ofString "wordchars") q5, .str wc u1⟩, ⟨g6, .str (Str.ofString "whitespace") q6, .str (Str.ofString " \t\r\n") u2⟩, ⟨g7, .str (Str.ofString "whitespace_split") q7, .bool true⟩, ⟨g8, .str (Str.ofString "quotes") q8, .str (Str.ofString "'\"") u3⟩, ⟨g9, .str (Str.ofString "escape") q9, .str (Str.ofString "\\") u4⟩, ⟨g10, .str (Str.ofString "escapedquotes") q10, .str (Str.ofString "\"") u5⟩, ⟨g11, .str (Str.ofString "state") q11, .str (Str.ofString " ") ts⟩, ⟨g12, .str (Str.ofString "pushback") q12, .ref aP⟩, ⟨g13, .str (Str.ofString "lineno") q13, .int ln tl⟩, ⟨g14, .str (Str.ofString "debug") q14, .int 0 u6⟩, ⟨g15, .str (Str.ofString "token") q15, .str (Str.ofString "") tt⟩, ⟨g16, .str (Str.ofString "filestack") q16, .ref aF⟩, ⟨g17, .str (Str.ofString "source") q17, .none⟩, ⟨g18, .str (Str.ofString "_punctuation_chars") q18, .str (Str.ofString "") u7⟩] 19) :: (aP, deqObj) :: (aF, deqObj) :: (s.heap.objs.size, ({ cls := .type "list", dict := none, data := .seq #[] 0, slots := #[] } : Obj)) :: tail) := fun p hp => N1 p (mem_rot hp)
  clear N1
  generalize s.heap.push ({ cls := .type "list", data := .seq #[] } : Obj) = h1 at *
  generalize s.heap.objs.size = aL at *
  show wpAny _ _ (do let old ← Builtin.List.listItems (.ref aL); Builtin.List.listUpdate (.ref aL) (fun _ => #[]); letGo old.toList.reverse; Builtin.List.listExtendWith (.ref aL) (.ref aX) .none) _ _ _
  refine wpAny_bind ?_
  unfold Builtin.List.listItems
  have hS := (N2 (aL, _) (by k_mem)).1
  refine wpAny_bind (wpAny_seqItems hS rfl (wpAny_pure ?_))
  show wpAny _ _ (updateSeq aL (fun _ => #[]) >>= fun _ => letGo (#[] : Array Value).toList.reverse >>= fun _ => Builtin.List.listExtendWith (.ref aL) (.ref aX) .none) _ _ _
  refine wpAny_bind (wpAny_updateSeq hS rfl ?_)
  obtain ⟨F3, N3⟩ := news_upd (f := Obj.mapSeq (fun _ => (#[] : Array Value))) (pre := [_, _, _, _, _, _]) F1 N2 (by
        intro p hp
        simp only [List.mem_cons, List.not_mem_nil, or_false] at hp
        rcases hp with rfl | rfl | rfl | rfl | rfl | rfl <;> exact neN (by dsimp only; omega)) (fun p hp => Nat.ne_of_lt (l2 p hp)) rfl rfl
  clear F1 N2 hS
  refine wpAny_bind (wpAny_letGo ?_)
  unfold Builtin.List.listExtendWith
  have I3 := InstAt.of_news (x := aX) (C := 727) N3 (by k_mem) (by k_mem)
  refine wpAny_bind (I3.type.here ?_)
  have h1 : Builtin.List.listSameRef (.ref aL) (.ref aX) = false := by
    have : ¬ (aL = aX) := neN (by omega)
    simp [Builtin.List.listSameRef, this]
  have h2 : (Value.ref 727 == Value.type "list") = false := by decide
  have h3 : (Value.ref 727 == Value.type "tuple") = false := by decide
  simp only [h1, h2, h3, Bool.or_false, Bool.false_eq_true, if_false]
  refine wpAny_bind (owit_iter F3 X (C := 727) (f := 717) I3 (by rfl) (by rfl) ?_)
  refine itr (dp := dp) (un := un + 2) (cl := []) B F3 X N3 T (by omega) (by omega) (dX := dX) (by k_mem) ?_
  intro h' tk' F4 N4
  have I4 := InstAt.of_news (x := aX) (C := 727) N4 (by k_mem) (by k_mem)
  refine owit_it F4 X (C := 727) (g := .ref 724) I4 (by rfl) ?_
  refine wpAny_bind (wpAny_holding ?_)
  unfold Builtin.List.listLengthHint
  refine wpAny_bind (wpAny_bind (I4.type.here ((looks_findIn (r := none) (X.keeps F4.keep) (by rfl)).here ?_)))
  show wpAny _ _ (specialOf (Value.ref aX) (Str.ofString "__length_hint__") >>= _) _ _ _
  refine wpAny_bind (wpAny_bind (I4.type.here ((looks_findIn (r := none) (X.keeps F4.keep) (by rfl)).here ?_)))
  refine wpAny_pure ?_
  show wpAny _ _ (rule "list.extend.makes-room" >>= fun _ => Builtin.List.listTouch (.ref aL) >>= fun _ =>
    again (.builtin "list.extend.loop" ⟨[.ref aL, .ref aX, .none], []⟩)) _ _ _
  refine wpAny_bind (wpAny_rule ?_)
  refine wpAny_bind ?_
  show wpAny _ _ (updateSeq aL (·.push .none) >>= fun _ => updateSeq aL (·.pop)) _ _ _
  refine wpAny_bind (wpAny_updateSeq (N4 (aL, _) (by k_mem)).1 rfl ?_)
  obtain ⟨F5, N5⟩ := news_upd (f := Obj.mapSeq (·.push Value.none)) (pre := [_, _, _, _, _, _]) F4 N4 (by
        intro p hp
        simp only [List.mem_cons, List.not_mem_nil, or_false] at hp
        rcases hp with rfl | rfl | rfl | rfl | rfl | rfl <;> exact neN (by dsimp only; omega)) (fun p hp => Nat.ne_of_lt (l2 p hp)) rfl rfl
  refine wpAny_updateSeq (hz := by seq_fits) (N5 (aL, _) (by k_mem)).1 rfl ?_
  obtain ⟨F6, N6⟩ := news_upd (f := Obj.mapSeq (·.pop)) (pre := [_, _, _, _, _, _]) F5 N5 (by
        intro p hp
        simp only [List.mem_cons, List.not_mem_nil, or_false] at hp
        rcases hp with rfl | rfl | rfl | rfl | rfl | rfl <;> exact neN (by dsimp only; omega)) (fun p hp => Nat.ne_of_lt (l2 p hp)) rfl rfl
  clear F3 N3 I3 F4 N4 I4 F5 N5
  refine wpAny_pure ⟨plainId_quiet F.plain_extend_loop _, loopL (dp := dp) (un := un + 1) (ws := []) B X T (by omega) (by omega) hx o1 o2 o3 o4 o5 l1 (fun p hp => ⟨(o7 p hp).1, (o7 p hp).2, Nat.ne_of_lt (l2 p hp)⟩) hw1 hw2 al rfl k0 k1 F6 N6 .nil (by show 0 + n ≤ 1000; omega) ?_ ?_⟩
  · intro ws' acc' c' g' h'' tk'' hρ Tn F7 N7 B7 hW
    exact ⟨rfl, hok _ _ _ _ _ _ _ hρ l1 l2 Tn F7 N7 B7 hW⟩
  · intro e te tm g₂ h'' tk'' hρ F7 U7 R7
    exact hbad _ _ _ _ _ _ hρ F7 U7 R7
end Mine
end
section
open PySem PySem.W PyProof.Rows PySem.Calls PySem.Spec
set_option maxRecDepth 100000
set_option maxHeartbeats 0
namespace Mine
local macro_rules | `(tactic| walk_at "call ref") => `(tactic| k_extra "call!")
local macro_rules | `(tactic| walk_at "call type:collections.deque") => `(tactic| (k_here; k_dflt (refine' dq_call ?k1 ?k2 ?_; (case k1 => k_asm); (case k2 => k_asm); k_whole; intro a' h' l1 F' N'; (try k_lt l1); (try k_sweep))))
theorem units_mk (A : Around) (C : Addr) (vals : List Value) (kw) : (A.under (.builtin "type.__call__" ⟨.ref C :: vals, kw⟩)).units = A.units + 1 := rfl
def Hid (p : Prop) : Prop := p
theorem reord {h₀ : Heap} {L : Addr} {h : Heap} {a b c d e f : Addr × Obj} {t : List (Addr × Obj)} (N : News h₀ L h (a :: b :: c :: d :: e :: f :: t)) : News h₀ L h (c :: d :: e :: f :: b :: a :: t) := fun p hp => N p (by
  simp only [List.mem_cons] at hp ⊢
  rcases hp with h | h | h | h | h | h | h <;> simp only [h, true_or, or_true])
theorem spl {w : World} {mean : ExcName → Option Value} {mg mb : Str → Option Value} {dp un : Nat} {gd : Option (List Code)} {cn : Str} {nms : List (Str × NameKind)} {mor : List (Str × Const)} {a : Addr} {ccd : Value} {outer : List Env} {A₀ : Around} {base h₀ : Heap} {L : Addr} {m : Str → Option Value} {s : Shared} {Q E : Value → Shared → Prop} {x : Str} {t : Tok} {news : List (Addr × Obj)} {n : Nat} {ρ : Option (List (List Nat))} : Below A₀ base outer h₀ → Fr h₀ L s.heap m → (KK w.params).In h₀ → News h₀ L s.heap news → Top vw LO mean mg mb h₀ → (KK w.params).In base → Top vw LO mean mg mb base → KtsDicts (outer.filterMap (·.frame)) h₀ →
    dp + 200 < recursionLimit → un + 2000 < cLine → x.length ≤ 100 → AllT n x.cps.toList ρ → n ≤ 900 →
    (∀ (ws' : List (List Nat)) (aL : Addr) (acc' : Array Value) (c' : Nat) (h₀' h' : Heap) (tk' : Nat), ρ = some ws' → (∀ p ∈ news, @LT.lt Nat _ p.1 aL) → KtsTurn (outer.filterMap (·.frame)) h₀ h₀' → Fr h₀' L h' m → News h₀' L h' ((aL, ({ cls := .type "list", dict := none, data := .seq acc' c', slots := #[] } : Obj)) :: news) → Below A₀ base outer h₀' → (KK w.params).In h₀' → Top vw LO mean mg mb h₀' → KtsDicts (outer.filterMap (·.frame)) h₀' → Words acc'.toList ws' → Q (.ref aL) { s with heap := h', toks := tk' }) →
    (∀ (e te : Addr) (tm : Tok) (g₂ h' : Heap) (tk' : Nat), ρ = none → Fr h₀ L g₂ m → g₂.UpToSlots h' → RaisedS base g₂ ((envX cn ⟨.function, nms, false, false, mor⟩ L a ccd []) :: outer) e (.type "ValueError") te [.str (Str.ofString "No closing quotation") tm] news h' → E (.ref e) { s with heap := h', toks := tk' }) →
    wpAny (model PySem.Challenge.rw_mq0369_01.row.prog w) (ktrTop dp un gd cn ⟨.function, nms, false, false, mor⟩ L a ccd [] outer) (call (.ref 739) [.str x t]) Q E s := by
  w_on
  k_fill
  intro B F X N T XB TB D hd' hu hx al hn hok hbad
  refine wpAny_call ?_
  k_dflt (refine' code_defS (cn := cn) (cs := ⟨.function, nms, false, false, mor⟩) (L := L) (a := a) (ccd := ccd) ?k1 ?k2 ?k3 ?k4 ?k5 ?XB ?TB ?D ?T0 ?kA ?k6 ?k7 ?k8 ?k9 ?kB ?_ ?cK ?c2 ?c3 ?c4 ?c5; (case kA => exact rfl); (case k2 => k_asm); (case k1 => k_asm); (case XB => assumption); (case TB => assumption); (case D => assumption); (case T0 => exact KtsTurn.refl); (case k3 => k_asm); (case k4 => k_asm); (case k5 => k_asm); (case k6 => k_is); (case k7 => k_is); (case k8 => k_room); (case k9 => exact binds_K (X.keeps F.keep) rfl (by k_is) rfl rfl rfl); (case kB => exact locs rfl); (case cK => exact rfl); (case c2 => exact rfl); (case c3 => exact rfl); (case c4 => exact rfl); (case c5 => decide); k_whole; intro g' L' h' FG' F' N' B' X' T' D'; (try dsimp only); (try k_lift B'); (try k_fold))
  change Hid _ at D
  change Hid _ at XB
  change Hid _ at TB
  rename KtsDicts _ _ => D'
  change Hid _ at D'
  k_with_none
  k_with "call!" => k_dflt (refine' newIO ?rB ?rF ?rX ?rN ?rT ?rd ?ru hx ?_; (case rB => k_asm); (case rF => k_asm); (case rX => k_asm); (case rN => k_asm); (case rT => k_asm); (case rd => ktr_room); (case ru => first | ktr_units | (simp only [units_mk, units_in1, units_deeper, Around.mark_units, units_caller]; (try dsimp only [ktrTop]); have := cLine_is; omega)); intro aS dS t1 t2 t3 j1 j2 j3 i1 i2 i3 h' tk' o1 o2 F' N'; (have o3 := (fun p hp => Nat.lt_trans (o1 p hp) o2)); (k_lt o1); (k_lt o3))
  k_steps
  rename Fr _ _ _ _ => nF
  rename News _ _ _ _ => nE
  refine listLex (cn := Str.ofString "split") (by k_asm) (by k_asm) (by k_asm) ?rd ?ru hx ?o1 ?o2 ?o3 ?o4 ?o5 ?o7 ?w1 ?w2 al hn (Int.le_refl 0) (Int.natCast_nonneg _) nF (reord nE) ?hok ?hbad
  case rd => ktr_room
  case ru => first | ktr_units | (simp only [units_mk, units_in1, units_deeper, Around.mark_units, units_caller]; (try dsimp only [ktrTop]); have := cLine_is; omega)
  case o1 => omega
  case o2 => omega
  case o3 => omega
  case o4 => omega
  case o5 => omega
  case w1 => decide +kernel
  case w2 => decide +kernel
  case o7 =>
    rename (∀ (p : Addr × Obj), p ∈ news → @LT.lt Nat _ p.1 _) => nL
    intro p hp
    exact ⟨Nat.ne_of_lt (lt_of_all o1.2.2 p hp), Nat.ne_of_lt (nL p hp)⟩
  case hok =>
    intro ws' aL acc' c' g2 h2 tk2 hρ l3 l4 Tn F2 N2 B2 hW
    exact leaveS_r F2 N2 Tn (fun h₀' Tn' F3 N3 B3 X3 T3 D3 => hok ws' aL acc' c' h₀' h2 tk2 hρ l4 Tn' F3 N3 B3 X3 T3 D3 hW)
  case hbad =>
    intro e te tm g₂ h2 tk2 hρ F2 U2 R2
    refine leave_onS B' F2 R2 U2 ?_
    intro h3 S3 _ U3
    exact hbad _ _ _ g' h3 _ hρ FG' U3 S3
end Mine
end
section
open PySem PySem.W PyProof.Rows PySem.Calls PySem.Spec
set_option maxRecDepth 100000
set_option maxHeartbeats 0
namespace Mine
local macro_rules | `(tactic| walk_at "call ref") => `(tactic| k_extra "call!")
theorem lread {w : World} {mean : ExcName → Option Value} {mg mb : Str → Option Value} {dp un : Nat} {gd : Option (List Code)} {cn : Str} {nms : List (Str × NameKind)} {mor : List (Str × Const)} {a : Addr} {ccd : Value} {A₀ : Around} {base h₀ : Heap} {L : Addr} {m : Str → Option Value} {s : Shared} {Q E : Value → Shared → Prop} {x : Str} {t : Tok} {news : List (Addr × Obj)} {n : Nat} {ρ : Option (List (List Nat))} : Below A₀ base [] h₀ → Fr h₀ L s.heap m → (KK w.params).In h₀ → News h₀ L s.heap news → Top vw LO mean mg mb h₀ → (KK w.params).In base → Top vw LO mean mg mb base →
    dp + 300 < recursionLimit → un + 3000 < cLine → x.length ≤ 100 → AllT n x.cps.toList ρ → n ≤ 900 →
    (∀ (ws' : List (List Nat)) (aL : Addr) (acc' : Array Value) (c' : Nat) (h' : Heap) (tk' : Nat), ρ = some ws' → (∀ p ∈ news, @LT.lt Nat _ p.1 aL) → Fr h₀ L h' m → News h₀ L h' ((aL, ({ cls := .type "list", dict := none, data := .seq acc' c', slots := #[] } : Obj)) :: news) → Words acc'.toList ws' → Q (.ref aL) { s with heap := h', toks := tk' }) →
    (∀ (h' : Heap) (tk' : Nat), ρ = none → Fr h₀ L h' m → News h₀ L h' news → Q .none { s with heap := h', toks := tk' }) →
    wpAny (model PySem.Challenge.rw_mq0369_01.row.prog w) (ktrTop dp un gd cn ⟨.function, nms, false, false, mor⟩ L a ccd [] []) (call (.ref 771) [.str x t]) Q E s := by
  w_on
  k_fill
  intro B F X N T XB TB hd' hu hx al hn hok hbad
  refine wpAny_call ?_
  k_dflt (refine' code_defS0 (cn := cn) (cs := ⟨.function, nms, false, false, mor⟩) (L := L) (a := a) (ccd := ccd) ?k1 ?k2 ?k3 ?k4 ?k5 ?kA ?k6 ?k7 ?k8 ?k9 ?kB ?_ ?cK ?c2 ?c3 ?c4 ?c5; (case kA => exact rfl); (case k2 => k_asm); (case k1 => k_asm); (case k3 => k_asm); (case k4 => k_asm); (case k5 => k_asm); (case k6 => k_is); (case k7 => k_is); (case k8 => k_room); (case k9 => first | exact BindsTo.of_eq rfl | exact binds_K (X.keeps F.keep) rfl (by k_is) rfl rfl rfl); (case kB => exact locs rfl); (case cK => exact rfl); (case c2 => exact rfl); (case c3 => exact rfl); (case c4 => exact rfl); (case c5 => decide); k_whole; intro g' L' h' FG' F' N' B' X' T' D'; (try dsimp only); (try k_lift B'); (try k_fold))
  k_with_none
  k_with "call!" => k_dflt (refine' spl ?rB ?rF ?rX ?rN ?rT XB TB ?rD ?rd ?ru hx al hn ?_ ?_; (case rB => k_asm); (case rF => k_asm); (case rX => k_asm); (case rN => k_asm); (case rT => k_asm); (case rD => k_asm); (case rd => ktr_room); (case ru => ktr_units); (any_goals (first | (intro ws' aL acc' c' g2 h2 tk2 hρ l3 Tn F2 N2 B2 X2 T2 D2 hW) | (intro e te tm g₂ h2 tk2 hρ F2 U2 R2))))
  k_steps
  · rename Fr _ _ _ _ => nF
    rename News _ _ _ _ => nE
    refine hok _ _ _ _ _ _ hρ ?_ nF nE hW
    exact l3
  · rename Fr _ _ _ _ => nF
    rename News _ _ _ _ => nE
    refine hbad _ _ hρ nF fun p hp => nE p ?_
    first | exact hp | simp only [List.mem_cons, hp, or_true] | simp [hp]
end Mine
end
section
open PySem PySem.W PyProof.Rows
namespace Mine
noncomputable def sub1 (c : Nat) (z : List Nat) (k : Nat) : List Nat := if k = c then z else [k]
theorem sub1_free (c : Nat) (z : List Nat) : ∀ l : List Nat, c ∉ l → l.flatMap (sub1 c z) = l
  | [], _ => rfl
  | k :: r, h => by
    have h1 : ¬ k = c := fun e => h (e ▸ List.mem_cons_self ..)
    have h2 : c ∉ r := fun m => h (List.mem_cons_of_mem _ m)
    rw [List.flatMap_cons, sub1_free c z r h2]
    unfold sub1
    rw [if_neg h1]
    rfl
theorem sub1_join (c : Nat) (z : Str) : ∀ parts : List Str, (∀ p ∈ parts, c ∉ p.cps.toList) → (Str.join ⟨#[c]⟩ parts).cps.toList.flatMap (sub1 c z.cps.toList) = (Str.join z parts).cps.toList
  | [], _ => rfl
  | [p], h => sub1_free c _ _ (h p (List.mem_singleton.mpr rfl))
  | p :: q :: r, h => by
    have ih := sub1_join c z (q :: r) fun a ha => h a (List.mem_cons_of_mem _ ha)
    show (p ++ ⟨#[c]⟩ ++ Str.join ⟨#[c]⟩ (q :: r)).cps.toList.flatMap (sub1 c z.cps.toList) = (p ++ z ++ Str.join z (q :: r)).cps.toList
    simp only [Str.cps_append, Array.toList_append, List.flatMap_append]
    rw [ih, sub1_free c _ _ (h p (List.mem_cons_self ..))]
    congr 2
    show (if c = c then z.cps.toList else [c]) ++ [] = _
    rw [if_pos rfl, List.append_nil]
theorem rep_one (x z : Str) (c : Nat) : (Txt.replace x ⟨#[c]⟩ z).cps.toList = x.cps.toList.flatMap (sub1 c z.cps.toList) := by
  rw [StrLaws.replace_one, ← sub1_join c z _ (StrLaws.split_free x c), StrLaws.join_split]
noncomputable def esc (k : Nat) : List Nat := if k = 92 then [92, 92] else if k = 34 then [92, 34] else [k]
noncomputable def escs (v : List Nat) : List Nat := v.flatMap esc
noncomputable def wr (v : List Nat) : List Nat := [112, 61, 34] ++ escs v ++ [34]
theorem rep_two (x : Str) : (Txt.replace (Txt.replace x (Str.ofString "\\") (Str.ofString "\\\\")) (Str.ofString "\"") (Str.ofString "\\\"")).cps.toList = escs x.cps.toList := by
  rw [show (Str.ofString "\"") = (⟨#[34]⟩ : Str) from rfl, rep_one, show (Str.ofString "\\") = (⟨#[92]⟩ : Str) from rfl, rep_one, List.flatMap_assoc]
  unfold escs
  congr 1
  funext k
  rw [show (Str.ofString "\\\\").cps.toList = [92, 92] from rfl, show (Str.ofString "\\\"").cps.toList = [92, 34] from rfl]
  unfold sub1 esc
  split
  · rfl
  · rename_i h
    by_cases h2 : k = 34
    · subst h2; rfl
    · simp [h2]
theorem escs_len (v : List Nat) : (escs v).length ≤ 2 * v.length := by
  induction v with
  | nil => exact Nat.le_refl _
  | cons k r ih =>
    show (esc k ++ escs r).length ≤ _
    rw [List.length_append, List.length_cons]
    have : (esc k).length ≤ 2 := by
      unfold esc
      split
      · decide
      · split
        · decide
        · exact (by decide : 1 ≤ 2)
    omega
theorem sub1_len {c : Nat} {z : List Nat} (hz : z.length = 2) (v : List Nat) : (v.flatMap (sub1 c z)).length ≤ 2 * v.length := by
  induction v with
  | nil => exact Nat.le_refl _
  | cons k r ih =>
    rw [List.flatMap_cons, List.length_append, List.length_cons]
    have : (sub1 c z k).length ≤ 2 := by
      unfold sub1
      split
      · omega
      · exact (by decide : 1 ≤ 2)
    omega
theorem rep_len (x : Str) : (Txt.replace x (Str.ofString "\\") (Str.ofString "\\\\")).length ≤ 2 * x.length := by
  have h := rep_one x (Str.ofString "\\\\") 92
  have h2 := sub1_len (c := 92) (z := (Str.ofString "\\\\").cps.toList) rfl x.cps.toList
  rw [← h] at h2
  exact h2
theorem rep_two_len (x : Str) : (Txt.replace (Txt.replace x (Str.ofString "\\") (Str.ofString "\\\\")) (Str.ofString "\"") (Str.ofString "\\\"")).length ≤ 2 * x.length := by
  have h := rep_two x
  have h2 := escs_len x.cps.toList
  rw [← h] at h2
  exact h2
end Mine
end
section
open PySem PySem.W PyProof.Rows PySem.Calls PySem.Spec
set_option maxRecDepth 100000
set_option maxHeartbeats 0
namespace Mine
theorem keep_toks {M : Model} {A : Around} {c : Sem Flow} {Q : Flow → Shared → Prop} {E : Value → Shared → Prop} {h : Heap} {g : Array GenState} {d : Drawn} {tk : Nat} {o : OsState} (h0 : 0 < tk) (k : ∀ tk', 0 < tk' → wpAny M A c Q E ⟨h, g, d, tk', o⟩) : wpAny M A c Q E ⟨h, g, d, tk, o⟩ := k tk h0
local macro_rules | `(tactic| walk_at "execs cons") => `(tactic| (k_here; (fail_if_success (fail_if_success k_gentoks)); refine keep_toks (by first | omega | (show 0 < _ + 3; omega)) ?_; intro tk htk))
section
variable {prog : Program} {w : World} {A : Around} {E : Value → Shared → Prop} {s : Shared} {x y z : Str} {t u v : Tok} {Q : Value → Shared → Prop}
theorem replK (hu : u ≠ 0) (hv : v ≠ 0) (huv : u ≠ v) (hyz : (y == z) = false) (hb : x.length + (x.length + 1) * z.length ≤ 16777216)
    (hq : ∀ t' k, s.toks ≤ k → Q (.str (Txt.replace x y z) t') { s with toks := k }) : wpAny (model prog w) A (call (.builtin "str.replace") [.str x t, .str y u, .str z v]) Q E s := by
  have hl : Builtin.Str.tooLong (x.length + (Builtin.Str.occurrences x y 0 x.length (x.length + 1)).length * z.length) = false := by
    have h1 := StrLaws.occ_length_le x y 0 x.length (x.length + 1)
    have h2 := Nat.mul_le_mul_right z.length h1
    have e : sizeLine = 16777216 := by decide
    unfold Builtin.Str.tooLong
    exact decide_eq_false (by omega)
  refine call_gives F.slot_str_replace (typeIs_str _ _ _) F.entry_str_replace (F.args_str_replace_3 _ _ _) (gives_str_replace x y z t u v fun _ => ⟨by simp [hu, hv], by simp [huv], hyz, hl⟩) ?_
  unfold Txt.replace at hq
  split
  · rename_i hc
    simp only [hc, if_true] at hq
    exact hq t s.toks (Nat.le_refl _)
  · rename_i hc
    simp only [hc, Bool.false_eq_true, if_false] at hq
    exact ⟨fits_replaced y hb, hq _ _ (Nat.le_succ _)⟩
end
theorem fit1 {v : Str} (hx : v.length ≤ 7) : v.length + (v.length + 1) * (Str.ofString "\\\\").length ≤ 16777216 := by
  rw [show (Str.ofString "\\\\").length = 2 from rfl]; omega
theorem fit2 {v : Str} (hx : v.length ≤ 7) : (Txt.replace v (Str.ofString "\\") (Str.ofString "\\\\")).length + ((Txt.replace v (Str.ofString "\\") (Str.ofString "\\\\")).length + 1) * (Str.ofString "\\\"").length ≤ 16777216 := by
  have := rep_len v
  rw [show (Str.ofString "\\\"").length = 2 from rfl]; omega
theorem repl2 {prog : Program} {w : World} {A : Around} {E : Value → Shared → Prop} {s : Shared} {x : Str} {t u v : Tok} {Q : Value → Shared → Prop} (hx : x.length ≤ 7) (hu : u ≠ 0) (hv : v ≠ 0) (huv : u ≠ v)
    (hq : ∀ y t' k, y.cps.toList = escs x.cps.toList → y.length ≤ 14 → Q (.str y t') { s with toks := k }) : wpAny (model prog w) A (call (.builtin "str.replace") [.str (Txt.replace x (Str.ofString "\\") (Str.ofString "\\\\")) t, .str (Str.ofString "\"") u, .str (Str.ofString "\\\"") v]) Q E s :=
  replK hu hv huv (by decide) (fit2 hx) fun t' k _ => hq _ t' k (rep_two x) (Nat.le_trans (rep_two_len x) (by omega))
local macro_rules | `(tactic| walk_at "call builtin:str.replace") => `(tactic| (k_here; first
  | (refine repl2 (by assumption) (by (show @Ne Nat _ _); dsimp only; omega) (by (show @Ne Nat _ _); dsimp only; omega) (by (show @Ne Nat _ _); dsimp only; omega) ?_; intro y _ tk hy hyl; (try dsimp only))
  | (refine replK (by (show @Ne Nat _ _); dsimp only; omega) (by (show @Ne Nat _ _); dsimp only; omega) (by (show @Ne Nat _ _); dsimp only; omega) (by decide) (fit1 (by assumption)) ?_; intro _ tk htk; (try dsimp only at htk); (try dsimp only))))
theorem wr_str {y : Str} {l : List Nat} (h : y.cps.toList = escs l) : (Str.empty ++ Str.ofString "p" ++ Str.ofString "=\"" ++ y ++ Str.ofString "\"").cps.toList = wr l := by
  simp only [Str.cps_append, Array.toList_append]
  rw [h]
  rfl
theorem fmt {w : World} {mean : ExcName → Option Value} {mg mb : Str → Option Value} {dp un : Nat} {gd : Option (List Code)} {cn : Str} {nms : List (Str × NameKind)} {mor : List (Str × Const)} {a : Addr} {ccd : Value} {cl : List (Str × Addr)} {outer : List Env} {A₀ : Around} {base h₀ : Heap} {L : Addr} {m : Str → Option Value} {s : Shared} {Q E : Value → Shared → Prop} {v : Str} {tp t : Tok} {news : List (Addr × Obj)} : Below A₀ base outer h₀ → Fr h₀ L s.heap m → (KK w.params).In h₀ → News h₀ L s.heap (news) → Top vw LO mean mg mb h₀ → 
    dp + 60 < recursionLimit → un + 600 < cLine → v.length ≤ 7 → 0 < v.length → v ≠ Str.ofString "" →
    (∀ (y : Str) (t' : Tok) (h' : Heap) (tk : Nat), y.cps.toList = wr v.cps.toList → y.length ≤ 18 → Fr h₀ L h' m → News h₀ L h' news → Q (.str y t') { s with heap := h', toks := tk }) →
    wpAny (model PySem.Challenge.rw_mq0369_01.row.prog w) (ktrTop dp un gd cn ⟨.function, nms, false, false, mor⟩ L a ccd cl outer) (call (.ref 752) [.str (Str.ofString "p") tp, .str v t]) Q E s := by
  w_on
  k_fill
  intro B F X N T hd' hu hx hx0 hx1 hret
  refine wpAny_call ?_
  k_dflt k_enter
  k_steps
  rename _ = escs _ => hy
  rename _ ≤ 14 => hyl
  refine hret _ _ _ _ ?_ ?_ (by k_asm) (by k_asm)
  · exact wr_str hy
  · simp only [Str.length_append]
    rw [show Str.empty.length = 0 from rfl, show (Str.ofString "p").length = 1 from rfl, show (Str.ofString "=\"").length = 2 from rfl, show (Str.ofString "\"").length = 1 from rfl]
    omega
end Mine
end
section
open PySem PySem.W PyProof.Rows
namespace Mine
theorem ws_iff (c : Nat) : isWs c = decide (c = 32 ∨ c = 9 ∨ c = 13 ∨ c = 10) := by
  unfold isWs
  rw [hasC_ofString]
  simp
theorem dq_q (l : List Nat) (e : Stt) (q : Bool) (tok : List Nat) : rt l .dq e q tok = rt l .dq e true tok := by
  cases l with
  | nil => rfl
  | cons c r => rfl
theorem escs_cons (c : Nat) (v : List Nat) : escs (c :: v) = esc c ++ escs v := rfl
theorem esc92 : esc 92 = [92, 92] := rfl
theorem esc34 : esc 34 = [92, 34] := rfl
theorem escO {c : Nat} (h1 : c ≠ 92) (h2 : c ≠ 34) : esc c = [c] := by unfold esc; rw [if_neg h1, if_neg h2]
theorem dq_bs (r : List Nat) (e q tok) : rt (92 :: 92 :: r) .dq e q tok = rt r .dq .dq true (tok ++ [92]) := rfl
theorem dq_qt (r : List Nat) (e q tok) : rt (92 :: 34 :: r) .dq e q tok = rt r .dq .dq true (tok ++ [34]) := rfl
theorem dq_ot {c : Nat} (h1 : c ≠ 92) (h2 : c ≠ 34) (r : List Nat) (e q tok) : rt (c :: r) .dq e q tok = rt r .dq e true (tok ++ [c]) := by
  show (if c = 34 then _ else if c = 92 then _ else _) = _
  rw [if_neg h2, if_neg h1]
theorem dq_lone {c : Nat} (h1 : c ≠ 92) (h2 : c ≠ 34) (r : List Nat) (e q tok) : rt (92 :: c :: r) .dq e q tok = rt r .dq .dq true (tok ++ [92] ++ [c]) := by
  show (if c = 92 ∨ c = 34 then _ else _) = _
  rw [if_neg (by omega)]
theorem dq_cl (r : List Nat) (e q tok) : rt (34 :: r) .dq e q tok = rt r .wd e true tok := rfl
theorem rt_dq (v : List Nat) {r : List Nat} {X : Out} : ∀ {e tok}, (∀ e', rt r .dq e' true (tok ++ v) = X) → rt (escs v ++ r) .dq e true tok = X := by
  induction v with
  | nil => intro e tok h; have := h e; rw [List.append_nil] at this; exact this
  | cons c v ih =>
    intro e tok h
    rw [escs_cons]
    by_cases h1 : c = 92
    · subst h1
      rw [esc92]
      show rt (92 :: 92 :: (escs v ++ r)) .dq e true tok = X
      rw [dq_bs]
      exact ih fun e' => by simpa using h e'
    · by_cases h2 : c = 34
      · subst h2
        rw [esc34]
        show rt (92 :: 34 :: (escs v ++ r)) .dq e true tok = X
        rw [dq_qt]
        exact ih fun e' => by simpa using h e'
      · rw [escO h1 h2]
        show rt (c :: (escs v ++ r)) .dq e true tok = X
        rw [dq_ot h1 h2]
        exact ih fun e' => by simpa using h e'
noncomputable def UB (o : Out) (m : Nat) : Prop := o = .noClose ∨ ∃ tok q v', o = .fin tok q false (escs v' ++ [34]) ∧ ¬(q = false ∧ tok = []) ∧ v'.length < m
theorem UB.mono {o m m'} (h : UB o m) (hm : m ≤ m') : UB o m' := by
  rcases h with h | ⟨tok, q, v', h1, h2, h3⟩
  · exact .inl h
  · exact .inr ⟨tok, q, v', h1, h2, Nat.lt_of_lt_of_le h3 hm⟩
theorem sp_ws {c : Nat} (h : isWs c = true) (r : List Nat) (e q tok) : rt (c :: r) .sp e q tok = rt r .sp e q tok := by
  show (if isWs c = true then _ else _) = _
  rw [if_pos h]
theorem sp_ot {c : Nat} (h : isWs c = false) (h1 : c ≠ 92) (h2 : c ≠ 34) (h3 : c ≠ 39) (r : List Nat) (e q tok) : rt (c :: r) .sp e q tok = rt r .wd e q [c] := by
  show (if isWs c = true then _ else if c = 92 then _ else if c = 34 then _ else if c = 39 then _ else _) = _
  rw [if_neg (by rw [h]; exact Bool.false_ne_true), if_neg h1, if_neg h2, if_neg h3]
theorem wd_ws {c : Nat} (h : isWs c = true) (r : List Nat) (e q tok) : rt (c :: r) .wd e q tok = if tok ≠ [] ∨ q = true then .fin tok q false r else rt r .sp e q tok := by
  show (if isWs c = true then _ else _) = _
  rw [if_pos h]
theorem wd_ot {c : Nat} (h : isWs c = false) (h1 : c ≠ 92) (h2 : c ≠ 34) (h3 : c ≠ 39) (r : List Nat) (e q tok) : rt (c :: r) .wd e q tok = rt r .wd e q (tok ++ [c]) := by
  show (if isWs c = true then _ else if c = 92 then _ else if c = 34 then _ else if c = 39 then _ else _) = _
  rw [if_neg (by rw [h]; exact Bool.false_ne_true), if_neg h1, if_neg h2, if_neg h3]
theorem wsO {c : Nat} (h : c ≠ 32 ∧ c ≠ 9 ∧ c ≠ 13 ∧ c ≠ 10) : isWs c = false := by
  rw [ws_iff]; exact decide_eq_false (by omega)
theorem ws92 : isWs 92 = false := wsO (by decide)
theorem ws34 : isWs 34 = false := wsO (by decide)
theorem ws39 : isWs 39 = false := wsO (by decide)
theorem if_false_eq {α : Type} {b : Bool} (h : b = false) (x y : α) : (if b = true then x else y) = y := by subst h; rfl
theorem sp_es (c : Nat) (r : List Nat) (e q tok) : rt (92 :: c :: r) .sp e q tok = rt r .wd .wd q (tok ++ [c]) := by
  exact (if_false_eq ws92 (rt (c :: r) .sp e q tok) (rt (c :: r) .es .wd q tok)).trans rfl
theorem wd_es (c : Nat) (r : List Nat) (e q tok) : rt (92 :: c :: r) .wd e q tok = rt r .wd .wd q (tok ++ [c]) := by
  exact (if_false_eq ws92 (if tok ≠ [] ∨ q = true then .fin tok q false (c :: r) else rt (c :: r) .sp e q tok) (rt (c :: r) .es .wd q tok)).trans rfl
theorem sp_39 (r : List Nat) (e q tok) : rt (39 :: r) .sp e q tok = rt r .sq e q tok := by
  exact (if_false_eq ws39 (rt r .sp e q tok) (rt r .sq e q tok)).trans rfl
theorem wd_39 (r : List Nat) (e q tok) : rt (39 :: r) .wd e q tok = rt r .sq e q tok := by
  exact (if_false_eq ws39 (if tok ≠ [] ∨ q = true then .fin tok q false r else rt r .sp e q tok) (rt r .sq e q tok)).trans rfl
theorem sp_34 (r : List Nat) (e q tok) : rt (34 :: r) .sp e q tok = rt r .dq e q tok := by
  exact (if_false_eq ws34 (rt r .sp e q tok) (rt r .dq e q tok)).trans rfl
theorem wd_34 (r : List Nat) (e q tok) : rt (34 :: r) .wd e q tok = rt r .dq e q tok := by
  exact (if_false_eq ws34 (if tok ≠ [] ∨ q = true then .fin tok q false r else rt r .sp e q tok) (rt r .dq e q tok)).trans rfl
theorem sq_39 (r : List Nat) (e q tok) : rt (39 :: r) .sq e q tok = rt r .wd e true tok := rfl
theorem sq_ot {c : Nat} (h : c ≠ 39) (r : List Nat) (e q tok) : rt (c :: r) .sq e q tok = rt r .sq e true (tok ++ [c]) := by
  show (if c = 39 then _ else _) = _
  rw [if_neg h]
theorem rt_unq (v : List Nat) : (∀ e q tok, UB (rt (escs v ++ [34]) .wd e q tok) v.length) ∧ (∀ e q tok, UB (rt (escs v ++ [34]) .sq e q tok) v.length) ∧ (∀ e q tok, UB (rt (escs v ++ [34]) .sp e q tok) v.length) := by
  induction v with
  | nil =>
    refine ⟨fun e q tok => .inl ?_, fun e q tok => .inl ?_, fun e q tok => .inl ?_⟩
    · exact wd_34 _ _ _ _
    · exact sq_ot (by decide) _ _ _ _
    · exact sp_34 _ _ _ _
  | cons c v ih =>
    obtain ⟨iw, iq, is⟩ := ih
    have lift : ∀ {o}, UB o v.length → UB o (c :: v).length := fun h => h.mono (Nat.le_succ _)
    rw [escs_cons]
    by_cases h1 : c = 92
    · subst h1
      rw [esc92]
      refine ⟨fun e q tok => ?_, fun e q tok => ?_, fun e q tok => ?_⟩
      · show UB (rt (92 :: 92 :: (escs v ++ [34])) .wd e q tok) _
        rw [wd_es]; exact lift (iw _ _ _)
      · show UB (rt (92 :: 92 :: (escs v ++ [34])) .sq e q tok) _
        rw [sq_ot (by decide), sq_ot (by decide)]; exact lift (iq _ _ _)
      · show UB (rt (92 :: 92 :: (escs v ++ [34])) .sp e q tok) _
        rw [sp_es]; exact lift (iw _ _ _)
    · by_cases h2 : c = 34
      · subst h2
        rw [esc34]
        refine ⟨fun e q tok => ?_, fun e q tok => ?_, fun e q tok => ?_⟩
        · show UB (rt (92 :: 34 :: (escs v ++ [34])) .wd e q tok) _
          rw [wd_es]; exact lift (iw _ _ _)
        · show UB (rt (92 :: 34 :: (escs v ++ [34])) .sq e q tok) _
          rw [sq_ot (by decide), sq_ot (by decide)]; exact lift (iq _ _ _)
        · show UB (rt (92 :: 34 :: (escs v ++ [34])) .sp e q tok) _
          rw [sp_es]; exact lift (iw _ _ _)
      · rw [escO h1 h2]
        by_cases h3 : c = 39
        · subst h3
          refine ⟨fun e q tok => ?_, fun e q tok => ?_, fun e q tok => ?_⟩
          · show UB (rt (39 :: (escs v ++ [34])) .wd e q tok) _
            rw [wd_39]; exact lift (iq _ _ _)
          · show UB (rt (39 :: (escs v ++ [34])) .sq e q tok) _
            rw [sq_39]; exact lift (iw _ _ _)
          · show UB (rt (39 :: (escs v ++ [34])) .sp e q tok) _
            rw [sp_39]; exact lift (iq _ _ _)
        · refine ⟨fun e q tok => ?_, fun e q tok => ?_, fun e q tok => ?_⟩
          · show UB (rt (c :: (escs v ++ [34])) .wd e q tok) _
            cases hw : isWs c with
            | true =>
              rw [wd_ws hw]
              split
              · rename_i hh
                refine .inr ⟨tok, q, v, rfl, ?_, Nat.lt_succ_self _⟩
                rintro ⟨a, b⟩
                rcases hh with hh | hh
                · exact hh b
                · rw [a] at hh; exact Bool.false_ne_true hh
              · exact lift (is _ _ _)
            | false => rw [wd_ot hw h1 h2 h3]; exact lift (iw _ _ _)
          · show UB (rt (c :: (escs v ++ [34])) .sq e q tok) _
            rw [sq_ot h3]; exact lift (iq _ _ _)
          · show UB (rt (c :: (escs v ++ [34])) .sp e q tok) _
            cases hw : isWs c with
            | true => rw [sp_ws hw]; exact lift (is _ _ _)
            | false => rw [sp_ot hw h1 h2 h3]; exact lift (iw _ _ _)
theorem ub_all : ∀ (m : Nat) {txt : List Nat}, UB (rt txt .sp .sp false []) m → AllT (m + 1) txt none
  | 0, _, h => by
    rcases h with h | ⟨_, _, _, _, _, h⟩
    · exact .bad h
    · exact absurd h (Nat.not_lt_zero _)
  | m + 1, _, h => by
    rcases h with h | ⟨tok, q, v', h1, h2, h3⟩
    · exact .bad h
    · exact AllT.more (r := none) h1 h2 (ub_all m (((rt_unq v').2.2 .sp false []).mono (Nat.le_of_lt_succ h3)))
noncomputable def plain (b : List Nat) : Bool := match b.filter (fun c => decide (c ≠ 92)) with
  | [] => false
  | c :: _ => decide (c ≠ 34)
theorem plain_bs (b : List Nat) : plain (92 :: b) = plain b := rfl
theorem plain_ot {c : Nat} (h : c ≠ 92) (b : List Nat) : plain (c :: b) = decide (c ≠ 34) := by
  unfold plain
  rw [List.filter_cons_of_pos (by simpa using h)]
theorem rt_end (e tok) : rt [34] .dq e true tok = .fin tok true true [] := rfl
theorem rt_lone (b : List Nat) : ∀ e tok, (plain b = true → rt (92 :: (escs b ++ [34])) .dq e true tok = .fin (tok ++ 92 :: b) true true []) ∧ (plain b = false → UB (rt (92 :: (escs b ++ [34])) .dq e true tok) (b.length + 1)) := by
  induction b with
  | nil =>
    intro e tok
    refine ⟨fun h => ?_, fun h => .inl ?_⟩
    · cases h
    · rfl
  | cons c b ih =>
    intro e tok
    rw [escs_cons]
    by_cases h1 : c = 92
    · subst h1
      rw [esc92, plain_bs]
      show (plain b = true → rt (92 :: 92 :: (92 :: (escs b ++ [34]))) .dq e true tok = _) ∧ (plain b = false → UB (rt (92 :: 92 :: (92 :: (escs b ++ [34]))) .dq e true tok) _)
      rw [dq_bs]
      obtain ⟨i1, i2⟩ := ih .dq (tok ++ [92])
      refine ⟨fun h => ?_, fun h => (i2 h).mono (Nat.le_succ _)⟩
      rw [i1 h]
      simp
    · rw [plain_ot h1]
      by_cases h2 : c = 34
      · subst h2
        refine ⟨fun h => absurd (of_decide_eq_true h) (by simp), fun _ => ?_⟩
        rw [esc34]
        show UB (rt (92 :: 92 :: 34 :: (escs b ++ [34])) .dq e true tok) _
        rw [dq_bs, dq_cl]
        exact ((rt_unq b).1 _ _ _).mono (by rw [List.length_cons]; omega)
      · refine ⟨fun _ => ?_, fun h => absurd (of_decide_eq_false h) (by simp [h2])⟩
        rw [escO h1 h2]
        show rt (92 :: c :: (escs b ++ [34])) .dq e true tok = _
        rw [dq_lone h1 h2]
        refine rt_dq b fun e' => ?_
        rw [rt_end]
        simp
noncomputable def Good (txt : List Nat) (r : Option (List Nat)) : Prop := ∃ n, n ≤ 900 ∧ AllT n txt (r.map ([·]))
abbrev Row := Option (List Nat) × Option (List Nat)
noncomputable def pe : List Nat := [112, 61]
noncomputable def signRows (pre : List Nat) (c : Nat) (post : List Nat) : List Row :=
  if c = 92 then (if plain post = true then [(some (pe ++ pre ++ 92 :: post), some (pe ++ pre ++ 92 :: 92 :: post)), (some (pe ++ pre ++ 92 :: post), some (pe ++ pre ++ 92 :: 92 :: post))] else [(none, none), (none, none)])
  else if c = 34 then [(none, none), (if plain post = true then some (pe ++ pre ++ 92 :: post) else none, none)]
  else [(some (pe ++ pre ++ post), some (pe ++ pre ++ c :: c :: post))]
noncomputable def bodyRows : List Nat → List Nat → List Row
  | _, [] => []
  | pre, c :: post => signRows pre c post ++ bodyRows (pre ++ [c]) post
noncomputable def headRows (v : List Nat) : List Row := [(some (61 :: v), some (112 :: 112 :: 61 :: v)), (some (112 :: v), some (112 :: 61 :: 61 :: v)), (none, none)]
noncomputable def rowsOf (v : List Nat) : List Row := headRows v ++ (bodyRows [] v ++ [(none, none)])
noncomputable def All2 : List Nat → List Nat → List Row → Prop
  | _, [], [] => True
  | ahead, c :: behind, r :: rows => Good (ahead ++ behind) r.1 ∧ Good (ahead ++ c :: c :: behind) r.2 ∧ All2 (ahead ++ [c]) behind rows
  | _, _, _ => False
theorem good_some {txt w : List Nat} (h : rt txt .sp .sp false [] = .fin w true true []) : Good txt (some w) := ⟨1, by decide, .last h (by rintro ⟨h, _⟩; cases h)⟩
theorem good_none {txt : List Nat} {m : Nat} (hm : m ≤ 899) (h : UB (rt txt .sp .sp false []) m) : Good txt none := ⟨m + 1, by omega, ub_all m h⟩
theorem rt_pe (pre r : List Nat) : rt ([112, 61, 34] ++ (escs pre ++ r)) .sp .sp false [] = rt (escs pre ++ r) .dq .sp true pe := by
  show rt (112 :: 61 :: 34 :: (escs pre ++ r)) .sp .sp false [] = _
  rw [sp_ot (wsO (by decide)) (by decide) (by decide) (by decide), wd_ot (wsO (by decide)) (by decide) (by decide) (by decide), wd_34, dq_q]
  rfl
theorem in_some {pre r w : List Nat} (h : ∀ e, rt r .dq e true (pe ++ pre) = .fin w true true []) : Good ([112, 61, 34] ++ escs pre ++ r) (some w) := by
  refine good_some ?_
  rw [List.append_assoc, rt_pe]
  exact rt_dq pre h
theorem in_none {pre r : List Nat} {m : Nat} (hm : m ≤ 899) (h : ∀ e, UB (rt r .dq e true (pe ++ pre)) m) : Good ([112, 61, 34] ++ escs pre ++ r) none := by
  refine good_none hm ?_
  rw [List.append_assoc, rt_pe]
  have key : ∀ (v : List Nat) (e : Stt) (tok : List Nat), (∀ e', UB (rt r .dq e' true (tok ++ v)) m) → UB (rt (escs v ++ r) .dq e true tok) m := by
    intro v
    induction v with
    | nil => intro e tok h; have := h e; rw [List.append_nil] at this; exact this
    | cons c v ih =>
      intro e tok h
      rw [escs_cons]
      by_cases h1 : c = 92
      · subst h1
        rw [esc92]
        show UB (rt (92 :: 92 :: (escs v ++ r)) .dq e true tok) m
        rw [dq_bs]
        exact ih _ _ fun e' => by simpa using h e'
      · by_cases h2 : c = 34
        · subst h2
          rw [esc34]
          show UB (rt (92 :: 34 :: (escs v ++ r)) .dq e true tok) m
          rw [dq_qt]
          exact ih _ _ fun e' => by simpa using h e'
        · rw [escO h1 h2]
          show UB (rt (c :: (escs v ++ r)) .dq e true tok) m
          rw [dq_ot h1 h2]
          exact ih _ _ fun e' => by simpa using h e'
  exact key pre _ _ h
theorem lone_some {post : List Nat} (hp : plain post = true) (pre : List Nat) : Good ([112, 61, 34] ++ escs pre ++ (92 :: (escs post ++ [34]))) (some (pe ++ pre ++ 92 :: post)) :=
  in_some fun e => ((rt_lone post e _).1 hp)
theorem lone_none {post : List Nat} (hl : post.length ≤ 800) (hp : plain post = false) (pre : List Nat) : Good ([112, 61, 34] ++ escs pre ++ (92 :: (escs post ++ [34]))) none :=
  in_none (m := post.length + 1) (by omega) fun e => (rt_lone post e _).2 hp
theorem dup_some {post : List Nat} (hp : plain post = true) (pre : List Nat) : Good ([112, 61, 34] ++ escs pre ++ (92 :: 92 :: 92 :: (escs post ++ [34]))) (some (pe ++ pre ++ 92 :: 92 :: post)) :=
  in_some fun e => by rw [dq_bs, (rt_lone post _ _).1 hp]; simp
theorem dup_none {post : List Nat} (hl : post.length ≤ 800) (hp : plain post = false) (pre : List Nat) : Good ([112, 61, 34] ++ escs pre ++ (92 :: 92 :: 92 :: (escs post ++ [34]))) none :=
  in_none (m := post.length + 1) (by omega) fun e => by rw [dq_bs]; exact (rt_lone post _ _).2 hp
theorem shut_none {post : List Nat} (hl : post.length ≤ 800) (pre : List Nat) : Good ([112, 61, 34] ++ escs pre ++ (34 :: (escs post ++ [34]))) none :=
  in_none (m := post.length) (by omega) fun e => by rw [dq_cl]; exact (rt_unq post).1 _ _ _
theorem bs_shut_none {post : List Nat} (hl : post.length ≤ 800) (pre : List Nat) : Good ([112, 61, 34] ++ escs pre ++ (92 :: 92 :: 34 :: (escs post ++ [34]))) none :=
  in_none (m := post.length) (by omega) fun e => by rw [dq_bs, dq_cl]; exact (rt_unq post).1 _ _ _
theorem qt_shut_none {post : List Nat} (hl : post.length ≤ 800) (pre : List Nat) : Good ([112, 61, 34] ++ escs pre ++ (92 :: 34 :: 34 :: (escs post ++ [34]))) none :=
  in_none (m := post.length) (by omega) fun e => by rw [dq_qt, dq_cl]; exact (rt_unq post).1 _ _ _
theorem plainly {pre post mid : List Nat} (h : ∀ c ∈ mid, c ≠ 92 ∧ c ≠ 34) : Good ([112, 61, 34] ++ escs pre ++ (mid ++ (escs post ++ [34]))) (some (pe ++ pre ++ (mid ++ post))) := by
  have e1 : escs mid = mid := by
    clear pre post
    induction mid with
    | nil => rfl
    | cons c r ih =>
      rw [escs_cons, escO (h c (List.mem_cons_self ..)).1 (h c (List.mem_cons_self ..)).2, ih fun d hd => h d (List.mem_cons_of_mem _ hd)]
      rfl
  refine in_some fun e => ?_
  have : mid ++ (escs post ++ [34]) = escs (mid ++ post) ++ [34] := by
    unfold escs at *
    rw [List.flatMap_append, e1, List.append_assoc]
  rw [this]
  refine rt_dq (mid ++ post) fun e' => ?_
  rw [rt_end]
theorem all2_body : ∀ (post pre : List Nat), post.length ≤ 800 → All2 ([112, 61, 34] ++ escs pre) (escs post ++ [34]) (bodyRows pre post ++ [(none, none)])
  | [], pre, _ => by
    refine ⟨?_, ?_, True.intro⟩
    · show Good ([112, 61, 34] ++ escs pre ++ []) none
      exact in_none (m := 0) (by decide) fun e => .inl rfl
    · show Good ([112, 61, 34] ++ escs pre ++ [34, 34]) none
      exact in_none (m := 0) (by decide) fun e => .inl rfl
  | c :: post, pre, hl => by
    have hl' : post.length ≤ 800 := by rw [List.length_cons] at hl; omega
    have ih := all2_body post (pre ++ [c]) hl'
    have ea : escs (pre ++ [c]) = escs pre ++ esc c := by unfold escs; rw [List.flatMap_append]; simp
    rw [ea] at ih
    rw [escs_cons]
    unfold bodyRows signRows
    by_cases h1 : c = 92
    · subst h1
      rw [esc92] at ih ⊢
      rw [if_pos rfl]
      have ih' : All2 ([112, 61, 34] ++ escs pre ++ [92] ++ [92]) (escs post ++ [34]) (bodyRows (pre ++ [92]) post ++ [(none, none)]) := by simpa using ih
      have fa : ([112, 61, 34] ++ escs pre ++ [92]) ++ (escs post ++ [34]) = [112, 61, 34] ++ escs pre ++ (92 :: (escs post ++ [34])) := by simp
      have fb : ([112, 61, 34] ++ escs pre ++ [92]) ++ 92 :: 92 :: (escs post ++ [34]) = [112, 61, 34] ++ escs pre ++ (92 :: 92 :: 92 :: (escs post ++ [34])) := by simp
      cases hp : plain post with
      | true =>
        rw [if_pos rfl]
        refine ⟨lone_some hp pre, dup_some hp pre, ?_, ?_, ih'⟩
        · show Good (([112, 61, 34] ++ escs pre ++ [92]) ++ (escs post ++ [34])) _
          rw [fa]; exact lone_some hp pre
        · show Good (([112, 61, 34] ++ escs pre ++ [92]) ++ 92 :: 92 :: (escs post ++ [34])) _
          rw [fb]; exact dup_some hp pre
      | false =>
        rw [if_neg Bool.false_ne_true]
        refine ⟨lone_none hl' hp pre, dup_none hl' hp pre, ?_, ?_, ih'⟩
        · show Good (([112, 61, 34] ++ escs pre ++ [92]) ++ (escs post ++ [34])) _
          rw [fa]; exact lone_none hl' hp pre
        · show Good (([112, 61, 34] ++ escs pre ++ [92]) ++ 92 :: 92 :: (escs post ++ [34])) _
          rw [fb]; exact dup_none hl' hp pre
    · rw [if_neg h1]
      by_cases h2 : c = 34
      · subst h2
        rw [esc34] at ih ⊢
        rw [if_pos rfl]
        have ih' : All2 ([112, 61, 34] ++ escs pre ++ [92] ++ [34]) (escs post ++ [34]) (bodyRows (pre ++ [34]) post ++ [(none, none)]) := by simpa using ih
        have fa : ([112, 61, 34] ++ escs pre ++ [92]) ++ (escs post ++ [34]) = [112, 61, 34] ++ escs pre ++ (92 :: (escs post ++ [34])) := by simp
        have fb : ([112, 61, 34] ++ escs pre ++ [92]) ++ 34 :: 34 :: (escs post ++ [34]) = [112, 61, 34] ++ escs pre ++ (92 :: 34 :: 34 :: (escs post ++ [34])) := by simp
        refine ⟨shut_none hl' pre, bs_shut_none hl' pre, ?_, ?_, ih'⟩
        · show Good (([112, 61, 34] ++ escs pre ++ [92]) ++ (escs post ++ [34])) _
          rw [fa]
          cases hp : plain post with
          | true => exact lone_some hp pre
          | false => exact lone_none hl' hp pre
        · show Good (([112, 61, 34] ++ escs pre ++ [92]) ++ 34 :: 34 :: (escs post ++ [34])) _
          rw [fb]; exact qt_shut_none hl' pre
      · rw [if_neg h2]
        rw [escO h1 h2] at ih ⊢
        refine ⟨?_, ?_, ih⟩
        · have := plainly (pre := pre) (post := post) (mid := []) (fun c hc => by cases hc)
          exact this
        · have := plainly (pre := pre) (post := post) (mid := [c, c]) (fun d hd => by
            simp only [List.mem_cons, List.not_mem_nil, or_false, or_self] at hd
            subst hd
            exact ⟨h1, h2⟩)
          exact this
theorem all2_law (v : List Nat) (hl : v.length ≤ 800) : All2 [] (wr v) (rowsOf v) := by
  refine ⟨?_, ?_, ?_, ?_, ?_, ?_, ?_⟩
  · show Good (61 :: 34 :: (escs v ++ [34])) (some (61 :: v))
    refine good_some ?_
    rw [sp_ot (wsO (by decide)) (by decide) (by decide) (by decide), wd_34, dq_q]
    exact rt_dq v fun e => rt_end _ _
  · show Good (112 :: 112 :: 61 :: 34 :: (escs v ++ [34])) (some (112 :: 112 :: 61 :: v))
    refine good_some ?_
    rw [sp_ot (wsO (by decide)) (by decide) (by decide) (by decide), wd_ot (wsO (by decide)) (by decide) (by decide) (by decide), wd_ot (wsO (by decide)) (by decide) (by decide) (by decide), wd_34, dq_q]
    exact rt_dq v fun e => rt_end _ _
  · show Good (112 :: 34 :: (escs v ++ [34])) (some (112 :: v))
    refine good_some ?_
    rw [sp_ot (wsO (by decide)) (by decide) (by decide) (by decide), wd_34, dq_q]
    exact rt_dq v fun e => rt_end _ _
  · show Good (112 :: 61 :: 61 :: 34 :: (escs v ++ [34])) (some (112 :: 61 :: 61 :: v))
    refine good_some ?_
    rw [sp_ot (wsO (by decide)) (by decide) (by decide) (by decide), wd_ot (wsO (by decide)) (by decide) (by decide) (by decide), wd_ot (wsO (by decide)) (by decide) (by decide) (by decide), wd_34, dq_q]
    exact rt_dq v fun e => rt_end _ _
  · show Good (112 :: 61 :: (escs v ++ [34])) none
    refine good_none (m := v.length) (by omega) ?_
    rw [sp_ot (wsO (by decide)) (by decide) (by decide) (by decide), wd_ot (wsO (by decide)) (by decide) (by decide) (by decide)]
    exact (rt_unq v).1 _ _ _
  · show Good (112 :: 61 :: 34 :: 34 :: (escs v ++ [34])) none
    refine good_none (m := v.length) (by omega) ?_
    rw [sp_ot (wsO (by decide)) (by decide) (by decide) (by decide), wd_ot (wsO (by decide)) (by decide) (by decide) (by decide), wd_34, dq_cl]
    exact (rt_unq v).1 _ _ _
  · have := all2_body v [] hl
    exact this
theorem good_law (v : List Nat) : Good (wr v) (some (pe ++ v)) := by
  have := plainly (pre := v) (post := []) (mid := []) (fun c hc => by cases hc)
  rw [List.append_nil, List.append_nil] at this
  exact this
theorem all2_len : ∀ {t a : List Nat} {rs : List Row}, All2 a t rs → t.length = rs.length
  | [], _, [], _ => rfl
  | _ :: _, _, _ :: _, h => by rw [List.length_cons, List.length_cons, all2_len h.2.2]
theorem all2_at : ∀ {t a : List Nat} {rs : List Row} {i c : Nat} {r : Row}, All2 a t rs → t[i]? = some c → rs[i]? = some r → Good (a ++ (t.take i ++ t.drop (i + 1))) r.1 ∧ Good (a ++ (t.take i ++ c :: c :: t.drop (i + 1))) r.2
  | [], _, _, _, _, _, _, h, _ => by simp at h
  | d :: t, a, r₀ :: rs, 0, c, r, h, h1, h2 => by
    cases h1
    cases h2
    exact ⟨h.1, h.2.1⟩
  | d :: t, a, r₀ :: rs, i + 1, c, r, h, h1, h2 => by
    have := all2_at (i := i) (c := c) (r := r) h.2.2 (by simpa using h1) (by simpa using h2)
    simpa using this
end Mine
end
section
open PySem PySem.W PyProof.Rows PySem.Calls PySem.Spec
set_option maxRecDepth 100000
namespace Mine
section
variable {prog : Program} {w : World} {A : Around} {E : Value → Shared → Prop} {s : Shared} {env : Env} {h₀ : Heap} {x : Str} {body : List Stmt} {Q : Flow → Shared → Prop}
theorem loopR {r : Addr} {n : Nat} {t₀ u₀ v₀ : Tok} {m₀ : Str → Option Value} {news : List (Addr × Obj)} (J : Nat → (Str → Option Value) → List (Addr × Obj) → Prop)
    (hh : A.handled = none) (hr : IsRange s.heap r 0 (n : Int) 1 t₀ u₀ v₀) (hn : n ≤ 1000) (F : Fr h₀ env.locals s.heap m₀) (N : News h₀ env.locals s.heap news) (hj : J 0 m₀ news)
    (turn : ∀ (i : Nat) (m₁ : Str → Option Value) (nx : List (Addr × Obj)) (t : Tok) h tk own, i < n → OwnOff own (nx.map (·.1)) → J i m₁ nx → Fr h₀ env.locals h (fun y => if y = x then some (.int (i : Int) t) else m₁ y) → News h₀ env.locals h (nx ++ own) →
      wpAny (model prog w) A (execs body env) (InvPostG h₀ env.locals (J (i + 1)) own { s with heap := h, toks := tk } Q) E { s with heap := h, toks := tk })
    (done : ∀ m₁ nx h tk, J n m₁ nx → Fr h₀ env.locals h m₁ → News h₀ env.locals h nx → Q .next { s with heap := h, toks := tk }) :
    wpAny (model prog w) A (pyIter (.ref r)) (fun it s₂ => LoopAtV prog w A h₀ env x body Q E it s₂) E s := by
  have hsz : Builtin.Range.rangeSize 0 (n : Int) 1 = (n : Int) := by
    rw [rangeSize_one]
    split <;> omega
  refine wpAny_pyIter_range hr (small_one (by decide) (by decide) (by omega) (by omega)) ?_
  have W : Walks prog w A s.heap.objs.size [s.heap.objs.size] [s.heap.objs.size] n (fun i v => i < n ∧ ∃ t, v = .int (0 + i * 1) t)
      (fun i h => IsRangeIter h s.heap.objs.size (0 + (i : Nat) * 1) ((n : Int) - (i : Nat)) 1) := (Walks.range hh _ 0 1 n).bound
  refine kdr_loop J W (fun _ h => h) (fun _ h => h) ?_ ?_ ?_ ?_ (by show IsRangeIter _ _ _ _ _; rw [hsz]; simpa using Heap.get?_push_size _ rfl) (F.push _) (fun p hp => ⟨Heap.get?_push_of_some _ (N p hp).1, (N p hp).2⟩) hj ?_ ?_
  · intro i h hi b hb
    rw [List.mem_singleton.mp hb]
    exact ⟨_, hi⟩
  · intro hm
    exact absurd F.ns.lt ((List.mem_singleton.mp hm) ▸ Nat.lt_irrefl _)
  · intro b hb
    rw [List.mem_singleton.mp hb]
    exact next_is_new F
  · intro p hp hI
    exact absurd (Heap.lt_size (N p hp).1) ((List.mem_singleton.mp hI) ▸ Nat.lt_irrefl _)
  · rintro i v m₁ nx h tk own hi ⟨_, t, rfl⟩ hoff hJ F₁ N₁
    have e1 : (0 : Int) + (i : Int) * 1 = (i : Int) := by omega
    rw [e1] at F₁
    exact turn i m₁ nx t h tk own hi hoff hJ F₁ N₁
  · intro m₁ nx h tk hJ F₁ N₁
    exact done m₁ nx h tk hJ F₁ N₁
end
noncomputable def tupO (a : Array Value) : Obj := { cls := .type "tuple", data := .seq a }
noncomputable def OneIn (nx : List (Addr × Obj)) (v : Value) : Option (List Nat) → Prop
  | none => v = .none
  | some w => ∃ a t tk n, v = .ref a ∧ (a, listOf #[.str t tk] n) ∈ nx ∧ t.cps.toList = w
noncomputable def RowIn (nx : List (Addr × Obj)) (v : Value) (r : Row) : Prop := ∃ a v1 v2, v = .ref a ∧ (a, tupO #[v1, v2]) ∈ nx ∧ OneIn nx v1 r.1 ∧ OneIn nx v2 r.2
noncomputable def RowsIn (nx : List (Addr × Obj)) : List Value → List Row → Prop
  | [], [] => True
  | v :: vs, r :: rs => RowIn nx v r ∧ RowsIn nx vs rs
  | _, _ => False
theorem OneIn.mono {nx nx' : List (Addr × Obj)} (hs : ∀ p ∈ nx, p ∈ nx') {v : Value} : ∀ {r : Option (List Nat)}, OneIn nx v r → OneIn nx' v r
  | none, h => h
  | some _, ⟨a, t, tk, n, h1, h2, h3⟩ => ⟨a, t, tk, n, h1, hs _ h2, h3⟩
theorem RowIn.mono {nx nx' : List (Addr × Obj)} (hs : ∀ p ∈ nx, p ∈ nx') {v : Value} {r : Row} : RowIn nx v r → RowIn nx' v r
  | ⟨a, v1, v2, h1, h2, h3, h4⟩ => ⟨a, v1, v2, h1, hs _ h2, h3.mono hs, h4.mono hs⟩
theorem RowsIn.mono {nx nx' : List (Addr × Obj)} (hs : ∀ p ∈ nx, p ∈ nx') : ∀ {vs : List Value} {rs : List Row}, RowsIn nx vs rs → RowsIn nx' vs rs
  | [], [], _ => True.intro
  | _ :: _, _ :: _, ⟨h, k⟩ => ⟨h.mono hs, k.mono hs⟩
  | [], _ :: _, h => h
  | _ :: _, [], h => h
theorem RowsIn.app {nx : List (Addr × Obj)} : ∀ {vs : List Value} {rs : List Row} {vs' : List Value} {rs' : List Row}, RowsIn nx vs rs → RowsIn nx vs' rs' → RowsIn nx (vs ++ vs') (rs ++ rs')
  | [], [], _, _, _, k => k
  | _ :: _, _ :: _, _, _, ⟨h, k⟩, k' => ⟨h, RowsIn.app k k'⟩
  | [], _ :: _, _, _, h, _ => absurd h (fun h => h)
  | _ :: _, [], _, _, h, _ => absurd h (fun h => h)
theorem RowsIn.len {nx : List (Addr × Obj)} : ∀ {vs : List Value} {rs : List Row}, RowsIn nx vs rs → vs.length = rs.length
  | [], [], _ => rfl
  | _ :: _, _ :: _, h => by rw [List.length_cons, List.length_cons, RowsIn.len h.2]
  | [], _ :: _, h => absurd h (fun h => h)
  | _ :: _, [], h => absurd h (fun h => h)
theorem RowsIn.at {nx : List (Addr × Obj)} : ∀ {vs : List Value} {rs : List Row} {i : Nat} {r : Row}, RowsIn nx vs rs → rs[i]? = some r → ∃ v, vs[i]? = some v ∧ RowIn nx v r
  | [], [], _, _, _, h => by simp at h
  | v :: _, r₀ :: _, 0, r, h, e => by
    cases e
    exact ⟨v, rfl, h.1⟩
  | _ :: vs, _ :: rs, i + 1, r, h, e => by
    obtain ⟨v, h1, h2⟩ := RowsIn.at (i := i) (r := r) h.2 (by simpa using e)
    exact ⟨v, by simpa using h1, h2⟩
  | [], _ :: _, _, _, h, _ => absurd h (fun h => h)
  | _ :: _, [], _, _, h, _ => absurd h (fun h => h)
noncomputable def upTo (v : List Nat) : Nat → List Row
  | 0 => []
  | i + 1 => upTo v i ++ (match v[i]? with | some c => signRows (v.take i) c (v.drop (i + 1)) | none => [])
theorem upTo_body : ∀ (post pre : List Nat) (v : List Nat), v = pre ++ post → upTo v pre.length ++ bodyRows pre post = upTo v v.length
  | [], pre, v, h => by subst h; simp [bodyRows]
  | c :: post, pre, v, h => by
    have ih := upTo_body post (pre ++ [c]) v (by rw [h]; simp)
    rw [← ih]
    show upTo v pre.length ++ (signRows pre c post ++ bodyRows (pre ++ [c]) post) = _
    rw [List.length_append, ← List.append_assoc]
    congr 1
    show _ = upTo v pre.length ++ _
    subst h
    simp
theorem upTo_all (v : List Nat) : upTo v v.length = bodyRows [] v := (upTo_body v [] v rfl).symm
theorem signRows_len (pre : List Nat) (c : Nat) (post : List Nat) : (signRows pre c post).length ≤ 2 := by
  unfold signRows
  split
  · split <;> simp
  · split <;> simp
theorem upTo_len (v : List Nat) (i : Nat) : (upTo v i).length ≤ 2 * i := by
  induction i with
  | zero => exact Nat.le_refl _
  | succ i ih =>
    unfold upTo
    rw [List.length_append]
    cases v[i]? with
    | none => simp; omega
    | some c =>
      have := signRows_len (v.take i) c (v.drop (i + 1))
      dsimp only
      omega
noncomputable def RowsJ (news : List (Addr × Obj)) (v : Str) (t : Tok) (aR : Addr) (i : Nat) (m : Str → Option Value) (nx : List (Addr × Obj)) : Prop :=
  ∃ acc cap tl, nx = (aR, listOf acc cap) :: tl ∧ (∀ p ∈ news, p ∈ tl) ∧ (∀ p ∈ tl, p.1 ≠ aR) ∧ RowsIn tl acc.toList (headRows v.cps.toList ++ upTo v.cps.toList i) ∧ m (Str.ofString "value") = some (.str v t) ∧ m (Str.ofString "rows") = some (.ref aR)
end Mine
end
section
open PySem PySem.W PyProof.Rows PySem.Calls PySem.Spec
set_option maxRecDepth 100000
namespace Mine
theorem itemF {v : Str} {i c : Nat} (h : v.cps.toList[i]? = some c) : Txt.item v (i : Int) = ⟨#[c]⟩ := by
  have h2 : v.cps[i]? = some c := by simpa using h
  obtain ⟨hl, h3⟩ := Array.getElem?_eq_some_iff.mp h2
  have hl' : i < v.length := hl
  unfold Txt.item Txt.charAt
  have : seqIndex? (i : Int) v.length = some i := by
    unfold seqIndex?
    simp
    omega
  rw [this]
  show (⟨#[(v.cps[i]?).getD 0]⟩ : Str) = _
  rw [h2]
  rfl
theorem sliceTo {v : Str} {i : Nat} (h : i ≤ v.length) : (Txt.slice v none (some (i : Int))).cps.toList = v.cps.toList.take i := by
  have e := beq_iff_eq.mp (slice_closes_to (x := v) (j := (i : Int)) ⟨by omega, by rw [toList_len]; omega⟩)
  rw [e]
  simp
theorem sliceFrom {v : Str} {i : Nat} {j : Int} (hj : j = (i : Int)) (h : i ≤ v.length) : (Txt.slice v (some j) none).cps.toList = v.cps.toList.drop i := by
  subst hj
  have hl : v.cps.toList.length = v.length := by simp [Str.length]
  have e := beq_iff_eq.mp (slice_closes_from (x := v) (i := (i : Int)) ⟨by omega, by omega⟩)
  rw [e]
  show ((v.cps.toList.drop ((i : Int).toNat)).take _) = _
  rw [Int.toNat_natCast]
  exact List.take_of_length_le (by rw [List.length_drop]; omega)
theorem filt (b : List Nat) : (b.map (fun n => (⟨#[n]⟩ : Str))).filter (fun x => !(x == Str.ofString "\\")) = (b.filter (fun c => decide (c ≠ 92))).map (fun n => (⟨#[n]⟩ : Str)) := by
  rw [List.filter_map]
  congr 1
  apply List.filter_congr
  intro c _
  show (!((⟨#[c]⟩ : Str) == ⟨#[92]⟩)) = decide (c ≠ 92)
  by_cases h : c = 92
  · subst h; rfl
  · have : ((⟨#[c]⟩ : Str) == ⟨#[92]⟩) = false := by
      rw [beq_eq_false_iff_ne]
      intro e
      apply h
      injection e with e
      simpa using e
    rw [this]
    simp [h]
theorem one_eq (c d : Nat) : ((⟨#[c]⟩ : Str) == ⟨#[d]⟩) = decide (c = d) := by
  by_cases h : c = d
  · subst h; simp
  · have : ((⟨#[c]⟩ : Str) == ⟨#[d]⟩) = false := by
      rw [beq_eq_false_iff_ne]
      intro e
      apply h
      injection e with e
      simpa using e
    rw [this]
    simp [h]
theorem plain_nil {y : Str} (h : (signs y).filter (fun x => !(x == Str.ofString "\\")) = []) : plain y.cps.toList = false := by
  unfold signs at h
  rw [filt, List.map_eq_nil_iff] at h
  unfold plain
  rw [h]
theorem plain_cons {y : Str} {fx : Str} {fr : List Str} {b : Bool} (h : (signs y).filter (fun x => !(x == Str.ofString "\\")) = fx :: fr) (e : (fx == Str.ofString "\"") = b) : plain y.cps.toList = !b := by
  unfold signs at h
  rw [filt] at h
  unfold plain
  cases hf : y.cps.toList.filter (fun c => decide (c ≠ 92)) with
  | nil => rw [hf] at h; cases h
  | cons c r =>
    rw [hf, List.map_cons] at h
    injection h with h1 h2
    subst h1
    rw [show Str.ofString "\"" = (⟨#[34]⟩ : Str) from rfl, one_eq] at e
    rw [← e]
    dsimp only
    by_cases hc : c = 34 <;> simp [hc]
theorem okFs {y : Str} (h : ∀ c ∈ y.cps.toList, c < 0x110000) : ∀ x ∈ (signs y).filter (fun x => !(x == Str.ofString "\\")), PyData.strOk x = true := by
  intro x hx
  have hx := (List.mem_filter.mp hx).1
  unfold signs at hx
  obtain ⟨c, hc, rfl⟩ := List.mem_map.mp hx
  unfold PyData.strOk
  simpa using h c hc
theorem okStrs {ss : List Str} (h : ∀ x ∈ ss, PyData.strOk x = true) : ∀ d ∈ ss.map Dat.str, kqdOk 8 d = true := by
  intro d hd
  obtain ⟨x, hx, rfl⟩ := List.mem_map.mp hd
  exact h x hx
theorem extOk {its : Array Value} {x y : Value} (h : its.size ≤ 24) : ¬(!its.isEmpty && Builtin.List.listTooLong (its.size + (#[x, y] : Array Value).size)) = true := by
  have : Builtin.List.listTooLong (its.size + (#[x, y] : Array Value).size) = false := by
    unfold Builtin.List.listTooLong
    exact decide_eq_false (Nat.not_lt.mpr (Nat.le_trans (by show its.size + 2 ≤ 1000; omega) size1000))
  rw [this, Bool.and_false]
  exact Bool.false_ne_true
theorem ext1 {its : Array Value} (h : its.size ≤ 24) : its.toList.length ≤ sizeLine := Nat.le_trans (by rw [Array.length_toList]; omega : _ ≤ 1000) size1000
theorem ext2 {its : Array Value} {x y : Value} (h : its.size ≤ 24) : its.size + (#[x, y] : Array Value).size ≤ sizeLine + 1 := Nat.le_trans (Nat.le_trans (by show its.size + 2 ≤ 1000; omega) size1000) (Nat.le_succ _)
theorem ext2' {its : Array Value} (h : its.size ≤ 24) : its.size ≤ sizeLine := Nat.le_trans (by omega : its.size ≤ 1000) size1000
theorem ext3 {its : Array Value} {x : Value} (h : its.size ≤ 24) : (its.push x).size ≤ sizeLine := Nat.le_trans (by rw [Array.size_push]; omega : _ ≤ 1000) size1000
theorem upTo_succ {v : List Nat} {i c : Nat} (h : v[i]? = some c) : upTo v (i + 1) = upTo v i ++ signRows (v.take i) c (v.drop (i + 1)) := by
  show upTo v i ++ _ = _
  rw [h]
theorem rowsEnd {news tl own add nE : List (Addr × Obj)} {v : Str} {t : Tok} {aR : Addr} {i : Nat} {m' : Str → Option Value} {h₀ : Heap} {L : Addr} {acc acc' : Array Value} {cap cap' : Nat} {s₁ : Shared} {h' : Heap} {tk : Nat} {xs : List Value} {rs rs' : List Row}
    (F : Fr h₀ L h' m') (N : News h₀ L h' nE) (hs : ∀ p ∈ (aR, listOf acc' cap') :: (add ++ (tl ++ own)), p ∈ nE) (hsub : ∀ p ∈ news, p ∈ tl) (hne : ∀ p ∈ tl, p.1 ≠ aR) (hna : ∀ p ∈ add, p.1 ≠ aR)
    (hoff : OwnOff own (((aR, listOf acc cap) :: tl).map (·.1))) (hna2 : ∀ q ∈ add, ∀ p ∈ own, p.1 ≠ q.1) (hrows : RowsIn tl acc.toList rs) (hacc : acc'.toList = acc.toList ++ xs) (hx : RowsIn (add ++ tl) xs rs') (hspec : rs ++ rs' = headRows v.cps.toList ++ upTo v.cps.toList (i + 1))
    (hv : m' (Str.ofString "value") = some (.str v t)) (hr : m' (Str.ofString "rows") = some (.ref aR)) : InvEndG h₀ L (RowsJ news v t aR (i + 1)) own s₁ { s₁ with heap := h', toks := tk } := by
  refine InvEndG.intro (nx := (aR, listOf acc' cap') :: (add ++ tl)) F N ?_ ?_ ?_ ?_
  · refine ⟨acc', cap', add ++ tl, rfl, fun p hp => List.mem_append.mpr (.inr (hsub p hp)), ?_, ?_, hv, hr⟩
    · intro p hp
      rcases List.mem_append.mp hp with hp | hp
      · exact hna p hp
      · exact hne p hp
    · rw [hacc, ← hspec]
      exact (hrows.mono fun p hp => List.mem_append.mpr (.inr hp)).app hx
  · intro p hp b hb
    obtain ⟨q, hq, rfl⟩ := List.mem_map.mp hb
    rcases List.mem_cons.mp hq with rfl | hq
    · exact hoff p hp _ (List.Mem.head _)
    · rcases List.mem_append.mp hq with hq | hq
      · exact hna2 q hq p hp
      · exact hoff p hp _ (List.mem_map.mpr ⟨q, List.mem_cons_of_mem _ hq, rfl⟩)
  · intro p hp
    rcases List.mem_cons.mp hp with rfl | hp
    · exact hs _ (List.Mem.head _)
    · refine hs p (List.mem_cons_of_mem _ ?_)
      rcases List.mem_append.mp hp with hp | hp
      · exact List.mem_append.mpr (.inl hp)
      · exact List.mem_append.mpr (.inr (List.mem_append.mpr (.inl hp)))
  · intro p hp
    exact hs p (List.mem_cons_of_mem _ (List.mem_append.mpr (.inr (List.mem_append.mpr (.inr hp)))))
theorem datStrs : ∀ {vs : List Value} {ss : List Str}, StrsAre vs ss → DatAll [] vs (ss.map Dat.str)
  | _, _, .nil => .nil
  | _, _, .cons _ t r => .cons (.str _ t) (datStrs r)
end Mine
end
section
open PySem PySem.W PyProof.Rows PySem.Calls PySem.Spec
set_option maxRecDepth 100000
namespace Mine
structure Turn (news tl own : List (Addr × Obj)) (v : Str) (aR : Addr) (i c : Nat) (acc : Array Value) (cap : Nat) (pre post : Str) : Prop where
  sub : ∀ p ∈ news, p ∈ tl
  ne : ∀ p ∈ tl, p.1 ≠ aR
  off : OwnOff own (((aR, listOf acc cap) :: tl).map (·.1))
  rows : RowsIn tl acc.toList (headRows v.cps.toList ++ upTo v.cps.toList i)
  at_ : v.cps.toList[i]? = some c
  pre_ : pre.cps.toList = v.cps.toList.take i
  post_ : post.cps.toList = v.cps.toList.drop (i + 1)
noncomputable def Fresh (aR : Addr) (X : List (Addr × Obj)) (q : Addr) : Prop := @LT.lt Nat _ aR q ∧ AllLt q X
theorem fr0 {aR q  : Addr} {X : List (Addr × Obj)} (h : @LT.lt Nat _ aR q ∧ AllLt q X) : Fresh aR X q := h
theorem fr1 {aR q b0 : Addr} {X : List (Addr × Obj)} (h : @LT.lt Nat _ b0 q ∧ @LT.lt Nat _ aR q ∧ AllLt q X) : Fresh aR X q := h.2
theorem fr2 {aR q b0 b1 : Addr} {X : List (Addr × Obj)} (h : @LT.lt Nat _ b0 q ∧ @LT.lt Nat _ b1 q ∧ @LT.lt Nat _ aR q ∧ AllLt q X) : Fresh aR X q := h.2.2
theorem fr3 {aR q b0 b1 b2 : Addr} {X : List (Addr × Obj)} (h : @LT.lt Nat _ b0 q ∧ @LT.lt Nat _ b1 q ∧ @LT.lt Nat _ b2 q ∧ @LT.lt Nat _ aR q ∧ AllLt q X) : Fresh aR X q := h.2.2.2
theorem fr4 {aR q b0 b1 b2 b3 : Addr} {X : List (Addr × Obj)} (h : @LT.lt Nat _ b0 q ∧ @LT.lt Nat _ b1 q ∧ @LT.lt Nat _ b2 q ∧ @LT.lt Nat _ b3 q ∧ @LT.lt Nat _ aR q ∧ AllLt q X) : Fresh aR X q := h.2.2.2.2
theorem fr5 {aR q b0 b1 b2 b3 b4 : Addr} {X : List (Addr × Obj)} (h : @LT.lt Nat _ b0 q ∧ @LT.lt Nat _ b1 q ∧ @LT.lt Nat _ b2 q ∧ @LT.lt Nat _ b3 q ∧ @LT.lt Nat _ b4 q ∧ @LT.lt Nat _ aR q ∧ AllLt q X) : Fresh aR X q := h.2.2.2.2.2
theorem fr6 {aR q b0 b1 b2 b3 b4 b5 : Addr} {X : List (Addr × Obj)} (h : @LT.lt Nat _ b0 q ∧ @LT.lt Nat _ b1 q ∧ @LT.lt Nat _ b2 q ∧ @LT.lt Nat _ b3 q ∧ @LT.lt Nat _ b4 q ∧ @LT.lt Nat _ b5 q ∧ @LT.lt Nat _ aR q ∧ AllLt q X) : Fresh aR X q := h.2.2.2.2.2.2
theorem fr7 {aR q b0 b1 b2 b3 b4 b5 b6 : Addr} {X : List (Addr × Obj)} (h : @LT.lt Nat _ b0 q ∧ @LT.lt Nat _ b1 q ∧ @LT.lt Nat _ b2 q ∧ @LT.lt Nat _ b3 q ∧ @LT.lt Nat _ b4 q ∧ @LT.lt Nat _ b5 q ∧ @LT.lt Nat _ b6 q ∧ @LT.lt Nat _ aR q ∧ AllLt q X) : Fresh aR X q := h.2.2.2.2.2.2.2
theorem fr8 {aR q b0 b1 b2 b3 b4 b5 b6 b7 : Addr} {X : List (Addr × Obj)} (h : @LT.lt Nat _ b0 q ∧ @LT.lt Nat _ b1 q ∧ @LT.lt Nat _ b2 q ∧ @LT.lt Nat _ b3 q ∧ @LT.lt Nat _ b4 q ∧ @LT.lt Nat _ b5 q ∧ @LT.lt Nat _ b6 q ∧ @LT.lt Nat _ b7 q ∧ @LT.lt Nat _ aR q ∧ AllLt q X) : Fresh aR X q := h.2.2.2.2.2.2.2.2
section
variable {news tl own nE : List (Addr × Obj)} {v : Str} {t : Tok} {aR : Addr} {i c : Nat} {m' : Str → Option Value} {h₀ : Heap} {L : Addr} {acc : Array Value} {cap cap' : Nat} {s₁ : Shared} {h' : Heap} {tk : Nat} {pre post : Str}
theorem Turn.whole (T : Turn news tl own v aR i c acc cap pre post) : v.cps.toList = v.cps.toList.take i ++ c :: v.cps.toList.drop (i + 1) := by
  obtain ⟨hl, e⟩ := List.getElem?_eq_some_iff.mp T.at_
  have h1 := (List.take_append_drop i v.cps.toList).symm
  rw [List.drop_eq_getElem_cons hl, e] at h1
  exact h1
theorem Turn.close (T : Turn news tl own v aR i c acc cap pre post) {add : List (Addr × Obj)} {acc' : Array Value} {xs : List Value} {rs' : List Row}
    (F : Fr h₀ L h' m') (N : News h₀ L h' nE) (hs : ∀ p ∈ (aR, listOf acc' cap') :: (add ++ (tl ++ own)), p ∈ nE) (hf : ∀ q ∈ add, Fresh aR (tl ++ own) q.1)
    (hacc : acc'.toList = acc.toList ++ xs) (hx : RowsIn (add ++ tl) xs rs') (hspec : signRows (v.cps.toList.take i) c (v.cps.toList.drop (i + 1)) = rs')
    (hv : m' (Str.ofString "value") = some (.str v t)) (hr : m' (Str.ofString "rows") = some (.ref aR)) : InvEndG h₀ L (RowsJ news v t aR (i + 1)) own s₁ { s₁ with heap := h', toks := tk } :=
  rowsEnd F N hs T.sub T.ne (fun q hq => Nat.ne_of_gt (hf q hq).1) T.off (fun q hq p hp => Nat.ne_of_lt (lt_of_all (hf q hq).2 p (List.mem_append.mpr (.inr hp)))) T.rows hacc hx
    (by rw [upTo_succ T.at_, hspec, List.append_assoc]) hv hr
theorem end_other (T : Turn news tl own v aR i c acc cap pre post) {d a1 a2 : Addr} {s1 s2 : Str} {k1 k2 : Tok} {n1 n2 : Nat} {e1 e2 : Addr × Obj} (F : Fr h₀ L h' m')
    (N : News h₀ L h' ((d, { cls := .type "tuple", data := .seq #[.ref a2, .ref a1] }) :: (a1, listOf #[.str s1 k1] n1) :: (a2, listOf #[.str s2 k2] n2) :: e1 :: e2 :: (aR, listOf (acc.push (.ref d)) cap') :: (tl ++ own)))
    (fd : Fresh aR (tl ++ own) d) (f1 : Fresh aR (tl ++ own) a1) (f2 : Fresh aR (tl ++ own) a2) (hc1 : c ≠ 92) (hc2 : c ≠ 34) (h1 : s1.cps.toList = pe ++ pre.cps.toList ++ c :: c :: post.cps.toList) (h2 : s2.cps.toList = pe ++ pre.cps.toList ++ post.cps.toList)
    (hv : m' (Str.ofString "value") = some (.str v t)) (hr : m' (Str.ofString "rows") = some (.ref aR)) : InvEndG h₀ L (RowsJ news v t aR (i + 1)) own s₁ { s₁ with heap := h', toks := tk } := by
  refine T.close (cap' := cap') (add := [(d, tupO #[.ref a2, .ref a1]), (a1, listOf #[.str s1 k1] n1), (a2, listOf #[.str s2 k2] n2)]) (xs := [.ref d]) F N ?_ ?_ (by rw [Array.toList_push]) ?_ (by unfold signRows; rw [if_neg hc1, if_neg hc2]) hv hr
  · intro p hp
    simp only [List.mem_cons, List.cons_append, List.nil_append] at hp ⊢
    rcases hp with h | h | h | h | h
    · simp only [h, true_or, or_true]
    · exact .inl h
    · simp only [h, true_or, or_true]
    · simp only [h, true_or, or_true]
    · simp only [h, or_true]
  · intro q hq
    simp only [List.mem_cons, List.not_mem_nil, or_false] at hq
    rcases hq with rfl | rfl | rfl <;> assumption
  · refine ⟨⟨d, _, _, rfl, List.Mem.head _, ⟨a2, s2, k2, n2, rfl, .tail _ (.tail _ (.head _)), ?_⟩, ⟨a1, s1, k1, n1, rfl, .tail _ (.head _), ?_⟩⟩, True.intro⟩
    · rw [h2, T.pre_, T.post_]
    · rw [h1, T.pre_, T.post_]
theorem end_bs0 (T : Turn news tl own v aR i c acc cap pre post) {l d : Addr} {o0 : Obj} {e1 e2 : Addr × Obj} (F : Fr h₀ L h' m')
    (N : News h₀ L h' ((l, o0) :: (d, { cls := .type "tuple", data := .seq #[.none, .none] }) :: e1 :: e2 :: (aR, listOf (acc.toList ++ (#[Value.ref d, Value.ref d] : Array Value).toList).toArray cap') :: (tl ++ own)))
    (fd : Fresh aR (tl ++ own) d) (hc : c = 92) (hp : plain (v.cps.toList.drop (i + 1)) = false)
    (hv : m' (Str.ofString "value") = some (.str v t)) (hr : m' (Str.ofString "rows") = some (.ref aR)) : InvEndG h₀ L (RowsJ news v t aR (i + 1)) own s₁ { s₁ with heap := h', toks := tk } := by
  refine T.close (cap' := cap') (acc' := (acc.toList ++ (#[Value.ref d, Value.ref d] : Array Value).toList).toArray) (add := [(d, tupO #[.none, .none])]) (xs := [.ref d, .ref d]) F N ?_ ?_ (by simp) ?_ (by unfold signRows; rw [if_pos hc, hp, if_neg Bool.false_ne_true]) hv hr
  · intro p hp
    simp only [List.mem_cons, List.cons_append, List.nil_append] at hp ⊢
    rcases hp with h | h | h
    · simp only [h, true_or, or_true]
    · exact .inr (.inl h)
    · simp only [h, or_true]
  · intro q hq
    simp only [List.mem_cons, List.not_mem_nil, or_false] at hq
    subst hq
    exact fd
  · exact ⟨⟨d, _, _, rfl, List.Mem.head _, rfl, rfl⟩, ⟨d, _, _, rfl, List.Mem.head _, rfl, rfl⟩, True.intro⟩
theorem end_bs1 (T : Turn news tl own v aR i c acc cap pre post) {l d a1 a2 : Addr} {o0 : Obj} {s1 s2 : Str} {k1 k2 : Tok} {n1 n2 : Nat} {e1 e2 : Addr × Obj} (F : Fr h₀ L h' m')
    (N : News h₀ L h' ((l, o0) :: (d, { cls := .type "tuple", data := .seq #[.ref a2, .ref a1] }) :: (a1, listOf #[.str s1 k1] n1) :: (a2, listOf #[.str s2 k2] n2) :: e1 :: e2 :: (aR, listOf (acc.toList ++ (#[Value.ref d, Value.ref d] : Array Value).toList).toArray cap') :: (tl ++ own)))
    (fd : Fresh aR (tl ++ own) d) (f1 : Fresh aR (tl ++ own) a1) (f2 : Fresh aR (tl ++ own) a2) (hc : c = 92) (hp : plain (v.cps.toList.drop (i + 1)) = true) (h1 : s1.cps.toList = pe ++ pre.cps.toList ++ 92 :: 92 :: post.cps.toList) (h2 : s2.cps.toList = pe ++ v.cps.toList)
    (hv : m' (Str.ofString "value") = some (.str v t)) (hr : m' (Str.ofString "rows") = some (.ref aR)) : InvEndG h₀ L (RowsJ news v t aR (i + 1)) own s₁ { s₁ with heap := h', toks := tk } := by
  have hw := T.whole
  refine T.close (cap' := cap') (acc' := (acc.toList ++ (#[Value.ref d, Value.ref d] : Array Value).toList).toArray) (add := [(d, tupO #[.ref a2, .ref a1]), (a1, listOf #[.str s1 k1] n1), (a2, listOf #[.str s2 k2] n2)]) (xs := [.ref d, .ref d]) F N ?_ ?_ (by simp) ?_ (by unfold signRows; rw [if_pos hc, hp, if_pos rfl]) hv hr
  · intro p hp
    simp only [List.mem_cons, List.cons_append, List.nil_append] at hp ⊢
    rcases hp with h | h | h | h | h
    · simp only [h, true_or, or_true]
    · exact .inr (.inl h)
    · simp only [h, true_or, or_true]
    · simp only [h, true_or, or_true]
    · simp only [h, or_true]
  · intro q hq
    simp only [List.mem_cons, List.not_mem_nil, or_false] at hq
    rcases hq with rfl | rfl | rfl <;> assumption
  · have r : RowIn ([(d, tupO #[.ref a2, .ref a1]), (a1, listOf #[.str s1 k1] n1), (a2, listOf #[.str s2 k2] n2)] ++ tl) (.ref d) (some (pe ++ v.cps.toList.take i ++ 92 :: v.cps.toList.drop (i + 1)), some (pe ++ v.cps.toList.take i ++ 92 :: 92 :: v.cps.toList.drop (i + 1))) := by
      refine ⟨d, _, _, rfl, List.Mem.head _, ⟨a2, s2, k2, n2, rfl, .tail _ (.tail _ (.head _)), ?_⟩, ⟨a1, s1, k1, n1, rfl, .tail _ (.head _), ?_⟩⟩
      · rw [h2, List.append_assoc, ← hc]
        exact congrArg (pe ++ ·) hw
      · rw [h1, T.pre_, T.post_]
    exact ⟨r, r, True.intro⟩
theorem end_qt0 (T : Turn news tl own v aR i c acc cap pre post) {d1 d2 : Addr} {e1 e2 : Addr × Obj} (F : Fr h₀ L h' m')
    (N : News h₀ L h' ((d2, { cls := .type "tuple", data := .seq #[.none, .none] }) :: (d1, { cls := .type "tuple", data := .seq #[.none, .none] }) :: e1 :: e2 :: (aR, listOf ((acc.push (.ref d1)).push (.ref d2)) cap') :: (tl ++ own)))
    (fd1 : Fresh aR (tl ++ own) d1) (fd2 : Fresh aR (tl ++ own) d2) (hc : c = 34) (hp : plain (v.cps.toList.drop (i + 1)) = false)
    (hv : m' (Str.ofString "value") = some (.str v t)) (hr : m' (Str.ofString "rows") = some (.ref aR)) : InvEndG h₀ L (RowsJ news v t aR (i + 1)) own s₁ { s₁ with heap := h', toks := tk } := by
  refine T.close (cap' := cap') (acc' := (acc.push (.ref d1)).push (.ref d2)) (add := [(d1, tupO #[.none, .none]), (d2, tupO #[.none, .none])]) (xs := [.ref d1, .ref d2]) F N ?_ ?_ (by simp) ?_ (by unfold signRows; rw [if_neg (by omega), if_pos hc, hp, if_neg Bool.false_ne_true]) hv hr
  · intro p hp
    simp only [List.mem_cons, List.cons_append, List.nil_append] at hp ⊢
    rcases hp with h | h | h | h
    · simp only [h, true_or, or_true]
    · exact .inr (.inl h)
    · exact .inl h
    · simp only [h, or_true]
  · intro q hq
    simp only [List.mem_cons, List.not_mem_nil, or_false] at hq
    rcases hq with rfl | rfl <;> assumption
  · exact ⟨⟨d1, _, _, rfl, List.Mem.head _, rfl, rfl⟩, ⟨d2, _, _, rfl, .tail _ (.head _), rfl, rfl⟩, True.intro⟩
theorem end_qt1 (T : Turn news tl own v aR i c acc cap pre post) {d1 d2 a1 : Addr} {s1 : Str} {k1 : Tok} {n1 : Nat} {e1 e2 : Addr × Obj} (F : Fr h₀ L h' m')
    (N : News h₀ L h' ((d2, { cls := .type "tuple", data := .seq #[.ref a1, .none] }) :: (a1, listOf #[.str s1 k1] n1) :: (d1, { cls := .type "tuple", data := .seq #[.none, .none] }) :: e1 :: e2 :: (aR, listOf ((acc.push (.ref d1)).push (.ref d2)) cap') :: (tl ++ own)))
    (fd1 : Fresh aR (tl ++ own) d1) (fd2 : Fresh aR (tl ++ own) d2) (f1 : Fresh aR (tl ++ own) a1) (hc : c = 34) (hp : plain (v.cps.toList.drop (i + 1)) = true) (h1 : s1.cps.toList = pe ++ pre.cps.toList ++ 92 :: post.cps.toList)
    (hv : m' (Str.ofString "value") = some (.str v t)) (hr : m' (Str.ofString "rows") = some (.ref aR)) : InvEndG h₀ L (RowsJ news v t aR (i + 1)) own s₁ { s₁ with heap := h', toks := tk } := by
  refine T.close (cap' := cap') (acc' := (acc.push (.ref d1)).push (.ref d2)) (add := [(d1, tupO #[.none, .none]), (d2, tupO #[.ref a1, .none]), (a1, listOf #[.str s1 k1] n1)]) (xs := [.ref d1, .ref d2]) F N ?_ ?_ (by simp) ?_ (by unfold signRows; rw [if_neg (by omega), if_pos hc, hp, if_pos rfl]) hv hr
  · intro p hp
    simp only [List.mem_cons, List.cons_append, List.nil_append] at hp ⊢
    rcases hp with h | h | h | h | h
    · simp only [h, true_or, or_true]
    · exact .inr (.inr (.inl h))
    · exact .inl h
    · exact .inr (.inl h)
    · simp only [h, or_true]
  · intro q hq
    simp only [List.mem_cons, List.not_mem_nil, or_false] at hq
    rcases hq with rfl | rfl | rfl <;> assumption
  · refine ⟨⟨d1, _, _, rfl, List.Mem.head _, rfl, rfl⟩, ⟨d2, _, _, rfl, .tail _ (.head _), ⟨a1, s1, k1, n1, rfl, .tail _ (.tail _ (.head _)), ?_⟩, rfl⟩, True.intro⟩
    rw [h1, T.pre_, T.post_]
end
theorem endDone {news tl : List (Addr × Obj)} {v : Str} {aR d : Addr} {h₀ h' : Heap} {L : Addr} {acc : Array Value} {cap' : Nat} (N : News h₀ L h' ((d, { cls := .type "tuple", data := .seq #[.none, .none] }) :: (aR, listOf (acc.push (.ref d)) cap') :: tl))
    (hsub : ∀ p ∈ news, p ∈ tl) (hne : ∀ p ∈ tl, p.1 ≠ aR) (hrows : RowsIn tl acc.toList (headRows v.cps.toList ++ upTo v.cps.toList v.length)) (hd : Fresh aR tl d) :
    ∃ tl', (∀ p ∈ news, p ∈ tl') ∧ (∀ p ∈ tl', p.1 ≠ aR) ∧ RowsIn tl' (acc.push (.ref d)).toList (rowsOf v.cps.toList) ∧ News h₀ L h' ((aR, listOf (acc.push (.ref d)) cap') :: tl') := by
  refine ⟨(d, tupO #[.none, .none]) :: tl, fun p hp => .tail _ (hsub p hp), ?_, ?_, fun p hp => N p ?_⟩
  · intro p hp
    rcases List.mem_cons.mp hp with rfl | hp
    · exact Nat.ne_of_gt hd.1
    · exact hne p hp
  · rw [Array.toList_push]
    have hl : v.length = v.cps.toList.length := by simp [Str.length]
    rw [hl, upTo_all] at hrows
    have := (hrows.mono (nx' := (d, tupO #[.none, .none]) :: tl) fun p hp => .tail _ hp).app (vs' := [.ref d]) (rs' := [(none, none)]) ⟨⟨d, _, _, rfl, List.Mem.head _, rfl, rfl⟩, True.intro⟩
    rw [List.append_assoc] at this
    exact this
  · simp only [List.mem_cons] at hp ⊢
    rcases hp with h | h | h
    · exact .inr (.inl h)
    · exact .inl h
    · exact .inr (.inr h)
theorem tx3 (pre post : Str) (c : Nat) : (Str.ofString "p=" ++ pre ++ ⟨#[c]⟩ ++ ⟨#[c]⟩ ++ post).cps.toList = pe ++ pre.cps.toList ++ c :: c :: post.cps.toList := by
  simp only [Str.cps_append, Array.toList_append]
  show pe ++ pre.cps.toList ++ [c] ++ [c] ++ post.cps.toList = _
  simp
theorem tx0 (pre post : Str) : (Str.ofString "p=" ++ pre ++ post).cps.toList = pe ++ pre.cps.toList ++ post.cps.toList := by
  simp only [Str.cps_append, Array.toList_append]
  rfl
theorem tx2 (pre post : Str) : (Str.ofString "p=" ++ pre ++ Str.ofString "\\\\" ++ post).cps.toList = pe ++ pre.cps.toList ++ 92 :: 92 :: post.cps.toList := by
  simp only [Str.cps_append, Array.toList_append]
  show pe ++ pre.cps.toList ++ [92, 92] ++ post.cps.toList = _
  simp
theorem tx1 (pre post : Str) : (Str.ofString "p=" ++ pre ++ Str.ofString "\\" ++ post).cps.toList = pe ++ pre.cps.toList ++ 92 :: post.cps.toList := by
  simp only [Str.cps_append, Array.toList_append]
  show pe ++ pre.cps.toList ++ [92] ++ post.cps.toList = _
  simp
theorem txv (v : Str) : (Str.ofString "p=" ++ v).cps.toList = pe ++ v.cps.toList := by
  simp only [Str.cps_append, Array.toList_append]
  rfl
end Mine
end
section
open PySem PySem.W PyProof.Rows PySem.Calls PySem.Spec
set_option maxRecDepth 100000
set_option maxHeartbeats 0
namespace Mine
local macro_rules | `(tactic| walk_at "call type:range") => `(tactic| (k_here; (rename Fr _ _ _ _ => F'); (rename News _ _ _ _ => N'); with_unfolding_all refine range1_rows F' N' ?_; intro _ _ _ _ _ _ _ _ _))
local macro_rules | `(tactic| k_all) => `(tactic| assumption)
theorem ltNe {a b : Addr} (h : a ≠ b) : @Ne Nat a b := h
theorem ne_lit {prog : Program} {w : World} {A : Around} {E : Value → Shared → Prop} {s : Shared} {Q : Value → Shared → Prop} {u t : Tok} {x y : Str} (b : Bool) (hb : (x == y) = b) (h : Q (.bool !b) s) : wpAny (model prog w) A (compareOp .NotEq (.str x u) (.str y t)) Q E s := by
  refine ne_str ?_
  rw [← hb] at h
  exact h
local macro_rules | `(tactic| walk_at "compareOp NotEq ref ref") => `(tactic| (k_here; k_dflt (refine' kqd_ne ?zN ?za ?zb ?zc ?zd ?ze ?zf ?zg ?zi ?zj (fun _ h => h) (okStrs (by assumption)) ?zm ?zn ?_; (case zN => k_asm); (case za => k_mem); (case zb => rfl); (case zc => rfl); (case zd => with_reducible assumption); (case ze => kqd_sub); (case zf => k_mem); (case zg => rfl); (case zi => rfl); (case zj => kqd_all); (case zm => kqd_ok); (case zn => ktr_units); k_whole); dsimp only; (try simp only [List.map_cons, List.map_nil, reduceCtorEq, eq_self, decide_true, decide_false, Bool.not_true, Bool.not_false])))
local macro_rules | `(tactic| walk_at "subscriptTail") => `(tactic| (k_here; (with_reducible show wpAny _ _ (subscriptTail _ _ (Value.ref _) (Value.int _ _)) _ _ _); k_dflt (refine item_listL (News.isList (by k_asm) (by k_mem)) (by decide) (by decide) rfl ?_)))
local macro_rules | `(tactic| walk_at "compareOp NotEq str str") => `(tactic| (k_here; with_reducible refine ne_lit _ (by assumption) ?_; (try dsimp only [Bool.not_true, Bool.not_false])))
local macro_rules | `(tactic| walk_at "compareOp Eq str str") => `(tactic| (k_here; with_reducible refine eq_lit _ (by assumption) ?_))
local macro_rules | `(tactic| walk_at "exec Assign cons ListComp") => `(tactic| (k_here; refine held ?_))
local macro_rules | `(tactic| walk_at "pyIter ref") => `(tactic| (k_here; refine held ?_))
local macro_rules | `(tactic| walk_at "call builtin:list.append") => `(tactic| (k_here; k_dflt (refine' append_K ?y1 ?y2 ?y3 ?_ ?y4; (case y1 => k_asm); (case y2 => k_asm); (case y3 => k_upd); (case y4 => first | exact ext2' (by assumption) | exact ext3 (by assumption)); k_whole); intro h' F' N'; (try k_sweep)))
local macro_rules | `(tactic| walk_at "call builtin:list.extend") => `(tactic| (k_here; k_dflt (refine' kl_extend ?y1 ?y2 ?y3 rfl ?y5 ?y6 (extOk (by assumption)) (ext1 (by assumption)) (ext2 (by assumption)) ?_; (case y1 => k_asm); (case y2 => k_asm); (case y3 => k_mem); (case y5 => exact Nat.succ_ne_zero _); (case y6 => k_upd); k_whole); intro h' F' N'; (try k_sweep)))
theorem cutPlain {M : Model} {A : Around} {t : Sem Flow} {Q : Flow → Shared → Prop} {E : Value → Shared → Prop} {s : Shared} {g h : Heap} {L : Addr} {m : Str → Option Value} {d p : Addr × Obj} {X : List (Addr × Obj)} (b : Bool) (_F : Fr g L h m) (_N : News g L h (d :: p :: X))
    (h1 : ∀ Fin : Flow → Shared → Prop, (∀ h' tk (e : Addr × Obj), Fr g L h' (fun y => if y = Str.ofString "plain" then some (.bool b) else m y) → News g L h' (e :: d :: p :: X) → @LT.lt Nat _ p.1 e.1 → Fin .next { s with heap := h', toks := tk }) → wpAny M A t Fin E s)
    (h2 : ∀ h' tk (e : Addr × Obj), Fr g L h' (fun y => if y = Str.ofString "plain" then some (.bool b) else m y) → News g L h' (e :: d :: p :: X) → @LT.lt Nat _ p.1 e.1 → Q .next { s with heap := h', toks := tk }) : wpAny M A t Q E s := h1 Q h2
theorem rowsC {w : World} {mean : ExcName → Option Value} {mg mb : Str → Option Value} {dp un : Nat} {gd : Option (List Code)} {cn : Str} {nms : List (Str × NameKind)} {mor : List (Str × Const)} {a : Addr} {ccd : Value} {cl : List (Str × Addr)} {outer : List Env} {A₀ : Around} {base h₀ : Heap} {L : Addr} {m : Str → Option Value} {s : Shared} {Q E : Value → Shared → Prop} {v : Str} {tp t : Tok} {news : List (Addr × Obj)} : Below A₀ base outer h₀ → Fr h₀ L s.heap m → (KK w.params).In h₀ → News h₀ L s.heap (news) → Top vw LO mean mg mb h₀ → 
    dp + 60 < recursionLimit → un + 600 < cLine → v.length ≤ 7 → 0 < v.length → v ≠ Str.ofString "" → (∀ c ∈ v.cps.toList, c < 0x110000) →
    (∀ (aR : Addr) (acc : Array Value) (cap : Nat) (tl : List (Addr × Obj)) (h' : Heap) (tk : Nat), (∀ p ∈ news, p ∈ tl) → (∀ p ∈ tl, p.1 ≠ aR) → RowsIn tl acc.toList (rowsOf v.cps.toList) → Fr h₀ L h' m → News h₀ L h' ((aR, listOf acc cap) :: tl) → Q (.ref aR) { s with heap := h', toks := tk }) →
    wpAny (model PySem.Challenge.rw_mq0369_01.row.prog w) (ktrTop dp un gd cn ⟨.function, nms, false, false, mor⟩ L a ccd cl outer) (call (.ref 764) [.str v t]) Q E s := by
  w_on
  k_fill
  intro B F X N T hd' hu hx hx0 hx1 hok hret
  refine wpAny_call ?_
  k_dflt k_enter
  k_steps
  unfold Held
  rename Fr _ _ _ _ => F1
  rename News _ _ _ _ => N1
  rename IsRange _ _ _ _ _ _ _ _ => R1
  rename @LT.lt Nat _ _ _ ∧ _ => l1
  refine loopR (RowsJ news v t ?aR) rfl R1 (by omega) F1 N1 ?hj ?turn ?done
  case hj =>
    refine ⟨_, _, _, rfl, ?_, ?_, ?_, by first | rfl | lk, by first | rfl | lk⟩
    · intro p hp
      simp only [List.mem_cons, hp, or_true]
    · intro p hp
      simp only [List.mem_cons] at hp
      obtain ⟨a0, a1, a2, a3, a4, a5, a6, a7⟩ := l1
      rcases hp with rfl | rfl | rfl | rfl | rfl | rfl | rfl | hp
      · exact Nat.ne_of_lt a0
      · exact Nat.ne_of_lt a1
      · exact Nat.ne_of_lt a2
      · exact Nat.ne_of_lt a3
      · exact Nat.ne_of_lt a4
      · exact Nat.ne_of_lt a5
      · exact Nat.ne_of_lt a6
      · exact Nat.ne_of_lt (lt_of_all a7 p hp)
    · refine ⟨⟨_, _, _, rfl, by k_mem, ⟨_, _, _, _, rfl, by k_mem, ?_⟩, ⟨_, _, _, _, rfl, by k_mem, ?_⟩⟩, ⟨_, _, _, rfl, by k_mem, ⟨_, _, _, _, rfl, by k_mem, ?_⟩, ⟨_, _, _, _, rfl, by k_mem, ?_⟩⟩, ⟨_, _, _, rfl, by k_mem, rfl, rfl⟩, True.intro⟩
      · rw [Str.cps_append, Array.toList_append]; rfl
      · rw [Str.cps_append, Array.toList_append]; rfl
      · rw [Str.cps_append, Array.toList_append]; rfl
      · rw [Str.cps_append, Array.toList_append]; rfl
  case turn =>
    repeat (rename @LE.le Nat _ _ _ ∧ @LE.le Nat _ _ _ => q9; clear q9)
    intro i m₁ nx ti h tk own hi hoff hJ F2 N2
    obtain ⟨acc, cap, tl, rfl, hsub, hne, hrows, hv, hr⟩ := hJ
    have F3 := fr_kst (ps := [(Str.ofString "value", .str v t), (Str.ofString "rows", .ref _), (Str.ofString "place", .int (i : Int) ti)]) F2 (by
      intro p hp
      simp only [List.mem_cons, List.not_mem_nil, or_false] at hp
      rcases hp with rfl | rfl | rfl
      · exact hv
      · exact hr
      · rfl)
    dsimp only [kstB] at F3
    have N3 : News _ _ _ (_ :: (tl ++ own)) := N2
    clear F2 N2
    k_steps
    unfold Held
    rename Fr _ _ _ _ => F4
    rename News _ _ _ _ => N4
    have hlen : v.cps.toList.length = v.length := by simp [Str.length]
    obtain ⟨c, hc⟩ : ∃ c, v.cps.toList[i]? = some c := ⟨_, List.getElem?_eq_getElem (by rw [hlen]; exact hi)⟩
    have hsg := itemF hc
    have hpre := sliceTo (v := v) (i := i) (Nat.le_of_lt hi)
    have hpost := sliceFrom (v := v) (i := i + 1) (j := (i : Int) + 1) (by omega) hi
    generalize Txt.item v (i : Int) = sg at *
    generalize Txt.slice v none (some (i : Int)) = pre at *
    generalize Txt.slice v (some ((i : Int) + 1)) none = post at *
    refine' Assign_ListComp_signsD (pz := fun x => !(x == Str.ofString "\\")) (d := fun x => .str x) ?hsw ?hh ?hfree ?hcell ?hkind ?hnames ?hx ?hy ?hp ?h ?hs
    case hsw => with_unfolding_all rfl
    case hh => rfl
    case hfree => decide
    case hcell => decide
    case hkind => rfl
    case hnames => decide
    case hx => rfl
    case hy => rfl
    case hp => rfl
    case hs => intro; rfl
    case h =>
      walk1
      refine ⟨post, _, rfl, ?hsz, F4, N4, ?g1, ?g2, ?g3⟩
      case hsz => exact Nat.le_trans (by omega : post.length ≤ 1000) size1000
      case g1 =>
        intro C a' vv s₂ m₂ E' ha hn hm
        obtain ⟨u, rfl⟩ := ha
        clear F4 N4
        k_steps
        exact ⟨_, _, rfl, fun _ _ e => e⟩
      case g2 =>
        intro C a' vv s₂ m₂ E' ha hpz hn hm
        obtain ⟨u, rfl⟩ := ha
        clear F4 N4
        k_steps
        · exact Carried.str _ _
        · exact ⟨_, _, rfl, fun _ _ e => e⟩
      case g3 =>
        intro D ys h5 tk5 F5 N5 hD hL hP hC
        obtain ⟨nX, N6⟩ := made_enters hP F5 N5 hD
        have hS := StrsAre.ofCarried hC
        have hDR := ltNe (hP.2 _ (List.Mem.head _))
        clear hL hC hP F4 N4 N5
        have htl : ∀ p ∈ tl ++ own, p.1 ≠ (_ : Addr) := fun p hp => (List.mem_append.mp hp).elim (hne p) fun h => hoff p h _ (List.Mem.head _)
        have hacc : acc.size ≤ 24 := by
          have h1 := hrows.len
          have h2 := upTo_len v.cps.toList i
          rw [List.length_append, Array.length_toList, show (headRows v.cps.toList).length = 3 from rfl] at h1
          omega
        have hfok := okFs (y := post) (fun d hd => hok d (List.mem_of_mem_drop (hpost ▸ hd)))
        have hp0 := plain_nil (y := post)
        have hp1 := @plain_cons post
        rw [hpost] at hp0 hp1
        generalize (signs post).filter (fun x => !(x == Str.ofString "\\")) = fs at *
        have e1 : (sg == Str.ofString "\\") = decide (c = 92) := by rw [hsg]; exact one_eq c 92
        have e2 : (sg == Str.ofString "\"") = decide (c = 34) := by rw [hsg]; exact one_eq c 34
        have TT : Turn news tl own v _ i c acc cap pre post := ⟨hsub, hne, hoff, hrows, hc, hpre, hpost⟩
        obtain ⟨pl, hp⟩ : ∃ b, plain (v.cps.toList.drop (i + 1)) = b := ⟨_, rfl⟩
        dsimp only
        walk1
        rename Fr _ _ _ _ => F6
        rename News _ _ _ _ => N7
        refine cutPlain pl F6 N7 ?_ ?_
        · intro Fin hFin
          cases fs with
          | nil =>
            cases hS
            have DA : DatAll [] [] (([] : List Str).map Dat.str) := .nil
            have := hp.symm.trans (hp0 rfl)
            subst this
            k_steps
            rename Fr _ _ _ _ => nF
            rename News _ _ _ _ => nE
            rename @LT.lt Nat _ _ _ ∧ _ => l2
            exact hFin _ _ _ nF nE l2.2.1
          | cons fx fr =>
            have e3 : ∃ b1, (fx == Str.ofString "\"") = b1 := ⟨_, rfl⟩
            obtain ⟨b3, e3⟩ := e3
            have := hp.symm.trans (hp1 rfl e3)
            have DA := datStrs hS
            cases hS
            cases b3
            · have th : pl = true := this
              clear this
              subst th
              k_steps
              rename Fr _ _ _ _ => nF
              rename News _ _ _ _ => nE
              rename @LT.lt Nat _ _ _ ∧ _ => l2
              exact hFin _ _ _ nF nE l2.2.1
            · have th : pl = false := this
              clear this
              subst th
              k_steps
              rename Fr _ _ _ _ => nF
              rename News _ _ _ _ => nE
              rename @LT.lt Nat _ _ _ ∧ _ => l2
              exact hFin _ _ _ nF nE l2.2.1
        · intro h7 tk7 e7 F8 N8 l7
          clear F6 N7 hS hp0 hp1 hfok
          dsimp only
          by_cases h1 : c = 92
          · rw [decide_eq_true h1] at e1
            rw [decide_eq_false (by omega)] at e2
            cases pl
            · k_steps
              rename Fr _ _ _ _ => nF
              rename News _ _ _ _ => nE
              exact end_bs0 TT nF nE (by first | exact fr0 (by assumption) | exact fr1 (by assumption) | exact fr2 (by assumption) | exact fr3 (by assumption) | exact fr4 (by assumption) | exact fr5 (by assumption) | exact fr6 (by assumption) | exact fr7 (by assumption) | exact fr8 (by assumption)) h1 hp rfl rfl
            · k_steps
              rename Fr _ _ _ _ => nF
              rename News _ _ _ _ => nE
              exact end_bs1 TT nF nE (by first | exact fr0 (by assumption) | exact fr1 (by assumption) | exact fr2 (by assumption) | exact fr3 (by assumption) | exact fr4 (by assumption) | exact fr5 (by assumption) | exact fr6 (by assumption) | exact fr7 (by assumption) | exact fr8 (by assumption)) (by first | exact fr0 (by assumption) | exact fr1 (by assumption) | exact fr2 (by assumption) | exact fr3 (by assumption) | exact fr4 (by assumption) | exact fr5 (by assumption) | exact fr6 (by assumption) | exact fr7 (by assumption) | exact fr8 (by assumption)) (by first | exact fr0 (by assumption) | exact fr1 (by assumption) | exact fr2 (by assumption) | exact fr3 (by assumption) | exact fr4 (by assumption) | exact fr5 (by assumption) | exact fr6 (by assumption) | exact fr7 (by assumption) | exact fr8 (by assumption)) h1 hp (tx2 _ _) (txv _) rfl rfl
          · rw [decide_eq_false h1] at e1
            by_cases h2 : c = 34
            · rw [decide_eq_true h2] at e2
              cases pl
              · k_steps
                rename Fr _ _ _ _ => nF
                rename News _ _ _ _ => nE
                exact end_qt0 TT nF nE (by first | exact fr0 (by assumption) | exact fr1 (by assumption) | exact fr2 (by assumption) | exact fr3 (by assumption) | exact fr4 (by assumption) | exact fr5 (by assumption) | exact fr6 (by assumption) | exact fr7 (by assumption) | exact fr8 (by assumption)) (by first | exact fr0 (by assumption) | exact fr1 (by assumption) | exact fr2 (by assumption) | exact fr3 (by assumption) | exact fr4 (by assumption) | exact fr5 (by assumption) | exact fr6 (by assumption) | exact fr7 (by assumption) | exact fr8 (by assumption)) h2 hp rfl rfl
              · k_steps
                rename Fr _ _ _ _ => nF
                rename News _ _ _ _ => nE
                exact end_qt1 TT nF nE (by first | exact fr0 (by assumption) | exact fr1 (by assumption) | exact fr2 (by assumption) | exact fr3 (by assumption) | exact fr4 (by assumption) | exact fr5 (by assumption) | exact fr6 (by assumption) | exact fr7 (by assumption) | exact fr8 (by assumption)) (by first | exact fr0 (by assumption) | exact fr1 (by assumption) | exact fr2 (by assumption) | exact fr3 (by assumption) | exact fr4 (by assumption) | exact fr5 (by assumption) | exact fr6 (by assumption) | exact fr7 (by assumption) | exact fr8 (by assumption)) (by first | exact fr0 (by assumption) | exact fr1 (by assumption) | exact fr2 (by assumption) | exact fr3 (by assumption) | exact fr4 (by assumption) | exact fr5 (by assumption) | exact fr6 (by assumption) | exact fr7 (by assumption) | exact fr8 (by assumption)) h2 hp (tx1 _ _) rfl rfl
            · rw [decide_eq_false h2] at e2
              k_steps
              rename Fr _ _ _ _ => nF
              rename News _ _ _ _ => nE
              exact end_other TT nF nE (by first | exact fr0 (by assumption) | exact fr1 (by assumption) | exact fr2 (by assumption) | exact fr3 (by assumption) | exact fr4 (by assumption) | exact fr5 (by assumption) | exact fr6 (by assumption) | exact fr7 (by assumption) | exact fr8 (by assumption)) (by first | exact fr0 (by assumption) | exact fr1 (by assumption) | exact fr2 (by assumption) | exact fr3 (by assumption) | exact fr4 (by assumption) | exact fr5 (by assumption) | exact fr6 (by assumption) | exact fr7 (by assumption) | exact fr8 (by assumption)) (by first | exact fr0 (by assumption) | exact fr1 (by assumption) | exact fr2 (by assumption) | exact fr3 (by assumption) | exact fr4 (by assumption) | exact fr5 (by assumption) | exact fr6 (by assumption) | exact fr7 (by assumption) | exact fr8 (by assumption)) h1 h2 (by rw [hsg]; exact tx3 _ _ _) (tx0 _ _) rfl rfl
  case done =>
    intro m₁ nx h tk hJ F2 N2
    obtain ⟨acc, cap, tl, rfl, hsub, hne, hrows, hv, hr⟩ := hJ
    have F3 := fr_kst (ps := [(Str.ofString "value", .str v t), (Str.ofString "rows", .ref _)]) F2 (by
      intro p hp
      simp only [List.mem_cons, List.not_mem_nil, or_false] at hp
      rcases hp with rfl | rfl
      · exact hv
      · exact hr)
    dsimp only [kstB] at F3
    clear F2
    have hacc : acc.size ≤ 24 := by
      have h1 := hrows.len
      have h2 := upTo_len v.cps.toList v.length
      rw [List.length_append, Array.length_toList, show (headRows v.cps.toList).length = 3 from rfl] at h1
      omega
    k_steps
    rename Fr _ _ _ _ => nF
    rename News _ _ _ _ => nE
    obtain ⟨tl', d1, d2, d3, d4⟩ := endDone nE hsub hne hrows (by first | exact fr0 (by assumption) | exact fr1 (by assumption) | exact fr2 (by assumption) | exact fr3 (by assumption) | exact fr4 (by assumption) | exact fr5 (by assumption) | exact fr6 (by assumption) | exact fr7 (by assumption) | exact fr8 (by assumption))
    exact hret _ _ _ _ _ _ d1 d2 d3 nF d4
end Mine
end
section
open PySem PySem.W PyProof.Rows PySem.Calls PySem.Spec
set_option maxRecDepth 100000
set_option maxHeartbeats 0
namespace Mine
local macro_rules | `(tactic| walk_at "pyIter ref") => `(tactic| (k_here; refine held ?_))
local macro_rules | `(tactic| walk_at "exec For Name Subscript cons nil") => `(tactic| (k_here; (rename Fr _ _ _ _ => lF'); (with_unfolding_all refine' For_invVF lF' ?k1 ?k2 ?_; (case k1 => exact rfl); (case k2 => exact rfl); k_whole)))
def ValJ (nx0 : List (Addr × Obj)) (i : Nat) (m : Str → Option Value) (nx : List (Addr × Obj)) : Prop :=
  nx = nx0 ∧ ∃ y t, m (Str.ofString "value") = some (.str y t) ∧ y.length = i ∧ ∀ c ∈ y.cps.toList, c < 0x110000
theorem valEnd {nx0 own : List (Addr × Obj)} {p0 : Addr × Obj} {i : Nat} {m' : Str → Option Value} {h₀ h' : Heap} {L : Addr} {s₁ : Shared} {tk : Nat} {y z : Str} {t : Tok} (F : Fr h₀ L h' m') (N : News h₀ L h' (nx0 ++ own)) (hl : p0 ∈ nx0) (hyl : y.length = i) (hyc : ∀ c ∈ y.cps.toList, c < 0x110000) (hz : z.length = 1) (hzc : ∀ c ∈ z.cps.toList, c < 0x110000)
    (hv : m' (Str.ofString "value") = some (.str (y ++ z) t)) : InvEndN h₀ L (fun m' nx => p0 ∈ nx ∧ ValJ nx0 (i + 1) m' nx) own (nx0.map (·.1)) s₁ { s₁ with heap := h', toks := tk } := by
  refine ⟨h', tk, m', nx0 ++ own, nx0, rfl, F, N, fun p hp => List.mem_append.mpr (.inl hp), fun p hp => List.mem_append.mpr (.inr hp), rfl, hl, rfl, y ++ z, t, hv, ?_, ?_⟩
  · rw [Str.length_append, hyl, hz]
  · intro c hc
    rw [Str.cps_append, Array.toList_append] at hc
    rcases List.mem_append.mp hc with hc | hc
    · exact hyc c hc
    · exact hzc c hc
theorem litOk {k : Int} (h0 : 0 ≤ k) (h1 : k < 7) : ∀ c ∈ (Txt.item (Str.ofString "\"\\\\' a\n") k).cps.toList, c < 0x110000 := by
  have : k = 0 ∨ k = 1 ∨ k = 2 ∨ k = 3 ∨ k = 4 ∨ k = 5 ∨ k = 6 := by omega
  rcases this with rfl | rfl | rfl | rfl | rfl | rfl | rfl <;> decide +kernel
theorem chrOk {k : Int} (h0 : 0 ≤ k) (h1 : k < 1114112) : ∀ c ∈ (⟨#[k.toNat]⟩ : Str).cps.toList, c < 0x110000 := by
  intro c hc
  have : c = k.toNat := by simpa using hc
  omega
theorem valC {w : World} {mean : ExcName → Option Value} {mg mb : Str → Option Value} {dp un : Nat} {gd : Option (List Code)} {cn : Str} {nms : List (Str × NameKind)} {mor : List (Str × Const)} {a : Addr} {ccd : Value} {cl : List (Str × Addr)} {outer : List Env} {A₀ : Around} {base h₀ : Heap} {L : Addr} {m : Str → Option Value} {s : Shared} {Q E : Value → Shared → Prop} {l : Addr} {vs : List Value} {ns : List Int} {news : List (Addr × Obj)} : Below A₀ base outer h₀ → Fr h₀ L s.heap m → (KK w.params).In h₀ → News h₀ L s.heap (news) → Top vw LO mean mg mb h₀ → 
    dp + 60 < recursionLimit → un + 600 < cLine → h₀.IsList l vs.toArray → IntsAre vs ns → (PyData.list (List.map PyData.int ns)).layable0 = true → ns.length ≤ 63 →
    (∀ (y : Str) (t : Tok) (h' : Heap) (tk : Nat), 0 < y.length → y.length ≤ 7 → (∀ c ∈ y.cps.toList, c < 0x110000) → Fr h₀ L h' m → News h₀ L h' news → Q (.str y t) { s with heap := h', toks := tk }) →
    wpAny (model PySem.Challenge.rw_mq0369_01.row.prog w) (ktrTop dp un gd cn ⟨.function, nms, false, false, mor⟩ L a ccd cl outer) (call (.ref 759) [.ref l]) Q E s := by
  w_on
  k_fill
  intro B F X N T hd' hu hL hI hlay hlen hret
  refine wpAny_call ?_
  k_dflt k_enter
  rename Fr h₀ L _ m => FG
  have hL' := hL.at fun o e => FG.keep l o e
  k_steps
  unfold Held
  rename Fr _ _ _ _ => F1
  rename News _ _ _ _ => N1
  rename IntsAre _ (List.take 7 ns) => I1
  refine' iter_invNL (ValJ _) rfl (List.Mem.head _) I1 F1 N1 ⟨rfl, Str.ofString "", _, by rfl, rfl, fun c hc => (by cases hc)⟩ ?turn ?done
  case turn =>
    rintro i n ti m₁ nx h tk own hi _ hoff _ ⟨rfl, y, ty, hv, hyl, hyc⟩ F2 N2
    have F3 := fr_kst (ps := [(Str.ofString "value", .str y ty), (Str.ofString "number", .int n ti)]) F2 (by
      intro p hp
      simp only [List.mem_cons, List.not_mem_nil, or_false] at hp
      rcases hp with rfl | rfl
      · exact hv
      · rfl)
    dsimp only [kstB] at F3
    have hi7 : i < 7 := by
      obtain ⟨hl, _⟩ := List.getElem?_eq_some_iff.mp hi
      rw [List.length_take] at hl
      omega
    have hy7 : y.length ≤ 7 := by omega
    clear F2
    k_steps
    all_goals rename Fr _ _ _ _ => nF
    all_goals rename News _ _ _ _ => nE
    all_goals have q0 := Int.fmod_nonneg_of_pos n (by decide : (0 : Int) < 8)
    all_goals have q1 := Int.fmod_nonneg_of_pos (n.fdiv 8) (by decide : (0 : Int) < 1112064)
    all_goals have q2 := Int.fmod_lt_of_pos (n.fdiv 8) (by decide : (0 : Int) < 1112064)
    · exact valEnd nF nE (by assumption) hyl hyc rfl (litOk q0 (by assumption)) rfl
    · exact valEnd nF nE (by assumption) hyl hyc rfl (chrOk q1 (by omega)) rfl
    · exact valEnd nF nE (by assumption) hyl hyc rfl (chrOk (by omega) (by omega)) rfl
  case done =>
    rintro m₁ nx h tk _ ⟨rfl, y, ty, hv, hyl, hyc⟩ F2 N2
    have F3 := fr_kst (ps := [(Str.ofString "value", .str y ty)]) F2 (by
      intro p hp
      simp only [List.mem_cons, List.not_mem_nil, or_false] at hp
      rcases hp with rfl
      exact hv)
    dsimp only [kstB] at F3
    have hy7 : y.length ≤ 7 := by rw [hyl, List.length_take]; omega
    clear F2
    k_steps
    all_goals rename Fr _ _ _ _ => nF
    all_goals rename News _ _ _ _ => nE
    · refine hret _ _ _ _ ?_ hy7 hyc nF (fun p hp => nE p (.tail _ hp))
      refine Nat.pos_of_ne_zero fun e => ?_
      have hne : (y != Str.ofString "") = true := by assumption
      rw [nil_of e] at hne
      exact absurd hne (by decide)
    · refine hret _ _ _ _ (by decide) (by decide) (fun c hc => ?_) nF (fun p hp => nE p (.tail _ hp))
      rw [show (Str.ofString "a").cps.toList = [97] from rfl, List.mem_singleton] at hc
      omega
end Mine
end
section
open PySem PySem.W PyProof.Rows PySem.Calls PySem.Spec
set_option maxRecDepth 100000
namespace Mine
theorem words_one {vs : List Value} {w : List Nat} (h : Words vs [w]) : ∃ t tk, vs = [.str t tk] ∧ t.cps.toList = w := by
  generalize hw : [w] = ws at h
  cases h with
  | nil => cases hw
  | @snoc vs' ws' t tk h' =>
    cases h' with
    | nil =>
      injection hw with h1 h2
      exact ⟨t, tk, rfl, h1.symm⟩
    | @snoc vs2 ws2 t2 tk2 h2 =>
      have := congrArg List.length hw
      simp at this
theorem str_ext {x y : Str} (h : x.cps.toList = y.cps.toList) : x = y := by
  obtain ⟨a⟩ := x
  obtain ⟨b⟩ := y
  congr
  exact Array.toList_inj.mp h
theorem arr_one {acc : Array Value} {v : Value} (h : acc.toList = [v]) : acc = #[v] := Array.toList_inj.mp h
noncomputable def M : Nat := 0x110000
noncomputable def okW (r : Option (List Nat)) : Prop := ∀ w, r = some w → ∀ c ∈ w, c < 0x110000
theorem okW_none : okW none := fun w h => by cases h
theorem okW_some {w : List Nat} (h : ∀ c ∈ w, c < 0x110000) : okW (some w) := fun w' e => by cases e; exact h
theorem pe_ok : ∀ c ∈ pe, c < 0x110000 := by decide
theorem ok_app {a b : List Nat} (h : ∀ c ∈ a, c < 0x110000) (k : ∀ c ∈ b, c < 0x110000) : ∀ c ∈ a ++ b, c < 0x110000 := fun c hc => (List.mem_append.mp hc).elim (h c) (k c)
theorem ok_cons {a : Nat} {b : List Nat} (h : a < 0x110000) (k : ∀ c ∈ b, c < 0x110000) : ∀ c ∈ a :: b, c < 0x110000 := fun c hc => (List.mem_cons.mp hc).elim (fun e => e ▸ h) (k c)
theorem ok_sign {pre post : List Nat} {c : Nat} (h : ∀ c ∈ pre, c < 0x110000) (hc : c < 0x110000) (k : ∀ c ∈ post, c < 0x110000) : ∀ r ∈ signRows pre c post, okW r.1 ∧ okW r.2 := by
  have p1 := ok_app pe_ok h
  have b1 := ok_app p1 (ok_cons (by decide : 92 < 0x110000) k)
  have b2 := ok_app p1 (ok_cons (by decide : 92 < 0x110000) (ok_cons (by decide : 92 < 0x110000) k))
  have c0 := ok_app p1 k
  have c2 := ok_app p1 (ok_cons hc (ok_cons hc k))
  intro r hr
  unfold signRows at hr
  split at hr
  · split at hr
    · simp only [List.mem_cons, List.not_mem_nil, or_false, or_self] at hr
      subst hr
      exact ⟨okW_some b1, okW_some b2⟩
    · simp only [List.mem_cons, List.not_mem_nil, or_false, or_self] at hr
      subst hr
      exact ⟨okW_none, okW_none⟩
  · split at hr
    · simp only [List.mem_cons, List.not_mem_nil, or_false] at hr
      rcases hr with rfl | rfl
      · exact ⟨okW_none, okW_none⟩
      · refine ⟨?_, okW_none⟩
        dsimp only
        split
        · exact okW_some b1
        · exact okW_none
    · simp only [List.mem_cons, List.not_mem_nil, or_false] at hr
      subst hr
      exact ⟨okW_some c0, okW_some c2⟩
theorem ok_body : ∀ (post pre : List Nat), (∀ c ∈ pre, c < 0x110000) → (∀ c ∈ post, c < 0x110000) → ∀ r ∈ bodyRows pre post, okW r.1 ∧ okW r.2
  | [], _, _, _, r, hr => by cases hr
  | c :: post, pre, h, k, r, hr => by
    have hc := k c (List.mem_cons_self ..)
    have k' : ∀ d ∈ post, d < 0x110000 := fun d hd => k d (List.mem_cons_of_mem _ hd)
    rcases List.mem_append.mp hr with hr | hr
    · exact ok_sign h hc k' r hr
    · exact ok_body post (pre ++ [c]) (ok_app h (ok_cons hc (fun d hd => by cases hd))) k' r hr
theorem ok_rows {v : List Nat} (h : ∀ c ∈ v, c < 0x110000) : ∀ r ∈ rowsOf v, okW r.1 ∧ okW r.2 := by
  intro r hr
  rcases List.mem_append.mp hr with hr | hr
  · simp only [headRows, List.mem_cons, List.not_mem_nil, or_false] at hr
    rcases hr with rfl | rfl | rfl
    · exact ⟨okW_some (ok_cons (by decide) h), okW_some (ok_cons (by decide) (ok_cons (by decide) (ok_cons (by decide) h)))⟩
    · exact ⟨okW_some (ok_cons (by decide) h), okW_some (ok_cons (by decide) (ok_cons (by decide) (ok_cons (by decide) h)))⟩
    · exact ⟨okW_none, okW_none⟩
  · rcases List.mem_append.mp hr with hr | hr
    · exact ok_body v [] (fun c hc => by cases hc) h r hr
    · simp only [List.mem_cons, List.not_mem_nil, or_false] at hr
      subst hr
      exact ⟨okW_none, okW_none⟩
theorem ok_one {t : Str} (h : ∀ c ∈ t.cps.toList, c < 0x110000) : ∀ d ∈ [Dat.str t], kqdOk 8 d = true := by
  intro d hd
  rw [List.mem_singleton] at hd
  subst hd
  show PyData.strOk t = true
  unfold PyData.strOk
  rw [Array.all_eq_true]
  intro i hi
  exact decide_eq_true (h _ (Array.getElem_mem_toList hi))
theorem dat_one (t : Str) (tk : Tok) : DatAll [] [.str t tk] [Dat.str t] := .cons (.str t tk) .nil
theorem txt_del {x : Str} {i c : Nat} (hc : x.cps.toList[i]? = some c) : (Txt.slice x none (some (i : Int)) ++ Txt.slice x (some ((i : Int) + 1)) none).cps.toList = x.cps.toList.take i ++ x.cps.toList.drop (i + 1) := by
  have hl : x.cps.toList.length = x.length := by simp [Str.length]
  obtain ⟨hi, _⟩ := List.getElem?_eq_some_iff.mp hc
  rw [Str.cps_append, Array.toList_append, sliceTo (by omega), sliceFrom (i := i + 1) (by omega) (by omega)]
theorem txt_dup {x : Str} {i c : Nat} (hc : x.cps.toList[i]? = some c) : (Txt.slice x none (some (i : Int)) ++ Txt.item x (i : Int) ++ Txt.item x (i : Int) ++ Txt.slice x (some ((i : Int) + 1)) none).cps.toList = x.cps.toList.take i ++ c :: c :: x.cps.toList.drop (i + 1) := by
  have hl : x.cps.toList.length = x.length := by simp [Str.length]
  obtain ⟨hi, _⟩ := List.getElem?_eq_some_iff.mp hc
  simp only [Str.cps_append, Array.toList_append]
  rw [sliceTo (by omega), sliceFrom (i := i + 1) (by omega) (by omega), itemF hc]
  show x.cps.toList.take i ++ [c] ++ [c] ++ _ = _
  simp
theorem txt_len {x : Str} {l : List Nat} (h : x.cps.toList = l) (k : l.length ≤ 100) : x.length ≤ 100 := by
  have hl : x.cps.toList.length = x.length := by simp [Str.length]
  rw [← hl, h]
  exact k
theorem turnFacts {x y : Str} {acc : Array Value} {tl : List (Addr × Obj)} {i : Nat} (hwr : x.cps.toList = wr y.cps.toList) (h18 : x.length ≤ 18) (h7 : y.length ≤ 7) (hyc : ∀ c ∈ y.cps.toList, c < 1114112) (hrows : RowsIn tl acc.toList (rowsOf y.cps.toList)) (hi : i < acc.size) :
    ∃ (ar : Addr) (v1 v2 : Value) (r1 r2 : Option (List Nat)) (n1 n2 : Nat), acc[(i : Int).toNat]? = some (.ref ar) ∧ (ar, ({ cls := .type "tuple", data := .seq #[v1, v2] } : Obj)) ∈ tl ∧ OneIn tl v1 r1 ∧ OneIn tl v2 r2 ∧ okW r1 ∧ okW r2 ∧ n1 ≤ 900 ∧ n2 ≤ 900 ∧
      AllT n1 (Txt.slice x none (some (i : Int)) ++ Txt.slice x (some ((i : Int) + 1)) none).cps.toList (r1.map ([·])) ∧
      AllT n2 (Txt.slice x none (some (i : Int)) ++ Txt.item x (i : Int) ++ Txt.item x (i : Int) ++ Txt.slice x (some ((i : Int) + 1)) none).cps.toList (r2.map ([·])) ∧
      (Txt.slice x none (some (i : Int)) ++ Txt.slice x (some ((i : Int) + 1)) none).length ≤ 100 ∧ (Txt.slice x none (some (i : Int)) ++ Txt.item x (i : Int) ++ Txt.item x (i : Int) ++ Txt.slice x (some ((i : Int) + 1)) none).length ≤ 100 ∧ i < x.length := by
  have hcpl : ∀ z : Str, z.cps.toList.length = z.length := fun z => by simp [Str.length]
  have a2 := all2_law y.cps.toList (by rw [hcpl]; exact Nat.le_trans h7 (by decide))
  have hal := all2_len a2
  have hrl := hrows.len
  rw [Array.length_toList] at hrl
  have hix : i < x.length := by rw [← hcpl, hwr, hal, ← hrl]; exact hi
  obtain ⟨c, hc⟩ : ∃ c, x.cps.toList[i]? = some c := ⟨_, List.getElem?_eq_getElem (by rw [hcpl]; exact hix)⟩
  obtain ⟨r, hr⟩ : ∃ r, (rowsOf y.cps.toList)[i]? = some r := ⟨_, List.getElem?_eq_getElem (by rw [← hrl]; exact hi)⟩
  obtain ⟨v, hv, ar, v1, v2, rfl, hm, o1, o2⟩ := hrows.at hr
  have hg := all2_at a2 (hwr ▸ hc) hr
  rw [← hwr] at hg
  obtain ⟨⟨n1, hn1, g1⟩, n2, hn2, g2⟩ := hg
  have hok := ok_rows hyc r (List.mem_of_getElem? hr)
  refine ⟨ar, v1, v2, r.1, r.2, n1, n2, by simpa using hv, hm, o1, o2, hok.1, hok.2, hn1, hn2, ?_, ?_, ?_, ?_, hix⟩
  · rw [txt_del hc]; exact g1
  · rw [txt_dup hc]; exact g2
  · refine txt_len (txt_del hc) ?_
    have := hcpl x
    rw [List.length_append, List.length_take, List.length_drop]
    omega
  · refine txt_len (txt_dup hc) ?_
    have := hcpl x
    rw [List.length_append, List.length_cons, List.length_cons, List.length_take, List.length_drop]
    omega
noncomputable def LawJ (nx0 : List (Addr × Obj)) (x : Str) (tx : Tok) (aR : Addr) (m : Str → Option Value) (nx : List (Addr × Obj)) : Prop :=
  nx = nx0 ∧ m (Str.ofString "written") = some (.str x tx) ∧ m (Str.ofString "rows") = some (.ref aR)
theorem lawEnd {nx0 own nE : List (Addr × Obj)} {x : Str} {tx : Tok} {aR : Addr} {m' : Str → Option Value} {h₀ h' : Heap} {L : Addr} {s₁ : Shared} {tk : Nat} (F : Fr h₀ L h' m') (N : News h₀ L h' nE) (hs : ∀ p ∈ nx0 ++ own, p ∈ nE) (hoff : OwnOff own (nx0.map (·.1)))
    (h1 : m' (Str.ofString "written") = some (.str x tx)) (h2 : m' (Str.ofString "rows") = some (.ref aR)) : InvEndG h₀ L (LawJ nx0 x tx aR) own s₁ { s₁ with heap := h', toks := tk } :=
  InvEndG.intro (nx := nx0) F N ⟨rfl, h1, h2⟩ hoff (fun p hp => hs p (List.mem_append.mpr (.inl hp))) fun p hp => hs p (List.mem_append.mpr (.inr hp))
end Mine
end
section
open PySem PySem.W PyProof.Rows PySem.Calls PySem.Spec
set_option maxRecDepth 100000
set_option maxHeartbeats 0
namespace Mine
local macro_rules | `(tactic| k_qdec) => `(tactic| decide +kernel)
theorem asK_eq (P : Params) : asK = (KK P).map (·.1) := by kernel_rfl
noncomputable abbrev HKK : Hook := kHook KK asK asK_eq
theorem leftL : LeftO PySem.Challenge.rw_mq0369_01.row.prog vw lo (fun s => xlAt vw [] s && recOk [] s) HKK.obs HKK.val 12000 := left_of left1
theorem cutSame {M : Model} {A : Around} {t : Sem Flow} {Q : Flow → Shared → Prop} {E : Value → Shared → Prop} {s : Shared} {g h : Heap} {L : Addr} {m : Str → Option Value} {led : List (Addr × Obj)} (_F : Fr g L h m) (_N : News g L h led)
    (h1 : ∀ Fin : Flow → Shared → Prop, (∀ h' tk, Fr g L h' m → News g L h' led → Fin .next { s with heap := h', toks := tk }) → wpAny M A t Fin E s)
    (h2 : ∀ h' tk, Fr g L h' m → News g L h' led → Q .next { s with heap := h', toks := tk }) : wpAny M A t Q E s := h1 Q h2
theorem tup0 {prog : Program} {w : World} {A : Around} {E : Value → Shared → Prop} {s : Shared} {value slice : PySem.Expr} {h₀ : Heap} {L ar : Addr} {news : List (Addr × Obj)} {v1 v2 : Value} {u : Tok} {Q : Value → Shared → Prop} (N : News h₀ L s.heap news) (hm : (ar, ({ cls := .type "tuple", data := .seq #[v1, v2] } : Obj)) ∈ news) (h : Q v1 s)
    (hs : subscripted slice false (.ref ar) (.int 0 u) = operate [.ref ar, .int 0 u] (getItem (.ref ar) (.int 0 u)) := by with_unfolding_all rfl) : wpAny (model prog w) A (subscriptTail value slice (.ref ar) (.int 0 u)) Q E s :=
  item_tupleT (l := [v1, v2]) (News.isTup N hm) (by decide) (by decide) (j := 0) rfl rfl h hs
theorem tup1 {prog : Program} {w : World} {A : Around} {E : Value → Shared → Prop} {s : Shared} {value slice : PySem.Expr} {h₀ : Heap} {L ar : Addr} {news : List (Addr × Obj)} {v1 v2 : Value} {u : Tok} {Q : Value → Shared → Prop} (N : News h₀ L s.heap news) (hm : (ar, ({ cls := .type "tuple", data := .seq #[v1, v2] } : Obj)) ∈ news) (h : Q v2 s)
    (hs : subscripted slice false (.ref ar) (.int 1 u) = operate [.ref ar, .int 1 u] (getItem (.ref ar) (.int 1 u)) := by with_unfolding_all rfl) : wpAny (model prog w) A (subscriptTail value slice (.ref ar) (.int 1 u)) Q E s :=
  item_tupleT (l := [v1, v2]) (News.isTup N hm) (by decide) (by decide) (j := 1) rfl rfl h hs
theorem mem_more {p : Addr × Obj} {tl own : List (Addr × Obj)} (h : p ∈ tl) : p ∈ tl ++ own := List.mem_append.mpr (.inl h)
theorem good_of {x y : Str} (h : x.cps.toList = wr y.cps.toList) : ∃ n, n ≤ 900 ∧ AllT n x.cps.toList (some [pe ++ y.cps.toList]) := by
  rw [h]
  exact good_law y.cps.toList
theorem same_v {z y : Str} (h : z.cps.toList = pe ++ y.cps.toList) : z = Str.ofString "p=" ++ y := str_ext (h.trans (txv y).symm)
theorem ne_of_pos {v : Str} (h : 0 < v.length) : v ≠ Str.ofString "" := by
  intro e
  subst e
  exact absurd h (by decide)
local macro_rules | `(tactic| walk_at "call ref") => `(tactic| (k_here; refine held ?_))
local macro_rules | `(tactic| walk_at "call ref") => `(tactic| (k_here; k_dflt (refine' valC ?yB ?yF ?yX ?yN ?yT ?yd ?yu ?yL ?yI ?ylay ?ylen ?_; (case yB => k_asm); (case yF => k_asm); (case yX => k_asm); (case yN => k_asm); (case yT => k_asm); (case yd => ktr_room); (case yu => ktr_units); (case yL => k_asm); (case yI => k_asm); (case ylay => k_asm); (case ylen => omega)); intro y ty hy' tky y1 y2 y3 Fy Ny))
local macro_rules | `(tactic| walk_at "call ref") => `(tactic| (k_here; k_dflt (refine' fmt ?yB ?yF ?yX ?yN ?yT ?yd ?yu ?y1 ?y2 ?y3 ?_; (case yB => k_asm); (case yF => k_asm); (case yX => k_asm); (case yN => k_asm); (case yT => k_asm); (case yd => ktr_room); (case yu => ktr_units); (case y1 => assumption); (case y2 => assumption); (case y3 => exact ne_of_pos (by assumption))); intro x tx hx' tkx x1 x2 Fx Nx))
local macro_rules | `(tactic| walk_at "call ref") => `(tactic| (k_here; k_dflt (refine' rowsC (tp := (0 : Nat)) ?yB ?yF ?yX ?yN ?yT ?yd ?yu ?y1 ?y2 ?y3 ?y4 ?_; (case yB => k_asm); (case yF => k_asm); (case yX => k_asm); (case yN => k_asm); (case yT => k_asm); (case yd => ktr_room); (case yu => ktr_units); (case y1 => assumption); (case y2 => assumption); (case y3 => exact ne_of_pos (by assumption)); (case y4 => assumption)); intro aR acc cap tl hr' tkr r1 r2 r3 Fr' Nr'))
local macro_rules | `(tactic| k_mem) => `(tactic| assumption)
local macro_rules | `(tactic| walk_at "call builtin:len") => `(tactic| (k_here; (with_reducible show wpAny _ _ (call (Value.builtin _) [Value.ref _]) _ _ _); refine held ?_))
local macro_rules | `(tactic| walk_at "call type:range") => `(tactic| (k_here; (rename Fr _ _ _ _ => F'); (rename News _ _ _ _ => N'); with_unfolding_all refine range1_rows F' N' ?_; intro _ _ _ _ _ _ _ _ _))
local macro_rules | `(tactic| walk_at "pyIter ref") => `(tactic| (k_here; refine held ?_))
local macro_rules | `(tactic| walk_at "compareOp NotEq ref ref") => `(tactic| (k_here; refine held ?_))
local macro_rules | `(tactic| walk_at "compareOp NotEq ref ref") => `(tactic| (k_here; k_dflt (refine' kqd_ne ?zN ?za ?zb ?zc ?zd ?ze ?zf ?zg ?zi ?zj (fun _ h => h) ?zl ?zm ?zn ?_; (case zN => k_asm); (case za => k_mem); (case zb => rfl); (case zc => rfl); (case zd => with_reducible assumption); (case ze => kqd_sub); (case zf => k_mem); (case zg => rfl); (case zi => rfl); (case zj => kqd_all); (case zl => assumption); (case zm => assumption); (case zn => ktr_units); k_whole); dsimp only; (try simp only [eq_self, decide_true, Bool.not_true])))
local macro_rules | `(tactic| walk_at "subscriptTail") => `(tactic| (k_here; (with_reducible show wpAny _ _ (subscriptTail _ _ (Value.ref _) (Value.int _ _)) _ _ _); refine held ?_))
local macro_rules | `(tactic| walk_at "subscriptTail") => `(tactic| (k_here; (with_reducible show wpAny _ _ (subscriptTail _ _ (Value.ref _) (Value.int _ _)) _ _ _); k_dflt (first
  | (refine item_list (News.isList (by k_asm) (by k_mem)) (by omega) (by omega) (by assumption) ?_)
  | ((with_reducible show wpAny _ _ (subscriptTail _ _ (Value.ref _) (Value.int 1 _)) _ _ _); refine tup1 (by k_asm) (by repeat (first | assumption | refine List.Mem.tail _ ?_)) ?_)
  | (refine tup0 (by k_asm) (by repeat (first | assumption | refine List.Mem.tail _ ?_)) ?_))))
theorem tt : PySem.Challenge.rw_mq0369_01.Holds := by
  w_on
  refine holds_law said0 fun said => ?_
  refine holds_open (q := vw) (loose := lo) (Xt := fun s => xlAt vw [] s && recOk [] s) (XP := XL vw []) (Yf := HKK.obs) (Ya := HKK.val) (YP := HKK.says) (N := 12000) leftL HKK.of HKK.keeps (fun s e => xl_of s (Bool.and_eq_true_iff.mp e).1) XL.keeps (by rfl) (by rfl) (by rfl) (fun s e => recFacts_of (Bool.and_eq_true_iff.mp e).2) (by rfl) (by first | assumption | decide +kernel) okA ⟨rfl, rfl, rfl, rfl, rfl, okB⟩ ?hw ?hc
  case hw => w_witness2
  case hc =>
    have hFill : PySem.Challenge.rw_mq0369_01 = PySem.Challenge.rw_mq0369_01 ∧ KK = KK := by (k_fill; exact ⟨rfl, rfl⟩)
    clear hFill
    w_strict (k_go0; (all_goals try k_fold))
    k_steps
    unfold Held
    rename Fr _ _ _ _ => F1
    rename News _ _ _ _ => N1
    rename ∀ (p : Addr × Obj), p ∈ _ → (Prod.fst p : Addr) ≠ _ => hne
    rename RowsIn _ _ _ => hrows
    rename _ = wr _ => hwr
    rename _ ≤ 18 => h18
    rename (∀ (c : Nat), c ∈ _ → c < 1114112) => hyc
    rename _ ≤ 7 => h7
    rename 0 < _ => h0
    have hcpl : ∀ z : Str, z.cps.toList.length = z.length := fun z => by simp [Str.length]
    have a2 := all2_law _ (by rw [hcpl]; exact Nat.le_trans h7 (by decide))
    have hal := all2_len a2
    have hrl := hrows.len
    rw [← hwr, hcpl, ← hrl, Array.length_toList] at hal
    refine len_list (News.isList N1 (by k_mem)) (by omega) ?_
    dsimp only
    k_steps
    unfold Held
    obtain ⟨n1, hn1, al1⟩ := good_of hwr
    rename Fr _ _ _ _ => F2
    rename News _ _ _ _ => N2
    k_dflt (refine' lread ?yB ?yF ?yX ?yN ?yT ?yX2 ?yT2 ?yd ?yu ?yl al1 hn1 ?yok ?ybad)
    case yB => k_asm
    case yF => k_asm
    case yX => k_asm
    case yN => k_asm
    case yT => k_asm
    case yX2 => k_asm
    case yT2 => k_asm
    case yd => ktr_room
    case yu => ktr_units
    case yl => omega
    case ybad => intro h' tk' hρ; cases hρ
    case yok =>
      intro ws' aL acc' c' h' tk' hρ l3 F3 N3 hW
      cases hρ
      obtain ⟨tt, tkt, hvs, htt⟩ := words_one hW
      have hacc' := arr_one hvs
      subst hacc'
      have DA := dat_one tt tkt
      have okA := ok_one (t := tt) (by rw [htt]; exact ok_app pe_ok hyc)
      have hsame := same_v htt
      subst hsame
      clear F2 N2
      dsimp only
      k_steps
      unfold Held
      rename Fr _ _ _ _ => F4
      rename News _ _ _ _ => N4
      refine len_list (News.isList N4 (by k_mem)) (by omega) ?_
      dsimp only
      k_steps
      unfold Held
      rename Fr _ _ _ _ => F4
      rename News _ _ _ _ => N4
      rename IsRange _ _ _ _ _ _ _ _ => R4
      refine' loopR (fun _ => LawJ _ _ _ _) rfl R4 (by omega) F4 N4 ⟨rfl, by rfl, by rfl⟩ ?turn ?done
      case done =>
        rintro m₁ nx h tk ⟨rfl, h1, h2⟩ F8 N8
        clear F4 N4
        k_steps
      case turn =>
        rintro i m₁ nx ti h tk own hi hoff ⟨rfl, hw1, hw2⟩ F8 N8
        obtain ⟨ar, v1, v2, r1, r2, n1, n2, har, hmt, o1, o2, ok1, ok2, hn1, hn2, al1, al2, hlen1, hlen2, hix⟩ := turnFacts hwr h18 h7 hyc hrows hi
        have hmt := mem_more (own := own) hmt
        have F9 := fr_kst (ps := [(Str.ofString "written", .str _ _), (Str.ofString "rows", .ref _), (Str.ofString "place", .int (i : Int) ti)]) F8 (by
          intro p hp
          simp only [List.mem_cons, List.not_mem_nil, or_false] at hp
          rcases hp with rfl | rfl | rfl
          · exact hw1
          · exact hw2
          · rfl)
        dsimp only [kstB] at F9
        dsimp only [List.cons_append] at N8
        clear F8 F4 N4
        k_with "exec If" => (refine held ?_)
        k_steps
        k_with_none
        unfold Held
        rename Fr _ _ _ _ => F10
        rename News _ _ _ _ => N10
        refine cutSame F10 N10 ?_ ?_
        · intro Fin hFin
          k_steps
          unfold Held
          rename Fr _ _ _ _ => F5
          rename News _ _ _ _ => N5
          cases r1 with
          | none =>
            cases o1
            k_dflt (refine' lread ?yB ?yF ?yX ?yN ?yT ?yX2 ?yT2 ?yd ?yu hlen1 al1 hn1 ?yok ?ybad)
            case yB => k_asm
            case yF => k_asm
            case yX => k_asm
            case yN => k_asm
            case yT => k_asm
            case yX2 => k_asm
            case yT2 => k_asm
            case yd => ktr_room
            case yu => ktr_units
            case yok => intro ws' aL acc' c' h' tk' hρ; cases hρ
            case ybad =>
              intro h' tk' hρ F6 N6
              clear F5 N5
              dsimp only
              k_steps
              rename Fr _ _ _ _ => F7
              rename News _ _ _ _ => N7
              exact hFin _ _ F7 (by first | exact N7 | exact fun p hp => N7 p (.tail _ hp))
          | some w1 =>
            obtain ⟨a1, t1, k1, nn1, rfl, hm1, ht1⟩ := o1
            have hm1 := mem_more (own := own) hm1
            k_dflt (refine' lread ?yB ?yF ?yX ?yN ?yT ?yX2 ?yT2 ?yd ?yu hlen1 al1 hn1 ?yok ?ybad)
            case yB => k_asm
            case yF => k_asm
            case yX => k_asm
            case yN => k_asm
            case yT => k_asm
            case yX2 => k_asm
            case yT2 => k_asm
            case yd => ktr_room
            case yu => ktr_units
            case ybad => intro h' tk' hρ; cases hρ
            case yok =>
              intro ws' aL acc' c' h' tk' hρ l3 F6 N6 hW
              cases hρ
              obtain ⟨u1, uk1, hvs1, htt1⟩ := words_one hW
              have hacc1 := arr_one hvs1
              subst hacc1
              have DA1 := dat_one u1 uk1
              have okA1 := ok_one (t := u1) (by rw [htt1]; exact ok1 _ rfl)
              have hsame1 := str_ext (htt1.trans ht1.symm)
              subst hsame1
              clear F5 N5
              dsimp only
              k_steps
              rename Fr _ _ _ _ => F7
              rename News _ _ _ _ => N7
              exact hFin _ _ F7 (by first | exact N7 | exact fun p hp => N7 p (.tail _ hp))
        · intro h11 tk11 F11 N11
          clear F10 N10
          dsimp only
          k_steps
          unfold Held
          rename Fr _ _ _ _ => F5
          rename News _ _ _ _ => N5
          cases r2 with
          | none =>
            cases o2
            k_dflt (refine' lread ?yB ?yF ?yX ?yN ?yT ?yX2 ?yT2 ?yd ?yu hlen2 al2 hn2 ?yok ?ybad)
            case yB => k_asm
            case yF => k_asm
            case yX => k_asm
            case yN => k_asm
            case yT => k_asm
            case yX2 => k_asm
            case yT2 => k_asm
            case yd => ktr_room
            case yu => ktr_units
            case yok => intro ws' aL acc' c' h' tk' hρ; cases hρ
            case ybad =>
              intro h' tk' hρ F6 N6
              clear F5 N5
              dsimp only
              k_steps
              rename Fr _ _ _ _ => F7
              rename News _ _ _ _ => N7
              exact lawEnd F7 N7 (by k_sub) hoff rfl rfl
          | some w2 =>
            obtain ⟨a2, t2, k2, nn2, rfl, hm2, ht2⟩ := o2
            have hm2 := mem_more (own := own) hm2
            k_dflt (refine' lread ?yB ?yF ?yX ?yN ?yT ?yX2 ?yT2 ?yd ?yu hlen2 al2 hn2 ?yok ?ybad)
            case yB => k_asm
            case yF => k_asm
            case yX => k_asm
            case yN => k_asm
            case yT => k_asm
            case yX2 => k_asm
            case yT2 => k_asm
            case yd => ktr_room
            case yu => ktr_units
            case ybad => intro h' tk' hρ; cases hρ
            case yok =>
              intro ws' aL acc' c' h' tk' hρ l3 F6 N6 hW
              cases hρ
              obtain ⟨u2, uk2, hvs2, htt2⟩ := words_one hW
              have hacc2 := arr_one hvs2
              subst hacc2
              have DA2 := dat_one u2 uk2
              have okA2 := ok_one (t := u2) (by rw [htt2]; exact ok2 _ rfl)
              have hsame2 := str_ext (htt2.trans ht2.symm)
              subst hsame2
              clear F5 N5
              dsimp only
              k_steps
              rename Fr _ _ _ _ => F7
              rename News _ _ _ _ => N7
              exact lawEnd F7 N7 (by k_sub) hoff rfl rfl
end Mine
end
theorem PySem.Challenge.cw_mq0369_01_holds : PySem.Challenge.rw_mq0369_01.Holds := by
  exact Mine.tt
