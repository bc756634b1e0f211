import PyProof.Rows.All
import Wide.All
import OpenK.AllK
import Wide.FinOn
import PyProof.SumWalk
import Lean
import PySem.Challenge.RW_op0182_02

/-! Joined by join.py out of the texts that were built apart: an executor for the model's trees (Sx*), the head (Hd*), the code that the law reaches, each function once, the plain law, the walk. -/
set_option Elab.async false
set_option linter.all false
set_option maxRecDepth 1000000
set_option maxHeartbeats 0

section
open PySem PySem.W
namespace Mine
/-! SxCore -/

/-- the continuations behind the tree at hand -/
inductive K where
  | base
  | ret (Γ : Ctx) (p : Pos) (k : Result → Sem Fin) (κ : K)
  | lv (Γ : Ctx) (env : Env) (fin : Bool) (κ : K)
/-- what a raise does that leaves the tree: only one that is raised within it is noted -/
noncomputable def dropK : K → K
  | .lv _ _ _ κ => dropK κ
  | .base => .base
  | .ret Γ p k κ => .ret Γ p k κ

/-- index to address: runs of consecutive addresses, the newest first -/
noncomputable abbrev Ads := List (Nat × Nat)
noncomputable def adOf : Ads → Nat → Nat
  | [], j => j
  | x :: r, j => match Nat.ble x.1 j with
    | true => x.2 + (j - x.1)
    | false => adOf r j

/-- what a contract leaves unknown -/
structure Unk where
  n : Nat → Nat
  sl : Nat → Array (Option Value)
  vs : Nat → Array Value
  ob : Nat → Obj
/-- what a contract leaves: its answer, the table, the new objects (the i-th at the address n i) -/
structure Left where
  res : Result
  tab : BT
  news : List Obj
/-- a contract at a call: the context it is for, what it asks, what it leaves -/
structure Con where
  gx : Ctx
  nq : List (Nat × Nat) := []
  oq : List (Option Obj × Option Obj) := []
  ob : Prop
  left : Unk → Left
  /-- what the hints are behind it -/
  hsel : Unk → List Nat → List Nat := fun _ h => h
noncomputable abbrev mkC (gx : Ctx) (ob : Prop) (left : Unk → Left) : Con := { gx, ob, left }

structure Cfg where
  den : Code → Sem Fin
  prog : Program
  w : World
  kt : X.KT
  con : Nat → Nat → Ctx → Code → BT → Ads → Option Con
  lvt : Code → Option (Sem Fin × Env × Bool)

inductive End1 where
  | done (r : Result)
  | again (Γ : Ctx) (p : Pos)

structure Acc where
  eqs : List (Nat × Nat)
  gs : List (Ctx × Ctx)
  os : List (Option Obj × Option Obj)
  ob : Prop

inductive Out where
  | stop (n : Nat)
  | fin (e : End1) (T : BT) (m : Nat) (ads : Ads) (tk : Nat) (A : Acc)

noncomputable abbrev Nv := Nat → Nat × Nat × Unk
noncomputable abbrev Run := List Nat → BT → Nat → Ads → Nat → Nat → Nv → Acc → Out
noncomputable abbrev RunTy := Ctx → Pos → K → Sem Fin → Run
noncomputable def halt (n : Nat) : Run := fun _ _ _ _ _ _ _ _ => .stop n

noncomputable def addEq (A : Acc) (a b : Nat) : Acc := ⟨(a, b) :: A.eqs, A.gs, A.os, A.ob⟩
noncomputable def addEqs (A : Acc) (q : List (Nat × Nat)) : Acc := ⟨q ++ A.eqs, A.gs, A.os, A.ob⟩
noncomputable def addCon (A : Acc) (Γ : Ctx) (g : Con) : Acc := ⟨g.nq ++ A.eqs, (Γ, g.gx) :: A.gs, g.oq ++ A.os, g.ob ∧ A.ob⟩

/-! a raise that leaves a frame -/
noncomputable def nthV : List Value → Nat → Option Value
  | [], _ => none
  | v :: _, 0 => some v
  | _ :: r, n + 1 => nthV r n
noncomputable def recOf : Data → Option (List Value)
  | .fields ⟨l⟩ => some l
  | _ => none
noncomputable def isMod : ScopeKind → Bool
  | .module => true
  | _ => false
noncomputable def slotsTo (sl : Array (Option Value)) (o : Obj) : Obj := { o with slots := sl }
/-- the frames made ready: each one's slots are unknown behind it -/
noncomputable def ready (ν : Unk) : Nat → List Env → List Nat → BT → Ads → List (Nat × Nat) → Option (BT × List (Nat × Nat) × List Nat)
  | _, [], hs, T, _, q => some (T, q, hs)
  | i, env :: l, hs, T, ads, q => match hs with
    | [] => none
    | h :: hs => match env.frame with
      | none => none
      | some L => match isMod env.scope.kind with
        | true => none
        | false => match T.get h with
          | none => none
          | some o => match recOf o.data with
            | some _ => none
            | none => ready ν (i + 1) l hs (T.set h (slotsTo (ν.sl i))) ads ((L, adOf ads h) :: q)
noncomputable def framesOf (Γ : Ctx) : List Env := Γ.code.envs ++ envsOf Γ.below
noncomputable def entryO (head : Value) (L : Nat) (fl : Value) (tl : Array Value) : Obj := ⟨.type "traceback", none, .fields ⟨head :: .ref L :: .none :: fl :: .none :: tl.toList⟩, ⟨[]⟩⟩
/-- a new entry ahead of the traceback -/
noncomputable def noteNew (Γ : Ctx) (L : Nat) (fin : Bool) (ie : Nat) (head : Value) (go : Run) : Run := fun hs T m ads t i nv A =>
  match framesOf Γ with
  | [] => .stop 40
  | env0 :: outer => match env0.frame with
    | none => .stop 41
    | some L0 => match nv 0 with
      | (_, _, ν) => match ready ν 0 (env0 :: outer) hs T ads [] with
        | none => .stop 42
        | some (T1, q, hs) => match T1.get ie with
          | none => .stop 43
          | some oe => match recOf oe.data with
            | none => .stop 44
            | some vs => match nthV vs 1 with
              | none => .stop 45
              | some _ => match (T1.ins m (entryO head L (.int (.ofNat L) 0) (ν.vs 0))).get m with
                | none => .stop 46
                | some _ => go hs (match fin with
                    | true => ((T1.ins m (entryO head L (.int (.ofNat L) 0) (ν.vs 0))).set ie (Obj.mapFields (·.setIfInBounds 1 (.ref (adOf ads m))))).set m (Obj.mapFields (·.setIfInBounds 3 .none))
                    | false => (T1.ins m (entryO head L (.int (.ofNat L) 0) (ν.vs 0))).set ie (Obj.mapFields (·.setIfInBounds 1 (.ref (adOf ads m)))))
                  (m + 1) ads t i (fun n => nv (n + 1)) (addEqs A ((L0, L) :: q))
noncomputable def leave (Γ : Ctx) (env : Env) (fin : Bool) (e : Value) (go : Run) : Run := fun hs T m ads t i nv A =>
  match e with
  | .ref a => match env.frame with
    | none => .stop 50
    | some L => match hs with
      | [] => .stop 1
      | ie :: hs => match T.get ie with
        | none => .stop 51
        | some oe => match recOf oe.data with
          | none => .stop 52
          | some vs => match nthV vs 1 with
            | some .none => noteNew Γ L fin ie .none go hs T m ads t i nv (addEq A a (adOf ads ie))
            | some (.ref tb) => match hs with
              | [] => .stop 1
              | it :: hs => match T.get it with
                | none => .stop 53
                | some ot => match recOf ot.data with
                  | none => .stop 54
                  | some ts => match nthV ts 3 with
                    | some .none => noteNew Γ L fin ie (.ref tb) go hs (T.set it (Obj.mapFields (·.setIfInBounds 3 .none))) m ads t i nv (addEqs A [(a, adOf ads ie), (tb, adOf ads it)])
                    | some (.int (.ofNat L') tk) => match Nat.beq tk 0 with
                      | true => go hs (match fin with
                          | true => T.set it (Obj.mapFields (·.setIfInBounds 3 .none))
                          | false => T) m ads t i nv (addEqs A [(a, adOf ads ie), (tb, adOf ads it), (L', L)])
                      | false => .stop 55
                    | _ => .stop 56
            | _ => .stop 57
  | _ => .stop 58

noncomputable def back (ih : RunTy) (r : Result) : K → Run
  | .base => fun _ T m ads t i _ A => .fin (.done r) T m ads (t + i) A
  | .ret Γ p k κ => ih Γ p κ (k r)
  | .lv Γ env fin κ => match r with
    | .ok _ => back ih r κ
    | .error e => leave Γ env fin e (back ih r κ)

/-- the new objects laid into the table -/
noncomputable def putNew (ν : Nat → Nat) : Nat → List Obj → BT → Nat → Ads → Option (BT × Nat × Ads)
  | _, [], T, m, ads => some (T, m, ads)
  | i, o :: r, T, m, ads => match (T.ins m o).get m with
    | some _ => putNew ν (i + 1) r (T.ins m o) (m + 1) ((m, ν i) :: ads)
    | none => none
/-- go on behind a contract -/
noncomputable def after (go : Result → Run) (hs : List Nat) (m : Nat) (ads : Ads) (nv : Nv) (A : Acc) (Γ : Ctx) (g : Con) : Out :=
  match nv 0 with
  | (N, t, ν) => match g.left ν with
    | ⟨r, T, l⟩ => match putNew ν.n 0 l T m ads with
      | some (T', m', ads') => go r (g.hsel ν hs) T' m' ((m', N) :: ads') t 0 (fun n => nv (n + 1)) (addCon A Γ g)
      | none => .stop 12

noncomputable def sx1 (C : Cfg) (ih : RunTy) (Γ : Ctx) (p : Pos) (κ : K) (t : Sem Fin) : Run := match t with
  | .pure f => match f with
    | .done f => back ih (.ok f) κ
    | .again c => match c.quiet with
      | true => fun hs T m ads t i nv A => match hs with
        | [] => .stop 1
        | h :: hs => match h with
          | 0 => ih (Γ.goto c) p (dropK κ) (C.den c) hs T m ads t i nv A
          | 1 => match dropK κ with
            | .base => .fin (.again (Γ.goto c) p) T m ads (t + i) A
            | _ => .stop 2
          | j + 2 => match Nat.beq j 999 with
            | true => match C.lvt c with
              | some (t', env, fin) => ih (Γ.goto c) p (.lv (Γ.goto c) env fin (dropK κ)) t' hs T m ads t i nv A
              | none => .stop 13
            | false => match hs with
              | [] => .stop 1
              | x :: hs => match C.con j x (Γ.goto c) c T ads with
                | some g => after (fun r => back ih r (dropK κ)) hs m ads nv A (Γ.goto c) g
                | none => .stop 11
      | false => halt 2
  | .raise e => back ih (.error e) κ
  | .rule _ k => ih Γ p κ (k ())
  | .at p' k => ih Γ p' κ (k ())
  | .point _ k => ih Γ p κ (k ())
  | .ask k => ih Γ p κ (k ⟨C.prog, C.w.params⟩)
  | .load a _ k => fun hs T m ads t i nv A => match hs with
    | [] => .stop 3
    | h :: hs => match h with
      | 0 => match C.kt.get a with
        | some o => ih Γ p κ (k o) hs T m ads t i nv A
        | none => .stop 4
      | j + 1 => match T.get j with
        | some o => ih Γ p κ (k o) hs T m ads t i nv (addEq A a (adOf ads j))
        | none => .stop 5
  | .loadIfAlive a k => fun hs T m ads t i nv A => match hs with
    | [] => .stop 3
    | h :: hs => match h with
      | 0 => match C.kt.get a with
        | some o => ih Γ p κ (k (some o)) hs T m ads t i nv A
        | none => .stop 4
      | j + 1 => match T.get j with
        | some o => ih Γ p κ (k (some o)) hs T m ads t i nv (addEq A a (adOf ads j))
        | none => .stop 5
  | .update a _ f k => fun hs T m ads t i nv A => match hs with
    | [] => .stop 3
    | h :: hs => match h with
      | 0 => .stop 6
      | j + 1 => match T.get j with
        | some o => match (f o).isFreed with
          | true => .stop 7
          | false => ih Γ p κ (k ()) hs (T.set j f) m ads t i nv (addEq A a (adOf ads j))
        | none => .stop 5
  | .alloc o k => fun hs T m ads t i nv A => match o.isFreed with
    | true => .stop 8
    | false => match (T.ins m o).get m with
      | some _ => ih Γ p κ (k (adOf ads m)) hs (T.ins m o) (m + 1) ads t i nv A
      | none => .stop 9
  | .fresh k => fun hs T m ads t i nv A => ih Γ p κ (k (t + i)) hs T m ads t (i + 1) nv A
  | .handled own k => match own with
    | true => ih Γ p κ (k Γ.own)
    | false => ih Γ p κ (k Γ.handled)
  | .stack k => ih Γ p κ (k ((Γ.code, p) :: Γ.below))
  | .call c hd _ _ k => fun hs T m ads t i nv A => match hs with
    | [] => .stop 10
    | h :: hs => match h with
      | 0 => ih (Γ.enter c hd p) p (.ret Γ p k κ) (C.den c) hs T m ads t i nv A
      | j + 1 => match Nat.beq j 999 with
        | true => match C.lvt c with
          | some (t', env, fin) => ih (Γ.enter c hd p) p (.lv (Γ.enter c hd p) env fin (.ret Γ p k κ)) t' hs T m ads t i nv A
          | none => .stop 13
        | false => match hs with
          | [] => .stop 1
          | x :: hs => match C.con j x (Γ.enter c hd p) c T ads with
            | some g => after (fun r => ih Γ p κ (k r)) hs m ads nv A (Γ.enter c hd p) g
            | none => .stop 11
  | .unsupported _ => halt 20
  | .finish _ => halt 21
  | .register .. => halt 22
  | .choose .. => halt 23
  | .os .. => halt 24
  | .newGen .. => halt 25
  | .genState .. => halt 26
  | .resume .. => halt 27
  | .yield .. => halt 28
  | .fork .. => halt 29
  | .thread _ => halt 30
  | .await .. => halt 31
noncomputable def sx (C : Cfg) : Nat → RunTy
  | 0 => fun _ _ _ _ => halt 0
  | n + 1 => sx1 C (sx C n)

/-! ### what the table says of a state -/
structure Base where
  kt : X.KT
  n₀ : Nat
  h₀ : Heap
  k : Nat
  gens : Array GenState
  d : Drawn
  os : OsState

structure Rep (B : Base) (s : Shared) (T : BT) (m : Nat) (ads : Ads) (tk : Nat) : Prop where
  size : s.heap.objs.size = adOf ads m
  own : ∀ i o, T.get i = some o → i < m ∧ s.heap.get? (adOf ads i) = some o
  inj : ∀ i j, i < m → j < m → adOf ads i = adOf ads j → i = j
  lo : ∀ i, i < m → B.n₀ ≤ adOf ads i ∧ adOf ads i < adOf ads m
  top : B.n₀ ≤ adOf ads m
  next : ∀ k, adOf ads (m + k) = adOf ads m + k
  kt : ∀ a o, B.kt.get a = some o → a < B.n₀ ∧ s.heap.get? a = some o
  frame : ∀ b o, B.h₀.get? b = some o → (∀ i, i < m → b ≠ adOf ads i) → s.heap.get? b = some o
  old : B.h₀.objs.size ≤ s.heap.objs.size
  young : ∀ i, B.k ≤ i → i < m → B.h₀.objs.size ≤ adOf ads i
  toks : s.toks = tk
  gens : s.gens = B.gens
  drawn : s.drawn = B.d
  os : s.os = B.os

/-- what is done to a raise that leaves the tree -/
noncomputable def lvH (env : Env) : Bool → Value → Sem Unit
  | true => leaving env
  | false => fun x => do noteFrame x env; theTreesLotGoes x
/-- a code's tree without that -/
noncomputable def lvTree : Code → Option (Sem Fin × Env × Bool)
  | .func body env => some (do
      point
      match ← execs body env with
      | .ret v => ret v
      | _ => ret .none, env, true)
  | .whileLoop test body orelse env => some (whileTurn test body orelse env, env, false)
  | .forLoop target it body orelse env => some (forTurn target it body orelse env, env, false)
  | _ => none

/-- what must hold behind a tree that stands before κ, and behind one that goes over into another code -/
noncomputable def posts (M : Model) (R : Result → Shared → Prop) : K → (Result → Shared → Prop) × (Result → Shared → Prop)
  | .base => (R, R)
  | .ret Γ p k κ => (fun r s => Sem.wp M Γ (k r) (Sem.finPost M Γ (posts M R κ).2) (fun e _ s' => (posts M R κ).1 (.error e) s') p s,
      fun r s => Sem.wp M Γ (k r) (Sem.finPost M Γ (posts M R κ).2) (fun e _ s' => (posts M R κ).1 (.error e) s') p s)
  | .lv Γ env fin κ => (fun r s => match r with
    | .ok _ => (posts M R κ).1 r s
    | .error e => ∀ p, Sem.wp M Γ (lvH env fin e) (fun _ _ s' => (posts M R κ).1 (.error e) s') (fun e' _ s' => (posts M R κ).1 (.error e') s') p s, (posts M R κ).2)
noncomputable def post (M : Model) (R : Result → Shared → Prop) (κ : K) : Result → Shared → Prop := (posts M R κ).1
theorem posts_drop (M : Model) (R : Result → Shared → Prop) : ∀ κ : K, (posts M R κ).2 = post M R (dropK κ)
  | .base => rfl
  | .ret .. => rfl
  | .lv _ _ _ κ => posts_drop M R κ
theorem dropK_dropK : ∀ κ : K, dropK (dropK κ) = dropK κ
  | .base => rfl
  | .ret .. => rfl
  | .lv _ _ _ κ => dropK_dropK κ
noncomputable abbrev Mean (M : Model) (R : Result → Shared → Prop) (κ : K) (Γ : Ctx) (p : Pos) (t : Sem Fin) (s : Shared) : Prop :=
  Sem.wp M Γ t (Sem.finPost M Γ (post M R (dropK κ))) (fun e _ s' => post M R κ (.error e) s') p s

noncomputable def AccOk (A : Acc) : Prop := (∀ x ∈ A.eqs, x.1 = x.2) ∧ (∀ x ∈ A.gs, x.1 = x.2) ∧ (∀ x ∈ A.os, x.1 = x.2) ∧ A.ob
noncomputable def EndOk (M : Model) (R : Result → Shared → Prop) : End1 → Shared → Prop
  | .done r, s => R r s
  | .again Γ p, s => wpCode M Γ R p s
noncomputable def Good (B : Base) (M : Model) (R : Result → Shared → Prop) : Out → Prop
  | .stop _ => False
  | .fin e T m ads tk A => AccOk A ∧ ∀ s, Rep B s T m ads tk → EndOk M R e s

/-! SxSound -/
section
noncomputable def unk0 : Unk := ⟨id, fun _ => #[], fun _ => #[], fun _ => default⟩
noncomputable def scons (x : Nat × Nat × Unk) (nv : Nv) : Nv
  | 0 => x
  | n + 1 => nv n

theorem acc_eq {A : Acc} {a b : Nat} (h : AccOk (addEq A a b)) : a = b ∧ AccOk A :=
  ⟨h.1 _ (List.Mem.head _), fun x hx => h.1 x (List.Mem.tail _ hx), h.2⟩
theorem acc_eqs {A : Acc} {q : List (Nat × Nat)} (h : AccOk (addEqs A q)) : (∀ x ∈ q, x.1 = x.2) ∧ AccOk A :=
  ⟨fun x hx => h.1 x (List.mem_append_left _ hx), fun x hx => h.1 x (List.mem_append_right _ hx), h.2⟩
theorem acc_con {A : Acc} {Γ : Ctx} {g : Con} (h : AccOk (addCon A Γ g)) : (Γ = g.gx ∧ (∀ x ∈ g.nq, x.1 = x.2) ∧ (∀ x ∈ g.oq, x.1 = x.2) ∧ g.ob) ∧ AccOk A :=
  ⟨⟨h.2.1 _ (List.Mem.head _), fun x hx => h.1 x (List.mem_append_left _ hx), fun x hx => h.2.2.1 x (List.mem_append_left _ hx), h.2.2.2.1⟩,
    fun x hx => h.1 x (List.mem_append_right _ hx), fun x hx => h.2.1 x (List.Mem.tail _ hx), fun x hx => h.2.2.1 x (List.mem_append_right _ hx), h.2.2.2.2⟩

section
variable {B : Base} {M : Model} {R : Result → Shared → Prop} {C : Cfg}
noncomputable abbrev GoAcc (B : Base) (M : Model) (R : Result → Shared → Prop) (go : Run) : Prop := ∀ hs T m ads t0 i nv A, Good B M R (go hs T m ads t0 i nv A) → AccOk A
theorem noteNew_acc {Γ : Ctx} {L : Nat} {fin : Bool} {ie : Nat} {head : Value} {go : Run} (hgo : GoAcc B M R go) {hs T m ads t0 i nv A}
    (H : Good B M R (noteNew Γ L fin ie head go hs T m ads t0 i nv A)) : AccOk A := by
  unfold noteNew at H
  split at H
  · exact H.elim
  · split at H
    · exact H.elim
    · split at H
      split at H
      · exact H.elim
      · split at H
        · exact H.elim
        · split at H
          · exact H.elim
          · split at H
            · exact H.elim
            · split at H
              · exact H.elim
              · exact (acc_eqs (hgo _ _ _ _ _ _ _ _ H)).2
theorem leave_acc {Γ : Ctx} {env : Env} {fin : Bool} {e : Value} {go : Run} (hgo : GoAcc B M R go) {hs T m ads t0 i nv A}
    (H : Good B M R (leave Γ env fin e go hs T m ads t0 i nv A)) : AccOk A := by
  unfold leave at H
  split at H
  · split at H
    · exact H.elim
    · split at H
      · exact H.elim
      · split at H
        · exact H.elim
        · split at H
          · exact H.elim
          · split at H
            · exact (acc_eq (noteNew_acc hgo H)).2
            · split at H
              · exact H.elim
              · split at H
                · exact H.elim
                · split at H
                  · exact H.elim
                  · split at H
                    · exact (acc_eqs (noteNew_acc hgo H)).2
                    · split at H
                      · exact (acc_eqs (hgo _ _ _ _ _ _ _ _ H)).2
                      · exact H.elim
                    · exact H.elim
            · exact H.elim
  · exact H.elim
end
section
variable {B : Base} {M : Model} {R : Result → Shared → Prop} {C : Cfg} {ih : RunTy}
  (IH : ∀ Γ p κ t hs T m ads t0 i nv A, Good B M R (ih Γ p κ t hs T m ads t0 i nv A) → AccOk A)
include IH
theorem back_acc {r : Result} : ∀ {κ : K} {hs T m ads t0 i nv A}, Good B M R (back ih r κ hs T m ads t0 i nv A) → AccOk A
  | .base, _, _, _, _, _, _, _, _, H => H.1
  | .ret Γ p k κ, _, _, _, _, _, _, _, _, H => IH _ _ _ _ _ _ _ _ _ _ _ _ H
  | .lv Γ env fin κ, _, _, _, _, _, _, _, _, H => by
    cases r with
    | ok f => exact back_acc (κ := κ) H
    | error e => exact leave_acc (fun _ _ _ _ _ _ _ _ h => back_acc (κ := κ) h) H
omit IH in
theorem after_acc {go : Result → Run} (hgo : ∀ r hs T m ads t0 i nv A, Good B M R (go r hs T m ads t0 i nv A) → AccOk A)
    {hs m ads nv A Γ} {g : Con} (H : Good B M R (after go hs m ads nv A Γ g)) : AccOk (addCon A Γ g) := by
  unfold after at H
  split at H
  split at H
  split at H
  · exact hgo _ _ _ _ _ _ _ _ _ H
  · exact H.elim
theorem sx1_acc {Γ p κ t hs T m ads t0 i nv A} (H : Good B M R (sx1 C ih Γ p κ t hs T m ads t0 i nv A)) : AccOk A := by
  cases t with
  | pure f =>
    cases f with
    | done f => exact back_acc IH H
    | again c =>
      cases hq : c.quiet with
      | false => simp only [sx1, hq] at H; exact H.elim
      | true =>
        simp only [sx1, hq] at H
        split at H
        · exact H.elim
        · split at H
          · exact IH _ _ _ _ _ _ _ _ _ _ _ _ H
          · split at H
            · exact H.1
            · exact H.elim
          · split at H
            · split at H
              · exact IH _ _ _ _ _ _ _ _ _ _ _ _ H
              · exact H.elim
            · split at H
              · exact H.elim
              · split at H
                · exact (acc_con (after_acc (fun r hs T m ads t0 i nv A h => back_acc IH h) H)).2
                · exact H.elim
  | raise e => exact back_acc IH H
  | rule => exact IH _ _ _ _ _ _ _ _ _ _ _ _ H
  | «at» => exact IH _ _ _ _ _ _ _ _ _ _ _ _ H
  | point => exact IH _ _ _ _ _ _ _ _ _ _ _ _ H
  | ask => exact IH _ _ _ _ _ _ _ _ _ _ _ _ H
  | load a q k =>
    simp only [sx1] at H
    split at H
    · exact H.elim
    · split at H
      · split at H
        · exact IH _ _ _ _ _ _ _ _ _ _ _ _ H
        · exact H.elim
      · split at H
        · exact (acc_eq (IH _ _ _ _ _ _ _ _ _ _ _ _ H)).2
        · exact H.elim
  | loadIfAlive a k =>
    simp only [sx1] at H
    split at H
    · exact H.elim
    · split at H
      · split at H
        · exact IH _ _ _ _ _ _ _ _ _ _ _ _ H
        · exact H.elim
      · split at H
        · exact (acc_eq (IH _ _ _ _ _ _ _ _ _ _ _ _ H)).2
        · exact H.elim
  | update a q f k =>
    simp only [sx1] at H
    split at H
    · exact H.elim
    · split at H
      · exact H.elim
      · split at H
        · split at H
          · exact H.elim
          · exact (acc_eq (IH _ _ _ _ _ _ _ _ _ _ _ _ H)).2
        · exact H.elim
  | alloc o k =>
    simp only [sx1] at H
    split at H
    · exact H.elim
    · split at H
      · exact IH _ _ _ _ _ _ _ _ _ _ _ _ H
      · exact H.elim
  | fresh => exact IH _ _ _ _ _ _ _ _ _ _ _ _ H
  | handled own k => cases own <;> exact IH _ _ _ _ _ _ _ _ _ _ _ _ H
  | stack => exact IH _ _ _ _ _ _ _ _ _ _ _ _ H
  | call c hd g l k =>
    simp only [sx1] at H
    split at H
    · exact H.elim
    · split at H
      · exact IH _ _ _ _ _ _ _ _ _ _ _ _ H
      · split at H
        · split at H
          · exact IH _ _ _ _ _ _ _ _ _ _ _ _ H
          · exact H.elim
        · split at H
          · exact H.elim
          · split at H
            · exact (acc_con (after_acc (fun r hs T m ads t0 i nv A h => IH _ _ _ _ _ _ _ _ _ _ _ _ h) H)).2
            · exact H.elim
  | unsupported => exact H.elim
  | finish => exact H.elim
  | register => exact H.elim
  | choose => exact H.elim
  | os => exact H.elim
  | newGen => exact H.elim
  | genState => exact H.elim
  | resume => exact H.elim
  | yield => exact H.elim
  | fork => exact H.elim
  | thread => exact H.elim
  | await => exact H.elim
end
theorem sx_acc {B : Base} {M : Model} {R : Result → Shared → Prop} {C : Cfg} : ∀ n Γ p κ t hs T m ads t0 i nv A, Good B M R (sx C n Γ p κ t hs T m ads t0 i nv A) → AccOk A
  | 0 => fun _ _ _ _ _ _ _ _ _ _ _ _ H => H.elim
  | n + 1 => fun _ _ _ _ _ _ _ _ _ _ _ _ H => sx1_acc (sx_acc n) H

/-! ### the table's steps -/
section
variable {B : Base} {s : Shared} {T : BT} {m : Nat} {ads : Ads} {tk : Nat}
theorem Rep.fresh (D : Rep B s T m ads tk) : Rep B { s with toks := s.toks + 1 } T m ads (tk + 1) :=
  ⟨D.size, D.own, D.inj, D.lo, D.top, D.next, D.kt, D.frame, D.old, D.young, by rw [← D.toks], D.gens, D.drawn, D.os⟩
theorem Rep.alloc (D : Rep B s T m ads tk) {o : Obj} (hf : o.isFreed = false) (hg : ((T.ins m o).get m).isSome = true) :
    Rep B { s with heap := s.heap.push o } (T.ins m o) (m + 1) ads tk := by
  have hsz : (s.heap.push o).objs.size = adOf ads m + 1 := by rw [Heap.size_push, D.size]
  have hn := D.next 1
  refine ⟨hsz.trans hn.symm, fun i o' e => ?_, fun i j hi hj e => ?_, fun i hi => ?_, by rw [hn]; exact Nat.le_succ_of_le D.top, fun k => ?_, fun a o' e => ⟨(D.kt a o' e).1, Heap.get?_push_of_some _ (D.kt a o' e).2⟩, fun b o' e hb => Heap.get?_push_of_some _ (D.frame b o' e fun i hi => hb i (Nat.lt_succ_of_lt hi)), ?_, fun i hk hi => ?_, D.toks, D.gens, D.drawn, D.os⟩
  · rw [BT.get_ins o T m hg] at e
    by_cases hi : i = m
    · subst hi
      rw [if_pos rfl] at e
      cases e
      refine ⟨Nat.lt_succ_self _, ?_⟩
      rw [← D.size]; exact Heap.get?_push_size _ hf
    · rw [if_neg hi] at e
      have z := D.own i o' e
      exact ⟨Nat.lt_succ_of_lt z.1, Heap.get?_push_of_some _ z.2⟩
  · rcases Nat.lt_succ_iff_lt_or_eq.mp hi with hi | rfl <;> rcases Nat.lt_succ_iff_lt_or_eq.mp hj with hj | rfl
    · exact D.inj i j hi hj e
    · have := (D.lo i hi).2; omega
    · have := (D.lo j hj).2; omega
    · rfl
  · rw [hn]
    rcases Nat.lt_succ_iff_lt_or_eq.mp hi with hi | rfl
    · have := D.lo i hi; omega
    · exact ⟨D.top, Nat.lt_succ_self _⟩
  · rw [hn, show m + 1 + k = m + (1 + k) by omega, D.next]; omega
  · show _ ≤ (s.heap.push o).objs.size
    rw [hsz, ← D.size]; exact Nat.le_succ_of_le D.old
  · rcases Nat.lt_succ_iff_lt_or_eq.mp hi with hi | rfl
    · exact D.young i hk hi
    · rw [← D.size]; exact D.old
theorem Rep.update (D : Rep B s T m ads tk) {j : Nat} {o : Obj} {f : Obj → Obj} (e : T.get j = some o) (hf : (f o).isFreed = false) :
    Rep B { s with heap := s.heap.update (adOf ads j) f } (T.set j f) m ads tk := by
  obtain ⟨hj, ho⟩ := D.own j o e
  have hs : Heap.SameBut (adOf ads j) s.heap (s.heap.update (adOf ads j) f) := Heap.SameBut.update ..
  refine ⟨(by show (s.heap.update _ f).objs.size = _; rw [hs.1, D.size]), fun i o' e' => ?_, D.inj, D.lo, D.top, D.next, fun a o' e' => ?_, fun b o' e' hb => ?_, (by show _ ≤ (s.heap.update _ f).objs.size; rw [hs.1]; exact D.old), D.young, D.toks, D.gens, D.drawn, D.os⟩
  · rw [BT.get_set] at e'
    by_cases hi : i = j
    · subst hi
      rw [if_pos rfl, e] at e'
      cases e'
      exact ⟨hj, Heap.get?_update_self f ho hf⟩
    · rw [if_neg hi] at e'
      have y := D.own i o' e'
      exact ⟨y.1, (hs.2 _ fun z => hi (D.inj i j y.1 hj z)).trans y.2⟩
  · have z := D.kt a o' e'
    refine ⟨z.1, (hs.2 a ?_).trans z.2⟩
    have h1 := (D.lo j hj).1
    have h2 := z.1
    exact Nat.ne_of_lt (Nat.lt_of_lt_of_le h2 h1)
  · exact (hs.2 b (hb j hj)).trans (D.frame b o' e' hb)
end

/-! ### a raise that leaves a frame -/
noncomputable def inA (Γ : Ctx) : Around := { handled := Γ.handled, depth := frameCount Γ.below + Γ.code.weight, frames := some (framesOf Γ), guards := some (Γ.code.guards ++ guardsOf Γ.below), units := Γ.units }
theorem in_inA (Γ : Ctx) : Γ.In (inA Γ) := ⟨rfl, Nat.le_refl _, fun l h => by cases h; rfl, fun g h => by cases h; rfl, Nat.le_refl _⟩
theorem nthV_eq : ∀ (l : List Value) (n : Nat), nthV l n = l[n]?
  | [], n => by simp [nthV]
  | v :: r, 0 => rfl
  | v :: r, n + 1 => by rw [nthV, List.getElem?_cons_succ]; exact nthV_eq r n
theorem recOf_some {d : Data} {l : List Value} (h : recOf d = some l) : d = .fields ⟨l⟩ := by
  unfold recOf at h; split at h <;> simp_all
theorem recOf_none {d : Data} (h : recOf d = none) : ∀ vs, d ≠ .fields vs := by
  rintro ⟨l⟩ rfl; cases h
theorem ready_sub {ν : Unk} {ads : Ads} : ∀ (l : List Env) (i : Nat) (hs : List Nat) (T : BT) (q : List (Nat × Nat)) {T1 : BT} {q1 : List (Nat × Nat)} {hs1 : List Nat}, ready ν i l hs T ads q = some (T1, q1, hs1) → ∀ x ∈ q, x ∈ q1
  | [], i, hs, T, q, T1, q1, hs1, h, x, hx => by cases h; exact hx
  | env :: l, i, hs, T, q, T1, q1, hs1, h, x, hx => by
    unfold ready at h
    (repeat' split at h) <;> first | cases h | exact ready_sub l _ _ _ _ h x (List.mem_cons_of_mem _ hx)
theorem ready_frames {ν : Unk} {ads : Ads} {m : Nat} {h0 : Heap} : ∀ (l : List Env) (i : Nat) (hs : List Nat) (T : BT) (q : List (Nat × Nat)) {T1 : BT} {q1 : List (Nat × Nat)} {hs1 : List Nat}, ready ν i l hs T ads q = some (T1, q1, hs1) → (∀ x ∈ q1, x.1 = x.2) →
    (∀ j o, T.get j = some o → j < m ∧ ∃ sl, h0.get? (adOf ads j) = some (slotsTo sl o)) → h0.FunFrames default l ∧ ∀ L ∈ l.filterMap (·.frame), ∃ j, j < m ∧ L = adOf ads j
  | [], i, hs, T, q, T1, q1, hs1, h, hq, P => ⟨trivial, fun L h => by simp at h⟩
  | env :: l, i, hs, T, q, T1, q1, hs1, h, hq, P => by
    unfold ready at h
    split at h
    · cases h
    · rename_i h' hs'
      split at h
      · cases h
      · rename_i L hf
        split at h
        · cases h
        · rename_i hm
          split at h
          · cases h
          · rename_i o ho
            split at h
            · cases h
            · rename_i hr
              have e : L = adOf ads h' := hq _ (ready_sub _ _ _ _ _ h _ (List.mem_cons_self ..))
              obtain ⟨hj, sl, hsl⟩ := P h' o ho
              have IH := ready_frames (m := m) (h0 := h0) l (i + 1) _ _ _ h hq fun j o' e' => by
                rw [BT.get_set] at e'
                by_cases z : j = h'
                · subst z
                  rw [if_pos rfl, ho] at e'
                  cases e'
                  exact ⟨hj, sl, hsl⟩
                · rw [if_neg z] at e'; exact P j o' e'
              have hdef : (default : Heap).get? L = none := by
                cases hz : (default : Heap).get? L with
                | none => rfl
                | some o => exact absurd (Heap.lt_size hz) (Nat.not_lt_zero _)
              refine ⟨⟨fun z => by (rw [z] at hm; cases hm), ⟨L, slotsTo sl o, hf, hdef, e ▸ hsl, recOf_none hr⟩, IH.1⟩, fun L' hL => ?_⟩
              · rw [List.filterMap_cons, hf] at hL
                rcases List.mem_cons.mp hL with rfl | hL
                · exact ⟨h', hj, e⟩
                · exact IH.2 _ hL
theorem slotsTo_self (o : Obj) : slotsTo o.slots o = o := rfl
theorem ready_own {ν : Unk} {ads : Ads} {m : Nat} {h1 : Heap} (inj : ∀ i j, i < m → j < m → adOf ads i = adOf ads j → i = j) : ∀ (l : List Env) (i : Nat) (hs : List Nat) (T : BT) (q : List (Nat × Nat)) {T1 : BT} {q1 : List (Nat × Nat)} {hs1 : List Nat}, ready ν i l hs T ads q = some (T1, q1, hs1) → (∀ x ∈ q1, x.1 = x.2) →
    (∀ k env L o, l[k]? = some env → env.frame = some L → h1.get? L = some o → ν.sl (i + k) = o.slots) →
    (∀ j o, T.get j = some o → j < m ∧ ∃ sl, h1.get? (adOf ads j) = some (slotsTo sl o) ∧ (adOf ads j ∉ l.filterMap (·.frame) → sl = o.slots)) → ∀ j o, T1.get j = some o → j < m ∧ h1.get? (adOf ads j) = some o
  | [], i, hs, T, q, T1, q1, hs1, h, hq, N, P, j, o, e => by
    cases h
    obtain ⟨h1, sl, h2, h3⟩ := P j o e
    have := h3 (by simp)
    subst this
    exact ⟨h1, h2⟩
  | env :: l, i, hs, T, q, T1, q1, hs1, h, hq, N, P, j, o, e => by
    unfold ready at h
    split at h
    · cases h
    · rename_i h' hs'
      split at h
      · cases h
      · rename_i L hf
        split at h
        · cases h
        · split at h
          · cases h
          · rename_i o' ho
            split at h
            · cases h
            · rename_i hr
              have ea : L = adOf ads h' := hq _ (ready_sub _ _ _ _ _ h _ (List.mem_cons_self ..))
              refine ready_own inj l (i + 1) _ _ _ h hq (fun k env' L' o'' hk hf' hg => by have := N (k + 1) env' L' o'' (by rw [List.getElem?_cons_succ]; exact hk) hf' hg; rwa [show i + (k + 1) = i + 1 + k by omega] at this) (fun j' o'' e' => ?_) j o e
              rw [BT.get_set] at e'
              by_cases z : j' = h'
              · subst z
                rw [if_pos rfl, ho] at e'
                cases e'
                obtain ⟨p1, sl, p2, p3⟩ := P _ _ ho
                have w : ν.sl i = sl := N 0 env L _ rfl hf (ea ▸ p2)
                exact ⟨p1, sl, p2, fun _ => w.symm⟩
              · rw [if_neg z] at e'
                obtain ⟨p1, sl, p2, p3⟩ := P _ _ e'
                refine ⟨p1, sl, p2, fun hn => p3 fun hm => ?_⟩
                rw [List.filterMap_cons, hf] at hm
                rcases List.mem_cons.mp hm with hm | hm
                · exact z (inj _ _ p1 (P _ _ ho).1 (hm.trans ea))
                · exact hn hm

section
variable {B : Base} {s : Shared} {T : BT} {m : Nat} {ads : Ads} {tk : Nat}
/-- the frames' slots turned: the table behind it -/
theorem Rep.slots (D : Rep B s T m ads tk) {S : List Addr} {h1 : Heap} (x : Heap.SlotsOnly S s.heap h1) (hS : ∀ L ∈ S, ∃ j, j < m ∧ L = adOf ads j) {T1 : BT} (own : ∀ j o, T1.get j = some o → j < m ∧ h1.get? (adOf ads j) = some o) :
    Rep B { s with heap := h1 } T1 m ads tk := by
  refine ⟨by rw [← D.size]; exact x.1, own, D.inj, D.lo, D.top, D.next, fun a o e => ⟨(D.kt a o e).1, (x.2.1 a fun h => ?_).trans (D.kt a o e).2⟩, fun b o hb hn => (x.2.1 b fun h => ?_).trans (D.frame b o hb hn), by rw [show ({ s with heap := h1 } : Shared).heap.objs.size = s.heap.objs.size from x.1]; exact D.old, D.young, D.toks, D.gens, D.drawn, D.os⟩
  · obtain ⟨j, hj, e'⟩ := hS a h
    have h1 := (D.lo j hj).1
    have h2 := (D.kt a o e).1
    rw [e'] at h2
    exact absurd h2 (Nat.not_lt.mpr h1)
  · obtain ⟨j, hj, e'⟩ := hS b h
    exact hn j hj e'
end
section
variable {M : Model} {A : Around} {E : Value → Shared → Prop} {s : Shared}
theorem wpAny_entryNew {env env0 : Env} {outer : List Env} {L e : Addr} {head : Value} {hadNext : Bool} {Q : Unit → Shared → Prop}
    (hfr : A.frames = some (env0 :: outer)) (hl : s.heap.FunFrames default (env0 :: outer)) (hf0 : env0.frame = some L) (hf : env.frame = some L)
    (he : ∀ h₁, Heap.SlotsOnly ((env0 :: outer).filterMap (·.frame)) s.heap h₁ → ∃ oe vs, h₁.get? e = some oe ∧ oe.data = .fields vs ∧ 1 < vs.size)
    (h : ∀ h₁ tl, Heap.SlotsOnly ((env0 :: outer).filterMap (·.frame)) s.heap h₁ → Q () { s with heap := (h₁.push (entryO head L (.int (.ofNat L) 0) tl)).update e (Obj.mapFields (·.setIfInBounds 1 (.ref h₁.objs.size))) }) :
    wpAny M A (do let a ← frameOf env; let pl ← entryPlaceOf L hadNext; let b ← EntryCells.newEntry head a .none (rawInt L) .none pl; setField (.ref e) 1 b) Q E s := by
  have hfo : ∀ Q' : Value → Shared → Prop, (∀ h₁, Heap.SlotsOnly ((env0 :: outer).filterMap (·.frame)) s.heap h₁ → Q' (.ref L) { s with heap := h₁ }) → wpAny M A (frameOf env) Q' E s := fun Q' hQ => by
    unfold frameOf
    refine wpAny_bind (wpAny_frameEnvs hfr ?_)
    have hdw : ((env0 :: outer).dropWhile fun x => x.frame != env.frame) = env0 :: outer := by simp [List.dropWhile, hf, hf0]
    rw [hdw]
    unfold frameObject
    refine wpAny_bind (wpAny_bind (wpAny_readyFrames_fun hl fun h₁ hs₁ => wpAny_pure ?_))
    rw [hf0]
    exact wpAny_pure (hQ h₁ hs₁)
  refine wpAny_bind (hfo _ fun h₁ hs₁ => ?_)
  refine wpAny_bind (wpAny_entryPlaceOf fun pl hpl => ?_)
  unfold EntryCells.newEntry newFields
  refine wpAny_bind (wpAny_newObj_type ?_ (hpl.sizeOk5 _ _ _ _ _))
  obtain ⟨oe, vs, he1, hd, hsz⟩ := he h₁ hs₁
  refine wpAny_setField (Heap.get?_push_of_some _ he1) hd hsz ?_
  have := h h₁ (if pl.isEmpty then List.replicate 6 Value.none else pl).toArray hs₁
  exact this
end
section
variable {B : Base} {M : Model} {R : Result → Shared → Prop} {P : Shared → Prop} {go : Run} {E : Value → Shared → Prop}
noncomputable abbrev GoOk (B : Base) (M : Model) (R : Result → Shared → Prop) (go : Run) (P : Shared → Prop) : Prop :=
  ∀ hs T m ads t0 i A s, Rep B s T m ads (t0 + i) → (∀ nv, Good B M R (go hs T m ads t0 i nv A)) → P s
/-- the rest of what is done: the flight ended, or the tree's lot -/
noncomputable def lvRest (env : Env) (e : Value) : Bool → Sem Unit
  | true => setFlight e none
  | false => theTreesLotGoes e
theorem wpAny_lvH {A : Around} {env : Env} {fin : Bool} {e : Value} {Q : Unit → Shared → Prop} {s : Shared} (h : wpAny M A (noteFrame e env) (fun _ s' => wpAny M A (lvRest env e fin) Q E s') E s) : wpAny M A (lvH env fin e) Q E s := by
  cases fin with
  | true => exact wpAny_bind h
  | false => exact wpAny_bind h
theorem noteNew_sound {Γ : Ctx} {env : Env} {L a : Nat} {fin : Bool} {ie : Nat} {head : Value} {hadNext : Bool} {hs T m ads t0 i A} {s : Shared} (D : Rep B s T m ads (t0 + i)) (hf : env.frame = some L) (ha : a = adOf ads ie)
    (gs : GoOk B M R go P) (ga : GoAcc B M R go) (H : ∀ nv, Good B M R (noteNew Γ L fin ie head go hs T m ads t0 i nv A)) :
    wpAny M (inA Γ) (do let a' ← frameOf env; let pl ← entryPlaceOf L hadNext; let b ← EntryCells.newEntry head a' .none (rawInt L) .none pl; setField (.ref a) 1 b) (fun _ s' => wpAny M (inA Γ) (lvRest env (.ref a) fin) (fun _ => P) E s') E s := by
  unfold noteNew at H
  cases hfr : framesOf Γ with
  | nil => simp only [hfr] at H; exact (H fun _ => (0, 0, unk0)).elim
  | cons env0 outer =>
    simp only [hfr] at H
    cases hf0 : env0.frame with
    | none => simp only [hf0] at H; exact (H fun _ => (0, 0, unk0)).elim
    | some L0 =>
      simp only [hf0] at H
      -- the run at some unknowns
      have H0 := H fun _ => (0, 0, unk0)
      cases hr : ready unk0 0 (env0 :: outer) hs T ads [] with
      | none => simp only [hr] at H0; exact H0.elim
      | some x =>
        obtain ⟨T1, q, hs1⟩ := x
        simp only [hr] at H0
        have acc0 : ∀ x ∈ (L0, L) :: q, x.1 = x.2 := by
          split at H0
          · exact H0.elim
          · split at H0
            · exact H0.elim
            · split at H0
              · exact H0.elim
              · split at H0
                · exact H0.elim
                · exact (acc_eqs (ga _ _ _ _ _ _ _ _ H0)).1
        have eL : L0 = L := acc0 _ (List.mem_cons_self ..)
        subst eL
        have hq0 : ∀ x ∈ q, x.1 = x.2 := fun x hx => acc0 x (List.mem_cons_of_mem _ hx)
        obtain ⟨FF, FS⟩ := ready_frames (m := m) (h0 := s.heap) (env0 :: outer) 0 hs T [] hr hq0 fun j o e => ⟨(D.own j o e).1, o.slots, by rw [slotsTo_self]; exact (D.own j o e).2⟩
        -- what the run says at the unknowns that are
        have key : ∀ h₁ tl, Heap.SlotsOnly ((env0 :: outer).filterMap (·.frame)) s.heap h₁ → ∃ T2 hs2 q2 oe vs, (∃ v, vs[1]? = some v) ∧ oe.data = .fields ⟨vs⟩ ∧ T2.get ie = some oe ∧ Rep B { s with heap := h₁ } T2 m ads (t0 + i) ∧
            ((T2.ins m (entryO head L0 (.int (.ofNat L0) 0) tl)).get m).isSome = true ∧
            ∀ nv, Good B M R (go hs2 (match fin with
              | true => ((T2.ins m (entryO head L0 (.int (.ofNat L0) 0) tl)).set ie (Obj.mapFields (·.setIfInBounds 1 (.ref (adOf ads m))))).set m (Obj.mapFields (·.setIfInBounds 3 .none))
              | false => (T2.ins m (entryO head L0 (.int (.ofNat L0) 0) tl)).set ie (Obj.mapFields (·.setIfInBounds 1 (.ref (adOf ads m))))) (m + 1) ads t0 i nv (addEqs A q2)) := by
          intro h₁ tl hso
          let ν : Unk := ⟨id, fun k => ((((env0 :: outer)[k]?).bind (·.frame)).bind fun L => (h₁.get? L).map (·.slots)).getD #[], fun _ => tl, fun _ => default⟩
          have H1 : ∀ nv, _ := fun nv => H (scons (0, 0, ν) nv)
          simp only [scons] at H1
          cases hr1 : ready ν 0 (env0 :: outer) hs T ads [] with
          | none => simp only [hr1] at H1; exact (H1 fun _ => (0, 0, unk0)).elim
          | some x =>
            obtain ⟨T2, q2, hs2⟩ := x
            simp only [hr1] at H1
            have H2 := H1 fun _ => (0, 0, unk0)
            cases hg : T2.get ie with
            | none => simp only [hg] at H2; exact H2.elim
            | some oe =>
              simp only [hg] at H1 H2
              cases hre : recOf oe.data with
              | none => simp only [hre] at H2; exact H2.elim
              | some vs =>
                simp only [hre] at H1 H2
                cases hn : nthV vs 1 with
                | none => simp only [hn] at H2; exact H2.elim
                | some v =>
                  simp only [hn] at H1 H2
                  cases hi : (T2.ins m (entryO head L0 (.int (.ofNat L0) 0) tl)).get m with
                  | none => simp only [ν, hi] at H2; exact H2.elim
                  | some oi =>
                    simp only [ν, hi] at H1 H2
                    have hq2 : ∀ x ∈ q2, x.1 = x.2 := fun x hx => (acc_eqs (ga _ _ _ _ _ _ _ _ H2)).1 x (List.mem_cons_of_mem _ hx)
                    have own := ready_own (h1 := h₁) (m := m) D.inj (env0 :: outer) 0 hs T [] hr1 hq2 (fun k env L o hk hf hg => by simp only [ν, Nat.zero_add, hk, Option.bind_some, hf, hg, Option.map_some, Option.getD_some]) fun j o e => by
                      have z := D.own j o e
                      obtain ⟨sl, hsl⟩ := hso.2.2 _ o z.2
                      refine ⟨z.1, sl, hsl, fun hn => ?_⟩
                      rw [hso.2.1 _ hn, z.2] at hsl
                      have := congrArg Obj.slots (Option.some.inj hsl)
                      exact this.symm
                    refine ⟨T2, hs2, _, oe, vs, ⟨v, by rw [← nthV_eq]; exact hn⟩, recOf_some hre, hg, D.slots hso FS own, by rw [hi]; rfl, H1⟩
        refine wpAny_entryNew (by show some (framesOf Γ) = _; rw [hfr]) FF hf0 hf (fun h₁ hso => ?_) (fun h₁ tl hso => ?_)
        · obtain ⟨T2, _, _, oe, vs, ⟨v, hv⟩, hd, hg, D2, _⟩ := key h₁ #[] hso
          exact ⟨oe, ⟨vs⟩, by rw [ha]; exact (D2.own _ _ hg).2, hd, by obtain ⟨h, _⟩ := List.getElem?_eq_some_iff.mp hv; exact h⟩
        · obtain ⟨T2, hs2, q2, oe, vs, ⟨v, hv⟩, hd, hg, D2, hi, H2⟩ := key h₁ tl hso
          have hsz : h₁.objs.size = adOf ads m := D2.size
          have hlt := (D2.own _ _ hg).1
          have D3 := D2.alloc (o := entryO head L0 (.int (.ofNat L0) 0) tl) rfl hi
          have g3 : (T2.ins m (entryO head L0 (.int (.ofNat L0) 0) tl)).get ie = some oe := by rw [BT.get_ins _ _ _ hi, if_neg (Nat.ne_of_lt hlt)]; exact hg
          have g3m : (T2.ins m (entryO head L0 (.int (.ofNat L0) 0) tl)).get m = some (entryO head L0 (.int (.ofNat L0) 0) tl) := by rw [BT.get_ins _ _ _ hi, if_pos rfl]
          have nf : (Obj.mapFields (·.setIfInBounds 1 (.ref (adOf ads m))) oe).isFreed = false := Obj.isFreed_of_fields (Obj.data_mapFields hd _)
          have D4 := D3.update (f := Obj.mapFields (·.setIfInBounds 1 (.ref (adOf ads m)))) g3 nf
          rw [ha, hsz]
          cases fin with
          | false =>
            exact wpAny_theTreesLotGoes (gs _ _ _ _ _ _ _ _ D4 H2)
          | true =>
            have g4 : ((T2.ins m (entryO head L0 (.int (.ofNat L0) 0) tl)).set ie (Obj.mapFields (·.setIfInBounds 1 (.ref (adOf ads m))))).get m = some (entryO head L0 (.int (.ofNat L0) 0) tl) := by
              rw [BT.get_set, if_neg (Nat.ne_of_gt hlt)]; exact g3m
            have g4e : ((T2.ins m (entryO head L0 (.int (.ofNat L0) 0) tl)).set ie (Obj.mapFields (·.setIfInBounds 1 (.ref (adOf ads m))))).get ie = some (Obj.mapFields (·.setIfInBounds 1 (.ref (adOf ads m))) oe) := by
              rw [BT.get_set, if_pos rfl, g3]; rfl
            have D5 := D4.update (f := Obj.mapFields (·.setIfInBounds 3 .none)) g4 rfl
            show wpAny M (inA Γ) (setFlight (.ref (adOf ads ie)) none) _ E _
            unfold setFlight
            refine wpAny_bind (wpAny_field (D4.own _ _ g4e).2 (Obj.data_mapFields hd _) (x := .ref (adOf ads m)) ?_ ?_)
            · obtain ⟨h, _⟩ := List.getElem?_eq_some_iff.mp hv
              simp [h]
            · rw [if_pos (show (Value.ref (adOf ads m) != Value.none) = true from by simp)]
              refine wpAny_setField (D4.own _ _ g4).2 rfl (by simp) ?_
              exact gs _ _ _ _ _ _ _ _ D5 H2
end

section
variable {B : Base} {M : Model} {R : Result → Shared → Prop} {P : Shared → Prop} {go : Run} {E : Value → Shared → Prop}
theorem leave_sound {Γ : Ctx} {env : Env} {fin : Bool} {e : Value} {hs T m ads t0 i A} {s : Shared} (D : Rep B s T m ads (t0 + i))
    (gs : GoOk B M R go P) (ga : GoAcc B M R go) (H : ∀ nv, Good B M R (leave Γ env fin e go hs T m ads t0 i nv A)) : wpAny M (inA Γ) (lvH env fin e) (fun _ => P) E s := by
  have dz : Nv := fun _ => (0, 0, unk0)
  cases e with
  | ref a =>
    simp only [leave] at H
    cases hf : env.frame with
    | none => simp only [hf] at H; exact (H dz).elim
    | some L =>
      simp only [hf] at H
      cases hs with
      | nil => exact (H dz).elim
      | cons ie hs =>
        simp only at H
        cases he : T.get ie with
        | none => simp only [he] at H; exact (H dz).elim
        | some oe =>
          simp only [he] at H
          cases hre : recOf oe.data with
          | none => simp only [hre] at H; exact (H dz).elim
          | some vs =>
            simp only [hre] at H
            have hd := recOf_some hre
            cases hn : nthV vs 1 with
            | none => simp only [hn] at H; exact (H dz).elim
            | some v =>
              have hv : (⟨vs⟩ : Array Value)[1]? = some v := by rw [nthV_eq] at hn; simpa using hn
              have hsz : 1 < vs.length := by rw [nthV_eq] at hn; exact (List.getElem?_eq_some_iff.mp hn).1
              cases v with
              | none =>
                simp only [hn] at H
                obtain ⟨ea, _⟩ := acc_eq (noteNew_acc ga (H dz))
                refine wpAny_lvH ?_
                unfold noteFrame
                simp only [hf]
                refine wpAny_bind (wpAny_field (ea ▸ (D.own _ _ he).2) hd hv ?_)
                rw [if_neg (by decide)]
                exact noteNew_sound D hf ea gs ga H
              | ref tb =>
                simp only [hn] at H
                cases hs with
                | nil => exact (H dz).elim
                | cons it hs =>
                  simp only at H
                  cases ht : T.get it with
                  | none => simp only [ht] at H; exact (H dz).elim
                  | some ot =>
                    simp only [ht] at H
                    cases hrt : recOf ot.data with
                    | none => simp only [hrt] at H; exact (H dz).elim
                    | some ts =>
                      simp only [hrt] at H
                      have hdt := recOf_some hrt
                      cases hnt : nthV ts 3 with
                      | none => simp only [hnt] at H; exact (H dz).elim
                      | some fl =>
                        have hfl : (⟨ts⟩ : Array Value)[3]? = some fl := by rw [nthV_eq] at hnt; simpa using hnt
                        have hszt : 3 < ts.length := by rw [nthV_eq] at hnt; exact (List.getElem?_eq_some_iff.mp hnt).1
                        have nft : (Obj.mapFields (·.setIfInBounds 3 .none) ot).isFreed = false := Obj.isFreed_of_fields (Obj.data_mapFields hdt _)
                        have Dt := D.update (f := Obj.mapFields (·.setIfInBounds 3 .none)) ht nft
                        cases fl with
                        | none =>
                          simp only [hnt] at H
                          have acc := (acc_eqs (noteNew_acc ga (H dz))).1
                          have ea : a = adOf ads ie := acc _ (List.mem_cons_self ..)
                          have et : tb = adOf ads it := acc _ (List.mem_cons_of_mem _ (List.mem_cons_self ..))
                          refine wpAny_lvH ?_
                          unfold noteFrame
                          simp only [hf]
                          refine wpAny_bind (wpAny_field (ea ▸ (D.own _ _ he).2) hd hv ?_)
                          rw [if_pos (show (Value.ref tb != Value.none) = true from by simp)]
                          refine wpAny_bind (wpAny_field (et ▸ (D.own _ _ ht).2) hdt hfl ?_)
                          rw [if_neg (show ¬ ((Value.none == rawInt L) = true) from by simp [rawInt])]
                          refine wpAny_bind (wpAny_setField (et ▸ (D.own _ _ ht).2) hdt (by simpa using hszt) ?_)
                          rw [et]
                          rw [et] at H
                          exact noteNew_sound Dt hf ea gs ga H
                        | int z tk =>
                          cases z with
                          | ofNat L' =>
                            simp only [hnt] at H
                            cases hb : Nat.beq tk 0 with
                            | false => simp only [hb] at H; exact (H dz).elim
                            | true =>
                              simp only [hb] at H
                              have acc := (acc_eqs (ga _ _ _ _ _ _ _ _ (H dz))).1
                              have ea : a = adOf ads ie := acc _ (List.mem_cons_self ..)
                              have et : tb = adOf ads it := acc _ (List.mem_cons_of_mem _ (List.mem_cons_self ..))
                              have eL : L' = L := acc _ (List.mem_cons_of_mem _ (List.mem_cons_of_mem _ (List.mem_cons_self ..)))
                              have ek : tk = 0 := Nat.eq_of_beq_eq_true hb
                              subst eL ek
                              refine wpAny_lvH ?_
                              unfold noteFrame
                              simp only [hf]
                              refine wpAny_bind (wpAny_field (ea ▸ (D.own _ _ he).2) hd hv ?_)
                              rw [if_pos (show (Value.ref tb != Value.none) = true from by simp)]
                              refine wpAny_bind (wpAny_field (et ▸ (D.own _ _ ht).2) hdt hfl ?_)
                              rw [if_pos (show (Value.int (Int.ofNat L') 0 == rawInt L') = true from by simp [rawInt])]
                              refine wpAny_pure ?_
                              cases fin with
                              | false => exact wpAny_theTreesLotGoes (gs _ _ _ _ _ _ _ _ D H)
                              | true =>
                                show wpAny M (inA Γ) (setFlight (.ref a) none) _ E _
                                unfold setFlight
                                refine wpAny_bind (wpAny_field (ea ▸ (D.own _ _ he).2) hd hv ?_)
                                rw [if_pos (show (Value.ref tb != Value.none) = true from by simp)]
                                refine wpAny_setField (et ▸ (D.own _ _ ht).2) hdt (by simpa using hszt) ?_
                                rw [et]
                                exact gs _ _ _ _ _ _ _ _ Dt H
                          | negSucc => simp only [hnt] at H; exact (H dz).elim
                        | _ => simp only [hnt] at H; exact (H dz).elim
              | _ => simp only [hn] at H; exact (H dz).elim
  | _ => exact (H dz).elim
end

/-! ### contracts -/
noncomputable def LeftRep (B : Base) (g : Con) (ν : Unk) (r : Result) (s : Shared) (m : Nat) (ads : Ads) (N t : Nat) : Prop :=
  match g.left ν with
  | ⟨r', T, l⟩ => r = r' ∧ ∀ T' m' ads', putNew ν.n 0 l T m ads = some (T', m', ads') → Rep B s T' m' ((m', N) :: ads') t
noncomputable def ConOk (B : Base) (M : Model) (C : Cfg) : Prop :=
  ∀ (j x : Nat) (Γ : Ctx) (T : BT) (m : Nat) (ads : Ads) (tk : Nat) (s : Shared) (p : Pos) (g : Con), C.con j x Γ Γ.code T ads = some g → Γ = g.gx → (∀ x ∈ g.nq, x.1 = x.2) → (∀ x ∈ g.oq, x.1 = x.2) → g.ob → Rep B s T m ads tk →
    wpCode M Γ (fun r s' => ∃ N t ν, LeftRep B g ν r s' m ads N t) p s

/-- the trees without what is done to a raise -/
noncomputable def LvOk (M : Model) (C : Cfg) : Prop := ∀ c t env fin, C.lvt c = some (t, env, fin) → ∀ Γ Q E p s, Sem.wp M Γ t Q (fun e p' s' => Sem.wp M Γ (lvH env fin e) (fun _ p'' s'' => E e p'' s'') E p' s') p s → Sem.wp M Γ (M.den c) Q E p s
theorem lvTree_ok {prog : Program} {w : World} {C : Cfg} (h : C.lvt = lvTree) : LvOk (model prog w) C := by
  intro c t env fin e Γ Q E p s H
  rw [h] at e
  cases c with
  | func body env' =>
    cases e
    show Sem.wp _ Γ (do
      point
      match ← (execs body env).onRaise (leaving env) with
      | .ret v => ret v
      | _ => ret .none) Q E p s
    rw [Sem.wp_bind'] at H ⊢
    refine Sem.wp_mono _ Γ _ (fun _ p' s' h' => ?_) (fun e p' s' h' => ?_) p s (show Sem.wp _ Γ point (fun _ p' s' => Sem.wp _ Γ (do
      match ← execs body env with
      | .ret v => ret v
      | _ => ret .none) Q _ p' s') (fun e p' s' => E e p' s') p s from H)
    · rw [Sem.wp_bind'] at h' ⊢
      rw [Sem.wp_onRaise]
      refine Sem.wp_mono _ Γ _ (fun f p' s' h'' => ?_) (fun e p' s' h'' => h'') _ _ h'
      cases f <;> exact h''
    · exact h'
  | whileLoop test body orelse env' =>
    cases e
    show Sem.wp _ Γ ((whileTurn test body orelse env).onRaise (fun x => do noteFrame x env; theTreesLotGoes x)) Q E p s
    rw [Sem.wp_onRaise]; exact H
  | forLoop target it body orelse env' =>
    cases e
    show Sem.wp _ Γ ((forTurn target it body orelse env).onRaise (fun x => do noteFrame x env; theTreesLotGoes x)) Q E p s
    rw [Sem.wp_onRaise]; exact H
  | _ => cases e

section
variable {B : Base} {M : Model} {R : Result → Shared → Prop} {C : Cfg} {ih : RunTy} (hden : C.den = M.den) (hprog : C.prog = M.prog) (hw : C.w = M.w) (hkt : C.kt = B.kt) (hcon : ConOk B M C) (hlv : LvOk M C)
  (IA : ∀ Γ p κ t hs T m ads t0 i nv A, Good B M R (ih Γ p κ t hs T m ads t0 i nv A) → AccOk A)
  (IH : ∀ Γ p κ t hs T m ads t0 i A s, Rep B s T m ads (t0 + i) → (∀ nv, Good B M R (ih Γ p κ t hs T m ads t0 i nv A)) → Mean M R κ Γ p t s)
include IH
include IA in
theorem back_sound {r : Result} : ∀ {κ : K} {hs T m ads t0 i A s} (D : Rep B s T m ads (t0 + i)) (H : ∀ nv, Good B M R (back ih r κ hs T m ads t0 i nv A)), post M R κ r s
  | .base, _, _, _, _, _, _, _, s, D, H => (H fun _ => (0, 0, unk0)).2 s D
  | .ret Γ p k κ, _, _, _, _, _, _, _, s, D, H => by
    have z := IH _ _ _ _ _ _ _ _ _ _ _ s D H
    show Sem.wp M Γ (k r) (Sem.finPost M Γ (posts M R κ).2) _ p s
    rw [posts_drop]; exact z
  | .lv Γ env fin κ, _, _, _, _, _, _, _, s, D, H => by
    cases r with
    | ok f => exact back_sound (κ := κ) D H
    | error e =>
      intro p
      exact leave_sound (P := fun s' => post M R κ (.error e) s') (E := fun e' s' => post M R κ (.error e') s') D (fun _ _ _ _ _ _ _ _ D' H' => back_sound (κ := κ) D' H') (fun _ _ _ _ _ _ _ _ h => back_acc IA h) H Γ p (in_inA Γ)
omit IH in
theorem drop_ok {f : Flow} {s : Shared} : ∀ {κ : K}, post M R κ (.ok f) s → post M R (dropK κ) (.ok f) s
  | .base, h => h
  | .ret .., h => h
  | .lv _ _ _ κ, h => drop_ok (κ := κ) h
omit IH in
include hlv in
theorem lv_enter {c : Code} {t : Sem Fin} {env : Env} {fin : Bool} {Γ : Ctx} {κ : K} {p : Pos} {s : Shared} (hk : dropK κ = κ) (hc : Γ.code = c) (e : C.lvt c = some (t, env, fin)) (h : Mean M R (.lv Γ env fin κ) Γ p t s) : wpCode M Γ (post M R κ) p s := by
  have h : Sem.wp M Γ t (Sem.finPost M Γ (post M R (dropK κ))) (fun e _ s' => post M R (.lv Γ env fin κ) (.error e) s') p s := h
  rw [hk] at h
  rw [wpCode_iff_wp, hc]
  refine hlv c t env fin e Γ _ _ p s (Sem.wp_mono _ Γ _ (fun _ _ _ h' => h') (fun e p' s' h' => ?_) p s h)
  exact Sem.wp_mono _ Γ _ (fun _ _ _ h'' => h'') (fun _ _ _ h'' => h'') p' s' (h' p')
omit IH in
include hcon in
theorem after_sound {Q : Result → Shared → Prop} {go : Result → Run} {hs m ads tk A Γ T j x s p} {g : Con}
    (ga : ∀ r hs T m ads t0 i nv A, Good B M R (go r hs T m ads t0 i nv A) → AccOk A)
    (gs : ∀ r hs T m ads t0 i A s, Rep B s T m ads (t0 + i) → (∀ nv, Good B M R (go r hs T m ads t0 i nv A)) → Q r s)
    (e : C.con j x Γ Γ.code T ads = some g) (D : Rep B s T m ads tk) (H : ∀ nv, Good B M R (after go hs m ads nv A Γ g)) : wpCode M Γ Q p s := by
  obtain ⟨⟨h1, h2, h3, h4⟩, _⟩ := acc_con (after_acc ga (H fun _ => (0, 0, unk0)))
  refine wpCode_mono ?_ (hcon j x Γ T m ads tk s p g e h1 h2 h3 h4 D)
  rintro r s' ⟨N, t, ν, h⟩
  unfold LeftRep at h
  have H' : ∀ nv, Good B M R (after go hs m ads (scons (N, t, ν) nv) A Γ g) := fun nv => H _
  unfold after at H'
  simp only [scons] at H'
  cases hl : g.left ν with
  | mk r' T' l =>
    simp only [hl] at h H'
    obtain ⟨rfl, D'⟩ := h
    cases hp : putNew ν.n 0 l T' m ads with
    | none => simp only [hp] at H'; exact (H' fun _ => (0, 0, unk0)).elim
    | some q =>
      obtain ⟨T2, m2, ads2⟩ := q
      simp only [hp] at H'
      exact gs _ _ _ _ _ _ _ _ s' (D' _ _ _ hp) H'
include hden hprog hw hkt hcon hlv IA
theorem sx1_sound {Γ p κ t hs T m ads t0 i A s} (D : Rep B s T m ads (t0 + i)) (H : ∀ nv, Good B M R (sx1 C ih Γ p κ t hs T m ads t0 i nv A)) : Mean M R κ Γ p t s := by
  have dz : Nv := fun _ => (0, 0, unk0)
  cases t with
  | pure f =>
    cases f with
    | done f =>
      show Sem.wp M Γ (Sem.pure (Fin.done f)) _ _ p s
      rw [Sem.wp_pure]
      exact drop_ok (back_sound IA IH D H)
    | again c =>
      show Sem.wp M Γ (Sem.pure (Fin.again c)) _ _ p s
      rw [Sem.wp_pure]
      cases hq : c.quiet with
      | false => simp only [sx1, hq] at H; exact (H dz).elim
      | true =>
        simp only [sx1, hq] at H
        refine ⟨hq, ?_⟩
        cases hs with
        | nil => exact (H dz).elim
        | cons h hs =>
          match h with
          | 0 => exact (wpCode_iff_wp ..).mpr (by have z := IH _ _ _ _ _ _ _ _ _ _ _ s D H; rw [hden] at z; unfold Mean at z; rw [dropK_dropK] at z; exact z)
          | 1 =>
            simp only at H
            cases hk : dropK κ with
            | base => simp only [hk] at H; exact (H dz).2 s D
            | ret => simp only [hk] at H; exact (H dz).elim
            | lv => simp only [hk] at H; exact (H dz).elim
          | j + 2 =>
            simp only at H
            cases hb : Nat.beq j 999 with
            | true =>
              simp only [hb] at H
              cases hl : C.lvt c with
              | none => simp only [hl] at H; exact (H dz).elim
              | some x =>
                obtain ⟨t', env, fin⟩ := x
                simp only [hl] at H
                exact lv_enter hlv (dropK_dropK κ) rfl hl (IH _ _ _ _ _ _ _ _ _ _ _ s D H)
            | false =>
              simp only [hb] at H
              cases hs with
              | nil => exact (H dz).elim
              | cons x hs =>
                simp only at H
                cases hg : C.con j x (Γ.goto c) c T ads with
                | none => simp only [hg] at H; exact (H dz).elim
                | some g =>
                  simp only [hg] at H
                  exact after_sound (go := fun r => back ih r (dropK κ)) (hs := hs) hcon (fun _ _ _ _ _ _ _ _ _ h => back_acc IA h) (fun _ _ _ _ _ _ _ _ _ D' H' => back_sound IA IH D' H') hg D H
  | raise e =>
    show Sem.wp M Γ (Sem.raise e) _ _ p s
    rw [Sem.wp_raise]
    exact back_sound IA IH D H
  | rule tag k => show Sem.wp M Γ (Sem.rule tag k) _ _ p s; rw [Sem.wp_rule]; exact IH _ _ _ _ _ _ _ _ _ _ _ s D H
  | «at» q k => show Sem.wp M Γ (Sem.at q k) _ _ p s; rw [Sem.wp_at]; exact IH _ _ _ _ _ _ _ _ _ _ _ s D H
  | point l k => show Sem.wp M Γ (Sem.point l k) _ _ p s; rw [Sem.wp_point]; exact IH _ _ _ _ _ _ _ _ _ _ _ s D H
  | ask k =>
    show Sem.wp M Γ (Sem.ask k) _ _ p s
    rw [Sem.wp_ask]
    have z := IH _ _ _ _ _ _ _ _ _ _ _ s D H
    rw [hprog, hw] at z
    exact z
  | load a q k =>
    show Sem.wp M Γ (Sem.load a q k) _ _ p s
    rw [Sem.wp_load]
    simp only [sx1] at H
    cases hs with
    | nil => exact (H dz).elim
    | cons h hs =>
      match h with
      | 0 =>
        cases e : C.kt.get a with
        | none => simp only [e] at H; exact (H dz).elim
        | some o =>
          simp only [e] at H
          exact ⟨o, (D.kt a o (hkt ▸ e)).2, IH _ _ _ _ _ _ _ _ _ _ _ s D H⟩
      | j + 1 =>
        simp only at H
        cases e : T.get j with
        | none => simp only [e] at H; exact (H dz).elim
        | some o =>
          simp only [e] at H
          obtain ⟨ha, _⟩ := acc_eq (IA _ _ _ _ _ _ _ _ _ _ _ _ (H dz))
          exact ⟨o, ha ▸ (D.own j o e).2, IH _ _ _ _ _ _ _ _ _ _ _ s D H⟩
  | loadIfAlive a k =>
    show Sem.wp M Γ (Sem.loadIfAlive a k) _ _ p s
    rw [Sem.wp_loadIfAlive]
    simp only [sx1] at H
    cases hs with
    | nil => exact (H dz).elim
    | cons h hs =>
      match h with
      | 0 =>
        cases e : C.kt.get a with
        | none => simp only [e] at H; exact (H dz).elim
        | some o =>
          simp only [e] at H
          rw [(D.kt a o (hkt ▸ e)).2]
          exact IH _ _ _ _ _ _ _ _ _ _ _ s D H
      | j + 1 =>
        simp only at H
        cases e : T.get j with
        | none => simp only [e] at H; exact (H dz).elim
        | some o =>
          simp only [e] at H
          obtain ⟨ha, _⟩ := acc_eq (IA _ _ _ _ _ _ _ _ _ _ _ _ (H dz))
          rw [ha, (D.own j o e).2]
          exact IH _ _ _ _ _ _ _ _ _ _ _ s D H
  | update a q f k =>
    show Sem.wp M Γ (Sem.update a q f k) _ _ p s
    rw [Sem.wp_update]
    simp only [sx1] at H
    cases hs with
    | nil => exact (H dz).elim
    | cons h hs =>
      match h with
      | 0 => exact (H dz).elim
      | j + 1 =>
        simp only at H
        cases e : T.get j with
        | none => simp only [e] at H; exact (H dz).elim
        | some o =>
          simp only [e] at H
          cases hf : (f o).isFreed with
          | true => simp only [hf] at H; exact (H dz).elim
          | false =>
            simp only [hf] at H
            obtain ⟨ha, _⟩ := acc_eq (IA _ _ _ _ _ _ _ _ _ _ _ _ (H dz))
            subst ha
            exact ⟨by rw [(D.own j o e).2]; rfl, IH _ _ _ _ _ _ _ _ _ _ _ _ (D.update e hf) H⟩
  | alloc o k =>
    show Sem.wp M Γ (Sem.alloc o k) _ _ p s
    rw [Sem.wp_alloc]
    simp only [sx1] at H
    cases hf : o.isFreed with
    | true => simp only [hf] at H; exact (H dz).elim
    | false =>
      simp only [hf] at H
      cases e : (T.ins m o).get m with
      | none => simp only [e] at H; exact (H dz).elim
      | some o' =>
        simp only [e] at H
        rw [D.size]
        exact IH _ _ _ _ _ _ _ _ _ _ _ _ (D.alloc hf (by rw [e]; rfl)) H
  | fresh k =>
    show Sem.wp M Γ (Sem.fresh k) _ _ p s
    rw [Sem.wp_fresh, D.toks]
    exact IH _ _ _ _ _ _ _ _ _ _ _ _ (D.toks ▸ D.fresh) H
  | handled own k =>
    show Sem.wp M Γ (Sem.handled own k) _ _ p s
    rw [Sem.wp_handled]
    cases own <;> exact IH _ _ _ _ _ _ _ _ _ _ _ s D H
  | stack k => show Sem.wp M Γ (Sem.stack k) _ _ p s; rw [Sem.wp_stack]; exact IH _ _ _ _ _ _ _ _ _ _ _ s D H
  | call c hd g l k =>
    show Sem.wp M Γ (Sem.call c hd g l k) _ _ p s
    rw [Sem.wp_call]
    simp only [sx1] at H
    cases hs with
    | nil => exact (H dz).elim
    | cons h hs =>
      match h with
      | 0 => exact (wpCode_iff_wp ..).mpr (by have z := IH _ _ _ _ _ _ _ _ _ _ _ s D H; rw [hden] at z; unfold Mean dropK post posts at z; rw [posts_drop] at z; exact z)
      | j + 1 =>
       simp only at H
       cases hb : Nat.beq j 999 with
       | true =>
        simp only [hb] at H
        cases hl : C.lvt c with
        | none => simp only [hl] at H; exact (H dz).elim
        | some x =>
          obtain ⟨t', env, fin⟩ := x
          simp only [hl] at H
          have z := lv_enter hlv rfl rfl hl (IH _ _ _ _ _ _ _ _ _ _ _ s D H)
          unfold post posts at z; rw [posts_drop] at z; exact z
       | false =>
        simp only [hb] at H
        cases hs with
        | nil => exact (H dz).elim
        | cons x hs =>
          simp only at H
          cases hg : C.con j x (Γ.enter c hd p) c T ads with
          | none => simp only [hg] at H; exact (H dz).elim
          | some g =>
            simp only [hg] at H
            exact after_sound (go := fun r => ih Γ p κ (k r)) (hs := hs) hcon (fun _ _ _ _ _ _ _ _ _ h => IA _ _ _ _ _ _ _ _ _ _ _ _ h) (fun _ _ _ _ _ _ _ _ _ D' H' => IH _ _ _ _ _ _ _ _ _ _ _ _ D' H') hg D H
  | unsupported => exact (H dz).elim
  | finish => exact (H dz).elim
  | register => exact (H dz).elim
  | choose => exact (H dz).elim
  | os => exact (H dz).elim
  | newGen => exact (H dz).elim
  | genState => exact (H dz).elim
  | resume => exact (H dz).elim
  | yield => exact (H dz).elim
  | fork => exact (H dz).elim
  | thread => exact (H dz).elim
  | await => exact (H dz).elim
end
theorem sx_sound {B : Base} {M : Model} {R : Result → Shared → Prop} {C : Cfg} (hden : C.den = M.den) (hprog : C.prog = M.prog) (hw : C.w = M.w) (hkt : C.kt = B.kt) (hcon : ConOk B M C) (hlv : LvOk M C) :
    ∀ n Γ p κ t hs T m ads t0 i A s, Rep B s T m ads (t0 + i) → (∀ nv, Good B M R (sx C n Γ p κ t hs T m ads t0 i nv A)) → Mean M R κ Γ p t s
  | 0 => fun _ _ _ _ _ _ _ _ _ _ _ _ _ H => (H fun _ => (0, 0, unk0)).elim
  | n + 1 => fun _ _ _ _ _ _ _ _ _ _ _ _ D H => sx1_sound hden hprog hw hkt hcon hlv (sx_acc n) (sx_sound hden hprog hw hkt hcon hlv n) D H
end
end Mine
end
section
open PySem PySem.W PySem.Spec PySem.Calls PyProof.Rows
namespace Mine
/-! HdLib -/

noncomputable abbrev Γ0 : PySem.Ctx := ⟨.builtin "claim.caller" {}, none, none, [], none⟩

theorem ends_of_wp {prog : Program} {w : World} {t : Sem Fin} {s : Shared} {R : Result → Shared → Prop} (hreg : s.asleep)
    (h : Sem.wp (model prog w) Γ0 t (Sem.finPost (model prog w) Γ0 fun r s' => R r s' ∧ leftWithCleanup s'.gens = false) (fun e _ s' => R (.error e) s' ∧ leftWithCleanup s'.gens = false) default s) :
    ∃ n r s' s'', runN (denote table) prog w n s ⟨t, .builtin "claim.caller" {}, default, []⟩ = .halted (outcomeOf r) s' ∧
      schedN (denote table) prog w n (.single s ⟨t, .builtin "claim.caller" {}, default, []⟩) = .halted (outcomeOf r) s' ∧ s'.forget = s''.forget ∧ R r s'' := by
  obtain ⟨n, r, s₁, s₂, hs, hn, hfo, hR⟩ := wp_halts_full (M := model prog w) (R := R) hreg h
  exact ⟨n, r, s₂, s₁, hn, hs, hfo, hR⟩

theorem callFrom_wp {c : ClaimW} {tree : List Value → Sem Fin} {w : World} {s : Shared} {free : Addr → Prop} {gens : Prop} {kept : Heap → Prop} (hz : s.asleep) (hgens : s.gens = #[])
    (hspec : ∀ args, c.pre args = true → WData.layableAll args = true →
      ∀ ord : List DictEntry → List DictEntry, (∀ l, (ord l).Perm l) →
      ∃ vs s₁, layAllW c.records (classAt s.heap) w.params ord args s = some (vs, s₁) ∧
        Sem.wp (model c.prog w) Γ0 (tree vs) (Sem.finPost (model c.prog w) Γ0 fun r s' => (c.Ends s args vs s₁ r s' ∧ s'.os = s.os ∧ kept s'.heap) ∧ leftWithCleanup s'.gens = false)
          (fun e _ s' => (c.Ends s args vs s₁ (.error e) s' ∧ s'.os = s.os ∧ kept s'.heap) ∧ leftWithCleanup s'.gens = false) default s₁) :
    c.CallFrom (fun vs => ⟨tree vs, .builtin "claim.caller" {}, default, []⟩) w free gens kept s := by
  intro args hpre hlay ord hord
  obtain ⟨vs, s₁, hlaid, hcode⟩ := hspec args hpre hlay ord hord
  have hal := layAllW_rest _ _ _ hlaid
  obtain ⟨k, r, s', s'', hrun, hsched, hfo, hcase, hos, hkp⟩ := ends_of_wp (prog := c.prog) (w := w) (t := tree vs) (s := s₁)
    (R := fun r s' => c.Ends s args vs s₁ r s' ∧ s'.os = s.os ∧ kept s'.heap) (Shared.asleep_of_life hal.2.2.2 hz) hcode
  obtain ⟨eh, _, _, eo, _⟩ := Shared.forget_eq hfo
  have hcase := hcase.congr eh
  have hkp : kept s'.heap := by first | exact eh ▸ hkp | (rw [eh] at hkp; exact hkp) | (rw [← eh] at hkp; exact hkp)
  rw [← eo] at hos
  have hlife : s'.heap.life = s.heap.life := (runN_life _ _ _ hrun).trans hal.2.2.2
  refine ⟨vs, s₁, hlaid, k, _, s', hsched, ?_, (fun _ i x hx => by rw [hgens] at hx; simp at hx), hkp, by rw [hlife], Shared.rest_eq hos⟩
  rcases hcase with ⟨v, rfl, d1, d2, d3, d4, d5⟩ | ⟨e, ob, cls, rfl, d1, d2, d3, d4, d5⟩
  · exact .inl ⟨v, rfl, d1, d2, d3, fun b o y _ => d4 b o y, d5⟩
  · exact .inr ⟨e, ob, cls, rfl, d1, d2, d3, d4, fun b o y _ => d5 b o y⟩

/-- a law's row from its head and its walk at the claim's own context -/
theorem holds_wp {r : OpenRow} {q : Program} {loose : List Str} {Xt : Shared → Bool} {XP : (Str → Option Value) → Heap → Prop} {α : Type} {Yf : Shared → α} {Ya : World → α} {d : DefRec} {kwd : List (Str × Expr)} {N : Nat}
    (left : LeftO r.prog q loose Xt Yf Ya N)
    (hX : ∀ s, Xt s = true → XP (s.heap.nsMap mainGlobals) s.heap) (hXk : ∀ mg h h', XP mg h → (∀ b o, h.get? b = some o → h'.get? b = some o) → XP mg h')
    (hdef : defOf q r.name = some (d, kwd)) (hp : r.prog.theDef r.name = some (d.params, d.body, d.scope)) (hk : kwWritten? d.params.kwonlyargs d.params.kw_defaults = some kwd) (hRf : ∀ s, Xt s = true → RecFacts r.records s.heap) (hwr : (!r.writes || r.records.isEmpty) = true)
    (k1 : r.wellSaid = true) (ok : (chainsOk q && opensWell r.prog && (frees r.toRowW && r.within.isEmpty)) = true) (hb : r.prog.bare) (hw : r.toRowW.promised)
    (call : ∀ (w : World) (s₀ s₁ : Shared) (mg : Str → Option Value), Yf s₀ = Ya w → s₁.heap.Ns mainGlobals mg → ∀ (a : Addr), mg r.name = some (.ref a) → ∀ (args : List WData) (vs : List Value) (as : List Addr),
      r.toRowW.claim.pre args = true → WData.layableAll args = true → Laid r.toRowW.records w s₀ s₁ args vs as → s₁.gens = #[] →
        Sem.wp (model r.prog w) Γ0 (do ret (← PySem.call (.ref a) vs)) (Sem.finPost (model r.prog w) Γ0 fun res s' => GoodWG r.toRowW.claim (classAt s₀.heap) (ExcName.means s₀.heap) args s₁ res s')
          (fun e _ s' => GoodWG r.toRowW.claim (classAt s₀.heap) (ExcName.means s₀.heap) args s₁ (.error e) s') default s₁) : r.Holds := by
  obtain ⟨ok, k5⟩ := Bool.and_eq_true_iff.mp ok
  obtain ⟨hch, o1⟩ := Bool.and_eq_true_iff.mp ok
  obtain ⟨k5, k6⟩ := Bool.and_eq_true_iff.mp k5
  obtain ⟨hsame, hu, ha, hap, hm⟩ := frees_parts k5
  refine ⟨k1, hw, ⟨hb, o1, by show r.toRowW.makers.map _ = []; rw [hm]; rfl⟩, hw.witness, fun w => ⟨(left.behind hX hch w).1, fun s' hs' => ?_⟩⟩
  obtain ⟨s₀, hf, hg0, s, hT, hz, hgens, hg, G00, y⟩ := (left.behind (XP := fun mg h => XP mg h ∧ RecFacts r.toRowW.records h) (fun s hs => ⟨hX s hs, hRf s hs⟩) hch w).2 s' hs'
  have G0 : Ground q loose [] XP w s (s.heap.nsMap mainGlobals) (s.heap.nsMap builtinsNs) s.heap := ⟨G00.T, G00.B, G00.D, G00.TE, G00.TD, G00.W, G00.X.1, G00.cls, G00.has, G00.apart, G00.once, G00.K⟩
  have RF := G00.X.2
  have hT' := hT
  refine ⟨s₀, hf, hg0, s, hT, (fun n hn => ?_), RF.1, RF.2.1, ?_⟩
  · obtain rfl : n = r.name := by split at hn <;> simp_all
    exact pinned_of_view hg G0 hdef hp hk
  have hgens : s.gens = #[] := Array.eq_empty_of_size_eq_zero (beq_iff_eq.mp hgens)
  have G : Ground q loose r.toRowW.records XP w s _ _ s.heap := RF.ground G0
  refine callFrom_wp (c := r.toRowW.claim) (tree := fun vs => do match ← nsGet mainNs r.name with
      | some f => do ret (← PySem.call f vs)
      | none => unsupported "claim.caller:no-such-global") hz hgens fun args hpre hlay ord hord => ?_
  obtain ⟨⟨vs, s₁⟩, hlaid⟩ := Option.isSome_iff_exists.mp (layAllW_isSome (P := w.params) (ord := ord) G.has args r.toRowW.args s (pre_splitW hpre).1)
  have keeps := layAllW_keeps _ _ _ hlaid
  have hal := layAllW_rest _ _ _ hlaid
  obtain ⟨as, hrd, hin, hold⟩ := reads_layAllW hord _ _ _ hlaid hlay s₁.heap (fun _ _ e => e)
  have L : Laid r.toRowW.records w s s₁ args vs as := ⟨⟨ord, hord, hlaid⟩, hrd, hin, hold, keeps, hal.1.trans hgens, hal.2.2.1⟩
  have G₁ := G.keeps hXk keeps
  obtain ⟨a, o, pm, cd, doc, dV, kV, h1, h2, h3, h4, h5⟩ := G₁.fn hdef
  have hi := ident_freeW hu ha hap
  have hwi : r.toRowW.claim.within = [] := List.isEmpty_iff.mp k6
  have hc := call w s s₁ _ y G₁.T.g a h1 args vs as hpre hlay L L.gens
  refine ⟨vs, s₁, hlaid, ?_⟩
  have goodEnd : ∀ res s', GoodWG r.toRowW.claim (classAt s.heap) (ExcName.means s.heap) args s₁ res s' →
      (r.toRowW.claim.Ends s args vs s₁ res s' ∧ s'.os = s.os ∧ (r.writes = true → namesKept r.toRowW.claim.prog r.keeps s.heap s'.heap ∧ ∀ x ∈ r.toRowW.claim.records, ∀ a, classAt s.heap x.1 = some a → recordClass s'.heap a x.1 (x.2.map (·.1)) = true)) ∧ leftWithCleanup s'.gens = false := by
    intro res s' g
    have z := g.laid (c := r.toRowW.claim) hsame hwi hi L
    exact ⟨⟨z.1, z.2.1, fun q => ⟨namesKept_of hT' hg r.keeps keeps g.2.1.old, noTable hwr q⟩⟩, leftWithCleanup_false_of_bare z.2.2⟩
  have G1g : s₁.heap.Ns mainNs (s.heap.nsMap mainGlobals) := G₁.T.g
  rw [Sem.wp_bind', Sem.wp_nsGet _ _ _ _ _ G1g, show (s.heap.nsMap mainGlobals) r.name = some (.ref a) from h1]
  refine Sem.wp_mono _ _ _ (fun fin p' s' h => ?_) (fun e p' s' h => goodEnd _ _ h) _ _ hc
  cases fin with
  | done f => exact goodEnd _ _ h
  | again c => exact ⟨h.1, wpCode_mono goodEnd h.2⟩
end Mine
end
section
open PySem PySem.W PySem.Calls PyProof.Rows
namespace Mine
/-! HdT -/

/-! ### the head's run over a tree -/
noncomputable def impT (den : Code → Sem Fin) (p : Program) (w : World) : Nat → SharedT → Thread → Option SharedT
  | 0, _, _ => none
  | n + 1, s, t => match t.atExitBegin with
    | some [] => some s
    | some (_ :: _) => none
    | none => match stepT den p w s t with
      | some r => impT den p w n r.1 r.2
      | none => none
noncomputable def topT (den : Code → Sem Fin) (p : Program) (w : World) (n₀ : Nat) (ann : Option Value) : Nat → SharedT → Thread → Option SharedT
  | 0, _, _ => none
  | n + 1, s, t => match through t with
    | true => some s
    | false => match stepOk n₀ ann t with
      | false => none
      | true => match stepT den p w s t with
        | some r => topT den p w n₀ ann n r.1 r.2
        | none => none
theorem impT_of {tb : String → Option Builtin} {p : Program} {w : World} : ∀ {n : Nat} {s s' : SharedT} {t : Thread}, impT (denote tb) p w n s t = some s' → importEnds tb p w n s.abs t = some s'.abs
  | 0, _, _, _, h => by cases h
  | n + 1, s, s', t, h => by
    unfold impT at h
    unfold importEnds
    cases he : t.atExitBegin with
    | some x =>
      rw [he] at h
      cases x with
      | nil => cases h; rfl
      | cons => cases h
    | none =>
      rw [he] at h
      cases hs : stepT (denote tb) p w s t with
      | none => rw [hs] at h; cases h
      | some r => rw [hs] at h; dsimp only; rw [stepT_spec (s' := r.1) (t' := r.2) hs]; exact impT_of h
theorem topT_of {tb : String → Option Builtin} {p : Program} {w : World} {n₀ : Nat} {ann : Option Value} : ∀ {n : Nat} {s s' : SharedT} {t : Thread}, topT (denote tb) p w n₀ ann n s t = some s' → topRun tb p w n₀ ann n s.abs t = some s'.abs
  | 0, _, _, _, h => by cases h
  | n + 1, s, s', t, h => by
    unfold topT at h
    unfold topRun
    cases he : through t with
    | true => rw [he] at h; cases h; rfl
    | false =>
      rw [he] at h
      cases hk : stepOk n₀ ann t with
      | false => rw [hk] at h; cases h
      | true =>
        rw [hk] at h
        cases hs : stepT (denote tb) p w s t with
        | none => rw [hs] at h; cases h
        | some r => rw [hs] at h; dsimp only; rw [stepT_spec (s' := r.1) (t' := r.2) hs]; exact topT_of h

/-- a list as a tree -/
noncomputable def treeOf : Nat → List Obj → BT → BT
  | _, [], t => t
  | i, o :: l, t => treeOf (i + 1) l (t.ins i o)
noncomputable def treeOk (l : List Obj) : Bool := ((List.range l.length).all fun i => ((treeOf 0 l .nil).get i).isSome)
noncomputable def toT (s : Shared) : SharedT := ⟨treeOf 0 s.heap.objs.toList .nil, s.heap.objs.size, s.heap.life, s.gens, s.drawn, s.toks, s.os⟩
/-- the tree bears the heap -/
noncomputable def sameT (s : Shared) : Prop := (toT s).abs = s

structure HdOut where
  s0 : Shared
  s1 : SharedT
noncomputable def headT (den : Code → Sem Fin) (p : Program) (w : World) (N : Nat) : Option HdOut :=
  match impT den (opening p) w N (toT (start (opening p)).1) (start (opening p)).2 with
  | none => none
  | some sT => match fenceModules? p sT.abs with
    | none => none
    | some s0 => match topT den p w s0.heap.objs.size (s0.heap.nsMap mainGlobals "__annotations__") N (toT s0) (topStub p) with
      | none => none
      | some s1 => some ⟨s0, s1⟩

noncomputable def Full (t : BT) (n : Nat) : Prop := ∀ j, (t.get j).isSome = decide (j < n)
theorem full_ins (o : Obj) : ∀ (t : BT) (n : Nat), Full t n → ((t.ins n o).get n).isSome = true
  | .nil, n, h => by
    have h0 : n = 0 := by
      have := h 0
      rw [show (BT.nil.get 0).isSome = false from rfl] at this
      have := of_decide_eq_false this.symm
      omega
    subst h0; rfl
  | .node v l r, n, h => by
    rw [BT.ins_node]
    by_cases h0 : n = 0
    · exfalso
      have := h 0
      rw [BT.get_node, if_pos rfl, h0] at this
      simp at this
    · rw [if_neg h0]
      by_cases p : n % 2 = 1
      · rw [if_pos p, BT.get_node, if_neg h0, if_pos p]
        refine full_ins o l (n / 2) fun j => ?_
        have := h (2 * j + 1)
        rw [BT.get_node, if_neg (Nat.succ_ne_zero _), if_pos (Nat.mul_add_mod 2 j 1), show (2 * j + 1) / 2 = j from Nat.mul_add_div (by decide) j 1] at this
        rw [this]
        exact decide_eq_decide.mpr (by omega)
      · rw [if_neg p, BT.get_node, if_neg h0, if_neg p]
        refine full_ins o r (n / 2 - 1) fun j => ?_
        have := h (2 * j + 2)
        rw [BT.get_node, if_neg (Nat.succ_ne_zero _), if_neg (fun z => absurd ((Nat.mul_add_mod 2 j 2).symm.trans z) (by decide)), show (2 * j + 2) / 2 - 1 = j from congrArg (· - 1) (Nat.mul_add_div (by decide) j 2)] at this
        rw [this]
        exact decide_eq_decide.mpr (by omega)
theorem treeOf_get : ∀ (l : List Obj) (i : Nat) (t : BT), Full t i → ∀ j, (treeOf i l t).get j = if j < i then t.get j else l[j - i]?
  | [], i, t, h, j => by
    show t.get j = _
    by_cases q : j < i
    · rw [if_pos q]
    · rw [if_neg q]
      have := h j
      rw [decide_eq_false q] at this
      simp only [List.getElem?_nil]
      exact Option.isNone_iff_eq_none.mp (by simpa using this)
  | o :: l, i, t, h, j => by
    have hg := full_ins o t i h
    have hf : Full (t.ins i o) (i + 1) := fun k => by
      rw [BT.get_ins o t i hg]
      by_cases e : k = i
      · rw [if_pos e, decide_eq_true (e ▸ Nat.lt_succ_self i)]; rfl
      · rw [if_neg e, h k]
        exact decide_eq_decide.mpr ⟨Nat.lt_succ_of_lt, fun z => Nat.lt_of_le_of_ne (Nat.le_of_lt_succ z) e⟩
    show (treeOf (i + 1) l (t.ins i o)).get j = _
    rw [treeOf_get l (i + 1) _ hf, BT.get_ins o t i hg]
    by_cases q : j < i
    · rw [if_pos q, if_pos (by omega), if_neg (by omega)]
    · rw [if_neg q]
      by_cases e : j = i
      · subst e; rw [if_pos (by omega), if_pos rfl, Nat.sub_self]; rfl
      · rw [if_neg (by omega), show j - i = (j - (i + 1)) + 1 by omega]; rfl
theorem toT_abs (s : Shared) : (toT s).abs = s := by
  obtain ⟨⟨⟨l⟩, life⟩, gens, d, t, os⟩ := s
  have e : absHeap (treeOf 0 l .nil) l.length life = ⟨⟨l⟩, life⟩ := by
    have : (absHeap (treeOf 0 l .nil) l.length life).objs = ⟨l⟩ := by
      apply Array.ext_getElem?
      intro i
      rw [absHeap_at, treeOf_get l 0 .nil (fun j => by simp [BT.get]), if_neg (Nat.not_lt_zero _), Nat.sub_zero]
      by_cases q : i < l.length
      · rw [if_pos q]
        simp [List.getElem?_eq_getElem q]
      · rw [if_neg q]
        simp [List.getElem?_eq_none (Nat.le_of_not_lt q)]
    show Heap.mk _ _ = Heap.mk _ _
    exact congrArg (Heap.mk · life) this
  show Shared.mk (absHeap (treeOf 0 l .nil) l.length life) gens d t os = _
  rw [e]

theorem left_of_eval {p q : Program} {loose : List Str} {Xt : Shared → Bool} {α : Type} {Yf : Shared → α} {Ya : World → α} {N : Nat}
    (h : ∀ w : World, (headT (denote treeTable) p w N).map (fun x => (x.s0.heap.isNs mainGlobals && x.s0.gens.size == 0 && (staticsOk (importedModules p.main.body) x.s0.heap x.s1.abs.heap && namesBound p x.s1.abs.heap && gensDone x.s1.abs && laidKept x.s0.heap x.s1.abs.heap),
      openSeen q loose (importedModules p.main.body) Xt true x.s1.abs, Yf x.s1.abs)) = some (true, openGood q loose, Ya w)) : LeftO p q loose Xt Yf Ya N := fun w => by
  obtain ⟨x, hx, e⟩ := Option.map_eq_some_iff.mp (h w)
  obtain ⟨e1, e2⟩ := Prod.mk.inj e
  obtain ⟨e2, e3⟩ := Prod.mk.inj e2
  obtain ⟨e0, e1⟩ := Bool.and_eq_true_iff.mp e1
  unfold headT at hx
  cases h1 : impT (denote treeTable) (opening p) w N (toT (start (opening p)).1) (start (opening p)).2 with
  | none => rw [h1] at hx; cases hx
  | some sT =>
    rw [h1] at hx
    dsimp only at hx
    cases h2 : fenceModules? p sT.abs with
    | none => rw [h2] at hx; cases hx
    | some s0 =>
      rw [h2] at hx
      dsimp only at hx
      cases h3 : topT (denote treeTable) p w s0.heap.objs.size (s0.heap.nsMap mainGlobals "__annotations__") N (toT s0) (topStub p) with
      | none => rw [h3] at hx; cases hx
      | some s1 =>
        rw [h3] at hx
        cases hx
        have z1 := impT_of h1
        rw [toT_abs] at z1
        have z3 := topT_of h3
        rw [toT_abs] at z3
        have f : topFrom treeTable p w N s0 = some s1.abs := by
          unfold topFrom
          rw [e0, z3]
          show (match staticsOk (importedModules p.main.body) s0.heap s1.abs.heap && namesBound p s1.abs.heap && gensDone s1.abs && laidKept s0.heap s1.abs.heap with | true => _ | false => _) = _
          rw [e1]
        have o : openEnds treeTable p w N = some s1.abs := by
          unfold openEnds fencedOpening
          rw [z1]
          show (Option.bind (fenceModules? p sT.abs) _) = _
          rw [h2]
          exact f
        rw [o]
        exact congrArg some (Prod.ext e2 e3)
/-! HdK -/
/-! ### reading the program's text -/
noncomputable def nthS : Nat → List Stmt → Stmt
  | 0, s :: _ => s
  | n + 1, _ :: r => nthS n r
  | _, [] => .Pass default
noncomputable def clsB : Stmt → List Stmt
  | .ClassDef _ _ _ b _ _ _ _ _ _ _ => b
  | _ => []
noncomputable def fnP : Stmt → Arguments
  | .FunctionDef _ a _ _ _ _ _ _ _ _ => a
  | _ => ⟨[], [], none, [], [], none, []⟩
noncomputable def fnB : Stmt → List Stmt
  | .FunctionDef _ _ b _ _ _ _ _ _ _ => b
  | _ => []
noncomputable def fnS : Stmt → Scope
  | .FunctionDef _ _ _ _ _ _ s _ _ _ => s
  | _ => default
noncomputable def lastS : List Stmt → List Stmt
  | [] => []
  | [s] => [s]
  | _ :: r => lastS r
noncomputable def lawView (p : Program) : Program := { p with main := { p.main with body := lastS p.main.body } }
noncomputable def obsK (as : List Nat) (s : Shared) : List (Option Obj) × Nat × Nat := (as.map s.heap.get?, s.heap.objs.size, s.toks)
noncomputable def anyX : Shared → Bool := fun _ => true
noncomputable def hdLook (p : Program) (loose : List Str) (as : List Nat) (x : HdOut) :=
  (x.s0.heap.isNs mainGlobals && x.s0.gens.size == 0 && (staticsOk (importedModules p.main.body) x.s0.heap x.s1.abs.heap && namesBound p x.s1.abs.heap && gensDone x.s1.abs && laidKept x.s0.heap x.s1.abs.heap),
      openSeen (lawView p) loose (importedModules p.main.body) anyX true x.s1.abs, obsK as x.s1.abs)
noncomputable def hdGood (p : Program) (loose : List Str) := openGood (lawView p) loose
noncomputable def hdVal (K : Params → Frag) (n t : Nat) (w : World) : List (Option Obj) × Nat × Nat := ((K w.params).map fun x => some x.2, n, t)
end Mine
end
section -- HdA02
open PySem PySem.W PySem.Calls PyProof.Rows
lay_quick Mine.headT Mine.hdLook Mine.hdGood
namespace Mine
namespace T02
/-! the objects of the top that the walk meets (written by a small program of ours) -/
noncomputable abbrev F : Program := PySem.Challenge.pw_op0182_02
noncomputable def o0 (P : Params) : Obj := ⟨(.type SL.s14018661285674007319x4), none, (.dict ⟨[⟨PyData.keyHash P ⟨⟨[95, 95, 110, 97, 109, 101, 95, 95]⟩⟩, (.str ⟨⟨[95, 95, 110, 97, 109, 101, 95, 95]⟩⟩ 1), (.str ⟨⟨[98, 117, 105, 108, 116, 105, 110, 115]⟩⟩ 160)⟩,
    ⟨PyData.keyHash P ⟨⟨[95, 95, 100, 111, 99, 95, 95]⟩⟩, (.str ⟨⟨[95, 95, 100, 111, 99, 95, 95]⟩⟩ 2), (.builtin "builtins.__doc__:str#opaque")⟩,
    ⟨PyData.keyHash P ⟨⟨[95, 95, 112, 97, 99, 107, 97, 103, 101, 95, 95]⟩⟩, (.str ⟨⟨[95, 95, 112, 97, 99, 107, 97, 103, 101, 95, 95]⟩⟩ 3), (.builtin "builtins.__package__:str#opaque")⟩,
    ⟨PyData.keyHash P ⟨⟨[95, 95, 108, 111, 97, 100, 101, 114, 95, 95]⟩⟩, (.str ⟨⟨[95, 95, 108, 111, 97, 100, 101, 114, 95, 95]⟩⟩ 4), (.builtin "builtins.__loader__:shared#opaque")⟩,
    ⟨PyData.keyHash P ⟨⟨[95, 95, 115, 112, 101, 99, 95, 95]⟩⟩, (.str ⟨⟨[95, 95, 115, 112, 101, 99, 95, 95]⟩⟩ 5), (.builtin SL.s11665532747177232413x24)⟩,
    ⟨PyData.keyHash P ⟨⟨[95, 95, 98, 117, 105, 108, 100, 95, 99, 108, 97, 115, 115, 95, 95]⟩⟩, (.str ⟨⟨[95, 95, 98, 117, 105, 108, 100, 95, 99, 108, 97, 115, 115, 95, 95]⟩⟩ 6), (.builtin SL.s15183661809925369436x15)⟩,
    ⟨PyData.keyHash P ⟨⟨[95, 95, 105, 109, 112, 111, 114, 116, 95, 95]⟩⟩, (.str ⟨⟨[95, 95, 105, 109, 112, 111, 114, 116, 95, 95]⟩⟩ 7), (.builtin SL.s13915890719876406383x10)⟩,
    ⟨PyData.keyHash P ⟨⟨[97, 98, 115]⟩⟩, (.str ⟨⟨[97, 98, 115]⟩⟩ 8), (.builtin SL.s13459172003223722735x3)⟩,
    ⟨PyData.keyHash P ⟨⟨[97, 108, 108]⟩⟩, (.str ⟨⟨[97, 108, 108]⟩⟩ 9), (.builtin SL.s10557405761357834076x3)⟩,
    ⟨PyData.keyHash P ⟨⟨[97, 110, 121]⟩⟩, (.str ⟨⟨[97, 110, 121]⟩⟩ 10), (.builtin SL.s4233737765568776869x3)⟩,
    ⟨PyData.keyHash P ⟨⟨[97, 115, 99, 105, 105]⟩⟩, (.str ⟨⟨[97, 115, 99, 105, 105]⟩⟩ 11), (.builtin SL.s2508922471967985374x5)⟩,
    ⟨PyData.keyHash P ⟨⟨[98, 105, 110]⟩⟩, (.str ⟨⟨[98, 105, 110]⟩⟩ 12), (.builtin SL.s15574269061696679450x3)⟩,
    ⟨PyData.keyHash P ⟨⟨[98, 114, 101, 97, 107, 112, 111, 105, 110, 116]⟩⟩, (.str ⟨⟨[98, 114, 101, 97, 107, 112, 111, 105, 110, 116]⟩⟩ 13), (.builtin SL.s6016482663378992977x10)⟩,
    ⟨PyData.keyHash P ⟨⟨[99, 97, 108, 108, 97, 98, 108, 101]⟩⟩, (.str ⟨⟨[99, 97, 108, 108, 97, 98, 108, 101]⟩⟩ 14), (.builtin SL.s5596568736180474577x8)⟩,
    ⟨PyData.keyHash P ⟨⟨[99, 104, 114]⟩⟩, (.str ⟨⟨[99, 104, 114]⟩⟩ 15), (.builtin SL.s2839554839881490554x3)⟩,
    ⟨PyData.keyHash P ⟨⟨[99, 111, 109, 112, 105, 108, 101]⟩⟩, (.str ⟨⟨[99, 111, 109, 112, 105, 108, 101]⟩⟩ 16), (.builtin SL.s725004073602090463x7)⟩,
    ⟨PyData.keyHash P ⟨⟨[100, 101, 108, 97, 116, 116, 114]⟩⟩, (.str ⟨⟨[100, 101, 108, 97, 116, 116, 114]⟩⟩ 17), (.builtin SL.s9436932552931045734x7)⟩,
    ⟨PyData.keyHash P ⟨⟨[100, 105, 114]⟩⟩, (.str ⟨⟨[100, 105, 114]⟩⟩ 18), (.builtin SL.s2754603736356183583x3)⟩,
    ⟨PyData.keyHash P ⟨⟨[100, 105, 118, 109, 111, 100]⟩⟩, (.str ⟨⟨[100, 105, 118, 109, 111, 100]⟩⟩ 19), (.builtin SL.s15185746759980889043x6)⟩,
    ⟨PyData.keyHash P ⟨⟨[101, 118, 97, 108]⟩⟩, (.str ⟨⟨[101, 118, 97, 108]⟩⟩ 20), (.builtin SL.s8192189862530294059x4)⟩,
    ⟨PyData.keyHash P ⟨⟨[101, 120, 101, 99]⟩⟩, (.str ⟨⟨[101, 120, 101, 99]⟩⟩ 21), (.builtin SL.s7038307821325472102x4)⟩,
    ⟨PyData.keyHash P ⟨⟨[102, 111, 114, 109, 97, 116]⟩⟩, (.str ⟨⟨[102, 111, 114, 109, 97, 116]⟩⟩ 22), (.builtin SL.s5662562618415449548x6)⟩,
    ⟨PyData.keyHash P ⟨⟨[103, 101, 116, 97, 116, 116, 114]⟩⟩, (.str ⟨⟨[103, 101, 116, 97, 116, 116, 114]⟩⟩ 23), (.builtin SL.s15281542589158584767x7)⟩,
    ⟨PyData.keyHash P ⟨⟨[103, 108, 111, 98, 97, 108, 115]⟩⟩, (.str ⟨⟨[103, 108, 111, 98, 97, 108, 115]⟩⟩ 24), (.builtin SL.s17651547275483570877x7)⟩,
    ⟨PyData.keyHash P ⟨⟨[104, 97, 115, 97, 116, 116, 114]⟩⟩, (.str ⟨⟨[104, 97, 115, 97, 116, 116, 114]⟩⟩ 25), (.builtin SL.s4036449017235975746x7)⟩,
    ⟨PyData.keyHash P ⟨⟨[104, 97, 115, 104]⟩⟩, (.str ⟨⟨[104, 97, 115, 104]⟩⟩ 26), (.builtin SL.s8879979712987360175x4)⟩,
    ⟨PyData.keyHash P ⟨⟨[104, 101, 120]⟩⟩, (.str ⟨⟨[104, 101, 120]⟩⟩ 27), (.builtin SL.s1801250619170735830x3)⟩,
    ⟨PyData.keyHash P ⟨⟨[105, 100]⟩⟩, (.str ⟨⟨[105, 100]⟩⟩ 28), (.builtin SL.s17659931425627118568x2)⟩,
    ⟨PyData.keyHash P ⟨⟨[105, 110, 112, 117, 116]⟩⟩, (.str ⟨⟨[105, 110, 112, 117, 116]⟩⟩ 29), (.builtin SL.s6063217899685152688x5)⟩,
    ⟨PyData.keyHash P ⟨⟨[105, 115, 105, 110, 115, 116, 97, 110, 99, 101]⟩⟩, (.str ⟨⟨[105, 115, 105, 110, 115, 116, 97, 110, 99, 101]⟩⟩ 30), (.builtin SL.s8008927332132565319x10)⟩,
    ⟨PyData.keyHash P ⟨⟨[105, 115, 115, 117, 98, 99, 108, 97, 115, 115]⟩⟩, (.str ⟨⟨[105, 115, 115, 117, 98, 99, 108, 97, 115, 115]⟩⟩ 31), (.builtin SL.s3544116645089599534x10)⟩,
    ⟨PyData.keyHash P ⟨⟨[105, 116, 101, 114]⟩⟩, (.str ⟨⟨[105, 116, 101, 114]⟩⟩ 32), (.builtin SL.s13761710972054866084x4)⟩,
    ⟨PyData.keyHash P ⟨⟨[97, 105, 116, 101, 114]⟩⟩, (.str ⟨⟨[97, 105, 116, 101, 114]⟩⟩ 33), (.builtin SL.s12896375587409280029x5)⟩,
    ⟨PyData.keyHash P ⟨⟨[108, 101, 110]⟩⟩, (.str ⟨⟨[108, 101, 110]⟩⟩ 34), (.builtin SL.s13014049009108672802x3)⟩,
    ⟨PyData.keyHash P ⟨⟨[108, 111, 99, 97, 108, 115]⟩⟩, (.str ⟨⟨[108, 111, 99, 97, 108, 115]⟩⟩ 35), (.builtin SL.s13935586738268321596x6)⟩,
    ⟨PyData.keyHash P ⟨⟨[109, 97, 120]⟩⟩, (.str ⟨⟨[109, 97, 120]⟩⟩ 36), (.builtin SL.s8200498257699607233x3)⟩,
    ⟨PyData.keyHash P ⟨⟨[109, 105, 110]⟩⟩, (.str ⟨⟨[109, 105, 110]⟩⟩ 37), (.builtin SL.s14114244577727609259x3)⟩,
    ⟨PyData.keyHash P ⟨⟨[110, 101, 120, 116]⟩⟩, (.str ⟨⟨[110, 101, 120, 116]⟩⟩ 38), (.builtin SL.s1499430450269397089x4)⟩,
    ⟨PyData.keyHash P ⟨⟨[97, 110, 101, 120, 116]⟩⟩, (.str ⟨⟨[97, 110, 101, 120, 116]⟩⟩ 39), (.builtin SL.s8755793994789770505x5)⟩,
    ⟨PyData.keyHash P ⟨⟨[111, 99, 116]⟩⟩, (.str ⟨⟨[111, 99, 116]⟩⟩ 40), (.builtin SL.s15725212667919936108x3)⟩,
    ⟨PyData.keyHash P ⟨⟨[111, 114, 100]⟩⟩, (.str ⟨⟨[111, 114, 100]⟩⟩ 41), (.builtin SL.s15791221867095933363x3)⟩,
    ⟨PyData.keyHash P ⟨⟨[112, 111, 119]⟩⟩, (.str ⟨⟨[112, 111, 119]⟩⟩ 42), (.builtin SL.s81309575031448614x3)⟩,
    ⟨PyData.keyHash P ⟨⟨[112, 114, 105, 110, 116]⟩⟩, (.str ⟨⟨[112, 114, 105, 110, 116]⟩⟩ 43), (.builtin SL.s8069831620301644142x5)⟩,
    ⟨PyData.keyHash P ⟨⟨[114, 101, 112, 114]⟩⟩, (.str ⟨⟨[114, 101, 112, 114]⟩⟩ 44), (.builtin SL.s10061844253413749634x4)⟩,
    ⟨PyData.keyHash P ⟨⟨[114, 111, 117, 110, 100]⟩⟩, (.str ⟨⟨[114, 111, 117, 110, 100]⟩⟩ 45), (.builtin SL.s9496514870978017513x5)⟩,
    ⟨PyData.keyHash P ⟨⟨[115, 101, 116, 97, 116, 116, 114]⟩⟩, (.str ⟨⟨[115, 101, 116, 97, 116, 116, 114]⟩⟩ 46), (.builtin SL.s8899691144933366716x7)⟩,
    ⟨PyData.keyHash P ⟨⟨[115, 111, 114, 116, 101, 100]⟩⟩, (.str ⟨⟨[115, 111, 114, 116, 101, 100]⟩⟩ 47), (.builtin SL.s15201008993051130160x6)⟩,
    ⟨PyData.keyHash P ⟨⟨[115, 117, 109]⟩⟩, (.str ⟨⟨[115, 117, 109]⟩⟩ 48), (.builtin SL.s741896355592496720x3)⟩,
    ⟨PyData.keyHash P ⟨⟨[118, 97, 114, 115]⟩⟩, (.str ⟨⟨[118, 97, 114, 115]⟩⟩ 49), (.builtin SL.s17925004256654032244x4)⟩,
    ⟨PyData.keyHash P ⟨⟨[78, 111, 110, 101]⟩⟩, (.str ⟨⟨[78, 111, 110, 101]⟩⟩ 50), .none⟩,
    ⟨PyData.keyHash P ⟨⟨[69, 108, 108, 105, 112, 115, 105, 115]⟩⟩, (.str ⟨⟨[69, 108, 108, 105, 112, 115, 105, 115]⟩⟩ 51), .ellipsis⟩,
    ⟨PyData.keyHash P ⟨⟨[78, 111, 116, 73, 109, 112, 108, 101, 109, 101, 110, 116, 101, 100]⟩⟩, (.str ⟨⟨[78, 111, 116, 73, 109, 112, 108, 101, 109, 101, 110, 116, 101, 100]⟩⟩ 52), .notImplemented⟩,
    ⟨PyData.keyHash P ⟨⟨[70, 97, 108, 115, 101]⟩⟩, (.str ⟨⟨[70, 97, 108, 115, 101]⟩⟩ 53), (.bool false)⟩,
    ⟨PyData.keyHash P ⟨⟨[84, 114, 117, 101]⟩⟩, (.str ⟨⟨[84, 114, 117, 101]⟩⟩ 54), (.bool true)⟩,
    ⟨PyData.keyHash P ⟨⟨[98, 111, 111, 108]⟩⟩, (.str ⟨⟨[98, 111, 111, 108]⟩⟩ 55), (.type SL.s11695548795398191787x4)⟩,
    ⟨PyData.keyHash P ⟨⟨[109, 101, 109, 111, 114, 121, 118, 105, 101, 119]⟩⟩, (.str ⟨⟨[109, 101, 109, 111, 114, 121, 118, 105, 101, 119]⟩⟩ 56), (.type SL.s4156966113859768872x10)⟩,
    ⟨PyData.keyHash P ⟨⟨[98, 121, 116, 101, 97, 114, 114, 97, 121]⟩⟩, (.str ⟨⟨[98, 121, 116, 101, 97, 114, 114, 97, 121]⟩⟩ 57), (.type SL.s9501651726347032510x9)⟩,
    ⟨PyData.keyHash P ⟨⟨[98, 121, 116, 101, 115]⟩⟩, (.str ⟨⟨[98, 121, 116, 101, 115]⟩⟩ 58), (.type SL.s15722918466584999320x5)⟩,
    ⟨PyData.keyHash P ⟨⟨[99, 108, 97, 115, 115, 109, 101, 116, 104, 111, 100]⟩⟩, (.str ⟨⟨[99, 108, 97, 115, 115, 109, 101, 116, 104, 111, 100]⟩⟩ 59), (.type SL.s591115383303110208x11)⟩,
    ⟨PyData.keyHash P ⟨⟨[99, 111, 109, 112, 108, 101, 120]⟩⟩, (.str ⟨⟨[99, 111, 109, 112, 108, 101, 120]⟩⟩ 60), (.type SL.s15721156781594690315x7)⟩,
    ⟨PyData.keyHash P ⟨⟨[100, 105, 99, 116]⟩⟩, (.str ⟨⟨[100, 105, 99, 116]⟩⟩ 61), (.type SL.s14018661285674007319x4)⟩,
    ⟨PyData.keyHash P ⟨⟨[101, 110, 117, 109, 101, 114, 97, 116, 101]⟩⟩, (.str ⟨⟨[101, 110, 117, 109, 101, 114, 97, 116, 101]⟩⟩ 62), (.type SL.s14340494229221121180x9)⟩,
    ⟨PyData.keyHash P ⟨⟨[102, 105, 108, 116, 101, 114]⟩⟩, (.str ⟨⟨[102, 105, 108, 116, 101, 114]⟩⟩ 63), (.type SL.s13429844117177748173x6)⟩,
    ⟨PyData.keyHash P ⟨⟨[102, 108, 111, 97, 116]⟩⟩, (.str ⟨⟨[102, 108, 111, 97, 116]⟩⟩ 64), (.type SL.s16463266125957815391x5)⟩,
    ⟨PyData.keyHash P ⟨⟨[102, 114, 111, 122, 101, 110, 115, 101, 116]⟩⟩, (.str ⟨⟨[102, 114, 111, 122, 101, 110, 115, 101, 116]⟩⟩ 65), (.type SL.s4922535414793169389x9)⟩,
    ⟨PyData.keyHash P ⟨⟨[112, 114, 111, 112, 101, 114, 116, 121]⟩⟩, (.str ⟨⟨[112, 114, 111, 112, 101, 114, 116, 121]⟩⟩ 66), (.type SL.s8101838861749082086x8)⟩,
    ⟨PyData.keyHash P ⟨⟨[105, 110, 116]⟩⟩, (.str ⟨⟨[105, 110, 116]⟩⟩ 67), (.type SL.s7066276694103001551x3)⟩,
    ⟨PyData.keyHash P ⟨⟨[108, 105, 115, 116]⟩⟩, (.str ⟨⟨[108, 105, 115, 116]⟩⟩ 68), (.type SL.s9222952809800978799x4)⟩,
    ⟨PyData.keyHash P ⟨⟨[109, 97, 112]⟩⟩, (.str ⟨⟨[109, 97, 112]⟩⟩ 69), (.type SL.s462964344163437139x3)⟩,
    ⟨PyData.keyHash P ⟨⟨[111, 98, 106, 101, 99, 116]⟩⟩, (.str ⟨⟨[111, 98, 106, 101, 99, 116]⟩⟩ 70), (.type SL.s2742458400755230247x6)⟩,
    ⟨PyData.keyHash P ⟨⟨[114, 97, 110, 103, 101]⟩⟩, (.str ⟨⟨[114, 97, 110, 103, 101]⟩⟩ 71), (.type SL.s1438033511350832697x5)⟩,
    ⟨PyData.keyHash P ⟨⟨[114, 101, 118, 101, 114, 115, 101, 100]⟩⟩, (.str ⟨⟨[114, 101, 118, 101, 114, 115, 101, 100]⟩⟩ 72), (.type SL.s14365286008749172514x8)⟩,
    ⟨PyData.keyHash P ⟨⟨[115, 101, 116]⟩⟩, (.str ⟨⟨[115, 101, 116]⟩⟩ 73), (.type SL.s3642769012341782148x3)⟩,
    ⟨PyData.keyHash P ⟨⟨[115, 108, 105, 99, 101]⟩⟩, (.str ⟨⟨[115, 108, 105, 99, 101]⟩⟩ 74), (.type SL.s4674234679698826739x5)⟩,
    ⟨PyData.keyHash P ⟨⟨[115, 116, 97, 116, 105, 99, 109, 101, 116, 104, 111, 100]⟩⟩, (.str ⟨⟨[115, 116, 97, 116, 105, 99, 109, 101, 116, 104, 111, 100]⟩⟩ 75), (.type SL.s16656946322747308186x12)⟩,
    ⟨PyData.keyHash P ⟨⟨[115, 116, 114]⟩⟩, (.str ⟨⟨[115, 116, 114]⟩⟩ 76), (.type SL.s10796804682411823810x3)⟩,
    ⟨PyData.keyHash P ⟨⟨[115, 117, 112, 101, 114]⟩⟩, (.str ⟨⟨[115, 117, 112, 101, 114]⟩⟩ 77), (.type SL.s4290257624100764138x5)⟩,
    ⟨PyData.keyHash P ⟨⟨[116, 117, 112, 108, 101]⟩⟩, (.str ⟨⟨[116, 117, 112, 108, 101]⟩⟩ 78), (.type SL.s2766695959194262286x5)⟩,
    ⟨PyData.keyHash P ⟨⟨[116, 121, 112, 101]⟩⟩, (.str ⟨⟨[116, 121, 112, 101]⟩⟩ 79), (.type SL.s17162191345867700912x4)⟩,
    ⟨PyData.keyHash P ⟨⟨[122, 105, 112]⟩⟩, (.str ⟨⟨[122, 105, 112]⟩⟩ 80), (.type SL.s14339709457334898076x3)⟩,
    ⟨PyData.keyHash P ⟨⟨[95, 95, 100, 101, 98, 117, 103, 95, 95]⟩⟩, (.str ⟨⟨[95, 95, 100, 101, 98, 117, 103, 95, 95]⟩⟩ 81), (.bool true)⟩,
    ⟨PyData.keyHash P ⟨⟨[66, 97, 115, 101, 69, 120, 99, 101, 112, 116, 105, 111, 110]⟩⟩, (.str ⟨⟨[66, 97, 115, 101, 69, 120, 99, 101, 112, 116, 105, 111, 110]⟩⟩ 82), (.type SL.s4278001404047624695x13)⟩,
    ⟨PyData.keyHash P ⟨⟨[66, 97, 115, 101, 69, 120, 99, 101, 112, 116, 105, 111, 110, 71, 114, 111, 117, 112]⟩⟩, (.str ⟨⟨[66, 97, 115, 101, 69, 120, 99, 101, 112, 116, 105, 111, 110, 71, 114, 111, 117, 112]⟩⟩ 83), (.type SL.s6585700554429387442x18)⟩,
    ⟨PyData.keyHash P ⟨⟨[69, 120, 99, 101, 112, 116, 105, 111, 110]⟩⟩, (.str ⟨⟨[69, 120, 99, 101, 112, 116, 105, 111, 110]⟩⟩ 84), (.type SL.s5946037652744460706x9)⟩,
    ⟨PyData.keyHash P ⟨⟨[71, 101, 110, 101, 114, 97, 116, 111, 114, 69, 120, 105, 116]⟩⟩, (.str ⟨⟨[71, 101, 110, 101, 114, 97, 116, 111, 114, 69, 120, 105, 116]⟩⟩ 85), (.type SL.s7410770068591931388x13)⟩,
    ⟨PyData.keyHash P ⟨⟨[75, 101, 121, 98, 111, 97, 114, 100, 73, 110, 116, 101, 114, 114, 117, 112, 116]⟩⟩, (.str ⟨⟨[75, 101, 121, 98, 111, 97, 114, 100, 73, 110, 116, 101, 114, 114, 117, 112, 116]⟩⟩ 86), (.type SL.s11817881795495490833x17)⟩,
    ⟨PyData.keyHash P ⟨⟨[83, 121, 115, 116, 101, 109, 69, 120, 105, 116]⟩⟩, (.str ⟨⟨[83, 121, 115, 116, 101, 109, 69, 120, 105, 116]⟩⟩ 87), (.type SL.s15679963881808890155x10)⟩,
    ⟨PyData.keyHash P ⟨⟨[65, 114, 105, 116, 104, 109, 101, 116, 105, 99, 69, 114, 114, 111, 114]⟩⟩, (.str ⟨⟨[65, 114, 105, 116, 104, 109, 101, 116, 105, 99, 69, 114, 114, 111, 114]⟩⟩ 88), (.type SL.s3871700062485845797x15)⟩,
    ⟨PyData.keyHash P ⟨⟨[65, 115, 115, 101, 114, 116, 105, 111, 110, 69, 114, 114, 111, 114]⟩⟩, (.str ⟨⟨[65, 115, 115, 101, 114, 116, 105, 111, 110, 69, 114, 114, 111, 114]⟩⟩ 89), (.type SL.s7689518266570723881x14)⟩,
    ⟨PyData.keyHash P ⟨⟨[65, 116, 116, 114, 105, 98, 117, 116, 101, 69, 114, 114, 111, 114]⟩⟩, (.str ⟨⟨[65, 116, 116, 114, 105, 98, 117, 116, 101, 69, 114, 114, 111, 114]⟩⟩ 90), (.type SL.s9001593270443806431x14)⟩,
    ⟨PyData.keyHash P ⟨⟨[66, 117, 102, 102, 101, 114, 69, 114, 114, 111, 114]⟩⟩, (.str ⟨⟨[66, 117, 102, 102, 101, 114, 69, 114, 114, 111, 114]⟩⟩ 91), (.type SL.s6882542574934516792x11)⟩,
    ⟨PyData.keyHash P ⟨⟨[69, 79, 70, 69, 114, 114, 111, 114]⟩⟩, (.str ⟨⟨[69, 79, 70, 69, 114, 114, 111, 114]⟩⟩ 92), (.type SL.s14403400214490484960x8)⟩,
    ⟨PyData.keyHash P ⟨⟨[73, 109, 112, 111, 114, 116, 69, 114, 114, 111, 114]⟩⟩, (.str ⟨⟨[73, 109, 112, 111, 114, 116, 69, 114, 114, 111, 114]⟩⟩ 93), (.type SL.s14457978657717015782x11)⟩,
    ⟨PyData.keyHash P ⟨⟨[76, 111, 111, 107, 117, 112, 69, 114, 114, 111, 114]⟩⟩, (.str ⟨⟨[76, 111, 111, 107, 117, 112, 69, 114, 114, 111, 114]⟩⟩ 94), (.type SL.s1753610191782819921x11)⟩,
    ⟨PyData.keyHash P ⟨⟨[77, 101, 109, 111, 114, 121, 69, 114, 114, 111, 114]⟩⟩, (.str ⟨⟨[77, 101, 109, 111, 114, 121, 69, 114, 114, 111, 114]⟩⟩ 95), (.type SL.s14119380538032626715x11)⟩,
    ⟨PyData.keyHash P ⟨⟨[78, 97, 109, 101, 69, 114, 114, 111, 114]⟩⟩, (.str ⟨⟨[78, 97, 109, 101, 69, 114, 114, 111, 114]⟩⟩ 96), (.type SL.s11437920000406562045x9)⟩,
    ⟨PyData.keyHash P ⟨⟨[79, 83, 69, 114, 114, 111, 114]⟩⟩, (.str ⟨⟨[79, 83, 69, 114, 114, 111, 114]⟩⟩ 97), (.type SL.s10852414792293593619x7)⟩,
    ⟨PyData.keyHash P ⟨⟨[82, 101, 102, 101, 114, 101, 110, 99, 101, 69, 114, 114, 111, 114]⟩⟩, (.str ⟨⟨[82, 101, 102, 101, 114, 101, 110, 99, 101, 69, 114, 114, 111, 114]⟩⟩ 98), (.type SL.s14816307405966870543x14)⟩,
    ⟨PyData.keyHash P ⟨⟨[82, 117, 110, 116, 105, 109, 101, 69, 114, 114, 111, 114]⟩⟩, (.str ⟨⟨[82, 117, 110, 116, 105, 109, 101, 69, 114, 114, 111, 114]⟩⟩ 99), (.type SL.s8682627914449686677x12)⟩,
    ⟨PyData.keyHash P ⟨⟨[83, 116, 111, 112, 65, 115, 121, 110, 99, 73, 116, 101, 114, 97, 116, 105, 111, 110]⟩⟩, (.str ⟨⟨[83, 116, 111, 112, 65, 115, 121, 110, 99, 73, 116, 101, 114, 97, 116, 105, 111, 110]⟩⟩ 100), (.type SL.s4428170145600203450x18)⟩,
    ⟨PyData.keyHash P ⟨⟨[83, 116, 111, 112, 73, 116, 101, 114, 97, 116, 105, 111, 110]⟩⟩, (.str ⟨⟨[83, 116, 111, 112, 73, 116, 101, 114, 97, 116, 105, 111, 110]⟩⟩ 101), (.type SL.s5991306692159431302x13)⟩,
    ⟨PyData.keyHash P ⟨⟨[83, 121, 110, 116, 97, 120, 69, 114, 114, 111, 114]⟩⟩, (.str ⟨⟨[83, 121, 110, 116, 97, 120, 69, 114, 114, 111, 114]⟩⟩ 102), (.type SL.s16067994140765818257x11)⟩,
    ⟨PyData.keyHash P ⟨⟨[83, 121, 115, 116, 101, 109, 69, 114, 114, 111, 114]⟩⟩, (.str ⟨⟨[83, 121, 115, 116, 101, 109, 69, 114, 114, 111, 114]⟩⟩ 103), (.type SL.s2327743974964600596x11)⟩,
    ⟨PyData.keyHash P ⟨⟨[84, 121, 112, 101, 69, 114, 114, 111, 114]⟩⟩, (.str ⟨⟨[84, 121, 112, 101, 69, 114, 114, 111, 114]⟩⟩ 104), (.type SL.s2804747833354056582x9)⟩,
    ⟨PyData.keyHash P ⟨⟨[86, 97, 108, 117, 101, 69, 114, 114, 111, 114]⟩⟩, (.str ⟨⟨[86, 97, 108, 117, 101, 69, 114, 114, 111, 114]⟩⟩ 105), (.type SL.s6070975301684473832x10)⟩,
    ⟨PyData.keyHash P ⟨⟨[87, 97, 114, 110, 105, 110, 103]⟩⟩, (.str ⟨⟨[87, 97, 114, 110, 105, 110, 103]⟩⟩ 106), (.type SL.s14270485950484850486x7)⟩,
    ⟨PyData.keyHash P ⟨⟨[70, 108, 111, 97, 116, 105, 110, 103, 80, 111, 105, 110, 116, 69, 114, 114, 111, 114]⟩⟩, (.str ⟨⟨[70, 108, 111, 97, 116, 105, 110, 103, 80, 111, 105, 110, 116, 69, 114, 114, 111, 114]⟩⟩ 107), (.type SL.s12041534306414923332x18)⟩,
    ⟨PyData.keyHash P ⟨⟨[79, 118, 101, 114, 102, 108, 111, 119, 69, 114, 114, 111, 114]⟩⟩, (.str ⟨⟨[79, 118, 101, 114, 102, 108, 111, 119, 69, 114, 114, 111, 114]⟩⟩ 108), (.type SL.s2531307568338490285x13)⟩,
    ⟨PyData.keyHash P ⟨⟨[90, 101, 114, 111, 68, 105, 118, 105, 115, 105, 111, 110, 69, 114, 114, 111, 114]⟩⟩, (.str ⟨⟨[90, 101, 114, 111, 68, 105, 118, 105, 115, 105, 111, 110, 69, 114, 114, 111, 114]⟩⟩ 109), (.type SL.s631175304937289666x17)⟩,
    ⟨PyData.keyHash P ⟨⟨[66, 121, 116, 101, 115, 87, 97, 114, 110, 105, 110, 103]⟩⟩, (.str ⟨⟨[66, 121, 116, 101, 115, 87, 97, 114, 110, 105, 110, 103]⟩⟩ 110), (.type SL.s5144983644357021410x12)⟩,
    ⟨PyData.keyHash P ⟨⟨[68, 101, 112, 114, 101, 99, 97, 116, 105, 111, 110, 87, 97, 114, 110, 105, 110, 103]⟩⟩, (.str ⟨⟨[68, 101, 112, 114, 101, 99, 97, 116, 105, 111, 110, 87, 97, 114, 110, 105, 110, 103]⟩⟩ 111), (.type SL.s18039099521571816885x18)⟩,
    ⟨PyData.keyHash P ⟨⟨[69, 110, 99, 111, 100, 105, 110, 103, 87, 97, 114, 110, 105, 110, 103]⟩⟩, (.str ⟨⟨[69, 110, 99, 111, 100, 105, 110, 103, 87, 97, 114, 110, 105, 110, 103]⟩⟩ 112), (.type SL.s6011586214260557989x15)⟩,
    ⟨PyData.keyHash P ⟨⟨[70, 117, 116, 117, 114, 101, 87, 97, 114, 110, 105, 110, 103]⟩⟩, (.str ⟨⟨[70, 117, 116, 117, 114, 101, 87, 97, 114, 110, 105, 110, 103]⟩⟩ 113), (.type SL.s5430567037509283100x13)⟩,
    ⟨PyData.keyHash P ⟨⟨[73, 109, 112, 111, 114, 116, 87, 97, 114, 110, 105, 110, 103]⟩⟩, (.str ⟨⟨[73, 109, 112, 111, 114, 116, 87, 97, 114, 110, 105, 110, 103]⟩⟩ 114), (.type SL.s8117915138073963741x13)⟩,
    ⟨PyData.keyHash P ⟨⟨[80, 101, 110, 100, 105, 110, 103, 68, 101, 112, 114, 101, 99, 97, 116, 105, 111, 110, 87, 97, 114, 110, 105, 110, 103]⟩⟩, (.str ⟨⟨[80, 101, 110, 100, 105, 110, 103, 68, 101, 112, 114, 101, 99, 97, 116, 105, 111, 110, 87, 97, 114, 110, 105, 110, 103]⟩⟩ 115), (.type SL.s3423317712779056401x25)⟩,
    ⟨PyData.keyHash P ⟨⟨[82, 101, 115, 111, 117, 114, 99, 101, 87, 97, 114, 110, 105, 110, 103]⟩⟩, (.str ⟨⟨[82, 101, 115, 111, 117, 114, 99, 101, 87, 97, 114, 110, 105, 110, 103]⟩⟩ 116), (.type SL.s2007317383269046180x15)⟩,
    ⟨PyData.keyHash P ⟨⟨[82, 117, 110, 116, 105, 109, 101, 87, 97, 114, 110, 105, 110, 103]⟩⟩, (.str ⟨⟨[82, 117, 110, 116, 105, 109, 101, 87, 97, 114, 110, 105, 110, 103]⟩⟩ 117), (.type SL.s17481586968713580700x14)⟩,
    ⟨PyData.keyHash P ⟨⟨[83, 121, 110, 116, 97, 120, 87, 97, 114, 110, 105, 110, 103]⟩⟩, (.str ⟨⟨[83, 121, 110, 116, 97, 120, 87, 97, 114, 110, 105, 110, 103]⟩⟩ 118), (.type SL.s2450899226349176912x13)⟩,
    ⟨PyData.keyHash P ⟨⟨[85, 110, 105, 99, 111, 100, 101, 87, 97, 114, 110, 105, 110, 103]⟩⟩, (.str ⟨⟨[85, 110, 105, 99, 111, 100, 101, 87, 97, 114, 110, 105, 110, 103]⟩⟩ 119), (.type SL.s16626165730633575011x14)⟩,
    ⟨PyData.keyHash P ⟨⟨[85, 115, 101, 114, 87, 97, 114, 110, 105, 110, 103]⟩⟩, (.str ⟨⟨[85, 115, 101, 114, 87, 97, 114, 110, 105, 110, 103]⟩⟩ 120), (.type SL.s14288496050688921416x11)⟩,
    ⟨PyData.keyHash P ⟨⟨[66, 108, 111, 99, 107, 105, 110, 103, 73, 79, 69, 114, 114, 111, 114]⟩⟩, (.str ⟨⟨[66, 108, 111, 99, 107, 105, 110, 103, 73, 79, 69, 114, 114, 111, 114]⟩⟩ 121), (.type SL.s5735081916595925998x15)⟩,
    ⟨PyData.keyHash P ⟨⟨[67, 104, 105, 108, 100, 80, 114, 111, 99, 101, 115, 115, 69, 114, 114, 111, 114]⟩⟩, (.str ⟨⟨[67, 104, 105, 108, 100, 80, 114, 111, 99, 101, 115, 115, 69, 114, 114, 111, 114]⟩⟩ 122), (.type SL.s3865607918536308442x17)⟩,
    ⟨PyData.keyHash P ⟨⟨[67, 111, 110, 110, 101, 99, 116, 105, 111, 110, 69, 114, 114, 111, 114]⟩⟩, (.str ⟨⟨[67, 111, 110, 110, 101, 99, 116, 105, 111, 110, 69, 114, 114, 111, 114]⟩⟩ 123), (.type SL.s13337502604062700212x15)⟩,
    ⟨PyData.keyHash P ⟨⟨[70, 105, 108, 101, 69, 120, 105, 115, 116, 115, 69, 114, 114, 111, 114]⟩⟩, (.str ⟨⟨[70, 105, 108, 101, 69, 120, 105, 115, 116, 115, 69, 114, 114, 111, 114]⟩⟩ 124), (.type SL.s13114017843053701147x15)⟩,
    ⟨PyData.keyHash P ⟨⟨[70, 105, 108, 101, 78, 111, 116, 70, 111, 117, 110, 100, 69, 114, 114, 111, 114]⟩⟩, (.str ⟨⟨[70, 105, 108, 101, 78, 111, 116, 70, 111, 117, 110, 100, 69, 114, 114, 111, 114]⟩⟩ 125), (.type SL.s17467278006356818441x17)⟩,
    ⟨PyData.keyHash P ⟨⟨[73, 110, 116, 101, 114, 114, 117, 112, 116, 101, 100, 69, 114, 114, 111, 114]⟩⟩, (.str ⟨⟨[73, 110, 116, 101, 114, 114, 117, 112, 116, 101, 100, 69, 114, 114, 111, 114]⟩⟩ 126), (.type SL.s17722149559621369488x16)⟩,
    ⟨PyData.keyHash P ⟨⟨[73, 115, 65, 68, 105, 114, 101, 99, 116, 111, 114, 121, 69, 114, 114, 111, 114]⟩⟩, (.str ⟨⟨[73, 115, 65, 68, 105, 114, 101, 99, 116, 111, 114, 121, 69, 114, 114, 111, 114]⟩⟩ 127), (.type SL.s7855274175708717672x17)⟩,
    ⟨PyData.keyHash P ⟨⟨[78, 111, 116, 65, 68, 105, 114, 101, 99, 116, 111, 114, 121, 69, 114, 114, 111, 114]⟩⟩, (.str ⟨⟨[78, 111, 116, 65, 68, 105, 114, 101, 99, 116, 111, 114, 121, 69, 114, 114, 111, 114]⟩⟩ 128), (.type SL.s13351283678309829046x18)⟩,
    ⟨PyData.keyHash P ⟨⟨[80, 101, 114, 109, 105, 115, 115, 105, 111, 110, 69, 114, 114, 111, 114]⟩⟩, (.str ⟨⟨[80, 101, 114, 109, 105, 115, 115, 105, 111, 110, 69, 114, 114, 111, 114]⟩⟩ 129), (.type SL.s6668348653404991179x15)⟩,
    ⟨PyData.keyHash P ⟨⟨[80, 114, 111, 99, 101, 115, 115, 76, 111, 111, 107, 117, 112, 69, 114, 114, 111, 114]⟩⟩, (.str ⟨⟨[80, 114, 111, 99, 101, 115, 115, 76, 111, 111, 107, 117, 112, 69, 114, 114, 111, 114]⟩⟩ 130), (.type SL.s12913350958174193794x18)⟩,
    ⟨PyData.keyHash P ⟨⟨[84, 105, 109, 101, 111, 117, 116, 69, 114, 114, 111, 114]⟩⟩, (.str ⟨⟨[84, 105, 109, 101, 111, 117, 116, 69, 114, 114, 111, 114]⟩⟩ 131), (.type SL.s16115879512475548326x12)⟩,
    ⟨PyData.keyHash P ⟨⟨[73, 110, 100, 101, 110, 116, 97, 116, 105, 111, 110, 69, 114, 114, 111, 114]⟩⟩, (.str ⟨⟨[73, 110, 100, 101, 110, 116, 97, 116, 105, 111, 110, 69, 114, 114, 111, 114]⟩⟩ 132), (.type SL.s15920661018069861047x16)⟩,
    ⟨PyData.keyHash P ⟨⟨[95, 73, 110, 99, 111, 109, 112, 108, 101, 116, 101, 73, 110, 112, 117, 116, 69, 114, 114, 111, 114]⟩⟩, (.str ⟨⟨[95, 73, 110, 99, 111, 109, 112, 108, 101, 116, 101, 73, 110, 112, 117, 116, 69, 114, 114, 111, 114]⟩⟩ 133), (.type SL.s10779130036587390575x21)⟩,
    ⟨PyData.keyHash P ⟨⟨[73, 110, 100, 101, 120, 69, 114, 114, 111, 114]⟩⟩, (.str ⟨⟨[73, 110, 100, 101, 120, 69, 114, 114, 111, 114]⟩⟩ 134), (.type SL.s7801419657504700863x10)⟩,
    ⟨PyData.keyHash P ⟨⟨[75, 101, 121, 69, 114, 114, 111, 114]⟩⟩, (.str ⟨⟨[75, 101, 121, 69, 114, 114, 111, 114]⟩⟩ 135), (.type SL.s1688129525768580628x8)⟩,
    ⟨PyData.keyHash P ⟨⟨[77, 111, 100, 117, 108, 101, 78, 111, 116, 70, 111, 117, 110, 100, 69, 114, 114, 111, 114]⟩⟩, (.str ⟨⟨[77, 111, 100, 117, 108, 101, 78, 111, 116, 70, 111, 117, 110, 100, 69, 114, 114, 111, 114]⟩⟩ 136), (.type SL.s1031832959479892071x19)⟩,
    ⟨PyData.keyHash P ⟨⟨[78, 111, 116, 73, 109, 112, 108, 101, 109, 101, 110, 116, 101, 100, 69, 114, 114, 111, 114]⟩⟩, (.str ⟨⟨[78, 111, 116, 73, 109, 112, 108, 101, 109, 101, 110, 116, 101, 100, 69, 114, 114, 111, 114]⟩⟩ 137), (.type SL.s8991790508128307865x19)⟩,
    ⟨PyData.keyHash P ⟨⟨[80, 121, 116, 104, 111, 110, 70, 105, 110, 97, 108, 105, 122, 97, 116, 105, 111, 110, 69, 114, 114, 111, 114]⟩⟩, (.str ⟨⟨[80, 121, 116, 104, 111, 110, 70, 105, 110, 97, 108, 105, 122, 97, 116, 105, 111, 110, 69, 114, 114, 111, 114]⟩⟩ 138), (.type SL.s14539662485746970245x23)⟩,
    ⟨PyData.keyHash P ⟨⟨[82, 101, 99, 117, 114, 115, 105, 111, 110, 69, 114, 114, 111, 114]⟩⟩, (.str ⟨⟨[82, 101, 99, 117, 114, 115, 105, 111, 110, 69, 114, 114, 111, 114]⟩⟩ 139), (.type SL.s11643622729373238714x14)⟩,
    ⟨PyData.keyHash P ⟨⟨[85, 110, 98, 111, 117, 110, 100, 76, 111, 99, 97, 108, 69, 114, 114, 111, 114]⟩⟩, (.str ⟨⟨[85, 110, 98, 111, 117, 110, 100, 76, 111, 99, 97, 108, 69, 114, 114, 111, 114]⟩⟩ 140), (.type SL.s3386828779285465597x17)⟩,
    ⟨PyData.keyHash P ⟨⟨[85, 110, 105, 99, 111, 100, 101, 69, 114, 114, 111, 114]⟩⟩, (.str ⟨⟨[85, 110, 105, 99, 111, 100, 101, 69, 114, 114, 111, 114]⟩⟩ 141), (.type SL.s13042696260734638735x12)⟩,
    ⟨PyData.keyHash P ⟨⟨[66, 114, 111, 107, 101, 110, 80, 105, 112, 101, 69, 114, 114, 111, 114]⟩⟩, (.str ⟨⟨[66, 114, 111, 107, 101, 110, 80, 105, 112, 101, 69, 114, 114, 111, 114]⟩⟩ 142), (.type SL.s18239426817015966623x15)⟩,
    ⟨PyData.keyHash P ⟨⟨[67, 111, 110, 110, 101, 99, 116, 105, 111, 110, 65, 98, 111, 114, 116, 101, 100, 69, 114, 114, 111, 114]⟩⟩, (.str ⟨⟨[67, 111, 110, 110, 101, 99, 116, 105, 111, 110, 65, 98, 111, 114, 116, 101, 100, 69, 114, 114, 111, 114]⟩⟩ 143), (.type SL.s1270395311379034370x22)⟩,
    ⟨PyData.keyHash P ⟨⟨[67, 111, 110, 110, 101, 99, 116, 105, 111, 110, 82, 101, 102, 117, 115, 101, 100, 69, 114, 114, 111, 114]⟩⟩, (.str ⟨⟨[67, 111, 110, 110, 101, 99, 116, 105, 111, 110, 82, 101, 102, 117, 115, 101, 100, 69, 114, 114, 111, 114]⟩⟩ 144), (.type SL.s10696252587037064777x22)⟩,
    ⟨PyData.keyHash P ⟨⟨[67, 111, 110, 110, 101, 99, 116, 105, 111, 110, 82, 101, 115, 101, 116, 69, 114, 114, 111, 114]⟩⟩, (.str ⟨⟨[67, 111, 110, 110, 101, 99, 116, 105, 111, 110, 82, 101, 115, 101, 116, 69, 114, 114, 111, 114]⟩⟩ 145), (.type SL.s7852717498200857586x20)⟩,
    ⟨PyData.keyHash P ⟨⟨[84, 97, 98, 69, 114, 114, 111, 114]⟩⟩, (.str ⟨⟨[84, 97, 98, 69, 114, 114, 111, 114]⟩⟩ 146), (.type SL.s6377248116197321094x8)⟩,
    ⟨PyData.keyHash P ⟨⟨[85, 110, 105, 99, 111, 100, 101, 68, 101, 99, 111, 100, 101, 69, 114, 114, 111, 114]⟩⟩, (.str ⟨⟨[85, 110, 105, 99, 111, 100, 101, 68, 101, 99, 111, 100, 101, 69, 114, 114, 111, 114]⟩⟩ 147), (.type SL.s3834378056692298002x18)⟩,
    ⟨PyData.keyHash P ⟨⟨[85, 110, 105, 99, 111, 100, 101, 69, 110, 99, 111, 100, 101, 69, 114, 114, 111, 114]⟩⟩, (.str ⟨⟨[85, 110, 105, 99, 111, 100, 101, 69, 110, 99, 111, 100, 101, 69, 114, 114, 111, 114]⟩⟩ 148), (.type SL.s17586630440231065808x18)⟩,
    ⟨PyData.keyHash P ⟨⟨[85, 110, 105, 99, 111, 100, 101, 84, 114, 97, 110, 115, 108, 97, 116, 101, 69, 114, 114, 111, 114]⟩⟩, (.str ⟨⟨[85, 110, 105, 99, 111, 100, 101, 84, 114, 97, 110, 115, 108, 97, 116, 101, 69, 114, 114, 111, 114]⟩⟩ 149), (.type SL.s15234114252648025395x21)⟩,
    ⟨PyData.keyHash P ⟨⟨[69, 120, 99, 101, 112, 116, 105, 111, 110, 71, 114, 111, 117, 112]⟩⟩, (.str ⟨⟨[69, 120, 99, 101, 112, 116, 105, 111, 110, 71, 114, 111, 117, 112]⟩⟩ 150), (.type SL.s8496462677383758984x14)⟩,
    ⟨PyData.keyHash P ⟨⟨[69, 110, 118, 105, 114, 111, 110, 109, 101, 110, 116, 69, 114, 114, 111, 114]⟩⟩, (.str ⟨⟨[69, 110, 118, 105, 114, 111, 110, 109, 101, 110, 116, 69, 114, 114, 111, 114]⟩⟩ 151), (.type SL.s10852414792293593619x7)⟩,
    ⟨PyData.keyHash P ⟨⟨[73, 79, 69, 114, 114, 111, 114]⟩⟩, (.str ⟨⟨[73, 79, 69, 114, 114, 111, 114]⟩⟩ 152), (.type SL.s10852414792293593619x7)⟩,
    ⟨PyData.keyHash P ⟨⟨[111, 112, 101, 110]⟩⟩, (.str ⟨⟨[111, 112, 101, 110]⟩⟩ 153), (.builtin SL.s16789243406116112673x4)⟩,
    ⟨PyData.keyHash P ⟨⟨[113, 117, 105, 116]⟩⟩, (.str ⟨⟨[113, 117, 105, 116]⟩⟩ 154), (.builtin SL.s14400166428656793546x20)⟩,
    ⟨PyData.keyHash P ⟨⟨[101, 120, 105, 116]⟩⟩, (.str ⟨⟨[101, 120, 105, 116]⟩⟩ 155), (.builtin SL.s5857708277339239366x20)⟩,
    ⟨PyData.keyHash P ⟨⟨[99, 111, 112, 121, 114, 105, 103, 104, 116]⟩⟩, (.str ⟨⟨[99, 111, 112, 121, 114, 105, 103, 104, 116]⟩⟩ 156), (.builtin "builtins.copyright#opaque")⟩,
    ⟨PyData.keyHash P ⟨⟨[99, 114, 101, 100, 105, 116, 115]⟩⟩, (.str ⟨⟨[99, 114, 101, 100, 105, 116, 115]⟩⟩ 157), (.builtin "builtins.credits#opaque")⟩,
    ⟨PyData.keyHash P ⟨⟨[108, 105, 99, 101, 110, 115, 101]⟩⟩, (.str ⟨⟨[108, 105, 99, 101, 110, 115, 101]⟩⟩ 158), (.builtin "builtins.license#opaque")⟩,
    ⟨PyData.keyHash P ⟨⟨[104, 101, 108, 112]⟩⟩, (.str ⟨⟨[104, 101, 108, 112]⟩⟩ 159), (.builtin SL.s7804999707787243718x20)⟩]⟩ 159), ⟨[]⟩⟩
noncomputable def o2 (P : Params) : Obj := ⟨.none, none, (.dict ⟨[⟨PyData.keyHash P ⟨⟨[105, 109, 112, 111, 114, 116, 46, 108, 111, 97, 100, 101, 100, 46, 95, 99, 111, 108, 108, 101, 99, 116, 105, 111, 110, 115]⟩⟩, (.str ⟨⟨[105, 109, 112, 111, 114, 116, 46, 108, 111, 97, 100, 101, 100, 46, 95, 99, 111, 108, 108, 101, 99, 116, 105, 111, 110, 115]⟩⟩ 185), (.bool true)⟩,
    ⟨PyData.keyHash P ⟨⟨[99, 108, 97, 115, 115, 46, 95, 102, 114, 111, 122, 101, 110, 95, 105, 109, 112, 111, 114, 116, 108, 105, 98, 46, 66, 117, 105, 108, 116, 105, 110, 73, 109, 112, 111, 114, 116, 101, 114]⟩⟩, (.str ⟨⟨[99, 108, 97, 115, 115, 46, 95, 102, 114, 111, 122, 101, 110, 95, 105, 109, 112, 111, 114, 116, 108, 105, 98, 46, 66, 117, 105, 108, 116, 105, 110, 73, 109, 112, 111, 114, 116, 101, 114]⟩⟩ 187), (.ref 15)⟩,
    ⟨PyData.keyHash P ⟨⟨[119, 97, 116, 99, 104, 101, 100, 46, 105, 109, 112, 111, 114, 116]⟩⟩, (.str ⟨⟨[119, 97, 116, 99, 104, 101, 100, 46, 105, 109, 112, 111, 114, 116]⟩⟩ 208), (.ref 19)⟩,
    ⟨PyData.keyHash P ⟨⟨[99, 108, 97, 115, 115, 46, 95, 102, 114, 111, 122, 101, 110, 95, 105, 109, 112, 111, 114, 116, 108, 105, 98, 46, 77, 111, 100, 117, 108, 101, 83, 112, 101, 99]⟩⟩, (.str ⟨⟨[99, 108, 97, 115, 115, 46, 95, 102, 114, 111, 122, 101, 110, 95, 105, 109, 112, 111, 114, 116, 108, 105, 98, 46, 77, 111, 100, 117, 108, 101, 83, 112, 101, 99]⟩⟩ 218), (.ref 23)⟩,
    ⟨PyData.keyHash P ⟨⟨[115, 121, 115, 46, 109, 111, 100, 117, 108, 101, 115, 46, 98, 111, 111, 107, 101, 100, 45, 101, 112, 111, 99, 104]⟩⟩, (.str ⟨⟨[115, 121, 115, 46, 109, 111, 100, 117, 108, 101, 115, 46, 98, 111, 111, 107, 101, 100, 45, 101, 112, 111, 99, 104]⟩⟩ 247), (.int (3) 0)⟩,
    ⟨PyData.keyHash P ⟨⟨[115, 121, 115, 46, 109, 111, 100, 117, 108, 101, 115, 46, 108, 97, 110, 100, 101, 100, 46, 95, 99, 111, 108, 108, 101, 99, 116, 105, 111, 110, 115]⟩⟩, (.str ⟨⟨[115, 121, 115, 46, 109, 111, 100, 117, 108, 101, 115, 46, 108, 97, 110, 100, 101, 100, 46, 95, 99, 111, 108, 108, 101, 99, 116, 105, 111, 110, 115]⟩⟩ 248), (.bool true)⟩,
    ⟨PyData.keyHash P ⟨⟨[105, 109, 112, 111, 114, 116, 46, 108, 97, 116, 101, 114, 45, 108, 97, 105, 100, 46, 95, 99, 111, 108, 108, 101, 99, 116, 105, 111, 110, 115]⟩⟩, (.str ⟨⟨[105, 109, 112, 111, 114, 116, 46, 108, 97, 116, 101, 114, 45, 108, 97, 105, 100, 46, 95, 99, 111, 108, 108, 101, 99, 116, 105, 111, 110, 115]⟩⟩ 263), (.bool true)⟩,
    ⟨PyData.keyHash P ⟨⟨[119, 97, 116, 99, 104, 101, 100, 46, 108, 105, 98, 114, 97, 114, 121]⟩⟩, (.str ⟨⟨[119, 97, 116, 99, 104, 101, 100, 46, 108, 105, 98, 114, 97, 114, 121]⟩⟩ 265), (.ref 28)⟩,
    ⟨PyData.keyHash P ⟨⟨[119, 97, 116, 99, 104, 101, 100, 46, 108, 105, 98, 114, 97, 114, 121, 45, 111, 98, 106, 101, 99, 116, 115]⟩⟩, (.str ⟨⟨[119, 97, 116, 99, 104, 101, 100, 46, 108, 105, 98, 114, 97, 114, 121, 45, 111, 98, 106, 101, 99, 116, 115]⟩⟩ 0), (.str ⟨⟨[13]⟩⟩ 0)⟩,
    ⟨PyData.keyHash P ⟨⟨[119, 97, 116, 99, 104, 101, 100, 46, 108, 105, 98, 114, 97, 114, 121, 45, 100, 101, 101, 112, 46, 95, 99, 111, 108, 108, 101, 99, 116, 105, 111, 110, 115]⟩⟩, (.str ⟨⟨[119, 97, 116, 99, 104, 101, 100, 46, 108, 105, 98, 114, 97, 114, 121, 45, 100, 101, 101, 112, 46, 95, 99, 111, 108, 108, 101, 99, 116, 105, 111, 110, 115]⟩⟩ 266), (.str ⟨⟨[4, 0, 0, 12, 4, 0, 0, 12, 4, 0, 0, 3, 4, 0, 0, 12, 8, 4, 100, 105, 99, 116, 2]⟩⟩ 0)⟩,
    ⟨PyData.keyHash P ⟨⟨[116, 121, 112, 101, 46, 95, 95, 115, 117, 98, 99, 108, 97, 115, 115, 101, 115, 95, 95, 46, 79, 83, 69, 114, 114, 111, 114, 46, 48]⟩⟩, (.str ⟨⟨[116, 121, 112, 101, 46, 95, 95, 115, 117, 98, 99, 108, 97, 115, 115, 101, 115, 95, 95, 46, 79, 83, 69, 114, 114, 111, 114, 46, 48]⟩⟩ 322), (.int (63) 0)⟩,
    ⟨PyData.keyHash P ⟨⟨[116, 121, 112, 101, 46, 95, 95, 115, 117, 98, 99, 108, 97, 115, 115, 101, 115, 95, 95, 46, 79, 83, 69, 114, 114, 111, 114, 46, 110]⟩⟩, (.str ⟨⟨[116, 121, 112, 101, 46, 95, 95, 115, 117, 98, 99, 108, 97, 115, 115, 101, 115, 95, 95, 46, 79, 83, 69, 114, 114, 111, 114, 46, 110]⟩⟩ 323), (.int (1) 0)⟩]⟩ 12), ⟨[]⟩⟩
noncomputable def o3 (P : Params) : Obj := ⟨(.type SL.s14018661285674007319x4), none, (.dict ⟨[⟨PyData.keyHash P ⟨⟨[95, 95, 110, 97, 109, 101, 95, 95]⟩⟩, (.str ⟨⟨[95, 95, 110, 97, 109, 101, 95, 95]⟩⟩ 165), (.str ⟨⟨[108, 97, 119, 95, 111, 112, 48, 49, 56, 50, 95, 48, 50]⟩⟩ 1165)⟩,
    ⟨PyData.keyHash P ⟨⟨[95, 95, 100, 111, 99, 95, 95]⟩⟩, (.str ⟨⟨[95, 95, 100, 111, 99, 95, 95]⟩⟩ 166), .none⟩,
    ⟨PyData.keyHash P ⟨⟨[95, 95, 112, 97, 99, 107, 97, 103, 101, 95, 95]⟩⟩, (.str ⟨⟨[95, 95, 112, 97, 99, 107, 97, 103, 101, 95, 95]⟩⟩ 167), .none⟩,
    ⟨PyData.keyHash P ⟨⟨[95, 95, 108, 111, 97, 100, 101, 114, 95, 95]⟩⟩, (.str ⟨⟨[95, 95, 108, 111, 97, 100, 101, 114, 95, 95]⟩⟩ 168), (.builtin SL.s7097527257260152453x26)⟩,
    ⟨PyData.keyHash P ⟨⟨[95, 95, 115, 112, 101, 99, 95, 95]⟩⟩, (.str ⟨⟨[95, 95, 115, 112, 101, 99, 95, 95]⟩⟩ 169), .none⟩,
    ⟨PyData.keyHash P ⟨⟨[95, 95, 97, 110, 110, 111, 116, 97, 116, 105, 111, 110, 115, 95, 95]⟩⟩, (.str ⟨⟨[95, 95, 97, 110, 110, 111, 116, 97, 116, 105, 111, 110, 115, 95, 95]⟩⟩ 170), (.ref 6)⟩,
    ⟨PyData.keyHash P ⟨⟨[95, 95, 98, 117, 105, 108, 116, 105, 110, 115, 95, 95]⟩⟩, (.str ⟨⟨[95, 95, 98, 117, 105, 108, 116, 105, 110, 115, 95, 95]⟩⟩ 171), (.ref 4)⟩,
    ⟨PyData.keyHash P ⟨⟨[95, 95, 102, 105, 108, 101, 95, 95]⟩⟩, (.str ⟨⟨[95, 95, 102, 105, 108, 101, 95, 95]⟩⟩ 173), (.str ⟨⟨[47, 99, 108, 97, 105, 109, 47, 99, 117, 116, 46, 112, 121]⟩⟩ 172)⟩,
    ⟨PyData.keyHash P ⟨⟨[95, 95, 99, 97, 99, 104, 101, 100, 95, 95]⟩⟩, (.str ⟨⟨[95, 95, 99, 97, 99, 104, 101, 100, 95, 95]⟩⟩ 174), .none⟩,
    ⟨PyData.keyHash P ⟨⟨[100, 101, 113, 117, 101]⟩⟩, (.str ⟨⟨[100, 101, 113, 117, 101]⟩⟩ 272), (.type SL.s5314052453082223887x17)⟩,
    ⟨PyData.keyHash P ⟨⟨[95, 119, 97, 108, 108]⟩⟩, (.str ⟨⟨[95, 119, 97, 108, 108]⟩⟩ 285), (.ref 39)⟩,
    ⟨PyData.keyHash P ⟨⟨[95, 119, 104, 101, 110, 99, 101]⟩⟩, (.str ⟨⟨[95, 119, 104, 101, 110, 99, 101]⟩⟩ 295), (.ref 46)⟩,
    ⟨PyData.keyHash P ⟨⟨[95, 105, 110, 100, 101, 120]⟩⟩, (.str ⟨⟨[95, 105, 110, 100, 101, 120]⟩⟩ 303), (.ref 53)⟩,
    ⟨PyData.keyHash P ⟨⟨[85, 110, 115, 117, 112, 112, 111, 114, 116, 101, 100, 79, 112, 101, 114, 97, 116, 105, 111, 110]⟩⟩, (.str ⟨⟨[85, 110, 115, 117, 112, 112, 111, 114, 116, 101, 100, 79, 112, 101, 114, 97, 116, 105, 111, 110]⟩⟩ 325), (.ref 63)⟩,
    ⟨PyData.keyHash P ⟨⟨[73, 79, 66, 97, 115, 101]⟩⟩, (.str ⟨⟨[73, 79, 66, 97, 115, 101]⟩⟩ 357), (.ref 83)⟩,
    ⟨PyData.keyHash P ⟨⟨[66, 117, 102, 102, 101, 114, 101, 100, 73, 79, 66, 97, 115, 101]⟩⟩, (.str ⟨⟨[66, 117, 102, 102, 101, 114, 101, 100, 73, 79, 66, 97, 115, 101]⟩⟩ 375), (.ref 98)⟩,
    ⟨PyData.keyHash P ⟨⟨[84, 101, 120, 116, 73, 79, 66, 97, 115, 101]⟩⟩, (.str ⟨⟨[84, 101, 120, 116, 73, 79, 66, 97, 115, 101]⟩⟩ 393), (.ref 110)⟩,
    ⟨PyData.keyHash P ⟨⟨[66, 121, 116, 101, 115, 73, 79]⟩⟩, (.str ⟨⟨[66, 121, 116, 101, 115, 73, 79]⟩⟩ 655), (.ref 340)⟩,
    ⟨PyData.keyHash P ⟨⟨[83, 116, 114, 105, 110, 103, 73, 79]⟩⟩, (.str ⟨⟨[83, 116, 114, 105, 110, 103, 73, 79]⟩⟩ 942), (.ref 587)⟩,
    ⟨PyData.keyHash P ⟨⟨[95, 107, 105, 110, 100]⟩⟩, (.str ⟨⟨[95, 107, 105, 110, 100]⟩⟩ 953), (.ref 596)⟩,
    ⟨PyData.keyHash P ⟨⟨[95, 102, 115, 112, 97, 116, 104]⟩⟩, (.str ⟨⟨[95, 102, 115, 112, 97, 116, 104]⟩⟩ 962), (.ref 603)⟩,
    ⟨PyData.keyHash P ⟨⟨[95, 99, 104, 101, 99, 107, 95, 97, 114, 103, 95, 116, 121, 112, 101, 115]⟩⟩, (.str ⟨⟨[95, 99, 104, 101, 99, 107, 95, 97, 114, 103, 95, 116, 121, 112, 101, 115]⟩⟩ 972), (.ref 610)⟩,
    ⟨PyData.keyHash P ⟨⟨[105, 115, 97, 98, 115]⟩⟩, (.str ⟨⟨[105, 115, 97, 98, 115]⟩⟩ 979), (.ref 617)⟩,
    ⟨PyData.keyHash P ⟨⟨[106, 111, 105, 110]⟩⟩, (.str ⟨⟨[106, 111, 105, 110]⟩⟩ 990), (.ref 624)⟩,
    ⟨PyData.keyHash P ⟨⟨[100, 105, 114, 110, 97, 109, 101]⟩⟩, (.str ⟨⟨[100, 105, 114, 110, 97, 109, 101]⟩⟩ 1000), (.ref 631)⟩,
    ⟨PyData.keyHash P ⟨⟨[115, 104, 108, 101, 120]⟩⟩, (.str ⟨⟨[115, 104, 108, 101, 120]⟩⟩ 1141), (.ref 722)⟩,
    ⟨PyData.keyHash P ⟨⟨[115, 112, 108, 105, 116]⟩⟩, (.str ⟨⟨[115, 112, 108, 105, 116]⟩⟩ 1151), (.ref 734)⟩,
    ⟨PyData.keyHash P ⟨⟨[95, 98, 121, 116, 101, 115, 119, 97, 112]⟩⟩, (.str ⟨⟨[95, 98, 121, 116, 101, 115, 119, 97, 112]⟩⟩ 1164), (.ref 741)⟩,
    ⟨PyData.keyHash P ⟨⟨[95, 108, 97, 119, 95, 108, 105, 110, 101]⟩⟩, (.str ⟨⟨[95, 108, 97, 119, 95, 108, 105, 110, 101]⟩⟩ 1172), (.ref 746)⟩,
    ⟨PyData.keyHash P ⟨⟨[95, 108, 97, 119, 95, 99, 111, 117, 110, 116, 115]⟩⟩, (.str ⟨⟨[95, 108, 97, 119, 95, 99, 111, 117, 110, 116, 115]⟩⟩ 1178), (.ref 751)⟩,
    ⟨PyData.keyHash P ⟨⟨[95, 108, 97, 119, 95, 98, 101, 104, 105, 110, 100]⟩⟩, (.str ⟨⟨[95, 108, 97, 119, 95, 98, 101, 104, 105, 110, 100]⟩⟩ 1184), (.ref 756)⟩,
    ⟨PyData.keyHash P ⟨⟨[95, 108, 97, 119, 95, 116, 111, 108, 100]⟩⟩, (.str ⟨⟨[95, 108, 97, 119, 95, 116, 111, 108, 100]⟩⟩ 1200), (.ref 763)⟩,
    ⟨PyData.keyHash P ⟨⟨[108, 97, 119]⟩⟩, (.str ⟨⟨[108, 97, 119]⟩⟩ 1206), (.ref 768)⟩]⟩ 33), ⟨[]⟩⟩
noncomputable def o52 (P : Params) : Obj := ⟨(.type SL.s5856160107412720595x4), none, (.fields ⟨[(.str ⟨⟨[95, 105, 110, 100, 101, 120]⟩⟩ 296), (.str ⟨⟨[95, 105, 110, 100, 101, 120]⟩⟩ 297), (.str ⟨⟨[47, 99, 108, 97, 105, 109, 47, 99, 117, 116, 46, 112, 121]⟩⟩ 298), (.int (11) 0), (.int (2) 0), (.int (0) 0), (.int (0) 0), (.int (3) 0), (.ref 47), (.bool true), (.int (273) 0), (.ref 48), .none, (.ref 49), (.ref 50), (.ref 51), (.int (301) 0), (.int (11) 0), (.str ⟨⟨[47, 99, 108, 97, 105, 109, 47, 99, 117, 116, 46, 112, 121]⟩⟩ 302)]⟩), ⟨[]⟩⟩
noncomputable def o53 (P : Params) : Obj := ⟨(.type SL.s7174869446012820540x8), none, (.func { name := ⟨⟨[95, 105, 110, 100, 101, 120]⟩⟩, qualname := ⟨⟨[95, 105, 110, 100, 101, 120]⟩⟩, params := fnP (nthS 4 F.main.body), body := .stmts (fnB (nthS 4 F.main.body)), scope := fnS (nthS 4 F.main.body), globals := 3, closure := [], defaults := .none, kwdefaults := .none, doc := .none, pyModule := (.str ⟨⟨[105, 111]⟩⟩ 286), annotations := none, code := (.ref 52), closureTuple := .none, builtins := 0 }), ⟨[]⟩⟩
noncomputable def o79 (P : Params) : Obj := ⟨(.type SL.s5856160107412720595x4), none, (.fields ⟨[(.str ⟨⟨[95, 95, 110, 101, 119, 95, 95]⟩⟩ 340), (.str ⟨⟨[73, 79, 66, 97, 115, 101, 46, 95, 95, 110, 101, 119, 95, 95]⟩⟩ 341), (.str ⟨⟨[47, 99, 108, 97, 105, 109, 47, 99, 117, 116, 46, 112, 121]⟩⟩ 342), (.int (23) 0), (.int (1) 0), (.int (1) 0), (.int (0) 0), (.int (15) 0), (.ref 74), (.bool true), (.int (273) 0), (.ref 75), .none, (.ref 76), (.ref 77), (.ref 78), (.int (346) 0), (.int (23) 0), (.str ⟨⟨[47, 99, 108, 97, 105, 109, 47, 99, 117, 116, 46, 112, 121]⟩⟩ 347)]⟩), ⟨[]⟩⟩
noncomputable def o80 (P : Params) : Obj := ⟨(.type SL.s7174869446012820540x8), none, (.func { name := ⟨⟨[95, 95, 110, 101, 119, 95, 95]⟩⟩, qualname := ⟨⟨[73, 79, 66, 97, 115, 101, 46, 95, 95, 110, 101, 119, 95, 95]⟩⟩, params := fnP (nthS 1 (clsB (nthS 6 F.main.body))), body := .stmts (fnB (nthS 1 (clsB (nthS 6 F.main.body)))), scope := fnS (nthS 1 (clsB (nthS 6 F.main.body))), globals := 3, closure := [], defaults := .none, kwdefaults := .none, doc := .none, pyModule := (.str ⟨⟨[105, 111]⟩⟩ 286), annotations := none, code := (.ref 79), closureTuple := .none, builtins := 0 }), ⟨[]⟩⟩
noncomputable def o82 (P : Params) : Obj := ⟨(.type SL.s14018661285674007319x4), none, (.dict ⟨[⟨PyData.keyHash P ⟨⟨[95, 95, 109, 111, 100, 117, 108, 101, 95, 95]⟩⟩, (.str ⟨⟨[95, 95, 109, 111, 100, 117, 108, 101, 95, 95]⟩⟩ 333), (.str ⟨⟨[105, 111]⟩⟩ 338)⟩,
    ⟨PyData.keyHash P ⟨⟨[95, 95, 102, 105, 114, 115, 116, 108, 105, 110, 101, 110, 111, 95, 95]⟩⟩, (.str ⟨⟨[95, 95, 102, 105, 114, 115, 116, 108, 105, 110, 101, 110, 111, 95, 95]⟩⟩ 337), (.int (20) 336)⟩,
    ⟨PyData.keyHash P ⟨⟨[95, 95, 110, 101, 119, 95, 95]⟩⟩, (.str ⟨⟨[95, 95, 110, 101, 119, 95, 95]⟩⟩ 348), (.ref 84)⟩,
    ⟨PyData.keyHash P ⟨⟨[95, 95, 115, 116, 97, 116, 105, 99, 95, 97, 116, 116, 114, 105, 98, 117, 116, 101, 115, 95, 95]⟩⟩, (.str ⟨⟨[95, 95, 115, 116, 97, 116, 105, 99, 95, 97, 116, 116, 114, 105, 98, 117, 116, 101, 115, 95, 95]⟩⟩ 349), (.ref 81)⟩,
    ⟨PyData.keyHash P ⟨⟨[95, 95, 100, 105, 99, 116, 95, 95]⟩⟩, (.str ⟨⟨[95, 95, 100, 105, 99, 116, 95, 95]⟩⟩ 352), (.ref 85)⟩,
    ⟨PyData.keyHash P ⟨⟨[95, 95, 119, 101, 97, 107, 114, 101, 102, 95, 95]⟩⟩, (.str ⟨⟨[95, 95, 119, 101, 97, 107, 114, 101, 102, 95, 95]⟩⟩ 354), (.ref 86)⟩,
    ⟨PyData.keyHash P ⟨⟨[95, 95, 100, 111, 99, 95, 95]⟩⟩, (.str ⟨⟨[95, 95, 100, 111, 99, 95, 95]⟩⟩ 355), .none⟩]⟩ 4), ⟨[]⟩⟩
noncomputable def o83 (P : Params) : Obj := ⟨(.type SL.s17162191345867700912x4), none, (.cls { name := ⟨⟨[73, 79, 66, 97, 115, 101]⟩⟩, bases := [(.type SL.s2742458400755230247x6)], mro := [(.ref 83), (.type SL.s2742458400755230247x6)], ns := 82, qualname := ⟨⟨[73, 79, 66, 97, 115, 101]⟩⟩, hasDict := true, slotNames := [], subclasses := [(.ref 98), (.ref 110)], abstract := false, collection := none, hasDel := false }), ⟨[none, none, (some (.str ⟨⟨[73, 79, 66, 97, 115, 101]⟩⟩ 326)), (some (.str ⟨⟨[73, 79, 66, 97, 115, 101]⟩⟩ 334)), (some .none), (some (.bool true))]⟩⟩
noncomputable def o84 (P : Params) : Obj := ⟨(.type SL.s16656946322747308186x12), none, (.fields ⟨[(.ref 80)]⟩), ⟨[]⟩⟩
noncomputable def o109 (P : Params) : Obj := ⟨(.type SL.s14018661285674007319x4), none, (.dict ⟨[⟨PyData.keyHash P ⟨⟨[95, 95, 109, 111, 100, 117, 108, 101, 95, 95]⟩⟩, (.str ⟨⟨[95, 95, 109, 111, 100, 117, 108, 101, 95, 95]⟩⟩ 383), (.str ⟨⟨[105, 111]⟩⟩ 388)⟩,
    ⟨PyData.keyHash P ⟨⟨[95, 95, 102, 105, 114, 115, 116, 108, 105, 110, 101, 110, 111, 95, 95]⟩⟩, (.str ⟨⟨[95, 95, 102, 105, 114, 115, 116, 108, 105, 110, 101, 110, 111, 95, 95]⟩⟩ 387), (.int (29) 386)⟩,
    ⟨PyData.keyHash P ⟨⟨[95, 95, 115, 116, 97, 116, 105, 99, 95, 97, 116, 116, 114, 105, 98, 117, 116, 101, 115, 95, 95]⟩⟩, (.str ⟨⟨[95, 95, 115, 116, 97, 116, 105, 99, 95, 97, 116, 116, 114, 105, 98, 117, 116, 101, 115, 95, 95]⟩⟩ 390), (.ref 108)⟩,
    ⟨PyData.keyHash P ⟨⟨[95, 95, 100, 111, 99, 95, 95]⟩⟩, (.str ⟨⟨[95, 95, 100, 111, 99, 95, 95]⟩⟩ 391), .none⟩]⟩ 2), ⟨[]⟩⟩
noncomputable def o110 (P : Params) : Obj := ⟨(.type SL.s17162191345867700912x4), none, (.cls { name := ⟨⟨[84, 101, 120, 116, 73, 79, 66, 97, 115, 101]⟩⟩, bases := [(.ref 83)], mro := [(.ref 110), (.ref 83), (.type SL.s2742458400755230247x6)], ns := 109, qualname := ⟨⟨[84, 101, 120, 116, 73, 79, 66, 97, 115, 101]⟩⟩, hasDict := true, slotNames := [], subclasses := [(.ref 587)], abstract := false, collection := none, hasDel := false }), ⟨[(some (.ref 101)), none, (some (.str ⟨⟨[84, 101, 120, 116, 73, 79, 66, 97, 115, 101]⟩⟩ 376)), (some (.str ⟨⟨[84, 101, 120, 116, 73, 79, 66, 97, 115, 101]⟩⟩ 384)), (some .none), (some (.bool true))]⟩⟩
noncomputable def o340 (P : Params) : Obj := ⟨(.type SL.s17162191345867700912x4), none, (.cls { name := ⟨⟨[66, 121, 116, 101, 115, 73, 79]⟩⟩, bases := [(.ref 98)], mro := [(.ref 340), (.ref 98), (.ref 83), (.type SL.s2742458400755230247x6)], ns := 339, qualname := ⟨⟨[66, 121, 116, 101, 115, 73, 79]⟩⟩, hasDict := true, slotNames := [], subclasses := [], abstract := false, collection := none, hasDel := false }), ⟨[(some (.ref 113)), none, (some (.str ⟨⟨[66, 121, 116, 101, 115, 73, 79]⟩⟩ 394)), (some (.str ⟨⟨[66, 121, 116, 101, 115, 73, 79]⟩⟩ 402)), (some .none), (some (.bool true))]⟩⟩
noncomputable def o350 (P : Params) : Obj := ⟨(.type SL.s2766695959194262286x5), none, (.seq ⟨[(.str ⟨⟨[]⟩⟩ 670), (.str ⟨⟨[10]⟩⟩ 671)]⟩ 0), ⟨[]⟩⟩
noncomputable def o356 (P : Params) : Obj := ⟨(.type SL.s5856160107412720595x4), none, (.fields ⟨[(.str ⟨⟨[95, 95, 105, 110, 105, 116, 95, 95]⟩⟩ 672), (.str ⟨⟨[83, 116, 114, 105, 110, 103, 73, 79, 46, 95, 95, 105, 110, 105, 116, 95, 95]⟩⟩ 673), (.str ⟨⟨[47, 99, 108, 97, 105, 109, 47, 99, 117, 116, 46, 112, 121]⟩⟩ 674), (.int (204) 0), (.int (3) 0), (.int (0) 0), (.int (0) 0), (.int (3) 0), (.ref 351), (.bool true), (.int (273) 0), (.ref 352), .none, (.ref 353), (.ref 354), (.ref 355), (.int (678) 0), (.int (204) 0), (.str ⟨⟨[47, 99, 108, 97, 105, 109, 47, 99, 117, 116, 46, 112, 121]⟩⟩ 679)]⟩), ⟨[]⟩⟩
noncomputable def o357 (P : Params) : Obj := ⟨(.type SL.s7174869446012820540x8), none, (.func { name := ⟨⟨[95, 95, 105, 110, 105, 116, 95, 95]⟩⟩, qualname := ⟨⟨[83, 116, 114, 105, 110, 103, 73, 79, 46, 95, 95, 105, 110, 105, 116, 95, 95]⟩⟩, params := fnP (nthS 1 (clsB (nthS 10 F.main.body))), body := .stmts (fnB (nthS 1 (clsB (nthS 10 F.main.body)))), scope := fnS (nthS 1 (clsB (nthS 10 F.main.body))), globals := 3, closure := [], defaults := (.ref 350), kwdefaults := .none, doc := .none, pyModule := (.str ⟨⟨[105, 111]⟩⟩ 286), annotations := none, code := (.ref 356), closureTuple := .none, builtins := 0 }), ⟨[]⟩⟩
noncomputable def o363 (P : Params) : Obj := ⟨(.type SL.s5856160107412720595x4), none, (.fields ⟨[(.str ⟨⟨[95, 95, 116, 114, 97, 110, 115, 108, 97, 116, 101, 100]⟩⟩ 681), (.str ⟨⟨[83, 116, 114, 105, 110, 103, 73, 79, 46, 95, 95, 116, 114, 97, 110, 115, 108, 97, 116, 101, 100]⟩⟩ 682), (.str ⟨⟨[47, 99, 108, 97, 105, 109, 47, 99, 117, 116, 46, 112, 121]⟩⟩ 683), (.int (217) 0), (.int (2) 0), (.int (0) 0), (.int (0) 0), (.int (3) 0), (.ref 358), (.bool true), (.int (273) 0), (.ref 359), .none, (.ref 360), (.ref 361), (.ref 362), (.int (687) 0), (.int (217) 0), (.str ⟨⟨[47, 99, 108, 97, 105, 109, 47, 99, 117, 116, 46, 112, 121]⟩⟩ 688)]⟩), ⟨[]⟩⟩
noncomputable def o364 (P : Params) : Obj := ⟨(.type SL.s7174869446012820540x8), none, (.func { name := ⟨⟨[95, 95, 116, 114, 97, 110, 115, 108, 97, 116, 101, 100]⟩⟩, qualname := ⟨⟨[83, 116, 114, 105, 110, 103, 73, 79, 46, 95, 95, 116, 114, 97, 110, 115, 108, 97, 116, 101, 100]⟩⟩, params := fnP (nthS 2 (clsB (nthS 10 F.main.body))), body := .stmts (fnB (nthS 2 (clsB (nthS 10 F.main.body)))), scope := fnS (nthS 2 (clsB (nthS 10 F.main.body))), globals := 3, closure := [], defaults := .none, kwdefaults := .none, doc := .none, pyModule := (.str ⟨⟨[105, 111]⟩⟩ 286), annotations := none, code := (.ref 363), closureTuple := .none, builtins := 0 }), ⟨[]⟩⟩
noncomputable def o370 (P : Params) : Obj := ⟨(.type SL.s5856160107412720595x4), none, (.fields ⟨[(.str ⟨⟨[95, 95, 99, 104, 101, 99, 107]⟩⟩ 690), (.str ⟨⟨[83, 116, 114, 105, 110, 103, 73, 79, 46, 95, 95, 99, 104, 101, 99, 107]⟩⟩ 691), (.str ⟨⟨[47, 99, 108, 97, 105, 109, 47, 99, 117, 116, 46, 112, 121]⟩⟩ 692), (.int (225) 0), (.int (1) 0), (.int (0) 0), (.int (0) 0), (.int (3) 0), (.ref 365), (.bool true), (.int (273) 0), (.ref 366), .none, (.ref 367), (.ref 368), (.ref 369), (.int (694) 0), (.int (225) 0), (.str ⟨⟨[47, 99, 108, 97, 105, 109, 47, 99, 117, 116, 46, 112, 121]⟩⟩ 695)]⟩), ⟨[]⟩⟩
noncomputable def o371 (P : Params) : Obj := ⟨(.type SL.s7174869446012820540x8), none, (.func { name := ⟨⟨[95, 95, 99, 104, 101, 99, 107]⟩⟩, qualname := ⟨⟨[83, 116, 114, 105, 110, 103, 73, 79, 46, 95, 95, 99, 104, 101, 99, 107]⟩⟩, params := fnP (nthS 3 (clsB (nthS 10 F.main.body))), body := .stmts (fnB (nthS 3 (clsB (nthS 10 F.main.body)))), scope := fnS (nthS 3 (clsB (nthS 10 F.main.body))), globals := 3, closure := [], defaults := .none, kwdefaults := .none, doc := .none, pyModule := (.str ⟨⟨[105, 111]⟩⟩ 286), annotations := none, code := (.ref 370), closureTuple := .none, builtins := 0 }), ⟨[]⟩⟩
noncomputable def o526 (P : Params) : Obj := ⟨(.type SL.s2766695959194262286x5), none, (.seq ⟨[(.int (-1) 863)]⟩ 0), ⟨[]⟩⟩
noncomputable def o532 (P : Params) : Obj := ⟨(.type SL.s5856160107412720595x4), none, (.fields ⟨[(.str ⟨⟨[114, 101, 97, 100]⟩⟩ 864), (.str ⟨⟨[83, 116, 114, 105, 110, 103, 73, 79, 46, 114, 101, 97, 100]⟩⟩ 865), (.str ⟨⟨[47, 99, 108, 97, 105, 109, 47, 99, 117, 116, 46, 112, 121]⟩⟩ 866), (.int (347) 0), (.int (2) 0), (.int (2) 0), (.int (0) 0), (.int (3) 0), (.ref 527), (.bool true), (.int (273) 0), (.ref 528), .none, (.ref 529), (.ref 530), (.ref 531), (.int (871) 0), (.int (347) 0), (.str ⟨⟨[47, 99, 108, 97, 105, 109, 47, 99, 117, 116, 46, 112, 121]⟩⟩ 872)]⟩), ⟨[]⟩⟩
noncomputable def o533 (P : Params) : Obj := ⟨(.type SL.s7174869446012820540x8), none, (.func { name := ⟨⟨[114, 101, 97, 100]⟩⟩, qualname := ⟨⟨[83, 116, 114, 105, 110, 103, 73, 79, 46, 114, 101, 97, 100]⟩⟩, params := fnP (nthS 25 (clsB (nthS 10 F.main.body))), body := .stmts (fnB (nthS 25 (clsB (nthS 10 F.main.body)))), scope := fnS (nthS 25 (clsB (nthS 10 F.main.body))), globals := 3, closure := [], defaults := (.ref 526), kwdefaults := .none, doc := .none, pyModule := (.str ⟨⟨[105, 111]⟩⟩ 286), annotations := none, code := (.ref 532), closureTuple := .none, builtins := 0 }), ⟨[]⟩⟩
noncomputable def o586 (P : Params) : Obj := ⟨(.type SL.s14018661285674007319x4), none, (.dict ⟨[⟨PyData.keyHash P ⟨⟨[95, 95, 109, 111, 100, 117, 108, 101, 95, 95]⟩⟩, (.str ⟨⟨[95, 95, 109, 111, 100, 117, 108, 101, 95, 95]⟩⟩ 663), (.str ⟨⟨[95, 105, 111]⟩⟩ 668)⟩,
    ⟨PyData.keyHash P ⟨⟨[95, 95, 102, 105, 114, 115, 116, 108, 105, 110, 101, 110, 111, 95, 95]⟩⟩, (.str ⟨⟨[95, 95, 102, 105, 114, 115, 116, 108, 105, 110, 101, 110, 111, 95, 95]⟩⟩ 667), (.int (201) 666)⟩,
    ⟨PyData.keyHash P ⟨⟨[95, 95, 105, 110, 105, 116, 95, 95]⟩⟩, (.str ⟨⟨[95, 95, 105, 110, 105, 116, 95, 95]⟩⟩ 680), (.ref 357)⟩,
    ⟨PyData.keyHash P ⟨⟨[95, 83, 116, 114, 105, 110, 103, 73, 79, 95, 95, 116, 114, 97, 110, 115, 108, 97, 116, 101, 100]⟩⟩, (.str ⟨⟨[95, 83, 116, 114, 105, 110, 103, 73, 79, 95, 95, 116, 114, 97, 110, 115, 108, 97, 116, 101, 100]⟩⟩ 689), (.ref 364)⟩,
    ⟨PyData.keyHash P ⟨⟨[95, 83, 116, 114, 105, 110, 103, 73, 79, 95, 95, 99, 104, 101, 99, 107]⟩⟩, (.str ⟨⟨[95, 83, 116, 114, 105, 110, 103, 73, 79, 95, 95, 99, 104, 101, 99, 107]⟩⟩ 696), (.ref 371)⟩,
    ⟨PyData.keyHash P ⟨⟨[95, 83, 116, 114, 105, 110, 103, 73, 79, 95, 95, 99, 104, 101, 99, 107, 95, 100, 111, 116]⟩⟩, (.str ⟨⟨[95, 83, 116, 114, 105, 110, 103, 73, 79, 95, 95, 99, 104, 101, 99, 107, 95, 100, 111, 116]⟩⟩ 703), (.ref 378)⟩,
    ⟨PyData.keyHash P ⟨⟨[95, 83, 116, 114, 105, 110, 103, 73, 79, 95, 95, 108, 105, 110, 101]⟩⟩, (.str ⟨⟨[95, 83, 116, 114, 105, 110, 103, 73, 79, 95, 95, 108, 105, 110, 101]⟩⟩ 718), (.ref 385)⟩,
    ⟨PyData.keyHash P ⟨⟨[99, 108, 111, 115, 101, 100]⟩⟩, (.str ⟨⟨[99, 108, 111, 115, 101, 100]⟩⟩ 726), (.ref 393)⟩,
    ⟨PyData.keyHash P ⟨⟨[108, 105, 110, 101, 95, 98, 117, 102, 102, 101, 114, 105, 110, 103]⟩⟩, (.str ⟨⟨[108, 105, 110, 101, 95, 98, 117, 102, 102, 101, 114, 105, 110, 103]⟩⟩ 734), (.ref 401)⟩,
    ⟨PyData.keyHash P ⟨⟨[110, 101, 119, 108, 105, 110, 101, 115]⟩⟩, (.str ⟨⟨[110, 101, 119, 108, 105, 110, 101, 115]⟩⟩ 742), (.ref 409)⟩,
    ⟨PyData.keyHash P ⟨⟨[101, 110, 99, 111, 100, 105, 110, 103]⟩⟩, (.str ⟨⟨[101, 110, 99, 111, 100, 105, 110, 103]⟩⟩ 750), (.ref 417)⟩,
    ⟨PyData.keyHash P ⟨⟨[101, 114, 114, 111, 114, 115]⟩⟩, (.str ⟨⟨[101, 114, 114, 111, 114, 115]⟩⟩ 758), (.ref 425)⟩,
    ⟨PyData.keyHash P ⟨⟨[99, 108, 111, 115, 101]⟩⟩, (.str ⟨⟨[99, 108, 111, 115, 101]⟩⟩ 765), (.ref 432)⟩,
    ⟨PyData.keyHash P ⟨⟨[95, 95, 101, 110, 116, 101, 114, 95, 95]⟩⟩, (.str ⟨⟨[95, 95, 101, 110, 116, 101, 114, 95, 95]⟩⟩ 772), (.ref 439)⟩,
    ⟨PyData.keyHash P ⟨⟨[95, 95, 101, 120, 105, 116, 95, 95]⟩⟩, (.str ⟨⟨[95, 95, 101, 120, 105, 116, 95, 95]⟩⟩ 780), (.ref 446)⟩,
    ⟨PyData.keyHash P ⟨⟨[114, 101, 97, 100, 97, 98, 108, 101]⟩⟩, (.str ⟨⟨[114, 101, 97, 100, 97, 98, 108, 101]⟩⟩ 787), (.ref 453)⟩,
    ⟨PyData.keyHash P ⟨⟨[119, 114, 105, 116, 97, 98, 108, 101]⟩⟩, (.str ⟨⟨[119, 114, 105, 116, 97, 98, 108, 101]⟩⟩ 794), (.ref 460)⟩,
    ⟨PyData.keyHash P ⟨⟨[115, 101, 101, 107, 97, 98, 108, 101]⟩⟩, (.str ⟨⟨[115, 101, 101, 107, 97, 98, 108, 101]⟩⟩ 801), (.ref 467)⟩,
    ⟨PyData.keyHash P ⟨⟨[105, 115, 97, 116, 116, 121]⟩⟩, (.str ⟨⟨[105, 115, 97, 116, 116, 121]⟩⟩ 808), (.ref 474)⟩,
    ⟨PyData.keyHash P ⟨⟨[102, 108, 117, 115, 104]⟩⟩, (.str ⟨⟨[102, 108, 117, 115, 104]⟩⟩ 815), (.ref 481)⟩,
    ⟨PyData.keyHash P ⟨⟨[102, 105, 108, 101, 110, 111]⟩⟩, (.str ⟨⟨[102, 105, 108, 101, 110, 111]⟩⟩ 822), (.ref 488)⟩,
    ⟨PyData.keyHash P ⟨⟨[100, 101, 116, 97, 99, 104]⟩⟩, (.str ⟨⟨[100, 101, 116, 97, 99, 104]⟩⟩ 829), (.ref 495)⟩,
    ⟨PyData.keyHash P ⟨⟨[103, 101, 116, 118, 97, 108, 117, 101]⟩⟩, (.str ⟨⟨[103, 101, 116, 118, 97, 108, 117, 101]⟩⟩ 836), (.ref 502)⟩,
    ⟨PyData.keyHash P ⟨⟨[116, 101, 108, 108]⟩⟩, (.str ⟨⟨[116, 101, 108, 108]⟩⟩ 843), (.ref 509)⟩,
    ⟨PyData.keyHash P ⟨⟨[115, 101, 101, 107]⟩⟩, (.str ⟨⟨[115, 101, 101, 107]⟩⟩ 853), (.ref 517)⟩,
    ⟨PyData.keyHash P ⟨⟨[116, 114, 117, 110, 99, 97, 116, 101]⟩⟩, (.str ⟨⟨[116, 114, 117, 110, 99, 97, 116, 101]⟩⟩ 861), (.ref 525)⟩,
    ⟨PyData.keyHash P ⟨⟨[114, 101, 97, 100]⟩⟩, (.str ⟨⟨[114, 101, 97, 100]⟩⟩ 873), (.ref 533)⟩,
    ⟨PyData.keyHash P ⟨⟨[114, 101, 97, 100, 108, 105, 110, 101]⟩⟩, (.str ⟨⟨[114, 101, 97, 100, 108, 105, 110, 101]⟩⟩ 883), (.ref 541)⟩,
    ⟨PyData.keyHash P ⟨⟨[114, 101, 97, 100, 108, 105, 110, 101, 115]⟩⟩, (.str ⟨⟨[114, 101, 97, 100, 108, 105, 110, 101, 115]⟩⟩ 893), (.ref 549)⟩,
    ⟨PyData.keyHash P ⟨⟨[95, 95, 105, 116, 101, 114, 95, 95]⟩⟩, (.str ⟨⟨[95, 95, 105, 116, 101, 114, 95, 95]⟩⟩ 900), (.ref 556)⟩,
    ⟨PyData.keyHash P ⟨⟨[95, 95, 110, 101, 120, 116, 95, 95]⟩⟩, (.str ⟨⟨[95, 95, 110, 101, 120, 116, 95, 95]⟩⟩ 908), (.ref 563)⟩,
    ⟨PyData.keyHash P ⟨⟨[119, 114, 105, 116, 101]⟩⟩, (.str ⟨⟨[119, 114, 105, 116, 101]⟩⟩ 920), (.ref 570)⟩,
    ⟨PyData.keyHash P ⟨⟨[119, 114, 105, 116, 101, 108, 105, 110, 101, 115]⟩⟩, (.str ⟨⟨[119, 114, 105, 116, 101, 108, 105, 110, 101, 115]⟩⟩ 928), (.ref 577)⟩,
    ⟨PyData.keyHash P ⟨⟨[95, 95, 114, 101, 112, 114, 95, 95]⟩⟩, (.str ⟨⟨[95, 95, 114, 101, 112, 114, 95, 95]⟩⟩ 935), (.ref 584)⟩,
    ⟨PyData.keyHash P ⟨⟨[95, 95, 115, 116, 97, 116, 105, 99, 95, 97, 116, 116, 114, 105, 98, 117, 116, 101, 115, 95, 95]⟩⟩, (.str ⟨⟨[95, 95, 115, 116, 97, 116, 105, 99, 95, 97, 116, 116, 114, 105, 98, 117, 116, 101, 115, 95, 95]⟩⟩ 939), (.ref 585)⟩,
    ⟨PyData.keyHash P ⟨⟨[95, 95, 100, 111, 99, 95, 95]⟩⟩, (.str ⟨⟨[95, 95, 100, 111, 99, 95, 95]⟩⟩ 940), .none⟩]⟩ 2), ⟨[]⟩⟩
noncomputable def o587 (P : Params) : Obj := ⟨(.type SL.s17162191345867700912x4), none, (.cls { name := ⟨⟨[83, 116, 114, 105, 110, 103, 73, 79]⟩⟩, bases := [(.ref 110)], mro := [(.ref 587), (.ref 110), (.ref 83), (.type SL.s2742458400755230247x6)], ns := 586, qualname := ⟨⟨[83, 116, 114, 105, 110, 103, 73, 79]⟩⟩, hasDict := true, slotNames := [], subclasses := [], abstract := false, collection := none, hasDel := false }), ⟨[(some (.ref 343)), none, (some (.str ⟨⟨[83, 116, 114, 105, 110, 103, 73, 79]⟩⟩ 656)), (some (.str ⟨⟨[83, 116, 114, 105, 110, 103, 73, 79]⟩⟩ 664)), (some .none), (some (.bool true))]⟩⟩
noncomputable def o639 (P : Params) : Obj := ⟨(.type SL.s2766695959194262286x5), none, (.seq ⟨[.none, .none, (.bool false), (.bool false)]⟩ 0), ⟨[]⟩⟩
noncomputable def o645 (P : Params) : Obj := ⟨(.type SL.s5856160107412720595x4), none, (.fields ⟨[(.str ⟨⟨[95, 95, 105, 110, 105, 116, 95, 95]⟩⟩ 1015), (.str ⟨⟨[115, 104, 108, 101, 120, 46, 95, 95, 105, 110, 105, 116, 95, 95]⟩⟩ 1016), (.str ⟨⟨[47, 99, 108, 97, 105, 109, 47, 99, 117, 116, 46, 112, 121]⟩⟩ 1017), (.int (472) 0), (.int (5) 0), (.int (0) 0), (.int (0) 0), (.int (3) 0), (.ref 640), (.bool true), (.int (273) 0), (.ref 641), .none, (.ref 642), (.ref 643), (.ref 644), (.int (1024) 0), (.int (472) 0), (.str ⟨⟨[47, 99, 108, 97, 105, 109, 47, 99, 117, 116, 46, 112, 121]⟩⟩ 1025)]⟩), ⟨[]⟩⟩
noncomputable def o646 (P : Params) : Obj := ⟨(.type SL.s7174869446012820540x8), none, (.func { name := ⟨⟨[95, 95, 105, 110, 105, 116, 95, 95]⟩⟩, qualname := ⟨⟨[115, 104, 108, 101, 120, 46, 95, 95, 105, 110, 105, 116, 95, 95]⟩⟩, params := fnP (nthS 0 (clsB (nthS 19 F.main.body))), body := .stmts (fnB (nthS 0 (clsB (nthS 19 F.main.body)))), scope := fnS (nthS 0 (clsB (nthS 19 F.main.body))), globals := 3, closure := [], defaults := (.ref 639), kwdefaults := .none, doc := .none, pyModule := (.str ⟨⟨[99, 112, 121, 51, 49, 51, 46, 115, 104, 108, 101, 120]⟩⟩ 1001), annotations := none, code := (.ref 645), closureTuple := .none, builtins := 0 }), ⟨[]⟩⟩
noncomputable def o652 (P : Params) : Obj := ⟨(.type SL.s5856160107412720595x4), none, (.fields ⟨[(.str ⟨⟨[112, 117, 110, 99, 116, 117, 97, 116, 105, 111, 110, 95, 99, 104, 97, 114, 115]⟩⟩ 1027), (.str ⟨⟨[115, 104, 108, 101, 120, 46, 112, 117, 110, 99, 116, 117, 97, 116, 105, 111, 110, 95, 99, 104, 97, 114, 115]⟩⟩ 1028), (.str ⟨⟨[47, 99, 108, 97, 105, 109, 47, 99, 117, 116, 46, 112, 121]⟩⟩ 1029), (.int (513) 0), (.int (1) 0), (.int (0) 0), (.int (0) 0), (.int (3) 0), (.ref 647), (.bool true), (.int (273) 0), (.ref 648), .none, (.ref 649), (.ref 650), (.ref 651), (.int (1031) 0), (.int (513) 0), (.str ⟨⟨[47, 99, 108, 97, 105, 109, 47, 99, 117, 116, 46, 112, 121]⟩⟩ 1032)]⟩), ⟨[]⟩⟩
noncomputable def o653 (P : Params) : Obj := ⟨(.type SL.s7174869446012820540x8), none, (.func { name := ⟨⟨[112, 117, 110, 99, 116, 117, 97, 116, 105, 111, 110, 95, 99, 104, 97, 114, 115]⟩⟩, qualname := ⟨⟨[115, 104, 108, 101, 120, 46, 112, 117, 110, 99, 116, 117, 97, 116, 105, 111, 110, 95, 99, 104, 97, 114, 115]⟩⟩, params := fnP (nthS 1 (clsB (nthS 19 F.main.body))), body := .stmts (fnB (nthS 1 (clsB (nthS 19 F.main.body)))), scope := fnS (nthS 1 (clsB (nthS 19 F.main.body))), globals := 3, closure := [], defaults := .none, kwdefaults := .none, doc := .none, pyModule := (.str ⟨⟨[99, 112, 121, 51, 49, 51, 46, 115, 104, 108, 101, 120]⟩⟩ 1001), annotations := none, code := (.ref 652), closureTuple := .none, builtins := 0 }), ⟨[]⟩⟩
noncomputable def o654 (P : Params) : Obj := ⟨(.type SL.s8101838861749082086x8), none, (.fields ⟨[(.ref 653), .none, .none, .none, (.str ⟨⟨[112, 117, 110, 99, 116, 117, 97, 116, 105, 111, 110, 95, 99, 104, 97, 114, 115]⟩⟩ 1034), (.bool false)]⟩), ⟨[]⟩⟩
noncomputable def o682 (P : Params) : Obj := ⟨(.type SL.s5856160107412720595x4), none, (.fields ⟨[(.str ⟨⟨[103, 101, 116, 95, 116, 111, 107, 101, 110]⟩⟩ 1059), (.str ⟨⟨[115, 104, 108, 101, 120, 46, 103, 101, 116, 95, 116, 111, 107, 101, 110]⟩⟩ 1060), (.str ⟨⟨[47, 99, 108, 97, 105, 109, 47, 99, 117, 116, 46, 112, 121]⟩⟩ 1061), (.int (540) 0), (.int (1) 0), (.int (0) 0), (.int (0) 0), (.int (3) 0), (.ref 677), (.bool true), (.int (273) 0), (.ref 678), .none, (.ref 679), (.ref 680), (.ref 681), (.int (1068) 0), (.int (540) 0), (.str ⟨⟨[47, 99, 108, 97, 105, 109, 47, 99, 117, 116, 46, 112, 121]⟩⟩ 1069)]⟩), ⟨[]⟩⟩
noncomputable def o683 (P : Params) : Obj := ⟨(.type SL.s7174869446012820540x8), none, (.func { name := ⟨⟨[103, 101, 116, 95, 116, 111, 107, 101, 110]⟩⟩, qualname := ⟨⟨[115, 104, 108, 101, 120, 46, 103, 101, 116, 95, 116, 111, 107, 101, 110]⟩⟩, params := fnP (nthS 5 (clsB (nthS 19 F.main.body))), body := .stmts (fnB (nthS 5 (clsB (nthS 19 F.main.body)))), scope := fnS (nthS 5 (clsB (nthS 19 F.main.body))), globals := 3, closure := [], defaults := .none, kwdefaults := .none, doc := .none, pyModule := (.str ⟨⟨[99, 112, 121, 51, 49, 51, 46, 115, 104, 108, 101, 120]⟩⟩ 1001), annotations := none, code := (.ref 682), closureTuple := .none, builtins := 0 }), ⟨[]⟩⟩
noncomputable def o689 (P : Params) : Obj := ⟨(.type SL.s5856160107412720595x4), none, (.fields ⟨[(.str ⟨⟨[114, 101, 97, 100, 95, 116, 111, 107, 101, 110]⟩⟩ 1071), (.str ⟨⟨[115, 104, 108, 101, 120, 46, 114, 101, 97, 100, 95, 116, 111, 107, 101, 110]⟩⟩ 1072), (.str ⟨⟨[47, 99, 108, 97, 105, 109, 47, 99, 117, 116, 46, 112, 121]⟩⟩ 1073), (.int (567) 0), (.int (1) 0), (.int (0) 0), (.int (0) 0), (.int (3) 0), (.ref 684), (.bool true), (.int (273) 0), (.ref 685), .none, (.ref 686), (.ref 687), (.ref 688), (.int (1079) 0), (.int (567) 0), (.str ⟨⟨[47, 99, 108, 97, 105, 109, 47, 99, 117, 116, 46, 112, 121]⟩⟩ 1080)]⟩), ⟨[]⟩⟩
noncomputable def o690 (P : Params) : Obj := ⟨(.type SL.s7174869446012820540x8), none, (.func { name := ⟨⟨[114, 101, 97, 100, 95, 116, 111, 107, 101, 110]⟩⟩, qualname := ⟨⟨[115, 104, 108, 101, 120, 46, 114, 101, 97, 100, 95, 116, 111, 107, 101, 110]⟩⟩, params := fnP (nthS 6 (clsB (nthS 19 F.main.body))), body := .stmts (fnB (nthS 6 (clsB (nthS 19 F.main.body)))), scope := fnS (nthS 6 (clsB (nthS 19 F.main.body))), globals := 3, closure := [], defaults := .none, kwdefaults := .none, doc := .none, pyModule := (.str ⟨⟨[99, 112, 121, 51, 49, 51, 46, 115, 104, 108, 101, 120]⟩⟩ 1001), annotations := none, code := (.ref 689), closureTuple := .none, builtins := 0 }), ⟨[]⟩⟩
noncomputable def o711 (P : Params) : Obj := ⟨(.type SL.s5856160107412720595x4), none, (.fields ⟨[(.str ⟨⟨[95, 95, 105, 116, 101, 114, 95, 95]⟩⟩ 1099), (.str ⟨⟨[115, 104, 108, 101, 120, 46, 95, 95, 105, 116, 101, 114, 95, 95]⟩⟩ 1100), (.str ⟨⟨[47, 99, 108, 97, 105, 109, 47, 99, 117, 116, 46, 112, 121]⟩⟩ 1101), (.int (714) 0), (.int (1) 0), (.int (0) 0), (.int (0) 0), (.int (3) 0), (.ref 706), (.bool true), (.int (273) 0), (.ref 707), .none, (.ref 708), (.ref 709), (.ref 710), (.int (1103) 0), (.int (714) 0), (.str ⟨⟨[47, 99, 108, 97, 105, 109, 47, 99, 117, 116, 46, 112, 121]⟩⟩ 1104)]⟩), ⟨[]⟩⟩
noncomputable def o712 (P : Params) : Obj := ⟨(.type SL.s7174869446012820540x8), none, (.func { name := ⟨⟨[95, 95, 105, 116, 101, 114, 95, 95]⟩⟩, qualname := ⟨⟨[115, 104, 108, 101, 120, 46, 95, 95, 105, 116, 101, 114, 95, 95]⟩⟩, params := fnP (nthS 9 (clsB (nthS 19 F.main.body))), body := .stmts (fnB (nthS 9 (clsB (nthS 19 F.main.body)))), scope := fnS (nthS 9 (clsB (nthS 19 F.main.body))), globals := 3, closure := [], defaults := .none, kwdefaults := .none, doc := .none, pyModule := (.str ⟨⟨[99, 112, 121, 51, 49, 51, 46, 115, 104, 108, 101, 120]⟩⟩ 1001), annotations := none, code := (.ref 711), closureTuple := .none, builtins := 0 }), ⟨[]⟩⟩
noncomputable def o718 (P : Params) : Obj := ⟨(.type SL.s5856160107412720595x4), none, (.fields ⟨[(.str ⟨⟨[95, 95, 110, 101, 120, 116, 95, 95]⟩⟩ 1106), (.str ⟨⟨[115, 104, 108, 101, 120, 46, 95, 95, 110, 101, 120, 116, 95, 95]⟩⟩ 1107), (.str ⟨⟨[47, 99, 108, 97, 105, 109, 47, 99, 117, 116, 46, 112, 121]⟩⟩ 1108), (.int (717) 0), (.int (1) 0), (.int (0) 0), (.int (0) 0), (.int (3) 0), (.ref 713), (.bool true), (.int (273) 0), (.ref 714), .none, (.ref 715), (.ref 716), (.ref 717), (.int (1111) 0), (.int (717) 0), (.str ⟨⟨[47, 99, 108, 97, 105, 109, 47, 99, 117, 116, 46, 112, 121]⟩⟩ 1112)]⟩), ⟨[]⟩⟩
noncomputable def o719 (P : Params) : Obj := ⟨(.type SL.s7174869446012820540x8), none, (.func { name := ⟨⟨[95, 95, 110, 101, 120, 116, 95, 95]⟩⟩, qualname := ⟨⟨[115, 104, 108, 101, 120, 46, 95, 95, 110, 101, 120, 116, 95, 95]⟩⟩, params := fnP (nthS 10 (clsB (nthS 19 F.main.body))), body := .stmts (fnB (nthS 10 (clsB (nthS 19 F.main.body)))), scope := fnS (nthS 10 (clsB (nthS 19 F.main.body))), globals := 3, closure := [], defaults := .none, kwdefaults := .none, doc := .none, pyModule := (.str ⟨⟨[99, 112, 121, 51, 49, 51, 46, 115, 104, 108, 101, 120]⟩⟩ 1001), annotations := none, code := (.ref 718), closureTuple := .none, builtins := 0 }), ⟨[]⟩⟩
noncomputable def o721 (P : Params) : Obj := ⟨(.type SL.s14018661285674007319x4), none, (.dict ⟨[⟨PyData.keyHash P ⟨⟨[95, 95, 109, 111, 100, 117, 108, 101, 95, 95]⟩⟩, (.str ⟨⟨[95, 95, 109, 111, 100, 117, 108, 101, 95, 95]⟩⟩ 1010), (.str ⟨⟨[99, 112, 121, 51, 49, 51, 46, 115, 104, 108, 101, 120]⟩⟩ 1001)⟩,
    ⟨PyData.keyHash P ⟨⟨[95, 95, 102, 105, 114, 115, 116, 108, 105, 110, 101, 110, 111, 95, 95]⟩⟩, (.str ⟨⟨[95, 95, 102, 105, 114, 115, 116, 108, 105, 110, 101, 110, 111, 95, 95]⟩⟩ 1014), (.int (470) 1013)⟩,
    ⟨PyData.keyHash P ⟨⟨[95, 95, 105, 110, 105, 116, 95, 95]⟩⟩, (.str ⟨⟨[95, 95, 105, 110, 105, 116, 95, 95]⟩⟩ 1026), (.ref 646)⟩,
    ⟨PyData.keyHash P ⟨⟨[112, 117, 110, 99, 116, 117, 97, 116, 105, 111, 110, 95, 99, 104, 97, 114, 115]⟩⟩, (.str ⟨⟨[112, 117, 110, 99, 116, 117, 97, 116, 105, 111, 110, 95, 99, 104, 97, 114, 115]⟩⟩ 1034), (.ref 654)⟩,
    ⟨PyData.keyHash P ⟨⟨[112, 117, 115, 104, 95, 116, 111, 107, 101, 110]⟩⟩, (.str ⟨⟨[112, 117, 115, 104, 95, 116, 111, 107, 101, 110]⟩⟩ 1042), (.ref 661)⟩,
    ⟨PyData.keyHash P ⟨⟨[112, 117, 115, 104, 95, 115, 111, 117, 114, 99, 101]⟩⟩, (.str ⟨⟨[112, 117, 115, 104, 95, 115, 111, 117, 114, 99, 101]⟩⟩ 1051), (.ref 669)⟩,
    ⟨PyData.keyHash P ⟨⟨[112, 111, 112, 95, 115, 111, 117, 114, 99, 101]⟩⟩, (.str ⟨⟨[112, 111, 112, 95, 115, 111, 117, 114, 99, 101]⟩⟩ 1058), (.ref 676)⟩,
    ⟨PyData.keyHash P ⟨⟨[103, 101, 116, 95, 116, 111, 107, 101, 110]⟩⟩, (.str ⟨⟨[103, 101, 116, 95, 116, 111, 107, 101, 110]⟩⟩ 1070), (.ref 683)⟩,
    ⟨PyData.keyHash P ⟨⟨[114, 101, 97, 100, 95, 116, 111, 107, 101, 110]⟩⟩, (.str ⟨⟨[114, 101, 97, 100, 95, 116, 111, 107, 101, 110]⟩⟩ 1081), (.ref 690)⟩,
    ⟨PyData.keyHash P ⟨⟨[115, 111, 117, 114, 99, 101, 104, 111, 111, 107]⟩⟩, (.str ⟨⟨[115, 111, 117, 114, 99, 101, 104, 111, 111, 107]⟩⟩ 1089), (.ref 697)⟩,
    ⟨PyData.keyHash P ⟨⟨[101, 114, 114, 111, 114, 95, 108, 101, 97, 100, 101, 114]⟩⟩, (.str ⟨⟨[101, 114, 114, 111, 114, 95, 108, 101, 97, 100, 101, 114]⟩⟩ 1098), (.ref 705)⟩,
    ⟨PyData.keyHash P ⟨⟨[95, 95, 105, 116, 101, 114, 95, 95]⟩⟩, (.str ⟨⟨[95, 95, 105, 116, 101, 114, 95, 95]⟩⟩ 1105), (.ref 712)⟩,
    ⟨PyData.keyHash P ⟨⟨[95, 95, 110, 101, 120, 116, 95, 95]⟩⟩, (.str ⟨⟨[95, 95, 110, 101, 120, 116, 95, 95]⟩⟩ 1113), (.ref 719)⟩,
    ⟨PyData.keyHash P ⟨⟨[95, 95, 115, 116, 97, 116, 105, 99, 95, 97, 116, 116, 114, 105, 98, 117, 116, 101, 115, 95, 95]⟩⟩, (.str ⟨⟨[95, 95, 115, 116, 97, 116, 105, 99, 95, 97, 116, 116, 114, 105, 98, 117, 116, 101, 115, 95, 95]⟩⟩ 1134), (.ref 720)⟩,
    ⟨PyData.keyHash P ⟨⟨[95, 95, 100, 105, 99, 116, 95, 95]⟩⟩, (.str ⟨⟨[95, 95, 100, 105, 99, 116, 95, 95]⟩⟩ 1136), (.ref 723)⟩,
    ⟨PyData.keyHash P ⟨⟨[95, 95, 119, 101, 97, 107, 114, 101, 102, 95, 95]⟩⟩, (.str ⟨⟨[95, 95, 119, 101, 97, 107, 114, 101, 102, 95, 95]⟩⟩ 1138), (.ref 724)⟩,
    ⟨PyData.keyHash P ⟨⟨[95, 95, 100, 111, 99, 95, 95]⟩⟩, (.str ⟨⟨[95, 95, 100, 111, 99, 95, 95]⟩⟩ 1139), .none⟩]⟩ 4), ⟨[]⟩⟩
noncomputable def o722 (P : Params) : Obj := ⟨(.type SL.s17162191345867700912x4), none, (.cls { name := ⟨⟨[115, 104, 108, 101, 120]⟩⟩, bases := [(.type SL.s2742458400755230247x6)], mro := [(.ref 722), (.type SL.s2742458400755230247x6)], ns := 721, qualname := ⟨⟨[115, 104, 108, 101, 120]⟩⟩, hasDict := true, slotNames := [], subclasses := [], abstract := false, collection := none, hasDel := false }), ⟨[none, none, (some (.str ⟨⟨[115, 104, 108, 101, 120]⟩⟩ 1003)), (some (.str ⟨⟨[115, 104, 108, 101, 120]⟩⟩ 1011)), (some (.builtin SL.s11443829558043349243x14)), (some (.bool true))]⟩⟩
noncomputable def o727 (P : Params) : Obj := ⟨(.type SL.s2766695959194262286x5), none, (.seq ⟨[(.bool false), (.bool true)]⟩ 0), ⟨[]⟩⟩
noncomputable def o733 (P : Params) : Obj := ⟨(.type SL.s5856160107412720595x4), none, (.fields ⟨[(.str ⟨⟨[115, 112, 108, 105, 116]⟩⟩ 1142), (.str ⟨⟨[115, 112, 108, 105, 116]⟩⟩ 1143), (.str ⟨⟨[47, 99, 108, 97, 105, 109, 47, 99, 117, 116, 46, 112, 121]⟩⟩ 1144), (.int (722) 0), (.int (3) 0), (.int (0) 0), (.int (0) 0), (.int (3) 0), (.ref 728), (.bool true), (.int (273) 0), (.ref 729), .none, (.ref 730), (.ref 731), (.ref 732), (.int (1149) 0), (.int (722) 0), (.str ⟨⟨[47, 99, 108, 97, 105, 109, 47, 99, 117, 116, 46, 112, 121]⟩⟩ 1150)]⟩), ⟨[]⟩⟩
noncomputable def o734 (P : Params) : Obj := ⟨(.type SL.s7174869446012820540x8), none, (.func { name := ⟨⟨[115, 112, 108, 105, 116]⟩⟩, qualname := ⟨⟨[115, 112, 108, 105, 116]⟩⟩, params := fnP (nthS 20 F.main.body), body := .stmts (fnB (nthS 20 F.main.body)), scope := fnS (nthS 20 F.main.body), globals := 3, closure := [], defaults := (.ref 727), kwdefaults := .none, doc := .none, pyModule := (.str ⟨⟨[99, 112, 121, 51, 49, 51, 46, 115, 104, 108, 101, 120]⟩⟩ 1001), annotations := none, code := (.ref 733), closureTuple := .none, builtins := 0 }), ⟨[]⟩⟩
noncomputable def o740 (P : Params) : Obj := ⟨(.type SL.s5856160107412720595x4), none, (.fields ⟨[(.str ⟨⟨[95, 98, 121, 116, 101, 115, 119, 97, 112]⟩⟩ 1154), (.str ⟨⟨[95, 98, 121, 116, 101, 115, 119, 97, 112]⟩⟩ 1155), (.str ⟨⟨[47, 99, 108, 97, 105, 109, 47, 99, 117, 116, 46, 112, 121]⟩⟩ 1156), (.int (731) 0), (.int (2) 0), (.int (0) 0), (.int (0) 0), (.int (3) 0), (.ref 735), (.bool true), (.int (273) 0), (.ref 736), .none, (.ref 737), (.ref 738), (.ref 739), (.int (1162) 0), (.int (731) 0), (.str ⟨⟨[47, 99, 108, 97, 105, 109, 47, 99, 117, 116, 46, 112, 121]⟩⟩ 1163)]⟩), ⟨[]⟩⟩
noncomputable def o741 (P : Params) : Obj := ⟨(.type SL.s7174869446012820540x8), none, (.func { name := ⟨⟨[95, 98, 121, 116, 101, 115, 119, 97, 112]⟩⟩, qualname := ⟨⟨[95, 98, 121, 116, 101, 115, 119, 97, 112]⟩⟩, params := fnP (nthS 22 F.main.body), body := .stmts (fnB (nthS 22 F.main.body)), scope := fnS (nthS 22 F.main.body), globals := 3, closure := [], defaults := .none, kwdefaults := .none, doc := .none, pyModule := (.str ⟨⟨[99, 112, 121, 51, 49, 51, 46, 119, 97, 118, 101]⟩⟩ 1152), annotations := none, code := (.ref 740), closureTuple := .none, builtins := 0 }), ⟨[]⟩⟩
noncomputable def o745 (P : Params) : Obj := ⟨(.type SL.s5856160107412720595x4), none, (.fields ⟨[(.str ⟨⟨[95, 108, 97, 119, 95, 108, 105, 110, 101]⟩⟩ 1167), (.str ⟨⟨[95, 108, 97, 119, 95, 108, 105, 110, 101]⟩⟩ 1168), (.str ⟨⟨[47, 99, 108, 97, 105, 109, 47, 99, 117, 116, 46, 112, 121]⟩⟩ 1169), (.int (738) 0), (.int (1) 0), (.int (0) 0), (.int (0) 0), (.int (3) 0), (.ref 742), (.bool true), (.int (273) 0), (.ref 743), .none, .none, .none, (.ref 744), (.int (1170) 0), (.int (738) 0), (.str ⟨⟨[47, 99, 108, 97, 105, 109, 47, 99, 117, 116, 46, 112, 121]⟩⟩ 1171)]⟩), ⟨[]⟩⟩
noncomputable def o746 (P : Params) : Obj := ⟨(.type SL.s7174869446012820540x8), none, (.func { name := ⟨⟨[95, 108, 97, 119, 95, 108, 105, 110, 101]⟩⟩, qualname := ⟨⟨[95, 108, 97, 119, 95, 108, 105, 110, 101]⟩⟩, params := fnP (nthS 24 F.main.body), body := .stmts (fnB (nthS 24 F.main.body)), scope := fnS (nthS 24 F.main.body), globals := 3, closure := [], defaults := .none, kwdefaults := .none, doc := .none, pyModule := (.str ⟨⟨[108, 97, 119, 95, 111, 112, 48, 49, 56, 50, 95, 48, 50]⟩⟩ 1165), annotations := none, code := (.ref 745), closureTuple := .none, builtins := 0 }), ⟨[]⟩⟩
noncomputable def o750 (P : Params) : Obj := ⟨(.type SL.s5856160107412720595x4), none, (.fields ⟨[(.str ⟨⟨[95, 108, 97, 119, 95, 99, 111, 117, 110, 116, 115]⟩⟩ 1173), (.str ⟨⟨[95, 108, 97, 119, 95, 99, 111, 117, 110, 116, 115]⟩⟩ 1174), (.str ⟨⟨[47, 99, 108, 97, 105, 109, 47, 99, 117, 116, 46, 112, 121]⟩⟩ 1175), (.int (741) 0), (.int (1) 0), (.int (0) 0), (.int (0) 0), (.int (3) 0), (.ref 747), (.bool true), (.int (273) 0), (.ref 748), .none, .none, .none, (.ref 749), (.int (1176) 0), (.int (741) 0), (.str ⟨⟨[47, 99, 108, 97, 105, 109, 47, 99, 117, 116, 46, 112, 121]⟩⟩ 1177)]⟩), ⟨[]⟩⟩
noncomputable def o751 (P : Params) : Obj := ⟨(.type SL.s7174869446012820540x8), none, (.func { name := ⟨⟨[95, 108, 97, 119, 95, 99, 111, 117, 110, 116, 115]⟩⟩, qualname := ⟨⟨[95, 108, 97, 119, 95, 99, 111, 117, 110, 116, 115]⟩⟩, params := fnP (nthS 25 F.main.body), body := .stmts (fnB (nthS 25 F.main.body)), scope := fnS (nthS 25 F.main.body), globals := 3, closure := [], defaults := .none, kwdefaults := .none, doc := .none, pyModule := (.str ⟨⟨[108, 97, 119, 95, 111, 112, 48, 49, 56, 50, 95, 48, 50]⟩⟩ 1165), annotations := none, code := (.ref 750), closureTuple := .none, builtins := 0 }), ⟨[]⟩⟩
noncomputable def o755 (P : Params) : Obj := ⟨(.type SL.s5856160107412720595x4), none, (.fields ⟨[(.str ⟨⟨[95, 108, 97, 119, 95, 98, 101, 104, 105, 110, 100]⟩⟩ 1179), (.str ⟨⟨[95, 108, 97, 119, 95, 98, 101, 104, 105, 110, 100]⟩⟩ 1180), (.str ⟨⟨[47, 99, 108, 97, 105, 109, 47, 99, 117, 116, 46, 112, 121]⟩⟩ 1181), (.int (743) 0), (.int (2) 0), (.int (0) 0), (.int (0) 0), (.int (3) 0), (.ref 752), (.bool true), (.int (273) 0), (.ref 753), .none, .none, .none, (.ref 754), (.int (1182) 0), (.int (743) 0), (.str ⟨⟨[47, 99, 108, 97, 105, 109, 47, 99, 117, 116, 46, 112, 121]⟩⟩ 1183)]⟩), ⟨[]⟩⟩
noncomputable def o756 (P : Params) : Obj := ⟨(.type SL.s7174869446012820540x8), none, (.func { name := ⟨⟨[95, 108, 97, 119, 95, 98, 101, 104, 105, 110, 100]⟩⟩, qualname := ⟨⟨[95, 108, 97, 119, 95, 98, 101, 104, 105, 110, 100]⟩⟩, params := fnP (nthS 26 F.main.body), body := .stmts (fnB (nthS 26 F.main.body)), scope := fnS (nthS 26 F.main.body), globals := 3, closure := [], defaults := .none, kwdefaults := .none, doc := .none, pyModule := (.str ⟨⟨[108, 97, 119, 95, 111, 112, 48, 49, 56, 50, 95, 48, 50]⟩⟩ 1165), annotations := none, code := (.ref 755), closureTuple := .none, builtins := 0 }), ⟨[]⟩⟩
noncomputable def o762 (P : Params) : Obj := ⟨(.type SL.s5856160107412720595x4), none, (.fields ⟨[(.str ⟨⟨[95, 108, 97, 119, 95, 116, 111, 108, 100]⟩⟩ 1185), (.str ⟨⟨[95, 108, 97, 119, 95, 116, 111, 108, 100]⟩⟩ 1186), (.str ⟨⟨[47, 99, 108, 97, 105, 109, 47, 99, 117, 116, 46, 112, 121]⟩⟩ 1187), (.int (749) 0), (.int (2) 0), (.int (0) 0), (.int (0) 0), (.int (3) 0), (.ref 757), (.bool true), (.int (273) 0), (.ref 758), .none, (.ref 759), (.ref 760), (.ref 761), (.int (1198) 0), (.int (749) 0), (.str ⟨⟨[47, 99, 108, 97, 105, 109, 47, 99, 117, 116, 46, 112, 121]⟩⟩ 1199)]⟩), ⟨[]⟩⟩
noncomputable def o763 (P : Params) : Obj := ⟨(.type SL.s7174869446012820540x8), none, (.func { name := ⟨⟨[95, 108, 97, 119, 95, 116, 111, 108, 100]⟩⟩, qualname := ⟨⟨[95, 108, 97, 119, 95, 116, 111, 108, 100]⟩⟩, params := fnP (nthS 27 F.main.body), body := .stmts (fnB (nthS 27 F.main.body)), scope := fnS (nthS 27 F.main.body), globals := 3, closure := [], defaults := .none, kwdefaults := .none, doc := .none, pyModule := (.str ⟨⟨[108, 97, 119, 95, 111, 112, 48, 49, 56, 50, 95, 48, 50]⟩⟩ 1165), annotations := none, code := (.ref 762), closureTuple := .none, builtins := 0 }), ⟨[]⟩⟩
noncomputable def o767 (P : Params) : Obj := ⟨(.type SL.s5856160107412720595x4), none, (.fields ⟨[(.str ⟨⟨[108, 97, 119]⟩⟩ 1201), (.str ⟨⟨[108, 97, 119]⟩⟩ 1202), (.str ⟨⟨[47, 99, 108, 97, 105, 109, 47, 99, 117, 116, 46, 112, 121]⟩⟩ 1203), (.int (768) 0), (.int (1) 0), (.int (0) 0), (.int (0) 0), (.int (3) 0), (.ref 764), (.bool true), (.int (273) 0), (.ref 765), .none, .none, .none, (.ref 766), (.int (1204) 0), (.int (768) 0), (.str ⟨⟨[47, 99, 108, 97, 105, 109, 47, 99, 117, 116, 46, 112, 121]⟩⟩ 1205)]⟩), ⟨[]⟩⟩
noncomputable def o768 (P : Params) : Obj := ⟨(.type SL.s7174869446012820540x8), none, (.func { name := ⟨⟨[108, 97, 119]⟩⟩, qualname := ⟨⟨[108, 97, 119]⟩⟩, params := fnP (nthS 28 F.main.body), body := .stmts (fnB (nthS 28 F.main.body)), scope := fnS (nthS 28 F.main.body), globals := 3, closure := [], defaults := .none, kwdefaults := .none, doc := .none, pyModule := (.str ⟨⟨[108, 97, 119, 95, 111, 112, 48, 49, 56, 50, 95, 48, 50]⟩⟩ 1165), annotations := none, code := (.ref 767), closureTuple := .none, builtins := 0 }), ⟨[]⟩⟩
noncomputable def kfrag (P : Params) : Frag := [(0, o0 P), (2, o2 P), (3, o3 P), (52, o52 P), (53, o53 P), (79, o79 P), (80, o80 P), (82, o82 P), (83, o83 P), (84, o84 P), (109, o109 P), (110, o110 P), (340, o340 P), (350, o350 P), (356, o356 P), (357, o357 P), (363, o363 P), (364, o364 P), (370, o370 P), (371, o371 P), (526, o526 P), (532, o532 P), (533, o533 P), (586, o586 P), (587, o587 P), (639, o639 P), (645, o645 P), (646, o646 P), (652, o652 P), (653, o653 P), (654, o654 P), (682, o682 P), (683, o683 P), (689, o689 P), (690, o690 P), (711, o711 P), (712, o712 P), (718, o718 P), (719, o719 P), (721, o721 P), (722, o722 P), (727, o727 P), (733, o733 P), (734, o734 P), (740, o740 P), (741, o741 P), (745, o745 P), (746, o746 P), (750, o750 P), (751, o751 P), (755, o755 P), (756, o756 P), (762, o762 P), (763, o763 P), (767, o767 P), (768, o768 P)]
noncomputable def kads : List Nat := [0, 2, 3, 52, 53, 79, 80, 82, 83, 84, 109, 110, 340, 350, 356, 357, 363, 364, 370, 371, 526, 532, 533, 586, 587, 639, 645, 646, 652, 653, 654, 682, 683, 689, 690, 711, 712, 718, 719, 721, 722, 727, 733, 734, 740, 741, 745, 746, 750, 751, 755, 756, 762, 763, 767, 768]
noncomputable def kt (P : Params) : X.KT := (.node (some (o0 P)) (.node none (.node (some (o3 P)) (.node none (.node none (.node none (.node none (.node none (.node none .nil (.node (some (o767 P)) .nil .nil)) (.node none (.node (some (o639 P)) .nil .nil) .nil)) .nil) .nil) (.node none (.node (some (o79 P)) .nil (.node none .nil (.node none (.node (some (o719 P)) .nil .nil) .nil))) (.node none .nil (.node none .nil (.node none (.node (some (o751 P)) .nil .nil) .nil))))) (.node none (.node none (.node none .nil (.node none .nil (.node none (.node (some (o711 P)) .nil .nil) .nil))) .nil) (.node none (.node none .nil (.node none .nil (.node none (.node (some (o727 P)) .nil .nil) .nil))) .nil))) (.node none (.node none .nil (.node none (.node (some (o83 P)) .nil .nil) (.node none .nil (.node none (.node (some (o371 P)) .nil .nil) (.node none (.node (some (o755 P)) .nil .nil) .nil))))) (.node none (.node none (.node none .nil (.node none (.node none (.node (some (o587 P)) .nil .nil) .nil) .nil)) (.node none (.node none .nil (.node none (.node (some (o683 P)) .nil .nil) .nil)) (.node none (.node (some (o363 P)) .nil .nil) .nil))) (.node none .nil (.node none .nil (.node none .nil (.node none (.node (some (o763 P)) .nil .nil) .nil))))))) (.node none (.node none (.node none .nil (.node none (.node none .nil (.node none .nil (.node none (.node (some (o721 P)) .nil .nil) .nil))) (.node none (.node none .nil (.node none (.node (some (o689 P)) .nil .nil) .nil)) .nil))) (.node none (.node none .nil (.node none .nil (.node none .nil (.node none (.node (some (o745 P)) .nil .nil) .nil)))) .nil)) (.node none (.node none (.node none (.node none (.node none .nil (.node none (.node (some (o645 P)) .nil .nil) .nil)) .nil) (.node none .nil (.node none (.node (some (o357 P)) .nil .nil) (.node none (.node (some (o741 P)) .nil .nil) .nil)))) (.node (some (o53 P)) (.node none (.node none (.node none (.node (some (o533 P)) .nil .nil) .nil) .nil) .nil) .nil)) (.node none (.node none (.node none (.node none .nil (.node none (.node (some (o653 P)) .nil .nil) .nil)) .nil) (.node (some (o109 P)) .nil .nil)) (.node none (.node none .nil (.node none .nil (.node none (.node (some (o733 P)) .nil .nil) .nil))) .nil))))) (.node (some (o2 P)) (.node none (.node none (.node none (.node none (.node none (.node none (.node none .nil (.node (some (o768 P)) .nil .nil)) .nil) .nil) .nil) (.node none (.node (some (o80 P)) .nil .nil) .nil)) (.node none (.node none (.node none .nil (.node none .nil (.node none (.node (some (o712 P)) .nil .nil) .nil))) .nil) .nil)) (.node none (.node none (.node none .nil (.node none .nil (.node none (.node (some (o356 P)) .nil .nil) (.node none (.node (some (o740 P)) .nil .nil) .nil)))) (.node (some (o52 P)) (.node (some (o84 P)) (.node none (.node none (.node (some (o532 P)) .nil .nil) .nil) .nil) (.node none (.node (some (o340 P)) .nil .nil) .nil)) (.node none .nil (.node none .nil (.node none (.node (some (o756 P)) .nil .nil) .nil))))) (.node none (.node none (.node none (.node none .nil (.node none (.node (some (o652 P)) .nil .nil) .nil)) .nil) (.node none .nil (.node none (.node (some (o364 P)) .nil .nil) .nil))) .nil))) (.node none (.node none (.node none .nil (.node none (.node (some (o82 P)) .nil (.node none .nil (.node none (.node (some (o722 P)) .nil .nil) .nil))) (.node none (.node none .nil (.node none (.node (some (o690 P)) .nil .nil) .nil)) (.node none (.node (some (o370 P)) .nil .nil) .nil)))) (.node none (.node none (.node none .nil (.node none (.node none (.node (some (o586 P)) .nil .nil) .nil) .nil)) (.node none (.node none .nil (.node none (.node (some (o682 P)) .nil .nil) .nil)) (.node none .nil (.node none (.node (some (o746 P)) .nil .nil) .nil)))) (.node none .nil (.node none .nil (.node none .nil (.node none (.node (some (o762 P)) .nil .nil) .nil)))))) (.node none (.node none (.node none (.node none (.node none .nil (.node none (.node (some (o646 P)) .nil .nil) .nil)) .nil) .nil) .nil) (.node none (.node none (.node none (.node none (.node none (.node (some (o526 P)) .nil .nil) .nil) (.node none (.node (some (o654 P)) .nil .nil) .nil)) (.node none .nil (.node none (.node (some (o718 P)) .nil .nil) .nil))) (.node (some (o110 P)) .nil (.node none .nil (.node none (.node (some (o750 P)) .nil .nil) .nil)))) (.node none (.node none .nil (.node none (.node (some (o350 P)) .nil .nil) (.node none (.node (some (o734 P)) .nil .nil) .nil))) .nil))))))

noncomputable def loose : List Str := [⟨⟨[100, 101, 113, 117, 101]⟩⟩, ⟨⟨[95, 119, 97, 108, 108]⟩⟩, ⟨⟨[95, 95, 110, 97, 109, 101, 95, 95]⟩⟩, ⟨⟨[95, 119, 104, 101, 110, 99, 101]⟩⟩, ⟨⟨[95, 105, 110, 100, 101, 120]⟩⟩, ⟨⟨[85, 110, 115, 117, 112, 112, 111, 114, 116, 101, 100, 79, 112, 101, 114, 97, 116, 105, 111, 110]⟩⟩, ⟨⟨[73, 79, 66, 97, 115, 101]⟩⟩, ⟨⟨[66, 117, 102, 102, 101, 114, 101, 100, 73, 79, 66, 97, 115, 101]⟩⟩, ⟨⟨[84, 101, 120, 116, 73, 79, 66, 97, 115, 101]⟩⟩, ⟨⟨[66, 121, 116, 101, 115, 73, 79]⟩⟩, ⟨⟨[83, 116, 114, 105, 110, 103, 73, 79]⟩⟩, ⟨⟨[95, 107, 105, 110, 100]⟩⟩, ⟨⟨[95, 102, 115, 112, 97, 116, 104]⟩⟩, ⟨⟨[95, 99, 104, 101, 99, 107, 95, 97, 114, 103, 95, 116, 121, 112, 101, 115]⟩⟩, ⟨⟨[105, 115, 97, 98, 115]⟩⟩, ⟨⟨[106, 111, 105, 110]⟩⟩, ⟨⟨[100, 105, 114, 110, 97, 109, 101]⟩⟩, ⟨⟨[115, 104, 108, 101, 120]⟩⟩, ⟨⟨[115, 112, 108, 105, 116]⟩⟩, ⟨⟨[95, 98, 121, 116, 101, 115, 119, 97, 112]⟩⟩, ⟨⟨[95, 108, 97, 119, 95, 108, 105, 110, 101]⟩⟩, ⟨⟨[95, 108, 97, 119, 95, 99, 111, 117, 110, 116, 115]⟩⟩, ⟨⟨[95, 108, 97, 119, 95, 98, 101, 104, 105, 110, 100]⟩⟩, ⟨⟨[95, 108, 97, 119, 95, 116, 111, 108, 100]⟩⟩]
end T02
end Mine
end
section
open PySem PySem.W PySem.Calls PyProof.Rows
namespace Mine.T02
/-! HdB02 -/
theorem eval1 (w : World) : (headT (denote treeTable) PySem.Challenge.pw_op0182_02 w 20000).map (hdLook PySem.Challenge.pw_op0182_02 loose kads) =
    some (true, hdGood PySem.Challenge.pw_op0182_02 loose, hdVal kfrag 769 1207 w) := by
  rw [show @headT = _ from PySem.W.Fast.te1006530560209335509, show denote = _ from PySem.W.Fast.te11892475500146522536, show treeTable = _ from PySem.W.Fast.te14364793385576792824, show @hdLook = _ from PySem.W.Fast.te102023862698074697, show @hdGood = _ from PySem.W.Fast.te731727335646702260]
  kernel_rfl
/-! HdC02 -/
theorem left02 : LeftO PySem.Challenge.pw_op0182_02 (lawView PySem.Challenge.pw_op0182_02) loose anyX (obsK kads) (hdVal kfrag 769 1207) 20000 := left_of_eval eval1

noncomputable abbrev Walk : Prop := ∀ (w : World) (s₀ s₁ : Shared) (mg : Str → Option Value), obsK kads s₀ = hdVal kfrag 769 1207 w → s₁.heap.Ns mainGlobals mg → ∀ (a : Addr), mg PySem.Challenge.rw_op0182_02.row.name = some (.ref a) → ∀ (args : List WData) (vs : List Value) (as : List Addr),
      PySem.Challenge.rw_op0182_02.row.toRowW.claim.pre args = true → WData.layableAll args = true → Laid PySem.Challenge.rw_op0182_02.row.toRowW.records w s₀ s₁ args vs as → s₁.gens = #[] →
        Sem.wp (model PySem.Challenge.pw_op0182_02 w) Γ0 (do ret (← PySem.call (.ref a) vs)) (Sem.finPost (model PySem.Challenge.pw_op0182_02 w) Γ0 fun res s' => GoodWG PySem.Challenge.rw_op0182_02.row.toRowW.claim (classAt s₀.heap) (ExcName.means s₀.heap) args s₁ res s')
          (fun e _ s' => GoodWG PySem.Challenge.rw_op0182_02.row.toRowW.claim (classAt s₀.heap) (ExcName.means s₀.heap) args s₁ (.error e) s') default s₁

theorem hd02 (call : Walk) : PySem.Challenge.rw_op0182_02.Holds := by
  refine holds_law (by kernel_rfl) fun said => ?_
  refine holds_wp (r := PySem.Challenge.rw_op0182_02.row) (XP := fun _ _ => True) left02 (fun _ _ => trivial) (fun _ _ _ _ _ => trivial) (by rfl) (by rfl) (by rfl) (fun _ _ => recFacts_nil rfl) rfl (by first | assumption | decide +kernel) (by decide +kernel) ⟨rfl, rfl, rfl, rfl, rfl, by decide +kernel⟩ ?hw call
  case hw => w_witness2
end Mine.T02
end
section
open PySem PySem.W
namespace Mine
/-! SxUse -/

/-! ### using the executor -/
noncomputable def Holds (s : Shared) (l : List (Nat × Obj)) : Prop := ∀ x ∈ l, s.heap.get? x.1 = some x.2
structure Keep (as : List Nat) (s s' : Shared) : Prop where
  keep : ∀ b o, s.heap.get? b = some o → b ∉ as → s'.heap.get? b = some o
  size : s.heap.objs.size ≤ s'.heap.objs.size
  gens : s'.gens = s.gens
  drawn : s'.drawn = s.drawn
  os : s'.os = s.os
theorem Keep.refl (as : List Nat) (s : Shared) : Keep as s s := ⟨fun _ _ e _ => e, Nat.le_refl _, rfl, rfl, rfl⟩
theorem Keep.trans {as : List Nat} {s s' s'' : Shared} (x : Keep as s s') (y : Keep as s' s'') : Keep as s s'' :=
  ⟨fun b o e h => y.keep b o (x.keep b o e h) h, Nat.le_trans x.size y.size, y.gens.trans x.gens, y.drawn.trans x.drawn, y.os.trans x.os⟩
theorem Keep.mono {as bs : List Nat} {s s' : Shared} (x : Keep as s s') (h : ∀ a ∈ as, a ∈ bs) : Keep bs s s' :=
  ⟨fun b o e hb => x.keep b o e fun ha => hb (h b ha), x.size, x.gens, x.drawn, x.os⟩

/-- the addresses a list gives, then the heap's end -/
noncomputable def adsOf : Nat → List Nat → Nat → Ads → Ads
  | i, [], N, r => (i, N) :: r
  | i, a :: l, N, r => adsOf (i + 1) l N ((i, a) :: r)
theorem adOf_cons (x : Nat × Nat) (r : Ads) (j : Nat) : adOf (x :: r) j = if x.1 ≤ j then x.2 + (j - x.1) else adOf r j := by
  show (match Nat.ble x.1 j with | true => _ | false => _) = _
  by_cases h : x.1 ≤ j
  · rw [if_pos h, Nat.ble_eq_true_of_le h]
  · rw [if_neg h]
    have : Nat.ble x.1 j = false := by
      cases q : Nat.ble x.1 j with
      | false => rfl
      | true => exact absurd (Nat.le_of_ble_eq_true q) h
    rw [this]
theorem adsOf_spec : ∀ (l : List Nat) (i N : Nat) (r : Ads) (j : Nat), adOf (adsOf i l N r) j = if i + l.length ≤ j then N + (j - (i + l.length)) else if i ≤ j then l.getD (j - i) 0 else adOf r j
  | [], i, N, r, j => by
    show adOf ((i, N) :: r) j = _
    rw [adOf_cons]
    simp only [List.length_nil, Nat.add_zero]
    by_cases h : i ≤ j
    · rw [if_pos h, if_pos h]
    · rw [if_neg h, if_neg h, if_neg h]
  | a :: l, i, N, r, j => by
    show adOf (adsOf (i + 1) l N ((i, a) :: r)) j = _
    rw [adsOf_spec l (i + 1) N ((i, a) :: r) j, adOf_cons]
    simp only [List.length_cons]
    by_cases h1 : i + 1 + l.length ≤ j
    · have h1' : i + (l.length + 1) ≤ j := by omega
      rw [if_pos h1, if_pos h1', show j - (i + 1 + l.length) = j - (i + (l.length + 1)) by omega]
    · have h1' : ¬ i + (l.length + 1) ≤ j := by omega
      rw [if_neg h1, if_neg h1']
      by_cases h2 : i + 1 ≤ j
      · have h3 : i ≤ j := by omega
        rw [if_pos h2, if_pos h3, show j - i = (j - (i + 1)) + 1 by omega]
        rfl
      · rw [if_neg h2]
        by_cases h3 : i ≤ j
        · rw [if_pos h3, if_pos h3, show j - i = 0 by omega]; rfl
        · rw [if_neg h3, if_neg h3]

structure Sane (kt : X.KT) (n₀ : Nat) (s : Shared) : Prop where
  kt : ∀ a o, kt.get a = some o → a < n₀ ∧ s.heap.get? a = some o
  top : n₀ ≤ s.heap.objs.size
theorem Sane.keep {kt : X.KT} {n₀ : Nat} {as : List Nat} {s s' : Shared} (S : Sane kt n₀ s) (k : Keep as s s') (lo : ∀ a ∈ as, n₀ ≤ a) : Sane kt n₀ s' :=
  ⟨fun a o e => ⟨(S.kt a o e).1, k.keep a o (S.kt a o e).2 fun h => by have := lo a h; have := (S.kt a o e).1; omega⟩, Nat.le_trans S.top k.size⟩

noncomputable def baseOf (kt : X.KT) (n₀ k : Nat) (s : Shared) : Base := ⟨kt, n₀, s.heap, k, s.gens, s.drawn, s.os⟩
theorem Rep.start {kt : X.KT} {n₀ : Nat} {s : Shared} (S : Sane kt n₀ s) {l : List (Nat × Obj)} (H : Holds s l) (nd : (l.map (·.1)).Nodup) (lo : ∀ x ∈ l, n₀ ≤ x.1) :
    Rep (baseOf kt n₀ l.length s) s (treeOf 0 (l.map (·.2)) .nil) l.length (adsOf 0 (l.map (·.1)) s.heap.objs.size []) s.toks := by
  have ad : ∀ j, adOf (adsOf 0 (l.map (·.1)) s.heap.objs.size []) j = if l.length ≤ j then s.heap.objs.size + (j - l.length) else (l.map (·.1)).getD j 0 := fun j => by
    rw [adsOf_spec]
    simp only [List.length_map, Nat.zero_add, Nat.sub_zero, Nat.zero_le, if_true]
  have at_ : ∀ j (h : j < l.length), (l.map (·.1)).getD j 0 = l[j].1 := fun j h => by
    rw [List.getD_eq_getElem?_getD, List.getElem?_map, List.getElem?_eq_getElem h]; rfl
  have adlt : ∀ j (h : j < l.length), adOf (adsOf 0 (l.map (·.1)) s.heap.objs.size []) j = l[j].1 := fun j h => by rw [ad, if_neg (by omega), at_ j h]
  have adm : adOf (adsOf 0 (l.map (·.1)) s.heap.objs.size []) l.length = s.heap.objs.size := by rw [ad, if_pos (Nat.le_refl _), Nat.sub_self, Nat.add_zero]
  refine ⟨adm.symm, fun i o e => ?_, fun i j hi hj e => ?_, fun i hi => ?_, by rw [adm]; exact S.top, fun k => ?_, S.kt, fun b o e _ => e, Nat.le_refl _, fun i hk hi => absurd hi (Nat.not_lt.mpr hk), rfl, rfl, rfl, rfl⟩
  · rw [treeOf_get (l.map (·.2)) 0 .nil (fun j => by simp [BT.get]), if_neg (Nat.not_lt_zero _), Nat.sub_zero, List.getElem?_map] at e
    obtain ⟨x, hx, rfl⟩ := Option.map_eq_some_iff.mp e
    obtain ⟨hi, rfl⟩ := List.getElem?_eq_some_iff.mp hx
    exact ⟨hi, by rw [adlt i hi]; exact H _ (List.getElem_mem hi)⟩
  · rw [adlt i hi, adlt j hj] at e
    have := (List.getElem_inj (i := i) (j := j) (h₀ := by rw [List.length_map]; exact hi) (h₁ := by rw [List.length_map]; exact hj) nd).mp (by rw [List.getElem_map, List.getElem_map]; exact e)
    exact this
  · rw [adlt i hi, adm]
    exact ⟨lo _ (List.getElem_mem hi), Heap.lt_size (H _ (List.getElem_mem hi))⟩
  · rw [ad, if_pos (by omega), adm]; omega

/-- the table goes on to another state: all but some of its objects, and all else, as it was -/
theorem Rep.to {B : Base} {s s' : Shared} {T T' : BT} {m : Nat} {ads : Ads} {tk : Nat} (D : Rep B s T m ads tk) (js : List Nat) (hj : ∀ j ∈ js, j < m) (k : Keep (js.map (adOf ads)) s s')
    (own : ∀ i o, T'.get i = some o → i < m ∧ s'.heap.get? (adOf ads i) = some o) : Rep B s' T' m ((m, s'.heap.objs.size) :: ads) s'.toks := by
  have ad : ∀ i, i < m → adOf ((m, s'.heap.objs.size) :: ads) i = adOf ads i := fun i h => by rw [adOf_cons, if_neg (by show ¬ m ≤ i; omega)]
  have adm : ∀ i, adOf ((m, s'.heap.objs.size) :: ads) (m + i) = s'.heap.objs.size + i := fun i => by rw [adOf_cons, if_pos (Nat.le_add_right _ _)]; show _ + (m + i - m) = _; omega
  have adm0 := adm 0
  rw [Nat.add_zero, Nat.add_zero] at adm0
  have hs := k.size
  rw [D.size] at hs
  refine ⟨adm0.symm, fun i o₁ e₁ => ?_, fun i i' hi hi' e₁ => ?_, fun i hi => ?_, by rw [adm0]; exact Nat.le_trans D.top hs, fun i => by rw [adm, adm0], fun a o₁ e₁ => ⟨(D.kt a o₁ e₁).1, k.keep a o₁ (D.kt a o₁ e₁).2 ?_⟩, fun b o₁ e₁ hb => k.keep b o₁ (D.frame b o₁ e₁ fun i hi => by have := hb i hi; rwa [ad i hi] at this) ?_, Nat.le_trans D.old k.size, (fun i hk hi => by rw [ad i hi]; exact D.young i hk hi), rfl, k.gens.trans D.gens, k.drawn.trans D.drawn, k.os.trans D.os⟩
  · have z := own i o₁ e₁
    exact ⟨z.1, by rw [ad i z.1]; exact z.2⟩
  · rw [ad i hi, ad i' hi'] at e₁; exact D.inj i i' hi hi' e₁
  · rw [ad i hi, adm0]
    have := D.lo i hi
    exact ⟨this.1, Nat.lt_of_lt_of_le this.2 hs⟩
  · intro q
    obtain ⟨j, hj', rfl⟩ := List.mem_map.mp q
    have h1 := (D.kt _ o₁ e₁).1
    have h2 := (D.lo j (hj j hj')).1
    omega
  · intro q
    obtain ⟨j, hj', rfl⟩ := List.mem_map.mp q
    have := hb j (hj j hj')
    rw [ad j (hj j hj')] at this
    exact this rfl
noncomputable def setAll (T : BT) : List (Nat × Obj) → BT
  | [] => T
  | x :: r => setAll (T.set x.1 fun _ => x.2) r
theorem own_setAll {s' : Shared} {m : Nat} {ads : Ads} : ∀ (ch : List (Nat × Obj)) (T : BT), (∀ x ∈ ch, s'.heap.get? (adOf ads x.1) = some x.2) →
    (∀ i o, T.get i = some o → i < m ∧ (s'.heap.get? (adOf ads i) = some o ∨ i ∈ ch.map (·.1))) → ∀ i o, (setAll T ch).get i = some o → i < m ∧ s'.heap.get? (adOf ads i) = some o
  | [], T, _, h, i, o, e => ⟨(h i o e).1, (h i o e).2.elim id (by simp)⟩
  | x :: r, T, hc, h, i, o, e => by
    refine own_setAll r (T.set x.1 fun _ => x.2) (fun y hy => hc y (List.mem_cons_of_mem _ hy)) (fun i o e => ?_) i o e
    rw [BT.get_set] at e
    by_cases q : i = x.1
    · subst q
      rw [if_pos rfl] at e
      obtain ⟨o', h1, h2⟩ := Option.map_eq_some_iff.mp e
      subst h2
      exact ⟨(h _ _ h1).1, .inl (hc x (List.mem_cons_self ..))⟩
    · rw [if_neg q] at e
      refine ⟨(h i o e).1, (h i o e).2.imp id fun z => ?_⟩
      rcases List.mem_cons.mp z with z | z
      · exact absurd z q
      · exact z
theorem Rep.move {B : Base} {s s' : Shared} {T : BT} {m : Nat} {ads : Ads} {tk : Nat} (D : Rep B s T m ads tk) (ch : List (Nat × Obj)) (hc : ∀ x ∈ ch, x.1 < m ∧ s'.heap.get? (adOf ads x.1) = some x.2)
    (k : Keep (ch.map fun x => adOf ads x.1) s s') : Rep B s' (setAll T ch) m ((m, s'.heap.objs.size) :: ads) s'.toks := by
  have k' : Keep ((ch.map (·.1)).map (adOf ads)) s s' := by rw [List.map_map]; exact k
  refine D.to (ch.map (·.1)) (fun j hj => ?_) k' (own_setAll ch T (fun x hx => (hc x hx).2) fun i o e => ?_)
  · obtain ⟨x, hx, rfl⟩ := List.mem_map.mp hj
    exact (hc x hx).1
  · have z := D.own i o e
    refine ⟨z.1, ?_⟩
    by_cases q : i ∈ ch.map (·.1)
    · exact .inr q
    · refine .inl (k'.keep _ _ z.2 fun h => ?_)
      obtain ⟨j, hj, e'⟩ := List.mem_map.mp h
      obtain ⟨x, hx, rfl⟩ := List.mem_map.mp hj
      exact q (D.inj _ _ (hc x hx).1 z.1 e' ▸ hj)
theorem Rep.addNew {B : Base} {s : Shared} {T : BT} {m : Nat} {ads : Ads} {t N a : Nat} {o : Obj} (D : Rep B s T m ((m, N) :: ads) t) (ho : s.heap.get? a = some o) (h1 : B.n₀ ≤ a) (h2 : B.h₀.objs.size ≤ a)
    (h3 : ∀ i, i < m → adOf ads i ≠ a) (hg : ((T.ins m o).get m).isSome = true) : Rep B s (T.ins m o) (m + 1) ((m + 1, N) :: (m, a) :: ads) t := by
  have ad : ∀ i, i < m → adOf ((m + 1, N) :: (m, a) :: ads) i = adOf ads i := fun i h => by
    rw [adOf_cons, if_neg (by show ¬ m + 1 ≤ i; omega), adOf_cons, if_neg (by show ¬ m ≤ i; omega)]
  have ad' : ∀ i, i < m → adOf ((m, N) :: ads) i = adOf ads i := fun i h => by rw [adOf_cons, if_neg (by show ¬ m ≤ i; omega)]
  have adM : adOf ((m + 1, N) :: (m, a) :: ads) m = a := by
    rw [adOf_cons, if_neg (by show ¬ m + 1 ≤ m; omega), adOf_cons, if_pos (Nat.le_refl _)]; show a + (m - m) = a; omega
  have adT : ∀ k, adOf ((m + 1, N) :: (m, a) :: ads) (m + 1 + k) = N + k := fun k => by
    rw [adOf_cons, if_pos (Nat.le_add_right _ _)]; show N + (m + 1 + k - (m + 1)) = _; omega
  have adT0 : adOf ((m + 1, N) :: (m, a) :: ads) (m + 1) = N := adT 0
  have adN : adOf ((m, N) :: ads) m = N := by rw [adOf_cons, if_pos (Nat.le_refl _)]; show N + (m - m) = N; omega
  have hN : s.heap.objs.size = N := D.size.trans adN
  have haN : a < N := hN ▸ Heap.lt_size ho
  refine ⟨hN.trans adT0.symm, fun i o' e => ?_, fun i j hi hj e => ?_, fun i hi => ?_, by rw [adT0]; have := D.top; rw [adN] at this; exact this, fun k => by rw [adT, adT0], D.kt, fun b o' e hb => D.frame b o' e fun i hi q => hb i (Nat.lt_succ_of_lt hi) (by rw [ad i hi, ← ad' i hi]; exact q), D.old, fun i hk hi => ?_, D.toks, D.gens, D.drawn, D.os⟩
  · rw [BT.get_ins o T m hg] at e
    by_cases q : i = m
    · subst q
      rw [if_pos rfl] at e
      cases e
      exact ⟨Nat.lt_succ_self _, by rw [adM]; exact ho⟩
    · rw [if_neg q] at e
      have z := D.own i o' e
      exact ⟨Nat.lt_succ_of_lt z.1, by rw [ad i z.1, ← ad' i z.1]; exact z.2⟩
  · rcases Nat.lt_succ_iff_lt_or_eq.mp hi with hi | rfl <;> rcases Nat.lt_succ_iff_lt_or_eq.mp hj with hj | rfl
    · rw [ad i hi, ad j hj, ← ad' i hi, ← ad' j hj] at e; exact D.inj i j hi hj e
    · rw [ad i hi, adM] at e; exact absurd e (h3 i hi)
    · rw [ad j hj, adM] at e; exact absurd e.symm (h3 j hj)
    · rfl
  · rw [adT0]
    rcases Nat.lt_succ_iff_lt_or_eq.mp hi with hi | rfl
    · have := D.lo i hi
      rw [ad' i hi, adN] at this
      rw [ad i hi]; exact this
    · rw [adM]; exact ⟨h1, haN⟩
  · rcases Nat.lt_succ_iff_lt_or_eq.mp hi with hi | rfl
    · have := D.young i hk hi
      rw [ad' i hi] at this
      rw [ad i hi]; exact this
    · rw [adM]; exact h2
theorem Rep.putNew {B : Base} {s : Shared} {N t lo : Nat} {ν : Nat → Nat} (h1 : B.n₀ ≤ lo) (h2 : B.h₀.objs.size ≤ lo) : ∀ (l : List Obj) (i : Nat) {T : BT} {m : Nat} {ads : Ads} {T' : BT} {m' : Nat} {ads' : Ads},
    Rep B s T m ((m, N) :: ads) t → (∀ k o, l[k]? = some o → s.heap.get? (ν (i + k)) = some o ∧ lo ≤ ν (i + k)) → (∀ j k, j < m → k < l.length → adOf ads j ≠ ν (i + k)) → (∀ k k', k < l.length → k' < l.length → ν (i + k) = ν (i + k') → k = k') →
    Mine.putNew ν i l T m ads = some (T', m', ads') → Rep B s T' m' ((m', N) :: ads') t
  | [], i, T, m, ads, T', m', ads', D, _, _, _, e => by cases e; exact D
  | o :: r, i, T, m, ads, T', m', ads', D, h, h3, inj, e => by
    unfold Mine.putNew at e
    split at e
    · rename_i q
      have z := h 0 o rfl
      refine Rep.putNew h1 h2 r (i + 1) (D.addNew z.1 (Nat.le_trans h1 z.2) (Nat.le_trans h2 z.2) (fun j hj => h3 j 0 hj (Nat.succ_pos _)) (by rw [q]; rfl)) (fun k o' e' => ?_) (fun j k hj hk => ?_) (fun k k' hk hk' e' => ?_) e
      · have := h (k + 1) o' e'
        rwa [show i + (k + 1) = i + 1 + k by omega] at this
      · rw [adOf_cons]
        by_cases q : m ≤ j
        · rw [if_pos (show m ≤ j from q)]
          have : j = m := by omega
          subst this
          intro e'
          have := inj 0 (k + 1) (Nat.succ_pos _) (Nat.succ_lt_succ hk) (by rw [show i + (k + 1) = i + 1 + k by omega, ← e']; show ν i = ν i + (j - j); omega)
          omega
        · rw [if_neg (show ¬ m ≤ j from q)]
          have := h3 j (k + 1) (by omega) (Nat.succ_lt_succ hk)
          rwa [show i + (k + 1) = i + 1 + k by omega] at this
      · have := inj (k + 1) (k' + 1) (Nat.succ_lt_succ hk) (Nat.succ_lt_succ hk') (by rw [show i + (k + 1) = i + 1 + k by omega, show i + (k' + 1) = i + 1 + k' by omega]; exact e')
        omega
    · cases e
/-- what a contract must say, in the words of states -/
theorem left_of {B : Base} {s s' : Shared} {T : BT} {m : Nat} {ads : Ads} {tk : Nat} {g : Con} {ν : Unk} {r : Result} {ch : List (Nat × Obj)} {news : List Obj} (D : Rep B s T m ads tk) (e : g.left ν = ⟨r, setAll T ch, news⟩)
    (hc : ∀ x ∈ ch, x.1 < m ∧ s'.heap.get? (adOf ads x.1) = some x.2) (k : Keep (ch.map fun x => adOf ads x.1) s s')
    (hn : ∀ k o, news[k]? = some o → s'.heap.get? (ν.n k) = some o ∧ s.heap.objs.size ≤ ν.n k) (inj : ∀ k k', k < news.length → k' < news.length → ν.n k = ν.n k' → k = k') :
    LeftRep B g ν r s' m ads s'.heap.objs.size s'.toks := by
  unfold LeftRep
  rw [e]
  refine ⟨rfl, fun T' m' ads' h => Rep.putNew (lo := s.heap.objs.size) (D.size ▸ D.top) D.old news 0 (D.move ch hc k) (by simpa using hn) (fun j k hj hk e' => ?_) (by simpa using inj) h⟩
  have h1 := (D.lo j hj).2
  have h2 := (hn k news[k] (List.getElem?_eq_getElem hk)).2
  rw [D.size] at h2
  rw [Nat.zero_add] at e'
  omega
theorem left_one {B : Base} {s s' : Shared} {T : BT} {m : Nat} {ads : Ads} {tk : Nat} {g : Con} {ν : Unk} {r : Result} {ch : List (Nat × Obj)} {o : Obj} (D : Rep B s T m ads tk) (e : g.left ν = ⟨r, setAll T ch, [o]⟩)
    (hc : ∀ x ∈ ch, x.1 < m ∧ s'.heap.get? (adOf ads x.1) = some x.2) (k : Keep (ch.map fun x => adOf ads x.1) s s')
    (h1 : s'.heap.get? (ν.n 0) = some o) (h2 : s.heap.objs.size ≤ ν.n 0) : LeftRep B g ν r s' m ads s'.heap.objs.size s'.toks := by
  refine left_of D e hc k (fun k o' q => ?_) (fun k k' hk hk' _ => ?_)
  · cases k with
    | zero => cases q; exact ⟨h1, h2⟩
    | succ k => simp at q
  · simp at hk hk'; omega
theorem left_none {B : Base} {s s' : Shared} {T : BT} {m : Nat} {ads : Ads} {tk : Nat} {g : Con} {ν : Unk} {r : Result} {ch : List (Nat × Obj)} (D : Rep B s T m ads tk) (e : g.left ν = ⟨r, setAll T ch, []⟩)
    (hc : ∀ x ∈ ch, x.1 < m ∧ s'.heap.get? (adOf ads x.1) = some x.2) (k : Keep (ch.map fun x => adOf ads x.1) s s') : LeftRep B g ν r s' m ads s'.heap.objs.size s'.toks :=
  left_of D e hc k (fun k o' q => by simp at q) (fun k k' hk hk' _ => by simp at hk)

/-! ### looking at what a run leaves -/
noncomputable def look (is : List Nat) (X : Out) : Option (End1 × List (Option Obj) × List Nat × List (Nat × Nat) × List (Ctx × Ctx) × List (Option Obj × Option Obj) × Prop) := match X with
  | .fin e T _ ads _ A => some (e, is.map T.get, is.map (adOf ads), A.eqs, A.gs, A.os, A.ob)
  | .stop _ => none
noncomputable def eqsOf : Out → List (Nat × Nat)
  | .fin _ _ _ _ _ A => A.eqs
  | _ => []
noncomputable def gsOf : Out → List (Ctx × Ctx)
  | .fin _ _ _ _ _ A => A.gs
  | _ => []
noncomputable def osOf : Out → List (Option Obj × Option Obj)
  | .fin _ _ _ _ _ A => A.os
  | _ => []
noncomputable def dup (l : List (Nat × Nat)) : List (Nat × Nat) := l.map fun x => (x.1, x.1)
noncomputable def dupG (l : List (Ctx × Ctx)) : List (Ctx × Ctx) := l.map fun x => (x.1, x.1)
noncomputable def dupO (l : List (Option Obj × Option Obj)) : List (Option Obj × Option Obj) := l.map fun x => (x.1, x.1)
theorem dup_ok {l : List (Nat × Nat)} (h : l = dup l) : ∀ x ∈ l, x.1 = x.2 := fun x hx => by
  rw [h] at hx
  obtain ⟨y, _, rfl⟩ := List.mem_map.mp hx
  rfl
theorem dupG_ok {l : List (Ctx × Ctx)} (h : l = dupG l) : ∀ x ∈ l, x.1 = x.2 := fun x hx => by
  rw [h] at hx
  obtain ⟨y, _, rfl⟩ := List.mem_map.mp hx
  rfl

theorem dupO_ok {l : List (Option Obj × Option Obj)} (h : l = dupO l) : ∀ x ∈ l, x.1 = x.2 := fun x hx => by
  rw [h] at hx
  obtain ⟨y, _, rfl⟩ := List.mem_map.mp hx
  rfl

/-- what is known behind a run: the objects asked for (the first are those that stood ahead, then new ones), all else as it was -/
structure After (s s' : Shared) (l : List Nat) (is as : List Nat) (os : List (Option Obj)) : Prop where
  keep : Keep l s s'
  objs : ∀ (i a : Nat) (o : Obj), as[i]? = some a → os[i]? = some (some o) → s'.heap.get? a = some o
  young : ∀ (i a j : Nat) (o : Obj), is[i]? = some j → l.length ≤ j → as[i]? = some a → os[i]? = some (some o) → s.heap.objs.size ≤ a
  apart : ∀ (i i' a a' j j' : Nat) (o o' : Obj), is[i]? = some j → is[i']? = some j' → j ≠ j' → as[i]? = some a → os[i]? = some (some o) → as[i']? = some a' → os[i']? = some (some o') → a ≠ a'

theorem good_of_look {kt : X.KT} {n₀ : Nat} {s : Shared} {M : Model} {R : Result → Shared → Prop} {l ext : List Nat} {X : Out} {e : End1} {os : List (Option Obj)} {xs : List Nat} {ob : Prop}
    (h : look (List.range l.length ++ ext) X = some (e, os, l ++ xs, dup (eqsOf X), dupG (gsOf X), dupO (osOf X), ob)) (hob : ob) (fin : ∀ s', After s s' l (List.range l.length ++ ext) (l ++ xs) os → EndOk M R e s') : Good (baseOf kt n₀ l.length s) M R X := by
  cases X with
  | stop n => cases h
  | fin e' T m ads tk A =>
    simp only [look, Option.some.injEq, Prod.mk.injEq] at h
    obtain ⟨rfl, rfl, h0, h1, h2, h4, h3⟩ := h
    have hl : (List.range l.length).map (adOf ads) = l := by
      rw [List.map_append] at h0
      exact (List.append_inj h0 (by simp)).1
    rw [← h0] at fin
    have getA : ∀ {i a : Nat} {o : Obj}, ((List.range l.length ++ ext).map (adOf ads))[i]? = some a → ((List.range l.length ++ ext).map T.get)[i]? = some (some o) → ∃ j, (List.range l.length ++ ext)[i]? = some j ∧ a = adOf ads j ∧ T.get j = some o := by
      intro i a o ha ho
      rw [List.getElem?_map] at ha ho
      obtain ⟨x, hx, rfl⟩ := Option.map_eq_some_iff.mp ha
      obtain ⟨y, hy, hy'⟩ := Option.map_eq_some_iff.mp ho
      rw [hx] at hy
      cases hy
      exact ⟨x, hx, rfl, hy'⟩
    refine ⟨⟨dup_ok h1, dupG_ok h2, dupO_ok h4, h3 ▸ hob⟩, fun s' D => fin s' ⟨⟨fun b o hb hn => D.frame b o hb fun i hi => ?_, D.old, D.gens, D.drawn, D.os⟩, fun i a o ha ho => ?_, fun i a j o hj hk ha ho => ?_, fun i i' a a' j j' o o' hj hj' hne ha ho ha' ho' => ?_⟩⟩
    · by_cases q : i < l.length
      · intro z
        rw [← hl] at hn
        exact hn (z ▸ List.mem_map.mpr ⟨i, List.mem_range.mpr q, rfl⟩)
      · have h1 := D.young i (Nat.le_of_not_lt q) hi
        have h2 := Heap.lt_size hb
        exact Nat.ne_of_lt (Nat.lt_of_lt_of_le h2 h1)
    · obtain ⟨x, hx, rfl, hy'⟩ := getA ha ho
      exact (D.own _ _ hy').2
    · obtain ⟨x, hx, rfl, hy'⟩ := getA ha ho
      rw [hj] at hx; cases hx
      exact D.young _ hk (D.own _ _ hy').1
    · obtain ⟨x, hx, rfl, hy⟩ := getA ha ho
      obtain ⟨x', hx', rfl, hy'⟩ := getA ha' ho'
      rw [hj] at hx; cases hx
      rw [hj'] at hx'; cases hx'
      exact fun q => hne (D.inj _ _ (D.own _ _ hy).1 (D.own _ _ hy').1 q)

/-- the executor's word for a tree: from what stands ahead to what stands behind -/
theorem run_tree {kt : X.KT} {n₀ : Nat} {s : Shared} {M : Model} {R : Result → Shared → Prop} {C : Cfg} {l : List (Nat × Obj)} {Γ : Ctx} {p : Pos} {t : Sem Fin} {n : Nat} {hs ext : List Nat}
    (hden : C.den = M.den) (hprog : C.prog = M.prog) (hw : C.w = M.w) (hkt : C.kt = kt) (hcon : ConOk (baseOf kt n₀ l.length s) M C) (hlv : LvOk M C)
    (S : Sane kt n₀ s) (H : Holds s l) (nd : (l.map (·.1)).Nodup) (lo : ∀ x ∈ l, n₀ ≤ x.1)
    (e : Nv → End1) (os : Nv → List (Option Obj)) (xs : Nv → List Nat) (ob : Nv → Prop)
    (run : ∀ nv, let X := sx C n Γ p .base t hs (treeOf 0 (l.map (·.2)) .nil) l.length (adsOf 0 (l.map (·.1)) s.heap.objs.size []) s.toks 0 nv ⟨[], [], [], True⟩
      look (List.range l.length ++ ext) X = some (e nv, os nv, l.map (·.1) ++ xs nv, dup (eqsOf X), dupG (gsOf X), dupO (osOf X), ob nv))
    (hob : ∀ nv, ob nv) (fin : ∀ nv s', After s s' (l.map (·.1)) (List.range l.length ++ ext) (l.map (·.1) ++ xs nv) (os nv) → EndOk M R (e nv) s') : Mean M R .base Γ p t s := by
  refine sx_sound hden hprog hw hkt hcon hlv n Γ p .base _ hs _ _ _ _ 0 ⟨[], [], [], True⟩ s (Rep.start S H nd lo) fun nv => ?_
  have hlen : l.length = (l.map (·.1)).length := by rw [List.length_map]
  have r := run nv
  have f := fin nv
  rw [hlen] at r f ⊢
  exact good_of_look (by simpa only [List.length_map] using r) (hob nv) (by simpa only [List.length_map] using f)
/-- the same for a code -/
theorem run_spec {kt : X.KT} {n₀ : Nat} {s : Shared} {M : Model} {R : Result → Shared → Prop} {C : Cfg} {l : List (Nat × Obj)} {Γ : Ctx} {p : Pos} {n : Nat} {hs ext : List Nat}
    (hden : C.den = M.den) (hprog : C.prog = M.prog) (hw : C.w = M.w) (hkt : C.kt = kt) (hcon : ConOk (baseOf kt n₀ l.length s) M C) (hlv : LvOk M C)
    (S : Sane kt n₀ s) (H : Holds s l) (nd : (l.map (·.1)).Nodup) (lo : ∀ x ∈ l, n₀ ≤ x.1)
    (e : Nv → End1) (os : Nv → List (Option Obj)) (xs : Nv → List Nat) (ob : Nv → Prop)
    (run : ∀ nv, let X := sx C n Γ p .base (C.den Γ.code) hs (treeOf 0 (l.map (·.2)) .nil) l.length (adsOf 0 (l.map (·.1)) s.heap.objs.size []) s.toks 0 nv ⟨[], [], [], True⟩
      look (List.range l.length ++ ext) X = some (e nv, os nv, l.map (·.1) ++ xs nv, dup (eqsOf X), dupG (gsOf X), dupO (osOf X), ob nv))
    (hob : ∀ nv, ob nv) (fin : ∀ nv s', After s s' (l.map (·.1)) (List.range l.length ++ ext) (l.map (·.1) ++ xs nv) (os nv) → EndOk M R (e nv) s') : wpCode M Γ R p s := by
  rw [wpCode_iff_wp, ← hden]
  exact run_tree hden hprog hw hkt hcon hlv S H nd lo e os xs ob run hob fin
/-- the tree of a code without what is done to a raise -/
noncomputable def lvOf (C : Cfg) (c : Code) : Sem Fin := match C.lvt c with
  | some (t, _, _) => t
  | none => .unsupported ""
/-- the same for a code whose raises are noted by its frame -/
theorem run_lv {kt : X.KT} {n₀ : Nat} {s : Shared} {M : Model} {R : Result → Shared → Prop} {C : Cfg} {l : List (Nat × Obj)} {Γ : Ctx} {p : Pos} {env : Env} {fl : Bool} {n : Nat} {hs ext : List Nat}
    (hden : C.den = M.den) (hprog : C.prog = M.prog) (hw : C.w = M.w) (hkt : C.kt = kt) (hcon : ConOk (baseOf kt n₀ l.length s) M C) (hlv : LvOk M C)
    (S : Sane kt n₀ s) (H : Holds s l) (nd : (l.map (·.1)).Nodup) (lo : ∀ x ∈ l, n₀ ≤ x.1) (hl : C.lvt Γ.code = some (lvOf C Γ.code, env, fl))
    (e : Nv → End1) (os : Nv → List (Option Obj)) (xs : Nv → List Nat) (ob : Nv → Prop)
    (run : ∀ nv, let X := sx C n Γ p (.lv Γ env fl .base) (lvOf C Γ.code) hs (treeOf 0 (l.map (·.2)) .nil) l.length (adsOf 0 (l.map (·.1)) s.heap.objs.size []) s.toks 0 nv ⟨[], [], [], True⟩
      look (List.range l.length ++ ext) X = some (e nv, os nv, l.map (·.1) ++ xs nv, dup (eqsOf X), dupG (gsOf X), dupO (osOf X), ob nv))
    (hob : ∀ nv, ob nv) (fin : ∀ nv s', After s s' (l.map (·.1)) (List.range l.length ++ ext) (l.map (·.1) ++ xs nv) (os nv) → EndOk M R (e nv) s') : wpCode M Γ R p s := by
  refine lv_enter (κ := .base) hlv rfl rfl hl (sx_sound hden hprog hw hkt hcon hlv n Γ p _ _ hs _ _ _ _ 0 ⟨[], [], [], True⟩ s (Rep.start S H nd lo) fun nv => ?_)
  have hlen : l.length = (l.map (·.1)).length := by rw [List.length_map]
  have r := run nv
  have f := fin nv
  rw [hlen] at r f ⊢
  exact good_of_look (by simpa only [List.length_map] using r) (hob nv) (by simpa only [List.length_map] using f)
/-- what a call has done: some objects turned, some new -/
structure Did (s s' : Shared) (ch news : List (Nat × Obj)) : Prop where
  keep : Keep (ch.map (·.1)) s s'
  holds : Holds s' ch
  new : Holds s' news
  young : ∀ x ∈ news, s.heap.objs.size ≤ x.1
  nodup : (news.map (·.1)).Nodup
/-- a contract told by what stands at its addresses -/
noncomputable def conS (T : BT) (ads : Ads) (gx : Ctx) (ins : List (Nat × Nat × Obj)) (ob : Prop) (res : Unk → Result) (ch : Unk → List (Nat × Obj)) (news : Unk → List Obj) : Con :=
  { gx, nq := ins.map (fun x => (x.2.1, adOf ads x.1)), oq := ins.map (fun x => (T.get x.1, some x.2.2)), ob, left := fun ν => ⟨res ν, setAll T (ch ν), news ν⟩ }
theorem conS_holds {B : Base} {s : Shared} {T : BT} {m : Nat} {ads : Ads} {tk : Nat} {gx : Ctx} {ins : List (Nat × Nat × Obj)} {ob : Prop} {res : Unk → Result} {ch : Unk → List (Nat × Obj)} {news : Unk → List Obj} (D : Rep B s T m ads tk)
    (hn : ∀ x ∈ (conS T ads gx ins ob res ch news).nq, x.1 = x.2) (ho : ∀ x ∈ (conS T ads gx ins ob res ch news).oq, x.1 = x.2) : Holds s (ins.map fun x => (x.2.1, x.2.2)) ∧ ∀ x ∈ ins, x.1 < m ∧ x.2.1 = adOf ads x.1 := by
  have h1 : ∀ x ∈ ins, x.2.1 = adOf ads x.1 := fun x hx => hn _ (List.mem_map.mpr ⟨x, hx, rfl⟩)
  have h2 : ∀ x ∈ ins, T.get x.1 = some x.2.2 := fun x hx => ho _ (List.mem_map.mpr ⟨x, hx, rfl⟩)
  refine ⟨fun y hy => ?_, fun x hx => ⟨(D.own _ _ (h2 x hx)).1, h1 x hx⟩⟩
  obtain ⟨x, hx, rfl⟩ := List.mem_map.mp hy
  show s.heap.get? x.2.1 = some x.2.2
  rw [h1 x hx]
  exact (D.own _ _ (h2 x hx)).2
theorem conS_left {B : Base} {s s' : Shared} {T : BT} {m : Nat} {ads : Ads} {tk : Nat} {gx : Ctx} {ins : List (Nat × Nat × Obj)} {ob : Prop} {res : Unk → Result} {ch : Unk → List (Nat × Obj)} {news : Unk → List Obj} (D : Rep B s T m ads tk)
    (ν : Unk) (r : Result) (hr : r = res ν) (c : List (Nat × Obj)) (n : List (Nat × Obj)) (G : Did s s' c n) (hc : c = (ch ν).map fun x => (adOf ads x.1, x.2)) (hm : ∀ x ∈ ch ν, x.1 < m)
    (hn1 : n.map (·.2) = news ν) (hn2 : ∀ k, k < n.length → (n.map (·.1))[k]? = some (ν.n k)) : ∃ N t ν', LeftRep B (conS T ads gx ins ob res ch news) ν' r s' m ads N t := by
  refine ⟨_, _, ν, left_of (ch := ch ν) (news := news ν) D (by rw [hr]; rfl) (fun x hx => ⟨hm x hx, ?_⟩) ?_ (fun k o hk => ?_) fun k k' hk hk' e => ?_⟩
  · exact G.holds (adOf ads x.1, x.2) (by rw [hc]; exact List.mem_map.mpr ⟨x, hx, rfl⟩)
  · have := G.keep
    rw [hc, List.map_map] at this
    exact this
  · rw [← hn1, List.getElem?_map] at hk
    obtain ⟨y, hy, rfl⟩ := Option.map_eq_some_iff.mp hk
    have hlt := (List.getElem?_eq_some_iff.mp hy).1
    have e := hn2 k hlt
    rw [List.getElem?_map, hy] at e
    have e : y.1 = ν.n k := Option.some.inj e
    have hmem : y ∈ n := List.mem_of_getElem? hy
    exact ⟨e ▸ G.new y hmem, e ▸ G.young y hmem⟩
  · rw [← hn1, List.length_map] at hk hk'
    have e1 := hn2 k hk
    have e2 := hn2 k' hk'
    rw [← e] at e2
    obtain ⟨a1, b1⟩ := List.getElem?_eq_some_iff.mp e1
    obtain ⟨a2, b2⟩ := List.getElem?_eq_some_iff.mp e2
    exact (List.getElem_inj G.nodup).mp (b1.trans b2.symm)
/-! SxCon -/
/-! ### contracts out of the library's rules -/
noncomputable def exactA (Γ : Ctx) : Around := { handled := Γ.handled, depth := frameCount Γ.below, frames := some (envsOf Γ.below), guards := some (guardsOf Γ.below), units := unitsOf Γ.below }
theorem below_exact (Γ : Ctx) : Γ.Below (exactA Γ) :=
  ⟨rfl, Nat.le_refl _, fun l h => by cases h; rfl, fun g h => by cases h; rfl, Nat.le_refl _⟩
theorem wpCode_any {M : Model} {Γ : Ctx} {R : Result → Shared → Prop} {p : Pos} {s : Shared} (h : codeAny M (exactA Γ) Γ.code R s) : wpCode M Γ R p s := h Γ p rfl (below_exact Γ)
/-- only the tokens have moved -/
theorem Keep.toks (s : Shared) (t : Nat) : Keep [] s { s with toks := t } := ⟨fun _ _ e _ => e, Nat.le_refl _, rfl, rfl, rfl⟩

theorem left_toks {B : Base} {s : Shared} {T : BT} {m : Nat} {ads : Ads} {tk : Nat} (D : Rep B s T m ads tk) {g : Con} {r : Result} {ν : Unk} (t : Nat) (e : g.left ν = ⟨r, T, []⟩) :
    LeftRep B g ν r { s with toks := t } m ads s.heap.objs.size t :=
  left_none (s' := { s with toks := t }) (ch := []) D e (by simp) (Keep.toks s t)

theorem add_code {prog : Program} {w : World} {A : Around} {s : Shared} {a b : Str} {ta tb : Tok} {R : Result → Shared → Prop} (hs : (a ++ b).length ≤ sizeLine)
    (h : ∀ τ t, R (.ok (.ret (.str (a ++ b) τ))) { s with toks := t }) : codeAny (model prog w) A (.call (.builtin "str.__add__") ⟨[.str a ta, .str b tb], []⟩) R s := by
  refine codeAny_call_builtin F.slot_str_add.plain F.entry_str_add (F.slot_str_add.check _ _ _ _ _ _ _ _ (typeIs_str s a ta) (F.args_str_add_2 _ _) (gives_str_add a b ta tb prog w A R s ?_))
  split
  · rename_i h0
    have : a ++ b = b := by
      have : a = Str.empty := by
        obtain ⟨⟨l⟩⟩ := a
        have : l.length = 0 := by simpa [Str.length] using h0
        cases l with
        | nil => rfl
        | cons => simp at this
      rw [this]; exact Str.empty_append b
    have z := h tb s.toks
    rw [this] at z
    exact z
  · split
    · rename_i h0
      have : a ++ b = a := by
        obtain ⟨⟨l⟩⟩ := b
        have : l.length = 0 := by simpa [Str.length] using h0
        cases l with
        | nil =>
          obtain ⟨⟨k⟩⟩ := a
          show Str.mk _ = Str.mk _
          simp
        | cons => simp at this
      have z := h ta s.toks
      rw [this] at z
      exact z
    · exact ⟨hs, h _ _⟩
end Mine
end
section
open PySem PySem.W
open Builtin Builtin.Str Builtin.Int PySem.SeqAt
namespace Mine
/-! SxLib -/
section
variable {prog : Program} {w : World} {A : Around} {s : Shared} {R : Result → Shared → Prop}
/-- a pure built-in, by the library's word for its tree -/
theorem gives_code {T : String} {name : Str} {id : String} {B : Builtin} {self : Value} {rest : List Value} {m : Made} (slot : Slot T name id) (hT : s.TypeIs self T)
    (entry : entryFor table id = some B) (args : argsOk id ⟨self :: rest, []⟩) (g : Gives (B ⟨self :: rest, []⟩) m) (h : m.post (fun v s' => R (.ok (.ret v)) s') s) :
    codeAny (model prog w) A (.call (.builtin id) ⟨self :: rest, []⟩) R s :=
  codeAny_call_builtin slot.plain entry (slot.check _ _ _ _ _ _ _ _ hT args (g prog w A R s h))
theorem meets_code {T : String} {name : Str} {id : String} {B : Builtin} {self : Value} {rest : List Value} {S : Spec} (slot : Slot T name id) (hT : s.TypeIs self T)
    (entry : entryFor table id = some B) (args : argsOk id ⟨self :: rest, []⟩) (g : Meets (B ⟨self :: rest, []⟩) S) (h : S A R s) :
    codeAny (model prog w) A (.call (.builtin id) ⟨self :: rest, []⟩) R s :=
  codeAny_call_builtin slot.plain entry (slot.check _ _ _ _ _ _ _ _ hT args (g prog w A R s h))
theorem eq_code {a b : Str} {ta tb : Tok} (h : R (.ok (.ret (.bool (a.cps.toList == b.cps.toList)))) s) : codeAny (model prog w) A (.call (.builtin "str.__eq__") ⟨[.str a ta, .str b tb], []⟩) R s :=
  gives_code F.slot_str_eq (typeIs_str s a ta) F.entry_str_eq (F.args_str_eq_2 _ _) (gives_str_eq a b ta tb) h
theorem in_code {a b : Str} {ta tb : Tok} (h : R (.ok (.ret (.bool !(occurrences a b 0 a.length 1).isEmpty))) s) : codeAny (model prog w) A (.call (.builtin "str.__contains__") ⟨[.str a ta, .str b tb], []⟩) R s :=
  gives_code F.slot_str_contains (typeIs_str s a ta) F.entry_str_contains (F.args_str_contains_2 _ _) (gives_str_contains a b ta tb) h
theorem inTuple_code {l : Addr} {items : List Value} {n : Nat} {x : Value} {e : Value → Bool} (hl : s.heap.get? l = some ⟨.type "tuple", none, .seq ⟨items⟩ n, ⟨[]⟩⟩) (he : ∀ y ∈ items, EqAt A.in1 s y x (e y))
    (h : R (.ok (.ret (.bool (items.any e)))) s) : codeAny (model prog w) A (.call (.builtin "tuple.__contains__") ⟨[.ref l, x], []⟩) R s :=
  meets_code F.slot_tuple_contains ⟨_, hl, rfl⟩ F.entry_tuple_contains (F.args_tuple_contains_2 _ _) (tuple_containsAt l ⟨items⟩ n none ⟨[]⟩ x e) ⟨hl, fun y hy => he y (by simpa using hy), by simpa using h⟩
theorem len_body {a : Str} {ta : Tok} (hf : a.length ≤ sizeLine) (h : ∀ τ t, R (.ok (.ret (.int a.length τ))) { s with toks := t }) : codeAny (model prog w) A (.builtin "len" ⟨[.str a ta], []⟩) R s := by
  refine codeAny_builtin entry_len ?_
  rw [Around.under_plainId plain_len _]
  have hz : sizeLine < 2 ^ 63 := by decide
  exact wpAny_mono (wpAny_len_body (Q := fun r s' => R (.ok (.ret r)) s') (typeIs_str s a ta) F.slot_str_len F.entry_str_len (F.args_str_len_1 _) (gives_str_len a ta) (by omega) (by omega) (h _ _))
      (fun fin s' h' => by obtain ⟨r, rfl, hq⟩ := h'; exact hq) fun _ _ e => e
/-- a built-in function, by its tree -/
theorem fn_code {id : String} {b : Builtin} {args : List Value} (hk : builtinKind id = none) (hp : plainId id = true) (hb : entryFor table id = some b) (ha : argsOk id ⟨args, []⟩)
    (hc : wpAny (model prog w) A.in1 (b ⟨args, []⟩) (fun fin s' => ∃ v, fin = .done (.ret v) ∧ R (.ok (.ret v)) s') (fun e s' => R (.error e) s') s) : codeAny (model prog w) A (.call (.builtin id) ⟨args, []⟩) R s := by
  refine codeAny_call_builtin hp hb ?_
  have hfin := wpAny_mono hc (Q' := fun fin s' => match fin with
      | .done f => R (.ok f) s'
      | .again c' => c'.quiet = true ∧ codeAny (model prog w) A c' R s') (fun fin s' h' => by obtain ⟨v, rfl, hv⟩ := h'; exact hv) fun _ _ h' => h'
  simp only [checkBuiltinCall, hk]
  cases hsig : Manifest.signature? id with
  | none => exact wpAny_pure hfin
  | some sig =>
    simp only [argsOk, hsig] at ha
    have h2 : Bind.checkArgs id sig ⟨args, []⟩ = pure () := ha
    show wpAny _ A.in1 (Bind.checkArgs id sig ⟨args, []⟩) _ _ s
    rw [h2]; exact wpAny_pure hfin
theorem len_code {a : Str} {ta : Tok} (hf : a.length ≤ sizeLine) (h : ∀ τ t, R (.ok (.ret (.int a.length τ))) { s with toks := t }) : codeAny (model prog w) A (.call (.builtin "len") ⟨[.str a ta], []⟩) R s := by
  have hz : sizeLine < 2 ^ 63 := by decide
  exact fn_code kind_len plain_len entry_len (args_len1 _) (wpAny_len_body (Q := fun r s' => R (.ok (.ret r)) s') (typeIs_str s a ta) F.slot_str_len F.entry_str_len (F.args_str_len_1 _) (gives_str_len a ta) (by omega) (by omega) (h _ _))
end
/-! SxB -/
/-! ### contracts for built-ins, the same in every run -/
noncomputable def bOf : Nat → Bool
  | 0 => false
  | _ + 1 => true
noncomputable def EqB (a b : List Nat) (x : Nat) : Prop := (a == b) = bOf x
noncomputable def InB (l : List Nat) (c x : Nat) : Prop := decide (c ∈ l) = bOf x
noncomputable def LeB (a b : Str) : Prop := (a ++ b).length ≤ sizeLine
noncomputable def TupB (ty : String) (e1 a : Str) : Prop := ty = "tuple" ∧ e1 = a
noncomputable def LnB (a : Str) : Prop := a.length ≤ sizeLine
noncomputable def unkT (τ : Nat) : Unk := ⟨fun _ => τ, fun _ => #[], fun _ => #[], fun _ => default⟩
/-! what a code's arguments are -/
noncomputable def argsOf : Code → Option (List Value)
  | .call _ a => some a.pos
  | .builtin _ a => some a.pos
  | _ => none
noncomputable def isCall : Code → Bool
  | .call .. => true
  | _ => false
noncomputable def asS : Value → Option (Str × Tok)
  | .str a t => some (a, t)
  | _ => none
noncomputable def asI : Value → Option (Int × Tok)
  | .int a t => some (a, t)
  | _ => none
noncomputable def fst1 : Option (List Value) → Option Value
  | some (v :: _) => some v
  | _ => none
noncomputable def snd1 : Option (List Value) → Option Value
  | some (_ :: v :: _) => some v
  | _ => none
noncomputable def thd1 : Option (List Value) → Option Value
  | some (_ :: _ :: v :: _) => some v
  | _ => none
noncomputable def asN : Value → Option (Nat × Tok)
  | .int (.ofNat k) t => some (k, t)
  | _ => none
noncomputable def bindO {α β : Type} (x : Option α) (f : α → Option β) : Option β := match x with
  | some a => f a
  | none => none
theorem bindO_some {α β : Type} {x : Option α} {f : α → Option β} {b : β} (h : bindO x f = some b) : ∃ a, x = some a ∧ f a = some b := by
  cases x with
  | none => cases h
  | some a => exact ⟨a, rfl, h⟩
/-- the two texts, the two ints, the text, the int of a code -/
noncomputable def sAt (c : Code) : Option (Str × Tok) := bindO (fst1 (argsOf c)) asS
noncomputable def sAt2 (c : Code) : Option (Str × Tok) := bindO (snd1 (argsOf c)) asS
noncomputable def iAt (c : Code) : Option (Int × Tok) := bindO (fst1 (argsOf c)) asI
noncomputable def iAt2 (c : Code) : Option (Int × Tok) := bindO (snd1 (argsOf c)) asI
noncomputable def two {α β : Type} (x : Option α) (y : Option β) : Option (α × β) := bindO x fun a => bindO y fun b => some (a, b)
noncomputable def one1 : List Nat → Option Nat
  | [c] => some c
  | _ => none
noncomputable def seqOf : Option Obj → Option (String × List Value)
  | some ⟨.type ty, none, .seq ⟨l⟩ _, ⟨[]⟩⟩ => some (ty, l)
  | _ => none
theorem seqOf_some {o : Option Obj} {y : String × List Value} (h : seqOf o = some y) : ∃ n, o = some ⟨.type y.1, none, .seq ⟨y.2⟩ n, ⟨[]⟩⟩ := by
  unfold seqOf at h
  split at h
  · cases h; exact ⟨_, rfl⟩
  · cases h
theorem asS_some {v : Value} {z : Str × Tok} (h : asS v = some z) : v = .str z.1 z.2 := by
  unfold asS at h
  split at h
  · cases h; rfl
  · cases h
noncomputable def strs2 : List Value → Option ((Str × Tok) × (Str × Tok))
  | [a, b] => two (asS a) (asS b)
  | _ => none
theorem strs2_some {l : List Value} {u : (Str × Tok) × (Str × Tok)} (h : strs2 l = some u) : l = [.str u.1.1 u.1.2, .str u.2.1 u.2.2] := by
  unfold strs2 at h
  split at h
  · obtain ⟨a, e1, h⟩ := bindO_some h
    obtain ⟨b, e2, h⟩ := bindO_some h
    cases h
    rw [asS_some e1, asS_some e2]
  · cases h
noncomputable def conB : Nat → Nat → Ctx → Code → BT → Ads → Option Con := fun j x Γ c T ads => match j with
  | 0 => bindO (two (sAt c) (sAt2 c)) fun z => some (mkC { Γ with code := .call (.builtin "str.__eq__") ⟨[.str z.1.1 z.1.2, .str z.2.1 z.2.2], []⟩ } (EqB z.1.1.cps.toList z.2.1.cps.toList x) (fun _ => ⟨.ok (.ret (.bool (bOf x))), T, []⟩))
  | 1 => bindO (two (sAt c) (sAt2 c)) fun z => bindO (one1 z.2.1.cps.toList) fun d => some (mkC { Γ with code := .call (.builtin "str.__contains__") ⟨[.str z.1.1 z.1.2, .str ⟨⟨[d]⟩⟩ z.2.2], []⟩ } (InB z.1.1.cps.toList d x) (fun _ => ⟨.ok (.ret (.bool (bOf x))), T, []⟩))
  | 2 => bindO (two (sAt c) (sAt2 c)) fun z => some (mkC { Γ with code := .call (.builtin "str.__add__") ⟨[.str z.1.1 z.1.2, .str z.2.1 z.2.2], []⟩ } (LeB z.1.1 z.2.1) (fun ν => ⟨.ok (.ret (.str (z.1.1 ++ z.2.1) (ν.n 0))), T, []⟩))
  | 3 => bindO (sAt2 c) fun z => bindO (seqOf (T.get x)) fun y => bindO (strs2 y.2) fun u => some (mkC { Γ with code := .call (.builtin "tuple.__contains__") ⟨[.ref (adOf ads x), .str z.1 z.2], []⟩ } (TupB y.1 u.1.1 z.1) fun ν => ⟨.ok (.ret (.bool true)), T, []⟩)
  | 4 => bindO (sAt c) fun z => some (mkC { Γ with code := .builtin "len" ⟨[.str z.1 z.2], []⟩ } (LnB z.1) (fun ν => ⟨.ok (.ret (.int z.1.length (ν.n 0))), T, []⟩))
  | 5 => bindO (sAt c) fun z => some (mkC { Γ with code := .call (.builtin "len") ⟨[.str z.1 z.2], []⟩ } (LnB z.1) (fun ν => ⟨.ok (.ret (.int z.1.length (ν.n 0))), T, []⟩))
  | _ => none

theorem wpCode_at {M : Model} {Γ : Ctx} {R : Result → Shared → Prop} {p : Pos} {s : Shared} {c : Code} (hc : Γ.code = c) (h : codeAny M (exactA Γ) c R s) : wpCode M Γ R p s := wpCode_any (hc ▸ h)
theorem inPair_code {prog : Program} {w : World} {A : Around} {s : Shared} {R : Result → Shared → Prop} {l : Addr} {e1 e2 a : Str} {t1 t2 ta : Tok} {n : Nat}
    (hl : s.heap.get? l = some ⟨.type "tuple", none, .seq ⟨[.str e1 t1, .str e2 t2]⟩ n, ⟨[]⟩⟩) (he : e1 = a) (h : R (.ok (.ret (.bool true))) s) : codeAny (model prog w) A (.call (.builtin "tuple.__contains__") ⟨[.ref l, .str a ta], []⟩) R s := by
  refine inTuple_code (e := fun y => match y with | .str b _ => b == a | _ => false) hl (fun y hy => ?_) (by simpa [he] using h)
  rcases List.mem_cons.mp hy with rfl | hy
  · exact EqAt.str_str _ _ _ _
  · rcases List.mem_cons.mp hy with rfl | hy
    · exact EqAt.str_str _ _ _ _
    · cases hy
theorem left_same {B : Base} {s : Shared} {T : BT} {m : Nat} {ads : Ads} {tk : Nat} (D : Rep B s T m ads tk) {g : Con} {r : Result} {ν : Unk} (e : g.left ν = ⟨r, T, []⟩) : ∃ N t ν, LeftRep B g ν r s m ads N t :=
  ⟨_, _, ν, by have := left_toks D s.toks e; exact this⟩
theorem conB_ok {B : Base} {prog : Program} {w : World} : ∀ (j x : Nat) (Γ : Ctx) (T : BT) (m : Nat) (ads : Ads) (tk : Nat) (s : Shared) (p : Pos) (g : Con), conB j x Γ Γ.code T ads = some g → Γ = g.gx → g.ob → Rep B s T m ads tk →
    wpCode (model prog w) Γ (fun r s' => ∃ N t ν, LeftRep B g ν r s' m ads N t) p s := by
  intro j x Γ T m ads tk s p g hg hx ob D
  match j, hg with
  | 0, hg =>
    obtain ⟨z, _, e⟩ := bindO_some hg
    cases e
    exact wpCode_at (congrArg Ctx.code hx) <| eq_code (left_same D (by rw [show _ = bOf _ from ob]) (ν := unk0))
  | 1, hg =>
    obtain ⟨z, _, e⟩ := bindO_some hg
    obtain ⟨d, _, e⟩ := bindO_some e
    cases e
    exact wpCode_at (congrArg Ctx.code hx) <| in_code (left_same D (by rw [StrLaws.found_one, show _ = bOf _ from ob]) (ν := unk0))
  | 2, hg =>
    obtain ⟨z, _, e⟩ := bindO_some hg
    cases e
    exact wpCode_at (congrArg Ctx.code hx) <| add_code ob fun τ t => ⟨_, _, unkT τ, left_toks D t rfl⟩
  | 3, hg =>
    obtain ⟨z, _, e⟩ := bindO_some hg
    obtain ⟨y, hy, e⟩ := bindO_some e
    obtain ⟨u, hu, e⟩ := bindO_some e
    cases e
    obtain ⟨n, hT⟩ := seqOf_some hy
    obtain ⟨h1, h2⟩ := ob
    rw [strs2_some hu, h1] at hT
    exact wpCode_at (congrArg Ctx.code hx) <| inPair_code (D.own _ _ hT).2 h2 (left_same D rfl (ν := unk0))
  | 4, hg =>
    obtain ⟨z, _, e⟩ := bindO_some hg
    cases e
    exact wpCode_at (congrArg Ctx.code hx) <| len_body ob fun τ t => ⟨_, _, unkT τ, left_toks D t rfl⟩
  | 5, hg =>
    obtain ⟨z, _, e⟩ := bindO_some hg
    cases e
    exact wpCode_at (congrArg Ctx.code hx) <| len_code ob fun τ t => ⟨_, _, unkT τ, left_toks D t rfl⟩
  | _ + 6, hg => cases hg
/-! SxO -/
section
/-! ### contracts whose answers are told from outside -/
structure Orc where
  str : Nat → List Nat
  int : Nat → Int
noncomputable def orc0 : Orc := ⟨fun _ => [], fun _ => 0⟩
noncomputable def GeB (a b : Int) (x : Nat) : Prop := decide (a ≥ b) = bOf x
noncomputable def LtB (a b : Int) (x : Nat) : Prop := decide (a < b) = bOf x
noncomputable def GtB (a b : Int) (x : Nat) : Prop := decide (a > b) = bOf x
noncomputable def IeB (a b : Int) (x : Nat) : Prop := (a == b) = bOf x
noncomputable def partOf : Value → Option (Option (Int × Tok))
  | .none => some none
  | .int i t => some (some (i, t))
  | _ => none
noncomputable def SlcB (ty : String) (a : Str) (l u st : Option (Int × Tok)) (res : List Nat) : Prop :=
  ty = "slice" ∧ ((st.map (·.1)).getD 1 == 0) = false ∧ (if ((st.map (·.1)).getD 1 == 1 && (slicePicked a l u st).length == a.length) = true then a else (⟨((slicePicked a l u st).filterMap (a.cps[·]?)).toArray⟩ : Str)) = ⟨⟨res⟩⟩ ∧ res.length ≤ sizeLine
noncomputable def IdxB (a : Str) (i : Int) (res : List Nat) : Prop := ∃ c, res = [c] ∧ (decide (i < -(2 ^ 63 : Int)) || decide (i ≥ 2 ^ 63)) = false ∧ (seqIndex? i a.length).bind (a.cps[·]?) = some c
noncomputable def MulB (a b r : Int) : Prop := IntMulOk a b ∧ a * b = r
noncomputable def fldOf : Option Obj → Option (String × List Value)
  | some ⟨.type ty, none, .fields ⟨l⟩, ⟨[]⟩⟩ => some (ty, l)
  | _ => none
theorem fldOf_some {o : Option Obj} {y : String × List Value} (h : fldOf o = some y) : o = some ⟨.type y.1, none, .fields ⟨y.2⟩, ⟨[]⟩⟩ := by
  unfold fldOf at h
  split at h
  · cases h; rfl
  · cases h
structure Three (α : Type) where
  a : α
  b : α
  c : α
noncomputable def parts3 {α : Type} (f : Value → Option α) : List Value → Option (Three α)
  | [l, u, s] => bindO (f l) fun a => bindO (f u) fun b => bindO (f s) fun c => some ⟨a, b, c⟩
  | _ => none
theorem parts3_some {α : Type} {f : Value → Option α} {l : List Value} {z : Three α} (h : parts3 f l = some z) : ∃ x y w, l = [x, y, w] ∧ f x = some z.a ∧ f y = some z.b ∧ f w = some z.c := by
  unfold parts3 at h
  split at h
  · obtain ⟨a, e1, h⟩ := bindO_some h
    obtain ⟨b, e2, h⟩ := bindO_some h
    obtain ⟨c, e3, h⟩ := bindO_some h
    cases h
    exact ⟨_, _, _, rfl, e1, e2, e3⟩
  · cases h
theorem partOf_val {v : Value} {x : Option (Int × Tok)} (h : partOf v = some x) : v = partValue x := by
  unfold partOf at h
  split at h <;> cases h <;> rfl
noncomputable def conO (O : Orc) : Nat → Nat → Ctx → Code → BT → Ads → Option Con := fun j x Γ c T ads => match Nat.blt j 6 with
  | true => conB j x Γ c T ads
  | false => match j with
    | 6 => bindO (two (iAt c) (iAt2 c)) fun z => some (mkC { Γ with code := .call (.builtin "int.__ge__") ⟨[.int z.1.1 z.1.2, .int z.2.1 z.2.2], []⟩ } (GeB z.1.1 z.2.1 x) fun _ => ⟨.ok (.ret (.bool (bOf x))), T, []⟩)
    | 7 => bindO (two (iAt c) (iAt2 c)) fun z => some (mkC { Γ with code := .call (.builtin "int.__lt__") ⟨[.int z.1.1 z.1.2, .int z.2.1 z.2.2], []⟩ } (LtB z.1.1 z.2.1 x) fun _ => ⟨.ok (.ret (.bool (bOf x))), T, []⟩)
    | 8 => bindO (sAt c) fun z => bindO (fldOf (T.get (x / 100))) fun y => bindO (parts3 partOf y.2) fun u => some (mkC { Γ with code := .call (.builtin "str.__getitem__") ⟨[.str z.1 z.2, .ref (adOf ads (x / 100))], []⟩ } (SlcB y.1 z.1 u.a u.b u.c (O.str (x % 100)))
          fun ν => ⟨.ok (.ret (.str ⟨⟨O.str (x % 100)⟩⟩ (ν.n 0))), T, []⟩)
    | 9 => bindO (two (sAt c) (iAt2 c)) fun z => some (mkC { Γ with code := .call (.builtin "str.__getitem__") ⟨[.str z.1.1 z.1.2, .int z.2.1 z.2.2], []⟩ } (IdxB z.1.1 z.2.1 (O.str x)) fun ν => ⟨.ok (.ret (.str ⟨⟨O.str x⟩⟩ (ν.n 0))), T, []⟩)
    | 10 => bindO (two (iAt c) (iAt2 c)) fun z => some (mkC { Γ with code := .call (.builtin "int.__eq__") ⟨[.int z.1.1 z.1.2, .int z.2.1 z.2.2], []⟩ } (IeB z.1.1 z.2.1 x) fun _ => ⟨.ok (.ret (.bool (bOf x))), T, []⟩)
    | 11 => bindO (two (iAt c) (iAt2 c)) fun z => some (mkC { Γ with code := .call (.builtin "int.__mul__") ⟨[.int z.1.1 z.1.2, .int z.2.1 z.2.2], []⟩ } (MulB z.1.1 z.2.1 (O.int x)) fun ν => ⟨.ok (.ret (.int (O.int x) (ν.n 0))), T, []⟩)
    | 12 => bindO (two (iAt c) (iAt2 c)) fun z => some (mkC { Γ with code := .call (.builtin "int.__gt__") ⟨[.int z.1.1 z.1.2, .int z.2.1 z.2.2], []⟩ } (GtB z.1.1 z.2.1 x) fun _ => ⟨.ok (.ret (.bool (bOf x))), T, []⟩)
    | _ => none

section
variable {prog : Program} {w : World} {A : Around} {s : Shared} {R : Result → Shared → Prop}
theorem ge_code {a b : Int} {ta tb : Tok} (h : R (.ok (.ret (.bool (decide (a ≥ b))))) s) : codeAny (model prog w) A (.call (.builtin "int.__ge__") ⟨[.int a ta, .int b tb], []⟩) R s :=
  gives_code F.slot_int_ge (typeIs_int s a ta) F.entry_int_ge (F.args_int_ge_2 _ _) (gives_int_ge a b ta tb) h
theorem lt_code {a b : Int} {ta tb : Tok} (h : R (.ok (.ret (.bool (decide (a < b))))) s) : codeAny (model prog w) A (.call (.builtin "int.__lt__") ⟨[.int a ta, .int b tb], []⟩) R s :=
  gives_code F.slot_int_lt (typeIs_int s a ta) F.entry_int_lt (F.args_int_lt_2 _ _) (gives_int_lt a b ta tb) h
theorem gt_code {a b : Int} {ta tb : Tok} (h : R (.ok (.ret (.bool (decide (a > b))))) s) : codeAny (model prog w) A (.call (.builtin "int.__gt__") ⟨[.int a ta, .int b tb], []⟩) R s :=
  gives_code F.slot_int_gt (typeIs_int s a ta) F.entry_int_gt (F.args_int_gt_2 _ _) (gives_int_gt a b ta tb) h
theorem ie_code {a b : Int} {ta tb : Tok} (h : R (.ok (.ret (.bool (a == b)))) s) : codeAny (model prog w) A (.call (.builtin "int.__eq__") ⟨[.int a ta, .int b tb], []⟩) R s :=
  gives_code F.slot_int_eq (typeIs_int s a ta) F.entry_int_eq (F.args_int_eq_2 _ _) (gives_int_eq a b ta tb) h
theorem mul_code {a b : Int} {ta tb : Tok} (hm : IntMulOk a b) (h : ∀ τ t, R (.ok (.ret (.int (a * b) τ))) { s with toks := t }) : codeAny (model prog w) A (.call (.builtin "int.__mul__") ⟨[.int a ta, .int b tb], []⟩) R s :=
  gives_code F.slot_int_mul (typeIs_int s a ta) F.entry_int_mul (F.args_int_mul_2 _ _) (gives_int_mul a b ta tb hm) (h _ _)
theorem slc_code {a : Str} {ta : Tok} {r : Addr} {l u st : Option (Int × Tok)} {res : List Nat} (hs : s.heap.IsSlice r l u st) (h0 : ((st.map (·.1)).getD 1 == 0) = false) (hr : (if ((st.map (·.1)).getD 1 == 1 && (slicePicked a l u st).length == a.length) = true then a else (⟨((slicePicked a l u st).filterMap (a.cps[·]?)).toArray⟩ : Str)) = ⟨⟨res⟩⟩)
    (hl : res.length ≤ sizeLine) (h : ∀ τ t, R (.ok (.ret (.str ⟨⟨res⟩⟩ τ))) { s with toks := t }) : codeAny (model prog w) A (.call (.builtin "str.__getitem__") ⟨[.str a ta, .ref r], []⟩) R s := by
  refine meets_code F.slot_str_getitem (typeIs_str s a ta) F.entry_str_getitem (F.args_str_getitem_2 _ _) (meets_str_getitem_slice a ta r l u st h0) ⟨hs, ?_⟩
  unfold sliceMade
  split
  · rename_i hw
    rw [if_pos hw] at hr
    have z := h ta s.toks
    rw [← hr] at z
    exact z
  · rename_i hw
    rw [if_neg hw] at hr
    rw [hr]
    exact ⟨by simpa [Str.length] using hl, h _ _⟩
theorem idx_code {a : Str} {ta ti : Tok} {i : Int} {c : Nat} (hr : (decide (i < -(2 ^ 63 : Int)) || decide (i ≥ 2 ^ 63)) = false) (hc : (seqIndex? i a.length).bind (a.cps[·]?) = some c)
    (h : ∀ τ t, R (.ok (.ret (.str ⟨⟨[c]⟩⟩ τ))) { s with toks := t }) : codeAny (model prog w) A (.call (.builtin "str.__getitem__") ⟨[.str a ta, .int i ti], []⟩) R s :=
  gives_code F.slot_str_getitem (typeIs_str s a ta) F.entry_str_getitem (F.args_str_getitem_2 _ _) (gives_str_getitem a i ta ti c hr hc) ⟨by show 1 ≤ sizeLine; decide, h _ _⟩
end
theorem conO_ok {B : Base} {prog : Program} {w : World} (O : Orc) : ∀ (j x : Nat) (Γ : Ctx) (T : BT) (m : Nat) (ads : Ads) (tk : Nat) (s : Shared) (p : Pos) (g : Con), conO O j x Γ Γ.code T ads = some g → Γ = g.gx → g.ob → Rep B s T m ads tk →
    wpCode (model prog w) Γ (fun r s' => ∃ N t ν, LeftRep B g ν r s' m ads N t) p s := by
  intro j x Γ T m ads tk s p g hg hx ob D
  cases hb : Nat.blt j 6 with
  | true =>
    unfold conO at hg
    rw [hb] at hg
    exact conB_ok _ _ _ _ _ _ _ _ _ _ hg hx ob D
  | false =>
    match j, hb, hg with
    | 6, _, hg =>
      obtain ⟨z, _, e⟩ := bindO_some hg
      cases e
      exact wpCode_at (congrArg Ctx.code hx) <| ge_code (left_same D (by rw [show _ = bOf _ from ob]) (ν := unk0))
    | 7, _, hg =>
      obtain ⟨z, _, e⟩ := bindO_some hg
      cases e
      exact wpCode_at (congrArg Ctx.code hx) <| lt_code (left_same D (by rw [show _ = bOf _ from ob]) (ν := unk0))
    | 8, _, hg =>
      obtain ⟨z, _, e⟩ := bindO_some hg
      obtain ⟨y, hy, e⟩ := bindO_some e
      obtain ⟨u, hu, e⟩ := bindO_some e
      cases e
      obtain ⟨h1, h0, hr, hl⟩ := ob
      have hT := fldOf_some hy
      obtain ⟨_, _, _, el, e1, e2, e3⟩ := parts3_some hu
      rw [el, partOf_val e1, partOf_val e2, partOf_val e3, h1] at hT
      exact wpCode_at (congrArg Ctx.code hx) <| slc_code ⟨_, (D.own _ _ hT).2, rfl, rfl⟩ h0 hr hl fun τ t => ⟨_, _, unkT τ, left_toks D t rfl⟩
    | 9, _, hg =>
      obtain ⟨z, _, e⟩ := bindO_some hg
      cases e
      obtain ⟨c, hc, h1, h2⟩ := ob
      refine wpCode_at (congrArg Ctx.code hx) <| idx_code h1 h2 fun τ t => ⟨_, _, unkT τ, left_toks D t ?_⟩
      show Left.mk _ _ _ = _
      rw [hc]; rfl
    | 10, _, hg =>
      obtain ⟨z, _, e⟩ := bindO_some hg
      cases e
      exact wpCode_at (congrArg Ctx.code hx) <| ie_code (left_same D (by rw [show _ = bOf _ from ob]) (ν := unk0))
    | 11, _, hg =>
      obtain ⟨z, _, e⟩ := bindO_some hg
      cases e
      obtain ⟨h1, h2⟩ := ob
      refine wpCode_at (congrArg Ctx.code hx) <| mul_code h1 fun τ t => ⟨_, _, unkT τ, left_toks D t ?_⟩
      show Left.mk _ _ _ = _
      rw [← h2]; rfl
    | 12, _, hg =>
      obtain ⟨z, _, e⟩ := bindO_some hg
      cases e
      exact wpCode_at (congrArg Ctx.code hx) <| gt_code (left_same D (by rw [show _ = bOf _ from ob]) (ν := unk0))
    | 0, hb, _ => cases hb
    | 1, hb, _ => cases hb
    | 2, hb, _ => cases hb
    | 3, hb, _ => cases hb
    | 4, hb, _ => cases hb
    | 5, hb, _ => cases hb
    | _ + 13, _, hg => cases hg
end
end Mine
end
section
open PySem PySem.W
namespace Mine
/-! SxDid -/
/-! ### what a run has done, by its objects -/
theorem After.did {s s' : Shared} {l is as : List Nat} {os : List (Option Obj)} (A : After s s' l is as os) (chs news : List (Nat × Obj)) (ext : List Nat) (hl : chs.map (·.1) = l) (hi : is = List.range chs.length ++ ext)
    (he : ext.length = news.length) (hext : ∀ j ∈ ext, chs.length ≤ j) (hnd : ext.Nodup) (ha : as = chs.map (·.1) ++ news.map (·.1)) (ho : os = (chs ++ news).map fun x => some x.2) : Did s s' chs news := by
  have hlen : l.length = chs.length := by rw [← hl, List.length_map]
  have at1 : ∀ i (h : i < chs.length), as[i]? = some chs[i].1 ∧ os[i]? = some (some chs[i].2) := fun i h => by
    rw [ha, ho]
    refine ⟨?_, ?_⟩
    · rw [List.getElem?_append_left (by simpa using h), List.getElem?_map, List.getElem?_eq_getElem h]; rfl
    · rw [List.getElem?_map, List.getElem?_append_left h, List.getElem?_eq_getElem h]; rfl
  have at2 : ∀ i (h : i < news.length), as[chs.length + i]? = some news[i].1 ∧ os[chs.length + i]? = some (some news[i].2) ∧ is[chs.length + i]? = ext[i]? := fun i h => by
    rw [ha, ho, hi]
    refine ⟨?_, ?_, ?_⟩
    · rw [List.getElem?_append_right (by simp), List.getElem?_map, List.length_map, Nat.add_sub_cancel_left, List.getElem?_eq_getElem h]; rfl
    · rw [List.getElem?_map, List.getElem?_append_right (by simp), Nat.add_sub_cancel_left, List.getElem?_eq_getElem h]; rfl
    · rw [List.getElem?_append_right (by simp), List.length_range, Nat.add_sub_cancel_left]
  refine ⟨hl ▸ A.keep, fun x hx => ?_, fun x hx => ?_, fun x hx => ?_, ?_⟩
  · obtain ⟨i, h, rfl⟩ := List.getElem_of_mem hx
    exact A.objs i _ _ (at1 i h).1 (at1 i h).2
  · obtain ⟨i, h, rfl⟩ := List.getElem_of_mem hx
    exact A.objs _ _ _ (at2 i h).1 (at2 i h).2.1
  · obtain ⟨i, h, rfl⟩ := List.getElem_of_mem hx
    have hx : i < ext.length := he ▸ h
    exact A.young _ _ ext[i] _ ((at2 i h).2.2.trans (List.getElem?_eq_getElem hx)) (hlen ▸ hext _ (List.getElem_mem hx)) (at2 i h).1 (at2 i h).2.1
  · rw [List.nodup_iff_pairwise_ne, List.pairwise_map, List.pairwise_iff_getElem]
    intro i j h1 h2 hij
    have e1 : i < ext.length := he ▸ h1
    have e2 : j < ext.length := he ▸ h2
    refine A.apart _ _ _ _ ext[i] ext[j] _ _ ((at2 i h1).2.2.trans (List.getElem?_eq_getElem e1)) ((at2 j h2).2.2.trans (List.getElem?_eq_getElem e2)) (fun q => ?_) (at2 i h1).1 (at2 i h1).2.1 (at2 j h2).1 (at2 j h2).2.1
    have := (List.getElem_inj hnd).mp q
    omega
theorem Did.trans {s s' s'' : Shared} {c c' n : List (Nat × Obj)} (x : Did s s' c []) (y : Did s' s'' c' n) (h : ∀ a ∈ c.map (·.1), a ∈ c'.map (·.1)) : Did s s'' c' n :=
  ⟨(x.keep.mono h).trans y.keep, y.holds, y.new, fun z hz => Nat.le_trans x.keep.size (y.young z hz), y.nodup⟩
theorem Did.sane {kt : X.KT} {n₀ : Nat} {s s' : Shared} {c n : List (Nat × Obj)} (S : Sane kt n₀ s) (x : Did s s' c n) (lo : ∀ y ∈ c, n₀ ≤ y.1) : Sane kt n₀ s' :=
  S.keep x.keep fun a ha => by obtain ⟨y, hy, rfl⟩ := List.mem_map.mp ha; exact lo y hy
theorem Did.other {s s' : Shared} {c n : List (Nat × Obj)} (x : Did s s' c n) {l : List (Nat × Obj)} (H : Holds s l) (h : ∀ y ∈ l, y.1 ∉ c.map (·.1)) : Holds s' l := fun y hy => x.keep.keep _ _ (H y hy) (h y hy)
theorem Holds.append {s : Shared} {l l' : List (Nat × Obj)} (h : Holds s l) (h' : Holds s l') : Holds s (l ++ l') := fun x hx => (List.mem_append.mp hx).elim (h x) (h' x)
theorem Holds.left {s : Shared} {l l' : List (Nat × Obj)} (h : Holds s (l ++ l')) : Holds s l := fun x hx => h x (List.mem_append_left _ hx)
theorem Holds.right {s : Shared} {l l' : List (Nat × Obj)} (h : Holds s (l ++ l')) : Holds s l' := fun x hx => h x (List.mem_append_right _ hx)
theorem Holds.lt {s : Shared} {l : List (Nat × Obj)} (h : Holds s l) : ∀ x ∈ l, x.1 < s.heap.objs.size := fun x hx => Heap.lt_size (h x hx)
/-- unknowns told -/
noncomputable def unkL (l : List Nat) (sl : List (Array (Option Value)) := []) (vs : List (Array Value) := []) (ob : Nat → Obj := fun _ => default) : Unk := ⟨fun i => l.getD i 0, fun i => sl.getD i #[], fun i => vs.getD i #[], ob⟩
/-! ### obligations -/
theorem str_snoc (l : List Nat) (c : Nat) : ((⟨⟨l⟩⟩ : Str) ++ ⟨⟨[c]⟩⟩) = ⟨⟨l ++ [c]⟩⟩ := by
  show Str.mk _ = Str.mk _
  simp
theorem leB {l : List Nat} {c : Nat} (h : l.length < sizeLine) : LeB ⟨⟨l⟩⟩ ⟨⟨[c]⟩⟩ := by
  unfold LeB
  rw [str_snoc]
  show (l ++ [c]).length ≤ sizeLine
  rw [List.length_append]; exact h
theorem lnB {l : List Nat} (h : l.length ≤ sizeLine) : LnB ⟨⟨l⟩⟩ := h
theorem lnB1 (c : Nat) : LnB ⟨⟨[c]⟩⟩ := lnB (by show 1 ≤ sizeLine; decide)
theorem inB0 {l : List Nat} {c : Nat} (h : c ∉ l) : InB l c 0 := by unfold InB; simp [h, bOf]
theorem inB1 {l : List Nat} {c : Nat} (h : c ∈ l) : InB l c 1 := by unfold InB; simp [h, bOf]
theorem eqB0 {c d : Nat} (h : c ≠ d) : EqB [c] [d] 0 := by unfold EqB; simp [h, bOf]
theorem eqB1 {c d : Nat} (h : c = d) : EqB [c] [d] 1 := by unfold EqB; simp [h, bOf]
theorem tupB (e : Str) : TupB "tuple" e e := ⟨rfl, rfl⟩
end Mine
end
section
open PySem
namespace Mine
/-! ShPlain -/
/-! ### what shlex reads, in plain words -/
noncomputable def isWs (c : Nat) : Bool := c == 32 || c == 9 || c == 13 || c == 10
noncomputable def isQt (c : Nat) : Bool := c == 39 || c == 34
/-- how a reading of one token ends -/
structure RdR where
  err : Bool
  tok : List Nat
  qd : Bool
  st : Nat
  rest : List Nat
  nc : List Nat
/-- read_token's loop: the signs ahead, the state (0: None), the token so far, whether quoted -/
noncomputable def rd : List Nat → Nat → List Nat → Bool → RdR
  | [], st, tok, qd => if isQt st then ⟨true, tok, true, st, [], []⟩ else ⟨false, tok, qd, 0, [], []⟩
  | c :: r, st, tok, qd =>
    if st = 32 then
      if isWs c then rd r 32 tok qd
      else if isQt c then rd r c tok qd
      else rd r 97 [c] qd
    else if st = 97 then
      if isWs c then ⟨false, tok, qd, 32, r, [c]⟩
      else if isQt c then rd r c tok qd
      else rd r 97 (tok ++ [c]) qd
    else if c = st then rd r 97 tok true
    else rd r st (tok ++ [c]) true
theorem isWs_iff {c : Nat} : isWs c = true ↔ c ∈ [32, 9, 13, 10] := by simp [isWs, or_assoc]
theorem isQt_iff {c : Nat} : isQt c = true ↔ c ∈ [39, 34] := by simp [isQt]
/-- the states that the loop can stand in -/
noncomputable def RdInv (st : Nat) (tok : List Nat) (qd first : Bool) (cs : List Nat) : Prop :=
  (st = 0 ∧ tok = [] ∧ qd = false ∧ first = true ∧ cs = []) ∨ (st = 32 ∧ tok = [] ∧ qd = false) ∨ (st = 97 ∧ (tok ≠ [] ∨ qd = true) ∧ first = false) ∨ ((st = 39 ∨ st = 34) ∧ first = false)
/-- all tokens -/
noncomputable def rdAll : Nat → List Nat → Nat → Option (List (List Nat))
  | 0, _, _ => none
  | n + 1, cs, st =>
    let r := rd cs st [] false
    match r.err with
    | true => none
    | false => if r.qd = false ∧ r.tok = [] then some [] else (rdAll n r.rest r.st).map (r.tok :: ·)
noncomputable def rdMu (cs : List Nat) (st : Nat) : Nat := 2 * cs.length + (if st = 0 then 0 else 1)
/-- what is left of the text behind a token -/
theorem rd_rest : ∀ (cs : List Nat) (st : Nat) (tok : List Nat) (qd : Bool), (st = 0 → cs = []) → (rd cs st tok qd).err = false →
    (∃ pre, cs = pre ++ (rd cs st tok qd).rest) ∧ (((rd cs st tok qd).st = 0 ∧ (rd cs st tok qd).rest = []) ∨ ((rd cs st tok qd).st = 32 ∧ (rd cs st tok qd).rest.length < cs.length ∧ (st = 32 → (rd cs st tok qd).rest.length + 1 < cs.length)))
  | [], st, tok, qd, h0, he => by
    unfold rd at he ⊢
    split
    · rename_i h; rw [if_pos h] at he; cases he
    · exact ⟨⟨[], rfl⟩, .inl ⟨rfl, rfl⟩⟩
  | c :: r, st, tok, qd, h0, he => by
    have lift : ∀ {st' : Nat} {tok' : List Nat} {qd' : Bool}, (st' = 0 → r = []) → rd (c :: r) st tok qd = rd r st' tok' qd' →
        (∃ pre, c :: r = pre ++ (rd (c :: r) st tok qd).rest) ∧ (((rd (c :: r) st tok qd).st = 0 ∧ (rd (c :: r) st tok qd).rest = []) ∨ ((rd (c :: r) st tok qd).st = 32 ∧ (rd (c :: r) st tok qd).rest.length < (c :: r).length ∧ (st = 32 → (rd (c :: r) st tok qd).rest.length + 1 < (c :: r).length))) := by
      intro st' tok' qd' h e
      rw [e] at he ⊢
      obtain ⟨⟨pre, hp⟩, h2⟩ := rd_rest r st' tok' qd' h he
      refine ⟨⟨c :: pre, by rw [List.cons_append, ← hp]⟩, h2.imp id fun ⟨a, b, _⟩ => ⟨a, ?_, fun _ => ?_⟩⟩
      · rw [List.length_cons]; omega
      · rw [List.length_cons]; omega
    by_cases h32 : st = 32
    · subst h32
      by_cases hw : isWs c = true
      · exact lift (st' := 32) (fun h => absurd h (by decide)) (by rw [rd, if_pos rfl, if_pos hw])
      · by_cases hq : isQt c = true
        · have : c ≠ 0 := by rintro rfl; simp [isQt] at hq
          exact lift (fun h => absurd h this) (by rw [rd, if_pos rfl, if_neg hw, if_pos hq])
        · exact lift (st' := 97) (fun h => absurd h (by decide)) (by rw [rd, if_pos rfl, if_neg hw, if_neg hq])
    · by_cases h97 : st = 97
      · subst h97
        by_cases hw : isWs c = true
        · have e : rd (c :: r) 97 tok qd = ⟨false, tok, qd, 32, r, [c]⟩ := by rw [rd, if_neg h32, if_pos rfl, if_pos hw]
          rw [e]
          exact ⟨⟨[c], rfl⟩, .inr ⟨rfl, by simp, fun h => absurd h h32⟩⟩
        · by_cases hq : isQt c = true
          · have : c ≠ 0 := by rintro rfl; simp [isQt] at hq
            exact lift (fun h => absurd h this) (by rw [rd, if_neg h32, if_pos rfl, if_neg hw, if_pos hq])
          · exact lift (st' := 97) (fun h => absurd h (by decide)) (by rw [rd, if_neg h32, if_pos rfl, if_neg hw, if_neg hq])
      · have hst : st ≠ 0 := fun h => by have := h0 h; cases this
        by_cases hc : c = st
        · exact lift (st' := 97) (fun h => absurd h (by decide)) (by rw [rd, if_neg h32, if_neg h97, if_pos hc])
        · exact lift (fun h => absurd h hst) (by rw [rd, if_neg h32, if_neg h97, if_neg hc])
theorem rd_step (c : Nat) (r : List Nat) (st : Nat) (tok : List Nat) (qd : Bool) : (∃ st' tok' qd', rd (c :: r) st tok qd = rd r st' tok' qd') ∨ rd (c :: r) st tok qd = ⟨false, tok, qd, 32, r, [c]⟩ := by
  by_cases h32 : st = 32
  · by_cases hw : isWs c = true
    · exact .inl ⟨_, _, _, by rw [rd, if_pos h32, if_pos hw]⟩
    · by_cases hq : isQt c = true
      · exact .inl ⟨_, _, _, by rw [rd, if_pos h32, if_neg hw, if_pos hq]⟩
      · exact .inl ⟨_, _, _, by rw [rd, if_pos h32, if_neg hw, if_neg hq]⟩
  · by_cases h97 : st = 97
    · by_cases hw : isWs c = true
      · exact .inr (by rw [rd, if_neg h32, if_pos h97, if_pos hw])
      · by_cases hq : isQt c = true
        · exact .inl ⟨_, _, _, by rw [rd, if_neg h32, if_pos h97, if_neg hw, if_pos hq]⟩
        · exact .inl ⟨_, _, _, by rw [rd, if_neg h32, if_pos h97, if_neg hw, if_neg hq]⟩
    · by_cases hc : c = st
      · exact .inl ⟨_, _, _, by rw [rd, if_neg h32, if_neg h97, if_pos hc]⟩
      · exact .inl ⟨_, _, _, by rw [rd, if_neg h32, if_neg h97, if_neg hc]⟩
theorem rd_err : ∀ (cs : List Nat) (st : Nat) (tok : List Nat) (qd : Bool), (rd cs st tok qd).err = true → (rd cs st tok qd).qd = true
  | [], st, tok, qd, h => by
    unfold rd at h ⊢
    split
    · rfl
    · rename_i h'; rw [if_neg h'] at h; cases h
  | c :: r, st, tok, qd, h => by
    rcases rd_step c r st tok qd with ⟨st', tok', qd', e⟩ | e
    · rw [e] at h ⊢; exact rd_err r st' tok' qd' h
    · rw [e] at h; cases h
/-- the texts of a list's items -/
noncomputable def IsWords : List Value → List (List Nat) → Prop
  | [], [] => True
  | .str ⟨⟨l⟩⟩ _ :: r, l' :: r' => l = l' ∧ IsWords r r'
  | _, _ => False
theorem IsWords.snoc {l : List Nat} {τ : Nat} : ∀ {vs : List Value} {ws : List (List Nat)}, IsWords vs ws → IsWords (vs ++ [.str ⟨⟨l⟩⟩ τ]) (ws ++ [l])
  | [], [], _ => ⟨rfl, trivial⟩
  | .str ⟨⟨_⟩⟩ _ :: r, _ :: r', h => ⟨h.1, IsWords.snoc h.2⟩
theorem IsWords.length : ∀ {vs : List Value} {ws : List (List Nat)}, IsWords vs ws → vs.length = ws.length
  | [], [], _ => rfl
  | .str ⟨⟨_⟩⟩ _ :: r, _ :: r', h => congrArg (· + 1) (IsWords.length h.2)
end Mine
end
section
open PySem PySem.W
open Builtin Builtin.Str Builtin.Int PySem.SeqAt
namespace Mine
/-! SxP -/
section
/-! ### more contracts whose answers are told from outside -/
structure OrP extends Orc where
  lst : Nat → List Value
noncomputable def strL : List Value → Option (List (Str × Tok))
  | [] => some []
  | .str a t :: r => (strL r).map ((a, t) :: ·)
  | _ => none
theorem strL_eq : ∀ {vs : List Value} {l : List (Str × Tok)}, strL vs = some l → vs = strValues l
  | [], l, h => by cases h; rfl
  | .str a t :: r, l, h => by
    unfold strL at h
    obtain ⟨l', h', rfl⟩ := Option.map_eq_some_iff.mp h
    show Value.str a t :: r = Value.str a t :: strValues l'
    rw [strL_eq h']
noncomputable def partI : Value → Option (Option Int)
  | .none => some none
  | .int i _ => some (some i)
  | _ => none
theorem partI_part {v : Value} {k : Option Int} (h : partI v = some k) : IsPart v k := by
  unfold partI at h
  split at h <;> cases h
  · exact .none
  · exact .int _ _
noncomputable def SlLB (ty ty2 : String) (items : Array Value) (lo hi st : Option Int) (res : List Value) : Prop := ty = "list" ∧ ty2 = "slice" ∧ st ≠ some 0 ∧ slicePick items lo hi st = ⟨res⟩ ∧ items.size ≤ sizeLine
noncomputable def JoinB (ty : String) (sep : Str) (vs : List Value) (res : List Nat) : Prop := ty = "list" ∧ ∃ l, strL vs = some l ∧ tooLong ((l.map (·.1)).toArray.foldl (· + ·.length + sep.length) 0) = false ∧ glued sep (l.map (·.1)) = ⟨⟨res⟩⟩ ∧ res.length ≤ sizeLine
noncomputable def ChrB (i : Int) (c : Nat) : Prop := (decide (i < 0) || decide (i > 0x10FFFF)) = false ∧ i.toNat = c
noncomputable def AscB (a : Str) (x : Nat) : Prop := a.cps.all (· < 128) = bOf x
noncomputable def iterTy : Nat → String
  | 0 => "str_iterator"
  | _ + 1 => "str_ascii_iterator"
noncomputable def conP (O : OrP) : Nat → Nat → Ctx → Code → BT → Ads → Option Con := fun j x Γ c T ads => match Nat.blt j 13 with
  | true => conO O.toOrc j x Γ c T ads
  | false => match j with
    | 13 => bindO (seqOf (T.get (x / 100))) fun y => bindO (fldOf (T.get (x % 100))) fun z => bindO (parts3 partI z.2) fun u => some (mkC { Γ with code := .call (.builtin "list.__getitem__") ⟨[.ref (adOf ads (x / 100)), .ref (adOf ads (x % 100))], []⟩ } (SlLB y.1 z.1 ⟨y.2⟩ u.a u.b u.c (O.lst 0))
          fun ν => ⟨.ok (.ret (.ref (ν.n 0))), T, [⟨.type "list", none, .seq ⟨O.lst 0⟩ 0, ⟨[]⟩⟩]⟩)
    | 14 => bindO (sAt c) fun z => bindO (seqOf (T.get x)) fun y => some (mkC { Γ with code := .call (.builtin "str.join") ⟨[.str z.1 z.2, .ref (adOf ads x)], []⟩ } (JoinB y.1 z.1 y.2 (O.str 50)) fun ν => ⟨.ok (.ret (.str ⟨⟨O.str 50⟩⟩ (ν.n 0))), T, []⟩)
    | 15 => bindO (iAt c) fun z => some (mkC { Γ with code := .call (.builtin "chr") ⟨[.int z.1 z.2], []⟩ } (∃ c, O.str x = [c] ∧ ChrB z.1 c) fun ν => ⟨.ok (.ret (.str ⟨⟨O.str x⟩⟩ (ν.n 0))), T, []⟩)
    | 16 => bindO (sAt c) fun z => some (mkC { Γ with code := .call (.builtin "str.__iter__") ⟨[.str z.1 z.2], []⟩ } (AscB z.1 x) fun ν => ⟨.ok (.ret (.ref (ν.n 0))), T, [⟨.type (iterTy x), none, .fields ⟨[.str z.1 z.2, .int 0 0]⟩, ⟨[]⟩⟩]⟩)
    | _ => none

section
variable {prog : Program} {w : World} {A : Around} {s : Shared} {R : Result → Shared → Prop}
theorem slL_code {l sl : Addr} {items : Array Value} {n : Nat} {vl vu vs : Value} {lo hi st : Option Int} (hl : s.heap.get? l = some ⟨.type "list", none, .seq items n, ⟨[]⟩⟩) (hs : s.heap.IsSliceOf sl vl vu vs)
    (pl : IsPart vl lo) (pu : IsPart vu hi) (ps : IsPart vs st) (h0 : st ≠ some 0) (hsz : items.size ≤ sizeLine)
    (h : R (.ok (.ret (.ref s.heap.objs.size))) { s with heap := s.heap.push { cls := .type "list", data := .seq (slicePick items lo hi st) } }) : codeAny (model prog w) A (.call (.builtin "list.__getitem__") ⟨[.ref l, .ref sl], []⟩) R s := by
  obtain ⟨os, hos, hcs, hds⟩ := id hs
  have hT : s.TypeIs (.ref l) "list" := ⟨_, hl, rfl⟩
  have hTs : s.TypeIs (.ref sl) "slice" := ⟨os, hos, hcs⟩
  refine codeAny_call_builtin F.slot_list_getitem.plain F.entry_list_getitem (F.slot_list_getitem.check _ _ _ _ _ _ _ _ hT (F.args_list_getitem_2 _ _) ?_)
  show wpAny _ _ (Builtin.List.listSubscript? (.ref sl) >>= _) _ _ s
  refine wpAny_bind ?_
  unfold Builtin.List.listSubscript?
  refine wpAny_bind (wpAny_specialOf hTs slice_no_index ?_)
  refine wpAny_pure ?_
  show wpAny _ _ (typeOf (.ref sl) >>= _) _ _ s
  refine wpAny_bind (wpAny_typeOf hTs ?_)
  rw [if_neg (by decide), listSliceParts_eq]
  have hstep : ¬ ((rawPart st == rawInt 0) = true) := by
    cases st with
    | none => exact Bool.false_ne_true
    | some c =>
      intro hh
      have : c = 0 := by simpa [rawPart, rawInt] using hh
      exact h0 (by rw [this])
  refine wpAny_bind (wpAny_bind (wpAny_field hos hds (x := vs) rfl (wpAny_bind (wpAny_listPart ps ?_))))
  rw [if_neg hstep]
  refine wpAny_bind (wpAny_field hos hds (x := vl) rfl (wpAny_bind (wpAny_listPart pl ?_)))
  refine wpAny_bind (wpAny_field hos hds (x := vu) rfl (wpAny_bind (wpAny_listPart pu (wpAny_pure ?_))))
  refine wpAny_bind (m := Builtin.List.listItems (.ref l)) ?_
  unfold Builtin.List.listItems
  refine wpAny_bind (wpAny_seqItems hl rfl (wpAny_pure ?_))
  refine wpAny_bind (wpAny_of_eq (sliceIndices_raw lo hi st items.size h0) ?_)
  exact wpAny_bind (wpAny_newObj_type (wpAny_pure h) (Nat.le_trans (slicePick_size_le items lo hi st) hsz))
theorem join_code {sep : Str} {ts : Tok} {l : Addr} {n : Nat} {lst : List (Str × Tok)} {res : List Nat} (hl : s.heap.get? l = some ⟨.type "list", none, .seq ⟨strValues lst⟩ n, ⟨[]⟩⟩)
    (ht : tooLong ((lst.map (·.1)).toArray.foldl (· + ·.length + sep.length) 0) = false) (hg : glued sep (lst.map (·.1)) = ⟨⟨res⟩⟩) (hr : res.length ≤ sizeLine) (h : ∀ τ t, R (.ok (.ret (.str ⟨⟨res⟩⟩ τ))) { s with toks := t }) :
    codeAny (model prog w) A (.call (.builtin "str.join") ⟨[.str sep ts, .ref l], []⟩) R s := by
  refine meets_code F.slot_str_join (typeIs_str s sep ts) F.entry_str_join (F.args_str_join_2 _ _) (meets_str_join_list sep ts l lst ht) ⟨⟨_, hl, rfl, n, rfl⟩, ?_⟩
  unfold joinMade
  split
  · rename_i p
    have e : p.1 = ⟨⟨res⟩⟩ := by rw [← hg]; exact (StrLaws.glued_eq_join sep [p.1]).symm ▸ rfl
    have := h p.2 s.toks
    rw [← e] at this
    exact this
  · rw [hg]
    exact ⟨by simpa [Str.length] using hr, h _ _⟩
theorem chr_code {i : Int} {t : Tok} (hi : (decide (i < 0) || decide (i > 0x10FFFF)) = false) (h : ∀ τ t, R (.ok (.ret (.str ⟨⟨[i.toNat]⟩⟩ τ))) { s with toks := t }) : codeAny (model prog w) A (.call (.builtin "chr") ⟨[.int i t], []⟩) R s := by
  refine fn_code F.kind_chr F.plain_chr F.entry_chr (F.args_chr1 _) ?_
  show wpAny _ _ (if (decide (i < 0) || decide (i > 0x10FFFF)) = true then _ else retStr ⟨#[i.toNat]⟩) _ _ s
  rw [hi]
  exact wpAny_bind (wpAny_mkStr (wpAny_pure ⟨_, rfl, h _ _⟩) (by show 1 ≤ sizeLine; decide))
theorem iter_code {a : Str} {t : Tok} {x : Nat} (hx : a.cps.all (· < 128) = bOf x) (h : R (.ok (.ret (.ref s.heap.objs.size))) { s with heap := s.heap.push ⟨.type (iterTy x), none, .fields ⟨[.str a t, .int 0 0]⟩, ⟨[]⟩⟩ }) :
    codeAny (model prog w) A (.call (.builtin "str.__iter__") ⟨[.str a t], []⟩) R s := by
  refine codeAny_call_builtin F.slot_str_iter.plain F.entry_str_iter (F.slot_str_iter.check _ _ _ _ _ _ _ _ (typeIs_str s a t) (F.args_str_iter_1 _) ?_)
  show wpAny _ _ (do ret (← newFields (if (true && a.cps.all (· < 128)) = true then "str_ascii_iterator" else "str_iterator") [.str a t, rawInt 0])) _ _ s
  have e : (if (true && a.cps.all (· < 128)) = true then "str_ascii_iterator" else "str_iterator") = iterTy x := by
    rw [hx]; cases x <;> rfl
  rw [e]
  exact wpAny_bind (wpAny_newObj_type (wpAny_pure h) (by show 2 ≤ sizeLine + 2; decide))
end
/-- a new object laid: what a contract must say of it -/
theorem left_push {B : Base} {s : Shared} {T : BT} {m : Nat} {ads : Ads} {tk : Nat} (D : Rep B s T m ads tk) {g : Con} {r : Result} {o : Obj} (hf : o.isFreed = false) (e : g.left (unkT s.heap.objs.size) = ⟨r, T, [o]⟩) :
    ∃ N t ν, LeftRep B g ν r { s with heap := s.heap.push o } m ads N t :=
  ⟨_, _, _, left_one (s' := { s with heap := s.heap.push o }) (ch := []) D e (by simp) ⟨fun b o' hb _ => Heap.get?_push_of_some _ hb, by rw [Heap.size_push]; exact Nat.le_succ _, rfl, rfl, rfl⟩ (Heap.get?_push_size _ hf) (Nat.le_refl _)⟩
theorem conP_ok {B : Base} {prog : Program} {w : World} (O : OrP) : ∀ (j x : Nat) (Γ : Ctx) (T : BT) (m : Nat) (ads : Ads) (tk : Nat) (s : Shared) (p : Pos) (g : Con), conP O j x Γ Γ.code T ads = some g → Γ = g.gx → g.ob → Rep B s T m ads tk →
    wpCode (model prog w) Γ (fun r s' => ∃ N t ν, LeftRep B g ν r s' m ads N t) p s := by
  intro j x Γ T m ads tk s p g hg hx ob D
  cases hb : Nat.blt j 13 with
  | true =>
    unfold conP at hg
    rw [hb] at hg
    exact conO_ok O.toOrc _ _ _ _ _ _ _ _ _ _ hg hx ob D
  | false =>
    have h13 : 13 ≤ j := by
      rcases Nat.lt_or_ge j 13 with h | h
      · rw [Nat.blt_eq.mpr h] at hb; cases hb
      · exact h
    obtain ⟨k, rfl⟩ : ∃ k, j = k + 13 := ⟨j - 13, (Nat.sub_add_cancel h13).symm⟩
    clear hb
    match k, hg with
    | 0, hg =>
      obtain ⟨y, hy, e⟩ := bindO_some hg
      obtain ⟨z, hz, e⟩ := bindO_some e
      obtain ⟨u, hu, e⟩ := bindO_some e
      cases e
      obtain ⟨h1, h2, h0, hr, hsz⟩ := ob
      obtain ⟨n, hT1⟩ := seqOf_some hy
      have hT2 := fldOf_some hz
      obtain ⟨_, _, _, el, p1, p2, p3⟩ := parts3_some hu
      rw [h1] at hT1
      rw [el, h2] at hT2
      refine wpCode_at (congrArg Ctx.code hx) <| slL_code (D.own _ _ hT1).2 ⟨_, (D.own _ _ hT2).2, rfl, rfl⟩ (partI_part p1) (partI_part p2) (partI_part p3) h0 hsz ?_
      rw [hr]
      exact left_push (o := ⟨.type "list", none, .seq ⟨O.lst 0⟩ 0, ⟨[]⟩⟩) D rfl rfl
    | 1, hg =>
      obtain ⟨z, _, e⟩ := bindO_some hg
      obtain ⟨y, hy, e⟩ := bindO_some e
      cases e
      obtain ⟨h1, l, hl, ht, hgl, hr⟩ := ob
      obtain ⟨n, hT⟩ := seqOf_some hy
      rw [strL_eq hl, h1] at hT
      exact wpCode_at (congrArg Ctx.code hx) <| join_code (D.own _ _ hT).2 ht hgl hr fun τ t => ⟨_, _, unkT τ, left_toks D t rfl⟩
    | 2, hg =>
      obtain ⟨z, _, e⟩ := bindO_some hg
      cases e
      obtain ⟨c, hc, h1, h2⟩ := ob
      refine wpCode_at (congrArg Ctx.code hx) <| chr_code h1 fun τ t => ⟨_, _, unkT τ, left_toks D t ?_⟩
      show Left.mk _ _ _ = _
      rw [hc, h2]; rfl
    | 3, hg =>
      obtain ⟨z, _, e⟩ := bindO_some hg
      cases e
      exact wpCode_at (congrArg Ctx.code hx) <| iter_code ob (left_push D rfl rfl)
    | _ + 4, hg => cases hg
end
end Mine
end
section
open PySem PySem.W
namespace Mine
/-! SxR -/
section
theorem entry_baset : entryFor table "bytearray.__setitem__" = some Builtin.«bytearray.__setitem__» := entryFor_of_tree (by kernel_rfl)
theorem entry_bainit : entryFor table "bytearray.__init__" = some Builtin.«bytearray.__init__» := entryFor_of_tree (by kernel_rfl)
theorem entry_bloop : entryFor table "bytes.__new__.loop" = some Builtin.«bytes.__new__.loop» := entryFor_of_tree (by kernel_rfl)
noncomputable def baO (us : List UInt8) : Obj := ⟨.type "bytearray", none, .bytearray ⟨us⟩ 0, ⟨[]⟩⟩
section
variable {prog : Program} {w : World} {A : Around} {s : Shared} {R : Result → Shared → Prop}
theorem baWrite {E : Value → Shared → Prop} {M : Model} {a : Addr} {us : List UInt8} {f : Array UInt8 → Array UInt8} {Q : Unit → Shared → Prop} (ha : s.heap.get? a = some (baO us)) (hf : (f ⟨us⟩).size ≤ sizeLine)
    (h : Q () { s with heap := s.heap.update a (Obj.mapBytearray f) }) : wpAny M A (Builtin.Bytes.write (.ref a) f) Q E s := by
  unfold Builtin.Bytes.write updateBytearray
  refine wpAny_bind (wpAny_load ha ?_)
  show wpAny M A (update a (Obj.mapBytearray f) >>= fun _ => lookBehind a) Q E s
  refine wpAny_bind (wpAny_update ha ?_)
  refine wpAny_lookBehind (o := ⟨.type "bytearray", none, .bytearray (f ⟨us⟩) 0, ⟨[]⟩⟩) (Heap.get?_update_self _ ha rfl) ?_ h
  simp only [Data.pastItsLine]
  rw [if_neg (by omega)]
theorem asIndex_int (i : Int) (t : Tok) : asIndex (.int i t) = pure i := rfl
theorem sem_pure_bind {α β : Type} (a : α) (f : α → Sem β) : (pure a : Sem α) >>= f = f a := rfl
theorem fits_small (k : Nat) (hk : k ≤ 16777216) : Builtin.Bytes.fitsIndex (k : Int) = true := by
  unfold Builtin.Bytes.fitsIndex
  simp
  omega
theorem sub_ok {E : Value → Shared → Prop} {M : Model} {i : Int} {tk : Tok} {Q : Option Int → Shared → Prop} (hf : Builtin.Bytes.fitsIndex i = true) (h : Q (some i) s) : wpAny M A (Builtin.Bytes.subscript? (.int i tk)) Q E s := by
  unfold Builtin.Bytes.subscript?
  refine wpAny_bind ?_
  refine wpAny_specialOf (T := "int") (r := some (.builtin "int.__index__")) ?a ?b ?c
  case a => exact typeIs_int s i tk
  case b => exact int_index
  simp only [Option.isNone_some, Bool.false_eq_true, if_false]
  rw [asIndex_int, sem_pure_bind, hf]
  exact wpAny_pure h
theorem bv_ok {E : Value → Shared → Prop} {M : Model} {i : Int} {tc : Tok} {Q : UInt8 → Shared → Prop} (hb : (decide (i < 0) || decide (i ≥ 256)) = false) (h : Q i.toNat.toUInt8 s) : wpAny M A (Builtin.Bytes.byteValue (.int i tc)) Q E s := by
  unfold Builtin.Bytes.byteValue
  rw [asIndex_int, sem_pure_bind, hb]
  exact wpAny_pure h
theorem pl_ok {E : Value → Shared → Prop} {M : Model} {a : Addr} {us : List UInt8} {Q : Array UInt8 → Shared → Prop} (ha : s.heap.get? a = some (baO us)) (h : Q ⟨us⟩ s) : wpAny M A (Builtin.Bytes.payload (.ref a)) Q E s := by
  unfold Builtin.Bytes.payload Builtin.Bytes.payload?
  exact wpAny_bind (wpAny_bind (wpAny_load ha (wpAny_pure (wpAny_pure h))))
theorem baset_code' {a : Addr} {us : List UInt8} {i v : Int} {k : Nat} {tk tc : Tok} (ha : s.heap.get? a = some (baO us)) (hf : Builtin.Bytes.fitsIndex i = true) (hb : (decide (v < 0) || decide (v ≥ 256)) = false)
    (hq : seqIndex? i (⟨us⟩ : Array UInt8).size = some k) (hs : us.length ≤ sizeLine)
    (h : R (.ok (.ret .none)) { s with heap := s.heap.update a (Obj.mapBytearray (·.setIfInBounds k v.toNat.toUInt8)) }) : codeAny (model prog w) A (.builtin "bytearray.__setitem__" ⟨[.ref a, .int i tk, .int v tc], []⟩) R s := by
  refine codeAny_builtin entry_baset ?_
  refine wpAny_bind (m := Builtin.Bytes.subscript? (.int i tk)) (sub_ok hf ?_)
  refine wpAny_bind (m := Builtin.Bytes.byteValue (.int v tc)) (bv_ok hb ?_)
  refine wpAny_bind (m := Builtin.Bytes.payload (.ref a)) (pl_ok ha ?_)
  simp only [hq]
  refine wpAny_bind (baWrite ha ?_ (wpAny_pure h))
  simpa using hs
theorem baset_code {a : Addr} {us : List UInt8} {k c : Nat} {tk tc : Tok} (ha : s.heap.get? a = some (baO us)) (hk : k < us.length) (hs : us.length ≤ 16777216) (hc : c < 256)
    (h : R (.ok (.ret .none)) { s with heap := s.heap.update a (Obj.mapBytearray (·.setIfInBounds k c.toUInt8)) }) : codeAny (model prog w) A (.builtin "bytearray.__setitem__" ⟨[.ref a, .int k tk, .int c tc], []⟩) R s := by
  have hf := fits_small k (by omega)
  have hb : (decide ((c : Int) < 0) || decide ((c : Int) ≥ 256)) = false := by simp; omega
  have hq : seqIndex? (k : Int) (⟨us⟩ : Array UInt8).size = some k := by
    unfold seqIndex?
    simp
    omega
  have ht : (c : Int).toNat = c := Int.toNat_natCast c
  have hsz : sizeLine = 16777216 := by decide
  generalize (k : Int) = i at hf hq ⊢
  generalize (c : Int) = v at hb ht ⊢
  exact baset_code' ha hf hb hq (hsz ▸ hs) (ht ▸ h)
/-- a turn of bytes(list of ints) -/
theorem bturn {E : Value → Shared → Prop} {it l acc : Addr} {v : Int} {t : Tok} {c i : Nat} {items : Array Value} {us : List UInt8} (hv : v = (c : Int)) (hc : c < 256) (n1 : it ≠ acc)
    (hit : s.heap.IsListIter it l i) (hl : s.heap.IsList l items) (hx : items[i]? = some (.int v t)) (ha : s.heap.get? acc = some (baO us)) (hz : us.length + 1 ≤ sizeLine) :
    wpAny (model prog w) A (Builtin.«bytes.__new__.loop» ⟨[.type "bytes", .ref it, .ref acc], []⟩) (fun fin s' => fin = .again (.builtin "bytes.__new__.loop" ⟨[.type "bytes", .ref it, .ref acc], []⟩) ∧ Keep [it, acc] s s' ∧ s'.heap.objs.size = s.heap.objs.size ∧ s'.toks = s.toks ∧
      s'.heap.IsListIter it l (i + 1) ∧ s'.heap.get? acc = some (baO (us ++ [c.toUInt8]))) E s := by
  have hb : (decide (v < 0) || decide (v ≥ 256)) = false := by subst hv; simp; omega
  have ht : v.toNat = c := by subst hv; exact Int.toNat_natCast _
  refine wpAny_bind (m := pyNext (.ref it)) (wpAny_pyNext_list_item (x := .int v t) hit hl hx fun h' hit' hsb => ?_)
  refine wpAny_bind (m := holding [Value.int v t] (asIndex (.int v t))) (wpAny_holding ?_)
  rw [asIndex_int]
  refine wpAny_pure ?_
  refine wpAny_bind (m := letGo [Value.int v t]) (wpAny_letGo ?_)
  rw [hb, ht]
  have ha' : ({ s with heap := h' } : Shared).heap.get? acc = some (baO us) := (hsb.2 _ (Ne.symm n1)).trans ha
  refine wpAny_bind (m := Builtin.Bytes.write (.ref acc) (·.push c.toUInt8)) (baWrite ha' (by simpa using hz) ?_)
  have hn : (Obj.mapBytearray (·.push c.toUInt8) (baO us)).isFreed = false := rfl
  refine wpAny_pure ⟨rfl, ⟨fun b o hb' hne => ?_, ?_, rfl, rfl, rfl⟩, ?_, rfl, ?_, ?_⟩
  · simp only [List.mem_cons, List.not_mem_nil, or_false, not_or] at hne
    show (h'.update acc _).get? b = some o
    rw [Heap.get?_update_other _ _ (Ne.symm hne.2)]
    exact (hsb.2 b hne.1).trans hb'
  · show s.heap.objs.size ≤ (h'.update acc _).objs.size
    rw [(Heap.SameBut.update h' acc _).1, hsb.1]; exact Nat.le_refl _
  · show (h'.update acc _).objs.size = _
    rw [(Heap.SameBut.update h' acc _).1, hsb.1]
  · obtain ⟨o, h1, h2, h3⟩ := hit'
    exact ⟨o, by show (h'.update acc _).get? it = some o; rw [Heap.get?_update_other _ _ (Ne.symm n1)]; exact h1, h2, h3⟩
  · show (h'.update acc _).get? acc = _
    rw [Heap.get?_update_self _ ha' hn]
    show some (⟨_, _, Data.bytearray ((⟨us⟩ : Array UInt8).push c.toUInt8) 0, _⟩ : Obj) = some ⟨_, _, Data.bytearray ⟨us ++ [c.toUInt8]⟩ 0, _⟩
    simp
end
end
/-! SxS -/
section
/-! ### lists whose items are unknown -/
noncomputable def lsO (xs : Array Value) (n : Nat) : Obj := ⟨.type "list", none, .seq xs n, ⟨[]⟩⟩
section
variable {prog : Program} {w : World} {A : Around} {s : Shared} {R : Result → Shared → Prop}
theorem app_code {l : Addr} {xs : Array Value} {n : Nat} {x : Value} (hl : s.heap.get? l = some (lsO xs n)) (hz : xs.size ≤ 1000000)
    (h : R (.ok (.ret .none)) { s with heap := s.heap.update l (Obj.mapSeq (·.push x)) }) : codeAny (model prog w) A (.call (.builtin "list.append") ⟨[.ref l, x], []⟩) R s := by
  have hsz : sizeLine = 16777216 := by decide
  refine codeAny_call_builtin F.slot_list_append.plain F.entry_list_append (F.slot_list_append.check _ _ _ _ _ _ _ _ ⟨_, hl, rfl⟩ (F.args_list_append_2 _ _) ?_)
  show wpAny _ _ (updateSeq l (·.push x) >>= fun _ => ret .none) _ _ s
  exact wpAny_bind (wpAny_updateSeq hl rfl (wpAny_pure h) (by omega) (by rw [Array.size_push]; omega))
theorem last_item (vs : List Value) (v : Value) : ((seqIndex? (-1) (⟨vs ++ [v]⟩ : Array Value).size).bind fun j => (⟨vs ++ [v]⟩ : Array Value)[j]?.map (j, ·)) = some (vs.length, v) := by
  have e : seqIndex? (-1) (⟨vs ++ [v]⟩ : Array Value).size = some vs.length := by
    unfold seqIndex?
    simp
    omega
  rw [e]
  simp
theorem last_code {l : Addr} {vs : List Value} {n : Nat} {t : Tok} {v : Value} (hl : s.heap.get? l = some (lsO ⟨vs ++ [v]⟩ n)) (h : R (.ok (.ret v)) s) :
    codeAny (model prog w) A (.call (.builtin "list.__getitem__") ⟨[.ref l, .int (-1) t], []⟩) R s := by
  refine codeAny_call_builtin F.slot_list_getitem.plain F.entry_list_getitem (F.slot_list_getitem.check _ _ _ _ _ _ _ _ ⟨_, hl, rfl⟩ (F.args_list_getitem_2 _ _) ?_)
  show wpAny _ _ (Builtin.List.listSubscript? (.int (-1) t) >>= _) _ _ s
  refine wpAny_bind (wpAny_listSubscript_int (by decide) ?_)
  show wpAny _ _ ((Builtin.List.listItems (.ref l) >>= fun xs => pure ((seqIndex? (-1) xs.size).bind fun j => xs[j]?.map (j, ·))) >>= _) _ _ s
  refine wpAny_bind (wpAny_bind (m := Builtin.List.listItems (.ref l)) ?_)
  unfold Builtin.List.listItems
  refine wpAny_bind (wpAny_seqItems hl rfl (wpAny_pure (wpAny_pure ?_)))
  rw [last_item vs v]
  exact wpAny_pure h
theorem put_code {l : Addr} {vs : List Value} {n : Nat} {t : Tok} {v x : Value} (hl : s.heap.get? l = some (lsO ⟨vs ++ [v]⟩ n)) (h : R (.ok (.ret .none)) { s with heap := s.heap.update l (Obj.mapSeq (·.setIfInBounds vs.length x)) }) :
    codeAny (model prog w) A (.call (.builtin "list.__setitem__") ⟨[.ref l, .int (-1) t, x], []⟩) R s := by
  refine codeAny_call_builtin F.slot_list_setitem.plain F.entry_list_setitem (F.slot_list_setitem.check _ _ _ _ _ _ _ _ ⟨_, hl, rfl⟩ (F.args_list_setitem_3 _ _ _) ?_)
  show wpAny _ _ (Builtin.List.listSubscript? (.int (-1) t) >>= _) _ _ s
  refine wpAny_bind (wpAny_listSubscript_int (by decide) ?_)
  show wpAny _ _ ((Builtin.List.listItems (.ref l) >>= fun xs => pure ((seqIndex? (-1) xs.size).bind fun j => xs[j]?.map (j, ·))) >>= _) _ _ s
  refine wpAny_bind (wpAny_bind (m := Builtin.List.listItems (.ref l)) ?_)
  unfold Builtin.List.listItems
  refine wpAny_bind (wpAny_seqItems hl rfl (wpAny_pure (wpAny_pure ?_)))
  rw [last_item vs v]
  exact wpAny_bind (wpAny_setSeqItemAt hl rfl (wpAny_pure h))
/-! ### a text's iterator -/
noncomputable def siO (a : Str) (t : Tok) (i : Nat) : Obj := ⟨.type "str_ascii_iterator", none, .fields ⟨[.str a t, .int (.ofNat i) 0]⟩, ⟨[]⟩⟩
theorem next_code {it : Addr} {a : Str} {t : Tok} {i c : Nat} (hi : s.heap.get? it = some (siO a t i)) (hc : a.cps[i]? = some c)
    (h : ∀ τ u, R (.ok (.ret (.str ⟨⟨[c]⟩⟩ τ))) { s with heap := s.heap.update it (Obj.mapFields (·.setIfInBounds 1 (.int (.ofNat (i + 1)) 0))), toks := u }) :
    codeAny (model prog w) A (.call (.builtin "str_ascii_iterator.__next__") ⟨[.ref it], []⟩) R s := by
  refine codeAny_call_builtin F.slot_str_ascii_iterator_next.plain F.entry_str_ascii_iterator_next (F.slot_str_ascii_iterator_next.check _ _ _ _ _ _ _ _ ⟨_, hi, rfl⟩ (F.args_str_ascii_iterator_next_1 _) ?_)
  show wpAny _ _ (field (.ref it) 0 >>= _) _ _ s
  refine wpAny_bind (wpAny_field hi rfl (x := .str a t) rfl ?_)
  show wpAny _ _ (field (.ref it) 1 >>= _) _ _ s
  refine wpAny_bind (wpAny_field hi rfl (x := .int (.ofNat i) 0) rfl ?_)
  show wpAny _ _ (match a.cps[i]? with | some c => (do setField (.ref it) 1 (rawInt (.ofNat i + 1)); retStr ⟨#[c]⟩) | none => _) _ _ s
  rw [hc]
  exact wpAny_bind (wpAny_setField hi rfl (by simp) (wpAny_bind (wpAny_mkStr (wpAny_pure (h _ _)) (by show 1 ≤ sizeLine; decide))))
theorem stop_code {it : Addr} {a : Str} {t : Tok} {i : Nat} (hh : A.handled = none) (hi : s.heap.get? it = some (siO a t i)) (hc : a.cps[i]? = none)
    (h : ∀ h1, h1 = ((s.heap.update it (Obj.mapFields (·.setIfInBounds 0 .none))).push ⟨.type "tuple", none, .seq ⟨[]⟩ 0, ⟨[]⟩⟩).push ⟨.type "StopIteration", none, .fields ⟨[.ref s.heap.objs.size, .none, .none, .none, .bool false, .none]⟩, ⟨[]⟩⟩ →
      R (.error (.ref (s.heap.objs.size + 1))) { s with heap := h1 }) :
    codeAny (model prog w) A (.call (.builtin "str_ascii_iterator.__next__") ⟨[.ref it], []⟩) R s := by
  refine codeAny_call_builtin F.slot_str_ascii_iterator_next.plain F.entry_str_ascii_iterator_next (F.slot_str_ascii_iterator_next.check _ _ _ _ _ _ _ _ ⟨_, hi, rfl⟩ (F.args_str_ascii_iterator_next_1 _) ?_)
  show wpAny _ _ (field (.ref it) 0 >>= _) _ _ s
  refine wpAny_bind (wpAny_field hi rfl (x := .str a t) rfl ?_)
  show wpAny _ _ (field (.ref it) 1 >>= _) _ _ s
  refine wpAny_bind (wpAny_field hi rfl (x := .int (.ofNat i) 0) rfl ?_)
  show wpAny _ _ (match a.cps[i]? with | some c => _ | none => (do rule "str_ascii_iterator.__next__.end"; setField (.ref it) 0 .none; letGo [.str a t]; raiseNew (← newExc (.type "StopIteration") []))) _ _ s
  rw [hc]
  refine wpAny_bind (wpAny_rule (wpAny_bind (wpAny_setField hi rfl (by simp) (wpAny_bind (wpAny_letGo ?_)))))
  refine wpAny_bind (m := newExc (.type "StopIteration") []) ?_
  simp only [newExc, newTuple]
  refine wpAny_bind (wpAny_newObj_type ?_ (by show 0 ≤ sizeLine; decide))
  refine wpAny_bind (m := firstArgMember _ _) (wpAny_of_eq (a := Value.none) (by first | rfl | (simp only [firstArgMember]; rfl)) ?_)
  refine wpAny_newObj_type ?_ (by show 6 ≤ sizeLine + 2; decide)
  simp only [raiseNew]
  refine wpAny_bind (wpAny_handled ?_)
  rw [show A.in1.handled = none from hh]
  refine wpAny_bind (wpAny_pure (wpAny_throw ?_))
  have e1 : (s.heap.update it (Obj.mapFields (·.setIfInBounds 0 Value.none))).objs.size = s.heap.objs.size := (Heap.SameBut.update ..).1
  have := h _ rfl
  have hw : ownMembersOf (.type "StopIteration") [] = #[] := rfl
  simpa [Heap.size_push, e1, hw] using this
end
end
/-! SxT -/
/-! ### contracts on lists and iterators -/
noncomputable def isList1 : Option Obj → Option (Array Value × Nat)
  | some ⟨_, _, .seq xs n, _⟩ => some (xs, n)
  | _ => none
noncomputable def isSi : Option Obj → Option (Str × Tok × Nat)
  | some ⟨_, _, .fields ⟨[.str a t, .int (.ofNat i) _]⟩, _⟩ => some (a, t, i)
  | _ => none
noncomputable def arg1 : Code → Value
  | .call _ ⟨_ :: v :: _, _⟩ => v
  | _ => .none
noncomputable def arg2 : Code → Value
  | .call _ ⟨_ :: _ :: v :: _, _⟩ => v
  | _ => .none
noncomputable def tok1 : Value → Nat
  | .int _ t => t
  | _ => 0
/-- a list's last item apart -/
noncomputable def lastOf : List Value → Option (List Value × Value)
  | [] => none
  | [v] => some ([], v)
  | v :: r => match lastOf r with
    | some (p, w) => some (v :: p, w)
    | none => none
noncomputable def NextB (a : Str) (i : Nat) (res : List Nat) : Prop := ∃ c, res = [c] ∧ a.cps[i]? = some c
noncomputable def StopB (a : Str) (i : Nat) : Prop := a.cps[i]? = none
noncomputable def SmallB (xs : Array Value) : Prop := xs.size ≤ 1000000
noncomputable def stopO (args : Nat) : Obj := ⟨.type "StopIteration", none, .fields ⟨[.ref args, .none, .none, .none, .bool false, .none]⟩, ⟨[]⟩⟩
noncomputable def conQ (O : OrP) (pre : List Value) (lst : Value) : Nat → Nat → Ctx → Code → BT → Ads → Option Con := fun j x Γ c T ads => match j with
  | 17 => match isList1 (T.get x) with
    | some (xs, n) => some { gx := { Γ with code := .call (.builtin "list.append") ⟨[.ref (adOf ads x), arg1 c], []⟩ }, oq := [(T.get x, some (lsO xs n))], ob := SmallB xs, left := fun _ => ⟨.ok (.ret .none), setAll T [(x, lsO (xs.push (arg1 c)) (n + 1))], []⟩ }
    | none => none
  | 18 => match isList1 (T.get x) with
    | some (xs, n) => some { gx := { Γ with code := .call (.builtin "list.__getitem__") ⟨[.ref (adOf ads x), .int (-1) (tok1 (arg1 c))], []⟩ }, oq := [(T.get x, some (lsO ⟨pre ++ [lst]⟩ n))], ob := True, left := fun _ => ⟨.ok (.ret lst), T, []⟩ }
    | none => none
  | 19 => match isList1 (T.get x) with
    | some (xs, n) => some { gx := { Γ with code := .call (.builtin "list.__setitem__") ⟨[.ref (adOf ads x), .int (-1) (tok1 (arg1 c)), arg2 c], []⟩ }, oq := [(T.get x, some (lsO ⟨pre ++ [lst]⟩ n))], ob := True, left := fun _ => ⟨.ok (.ret .none), setAll T [(x, lsO ⟨pre ++ [arg2 c]⟩ n)], []⟩ }
    | none => none
  | 25 => match isSi (T.get (x / 100)) with
    | some (a, t, i) => some { gx := { Γ with code := .call (.builtin "str_ascii_iterator.__next__") ⟨[.ref (adOf ads (x / 100))], []⟩ }, oq := [(T.get (x / 100), some (siO a t i))], ob := NextB a i (O.str (x % 100)), left := fun ν => ⟨.ok (.ret (.str ⟨⟨O.str (x % 100)⟩⟩ (ν.n 0))), setAll T [(x / 100, siO a t (i + 1))], []⟩ }
    | none => none
  | 26 => match isSi (T.get x) with
    | some (a, t, i) => some { gx := { Γ with code := .call (.builtin "str_ascii_iterator.__next__") ⟨[.ref (adOf ads x)], []⟩ }, oq := [(T.get x, some (siO a t i))], ob := StopB a i ∧ Γ.handled = none, left := fun ν => ⟨.error (.ref (ν.n 0)), setAll T [(x, ν.ob 0)], [stopO (ν.n 1)]⟩ }
    | none => none
  | j => conP O j x Γ c T ads
theorem left_upd {B : Base} {s : Shared} {T : BT} {m : Nat} {ads : Ads} {tk : Nat} (D : Rep B s T m ads tk) {x : Nat} {o o' : Obj} (hT : T.get x = some o) {g : Con} {ν : Unk} {r : Result} {f : Obj → Obj} (hf : f o = o') (nf : o'.isFreed = false) {u : Nat} (e : g.left ν = ⟨r, setAll T [(x, o')], []⟩) :
    ∃ N t ν, LeftRep B g ν r { s with heap := s.heap.update (adOf ads x) f, toks := u } m ads N t := by
  have D1 := D.own x _ hT
  have hs : Heap.SameBut (adOf ads x) s.heap (s.heap.update (adOf ads x) f) := Heap.SameBut.update ..
  refine ⟨_, _, ν, left_none (s' := { s with heap := s.heap.update (adOf ads x) f, toks := u }) (ch := [(x, o')]) D e (fun z hz => ?_) ⟨fun b' o' hb' hne => ?_, ?_, rfl, rfl, rfl⟩⟩
  · simp only [List.mem_singleton] at hz
    subst hz
    refine ⟨D1.1, ?_⟩
    show (s.heap.update (adOf ads x) f).get? (adOf ads x) = _
    rw [Heap.get?_update_self _ D1.2 (by rw [hf]; exact nf), hf]
  · simp only [List.map_cons, List.map_nil, List.mem_singleton] at hne
    exact (hs.2 b' hne).trans hb'
  · show _ ≤ (s.heap.update (adOf ads x) _).objs.size
    rw [hs.1]; exact Nat.le_refl _
theorem conQ_ok {B : Base} {prog : Program} {w : World} (O : OrP) (pre : List Value) (lst : Value) : ∀ (j x : Nat) (Γ : Ctx) (T : BT) (m : Nat) (ads : Ads) (tk : Nat) (s : Shared) (p : Pos) (g : Con), conQ O pre lst j x Γ Γ.code T ads = some g → Γ = g.gx → (∀ z ∈ g.oq, z.1 = z.2) → g.ob → Rep B s T m ads tk →
    wpCode (model prog w) Γ (fun r s' => ∃ N t ν, LeftRep B g ν r s' m ads N t) p s := by
  intro j x Γ T m ads tk s p g hg hx ho ob D
  unfold conQ at hg
  split at hg
  · cases h : isList1 (T.get x) with
    | none => rw [h] at hg; cases hg
    | some q =>
      obtain ⟨xs, n⟩ := q
      rw [h] at hg
      cases hg
      have hT := ho _ (List.mem_cons_self ..)
      replace hT : T.get x = some (lsO xs n) := hT
      refine wpCode_at (congrArg Ctx.code hx) <| app_code (D.own x _ hT).2 ob ?_
      exact left_upd D hT (u := s.toks) (ν := unk0) (by simp [lsO, Obj.mapSeq]) rfl rfl
  · cases h : isList1 (T.get x) with
    | none => rw [h] at hg; cases hg
    | some q =>
      obtain ⟨xs, n⟩ := q
      rw [h] at hg
      cases hg
      have hT := ho _ (List.mem_cons_self ..)
      replace hT : T.get x = some (lsO ⟨pre ++ [lst]⟩ n) := hT
      exact wpCode_at (congrArg Ctx.code hx) <| last_code (D.own x _ hT).2 (left_same D rfl (ν := unk0))
  · cases h : isList1 (T.get x) with
    | none => rw [h] at hg; cases hg
    | some q =>
      obtain ⟨xs, n⟩ := q
      rw [h] at hg
      cases hg
      have hT := ho _ (List.mem_cons_self ..)
      replace hT : T.get x = some (lsO ⟨pre ++ [lst]⟩ n) := hT
      refine wpCode_at (congrArg Ctx.code hx) <| put_code (D.own x _ hT).2 ?_
      exact left_upd D hT (u := s.toks) (ν := unk0) (by simp [lsO, Obj.mapSeq]) rfl rfl
  · cases h : isSi (T.get (x / 100)) with
    | none => rw [h] at hg; cases hg
    | some q =>
      obtain ⟨a, t, i⟩ := q
      rw [h] at hg
      cases hg
      have hT := ho _ (List.mem_cons_self ..)
      replace hT : T.get (x / 100) = some (siO a t i) := hT
      obtain ⟨c, hc, hi⟩ := ob
      refine wpCode_at (congrArg Ctx.code hx) <| next_code (D.own _ _ hT).2 hi fun τ u => ?_
      refine left_upd D hT (ν := unkT τ) rfl rfl ?_
      show Left.mk _ _ _ = _
      rw [hc]; rfl
  · cases h : isSi (T.get x) with
    | none => rw [h] at hg; cases hg
    | some q =>
      obtain ⟨a, t, i⟩ := q
      rw [h] at hg
      cases hg
      have hT := ho _ (List.mem_cons_self ..)
      replace hT : T.get x = some (siO a t i) := hT
      obtain ⟨hs, hh⟩ := ob
      have D1 := D.own x _ hT
      refine wpCode_at (congrArg Ctx.code hx) <| stop_code hh D1.2 hs fun h1 e1 => ?_
      have hu : Heap.SameBut (adOf ads x) s.heap (s.heap.update (adOf ads x) (Obj.mapFields (·.setIfInBounds 0 Value.none))) := Heap.SameBut.update ..
      have hsz : ((s.heap.update (adOf ads x) (Obj.mapFields (·.setIfInBounds 0 Value.none))).push ⟨.type "tuple", none, .seq ⟨[]⟩ 0, ⟨[]⟩⟩).objs.size = s.heap.objs.size + 1 := by rw [Heap.size_push, hu.1]
      refine ⟨_, _, ⟨fun k => match k with | 0 => s.heap.objs.size + 1 | _ => s.heap.objs.size, fun _ => #[], fun _ => #[], fun _ => Obj.mapFields (·.setIfInBounds 0 Value.none) (siO a t i)⟩,
        left_one (s' := { s with heap := h1 }) (ch := [(x, Obj.mapFields (·.setIfInBounds 0 Value.none) (siO a t i))]) (o := stopO s.heap.objs.size) D rfl (fun z hz => ?_) ⟨fun b' o' hb' hne => ?_, ?_, rfl, rfl, rfl⟩ ?_ ?_⟩
      · simp only [List.mem_singleton] at hz
        subst hz
        refine ⟨D1.1, ?_⟩
        show h1.get? (adOf ads x) = _
        rw [e1]
        exact Heap.get?_push_of_some _ (Heap.get?_push_of_some _ (Heap.get?_update_self _ D1.2 rfl))
      · simp only [List.map_cons, List.map_nil, List.mem_singleton] at hne
        show h1.get? b' = _
        rw [e1]
        exact Heap.get?_push_of_some _ (Heap.get?_push_of_some _ ((hu.2 b' hne).trans hb'))
      · show s.heap.objs.size ≤ h1.objs.size
        rw [e1, Heap.size_push, hsz]
        omega
      · show h1.get? (s.heap.objs.size + 1) = _
        rw [e1, ← hsz]
        exact Heap.get?_push_size _ rfl
      · exact Nat.le_succ _
  · exact conP_ok O _ _ _ _ _ _ _ _ _ _ hg hx ob D
/-! SxU -/
section
/-! ### sum of a list of ints -/
noncomputable def intsOf : List Value → Option (List Int)
  | [] => some []
  | .int b _ :: r => match intsOf r with
    | some q => some (b :: q)
    | none => none
  | _ => none
noncomputable def sumI : Int → List Int → Int
  | a, [] => a
  | a, b :: r => sumI (a + b) r
noncomputable def SumF : Int → List Int → Prop
  | _, [] => True
  | a, b :: r => InLong b ∧ InLong (a + b) ∧ SumF (a + b) r
noncomputable def SumB (is : List Int) : Prop := SumF 0 is
theorem intsOf_cons {vs : List Value} {b : Int} {r : List Int} (h : intsOf vs = some (b :: r)) : ∃ t rest, vs = .int b t :: rest ∧ intsOf rest = some r := by
  unfold intsOf at h
  split at h
  · simp at h
  · split at h
    · rename_i e
      simp only [Option.some.injEq, List.cons.injEq] at h
      obtain ⟨rfl, rfl⟩ := h
      exact ⟨_, _, rfl, e⟩
    · cases h
  · cases h
theorem intsOf_nil {vs : List Value} (h : intsOf vs = some []) : vs = [] := by
  unfold intsOf at h
  split at h
  · rfl
  · split at h <;> simp at h
  · cases h
theorem drop_cons {vs : List Value} {i : Nat} {v : Value} {r : List Value} (h : vs.drop i = v :: r) : vs[i]? = some v ∧ vs.drop (i + 1) = r := by
  constructor
  · have := congrArg (·[0]?) h
    simpa using this
  · have := congrArg (List.drop 1) h
    simpa [Nat.add_comm] using this
section
variable {prog : Program} {w : World} {A : Around} {R : Result → Shared → Prop}
theorem sumloop_code {l it S : Addr} {vs : List Value} (hh : A.handled = none) (n1 : S ≠ it) (n2 : it ≠ l) (n3 : S ≠ l) : ∀ (is : List Int) (i : Nat) (a : Int) (tA : Tok) (c : Nat) (s : Shared), intsOf (vs.drop i) = some is → SumF a is →
    s.heap.IsListIter it l i → s.heap.IsList l ⟨vs⟩ → s.heap.get? S = some { cls := .type "list", dict := none, data := .seq #[.int a tA] c, slots := #[] } → s.heap.objs.size = S + 1 →
    (∀ s' t', Keep [it, S] s s' → R (.ok (.ret (.int (sumI a is) t'))) s') →
    codeAny (model prog w) A (.builtin "sum.loop" ⟨[.ref it, .ref S, rawInt 0, rawInt 0], []⟩) R s := by
  intro is
  induction is with
  | nil =>
    intro i a tA c s hd hf hit hl hS hz hR
    refine codeAny_builtin F.entry_sum_loop ?_
    rw [Around.under_plainId F.plain_sum_loop _]
    show wpAny _ A.in1 (seqItems? (.ref S) >>= _) _ _ s
    refine wpAny_bind (wpAny_seqItems hS rfl ?_)
    show wpAny _ A.in1 (tryCatch (pyNext (.ref it)) _ >>= _) _ _ s
    have hx : (⟨vs⟩ : Array Value)[i]? = none := by
      have := intsOf_nil hd
      simp only [List.drop_eq_nil_iff] at this
      simpa using this
    refine wpAny_bind (wpAny_tryCatch (wpAny_pyNext_list_end (show A.in1.handled = none from hh) hit hl hx fun h' he => ?_))
    have h2 : h'.get? S = _ := he S _ n1 hS
    have h3 : S < h'.objs.size := Heap.lt_size h2
    refine wpAny_pure (hR _ tA ⟨fun b o hb hne => ?_, ?_, rfl, rfl, rfl⟩)
    · simp only [List.mem_cons, List.not_mem_nil, or_false, not_or] at hne
      exact he b o hne.1 hb
    · show s.heap.objs.size ≤ h'.objs.size
      rw [hz]; exact h3
  | cons b r ih =>
    intro i a tA c s hd hf hit hl hS hz hR
    obtain ⟨t, rest, e1, e2⟩ := intsOf_cons hd
    obtain ⟨e3, e4⟩ := drop_cons e1
    obtain ⟨⟨f1, f2⟩, ⟨f3, f4⟩, f5⟩ := hf
    refine codeAny_builtin F.entry_sum_loop ?_
    rw [Around.under_plainId F.plain_sum_loop _]
    show wpAny _ A.in1 (seqItems? (.ref S) >>= _) _ _ s
    refine wpAny_bind (wpAny_seqItems hS rfl ?_)
    show wpAny _ A.in1 (tryCatch (pyNext (.ref it)) _ >>= _) _ _ s
    refine wpAny_bind (wpAny_tryCatch (wpAny_pyNext_list_item (x := .int b t) hit hl (by simpa using e3) fun h' hit' hsb => ?_))
    have hS' : ({ s with heap := h' } : Shared).heap.get? S = _ := (hsb.2 S n1).trans hS
    have hl' : h'.IsList l ⟨vs⟩ := let ⟨o, ho, q⟩ := hl; ⟨o, (hsb.2 l (Ne.symm n2)).trans ho, q⟩
    have hc : ((decide (-(2 ^ 63) ≤ b) && decide (b < 2 ^ 63)) && (decide (-(2 ^ 63) ≤ a + b) && decide (a + b < 2 ^ 63))) = true := by
      simp only [Bool.and_eq_true, decide_eq_true_eq]
      exact ⟨⟨f1, f2⟩, f3, f4⟩
    show wpAny _ A.in1 (if (_ : Bool) = true then (mkInt (a + b) >>= _) else _) _ _ _
    split
    · refine wpAny_bind (wpAny_mkInt ?_)
      show wpAny _ A.in1 (updateSeq S (fun _ => #[.int (a + b) s.toks]) >>= _) _ _ _
      refine wpAny_bind ?_
      have hs2 : Heap.SameBut S h' (h'.update S (Obj.mapSeq fun _ => #[.int (a + b) s.toks])) := Heap.SameBut.update ..
      refine wpAny_updateSeq hS' rfl (wpAny_pure ⟨plainId_quiet F.plain_sum_loop _, ih (i + 1) (a + b) s.toks _ _ (by rw [e4]; exact e2) f5 ?_ ?_ (Heap.get?_update_self _ hS' rfl) ?_ fun s' t' K => hR s' t' ?_⟩)
      · obtain ⟨o, h1, q⟩ := hit'
        exact ⟨o, (hs2.2 it (Ne.symm n1)).trans h1, q⟩
      · obtain ⟨o, h1, q⟩ := hl'
        exact ⟨o, (hs2.2 l (Ne.symm n3)).trans h1, q⟩
      · show (h'.update S _).objs.size = _
        rw [hs2.1, hsb.1]; exact hz
      · refine ⟨fun b' o hb hne => K.keep b' o ?_ hne, ?_, K.gens, K.drawn, K.os⟩
        · simp only [List.mem_cons, List.not_mem_nil, or_false, not_or] at hne
          exact (hs2.2 b' hne.2).trans ((hsb.2 b' hne.1).trans hb)
        · have := K.size
          have e : (h'.update S (Obj.mapSeq fun _ => #[.int (a + b) s.toks])).objs.size = s.heap.objs.size := by rw [hs2.1, hsb.1]
          exact e ▸ this
    · rename_i hneg
      exact absurd hc hneg
theorem fnCheck {id : String} {args : List Value} (hk : builtinKind id = none) (ha : argsOk id ⟨args, []⟩) : checkBuiltinCall id ⟨args, []⟩ = pure () := by
  simp only [checkBuiltinCall, hk]
  cases hsig : Manifest.signature? id with
  | none => rfl
  | some sig =>
    simp only [argsOk, hsig] at ha
    exact ha
theorem sum_code {l : Addr} {vs : List Value} {n : Nat} {is : List Int} {s : Shared} (hh : A.handled = none) (hl : s.heap.get? l = some (lsO ⟨vs⟩ n)) (hi : intsOf vs = some is) (hf : SumB is)
    (h : ∀ s' t', Keep [] s s' → R (.ok (.ret (.int (sumI 0 is) t'))) s') : codeAny (model prog w) A (.call (.builtin "sum") ⟨[.ref l], []⟩) R s := by
  refine codeAny_call_builtin F.plain_sum F.entry_sum ?_
  refine wpAny_of_eq (a := ()) (fnCheck F.kind_sum (F.args_sum1 _)) ?_
  unfold Builtin.«sum»
  simp only [List.length_cons, List.length_nil]
  rw [if_neg (by decide)]
  refine wpAny_bind (wpAny_of_eq (show Builtin.Builtins.bindParams "sum" ["start"] 0 { } = pure [none] from rfl) ?_)
  have hL : s.heap.IsList l ⟨vs⟩ := ⟨_, hl, rfl, n, rfl⟩
  have hlt := Heap.lt_size hl
  refine wpAny_bind (wpAny_pyIter_list hL ?_)
  refine wpAny_bind (wpAny_mkInt ?_)
  refine wpAny_bind (wpAny_pure ?_)
  simp only [List.forIn_cons, List.forIn_nil]
  refine wpAny_bind (wpAny_bind (wpAny_bind (wpAny_isInstance (T := "int") (b := false) (typeIs_int _ _ _) sub_int_str ?_)))
  simp only [Bool.false_eq_true, if_false]
  refine wpAny_pure (wpAny_bind (wpAny_bind (wpAny_isInstance (T := "int") (b := false) (typeIs_int _ _ _) sub_int_bytes ?_)))
  simp only [Bool.false_eq_true, if_false]
  refine wpAny_pure (wpAny_bind (wpAny_bind (wpAny_isInstance (T := "int") (b := false) (typeIs_int _ _ _) sub_int_bytearray ?_)))
  simp only [Bool.false_eq_true, if_false]
  refine wpAny_pure (wpAny_pure ?_)
  refine wpAny_bind (wpAny_newObj_type ?_)
  have hb : ∀ b o, s.heap.get? b = some o → b < s.heap.objs.size := fun b o e => Heap.lt_size e
  refine wpAny_pure ⟨plainId_quiet F.plain_sum_loop _, ?_⟩
  show codeAny _ _ (.builtin "sum.loop" ⟨[.ref s.heap.objs.size, .ref (s.heap.push _).objs.size, _, _], []⟩) _ _
  have hpz : ∀ o, (s.heap.push o).objs.size = s.heap.objs.size + 1 := fun o => Heap.size_push ..
  refine sumloop_code (l := l) (vs := vs) hh ?n1 ?n2 ?n3 is 0 0 s.toks 0 _ (by simpa using hi) hf ?_ ?_ ?_ ?_ fun s' t' K => h s' t' ?_
  case n1 => rw [hpz]; exact Nat.succ_ne_self _
  case n2 => exact Nat.ne_of_gt hlt
  case n3 => rw [hpz]; exact Nat.ne_of_gt (Nat.lt_succ_of_lt hlt)
  · exact ⟨_, Heap.get?_push_of_some _ (Heap.get?_push_size _ rfl), rfl, rfl⟩
  · exact ⟨_, Heap.get?_push_of_some _ (Heap.get?_push_of_some _ hl), rfl, n, rfl⟩
  · show (Heap.push (Heap.push _ _) _).get? _ = _
    exact Heap.get?_push_size (s.heap.push _) rfl
  · show (Heap.push (Heap.push _ _) _).objs.size = _
    rw [Heap.size_push, Heap.size_push]
  · refine ⟨fun b o e _ => K.keep b o (Heap.get?_push_of_some _ (Heap.get?_push_of_some _ e)) ?_, ?_, K.gens, K.drawn, K.os⟩
    · have h1 := hb b o e
      simp only [List.mem_cons, List.not_mem_nil, or_false, not_or]
      rw [hpz]
      exact ⟨Nat.ne_of_lt h1, Nat.ne_of_lt (Nat.lt_succ_of_lt h1)⟩
    · have h1 : (Heap.push (Heap.push s.heap _) _).objs.size ≤ s'.heap.objs.size := K.size
      rw [Heap.size_push, Heap.size_push] at h1
      exact Nat.le_trans (Nat.le_add_right _ 2) h1
end
/-! the contract -/
noncomputable def conU (O : OrP) : Nat → Nat → Ctx → Code → BT → Ads → Option Con := fun j x Γ c T ads => match j with
  | 29 => match isList1 (T.get x) with
    | some (xs, n) => match intsOf xs.toList with
      | some is => some { gx := { Γ with code := .call (.builtin "sum") ⟨[.ref (adOf ads x)], []⟩ }, oq := [(T.get x, some (lsO xs n))], ob := SumB is ∧ Γ.handled = none, left := fun ν => ⟨.ok (.ret (.int (sumI 0 is) (ν.n 0))), T, []⟩ }
      | none => none
    | none => none
  | j => conP O j x Γ c T ads
theorem conU_ok {B : Base} {prog : Program} {w : World} (O : OrP) : ∀ (j x : Nat) (Γ : Ctx) (T : BT) (m : Nat) (ads : Ads) (tk : Nat) (s : Shared) (p : Pos) (g : Con), conU O j x Γ Γ.code T ads = some g → Γ = g.gx → (∀ z ∈ g.oq, z.1 = z.2) → g.ob → Rep B s T m ads tk →
    wpCode (model prog w) Γ (fun r s' => ∃ N t ν, LeftRep B g ν r s' m ads N t) p s := by
  intro j x Γ T m ads tk s p g hg hx ho ob D
  unfold conU at hg
  split at hg
  · cases h : isList1 (T.get x) with
    | none => rw [h] at hg; cases hg
    | some q =>
      obtain ⟨⟨vs⟩, n⟩ := q
      rw [h] at hg
      cases h2 : intsOf vs with
      | none => simp only [h2] at hg; cases hg
      | some is =>
        simp only [h2] at hg
        cases hg
        have hT := ho _ (List.mem_cons_self ..)
        replace hT : T.get x = some (lsO ⟨vs⟩ n) := hT
        obtain ⟨hf, hh⟩ := ob
        refine wpCode_at (congrArg Ctx.code hx) <| sum_code hh (D.own x _ hT).2 h2 hf fun s' t' K => ?_
        exact ⟨_, _, unkT t', left_none (s' := s') (ch := []) D rfl (by simp) K⟩
  · exact conP_ok O _ _ _ _ _ _ _ _ _ _ hg hx ob D
end
end Mine
end
section -- SxQ02
open PySem PySem.W
lay_quick Mine.sx Mine.lvTree
end
section
open PySem PySem.W
namespace Mine.T02
/-! S102 -/
/-! ### the executor for this program -/
noncomputable def denF : Code → Sem Fin := PySem.W.Fast.tw11892475500146522536 PySem.W.Fast.tw14364793385576792824
noncomputable abbrev lvF : Code → Option (Sem Fin × Env × Bool) := PySem.W.Fast.tw18348235328754309742
theorem lv_eq : lvTree = lvF := PySem.W.Fast.te18348235328754309742
noncomputable abbrev sxF := PySem.W.Fast.tw1486101770073244658
theorem sx_eq : @sx = @sxF := PySem.W.Fast.te1486101770073244658
theorem den_ok (prog : Program) (w : World) : denF = (model prog w).den := by
  show PySem.W.Fast.tw11892475500146522536 PySem.W.Fast.tw14364793385576792824 = denote table
  rw [← show denote = _ from PySem.W.Fast.te11892475500146522536, ← show treeTable = _ from PySem.W.Fast.te14364793385576792824]
  exact congrArg denote table_eq_tree.symm
/-- the world with its two asked rows told -/
noncomputable def wld (w : World) (b b2 : Bool) : World := (w.withFollow "comprehension-iter-twice" b2).withFollow "special-get-raises" b
noncomputable abbrev CF := Nat → Nat → Ctx → Code → BT → Ads → Option Con
noncomputable def cfgW (W : World) (con : CF) : Cfg := ⟨denF, F, W, kt W.params, con, lvF⟩
noncomputable abbrev MW (W : World) : Model := model F W
noncomputable abbrev Top (W : World) (s : Shared) : Prop := Sane (kt W.params) 769 s

/-! ### reading the text -/
noncomputable def whT : Stmt → Expr
  | .While t _ _ _ => t
  | _ => .Constant .none 0 default
noncomputable def whB : Stmt → List Stmt
  | .While _ b _ _ => b
  | _ => []
noncomputable def whO : Stmt → List Stmt
  | .While _ _ o _ => o
  | _ => []
noncomputable def forT : Stmt → Expr
  | .For t _ _ _ _ => t
  | _ => .Constant .none 0 default
noncomputable def forB : Stmt → List Stmt
  | .For _ _ b _ _ => b
  | _ => []
noncomputable def forO : Stmt → List Stmt
  | .For _ _ _ o _ => o
  | _ => []
/-- the frame of a plain def -/
noncomputable def envOfD (d : Stmt) (qual : List Nat) (f c L : Nat) : Env :=
  { scope := fnS d, locals := L, globals := 3, cells := [], qual := ⟨⟨qual⟩⟩ ++ (⟨⟨[46, 60, 108, 111, 99, 97, 108, 115, 62, 46]⟩⟩ : Str), func := some f, code := .ref c, frame := some L, builtins := 0 }

/-! ### shapes -/
noncomputable def ent (P : Params) (k : List Nat) (t : Nat) (v : Value) : DictEntry := ⟨PyData.keyHash P ⟨⟨k⟩⟩, .str ⟨⟨k⟩⟩ t, v⟩
noncomputable def inst (cls d : Nat) : Obj := ⟨.ref cls, some d, .plain, ⟨[]⟩⟩
noncomputable def tyDict : String := SL.s14018661285674007319x4
noncomputable def tyFrame : String := SL.s658472552662922059x5
noncomputable def dictO (es : List DictEntry) (n : Nat) : Obj := ⟨.type tyDict, none, .dict ⟨es⟩ n, ⟨[]⟩⟩
noncomputable def frameO (es : List DictEntry) (n : Nat) (sl : Array (Option Value)) : Obj := ⟨.type tyFrame, none, .dict ⟨es⟩ n, sl⟩

/-- a run of a code whose raises are noted -/
noncomputable def runL (C : Cfg) (fuel : Nat) (Γ : Ctx) (p : Pos) (env : Env) (fl : Bool) (hs : List Nat) (l : List (Nat × Obj)) (N t : Nat) (nv : Nv) : Out :=
  sxF C fuel Γ p (.lv Γ env fl .base) (lvOf C Γ.code) hs (treeOf 0 (l.map (·.2)) .nil) l.length (adsOf 0 (l.map (·.1)) N []) t 0 nv ⟨[], [], [], True⟩
/-- a run of any other -/
noncomputable def runC (C : Cfg) (fuel : Nat) (Γ : Ctx) (p : Pos) (hs : List Nat) (l : List (Nat × Obj)) (N t : Nat) (nv : Nv) : Out :=
  sxF C fuel Γ p .base (C.den Γ.code) hs (treeOf 0 (l.map (·.2)) .nil) l.length (adsOf 0 (l.map (·.1)) N []) t 0 nv ⟨[], [], [], True⟩

/-! ### reading tokens off a run -/
noncomputable def posOf : Out → Pos
  | .fin (.again _ p) _ _ _ _ _ => p
  | _ => default
noncomputable def entAt (X : Out) (i j : Nat) : DictEntry := match X with
  | .fin _ T _ _ _ _ => match T.get i with
    | some o => match o.data with
      | .dict es _ => es.toList.getD j ⟨0, .none, .none⟩
      | _ => ⟨0, .none, .none⟩
    | none => ⟨0, .none, .none⟩
  | _ => ⟨0, .none, .none⟩
noncomputable def vtok : Value → Nat
  | .str _ t => t
  | .int _ t => t
  | .bytes _ t => t
  | _ => 0
/-- the token of the value (of the key) at the entry j of the object i -/
noncomputable def vt (X : Out) (i j : Nat) : Nat := vtok (entAt X i j).val
noncomputable def ktk (X : Out) (i j : Nat) : Nat := vtok (entAt X i j).key
noncomputable def objAt (X : Out) (i : Nat) : Option Obj := match X with
  | .fin _ T _ _ _ _ => T.get i
  | _ => none
noncomputable def obAt (X : Out) (i : Nat) : Obj := match objAt X i with
  | some o => o
  | none => ⟨.none, none, .plain, ⟨[]⟩⟩
noncomputable def adAt (X : Out) (i : Nat) : Nat := match X with
  | .fin _ _ _ ads _ _ => adOf ads i
  | _ => 0
noncomputable def slOf (X : Out) (i : Nat) : Array (Option Value) := match objAt X i with
  | some o => o.slots
  | none => ⟨[]⟩
/-- the field k of the record i -/
noncomputable def fdOf (X : Out) (i k : Nat) : Value := match objAt X i with
  | some o => match recOf o.data with
    | some vs => match nthV vs k with
      | some v => v
      | none => .none
    | none => .none
  | none => .none
noncomputable def tlV : Nat → List Value → List Value
  | 0, l => l
  | n + 1, _ :: l => tlV n l
  | _ + 1, [] => []
noncomputable def tlOf (X : Out) (i : Nat) : Array Value := match objAt X i with
  | some o => match recOf o.data with
    | some vs => ⟨tlV 5 vs⟩
    | none => ⟨[]⟩
  | none => ⟨[]⟩
/-- an exception of a built-in class that stands with the traceback tb -/
noncomputable def excO (cls : String) (args : Nat) (tb : Nat) (sl : Array (Option Value)) : Obj := ⟨.type cls, none, .fields ⟨[.ref args, .ref tb, .none, .none, .bool false, .none]⟩, sl⟩
/-- the token of the answer -/
noncomputable def rtok : Out → Nat
  | .fin (.done (.ok (.ret v))) _ _ _ _ _ => vtok v
  | _ => 0
noncomputable def setK (k : Nat → Nat) (i v : Nat) : Nat → Nat := fun j => match Nat.beq j i with | true => v | false => k j

/-! ### shlex's objects -/
noncomputable def dRT : Stmt := nthS 6 (clsB (nthS 19 F.main.body))
noncomputable def dGT : Stmt := nthS 5 (clsB (nthS 19 F.main.body))
noncomputable def dNX : Stmt := nthS 10 (clsB (nthS 19 F.main.body))
noncomputable def dSP : Stmt := nthS 20 F.main.body
noncomputable def dLW : Stmt := nthS 28 F.main.body
noncomputable def envRT (L : Nat) : Env := envOfD dRT [115, 104, 108, 101, 120, 46, 114, 101, 97, 100, 95, 116, 111, 107, 101, 110] 690 689 L
noncomputable def envGT (L : Nat) : Env := envOfD dGT [115, 104, 108, 101, 120, 46, 103, 101, 116, 95, 116, 111, 107, 101, 110] 683 682 L
noncomputable def envNX (L : Nat) : Env := envOfD dNX [115, 104, 108, 101, 120, 46, 95, 95, 110, 101, 120, 116, 95, 95] 719 718 L
noncomputable def envSP (L : Nat) : Env := envOfD dSP [115, 112, 108, 105, 116] 734 733 L
noncomputable def envLW (L : Nat) : Env := envOfD dLW [108, 97, 119] 768 767 L
noncomputable def sWh : Stmt := nthS 2 (fnB dRT)
noncomputable def wCode (L : Nat) : Code := .whileLoop (whT sWh) (whB sWh) (whO sWh) (envRT L)
noncomputable def wordL : List Nat := [97, 98, 99, 100, 102, 101, 103, 104, 105, 106, 107, 108, 109, 110, 111, 112, 113, 114, 115, 116, 117, 118, 119, 120, 121, 122, 65, 66, 67, 68, 69, 70, 71, 72, 73, 74, 75, 76, 77, 78, 79, 80, 81, 82, 83, 84, 85, 86, 87, 88, 89, 90, 48, 49, 50, 51, 52, 53, 54, 55, 56, 57, 95, 223, 224, 225, 226, 227, 228, 229, 230, 231, 232, 233, 234, 235, 236, 237, 238, 239, 240, 241, 242, 243, 244, 245, 246, 248, 249, 250, 251, 252, 253, 254, 255, 192, 193, 194, 195, 196, 197, 198, 199, 200, 201, 202, 203, 204, 205, 206, 207, 208, 209, 210, 211, 212, 213, 214, 216, 217, 218, 219, 220, 221, 222]
/-- lex's dict: k the keys' tokens, v the still values' tokens -/
noncomputable def lexD (P : Params) (k v : Nat → Nat) (sio dq1 dq2 : Nat) (st ln tok : Value) : Obj := dictO [
  ent P [105, 110, 115, 116, 114, 101, 97, 109] (k 0) (.ref sio),
  ent P [105, 110, 102, 105, 108, 101] (k 1) .none,
  ent P [112, 111, 115, 105, 120] (k 2) (.bool true),
  ent P [101, 111, 102] (k 3) .none,
  ent P [99, 111, 109, 109, 101, 110, 116, 101, 114, 115] (k 4) (.str ⟨⟨[]⟩⟩ (v 0)),
  ent P [119, 111, 114, 100, 99, 104, 97, 114, 115] (k 5) (.str ⟨⟨wordL⟩⟩ (v 1)),
  ent P [119, 104, 105, 116, 101, 115, 112, 97, 99, 101] (k 6) (.str ⟨⟨[32, 9, 13, 10]⟩⟩ (v 2)),
  ent P [119, 104, 105, 116, 101, 115, 112, 97, 99, 101, 95, 115, 112, 108, 105, 116] (k 7) (.bool true),
  ent P [113, 117, 111, 116, 101, 115] (k 8) (.str ⟨⟨[39, 34]⟩⟩ (v 3)),
  ent P [101, 115, 99, 97, 112, 101] (k 9) (.str ⟨⟨[92]⟩⟩ (v 4)),
  ent P [101, 115, 99, 97, 112, 101, 100, 113, 117, 111, 116, 101, 115] (k 10) (.str ⟨⟨[34]⟩⟩ (v 5)),
  ent P [115, 116, 97, 116, 101] (k 11) st,
  ent P [112, 117, 115, 104, 98, 97, 99, 107] (k 12) (.ref dq1),
  ent P [108, 105, 110, 101, 110, 111] (k 13) ln,
  ent P [100, 101, 98, 117, 103] (k 14) (.int 0 (v 6)),
  ent P [116, 111, 107, 101, 110] (k 15) tok,
  ent P [102, 105, 108, 101, 115, 116, 97, 99, 107] (k 16) (.ref dq2),
  ent P [115, 111, 117, 114, 99, 101] (k 17) .none,
  ent P [95, 112, 117, 110, 99, 116, 117, 97, 116, 105, 111, 110, 95, 99, 104, 97, 114, 115] (k 18) (.str ⟨⟨[]⟩⟩ (v 7))] 19
noncomputable def sioD (P : Params) (k : Nat → Nat) (nl : Nat) (buf : Value) (pos : Value) : Obj := dictO [
  ent P [95, 83, 116, 114, 105, 110, 103, 73, 79, 95, 95, 110, 101, 119, 108, 105, 110, 101] (k 0) (.str ⟨⟨[10]⟩⟩ nl),
  ent P [95, 83, 116, 114, 105, 110, 103, 73, 79, 95, 95, 98, 117, 102] (k 1) buf,
  ent P [95, 83, 116, 114, 105, 110, 103, 73, 79, 95, 95, 112, 111, 115] (k 2) pos] 3
noncomputable def deqO : Obj := ⟨.type SL.s5314052453082223887x17, none, .fields ⟨[.none, .int 0 0]⟩, ⟨[]⟩⟩
/-- read_token's frame: ahead of its first sign, and behind it -/
noncomputable def frRT0 (P : Params) (k : Nat → Nat) (lex : Nat) (q : Bool) (et : Nat) (sl : Array (Option Value)) : Obj := frameO [
  ent P [115, 101, 108, 102] (k 0) (.ref lex), ent P [113, 117, 111, 116, 101, 100] (k 1) (.bool q), ent P [101, 115, 99, 97, 112, 101, 100, 115, 116, 97, 116, 101] (k 2) (.str ⟨⟨[32]⟩⟩ et)] 3 sl
noncomputable def frRT1 (P : Params) (k : Nat → Nat) (lex : Nat) (q : Bool) (et : Nat) (nc : Value) (sl : Array (Option Value)) : Obj := frameO [
  ent P [115, 101, 108, 102] (k 0) (.ref lex), ent P [113, 117, 111, 116, 101, 100] (k 1) (.bool q), ent P [101, 115, 99, 97, 112, 101, 100, 115, 116, 97, 116, 101] (k 2) (.str ⟨⟨[32]⟩⟩ et),
  ent P [110, 101, 120, 116, 99, 104, 97, 114] (k 3) nc] 4 sl

/-! ### the stack below read_token's loop -/
noncomputable def loopC (l lex : Nat) : Code := .builtin "list.extend.loop" ⟨[.ref l, .ref lex, .none], []⟩
noncomputable def belL (lex Ls : Nat) (q : Nat → Pos) (out : List (Code × Pos)) : List (Code × Pos) :=
  (.builtin "type.__call__" ⟨[.type "list", .ref lex], []⟩, q 2) :: (.func (fnB dSP) (envSP Ls), q 3) :: out
noncomputable def belN (l lex Ls : Nat) (q : Nat → Pos) (out : List (Code × Pos)) : List (Code × Pos) := (loopC l lex, q 4) :: belL lex Ls q out
noncomputable def belG (l lex Ls Ln : Nat) (q : Nat → Pos) (out : List (Code × Pos)) : List (Code × Pos) := (.func (fnB dNX) (envNX Ln), q 5) :: belN l lex Ls q out
noncomputable def belR (l lex Ls Ln Lg : Nat) (q : Nat → Pos) (out : List (Code × Pos)) : List (Code × Pos) := (.func (fnB dGT) (envGT Lg), q 6) :: belG l lex Ls Ln q out
noncomputable def belW (l lex Ls Ln Lg L : Nat) (q : Nat → Pos) (out : List (Code × Pos)) : List (Code × Pos) := (.func (fnB dRT) (envRT L), q 7) :: belR l lex Ls Ln Lg q out
noncomputable def ctxOf (c : Code) (bel : List (Code × Pos)) : Ctx := ⟨c, none, none, bel, none⟩
/-- what lies around split -/
structure Ar where
  l : Nat
  lex : Nat
  Ls : Nat
  Ln : Nat
  Lg : Nat
  L : Nat
  q : Nat → Pos
noncomputable def sFor : Stmt := nthS 1 (fnB dLW)
/-- law's loop and law itself -/
structure OutA where
  it : Nat
  L0 : Nat
  q : Nat → Pos
noncomputable def outOf (o : OutA) : List (Code × Pos) :=
  [(.forLoop (forT sFor) (.ref o.it) (forB sFor) (forO sFor) (envLW o.L0), o.q 0), (.func (fnB dLW) (envLW o.L0), o.q 1), (.builtin "claim.caller" {}, default)]
noncomputable def Ar.W (a : Ar) (o : OutA) : List (Code × Pos) := belW a.l a.lex a.Ls a.Ln a.Lg a.L a.q (outOf o)
/-- any frame -/
structure FrO where
  es : List DictEntry
  n : Nat
  sl : Array (Option Value)
noncomputable def frX (g : FrO) : Obj := frameO g.es g.n g.sl
noncomputable def outF (o : OutA) (g : Nat → FrO) : List (Nat × Obj) := [(o.L0, frX (g 3))]
noncomputable def outA (o : OutA) : List Nat := [o.L0]
/-- the frames below read_token's -/
noncomputable def frs (a : Ar) (o : OutA) (g : Nat → FrO) : List (Nat × Obj) := (a.Lg, frX (g 0)) :: (a.Ln, frX (g 1)) :: (a.Ls, frX (g 2)) :: outF o g
/-- shlex's still parts -/
structure Lx where
  d : Nat
  sio : Nat
  e : Nat
  dq1 : Nat
  dq2 : Nat
  k : Nat → Nat
  v : Nat → Nat
  sk : Nat → Nat
  nl : Nat
  buf : List Nat
  τb : Nat
noncomputable def stV (st τ : Nat) : Value := match Nat.beq st 0 with
  | true => .none
  | false => .str ⟨⟨[st]⟩⟩ τ
noncomputable def lxL (P : Params) (lex : Nat) (x : Lx) (st : Value) (ln τl : Nat) (tok : Str) (τt pos τp : Nat) : List (Nat × Obj) :=
  [(lex, inst 722 x.d), (x.d, lexD P x.k x.v x.sio x.dq1 x.dq2 st (.int (.ofNat ln) τl) (.str tok τt)), (x.sio, inst 587 x.e), (x.e, sioD P x.sk x.nl (.str ⟨⟨x.buf⟩⟩ x.τb) (.int (.ofNat pos) τp))]
noncomputable def frW (P : Params) (lex : Nat) (fk : Nat → Nat) (et : Nat) (sl : Array (Option Value)) (q : Bool) : Option (List Nat × Nat) → Obj
  | none => frRT0 P fk lex q et sl
  | some x => frRT1 P fk lex q et (.str ⟨⟨x.1⟩⟩ x.2) sl
noncomputable def os_ (l : List (Nat × Obj)) : List (Option Obj) := l.map fun y => some y.2
noncomputable def as_ (l : List (Nat × Obj)) : List Nat := l.map (·.1)
/-! S202 -/
noncomputable def posAt : List (Code × Pos) → Pos
  | (_, p) :: _ => p
  | [] => default
/-- what the loop's contracts are: 0 read(1), 1 + j the built-ins' -/
noncomputable def conW (P : Params) (a : Ar) (o : OutA) (x : Lx) (pos τp : Nat) (c : List Nat) (pos' : Nat) : CF
  | 0, _, Γ, .call _ ⟨[_, .int _ τ], _⟩, T, ads => some (conS T ads (ctxOf (.call (.ref 533) ⟨[.ref x.sio, .int 1 τ], []⟩) ((wCode a.L, posAt Γ.below) :: a.W o))
      [(2, x.sio, inst 587 x.e), (3, x.e, sioD P x.sk x.nl (.str ⟨⟨x.buf⟩⟩ x.τb) (.int (.ofNat pos) τp))] True
      (fun ν => .ok (.ret (.str ⟨⟨c⟩⟩ (ν.n 0)))) (fun ν => [(3, sioD P x.sk x.nl (.str ⟨⟨x.buf⟩⟩ x.τb) (.int (.ofNat pos') (ν.n 1)))]) fun _ => [])
  | j + 1, x, Γ, c, T, ads => conB j x Γ c T ads
  | _, _, _, _, _, _ => none
noncomputable def runW (W : World) (a : Ar) (o : OutA) (x : Lx) (pos τp : Nat) (c : List Nat) (pos' : Nat) (fuel : Nat) (hs : List Nat) (l : List (Nat × Obj)) (N t : Nat) (p : Pos) (nv : Nv) : Out :=
  runL (cfgW W (conW W.params a o x pos τp c pos')) fuel (ctxOf (wCode a.L) (a.W o)) p (envRT a.L) false hs l N t nv
theorem t0bc (w : World) (b b2 : Bool) (a : Ar) (o : OutA) (x : Lx) (g : Nat → FrO) (fk : Nat → Nat) (et : Nat) (sl : Array (Option Value)) (τs ln τl τt pos τp pos' : Nat) (nc : List Nat × Nat) (a0 : Nat) (tok : List Nat) (qd : Bool) (c : Nat) (N t : Nat) (p : Pos) (nv : Nv) :
    let W := wld w b b2
    let X := runW W a o x pos τp [c] pos' 424 [5, 1, 0, 0, 0, 0, 1, 0, 0, 0, 0, 0, 0, 0, 0, 0, 0, 0, 0, 0, 0, 0, 10, 10, 0, 1001, 10, 1, 0, 0, 0, 0, 1, 0, 0, 0, 1, 1, 0, 2, 0, 0, 0, 5, 1, 0, 0, 0, 0, 1, 0, 0, 0, 1, 1, 0, 2, 3, 0, 0, 0, 0, 0, 0, 0, 3, 0, 0, 0, 0, 0, 0, 0, 3, 0, 0, 0, 0, 3, 4, 0, 1, 0, 5, 5, 5, 2, 0, 5, 1, 0, 0, 0, 0, 1, 0, 0, 0, 1, 1, 0, 2, 0, 0, 5, 1, 0, 0, 0, 0, 1, 0, 0, 0, 1, 1, 0, 2, 5, 1, 0, 0, 0, 0, 1, 0, 0, 0, 1, 1, 0, 2, 0, 0, 5, 6, 0, 5, 5, 1, 0, 0, 0, 0, 1, 0, 0, 0, 1, 1, 0, 2, 3, 0, 5, 5, 1, 0, 0, 0, 0, 1, 0, 0, 0, 1, 1, 0, 2, 3, 0, 5, 1, 0, 0, 0, 0, 1, 0, 0, 0, 1, 1, 0, 2, 5, 5, 1, 0, 0, 0, 0, 1, 0, 0, 0, 1, 1, 0, 2, 3, 0, 5, 5, 1, 0, 0, 0, 0, 1, 0, 0, 0, 1, 1, 0, 2, 3, 1, 5, 5, 1, 0, 0, 0, 0, 1, 0, 0, 1, 0, 1, 0, 0, 0, 1, 0, 2, 2, 2, 5, 1, 0, 0, 0, 0, 1, 0, 0, 1, 0, 1, 0, 0, 0, 1, 0, 2, 2, 2, 1]
      (lxL W.params a.lex x (stV 32 τs) ln τl ⟨⟨[]⟩⟩ τt pos τp ++ (a.L, frW W.params a.lex fk et sl false none) :: frs a o g) N t p nv
    let l' := lxL W.params a.lex x (stV 97 (vt X 1 11)) ln (vt X 1 13) ⟨⟨[c]⟩⟩ (vt X 1 15) pos' (vt X 3 2) ++ (a.L, frW W.params a.lex (setK fk 3 (ktk X 4 3)) et sl false (some ([c], vt X 4 3))) :: frs a o g
    look [0, 1, 2, 3, 4, 5, 6, 7, 8] X = some (.again (ctxOf (wCode a.L) (a.W o)) (posOf X), os_ l', as_ l', dup (eqsOf X), dupG (gsOf X), dupO (osOf X), (InB wordL c 1 ∧ InB [92] c 0 ∧ InB [] c 0 ∧ InB [32, 9, 13, 10] c 0 ∧ LnB ⟨⟨[c]⟩⟩ ∧ EqB [c] [10] 0 ∧ True ∧ True)) := by
  cases b <;> (intro W X l'; kernel_rfl)
theorem t1aq (w : World) (b b2 : Bool) (a : Ar) (o : OutA) (x : Lx) (g : Nat → FrO) (fk : Nat → Nat) (et : Nat) (sl : Array (Option Value)) (τs ln τl τt pos τp pos' : Nat) (nc : List Nat × Nat) (a0 : Nat) (tok : List Nat) (qd : Bool) (c : Nat) (N t : Nat) (p : Pos) (nv : Nv) :
    let W := wld w b b2
    let X := runW W a o x pos τp [c] pos' 512 [5, 1, 0, 0, 0, 0, 1, 0, 0, 0, 0, 0, 0, 0, 0, 0, 0, 0, 0, 0, 0, 0, 10, 10, 0, 1001, 10, 1, 0, 0, 0, 0, 1, 0, 0, 0, 1, 1, 0, 2, 0, 0, 0, 5, 1, 0, 0, 0, 0, 1, 0, 0, 0, 1, 1, 0, 2, 3, 0, 0, 0, 0, 0, 0, 0, 3, 0, 0, 0, 0, 0, 0, 0, 3, 0, 0, 0, 0, 3, 4, 0, 1, 0, 5, 5, 5, 2, 0, 5, 1, 0, 0, 0, 0, 1, 0, 0, 0, 1, 1, 0, 2, 0, 0, 5, 1, 0, 0, 0, 0, 1, 0, 0, 0, 1, 1, 0, 2, 5, 1, 0, 0, 0, 0, 1, 0, 0, 0, 1, 1, 0, 2, 0, 0, 5, 1, 0, 0, 0, 0, 1, 0, 0, 0, 1, 1, 0, 2, 5, 1, 0, 0, 0, 0, 1, 0, 0, 0, 1, 1, 0, 2, 0, 0, 5, 1, 0, 0, 0, 0, 1, 0, 0, 0, 1, 1, 0, 2, 5, 1, 0, 0, 0, 0, 1, 0, 0, 0, 1, 1, 0, 2, 0, 0, 5, 1, 0, 0, 0, 0, 1, 0, 0, 0, 1, 1, 0, 2, 11, 11, 5, 10, 5, 6, 0, 5, 5, 1, 0, 0, 0, 0, 1, 0, 0, 0, 1, 1, 0, 2, 3, 0, 5, 5, 1, 0, 0, 0, 0, 1, 0, 0, 0, 1, 1, 0, 2, 3, 0, 5, 1, 0, 0, 0, 0, 1, 0, 0, 0, 1, 1, 0, 2, 0, 0, 5, 1, 0, 0, 0, 0, 1, 0, 0, 0, 1, 1, 0, 2, 5, 5, 1, 0, 0, 0, 0, 1, 0, 0, 0, 1, 1, 0, 2, 3, 1, 5, 5, 1, 0, 0, 0, 0, 1, 0, 0, 1, 0, 1, 0, 0, 0, 1, 0, 2, 2, 2, 1]
      (lxL W.params a.lex x (stV 97 τs) ln τl ⟨⟨tok⟩⟩ τt pos τp ++ (a.L, frW W.params a.lex fk et sl qd (some nc)) :: frs a o g) N t p nv
    let l' := lxL W.params a.lex x (.str ⟨⟨[c]⟩⟩ (vt X 1 11)) ln (vt X 1 13) ⟨⟨tok⟩⟩ (vt X 1 15) pos' (vt X 3 2) ++ (a.L, frW W.params a.lex (setK fk 3 (ktk X 4 3)) et sl qd (some ([c], vt X 4 3))) :: frs a o g
    look [0, 1, 2, 3, 4, 5, 6, 7, 8] X = some (.again (ctxOf (wCode a.L) (a.W o)) (posOf X), os_ l', as_ l', dup (eqsOf X), dupG (gsOf X), dupO (osOf X), (InB [39, 34] c 1 ∧ InB [] c 0 ∧ InB [32, 9, 13, 10] c 0 ∧ LnB ⟨⟨[c]⟩⟩ ∧ TupB "tuple" ⟨⟨[97]⟩⟩ ⟨⟨[97]⟩⟩ ∧ EqB [c] [10] 0 ∧ True ∧ True)) := by
  cases b <;> (intro W X l'; kernel_rfl)
theorem t1so (w : World) (b b2 : Bool) (a : Ar) (o : OutA) (x : Lx) (g : Nat → FrO) (fk : Nat → Nat) (et : Nat) (sl : Array (Option Value)) (τs ln τl τt pos τp pos' : Nat) (nc : List Nat × Nat) (a0 : Nat) (tok : List Nat) (qd : Bool) (c : Nat) (N t : Nat) (p : Pos) (nv : Nv) :
    let W := wld w b b2
    let X := runW W a o x pos τp [c] pos' 420 [5, 1, 0, 0, 0, 0, 1, 0, 0, 0, 0, 0, 0, 0, 0, 0, 0, 0, 0, 0, 0, 0, 10, 10, 0, 1001, 10, 1, 0, 0, 0, 0, 1, 0, 0, 0, 1, 1, 0, 2, 0, 0, 0, 5, 1, 0, 0, 0, 0, 1, 0, 0, 0, 1, 1, 0, 2, 3, 0, 0, 0, 0, 0, 0, 0, 3, 0, 0, 0, 0, 0, 0, 0, 3, 0, 0, 0, 0, 3, 4, 0, 1, 0, 5, 5, 5, 2, 0, 5, 1, 0, 0, 0, 0, 1, 0, 0, 0, 1, 1, 0, 2, 0, 0, 5, 1, 0, 0, 0, 0, 1, 0, 0, 0, 1, 1, 0, 2, 5, 1, 0, 0, 0, 0, 1, 0, 0, 0, 1, 1, 0, 2, 0, 0, 5, 1, 0, 0, 0, 0, 1, 0, 0, 0, 1, 1, 0, 2, 5, 1, 0, 0, 0, 0, 1, 0, 0, 0, 1, 1, 0, 2, 0, 0, 5, 5, 5, 6, 0, 5, 5, 1, 0, 0, 0, 0, 1, 0, 0, 0, 1, 1, 0, 2, 2, 0, 5, 1, 0, 0, 0, 0, 1, 0, 0, 0, 1, 1, 0, 2, 5, 5, 1, 0, 0, 0, 0, 1, 0, 0, 0, 1, 1, 0, 2, 3, 0, 5, 1, 0, 0, 0, 0, 1, 0, 0, 0, 1, 1, 0, 2, 5, 4, 0, 1, 0, 0, 0, 0, 1, 0, 0, 1, 0, 1, 0, 0, 0, 1, 0, 2, 2, 2, 1]
      (lxL W.params a.lex x (stV 39 τs) ln τl ⟨⟨tok⟩⟩ τt pos τp ++ (a.L, frW W.params a.lex fk et sl qd (some nc)) :: frs a o g) N t p nv
    let l' := lxL W.params a.lex x (stV 39 (vt X 1 11)) ln (vt X 1 13) (⟨⟨tok⟩⟩ ++ ⟨⟨[c]⟩⟩) (vt X 1 15) pos' (vt X 3 2) ++ (a.L, frW W.params a.lex (setK fk 3 (ktk X 4 3)) et sl true (some ([c], vt X 4 3))) :: frs a o g
    look [0, 1, 2, 3, 4, 5, 6, 7, 8] X = some (.again (ctxOf (wCode a.L) (a.W o)) (posOf X), os_ l', as_ l', dup (eqsOf X), dupG (gsOf X), dupO (osOf X), (LeB ⟨⟨tok⟩⟩ ⟨⟨[c]⟩⟩ ∧ InB [92] c 0 ∧ EqB [c] [39] 0 ∧ LnB ⟨⟨[c]⟩⟩ ∧ EqB [c] [10] 0 ∧ True ∧ True)) := by
  cases b <;> (intro W X l'; kernel_rfl)
theorem t1sz (w : World) (b b2 : Bool) (a : Ar) (o : OutA) (x : Lx) (g : Nat → FrO) (fk : Nat → Nat) (et : Nat) (sl : Array (Option Value)) (τs ln τl τt pos τp pos' : Nat) (nc : List Nat × Nat) (a0 : Nat) (tok : List Nat) (qd : Bool) (c : Nat) (N t : Nat) (p : Pos) (nv : Nv) :
    let W := wld w b b2
    let X := runW W a o x pos τp [c] pos' 376 [5, 1, 0, 0, 0, 0, 1, 0, 0, 0, 0, 0, 0, 0, 0, 0, 0, 0, 0, 0, 0, 0, 10, 10, 0, 1001, 10, 1, 0, 0, 0, 0, 1, 0, 0, 0, 1, 1, 0, 2, 0, 0, 0, 5, 1, 0, 0, 0, 0, 1, 0, 0, 0, 1, 1, 0, 2, 3, 0, 0, 0, 0, 0, 0, 0, 3, 0, 0, 0, 0, 0, 0, 0, 3, 0, 0, 0, 0, 3, 4, 0, 1, 0, 5, 5, 5, 2, 0, 5, 1, 0, 0, 0, 0, 1, 0, 0, 0, 1, 1, 0, 2, 0, 0, 5, 1, 0, 0, 0, 0, 1, 0, 0, 0, 1, 1, 0, 2, 5, 1, 0, 0, 0, 0, 1, 0, 0, 0, 1, 1, 0, 2, 0, 0, 5, 1, 0, 0, 0, 0, 1, 0, 0, 0, 1, 1, 0, 2, 5, 1, 0, 0, 0, 0, 1, 0, 0, 0, 1, 1, 0, 2, 0, 0, 5, 5, 5, 6, 0, 5, 5, 1, 0, 0, 0, 0, 1, 0, 0, 0, 1, 1, 0, 2, 2, 1, 5, 1, 0, 0, 0, 0, 1, 0, 0, 0, 1, 1, 0, 2, 5, 1, 0, 0, 0, 0, 1, 0, 0, 1, 0, 1, 0, 0, 0, 1, 0, 2, 2, 2, 1]
      (lxL W.params a.lex x (stV 39 τs) ln τl ⟨⟨tok⟩⟩ τt pos τp ++ (a.L, frW W.params a.lex fk et sl qd (some nc)) :: frs a o g) N t p nv
    let l' := lxL W.params a.lex x (stV 97 (vt X 1 11)) ln (vt X 1 13) ⟨⟨tok⟩⟩ (vt X 1 15) pos' (vt X 3 2) ++ (a.L, frW W.params a.lex (setK fk 3 (ktk X 4 3)) et sl true (some ([c], vt X 4 3))) :: frs a o g
    look [0, 1, 2, 3, 4, 5, 6, 7, 8] X = some (.again (ctxOf (wCode a.L) (a.W o)) (posOf X), os_ l', as_ l', dup (eqsOf X), dupG (gsOf X), dupO (osOf X), (EqB [c] [39] 1 ∧ LnB ⟨⟨[c]⟩⟩ ∧ EqB [c] [10] 0 ∧ True ∧ True)) := by
  cases b <;> (intro W X l'; kernel_rfl)
theorem t1ac (w : World) (b b2 : Bool) (a : Ar) (o : OutA) (x : Lx) (g : Nat → FrO) (fk : Nat → Nat) (et : Nat) (sl : Array (Option Value)) (τs ln τl τt pos τp pos' : Nat) (nc : List Nat × Nat) (a0 : Nat) (tok : List Nat) (qd : Bool) (c : Nat) (N t : Nat) (p : Pos) (nv : Nv) :
    let W := wld w b b2
    let X := runW W a o x pos τp [c] pos' 600 [5, 1, 0, 0, 0, 0, 1, 0, 0, 0, 0, 0, 0, 0, 0, 0, 0, 0, 0, 0, 0, 0, 10, 10, 0, 1001, 10, 1, 0, 0, 0, 0, 1, 0, 0, 0, 1, 1, 0, 2, 0, 0, 0, 5, 1, 0, 0, 0, 0, 1, 0, 0, 0, 1, 1, 0, 2, 3, 0, 0, 0, 0, 0, 0, 0, 3, 0, 0, 0, 0, 0, 0, 0, 3, 0, 0, 0, 0, 3, 4, 0, 1, 0, 5, 5, 5, 2, 0, 5, 1, 0, 0, 0, 0, 1, 0, 0, 0, 1, 1, 0, 2, 0, 0, 5, 1, 0, 0, 0, 0, 1, 0, 0, 0, 1, 1, 0, 2, 5, 1, 0, 0, 0, 0, 1, 0, 0, 0, 1, 1, 0, 2, 0, 0, 5, 1, 0, 0, 0, 0, 1, 0, 0, 0, 1, 1, 0, 2, 5, 1, 0, 0, 0, 0, 1, 0, 0, 0, 1, 1, 0, 2, 0, 0, 5, 1, 0, 0, 0, 0, 1, 0, 0, 0, 1, 1, 0, 2, 5, 1, 0, 0, 0, 0, 1, 0, 0, 0, 1, 1, 0, 2, 0, 0, 5, 1, 0, 0, 0, 0, 1, 0, 0, 0, 1, 1, 0, 2, 11, 11, 5, 10, 5, 6, 0, 5, 5, 1, 0, 0, 0, 0, 1, 0, 0, 0, 1, 1, 0, 2, 3, 0, 5, 5, 1, 0, 0, 0, 0, 1, 0, 0, 0, 1, 1, 0, 2, 3, 0, 5, 1, 0, 0, 0, 0, 1, 0, 0, 0, 1, 1, 0, 2, 0, 0, 5, 1, 0, 0, 0, 0, 1, 0, 0, 0, 1, 1, 0, 2, 5, 5, 1, 0, 0, 0, 0, 1, 0, 0, 0, 1, 1, 0, 2, 3, 0, 5, 1, 0, 0, 0, 0, 1, 0, 0, 0, 1, 1, 0, 2, 5, 5, 1, 0, 0, 0, 0, 1, 0, 0, 0, 1, 1, 0, 2, 3, 0, 5, 5, 1, 0, 0, 0, 0, 1, 0, 0, 0, 1, 1, 0, 2, 3, 1, 5, 1, 0, 0, 0, 0, 1, 0, 0, 0, 1, 1, 0, 2, 5, 4, 0, 1, 0, 0, 0, 0, 1, 0, 0, 1, 0, 1, 0, 0, 0, 1, 0, 2, 2, 2, 1]
      (lxL W.params a.lex x (stV 97 τs) ln τl ⟨⟨tok⟩⟩ τt pos τp ++ (a.L, frW W.params a.lex fk et sl qd (some nc)) :: frs a o g) N t p nv
    let l' := lxL W.params a.lex x (stV 97 (vt X 1 11)) ln (vt X 1 13) (⟨⟨tok⟩⟩ ++ ⟨⟨[c]⟩⟩) (vt X 1 15) pos' (vt X 3 2) ++ (a.L, frW W.params a.lex (setK fk 3 (ktk X 4 3)) et sl qd (some ([c], vt X 4 3))) :: frs a o g
    look [0, 1, 2, 3, 4, 5, 6, 7, 8] X = some (.again (ctxOf (wCode a.L) (a.W o)) (posOf X), os_ l', as_ l', dup (eqsOf X), dupG (gsOf X), dupO (osOf X), (LeB ⟨⟨tok⟩⟩ ⟨⟨[c]⟩⟩ ∧ InB wordL c 1 ∧ InB [92] c 0 ∧ InB [39, 34] c 0 ∧ InB [] c 0 ∧ InB [32, 9, 13, 10] c 0 ∧ LnB ⟨⟨[c]⟩⟩ ∧ TupB "tuple" ⟨⟨[97]⟩⟩ ⟨⟨[97]⟩⟩ ∧ EqB [c] [10] 0 ∧ True ∧ True)) := by
  cases b <;> (intro W X l'; kernel_rfl)
theorem t1do (w : World) (b b2 : Bool) (a : Ar) (o : OutA) (x : Lx) (g : Nat → FrO) (fk : Nat → Nat) (et : Nat) (sl : Array (Option Value)) (τs ln τl τt pos τp pos' : Nat) (nc : List Nat × Nat) (a0 : Nat) (tok : List Nat) (qd : Bool) (c : Nat) (N t : Nat) (p : Pos) (nv : Nv) :
    let W := wld w b b2
    let X := runW W a o x pos τp [c] pos' 420 [5, 1, 0, 0, 0, 0, 1, 0, 0, 0, 0, 0, 0, 0, 0, 0, 0, 0, 0, 0, 0, 0, 10, 10, 0, 1001, 10, 1, 0, 0, 0, 0, 1, 0, 0, 0, 1, 1, 0, 2, 0, 0, 0, 5, 1, 0, 0, 0, 0, 1, 0, 0, 0, 1, 1, 0, 2, 3, 0, 0, 0, 0, 0, 0, 0, 3, 0, 0, 0, 0, 0, 0, 0, 3, 0, 0, 0, 0, 3, 4, 0, 1, 0, 5, 5, 5, 2, 0, 5, 1, 0, 0, 0, 0, 1, 0, 0, 0, 1, 1, 0, 2, 0, 0, 5, 1, 0, 0, 0, 0, 1, 0, 0, 0, 1, 1, 0, 2, 5, 1, 0, 0, 0, 0, 1, 0, 0, 0, 1, 1, 0, 2, 0, 0, 5, 1, 0, 0, 0, 0, 1, 0, 0, 0, 1, 1, 0, 2, 5, 1, 0, 0, 0, 0, 1, 0, 0, 0, 1, 1, 0, 2, 0, 0, 5, 5, 5, 6, 0, 5, 5, 1, 0, 0, 0, 0, 1, 0, 0, 0, 1, 1, 0, 2, 2, 0, 5, 1, 0, 0, 0, 0, 1, 0, 0, 0, 1, 1, 0, 2, 5, 5, 1, 0, 0, 0, 0, 1, 0, 0, 0, 1, 1, 0, 2, 3, 0, 5, 1, 0, 0, 0, 0, 1, 0, 0, 0, 1, 1, 0, 2, 5, 4, 0, 1, 0, 0, 0, 0, 1, 0, 0, 1, 0, 1, 0, 0, 0, 1, 0, 2, 2, 2, 1]
      (lxL W.params a.lex x (stV 34 τs) ln τl ⟨⟨tok⟩⟩ τt pos τp ++ (a.L, frW W.params a.lex fk et sl qd (some nc)) :: frs a o g) N t p nv
    let l' := lxL W.params a.lex x (stV 34 (vt X 1 11)) ln (vt X 1 13) (⟨⟨tok⟩⟩ ++ ⟨⟨[c]⟩⟩) (vt X 1 15) pos' (vt X 3 2) ++ (a.L, frW W.params a.lex (setK fk 3 (ktk X 4 3)) et sl true (some ([c], vt X 4 3))) :: frs a o g
    look [0, 1, 2, 3, 4, 5, 6, 7, 8] X = some (.again (ctxOf (wCode a.L) (a.W o)) (posOf X), os_ l', as_ l', dup (eqsOf X), dupG (gsOf X), dupO (osOf X), (LeB ⟨⟨tok⟩⟩ ⟨⟨[c]⟩⟩ ∧ InB [92] c 0 ∧ EqB [c] [34] 0 ∧ LnB ⟨⟨[c]⟩⟩ ∧ EqB [c] [10] 0 ∧ True ∧ True)) := by
  cases b <;> (intro W X l'; kernel_rfl)
theorem t1de (w : World) (b b2 : Bool) (a : Ar) (o : OutA) (x : Lx) (g : Nat → FrO) (fk : Nat → Nat) (et : Nat) (sl : Array (Option Value)) (τs ln τl τt pos τp pos' : Nat) (nc : List Nat × Nat) (a0 : Nat) (tok : List Nat) (qd : Bool) (c : Nat) (N t : Nat) (p : Pos) (nv : Nv) :
    let W := wld w b b2
    let X := runW W a o x pos τp [] pos' 373 [5, 1, 0, 0, 0, 0, 1, 0, 0, 0, 0, 0, 0, 0, 0, 0, 0, 0, 0, 0, 0, 0, 10, 10, 0, 1001, 10, 1, 0, 0, 0, 0, 1, 0, 0, 0, 1, 1, 0, 2, 0, 0, 0, 5, 1, 0, 0, 0, 0, 1, 0, 0, 0, 1, 1, 0, 2, 3, 0, 0, 0, 0, 0, 0, 0, 3, 0, 0, 0, 0, 0, 0, 0, 3, 0, 0, 0, 0, 3, 4, 0, 1, 0, 5, 5, 5, 0, 0, 5, 1, 0, 0, 0, 0, 1, 0, 0, 0, 1, 1, 0, 2, 0, 0, 5, 1, 0, 0, 0, 0, 1, 0, 0, 0, 1, 1, 0, 2, 5, 1, 0, 0, 0, 0, 1, 0, 0, 0, 1, 1, 0, 2, 0, 0, 5, 1, 0, 0, 0, 0, 1, 0, 0, 0, 1, 1, 0, 2, 5, 1, 0, 0, 0, 0, 1, 0, 0, 0, 1, 1, 0, 2, 0, 0, 5, 5, 5, 0, 0, 0, 5, 1, 0, 0, 0, 0, 1, 0, 0, 0, 1, 1, 0, 2, 0, 0, 0, 0, 0, 0, 0, 0, 12, 12, 0, 12, 12, 0, 12, 12, 12, 12, 12, 12, 12, 12, 11, 4, 5, 6, 7, 8]
      (lxL W.params a.lex x (stV 34 τs) ln τl ⟨⟨tok⟩⟩ τt pos τp ++ (a.L, frW W.params a.lex fk et sl qd (some nc)) :: frs a o g) N t p nv
    let l' := lxL W.params a.lex x (stV 34 (vt X 1 11)) ln (vt X 1 13) ⟨⟨tok⟩⟩ (vt X 1 15) pos' (vt X 3 2) ++ (a.L, frW W.params a.lex (setK fk 3 (ktk X 4 3)) et (slOf X 4) true (some ([], vt X 4 3))) :: frs a o (fun i => ⟨(g i).es, (g i).n, slOf X (5 + i)⟩) ++ [(adAt X 11, excO "ValueError" (adAt X 12) (adAt X 13) (slOf X 11)), (adAt X 13, entryO .none a.L (.int (.ofNat a.L) 0) (tlOf X 13))]
    look [0, 1, 2, 3, 4, 5, 6, 7, 8, 11, 13] X = some (.done (.error (.ref (adAt X 11))), os_ l', as_ l', dup (eqsOf X), dupG (gsOf X), dupO (osOf X), (True ∧ True)) := by
  cases b <;> (intro W X l'; kernel_rfl)
theorem t1dz (w : World) (b b2 : Bool) (a : Ar) (o : OutA) (x : Lx) (g : Nat → FrO) (fk : Nat → Nat) (et : Nat) (sl : Array (Option Value)) (τs ln τl τt pos τp pos' : Nat) (nc : List Nat × Nat) (a0 : Nat) (tok : List Nat) (qd : Bool) (c : Nat) (N t : Nat) (p : Pos) (nv : Nv) :
    let W := wld w b b2
    let X := runW W a o x pos τp [c] pos' 376 [5, 1, 0, 0, 0, 0, 1, 0, 0, 0, 0, 0, 0, 0, 0, 0, 0, 0, 0, 0, 0, 0, 10, 10, 0, 1001, 10, 1, 0, 0, 0, 0, 1, 0, 0, 0, 1, 1, 0, 2, 0, 0, 0, 5, 1, 0, 0, 0, 0, 1, 0, 0, 0, 1, 1, 0, 2, 3, 0, 0, 0, 0, 0, 0, 0, 3, 0, 0, 0, 0, 0, 0, 0, 3, 0, 0, 0, 0, 3, 4, 0, 1, 0, 5, 5, 5, 2, 0, 5, 1, 0, 0, 0, 0, 1, 0, 0, 0, 1, 1, 0, 2, 0, 0, 5, 1, 0, 0, 0, 0, 1, 0, 0, 0, 1, 1, 0, 2, 5, 1, 0, 0, 0, 0, 1, 0, 0, 0, 1, 1, 0, 2, 0, 0, 5, 1, 0, 0, 0, 0, 1, 0, 0, 0, 1, 1, 0, 2, 5, 1, 0, 0, 0, 0, 1, 0, 0, 0, 1, 1, 0, 2, 0, 0, 5, 5, 5, 6, 0, 5, 5, 1, 0, 0, 0, 0, 1, 0, 0, 0, 1, 1, 0, 2, 2, 1, 5, 1, 0, 0, 0, 0, 1, 0, 0, 0, 1, 1, 0, 2, 5, 1, 0, 0, 0, 0, 1, 0, 0, 1, 0, 1, 0, 0, 0, 1, 0, 2, 2, 2, 1]
      (lxL W.params a.lex x (stV 34 τs) ln τl ⟨⟨tok⟩⟩ τt pos τp ++ (a.L, frW W.params a.lex fk et sl qd (some nc)) :: frs a o g) N t p nv
    let l' := lxL W.params a.lex x (stV 97 (vt X 1 11)) ln (vt X 1 13) ⟨⟨tok⟩⟩ (vt X 1 15) pos' (vt X 3 2) ++ (a.L, frW W.params a.lex (setK fk 3 (ktk X 4 3)) et sl true (some ([c], vt X 4 3))) :: frs a o g
    look [0, 1, 2, 3, 4, 5, 6, 7, 8] X = some (.again (ctxOf (wCode a.L) (a.W o)) (posOf X), os_ l', as_ l', dup (eqsOf X), dupG (gsOf X), dupO (osOf X), (EqB [c] [34] 1 ∧ LnB ⟨⟨[c]⟩⟩ ∧ EqB [c] [10] 0 ∧ True ∧ True)) := by
  cases b <;> (intro W X l'; kernel_rfl)
theorem t1ae (w : World) (b b2 : Bool) (a : Ar) (o : OutA) (x : Lx) (g : Nat → FrO) (fk : Nat → Nat) (et : Nat) (sl : Array (Option Value)) (τs ln τl τt pos τp pos' : Nat) (nc : List Nat × Nat) (a0 : Nat) (tok : List Nat) (qd : Bool) (c : Nat) (N t : Nat) (p : Pos) (nv : Nv) :
    let W := wld w b b2
    let X := runW W a o x pos τp [] pos' 402 [5, 1, 0, 0, 0, 0, 1, 0, 0, 0, 0, 0, 0, 0, 0, 0, 0, 0, 0, 0, 0, 0, 10, 10, 0, 1001, 10, 1, 0, 0, 0, 0, 1, 0, 0, 0, 1, 1, 0, 2, 0, 0, 0, 5, 1, 0, 0, 0, 0, 1, 0, 0, 0, 1, 1, 0, 2, 3, 0, 0, 0, 0, 0, 0, 0, 3, 0, 0, 0, 0, 0, 0, 0, 3, 0, 0, 0, 0, 3, 4, 0, 1, 0, 5, 5, 5, 0, 0, 5, 1, 0, 0, 0, 0, 1, 0, 0, 0, 1, 1, 0, 2, 0, 0, 5, 1, 0, 0, 0, 0, 1, 0, 0, 0, 1, 1, 0, 2, 5, 1, 0, 0, 0, 0, 1, 0, 0, 0, 1, 1, 0, 2, 0, 0, 5, 1, 0, 0, 0, 0, 1, 0, 0, 0, 1, 1, 0, 2, 5, 1, 0, 0, 0, 0, 1, 0, 0, 0, 1, 1, 0, 2, 0, 0, 5, 1, 0, 0, 0, 0, 1, 0, 0, 0, 1, 1, 0, 2, 5, 1, 0, 0, 0, 0, 1, 0, 0, 0, 1, 1, 0, 2, 0, 0, 5, 1, 0, 0, 0, 0, 1, 0, 0, 0, 1, 1, 0, 2, 11, 11, 5, 10, 5, 0, 0, 0, 5, 1, 0, 0, 0, 0, 1, 0, 0, 1, 0, 1, 0, 0, 0, 1, 0, 2, 2, 2]
      (lxL W.params a.lex x (stV 97 τs) ln τl ⟨⟨tok⟩⟩ τt pos τp ++ (a.L, frW W.params a.lex fk et sl qd (some nc)) :: frs a o g) N t p nv
    let l' := lxL W.params a.lex x (stV 0 (vt X 1 11)) ln (vt X 1 13) ⟨⟨tok⟩⟩ (vt X 1 15) pos' (vt X 3 2) ++ (a.L, frW W.params a.lex (setK fk 3 (ktk X 4 3)) et sl qd (some ([], vt X 4 3))) :: frs a o g
    look [0, 1, 2, 3, 4, 5, 6, 7, 8] X = some (.done (.ok .next), os_ l', as_ l', dup (eqsOf X), dupG (gsOf X), dupO (osOf X), (TupB "tuple" ⟨⟨[97]⟩⟩ ⟨⟨[97]⟩⟩ ∧ True ∧ True)) := by
  cases b <;> (intro W X l'; kernel_rfl)
theorem t0nx (w : World) (b b2 : Bool) (a : Ar) (o : OutA) (x : Lx) (g : Nat → FrO) (fk : Nat → Nat) (et : Nat) (sl : Array (Option Value)) (τs ln τl τt pos τp pos' : Nat) (nc : List Nat × Nat) (a0 : Nat) (tok : List Nat) (qd : Bool) (c : Nat) (N t : Nat) (p : Pos) (nv : Nv) :
    let W := wld w b b2
    let X := runW W a o x pos τp [] pos' 251 [5, 1, 0, 0, 0, 0, 1, 0, 0, 0, 0, 0, 0, 0, 0, 0, 0, 0, 0, 0, 0, 0, 10, 10, 0, 1001, 10, 1, 0, 0, 0, 0, 1, 0, 0, 0, 1, 1, 0, 2, 0, 0, 0, 5, 1, 0, 0, 0, 0, 1, 0, 0, 0, 1, 1, 0, 2, 3, 0, 0, 0, 0, 0, 0, 0, 3, 0, 0, 0, 0, 0, 0, 0, 3, 0, 0, 0, 0, 3, 4, 0, 1, 0, 5, 5, 5, 0, 0, 5, 1, 0, 0, 0, 0, 1, 0, 0, 0, 1, 1, 0, 2, 0, 0, 5, 1, 0, 0, 0, 0, 1, 0, 0, 0, 1, 1, 0, 2, 5, 1, 0, 0, 0, 0, 1, 0, 0, 1, 0, 1, 0, 0, 0, 1, 0, 2, 2, 2]
      (lxL W.params a.lex x (stV 0 τs) ln τl ⟨⟨[]⟩⟩ τt pos τp ++ (a.L, frW W.params a.lex fk et sl false none) :: frs a o g) N t p nv
    let l' := lxL W.params a.lex x (stV 0 (vt X 1 11)) ln (vt X 1 13) ⟨⟨[]⟩⟩ (vt X 1 15) pos' (vt X 3 2) ++ (a.L, frW W.params a.lex (setK fk 3 (ktk X 4 3)) et sl false (some ([], vt X 4 3))) :: frs a o g
    look [0, 1, 2, 3, 4, 5, 6, 7, 8] X = some (.done (.ok .next), os_ l', as_ l', dup (eqsOf X), dupG (gsOf X), dupO (osOf X), (True ∧ True)) := by
  cases b <;> (intro W X l'; kernel_rfl)
theorem t0bq (w : World) (b b2 : Bool) (a : Ar) (o : OutA) (x : Lx) (g : Nat → FrO) (fk : Nat → Nat) (et : Nat) (sl : Array (Option Value)) (τs ln τl τt pos τp pos' : Nat) (nc : List Nat × Nat) (a0 : Nat) (tok : List Nat) (qd : Bool) (c : Nat) (N t : Nat) (p : Pos) (nv : Nv) :
    let W := wld w b b2
    let X := runW W a o x pos τp [c] pos' 503 [5, 1, 0, 0, 0, 0, 1, 0, 0, 0, 0, 0, 0, 0, 0, 0, 0, 0, 0, 0, 0, 0, 10, 10, 0, 1001, 10, 1, 0, 0, 0, 0, 1, 0, 0, 0, 1, 1, 0, 2, 0, 0, 0, 5, 1, 0, 0, 0, 0, 1, 0, 0, 0, 1, 1, 0, 2, 3, 0, 0, 0, 0, 0, 0, 0, 3, 0, 0, 0, 0, 0, 0, 0, 3, 0, 0, 0, 0, 3, 4, 0, 1, 0, 5, 5, 5, 2, 0, 5, 1, 0, 0, 0, 0, 1, 0, 0, 0, 1, 1, 0, 2, 0, 0, 5, 1, 0, 0, 0, 0, 1, 0, 0, 0, 1, 1, 0, 2, 5, 1, 0, 0, 0, 0, 1, 0, 0, 0, 1, 1, 0, 2, 0, 0, 5, 6, 0, 5, 5, 1, 0, 0, 0, 0, 1, 0, 0, 0, 1, 1, 0, 2, 3, 0, 5, 5, 1, 0, 0, 0, 0, 1, 0, 0, 0, 1, 1, 0, 2, 3, 0, 5, 1, 0, 0, 0, 0, 1, 0, 0, 0, 1, 1, 0, 2, 5, 5, 1, 0, 0, 0, 0, 1, 0, 0, 0, 1, 1, 0, 2, 3, 0, 5, 5, 1, 0, 0, 0, 0, 1, 0, 0, 0, 1, 1, 0, 2, 3, 0, 5, 5, 1, 0, 0, 0, 0, 1, 0, 0, 0, 0, 0, 0, 0, 0, 0, 0, 0, 0, 0, 0, 0, 11, 11, 0, 1001, 11, 1, 0, 0, 0, 0, 1, 0, 0, 0, 1, 1, 0, 2, 3, 0, 5, 5, 1, 0, 0, 0, 0, 1, 0, 0, 0, 1, 1, 0, 2, 3, 1, 5, 1, 0, 0, 0, 0, 1, 0, 0, 0, 1, 1, 0, 2, 5, 5, 1, 0, 0, 0, 0, 1, 0, 0, 1, 0, 1, 0, 0, 0, 1, 0, 2, 2, 2, 1]
      (lxL W.params a.lex x (stV 32 τs) ln τl ⟨⟨[]⟩⟩ τt pos τp ++ (a.L, frW W.params a.lex fk et sl false none) :: frs a o g) N t p nv
    let l' := lxL W.params a.lex x (.str ⟨⟨[c]⟩⟩ (vt X 1 11)) ln (vt X 1 13) ⟨⟨[]⟩⟩ (vt X 1 15) pos' (vt X 3 2) ++ (a.L, frW W.params a.lex (setK fk 3 (ktk X 4 3)) et sl false (some ([c], vt X 4 3))) :: frs a o g
    look [0, 1, 2, 3, 4, 5, 6, 7, 8] X = some (.again (ctxOf (wCode a.L) (a.W o)) (posOf X), os_ l', as_ l', dup (eqsOf X), dupG (gsOf X), dupO (osOf X), (InB [39, 34] c 1 ∧ InB [] c 0 ∧ InB wordL c 0 ∧ InB [92] c 0 ∧ InB [] c 0 ∧ InB [32, 9, 13, 10] c 0 ∧ LnB ⟨⟨[c]⟩⟩ ∧ EqB [c] [10] 0 ∧ True ∧ True)) := by
  cases b <;> (intro W X l'; kernel_rfl)
theorem t1awn (w : World) (b b2 : Bool) (a : Ar) (o : OutA) (x : Lx) (g : Nat → FrO) (fk : Nat → Nat) (et : Nat) (sl : Array (Option Value)) (τs ln τl τt pos τp pos' : Nat) (nc : List Nat × Nat) (a0 : Nat) (tok : List Nat) (qd : Bool) (c : Nat) (N t : Nat) (p : Pos) (nv : Nv) :
    let W := wld w b b2
    let X := runW W a o x pos τp [c] pos' 466 [5, 1, 0, 0, 0, 0, 1, 0, 0, 0, 0, 0, 0, 0, 0, 0, 0, 0, 0, 0, 0, 0, 10, 10, 0, 1001, 10, 1, 0, 0, 0, 0, 1, 0, 0, 0, 1, 1, 0, 2, 0, 0, 0, 5, 1, 0, 0, 0, 0, 1, 0, 0, 0, 1, 1, 0, 2, 3, 0, 0, 0, 0, 0, 0, 0, 3, 0, 0, 0, 0, 0, 0, 0, 3, 0, 0, 0, 0, 3, 4, 0, 1, 0, 5, 5, 5, 2, 0, 5, 1, 0, 0, 0, 0, 1, 0, 0, 0, 1, 1, 0, 2, 0, 0, 5, 1, 0, 0, 0, 0, 1, 0, 0, 0, 1, 1, 0, 2, 5, 1, 0, 0, 0, 0, 1, 0, 0, 0, 1, 1, 0, 2, 0, 0, 5, 1, 0, 0, 0, 0, 1, 0, 0, 0, 1, 1, 0, 2, 5, 1, 0, 0, 0, 0, 1, 0, 0, 0, 1, 1, 0, 2, 0, 0, 5, 1, 0, 0, 0, 0, 1, 0, 0, 0, 1, 1, 0, 2, 5, 1, 0, 0, 0, 0, 1, 0, 0, 0, 1, 1, 0, 2, 0, 0, 5, 1, 0, 0, 0, 0, 1, 0, 0, 0, 1, 1, 0, 2, 11, 11, 5, 10, 5, 6, 0, 5, 5, 1, 0, 0, 0, 0, 1, 0, 0, 0, 1, 1, 0, 2, 3, 1, 5, 1, 0, 0, 0, 0, 1, 0, 0, 0, 1, 1, 0, 2, 0, 0, 5, 1, 0, 0, 0, 0, 1, 0, 0, 1, 0, 1, 0, 0, 0, 1, 0, 2, 2, 2, 5, 1, 0, 0, 0, 0, 1, 0, 0, 0, 1, 1, 0, 2, 6, 0]
      (lxL W.params a.lex x (stV 97 τs) ln τl ⟨⟨(a0 :: tok)⟩⟩ τt pos τp ++ (a.L, frW W.params a.lex fk et sl qd (some nc)) :: frs a o g) N t p nv
    let l' := lxL W.params a.lex x (stV 32 (vt X 1 11)) ln (vt X 1 13) ⟨⟨(a0 :: tok)⟩⟩ (vt X 1 15) pos' (vt X 3 2) ++ (a.L, frW W.params a.lex (setK fk 3 (ktk X 4 3)) et sl qd (some ([c], vt X 4 3))) :: frs a o g
    look [0, 1, 2, 3, 4, 5, 6, 7, 8] X = some (.done (.ok .next), os_ l', as_ l', dup (eqsOf X), dupG (gsOf X), dupO (osOf X), (LnB ⟨⟨a0 :: tok⟩⟩ ∧ InB [32, 9, 13, 10] c 1 ∧ LnB ⟨⟨[c]⟩⟩ ∧ TupB "tuple" ⟨⟨[97]⟩⟩ ⟨⟨[97]⟩⟩ ∧ EqB [c] [10] 0 ∧ True ∧ True)) := by
  cases b <;> (intro W X l'; kernel_rfl)
theorem t0bw (w : World) (b b2 : Bool) (a : Ar) (o : OutA) (x : Lx) (g : Nat → FrO) (fk : Nat → Nat) (et : Nat) (sl : Array (Option Value)) (τs ln τl τt pos τp pos' : Nat) (nc : List Nat × Nat) (a0 : Nat) (tok : List Nat) (qd : Bool) (c : Nat) (N t : Nat) (p : Pos) (nv : Nv) :
    let W := wld w b b2
    let X := runW W a o x pos τp [c] pos' 354 [5, 1, 0, 0, 0, 0, 1, 0, 0, 0, 0, 0, 0, 0, 0, 0, 0, 0, 0, 0, 0, 0, 10, 10, 0, 1001, 10, 1, 0, 0, 0, 0, 1, 0, 0, 0, 1, 1, 0, 2, 0, 0, 0, 5, 1, 0, 0, 0, 0, 1, 0, 0, 0, 1, 1, 0, 2, 3, 0, 0, 0, 0, 0, 0, 0, 3, 0, 0, 0, 0, 0, 0, 0, 3, 0, 0, 0, 0, 3, 4, 0, 1, 0, 5, 5, 5, 2, 0, 5, 1, 0, 0, 0, 0, 1, 0, 0, 0, 1, 1, 0, 2, 0, 0, 5, 1, 0, 0, 0, 0, 1, 0, 0, 0, 1, 1, 0, 2, 5, 1, 0, 0, 0, 0, 1, 0, 0, 0, 1, 1, 0, 2, 0, 0, 5, 6, 0, 5, 5, 1, 0, 0, 0, 0, 1, 0, 0, 0, 1, 1, 0, 2, 3, 1, 5, 1, 0, 0, 0, 0, 1, 0, 0, 0, 1, 1, 0, 2, 0, 0, 5, 1, 0, 0, 0, 0, 1, 0, 0, 0, 1, 1, 0, 2, 0, 0, 0, 5, 1, 0, 0, 0, 0, 1, 0, 0, 0, 1, 1, 0, 2, 5, 1]
      (lxL W.params a.lex x (stV 32 τs) ln τl ⟨⟨[]⟩⟩ τt pos τp ++ (a.L, frW W.params a.lex fk et sl false none) :: frs a o g) N t p nv
    let l' := lxL W.params a.lex x (stV 32 (vt X 1 11)) ln (vt X 1 13) ⟨⟨[]⟩⟩ (vt X 1 15) pos' (vt X 3 2) ++ (a.L, frW W.params a.lex (setK fk 3 (ktk X 4 3)) et sl false (some ([c], vt X 4 3))) :: frs a o g
    look [0, 1, 2, 3, 4, 5, 6, 7, 8] X = some (.again (ctxOf (wCode a.L) (a.W o)) (posOf X), os_ l', as_ l', dup (eqsOf X), dupG (gsOf X), dupO (osOf X), (InB [32, 9, 13, 10] c 1 ∧ LnB ⟨⟨[c]⟩⟩ ∧ EqB [c] [10] 0 ∧ True ∧ True)) := by
  cases b <;> (intro W X l'; kernel_rfl)
theorem t1bq (w : World) (b b2 : Bool) (a : Ar) (o : OutA) (x : Lx) (g : Nat → FrO) (fk : Nat → Nat) (et : Nat) (sl : Array (Option Value)) (τs ln τl τt pos τp pos' : Nat) (nc : List Nat × Nat) (a0 : Nat) (tok : List Nat) (qd : Bool) (c : Nat) (N t : Nat) (p : Pos) (nv : Nv) :
    let W := wld w b b2
    let X := runW W a o x pos τp [c] pos' 503 [5, 1, 0, 0, 0, 0, 1, 0, 0, 0, 0, 0, 0, 0, 0, 0, 0, 0, 0, 0, 0, 0, 10, 10, 0, 1001, 10, 1, 0, 0, 0, 0, 1, 0, 0, 0, 1, 1, 0, 2, 0, 0, 0, 5, 1, 0, 0, 0, 0, 1, 0, 0, 0, 1, 1, 0, 2, 3, 0, 0, 0, 0, 0, 0, 0, 3, 0, 0, 0, 0, 0, 0, 0, 3, 0, 0, 0, 0, 3, 4, 0, 1, 0, 5, 5, 5, 2, 0, 5, 1, 0, 0, 0, 0, 1, 0, 0, 0, 1, 1, 0, 2, 0, 0, 5, 1, 0, 0, 0, 0, 1, 0, 0, 0, 1, 1, 0, 2, 5, 1, 0, 0, 0, 0, 1, 0, 0, 0, 1, 1, 0, 2, 0, 0, 5, 6, 0, 5, 5, 1, 0, 0, 0, 0, 1, 0, 0, 0, 1, 1, 0, 2, 3, 0, 5, 5, 1, 0, 0, 0, 0, 1, 0, 0, 0, 1, 1, 0, 2, 3, 0, 5, 1, 0, 0, 0, 0, 1, 0, 0, 0, 1, 1, 0, 2, 5, 5, 1, 0, 0, 0, 0, 1, 0, 0, 0, 1, 1, 0, 2, 3, 0, 5, 5, 1, 0, 0, 0, 0, 1, 0, 0, 0, 1, 1, 0, 2, 3, 0, 5, 5, 1, 0, 0, 0, 0, 1, 0, 0, 0, 0, 0, 0, 0, 0, 0, 0, 0, 0, 0, 0, 0, 11, 11, 0, 1001, 11, 1, 0, 0, 0, 0, 1, 0, 0, 0, 1, 1, 0, 2, 3, 0, 5, 5, 1, 0, 0, 0, 0, 1, 0, 0, 0, 1, 1, 0, 2, 3, 1, 5, 1, 0, 0, 0, 0, 1, 0, 0, 0, 1, 1, 0, 2, 5, 5, 1, 0, 0, 0, 0, 1, 0, 0, 1, 0, 1, 0, 0, 0, 1, 0, 2, 2, 2, 1]
      (lxL W.params a.lex x (stV 32 τs) ln τl ⟨⟨[]⟩⟩ τt pos τp ++ (a.L, frW W.params a.lex fk et sl false (some nc)) :: frs a o g) N t p nv
    let l' := lxL W.params a.lex x (.str ⟨⟨[c]⟩⟩ (vt X 1 11)) ln (vt X 1 13) ⟨⟨[]⟩⟩ (vt X 1 15) pos' (vt X 3 2) ++ (a.L, frW W.params a.lex (setK fk 3 (ktk X 4 3)) et sl false (some ([c], vt X 4 3))) :: frs a o g
    look [0, 1, 2, 3, 4, 5, 6, 7, 8] X = some (.again (ctxOf (wCode a.L) (a.W o)) (posOf X), os_ l', as_ l', dup (eqsOf X), dupG (gsOf X), dupO (osOf X), (InB [39, 34] c 1 ∧ InB [] c 0 ∧ InB wordL c 0 ∧ InB [92] c 0 ∧ InB [] c 0 ∧ InB [32, 9, 13, 10] c 0 ∧ LnB ⟨⟨[c]⟩⟩ ∧ EqB [c] [10] 0 ∧ True ∧ True)) := by
  cases b <;> (intro W X l'; kernel_rfl)
theorem t0bo (w : World) (b b2 : Bool) (a : Ar) (o : OutA) (x : Lx) (g : Nat → FrO) (fk : Nat → Nat) (et : Nat) (sl : Array (Option Value)) (τs ln τl τt pos τp pos' : Nat) (nc : List Nat × Nat) (a0 : Nat) (tok : List Nat) (qd : Bool) (c : Nat) (N t : Nat) (p : Pos) (nv : Nv) :
    let W := wld w b b2
    let X := runW W a o x pos τp [c] pos' 531 [5, 1, 0, 0, 0, 0, 1, 0, 0, 0, 0, 0, 0, 0, 0, 0, 0, 0, 0, 0, 0, 0, 10, 10, 0, 1001, 10, 1, 0, 0, 0, 0, 1, 0, 0, 0, 1, 1, 0, 2, 0, 0, 0, 5, 1, 0, 0, 0, 0, 1, 0, 0, 0, 1, 1, 0, 2, 3, 0, 0, 0, 0, 0, 0, 0, 3, 0, 0, 0, 0, 0, 0, 0, 3, 0, 0, 0, 0, 3, 4, 0, 1, 0, 5, 5, 5, 2, 0, 5, 1, 0, 0, 0, 0, 1, 0, 0, 0, 1, 1, 0, 2, 0, 0, 5, 1, 0, 0, 0, 0, 1, 0, 0, 0, 1, 1, 0, 2, 5, 1, 0, 0, 0, 0, 1, 0, 0, 0, 1, 1, 0, 2, 0, 0, 5, 6, 0, 5, 5, 1, 0, 0, 0, 0, 1, 0, 0, 0, 1, 1, 0, 2, 3, 0, 5, 5, 1, 0, 0, 0, 0, 1, 0, 0, 0, 1, 1, 0, 2, 3, 0, 5, 1, 0, 0, 0, 0, 1, 0, 0, 0, 1, 1, 0, 2, 5, 5, 1, 0, 0, 0, 0, 1, 0, 0, 0, 1, 1, 0, 2, 3, 0, 5, 5, 1, 0, 0, 0, 0, 1, 0, 0, 0, 1, 1, 0, 2, 3, 0, 5, 5, 1, 0, 0, 0, 0, 1, 0, 0, 0, 0, 0, 0, 0, 0, 0, 0, 0, 0, 0, 0, 0, 11, 11, 0, 1001, 11, 1, 0, 0, 0, 0, 1, 0, 0, 0, 1, 1, 0, 2, 3, 0, 5, 5, 1, 0, 0, 0, 0, 1, 0, 0, 0, 1, 1, 0, 2, 3, 0, 5, 1, 0, 0, 0, 0, 1, 0, 0, 0, 1, 1, 0, 2, 5, 5, 1, 0, 0, 0, 0, 1, 0, 0, 1, 0, 1, 0, 0, 0, 1, 0, 2, 2, 2, 5, 1, 0, 0, 0, 0, 1, 0, 0, 1, 0, 1, 0, 0, 0, 1, 0, 2, 2, 2, 1]
      (lxL W.params a.lex x (stV 32 τs) ln τl ⟨⟨[]⟩⟩ τt pos τp ++ (a.L, frW W.params a.lex fk et sl false none) :: frs a o g) N t p nv
    let l' := lxL W.params a.lex x (stV 97 (vt X 1 11)) ln (vt X 1 13) ⟨⟨[c]⟩⟩ (vt X 1 15) pos' (vt X 3 2) ++ (a.L, frW W.params a.lex (setK fk 3 (ktk X 4 3)) et sl false (some ([c], vt X 4 3))) :: frs a o g
    look [0, 1, 2, 3, 4, 5, 6, 7, 8] X = some (.again (ctxOf (wCode a.L) (a.W o)) (posOf X), os_ l', as_ l', dup (eqsOf X), dupG (gsOf X), dupO (osOf X), (InB [39, 34] c 0 ∧ InB [] c 0 ∧ InB wordL c 0 ∧ InB [92] c 0 ∧ InB [] c 0 ∧ InB [32, 9, 13, 10] c 0 ∧ LnB ⟨⟨[c]⟩⟩ ∧ EqB [c] [10] 0 ∧ True ∧ True)) := by
  cases b <;> (intro W X l'; kernel_rfl)
theorem t1se (w : World) (b b2 : Bool) (a : Ar) (o : OutA) (x : Lx) (g : Nat → FrO) (fk : Nat → Nat) (et : Nat) (sl : Array (Option Value)) (τs ln τl τt pos τp pos' : Nat) (nc : List Nat × Nat) (a0 : Nat) (tok : List Nat) (qd : Bool) (c : Nat) (N t : Nat) (p : Pos) (nv : Nv) :
    let W := wld w b b2
    let X := runW W a o x pos τp [] pos' 373 [5, 1, 0, 0, 0, 0, 1, 0, 0, 0, 0, 0, 0, 0, 0, 0, 0, 0, 0, 0, 0, 0, 10, 10, 0, 1001, 10, 1, 0, 0, 0, 0, 1, 0, 0, 0, 1, 1, 0, 2, 0, 0, 0, 5, 1, 0, 0, 0, 0, 1, 0, 0, 0, 1, 1, 0, 2, 3, 0, 0, 0, 0, 0, 0, 0, 3, 0, 0, 0, 0, 0, 0, 0, 3, 0, 0, 0, 0, 3, 4, 0, 1, 0, 5, 5, 5, 0, 0, 5, 1, 0, 0, 0, 0, 1, 0, 0, 0, 1, 1, 0, 2, 0, 0, 5, 1, 0, 0, 0, 0, 1, 0, 0, 0, 1, 1, 0, 2, 5, 1, 0, 0, 0, 0, 1, 0, 0, 0, 1, 1, 0, 2, 0, 0, 5, 1, 0, 0, 0, 0, 1, 0, 0, 0, 1, 1, 0, 2, 5, 1, 0, 0, 0, 0, 1, 0, 0, 0, 1, 1, 0, 2, 0, 0, 5, 5, 5, 0, 0, 0, 5, 1, 0, 0, 0, 0, 1, 0, 0, 0, 1, 1, 0, 2, 0, 0, 0, 0, 0, 0, 0, 0, 12, 12, 0, 12, 12, 0, 12, 12, 12, 12, 12, 12, 12, 12, 11, 4, 5, 6, 7, 8]
      (lxL W.params a.lex x (stV 39 τs) ln τl ⟨⟨tok⟩⟩ τt pos τp ++ (a.L, frW W.params a.lex fk et sl qd (some nc)) :: frs a o g) N t p nv
    let l' := lxL W.params a.lex x (stV 39 (vt X 1 11)) ln (vt X 1 13) ⟨⟨tok⟩⟩ (vt X 1 15) pos' (vt X 3 2) ++ (a.L, frW W.params a.lex (setK fk 3 (ktk X 4 3)) et (slOf X 4) true (some ([], vt X 4 3))) :: frs a o (fun i => ⟨(g i).es, (g i).n, slOf X (5 + i)⟩) ++ [(adAt X 11, excO "ValueError" (adAt X 12) (adAt X 13) (slOf X 11)), (adAt X 13, entryO .none a.L (.int (.ofNat a.L) 0) (tlOf X 13))]
    look [0, 1, 2, 3, 4, 5, 6, 7, 8, 11, 13] X = some (.done (.error (.ref (adAt X 11))), os_ l', as_ l', dup (eqsOf X), dupG (gsOf X), dupO (osOf X), (True ∧ True)) := by
  cases b <;> (intro W X l'; kernel_rfl)
theorem t1sl (w : World) (b b2 : Bool) (a : Ar) (o : OutA) (x : Lx) (g : Nat → FrO) (fk : Nat → Nat) (et : Nat) (sl : Array (Option Value)) (τs ln τl τt pos τp pos' : Nat) (nc : List Nat × Nat) (a0 : Nat) (tok : List Nat) (qd : Bool) (c : Nat) (N t : Nat) (p : Pos) (nv : Nv) :
    let W := wld w b b2
    let X := runW W a o x pos τp [c] pos' 470 [5, 1, 0, 0, 0, 0, 1, 0, 0, 0, 0, 0, 0, 0, 0, 0, 0, 0, 0, 0, 0, 0, 10, 10, 0, 1001, 10, 1, 0, 0, 0, 0, 1, 0, 0, 0, 1, 1, 0, 2, 0, 0, 0, 5, 1, 0, 0, 0, 0, 1, 0, 0, 0, 1, 1, 0, 2, 3, 0, 0, 0, 0, 0, 0, 0, 3, 0, 0, 0, 0, 0, 0, 0, 3, 0, 0, 0, 0, 3, 4, 0, 1, 0, 5, 5, 5, 2, 1, 5, 1, 0, 0, 0, 0, 1, 0, 0, 0, 1, 1, 0, 2, 0, 0, 1, 0, 0, 0, 0, 1, 0, 0, 1, 0, 1, 0, 0, 0, 1, 0, 2, 2, 2, 5, 1, 0, 0, 0, 0, 1, 0, 0, 0, 1, 1, 0, 2, 0, 0, 5, 1, 0, 0, 0, 0, 1, 0, 0, 0, 1, 1, 0, 2, 5, 1, 0, 0, 0, 0, 1, 0, 0, 0, 1, 1, 0, 2, 0, 0, 5, 1, 0, 0, 0, 0, 1, 0, 0, 0, 1, 1, 0, 2, 5, 1, 0, 0, 0, 0, 1, 0, 0, 0, 1, 1, 0, 2, 0, 0, 5, 5, 5, 6, 0, 5, 5, 1, 0, 0, 0, 0, 1, 0, 0, 0, 1, 1, 0, 2, 2, 0, 5, 1, 0, 0, 0, 0, 1, 0, 0, 0, 1, 1, 0, 2, 5, 5, 1, 0, 0, 0, 0, 1, 0, 0, 0, 1, 1, 0, 2, 3, 0, 5, 1, 0, 0, 0, 0, 1, 0, 0, 0, 1, 1, 0, 2, 5, 4, 0, 1, 0, 0, 0, 0, 1, 0, 0, 1, 0, 1, 0, 0, 0, 1, 0, 2, 2, 2, 1]
      (lxL W.params a.lex x (stV 39 τs) ln τl ⟨⟨tok⟩⟩ τt pos τp ++ (a.L, frW W.params a.lex fk et sl qd (some nc)) :: frs a o g) N t p nv
    let l' := lxL W.params a.lex x (stV 39 (vt X 1 11)) (ln + 1) (vt X 1 13) (⟨⟨tok⟩⟩ ++ ⟨⟨[c]⟩⟩) (vt X 1 15) pos' (vt X 3 2) ++ (a.L, frW W.params a.lex (setK fk 3 (ktk X 4 3)) et sl true (some ([c], vt X 4 3))) :: frs a o g
    look [0, 1, 2, 3, 4, 5, 6, 7, 8] X = some (.again (ctxOf (wCode a.L) (a.W o)) (posOf X), os_ l', as_ l', dup (eqsOf X), dupG (gsOf X), dupO (osOf X), (LeB ⟨⟨tok⟩⟩ ⟨⟨[c]⟩⟩ ∧ InB [92] c 0 ∧ EqB [c] [39] 0 ∧ LnB ⟨⟨[c]⟩⟩ ∧ EqB [c] [10] 1 ∧ True ∧ True)) := by
  cases b <;> (intro W X l'; kernel_rfl)
theorem t1bc (w : World) (b b2 : Bool) (a : Ar) (o : OutA) (x : Lx) (g : Nat → FrO) (fk : Nat → Nat) (et : Nat) (sl : Array (Option Value)) (τs ln τl τt pos τp pos' : Nat) (nc : List Nat × Nat) (a0 : Nat) (tok : List Nat) (qd : Bool) (c : Nat) (N t : Nat) (p : Pos) (nv : Nv) :
    let W := wld w b b2
    let X := runW W a o x pos τp [c] pos' 424 [5, 1, 0, 0, 0, 0, 1, 0, 0, 0, 0, 0, 0, 0, 0, 0, 0, 0, 0, 0, 0, 0, 10, 10, 0, 1001, 10, 1, 0, 0, 0, 0, 1, 0, 0, 0, 1, 1, 0, 2, 0, 0, 0, 5, 1, 0, 0, 0, 0, 1, 0, 0, 0, 1, 1, 0, 2, 3, 0, 0, 0, 0, 0, 0, 0, 3, 0, 0, 0, 0, 0, 0, 0, 3, 0, 0, 0, 0, 3, 4, 0, 1, 0, 5, 5, 5, 2, 0, 5, 1, 0, 0, 0, 0, 1, 0, 0, 0, 1, 1, 0, 2, 0, 0, 5, 1, 0, 0, 0, 0, 1, 0, 0, 0, 1, 1, 0, 2, 5, 1, 0, 0, 0, 0, 1, 0, 0, 0, 1, 1, 0, 2, 0, 0, 5, 6, 0, 5, 5, 1, 0, 0, 0, 0, 1, 0, 0, 0, 1, 1, 0, 2, 3, 0, 5, 5, 1, 0, 0, 0, 0, 1, 0, 0, 0, 1, 1, 0, 2, 3, 0, 5, 1, 0, 0, 0, 0, 1, 0, 0, 0, 1, 1, 0, 2, 5, 5, 1, 0, 0, 0, 0, 1, 0, 0, 0, 1, 1, 0, 2, 3, 0, 5, 5, 1, 0, 0, 0, 0, 1, 0, 0, 0, 1, 1, 0, 2, 3, 1, 5, 5, 1, 0, 0, 0, 0, 1, 0, 0, 1, 0, 1, 0, 0, 0, 1, 0, 2, 2, 2, 5, 1, 0, 0, 0, 0, 1, 0, 0, 1, 0, 1, 0, 0, 0, 1, 0, 2, 2, 2, 1]
      (lxL W.params a.lex x (stV 32 τs) ln τl ⟨⟨[]⟩⟩ τt pos τp ++ (a.L, frW W.params a.lex fk et sl false (some nc)) :: frs a o g) N t p nv
    let l' := lxL W.params a.lex x (stV 97 (vt X 1 11)) ln (vt X 1 13) ⟨⟨[c]⟩⟩ (vt X 1 15) pos' (vt X 3 2) ++ (a.L, frW W.params a.lex (setK fk 3 (ktk X 4 3)) et sl false (some ([c], vt X 4 3))) :: frs a o g
    look [0, 1, 2, 3, 4, 5, 6, 7, 8] X = some (.again (ctxOf (wCode a.L) (a.W o)) (posOf X), os_ l', as_ l', dup (eqsOf X), dupG (gsOf X), dupO (osOf X), (InB wordL c 1 ∧ InB [92] c 0 ∧ InB [] c 0 ∧ InB [32, 9, 13, 10] c 0 ∧ LnB ⟨⟨[c]⟩⟩ ∧ EqB [c] [10] 0 ∧ True ∧ True)) := by
  cases b <;> (intro W X l'; kernel_rfl)
theorem t1aln (w : World) (b b2 : Bool) (a : Ar) (o : OutA) (x : Lx) (g : Nat → FrO) (fk : Nat → Nat) (et : Nat) (sl : Array (Option Value)) (τs ln τl τt pos τp pos' : Nat) (nc : List Nat × Nat) (a0 : Nat) (tok : List Nat) (qd : Bool) (c : Nat) (N t : Nat) (p : Pos) (nv : Nv) :
    let W := wld w b b2
    let X := runW W a o x pos τp [c] pos' 516 [5, 1, 0, 0, 0, 0, 1, 0, 0, 0, 0, 0, 0, 0, 0, 0, 0, 0, 0, 0, 0, 0, 10, 10, 0, 1001, 10, 1, 0, 0, 0, 0, 1, 0, 0, 0, 1, 1, 0, 2, 0, 0, 0, 5, 1, 0, 0, 0, 0, 1, 0, 0, 0, 1, 1, 0, 2, 3, 0, 0, 0, 0, 0, 0, 0, 3, 0, 0, 0, 0, 0, 0, 0, 3, 0, 0, 0, 0, 3, 4, 0, 1, 0, 5, 5, 5, 2, 1, 5, 1, 0, 0, 0, 0, 1, 0, 0, 0, 1, 1, 0, 2, 0, 0, 1, 0, 0, 0, 0, 1, 0, 0, 1, 0, 1, 0, 0, 0, 1, 0, 2, 2, 2, 5, 1, 0, 0, 0, 0, 1, 0, 0, 0, 1, 1, 0, 2, 0, 0, 5, 1, 0, 0, 0, 0, 1, 0, 0, 0, 1, 1, 0, 2, 5, 1, 0, 0, 0, 0, 1, 0, 0, 0, 1, 1, 0, 2, 0, 0, 5, 1, 0, 0, 0, 0, 1, 0, 0, 0, 1, 1, 0, 2, 5, 1, 0, 0, 0, 0, 1, 0, 0, 0, 1, 1, 0, 2, 0, 0, 5, 1, 0, 0, 0, 0, 1, 0, 0, 0, 1, 1, 0, 2, 5, 1, 0, 0, 0, 0, 1, 0, 0, 0, 1, 1, 0, 2, 0, 0, 5, 1, 0, 0, 0, 0, 1, 0, 0, 0, 1, 1, 0, 2, 11, 11, 5, 10, 5, 6, 0, 5, 5, 1, 0, 0, 0, 0, 1, 0, 0, 0, 1, 1, 0, 2, 3, 1, 5, 1, 0, 0, 0, 0, 1, 0, 0, 0, 1, 1, 0, 2, 0, 0, 5, 1, 0, 0, 0, 0, 1, 0, 0, 1, 0, 1, 0, 0, 0, 1, 0, 2, 2, 2, 5, 1, 0, 0, 0, 0, 1, 0, 0, 0, 1, 1, 0, 2, 6, 0]
      (lxL W.params a.lex x (stV 97 τs) ln τl ⟨⟨(a0 :: tok)⟩⟩ τt pos τp ++ (a.L, frW W.params a.lex fk et sl qd (some nc)) :: frs a o g) N t p nv
    let l' := lxL W.params a.lex x (stV 32 (vt X 1 11)) (ln + 1) (vt X 1 13) ⟨⟨(a0 :: tok)⟩⟩ (vt X 1 15) pos' (vt X 3 2) ++ (a.L, frW W.params a.lex (setK fk 3 (ktk X 4 3)) et sl qd (some ([c], vt X 4 3))) :: frs a o g
    look [0, 1, 2, 3, 4, 5, 6, 7, 8] X = some (.done (.ok .next), os_ l', as_ l', dup (eqsOf X), dupG (gsOf X), dupO (osOf X), (LnB ⟨⟨a0 :: tok⟩⟩ ∧ InB [32, 9, 13, 10] c 1 ∧ LnB ⟨⟨[c]⟩⟩ ∧ TupB "tuple" ⟨⟨[97]⟩⟩ ⟨⟨[97]⟩⟩ ∧ EqB [c] [10] 1 ∧ True ∧ True)) := by
  cases b <;> (intro W X l'; kernel_rfl)
theorem t0bl (w : World) (b b2 : Bool) (a : Ar) (o : OutA) (x : Lx) (g : Nat → FrO) (fk : Nat → Nat) (et : Nat) (sl : Array (Option Value)) (τs ln τl τt pos τp pos' : Nat) (nc : List Nat × Nat) (a0 : Nat) (tok : List Nat) (qd : Bool) (c : Nat) (N t : Nat) (p : Pos) (nv : Nv) :
    let W := wld w b b2
    let X := runW W a o x pos τp [c] pos' 404 [5, 1, 0, 0, 0, 0, 1, 0, 0, 0, 0, 0, 0, 0, 0, 0, 0, 0, 0, 0, 0, 0, 10, 10, 0, 1001, 10, 1, 0, 0, 0, 0, 1, 0, 0, 0, 1, 1, 0, 2, 0, 0, 0, 5, 1, 0, 0, 0, 0, 1, 0, 0, 0, 1, 1, 0, 2, 3, 0, 0, 0, 0, 0, 0, 0, 3, 0, 0, 0, 0, 0, 0, 0, 3, 0, 0, 0, 0, 3, 4, 0, 1, 0, 5, 5, 5, 2, 1, 5, 1, 0, 0, 0, 0, 1, 0, 0, 0, 1, 1, 0, 2, 0, 0, 1, 0, 0, 0, 0, 1, 0, 0, 1, 0, 1, 0, 0, 0, 1, 0, 2, 2, 2, 5, 1, 0, 0, 0, 0, 1, 0, 0, 0, 1, 1, 0, 2, 0, 0, 5, 1, 0, 0, 0, 0, 1, 0, 0, 0, 1, 1, 0, 2, 5, 1, 0, 0, 0, 0, 1, 0, 0, 0, 1, 1, 0, 2, 0, 0, 5, 6, 0, 5, 5, 1, 0, 0, 0, 0, 1, 0, 0, 0, 1, 1, 0, 2, 3, 1, 5, 1, 0, 0, 0, 0, 1, 0, 0, 0, 1, 1, 0, 2, 0, 0, 5, 1, 0, 0, 0, 0, 1, 0, 0, 0, 1, 1, 0, 2, 0, 0, 0, 5, 1, 0, 0, 0, 0, 1, 0, 0, 0, 1, 1, 0, 2, 5, 1]
      (lxL W.params a.lex x (stV 32 τs) ln τl ⟨⟨[]⟩⟩ τt pos τp ++ (a.L, frW W.params a.lex fk et sl false none) :: frs a o g) N t p nv
    let l' := lxL W.params a.lex x (stV 32 (vt X 1 11)) (ln + 1) (vt X 1 13) ⟨⟨[]⟩⟩ (vt X 1 15) pos' (vt X 3 2) ++ (a.L, frW W.params a.lex (setK fk 3 (ktk X 4 3)) et sl false (some ([c], vt X 4 3))) :: frs a o g
    look [0, 1, 2, 3, 4, 5, 6, 7, 8] X = some (.again (ctxOf (wCode a.L) (a.W o)) (posOf X), os_ l', as_ l', dup (eqsOf X), dupG (gsOf X), dupO (osOf X), (InB [32, 9, 13, 10] c 1 ∧ LnB ⟨⟨[c]⟩⟩ ∧ EqB [c] [10] 1 ∧ True ∧ True)) := by
  cases b <;> (intro W X l'; kernel_rfl)
theorem t1bw (w : World) (b b2 : Bool) (a : Ar) (o : OutA) (x : Lx) (g : Nat → FrO) (fk : Nat → Nat) (et : Nat) (sl : Array (Option Value)) (τs ln τl τt pos τp pos' : Nat) (nc : List Nat × Nat) (a0 : Nat) (tok : List Nat) (qd : Bool) (c : Nat) (N t : Nat) (p : Pos) (nv : Nv) :
    let W := wld w b b2
    let X := runW W a o x pos τp [c] pos' 354 [5, 1, 0, 0, 0, 0, 1, 0, 0, 0, 0, 0, 0, 0, 0, 0, 0, 0, 0, 0, 0, 0, 10, 10, 0, 1001, 10, 1, 0, 0, 0, 0, 1, 0, 0, 0, 1, 1, 0, 2, 0, 0, 0, 5, 1, 0, 0, 0, 0, 1, 0, 0, 0, 1, 1, 0, 2, 3, 0, 0, 0, 0, 0, 0, 0, 3, 0, 0, 0, 0, 0, 0, 0, 3, 0, 0, 0, 0, 3, 4, 0, 1, 0, 5, 5, 5, 2, 0, 5, 1, 0, 0, 0, 0, 1, 0, 0, 0, 1, 1, 0, 2, 0, 0, 5, 1, 0, 0, 0, 0, 1, 0, 0, 0, 1, 1, 0, 2, 5, 1, 0, 0, 0, 0, 1, 0, 0, 0, 1, 1, 0, 2, 0, 0, 5, 6, 0, 5, 5, 1, 0, 0, 0, 0, 1, 0, 0, 0, 1, 1, 0, 2, 3, 1, 5, 1, 0, 0, 0, 0, 1, 0, 0, 0, 1, 1, 0, 2, 0, 0, 5, 1, 0, 0, 0, 0, 1, 0, 0, 0, 1, 1, 0, 2, 0, 0, 0, 5, 1, 0, 0, 0, 0, 1, 0, 0, 0, 1, 1, 0, 2, 5, 1]
      (lxL W.params a.lex x (stV 32 τs) ln τl ⟨⟨[]⟩⟩ τt pos τp ++ (a.L, frW W.params a.lex fk et sl false (some nc)) :: frs a o g) N t p nv
    let l' := lxL W.params a.lex x (stV 32 (vt X 1 11)) ln (vt X 1 13) ⟨⟨[]⟩⟩ (vt X 1 15) pos' (vt X 3 2) ++ (a.L, frW W.params a.lex (setK fk 3 (ktk X 4 3)) et sl false (some ([c], vt X 4 3))) :: frs a o g
    look [0, 1, 2, 3, 4, 5, 6, 7, 8] X = some (.again (ctxOf (wCode a.L) (a.W o)) (posOf X), os_ l', as_ l', dup (eqsOf X), dupG (gsOf X), dupO (osOf X), (InB [32, 9, 13, 10] c 1 ∧ LnB ⟨⟨[c]⟩⟩ ∧ EqB [c] [10] 0 ∧ True ∧ True)) := by
  cases b <;> (intro W X l'; kernel_rfl)
theorem t1ao (w : World) (b b2 : Bool) (a : Ar) (o : OutA) (x : Lx) (g : Nat → FrO) (fk : Nat → Nat) (et : Nat) (sl : Array (Option Value)) (τs ln τl τt pos τp pos' : Nat) (nc : List Nat × Nat) (a0 : Nat) (tok : List Nat) (qd : Bool) (c : Nat) (N t : Nat) (p : Pos) (nv : Nv) :
    let W := wld w b b2
    let X := runW W a o x pos τp [c] pos' 704 [5, 1, 0, 0, 0, 0, 1, 0, 0, 0, 0, 0, 0, 0, 0, 0, 0, 0, 0, 0, 0, 0, 10, 10, 0, 1001, 10, 1, 0, 0, 0, 0, 1, 0, 0, 0, 1, 1, 0, 2, 0, 0, 0, 5, 1, 0, 0, 0, 0, 1, 0, 0, 0, 1, 1, 0, 2, 3, 0, 0, 0, 0, 0, 0, 0, 3, 0, 0, 0, 0, 0, 0, 0, 3, 0, 0, 0, 0, 3, 4, 0, 1, 0, 5, 5, 5, 2, 0, 5, 1, 0, 0, 0, 0, 1, 0, 0, 0, 1, 1, 0, 2, 0, 0, 5, 1, 0, 0, 0, 0, 1, 0, 0, 0, 1, 1, 0, 2, 5, 1, 0, 0, 0, 0, 1, 0, 0, 0, 1, 1, 0, 2, 0, 0, 5, 1, 0, 0, 0, 0, 1, 0, 0, 0, 1, 1, 0, 2, 5, 1, 0, 0, 0, 0, 1, 0, 0, 0, 1, 1, 0, 2, 0, 0, 5, 1, 0, 0, 0, 0, 1, 0, 0, 0, 1, 1, 0, 2, 5, 1, 0, 0, 0, 0, 1, 0, 0, 0, 1, 1, 0, 2, 0, 0, 5, 1, 0, 0, 0, 0, 1, 0, 0, 0, 1, 1, 0, 2, 11, 11, 5, 10, 5, 6, 0, 5, 5, 1, 0, 0, 0, 0, 1, 0, 0, 0, 1, 1, 0, 2, 3, 0, 5, 5, 1, 0, 0, 0, 0, 1, 0, 0, 0, 1, 1, 0, 2, 3, 0, 5, 1, 0, 0, 0, 0, 1, 0, 0, 0, 1, 1, 0, 2, 0, 0, 5, 1, 0, 0, 0, 0, 1, 0, 0, 0, 1, 1, 0, 2, 5, 5, 1, 0, 0, 0, 0, 1, 0, 0, 0, 1, 1, 0, 2, 3, 0, 5, 1, 0, 0, 0, 0, 1, 0, 0, 0, 1, 1, 0, 2, 5, 5, 1, 0, 0, 0, 0, 1, 0, 0, 0, 1, 1, 0, 2, 3, 0, 5, 5, 1, 0, 0, 0, 0, 1, 0, 0, 0, 1, 1, 0, 2, 3, 0, 5, 5, 1, 0, 0, 0, 0, 1, 0, 0, 0, 1, 1, 0, 2, 3, 0, 5, 1, 0, 0, 0, 0, 1, 0, 0, 0, 1, 1, 0, 2, 5, 5, 1, 0, 0, 0, 0, 1, 0, 0, 0, 0, 0, 0, 0, 0, 0, 0, 0, 0, 0, 0, 0, 12, 12, 0, 1001, 12, 1, 0, 0, 0, 0, 1, 0, 0, 0, 1, 1, 0, 2, 3, 0, 5, 1, 0, 0, 0, 0, 1, 0, 0, 0, 1, 1, 0, 2, 5, 4, 0, 1, 0, 0, 0, 0, 1, 0, 0, 1, 0, 1, 0, 0, 0, 1, 0, 2, 2, 2, 1]
      (lxL W.params a.lex x (stV 97 τs) ln τl ⟨⟨tok⟩⟩ τt pos τp ++ (a.L, frW W.params a.lex fk et sl qd (some nc)) :: frs a o g) N t p nv
    let l' := lxL W.params a.lex x (stV 97 (vt X 1 11)) ln (vt X 1 13) (⟨⟨tok⟩⟩ ++ ⟨⟨[c]⟩⟩) (vt X 1 15) pos' (vt X 3 2) ++ (a.L, frW W.params a.lex (setK fk 3 (ktk X 4 3)) et sl qd (some ([c], vt X 4 3))) :: frs a o g
    look [0, 1, 2, 3, 4, 5, 6, 7, 8] X = some (.again (ctxOf (wCode a.L) (a.W o)) (posOf X), os_ l', as_ l', dup (eqsOf X), dupG (gsOf X), dupO (osOf X), (LeB ⟨⟨tok⟩⟩ ⟨⟨[c]⟩⟩ ∧ InB [] c 0 ∧ InB [39, 34] c 0 ∧ InB wordL c 0 ∧ InB [92] c 0 ∧ InB [39, 34] c 0 ∧ InB [] c 0 ∧ InB [32, 9, 13, 10] c 0 ∧ LnB ⟨⟨[c]⟩⟩ ∧ TupB "tuple" ⟨⟨[97]⟩⟩ ⟨⟨[97]⟩⟩ ∧ EqB [c] [10] 0 ∧ True ∧ True)) := by
  cases b <;> (intro W X l'; kernel_rfl)
theorem t1bl (w : World) (b b2 : Bool) (a : Ar) (o : OutA) (x : Lx) (g : Nat → FrO) (fk : Nat → Nat) (et : Nat) (sl : Array (Option Value)) (τs ln τl τt pos τp pos' : Nat) (nc : List Nat × Nat) (a0 : Nat) (tok : List Nat) (qd : Bool) (c : Nat) (N t : Nat) (p : Pos) (nv : Nv) :
    let W := wld w b b2
    let X := runW W a o x pos τp [c] pos' 404 [5, 1, 0, 0, 0, 0, 1, 0, 0, 0, 0, 0, 0, 0, 0, 0, 0, 0, 0, 0, 0, 0, 10, 10, 0, 1001, 10, 1, 0, 0, 0, 0, 1, 0, 0, 0, 1, 1, 0, 2, 0, 0, 0, 5, 1, 0, 0, 0, 0, 1, 0, 0, 0, 1, 1, 0, 2, 3, 0, 0, 0, 0, 0, 0, 0, 3, 0, 0, 0, 0, 0, 0, 0, 3, 0, 0, 0, 0, 3, 4, 0, 1, 0, 5, 5, 5, 2, 1, 5, 1, 0, 0, 0, 0, 1, 0, 0, 0, 1, 1, 0, 2, 0, 0, 1, 0, 0, 0, 0, 1, 0, 0, 1, 0, 1, 0, 0, 0, 1, 0, 2, 2, 2, 5, 1, 0, 0, 0, 0, 1, 0, 0, 0, 1, 1, 0, 2, 0, 0, 5, 1, 0, 0, 0, 0, 1, 0, 0, 0, 1, 1, 0, 2, 5, 1, 0, 0, 0, 0, 1, 0, 0, 0, 1, 1, 0, 2, 0, 0, 5, 6, 0, 5, 5, 1, 0, 0, 0, 0, 1, 0, 0, 0, 1, 1, 0, 2, 3, 1, 5, 1, 0, 0, 0, 0, 1, 0, 0, 0, 1, 1, 0, 2, 0, 0, 5, 1, 0, 0, 0, 0, 1, 0, 0, 0, 1, 1, 0, 2, 0, 0, 0, 5, 1, 0, 0, 0, 0, 1, 0, 0, 0, 1, 1, 0, 2, 5, 1]
      (lxL W.params a.lex x (stV 32 τs) ln τl ⟨⟨[]⟩⟩ τt pos τp ++ (a.L, frW W.params a.lex fk et sl false (some nc)) :: frs a o g) N t p nv
    let l' := lxL W.params a.lex x (stV 32 (vt X 1 11)) (ln + 1) (vt X 1 13) ⟨⟨[]⟩⟩ (vt X 1 15) pos' (vt X 3 2) ++ (a.L, frW W.params a.lex (setK fk 3 (ktk X 4 3)) et sl false (some ([c], vt X 4 3))) :: frs a o g
    look [0, 1, 2, 3, 4, 5, 6, 7, 8] X = some (.again (ctxOf (wCode a.L) (a.W o)) (posOf X), os_ l', as_ l', dup (eqsOf X), dupG (gsOf X), dupO (osOf X), (InB [32, 9, 13, 10] c 1 ∧ LnB ⟨⟨[c]⟩⟩ ∧ EqB [c] [10] 1 ∧ True ∧ True)) := by
  cases b <;> (intro W X l'; kernel_rfl)
theorem t1bo (w : World) (b b2 : Bool) (a : Ar) (o : OutA) (x : Lx) (g : Nat → FrO) (fk : Nat → Nat) (et : Nat) (sl : Array (Option Value)) (τs ln τl τt pos τp pos' : Nat) (nc : List Nat × Nat) (a0 : Nat) (tok : List Nat) (qd : Bool) (c : Nat) (N t : Nat) (p : Pos) (nv : Nv) :
    let W := wld w b b2
    let X := runW W a o x pos τp [c] pos' 531 [5, 1, 0, 0, 0, 0, 1, 0, 0, 0, 0, 0, 0, 0, 0, 0, 0, 0, 0, 0, 0, 0, 10, 10, 0, 1001, 10, 1, 0, 0, 0, 0, 1, 0, 0, 0, 1, 1, 0, 2, 0, 0, 0, 5, 1, 0, 0, 0, 0, 1, 0, 0, 0, 1, 1, 0, 2, 3, 0, 0, 0, 0, 0, 0, 0, 3, 0, 0, 0, 0, 0, 0, 0, 3, 0, 0, 0, 0, 3, 4, 0, 1, 0, 5, 5, 5, 2, 0, 5, 1, 0, 0, 0, 0, 1, 0, 0, 0, 1, 1, 0, 2, 0, 0, 5, 1, 0, 0, 0, 0, 1, 0, 0, 0, 1, 1, 0, 2, 5, 1, 0, 0, 0, 0, 1, 0, 0, 0, 1, 1, 0, 2, 0, 0, 5, 6, 0, 5, 5, 1, 0, 0, 0, 0, 1, 0, 0, 0, 1, 1, 0, 2, 3, 0, 5, 5, 1, 0, 0, 0, 0, 1, 0, 0, 0, 1, 1, 0, 2, 3, 0, 5, 1, 0, 0, 0, 0, 1, 0, 0, 0, 1, 1, 0, 2, 5, 5, 1, 0, 0, 0, 0, 1, 0, 0, 0, 1, 1, 0, 2, 3, 0, 5, 5, 1, 0, 0, 0, 0, 1, 0, 0, 0, 1, 1, 0, 2, 3, 0, 5, 5, 1, 0, 0, 0, 0, 1, 0, 0, 0, 0, 0, 0, 0, 0, 0, 0, 0, 0, 0, 0, 0, 11, 11, 0, 1001, 11, 1, 0, 0, 0, 0, 1, 0, 0, 0, 1, 1, 0, 2, 3, 0, 5, 5, 1, 0, 0, 0, 0, 1, 0, 0, 0, 1, 1, 0, 2, 3, 0, 5, 1, 0, 0, 0, 0, 1, 0, 0, 0, 1, 1, 0, 2, 5, 5, 1, 0, 0, 0, 0, 1, 0, 0, 1, 0, 1, 0, 0, 0, 1, 0, 2, 2, 2, 5, 1, 0, 0, 0, 0, 1, 0, 0, 1, 0, 1, 0, 0, 0, 1, 0, 2, 2, 2, 1]
      (lxL W.params a.lex x (stV 32 τs) ln τl ⟨⟨[]⟩⟩ τt pos τp ++ (a.L, frW W.params a.lex fk et sl false (some nc)) :: frs a o g) N t p nv
    let l' := lxL W.params a.lex x (stV 97 (vt X 1 11)) ln (vt X 1 13) ⟨⟨[c]⟩⟩ (vt X 1 15) pos' (vt X 3 2) ++ (a.L, frW W.params a.lex (setK fk 3 (ktk X 4 3)) et sl false (some ([c], vt X 4 3))) :: frs a o g
    look [0, 1, 2, 3, 4, 5, 6, 7, 8] X = some (.again (ctxOf (wCode a.L) (a.W o)) (posOf X), os_ l', as_ l', dup (eqsOf X), dupG (gsOf X), dupO (osOf X), (InB [39, 34] c 0 ∧ InB [] c 0 ∧ InB wordL c 0 ∧ InB [92] c 0 ∧ InB [] c 0 ∧ InB [32, 9, 13, 10] c 0 ∧ LnB ⟨⟨[c]⟩⟩ ∧ EqB [c] [10] 0 ∧ True ∧ True)) := by
  cases b <;> (intro W X l'; kernel_rfl)
theorem t1awe (w : World) (b b2 : Bool) (a : Ar) (o : OutA) (x : Lx) (g : Nat → FrO) (fk : Nat → Nat) (et : Nat) (sl : Array (Option Value)) (τs ln τl τt pos τp pos' : Nat) (nc : List Nat × Nat) (a0 : Nat) (tok : List Nat) (qd : Bool) (c : Nat) (N t : Nat) (p : Pos) (nv : Nv) :
    let W := wld w b b2
    let X := runW W a o x pos τp [c] pos' 496 [5, 1, 0, 0, 0, 0, 1, 0, 0, 0, 0, 0, 0, 0, 0, 0, 0, 0, 0, 0, 0, 0, 10, 10, 0, 1001, 10, 1, 0, 0, 0, 0, 1, 0, 0, 0, 1, 1, 0, 2, 0, 0, 0, 5, 1, 0, 0, 0, 0, 1, 0, 0, 0, 1, 1, 0, 2, 3, 0, 0, 0, 0, 0, 0, 0, 3, 0, 0, 0, 0, 0, 0, 0, 3, 0, 0, 0, 0, 3, 4, 0, 1, 0, 5, 5, 5, 2, 0, 5, 1, 0, 0, 0, 0, 1, 0, 0, 0, 1, 1, 0, 2, 0, 0, 5, 1, 0, 0, 0, 0, 1, 0, 0, 0, 1, 1, 0, 2, 5, 1, 0, 0, 0, 0, 1, 0, 0, 0, 1, 1, 0, 2, 0, 0, 5, 1, 0, 0, 0, 0, 1, 0, 0, 0, 1, 1, 0, 2, 5, 1, 0, 0, 0, 0, 1, 0, 0, 0, 1, 1, 0, 2, 0, 0, 5, 1, 0, 0, 0, 0, 1, 0, 0, 0, 1, 1, 0, 2, 5, 1, 0, 0, 0, 0, 1, 0, 0, 0, 1, 1, 0, 2, 0, 0, 5, 1, 0, 0, 0, 0, 1, 0, 0, 0, 1, 1, 0, 2, 11, 11, 5, 10, 5, 6, 0, 5, 5, 1, 0, 0, 0, 0, 1, 0, 0, 0, 1, 1, 0, 2, 3, 1, 5, 1, 0, 0, 0, 0, 1, 0, 0, 0, 1, 1, 0, 2, 0, 0, 5, 1, 0, 0, 0, 0, 1, 0, 0, 1, 0, 1, 0, 0, 0, 1, 0, 2, 2, 2, 5, 1, 0, 0, 0, 0, 1, 0, 0, 0, 1, 1, 0, 2, 0, 0, 0, 5, 1, 0, 0, 0, 0, 1, 0, 0, 0, 1, 1, 0, 2, 5]
      (lxL W.params a.lex x (stV 97 τs) ln τl ⟨⟨[]⟩⟩ τt pos τp ++ (a.L, frW W.params a.lex fk et sl true (some nc)) :: frs a o g) N t p nv
    let l' := lxL W.params a.lex x (stV 32 (vt X 1 11)) ln (vt X 1 13) ⟨⟨[]⟩⟩ (vt X 1 15) pos' (vt X 3 2) ++ (a.L, frW W.params a.lex (setK fk 3 (ktk X 4 3)) et sl true (some ([c], vt X 4 3))) :: frs a o g
    look [0, 1, 2, 3, 4, 5, 6, 7, 8] X = some (.done (.ok .next), os_ l', as_ l', dup (eqsOf X), dupG (gsOf X), dupO (osOf X), (InB [32, 9, 13, 10] c 1 ∧ LnB ⟨⟨[c]⟩⟩ ∧ TupB "tuple" ⟨⟨[97]⟩⟩ ⟨⟨[97]⟩⟩ ∧ EqB [c] [10] 0 ∧ True ∧ True)) := by
  cases b <;> (intro W X l'; kernel_rfl)
theorem t1dl (w : World) (b b2 : Bool) (a : Ar) (o : OutA) (x : Lx) (g : Nat → FrO) (fk : Nat → Nat) (et : Nat) (sl : Array (Option Value)) (τs ln τl τt pos τp pos' : Nat) (nc : List Nat × Nat) (a0 : Nat) (tok : List Nat) (qd : Bool) (c : Nat) (N t : Nat) (p : Pos) (nv : Nv) :
    let W := wld w b b2
    let X := runW W a o x pos τp [c] pos' 470 [5, 1, 0, 0, 0, 0, 1, 0, 0, 0, 0, 0, 0, 0, 0, 0, 0, 0, 0, 0, 0, 0, 10, 10, 0, 1001, 10, 1, 0, 0, 0, 0, 1, 0, 0, 0, 1, 1, 0, 2, 0, 0, 0, 5, 1, 0, 0, 0, 0, 1, 0, 0, 0, 1, 1, 0, 2, 3, 0, 0, 0, 0, 0, 0, 0, 3, 0, 0, 0, 0, 0, 0, 0, 3, 0, 0, 0, 0, 3, 4, 0, 1, 0, 5, 5, 5, 2, 1, 5, 1, 0, 0, 0, 0, 1, 0, 0, 0, 1, 1, 0, 2, 0, 0, 1, 0, 0, 0, 0, 1, 0, 0, 1, 0, 1, 0, 0, 0, 1, 0, 2, 2, 2, 5, 1, 0, 0, 0, 0, 1, 0, 0, 0, 1, 1, 0, 2, 0, 0, 5, 1, 0, 0, 0, 0, 1, 0, 0, 0, 1, 1, 0, 2, 5, 1, 0, 0, 0, 0, 1, 0, 0, 0, 1, 1, 0, 2, 0, 0, 5, 1, 0, 0, 0, 0, 1, 0, 0, 0, 1, 1, 0, 2, 5, 1, 0, 0, 0, 0, 1, 0, 0, 0, 1, 1, 0, 2, 0, 0, 5, 5, 5, 6, 0, 5, 5, 1, 0, 0, 0, 0, 1, 0, 0, 0, 1, 1, 0, 2, 2, 0, 5, 1, 0, 0, 0, 0, 1, 0, 0, 0, 1, 1, 0, 2, 5, 5, 1, 0, 0, 0, 0, 1, 0, 0, 0, 1, 1, 0, 2, 3, 0, 5, 1, 0, 0, 0, 0, 1, 0, 0, 0, 1, 1, 0, 2, 5, 4, 0, 1, 0, 0, 0, 0, 1, 0, 0, 1, 0, 1, 0, 0, 0, 1, 0, 2, 2, 2, 1]
      (lxL W.params a.lex x (stV 34 τs) ln τl ⟨⟨tok⟩⟩ τt pos τp ++ (a.L, frW W.params a.lex fk et sl qd (some nc)) :: frs a o g) N t p nv
    let l' := lxL W.params a.lex x (stV 34 (vt X 1 11)) (ln + 1) (vt X 1 13) (⟨⟨tok⟩⟩ ++ ⟨⟨[c]⟩⟩) (vt X 1 15) pos' (vt X 3 2) ++ (a.L, frW W.params a.lex (setK fk 3 (ktk X 4 3)) et sl true (some ([c], vt X 4 3))) :: frs a o g
    look [0, 1, 2, 3, 4, 5, 6, 7, 8] X = some (.again (ctxOf (wCode a.L) (a.W o)) (posOf X), os_ l', as_ l', dup (eqsOf X), dupG (gsOf X), dupO (osOf X), (LeB ⟨⟨tok⟩⟩ ⟨⟨[c]⟩⟩ ∧ InB [92] c 0 ∧ EqB [c] [34] 0 ∧ LnB ⟨⟨[c]⟩⟩ ∧ EqB [c] [10] 1 ∧ True ∧ True)) := by
  cases b <;> (intro W X l'; kernel_rfl)
theorem t1be (w : World) (b b2 : Bool) (a : Ar) (o : OutA) (x : Lx) (g : Nat → FrO) (fk : Nat → Nat) (et : Nat) (sl : Array (Option Value)) (τs ln τl τt pos τp pos' : Nat) (nc : List Nat × Nat) (a0 : Nat) (tok : List Nat) (qd : Bool) (c : Nat) (N t : Nat) (p : Pos) (nv : Nv) :
    let W := wld w b b2
    let X := runW W a o x pos τp [] pos' 288 [5, 1, 0, 0, 0, 0, 1, 0, 0, 0, 0, 0, 0, 0, 0, 0, 0, 0, 0, 0, 0, 0, 10, 10, 0, 1001, 10, 1, 0, 0, 0, 0, 1, 0, 0, 0, 1, 1, 0, 2, 0, 0, 0, 5, 1, 0, 0, 0, 0, 1, 0, 0, 0, 1, 1, 0, 2, 3, 0, 0, 0, 0, 0, 0, 0, 3, 0, 0, 0, 0, 0, 0, 0, 3, 0, 0, 0, 0, 3, 4, 0, 1, 0, 5, 5, 5, 0, 0, 5, 1, 0, 0, 0, 0, 1, 0, 0, 0, 1, 1, 0, 2, 0, 0, 5, 1, 0, 0, 0, 0, 1, 0, 0, 0, 1, 1, 0, 2, 5, 1, 0, 0, 0, 0, 1, 0, 0, 0, 1, 1, 0, 2, 0, 0, 5, 0, 0, 0, 5, 1, 0, 0, 0, 0, 1, 0, 0, 1, 0, 1, 0, 0, 0, 1, 0, 2, 2, 2]
      (lxL W.params a.lex x (stV 32 τs) ln τl ⟨⟨[]⟩⟩ τt pos τp ++ (a.L, frW W.params a.lex fk et sl false (some nc)) :: frs a o g) N t p nv
    let l' := lxL W.params a.lex x (stV 0 (vt X 1 11)) ln (vt X 1 13) ⟨⟨[]⟩⟩ (vt X 1 15) pos' (vt X 3 2) ++ (a.L, frW W.params a.lex (setK fk 3 (ktk X 4 3)) et sl false (some ([], vt X 4 3))) :: frs a o g
    look [0, 1, 2, 3, 4, 5, 6, 7, 8] X = some (.done (.ok .next), os_ l', as_ l', dup (eqsOf X), dupG (gsOf X), dupO (osOf X), (True ∧ True)) := by
  cases b <;> (intro W X l'; kernel_rfl)
theorem t0be (w : World) (b b2 : Bool) (a : Ar) (o : OutA) (x : Lx) (g : Nat → FrO) (fk : Nat → Nat) (et : Nat) (sl : Array (Option Value)) (τs ln τl τt pos τp pos' : Nat) (nc : List Nat × Nat) (a0 : Nat) (tok : List Nat) (qd : Bool) (c : Nat) (N t : Nat) (p : Pos) (nv : Nv) :
    let W := wld w b b2
    let X := runW W a o x pos τp [] pos' 288 [5, 1, 0, 0, 0, 0, 1, 0, 0, 0, 0, 0, 0, 0, 0, 0, 0, 0, 0, 0, 0, 0, 10, 10, 0, 1001, 10, 1, 0, 0, 0, 0, 1, 0, 0, 0, 1, 1, 0, 2, 0, 0, 0, 5, 1, 0, 0, 0, 0, 1, 0, 0, 0, 1, 1, 0, 2, 3, 0, 0, 0, 0, 0, 0, 0, 3, 0, 0, 0, 0, 0, 0, 0, 3, 0, 0, 0, 0, 3, 4, 0, 1, 0, 5, 5, 5, 0, 0, 5, 1, 0, 0, 0, 0, 1, 0, 0, 0, 1, 1, 0, 2, 0, 0, 5, 1, 0, 0, 0, 0, 1, 0, 0, 0, 1, 1, 0, 2, 5, 1, 0, 0, 0, 0, 1, 0, 0, 0, 1, 1, 0, 2, 0, 0, 5, 0, 0, 0, 5, 1, 0, 0, 0, 0, 1, 0, 0, 1, 0, 1, 0, 0, 0, 1, 0, 2, 2, 2]
      (lxL W.params a.lex x (stV 32 τs) ln τl ⟨⟨[]⟩⟩ τt pos τp ++ (a.L, frW W.params a.lex fk et sl false none) :: frs a o g) N t p nv
    let l' := lxL W.params a.lex x (stV 0 (vt X 1 11)) ln (vt X 1 13) ⟨⟨[]⟩⟩ (vt X 1 15) pos' (vt X 3 2) ++ (a.L, frW W.params a.lex (setK fk 3 (ktk X 4 3)) et sl false (some ([], vt X 4 3))) :: frs a o g
    look [0, 1, 2, 3, 4, 5, 6, 7, 8] X = some (.done (.ok .next), os_ l', as_ l', dup (eqsOf X), dupG (gsOf X), dupO (osOf X), (True ∧ True)) := by
  cases b <;> (intro W X l'; kernel_rfl)
theorem t1ale (w : World) (b b2 : Bool) (a : Ar) (o : OutA) (x : Lx) (g : Nat → FrO) (fk : Nat → Nat) (et : Nat) (sl : Array (Option Value)) (τs ln τl τt pos τp pos' : Nat) (nc : List Nat × Nat) (a0 : Nat) (tok : List Nat) (qd : Bool) (c : Nat) (N t : Nat) (p : Pos) (nv : Nv) :
    let W := wld w b b2
    let X := runW W a o x pos τp [c] pos' 546 [5, 1, 0, 0, 0, 0, 1, 0, 0, 0, 0, 0, 0, 0, 0, 0, 0, 0, 0, 0, 0, 0, 10, 10, 0, 1001, 10, 1, 0, 0, 0, 0, 1, 0, 0, 0, 1, 1, 0, 2, 0, 0, 0, 5, 1, 0, 0, 0, 0, 1, 0, 0, 0, 1, 1, 0, 2, 3, 0, 0, 0, 0, 0, 0, 0, 3, 0, 0, 0, 0, 0, 0, 0, 3, 0, 0, 0, 0, 3, 4, 0, 1, 0, 5, 5, 5, 2, 1, 5, 1, 0, 0, 0, 0, 1, 0, 0, 0, 1, 1, 0, 2, 0, 0, 1, 0, 0, 0, 0, 1, 0, 0, 1, 0, 1, 0, 0, 0, 1, 0, 2, 2, 2, 5, 1, 0, 0, 0, 0, 1, 0, 0, 0, 1, 1, 0, 2, 0, 0, 5, 1, 0, 0, 0, 0, 1, 0, 0, 0, 1, 1, 0, 2, 5, 1, 0, 0, 0, 0, 1, 0, 0, 0, 1, 1, 0, 2, 0, 0, 5, 1, 0, 0, 0, 0, 1, 0, 0, 0, 1, 1, 0, 2, 5, 1, 0, 0, 0, 0, 1, 0, 0, 0, 1, 1, 0, 2, 0, 0, 5, 1, 0, 0, 0, 0, 1, 0, 0, 0, 1, 1, 0, 2, 5, 1, 0, 0, 0, 0, 1, 0, 0, 0, 1, 1, 0, 2, 0, 0, 5, 1, 0, 0, 0, 0, 1, 0, 0, 0, 1, 1, 0, 2, 11, 11, 5, 10, 5, 6, 0, 5, 5, 1, 0, 0, 0, 0, 1, 0, 0, 0, 1, 1, 0, 2, 3, 1, 5, 1, 0, 0, 0, 0, 1, 0, 0, 0, 1, 1, 0, 2, 0, 0, 5, 1, 0, 0, 0, 0, 1, 0, 0, 1, 0, 1, 0, 0, 0, 1, 0, 2, 2, 2, 5, 1, 0, 0, 0, 0, 1, 0, 0, 0, 1, 1, 0, 2, 0, 0, 0, 5, 1, 0, 0, 0, 0, 1, 0, 0, 0, 1, 1, 0, 2, 5]
      (lxL W.params a.lex x (stV 97 τs) ln τl ⟨⟨[]⟩⟩ τt pos τp ++ (a.L, frW W.params a.lex fk et sl true (some nc)) :: frs a o g) N t p nv
    let l' := lxL W.params a.lex x (stV 32 (vt X 1 11)) (ln + 1) (vt X 1 13) ⟨⟨[]⟩⟩ (vt X 1 15) pos' (vt X 3 2) ++ (a.L, frW W.params a.lex (setK fk 3 (ktk X 4 3)) et sl true (some ([c], vt X 4 3))) :: frs a o g
    look [0, 1, 2, 3, 4, 5, 6, 7, 8] X = some (.done (.ok .next), os_ l', as_ l', dup (eqsOf X), dupG (gsOf X), dupO (osOf X), (InB [32, 9, 13, 10] c 1 ∧ LnB ⟨⟨[c]⟩⟩ ∧ TupB "tuple" ⟨⟨[97]⟩⟩ ⟨⟨[97]⟩⟩ ∧ EqB [c] [10] 1 ∧ True ∧ True)) := by
  cases b <;> (intro W X l'; kernel_rfl)
/-! S302 -/
/-! ### StringIO.read(1) -/
noncomputable def ctxR (a : Ar) (o : OutA) (q : Pos) (sio : Nat) (τ : Nat) : Ctx := ctxOf (.call (.ref 533) ⟨[.ref sio, .int 1 τ], []⟩) ((wCode a.L, q) :: a.W o)
noncomputable def runR (W : World) (O : Orc) (a : Ar) (o : OutA) (q : Pos) (τ sio e : Nat) (sk : Nat → Nat) (nl : Nat) (buf : Str) (τb : Nat) (pos : Int) (τp : Nat) (fuel : Nat) (hs : List Nat) (N t : Nat) (p : Pos) (nv : Nv) : Out :=
  runC (cfgW W (conO O)) fuel (ctxR a o q sio τ) p hs [(sio, inst 587 e), (e, sioD W.params sk nl (.str buf τb) (.int pos τp))] N t nv
theorem r1 (w : World) (b b2 : Bool) (O : Orc) (a : Ar) (o : OutA) (q : Pos) (τ sio e : Nat) (sk : Nat → Nat) (nl : Nat) (buf : Str) (τb : Nat) (pos : Int) (τp : Nat) (N t : Nat) (p : Pos) (nv : Nv) :
    let W := wld w b b2
    let X := runR W O a o q τ sio e sk nl buf τb pos τp 428 [0, 0, 0, 3, 3, 3, 3, 0, 1001, 3, 0, 3, 0, 0, 0, 0, 4, 4, 4, 4, 0, 1001, 0, 0, 4, 0, 0, 0, 0, 0, 0, 4, 0, 0, 0, 0, 0, 0, 4, 4, 4, 0, 0, 4, 0, 0, 0, 0, 4, 3, 3, 3, 1, 0, 0, 0, 0, 0, 0, 0, 1, 0, 0, 0, 0, 0, 0, 0, 1, 0, 0, 0, 0, 1, 2, 0, 0, 0, 0, 5, 5, 0, 1001, 5, 1, 0, 0, 0, 0, 0, 0, 0, 0, 1, 0, 0, 0, 0, 0, 0, 0, 1, 1, 0, 2, 3, 1, 0, 0, 0, 0, 0, 0, 0, 0, 1, 0, 0, 0, 0, 0, 0, 0, 1, 1, 0, 2, 3, 3, 0, 0, 3, 1, 0, 0, 0, 0, 0, 0, 0, 0, 1, 0, 0, 0, 0, 0, 0, 0, 1, 1, 0, 2, 6, 0, 3, 3, 3, 3, 7, 0, 3, 0, 0, 3, 3, 0, 0, 3, 8, 1, 3, 3, 0, 0, 3, 3, 3, 3, 1, 0, 0, 0, 0, 0, 0, 0, 0, 1, 0, 0, 1, 0, 1, 0, 0, 0, 0, 0, 0, 0, 1, 0, 2, 2, 2, 3, 1, 0, 0, 0, 0, 0, 0, 0, 0, 1, 0, 0, 0, 0, 0, 0, 0, 1, 1, 0, 2, 3, 3, 9, 500] N t p nv
    look [0, 1] X = some (.done (.ok (.ret (.str ⟨⟨O.str 0⟩⟩ (rtok X)))), [some (inst 587 e), some (sioD W.params sk nl (.str buf τb) (.int (pos + 1) (vt X 1 2)))], [sio, e], dup (eqsOf X), dupG (gsOf X), dupO (osOf X),
      (SlcB "slice" buf (some (pos, τp)) (some (pos + 1, vt X 1 2)) none (O.str 0) ∧ LtB (pos + 1) buf.length 1 ∧ GeB pos buf.length 0 ∧ LnB buf ∧ True)) := by
  cases b <;> (intro W X; kernel_rfl)
theorem r2 (w : World) (b b2 : Bool) (O : Orc) (a : Ar) (o : OutA) (q : Pos) (τ sio e : Nat) (sk : Nat → Nat) (nl : Nat) (buf : Str) (τb : Nat) (pos : Int) (τp : Nat) (N t : Nat) (p : Pos) (nv : Nv) :
    let W := wld w b b2
    let X := runR W O a o q τ sio e sk nl buf τb pos τp 411 [0, 0, 0, 3, 3, 3, 3, 0, 1001, 3, 0, 3, 0, 0, 0, 0, 4, 4, 4, 4, 0, 1001, 0, 0, 4, 0, 0, 0, 0, 0, 0, 4, 0, 0, 0, 0, 0, 0, 4, 4, 4, 0, 0, 4, 0, 0, 0, 0, 4, 3, 3, 3, 1, 0, 0, 0, 0, 0, 0, 0, 1, 0, 0, 0, 0, 0, 0, 0, 1, 0, 0, 0, 0, 1, 2, 0, 0, 0, 0, 5, 5, 0, 1001, 5, 1, 0, 0, 0, 0, 0, 0, 0, 0, 1, 0, 0, 0, 0, 0, 0, 0, 1, 1, 0, 2, 3, 1, 0, 0, 0, 0, 0, 0, 0, 0, 1, 0, 0, 0, 0, 0, 0, 0, 1, 1, 0, 2, 3, 3, 0, 0, 3, 1, 0, 0, 0, 0, 0, 0, 0, 0, 1, 0, 0, 0, 0, 0, 0, 0, 1, 1, 0, 2, 6, 0, 3, 3, 3, 3, 7, 0, 3, 0, 0, 3, 3, 0, 0, 3, 8, 0, 3, 3, 1, 0, 0, 0, 0, 0, 0, 0, 0, 1, 0, 0, 1, 0, 1, 0, 0, 0, 0, 0, 0, 0, 1, 0, 2, 2, 2, 3, 1, 0, 0, 0, 0, 0, 0, 0, 0, 1, 0, 0, 0, 0, 0, 0, 0, 1, 1, 0, 2, 3, 3, 9, 500] N t p nv
    look [0, 1] X = some (.done (.ok (.ret (.str ⟨⟨O.str 0⟩⟩ (rtok X)))), [some (inst 587 e), some (sioD W.params sk nl (.str buf τb) (.int buf.length (vt X 1 2)))], [sio, e], dup (eqsOf X), dupG (gsOf X), dupO (osOf X),
      (SlcB "slice" buf (some (pos, τp)) (some (buf.length, vt X 1 2)) none (O.str 0) ∧ LtB (pos + 1) buf.length 0 ∧ GeB pos buf.length 0 ∧ LnB buf ∧ True)) := by
  cases b <;> (intro W X; kernel_rfl)
theorem r3 (w : World) (b b2 : Bool) (O : Orc) (a : Ar) (o : OutA) (q : Pos) (τ sio e : Nat) (sk : Nat → Nat) (nl : Nat) (buf : Str) (τb : Nat) (pos : Int) (τp : Nat) (N t : Nat) (p : Pos) (nv : Nv) :
    let W := wld w b b2
    let X := runR W O a o q τ sio e sk nl buf τb pos τp 318 [0, 0, 0, 3, 3, 3, 3, 0, 1001, 3, 0, 3, 0, 0, 0, 0, 4, 4, 4, 4, 0, 1001, 0, 0, 4, 0, 0, 0, 0, 0, 0, 4, 0, 0, 0, 0, 0, 0, 4, 4, 4, 0, 0, 4, 0, 0, 0, 0, 4, 3, 3, 3, 1, 0, 0, 0, 0, 0, 0, 0, 1, 0, 0, 0, 0, 0, 0, 0, 1, 0, 0, 0, 0, 1, 2, 0, 0, 0, 0, 5, 5, 0, 1001, 5, 1, 0, 0, 0, 0, 0, 0, 0, 0, 1, 0, 0, 0, 0, 0, 0, 0, 1, 1, 0, 2, 3, 1, 0, 0, 0, 0, 0, 0, 0, 0, 1, 0, 0, 0, 0, 0, 0, 0, 1, 1, 0, 2, 3, 3, 0, 0, 3, 1, 0, 0, 0, 0, 0, 0, 0, 0, 1, 0, 0, 0, 0, 0, 0, 0, 1, 1, 0, 2, 6, 0, 3, 3, 3, 3, 7, 1] N t p nv
    look [0, 1] X = some (.done (.ok (.ret (.str ⟨⟨[]⟩⟩ (rtok X)))), [some (inst 587 e), some (sioD W.params sk nl (.str buf τb) (.int pos τp))], [sio, e], dup (eqsOf X), dupG (gsOf X), dupO (osOf X),
      (GeB pos buf.length 1 ∧ LnB buf ∧ True)) := by
  cases b <;> (intro W X; kernel_rfl)
/-! S402 -/
/-! ### the executor's word in this program -/
theorem runC_ok {W : World} {con : CF} {s : Shared} {R : Result → Shared → Prop} {l : List (Nat × Obj)} {Γ : Ctx} {p : Pos} {n : Nat} {hs : List Nat} (ext : List Nat)
    (hcon : ConOk (baseOf (kt W.params) 769 l.length s) (MW W) (cfgW W con)) (S : Top W s) (H : Holds s l) (nd : (l.map (·.1)).Nodup) (lo : ∀ x ∈ l, 769 ≤ x.1)
    (e : Nv → End1) (os : Nv → List (Option Obj)) (xs : Nv → List Nat) (ob : Nv → Prop)
    (run : ∀ nv, look (List.range l.length ++ ext) (runC (cfgW W con) n Γ p hs l s.heap.objs.size s.toks nv) = some (e nv, os nv, l.map (·.1) ++ xs nv, dup (eqsOf (runC (cfgW W con) n Γ p hs l s.heap.objs.size s.toks nv)), dupG (gsOf (runC (cfgW W con) n Γ p hs l s.heap.objs.size s.toks nv)), dupO (osOf (runC (cfgW W con) n Γ p hs l s.heap.objs.size s.toks nv)), ob nv))
    (hob : ∀ nv, ob nv) (fin : ∀ nv s', After s s' (l.map (·.1)) (List.range l.length ++ ext) (l.map (·.1) ++ xs nv) (os nv) → EndOk (MW W) R (e nv) s') : wpCode (MW W) Γ R p s := by
  refine run_spec (C := cfgW W con) (ext := ext) (n := n) (hs := hs) (den_ok F W) rfl rfl rfl hcon (lvTree_ok (by show lvF = lvTree; exact lv_eq.symm)) S H nd lo e os xs ob (fun nv => ?_) hob fin
  have := run nv
  unfold runC at this
  rw [show sxF = @sx from sx_eq.symm] at this
  exact this
theorem runL_ok {W : World} {con : CF} {s : Shared} {R : Result → Shared → Prop} {l : List (Nat × Obj)} {Γ : Ctx} {p : Pos} {env : Env} {fl : Bool} {n : Nat} {hs : List Nat} (ext : List Nat)
    (hcon : ConOk (baseOf (kt W.params) 769 l.length s) (MW W) (cfgW W con)) (hl : (lvTree Γ.code).map (·.2) = some (env, fl)) (S : Top W s) (H : Holds s l) (nd : (l.map (·.1)).Nodup) (lo : ∀ x ∈ l, 769 ≤ x.1)
    (e : Nv → End1) (os : Nv → List (Option Obj)) (xs : Nv → List Nat) (ob : Nv → Prop)
    (run : ∀ nv, look (List.range l.length ++ ext) (runL (cfgW W con) n Γ p env fl hs l s.heap.objs.size s.toks nv) = some (e nv, os nv, l.map (·.1) ++ xs nv, dup (eqsOf (runL (cfgW W con) n Γ p env fl hs l s.heap.objs.size s.toks nv)), dupG (gsOf (runL (cfgW W con) n Γ p env fl hs l s.heap.objs.size s.toks nv)), dupO (osOf (runL (cfgW W con) n Γ p env fl hs l s.heap.objs.size s.toks nv)), ob nv))
    (hob : ∀ nv, ob nv) (fin : ∀ nv s', After s s' (l.map (·.1)) (List.range l.length ++ ext) (l.map (·.1) ++ xs nv) (os nv) → EndOk (MW W) R (e nv) s') : wpCode (MW W) Γ R p s := by
  have hlv : (cfgW W con).lvt = lvTree := by show lvF = lvTree; exact lv_eq.symm
  have hl' : (cfgW W con).lvt Γ.code = some (lvOf (cfgW W con) Γ.code, env, fl) := by
    unfold lvOf
    rw [hlv]
    cases h : lvTree Γ.code with
    | none => rw [h] at hl; cases hl
    | some x =>
      obtain ⟨t, e', f'⟩ := x
      rw [h] at hl
      cases hl
      rfl
  refine run_lv (C := cfgW W con) (ext := ext) (n := n) (hs := hs) (den_ok F W) rfl rfl rfl hcon (lvTree_ok hlv) S H nd lo hl' e os xs ob (fun nv => ?_) hob fin
  have := run nv
  unfold runL at this
  rw [show sxF = @sx from sx_eq.symm] at this
  exact this
theorem conO_good {W : World} {s : Shared} {l : Nat} (O : Orc) : ConOk (baseOf (kt W.params) 769 l s) (MW W) (cfgW W (conO O)) :=
  fun j x Γ T m ads tk s p g hg hx _ _ ob D => conO_ok O j x Γ T m ads tk s p g hg hx ob D

/-! ### StringIO.read(1) -/
/-- the sign at a place, and the place behind it -/
noncomputable def rdAt (buf : List Nat) (pos : Nat) : List Nat := (buf.drop pos).take 1
theorem rdAt_lt {buf : List Nat} {pos : Nat} (h : pos < buf.length) : rdAt buf pos = [buf[pos]] := by
  unfold rdAt
  rw [List.drop_eq_getElem_cons h]; rfl
theorem slc_rd {buf : List Nat} {pos n : Nat} (h : pos < buf.length) (hn : n = pos + 1) (hs : buf.length ≤ sizeLine) {τ τ' : Tok} : SlcB "slice" ⟨⟨buf⟩⟩ (some ((pos : Int), τ)) (some ((n : Int), τ')) none (rdAt buf pos) := by
  subst hn
  have e : slicePicked ⟨⟨buf⟩⟩ (some ((pos : Int), τ)) (some (((pos + 1 : Nat) : Int), τ')) none = [pos] := by
    unfold slicePicked
    have := StrLaws.strSliceIndices_plain (a := pos) (b := pos + 1) (len := buf.length) (by omega) (by omega)
    simp only [Option.map_some, Option.map_none, Option.getD_none, Str.length, List.size_toArray] at this ⊢
    rw [this]
    simp [List.range_succ_eq_map]
  refine ⟨rfl, rfl, ?_, by rw [rdAt_lt h]; show 1 ≤ sizeLine; decide⟩
  rw [e, rdAt_lt h]
  split
  · rename_i hw
    have hw : buf.length = 1 := by
      have hw := (Bool.and_eq_true_iff.mp hw).2
      simp [Str.length] at hw
      omega
    obtain ⟨c, rfl⟩ : ∃ c, buf = [c] := by
      match buf, hw with
      | [c], _ => exact ⟨c, rfl⟩
    have : pos = 0 := by simpa using h
    subst this
    rfl
  · simp [h]
noncomputable def orcS (l : List Nat) : Orc := ⟨fun _ => l, fun _ => 0⟩
theorem read_ok {w : World} {b b2 : Bool} {a : Ar} {o : OutA} {q : Pos} {τ : Nat} {x : Lx} {pos τp : Nat} {s : Shared} {p : Pos} (S : Top (wld w b b2) s)
    (H : Holds s [(x.sio, inst 587 x.e), (x.e, sioD (wld w b b2).params x.sk x.nl (.str ⟨⟨x.buf⟩⟩ x.τb) (.int (.ofNat pos) τp))]) (hne : x.sio ≠ x.e) (l1 : 769 ≤ x.sio) (l2 : 769 ≤ x.e) (hb : x.buf.length ≤ sizeLine) :
    wpCode (MW (wld w b b2)) (ctxR a o q x.sio τ) (fun r s' => ∃ ν : Unk, r = .ok (.ret (.str ⟨⟨rdAt x.buf pos⟩⟩ (ν.n 0))) ∧
      Did s s' [(x.e, sioD (wld w b b2).params x.sk x.nl (.str ⟨⟨x.buf⟩⟩ x.τb) (.int (.ofNat (pos + (rdAt x.buf pos).length)) (ν.n 1)))] []) p s := by
  have nd : ([(x.sio, inst 587 x.e), (x.e, sioD (wld w b b2).params x.sk x.nl (.str ⟨⟨x.buf⟩⟩ x.τb) (.int (.ofNat pos) τp))].map (·.1)).Nodup := by simp [hne]
  have lo : ∀ y ∈ [(x.sio, inst 587 x.e), (x.e, sioD (wld w b b2).params x.sk x.nl (.str ⟨⟨x.buf⟩⟩ x.τb) (.int (.ofNat pos) τp))], 769 ≤ y.1 := by
    intro y hy
    simp only [List.mem_cons, List.not_mem_nil, or_false] at hy
    rcases hy with rfl | rfl
    · exact l1
    · exact l2
  have one : ∀ {s' : Shared} {o1 : Obj}, Did s s' [(x.sio, inst 587 x.e), (x.e, o1)] [] → Did s s' [(x.e, o1)] [] := fun {s' o1} D =>
    ⟨⟨fun b o hb hn => by
        by_cases e : b = x.sio
        · subst e
          have h1 := H (x.sio, inst 587 x.e) (by simp)
          have h2 := D.holds (x.sio, inst 587 x.e) (by simp)
          rw [hb] at h1
          cases h1
          exact h2
        · exact D.keep.keep b o hb (by simp only [List.map_cons, List.map_nil, List.mem_cons, List.not_mem_nil, or_false] at hn ⊢; exact fun z => z.elim e hn), D.keep.size, D.keep.gens, D.keep.drawn, D.keep.os⟩,
      fun y hy => D.holds y (List.mem_cons_of_mem _ hy), D.new, D.young, D.nodup⟩
  by_cases h1 : pos < x.buf.length
  · have e1 : pos + (rdAt x.buf pos).length = pos + 1 := by rw [rdAt_lt h1]; rfl
    by_cases h2 : pos + 1 < x.buf.length
    · refine runC_ok [] (conO_good (orcS (rdAt x.buf pos))) S H nd lo _ _ (fun _ => []) _ (fun nv => r1 w b b2 (orcS (rdAt x.buf pos)) a o q τ x.sio x.e x.sk x.nl ⟨⟨x.buf⟩⟩ x.τb (.ofNat pos) τp _ _ p nv) (fun nv => ?_) fun nv s' Af => ?_
      · exact ⟨slc_rd h1 rfl hb, by unfold LtB; simp [bOf, Str.length]; omega, by unfold GeB; simp [bOf, Str.length]; omega, hb, trivial⟩
      · show ∃ ν : Unk, _
        rw [e1]
        exact ⟨unkL [_, _], rfl, one (Af.did _ [] [] rfl rfl rfl (by simp) (by simp) rfl rfl)⟩
    · have e2 : x.buf.length = pos + 1 := by omega
      refine runC_ok [] (conO_good (orcS (rdAt x.buf pos))) S H nd lo _ _ (fun _ => []) _ (fun nv => r2 w b b2 (orcS (rdAt x.buf pos)) a o q τ x.sio x.e x.sk x.nl ⟨⟨x.buf⟩⟩ x.τb (.ofNat pos) τp _ _ p nv) (fun nv => ?_) fun nv s' Af => ?_
      · exact ⟨slc_rd h1 e2 hb, by unfold LtB; simp [bOf, Str.length]; omega, by unfold GeB; simp [bOf, Str.length]; omega, hb, trivial⟩
      · show ∃ ν : Unk, _
        rw [e1, ← e2]
        exact ⟨unkL [_, _], rfl, one (Af.did _ [] [] rfl rfl rfl (by simp) (by simp) rfl rfl)⟩
  · have e1 : rdAt x.buf pos = [] := by unfold rdAt; rw [List.drop_eq_nil_of_le (by omega)]; rfl
    refine runC_ok [] (conO_good orc0) S H nd lo _ _ (fun _ => []) _ (fun nv => r3 w b b2 orc0 a o q τ x.sio x.e x.sk x.nl ⟨⟨x.buf⟩⟩ x.τb (.ofNat pos) τp _ _ p nv) (fun nv => ?_) fun nv s' Af => ?_
    · exact ⟨by unfold GeB; simp [bOf, Str.length]; omega, hb, trivial⟩
    · show ∃ ν : Unk, _
      rw [e1]
      exact ⟨unkL [_, _], rfl, one (Af.did _ [] [] rfl rfl rfl (by simp) (by simp) rfl rfl)⟩
/-! S502 -/
/-! ### the turns in words of states -/
noncomputable def adL (a : Ar) (o : OutA) (x : Lx) : List Nat := [a.lex, x.d, x.sio, x.e, a.L, a.Lg, a.Ln, a.Ls] ++ outA o
structure Fx (a : Ar) (o : OutA) (x : Lx) : Prop where
  nd : (adL a o x).Nodup
  lo : ∀ y ∈ adL a o x, 769 ≤ y
  hb : x.buf.length ≤ sizeLine
theorem Fx.lo' {a : Ar} {o : OutA} {x : Lx} (F : Fx a o x) {l : List (Nat × Obj)} (h : l.map (·.1) = adL a o x := by rfl) : ∀ y ∈ l, 769 ≤ y.1 := fun y hy => F.lo _ (h ▸ List.mem_map.mpr ⟨y, hy, rfl⟩)
theorem rep_sane {W : World} {s₀ s : Shared} {l m tk : Nat} {T : BT} {ads : Ads} (D : Rep (baseOf (kt W.params) 769 l s₀) s T m ads tk) : Top W s := ⟨D.kt, by have := D.top; rw [← D.size] at this; exact this⟩
theorem conW_ok {w : World} {b b2 : Bool} {a : Ar} {o : OutA} {x : Lx} (F : Fx a o x) {pos τp : Nat} (c : List Nat) (hc : c = rdAt x.buf pos) (pos' : Nat) (hp : pos' = pos + c.length) {l : Nat} {s₀ : Shared} :
    ConOk (baseOf (kt (wld w b b2).params) 769 l s₀) (MW (wld w b b2)) (cfgW (wld w b b2) (conW (wld w b b2).params a o x pos τp c pos')) := by
  intro j y Γ T m ads tk s p g hg hx hn ho ob D
  obtain ⟨c0, e1, e2, bel, e3⟩ := Γ
  replace hg : conW (wld w b b2).params a o x pos τp c pos' j y ⟨c0, e1, e2, bel, e3⟩ c0 T ads = some g := hg
  unfold conW at hg
  split at hg
  · cases hg
    obtain ⟨h1, h2⟩ := conS_holds D hn ho
    generalize hq : posAt bel = q at hx
    simp only [conS, hq] at hx
    rw [hx]
    have nd := F.nd
    have lo := F.lo
    have hne : x.sio ≠ x.e := by
      intro e
      simp [adL, e] at nd
    refine wpCode_mono (fun r s' h => ?_) (read_ok (q := q) (rep_sane D) h1 hne (lo _ (by simp [adL])) (lo _ (by simp [adL])) F.hb)
    obtain ⟨ν, hr, hD⟩ := h
    rw [← hc, ← hp] at hD
    rw [← hc] at hr
    refine conS_left D ν r hr _ _ hD ?_ (fun z hz => ?_) rfl (fun k hk => absurd hk (Nat.not_lt_zero _))
    · have := (h2 (3, x.e, _) (List.mem_cons_of_mem _ (List.mem_cons_self ..))).2
      show [(x.e, _)] = [(adOf _ 3, _)]
      rw [← this]
    · simp only [List.mem_singleton] at hz
      subst hz
      exact (h2 (3, x.e, _) (List.mem_cons_of_mem _ (List.mem_cons_self ..))).1
  · exact conB_ok _ _ _ _ _ _ _ _ _ _ hg hx ob D
  · cases hg
theorem t0bc_ok {w : World} {b b2 : Bool} {a : Ar} {o : OutA} {x : Lx} (F : Fx a o x) {g : Nat → FrO} {fk : Nat → Nat} {et : Nat} {sl : Array (Option Value)} {τs ln τl τt pos τp : Nat} {c : Nat} {s : Shared} {p : Pos} {R : Result → Shared → Prop} (S : Top (wld w b b2) s)
    (hc : rdAt x.buf pos = [c]) (hob : InB wordL c 1 ∧ InB [92] c 0 ∧ InB [] c 0 ∧ InB [32, 9, 13, 10] c 0 ∧ LnB ⟨⟨[c]⟩⟩ ∧ EqB [c] [10] 0 ∧ True ∧ True) (H : Holds s (lxL (wld w b b2).params a.lex x (stV 32 τs) ln τl ⟨⟨[]⟩⟩ τt pos τp ++ (a.L, frW (wld w b b2).params a.lex fk et sl false none) :: frs a o g))
    (next : ∀ (τs2 τl2 τt2 τp2 κ2 τn2 : Nat) (p' : Pos) (s' : Shared), Did s s' (lxL (wld w b b2).params a.lex x (stV 97 τs2) ln τl2 ⟨⟨[c]⟩⟩ τt2 (pos + 1) τp2 ++ (a.L, frW (wld w b b2).params a.lex (setK fk 3 κ2) et sl false (some ([c], τn2))) :: frs a o g) [] → wpCode (MW (wld w b b2)) (ctxOf (wCode a.L) (a.W o)) R p' s') : wpCode (MW (wld w b b2)) (ctxOf (wCode a.L) (a.W o)) R p s := by
  refine runL_ok [] (conW_ok F [c] hc.symm (pos + 1) rfl) rfl S H F.nd F.lo' _ _ (fun _ => []) _ (fun nv => t0bc w b b2 a o x g fk et sl τs ln τl τt pos τp _ ([], 0) 0 [] false c  _ _ p nv) (fun _ => hob) fun nv s' Af => ?_
  try dsimp only at Af
  generalize runW _ _ _ _ _ _ _ _ _ _ _ _ _ _ _ = X at Af
  exact next (vt X 1 11) (vt X 1 13) (vt X 1 15) (vt X 3 2) (ktk X 4 3) (vt X 4 3) _ s' (Af.did _ [] [] rfl rfl rfl (by simp) (by simp) rfl rfl)
theorem t1aq_ok {w : World} {b b2 : Bool} {a : Ar} {o : OutA} {x : Lx} (F : Fx a o x) {g : Nat → FrO} {fk : Nat → Nat} {et : Nat} {sl : Array (Option Value)} {τs ln τl τt pos τp : Nat} {nc : List Nat × Nat} {tok : List Nat} {qd : Bool} {c : Nat} {s : Shared} {p : Pos} {R : Result → Shared → Prop} (S : Top (wld w b b2) s)
    (hc : rdAt x.buf pos = [c]) (hob : InB [39, 34] c 1 ∧ InB [] c 0 ∧ InB [32, 9, 13, 10] c 0 ∧ LnB ⟨⟨[c]⟩⟩ ∧ TupB "tuple" ⟨⟨[97]⟩⟩ ⟨⟨[97]⟩⟩ ∧ EqB [c] [10] 0 ∧ True ∧ True) (H : Holds s (lxL (wld w b b2).params a.lex x (stV 97 τs) ln τl ⟨⟨tok⟩⟩ τt pos τp ++ (a.L, frW (wld w b b2).params a.lex fk et sl qd (some nc)) :: frs a o g))
    (next : ∀ (τs2 τl2 τt2 τp2 κ2 τn2 : Nat) (p' : Pos) (s' : Shared), Did s s' (lxL (wld w b b2).params a.lex x (.str ⟨⟨[c]⟩⟩ τs2) ln τl2 ⟨⟨tok⟩⟩ τt2 (pos + 1) τp2 ++ (a.L, frW (wld w b b2).params a.lex (setK fk 3 κ2) et sl qd (some ([c], τn2))) :: frs a o g) [] → wpCode (MW (wld w b b2)) (ctxOf (wCode a.L) (a.W o)) R p' s') : wpCode (MW (wld w b b2)) (ctxOf (wCode a.L) (a.W o)) R p s := by
  refine runL_ok [] (conW_ok F [c] hc.symm (pos + 1) rfl) rfl S H F.nd F.lo' _ _ (fun _ => []) _ (fun nv => t1aq w b b2 a o x g fk et sl τs ln τl τt pos τp _ nc 0 tok qd c  _ _ p nv) (fun _ => hob) fun nv s' Af => ?_
  try dsimp only at Af
  generalize runW _ _ _ _ _ _ _ _ _ _ _ _ _ _ _ = X at Af
  exact next (vt X 1 11) (vt X 1 13) (vt X 1 15) (vt X 3 2) (ktk X 4 3) (vt X 4 3) _ s' (Af.did _ [] [] rfl rfl rfl (by simp) (by simp) rfl rfl)
theorem t1so_ok {w : World} {b b2 : Bool} {a : Ar} {o : OutA} {x : Lx} (F : Fx a o x) {g : Nat → FrO} {fk : Nat → Nat} {et : Nat} {sl : Array (Option Value)} {τs ln τl τt pos τp : Nat} {nc : List Nat × Nat} {tok : List Nat} {qd : Bool} {c : Nat} {s : Shared} {p : Pos} {R : Result → Shared → Prop} (S : Top (wld w b b2) s)
    (hc : rdAt x.buf pos = [c]) (hob : LeB ⟨⟨tok⟩⟩ ⟨⟨[c]⟩⟩ ∧ InB [92] c 0 ∧ EqB [c] [39] 0 ∧ LnB ⟨⟨[c]⟩⟩ ∧ EqB [c] [10] 0 ∧ True ∧ True) (H : Holds s (lxL (wld w b b2).params a.lex x (stV 39 τs) ln τl ⟨⟨tok⟩⟩ τt pos τp ++ (a.L, frW (wld w b b2).params a.lex fk et sl qd (some nc)) :: frs a o g))
    (next : ∀ (τs2 τl2 τt2 τp2 κ2 τn2 : Nat) (p' : Pos) (s' : Shared), Did s s' (lxL (wld w b b2).params a.lex x (stV 39 τs2) ln τl2 (⟨⟨tok⟩⟩ ++ ⟨⟨[c]⟩⟩) τt2 (pos + 1) τp2 ++ (a.L, frW (wld w b b2).params a.lex (setK fk 3 κ2) et sl true (some ([c], τn2))) :: frs a o g) [] → wpCode (MW (wld w b b2)) (ctxOf (wCode a.L) (a.W o)) R p' s') : wpCode (MW (wld w b b2)) (ctxOf (wCode a.L) (a.W o)) R p s := by
  refine runL_ok [] (conW_ok F [c] hc.symm (pos + 1) rfl) rfl S H F.nd F.lo' _ _ (fun _ => []) _ (fun nv => t1so w b b2 a o x g fk et sl τs ln τl τt pos τp _ nc 0 tok qd c  _ _ p nv) (fun _ => hob) fun nv s' Af => ?_
  try dsimp only at Af
  generalize runW _ _ _ _ _ _ _ _ _ _ _ _ _ _ _ = X at Af
  exact next (vt X 1 11) (vt X 1 13) (vt X 1 15) (vt X 3 2) (ktk X 4 3) (vt X 4 3) _ s' (Af.did _ [] [] rfl rfl rfl (by simp) (by simp) rfl rfl)
theorem t1sz_ok {w : World} {b b2 : Bool} {a : Ar} {o : OutA} {x : Lx} (F : Fx a o x) {g : Nat → FrO} {fk : Nat → Nat} {et : Nat} {sl : Array (Option Value)} {τs ln τl τt pos τp : Nat} {nc : List Nat × Nat} {tok : List Nat} {qd : Bool} {c : Nat} {s : Shared} {p : Pos} {R : Result → Shared → Prop} (S : Top (wld w b b2) s)
    (hc : rdAt x.buf pos = [c]) (hob : EqB [c] [39] 1 ∧ LnB ⟨⟨[c]⟩⟩ ∧ EqB [c] [10] 0 ∧ True ∧ True) (H : Holds s (lxL (wld w b b2).params a.lex x (stV 39 τs) ln τl ⟨⟨tok⟩⟩ τt pos τp ++ (a.L, frW (wld w b b2).params a.lex fk et sl qd (some nc)) :: frs a o g))
    (next : ∀ (τs2 τl2 τt2 τp2 κ2 τn2 : Nat) (p' : Pos) (s' : Shared), Did s s' (lxL (wld w b b2).params a.lex x (stV 97 τs2) ln τl2 ⟨⟨tok⟩⟩ τt2 (pos + 1) τp2 ++ (a.L, frW (wld w b b2).params a.lex (setK fk 3 κ2) et sl true (some ([c], τn2))) :: frs a o g) [] → wpCode (MW (wld w b b2)) (ctxOf (wCode a.L) (a.W o)) R p' s') : wpCode (MW (wld w b b2)) (ctxOf (wCode a.L) (a.W o)) R p s := by
  refine runL_ok [] (conW_ok F [c] hc.symm (pos + 1) rfl) rfl S H F.nd F.lo' _ _ (fun _ => []) _ (fun nv => t1sz w b b2 a o x g fk et sl τs ln τl τt pos τp _ nc 0 tok qd c  _ _ p nv) (fun _ => hob) fun nv s' Af => ?_
  try dsimp only at Af
  generalize runW _ _ _ _ _ _ _ _ _ _ _ _ _ _ _ = X at Af
  exact next (vt X 1 11) (vt X 1 13) (vt X 1 15) (vt X 3 2) (ktk X 4 3) (vt X 4 3) _ s' (Af.did _ [] [] rfl rfl rfl (by simp) (by simp) rfl rfl)
theorem t1ac_ok {w : World} {b b2 : Bool} {a : Ar} {o : OutA} {x : Lx} (F : Fx a o x) {g : Nat → FrO} {fk : Nat → Nat} {et : Nat} {sl : Array (Option Value)} {τs ln τl τt pos τp : Nat} {nc : List Nat × Nat} {tok : List Nat} {qd : Bool} {c : Nat} {s : Shared} {p : Pos} {R : Result → Shared → Prop} (S : Top (wld w b b2) s)
    (hc : rdAt x.buf pos = [c]) (hob : LeB ⟨⟨tok⟩⟩ ⟨⟨[c]⟩⟩ ∧ InB wordL c 1 ∧ InB [92] c 0 ∧ InB [39, 34] c 0 ∧ InB [] c 0 ∧ InB [32, 9, 13, 10] c 0 ∧ LnB ⟨⟨[c]⟩⟩ ∧ TupB "tuple" ⟨⟨[97]⟩⟩ ⟨⟨[97]⟩⟩ ∧ EqB [c] [10] 0 ∧ True ∧ True) (H : Holds s (lxL (wld w b b2).params a.lex x (stV 97 τs) ln τl ⟨⟨tok⟩⟩ τt pos τp ++ (a.L, frW (wld w b b2).params a.lex fk et sl qd (some nc)) :: frs a o g))
    (next : ∀ (τs2 τl2 τt2 τp2 κ2 τn2 : Nat) (p' : Pos) (s' : Shared), Did s s' (lxL (wld w b b2).params a.lex x (stV 97 τs2) ln τl2 (⟨⟨tok⟩⟩ ++ ⟨⟨[c]⟩⟩) τt2 (pos + 1) τp2 ++ (a.L, frW (wld w b b2).params a.lex (setK fk 3 κ2) et sl qd (some ([c], τn2))) :: frs a o g) [] → wpCode (MW (wld w b b2)) (ctxOf (wCode a.L) (a.W o)) R p' s') : wpCode (MW (wld w b b2)) (ctxOf (wCode a.L) (a.W o)) R p s := by
  refine runL_ok [] (conW_ok F [c] hc.symm (pos + 1) rfl) rfl S H F.nd F.lo' _ _ (fun _ => []) _ (fun nv => t1ac w b b2 a o x g fk et sl τs ln τl τt pos τp _ nc 0 tok qd c  _ _ p nv) (fun _ => hob) fun nv s' Af => ?_
  try dsimp only at Af
  generalize runW _ _ _ _ _ _ _ _ _ _ _ _ _ _ _ = X at Af
  exact next (vt X 1 11) (vt X 1 13) (vt X 1 15) (vt X 3 2) (ktk X 4 3) (vt X 4 3) _ s' (Af.did _ [] [] rfl rfl rfl (by simp) (by simp) rfl rfl)
theorem t1do_ok {w : World} {b b2 : Bool} {a : Ar} {o : OutA} {x : Lx} (F : Fx a o x) {g : Nat → FrO} {fk : Nat → Nat} {et : Nat} {sl : Array (Option Value)} {τs ln τl τt pos τp : Nat} {nc : List Nat × Nat} {tok : List Nat} {qd : Bool} {c : Nat} {s : Shared} {p : Pos} {R : Result → Shared → Prop} (S : Top (wld w b b2) s)
    (hc : rdAt x.buf pos = [c]) (hob : LeB ⟨⟨tok⟩⟩ ⟨⟨[c]⟩⟩ ∧ InB [92] c 0 ∧ EqB [c] [34] 0 ∧ LnB ⟨⟨[c]⟩⟩ ∧ EqB [c] [10] 0 ∧ True ∧ True) (H : Holds s (lxL (wld w b b2).params a.lex x (stV 34 τs) ln τl ⟨⟨tok⟩⟩ τt pos τp ++ (a.L, frW (wld w b b2).params a.lex fk et sl qd (some nc)) :: frs a o g))
    (next : ∀ (τs2 τl2 τt2 τp2 κ2 τn2 : Nat) (p' : Pos) (s' : Shared), Did s s' (lxL (wld w b b2).params a.lex x (stV 34 τs2) ln τl2 (⟨⟨tok⟩⟩ ++ ⟨⟨[c]⟩⟩) τt2 (pos + 1) τp2 ++ (a.L, frW (wld w b b2).params a.lex (setK fk 3 κ2) et sl true (some ([c], τn2))) :: frs a o g) [] → wpCode (MW (wld w b b2)) (ctxOf (wCode a.L) (a.W o)) R p' s') : wpCode (MW (wld w b b2)) (ctxOf (wCode a.L) (a.W o)) R p s := by
  refine runL_ok [] (conW_ok F [c] hc.symm (pos + 1) rfl) rfl S H F.nd F.lo' _ _ (fun _ => []) _ (fun nv => t1do w b b2 a o x g fk et sl τs ln τl τt pos τp _ nc 0 tok qd c  _ _ p nv) (fun _ => hob) fun nv s' Af => ?_
  try dsimp only at Af
  generalize runW _ _ _ _ _ _ _ _ _ _ _ _ _ _ _ = X at Af
  exact next (vt X 1 11) (vt X 1 13) (vt X 1 15) (vt X 3 2) (ktk X 4 3) (vt X 4 3) _ s' (Af.did _ [] [] rfl rfl rfl (by simp) (by simp) rfl rfl)
theorem t1de_ok {w : World} {b b2 : Bool} {a : Ar} {o : OutA} {x : Lx} (F : Fx a o x) {g : Nat → FrO} {fk : Nat → Nat} {et : Nat} {sl : Array (Option Value)} {τs ln τl τt pos τp : Nat} {nc : List Nat × Nat} {tok : List Nat} {qd : Bool} {s : Shared} {p : Pos} {R : Result → Shared → Prop} (S : Top (wld w b b2) s)
    (hc : rdAt x.buf pos = []) (hob : True ∧ True) (H : Holds s (lxL (wld w b b2).params a.lex x (stV 34 τs) ln τl ⟨⟨tok⟩⟩ τt pos τp ++ (a.L, frW (wld w b b2).params a.lex fk et sl qd (some nc)) :: frs a o g))
    (next : ∀ (τs2 τl2 τt2 τp2 κ2 τn2 : Nat) (sl2 : Array (Option Value)) (gsl : Nat → Array (Option Value)) (esl : Array (Option Value)) (ea ga ta : Nat) (tl : Array Value) (s' : Shared), Did s s' (lxL (wld w b b2).params a.lex x (stV 34 τs2) ln τl2 ⟨⟨tok⟩⟩ τt2 pos τp2 ++ (a.L, frW (wld w b b2).params a.lex (setK fk 3 κ2) et sl2 true (some ([], τn2))) :: frs a o (fun i => ⟨(g i).es, (g i).n, gsl i⟩)) [(ea, excO "ValueError" ga ta esl), (ta, entryO .none a.L (.int (.ofNat a.L) 0) tl)] → R (.error (.ref ea)) s') : wpCode (MW (wld w b b2)) (ctxOf (wCode a.L) (a.W o)) R p s := by
  refine runL_ok [11, 13] (conW_ok F [] hc.symm pos rfl) rfl S H F.nd F.lo' _ _ (fun _ => [_, _]) _ (fun nv => t1de w b b2 a o x g fk et sl τs ln τl τt pos τp _ nc 0 tok qd 0  _ _ p nv) (fun _ => hob) fun nv s' Af => ?_
  try dsimp only at Af
  generalize runW _ _ _ _ _ _ _ _ _ _ _ _ _ _ _ = X at Af
  exact next (vt X 1 11) (vt X 1 13) (vt X 1 15) (vt X 3 2) (ktk X 4 3) (vt X 4 3) (slOf X 4) (fun i => slOf X (5 + i)) (slOf X 11) (adAt X 11) (adAt X 12) (adAt X 13) (tlOf X 13) s' (Af.did _ [_, _] [11, 13] rfl rfl rfl (by simp [as_, lxL, frs, outF]) (by simp) rfl rfl)
theorem t1dz_ok {w : World} {b b2 : Bool} {a : Ar} {o : OutA} {x : Lx} (F : Fx a o x) {g : Nat → FrO} {fk : Nat → Nat} {et : Nat} {sl : Array (Option Value)} {τs ln τl τt pos τp : Nat} {nc : List Nat × Nat} {tok : List Nat} {qd : Bool} {c : Nat} {s : Shared} {p : Pos} {R : Result → Shared → Prop} (S : Top (wld w b b2) s)
    (hc : rdAt x.buf pos = [c]) (hob : EqB [c] [34] 1 ∧ LnB ⟨⟨[c]⟩⟩ ∧ EqB [c] [10] 0 ∧ True ∧ True) (H : Holds s (lxL (wld w b b2).params a.lex x (stV 34 τs) ln τl ⟨⟨tok⟩⟩ τt pos τp ++ (a.L, frW (wld w b b2).params a.lex fk et sl qd (some nc)) :: frs a o g))
    (next : ∀ (τs2 τl2 τt2 τp2 κ2 τn2 : Nat) (p' : Pos) (s' : Shared), Did s s' (lxL (wld w b b2).params a.lex x (stV 97 τs2) ln τl2 ⟨⟨tok⟩⟩ τt2 (pos + 1) τp2 ++ (a.L, frW (wld w b b2).params a.lex (setK fk 3 κ2) et sl true (some ([c], τn2))) :: frs a o g) [] → wpCode (MW (wld w b b2)) (ctxOf (wCode a.L) (a.W o)) R p' s') : wpCode (MW (wld w b b2)) (ctxOf (wCode a.L) (a.W o)) R p s := by
  refine runL_ok [] (conW_ok F [c] hc.symm (pos + 1) rfl) rfl S H F.nd F.lo' _ _ (fun _ => []) _ (fun nv => t1dz w b b2 a o x g fk et sl τs ln τl τt pos τp _ nc 0 tok qd c  _ _ p nv) (fun _ => hob) fun nv s' Af => ?_
  try dsimp only at Af
  generalize runW _ _ _ _ _ _ _ _ _ _ _ _ _ _ _ = X at Af
  exact next (vt X 1 11) (vt X 1 13) (vt X 1 15) (vt X 3 2) (ktk X 4 3) (vt X 4 3) _ s' (Af.did _ [] [] rfl rfl rfl (by simp) (by simp) rfl rfl)
theorem t1ae_ok {w : World} {b b2 : Bool} {a : Ar} {o : OutA} {x : Lx} (F : Fx a o x) {g : Nat → FrO} {fk : Nat → Nat} {et : Nat} {sl : Array (Option Value)} {τs ln τl τt pos τp : Nat} {nc : List Nat × Nat} {tok : List Nat} {qd : Bool} {s : Shared} {p : Pos} {R : Result → Shared → Prop} (S : Top (wld w b b2) s)
    (hc : rdAt x.buf pos = []) (hob : TupB "tuple" ⟨⟨[97]⟩⟩ ⟨⟨[97]⟩⟩ ∧ True ∧ True) (H : Holds s (lxL (wld w b b2).params a.lex x (stV 97 τs) ln τl ⟨⟨tok⟩⟩ τt pos τp ++ (a.L, frW (wld w b b2).params a.lex fk et sl qd (some nc)) :: frs a o g))
    (next : ∀ (τs2 τl2 τt2 τp2 κ2 τn2 : Nat) (s' : Shared), Did s s' (lxL (wld w b b2).params a.lex x (stV 0 τs2) ln τl2 ⟨⟨tok⟩⟩ τt2 pos τp2 ++ (a.L, frW (wld w b b2).params a.lex (setK fk 3 κ2) et sl qd (some ([], τn2))) :: frs a o g) [] → R (.ok .next) s') : wpCode (MW (wld w b b2)) (ctxOf (wCode a.L) (a.W o)) R p s := by
  refine runL_ok [] (conW_ok F [] hc.symm pos rfl) rfl S H F.nd F.lo' _ _ (fun _ => []) _ (fun nv => t1ae w b b2 a o x g fk et sl τs ln τl τt pos τp _ nc 0 tok qd 0  _ _ p nv) (fun _ => hob) fun nv s' Af => ?_
  try dsimp only at Af
  generalize runW _ _ _ _ _ _ _ _ _ _ _ _ _ _ _ = X at Af
  exact next (vt X 1 11) (vt X 1 13) (vt X 1 15) (vt X 3 2) (ktk X 4 3) (vt X 4 3) s' (Af.did _ [] [] rfl rfl rfl (by simp) (by simp) rfl rfl)
theorem t0nx_ok {w : World} {b b2 : Bool} {a : Ar} {o : OutA} {x : Lx} (F : Fx a o x) {g : Nat → FrO} {fk : Nat → Nat} {et : Nat} {sl : Array (Option Value)} {τs ln τl τt pos τp : Nat} {s : Shared} {p : Pos} {R : Result → Shared → Prop} (S : Top (wld w b b2) s)
    (hc : rdAt x.buf pos = []) (hob : True ∧ True) (H : Holds s (lxL (wld w b b2).params a.lex x (stV 0 τs) ln τl ⟨⟨[]⟩⟩ τt pos τp ++ (a.L, frW (wld w b b2).params a.lex fk et sl false none) :: frs a o g))
    (next : ∀ (τs2 τl2 τt2 τp2 κ2 τn2 : Nat) (s' : Shared), Did s s' (lxL (wld w b b2).params a.lex x (stV 0 τs2) ln τl2 ⟨⟨[]⟩⟩ τt2 pos τp2 ++ (a.L, frW (wld w b b2).params a.lex (setK fk 3 κ2) et sl false (some ([], τn2))) :: frs a o g) [] → R (.ok .next) s') : wpCode (MW (wld w b b2)) (ctxOf (wCode a.L) (a.W o)) R p s := by
  refine runL_ok [] (conW_ok F [] hc.symm pos rfl) rfl S H F.nd F.lo' _ _ (fun _ => []) _ (fun nv => t0nx w b b2 a o x g fk et sl τs ln τl τt pos τp _ ([], 0) 0 [] false 0  _ _ p nv) (fun _ => hob) fun nv s' Af => ?_
  try dsimp only at Af
  generalize runW _ _ _ _ _ _ _ _ _ _ _ _ _ _ _ = X at Af
  exact next (vt X 1 11) (vt X 1 13) (vt X 1 15) (vt X 3 2) (ktk X 4 3) (vt X 4 3) s' (Af.did _ [] [] rfl rfl rfl (by simp) (by simp) rfl rfl)
theorem t0bq_ok {w : World} {b b2 : Bool} {a : Ar} {o : OutA} {x : Lx} (F : Fx a o x) {g : Nat → FrO} {fk : Nat → Nat} {et : Nat} {sl : Array (Option Value)} {τs ln τl τt pos τp : Nat} {c : Nat} {s : Shared} {p : Pos} {R : Result → Shared → Prop} (S : Top (wld w b b2) s)
    (hc : rdAt x.buf pos = [c]) (hob : InB [39, 34] c 1 ∧ InB [] c 0 ∧ InB wordL c 0 ∧ InB [92] c 0 ∧ InB [] c 0 ∧ InB [32, 9, 13, 10] c 0 ∧ LnB ⟨⟨[c]⟩⟩ ∧ EqB [c] [10] 0 ∧ True ∧ True) (H : Holds s (lxL (wld w b b2).params a.lex x (stV 32 τs) ln τl ⟨⟨[]⟩⟩ τt pos τp ++ (a.L, frW (wld w b b2).params a.lex fk et sl false none) :: frs a o g))
    (next : ∀ (τs2 τl2 τt2 τp2 κ2 τn2 : Nat) (p' : Pos) (s' : Shared), Did s s' (lxL (wld w b b2).params a.lex x (.str ⟨⟨[c]⟩⟩ τs2) ln τl2 ⟨⟨[]⟩⟩ τt2 (pos + 1) τp2 ++ (a.L, frW (wld w b b2).params a.lex (setK fk 3 κ2) et sl false (some ([c], τn2))) :: frs a o g) [] → wpCode (MW (wld w b b2)) (ctxOf (wCode a.L) (a.W o)) R p' s') : wpCode (MW (wld w b b2)) (ctxOf (wCode a.L) (a.W o)) R p s := by
  refine runL_ok [] (conW_ok F [c] hc.symm (pos + 1) rfl) rfl S H F.nd F.lo' _ _ (fun _ => []) _ (fun nv => t0bq w b b2 a o x g fk et sl τs ln τl τt pos τp _ ([], 0) 0 [] false c  _ _ p nv) (fun _ => hob) fun nv s' Af => ?_
  try dsimp only at Af
  generalize runW _ _ _ _ _ _ _ _ _ _ _ _ _ _ _ = X at Af
  exact next (vt X 1 11) (vt X 1 13) (vt X 1 15) (vt X 3 2) (ktk X 4 3) (vt X 4 3) _ s' (Af.did _ [] [] rfl rfl rfl (by simp) (by simp) rfl rfl)
theorem t1awn_ok {w : World} {b b2 : Bool} {a : Ar} {o : OutA} {x : Lx} (F : Fx a o x) {g : Nat → FrO} {fk : Nat → Nat} {et : Nat} {sl : Array (Option Value)} {τs ln τl τt pos τp : Nat} {nc : List Nat × Nat} {a0 : Nat} {tok : List Nat} {qd : Bool} {c : Nat} {s : Shared} {p : Pos} {R : Result → Shared → Prop} (S : Top (wld w b b2) s)
    (hc : rdAt x.buf pos = [c]) (hob : LnB ⟨⟨a0 :: tok⟩⟩ ∧ InB [32, 9, 13, 10] c 1 ∧ LnB ⟨⟨[c]⟩⟩ ∧ TupB "tuple" ⟨⟨[97]⟩⟩ ⟨⟨[97]⟩⟩ ∧ EqB [c] [10] 0 ∧ True ∧ True) (H : Holds s (lxL (wld w b b2).params a.lex x (stV 97 τs) ln τl ⟨⟨(a0 :: tok)⟩⟩ τt pos τp ++ (a.L, frW (wld w b b2).params a.lex fk et sl qd (some nc)) :: frs a o g))
    (next : ∀ (τs2 τl2 τt2 τp2 κ2 τn2 : Nat) (s' : Shared), Did s s' (lxL (wld w b b2).params a.lex x (stV 32 τs2) ln τl2 ⟨⟨(a0 :: tok)⟩⟩ τt2 (pos + 1) τp2 ++ (a.L, frW (wld w b b2).params a.lex (setK fk 3 κ2) et sl qd (some ([c], τn2))) :: frs a o g) [] → R (.ok .next) s') : wpCode (MW (wld w b b2)) (ctxOf (wCode a.L) (a.W o)) R p s := by
  refine runL_ok [] (conW_ok F [c] hc.symm (pos + 1) rfl) rfl S H F.nd F.lo' _ _ (fun _ => []) _ (fun nv => t1awn w b b2 a o x g fk et sl τs ln τl τt pos τp _ nc a0 tok qd c  _ _ p nv) (fun _ => hob) fun nv s' Af => ?_
  try dsimp only at Af
  generalize runW _ _ _ _ _ _ _ _ _ _ _ _ _ _ _ = X at Af
  exact next (vt X 1 11) (vt X 1 13) (vt X 1 15) (vt X 3 2) (ktk X 4 3) (vt X 4 3) s' (Af.did _ [] [] rfl rfl rfl (by simp) (by simp) rfl rfl)
theorem t0bw_ok {w : World} {b b2 : Bool} {a : Ar} {o : OutA} {x : Lx} (F : Fx a o x) {g : Nat → FrO} {fk : Nat → Nat} {et : Nat} {sl : Array (Option Value)} {τs ln τl τt pos τp : Nat} {c : Nat} {s : Shared} {p : Pos} {R : Result → Shared → Prop} (S : Top (wld w b b2) s)
    (hc : rdAt x.buf pos = [c]) (hob : InB [32, 9, 13, 10] c 1 ∧ LnB ⟨⟨[c]⟩⟩ ∧ EqB [c] [10] 0 ∧ True ∧ True) (H : Holds s (lxL (wld w b b2).params a.lex x (stV 32 τs) ln τl ⟨⟨[]⟩⟩ τt pos τp ++ (a.L, frW (wld w b b2).params a.lex fk et sl false none) :: frs a o g))
    (next : ∀ (τs2 τl2 τt2 τp2 κ2 τn2 : Nat) (p' : Pos) (s' : Shared), Did s s' (lxL (wld w b b2).params a.lex x (stV 32 τs2) ln τl2 ⟨⟨[]⟩⟩ τt2 (pos + 1) τp2 ++ (a.L, frW (wld w b b2).params a.lex (setK fk 3 κ2) et sl false (some ([c], τn2))) :: frs a o g) [] → wpCode (MW (wld w b b2)) (ctxOf (wCode a.L) (a.W o)) R p' s') : wpCode (MW (wld w b b2)) (ctxOf (wCode a.L) (a.W o)) R p s := by
  refine runL_ok [] (conW_ok F [c] hc.symm (pos + 1) rfl) rfl S H F.nd F.lo' _ _ (fun _ => []) _ (fun nv => t0bw w b b2 a o x g fk et sl τs ln τl τt pos τp _ ([], 0) 0 [] false c  _ _ p nv) (fun _ => hob) fun nv s' Af => ?_
  try dsimp only at Af
  generalize runW _ _ _ _ _ _ _ _ _ _ _ _ _ _ _ = X at Af
  exact next (vt X 1 11) (vt X 1 13) (vt X 1 15) (vt X 3 2) (ktk X 4 3) (vt X 4 3) _ s' (Af.did _ [] [] rfl rfl rfl (by simp) (by simp) rfl rfl)
theorem t1bq_ok {w : World} {b b2 : Bool} {a : Ar} {o : OutA} {x : Lx} (F : Fx a o x) {g : Nat → FrO} {fk : Nat → Nat} {et : Nat} {sl : Array (Option Value)} {τs ln τl τt pos τp : Nat} {nc : List Nat × Nat} {c : Nat} {s : Shared} {p : Pos} {R : Result → Shared → Prop} (S : Top (wld w b b2) s)
    (hc : rdAt x.buf pos = [c]) (hob : InB [39, 34] c 1 ∧ InB [] c 0 ∧ InB wordL c 0 ∧ InB [92] c 0 ∧ InB [] c 0 ∧ InB [32, 9, 13, 10] c 0 ∧ LnB ⟨⟨[c]⟩⟩ ∧ EqB [c] [10] 0 ∧ True ∧ True) (H : Holds s (lxL (wld w b b2).params a.lex x (stV 32 τs) ln τl ⟨⟨[]⟩⟩ τt pos τp ++ (a.L, frW (wld w b b2).params a.lex fk et sl false (some nc)) :: frs a o g))
    (next : ∀ (τs2 τl2 τt2 τp2 κ2 τn2 : Nat) (p' : Pos) (s' : Shared), Did s s' (lxL (wld w b b2).params a.lex x (.str ⟨⟨[c]⟩⟩ τs2) ln τl2 ⟨⟨[]⟩⟩ τt2 (pos + 1) τp2 ++ (a.L, frW (wld w b b2).params a.lex (setK fk 3 κ2) et sl false (some ([c], τn2))) :: frs a o g) [] → wpCode (MW (wld w b b2)) (ctxOf (wCode a.L) (a.W o)) R p' s') : wpCode (MW (wld w b b2)) (ctxOf (wCode a.L) (a.W o)) R p s := by
  refine runL_ok [] (conW_ok F [c] hc.symm (pos + 1) rfl) rfl S H F.nd F.lo' _ _ (fun _ => []) _ (fun nv => t1bq w b b2 a o x g fk et sl τs ln τl τt pos τp _ nc 0 [] false c  _ _ p nv) (fun _ => hob) fun nv s' Af => ?_
  try dsimp only at Af
  generalize runW _ _ _ _ _ _ _ _ _ _ _ _ _ _ _ = X at Af
  exact next (vt X 1 11) (vt X 1 13) (vt X 1 15) (vt X 3 2) (ktk X 4 3) (vt X 4 3) _ s' (Af.did _ [] [] rfl rfl rfl (by simp) (by simp) rfl rfl)
theorem t0bo_ok {w : World} {b b2 : Bool} {a : Ar} {o : OutA} {x : Lx} (F : Fx a o x) {g : Nat → FrO} {fk : Nat → Nat} {et : Nat} {sl : Array (Option Value)} {τs ln τl τt pos τp : Nat} {c : Nat} {s : Shared} {p : Pos} {R : Result → Shared → Prop} (S : Top (wld w b b2) s)
    (hc : rdAt x.buf pos = [c]) (hob : InB [39, 34] c 0 ∧ InB [] c 0 ∧ InB wordL c 0 ∧ InB [92] c 0 ∧ InB [] c 0 ∧ InB [32, 9, 13, 10] c 0 ∧ LnB ⟨⟨[c]⟩⟩ ∧ EqB [c] [10] 0 ∧ True ∧ True) (H : Holds s (lxL (wld w b b2).params a.lex x (stV 32 τs) ln τl ⟨⟨[]⟩⟩ τt pos τp ++ (a.L, frW (wld w b b2).params a.lex fk et sl false none) :: frs a o g))
    (next : ∀ (τs2 τl2 τt2 τp2 κ2 τn2 : Nat) (p' : Pos) (s' : Shared), Did s s' (lxL (wld w b b2).params a.lex x (stV 97 τs2) ln τl2 ⟨⟨[c]⟩⟩ τt2 (pos + 1) τp2 ++ (a.L, frW (wld w b b2).params a.lex (setK fk 3 κ2) et sl false (some ([c], τn2))) :: frs a o g) [] → wpCode (MW (wld w b b2)) (ctxOf (wCode a.L) (a.W o)) R p' s') : wpCode (MW (wld w b b2)) (ctxOf (wCode a.L) (a.W o)) R p s := by
  refine runL_ok [] (conW_ok F [c] hc.symm (pos + 1) rfl) rfl S H F.nd F.lo' _ _ (fun _ => []) _ (fun nv => t0bo w b b2 a o x g fk et sl τs ln τl τt pos τp _ ([], 0) 0 [] false c  _ _ p nv) (fun _ => hob) fun nv s' Af => ?_
  try dsimp only at Af
  generalize runW _ _ _ _ _ _ _ _ _ _ _ _ _ _ _ = X at Af
  exact next (vt X 1 11) (vt X 1 13) (vt X 1 15) (vt X 3 2) (ktk X 4 3) (vt X 4 3) _ s' (Af.did _ [] [] rfl rfl rfl (by simp) (by simp) rfl rfl)
theorem t1se_ok {w : World} {b b2 : Bool} {a : Ar} {o : OutA} {x : Lx} (F : Fx a o x) {g : Nat → FrO} {fk : Nat → Nat} {et : Nat} {sl : Array (Option Value)} {τs ln τl τt pos τp : Nat} {nc : List Nat × Nat} {tok : List Nat} {qd : Bool} {s : Shared} {p : Pos} {R : Result → Shared → Prop} (S : Top (wld w b b2) s)
    (hc : rdAt x.buf pos = []) (hob : True ∧ True) (H : Holds s (lxL (wld w b b2).params a.lex x (stV 39 τs) ln τl ⟨⟨tok⟩⟩ τt pos τp ++ (a.L, frW (wld w b b2).params a.lex fk et sl qd (some nc)) :: frs a o g))
    (next : ∀ (τs2 τl2 τt2 τp2 κ2 τn2 : Nat) (sl2 : Array (Option Value)) (gsl : Nat → Array (Option Value)) (esl : Array (Option Value)) (ea ga ta : Nat) (tl : Array Value) (s' : Shared), Did s s' (lxL (wld w b b2).params a.lex x (stV 39 τs2) ln τl2 ⟨⟨tok⟩⟩ τt2 pos τp2 ++ (a.L, frW (wld w b b2).params a.lex (setK fk 3 κ2) et sl2 true (some ([], τn2))) :: frs a o (fun i => ⟨(g i).es, (g i).n, gsl i⟩)) [(ea, excO "ValueError" ga ta esl), (ta, entryO .none a.L (.int (.ofNat a.L) 0) tl)] → R (.error (.ref ea)) s') : wpCode (MW (wld w b b2)) (ctxOf (wCode a.L) (a.W o)) R p s := by
  refine runL_ok [11, 13] (conW_ok F [] hc.symm pos rfl) rfl S H F.nd F.lo' _ _ (fun _ => [_, _]) _ (fun nv => t1se w b b2 a o x g fk et sl τs ln τl τt pos τp _ nc 0 tok qd 0  _ _ p nv) (fun _ => hob) fun nv s' Af => ?_
  try dsimp only at Af
  generalize runW _ _ _ _ _ _ _ _ _ _ _ _ _ _ _ = X at Af
  exact next (vt X 1 11) (vt X 1 13) (vt X 1 15) (vt X 3 2) (ktk X 4 3) (vt X 4 3) (slOf X 4) (fun i => slOf X (5 + i)) (slOf X 11) (adAt X 11) (adAt X 12) (adAt X 13) (tlOf X 13) s' (Af.did _ [_, _] [11, 13] rfl rfl rfl (by simp [as_, lxL, frs, outF]) (by simp) rfl rfl)
theorem t1sl_ok {w : World} {b b2 : Bool} {a : Ar} {o : OutA} {x : Lx} (F : Fx a o x) {g : Nat → FrO} {fk : Nat → Nat} {et : Nat} {sl : Array (Option Value)} {τs ln τl τt pos τp : Nat} {nc : List Nat × Nat} {tok : List Nat} {qd : Bool} {c : Nat} {s : Shared} {p : Pos} {R : Result → Shared → Prop} (S : Top (wld w b b2) s)
    (hc : rdAt x.buf pos = [c]) (hob : LeB ⟨⟨tok⟩⟩ ⟨⟨[c]⟩⟩ ∧ InB [92] c 0 ∧ EqB [c] [39] 0 ∧ LnB ⟨⟨[c]⟩⟩ ∧ EqB [c] [10] 1 ∧ True ∧ True) (H : Holds s (lxL (wld w b b2).params a.lex x (stV 39 τs) ln τl ⟨⟨tok⟩⟩ τt pos τp ++ (a.L, frW (wld w b b2).params a.lex fk et sl qd (some nc)) :: frs a o g))
    (next : ∀ (τs2 τl2 τt2 τp2 κ2 τn2 : Nat) (p' : Pos) (s' : Shared), Did s s' (lxL (wld w b b2).params a.lex x (stV 39 τs2) (ln + 1) τl2 (⟨⟨tok⟩⟩ ++ ⟨⟨[c]⟩⟩) τt2 (pos + 1) τp2 ++ (a.L, frW (wld w b b2).params a.lex (setK fk 3 κ2) et sl true (some ([c], τn2))) :: frs a o g) [] → wpCode (MW (wld w b b2)) (ctxOf (wCode a.L) (a.W o)) R p' s') : wpCode (MW (wld w b b2)) (ctxOf (wCode a.L) (a.W o)) R p s := by
  refine runL_ok [] (conW_ok F [c] hc.symm (pos + 1) rfl) rfl S H F.nd F.lo' _ _ (fun _ => []) _ (fun nv => t1sl w b b2 a o x g fk et sl τs ln τl τt pos τp _ nc 0 tok qd c  _ _ p nv) (fun _ => hob) fun nv s' Af => ?_
  try dsimp only at Af
  generalize runW _ _ _ _ _ _ _ _ _ _ _ _ _ _ _ = X at Af
  exact next (vt X 1 11) (vt X 1 13) (vt X 1 15) (vt X 3 2) (ktk X 4 3) (vt X 4 3) _ s' (Af.did _ [] [] rfl rfl rfl (by simp) (by simp) rfl rfl)
theorem t1bc_ok {w : World} {b b2 : Bool} {a : Ar} {o : OutA} {x : Lx} (F : Fx a o x) {g : Nat → FrO} {fk : Nat → Nat} {et : Nat} {sl : Array (Option Value)} {τs ln τl τt pos τp : Nat} {nc : List Nat × Nat} {c : Nat} {s : Shared} {p : Pos} {R : Result → Shared → Prop} (S : Top (wld w b b2) s)
    (hc : rdAt x.buf pos = [c]) (hob : InB wordL c 1 ∧ InB [92] c 0 ∧ InB [] c 0 ∧ InB [32, 9, 13, 10] c 0 ∧ LnB ⟨⟨[c]⟩⟩ ∧ EqB [c] [10] 0 ∧ True ∧ True) (H : Holds s (lxL (wld w b b2).params a.lex x (stV 32 τs) ln τl ⟨⟨[]⟩⟩ τt pos τp ++ (a.L, frW (wld w b b2).params a.lex fk et sl false (some nc)) :: frs a o g))
    (next : ∀ (τs2 τl2 τt2 τp2 κ2 τn2 : Nat) (p' : Pos) (s' : Shared), Did s s' (lxL (wld w b b2).params a.lex x (stV 97 τs2) ln τl2 ⟨⟨[c]⟩⟩ τt2 (pos + 1) τp2 ++ (a.L, frW (wld w b b2).params a.lex (setK fk 3 κ2) et sl false (some ([c], τn2))) :: frs a o g) [] → wpCode (MW (wld w b b2)) (ctxOf (wCode a.L) (a.W o)) R p' s') : wpCode (MW (wld w b b2)) (ctxOf (wCode a.L) (a.W o)) R p s := by
  refine runL_ok [] (conW_ok F [c] hc.symm (pos + 1) rfl) rfl S H F.nd F.lo' _ _ (fun _ => []) _ (fun nv => t1bc w b b2 a o x g fk et sl τs ln τl τt pos τp _ nc 0 [] false c  _ _ p nv) (fun _ => hob) fun nv s' Af => ?_
  try dsimp only at Af
  generalize runW _ _ _ _ _ _ _ _ _ _ _ _ _ _ _ = X at Af
  exact next (vt X 1 11) (vt X 1 13) (vt X 1 15) (vt X 3 2) (ktk X 4 3) (vt X 4 3) _ s' (Af.did _ [] [] rfl rfl rfl (by simp) (by simp) rfl rfl)
theorem t1aln_ok {w : World} {b b2 : Bool} {a : Ar} {o : OutA} {x : Lx} (F : Fx a o x) {g : Nat → FrO} {fk : Nat → Nat} {et : Nat} {sl : Array (Option Value)} {τs ln τl τt pos τp : Nat} {nc : List Nat × Nat} {a0 : Nat} {tok : List Nat} {qd : Bool} {c : Nat} {s : Shared} {p : Pos} {R : Result → Shared → Prop} (S : Top (wld w b b2) s)
    (hc : rdAt x.buf pos = [c]) (hob : LnB ⟨⟨a0 :: tok⟩⟩ ∧ InB [32, 9, 13, 10] c 1 ∧ LnB ⟨⟨[c]⟩⟩ ∧ TupB "tuple" ⟨⟨[97]⟩⟩ ⟨⟨[97]⟩⟩ ∧ EqB [c] [10] 1 ∧ True ∧ True) (H : Holds s (lxL (wld w b b2).params a.lex x (stV 97 τs) ln τl ⟨⟨(a0 :: tok)⟩⟩ τt pos τp ++ (a.L, frW (wld w b b2).params a.lex fk et sl qd (some nc)) :: frs a o g))
    (next : ∀ (τs2 τl2 τt2 τp2 κ2 τn2 : Nat) (s' : Shared), Did s s' (lxL (wld w b b2).params a.lex x (stV 32 τs2) (ln + 1) τl2 ⟨⟨(a0 :: tok)⟩⟩ τt2 (pos + 1) τp2 ++ (a.L, frW (wld w b b2).params a.lex (setK fk 3 κ2) et sl qd (some ([c], τn2))) :: frs a o g) [] → R (.ok .next) s') : wpCode (MW (wld w b b2)) (ctxOf (wCode a.L) (a.W o)) R p s := by
  refine runL_ok [] (conW_ok F [c] hc.symm (pos + 1) rfl) rfl S H F.nd F.lo' _ _ (fun _ => []) _ (fun nv => t1aln w b b2 a o x g fk et sl τs ln τl τt pos τp _ nc a0 tok qd c  _ _ p nv) (fun _ => hob) fun nv s' Af => ?_
  try dsimp only at Af
  generalize runW _ _ _ _ _ _ _ _ _ _ _ _ _ _ _ = X at Af
  exact next (vt X 1 11) (vt X 1 13) (vt X 1 15) (vt X 3 2) (ktk X 4 3) (vt X 4 3) s' (Af.did _ [] [] rfl rfl rfl (by simp) (by simp) rfl rfl)
theorem t0bl_ok {w : World} {b b2 : Bool} {a : Ar} {o : OutA} {x : Lx} (F : Fx a o x) {g : Nat → FrO} {fk : Nat → Nat} {et : Nat} {sl : Array (Option Value)} {τs ln τl τt pos τp : Nat} {c : Nat} {s : Shared} {p : Pos} {R : Result → Shared → Prop} (S : Top (wld w b b2) s)
    (hc : rdAt x.buf pos = [c]) (hob : InB [32, 9, 13, 10] c 1 ∧ LnB ⟨⟨[c]⟩⟩ ∧ EqB [c] [10] 1 ∧ True ∧ True) (H : Holds s (lxL (wld w b b2).params a.lex x (stV 32 τs) ln τl ⟨⟨[]⟩⟩ τt pos τp ++ (a.L, frW (wld w b b2).params a.lex fk et sl false none) :: frs a o g))
    (next : ∀ (τs2 τl2 τt2 τp2 κ2 τn2 : Nat) (p' : Pos) (s' : Shared), Did s s' (lxL (wld w b b2).params a.lex x (stV 32 τs2) (ln + 1) τl2 ⟨⟨[]⟩⟩ τt2 (pos + 1) τp2 ++ (a.L, frW (wld w b b2).params a.lex (setK fk 3 κ2) et sl false (some ([c], τn2))) :: frs a o g) [] → wpCode (MW (wld w b b2)) (ctxOf (wCode a.L) (a.W o)) R p' s') : wpCode (MW (wld w b b2)) (ctxOf (wCode a.L) (a.W o)) R p s := by
  refine runL_ok [] (conW_ok F [c] hc.symm (pos + 1) rfl) rfl S H F.nd F.lo' _ _ (fun _ => []) _ (fun nv => t0bl w b b2 a o x g fk et sl τs ln τl τt pos τp _ ([], 0) 0 [] false c  _ _ p nv) (fun _ => hob) fun nv s' Af => ?_
  try dsimp only at Af
  generalize runW _ _ _ _ _ _ _ _ _ _ _ _ _ _ _ = X at Af
  exact next (vt X 1 11) (vt X 1 13) (vt X 1 15) (vt X 3 2) (ktk X 4 3) (vt X 4 3) _ s' (Af.did _ [] [] rfl rfl rfl (by simp) (by simp) rfl rfl)
theorem t1bw_ok {w : World} {b b2 : Bool} {a : Ar} {o : OutA} {x : Lx} (F : Fx a o x) {g : Nat → FrO} {fk : Nat → Nat} {et : Nat} {sl : Array (Option Value)} {τs ln τl τt pos τp : Nat} {nc : List Nat × Nat} {c : Nat} {s : Shared} {p : Pos} {R : Result → Shared → Prop} (S : Top (wld w b b2) s)
    (hc : rdAt x.buf pos = [c]) (hob : InB [32, 9, 13, 10] c 1 ∧ LnB ⟨⟨[c]⟩⟩ ∧ EqB [c] [10] 0 ∧ True ∧ True) (H : Holds s (lxL (wld w b b2).params a.lex x (stV 32 τs) ln τl ⟨⟨[]⟩⟩ τt pos τp ++ (a.L, frW (wld w b b2).params a.lex fk et sl false (some nc)) :: frs a o g))
    (next : ∀ (τs2 τl2 τt2 τp2 κ2 τn2 : Nat) (p' : Pos) (s' : Shared), Did s s' (lxL (wld w b b2).params a.lex x (stV 32 τs2) ln τl2 ⟨⟨[]⟩⟩ τt2 (pos + 1) τp2 ++ (a.L, frW (wld w b b2).params a.lex (setK fk 3 κ2) et sl false (some ([c], τn2))) :: frs a o g) [] → wpCode (MW (wld w b b2)) (ctxOf (wCode a.L) (a.W o)) R p' s') : wpCode (MW (wld w b b2)) (ctxOf (wCode a.L) (a.W o)) R p s := by
  refine runL_ok [] (conW_ok F [c] hc.symm (pos + 1) rfl) rfl S H F.nd F.lo' _ _ (fun _ => []) _ (fun nv => t1bw w b b2 a o x g fk et sl τs ln τl τt pos τp _ nc 0 [] false c  _ _ p nv) (fun _ => hob) fun nv s' Af => ?_
  try dsimp only at Af
  generalize runW _ _ _ _ _ _ _ _ _ _ _ _ _ _ _ = X at Af
  exact next (vt X 1 11) (vt X 1 13) (vt X 1 15) (vt X 3 2) (ktk X 4 3) (vt X 4 3) _ s' (Af.did _ [] [] rfl rfl rfl (by simp) (by simp) rfl rfl)
theorem t1ao_ok {w : World} {b b2 : Bool} {a : Ar} {o : OutA} {x : Lx} (F : Fx a o x) {g : Nat → FrO} {fk : Nat → Nat} {et : Nat} {sl : Array (Option Value)} {τs ln τl τt pos τp : Nat} {nc : List Nat × Nat} {tok : List Nat} {qd : Bool} {c : Nat} {s : Shared} {p : Pos} {R : Result → Shared → Prop} (S : Top (wld w b b2) s)
    (hc : rdAt x.buf pos = [c]) (hob : LeB ⟨⟨tok⟩⟩ ⟨⟨[c]⟩⟩ ∧ InB [] c 0 ∧ InB [39, 34] c 0 ∧ InB wordL c 0 ∧ InB [92] c 0 ∧ InB [39, 34] c 0 ∧ InB [] c 0 ∧ InB [32, 9, 13, 10] c 0 ∧ LnB ⟨⟨[c]⟩⟩ ∧ TupB "tuple" ⟨⟨[97]⟩⟩ ⟨⟨[97]⟩⟩ ∧ EqB [c] [10] 0 ∧ True ∧ True) (H : Holds s (lxL (wld w b b2).params a.lex x (stV 97 τs) ln τl ⟨⟨tok⟩⟩ τt pos τp ++ (a.L, frW (wld w b b2).params a.lex fk et sl qd (some nc)) :: frs a o g))
    (next : ∀ (τs2 τl2 τt2 τp2 κ2 τn2 : Nat) (p' : Pos) (s' : Shared), Did s s' (lxL (wld w b b2).params a.lex x (stV 97 τs2) ln τl2 (⟨⟨tok⟩⟩ ++ ⟨⟨[c]⟩⟩) τt2 (pos + 1) τp2 ++ (a.L, frW (wld w b b2).params a.lex (setK fk 3 κ2) et sl qd (some ([c], τn2))) :: frs a o g) [] → wpCode (MW (wld w b b2)) (ctxOf (wCode a.L) (a.W o)) R p' s') : wpCode (MW (wld w b b2)) (ctxOf (wCode a.L) (a.W o)) R p s := by
  refine runL_ok [] (conW_ok F [c] hc.symm (pos + 1) rfl) rfl S H F.nd F.lo' _ _ (fun _ => []) _ (fun nv => t1ao w b b2 a o x g fk et sl τs ln τl τt pos τp _ nc 0 tok qd c  _ _ p nv) (fun _ => hob) fun nv s' Af => ?_
  try dsimp only at Af
  generalize runW _ _ _ _ _ _ _ _ _ _ _ _ _ _ _ = X at Af
  exact next (vt X 1 11) (vt X 1 13) (vt X 1 15) (vt X 3 2) (ktk X 4 3) (vt X 4 3) _ s' (Af.did _ [] [] rfl rfl rfl (by simp) (by simp) rfl rfl)
theorem t1bl_ok {w : World} {b b2 : Bool} {a : Ar} {o : OutA} {x : Lx} (F : Fx a o x) {g : Nat → FrO} {fk : Nat → Nat} {et : Nat} {sl : Array (Option Value)} {τs ln τl τt pos τp : Nat} {nc : List Nat × Nat} {c : Nat} {s : Shared} {p : Pos} {R : Result → Shared → Prop} (S : Top (wld w b b2) s)
    (hc : rdAt x.buf pos = [c]) (hob : InB [32, 9, 13, 10] c 1 ∧ LnB ⟨⟨[c]⟩⟩ ∧ EqB [c] [10] 1 ∧ True ∧ True) (H : Holds s (lxL (wld w b b2).params a.lex x (stV 32 τs) ln τl ⟨⟨[]⟩⟩ τt pos τp ++ (a.L, frW (wld w b b2).params a.lex fk et sl false (some nc)) :: frs a o g))
    (next : ∀ (τs2 τl2 τt2 τp2 κ2 τn2 : Nat) (p' : Pos) (s' : Shared), Did s s' (lxL (wld w b b2).params a.lex x (stV 32 τs2) (ln + 1) τl2 ⟨⟨[]⟩⟩ τt2 (pos + 1) τp2 ++ (a.L, frW (wld w b b2).params a.lex (setK fk 3 κ2) et sl false (some ([c], τn2))) :: frs a o g) [] → wpCode (MW (wld w b b2)) (ctxOf (wCode a.L) (a.W o)) R p' s') : wpCode (MW (wld w b b2)) (ctxOf (wCode a.L) (a.W o)) R p s := by
  refine runL_ok [] (conW_ok F [c] hc.symm (pos + 1) rfl) rfl S H F.nd F.lo' _ _ (fun _ => []) _ (fun nv => t1bl w b b2 a o x g fk et sl τs ln τl τt pos τp _ nc 0 [] false c  _ _ p nv) (fun _ => hob) fun nv s' Af => ?_
  try dsimp only at Af
  generalize runW _ _ _ _ _ _ _ _ _ _ _ _ _ _ _ = X at Af
  exact next (vt X 1 11) (vt X 1 13) (vt X 1 15) (vt X 3 2) (ktk X 4 3) (vt X 4 3) _ s' (Af.did _ [] [] rfl rfl rfl (by simp) (by simp) rfl rfl)
theorem t1bo_ok {w : World} {b b2 : Bool} {a : Ar} {o : OutA} {x : Lx} (F : Fx a o x) {g : Nat → FrO} {fk : Nat → Nat} {et : Nat} {sl : Array (Option Value)} {τs ln τl τt pos τp : Nat} {nc : List Nat × Nat} {c : Nat} {s : Shared} {p : Pos} {R : Result → Shared → Prop} (S : Top (wld w b b2) s)
    (hc : rdAt x.buf pos = [c]) (hob : InB [39, 34] c 0 ∧ InB [] c 0 ∧ InB wordL c 0 ∧ InB [92] c 0 ∧ InB [] c 0 ∧ InB [32, 9, 13, 10] c 0 ∧ LnB ⟨⟨[c]⟩⟩ ∧ EqB [c] [10] 0 ∧ True ∧ True) (H : Holds s (lxL (wld w b b2).params a.lex x (stV 32 τs) ln τl ⟨⟨[]⟩⟩ τt pos τp ++ (a.L, frW (wld w b b2).params a.lex fk et sl false (some nc)) :: frs a o g))
    (next : ∀ (τs2 τl2 τt2 τp2 κ2 τn2 : Nat) (p' : Pos) (s' : Shared), Did s s' (lxL (wld w b b2).params a.lex x (stV 97 τs2) ln τl2 ⟨⟨[c]⟩⟩ τt2 (pos + 1) τp2 ++ (a.L, frW (wld w b b2).params a.lex (setK fk 3 κ2) et sl false (some ([c], τn2))) :: frs a o g) [] → wpCode (MW (wld w b b2)) (ctxOf (wCode a.L) (a.W o)) R p' s') : wpCode (MW (wld w b b2)) (ctxOf (wCode a.L) (a.W o)) R p s := by
  refine runL_ok [] (conW_ok F [c] hc.symm (pos + 1) rfl) rfl S H F.nd F.lo' _ _ (fun _ => []) _ (fun nv => t1bo w b b2 a o x g fk et sl τs ln τl τt pos τp _ nc 0 [] false c  _ _ p nv) (fun _ => hob) fun nv s' Af => ?_
  try dsimp only at Af
  generalize runW _ _ _ _ _ _ _ _ _ _ _ _ _ _ _ = X at Af
  exact next (vt X 1 11) (vt X 1 13) (vt X 1 15) (vt X 3 2) (ktk X 4 3) (vt X 4 3) _ s' (Af.did _ [] [] rfl rfl rfl (by simp) (by simp) rfl rfl)
theorem t1awe_ok {w : World} {b b2 : Bool} {a : Ar} {o : OutA} {x : Lx} (F : Fx a o x) {g : Nat → FrO} {fk : Nat → Nat} {et : Nat} {sl : Array (Option Value)} {τs ln τl τt pos τp : Nat} {nc : List Nat × Nat} {c : Nat} {s : Shared} {p : Pos} {R : Result → Shared → Prop} (S : Top (wld w b b2) s)
    (hc : rdAt x.buf pos = [c]) (hob : InB [32, 9, 13, 10] c 1 ∧ LnB ⟨⟨[c]⟩⟩ ∧ TupB "tuple" ⟨⟨[97]⟩⟩ ⟨⟨[97]⟩⟩ ∧ EqB [c] [10] 0 ∧ True ∧ True) (H : Holds s (lxL (wld w b b2).params a.lex x (stV 97 τs) ln τl ⟨⟨[]⟩⟩ τt pos τp ++ (a.L, frW (wld w b b2).params a.lex fk et sl true (some nc)) :: frs a o g))
    (next : ∀ (τs2 τl2 τt2 τp2 κ2 τn2 : Nat) (s' : Shared), Did s s' (lxL (wld w b b2).params a.lex x (stV 32 τs2) ln τl2 ⟨⟨[]⟩⟩ τt2 (pos + 1) τp2 ++ (a.L, frW (wld w b b2).params a.lex (setK fk 3 κ2) et sl true (some ([c], τn2))) :: frs a o g) [] → R (.ok .next) s') : wpCode (MW (wld w b b2)) (ctxOf (wCode a.L) (a.W o)) R p s := by
  refine runL_ok [] (conW_ok F [c] hc.symm (pos + 1) rfl) rfl S H F.nd F.lo' _ _ (fun _ => []) _ (fun nv => t1awe w b b2 a o x g fk et sl τs ln τl τt pos τp _ nc 0 [] false c  _ _ p nv) (fun _ => hob) fun nv s' Af => ?_
  try dsimp only at Af
  generalize runW _ _ _ _ _ _ _ _ _ _ _ _ _ _ _ = X at Af
  exact next (vt X 1 11) (vt X 1 13) (vt X 1 15) (vt X 3 2) (ktk X 4 3) (vt X 4 3) s' (Af.did _ [] [] rfl rfl rfl (by simp) (by simp) rfl rfl)
theorem t1dl_ok {w : World} {b b2 : Bool} {a : Ar} {o : OutA} {x : Lx} (F : Fx a o x) {g : Nat → FrO} {fk : Nat → Nat} {et : Nat} {sl : Array (Option Value)} {τs ln τl τt pos τp : Nat} {nc : List Nat × Nat} {tok : List Nat} {qd : Bool} {c : Nat} {s : Shared} {p : Pos} {R : Result → Shared → Prop} (S : Top (wld w b b2) s)
    (hc : rdAt x.buf pos = [c]) (hob : LeB ⟨⟨tok⟩⟩ ⟨⟨[c]⟩⟩ ∧ InB [92] c 0 ∧ EqB [c] [34] 0 ∧ LnB ⟨⟨[c]⟩⟩ ∧ EqB [c] [10] 1 ∧ True ∧ True) (H : Holds s (lxL (wld w b b2).params a.lex x (stV 34 τs) ln τl ⟨⟨tok⟩⟩ τt pos τp ++ (a.L, frW (wld w b b2).params a.lex fk et sl qd (some nc)) :: frs a o g))
    (next : ∀ (τs2 τl2 τt2 τp2 κ2 τn2 : Nat) (p' : Pos) (s' : Shared), Did s s' (lxL (wld w b b2).params a.lex x (stV 34 τs2) (ln + 1) τl2 (⟨⟨tok⟩⟩ ++ ⟨⟨[c]⟩⟩) τt2 (pos + 1) τp2 ++ (a.L, frW (wld w b b2).params a.lex (setK fk 3 κ2) et sl true (some ([c], τn2))) :: frs a o g) [] → wpCode (MW (wld w b b2)) (ctxOf (wCode a.L) (a.W o)) R p' s') : wpCode (MW (wld w b b2)) (ctxOf (wCode a.L) (a.W o)) R p s := by
  refine runL_ok [] (conW_ok F [c] hc.symm (pos + 1) rfl) rfl S H F.nd F.lo' _ _ (fun _ => []) _ (fun nv => t1dl w b b2 a o x g fk et sl τs ln τl τt pos τp _ nc 0 tok qd c  _ _ p nv) (fun _ => hob) fun nv s' Af => ?_
  try dsimp only at Af
  generalize runW _ _ _ _ _ _ _ _ _ _ _ _ _ _ _ = X at Af
  exact next (vt X 1 11) (vt X 1 13) (vt X 1 15) (vt X 3 2) (ktk X 4 3) (vt X 4 3) _ s' (Af.did _ [] [] rfl rfl rfl (by simp) (by simp) rfl rfl)
theorem t1be_ok {w : World} {b b2 : Bool} {a : Ar} {o : OutA} {x : Lx} (F : Fx a o x) {g : Nat → FrO} {fk : Nat → Nat} {et : Nat} {sl : Array (Option Value)} {τs ln τl τt pos τp : Nat} {nc : List Nat × Nat} {s : Shared} {p : Pos} {R : Result → Shared → Prop} (S : Top (wld w b b2) s)
    (hc : rdAt x.buf pos = []) (hob : True ∧ True) (H : Holds s (lxL (wld w b b2).params a.lex x (stV 32 τs) ln τl ⟨⟨[]⟩⟩ τt pos τp ++ (a.L, frW (wld w b b2).params a.lex fk et sl false (some nc)) :: frs a o g))
    (next : ∀ (τs2 τl2 τt2 τp2 κ2 τn2 : Nat) (s' : Shared), Did s s' (lxL (wld w b b2).params a.lex x (stV 0 τs2) ln τl2 ⟨⟨[]⟩⟩ τt2 pos τp2 ++ (a.L, frW (wld w b b2).params a.lex (setK fk 3 κ2) et sl false (some ([], τn2))) :: frs a o g) [] → R (.ok .next) s') : wpCode (MW (wld w b b2)) (ctxOf (wCode a.L) (a.W o)) R p s := by
  refine runL_ok [] (conW_ok F [] hc.symm pos rfl) rfl S H F.nd F.lo' _ _ (fun _ => []) _ (fun nv => t1be w b b2 a o x g fk et sl τs ln τl τt pos τp _ nc 0 [] false 0  _ _ p nv) (fun _ => hob) fun nv s' Af => ?_
  try dsimp only at Af
  generalize runW _ _ _ _ _ _ _ _ _ _ _ _ _ _ _ = X at Af
  exact next (vt X 1 11) (vt X 1 13) (vt X 1 15) (vt X 3 2) (ktk X 4 3) (vt X 4 3) s' (Af.did _ [] [] rfl rfl rfl (by simp) (by simp) rfl rfl)
theorem t0be_ok {w : World} {b b2 : Bool} {a : Ar} {o : OutA} {x : Lx} (F : Fx a o x) {g : Nat → FrO} {fk : Nat → Nat} {et : Nat} {sl : Array (Option Value)} {τs ln τl τt pos τp : Nat} {s : Shared} {p : Pos} {R : Result → Shared → Prop} (S : Top (wld w b b2) s)
    (hc : rdAt x.buf pos = []) (hob : True ∧ True) (H : Holds s (lxL (wld w b b2).params a.lex x (stV 32 τs) ln τl ⟨⟨[]⟩⟩ τt pos τp ++ (a.L, frW (wld w b b2).params a.lex fk et sl false none) :: frs a o g))
    (next : ∀ (τs2 τl2 τt2 τp2 κ2 τn2 : Nat) (s' : Shared), Did s s' (lxL (wld w b b2).params a.lex x (stV 0 τs2) ln τl2 ⟨⟨[]⟩⟩ τt2 pos τp2 ++ (a.L, frW (wld w b b2).params a.lex (setK fk 3 κ2) et sl false (some ([], τn2))) :: frs a o g) [] → R (.ok .next) s') : wpCode (MW (wld w b b2)) (ctxOf (wCode a.L) (a.W o)) R p s := by
  refine runL_ok [] (conW_ok F [] hc.symm pos rfl) rfl S H F.nd F.lo' _ _ (fun _ => []) _ (fun nv => t0be w b b2 a o x g fk et sl τs ln τl τt pos τp _ ([], 0) 0 [] false 0  _ _ p nv) (fun _ => hob) fun nv s' Af => ?_
  try dsimp only at Af
  generalize runW _ _ _ _ _ _ _ _ _ _ _ _ _ _ _ = X at Af
  exact next (vt X 1 11) (vt X 1 13) (vt X 1 15) (vt X 3 2) (ktk X 4 3) (vt X 4 3) s' (Af.did _ [] [] rfl rfl rfl (by simp) (by simp) rfl rfl)
theorem t1ale_ok {w : World} {b b2 : Bool} {a : Ar} {o : OutA} {x : Lx} (F : Fx a o x) {g : Nat → FrO} {fk : Nat → Nat} {et : Nat} {sl : Array (Option Value)} {τs ln τl τt pos τp : Nat} {nc : List Nat × Nat} {c : Nat} {s : Shared} {p : Pos} {R : Result → Shared → Prop} (S : Top (wld w b b2) s)
    (hc : rdAt x.buf pos = [c]) (hob : InB [32, 9, 13, 10] c 1 ∧ LnB ⟨⟨[c]⟩⟩ ∧ TupB "tuple" ⟨⟨[97]⟩⟩ ⟨⟨[97]⟩⟩ ∧ EqB [c] [10] 1 ∧ True ∧ True) (H : Holds s (lxL (wld w b b2).params a.lex x (stV 97 τs) ln τl ⟨⟨[]⟩⟩ τt pos τp ++ (a.L, frW (wld w b b2).params a.lex fk et sl true (some nc)) :: frs a o g))
    (next : ∀ (τs2 τl2 τt2 τp2 κ2 τn2 : Nat) (s' : Shared), Did s s' (lxL (wld w b b2).params a.lex x (stV 32 τs2) (ln + 1) τl2 ⟨⟨[]⟩⟩ τt2 (pos + 1) τp2 ++ (a.L, frW (wld w b b2).params a.lex (setK fk 3 κ2) et sl true (some ([c], τn2))) :: frs a o g) [] → R (.ok .next) s') : wpCode (MW (wld w b b2)) (ctxOf (wCode a.L) (a.W o)) R p s := by
  refine runL_ok [] (conW_ok F [c] hc.symm (pos + 1) rfl) rfl S H F.nd F.lo' _ _ (fun _ => []) _ (fun nv => t1ale w b b2 a o x g fk et sl τs ln τl τt pos τp _ nc 0 [] false c  _ _ p nv) (fun _ => hob) fun nv s' Af => ?_
  try dsimp only at Af
  generalize runW _ _ _ _ _ _ _ _ _ _ _ _ _ _ _ = X at Af
  exact next (vt X 1 11) (vt X 1 13) (vt X 1 15) (vt X 3 2) (ktk X 4 3) (vt X 4 3) s' (Af.did _ [] [] rfl rfl rfl (by simp) (by simp) rfl rfl)
/-! S602 -/
/-! ### read_token's loop -/
noncomputable def wRes (r : RdR) (ν : Unk) : Result := match r.err with
  | true => .error (.ref (ν.n 0))
  | false => .ok .next
noncomputable def wCh (P : Params) (a : Ar) (o : OutA) (x : Lx) (g : Nat → FrO) (fk : Nat → Nat) (et : Nat) (sl : Array (Option Value)) (r : RdR) (ν : Unk) : List (Nat × Obj) :=
  lxL P a.lex x (stV r.st (ν.n 2)) (ν.n 3) (ν.n 4) ⟨⟨r.tok⟩⟩ (ν.n 5) (x.buf.length - r.rest.length) (ν.n 6) ++
    (a.L, frW P a.lex (setK fk 3 (ν.n 7)) et (match r.err with | true => ν.sl 0 | false => sl) r.qd (some (r.nc, ν.n 8))) :: frs a o (match r.err with | true => fun i => ⟨(g i).es, (g i).n, ν.sl (i + 1)⟩ | false => g)
noncomputable def wNew (a : Ar) (r : RdR) (ν : Unk) : List (Nat × Obj) := match r.err with
  | true => [(ν.n 0, excO "ValueError" (ν.n 9) (ν.n 1) (ν.sl 20)), (ν.n 1, entryO .none a.L (.int (.ofNat a.L) 0) (ν.vs 0))]
  | false => []
theorem drop_cons {l : List Nat} {pos c : Nat} {r : List Nat} (h : l.drop pos = c :: r) : rdAt l pos = [c] ∧ l.drop (pos + 1) = r ∧ pos < l.length := by
  refine ⟨by unfold rdAt; rw [h]; rfl, by rw [← List.drop_drop, h]; rfl, ?_⟩
  have := congrArg List.length h
  rw [List.length_drop, List.length_cons] at this
  omega
theorem drop_nil {l : List Nat} {pos : Nat} (h : l.drop pos = []) : rdAt l pos = [] ∧ l.length ≤ pos := by
  refine ⟨by unfold rdAt; rw [h]; rfl, ?_⟩
  have := congrArg List.length h
  rw [List.length_drop, List.length_nil] at this
  omega
noncomputable def isNone : Option (List Nat × Nat) → Bool
  | none => true
  | some _ => false
theorem rdAt_len {l : List Nat} {pos : Nat} {r : List Nat} (h : l.drop pos = r) (hp : pos ≤ l.length) : l.length - r.length = pos := by
  have := congrArg List.length h
  rw [List.length_drop] at this
  omega
theorem while_ok {w : World} {b b2 : Bool} {a : Ar} {o : OutA} {x : Lx} (F : Fx a o x) {g : Nat → FrO} {et : Nat} {sl : Array (Option Value)} {R : Result → Shared → Prop} :
    ∀ (cs : List Nat) {fk : Nat → Nat} {st τs ln τl : Nat} {tok : List Nat} {τt pos τp : Nat} {qd : Bool} {nc : Option (List Nat × Nat)} {s : Shared} {p : Pos} (S : Top (wld w b b2) s)
    (hcs : x.buf.drop pos = cs) (hbs : 92 ∉ cs) (ht : tok.length ≤ pos) (hp : pos ≤ x.buf.length) (inv : RdInv st tok qd (isNone nc) cs)
    (H : Holds s (lxL (wld w b b2).params a.lex x (stV st τs) ln τl ⟨⟨tok⟩⟩ τt pos τp ++ (a.L, frW (wld w b b2).params a.lex fk et sl qd nc) :: frs a o g))
    (fin : ∀ ν s', Did s s' (wCh (wld w b b2).params a o x g fk et sl (rd cs st tok qd) ν) (wNew a (rd cs st tok qd) ν) → R (wRes (rd cs st tok qd) ν) s'),
    wpCode (MW (wld w b b2)) (ctxOf (wCode a.L) (a.W o)) R p s
  | [], fk, st, τs, ln, τl, tok, τt, pos, τp, qd, nc, s, p, S, hcs, hbs, ht, hp, inv, H, fin => by
    obtain ⟨hc, hle⟩ := drop_nil hcs
    have hpos : x.buf.length = pos := by omega
    have hln : ∀ {l : List Nat}, l.length ≤ pos → LnB ⟨⟨l⟩⟩ := fun h => lnB (Nat.le_trans (Nat.le_trans h hp) F.hb)
    have done : ∀ {st' : Nat} {tok' : List Nat} {qd' : Bool}, isQt st = false → rd [] st tok qd = ⟨false, tok', qd', 0, [], []⟩ → ∀ (τs2 τl2 τt2 τp2 κ2 τn2 : Nat) (s' : Shared),
        Did s s' (lxL (wld w b b2).params a.lex x (stV 0 τs2) ln τl2 ⟨⟨tok'⟩⟩ τt2 pos τp2 ++ (a.L, frW (wld w b b2).params a.lex (setK fk 3 κ2) et sl qd' (some ([], τn2))) :: frs a o g) [] → R (.ok .next) s' := by
      intro st' tok' qd' _ e τs2 τl2 τt2 τp2 κ2 τn2 s' D
      have := fin (unkL [0, 0, τs2, ln, τl2, τt2, τp2, κ2, τn2]) s'
      rw [e] at this
      refine this ?_
      show Did s s' (lxL _ a.lex x (stV 0 τs2) ln τl2 ⟨⟨tok'⟩⟩ τt2 (x.buf.length - 0) τp2 ++ _) []
      rw [hpos]
      exact D
    rcases inv with ⟨rfl, rfl, rfl, hf, _⟩ | ⟨rfl, rfl, rfl⟩ | ⟨rfl, hq, hf⟩ | ⟨hst, hf⟩
    · cases nc with
      | some y => cases hf
      | none => exact t0nx_ok F S hc ⟨trivial, trivial⟩ H fun τs2 τl2 τt2 τp2 κ2 τn2 s' D => done (st' := 0) rfl rfl τs2 τl2 τt2 τp2 κ2 τn2 s' D
    · cases nc with
      | none => exact t0be_ok F S hc ⟨trivial, trivial⟩ H fun τs2 τl2 τt2 τp2 κ2 τn2 s' D => done (st' := 0) rfl rfl τs2 τl2 τt2 τp2 κ2 τn2 s' D
      | some y => exact t1be_ok F S hc ⟨trivial, trivial⟩ H fun τs2 τl2 τt2 τp2 κ2 τn2 s' D => done (st' := 0) rfl rfl τs2 τl2 τt2 τp2 κ2 τn2 s' D
    · cases nc with
      | none => cases hf
      | some y => exact t1ae_ok F S hc ⟨tupB _, trivial, trivial⟩ H fun τs2 τl2 τt2 τp2 κ2 τn2 s' D => done (st' := 0) rfl rfl τs2 τl2 τt2 τp2 κ2 τn2 s' D
    · cases nc with
      | none => cases hf
      | some y =>
        have err : rd [] st tok qd = ⟨true, tok, true, st, [], []⟩ → ∀ (τs2 τl2 τt2 τp2 κ2 τn2 : Nat) (sl2 : Array (Option Value)) (gsl : Nat → Array (Option Value)) (esl : Array (Option Value)) (ea ga ta : Nat) (tl : Array Value) (s' : Shared),
            Did s s' (lxL (wld w b b2).params a.lex x (stV st τs2) ln τl2 ⟨⟨tok⟩⟩ τt2 pos τp2 ++ (a.L, frW (wld w b b2).params a.lex (setK fk 3 κ2) et sl2 true (some ([], τn2))) :: frs a o fun i => ⟨(g i).es, (g i).n, gsl i⟩)
              [(ea, excO "ValueError" ga ta esl), (ta, entryO .none a.L (.int (.ofNat a.L) 0) tl)] → R (.error (.ref ea)) s' := by
          intro e τs2 τl2 τt2 τp2 κ2 τn2 sl2 gsl esl ea ga ta tl s' D
          have := fin ⟨(unkL [ea, ta, τs2, ln, τl2, τt2, τp2, κ2, τn2, ga]).n, fun i => match Nat.beq i 20 with | true => esl | false => match i with | 0 => sl2 | i + 1 => gsl i, fun _ => tl, fun _ => default⟩ s'
          rw [e] at this
          refine this ?_
          show Did s s' (lxL _ a.lex x (stV st τs2) ln τl2 ⟨⟨tok⟩⟩ τt2 (x.buf.length - 0) τp2 ++ _) _
          rw [hpos]
          exact D
        rcases hst with rfl | rfl
        · exact t1se_ok F S hc ⟨trivial, trivial⟩ H (err rfl)
        · exact t1de_ok F S hc ⟨trivial, trivial⟩ H (err rfl)
  | c :: r, fk, st, τs, ln, τl, tok, τt, pos, τp, qd, nc, s, p, S, hcs, hbs, ht, hp, inv, H, fin => by
    obtain ⟨hc, hr, hlt⟩ := drop_cons hcs
    have hb1 : c ∉ [92] := by
      simp only [List.mem_singleton]
      rintro rfl
      exact hbs (List.mem_cons_self ..)
    have hb2 : 92 ∉ r := fun h => hbs (List.mem_cons_of_mem _ h)
    have h0 : c ∉ ([] : List Nat) := by simp
    have hle : LeB ⟨⟨tok⟩⟩ ⟨⟨[c]⟩⟩ := leB (Nat.lt_of_le_of_lt ht (Nat.lt_of_lt_of_le hlt F.hb))
    have hpos : x.buf.length - r.length = pos + 1 := rdAt_len hr hlt
    have go : ∀ {st2 : Nat} {tok2 : List Nat} {qd2 : Bool} (ln2 : Nat), rd (c :: r) st tok qd = rd r st2 tok2 qd2 → RdInv st2 tok2 qd2 false r → tok2.length ≤ pos + 1 → ∀ (τs2 τl2 τt2 τp2 κ2 τn2 : Nat) (p' : Pos) (s' : Shared),
        Did s s' (lxL (wld w b b2).params a.lex x (stV st2 τs2) ln2 τl2 ⟨⟨tok2⟩⟩ τt2 (pos + 1) τp2 ++ (a.L, frW (wld w b b2).params a.lex (setK fk 3 κ2) et sl qd2 (some ([c], τn2))) :: frs a o g) [] → wpCode (MW (wld w b b2)) (ctxOf (wCode a.L) (a.W o)) R p' s' := by
      intro st2 tok2 qd2 ln2 e inv2 ht2 τs2 τl2 τt2 τp2 κ2 τn2 p' s' D
      refine while_ok F r (Did.sane S D F.lo') hr hb2 ht2 hlt inv2 D.holds fun ν s'' D2 => ?_
      rw [← e] at D2 ⊢
      exact fin ν s'' (D.trans D2 fun _ h => h)
    have halt : ∀ (ln2 : Nat), rd (c :: r) st tok qd = ⟨false, tok, qd, 32, r, [c]⟩ → ∀ (τs2 τl2 τt2 τp2 κ2 τn2 : Nat) (s' : Shared),
        Did s s' (lxL (wld w b b2).params a.lex x (stV 32 τs2) ln2 τl2 ⟨⟨tok⟩⟩ τt2 (pos + 1) τp2 ++ (a.L, frW (wld w b b2).params a.lex (setK fk 3 κ2) et sl qd (some ([c], τn2))) :: frs a o g) [] → R (.ok .next) s' := by
      intro ln2 e τs2 τl2 τt2 τp2 κ2 τn2 s' D
      have := fin (unkL [0, 0, τs2, ln2, τl2, τt2, τp2, κ2, τn2]) s'
      rw [e] at this
      refine this ?_
      show Did s s' (lxL _ a.lex x (stV 32 τs2) ln2 τl2 ⟨⟨tok⟩⟩ τt2 (x.buf.length - r.length) τp2 ++ _) []
      rw [hpos]
      exact D
    have snoc : ∀ {st2 : Nat} {qd2 : Bool} (ln2 : Nat), rd (c :: r) st tok qd = rd r st2 (tok ++ [c]) qd2 → RdInv st2 (tok ++ [c]) qd2 false r → ∀ (τs2 τl2 τt2 τp2 κ2 τn2 : Nat) (p' : Pos) (s' : Shared),
        Did s s' (lxL (wld w b b2).params a.lex x (stV st2 τs2) ln2 τl2 (⟨⟨tok⟩⟩ ++ ⟨⟨[c]⟩⟩) τt2 (pos + 1) τp2 ++ (a.L, frW (wld w b b2).params a.lex (setK fk 3 κ2) et sl qd2 (some ([c], τn2))) :: frs a o g) [] → wpCode (MW (wld w b b2)) (ctxOf (wCode a.L) (a.W o)) R p' s' := by
      intro st2 qd2 ln2 e inv2 τs2 τl2 τt2 τp2 κ2 τn2 p' s' D
      rw [str_snoc] at D
      exact go ln2 e inv2 (by rw [List.length_append]; exact Nat.succ_le_succ ht) τs2 τl2 τt2 τp2 κ2 τn2 p' s' D
    have hqne : ∀ {d : Nat}, c ∉ [39, 34] → (d = 39 ∨ d = 34) → c ≠ d := fun h hd e => h (by simp [e, hd])
    rcases inv with ⟨_, _, _, _, h⟩ | ⟨rfl, rfl, rfl⟩ | ⟨rfl, hq, hf⟩ | ⟨hst, hf⟩
    · cases h
    · by_cases hw : c ∈ [32, 9, 13, 10]
      · have e : rd (c :: r) 32 [] false = rd r 32 [] false := by rw [rd, if_pos rfl, if_pos (isWs_iff.mpr hw)]
        have iv : RdInv 32 [] false false r := .inr (.inl ⟨rfl, rfl, rfl⟩)
        by_cases h10 : c = 10
        · cases nc with
          | none => exact t0bl_ok F S hc ⟨inB1 hw, lnB1 c, eqB1 h10, trivial, trivial⟩ H (go _ e iv (Nat.zero_le _))
          | some y => exact t1bl_ok F S hc ⟨inB1 hw, lnB1 c, eqB1 h10, trivial, trivial⟩ H (go _ e iv (Nat.zero_le _))
        · cases nc with
          | none => exact t0bw_ok F S hc ⟨inB1 hw, lnB1 c, eqB0 h10, trivial, trivial⟩ H (go _ e iv (Nat.zero_le _))
          | some y => exact t1bw_ok F S hc ⟨inB1 hw, lnB1 c, eqB0 h10, trivial, trivial⟩ H (go _ e iv (Nat.zero_le _))
      · have h10 : c ≠ 10 := by rintro rfl; exact hw (by simp)
        have nw : isWs c = false := by rw [← Bool.not_eq_true, isWs_iff]; exact hw
        by_cases hq : c ∈ [39, 34]
        · have e : rd (c :: r) 32 [] false = rd r c [] false := by rw [rd, if_pos rfl, if_neg (by simp [nw]), if_pos (isQt_iff.mpr hq)]
          have hcq : c = 39 ∨ c = 34 := by simpa using hq
          have iv : RdInv c [] false false r := .inr (.inr (.inr ⟨hcq, rfl⟩))
          have hwd : c ∉ wordL := by rcases hcq with rfl | rfl <;> decide
          have st : ∀ τ, Value.str ⟨⟨[c]⟩⟩ τ = stV c τ := fun τ => by rcases hcq with rfl | rfl <;> rfl
          cases nc with
          | none => exact t0bq_ok F S hc ⟨inB1 hq, inB0 h0, inB0 hwd, inB0 hb1, inB0 h0, inB0 hw, lnB1 c, eqB0 h10, trivial, trivial⟩ H fun τs2 τl2 τt2 τp2 κ2 τn2 p' s' D => go _ e iv (Nat.zero_le _) τs2 τl2 τt2 τp2 κ2 τn2 p' s' (by rw [← st]; exact D)
          | some y => exact t1bq_ok F S hc ⟨inB1 hq, inB0 h0, inB0 hwd, inB0 hb1, inB0 h0, inB0 hw, lnB1 c, eqB0 h10, trivial, trivial⟩ H fun τs2 τl2 τt2 τp2 κ2 τn2 p' s' D => go _ e iv (Nat.zero_le _) τs2 τl2 τt2 τp2 κ2 τn2 p' s' (by rw [← st]; exact D)
        · have nq : isQt c = false := by rw [← Bool.not_eq_true, isQt_iff]; exact hq
          have e : rd (c :: r) 32 [] false = rd r 97 [c] false := by rw [rd, if_pos rfl, if_neg (by simp [nw]), if_neg (by simp [nq])]
          have iv : RdInv 97 [c] false false r := .inr (.inr (.inl ⟨rfl, .inl (by simp), rfl⟩))
          have hl1 : [c].length ≤ pos + 1 := Nat.succ_le_succ (Nat.zero_le _)
          by_cases hwd : c ∈ wordL
          · cases nc with
            | none => exact t0bc_ok F S hc ⟨inB1 hwd, inB0 hb1, inB0 h0, inB0 hw, lnB1 c, eqB0 h10, trivial, trivial⟩ H (go _ e iv hl1)
            | some y => exact t1bc_ok F S hc ⟨inB1 hwd, inB0 hb1, inB0 h0, inB0 hw, lnB1 c, eqB0 h10, trivial, trivial⟩ H (go _ e iv hl1)
          · cases nc with
            | none => exact t0bo_ok F S hc ⟨inB0 hq, inB0 h0, inB0 hwd, inB0 hb1, inB0 h0, inB0 hw, lnB1 c, eqB0 h10, trivial, trivial⟩ H (go _ e iv hl1)
            | some y => exact t1bo_ok F S hc ⟨inB0 hq, inB0 h0, inB0 hwd, inB0 hb1, inB0 h0, inB0 hw, lnB1 c, eqB0 h10, trivial, trivial⟩ H (go _ e iv hl1)
    · cases nc with
      | none => cases hf
      | some y =>
        by_cases hw : c ∈ [32, 9, 13, 10]
        · have e : rd (c :: r) 97 tok qd = ⟨false, tok, qd, 32, r, [c]⟩ := by rw [rd, if_neg (by decide), if_pos rfl, if_pos (isWs_iff.mpr hw)]
          cases tok with
          | nil =>
            have hq : qd = true := hq.resolve_left (by simp)
            subst hq
            by_cases h10 : c = 10
            · exact t1ale_ok F S hc ⟨inB1 hw, lnB1 c, tupB _, eqB1 h10, trivial, trivial⟩ H (halt _ e)
            · exact t1awe_ok F S hc ⟨inB1 hw, lnB1 c, tupB _, eqB0 h10, trivial, trivial⟩ H (halt _ e)
          | cons a0 tok =>
            have hl : LnB ⟨⟨a0 :: tok⟩⟩ := lnB (Nat.le_trans ht (Nat.le_trans hp F.hb))
            by_cases h10 : c = 10
            · exact t1aln_ok F S hc ⟨hl, inB1 hw, lnB1 c, tupB _, eqB1 h10, trivial, trivial⟩ H (halt _ e)
            · exact t1awn_ok F S hc ⟨hl, inB1 hw, lnB1 c, tupB _, eqB0 h10, trivial, trivial⟩ H (halt _ e)
        · have h10 : c ≠ 10 := by rintro rfl; exact hw (by simp)
          have nw : isWs c = false := by rw [← Bool.not_eq_true, isWs_iff]; exact hw
          by_cases hq' : c ∈ [39, 34]
          · have e : rd (c :: r) 97 tok qd = rd r c tok qd := by rw [rd, if_neg (by decide), if_pos rfl, if_neg (by simp [nw]), if_pos (isQt_iff.mpr hq')]
            have hcq : c = 39 ∨ c = 34 := by simpa using hq'
            have st : ∀ τ, Value.str ⟨⟨[c]⟩⟩ τ = stV c τ := fun τ => by rcases hcq with rfl | rfl <;> rfl
            exact t1aq_ok F S hc ⟨inB1 hq', inB0 h0, inB0 hw, lnB1 c, tupB _, eqB0 h10, trivial, trivial⟩ H fun τs2 τl2 τt2 τp2 κ2 τn2 p' s' D => go _ e (.inr (.inr (.inr ⟨hcq, rfl⟩))) (Nat.le_succ_of_le ht) τs2 τl2 τt2 τp2 κ2 τn2 p' s' (by rw [← st]; exact D)
          · have nq : isQt c = false := by rw [← Bool.not_eq_true, isQt_iff]; exact hq'
            have e : rd (c :: r) 97 tok qd = rd r 97 (tok ++ [c]) qd := by rw [rd, if_neg (by decide), if_pos rfl, if_neg (by simp [nw]), if_neg (by simp [nq])]
            have iv : RdInv 97 (tok ++ [c]) qd false r := .inr (.inr (.inl ⟨rfl, .inl (by simp), rfl⟩))
            by_cases hwd : c ∈ wordL
            · exact t1ac_ok F S hc ⟨hle, inB1 hwd, inB0 hb1, inB0 hq', inB0 h0, inB0 hw, lnB1 c, tupB _, eqB0 h10, trivial, trivial⟩ H (snoc _ e iv)
            · exact t1ao_ok F S hc ⟨hle, inB0 h0, inB0 hq', inB0 hwd, inB0 hb1, inB0 hq', inB0 h0, inB0 hw, lnB1 c, tupB _, eqB0 h10, trivial, trivial⟩ H (snoc _ e iv)
    · cases nc with
      | none => cases hf
      | some y =>
        have n32 : ¬ st = 32 := by omega
        have n97 : ¬ st = 97 := by omega
        by_cases hz : c = st
        · have e : rd (c :: r) st tok qd = rd r 97 tok true := by rw [rd, if_neg n32, if_neg n97, if_pos hz]
          have h10 : c ≠ 10 := by omega
          have iv : RdInv 97 tok true false r := .inr (.inr (.inl ⟨rfl, .inr rfl, rfl⟩))
          rcases hst with rfl | rfl
          · exact t1sz_ok F S hc ⟨eqB1 hz, lnB1 c, eqB0 h10, trivial, trivial⟩ H (go _ e iv (Nat.le_succ_of_le ht))
          · exact t1dz_ok F S hc ⟨eqB1 hz, lnB1 c, eqB0 h10, trivial, trivial⟩ H (go _ e iv (Nat.le_succ_of_le ht))
        · have e : rd (c :: r) st tok qd = rd r st (tok ++ [c]) true := by rw [rd, if_neg n32, if_neg n97, if_neg hz]
          have iv : RdInv st (tok ++ [c]) true false r := .inr (.inr (.inr ⟨hst, rfl⟩))
          by_cases h10 : c = 10
          · rcases hst with rfl | rfl
            · exact t1sl_ok F S hc ⟨hle, inB0 hb1, eqB0 hz, lnB1 c, eqB1 h10, trivial, trivial⟩ H (snoc _ e iv)
            · exact t1dl_ok F S hc ⟨hle, inB0 hb1, eqB0 hz, lnB1 c, eqB1 h10, trivial, trivial⟩ H (snoc _ e iv)
          · rcases hst with rfl | rfl
            · exact t1so_ok F S hc ⟨hle, inB0 hb1, eqB0 hz, lnB1 c, eqB0 h10, trivial, trivial⟩ H (snoc _ e iv)
            · exact t1do_ok F S hc ⟨hle, inB0 hb1, eqB0 hz, lnB1 c, eqB0 h10, trivial, trivial⟩ H (snoc _ e iv)
/-! S702 -/
/-! ### list.extend.loop: a turn asks lex for a token -/
noncomputable def posN : List (Code × Pos) → Nat → Pos
  | [], _ => default
  | x :: _, 0 => x.2
  | _ :: r, n + 1 => posN r n
/-- what lies around split, off the stack below read_token's loop -/
noncomputable def aOf (l lex Ls Ln Lg L : Nat) (bel : List (Code × Pos)) : Ar := ⟨l, lex, Ls, Ln, Lg, L, fun i => match i with
  | 7 => posN bel 0
  | 6 => posN bel 1
  | 5 => posN bel 2
  | 4 => posN bel 3
  | 2 => posN bel 4
  | _ => posN bel 5⟩
noncomputable def froOf : Option Obj → FrO
  | some o => match o.data with
    | .dict ⟨es⟩ n => ⟨es, n, o.slots⟩
    | _ => ⟨[], 0, ⟨[]⟩⟩
  | none => ⟨[], 0, ⟨[]⟩⟩
noncomputable def entO (o : Option Obj) (j : Nat) : DictEntry := match o with
  | some o => match o.data with
    | .dict ⟨es⟩ _ => es.getD j ⟨0, .none, .none⟩
    | _ => ⟨0, .none, .none⟩
  | none => ⟨0, .none, .none⟩
noncomputable def sltO : Option Obj → Array (Option Value)
  | some o => o.slots
  | none => ⟨[]⟩
noncomputable def tyList : String := SL.s9222952809800978799x4
noncomputable def listO (xs : Array Value) (n : Nat) : Obj := ⟨.type tyList, none, .seq xs n, ⟨[]⟩⟩
noncomputable def zip3 (is : List Nat) (l : List (Nat × Obj)) : List (Nat × Nat × Obj) := List.zipWith (fun i y => (i, y.1, y.2)) is l
noncomputable def zip2 (is : List Nat) (l : List (Nat × Obj)) : List (Nat × Obj) := List.zipWith (fun i y => (i, y.2)) is l
noncomputable def news_ (l : List (Nat × Obj)) : List Obj := l.map (·.2)
noncomputable def eIdx : List Nat := [1, 2, 3, 4, 11, 10, 9, 7, 8]
noncomputable def gE (T : BT) (i : Nat) : FrO := froOf (T.get (match i with | 0 => 10 | 1 => 9 | 2 => 7 | i + 3 => i + 8))
noncomputable def aE (l lex Ls : Nat) (ads : Ads) (bel : List (Code × Pos)) : Ar := aOf l lex Ls (adOf ads 9) (adOf ads 10) (adOf ads 11) bel
noncomputable def fkE (T : BT) (i : Nat) : Nat := vtok (entO (T.get 11) i).key
noncomputable def conE (P : Params) (l lex Ls : Nat) (o : OutA) (x : Lx) (st τs ln τl τt pos τp : Nat) (r : RdR) : CF
  | 0, _, Γ, .whileLoop _ _ _ env, T, ads => some (conS T ads (ctxOf (wCode (adOf ads 11)) ((aE l lex Ls ads Γ.below).W o))
      (zip3 eIdx (lxL P lex x (stV st τs) ln τl ⟨⟨[]⟩⟩ τt pos τp ++ (adOf ads 11, frW P lex (fkE T) (vtok (entO (T.get 11) 2).val) (sltO (T.get 11)) false none) :: frs (aE l lex Ls ads Γ.below) o (gE T))) True
      (wRes r) (fun ν => zip2 eIdx (wCh P (aE l lex Ls ads Γ.below) o x (gE T) (fkE T) (vtok (entO (T.get 11) 2).val) (sltO (T.get 11)) r ν)) (fun ν => news_ (wNew (aE l lex Ls ads Γ.below) r ν)))
  | j + 1, x, Γ, c, T, ads => conB j x Γ c T ads
  | _, _, _, _, _, _ => none
noncomputable def exL (P : Params) (l lex Ls : Nat) (o : OutA) (x : Lx) (g : Nat → FrO) (xs : Array Value) (n : Nat) (st : Value) (ln τl τt pos τp : Nat) : List (Nat × Obj) :=
  (l, listO xs n) :: lxL P lex x st ln τl ⟨⟨[]⟩⟩ τt pos τp ++ (x.dq1, deqO) :: (x.dq2, deqO) :: (Ls, frX (g 2)) :: outF o g
noncomputable def ctxE (l lex Ls : Nat) (q : Nat → Pos) (o : OutA) : Ctx := ctxOf (loopC l lex) (belL lex Ls q (outOf o))
noncomputable def lnOf (X : Out) (i j : Nat) : Nat := match (entAt X i j).val with
  | .int (.ofNat n) _ => n
  | _ => 0
noncomputable def runE (W : World) (l lex Ls : Nat) (q : Nat → Pos) (o : OutA) (x : Lx) (g : Nat → FrO) (xs : Array Value) (n : Nat) (st τs ln τl τt pos τp : Nat) (r : RdR) (fuel : Nat) (hs : List Nat) (N t : Nat) (p : Pos) (nv : Nv) : Out :=
  runC (cfgW W (conE W.params l lex Ls o x st τs ln τl τt pos τp r)) fuel (ctxE l lex Ls q o) p hs (exL W.params l lex Ls o x g xs n (stV st τs) ln τl τt pos τp) N t nv
noncomputable def itemsOf : Nat → (Nat → Value) → List Value
  | 0, _ => []
  | k + 1, f => f 0 :: itemsOf k fun i => f (i + 1)
theorem all7 {P : Nat → Prop} (h : P 0 ∧ P 1 ∧ P 2 ∧ P 3 ∧ P 4 ∧ P 5 ∧ P 6) : ∀ k, k < 7 → P k := fun k hk => by
  obtain ⟨h0, h1, h2, h3, h4, h5, h6⟩ := h
  match k, hk with
  | 0, _ => exact h0
  | 1, _ => exact h1
  | 2, _ => exact h2
  | 3, _ => exact h3
  | 4, _ => exact h4
  | 5, _ => exact h5
  | 6, _ => exact h6
/-- a quoted token -/
theorem e1 (w : World) (b b2 : Bool) (l lex Ls : Nat) (q : Nat → Pos) (o : OutA) (x : Lx) (g : Nat → FrO) (f : Nat → Value) (n st τs ln τl τt pos τp : Nat) (tok : List Nat) (st1 : Nat) (rest nc : List Nat) (N t : Nat) (p : Pos) (nv : Nv) : ∀ k, k < 7 →
    let W := wld w b b2
    let X := runE W l lex Ls q o x g ⟨itemsOf k f⟩ n st τs ln τl τt pos τp ⟨false, tok, true, st1, rest, nc⟩ 430 [2, 0, 0, 0, 0, 0, 0, 0, 10, 10, 0, 1001, 10, 2, 0, 0, 0, 2, 0, 0, 0, 2, 0, 0, 0, 0, 2, 3, 0, 0, 0, 0, 11, 11, 0, 1001, 11, 2, 0, 0, 0, 0, 2, 0, 0, 0, 2, 2, 0, 3, 6, 6, 0, 6, 0, 6, 0, 6, 11, 2, 0, 0, 0, 2, 0, 0, 0, 2, 0, 0, 0, 0, 2, 3, 0, 0, 0, 0, 12, 12, 0, 1001, 12, 12, 12, 12, 1, 0, 12, 2, 0, 0, 0, 0, 2, 0, 0, 0, 2, 2, 0, 3, 12, 12, 12, 2, 0, 0, 0, 0, 2, 0, 0, 2, 0, 2, 0, 0, 0, 2, 0, 3, 3, 3, 12, 2, 0, 0, 0, 0, 2, 0, 0, 0, 2, 2, 0, 3, 12, 12, 2, 0, 0, 0, 0, 2, 0, 0, 0, 2, 2, 0, 3, 0, 0, 12, 11, 11, 11, 2, 0, 0, 0, 0, 2, 0, 0, 0, 2, 2, 0, 3, 1000, 11, 11, 2, 0, 0, 0, 0, 2, 0, 0, 0, 2, 2, 0, 3, 0, 0, 0, 0, 11, 2, 0, 0, 0, 0, 2, 0, 0, 0, 2, 2, 0, 3, 0, 0, 11, 10, 10, 10, 10, 2, 0, 0, 0, 0, 2, 0, 0, 0, 2, 2, 0, 3, 0, 0, 0, 0, 10, 1, 1, 1, 1] N t p nv
    let l' := exL W.params l lex Ls o x g ((⟨itemsOf k f⟩ : Array Value).push (.str ⟨⟨tok⟩⟩ ((nv 0).2.2.n 5))) (n + 1) (stV st1 ((nv 0).2.2.n 2)) (lnOf X 2 13) (vt X 2 13) (vt X 2 15) (x.buf.length - rest.length) (vt X 4 2)
    look [0, 1, 2, 3, 4, 5, 6, 7, 8] X = some (.again (ctxE l lex Ls q o) (posOf X), os_ l', as_ l', dup (eqsOf X), dupG (gsOf X), dupO (osOf X), (True ∧ True)) := by
  refine all7 ?_
  cases b <;> (refine ⟨?_, ?_, ?_, ?_, ?_, ?_, ?_⟩ <;> (intro W X l'; kernel_rfl))
/-- a bare token -/
theorem e2 (w : World) (b b2 : Bool) (l lex Ls : Nat) (q : Nat → Pos) (o : OutA) (x : Lx) (g : Nat → FrO) (f : Nat → Value) (n st τs ln τl τt pos τp : Nat) (tok : List Nat) (st1 : Nat) (rest nc : List Nat) (N t : Nat) (p : Pos) (nv : Nv) : ∀ k, k < 7 →
    let W := wld w b b2
    let X := runE W l lex Ls q o x g ⟨itemsOf k f⟩ n st τs ln τl τt pos τp ⟨false, tok, false, st1, rest, nc⟩ 436 [2, 0, 0, 0, 0, 0, 0, 0, 10, 10, 0, 1001, 10, 2, 0, 0, 0, 2, 0, 0, 0, 2, 0, 0, 0, 0, 2, 3, 0, 0, 0, 0, 11, 11, 0, 1001, 11, 2, 0, 0, 0, 0, 2, 0, 0, 0, 2, 2, 0, 3, 6, 6, 0, 6, 0, 6, 0, 6, 11, 2, 0, 0, 0, 2, 0, 0, 0, 2, 0, 0, 0, 0, 2, 3, 0, 0, 0, 0, 12, 12, 0, 1001, 12, 12, 12, 12, 1, 0, 12, 2, 0, 0, 0, 0, 2, 0, 0, 0, 2, 2, 0, 3, 12, 12, 12, 2, 0, 0, 0, 0, 2, 0, 0, 2, 0, 2, 0, 0, 0, 2, 0, 3, 3, 3, 12, 2, 0, 0, 0, 0, 2, 0, 0, 0, 2, 2, 0, 3, 12, 12, 2, 0, 12, 2, 0, 0, 0, 0, 2, 0, 0, 0, 2, 2, 0, 3, 0, 0, 12, 11, 11, 11, 2, 0, 0, 0, 0, 2, 0, 0, 0, 2, 2, 0, 3, 1000, 11, 11, 2, 0, 0, 0, 0, 2, 0, 0, 0, 2, 2, 0, 3, 0, 0, 0, 0, 11, 2, 0, 0, 0, 0, 2, 0, 0, 0, 2, 2, 0, 3, 0, 0, 11, 10, 10, 10, 10, 2, 0, 0, 0, 0, 2, 0, 0, 0, 2, 2, 0, 3, 0, 0, 0, 0, 10, 1, 1, 1, 1] N t p nv
    let l' := exL W.params l lex Ls o x g ((⟨itemsOf k f⟩ : Array Value).push (.str ⟨⟨tok⟩⟩ ((nv 0).2.2.n 5))) (n + 1) (stV st1 ((nv 0).2.2.n 2)) (lnOf X 2 13) (vt X 2 13) (vt X 2 15) (x.buf.length - rest.length) (vt X 4 2)
    look [0, 1, 2, 3, 4, 5, 6, 7, 8] X = some (.again (ctxE l lex Ls q o) (posOf X), os_ l', as_ l', dup (eqsOf X), dupG (gsOf X), dupO (osOf X), (EqB tok [] 0 ∧ True ∧ True)) := by
  refine all7 ?_
  cases b <;> (refine ⟨?_, ?_, ?_, ?_, ?_, ?_, ?_⟩ <;> (intro W X l'; kernel_rfl))
/-- an open quotation -/
theorem e3 (w : World) (b b2 : Bool) (l lex Ls : Nat) (q : Nat → Pos) (o : OutA) (x : Lx) (g : Nat → FrO) (xs : Array Value) (n st τs ln τl τt pos τp : Nat) (tok : List Nat) (st1 : Nat) (rest nc : List Nat) (N t : Nat) (p : Pos) (nv : Nv) :
    let W := wld w b b2
    let X := runE W l lex Ls q o x g xs n st τs ln τl τt pos τp ⟨true, tok, true, st1, rest, nc⟩ 190 [2, 0, 0, 0, 0, 0, 0, 0, 10, 10, 0, 1001, 10, 2, 0, 0, 0, 2, 0, 0, 0, 2, 0, 0, 0, 0, 2, 3, 0, 0, 0, 0, 11, 11, 0, 1001, 11, 2, 0, 0, 0, 0, 2, 0, 0, 0, 2, 2, 0, 3, 6, 6, 0, 6, 0, 6, 0, 6, 11, 2, 0, 0, 0, 2, 0, 0, 0, 2, 0, 0, 0, 0, 2, 3, 0, 0, 0, 0, 12, 12, 0, 1001, 12, 12, 12, 12, 1, 0, 13, 13, 14, 14, 12, 13, 12, 13, 10, 9, 7, 8, 12, 14, 9, 7, 8, 13] N t p nv
    let l' := [(l, obAt X 0), (lex, obAt X 1), (x.d, obAt X 2), (x.sio, obAt X 3), (x.e, obAt X 4), (x.dq1, obAt X 5), (x.dq2, obAt X 6), (Ls, frX ⟨(g 2).es, (g 2).n, slOf X 7⟩)] ++ (outF o fun i => ⟨(g i).es, (g i).n, slOf X (5 + i)⟩) ++
        [(adAt X 12, excO "ValueError" ((nv 0).2.2.n 9) (adAt X 15) (slOf X 12)), (adAt X 15, entryO (.ref (adAt X 14)) (adAt X 9) .none (tlOf X 15))]
    look [0, 1, 2, 3, 4, 5, 6, 7, 8, 12, 15] X = some (.done (.error (.ref (adAt X 12))), os_ l', as_ l', dup (eqsOf X), dupG (gsOf X), dupO (osOf X), (True ∧ True)) := by
  cases b <;> (intro W X l'; kernel_rfl)
/-- the end -/
theorem e4 (w : World) (b b2 : Bool) (l lex Ls : Nat) (q : Nat → Pos) (o : OutA) (x : Lx) (g : Nat → FrO) (xs : Array Value) (n st τs ln τl τt pos τp : Nat) (tok : List Nat) (st1 : Nat) (rest nc : List Nat) (N t : Nat) (p : Pos) (nv : Nv) :
    let W := wld w b b2
    let X := runE W l lex Ls q o x g xs n st τs ln τl τt pos τp ⟨false, tok, false, st1, rest, nc⟩ 494 [2, 0, 0, 0, 0, 0, 0, 0, 10, 10, 0, 1001, 10, 2, 0, 0, 0, 2, 0, 0, 0, 2, 0, 0, 0, 0, 2, 3, 0, 0, 0, 0, 11, 11, 0, 1001, 11, 2, 0, 0, 0, 0, 2, 0, 0, 0, 2, 2, 0, 3, 6, 6, 0, 6, 0, 6, 0, 6, 11, 2, 0, 0, 0, 2, 0, 0, 0, 2, 0, 0, 0, 0, 2, 3, 0, 0, 0, 0, 12, 12, 0, 1001, 12, 12, 12, 12, 1, 0, 12, 2, 0, 0, 0, 0, 2, 0, 0, 0, 2, 2, 0, 3, 12, 12, 12, 2, 0, 0, 0, 0, 2, 0, 0, 2, 0, 2, 0, 0, 0, 2, 0, 3, 3, 3, 12, 2, 0, 0, 0, 0, 2, 0, 0, 0, 2, 2, 0, 3, 12, 12, 2, 1, 12, 12, 12, 2, 0, 0, 0, 0, 2, 0, 0, 0, 2, 2, 0, 3, 0, 0, 12, 11, 11, 11, 2, 0, 0, 0, 0, 2, 0, 0, 0, 2, 2, 0, 3, 1000, 11, 11, 2, 0, 0, 0, 0, 2, 0, 0, 0, 2, 2, 0, 3, 0, 0, 11, 2, 0, 0, 0, 0, 2, 0, 0, 0, 2, 2, 0, 3, 7, 7, 0, 7, 0, 7, 0, 7, 11, 2, 0, 0, 0, 0, 2, 0, 0, 0, 2, 2, 0, 3, 10, 10, 10, 10, 2, 0, 0, 0, 0, 2, 0, 0, 0, 2, 2, 0, 3, 0, 0, 0, 0, 0, 0, 0, 0, 14, 14, 0, 14, 14, 0, 0, 14, 14, 14, 14, 14, 14, 14, 14, 14, 14, 0, 0, 0, 14, 13, 9, 7, 8, 14] N t p nv
    let l' := exL W.params l lex Ls o x (fun i => ⟨(g i).es, (g i).n, slOf X (5 + i)⟩) xs n (stV st1 ((nv 0).2.2.n 2)) (lnOf X 2 13) (vt X 2 13) (vt X 2 15) (x.buf.length - rest.length) (vt X 4 2)
    look [0, 1, 2, 3, 4, 5, 6, 7, 8] X = some (.done (.ok (.ret .none)), os_ l', as_ l', dup (eqsOf X), dupG (gsOf X), dupO (osOf X), (EqB tok [] 1 ∧ True ∧ True)) := by
  cases b <;> (intro W X l'; kernel_rfl)
/-! S802 -/
/-! ### list(lex) -/
theorem zip2_ad {ads : Ads} : ∀ (is : List Nat) (l : List (Nat × Obj)), l.map (·.1) = is.map (adOf ads) → l = (zip2 is l).map fun x => (adOf ads x.1, x.2)
  | [], [], _ => rfl
  | i :: is, y :: l, h => by
    have h1 := List.cons.inj h
    show y :: l = (adOf ads i, y.2) :: (zip2 is l).map _
    rw [← zip2_ad is l h1.2, ← h1.1]
  | [], _ :: _, h => by cases h
  | _ :: _, [], h => by cases h
theorem zip2_mem {m : Nat} : ∀ (is : List Nat) (l : List (Nat × Obj)), (∀ i ∈ is, i < m) → ∀ x ∈ zip2 is l, x.1 < m
  | [], _, _, x, h => by cases h
  | i :: is, [], _, x, h => by cases h
  | i :: is, y :: l, H, x, h => by
    rcases List.mem_cons.mp h with rfl | h
    · exact H i (List.mem_cons_self ..)
    · exact zip2_mem is l (fun j hj => H j (List.mem_cons_of_mem _ hj)) x h
theorem zip3_holds {s : Shared} {ads : Ads} {m : Nat} : ∀ (is : List Nat) (l : List (Nat × Obj)), is.length = l.length → Holds s ((zip3 is l).map fun x => (x.2.1, x.2.2)) → (∀ x ∈ zip3 is l, x.1 < m ∧ x.2.1 = adOf ads x.1) → Holds s l ∧ l.map (·.1) = is.map (adOf ads) ∧ ∀ i ∈ is, i < m
  | [], [], _, _, _ => ⟨fun x h => by (cases h), rfl, fun x h => by (cases h)⟩
  | i :: is, y :: l, e, H, A => by
    obtain ⟨h1, h2, h3⟩ := zip3_holds is l (Nat.succ.inj e) (fun x hx => H x (List.mem_cons_of_mem _ hx)) fun x hx => A x (List.mem_cons_of_mem _ hx)
    have a0 := A (i, y.1, y.2) (List.mem_cons_self ..)
    refine ⟨fun x hx => ?_, ?_, fun j hj => ?_⟩
    · rcases List.mem_cons.mp hx with rfl | hx
      · exact H (x.1, x.2) (List.mem_cons_self ..)
      · exact h1 x hx
    · show y.1 :: _ = adOf ads i :: _
      rw [h2, ← a0.2]
    · rcases List.mem_cons.mp hj with rfl | hj
      · exact a0.1
      · exact h3 j hj
  | [], _ :: _, e, _, _ => by cases e
  | _ :: _, [], e, _, _ => by cases e
theorem nodup_ad {B : Base} {s : Shared} {T : BT} {m : Nat} {ads : Ads} {tk : Nat} (D : Rep B s T m ads tk) {is : List Nat} (hn : is.Nodup) (hm : ∀ i ∈ is, i < m) : (is.map (adOf ads)).Nodup := by
  rw [List.nodup_iff_pairwise_ne, List.pairwise_map]
  refine List.Pairwise.imp_of_mem (fun {i j} hi hj h e => h (D.inj i j (hm i hi) (hm j hj) e)) (List.nodup_iff_pairwise_ne.mp hn)
theorem conE_ok {w : World} {b b2 : Bool} {l lex Ls : Nat} {o : OutA} {x : Lx} {st τs ln τl τt pos τp : Nat} {r : RdR} (hr : r = rd (x.buf.drop pos) st [] false) (hst : (st = 0 ∧ x.buf.drop pos = []) ∨ st = 32) (hb : x.buf.length ≤ sizeLine) (hbs : 92 ∉ x.buf.drop pos)
    (hp : pos ≤ x.buf.length) {l0 : Nat} {s₀ : Shared} : ConOk (baseOf (kt (wld w b b2).params) 769 l0 s₀) (MW (wld w b b2)) (cfgW (wld w b b2) (conE (wld w b b2).params l lex Ls o x st τs ln τl τt pos τp r)) := by
  intro j y Γ T m ads tk s p g hg hx hn ho ob D
  obtain ⟨c0, e1, e2, bel, e3⟩ := Γ
  replace hg : conE (wld w b b2).params l lex Ls o x st τs ln τl τt pos τp r j y ⟨c0, e1, e2, bel, e3⟩ c0 T ads = some g := hg
  cases j with
  | succ j => exact conB_ok _ _ _ _ _ _ _ _ _ _ hg hx ob D
  | zero =>
    cases c0 with
    | whileLoop test body orelse env =>
      cases hg
      obtain ⟨h1, h2⟩ := conS_holds D hn ho
      replace hx : _ = ctxOf (wCode (adOf ads 11)) ((aE l lex Ls ads bel).W o) := hx
      rw [hx]
      obtain ⟨H, ha, hm⟩ := zip3_holds _ _ rfl h1 h2
      have F : Fx (aE l lex Ls ads bel) o x := ⟨by
          have := nodup_ad D (is := eIdx) (by decide) hm
          rw [← ha] at this
          exact this, fun z hz => by
          have hz : z ∈ eIdx.map (adOf ads) := by rw [← ha]; exact hz
          obtain ⟨i, hi, rfl⟩ := List.mem_map.mp hz
          exact (D.lo i (hm i hi)).1, hb⟩
      refine while_ok F (x.buf.drop pos) (rep_sane D) rfl hbs (Nat.zero_le _) hp ?_ H fun ν s' hD => ?_
      · rcases hst with ⟨rfl, h⟩ | rfl
        · exact .inl ⟨rfl, rfl, rfl, rfl, h⟩
        · exact .inr (.inl ⟨rfl, rfl, rfl⟩)
      · rw [← hr] at hD ⊢
        have hw : ((wCh (wld w b b2).params (aE l lex Ls ads bel) o x (gE T) (fkE T) (vtok (entO (T.get 11) 2).val) (sltO (T.get 11)) r ν).map (·.1)) = eIdx.map (adOf ads) := by
          rw [← ha]; cases r with | mk err tok qd st1 rest nc => cases err <;> rfl
        refine conS_left D ν _ rfl _ _ hD (zip2_ad _ _ hw) (zip2_mem _ _ hm) rfl fun k hk => ?_
        cases r with | mk err tok qd st1 rest nc =>
          cases err with
          | false => exact absurd hk (Nat.not_lt_zero _)
          | true =>
            match k, hk with
            | 0, _ => rfl
            | 1, _ => rfl
    | _ => cases hg
noncomputable def adE (l lex Ls : Nat) (o : OutA) (x : Lx) : List Nat := [l, lex, x.d, x.sio, x.e, x.dq1, x.dq2, Ls] ++ outA o
structure Ex (l lex Ls : Nat) (o : OutA) (x : Lx) : Prop where
  nd : (adE l lex Ls o x).Nodup
  lo : ∀ y ∈ adE l lex Ls o x, 769 ≤ y
  hb : x.buf.length ≤ 13
  bs : 92 ∉ x.buf
theorem Ex.lo' {l lex Ls : Nat} {o : OutA} {x : Lx} (F : Ex l lex Ls o x) {c : List (Nat × Obj)} (h : c.map (·.1) = adE l lex Ls o x := by rfl) : ∀ y ∈ c, 769 ≤ y.1 := fun y hy => F.lo _ (h ▸ List.mem_map.mpr ⟨y, hy, rfl⟩)
theorem itemsOf_getD : ∀ (vs : List Value), itemsOf vs.length (fun i => vs.getD i .none) = vs
  | [] => rfl
  | v :: vs => congrArg (v :: ·) (itemsOf_getD vs)
theorem push_list (vs : List Value) (v : Value) : (⟨vs⟩ : Array Value).push v = ⟨vs ++ [v]⟩ := by simp
/-- what is left of split's objects when a quotation is open -/
noncomputable def badL (l lex Ls : Nat) (o : OutA) (x : Lx) (g : Nat → FrO) (sls : Nat → Array (Option Value)) (gb : Nat → Obj) : List (Nat × Obj) :=
  [(l, gb 0), (lex, gb 1), (x.d, gb 2), (x.sio, gb 3), (x.e, gb 4), (x.dq1, gb 5), (x.dq2, gb 6), (Ls, frX ⟨(g 2).es, (g 2).n, sls 2⟩)] ++ outF o fun i => ⟨(g i).es, (g i).n, sls i⟩
theorem extend_ok {w : World} {b b2 : Bool} {l lex Ls : Nat} {q : Nat → Pos} {o : OutA} {x : Lx} (F : Ex l lex Ls o x) {g : Nat → FrO} {R : Result → Shared → Prop} :
    ∀ (n : Nat) {vals : List Value} {ws : List (List Nat)} {nn st τs ln τl τt pos τp : Nat} {s : Shared} {p : Pos} (S : Top (wld w b b2) s) (hmu : rdMu (x.buf.drop pos) st < n) (hp : pos ≤ x.buf.length)
    (hst : (st = 0 ∧ x.buf.drop pos = []) ∨ (st = 32 ∧ 2 * vals.length ≤ pos)) (hw : IsWords vals ws) (H : Holds s (exL (wld w b b2).params l lex Ls o x g ⟨vals⟩ nn (stV st τs) ln τl τt pos τp))
    (ok : ∀ words, rdAll n (x.buf.drop pos) st = some words → ∀ (vals' : List Value) (nn' : Nat) (sls : Nat → Array (Option Value)) (stv : Value) (ln' τl' τt' pos' τp' : Nat) (s' : Shared), IsWords vals' (ws ++ words) →
      Did s s' (exL (wld w b b2).params l lex Ls o x (fun i => ⟨(g i).es, (g i).n, sls i⟩) ⟨vals'⟩ nn' stv ln' τl' τt' pos' τp') [] → R (.ok (.ret .none)) s')
    (bad : rdAll n (x.buf.drop pos) st = none → ∀ (sls : Nat → Array (Option Value)) (gb : Nat → Obj) (esl : Array (Option Value)) (ea ga ta hd lf : Nat) (tl : Array Value) (s' : Shared),
      Did s s' (badL l lex Ls o x g sls gb) [(ea, excO "ValueError" ga ta esl), (ta, entryO (.ref hd) lf .none tl)] → R (.error (.ref ea)) s'),
    wpCode (MW (wld w b b2)) (ctxE l lex Ls q o) R p s
  | 0, vals, ws, nn, st, τs, ln, τl, τt, pos, τp, s, p, S, hmu, hp, hst, hw, H, ok, bad => absurd hmu (Nat.not_lt_zero _)
  | n + 1, vals, ws, nn, st, τs, ln, τl, τt, pos, τp, s, p, S, hmu, hp, hst, hw, H, ok, bad => by
    have hbl : x.buf.length ≤ sizeLine := Nat.le_trans F.hb (by decide)
    have hbs : 92 ∉ x.buf.drop pos := fun h => F.bs (List.mem_of_mem_drop h)
    have h0 : st = 0 → x.buf.drop pos = [] := fun h => by
      rcases hst with ⟨_, h'⟩ | ⟨h', _⟩
      · exact h'
      · rw [h] at h'; cases h'
    have hst' : (st = 0 ∧ x.buf.drop pos = []) ∨ st = 32 := hst.imp id (·.1)
    cases hr : rd (x.buf.drop pos) st [] false with
    | mk err tok qd st1 rest nc =>
      have con := fun l0 => conE_ok (w := w) (b := b) (b2 := b2) (l := l) (lex := lex) (Ls := Ls) (o := o) (τs := τs) (ln := ln) (τl := τl) (τt := τt) (τp := τp) hr.symm hst' hbl hbs hp (l0 := l0) (s₀ := s)
      cases err with
      | true =>
        have hq : qd = true := by
          have := rd_err (x.buf.drop pos) st [] false (by rw [hr])
          rw [hr] at this
          exact this
        subst hq
        have e : rdAll (n + 1) (x.buf.drop pos) st = none := by show (match (rd (x.buf.drop pos) st [] false).err with | true => _ | false => _) = _; rw [hr]
        refine runC_ok [12, 15] (con _) S H F.nd F.lo' _ _ (fun _ => [_, _]) _ (fun nv => e3 w b b2 l lex Ls q o x g ⟨vals⟩ nn st τs ln τl τt pos τp tok st1 rest nc _ _ p nv) (fun _ => ⟨trivial, trivial⟩) fun nv s' Af => ?_
        try dsimp only at Af
        generalize runE _ _ _ _ _ _ _ _ _ _ _ _ _ _ _ _ _ _ _ _ _ _ _ _ = X at Af
        exact bad e (fun i => slOf X (5 + i)) (obAt X) (slOf X 12) (adAt X 12) _ (adAt X 15) (adAt X 14) _ (tlOf X 15) s' (Af.did _ [_, _] [12, 15] rfl rfl rfl (by simp [badL, outF]) (by simp) rfl rfl)
      | false =>
        by_cases hend : qd = false ∧ tok = []
        · obtain ⟨rfl, rfl⟩ := hend
          have e : rdAll (n + 1) (x.buf.drop pos) st = some [] := by show (match (rd (x.buf.drop pos) st [] false).err with | true => _ | false => _) = _; rw [hr]; rfl
          refine runC_ok [] (con _) S H F.nd F.lo' _ _ (fun _ => []) _ (fun nv => e4 w b b2 l lex Ls q o x g ⟨vals⟩ nn st τs ln τl τt pos τp [] st1 rest nc _ _ p nv) (fun _ => ⟨by unfold EqB; rfl, trivial, trivial⟩) fun nv s' Af => ?_
          try dsimp only at Af
          generalize runE _ _ _ _ _ _ _ _ _ _ _ _ _ _ _ _ _ _ _ _ _ _ _ _ = X at Af
          exact ok [] e vals nn (fun i => slOf X (5 + i)) _ (lnOf X 2 13) (vt X 2 13) (vt X 2 15) _ (vt X 4 2) s' (by rw [List.append_nil]; exact hw) (Af.did _ [] [] rfl rfl rfl (by simp) (by simp) rfl rfl)
        · have e : rdAll (n + 1) (x.buf.drop pos) st = (rdAll n rest st1).map (tok :: ·) := by
            show (match (rd (x.buf.drop pos) st [] false).err with | true => _ | false => _) = _
            rw [hr]
            show (if qd = false ∧ tok = [] then _ else _) = _
            rw [if_neg hend]
          -- the state was blank
          have h32 : st = 32 ∧ 2 * vals.length ≤ pos := hst.resolve_left fun ⟨h1, h2⟩ => by
            rw [h2, h1] at hr
            cases hr
            exact hend ⟨rfl, rfl⟩
          obtain ⟨rfl, h2k⟩ := h32
          have hne : x.buf.drop pos ≠ [] := fun h => by
            rw [h] at hr
            cases hr
            exact hend ⟨rfl, rfl⟩
          have hlt : pos < x.buf.length := by
            have := List.length_pos_iff.mpr hne
            rw [List.length_drop] at this
            omega
          have hk : vals.length < 7 := by have := F.hb; omega
          obtain ⟨⟨pre, hpre⟩, hnext⟩ := rd_rest (x.buf.drop pos) 32 [] false h0 (by rw [hr])
          rw [hr] at hpre hnext
          simp only at hpre hnext
          have hrest : x.buf.drop (x.buf.length - rest.length) = rest := by
            have h1 := congrArg List.length hpre
            rw [List.length_drop, List.length_append] at h1
            rw [show x.buf.length - rest.length = pos + pre.length by omega, ← List.drop_drop, hpre, List.drop_left]
          have hlen : rest.length ≤ (x.buf.drop pos).length := by rw [hpre, List.length_append]; omega
          rw [List.length_drop] at hlen
          have step : ∀ (τ : Nat) (st2 ln2 τl2 τt2 τp2 : Nat) (p' : Pos) (s' : Shared), Did s s' (exL (wld w b b2).params l lex Ls o x g (((⟨itemsOf vals.length fun i => vals.getD i .none⟩ : Array Value)).push (.str ⟨⟨tok⟩⟩ τ)) (nn + 1) (stV st1 st2) ln2 τl2 τt2 (x.buf.length - rest.length) τp2) [] →
              wpCode (MW (wld w b b2)) (ctxE l lex Ls q o) R p' s' := by
            intro τ st2 ln2 τl2 τt2 τp2 p' s' D
            rw [itemsOf_getD, push_list] at D
            refine extend_ok F n (ws := ws ++ [tok]) (Did.sane S D F.lo') ?_ (by omega) ?_ hw.snoc D.holds (fun words hwd vals' nn' sls stv ln' τl' τt' pos' τp' s'' hv D' => ?_) fun hn sls gb esl ea ga ta hd lf tl s'' D' => ?_
            · rw [hrest]
              unfold rdMu at hmu ⊢
              rw [List.length_drop] at hmu
              rcases hnext with ⟨rfl, rfl⟩ | ⟨rfl, h, h'⟩
              · simp at hmu ⊢; omega
              · rw [List.length_drop] at h
                simp at hmu ⊢; omega
            · rw [hrest]
              rcases hnext with ⟨rfl, rfl⟩ | ⟨rfl, h, h'⟩
              · exact .inl ⟨rfl, rfl⟩
              · refine .inr ⟨rfl, ?_⟩
                have := h' (by first | rfl | trivial)
                rw [List.length_drop] at this
                rw [List.length_append, List.length_singleton]
                omega
            · rw [hrest] at hwd
              exact ok (tok :: words) (by rw [e, hwd]; rfl) vals' nn' sls stv ln' τl' τt' pos' τp' s'' (by simpa using hv) (D.trans D' fun _ h => h)
            · rw [hrest] at hn
              exact bad (by rw [e, hn]; rfl) sls gb esl ea ga ta hd lf tl s'' (D.trans D' fun _ h => h)
          have H' : Holds s (exL (wld w b b2).params l lex Ls o x g ⟨itemsOf vals.length fun i => vals.getD i .none⟩ nn (stV 32 τs) ln τl τt pos τp) := by rw [itemsOf_getD]; exact H
          cases qd with
          | true =>
            refine runC_ok [] (con _) S H' F.nd F.lo' _ _ (fun _ => []) _ (fun nv => e1 w b b2 l lex Ls q o x g (fun i => vals.getD i .none) nn 32 τs ln τl τt pos τp tok st1 rest nc _ _ p nv vals.length hk) (fun _ => ⟨trivial, trivial⟩) fun nv s' Af => ?_
            try dsimp only at Af
            generalize runE _ _ _ _ _ _ _ _ _ _ _ _ _ _ _ _ _ _ _ _ _ _ _ _ = X at Af
            exact step _ _ (lnOf X 2 13) (vt X 2 13) (vt X 2 15) (vt X 4 2) _ s' (Af.did _ [] [] rfl rfl rfl (by simp) (by simp) rfl rfl)
          | false =>
            have htok : tok ≠ [] := fun h => hend ⟨rfl, h⟩
            refine runC_ok [] (con _) S H' F.nd F.lo' _ _ (fun _ => []) _ (fun nv => e2 w b b2 l lex Ls q o x g (fun i => vals.getD i .none) nn 32 τs ln τl τt pos τp tok st1 rest nc _ _ p nv vals.length hk) (fun _ => ⟨by unfold EqB; simp [htok, bOf], trivial, trivial⟩) fun nv s' Af => ?_
            try dsimp only at Af
            generalize runE _ _ _ _ _ _ _ _ _ _ _ _ _ _ _ _ _ _ _ _ _ _ _ _ = X at Af
            exact step _ _ (lnOf X 2 13) (vt X 2 13) (vt X 2 15) (vt X 4 2) _ s' (Af.did _ [] [] rfl rfl rfl (by simp) (by simp) rfl rfl)
/-! S902 -/
theorem bwp {W : World} {id : String} {B : Builtin} (e : entryFor table id = some B) {Γ : Ctx} {args : Args} (hc : Γ.code = .builtin id args) {R : Result → Shared → Prop} {p : Pos} {s : Shared}
    (h : Sem.wp (MW W) Γ (B args) (Sem.finPost (MW W) Γ R) (fun e _ s' => R (.error e) s') p s) : wpCode (MW W) Γ R p s := by
  rw [wpCode_iff_wp, hc]
  show Sem.wp (MW W) _ (match entryFor table id with | some b => b args | none => unsupported ((withoutEnding? id "#data").getD id)) _ _ p s
  rw [e]
  exact h
/-! ### list.__init__ -/
noncomputable def ctxI (l lex Ls : Nat) (q : Nat → Pos) (o : OutA) : Ctx := ctxOf (.call (.builtin "list.__init__") ⟨[.ref l, .ref lex], []⟩) (belL lex Ls q (outOf o))
noncomputable def ctxJ (l lex Ls : Nat) (q : Nat → Pos) (o : OutA) : Ctx := ctxOf (.builtin "list.__init__" ⟨[.ref l, .ref lex], []⟩) (belL lex Ls q (outOf o))
theorem i1 (w : World) (b b2 : Bool) (l lex Ls : Nat) (q : Nat → Pos) (o : OutA) (x : Lx) (g : Nat → FrO) (st τs ln τl τt pos τp : Nat) (N t : Nat) (p : Pos) (nv : Nv) :
    let W := wld w b b2
    let X := runC (cfgW W (conO orc0)) 42 (ctxI l lex Ls q o) p [1, 1] (exL W.params l lex Ls o x g ⟨[]⟩ 0 (stV st τs) ln τl τt pos τp) N t nv
    let l' := exL W.params l lex Ls o x g ⟨[]⟩ 0 (stV st τs) ln τl τt pos τp
    look [0, 1, 2, 3, 4, 5, 6, 7, 8] X = some (.again (ctxJ l lex Ls q o) (posOf X), os_ l', as_ l', dup (eqsOf X), dupG (gsOf X), dupO (osOf X), (True)) := by
  cases b <;> (intro W X l'; kernel_rfl)
theorem init_ok {w : World} {b b2 : Bool} {l lex Ls : Nat} {q : Nat → Pos} {o : OutA} {x : Lx} (F : Ex l lex Ls o x) {g : Nat → FrO} {R : Result → Shared → Prop}
    {τs ln τl τt τp : Nat} {s : Shared} {p : Pos} (S : Top (wld w b b2) s) (H : Holds s (exL (wld w b b2).params l lex Ls o x g ⟨[]⟩ 0 (stV 32 τs) ln τl τt 0 τp))
    (ok : ∀ words, rdAll (2 * x.buf.length + 2) x.buf 32 = some words → ∀ (vals' : List Value) (nn' : Nat) (sls : Nat → Array (Option Value)) (stv : Value) (ln' τl' τt' pos' τp' : Nat) (s' : Shared), IsWords vals' words →
      Did s s' (exL (wld w b b2).params l lex Ls o x (fun i => ⟨(g i).es, (g i).n, sls i⟩) ⟨vals'⟩ nn' stv ln' τl' τt' pos' τp') [] → R (.ok (.ret .none)) s')
    (bad : rdAll (2 * x.buf.length + 2) x.buf 32 = none → ∀ (sls : Nat → Array (Option Value)) (gb : Nat → Obj) (esl : Array (Option Value)) (ea ga ta hd lf : Nat) (tl : Array Value) (s' : Shared),
      Did s s' (badL l lex Ls o x g sls gb) [(ea, excO "ValueError" ga ta esl), (ta, entryO (.ref hd) lf .none tl)] → R (.error (.ref ea)) s') :
    wpCode (MW (wld w b b2)) (ctxI l lex Ls q o) R p s := by
  refine runC_ok [] (conO_good orc0) S H F.nd F.lo' _ _ (fun _ => []) _ (fun nv => i1 w b b2 l lex Ls q o x g 32 τs ln τl τt 0 τp _ _ p nv) (fun _ => trivial) fun nv s' Af => ?_
  try dsimp only at Af
  generalize hX : runC _ _ _ _ _ _ _ _ _ = X at Af ⊢
  have D := Af.did (exL (wld w b b2).params l lex Ls o x g ⟨[]⟩ 0 (stV 32 τs) ln τl τt 0 τp) [] [] rfl rfl rfl (by simp) (by simp) rfl rfl
  clear Af hX
  show wpCode (MW (wld w b b2)) (ctxJ l lex Ls q o) R (posOf X) s'
  generalize posOf X = p'
  have hne : l ≠ lex := by
    intro e
    have := F.nd
    simp [adE, e] at this
  refine bwp PySem.F.entry_list_init rfl ?_
  dsimp only [Builtin.«list.__init__», Builtin.List.listExtendWith, Builtin.List.listSameRef]
  have hb : (l == lex) = false := by simp [hne]
  simp only [hb, Bool.false_or]
  have S' : Top (wld w b b2) s' := Did.sane S D F.lo'
  refine run_tree (C := cfgW (wld w b b2) (conO orc0)) (n := 91) (hs := [1, 1, 1, 1, 2, 2, 0, 0, 0, 2, 0, 0, 0, 0, 0, 0, 0, 10, 10, 0, 1001, 10, 2, 0, 0, 0, 2, 0, 0, 0, 2, 0, 0, 0, 1, 1, 1, 1, 1, 1, 1]) (ext := []) (den_ok _ _) rfl rfl rfl (conO_good orc0) (lvTree_ok (by show lvF = lvTree; exact lv_eq.symm)) S' D.holds F.nd F.lo'
    (fun nv => .again (ctxE l lex Ls q o) p') (fun nv => os_ (exL (wld w b b2).params l lex Ls o x g ⟨[]⟩ 2 (stV 32 τs) ln τl τt 0 τp)) (fun _ => []) (fun _ => True) (fun nv => ?_) (fun _ => trivial) fun nv s2 Af => ?_
  · rw [show @sx = @sxF from sx_eq]
    cases b <;> (intro X0; kernel_rfl)
  · have D2 := Af.did (exL (wld w b b2).params l lex Ls o x g ⟨[]⟩ 2 (stV 32 τs) ln τl τt 0 τp) [] [] rfl rfl rfl (by simp) (by simp) rfl rfl
    refine extend_ok F (2 * x.buf.length + 2) (vals := []) (ws := []) (Did.sane S' D2 F.lo') (by simp [rdMu]) (Nat.zero_le _) (.inr ⟨rfl, Nat.zero_le _⟩) trivial D2.holds (fun words hw vals' nn' sls stv ln' τl' τt' pos' τp' s3 hv D3 => ?_) fun hn sls gb esl ea ga ta hd lf tl s3 D3 => ?_
    · exact ok words hw vals' nn' sls stv ln' τl' τt' pos' τp' s3 (by simpa using hv) ((D.trans D2 fun _ h => h).trans D3 fun _ h => h)
    · exact bad hn sls gb esl ea ga ta hd lf tl s3 ((D.trans D2 fun _ h => h).trans D3 fun _ h => h)
/-! SA02 -/
/-! ### split -/
noncomputable def mkW : List (List Nat) → (Nat → Nat) → List Value
  | [], _ => []
  | l :: r, τ => .str ⟨⟨l⟩⟩ (τ 0) :: mkW r fun i => τ (i + 1)
theorem isWords_mkW : ∀ {vs : List Value} {ws : List (List Nat)}, IsWords vs ws → ∃ τ, vs = mkW ws τ
  | [], [], _ => ⟨fun _ => 0, rfl⟩
  | .str ⟨⟨l⟩⟩ τ0 :: r, l' :: r', h => by
    obtain ⟨rfl, h⟩ := h
    obtain ⟨τ, e⟩ := isWords_mkW h
    refine ⟨fun i => match i with | 0 => τ0 | i + 1 => τ i, ?_⟩
    rw [e]; rfl
noncomputable def iRes (r : Option (List (List Nat))) (ν : Unk) : Result := match r with
  | some _ => .ok (.ret .none)
  | none => .error (.ref (ν.n 0))
noncomputable def iCh (l lex Ls : Nat) (o : OutA) (x : Lx) (g : Nat → FrO) (r : Option (List (List Nat))) (ν : Unk) : List (Nat × Obj) := match r with
  | some ws => [(l, listO ⟨mkW ws fun i => ν.n (i + 100)⟩ (ν.n 0)), (lex, ν.ob 1), (x.d, ν.ob 2), (x.sio, ν.ob 3), (x.e, ν.ob 4), (x.dq1, ν.ob 5), (x.dq2, ν.ob 6), (Ls, frX ⟨(g 2).es, (g 2).n, ν.sl 2⟩)] ++ outF o fun i => ⟨(g i).es, (g i).n, ν.sl i⟩
  | none => badL l lex Ls o x g ν.sl ν.ob
noncomputable def iNew (r : Option (List (List Nat))) (ν : Unk) : List (Nat × Obj) := match r with
  | some _ => []
  | none => [(ν.n 0, excO "ValueError" (ν.n 2) (ν.n 1) (ν.sl 20)), (ν.n 1, entryO (.ref (ν.n 3)) (ν.n 4) .none (ν.vs 0))]
theorem init_post {w : World} {b b2 : Bool} {l lex Ls : Nat} {q : Nat → Pos} {o : OutA} {x : Lx} (F : Ex l lex Ls o x) {g : Nat → FrO} {τs ln τl τt τp : Nat} {s : Shared} {p : Pos} (S : Top (wld w b b2) s)
    (H : Holds s (exL (wld w b b2).params l lex Ls o x g ⟨[]⟩ 0 (stV 32 τs) ln τl τt 0 τp)) : wpCode (MW (wld w b b2)) (ctxI l lex Ls q o)
      (fun r s' => ∃ ν, r = iRes (rdAll (2 * x.buf.length + 2) x.buf 32) ν ∧ Did s s' (iCh l lex Ls o x g (rdAll (2 * x.buf.length + 2) x.buf 32) ν) (iNew (rdAll (2 * x.buf.length + 2) x.buf 32) ν)) p s := by
  refine init_ok F S H (fun words e vals' nn' sls stv ln' τl' τt' pos' τp' s' hv D => ?_) fun e sls gb esl ea ga ta hd lf tl s' D => ?_
  · obtain ⟨τ, rfl⟩ := isWords_mkW hv
    rw [e]
    refine ⟨⟨fun i => match Nat.beq i 0 with | true => nn' | false => τ (i - 100), sls, fun _ => #[], fun i => match i with
      | 1 => inst 722 x.d
      | 2 => lexD (wld w b b2).params x.k x.v x.sio x.dq1 x.dq2 stv (.int (.ofNat ln') τl') (.str ⟨⟨[]⟩⟩ τt')
      | 3 => inst 587 x.e
      | 4 => sioD (wld w b b2).params x.sk x.nl (.str ⟨⟨x.buf⟩⟩ x.τb) (.int (.ofNat pos') τp')
      | _ => deqO⟩, rfl, D⟩
  · rw [e]
    exact ⟨⟨fun i => match i with | 0 => ea | 1 => ta | 2 => ga | 3 => hd | _ => lf, fun i => match Nat.beq i 20 with | true => esl | false => sls i, fun _ => tl, gb⟩, rfl, D⟩
/-! SB02 -/
/-! ### split -/
noncomputable def iIdx : List Nat := [14, 3, 2, 9, 8, 12, 13, 1, 0]
noncomputable def gI (T : BT) (i : Nat) : FrO := froOf (T.get (match i with | 0 => 1 | 1 => 1 | 2 => 1 | i + 3 => i))
noncomputable def xI (T : BT) (ads : Ads) (buf : List Nat) : Lx := ⟨adOf ads 2, adOf ads 9, adOf ads 8, adOf ads 12, adOf ads 13, fun i => vtok (entO (T.get 2) i).key,
  fun i => vtok (entO (T.get 2) (match i with | 0 => 4 | 1 => 5 | 2 => 6 | 3 => 8 | 4 => 9 | 5 => 10 | 6 => 14 | _ => 18)).val, fun i => vtok (entO (T.get 8) i).key, vtok (entO (T.get 8) 0).val, buf, vtok (entO (T.get 8) 1).val⟩
noncomputable def qI (bel : List (Code × Pos)) (i : Nat) : Pos := match i with
  | 2 => posN bel 0
  | _ => posN bel 1
noncomputable def exI (P : Params) (o : OutA) (buf : List Nat) (T : BT) (ads : Ads) : List (Nat × Obj) :=
  exL P (adOf ads 14) (adOf ads 3) (adOf ads 1) o (xI T ads buf) (gI T) ⟨[]⟩ 0 (stV 32 (vtok (entO (T.get 2) 11).val)) 1 (vtok (entO (T.get 2) 13).val) (vtok (entO (T.get 2) 15).val) 0 (vtok (entO (T.get 8) 2).val)
noncomputable def isRR : Code → Bool
  | .call _ ⟨[.ref _, .ref _], _⟩ => true
  | _ => false
noncomputable def conI (P : Params) (o : OutA) (buf : List Nat) (res : Option (List (List Nat))) : CF := fun j x Γ c T ads => match j with
  | 0 => match isRR c with
    | true => some (conS T ads (ctxI (adOf ads 14) (adOf ads 3) (adOf ads 1) (qI Γ.below) o) (zip3 iIdx (exI P o buf T ads)) True (iRes res)
      (fun ν => zip2 iIdx (iCh (adOf ads 14) (adOf ads 3) (adOf ads 1) o (xI T ads buf) (gI T) res ν)) fun ν => news_ (iNew res ν))
    | false => none
  | j + 1 => conB j x Γ c T ads
theorem conI_ok {w : World} {b b2 : Bool} {o : OutA} {buf : List Nat} {res : Option (List (List Nat))} (hr : res = rdAll (2 * buf.length + 2) buf 32) (hb : buf.length ≤ 13) (hbs : 92 ∉ buf) {l0 : Nat} {s₀ : Shared} :
    ConOk (baseOf (kt (wld w b b2).params) 769 l0 s₀) (MW (wld w b b2)) (cfgW (wld w b b2) (conI (wld w b b2).params o buf res)) := by
  intro j y Γ T m ads tk s p g hg hx hn ho ob D
  obtain ⟨c0, e1, e2, bel, e3⟩ := Γ
  replace hg : conI (wld w b b2).params o buf res j y ⟨c0, e1, e2, bel, e3⟩ c0 T ads = some g := hg
  cases j with
  | succ j => exact conB_ok _ _ _ _ _ _ _ _ _ _ hg hx ob D
  | zero =>
    cases hb' : isRR c0 with
    | false => simp only [conI, hb'] at hg; cases hg
    | true =>
      simp only [conI, hb'] at hg
      cases hg
      obtain ⟨h1, h2⟩ := conS_holds D hn ho
      obtain ⟨H, ha, hm⟩ := zip3_holds _ _ rfl h1 h2
      have F : Ex (adOf ads 14) (adOf ads 3) (adOf ads 1) o (xI T ads buf) := ⟨by
          have := nodup_ad D (is := iIdx) (by decide) hm
          rw [← ha] at this
          exact this, fun z hz => by
          have hz : z ∈ iIdx.map (adOf ads) := by rw [← ha]; exact hz
          obtain ⟨i, hi, rfl⟩ := List.mem_map.mp hz
          exact (D.lo i (hm i hi)).1, hb, hbs⟩
      replace hx : _ = ctxI (adOf ads 14) (adOf ads 3) (adOf ads 1) (qI bel) o := hx
      rw [hx]
      refine wpCode_mono (fun r s' h => ?_) (init_post F (rep_sane D) H)
      obtain ⟨ν, hr', hD⟩ := h
      replace hD : Did s s' (iCh (adOf ads 14) (adOf ads 3) (adOf ads 1) o (xI T ads buf) (gI T) (rdAll (2 * buf.length + 2) buf 32) ν) (iNew (rdAll (2 * buf.length + 2) buf 32) ν) := hD
      replace hr' : r = iRes (rdAll (2 * buf.length + 2) buf 32) ν := hr'
      rw [← hr] at hD hr'
      have hw : ((iCh (adOf ads 14) (adOf ads 3) (adOf ads 1) o (xI T ads buf) (gI T) res ν).map (·.1)) = iIdx.map (adOf ads) := by
        rw [← ha]; cases res <;> rfl
      refine conS_left D ν _ hr' _ _ hD (zip2_ad _ _ hw) (zip2_mem _ _ hm) rfl fun k hk => ?_
      cases res with
      | some ws => exact absurd hk (Nat.not_lt_zero _)
      | none =>
        match k, hk with
        | 0, _ => rfl
        | 1, _ => rfl
noncomputable def ctxS (o : OutA) (buf : List Nat) (τ : Nat) : Ctx := ctxOf (.call (.ref 734) ⟨[.str ⟨⟨buf⟩⟩ τ], []⟩) (outOf o)
noncomputable def runS (W : World) (o : OutA) (buf : List Nat) (τ : Nat) (g : Nat → FrO) (res : Option (List (List Nat))) (fuel : Nat) (hs : List Nat) (N t : Nat) (p : Pos) (nv : Nv) : Out :=
  runC (cfgW W (conI W.params o buf res)) fuel (ctxS o buf τ) p hs (outF o g) N t nv
/-- split gives the words -/
theorem s2 (w : World) (b b2 : Bool) (o : OutA) (buf : List Nat) (τ : Nat) (g : Nat → FrO) (ws : List (List Nat)) (N t : Nat) (p : Pos) (nv : Nv) :
    let W := wld w b b2
    let X := runS W o buf τ g (some ws) 1412 [0, 0, 0, 2, 2, 2, 2, 2, 2, 0, 1001, 2, 0, 2, 2, 0, 0, 0, 0, 0, 0, 0, 0, 0, 0, 0, 0, 0, 0, 0, 0, 0, 0, 0, 0, 0, 0, 0, 0, 0, 0, 0, 0, 0, 0, 0, 0, 0, 4, 0, 4, 0, 0, 0, 0, 0, 0, 0, 0, 5, 5, 5, 5, 5, 5, 5, 5, 5, 5, 0, 1001, 0, 0, 5, 0, 0, 0, 0, 0, 0, 5, 0, 0, 0, 0, 0, 0, 0, 0, 0, 0, 0, 0, 0, 0, 0, 0, 0, 0, 0, 0, 0, 0, 0, 0, 0, 0, 0, 0, 0, 0, 0, 0, 0, 8, 8, 8, 8, 8, 8, 0, 1001, 8, 0, 0, 0, 8, 0, 0, 0, 0, 0, 8, 0, 0, 0, 0, 0, 0, 0, 0, 0, 0, 0, 0, 0, 0, 0, 0, 0, 0, 0, 0, 0, 0, 0, 0, 0, 0, 0, 0, 0, 0, 0, 0, 0, 0, 0, 0, 0, 0, 0, 10, 0, 10, 0, 0, 0, 0, 0, 0, 0, 0, 11, 11, 11, 11, 11, 11, 0, 1001, 11, 0, 0, 11, 0, 0, 0, 0, 11, 11, 0, 0, 11, 0, 0, 11, 0, 0, 11, 0, 0, 0, 0, 11, 11, 10, 0, 0, 0, 0, 0, 0, 0, 0, 10, 0, 0, 10, 0, 10, 0, 0, 0, 0, 0, 0, 0, 10, 0, 9, 9, 9, 11, 10, 0, 0, 0, 0, 0, 0, 0, 0, 10, 0, 0, 10, 0, 10, 0, 0, 0, 0, 0, 0, 0, 10, 0, 9, 9, 9, 11, 10, 0, 0, 0, 0, 0, 0, 0, 0, 10, 0, 0, 10, 0, 10, 0, 0, 0, 0, 0, 0, 0, 10, 0, 9, 9, 9, 11, 11, 10, 0, 0, 0, 0, 0, 0, 0, 10, 0, 0, 0, 0, 0, 0, 0, 10, 0, 0, 0, 0, 10, 9, 11, 0, 0, 0, 0, 12, 12, 12, 12, 0, 1001, 12, 10, 0, 0, 0, 0, 0, 0, 0, 0, 10, 0, 0, 0, 0, 0, 0, 0, 10, 10, 0, 9, 12, 12, 12, 12, 0, 0, 12, 0, 0, 12, 11, 10, 0, 0, 0, 0, 0, 0, 0, 0, 10, 0, 0, 10, 0, 10, 0, 0, 0, 0, 0, 0, 0, 10, 0, 9, 9, 9, 5, 5, 5, 5, 5, 4, 0, 0, 0, 0, 4, 0, 0, 4, 0, 4, 0, 0, 0, 4, 0, 3, 3, 3, 5, 5, 4, 0, 0, 0, 0, 4, 0, 0, 4, 0, 4, 0, 0, 0, 4, 0, 3, 3, 3, 5, 5, 4, 0, 0, 0, 0, 4, 0, 0, 4, 0, 4, 0, 0, 0, 4, 0, 3, 3, 3, 5, 5, 4, 0, 0, 0, 0, 4, 0, 0, 4, 0, 4, 0, 0, 0, 4, 0, 3, 3, 3, 5, 4, 0, 0, 0, 0, 4, 0, 0, 4, 0, 4, 0, 0, 0, 4, 0, 3, 3, 3, 5, 4, 0, 0, 0, 0, 4, 0, 0, 4, 0, 4, 0, 0, 0, 4, 0, 3, 3, 3, 5, 4, 0, 0, 0, 0, 4, 0, 0, 0, 4, 4, 0, 3, 5, 4, 0, 0, 0, 0, 4, 0, 0, 0, 4, 4, 0, 3, 0, 0, 4, 0, 0, 0, 0, 4, 0, 0, 4, 0, 4, 0, 0, 0, 4, 0, 3, 3, 3, 5, 4, 0, 0, 0, 0, 4, 0, 0, 4, 0, 4, 0, 0, 0, 4, 0, 3, 3, 3, 5, 4, 0, 0, 0, 0, 4, 0, 0, 4, 0, 4, 0, 0, 0, 4, 0, 3, 3, 3, 5, 4, 0, 0, 0, 0, 4, 0, 0, 4, 0, 4, 0, 0, 0, 4, 0, 3, 3, 3, 5, 4, 0, 0, 0, 0, 4, 0, 0, 4, 0, 4, 0, 0, 0, 4, 0, 3, 3, 3, 5, 4, 0, 0, 0, 0, 4, 0, 0, 4, 0, 4, 0, 0, 0, 4, 0, 3, 3, 3, 5, 4, 0, 0, 0, 0, 4, 0, 0, 4, 0, 4, 0, 0, 0, 4, 0, 3, 3, 3, 0, 0, 0, 0, 0, 13, 13, 0, 13, 0, 13, 13, 13, 5, 4, 0, 0, 0, 0, 4, 0, 0, 4, 0, 4, 0, 0, 0, 4, 0, 3, 3, 3, 5, 4, 0, 0, 0, 0, 4, 0, 0, 4, 0, 4, 0, 0, 0, 4, 0, 3, 3, 3, 5, 4, 0, 0, 0, 0, 4, 0, 0, 4, 0, 4, 0, 0, 0, 4, 0, 3, 3, 3, 5, 4, 0, 0, 0, 0, 4, 0, 0, 4, 0, 4, 0, 0, 0, 4, 0, 3, 3, 3, 0, 0, 0, 0, 0, 14, 14, 0, 14, 0, 14, 14, 14, 5, 4, 0, 0, 0, 0, 4, 0, 0, 4, 0, 4, 0, 0, 0, 4, 0, 3, 3, 3, 5, 4, 0, 0, 0, 0, 4, 0, 0, 4, 0, 4, 0, 0, 0, 4, 0, 3, 3, 3, 5, 5, 5, 5, 5, 4, 0, 0, 0, 0, 4, 0, 0, 4, 0, 4, 0, 0, 0, 4, 0, 3, 3, 3, 5, 0, 0, 0, 2, 2, 2, 4, 0, 0, 0, 0, 4, 0, 0, 4, 0, 4, 0, 0, 0, 4, 0, 3, 3, 3, 2, 2, 4, 0, 0, 0, 0, 4, 0, 0, 4, 0, 4, 0, 0, 0, 4, 0, 3, 3, 3, 0, 0, 2, 0, 0, 0, 0, 15, 15, 1, 0] N t p nv
    let l' := (outF o fun i => ⟨(g i).es, (g i).n, slOf X (i - 3)⟩) ++ [(adAt X 14, listO ⟨mkW ws fun i => (nv 0).2.2.n (i + 100)⟩ ((nv 0).2.2.n 0))]
    look [0, 14] X = some (.done (.ok (.ret (.ref (adAt X 14)))), os_ l', as_ l', dup (eqsOf X), dupG (gsOf X), dupO (osOf X), (True ∧ True)) := by
  cases b <;> (intro W X l'; kernel_rfl)
/-- split refuses -/
theorem s1 (w : World) (b b2 : Bool) (o : OutA) (buf : List Nat) (τ : Nat) (g : Nat → FrO) (N t : Nat) (p : Pos) (nv : Nv) :
    let W := wld w b b2
    let X := runS W o buf τ g none 1412 [0, 0, 0, 2, 2, 2, 2, 2, 2, 0, 1001, 2, 0, 2, 2, 0, 0, 0, 0, 0, 0, 0, 0, 0, 0, 0, 0, 0, 0, 0, 0, 0, 0, 0, 0, 0, 0, 0, 0, 0, 0, 0, 0, 0, 0, 0, 0, 0, 4, 0, 4, 0, 0, 0, 0, 0, 0, 0, 0, 5, 5, 5, 5, 5, 5, 5, 5, 5, 5, 0, 1001, 0, 0, 5, 0, 0, 0, 0, 0, 0, 5, 0, 0, 0, 0, 0, 0, 0, 0, 0, 0, 0, 0, 0, 0, 0, 0, 0, 0, 0, 0, 0, 0, 0, 0, 0, 0, 0, 0, 0, 0, 0, 0, 0, 8, 8, 8, 8, 8, 8, 0, 1001, 8, 0, 0, 0, 8, 0, 0, 0, 0, 0, 8, 0, 0, 0, 0, 0, 0, 0, 0, 0, 0, 0, 0, 0, 0, 0, 0, 0, 0, 0, 0, 0, 0, 0, 0, 0, 0, 0, 0, 0, 0, 0, 0, 0, 0, 0, 0, 0, 0, 0, 10, 0, 10, 0, 0, 0, 0, 0, 0, 0, 0, 11, 11, 11, 11, 11, 11, 0, 1001, 11, 0, 0, 11, 0, 0, 0, 0, 11, 11, 0, 0, 11, 0, 0, 11, 0, 0, 11, 0, 0, 0, 0, 11, 11, 10, 0, 0, 0, 0, 0, 0, 0, 0, 10, 0, 0, 10, 0, 10, 0, 0, 0, 0, 0, 0, 0, 10, 0, 9, 9, 9, 11, 10, 0, 0, 0, 0, 0, 0, 0, 0, 10, 0, 0, 10, 0, 10, 0, 0, 0, 0, 0, 0, 0, 10, 0, 9, 9, 9, 11, 10, 0, 0, 0, 0, 0, 0, 0, 0, 10, 0, 0, 10, 0, 10, 0, 0, 0, 0, 0, 0, 0, 10, 0, 9, 9, 9, 11, 11, 10, 0, 0, 0, 0, 0, 0, 0, 10, 0, 0, 0, 0, 0, 0, 0, 10, 0, 0, 0, 0, 10, 9, 11, 0, 0, 0, 0, 12, 12, 12, 12, 0, 1001, 12, 10, 0, 0, 0, 0, 0, 0, 0, 0, 10, 0, 0, 0, 0, 0, 0, 0, 10, 10, 0, 9, 12, 12, 12, 12, 0, 0, 12, 0, 0, 12, 11, 10, 0, 0, 0, 0, 0, 0, 0, 0, 10, 0, 0, 10, 0, 10, 0, 0, 0, 0, 0, 0, 0, 10, 0, 9, 9, 9, 5, 5, 5, 5, 5, 4, 0, 0, 0, 0, 4, 0, 0, 4, 0, 4, 0, 0, 0, 4, 0, 3, 3, 3, 5, 5, 4, 0, 0, 0, 0, 4, 0, 0, 4, 0, 4, 0, 0, 0, 4, 0, 3, 3, 3, 5, 5, 4, 0, 0, 0, 0, 4, 0, 0, 4, 0, 4, 0, 0, 0, 4, 0, 3, 3, 3, 5, 5, 4, 0, 0, 0, 0, 4, 0, 0, 4, 0, 4, 0, 0, 0, 4, 0, 3, 3, 3, 5, 4, 0, 0, 0, 0, 4, 0, 0, 4, 0, 4, 0, 0, 0, 4, 0, 3, 3, 3, 5, 4, 0, 0, 0, 0, 4, 0, 0, 4, 0, 4, 0, 0, 0, 4, 0, 3, 3, 3, 5, 4, 0, 0, 0, 0, 4, 0, 0, 0, 4, 4, 0, 3, 5, 4, 0, 0, 0, 0, 4, 0, 0, 0, 4, 4, 0, 3, 0, 0, 4, 0, 0, 0, 0, 4, 0, 0, 4, 0, 4, 0, 0, 0, 4, 0, 3, 3, 3, 5, 4, 0, 0, 0, 0, 4, 0, 0, 4, 0, 4, 0, 0, 0, 4, 0, 3, 3, 3, 5, 4, 0, 0, 0, 0, 4, 0, 0, 4, 0, 4, 0, 0, 0, 4, 0, 3, 3, 3, 5, 4, 0, 0, 0, 0, 4, 0, 0, 4, 0, 4, 0, 0, 0, 4, 0, 3, 3, 3, 5, 4, 0, 0, 0, 0, 4, 0, 0, 4, 0, 4, 0, 0, 0, 4, 0, 3, 3, 3, 5, 4, 0, 0, 0, 0, 4, 0, 0, 4, 0, 4, 0, 0, 0, 4, 0, 3, 3, 3, 5, 4, 0, 0, 0, 0, 4, 0, 0, 4, 0, 4, 0, 0, 0, 4, 0, 3, 3, 3, 0, 0, 0, 0, 0, 13, 13, 0, 13, 0, 13, 13, 13, 5, 4, 0, 0, 0, 0, 4, 0, 0, 4, 0, 4, 0, 0, 0, 4, 0, 3, 3, 3, 5, 4, 0, 0, 0, 0, 4, 0, 0, 4, 0, 4, 0, 0, 0, 4, 0, 3, 3, 3, 5, 4, 0, 0, 0, 0, 4, 0, 0, 4, 0, 4, 0, 0, 0, 4, 0, 3, 3, 3, 5, 4, 0, 0, 0, 0, 4, 0, 0, 4, 0, 4, 0, 0, 0, 4, 0, 3, 3, 3, 0, 0, 0, 0, 0, 14, 14, 0, 14, 0, 14, 14, 14, 5, 4, 0, 0, 0, 0, 4, 0, 0, 4, 0, 4, 0, 0, 0, 4, 0, 3, 3, 3, 5, 4, 0, 0, 0, 0, 4, 0, 0, 4, 0, 4, 0, 0, 0, 4, 0, 3, 3, 3, 5, 5, 5, 5, 5, 4, 0, 0, 0, 0, 4, 0, 0, 4, 0, 4, 0, 0, 0, 4, 0, 3, 3, 3, 5, 0, 0, 0, 2, 2, 2, 4, 0, 0, 0, 0, 4, 0, 0, 4, 0, 4, 0, 0, 0, 4, 0, 3, 3, 3, 2, 2, 4, 0, 0, 0, 0, 4, 0, 0, 4, 0, 4, 0, 0, 0, 4, 0, 3, 3, 3, 0, 0, 2, 0, 0, 0, 0, 15, 15, 1, 0, 15, 16, 1, 0] N t p nv
    let l' := (outF o fun i => ⟨(g i).es, (g i).n, slOf X (i - 3)⟩) ++ [(adAt X 15, excO "ValueError" ((nv 0).2.2.n 2) (adAt X 17) (slOf X 15)), (adAt X 17, entryO (.ref (adAt X 16)) (adAt X 1) .none (tlOf X 17))]
    look [0, 15, 17] X = some (.done (.error (.ref (adAt X 15))), os_ l', as_ l', dup (eqsOf X), dupG (gsOf X), dupO (osOf X), (True ∧ True)) := by
  cases b <;> (intro W X l'; kernel_rfl)
noncomputable def spRes (r : Option (List (List Nat))) (ν : Unk) : Result := match r with
  | some _ => .ok (.ret (.ref (ν.n 0)))
  | none => .error (.ref (ν.n 0))
noncomputable def spCh (o : OutA) (g : Nat → FrO) (ν : Unk) : List (Nat × Obj) := outF o fun i => ⟨(g i).es, (g i).n, ν.sl i⟩
noncomputable def spNew (r : Option (List (List Nat))) (ν : Unk) : List (Nat × Obj) := match r with
  | some ws => [(ν.n 0, listO ⟨mkW ws fun i => ν.n (i + 100)⟩ (ν.n 1))]
  | none => [(ν.n 0, excO "ValueError" (ν.n 2) (ν.n 1) (ν.sl 20)), (ν.n 1, entryO (.ref (ν.n 3)) (ν.n 4) .none (ν.vs 0))]
theorem split_ok {w : World} {b b2 : Bool} {o : OutA} {buf : List Nat} {τ : Nat} {g : Nat → FrO} {res : Option (List (List Nat))} {s : Shared} {p : Pos} (hr : res = rdAll (2 * buf.length + 2) buf 32) (hb : buf.length ≤ 13) (hbs : 92 ∉ buf)
    (S : Top (wld w b b2) s) (H : Holds s (outF o g)) (nd : (outA o).Nodup) (lo : ∀ y ∈ outA o, 769 ≤ y) :
    wpCode (MW (wld w b b2)) (ctxS o buf τ) (fun r s' => ∃ ν, r = spRes res ν ∧ Did s s' (spCh o g ν) (spNew res ν)) p s := by
  have nd' : ((outF o g).map (·.1)).Nodup := nd
  have lo' : ∀ y ∈ outF o g, 769 ≤ y.1 := fun y hy => lo _ (List.mem_map.mpr ⟨y, hy, rfl⟩)
  cases res with
  | some ws =>
    refine runC_ok [14] (conI_ok hr hb hbs) S H nd' lo' _ _ (fun _ => [_]) _ (fun nv => s2 w b b2 o buf τ g ws _ _ p nv) (fun _ => ⟨trivial, trivial⟩) fun nv s' Af => ?_
    try dsimp only at Af
    generalize hX : runS _ _ _ _ _ _ _ _ _ _ _ _ = X at Af ⊢
    refine ⟨⟨fun i => match i with | 0 => adAt X 14 | 1 => (nv 0).2.2.n 0 | i + 2 => (nv 0).2.2.n (i + 2), fun i => slOf X (i - 3), fun _ => #[], fun _ => default⟩, rfl, ?_⟩
    exact Af.did (outF o fun i => ⟨(g i).es, (g i).n, slOf X (i - 3)⟩) [_] [14] rfl rfl rfl (by simp [outF]) (by simp) rfl rfl
  | none =>
    refine runC_ok [15, 17] (conI_ok hr hb hbs) S H nd' lo' _ _ (fun _ => [_, _]) _ (fun nv => s1 w b b2 o buf τ g _ _ p nv) (fun _ => ⟨trivial, trivial⟩) fun nv s' Af => ?_
    try dsimp only at Af
    generalize hX : runS _ _ _ _ _ _ _ _ _ _ _ _ = X at Af ⊢
    refine ⟨⟨fun i => match i with | 0 => adAt X 15 | 1 => adAt X 17 | 2 => (nv 0).2.2.n 2 | 3 => adAt X 16 | _ => adAt X 1, fun i => match Nat.beq i 20 with | true => slOf X 15 | false => slOf X (i - 3), fun _ => tlOf X 17, fun _ => default⟩, rfl, ?_⟩
    exact Af.did (outF o fun i => ⟨(g i).es, (g i).n, slOf X (i - 3)⟩) [_, _] [15, 17] rfl rfl rfl (by simp [outF]) (by simp) rfl rfl
/-! L102 -/
/-! ### _law_line -/
/-- law's own place: its frame and where it stands -/
structure OutL where
  L0 : Nat
  q : Pos
noncomputable def belLaw (o : OutL) : List (Code × Pos) := [(.func (fnB dLW) (envLW o.L0), o.q), (.builtin "claim.caller" {}, default)]
noncomputable def ctxLL (o : OutL) (scr : Nat) : Ctx := ctxOf (.call (.ref 746) ⟨[.ref scr], []⟩) (belLaw o)
noncomputable def chars : Nat → (Nat → Nat) → List Nat
  | 0, _ => []
  | k + 1, c => c 0 :: chars k fun i => c (i + 1)
noncomputable def tblL : List Nat := [39, 34, 32, 97, 39, 34, 10, 35]
noncomputable def orcL (k : Nat) (x : Nat → Int) (t c : Nat → Nat) : OrP := ⟨⟨fun i => match Nat.beq i 50 with | true => chars k c | false => [c i], fun _ => 0⟩, fun _ => itemsOf k fun i => .int (x i) (t i)⟩
theorem ll_0 (w : World) (b b2 : Bool) (o : OutL) (scr n : Nat) (items : Array Value) (x : Nat → Int) (t : Nat → Nat) (c : Nat → Nat) (N tk : Nat) (p : Pos) (nv : Nv) :
    let W := wld w b b2
    let X := runC (cfgW W (conP (orcL 0 x t c))) 160 (ctxLL o scr) p (match b2 with | true => [0, 0, 2, 2, 0, 1001, 2, 1, 1, 1, 14, 2, 4, 4, 0, 4, 0, 5, 0, 0, 5, 0, 5, 0, 5, 5, 4, 5, 5, 9, 2, 2, 7, 2, 15, 5, 0, 0, 2, 0, 0, 6, 0, 6, 0, 6, 0, 0, 10, 10, 10, 10, 0, 0] | false => [0, 0, 2, 2, 0, 1001, 2, 1, 1, 1, 14, 2, 4, 4, 0, 4, 0, 5, 0, 5, 5, 0, 5, 0, 5, 0, 5, 0, 5, 0, 5, 5, 4, 5, 5, 9, 2, 2, 7, 2, 15, 5, 0, 0, 2, 0, 0, 6, 0, 6, 0, 6, 0, 0, 10, 10, 10, 10, 0, 0]) [(scr, listO items n)] N tk nv
    look [0] X = some (.done (.ok (.ret (.str ⟨⟨[97, 39, 32, 98, 34, 99, 32, 39, 100, 34, 101, 35]⟩⟩ (rtok X)))), [some (listO items n)], [scr], dup (eqsOf X), dupG (gsOf X), dupO (osOf X), (JoinB tyList ⟨⟨[]⟩⟩ (itemsOf 0 fun i => .str ⟨⟨[c i]⟩⟩ ((nv (i + 1)).2.2.n 0)) (chars 0 c) ∧ SlLB tyList "slice" items none (some 12) none (itemsOf 0 fun i => .int (x i) (t i)) ∧ True)) := by
  cases b <;> cases b2 <;> (intro W X; kernel_rfl)
theorem ll_1 (w : World) (b b2 : Bool) (o : OutL) (scr n : Nat) (items : Array Value) (x : Nat → Int) (t : Nat → Nat) (c : Nat → Nat) (N tk : Nat) (p : Pos) (nv : Nv) :
    let W := wld w b b2
    let X := runC (cfgW W (conP (orcL 1 x t c))) 201 (ctxLL o scr) p (match b2 with | true => [0, 0, 2, 2, 0, 1001, 2, 1, 1, 1, 14, 2, 4, 4, 0, 4, 0, 5, 0, 0, 5, 0, 5, 0, 5, 5, 4, 5, 5, 7, 7, 7, 0, 0, 10, 0, 0, 6, 0, 6, 6, 6, 0, 5, 0, 5, 0, 5, 5, 4, 5, 5, 9, 2, 2, 7, 7, 7, 2, 15, 5, 0, 0, 2, 0, 0, 6, 0, 6, 0, 6, 0, 0, 10, 10, 10, 10, 0, 0] | false => [0, 0, 2, 2, 0, 1001, 2, 1, 1, 1, 14, 2, 4, 4, 0, 4, 0, 5, 0, 5, 5, 0, 5, 0, 5, 0, 5, 0, 5, 0, 5, 5, 4, 5, 5, 7, 7, 7, 0, 0, 10, 0, 0, 6, 0, 6, 6, 6, 0, 5, 0, 5, 0, 5, 5, 4, 5, 5, 9, 2, 2, 7, 7, 7, 2, 15, 5, 0, 0, 2, 0, 0, 6, 0, 6, 0, 6, 0, 0, 10, 10, 10, 10, 0, 0]) [(scr, listO items n)] N tk nv
    look [0] X = some (.done (.ok (.ret (.str ⟨⟨[c 0, 39, 32, 98, 34, 99, 32, 39, 100, 34, 101, 35]⟩⟩ (rtok X)))), [some (listO items n)], [scr], dup (eqsOf X), dupG (gsOf X), dupO (osOf X), (JoinB tyList ⟨⟨[]⟩⟩ (itemsOf 1 fun i => .str ⟨⟨[c i]⟩⟩ ((nv (i + 1)).2.2.n 0)) (chars 1 c) ∧ IdxB ⟨⟨tblL⟩⟩ ((x 0).fmod 8) [c 0] ∧ SlLB tyList "slice" items none (some 12) none (itemsOf 1 fun i => .int (x i) (t i)) ∧ True)) := by
  cases b <;> cases b2 <;> (intro W X; kernel_rfl)
theorem ll_2 (w : World) (b b2 : Bool) (o : OutL) (scr n : Nat) (items : Array Value) (x : Nat → Int) (t : Nat → Nat) (c : Nat → Nat) (N tk : Nat) (p : Pos) (nv : Nv) :
    let W := wld w b b2
    let X := runC (cfgW W (conP (orcL 2 x t c))) 238 (ctxLL o scr) p (match b2 with | true => [0, 0, 2, 2, 0, 1001, 2, 1, 1, 1, 14, 2, 4, 4, 0, 4, 0, 5, 0, 0, 5, 0, 5, 0, 5, 5, 4, 5, 5, 7, 7, 7, 0, 0, 10, 0, 0, 6, 0, 6, 6, 6, 0, 5, 0, 5, 0, 5, 5, 4, 5, 5, 7, 7, 7, 0, 0, 10, 1, 0, 6, 0, 6, 6, 6, 0, 5, 0, 5, 0, 5, 5, 4, 5, 5, 9, 2, 2, 7, 7, 7, 2, 15, 5, 0, 0, 2, 0, 0, 6, 0, 6, 0, 6, 0, 0, 10, 10, 10, 10, 0, 0] | false => [0, 0, 2, 2, 0, 1001, 2, 1, 1, 1, 14, 2, 4, 4, 0, 4, 0, 5, 0, 5, 5, 0, 5, 0, 5, 0, 5, 0, 5, 0, 5, 5, 4, 5, 5, 7, 7, 7, 0, 0, 10, 0, 0, 6, 0, 6, 6, 6, 0, 5, 0, 5, 0, 5, 5, 4, 5, 5, 7, 7, 7, 0, 0, 10, 1, 0, 6, 0, 6, 6, 6, 0, 5, 0, 5, 0, 5, 5, 4, 5, 5, 9, 2, 2, 7, 7, 7, 2, 15, 5, 0, 0, 2, 0, 0, 6, 0, 6, 0, 6, 0, 0, 10, 10, 10, 10, 0, 0]) [(scr, listO items n)] N tk nv
    look [0] X = some (.done (.ok (.ret (.str ⟨⟨[c 0, c 1, 32, 98, 34, 99, 32, 39, 100, 34, 101, 35]⟩⟩ (rtok X)))), [some (listO items n)], [scr], dup (eqsOf X), dupG (gsOf X), dupO (osOf X), (JoinB tyList ⟨⟨[]⟩⟩ (itemsOf 2 fun i => .str ⟨⟨[c i]⟩⟩ ((nv (i + 1)).2.2.n 0)) (chars 2 c) ∧ IdxB ⟨⟨tblL⟩⟩ ((x 1).fmod 8) [c 1] ∧ IdxB ⟨⟨tblL⟩⟩ ((x 0).fmod 8) [c 0] ∧ SlLB tyList "slice" items none (some 12) none (itemsOf 2 fun i => .int (x i) (t i)) ∧ True)) := by
  cases b <;> cases b2 <;> (intro W X; kernel_rfl)
theorem ll_3 (w : World) (b b2 : Bool) (o : OutL) (scr n : Nat) (items : Array Value) (x : Nat → Int) (t : Nat → Nat) (c : Nat → Nat) (N tk : Nat) (p : Pos) (nv : Nv) :
    let W := wld w b b2
    let X := runC (cfgW W (conP (orcL 3 x t c))) 275 (ctxLL o scr) p (match b2 with | true => [0, 0, 2, 2, 0, 1001, 2, 1, 1, 1, 14, 2, 4, 4, 0, 4, 0, 5, 0, 0, 5, 0, 5, 0, 5, 5, 4, 5, 5, 7, 7, 7, 0, 0, 10, 0, 0, 6, 0, 6, 6, 6, 0, 5, 0, 5, 0, 5, 5, 4, 5, 5, 7, 7, 7, 0, 0, 10, 1, 0, 6, 0, 6, 6, 6, 0, 5, 0, 5, 0, 5, 5, 4, 5, 5, 7, 7, 7, 0, 0, 10, 2, 0, 6, 0, 6, 6, 6, 0, 5, 0, 5, 0, 5, 5, 4, 5, 5, 9, 2, 2, 7, 7, 7, 2, 15, 5, 0, 0, 2, 0, 0, 6, 0, 6, 0, 6, 0, 0, 10, 10, 10, 10, 0, 0] | false => [0, 0, 2, 2, 0, 1001, 2, 1, 1, 1, 14, 2, 4, 4, 0, 4, 0, 5, 0, 5, 5, 0, 5, 0, 5, 0, 5, 0, 5, 0, 5, 5, 4, 5, 5, 7, 7, 7, 0, 0, 10, 0, 0, 6, 0, 6, 6, 6, 0, 5, 0, 5, 0, 5, 5, 4, 5, 5, 7, 7, 7, 0, 0, 10, 1, 0, 6, 0, 6, 6, 6, 0, 5, 0, 5, 0, 5, 5, 4, 5, 5, 7, 7, 7, 0, 0, 10, 2, 0, 6, 0, 6, 6, 6, 0, 5, 0, 5, 0, 5, 5, 4, 5, 5, 9, 2, 2, 7, 7, 7, 2, 15, 5, 0, 0, 2, 0, 0, 6, 0, 6, 0, 6, 0, 0, 10, 10, 10, 10, 0, 0]) [(scr, listO items n)] N tk nv
    look [0] X = some (.done (.ok (.ret (.str ⟨⟨[c 0, c 1, c 2, 98, 34, 99, 32, 39, 100, 34, 101, 35]⟩⟩ (rtok X)))), [some (listO items n)], [scr], dup (eqsOf X), dupG (gsOf X), dupO (osOf X), (JoinB tyList ⟨⟨[]⟩⟩ (itemsOf 3 fun i => .str ⟨⟨[c i]⟩⟩ ((nv (i + 1)).2.2.n 0)) (chars 3 c) ∧ IdxB ⟨⟨tblL⟩⟩ ((x 2).fmod 8) [c 2] ∧ IdxB ⟨⟨tblL⟩⟩ ((x 1).fmod 8) [c 1] ∧ IdxB ⟨⟨tblL⟩⟩ ((x 0).fmod 8) [c 0] ∧ SlLB tyList "slice" items none (some 12) none (itemsOf 3 fun i => .int (x i) (t i)) ∧ True)) := by
  cases b <;> cases b2 <;> (intro W X; kernel_rfl)
theorem ll_4 (w : World) (b b2 : Bool) (o : OutL) (scr n : Nat) (items : Array Value) (x : Nat → Int) (t : Nat → Nat) (c : Nat → Nat) (N tk : Nat) (p : Pos) (nv : Nv) :
    let W := wld w b b2
    let X := runC (cfgW W (conP (orcL 4 x t c))) 312 (ctxLL o scr) p (match b2 with | true => [0, 0, 2, 2, 0, 1001, 2, 1, 1, 1, 14, 2, 4, 4, 0, 4, 0, 5, 0, 0, 5, 0, 5, 0, 5, 5, 4, 5, 5, 7, 7, 7, 0, 0, 10, 0, 0, 6, 0, 6, 6, 6, 0, 5, 0, 5, 0, 5, 5, 4, 5, 5, 7, 7, 7, 0, 0, 10, 1, 0, 6, 0, 6, 6, 6, 0, 5, 0, 5, 0, 5, 5, 4, 5, 5, 7, 7, 7, 0, 0, 10, 2, 0, 6, 0, 6, 6, 6, 0, 5, 0, 5, 0, 5, 5, 4, 5, 5, 7, 7, 7, 0, 0, 10, 3, 0, 6, 0, 6, 6, 6, 0, 5, 0, 5, 0, 5, 5, 4, 5, 5, 9, 2, 2, 7, 7, 7, 2, 15, 5, 0, 0, 2, 0, 0, 6, 0, 6, 0, 6, 0, 0, 10, 10, 10, 10, 0, 0] | false => [0, 0, 2, 2, 0, 1001, 2, 1, 1, 1, 14, 2, 4, 4, 0, 4, 0, 5, 0, 5, 5, 0, 5, 0, 5, 0, 5, 0, 5, 0, 5, 5, 4, 5, 5, 7, 7, 7, 0, 0, 10, 0, 0, 6, 0, 6, 6, 6, 0, 5, 0, 5, 0, 5, 5, 4, 5, 5, 7, 7, 7, 0, 0, 10, 1, 0, 6, 0, 6, 6, 6, 0, 5, 0, 5, 0, 5, 5, 4, 5, 5, 7, 7, 7, 0, 0, 10, 2, 0, 6, 0, 6, 6, 6, 0, 5, 0, 5, 0, 5, 5, 4, 5, 5, 7, 7, 7, 0, 0, 10, 3, 0, 6, 0, 6, 6, 6, 0, 5, 0, 5, 0, 5, 5, 4, 5, 5, 9, 2, 2, 7, 7, 7, 2, 15, 5, 0, 0, 2, 0, 0, 6, 0, 6, 0, 6, 0, 0, 10, 10, 10, 10, 0, 0]) [(scr, listO items n)] N tk nv
    look [0] X = some (.done (.ok (.ret (.str ⟨⟨[c 0, c 1, c 2, c 3, 34, 99, 32, 39, 100, 34, 101, 35]⟩⟩ (rtok X)))), [some (listO items n)], [scr], dup (eqsOf X), dupG (gsOf X), dupO (osOf X), (JoinB tyList ⟨⟨[]⟩⟩ (itemsOf 4 fun i => .str ⟨⟨[c i]⟩⟩ ((nv (i + 1)).2.2.n 0)) (chars 4 c) ∧ IdxB ⟨⟨tblL⟩⟩ ((x 3).fmod 8) [c 3] ∧ IdxB ⟨⟨tblL⟩⟩ ((x 2).fmod 8) [c 2] ∧ IdxB ⟨⟨tblL⟩⟩ ((x 1).fmod 8) [c 1] ∧ IdxB ⟨⟨tblL⟩⟩ ((x 0).fmod 8) [c 0] ∧ SlLB tyList "slice" items none (some 12) none (itemsOf 4 fun i => .int (x i) (t i)) ∧ True)) := by
  cases b <;> cases b2 <;> (intro W X; kernel_rfl)
theorem ll_5 (w : World) (b b2 : Bool) (o : OutL) (scr n : Nat) (items : Array Value) (x : Nat → Int) (t : Nat → Nat) (c : Nat → Nat) (N tk : Nat) (p : Pos) (nv : Nv) :
    let W := wld w b b2
    let X := runC (cfgW W (conP (orcL 5 x t c))) 349 (ctxLL o scr) p (match b2 with | true => [0, 0, 2, 2, 0, 1001, 2, 1, 1, 1, 14, 2, 4, 4, 0, 4, 0, 5, 0, 0, 5, 0, 5, 0, 5, 5, 4, 5, 5, 7, 7, 7, 0, 0, 10, 0, 0, 6, 0, 6, 6, 6, 0, 5, 0, 5, 0, 5, 5, 4, 5, 5, 7, 7, 7, 0, 0, 10, 1, 0, 6, 0, 6, 6, 6, 0, 5, 0, 5, 0, 5, 5, 4, 5, 5, 7, 7, 7, 0, 0, 10, 2, 0, 6, 0, 6, 6, 6, 0, 5, 0, 5, 0, 5, 5, 4, 5, 5, 7, 7, 7, 0, 0, 10, 3, 0, 6, 0, 6, 6, 6, 0, 5, 0, 5, 0, 5, 5, 4, 5, 5, 7, 7, 7, 0, 0, 10, 4, 0, 6, 0, 6, 6, 6, 0, 5, 0, 5, 0, 5, 5, 4, 5, 5, 9, 2, 2, 7, 7, 7, 2, 15, 5, 0, 0, 2, 0, 0, 6, 0, 6, 0, 6, 0, 0, 10, 10, 10, 10, 0, 0] | false => [0, 0, 2, 2, 0, 1001, 2, 1, 1, 1, 14, 2, 4, 4, 0, 4, 0, 5, 0, 5, 5, 0, 5, 0, 5, 0, 5, 0, 5, 0, 5, 5, 4, 5, 5, 7, 7, 7, 0, 0, 10, 0, 0, 6, 0, 6, 6, 6, 0, 5, 0, 5, 0, 5, 5, 4, 5, 5, 7, 7, 7, 0, 0, 10, 1, 0, 6, 0, 6, 6, 6, 0, 5, 0, 5, 0, 5, 5, 4, 5, 5, 7, 7, 7, 0, 0, 10, 2, 0, 6, 0, 6, 6, 6, 0, 5, 0, 5, 0, 5, 5, 4, 5, 5, 7, 7, 7, 0, 0, 10, 3, 0, 6, 0, 6, 6, 6, 0, 5, 0, 5, 0, 5, 5, 4, 5, 5, 7, 7, 7, 0, 0, 10, 4, 0, 6, 0, 6, 6, 6, 0, 5, 0, 5, 0, 5, 5, 4, 5, 5, 9, 2, 2, 7, 7, 7, 2, 15, 5, 0, 0, 2, 0, 0, 6, 0, 6, 0, 6, 0, 0, 10, 10, 10, 10, 0, 0]) [(scr, listO items n)] N tk nv
    look [0] X = some (.done (.ok (.ret (.str ⟨⟨[c 0, c 1, c 2, c 3, c 4, 99, 32, 39, 100, 34, 101, 35]⟩⟩ (rtok X)))), [some (listO items n)], [scr], dup (eqsOf X), dupG (gsOf X), dupO (osOf X), (JoinB tyList ⟨⟨[]⟩⟩ (itemsOf 5 fun i => .str ⟨⟨[c i]⟩⟩ ((nv (i + 1)).2.2.n 0)) (chars 5 c) ∧ IdxB ⟨⟨tblL⟩⟩ ((x 4).fmod 8) [c 4] ∧ IdxB ⟨⟨tblL⟩⟩ ((x 3).fmod 8) [c 3] ∧ IdxB ⟨⟨tblL⟩⟩ ((x 2).fmod 8) [c 2] ∧ IdxB ⟨⟨tblL⟩⟩ ((x 1).fmod 8) [c 1] ∧ IdxB ⟨⟨tblL⟩⟩ ((x 0).fmod 8) [c 0] ∧ SlLB tyList "slice" items none (some 12) none (itemsOf 5 fun i => .int (x i) (t i)) ∧ True)) := by
  cases b <;> cases b2 <;> (intro W X; kernel_rfl)
theorem ll_6 (w : World) (b b2 : Bool) (o : OutL) (scr n : Nat) (items : Array Value) (x : Nat → Int) (t : Nat → Nat) (c : Nat → Nat) (N tk : Nat) (p : Pos) (nv : Nv) :
    let W := wld w b b2
    let X := runC (cfgW W (conP (orcL 6 x t c))) 386 (ctxLL o scr) p (match b2 with | true => [0, 0, 2, 2, 0, 1001, 2, 1, 1, 1, 14, 2, 4, 4, 0, 4, 0, 5, 0, 0, 5, 0, 5, 0, 5, 5, 4, 5, 5, 7, 7, 7, 0, 0, 10, 0, 0, 6, 0, 6, 6, 6, 0, 5, 0, 5, 0, 5, 5, 4, 5, 5, 7, 7, 7, 0, 0, 10, 1, 0, 6, 0, 6, 6, 6, 0, 5, 0, 5, 0, 5, 5, 4, 5, 5, 7, 7, 7, 0, 0, 10, 2, 0, 6, 0, 6, 6, 6, 0, 5, 0, 5, 0, 5, 5, 4, 5, 5, 7, 7, 7, 0, 0, 10, 3, 0, 6, 0, 6, 6, 6, 0, 5, 0, 5, 0, 5, 5, 4, 5, 5, 7, 7, 7, 0, 0, 10, 4, 0, 6, 0, 6, 6, 6, 0, 5, 0, 5, 0, 5, 5, 4, 5, 5, 7, 7, 7, 0, 0, 10, 5, 0, 6, 0, 6, 6, 6, 0, 5, 0, 5, 0, 5, 5, 4, 5, 5, 9, 2, 2, 7, 7, 7, 2, 15, 5, 0, 0, 2, 0, 0, 6, 0, 6, 0, 6, 0, 0, 10, 10, 10, 10, 0, 0] | false => [0, 0, 2, 2, 0, 1001, 2, 1, 1, 1, 14, 2, 4, 4, 0, 4, 0, 5, 0, 5, 5, 0, 5, 0, 5, 0, 5, 0, 5, 0, 5, 5, 4, 5, 5, 7, 7, 7, 0, 0, 10, 0, 0, 6, 0, 6, 6, 6, 0, 5, 0, 5, 0, 5, 5, 4, 5, 5, 7, 7, 7, 0, 0, 10, 1, 0, 6, 0, 6, 6, 6, 0, 5, 0, 5, 0, 5, 5, 4, 5, 5, 7, 7, 7, 0, 0, 10, 2, 0, 6, 0, 6, 6, 6, 0, 5, 0, 5, 0, 5, 5, 4, 5, 5, 7, 7, 7, 0, 0, 10, 3, 0, 6, 0, 6, 6, 6, 0, 5, 0, 5, 0, 5, 5, 4, 5, 5, 7, 7, 7, 0, 0, 10, 4, 0, 6, 0, 6, 6, 6, 0, 5, 0, 5, 0, 5, 5, 4, 5, 5, 7, 7, 7, 0, 0, 10, 5, 0, 6, 0, 6, 6, 6, 0, 5, 0, 5, 0, 5, 5, 4, 5, 5, 9, 2, 2, 7, 7, 7, 2, 15, 5, 0, 0, 2, 0, 0, 6, 0, 6, 0, 6, 0, 0, 10, 10, 10, 10, 0, 0]) [(scr, listO items n)] N tk nv
    look [0] X = some (.done (.ok (.ret (.str ⟨⟨[c 0, c 1, c 2, c 3, c 4, c 5, 32, 39, 100, 34, 101, 35]⟩⟩ (rtok X)))), [some (listO items n)], [scr], dup (eqsOf X), dupG (gsOf X), dupO (osOf X), (JoinB tyList ⟨⟨[]⟩⟩ (itemsOf 6 fun i => .str ⟨⟨[c i]⟩⟩ ((nv (i + 1)).2.2.n 0)) (chars 6 c) ∧ IdxB ⟨⟨tblL⟩⟩ ((x 5).fmod 8) [c 5] ∧ IdxB ⟨⟨tblL⟩⟩ ((x 4).fmod 8) [c 4] ∧ IdxB ⟨⟨tblL⟩⟩ ((x 3).fmod 8) [c 3] ∧ IdxB ⟨⟨tblL⟩⟩ ((x 2).fmod 8) [c 2] ∧ IdxB ⟨⟨tblL⟩⟩ ((x 1).fmod 8) [c 1] ∧ IdxB ⟨⟨tblL⟩⟩ ((x 0).fmod 8) [c 0] ∧ SlLB tyList "slice" items none (some 12) none (itemsOf 6 fun i => .int (x i) (t i)) ∧ True)) := by
  cases b <;> cases b2 <;> (intro W X; kernel_rfl)
theorem ll_7 (w : World) (b b2 : Bool) (o : OutL) (scr n : Nat) (items : Array Value) (x : Nat → Int) (t : Nat → Nat) (c : Nat → Nat) (N tk : Nat) (p : Pos) (nv : Nv) :
    let W := wld w b b2
    let X := runC (cfgW W (conP (orcL 7 x t c))) 423 (ctxLL o scr) p (match b2 with | true => [0, 0, 2, 2, 0, 1001, 2, 1, 1, 1, 14, 2, 4, 4, 0, 4, 0, 5, 0, 0, 5, 0, 5, 0, 5, 5, 4, 5, 5, 7, 7, 7, 0, 0, 10, 0, 0, 6, 0, 6, 6, 6, 0, 5, 0, 5, 0, 5, 5, 4, 5, 5, 7, 7, 7, 0, 0, 10, 1, 0, 6, 0, 6, 6, 6, 0, 5, 0, 5, 0, 5, 5, 4, 5, 5, 7, 7, 7, 0, 0, 10, 2, 0, 6, 0, 6, 6, 6, 0, 5, 0, 5, 0, 5, 5, 4, 5, 5, 7, 7, 7, 0, 0, 10, 3, 0, 6, 0, 6, 6, 6, 0, 5, 0, 5, 0, 5, 5, 4, 5, 5, 7, 7, 7, 0, 0, 10, 4, 0, 6, 0, 6, 6, 6, 0, 5, 0, 5, 0, 5, 5, 4, 5, 5, 7, 7, 7, 0, 0, 10, 5, 0, 6, 0, 6, 6, 6, 0, 5, 0, 5, 0, 5, 5, 4, 5, 5, 7, 7, 7, 0, 0, 10, 6, 0, 6, 0, 6, 6, 6, 0, 5, 0, 5, 0, 5, 5, 4, 5, 5, 9, 2, 2, 7, 7, 7, 2, 15, 5, 0, 0, 2, 0, 0, 6, 0, 6, 0, 6, 0, 0, 10, 10, 10, 10, 0, 0] | false => [0, 0, 2, 2, 0, 1001, 2, 1, 1, 1, 14, 2, 4, 4, 0, 4, 0, 5, 0, 5, 5, 0, 5, 0, 5, 0, 5, 0, 5, 0, 5, 5, 4, 5, 5, 7, 7, 7, 0, 0, 10, 0, 0, 6, 0, 6, 6, 6, 0, 5, 0, 5, 0, 5, 5, 4, 5, 5, 7, 7, 7, 0, 0, 10, 1, 0, 6, 0, 6, 6, 6, 0, 5, 0, 5, 0, 5, 5, 4, 5, 5, 7, 7, 7, 0, 0, 10, 2, 0, 6, 0, 6, 6, 6, 0, 5, 0, 5, 0, 5, 5, 4, 5, 5, 7, 7, 7, 0, 0, 10, 3, 0, 6, 0, 6, 6, 6, 0, 5, 0, 5, 0, 5, 5, 4, 5, 5, 7, 7, 7, 0, 0, 10, 4, 0, 6, 0, 6, 6, 6, 0, 5, 0, 5, 0, 5, 5, 4, 5, 5, 7, 7, 7, 0, 0, 10, 5, 0, 6, 0, 6, 6, 6, 0, 5, 0, 5, 0, 5, 5, 4, 5, 5, 7, 7, 7, 0, 0, 10, 6, 0, 6, 0, 6, 6, 6, 0, 5, 0, 5, 0, 5, 5, 4, 5, 5, 9, 2, 2, 7, 7, 7, 2, 15, 5, 0, 0, 2, 0, 0, 6, 0, 6, 0, 6, 0, 0, 10, 10, 10, 10, 0, 0]) [(scr, listO items n)] N tk nv
    look [0] X = some (.done (.ok (.ret (.str ⟨⟨[c 0, c 1, c 2, c 3, c 4, c 5, c 6, 39, 100, 34, 101, 35]⟩⟩ (rtok X)))), [some (listO items n)], [scr], dup (eqsOf X), dupG (gsOf X), dupO (osOf X), (JoinB tyList ⟨⟨[]⟩⟩ (itemsOf 7 fun i => .str ⟨⟨[c i]⟩⟩ ((nv (i + 1)).2.2.n 0)) (chars 7 c) ∧ IdxB ⟨⟨tblL⟩⟩ ((x 6).fmod 8) [c 6] ∧ IdxB ⟨⟨tblL⟩⟩ ((x 5).fmod 8) [c 5] ∧ IdxB ⟨⟨tblL⟩⟩ ((x 4).fmod 8) [c 4] ∧ IdxB ⟨⟨tblL⟩⟩ ((x 3).fmod 8) [c 3] ∧ IdxB ⟨⟨tblL⟩⟩ ((x 2).fmod 8) [c 2] ∧ IdxB ⟨⟨tblL⟩⟩ ((x 1).fmod 8) [c 1] ∧ IdxB ⟨⟨tblL⟩⟩ ((x 0).fmod 8) [c 0] ∧ SlLB tyList "slice" items none (some 12) none (itemsOf 7 fun i => .int (x i) (t i)) ∧ True)) := by
  cases b <;> cases b2 <;> (intro W X; kernel_rfl)
theorem ll_8 (w : World) (b b2 : Bool) (o : OutL) (scr n : Nat) (items : Array Value) (x : Nat → Int) (t : Nat → Nat) (c : Nat → Nat) (N tk : Nat) (p : Pos) (nv : Nv) :
    let W := wld w b b2
    let X := runC (cfgW W (conP (orcL 8 x t c))) 460 (ctxLL o scr) p (match b2 with | true => [0, 0, 2, 2, 0, 1001, 2, 1, 1, 1, 14, 2, 4, 4, 0, 4, 0, 5, 0, 0, 5, 0, 5, 0, 5, 5, 4, 5, 5, 7, 7, 7, 0, 0, 10, 0, 0, 6, 0, 6, 6, 6, 0, 5, 0, 5, 0, 5, 5, 4, 5, 5, 7, 7, 7, 0, 0, 10, 1, 0, 6, 0, 6, 6, 6, 0, 5, 0, 5, 0, 5, 5, 4, 5, 5, 7, 7, 7, 0, 0, 10, 2, 0, 6, 0, 6, 6, 6, 0, 5, 0, 5, 0, 5, 5, 4, 5, 5, 7, 7, 7, 0, 0, 10, 3, 0, 6, 0, 6, 6, 6, 0, 5, 0, 5, 0, 5, 5, 4, 5, 5, 7, 7, 7, 0, 0, 10, 4, 0, 6, 0, 6, 6, 6, 0, 5, 0, 5, 0, 5, 5, 4, 5, 5, 7, 7, 7, 0, 0, 10, 5, 0, 6, 0, 6, 6, 6, 0, 5, 0, 5, 0, 5, 5, 4, 5, 5, 7, 7, 7, 0, 0, 10, 6, 0, 6, 0, 6, 6, 6, 0, 5, 0, 5, 0, 5, 5, 4, 5, 5, 7, 7, 7, 0, 0, 10, 7, 0, 6, 0, 6, 6, 6, 0, 5, 0, 5, 0, 5, 5, 4, 5, 5, 9, 2, 2, 7, 7, 7, 2, 15, 5, 0, 0, 2, 0, 0, 6, 0, 6, 0, 6, 0, 0, 10, 10, 10, 10, 0, 0] | false => [0, 0, 2, 2, 0, 1001, 2, 1, 1, 1, 14, 2, 4, 4, 0, 4, 0, 5, 0, 5, 5, 0, 5, 0, 5, 0, 5, 0, 5, 0, 5, 5, 4, 5, 5, 7, 7, 7, 0, 0, 10, 0, 0, 6, 0, 6, 6, 6, 0, 5, 0, 5, 0, 5, 5, 4, 5, 5, 7, 7, 7, 0, 0, 10, 1, 0, 6, 0, 6, 6, 6, 0, 5, 0, 5, 0, 5, 5, 4, 5, 5, 7, 7, 7, 0, 0, 10, 2, 0, 6, 0, 6, 6, 6, 0, 5, 0, 5, 0, 5, 5, 4, 5, 5, 7, 7, 7, 0, 0, 10, 3, 0, 6, 0, 6, 6, 6, 0, 5, 0, 5, 0, 5, 5, 4, 5, 5, 7, 7, 7, 0, 0, 10, 4, 0, 6, 0, 6, 6, 6, 0, 5, 0, 5, 0, 5, 5, 4, 5, 5, 7, 7, 7, 0, 0, 10, 5, 0, 6, 0, 6, 6, 6, 0, 5, 0, 5, 0, 5, 5, 4, 5, 5, 7, 7, 7, 0, 0, 10, 6, 0, 6, 0, 6, 6, 6, 0, 5, 0, 5, 0, 5, 5, 4, 5, 5, 7, 7, 7, 0, 0, 10, 7, 0, 6, 0, 6, 6, 6, 0, 5, 0, 5, 0, 5, 5, 4, 5, 5, 9, 2, 2, 7, 7, 7, 2, 15, 5, 0, 0, 2, 0, 0, 6, 0, 6, 0, 6, 0, 0, 10, 10, 10, 10, 0, 0]) [(scr, listO items n)] N tk nv
    look [0] X = some (.done (.ok (.ret (.str ⟨⟨[c 0, c 1, c 2, c 3, c 4, c 5, c 6, c 7, 100, 34, 101, 35]⟩⟩ (rtok X)))), [some (listO items n)], [scr], dup (eqsOf X), dupG (gsOf X), dupO (osOf X), (JoinB tyList ⟨⟨[]⟩⟩ (itemsOf 8 fun i => .str ⟨⟨[c i]⟩⟩ ((nv (i + 1)).2.2.n 0)) (chars 8 c) ∧ IdxB ⟨⟨tblL⟩⟩ ((x 7).fmod 8) [c 7] ∧ IdxB ⟨⟨tblL⟩⟩ ((x 6).fmod 8) [c 6] ∧ IdxB ⟨⟨tblL⟩⟩ ((x 5).fmod 8) [c 5] ∧ IdxB ⟨⟨tblL⟩⟩ ((x 4).fmod 8) [c 4] ∧ IdxB ⟨⟨tblL⟩⟩ ((x 3).fmod 8) [c 3] ∧ IdxB ⟨⟨tblL⟩⟩ ((x 2).fmod 8) [c 2] ∧ IdxB ⟨⟨tblL⟩⟩ ((x 1).fmod 8) [c 1] ∧ IdxB ⟨⟨tblL⟩⟩ ((x 0).fmod 8) [c 0] ∧ SlLB tyList "slice" items none (some 12) none (itemsOf 8 fun i => .int (x i) (t i)) ∧ True)) := by
  cases b <;> cases b2 <;> (intro W X; kernel_rfl)
theorem ll_9 (w : World) (b b2 : Bool) (o : OutL) (scr n : Nat) (items : Array Value) (x : Nat → Int) (t : Nat → Nat) (c : Nat → Nat) (N tk : Nat) (p : Pos) (nv : Nv) :
    let W := wld w b b2
    let X := runC (cfgW W (conP (orcL 9 x t c))) 497 (ctxLL o scr) p (match b2 with | true => [0, 0, 2, 2, 0, 1001, 2, 1, 1, 1, 14, 2, 4, 4, 0, 4, 0, 5, 0, 0, 5, 0, 5, 0, 5, 5, 4, 5, 5, 7, 7, 7, 0, 0, 10, 0, 0, 6, 0, 6, 6, 6, 0, 5, 0, 5, 0, 5, 5, 4, 5, 5, 7, 7, 7, 0, 0, 10, 1, 0, 6, 0, 6, 6, 6, 0, 5, 0, 5, 0, 5, 5, 4, 5, 5, 7, 7, 7, 0, 0, 10, 2, 0, 6, 0, 6, 6, 6, 0, 5, 0, 5, 0, 5, 5, 4, 5, 5, 7, 7, 7, 0, 0, 10, 3, 0, 6, 0, 6, 6, 6, 0, 5, 0, 5, 0, 5, 5, 4, 5, 5, 7, 7, 7, 0, 0, 10, 4, 0, 6, 0, 6, 6, 6, 0, 5, 0, 5, 0, 5, 5, 4, 5, 5, 7, 7, 7, 0, 0, 10, 5, 0, 6, 0, 6, 6, 6, 0, 5, 0, 5, 0, 5, 5, 4, 5, 5, 7, 7, 7, 0, 0, 10, 6, 0, 6, 0, 6, 6, 6, 0, 5, 0, 5, 0, 5, 5, 4, 5, 5, 7, 7, 7, 0, 0, 10, 7, 0, 6, 0, 6, 6, 6, 0, 5, 0, 5, 0, 5, 5, 4, 5, 5, 7, 7, 7, 0, 0, 10, 8, 0, 6, 0, 6, 6, 6, 0, 5, 0, 5, 0, 5, 5, 4, 5, 5, 9, 2, 2, 7, 7, 7, 2, 15, 5, 0, 0, 2, 0, 0, 6, 0, 6, 0, 6, 0, 0, 10, 10, 10, 10, 0, 0] | false => [0, 0, 2, 2, 0, 1001, 2, 1, 1, 1, 14, 2, 4, 4, 0, 4, 0, 5, 0, 5, 5, 0, 5, 0, 5, 0, 5, 0, 5, 0, 5, 5, 4, 5, 5, 7, 7, 7, 0, 0, 10, 0, 0, 6, 0, 6, 6, 6, 0, 5, 0, 5, 0, 5, 5, 4, 5, 5, 7, 7, 7, 0, 0, 10, 1, 0, 6, 0, 6, 6, 6, 0, 5, 0, 5, 0, 5, 5, 4, 5, 5, 7, 7, 7, 0, 0, 10, 2, 0, 6, 0, 6, 6, 6, 0, 5, 0, 5, 0, 5, 5, 4, 5, 5, 7, 7, 7, 0, 0, 10, 3, 0, 6, 0, 6, 6, 6, 0, 5, 0, 5, 0, 5, 5, 4, 5, 5, 7, 7, 7, 0, 0, 10, 4, 0, 6, 0, 6, 6, 6, 0, 5, 0, 5, 0, 5, 5, 4, 5, 5, 7, 7, 7, 0, 0, 10, 5, 0, 6, 0, 6, 6, 6, 0, 5, 0, 5, 0, 5, 5, 4, 5, 5, 7, 7, 7, 0, 0, 10, 6, 0, 6, 0, 6, 6, 6, 0, 5, 0, 5, 0, 5, 5, 4, 5, 5, 7, 7, 7, 0, 0, 10, 7, 0, 6, 0, 6, 6, 6, 0, 5, 0, 5, 0, 5, 5, 4, 5, 5, 7, 7, 7, 0, 0, 10, 8, 0, 6, 0, 6, 6, 6, 0, 5, 0, 5, 0, 5, 5, 4, 5, 5, 9, 2, 2, 7, 7, 7, 2, 15, 5, 0, 0, 2, 0, 0, 6, 0, 6, 0, 6, 0, 0, 10, 10, 10, 10, 0, 0]) [(scr, listO items n)] N tk nv
    look [0] X = some (.done (.ok (.ret (.str ⟨⟨[c 0, c 1, c 2, c 3, c 4, c 5, c 6, c 7, c 8, 34, 101, 35]⟩⟩ (rtok X)))), [some (listO items n)], [scr], dup (eqsOf X), dupG (gsOf X), dupO (osOf X), (JoinB tyList ⟨⟨[]⟩⟩ (itemsOf 9 fun i => .str ⟨⟨[c i]⟩⟩ ((nv (i + 1)).2.2.n 0)) (chars 9 c) ∧ IdxB ⟨⟨tblL⟩⟩ ((x 8).fmod 8) [c 8] ∧ IdxB ⟨⟨tblL⟩⟩ ((x 7).fmod 8) [c 7] ∧ IdxB ⟨⟨tblL⟩⟩ ((x 6).fmod 8) [c 6] ∧ IdxB ⟨⟨tblL⟩⟩ ((x 5).fmod 8) [c 5] ∧ IdxB ⟨⟨tblL⟩⟩ ((x 4).fmod 8) [c 4] ∧ IdxB ⟨⟨tblL⟩⟩ ((x 3).fmod 8) [c 3] ∧ IdxB ⟨⟨tblL⟩⟩ ((x 2).fmod 8) [c 2] ∧ IdxB ⟨⟨tblL⟩⟩ ((x 1).fmod 8) [c 1] ∧ IdxB ⟨⟨tblL⟩⟩ ((x 0).fmod 8) [c 0] ∧ SlLB tyList "slice" items none (some 12) none (itemsOf 9 fun i => .int (x i) (t i)) ∧ True)) := by
  cases b <;> cases b2 <;> (intro W X; kernel_rfl)
theorem ll_10 (w : World) (b b2 : Bool) (o : OutL) (scr n : Nat) (items : Array Value) (x : Nat → Int) (t : Nat → Nat) (c : Nat → Nat) (N tk : Nat) (p : Pos) (nv : Nv) :
    let W := wld w b b2
    let X := runC (cfgW W (conP (orcL 10 x t c))) 534 (ctxLL o scr) p (match b2 with | true => [0, 0, 2, 2, 0, 1001, 2, 1, 1, 1, 14, 2, 4, 4, 0, 4, 0, 5, 0, 0, 5, 0, 5, 0, 5, 5, 4, 5, 5, 7, 7, 7, 0, 0, 10, 0, 0, 6, 0, 6, 6, 6, 0, 5, 0, 5, 0, 5, 5, 4, 5, 5, 7, 7, 7, 0, 0, 10, 1, 0, 6, 0, 6, 6, 6, 0, 5, 0, 5, 0, 5, 5, 4, 5, 5, 7, 7, 7, 0, 0, 10, 2, 0, 6, 0, 6, 6, 6, 0, 5, 0, 5, 0, 5, 5, 4, 5, 5, 7, 7, 7, 0, 0, 10, 3, 0, 6, 0, 6, 6, 6, 0, 5, 0, 5, 0, 5, 5, 4, 5, 5, 7, 7, 7, 0, 0, 10, 4, 0, 6, 0, 6, 6, 6, 0, 5, 0, 5, 0, 5, 5, 4, 5, 5, 7, 7, 7, 0, 0, 10, 5, 0, 6, 0, 6, 6, 6, 0, 5, 0, 5, 0, 5, 5, 4, 5, 5, 7, 7, 7, 0, 0, 10, 6, 0, 6, 0, 6, 6, 6, 0, 5, 0, 5, 0, 5, 5, 4, 5, 5, 7, 7, 7, 0, 0, 10, 7, 0, 6, 0, 6, 6, 6, 0, 5, 0, 5, 0, 5, 5, 4, 5, 5, 7, 7, 7, 0, 0, 10, 8, 0, 6, 0, 6, 6, 6, 0, 5, 0, 5, 0, 5, 5, 4, 5, 5, 7, 7, 7, 0, 0, 10, 9, 0, 6, 0, 6, 6, 6, 0, 5, 0, 5, 0, 5, 5, 4, 5, 5, 9, 2, 2, 7, 7, 7, 2, 15, 5, 0, 0, 2, 0, 0, 6, 0, 6, 0, 6, 0, 0, 10, 10, 10, 10, 0, 0] | false => [0, 0, 2, 2, 0, 1001, 2, 1, 1, 1, 14, 2, 4, 4, 0, 4, 0, 5, 0, 5, 5, 0, 5, 0, 5, 0, 5, 0, 5, 0, 5, 5, 4, 5, 5, 7, 7, 7, 0, 0, 10, 0, 0, 6, 0, 6, 6, 6, 0, 5, 0, 5, 0, 5, 5, 4, 5, 5, 7, 7, 7, 0, 0, 10, 1, 0, 6, 0, 6, 6, 6, 0, 5, 0, 5, 0, 5, 5, 4, 5, 5, 7, 7, 7, 0, 0, 10, 2, 0, 6, 0, 6, 6, 6, 0, 5, 0, 5, 0, 5, 5, 4, 5, 5, 7, 7, 7, 0, 0, 10, 3, 0, 6, 0, 6, 6, 6, 0, 5, 0, 5, 0, 5, 5, 4, 5, 5, 7, 7, 7, 0, 0, 10, 4, 0, 6, 0, 6, 6, 6, 0, 5, 0, 5, 0, 5, 5, 4, 5, 5, 7, 7, 7, 0, 0, 10, 5, 0, 6, 0, 6, 6, 6, 0, 5, 0, 5, 0, 5, 5, 4, 5, 5, 7, 7, 7, 0, 0, 10, 6, 0, 6, 0, 6, 6, 6, 0, 5, 0, 5, 0, 5, 5, 4, 5, 5, 7, 7, 7, 0, 0, 10, 7, 0, 6, 0, 6, 6, 6, 0, 5, 0, 5, 0, 5, 5, 4, 5, 5, 7, 7, 7, 0, 0, 10, 8, 0, 6, 0, 6, 6, 6, 0, 5, 0, 5, 0, 5, 5, 4, 5, 5, 7, 7, 7, 0, 0, 10, 9, 0, 6, 0, 6, 6, 6, 0, 5, 0, 5, 0, 5, 5, 4, 5, 5, 9, 2, 2, 7, 7, 7, 2, 15, 5, 0, 0, 2, 0, 0, 6, 0, 6, 0, 6, 0, 0, 10, 10, 10, 10, 0, 0]) [(scr, listO items n)] N tk nv
    look [0] X = some (.done (.ok (.ret (.str ⟨⟨[c 0, c 1, c 2, c 3, c 4, c 5, c 6, c 7, c 8, c 9, 101, 35]⟩⟩ (rtok X)))), [some (listO items n)], [scr], dup (eqsOf X), dupG (gsOf X), dupO (osOf X), (JoinB tyList ⟨⟨[]⟩⟩ (itemsOf 10 fun i => .str ⟨⟨[c i]⟩⟩ ((nv (i + 1)).2.2.n 0)) (chars 10 c) ∧ IdxB ⟨⟨tblL⟩⟩ ((x 9).fmod 8) [c 9] ∧ IdxB ⟨⟨tblL⟩⟩ ((x 8).fmod 8) [c 8] ∧ IdxB ⟨⟨tblL⟩⟩ ((x 7).fmod 8) [c 7] ∧ IdxB ⟨⟨tblL⟩⟩ ((x 6).fmod 8) [c 6] ∧ IdxB ⟨⟨tblL⟩⟩ ((x 5).fmod 8) [c 5] ∧ IdxB ⟨⟨tblL⟩⟩ ((x 4).fmod 8) [c 4] ∧ IdxB ⟨⟨tblL⟩⟩ ((x 3).fmod 8) [c 3] ∧ IdxB ⟨⟨tblL⟩⟩ ((x 2).fmod 8) [c 2] ∧ IdxB ⟨⟨tblL⟩⟩ ((x 1).fmod 8) [c 1] ∧ IdxB ⟨⟨tblL⟩⟩ ((x 0).fmod 8) [c 0] ∧ SlLB tyList "slice" items none (some 12) none (itemsOf 10 fun i => .int (x i) (t i)) ∧ True)) := by
  cases b <;> cases b2 <;> (intro W X; kernel_rfl)
theorem ll_11 (w : World) (b b2 : Bool) (o : OutL) (scr n : Nat) (items : Array Value) (x : Nat → Int) (t : Nat → Nat) (c : Nat → Nat) (N tk : Nat) (p : Pos) (nv : Nv) :
    let W := wld w b b2
    let X := runC (cfgW W (conP (orcL 11 x t c))) 571 (ctxLL o scr) p (match b2 with | true => [0, 0, 2, 2, 0, 1001, 2, 1, 1, 1, 14, 2, 4, 4, 0, 4, 0, 5, 0, 0, 5, 0, 5, 0, 5, 5, 4, 5, 5, 7, 7, 7, 0, 0, 10, 0, 0, 6, 0, 6, 6, 6, 0, 5, 0, 5, 0, 5, 5, 4, 5, 5, 7, 7, 7, 0, 0, 10, 1, 0, 6, 0, 6, 6, 6, 0, 5, 0, 5, 0, 5, 5, 4, 5, 5, 7, 7, 7, 0, 0, 10, 2, 0, 6, 0, 6, 6, 6, 0, 5, 0, 5, 0, 5, 5, 4, 5, 5, 7, 7, 7, 0, 0, 10, 3, 0, 6, 0, 6, 6, 6, 0, 5, 0, 5, 0, 5, 5, 4, 5, 5, 7, 7, 7, 0, 0, 10, 4, 0, 6, 0, 6, 6, 6, 0, 5, 0, 5, 0, 5, 5, 4, 5, 5, 7, 7, 7, 0, 0, 10, 5, 0, 6, 0, 6, 6, 6, 0, 5, 0, 5, 0, 5, 5, 4, 5, 5, 7, 7, 7, 0, 0, 10, 6, 0, 6, 0, 6, 6, 6, 0, 5, 0, 5, 0, 5, 5, 4, 5, 5, 7, 7, 7, 0, 0, 10, 7, 0, 6, 0, 6, 6, 6, 0, 5, 0, 5, 0, 5, 5, 4, 5, 5, 7, 7, 7, 0, 0, 10, 8, 0, 6, 0, 6, 6, 6, 0, 5, 0, 5, 0, 5, 5, 4, 5, 5, 7, 7, 7, 0, 0, 10, 9, 0, 6, 0, 6, 6, 6, 0, 5, 0, 5, 0, 5, 5, 4, 5, 5, 7, 7, 7, 0, 0, 10, 10, 0, 6, 0, 6, 6, 6, 0, 5, 0, 5, 0, 5, 5, 4, 5, 5, 9, 2, 2, 7, 7, 7, 2, 15, 5, 0, 0, 2, 0, 0, 6, 0, 6, 0, 6, 0, 0, 10, 10, 10, 10, 0, 0] | false => [0, 0, 2, 2, 0, 1001, 2, 1, 1, 1, 14, 2, 4, 4, 0, 4, 0, 5, 0, 5, 5, 0, 5, 0, 5, 0, 5, 0, 5, 0, 5, 5, 4, 5, 5, 7, 7, 7, 0, 0, 10, 0, 0, 6, 0, 6, 6, 6, 0, 5, 0, 5, 0, 5, 5, 4, 5, 5, 7, 7, 7, 0, 0, 10, 1, 0, 6, 0, 6, 6, 6, 0, 5, 0, 5, 0, 5, 5, 4, 5, 5, 7, 7, 7, 0, 0, 10, 2, 0, 6, 0, 6, 6, 6, 0, 5, 0, 5, 0, 5, 5, 4, 5, 5, 7, 7, 7, 0, 0, 10, 3, 0, 6, 0, 6, 6, 6, 0, 5, 0, 5, 0, 5, 5, 4, 5, 5, 7, 7, 7, 0, 0, 10, 4, 0, 6, 0, 6, 6, 6, 0, 5, 0, 5, 0, 5, 5, 4, 5, 5, 7, 7, 7, 0, 0, 10, 5, 0, 6, 0, 6, 6, 6, 0, 5, 0, 5, 0, 5, 5, 4, 5, 5, 7, 7, 7, 0, 0, 10, 6, 0, 6, 0, 6, 6, 6, 0, 5, 0, 5, 0, 5, 5, 4, 5, 5, 7, 7, 7, 0, 0, 10, 7, 0, 6, 0, 6, 6, 6, 0, 5, 0, 5, 0, 5, 5, 4, 5, 5, 7, 7, 7, 0, 0, 10, 8, 0, 6, 0, 6, 6, 6, 0, 5, 0, 5, 0, 5, 5, 4, 5, 5, 7, 7, 7, 0, 0, 10, 9, 0, 6, 0, 6, 6, 6, 0, 5, 0, 5, 0, 5, 5, 4, 5, 5, 7, 7, 7, 0, 0, 10, 10, 0, 6, 0, 6, 6, 6, 0, 5, 0, 5, 0, 5, 5, 4, 5, 5, 9, 2, 2, 7, 7, 7, 2, 15, 5, 0, 0, 2, 0, 0, 6, 0, 6, 0, 6, 0, 0, 10, 10, 10, 10, 0, 0]) [(scr, listO items n)] N tk nv
    look [0] X = some (.done (.ok (.ret (.str ⟨⟨[c 0, c 1, c 2, c 3, c 4, c 5, c 6, c 7, c 8, c 9, c 10, 35]⟩⟩ (rtok X)))), [some (listO items n)], [scr], dup (eqsOf X), dupG (gsOf X), dupO (osOf X), (JoinB tyList ⟨⟨[]⟩⟩ (itemsOf 11 fun i => .str ⟨⟨[c i]⟩⟩ ((nv (i + 1)).2.2.n 0)) (chars 11 c) ∧ IdxB ⟨⟨tblL⟩⟩ ((x 10).fmod 8) [c 10] ∧ IdxB ⟨⟨tblL⟩⟩ ((x 9).fmod 8) [c 9] ∧ IdxB ⟨⟨tblL⟩⟩ ((x 8).fmod 8) [c 8] ∧ IdxB ⟨⟨tblL⟩⟩ ((x 7).fmod 8) [c 7] ∧ IdxB ⟨⟨tblL⟩⟩ ((x 6).fmod 8) [c 6] ∧ IdxB ⟨⟨tblL⟩⟩ ((x 5).fmod 8) [c 5] ∧ IdxB ⟨⟨tblL⟩⟩ ((x 4).fmod 8) [c 4] ∧ IdxB ⟨⟨tblL⟩⟩ ((x 3).fmod 8) [c 3] ∧ IdxB ⟨⟨tblL⟩⟩ ((x 2).fmod 8) [c 2] ∧ IdxB ⟨⟨tblL⟩⟩ ((x 1).fmod 8) [c 1] ∧ IdxB ⟨⟨tblL⟩⟩ ((x 0).fmod 8) [c 0] ∧ SlLB tyList "slice" items none (some 12) none (itemsOf 11 fun i => .int (x i) (t i)) ∧ True)) := by
  cases b <;> cases b2 <;> (intro W X; kernel_rfl)
theorem ll_12 (w : World) (b b2 : Bool) (o : OutL) (scr n : Nat) (items : Array Value) (x : Nat → Int) (t : Nat → Nat) (c : Nat → Nat) (N tk : Nat) (p : Pos) (nv : Nv) :
    let W := wld w b b2
    let X := runC (cfgW W (conP (orcL 12 x t c))) 608 (ctxLL o scr) p (match b2 with | true => [0, 0, 2, 2, 0, 1001, 2, 1, 1, 1, 14, 2, 4, 4, 0, 4, 0, 5, 0, 0, 5, 0, 5, 0, 5, 5, 4, 5, 5, 7, 7, 7, 0, 0, 10, 0, 0, 6, 0, 6, 6, 6, 0, 5, 0, 5, 0, 5, 5, 4, 5, 5, 7, 7, 7, 0, 0, 10, 1, 0, 6, 0, 6, 6, 6, 0, 5, 0, 5, 0, 5, 5, 4, 5, 5, 7, 7, 7, 0, 0, 10, 2, 0, 6, 0, 6, 6, 6, 0, 5, 0, 5, 0, 5, 5, 4, 5, 5, 7, 7, 7, 0, 0, 10, 3, 0, 6, 0, 6, 6, 6, 0, 5, 0, 5, 0, 5, 5, 4, 5, 5, 7, 7, 7, 0, 0, 10, 4, 0, 6, 0, 6, 6, 6, 0, 5, 0, 5, 0, 5, 5, 4, 5, 5, 7, 7, 7, 0, 0, 10, 5, 0, 6, 0, 6, 6, 6, 0, 5, 0, 5, 0, 5, 5, 4, 5, 5, 7, 7, 7, 0, 0, 10, 6, 0, 6, 0, 6, 6, 6, 0, 5, 0, 5, 0, 5, 5, 4, 5, 5, 7, 7, 7, 0, 0, 10, 7, 0, 6, 0, 6, 6, 6, 0, 5, 0, 5, 0, 5, 5, 4, 5, 5, 7, 7, 7, 0, 0, 10, 8, 0, 6, 0, 6, 6, 6, 0, 5, 0, 5, 0, 5, 5, 4, 5, 5, 7, 7, 7, 0, 0, 10, 9, 0, 6, 0, 6, 6, 6, 0, 5, 0, 5, 0, 5, 5, 4, 5, 5, 7, 7, 7, 0, 0, 10, 10, 0, 6, 0, 6, 6, 6, 0, 5, 0, 5, 0, 5, 5, 4, 5, 5, 7, 7, 7, 0, 0, 10, 11, 0, 6, 0, 6, 6, 6, 0, 5, 0, 5, 0, 5, 5, 4, 5, 5, 9, 2, 2, 7, 7, 7, 2, 15, 5, 0, 0, 2, 0, 0, 6, 0, 6, 0, 6, 0, 0, 10, 10, 10, 10, 0, 0] | false => [0, 0, 2, 2, 0, 1001, 2, 1, 1, 1, 14, 2, 4, 4, 0, 4, 0, 5, 0, 5, 5, 0, 5, 0, 5, 0, 5, 0, 5, 0, 5, 5, 4, 5, 5, 7, 7, 7, 0, 0, 10, 0, 0, 6, 0, 6, 6, 6, 0, 5, 0, 5, 0, 5, 5, 4, 5, 5, 7, 7, 7, 0, 0, 10, 1, 0, 6, 0, 6, 6, 6, 0, 5, 0, 5, 0, 5, 5, 4, 5, 5, 7, 7, 7, 0, 0, 10, 2, 0, 6, 0, 6, 6, 6, 0, 5, 0, 5, 0, 5, 5, 4, 5, 5, 7, 7, 7, 0, 0, 10, 3, 0, 6, 0, 6, 6, 6, 0, 5, 0, 5, 0, 5, 5, 4, 5, 5, 7, 7, 7, 0, 0, 10, 4, 0, 6, 0, 6, 6, 6, 0, 5, 0, 5, 0, 5, 5, 4, 5, 5, 7, 7, 7, 0, 0, 10, 5, 0, 6, 0, 6, 6, 6, 0, 5, 0, 5, 0, 5, 5, 4, 5, 5, 7, 7, 7, 0, 0, 10, 6, 0, 6, 0, 6, 6, 6, 0, 5, 0, 5, 0, 5, 5, 4, 5, 5, 7, 7, 7, 0, 0, 10, 7, 0, 6, 0, 6, 6, 6, 0, 5, 0, 5, 0, 5, 5, 4, 5, 5, 7, 7, 7, 0, 0, 10, 8, 0, 6, 0, 6, 6, 6, 0, 5, 0, 5, 0, 5, 5, 4, 5, 5, 7, 7, 7, 0, 0, 10, 9, 0, 6, 0, 6, 6, 6, 0, 5, 0, 5, 0, 5, 5, 4, 5, 5, 7, 7, 7, 0, 0, 10, 10, 0, 6, 0, 6, 6, 6, 0, 5, 0, 5, 0, 5, 5, 4, 5, 5, 7, 7, 7, 0, 0, 10, 11, 0, 6, 0, 6, 6, 6, 0, 5, 0, 5, 0, 5, 5, 4, 5, 5, 9, 2, 2, 7, 7, 7, 2, 15, 5, 0, 0, 2, 0, 0, 6, 0, 6, 0, 6, 0, 0, 10, 10, 10, 10, 0, 0]) [(scr, listO items n)] N tk nv
    look [0] X = some (.done (.ok (.ret (.str ⟨⟨[c 0, c 1, c 2, c 3, c 4, c 5, c 6, c 7, c 8, c 9, c 10, c 11]⟩⟩ (rtok X)))), [some (listO items n)], [scr], dup (eqsOf X), dupG (gsOf X), dupO (osOf X), (JoinB tyList ⟨⟨[]⟩⟩ (itemsOf 12 fun i => .str ⟨⟨[c i]⟩⟩ ((nv (i + 1)).2.2.n 0)) (chars 12 c) ∧ IdxB ⟨⟨tblL⟩⟩ ((x 11).fmod 8) [c 11] ∧ IdxB ⟨⟨tblL⟩⟩ ((x 10).fmod 8) [c 10] ∧ IdxB ⟨⟨tblL⟩⟩ ((x 9).fmod 8) [c 9] ∧ IdxB ⟨⟨tblL⟩⟩ ((x 8).fmod 8) [c 8] ∧ IdxB ⟨⟨tblL⟩⟩ ((x 7).fmod 8) [c 7] ∧ IdxB ⟨⟨tblL⟩⟩ ((x 6).fmod 8) [c 6] ∧ IdxB ⟨⟨tblL⟩⟩ ((x 5).fmod 8) [c 5] ∧ IdxB ⟨⟨tblL⟩⟩ ((x 4).fmod 8) [c 4] ∧ IdxB ⟨⟨tblL⟩⟩ ((x 3).fmod 8) [c 3] ∧ IdxB ⟨⟨tblL⟩⟩ ((x 2).fmod 8) [c 2] ∧ IdxB ⟨⟨tblL⟩⟩ ((x 1).fmod 8) [c 1] ∧ IdxB ⟨⟨tblL⟩⟩ ((x 0).fmod 8) [c 0] ∧ SlLB tyList "slice" items none (some 12) none (itemsOf 12 fun i => .int (x i) (t i)) ∧ True)) := by
  cases b <;> cases b2 <;> (intro W X; kernel_rfl)
/-! L202 -/
theorem conP_good {W : World} {s : Shared} {l : Nat} (O : OrP) : ConOk (baseOf (kt W.params) 769 l s) (MW W) (cfgW W (conP O)) :=
  fun j x Γ T m ads tk s p g hg hx _ _ ob D => conP_ok O j x Γ T m ads tk s p g hg hx ob D
noncomputable def defL : List Nat := [97, 39, 32, 98, 34, 99, 32, 39, 100, 34, 101, 35]
noncomputable def obsI (x : Nat → Int) (c : Nat → Nat) (P : Prop) : Nat → Prop
  | 0 => P
  | k + 1 => IdxB ⟨⟨tblL⟩⟩ ((x k).fmod 8) [c k] ∧ obsI x c P k
theorem ll_all (w : World) (b b2 : Bool) (o : OutL) (scr n : Nat) (items : Array Value) (x : Nat → Int) (t : Nat → Nat) (c : Nat → Nat) : ∀ k, k ≤ 12 → ∃ fuel hs, ∀ (N tk : Nat) (p : Pos) (nv : Nv),
    let W := wld w b b2
    let X := runC (cfgW W (conP (orcL k x t c))) fuel (ctxLL o scr) p hs [(scr, listO items n)] N tk nv
    look [0] X = some (.done (.ok (.ret (.str ⟨⟨chars k c ++ defL.drop k⟩⟩ (rtok X)))), [some (listO items n)], [scr], dup (eqsOf X), dupG (gsOf X), dupO (osOf X),
      (JoinB tyList ⟨⟨[]⟩⟩ (itemsOf k fun i => .str ⟨⟨[c i]⟩⟩ ((nv (i + 1)).2.2.n 0)) (chars k c) ∧ obsI x c (SlLB tyList "slice" items none (some 12) none (itemsOf k fun i => .int (x i) (t i)) ∧ True) k))
  | 0, _ => ⟨_, _, fun N tk p nv => ll_0 w b b2 o scr n items x t c N tk p nv⟩
  | 1, _ => ⟨_, _, fun N tk p nv => ll_1 w b b2 o scr n items x t c N tk p nv⟩
  | 2, _ => ⟨_, _, fun N tk p nv => ll_2 w b b2 o scr n items x t c N tk p nv⟩
  | 3, _ => ⟨_, _, fun N tk p nv => ll_3 w b b2 o scr n items x t c N tk p nv⟩
  | 4, _ => ⟨_, _, fun N tk p nv => ll_4 w b b2 o scr n items x t c N tk p nv⟩
  | 5, _ => ⟨_, _, fun N tk p nv => ll_5 w b b2 o scr n items x t c N tk p nv⟩
  | 6, _ => ⟨_, _, fun N tk p nv => ll_6 w b b2 o scr n items x t c N tk p nv⟩
  | 7, _ => ⟨_, _, fun N tk p nv => ll_7 w b b2 o scr n items x t c N tk p nv⟩
  | 8, _ => ⟨_, _, fun N tk p nv => ll_8 w b b2 o scr n items x t c N tk p nv⟩
  | 9, _ => ⟨_, _, fun N tk p nv => ll_9 w b b2 o scr n items x t c N tk p nv⟩
  | 10, _ => ⟨_, _, fun N tk p nv => ll_10 w b b2 o scr n items x t c N tk p nv⟩
  | 11, _ => ⟨_, _, fun N tk p nv => ll_11 w b b2 o scr n items x t c N tk p nv⟩
  | 12, _ => ⟨_, _, fun N tk p nv => ll_12 w b b2 o scr n items x t c N tk p nv⟩
  | k + 13, h => absurd h (by omega)
/-- the sign of a number -/
noncomputable def sgL (x : Int) : Nat := tblL.getD (x.fmod 8).toNat 0
noncomputable def lineL (xs : List Int) : List Nat := (xs.take 12).map sgL ++ defL.drop (xs.take 12).length
theorem chars_map (f : Nat → Nat) : ∀ k, chars k f = (List.range k).map f
  | 0 => rfl
  | k + 1 => by
    rw [chars, chars_map, List.range_succ_eq_map, List.map_cons, List.map_map]; rfl
theorem itemsOf_map (f : Nat → Value) : ∀ k, itemsOf k f = (List.range k).map f
  | 0 => rfl
  | k + 1 => by
    rw [itemsOf, itemsOf_map (fun i => f (i + 1)), List.range_succ_eq_map, List.map_cons, List.map_map]; rfl
theorem slice12 (items : Array Value) : slicePick items none (some 12) none = (items.toList.take 12).toArray := by
  by_cases h : 12 ≤ items.size
  · exact slicePick_upto items 12 h
  · have e : slicePick items none (some 12) none = slicePick items none (some (items.size : Int)) none := by
      unfold slicePick
      have : sliceBounds none (some 12) none items.size = sliceBounds none (some (items.size : Int)) none items.size := by
        unfold sliceBounds
        simp only [Option.getD_none]
        have h1 : ¬ ((12 : Int) < 0) := by decide
        have h2 : ¬ ((items.size : Int) < 0) := by omega
        simp only [h1, h2, if_false, show ((1 : Int) > 0) from by decide, if_true]
        congr 2
        omega
      rw [this]
    rw [e, slicePick_upto items items.size (Nat.le_refl _)]
    rw [List.take_of_length_le (by simp), List.take_of_length_le (by rw [Array.length_toList]; omega)]
theorem strL_chars (c τ : Nat → Nat) : ∀ k, strL (itemsOf k fun i => .str ⟨⟨[c i]⟩⟩ (τ i)) = some ((List.range k).map fun i => (⟨⟨[c i]⟩⟩, τ i))
  | 0 => rfl
  | k + 1 => by
    rw [itemsOf, strL, strL_chars (fun i => c (i + 1)) (fun i => τ (i + 1)) k, List.range_succ_eq_map, List.map_cons, List.map_map]; rfl
theorem join_chars (c : Nat → Nat) : ∀ (l : List Nat), Str.join (⟨⟨[]⟩⟩ : Str) (l.map fun i => (⟨⟨[c i]⟩⟩ : Str)) = ⟨⟨l.map c⟩⟩
  | [] => rfl
  | [i] => rfl
  | i :: j :: r => by
    have ih := join_chars c (j :: r)
    rw [List.map_cons] at ih
    rw [List.map_cons, List.map_cons]
    show (⟨⟨[c i]⟩⟩ : Str) ++ ⟨⟨[]⟩⟩ ++ Str.join ⟨⟨[]⟩⟩ ((⟨⟨[c j]⟩⟩ : Str) :: r.map fun i => (⟨⟨[c i]⟩⟩ : Str)) = _
    rw [ih]
    rw [show (⟨⟨[c i]⟩⟩ : Str) ++ ⟨⟨[]⟩⟩ = ⟨⟨[c i]⟩⟩ from rfl]
    show Str.mk _ = Str.mk _
    simp
theorem joinB_chars (c τ : Nat → Nat) (k : Nat) (hk : k ≤ 12) : JoinB tyList ⟨⟨[]⟩⟩ (itemsOf k fun i => .str ⟨⟨[c i]⟩⟩ (τ i)) (chars k c) := by
  refine ⟨rfl, _, strL_chars c τ k, ?_, ?_, ?_⟩
  · rw [List.map_map]
    have fold : ∀ (l : List Nat) (a : Nat), (l.map ((fun x : Str × Tok => x.1) ∘ fun i => ((⟨⟨[c i]⟩⟩ : Str), τ i))).foldl (fun (a : Nat) (p : Str) => a + p.length + (⟨⟨[]⟩⟩ : Str).length) a = a + l.length := by
      intro l
      induction l with
      | nil => intro a; rfl
      | cons i l ih =>
        intro a
        rw [List.map_cons, List.foldl_cons, ih, List.length_cons]
        show a + 1 + 0 + l.length = _
        omega
    have := fold (List.range k) 0
    rw [List.foldl_toArray, this, List.length_range]
    unfold Builtin.Str.tooLong
    have hz : sizeLine = 16777216 := by decide
    simp
    omega
  · rw [List.map_map, StrLaws.glued_eq_join, chars_map]
    exact join_chars c (List.range k)
  · rw [chars_map, List.length_map, List.length_range]
    exact Nat.le_trans hk (by decide)
/-- _law_line -/
theorem line_ok {w : World} {b b2 : Bool} {o : OutL} {scr n : Nat} {xs : List Int} {ts : List Nat} {s : Shared} {p : Pos} (S : Top (wld w b b2) s) (ht : ts.length = xs.length) (hl : xs.length ≤ 63)
    (H : Holds s [(scr, listO ⟨List.zipWith (fun x t => Value.int x t) xs ts⟩ n)]) (lo : 769 ≤ scr) :
    wpCode (MW (wld w b b2)) (ctxLL o scr) (fun r s' => ∃ ν : Unk, r = .ok (.ret (.str ⟨⟨lineL xs⟩⟩ (ν.n 0))) ∧ Did s s' [(scr, listO ⟨List.zipWith (fun x t => Value.int x t) xs ts⟩ n)] []) p s := by
  let k := (xs.take 12).length
  have hk : k ≤ 12 := by show (xs.take 12).length ≤ 12; rw [List.length_take]; omega
  let x : Nat → Int := fun i => xs.getD i 0
  let t : Nat → Nat := fun i => ts.getD i 0
  let c : Nat → Nat := fun i => sgL (x i)
  obtain ⟨fuel, hs, run⟩ := ll_all w b b2 o scr n ⟨List.zipWith (fun x t => Value.int x t) xs ts⟩ x t c k hk
  refine runC_ok [] (conP_good (orcL k x t c)) S H (by simp) (by simpa using lo) _ _ (fun _ => []) _ (fun nv => run _ _ p nv) (fun nv => ⟨joinB_chars c _ k hk, ?_⟩) fun nv s' Af => ?_
  · have base : SlLB tyList "slice" (⟨List.zipWith (fun x t => Value.int x t) xs ts⟩ : Array Value) none (some 12) none (itemsOf k fun i => .int (x i) (t i)) := by
      refine ⟨rfl, rfl, by decide, ?_, ?_⟩
      · rw [slice12, itemsOf_map]
        show (⟨_⟩ : Array Value) = ⟨_⟩
        congr 1
        apply List.ext_getElem?
        intro i
        show ((List.zipWith (fun x t => Value.int x t) xs ts).take 12)[i]? = _
        have hkk : k = min 12 xs.length := List.length_take ..
        rw [List.getElem?_take, List.getElem?_map]
        by_cases h : i < k
        · rw [if_pos (by omega), List.getElem?_range h]
          have h1 : i < xs.length := by omega
          have h2 : i < ts.length := by omega
          rw [List.getElem?_eq_getElem (by rw [List.length_zipWith]; omega), List.getElem_zipWith]
          show some _ = some (Value.int (xs.getD i 0) (ts.getD i 0))
          rw [List.getD_eq_getElem?_getD, List.getD_eq_getElem?_getD, List.getElem?_eq_getElem h1, List.getElem?_eq_getElem h2]; rfl
        · rw [List.getElem?_eq_none (l := List.range k) (by rw [List.length_range]; omega)]
          by_cases h' : i < 12
          · rw [if_pos h', List.getElem?_eq_none (by rw [List.length_zipWith]; omega)]; rfl
          · rw [if_neg h']; rfl
      · show (List.zipWith _ xs ts).length ≤ sizeLine
        rw [List.length_zipWith]
        have : sizeLine = 16777216 := by decide
        omega
    have idx : ∀ j, IdxB ⟨⟨tblL⟩⟩ ((x j).fmod 8) [c j] := fun j => by
      have h0 : 0 ≤ (x j).fmod 8 := Int.fmod_nonneg_of_pos _ (by decide)
      have h8 : (x j).fmod 8 < 8 := Int.fmod_lt_of_pos _ (by decide)
      show IdxB ⟨⟨tblL⟩⟩ ((x j).fmod 8) [tblL.getD ((x j).fmod 8).toNat 0]
      obtain ⟨m, hm⟩ := Int.eq_ofNat_of_zero_le h0
      rw [hm] at h8 ⊢
      have hm8 : m < 8 := by omega
      refine ⟨_, rfl, ?_, ?_⟩
      · simp; omega
      · match m, hm8 with
        | 0, _ => rfl
        | 1, _ => rfl
        | 2, _ => rfl
        | 3, _ => rfl
        | 4, _ => rfl
        | 5, _ => rfl
        | 6, _ => rfl
        | 7, _ => rfl
    have : ∀ j, obsI x c (SlLB tyList "slice" (⟨List.zipWith (fun x t => Value.int x t) xs ts⟩ : Array Value) none (some 12) none (itemsOf k fun i => .int (x i) (t i)) ∧ True) j := by
      intro j
      induction j with
      | zero => exact ⟨base, trivial⟩
      | succ j ih => exact ⟨idx j, ih⟩
    exact this k
  · have e : chars k c ++ defL.drop k = lineL xs := by
      rw [chars_map]
      show _ = (xs.take 12).map sgL ++ defL.drop k
      congr 1
      apply List.ext_getElem?
      intro i
      rw [List.getElem?_map, List.getElem?_map]
      by_cases h : i < k
      · rw [List.getElem?_range h, List.getElem?_eq_getElem (l := xs.take 12) h]
        show some (sgL (xs.getD i 0)) = some (sgL _)
        have hkk : k = min 12 xs.length := List.length_take ..
        rw [List.getElem_take, List.getD_eq_getElem?_getD, List.getElem?_eq_getElem (by omega)]; rfl
      · rw [List.getElem?_eq_none (l := List.range k) (by rw [List.length_range]; omega), List.getElem?_eq_none (l := xs.take 12) (by omega)]; rfl
    rw [e]
    exact ⟨unkL [_], rfl, Af.did _ [] [] rfl rfl rfl (by simp) (by simp) rfl rfl⟩
/-! L302 -/
/-! ### bytearray(n) -/
noncomputable def dBS : Stmt := nthS 22 F.main.body
noncomputable def envBS (L : Nat) : Env := envOfD dBS [95, 98, 121, 116, 101, 115, 119, 97, 112] 741 740 L
noncomputable def ctxBI (o : OutA) (a Lb n t : Nat) (q : Nat → Pos) : Ctx := ctxOf (.builtin "bytearray.__init__" ⟨[.ref a, .int (.ofNat n) t], []⟩)
  ((.builtin "type.__call__" ⟨[.type "bytearray", .int (.ofNat n) t], []⟩, q 0) :: (.func (fnB dBS) (envBS Lb), q 1) :: outOf o)
theorem and_flip : and = fun a b => and b a := by funext a b; exact Bool.and_comm a b
theorem bainit_ok {w : World} {b b2 : Bool} {o : OutA} {a Lb t : Nat} {q : Nat → Pos} {s : Shared} {p : Pos} {R : Result → Shared → Prop} (S : Top (wld w b b2) s) (H : Holds s [(a, baO [])]) (lo : 769 ≤ a)
    (fin : ∀ s', Did s s' [(a, baO (List.replicate 12 0))] [] → R (.ok (.ret .none)) s') : wpCode (MW (wld w b b2)) (ctxBI o a Lb 12 t q) R p s := by
  refine bwp entry_bainit rfl ?_
  unfold Builtin.«bytearray.__init__» Builtin.Bytes.exported
  rw [and_flip]
  refine run_tree (C := cfgW (wld w b b2) (conO orc0)) (n := 52) (hs := [1, 1, 1, 1, 1, 1, 1, 1, 1]) (ext := []) (den_ok _ _) rfl rfl rfl (conO_good orc0) (lvTree_ok (by show lvF = lvTree; exact lv_eq.symm)) S H (by simp) (by simpa using lo)
    (fun nv => .done (.ok (.ret .none))) (fun nv => os_ [(a, baO (List.replicate 12 0))]) (fun _ => []) (fun _ => True) (fun nv => ?_) (fun _ => trivial) fun nv s2 Af => ?_
  · rw [show @sx = @sxF from sx_eq]
    cases b <;> (intro X0; kernel_rfl)
  · exact fin s2 (Af.did [(a, baO (List.replicate 12 0))] [] [] rfl rfl rfl (by simp) (by simp) rfl rfl)
/-! L402 -/
/-! ### _byteswap -/
noncomputable def qB (bel : List (Code × Pos)) (i : Nat) : Pos := match i with
  | 0 => posN bel 0
  | _ => posN bel 1
noncomputable def isBI : Code → Option Nat
  | .builtin "bytearray.__init__" ⟨[.ref _, .int (.ofNat _) t], _⟩ => some t
  | _ => none
noncomputable def baOf : Option Obj → Option (List UInt8)
  | some ⟨_, _, .bytearray ⟨us⟩ _, _⟩ => some us
  | _ => none
noncomputable def conBS (o : OutA) : CF := fun j x Γ c T ads => match j with
  | 23 => match isBI c with
    | some t => some (conS T ads (ctxBI o (adOf ads 1) (adOf ads 0) 12 t (qB Γ.below)) [(1, adOf ads 1, baO [])] True (fun _ => .ok (.ret .none)) (fun _ => [(1, baO (List.replicate 12 0))]) fun _ => [])
    | none => none
  | 22 => bindO (bindO (snd1 (argsOf c)) asN) fun k => bindO (bindO (thd1 (argsOf c)) asN) fun v => bindO (baOf (T.get 1)) fun us => match Nat.blt k.1 us.length && Nat.ble us.length 16777216 with
    | true => some { gx := { Γ with code := .builtin "bytearray.__setitem__" ⟨[.ref (adOf ads 1), .int k.1 k.2, .int v.1 v.2], []⟩ }, oq := [(T.get 1, some (baO us))], ob := v.1 < 256, left := fun _ => ⟨.ok (.ret .none), setAll T [(1, baO (us.set k.1 v.1.toUInt8))], []⟩ }
    | false => none
  | _ => none
noncomputable def ctxBS (o : OutA) (u : Nat → UInt8) (τ wd τw : Nat) : Ctx := ctxOf (.call (.ref 741) ⟨[.bytes ⟨[u 0, u 1, u 2, u 3, u 4, u 5, u 6, u 7, u 8, u 9, u 10, u 11]⟩ τ, .int (.ofNat wd) τw], []⟩) (outOf o)
theorem bs_1 (w : World) (b b2 : Bool) (o : OutA) (u : Nat → UInt8) (τ τw N t : Nat) (p : Pos) (nv : Nv) :
    let W := wld w b b2
    let X := runC (cfgW W (conBS o)) 1948 (ctxBS o u τ 1 τw) p [0, 0, 1, 1, 1, 1, 0, 1001, 0, 0, 0, 0, 1, 0, 0, 0, 0, 0, 0, 0, 0, 2, 2, 0, 2, 25, 1, 1, 1, 0, 0, 0, 0, 1, 0, 0, 0, 0, 1, 0, 0, 0, 0, 3, 3, 0, 3, 0, 3, 3, 3, 0, 3, 0, 3, 3, 3, 4, 1000, 4, 0, 4, 0, 4, 4, 4, 4, 4, 4, 4, 1, 1, 0, 0, 1, 0, 0, 0, 0, 5, 5, 0, 5, 0, 5, 5, 5, 0, 5, 0, 5, 5, 5, 6, 1000, 6, 0, 6, 0, 6, 6, 6, 6, 6, 6, 6, 1, 1, 1, 1, 1, 0, 0, 0, 0, 1, 1, 1, 0, 0, 0, 0, 1, 0, 0, 2, 2, 0, 2, 24, 1, 1001, 6, 0, 6, 0, 6, 6, 6, 8, 0, 1001, 4, 0, 4, 0, 4, 4, 4, 4, 4, 4, 4, 1, 1, 0, 0, 1, 0, 0, 0, 0, 9, 9, 0, 9, 0, 9, 9, 9, 0, 9, 0, 9, 9, 9, 10, 1000, 10, 0, 10, 0, 10, 10, 10, 10, 10, 10, 10, 1, 1, 1, 1, 1, 0, 0, 0, 0, 1, 1, 1, 0, 0, 0, 0, 1, 0, 0, 2, 2, 0, 2, 24, 1, 1001, 10, 0, 10, 0, 10, 10, 10, 12, 0, 1001, 4, 0, 4, 0, 4, 4, 4, 4, 4, 4, 4, 1, 1, 0, 0, 1, 0, 0, 0, 0, 13, 13, 0, 13, 0, 13, 13, 13, 0, 13, 0, 13, 13, 13, 14, 1000, 14, 0, 14, 0, 14, 14, 14, 14, 14, 14, 14, 1, 1, 1, 1, 1, 0, 0, 0, 0, 1, 1, 1, 0, 0, 0, 0, 1, 0, 0, 2, 2, 0, 2, 24, 1, 1001, 14, 0, 14, 0, 14, 14, 14, 16, 0, 1001, 4, 0, 4, 0, 4, 4, 4, 4, 4, 4, 4, 1, 1, 0, 0, 1, 0, 0, 0, 0, 17, 17, 0, 17, 0, 17, 17, 17, 0, 17, 0, 17, 17, 17, 18, 1000, 18, 0, 18, 0, 18, 18, 18, 18, 18, 18, 18, 1, 1, 1, 1, 1, 0, 0, 0, 0, 1, 1, 1, 0, 0, 0, 0, 1, 0, 0, 2, 2, 0, 2, 24, 1, 1001, 18, 0, 18, 0, 18, 18, 18, 20, 0, 1001, 4, 0, 4, 0, 4, 4, 4, 4, 4, 4, 4, 1, 1, 0, 0, 1, 0, 0, 0, 0, 21, 21, 0, 21, 0, 21, 21, 21, 0, 21, 0, 21, 21, 21, 22, 1000, 22, 0, 22, 0, 22, 22, 22, 22, 22, 22, 22, 1, 1, 1, 1, 1, 0, 0, 0, 0, 1, 1, 1, 0, 0, 0, 0, 1, 0, 0, 2, 2, 0, 2, 24, 1, 1001, 22, 0, 22, 0, 22, 22, 22, 24, 0, 1001, 4, 0, 4, 0, 4, 4, 4, 4, 4, 4, 4, 1, 1, 0, 0, 1, 0, 0, 0, 0, 25, 25, 0, 25, 0, 25, 25, 25, 0, 25, 0, 25, 25, 25, 26, 1000, 26, 0, 26, 0, 26, 26, 26, 26, 26, 26, 26, 1, 1, 1, 1, 1, 0, 0, 0, 0, 1, 1, 1, 0, 0, 0, 0, 1, 0, 0, 2, 2, 0, 2, 24, 1, 1001, 26, 0, 26, 0, 26, 26, 26, 28, 0, 1001, 4, 0, 4, 0, 4, 4, 4, 4, 4, 4, 4, 1, 1, 0, 0, 1, 0, 0, 0, 0, 29, 29, 0, 29, 0, 29, 29, 29, 0, 29, 0, 29, 29, 29, 30, 1000, 30, 0, 30, 0, 30, 30, 30, 30, 30, 30, 30, 1, 1, 1, 1, 1, 0, 0, 0, 0, 1, 1, 1, 0, 0, 0, 0, 1, 0, 0, 2, 2, 0, 2, 24, 1, 1001, 30, 0, 30, 0, 30, 30, 30, 32, 0, 1001, 4, 0, 4, 0, 4, 4, 4, 4, 4, 4, 4, 1, 1, 0, 0, 1, 0, 0, 0, 0, 33, 33, 0, 33, 0, 33, 33, 33, 0, 33, 0, 33, 33, 33, 34, 1000, 34, 0, 34, 0, 34, 34, 34, 34, 34, 34, 34, 1, 1, 1, 1, 1, 0, 0, 0, 0, 1, 1, 1, 0, 0, 0, 0, 1, 0, 0, 2, 2, 0, 2, 24, 1, 1001, 34, 0, 34, 0, 34, 34, 34, 36, 0, 1001, 4, 0, 4, 0, 4, 4, 4, 4, 4, 4, 4, 1, 1, 0, 0, 1, 0, 0, 0, 0, 37, 37, 0, 37, 0, 37, 37, 37, 0, 37, 0, 37, 37, 37, 38, 1000, 38, 0, 38, 0, 38, 38, 38, 38, 38, 38, 38, 1, 1, 1, 1, 1, 0, 0, 0, 0, 1, 1, 1, 0, 0, 0, 0, 1, 0, 0, 2, 2, 0, 2, 24, 1, 1001, 38, 0, 38, 0, 38, 38, 38, 40, 0, 1001, 4, 0, 4, 0, 4, 4, 4, 4, 4, 4, 4, 1, 1, 0, 0, 1, 0, 0, 0, 0, 41, 41, 0, 41, 0, 41, 41, 41, 0, 41, 0, 41, 41, 41, 42, 1000, 42, 0, 42, 0, 42, 42, 42, 42, 42, 42, 42, 1, 1, 1, 1, 1, 0, 0, 0, 0, 1, 1, 1, 0, 0, 0, 0, 1, 0, 0, 2, 2, 0, 2, 24, 1, 1001, 42, 0, 42, 0, 42, 42, 42, 44, 0, 1001, 4, 0, 4, 0, 4, 4, 4, 4, 4, 4, 4, 1, 1, 0, 0, 1, 0, 0, 0, 0, 45, 45, 0, 45, 0, 45, 45, 45, 0, 45, 0, 45, 45, 45, 46, 1000, 46, 0, 46, 0, 46, 46, 46, 46, 46, 46, 46, 1, 1, 1, 1, 1, 0, 0, 0, 0, 1, 1, 1, 0, 0, 0, 0, 1, 0, 0, 2, 2, 0, 2, 24, 1, 1001, 46, 0, 46, 0, 46, 46, 46, 48, 0, 1001, 4, 0, 4, 0, 4, 4, 4, 4, 4, 4, 4, 1, 1, 0, 0, 1, 0, 0, 0, 0, 49, 49, 0, 49, 0, 49, 49, 49, 0, 49, 0, 49, 49, 49, 50, 1000, 50, 0, 50, 0, 50, 50, 50, 50, 50, 50, 50, 1, 1, 1, 1, 1, 0, 0, 0, 0, 1, 1, 1, 0, 0, 0, 0, 1, 0, 0, 2, 2, 0, 2, 24, 1, 1001, 50, 0, 50, 0, 50, 50, 50, 52, 0, 1001, 4, 0, 4, 0, 4, 4, 4, 54, 0, 0, 0, 1, 0, 0, 0, 0, 2, 2, 2, 2, 2, 2, 2, 2, 2, 2, 0, 0] [] N t nv
    look [] X = some (.done (.ok (.ret (.bytes ⟨[(u 0).toNat.toUInt8, (u 1).toNat.toUInt8, (u 2).toNat.toUInt8, (u 3).toNat.toUInt8, (u 4).toNat.toUInt8, (u 5).toNat.toUInt8, (u 6).toNat.toUInt8, (u 7).toNat.toUInt8, (u 8).toNat.toUInt8, (u 9).toNat.toUInt8, (u 10).toNat.toUInt8, (u 11).toNat.toUInt8]⟩ (rtok X)))), [], [], dup (eqsOf X), dupG (gsOf X), dupO (osOf X), ((u 11).toNat < 256 ∧ (u 10).toNat < 256 ∧ (u 9).toNat < 256 ∧ (u 8).toNat < 256 ∧ (u 7).toNat < 256 ∧ (u 6).toNat < 256 ∧ (u 5).toNat < 256 ∧ (u 4).toNat < 256 ∧ (u 3).toNat < 256 ∧ (u 2).toNat < 256 ∧ (u 1).toNat < 256 ∧ (u 0).toNat < 256 ∧ True ∧ True)) := by
  cases b <;> (intro W X; kernel_rfl)
theorem bs_2 (w : World) (b b2 : Bool) (o : OutA) (u : Nat → UInt8) (τ τw N t : Nat) (p : Pos) (nv : Nv) :
    let W := wld w b b2
    let X := runC (cfgW W (conBS o)) 1486 (ctxBS o u τ 2 τw) p [0, 0, 1, 1, 1, 1, 0, 1001, 0, 0, 0, 0, 1, 0, 0, 0, 0, 0, 0, 0, 0, 2, 2, 0, 2, 25, 1, 1, 1, 0, 0, 0, 0, 1, 0, 0, 0, 0, 1, 0, 0, 0, 0, 3, 3, 0, 3, 0, 3, 3, 3, 0, 3, 0, 3, 3, 3, 4, 1000, 4, 0, 4, 0, 4, 4, 4, 4, 4, 4, 4, 1, 1, 0, 0, 1, 0, 0, 0, 0, 5, 5, 0, 5, 0, 5, 5, 5, 0, 5, 0, 5, 5, 5, 6, 1000, 6, 0, 6, 0, 6, 6, 6, 6, 6, 6, 6, 1, 1, 1, 1, 1, 0, 0, 0, 0, 1, 1, 1, 0, 0, 0, 0, 1, 0, 0, 2, 2, 0, 2, 24, 1, 1001, 6, 0, 6, 0, 6, 6, 6, 6, 6, 6, 6, 1, 1, 1, 1, 1, 0, 0, 0, 0, 1, 1, 1, 0, 0, 0, 0, 1, 0, 0, 2, 2, 0, 2, 24, 1, 1001, 6, 0, 6, 0, 6, 6, 6, 8, 0, 1001, 4, 0, 4, 0, 4, 4, 4, 4, 4, 4, 4, 1, 1, 0, 0, 1, 0, 0, 0, 0, 9, 9, 0, 9, 0, 9, 9, 9, 0, 9, 0, 9, 9, 9, 10, 1000, 10, 0, 10, 0, 10, 10, 10, 10, 10, 10, 10, 1, 1, 1, 1, 1, 0, 0, 0, 0, 1, 1, 1, 0, 0, 0, 0, 1, 0, 0, 2, 2, 0, 2, 24, 1, 1001, 10, 0, 10, 0, 10, 10, 10, 10, 10, 10, 10, 1, 1, 1, 1, 1, 0, 0, 0, 0, 1, 1, 1, 0, 0, 0, 0, 1, 0, 0, 2, 2, 0, 2, 24, 1, 1001, 10, 0, 10, 0, 10, 10, 10, 12, 0, 1001, 4, 0, 4, 0, 4, 4, 4, 4, 4, 4, 4, 1, 1, 0, 0, 1, 0, 0, 0, 0, 13, 13, 0, 13, 0, 13, 13, 13, 0, 13, 0, 13, 13, 13, 14, 1000, 14, 0, 14, 0, 14, 14, 14, 14, 14, 14, 14, 1, 1, 1, 1, 1, 0, 0, 0, 0, 1, 1, 1, 0, 0, 0, 0, 1, 0, 0, 2, 2, 0, 2, 24, 1, 1001, 14, 0, 14, 0, 14, 14, 14, 14, 14, 14, 14, 1, 1, 1, 1, 1, 0, 0, 0, 0, 1, 1, 1, 0, 0, 0, 0, 1, 0, 0, 2, 2, 0, 2, 24, 1, 1001, 14, 0, 14, 0, 14, 14, 14, 16, 0, 1001, 4, 0, 4, 0, 4, 4, 4, 4, 4, 4, 4, 1, 1, 0, 0, 1, 0, 0, 0, 0, 17, 17, 0, 17, 0, 17, 17, 17, 0, 17, 0, 17, 17, 17, 18, 1000, 18, 0, 18, 0, 18, 18, 18, 18, 18, 18, 18, 1, 1, 1, 1, 1, 0, 0, 0, 0, 1, 1, 1, 0, 0, 0, 0, 1, 0, 0, 2, 2, 0, 2, 24, 1, 1001, 18, 0, 18, 0, 18, 18, 18, 18, 18, 18, 18, 1, 1, 1, 1, 1, 0, 0, 0, 0, 1, 1, 1, 0, 0, 0, 0, 1, 0, 0, 2, 2, 0, 2, 24, 1, 1001, 18, 0, 18, 0, 18, 18, 18, 20, 0, 1001, 4, 0, 4, 0, 4, 4, 4, 4, 4, 4, 4, 1, 1, 0, 0, 1, 0, 0, 0, 0, 21, 21, 0, 21, 0, 21, 21, 21, 0, 21, 0, 21, 21, 21, 22, 1000, 22, 0, 22, 0, 22, 22, 22, 22, 22, 22, 22, 1, 1, 1, 1, 1, 0, 0, 0, 0, 1, 1, 1, 0, 0, 0, 0, 1, 0, 0, 2, 2, 0, 2, 24, 1, 1001, 22, 0, 22, 0, 22, 22, 22, 22, 22, 22, 22, 1, 1, 1, 1, 1, 0, 0, 0, 0, 1, 1, 1, 0, 0, 0, 0, 1, 0, 0, 2, 2, 0, 2, 24, 1, 1001, 22, 0, 22, 0, 22, 22, 22, 24, 0, 1001, 4, 0, 4, 0, 4, 4, 4, 4, 4, 4, 4, 1, 1, 0, 0, 1, 0, 0, 0, 0, 25, 25, 0, 25, 0, 25, 25, 25, 0, 25, 0, 25, 25, 25, 26, 1000, 26, 0, 26, 0, 26, 26, 26, 26, 26, 26, 26, 1, 1, 1, 1, 1, 0, 0, 0, 0, 1, 1, 1, 0, 0, 0, 0, 1, 0, 0, 2, 2, 0, 2, 24, 1, 1001, 26, 0, 26, 0, 26, 26, 26, 26, 26, 26, 26, 1, 1, 1, 1, 1, 0, 0, 0, 0, 1, 1, 1, 0, 0, 0, 0, 1, 0, 0, 2, 2, 0, 2, 24, 1, 1001, 26, 0, 26, 0, 26, 26, 26, 28, 0, 1001, 4, 0, 4, 0, 4, 4, 4, 30, 0, 0, 0, 1, 0, 0, 0, 0, 2, 2, 2, 2, 2, 2, 2, 2, 2, 2, 0, 0] [] N t nv
    look [] X = some (.done (.ok (.ret (.bytes ⟨[(u 1).toNat.toUInt8, (u 0).toNat.toUInt8, (u 3).toNat.toUInt8, (u 2).toNat.toUInt8, (u 5).toNat.toUInt8, (u 4).toNat.toUInt8, (u 7).toNat.toUInt8, (u 6).toNat.toUInt8, (u 9).toNat.toUInt8, (u 8).toNat.toUInt8, (u 11).toNat.toUInt8, (u 10).toNat.toUInt8]⟩ (rtok X)))), [], [], dup (eqsOf X), dupG (gsOf X), dupO (osOf X), ((u 11).toNat < 256 ∧ (u 10).toNat < 256 ∧ (u 9).toNat < 256 ∧ (u 8).toNat < 256 ∧ (u 7).toNat < 256 ∧ (u 6).toNat < 256 ∧ (u 5).toNat < 256 ∧ (u 4).toNat < 256 ∧ (u 3).toNat < 256 ∧ (u 2).toNat < 256 ∧ (u 1).toNat < 256 ∧ (u 0).toNat < 256 ∧ True ∧ True)) := by
  cases b <;> (intro W X; kernel_rfl)
theorem bs_3 (w : World) (b b2 : Bool) (o : OutA) (u : Nat → UInt8) (τ τw N t : Nat) (p : Pos) (nv : Nv) :
    let W := wld w b b2
    let X := runC (cfgW W (conBS o)) 1332 (ctxBS o u τ 3 τw) p [0, 0, 1, 1, 1, 1, 0, 1001, 0, 0, 0, 0, 1, 0, 0, 0, 0, 0, 0, 0, 0, 2, 2, 0, 2, 25, 1, 1, 1, 0, 0, 0, 0, 1, 0, 0, 0, 0, 1, 0, 0, 0, 0, 3, 3, 0, 3, 0, 3, 3, 3, 0, 3, 0, 3, 3, 3, 4, 1000, 4, 0, 4, 0, 4, 4, 4, 4, 4, 4, 4, 1, 1, 0, 0, 1, 0, 0, 0, 0, 5, 5, 0, 5, 0, 5, 5, 5, 0, 5, 0, 5, 5, 5, 6, 1000, 6, 0, 6, 0, 6, 6, 6, 6, 6, 6, 6, 1, 1, 1, 1, 1, 0, 0, 0, 0, 1, 1, 1, 0, 0, 0, 0, 1, 0, 0, 2, 2, 0, 2, 24, 1, 1001, 6, 0, 6, 0, 6, 6, 6, 6, 6, 6, 6, 1, 1, 1, 1, 1, 0, 0, 0, 0, 1, 1, 1, 0, 0, 0, 0, 1, 0, 0, 2, 2, 0, 2, 24, 1, 1001, 6, 0, 6, 0, 6, 6, 6, 6, 6, 6, 6, 1, 1, 1, 1, 1, 0, 0, 0, 0, 1, 1, 1, 0, 0, 0, 0, 1, 0, 0, 2, 2, 0, 2, 24, 1, 1001, 6, 0, 6, 0, 6, 6, 6, 8, 0, 1001, 4, 0, 4, 0, 4, 4, 4, 4, 4, 4, 4, 1, 1, 0, 0, 1, 0, 0, 0, 0, 9, 9, 0, 9, 0, 9, 9, 9, 0, 9, 0, 9, 9, 9, 10, 1000, 10, 0, 10, 0, 10, 10, 10, 10, 10, 10, 10, 1, 1, 1, 1, 1, 0, 0, 0, 0, 1, 1, 1, 0, 0, 0, 0, 1, 0, 0, 2, 2, 0, 2, 24, 1, 1001, 10, 0, 10, 0, 10, 10, 10, 10, 10, 10, 10, 1, 1, 1, 1, 1, 0, 0, 0, 0, 1, 1, 1, 0, 0, 0, 0, 1, 0, 0, 2, 2, 0, 2, 24, 1, 1001, 10, 0, 10, 0, 10, 10, 10, 10, 10, 10, 10, 1, 1, 1, 1, 1, 0, 0, 0, 0, 1, 1, 1, 0, 0, 0, 0, 1, 0, 0, 2, 2, 0, 2, 24, 1, 1001, 10, 0, 10, 0, 10, 10, 10, 12, 0, 1001, 4, 0, 4, 0, 4, 4, 4, 4, 4, 4, 4, 1, 1, 0, 0, 1, 0, 0, 0, 0, 13, 13, 0, 13, 0, 13, 13, 13, 0, 13, 0, 13, 13, 13, 14, 1000, 14, 0, 14, 0, 14, 14, 14, 14, 14, 14, 14, 1, 1, 1, 1, 1, 0, 0, 0, 0, 1, 1, 1, 0, 0, 0, 0, 1, 0, 0, 2, 2, 0, 2, 24, 1, 1001, 14, 0, 14, 0, 14, 14, 14, 14, 14, 14, 14, 1, 1, 1, 1, 1, 0, 0, 0, 0, 1, 1, 1, 0, 0, 0, 0, 1, 0, 0, 2, 2, 0, 2, 24, 1, 1001, 14, 0, 14, 0, 14, 14, 14, 14, 14, 14, 14, 1, 1, 1, 1, 1, 0, 0, 0, 0, 1, 1, 1, 0, 0, 0, 0, 1, 0, 0, 2, 2, 0, 2, 24, 1, 1001, 14, 0, 14, 0, 14, 14, 14, 16, 0, 1001, 4, 0, 4, 0, 4, 4, 4, 4, 4, 4, 4, 1, 1, 0, 0, 1, 0, 0, 0, 0, 17, 17, 0, 17, 0, 17, 17, 17, 0, 17, 0, 17, 17, 17, 18, 1000, 18, 0, 18, 0, 18, 18, 18, 18, 18, 18, 18, 1, 1, 1, 1, 1, 0, 0, 0, 0, 1, 1, 1, 0, 0, 0, 0, 1, 0, 0, 2, 2, 0, 2, 24, 1, 1001, 18, 0, 18, 0, 18, 18, 18, 18, 18, 18, 18, 1, 1, 1, 1, 1, 0, 0, 0, 0, 1, 1, 1, 0, 0, 0, 0, 1, 0, 0, 2, 2, 0, 2, 24, 1, 1001, 18, 0, 18, 0, 18, 18, 18, 18, 18, 18, 18, 1, 1, 1, 1, 1, 0, 0, 0, 0, 1, 1, 1, 0, 0, 0, 0, 1, 0, 0, 2, 2, 0, 2, 24, 1, 1001, 18, 0, 18, 0, 18, 18, 18, 20, 0, 1001, 4, 0, 4, 0, 4, 4, 4, 22, 0, 0, 0, 1, 0, 0, 0, 0, 2, 2, 2, 2, 2, 2, 2, 2, 2, 2, 0, 0] [] N t nv
    look [] X = some (.done (.ok (.ret (.bytes ⟨[(u 2).toNat.toUInt8, (u 1).toNat.toUInt8, (u 0).toNat.toUInt8, (u 5).toNat.toUInt8, (u 4).toNat.toUInt8, (u 3).toNat.toUInt8, (u 8).toNat.toUInt8, (u 7).toNat.toUInt8, (u 6).toNat.toUInt8, (u 11).toNat.toUInt8, (u 10).toNat.toUInt8, (u 9).toNat.toUInt8]⟩ (rtok X)))), [], [], dup (eqsOf X), dupG (gsOf X), dupO (osOf X), ((u 11).toNat < 256 ∧ (u 10).toNat < 256 ∧ (u 9).toNat < 256 ∧ (u 8).toNat < 256 ∧ (u 7).toNat < 256 ∧ (u 6).toNat < 256 ∧ (u 5).toNat < 256 ∧ (u 4).toNat < 256 ∧ (u 3).toNat < 256 ∧ (u 2).toNat < 256 ∧ (u 1).toNat < 256 ∧ (u 0).toNat < 256 ∧ True ∧ True)) := by
  cases b <;> (intro W X; kernel_rfl)
theorem bs_4 (w : World) (b b2 : Bool) (o : OutA) (u : Nat → UInt8) (τ τw N t : Nat) (p : Pos) (nv : Nv) :
    let W := wld w b b2
    let X := runC (cfgW W (conBS o)) 1255 (ctxBS o u τ 4 τw) p [0, 0, 1, 1, 1, 1, 0, 1001, 0, 0, 0, 0, 1, 0, 0, 0, 0, 0, 0, 0, 0, 2, 2, 0, 2, 25, 1, 1, 1, 0, 0, 0, 0, 1, 0, 0, 0, 0, 1, 0, 0, 0, 0, 3, 3, 0, 3, 0, 3, 3, 3, 0, 3, 0, 3, 3, 3, 4, 1000, 4, 0, 4, 0, 4, 4, 4, 4, 4, 4, 4, 1, 1, 0, 0, 1, 0, 0, 0, 0, 5, 5, 0, 5, 0, 5, 5, 5, 0, 5, 0, 5, 5, 5, 6, 1000, 6, 0, 6, 0, 6, 6, 6, 6, 6, 6, 6, 1, 1, 1, 1, 1, 0, 0, 0, 0, 1, 1, 1, 0, 0, 0, 0, 1, 0, 0, 2, 2, 0, 2, 24, 1, 1001, 6, 0, 6, 0, 6, 6, 6, 6, 6, 6, 6, 1, 1, 1, 1, 1, 0, 0, 0, 0, 1, 1, 1, 0, 0, 0, 0, 1, 0, 0, 2, 2, 0, 2, 24, 1, 1001, 6, 0, 6, 0, 6, 6, 6, 6, 6, 6, 6, 1, 1, 1, 1, 1, 0, 0, 0, 0, 1, 1, 1, 0, 0, 0, 0, 1, 0, 0, 2, 2, 0, 2, 24, 1, 1001, 6, 0, 6, 0, 6, 6, 6, 6, 6, 6, 6, 1, 1, 1, 1, 1, 0, 0, 0, 0, 1, 1, 1, 0, 0, 0, 0, 1, 0, 0, 2, 2, 0, 2, 24, 1, 1001, 6, 0, 6, 0, 6, 6, 6, 8, 0, 1001, 4, 0, 4, 0, 4, 4, 4, 4, 4, 4, 4, 1, 1, 0, 0, 1, 0, 0, 0, 0, 9, 9, 0, 9, 0, 9, 9, 9, 0, 9, 0, 9, 9, 9, 10, 1000, 10, 0, 10, 0, 10, 10, 10, 10, 10, 10, 10, 1, 1, 1, 1, 1, 0, 0, 0, 0, 1, 1, 1, 0, 0, 0, 0, 1, 0, 0, 2, 2, 0, 2, 24, 1, 1001, 10, 0, 10, 0, 10, 10, 10, 10, 10, 10, 10, 1, 1, 1, 1, 1, 0, 0, 0, 0, 1, 1, 1, 0, 0, 0, 0, 1, 0, 0, 2, 2, 0, 2, 24, 1, 1001, 10, 0, 10, 0, 10, 10, 10, 10, 10, 10, 10, 1, 1, 1, 1, 1, 0, 0, 0, 0, 1, 1, 1, 0, 0, 0, 0, 1, 0, 0, 2, 2, 0, 2, 24, 1, 1001, 10, 0, 10, 0, 10, 10, 10, 10, 10, 10, 10, 1, 1, 1, 1, 1, 0, 0, 0, 0, 1, 1, 1, 0, 0, 0, 0, 1, 0, 0, 2, 2, 0, 2, 24, 1, 1001, 10, 0, 10, 0, 10, 10, 10, 12, 0, 1001, 4, 0, 4, 0, 4, 4, 4, 4, 4, 4, 4, 1, 1, 0, 0, 1, 0, 0, 0, 0, 13, 13, 0, 13, 0, 13, 13, 13, 0, 13, 0, 13, 13, 13, 14, 1000, 14, 0, 14, 0, 14, 14, 14, 14, 14, 14, 14, 1, 1, 1, 1, 1, 0, 0, 0, 0, 1, 1, 1, 0, 0, 0, 0, 1, 0, 0, 2, 2, 0, 2, 24, 1, 1001, 14, 0, 14, 0, 14, 14, 14, 14, 14, 14, 14, 1, 1, 1, 1, 1, 0, 0, 0, 0, 1, 1, 1, 0, 0, 0, 0, 1, 0, 0, 2, 2, 0, 2, 24, 1, 1001, 14, 0, 14, 0, 14, 14, 14, 14, 14, 14, 14, 1, 1, 1, 1, 1, 0, 0, 0, 0, 1, 1, 1, 0, 0, 0, 0, 1, 0, 0, 2, 2, 0, 2, 24, 1, 1001, 14, 0, 14, 0, 14, 14, 14, 14, 14, 14, 14, 1, 1, 1, 1, 1, 0, 0, 0, 0, 1, 1, 1, 0, 0, 0, 0, 1, 0, 0, 2, 2, 0, 2, 24, 1, 1001, 14, 0, 14, 0, 14, 14, 14, 16, 0, 1001, 4, 0, 4, 0, 4, 4, 4, 18, 0, 0, 0, 1, 0, 0, 0, 0, 2, 2, 2, 2, 2, 2, 2, 2, 2, 2, 0, 0] [] N t nv
    look [] X = some (.done (.ok (.ret (.bytes ⟨[(u 3).toNat.toUInt8, (u 2).toNat.toUInt8, (u 1).toNat.toUInt8, (u 0).toNat.toUInt8, (u 7).toNat.toUInt8, (u 6).toNat.toUInt8, (u 5).toNat.toUInt8, (u 4).toNat.toUInt8, (u 11).toNat.toUInt8, (u 10).toNat.toUInt8, (u 9).toNat.toUInt8, (u 8).toNat.toUInt8]⟩ (rtok X)))), [], [], dup (eqsOf X), dupG (gsOf X), dupO (osOf X), ((u 11).toNat < 256 ∧ (u 10).toNat < 256 ∧ (u 9).toNat < 256 ∧ (u 8).toNat < 256 ∧ (u 7).toNat < 256 ∧ (u 6).toNat < 256 ∧ (u 5).toNat < 256 ∧ (u 4).toNat < 256 ∧ (u 3).toNat < 256 ∧ (u 2).toNat < 256 ∧ (u 1).toNat < 256 ∧ (u 0).toNat < 256 ∧ True ∧ True)) := by
  cases b <;> (intro W X; kernel_rfl)
theorem bs_12 (w : World) (b b2 : Bool) (o : OutA) (u : Nat → UInt8) (τ τw N t : Nat) (p : Pos) (nv : Nv) :
    let W := wld w b b2
    let X := runC (cfgW W (conBS o)) 1101 (ctxBS o u τ 12 τw) p [0, 0, 1, 1, 1, 1, 0, 1001, 0, 0, 0, 0, 1, 0, 0, 0, 0, 0, 0, 0, 0, 2, 2, 0, 2, 25, 1, 1, 1, 0, 0, 0, 0, 1, 0, 0, 0, 0, 1, 0, 0, 0, 0, 3, 3, 0, 3, 0, 3, 3, 3, 0, 3, 0, 3, 3, 3, 4, 1000, 4, 0, 4, 0, 4, 4, 4, 4, 4, 4, 4, 1, 1, 0, 0, 1, 0, 0, 0, 0, 5, 5, 0, 5, 0, 5, 5, 5, 0, 5, 0, 5, 5, 5, 6, 1000, 6, 0, 6, 0, 6, 6, 6, 6, 6, 6, 6, 1, 1, 1, 1, 1, 0, 0, 0, 0, 1, 1, 1, 0, 0, 0, 0, 1, 0, 0, 2, 2, 0, 2, 24, 1, 1001, 6, 0, 6, 0, 6, 6, 6, 6, 6, 6, 6, 1, 1, 1, 1, 1, 0, 0, 0, 0, 1, 1, 1, 0, 0, 0, 0, 1, 0, 0, 2, 2, 0, 2, 24, 1, 1001, 6, 0, 6, 0, 6, 6, 6, 6, 6, 6, 6, 1, 1, 1, 1, 1, 0, 0, 0, 0, 1, 1, 1, 0, 0, 0, 0, 1, 0, 0, 2, 2, 0, 2, 24, 1, 1001, 6, 0, 6, 0, 6, 6, 6, 6, 6, 6, 6, 1, 1, 1, 1, 1, 0, 0, 0, 0, 1, 1, 1, 0, 0, 0, 0, 1, 0, 0, 2, 2, 0, 2, 24, 1, 1001, 6, 0, 6, 0, 6, 6, 6, 6, 6, 6, 6, 1, 1, 1, 1, 1, 0, 0, 0, 0, 1, 1, 1, 0, 0, 0, 0, 1, 0, 0, 2, 2, 0, 2, 24, 1, 1001, 6, 0, 6, 0, 6, 6, 6, 6, 6, 6, 6, 1, 1, 1, 1, 1, 0, 0, 0, 0, 1, 1, 1, 0, 0, 0, 0, 1, 0, 0, 2, 2, 0, 2, 24, 1, 1001, 6, 0, 6, 0, 6, 6, 6, 6, 6, 6, 6, 1, 1, 1, 1, 1, 0, 0, 0, 0, 1, 1, 1, 0, 0, 0, 0, 1, 0, 0, 2, 2, 0, 2, 24, 1, 1001, 6, 0, 6, 0, 6, 6, 6, 6, 6, 6, 6, 1, 1, 1, 1, 1, 0, 0, 0, 0, 1, 1, 1, 0, 0, 0, 0, 1, 0, 0, 2, 2, 0, 2, 24, 1, 1001, 6, 0, 6, 0, 6, 6, 6, 6, 6, 6, 6, 1, 1, 1, 1, 1, 0, 0, 0, 0, 1, 1, 1, 0, 0, 0, 0, 1, 0, 0, 2, 2, 0, 2, 24, 1, 1001, 6, 0, 6, 0, 6, 6, 6, 6, 6, 6, 6, 1, 1, 1, 1, 1, 0, 0, 0, 0, 1, 1, 1, 0, 0, 0, 0, 1, 0, 0, 2, 2, 0, 2, 24, 1, 1001, 6, 0, 6, 0, 6, 6, 6, 6, 6, 6, 6, 1, 1, 1, 1, 1, 0, 0, 0, 0, 1, 1, 1, 0, 0, 0, 0, 1, 0, 0, 2, 2, 0, 2, 24, 1, 1001, 6, 0, 6, 0, 6, 6, 6, 6, 6, 6, 6, 1, 1, 1, 1, 1, 0, 0, 0, 0, 1, 1, 1, 0, 0, 0, 0, 1, 0, 0, 2, 2, 0, 2, 24, 1, 1001, 6, 0, 6, 0, 6, 6, 6, 8, 0, 1001, 4, 0, 4, 0, 4, 4, 4, 10, 0, 0, 0, 1, 0, 0, 0, 0, 2, 2, 2, 2, 2, 2, 2, 2, 2, 2, 0, 0] [] N t nv
    look [] X = some (.done (.ok (.ret (.bytes ⟨[(u 11).toNat.toUInt8, (u 10).toNat.toUInt8, (u 9).toNat.toUInt8, (u 8).toNat.toUInt8, (u 7).toNat.toUInt8, (u 6).toNat.toUInt8, (u 5).toNat.toUInt8, (u 4).toNat.toUInt8, (u 3).toNat.toUInt8, (u 2).toNat.toUInt8, (u 1).toNat.toUInt8, (u 0).toNat.toUInt8]⟩ (rtok X)))), [], [], dup (eqsOf X), dupG (gsOf X), dupO (osOf X), ((u 11).toNat < 256 ∧ (u 10).toNat < 256 ∧ (u 9).toNat < 256 ∧ (u 8).toNat < 256 ∧ (u 7).toNat < 256 ∧ (u 6).toNat < 256 ∧ (u 5).toNat < 256 ∧ (u 4).toNat < 256 ∧ (u 3).toNat < 256 ∧ (u 2).toNat < 256 ∧ (u 1).toNat < 256 ∧ (u 0).toNat < 256 ∧ True ∧ True)) := by
  cases b <;> (intro W X; kernel_rfl)
/-! L502 -/
theorem left_ba {B : Base} {s : Shared} {T : BT} {m : Nat} {ads : Ads} {tk : Nat} (D : Rep B s T m ads tk) {us us' : List UInt8} (hT : T.get 1 = some (baO us)) {g : Con} (e : ∀ ν, g.left ν = ⟨.ok (.ret .none), setAll T [(1, baO us')], []⟩) {f : Array UInt8 → Array UInt8} (hf : f ⟨us⟩ = ⟨us'⟩) :
    ∃ N t ν, LeftRep B g ν (.ok (.ret .none)) { s with heap := s.heap.update (adOf ads 1) (Obj.mapBytearray f) } m ads N t := by
  have D1 := D.own 1 _ hT
  have hs : Heap.SameBut (adOf ads 1) s.heap (s.heap.update (adOf ads 1) (Obj.mapBytearray f)) := Heap.SameBut.update ..
  refine ⟨_, _, unk0, left_none (s' := { s with heap := s.heap.update (adOf ads 1) (Obj.mapBytearray f) }) (ch := [(1, baO us')]) D (e unk0) (fun z hz => ?_) ⟨fun b' o' hb' hne => ?_, ?_, rfl, rfl, rfl⟩⟩
  · simp only [List.mem_singleton] at hz
    subst hz
    refine ⟨D1.1, ?_⟩
    show (s.heap.update (adOf ads 1) _).get? (adOf ads 1) = _
    rw [Heap.get?_update_self _ D1.2 rfl]
    show some (⟨_, _, Data.bytearray (f ⟨us⟩) 0, _⟩ : Obj) = some ⟨_, _, Data.bytearray ⟨us'⟩ 0, _⟩
    rw [hf]
  · simp only [List.map_cons, List.map_nil, List.mem_singleton] at hne
    exact (hs.2 b' hne).trans hb'
  · show _ ≤ (s.heap.update (adOf ads 1) _).objs.size
    rw [hs.1]; exact Nat.le_refl _
theorem conBS_ok {w : World} {b b2 : Bool} {o : OutA} {l0 : Nat} {s₀ : Shared} : ConOk (baseOf (kt (wld w b b2).params) 769 l0 s₀) (MW (wld w b b2)) (cfgW (wld w b b2) (conBS o)) := by
  intro j y Γ T m ads tk s p g hg hx hn ho ob D
  obtain ⟨c0, e1, e2, bel, e3⟩ := Γ
  replace hg : conBS o j y ⟨c0, e1, e2, bel, e3⟩ c0 T ads = some g := hg
  by_cases h23 : j = 23
  · subst h23
    cases hb : isBI c0 with
    | none => simp only [conBS, hb] at hg; cases hg
    | some t =>
      simp only [conBS, hb] at hg
      cases hg
      obtain ⟨H, ha⟩ := conS_holds D hn ho
      replace hx : _ = ctxBI o (adOf ads 1) (adOf ads 0) 12 t (qB bel) := hx
      rw [hx]
      have h1 := ha (1, adOf ads 1, baO []) (List.mem_cons_self ..)
      refine bainit_ok (rep_sane D) H (D.lo 1 h1.1).1 fun s' hD => ?_
      refine conS_left D unk0 _ rfl _ _ hD rfl (fun z hz => ?_) rfl fun k hk => absurd hk (Nat.not_lt_zero _)
      simp only [List.mem_singleton] at hz
      subst hz
      exact h1.1
  · by_cases h22 : j = 22
    · subst h22
      replace hg : bindO (bindO (snd1 (argsOf c0)) asN) _ = some g := hg
      obtain ⟨k, _, hg⟩ := bindO_some hg
      obtain ⟨v, _, hg⟩ := bindO_some hg
      obtain ⟨us, _, hg⟩ := bindO_some hg
      cases hlt : (Nat.blt k.1 us.length && Nat.ble us.length 16777216) with
      | false => simp only [hlt] at hg; cases hg
      | true =>
        simp only [hlt] at hg
        cases hg
        have hT := ho _ (List.mem_cons_self ..)
        replace hT : T.get 1 = some (baO us) := hT
        have D1 := D.own 1 _ hT
        have hlt := Bool.and_eq_true_iff.mp hlt
        have hk := Nat.blt_eq.mp hlt.1
        have hz := Nat.le_of_ble_eq_true hlt.2
        refine wpCode_at (congrArg Ctx.code hx) <| baset_code D1.2 hk hz ob ?_
        exact left_ba D hT (fun _ => rfl) (by simp)
    · exfalso
      unfold conBS at hg
      split at hg
      · exact h23 rfl
      · exact h22 rfl
      · cases hg
noncomputable def widths : List Nat := [1, 2, 3, 4, 12]
noncomputable def bsL (wd : Nat) (u : Nat → UInt8) : List UInt8 := (List.range 12).map fun k => u (k / wd * wd + (wd - 1 - k % wd))
theorem bs_ok {w : World} {b b2 : Bool} {o : OutA} {u : Nat → UInt8} {τ wd τw : Nat} {s : Shared} {p : Pos} (hw : wd ∈ widths) (S : Top (wld w b b2) s) :
    wpCode (MW (wld w b b2)) (ctxBS o u τ wd τw) (fun r s' => ∃ ν : Unk, r = .ok (.ret (.bytes ⟨bsL wd u⟩ (ν.n 0))) ∧ Did s s' [] []) p s := by
  have lt : ∀ k, (u k).toNat < 256 := fun k => (u k).toNat_lt
  have back : ∀ k, (u k).toNat.toUInt8 = u k := fun k => by simp
  simp only [widths, List.mem_cons, List.not_mem_nil, or_false] at hw
  rcases hw with rfl | rfl | rfl | rfl | rfl
  · refine runC_ok [] conBS_ok S (fun x hx => by cases hx) (by simp) (by simp) _ _ (fun _ => []) _ (fun nv => bs_1 w b b2 o u τ τw _ _ p nv) (fun nv => ?_) fun nv s' Af => ?_
    · exact ⟨lt _, lt _, lt _, lt _, lt _, lt _, lt _, lt _, lt _, lt _, lt _, lt _, trivial, trivial⟩
    · show ∃ ν : Unk, _
      simp only [back]
      exact ⟨unkL [_], rfl, Af.did [] [] [] rfl rfl rfl (by simp) (by simp) rfl rfl⟩
  · refine runC_ok [] conBS_ok S (fun x hx => by cases hx) (by simp) (by simp) _ _ (fun _ => []) _ (fun nv => bs_2 w b b2 o u τ τw _ _ p nv) (fun nv => ?_) fun nv s' Af => ?_
    · exact ⟨lt _, lt _, lt _, lt _, lt _, lt _, lt _, lt _, lt _, lt _, lt _, lt _, trivial, trivial⟩
    · show ∃ ν : Unk, _
      simp only [back]
      exact ⟨unkL [_], rfl, Af.did [] [] [] rfl rfl rfl (by simp) (by simp) rfl rfl⟩
  · refine runC_ok [] conBS_ok S (fun x hx => by cases hx) (by simp) (by simp) _ _ (fun _ => []) _ (fun nv => bs_3 w b b2 o u τ τw _ _ p nv) (fun nv => ?_) fun nv s' Af => ?_
    · exact ⟨lt _, lt _, lt _, lt _, lt _, lt _, lt _, lt _, lt _, lt _, lt _, lt _, trivial, trivial⟩
    · show ∃ ν : Unk, _
      simp only [back]
      exact ⟨unkL [_], rfl, Af.did [] [] [] rfl rfl rfl (by simp) (by simp) rfl rfl⟩
  · refine runC_ok [] conBS_ok S (fun x hx => by cases hx) (by simp) (by simp) _ _ (fun _ => []) _ (fun nv => bs_4 w b b2 o u τ τw _ _ p nv) (fun nv => ?_) fun nv s' Af => ?_
    · exact ⟨lt _, lt _, lt _, lt _, lt _, lt _, lt _, lt _, lt _, lt _, lt _, lt _, trivial, trivial⟩
    · show ∃ ν : Unk, _
      simp only [back]
      exact ⟨unkL [_], rfl, Af.did [] [] [] rfl rfl rfl (by simp) (by simp) rfl rfl⟩
  · refine runC_ok [] conBS_ok S (fun x hx => by cases hx) (by simp) (by simp) _ _ (fun _ => []) _ (fun nv => bs_12 w b b2 o u τ τw _ _ p nv) (fun nv => ?_) fun nv s' Af => ?_
    · exact ⟨lt _, lt _, lt _, lt _, lt _, lt _, lt _, lt _, lt _, lt _, lt _, lt _, trivial, trivial⟩
    · show ∃ ν : Unk, _
      simp only [back]
      exact ⟨unkL [_], rfl, Af.did [] [] [] rfl rfl rfl (by simp) (by simp) rfl rfl⟩
/-! L602 -/
/-! ### _law_counts -/
theorem conQ_good {W : World} {s : Shared} {l : Nat} (O : OrP) (pre : List Value) (lst : Value) : ConOk (baseOf (kt W.params) 769 l s) (MW W) (cfgW W (conQ O pre lst)) :=
  fun j x Γ T m ads tk s p g hg hx _ ho ob D => conQ_ok O pre lst j x Γ T m ads tk s p g hg hx ho ob D
noncomputable def retE : List Stmt → Expr
  | .Return (some e) _ :: _ => e
  | _ => .Constant .none 0 default
noncomputable def lcScope : Expr → Scope
  | .ListComp _ _ s _ => s
  | _ => default
noncomputable def dLC : Stmt := nthS 25 F.main.body
noncomputable def qLC : List Nat := [95, 108, 97, 119, 95, 99, 111, 117, 110, 116, 115]
noncomputable def envLC (L : Nat) : Env := envOfD dLC qLC 751 750 L
noncomputable def eLC : Expr := retE (fnB dLC)
/-- a comprehension's frame in a plain def's -/
noncomputable def envCo (e : Expr) (qual : List Nat) (c L Lf : Nat) : Env :=
  { scope := lcScope e, locals := L, globals := 3, cells := [], qual := ⟨⟨qual⟩⟩ ++ (⟨⟨[46, 60, 108, 111, 99, 97, 108, 115, 62, 46]⟩⟩ : Str), func := none, code := .ref c, frame := some Lf, builtins := 0 }
noncomputable def codeLC (it acc L Lf : Nat) : Code := .compLoop eLC 0 (.ref it) (.ref acc) (envCo eLC qLC 750 L Lf)
noncomputable def ctxLC (it acc L Lf : Nat) (bel : List (Code × Pos)) : Ctx := ctxOf (codeLC it acc L Lf) bel
/-- the comprehension's locals -/
noncomputable def loc1 (P : Params) (k : Nat) : Option (List Nat × Nat) → Obj
  | none => dictO [] 0
  | some (c, τ) => dictO [ent P [115, 105, 103, 110] k (.str ⟨⟨c⟩⟩ τ)] 1
noncomputable def orcC (c : Nat) : OrP := ⟨⟨fun _ => [c], fun _ => 0⟩, fun _ => []⟩
noncomputable def runLC (W : World) (it acc L Lf : Nat) (bel : List (Code × Pos)) (c : Nat) (fuel : Nat) (hs : List Nat) (l : List (Nat × Obj)) (N t : Nat) (p : Pos) (nv : Nv) : Out :=
  runC (cfgW W (conQ (orcC c) [] .none)) fuel (ctxLC it acc L Lf bel) p hs l N t nv
noncomputable def objLC (P : Params) (it acc L : Nat) (a : Str) (ta i : Nat) (xs : Array Value) (n : Nat) (k : Nat) (nc : Option (List Nat × Nat)) : List (Nat × Obj) := [(it, siO a ta i), (acc, lsO xs n), (L, loc1 P k nc)]
noncomputable def mkOf : Bool → Int
  | true => 1
  | false => 2
noncomputable def exOf : Bool → Nat
  | true => 1
  | false => 0
/-- no mark -/
theorem lc_o (w : World) (b b2 f : Bool) (it acc L Lf : Nat) (bel : List (Code × Pos)) (a : Str) (ta i c : Nat) (xs : Array Value) (n k : Nat) (nc : List Nat × Nat) (N t : Nat) (p : Pos) (nv : Nv) :
    let W := wld w b b2
    let X := runLC W it acc L Lf bel c 80 (match f with | true => [1, 26, 0, 3, 3, 3, 2, 0, 1] | false => [1, 26, 0, 3, 3, 3, 2, 0, 1]) (objLC W.params it acc L a ta i xs n k (match f with | true => none | false => some nc)) N t p nv
    let l' := objLC W.params it acc L a ta (i + 1) xs n (ktk X 2 0) (some ([c], vt X 2 0))
    look [0, 1, 2] X = some (.again (ctxLC it acc L Lf bel) (posOf X), os_ l', as_ l', dup (eqsOf X), dupG (gsOf X), dupO (osOf X), (InB [39, 34] c 0 ∧ NextB a i [c] ∧ True)) := by
  cases b <;> cases b2 <;> cases f <;> (intro W X l'; kernel_rfl)
/-- a mark -/
theorem lc_q (w : World) (b b2 f d : Bool) (it acc L Lf : Nat) (bel : List (Code × Pos)) (a : Str) (ta i c : Nat) (xs : Array Value) (n k : Nat) (nc : List Nat × Nat) (N t : Nat) (p : Pos) (nv : Nv) :
    let W := wld w b b2
    let X := runLC W it acc L Lf bel c 80 (match f, d with | true, true => [1, 26, 0, 3, 3, 3, 2, 1, 3, 1, 1, 18, 1, 1] | false, true => [1, 26, 0, 3, 3, 3, 2, 1, 3, 1, 1, 18, 1, 1] | true, false => [1, 26, 0, 3, 3, 3, 2, 1, 3, 1, 0, 18, 1, 1] | false, false => [1, 26, 0, 3, 3, 3, 2, 1, 3, 1, 0, 18, 1, 1]) (objLC W.params it acc L a ta i xs n k (match f with | true => none | false => some nc)) N t p nv
    let l' := objLC W.params it acc L a ta (i + 1) (xs.push (.int (mkOf d) (nv 2).2.1)) (n + 1) (ktk X 2 0) (some ([c], vt X 2 0))
    look [0, 1, 2] X = some (.again (ctxLC it acc L Lf bel) (posOf X), os_ l', as_ l', dup (eqsOf X), dupG (gsOf X), dupO (osOf X), (SmallB xs ∧ EqB [c] [39] (exOf d) ∧ InB [39, 34] c 1 ∧ NextB a i [c] ∧ True)) := by
  cases b <;> cases b2 <;> cases f <;> cases d <;> (intro W X l'; kernel_rfl)
/-- the end -/
theorem lc_e (w : World) (b b2 f : Bool) (it acc L Lf : Nat) (bel : List (Code × Pos)) (a : Str) (ta i c : Nat) (xs : Array Value) (n k : Nat) (nc : List Nat × Nat) (N t : Nat) (p : Pos) (nv : Nv) :
    let W := wld w b b2
    let X := runLC W it acc L Lf bel c 80 (match f with | true => [1, 27, 0, 4] | false => [1, 27, 0, 4]) (objLC W.params it acc L a ta i xs n k (match f with | true => none | false => some nc)) N t p nv
    let l' := [(it, obAt X 0), (acc, lsO xs n), (L, loc1 W.params k (match f with | true => none | false => some nc))]
    look [0, 1, 2] X = some (.done (.ok .next), os_ l', as_ l', dup (eqsOf X), dupG (gsOf X), dupO (osOf X), ((StopB a i ∧ (none : Option Value) = none) ∧ True)) := by
  cases b <;> cases b2 <;> cases f <;> (intro W X l'; kernel_rfl)
/-! L702 -/
/-- the marks of a text: an apostrophe 1, a quotation mark 2 -/
noncomputable def cntL : List Nat → List Nat
  | [] => []
  | c :: r => if c = 39 then 1 :: cntL r else if c = 34 then 2 :: cntL r else cntL r
noncomputable def IsInts : List Value → List Nat → Prop
  | [], [] => True
  | .int i _ :: r, m :: r' => i = (m : Int) ∧ IsInts r r'
  | _, _ => False
theorem IsInts.snoc {m : Nat} {τ : Nat} : ∀ {vs : List Value} {ms : List Nat}, IsInts vs ms → IsInts (vs ++ [.int (m : Int) τ]) (ms ++ [m])
  | [], [], _ => ⟨rfl, trivial⟩
  | .int _ _ :: r, _ :: r', h => ⟨h.1, IsInts.snoc h.2⟩
theorem IsInts.length : ∀ {vs : List Value} {ms : List Nat}, IsInts vs ms → vs.length = ms.length
  | [], [], _ => rfl
  | .int _ _ :: r, _ :: r', h => congrArg (· + 1) (IsInts.length h.2)
theorem lc_ok {w : World} {b b2 : Bool} {it acc L Lf : Nat} {bel : List (Code × Pos)} {cs : List Nat} {ta : Nat} {R : Result → Shared → Prop} (nd : [it, acc, L].Nodup) (lo : ∀ y ∈ [it, acc, L], 769 ≤ y) (hz : cs.length ≤ 1000) :
    ∀ (rest : List Nat) {i : Nat} {vs : List Value} {ms : List Nat} {n k : Nat} {nc : Option (List Nat × Nat)} {s : Shared} {p : Pos} (S : Top (wld w b b2) s) (hr : cs.drop i = rest) (hv : IsInts vs ms) (hm : ms.length ≤ i) (hi : i ≤ cs.length)
      (H : Holds s (objLC (wld w b b2).params it acc L ⟨⟨cs⟩⟩ ta i ⟨vs⟩ n k nc))
      (fin : ∀ (vs' : List Value) (n' k' : Nat) (nc' : Option (List Nat × Nat)) (ob : Obj) (s' : Shared), IsInts vs' (ms ++ cntL rest) → ((rest = [] → nc' = nc) ∧ (rest ≠ [] → ∃ c τ, nc' = some ([c], τ))) → Did s s' [(it, ob), (acc, lsO ⟨vs'⟩ n'), (L, loc1 (wld w b b2).params k' nc')] [] → R (.ok .next) s'),
      wpCode (MW (wld w b b2)) (ctxLC it acc L Lf bel) R p s
  | [], i, vs, ms, n, k, nc, s, p, S, hr, hv, hm, hi, H, fin => by
    have hs : StopB ⟨⟨cs⟩⟩ i := by
      have := congrArg List.length hr
      rw [List.length_drop, List.length_nil] at this
      show (⟨cs⟩ : Array Nat)[i]? = none
      rw [Array.getElem?_eq_none]
      show cs.length ≤ i
      omega
    have lo' : ∀ y ∈ objLC (wld w b b2).params it acc L ⟨⟨cs⟩⟩ ta i ⟨vs⟩ n k nc, 769 ≤ y.1 := fun y hy => lo _ (List.mem_map.mpr ⟨y, hy, rfl⟩)
    have key : ∀ (f : Bool) (x : List Nat × Nat), nc = (match f with | true => none | false => some x) → wpCode (MW (wld w b b2)) (ctxLC it acc L Lf bel) R p s := by
      intro f x e
      subst e
      refine runC_ok [] (conQ_good (orcC 0) [] .none) S H nd lo' _ _ (fun _ => []) _ (fun nv => lc_e w b b2 f it acc L Lf bel ⟨⟨cs⟩⟩ ta i 0 ⟨vs⟩ n k x _ _ p nv) (fun _ => ⟨⟨hs, rfl⟩, trivial⟩) fun nv s' Af => ?_
      try dsimp only at Af
      generalize runLC _ _ _ _ _ _ _ _ _ _ _ _ _ _ = X at Af
      exact fin vs n k _ (obAt X 0) s' (by rw [cntL, List.append_nil]; exact hv) ⟨fun _ => rfl, fun h => absurd rfl h⟩ (Af.did [(it, obAt X 0), (acc, lsO ⟨vs⟩ n), (L, loc1 (wld w b b2).params k _)] [] [] rfl rfl rfl (by simp) (by simp) rfl rfl)
    cases nc with
    | none => exact key true ([], 0) rfl
    | some x => exact key false x rfl
  | c :: rest, i, vs, ms, n, k, nc, s, p, S, hr, hv, hm, hi, H, fin => by
    obtain ⟨hc, hr2, hlt⟩ := drop_cons hr
    have hn : NextB ⟨⟨cs⟩⟩ i [c] := ⟨c, rfl, by
      show (⟨cs⟩ : Array Nat)[i]? = some c
      have := congrArg List.head? hr
      rw [List.head?_drop] at this
      simpa using this⟩
    have lo' : ∀ y ∈ objLC (wld w b b2).params it acc L ⟨⟨cs⟩⟩ ta i ⟨vs⟩ n k nc, 769 ≤ y.1 := fun y hy => lo _ (List.mem_map.mpr ⟨y, hy, rfl⟩)
    have go : ∀ {vs2 : List Value} {ms2 : List Nat} (n2 k2 τ2 : Nat) (p2 : Pos) (s2 : Shared), IsInts vs2 ms2 → ms2.length ≤ i + 1 → ms ++ cntL (c :: rest) = ms2 ++ cntL rest →
        Did s s2 (objLC (wld w b b2).params it acc L ⟨⟨cs⟩⟩ ta (i + 1) ⟨vs2⟩ n2 k2 (some ([c], τ2))) [] → wpCode (MW (wld w b b2)) (ctxLC it acc L Lf bel) R p2 s2 := by
      intro vs2 ms2 n2 k2 τ2 p2 s2 h2 hl2 e D
      refine lc_ok nd lo hz rest (Did.sane S D (fun y hy => lo _ (List.mem_map.mpr ⟨y, hy, rfl⟩))) hr2 h2 hl2 hlt D.holds fun vs' n' k' nc' ob s' hv' hE D' => ?_
      rw [← e] at hv'
      refine fin vs' n' k' nc' ob s' hv' ⟨fun h => (by cases h), fun _ => ?_⟩ (D.trans D' fun _ h => h)
      by_cases hr0 : rest = []
      · exact ⟨c, τ2, hE.1 hr0⟩
      · exact hE.2 hr0
      -- (D.trans D' fun _ h => h)
    have hsm : SmallB ⟨vs⟩ := by
      show vs.length ≤ 1000000
      rw [hv.length]
      omega
    have key : ∀ (f : Bool) (x : List Nat × Nat), nc = (match f with | true => none | false => some x) → wpCode (MW (wld w b b2)) (ctxLC it acc L Lf bel) R p s := by
      intro f x e
      subst e
      by_cases hq : c ∈ [39, 34]
      · have hd : ∃ d : Bool, (d = true ∧ c = 39) ∨ (d = false ∧ c = 34) := by
          simp only [List.mem_cons, List.not_mem_nil, or_false] at hq
          rcases hq with h | h
          · exact ⟨true, .inl ⟨rfl, h⟩⟩
          · exact ⟨false, .inr ⟨rfl, h⟩⟩
        obtain ⟨d, hd⟩ := hd
        have he : EqB [c] [39] (exOf d) := by
          rcases hd with ⟨rfl, rfl⟩ | ⟨rfl, rfl⟩
          · exact eqB1 rfl
          · exact eqB0 (by decide)
        refine runC_ok [] (conQ_good (orcC c) [] .none) S H nd lo' _ _ (fun _ => []) _ (fun nv => lc_q w b b2 f d it acc L Lf bel ⟨⟨cs⟩⟩ ta i c ⟨vs⟩ n k x _ _ p nv) (fun _ => ⟨hsm, he, inB1 hq, hn, trivial⟩) fun nv s' Af => ?_
        try dsimp only at Af
        generalize runLC _ _ _ _ _ _ _ _ _ _ _ _ _ _ = X at Af ⊢
        have D := Af.did (objLC (wld w b b2).params it acc L ⟨⟨cs⟩⟩ ta (i + 1) ((⟨vs⟩ : Array Value).push (.int (mkOf d) (nv 2).2.1)) (n + 1) (ktk X 2 0) (some ([c], vt X 2 0))) [] [] rfl rfl rfl (by simp) (by simp) rfl rfl
        rw [push_list] at D
        rcases hd with ⟨rfl, rfl⟩ | ⟨rfl, rfl⟩
        · exact go _ _ _ _ _ (hv.snoc (m := 1)) (by rw [List.length_append]; exact Nat.succ_le_succ hm) (by rw [cntL, if_pos rfl]; simp) D
        · exact go _ _ _ _ _ (hv.snoc (m := 2)) (by rw [List.length_append]; exact Nat.succ_le_succ hm) (by rw [cntL, if_neg (by decide), if_pos rfl]; simp) D
      · have h1 : c ≠ 39 := fun h => hq (by simp [h])
        have h2 : c ≠ 34 := fun h => hq (by simp [h])
        refine runC_ok [] (conQ_good (orcC c) [] .none) S H nd lo' _ _ (fun _ => []) _ (fun nv => lc_o w b b2 f it acc L Lf bel ⟨⟨cs⟩⟩ ta i c ⟨vs⟩ n k x _ _ p nv) (fun _ => ⟨inB0 hq, hn, trivial⟩) fun nv s' Af => ?_
        try dsimp only at Af
        generalize runLC _ _ _ _ _ _ _ _ _ _ _ _ _ _ = X at Af ⊢
        exact go _ _ _ _ _ hv (Nat.le_succ_of_le hm) (by rw [cntL, if_neg h1, if_neg h2]) (Af.did (objLC (wld w b b2).params it acc L ⟨⟨cs⟩⟩ ta (i + 1) ⟨vs⟩ n (ktk X 2 0) (some ([c], vt X 2 0))) [] [] rfl rfl rfl (by simp) (by simp) rfl rfl)
    cases nc with
    | none => exact key true ([], 0) rfl
    | some x => exact key false x rfl
/-! L802 -/
/-! ### _law_counts, called -/
structure FunC where
  b : List Stmt
  e : Env
structure LoopC where
  t : Expr
  it : Value
  b : List Stmt
  o : List Stmt
  e : Env
noncomputable def fcode (x : FunC) : Code := .func x.b x.e
noncomputable def lcode (y : LoopC) : Code := .forLoop y.t y.it y.b y.o y.e
/-- where _law_counts (0, 1, 2) and _law_behind (2, 3) are called: below _law_behind within the inner or the outer loop, or within the inner loop -/
noncomputable def belK (k : Nat) (xs : Nat → FunC) (ys : Nat → LoopC) (q : Nat → Pos) (o : OutA) : List (Code × Pos) := match k with
  | 0 => (fcode (xs 0), q 0) :: (lcode (ys 0), q 1) :: (lcode (ys 1), q 2) :: (fcode (xs 1), q 3) :: outOf o
  | 1 => (fcode (xs 0), q 0) :: (lcode (ys 1), q 2) :: (fcode (xs 1), q 3) :: outOf o
  | 2 => (lcode (ys 0), q 1) :: (lcode (ys 1), q 2) :: (fcode (xs 1), q 3) :: outOf o
  | _ => (lcode (ys 1), q 2) :: (fcode (xs 1), q 3) :: outOf o
noncomputable def mkI : List Nat → (Nat → Nat) → List Value
  | [], _ => []
  | m :: r, τ => .int (.ofNat m) (τ 0) :: mkI r fun i => τ (i + 1)
theorem isInts_mkI : ∀ {vs : List Value} {ms : List Nat}, IsInts vs ms → ∃ τ, vs = mkI ms τ
  | [], [], _ => ⟨fun _ => 0, rfl⟩
  | .int _ t :: r, m :: r', h => by
    obtain ⟨rfl, h⟩ := h
    obtain ⟨τ, e⟩ := isInts_mkI h
    refine ⟨fun i => match i with | 0 => t | i + 1 => τ i, ?_⟩
    rw [e]; rfl
noncomputable def isCL : Code → Bool
  | .compLoop .. => true
  | _ => false
noncomputable def lnc (f : Bool) (ν : Unk) : Option (List Nat × Nat) := match f with
  | true => none
  | false => some ([ν.n 3], ν.n 2)
noncomputable def ckCh (P : Params) (it acc L : Nat) (ms : List Nat) (f : Bool) (ν : Unk) : List (Nat × Obj) := [(it, ν.ob 0), (acc, lsO ⟨mkI ms fun i => ν.n (i + 100)⟩ (ν.n 0)), (L, loc1 P (ν.n 1) (lnc f ν))]
noncomputable def conK (P : Params) (cs : List Nat) (τ : Nat) (ms : List Nat) (f : Bool) : CF := fun j x Γ c T ads => match j with
  | 27 => match isCL c with
    | true => some (conS T ads (ctxLC (adOf ads 1) (adOf ads 2) (adOf ads 3) (adOf ads 0) Γ.below) (zip3 [1, 2, 3] (objLC P (adOf ads 1) (adOf ads 2) (adOf ads 3) ⟨⟨cs⟩⟩ τ 0 ⟨[]⟩ 0 0 none)) True
        (fun _ => .ok .next) (fun ν => zip2 [1, 2, 3] (ckCh P (adOf ads 1) (adOf ads 2) (adOf ads 3) ms f ν)) fun _ => [])
    | false => none
  | j => conP ⟨orc0, fun _ => []⟩ j x Γ c T ads
noncomputable def ctxCK (bel : List (Code × Pos)) (cs : List Nat) (τ : Nat) : Ctx := ctxOf (.call (.ref 751) ⟨[.str ⟨⟨cs⟩⟩ τ], []⟩) bel
theorem ck (w : World) (b b2 f : Bool) (kd : Nat) (hk : kd < 3) (xs : Nat → FunC) (ys : Nat → LoopC) (q : Nat → Pos) (o : OutA) (cs : List Nat) (τ : Nat) (ms : List Nat) (N t : Nat) (p : Pos) (nv : Nv) :
    let W := wld w b b2
    let X := runC (cfgW W (conK W.params cs τ ms f)) 80 (ctxCK (belK kd xs ys q o) cs τ) p (match f with | true => (match b2 with | true => [0, 0, 1, 1, 0, 1001, 1, 17, 1, 2, 0, 29, 10203, 4] | false => [0, 0, 1, 1, 0, 1001, 1, 17, 1, 2, 0, 2, 2, 0, 2, 0, 2, 29, 10203, 4]) | false => (match b2 with | true => [0, 0, 1, 1, 0, 1001, 1, 17, 1, 2, 0, 29, 10203, 4, 4, 4] | false => [0, 0, 1, 1, 0, 1001, 1, 17, 1, 2, 0, 2, 2, 0, 2, 0, 2, 29, 10203, 4, 4, 4])) [] N t nv
    look [2] X = some (.done (.ok (.ret (.ref (adAt X 2)))), [some (lsO ⟨mkI ms fun i => (nv 1).2.2.n (i + 100)⟩ ((nv 1).2.2.n 0))], [adAt X 2], dup (eqsOf X), dupG (gsOf X), dupO (osOf X), (True ∧ AscB ⟨⟨cs⟩⟩ 1 ∧ True)) := by
  match kd, hk with
  | 0, _ => cases b <;> cases b2 <;> cases f <;> (intro W X; kernel_rfl)
  | 1, _ => cases b <;> cases b2 <;> cases f <;> (intro W X; kernel_rfl)
  | 2, _ => cases b <;> cases b2 <;> cases f <;> (intro W X; kernel_rfl)
/-! L902 -/
theorem conK_ok {w : World} {b b2 : Bool} {cs : List Nat} {τ : Nat} {ms : List Nat} {f : Bool} (hms : ms = cntL cs) (hf : (match f with | true => cs = [] | false => cs ≠ [])) (hz : cs.length ≤ 1000) {l0 : Nat} {s₀ : Shared} :
    ConOk (baseOf (kt (wld w b b2).params) 769 l0 s₀) (MW (wld w b b2)) (cfgW (wld w b b2) (conK (wld w b b2).params cs τ ms f)) := by
  intro j y Γ T m ads tk s p g hg hx hn ho ob D
  obtain ⟨c0, e1, e2, bel, e3⟩ := Γ
  replace hg : conK (wld w b b2).params cs τ ms f j y ⟨c0, e1, e2, bel, e3⟩ c0 T ads = some g := hg
  by_cases h27 : j = 27
  · subst h27
    cases hb' : isCL c0 with
    | false => simp only [conK, hb'] at hg; cases hg
    | true =>
      simp only [conK, hb'] at hg
      cases hg
      obtain ⟨h1, h2⟩ := conS_holds D hn ho
      obtain ⟨H, ha, hm⟩ := zip3_holds _ _ rfl h1 h2
      replace hx : _ = ctxLC (adOf ads 1) (adOf ads 2) (adOf ads 3) (adOf ads 0) bel := hx
      rw [hx]
      have nd : [adOf ads 1, adOf ads 2, adOf ads 3].Nodup := nodup_ad D (is := [1, 2, 3]) (by decide) hm
      have lo : ∀ z ∈ [adOf ads 1, adOf ads 2, adOf ads 3], 769 ≤ z := fun z hz => by
        have hz : z ∈ [1, 2, 3].map (adOf ads) := hz
        obtain ⟨i, hi, rfl⟩ := List.mem_map.mp hz
        exact (D.lo i (hm i hi)).1
      refine lc_ok nd lo hz cs (vs := []) (ms := []) (rep_sane D) rfl trivial (Nat.zero_le _) (Nat.zero_le _) H fun vs' n' k' nc' o s' hv hE hD => ?_
      rw [List.nil_append, ← hms] at hv
      obtain ⟨t, rfl⟩ := isInts_mkI hv
      have hnc : ∃ x1 x2, nc' = lnc f ⟨fun i => match i with | 0 => n' | 1 => k' | 2 => x2 | 3 => x1 | i => t (i - 100), fun _ => #[], fun _ => #[], fun _ => o⟩ := by
        cases f with
        | true => exact ⟨0, 0, hE.1 hf⟩
        | false =>
          obtain ⟨c, τ', e⟩ := hE.2 hf
          exact ⟨c, τ', e⟩
      obtain ⟨x1, x2, hnc⟩ := hnc
      subst hnc
      refine conS_left D ⟨fun i => match i with | 0 => n' | 1 => k' | 2 => x2 | 3 => x1 | i => t (i - 100), fun _ => #[], fun _ => #[], fun _ => o⟩ _ rfl _ _ hD rfl (zip2_mem _ _ hm) rfl fun k hk => absurd hk (Nat.not_lt_zero _)
  · have : conK (wld w b b2).params cs τ ms f j y ⟨c0, e1, e2, bel, e3⟩ c0 T ads = conP ⟨orc0, fun _ => []⟩ j y ⟨c0, e1, e2, bel, e3⟩ c0 T ads := by
      unfold conK
      split
      · exact absurd rfl h27
      · rfl
    rw [this] at hg
    exact conP_ok _ _ _ _ _ _ _ _ _ _ _ hg hx ob D
/-- _law_counts -/
theorem counts_ok {w : World} {b b2 : Bool} {kd : Nat} (hk : kd < 3) {xs : Nat → FunC} {ys : Nat → LoopC} {q : Nat → Pos} {o : OutA} {cs : List Nat} {τ : Nat} (hz : cs.length ≤ 1000) (ha : ∀ c ∈ cs, c < 128) {s : Shared} {p : Pos} (S : Top (wld w b b2) s) :
    wpCode (MW (wld w b b2)) (ctxCK (belK kd xs ys q o) cs τ) (fun r s' => ∃ ν : Unk, r = .ok (.ret (.ref (ν.n 0))) ∧ Did s s' [] [(ν.n 0, lsO ⟨mkI (cntL cs) fun i => ν.n (i + 100)⟩ (ν.n 1))]) p s := by
  have asc : AscB ⟨⟨cs⟩⟩ 1 := by
    show (⟨cs⟩ : Array Nat).all (· < 128) = true
    rw [Array.all_eq_true_iff_forall_mem]
    intro c hc
    simpa using ha c (by simpa using hc)
  have key : ∀ f : Bool, (match f with | true => cs = [] | false => cs ≠ []) → wpCode (MW (wld w b b2)) (ctxCK (belK kd xs ys q o) cs τ) (fun r s' => ∃ ν : Unk, r = .ok (.ret (.ref (ν.n 0))) ∧ Did s s' [] [(ν.n 0, lsO ⟨mkI (cntL cs) fun i => ν.n (i + 100)⟩ (ν.n 1))]) p s := by
    intro f hf
    refine runC_ok [2] (conK_ok rfl hf hz) S (fun x hx => by cases hx) (by simp) (by simp) _ _ (fun _ => [_]) _ (fun nv => ck w b b2 f kd hk xs ys q o cs τ (cntL cs) _ _ p nv) (fun _ => ⟨trivial, asc, trivial⟩) fun nv s' Af => ?_
    try dsimp only at Af
    generalize runC _ _ _ _ _ _ _ _ _ = X at Af ⊢
    refine ⟨⟨fun i => match i with | 0 => adAt X 2 | 1 => (nv 1).2.2.n 0 | i => (nv 1).2.2.n i, fun _ => #[], fun _ => #[], fun _ => default⟩, rfl, ?_⟩
    exact Af.did [] [_] [2] rfl rfl rfl (by simp) (by simp) rfl rfl
  cases cs with
  | nil => exact key true rfl
  | cons c r => exact key false (by simp)
/-! M102 -/
/-! ### _law_behind -/
noncomputable def headF : List (Code × Pos) → FunC
  | (.func b e, _) :: _ => ⟨b, e⟩
  | _ => ⟨[], default⟩
noncomputable def xsB (bel : List (Code × Pos)) (xs : Nat → FunC) (i : Nat) : FunC := match i with
  | 0 => headF bel
  | i => xs i
noncomputable def qsB (bel : List (Code × Pos)) (q : Nat → Pos) (i : Nat) : Pos := match i with
  | 0 => posN bel 0
  | i => q i
noncomputable def kdB : Nat → Nat
  | 2 => 0
  | _ => 1
noncomputable def conLB (kd : Nat) (xs : Nat → FunC) (ys : Nat → LoopC) (q : Nat → Pos) (o : OutA) (cs : List Nat) (τ n : Nat) (m : Nat → Nat) (O : Nat → Int) : CF := fun j x Γ c T ads => match j with
  | 28 => some { gx := ctxCK (belK (kdB kd) (xsB Γ.below xs) ys (qsB Γ.below q) o) cs τ, ob := True, left := fun ν => ⟨.ok (.ret (.ref (ν.n 0))), T, [lsO ⟨mkI (chars n m) fun i => ν.n (i + 100)⟩ (ν.n 1)]⟩ }
  | j => conU ⟨⟨fun _ => [], O⟩, fun _ => []⟩ j x Γ c T ads
noncomputable def ctxLB (bel : List (Code × Pos)) (cs : List Nat) (τ : Nat) (st : Int) (τs : Nat) : Ctx := ctxOf (.call (.ref 756) ⟨[.str ⟨⟨cs⟩⟩ τ, .int st τs], []⟩) bel
noncomputable def sumO : Nat → (Nat → Int) → Int
  | 0, _ => 0
  | n + 1, O => sumO n O + O n
theorem lb_0 (w : World) (b b2 : Bool) (kd : Nat) (hk : kd = 2 ∨ kd = 3) (xs : Nat → FunC) (ys : Nat → LoopC) (q : Nat → Pos) (o : OutA) (cs : List Nat) (τ : Nat) (st : Int) (τs : Nat) (m : Nat → Nat) (O : Nat → Int) (N t : Nat) (p : Pos) (nv : Nv) :
    let W := wld w b b2
    let X := runC (cfgW W (conLB kd xs ys q o cs τ 0 m O)) 243 (ctxLB (belK kd xs ys q o) cs τ st τs) p (match b2 with | true => [0, 0, 1, 1, 1, 1, 0, 1001, 0, 1, 0, 29, 0, 0, 0, 3, 3, 3, 0, 3, 0, 4, 4, 4, 4, 4, 3, 0, 2, 2, 0, 0, 0, 0, 0, 0, 2, 0, 0, 5, 0, 5, 0, 5, 0, 0, 0, 0, 6, 6, 0, 6, 0, 6, 6, 6, 0, 6, 0, 6, 6, 6, 7, 0, 0, 7, 0, 7, 0, 7, 7, 7, 11, 9, 30, 7, 1, 1, 0, 0, 2, 0, 0, 5, 0, 5, 0, 5, 0, 0, 0, 0, 1, 1, 0, 0, 0, 0] | false => [0, 0, 1, 1, 1, 1, 0, 1001, 0, 1, 0, 29, 0, 0, 0, 3, 3, 3, 0, 3, 0, 4, 4, 4, 4, 4, 3, 0, 2, 2, 0, 0, 0, 0, 0, 0, 2, 0, 0, 5, 0, 5, 0, 5, 0, 0, 0, 0, 6, 6, 0, 6, 0, 6, 6, 6, 0, 6, 0, 6, 6, 6, 7, 0, 7, 7, 0, 7, 0, 7, 0, 7, 0, 7, 0, 7, 7, 7, 11, 9, 30, 7, 1, 1, 0, 0, 2, 0, 0, 5, 0, 5, 0, 5, 0, 0, 0, 0, 1, 1, 0, 0, 0, 0]) [] N t nv
    look [] X = some (.done (.ok (.ret (.int ((st - sumO 0 O).fmod 3) (rtok X)))), [], [], dup (eqsOf X), dupG (gsOf X), dupO (osOf X), ((SumB [] ∧ (none : Option Value) = none) ∧ True ∧ True)) := by
  rcases hk with rfl | rfl <;> cases b <;> cases b2 <;> (intro W X; kernel_rfl)
theorem lb_1 (w : World) (b b2 : Bool) (kd : Nat) (hk : kd = 2 ∨ kd = 3) (xs : Nat → FunC) (ys : Nat → LoopC) (q : Nat → Pos) (o : OutA) (cs : List Nat) (τ : Nat) (st : Int) (τs : Nat) (m : Nat → Nat) (O : Nat → Int) (N t : Nat) (p : Pos) (nv : Nv) :
    let W := wld w b b2
    let X := runC (cfgW W (conLB kd xs ys q o cs τ 1 m O)) 304 (ctxLB (belK kd xs ys q o) cs τ st τs) p (match b2 with | true => [0, 0, 1, 1, 1, 1, 0, 1001, 0, 1, 0, 29, 0, 0, 0, 3, 3, 3, 0, 3, 0, 4, 4, 4, 4, 4, 3, 0, 2, 2, 0, 0, 0, 0, 0, 0, 2, 0, 0, 5, 0, 5, 0, 5, 0, 0, 0, 0, 6, 6, 0, 6, 0, 6, 6, 6, 0, 6, 0, 6, 6, 6, 7, 0, 0, 7, 0, 7, 0, 7, 7, 7, 7, 7, 7, 7, 9, 9, 2, 9, 5, 5, 5, 0, 5, 0, 5, 0, 0, 9, 0, 0, 12, 0, 0, 8, 0, 8, 8, 8, 0, 7, 0, 7, 0, 7, 7, 7, 11, 9, 9, 9, 30, 7, 1, 1, 0, 0, 2, 0, 0, 5, 0, 5, 0, 5, 0, 0, 0, 0, 1, 1, 0, 0, 0, 0] | false => [0, 0, 1, 1, 1, 1, 0, 1001, 0, 1, 0, 29, 0, 0, 0, 3, 3, 3, 0, 3, 0, 4, 4, 4, 4, 4, 3, 0, 2, 2, 0, 0, 0, 0, 0, 0, 2, 0, 0, 5, 0, 5, 0, 5, 0, 0, 0, 0, 6, 6, 0, 6, 0, 6, 6, 6, 0, 6, 0, 6, 6, 6, 7, 0, 7, 7, 0, 7, 0, 7, 0, 7, 0, 7, 0, 7, 7, 7, 7, 7, 7, 7, 9, 9, 2, 9, 5, 5, 5, 0, 5, 0, 5, 0, 0, 9, 0, 0, 12, 0, 0, 8, 0, 8, 8, 8, 0, 7, 0, 7, 0, 7, 7, 7, 11, 9, 9, 9, 30, 7, 1, 1, 0, 0, 2, 0, 0, 5, 0, 5, 0, 5, 0, 0, 0, 0, 1, 1, 0, 0, 0, 0]) [] N t nv
    look [] X = some (.done (.ok (.ret (.int ((sumO 1 O - st).fmod 3) (rtok X)))), [], [], dup (eqsOf X), dupG (gsOf X), dupO (osOf X), ((SumB [O 0] ∧ (none : Option Value) = none) ∧ MulB (.ofNat (m 0)) 1 (O 0) ∧ True ∧ True)) := by
  rcases hk with rfl | rfl <;> cases b <;> cases b2 <;> (intro W X; kernel_rfl)
theorem lb_2 (w : World) (b b2 : Bool) (kd : Nat) (hk : kd = 2 ∨ kd = 3) (xs : Nat → FunC) (ys : Nat → LoopC) (q : Nat → Pos) (o : OutA) (cs : List Nat) (τ : Nat) (st : Int) (τs : Nat) (m : Nat → Nat) (O : Nat → Int) (N t : Nat) (p : Pos) (nv : Nv) :
    let W := wld w b b2
    let X := runC (cfgW W (conLB kd xs ys q o cs τ 2 m O)) 361 (ctxLB (belK kd xs ys q o) cs τ st τs) p (match b2 with | true => [0, 0, 1, 1, 1, 1, 0, 1001, 0, 1, 0, 29, 0, 0, 0, 3, 3, 3, 0, 3, 0, 4, 4, 4, 4, 4, 3, 0, 2, 2, 0, 0, 0, 0, 0, 0, 2, 0, 0, 5, 0, 5, 0, 5, 0, 0, 0, 0, 6, 6, 0, 6, 0, 6, 6, 6, 0, 6, 0, 6, 6, 6, 7, 0, 0, 7, 0, 7, 0, 7, 7, 7, 7, 7, 7, 7, 9, 9, 2, 9, 5, 5, 5, 0, 5, 0, 5, 0, 0, 9, 0, 0, 12, 0, 0, 8, 0, 8, 8, 8, 0, 7, 0, 7, 0, 7, 7, 7, 7, 7, 7, 7, 9, 9, 2, 9, 5, 5, 5, 0, 5, 0, 5, 0, 0, 9, 0, 0, 12, 1, 0, 8, 0, 8, 8, 8, 0, 7, 0, 7, 0, 7, 7, 7, 11, 9, 9, 9, 30, 7, 1, 1, 0, 0, 2, 0, 0, 5, 0, 5, 0, 5, 0, 0, 0, 0, 1, 1, 0, 0, 0, 0] | false => [0, 0, 1, 1, 1, 1, 0, 1001, 0, 1, 0, 29, 0, 0, 0, 3, 3, 3, 0, 3, 0, 4, 4, 4, 4, 4, 3, 0, 2, 2, 0, 0, 0, 0, 0, 0, 2, 0, 0, 5, 0, 5, 0, 5, 0, 0, 0, 0, 6, 6, 0, 6, 0, 6, 6, 6, 0, 6, 0, 6, 6, 6, 7, 0, 7, 7, 0, 7, 0, 7, 0, 7, 0, 7, 0, 7, 7, 7, 7, 7, 7, 7, 9, 9, 2, 9, 5, 5, 5, 0, 5, 0, 5, 0, 0, 9, 0, 0, 12, 0, 0, 8, 0, 8, 8, 8, 0, 7, 0, 7, 0, 7, 7, 7, 7, 7, 7, 7, 9, 9, 2, 9, 5, 5, 5, 0, 5, 0, 5, 0, 0, 9, 0, 0, 12, 1, 0, 8, 0, 8, 8, 8, 0, 7, 0, 7, 0, 7, 7, 7, 11, 9, 9, 9, 30, 7, 1, 1, 0, 0, 2, 0, 0, 5, 0, 5, 0, 5, 0, 0, 0, 0, 1, 1, 0, 0, 0, 0]) [] N t nv
    look [] X = some (.done (.ok (.ret (.int ((st - sumO 2 O).fmod 3) (rtok X)))), [], [], dup (eqsOf X), dupG (gsOf X), dupO (osOf X), ((SumB [O 0, O 1] ∧ (none : Option Value) = none) ∧ MulB (.ofNat (m 0)) (-1) (O 1) ∧ MulB (.ofNat (m 1)) 1 (O 0) ∧ True ∧ True)) := by
  rcases hk with rfl | rfl <;> cases b <;> cases b2 <;> (intro W X; kernel_rfl)
theorem lb_3 (w : World) (b b2 : Bool) (kd : Nat) (hk : kd = 2 ∨ kd = 3) (xs : Nat → FunC) (ys : Nat → LoopC) (q : Nat → Pos) (o : OutA) (cs : List Nat) (τ : Nat) (st : Int) (τs : Nat) (m : Nat → Nat) (O : Nat → Int) (N t : Nat) (p : Pos) (nv : Nv) :
    let W := wld w b b2
    let X := runC (cfgW W (conLB kd xs ys q o cs τ 3 m O)) 418 (ctxLB (belK kd xs ys q o) cs τ st τs) p (match b2 with | true => [0, 0, 1, 1, 1, 1, 0, 1001, 0, 1, 0, 29, 0, 0, 0, 3, 3, 3, 0, 3, 0, 4, 4, 4, 4, 4, 3, 0, 2, 2, 0, 0, 0, 0, 0, 0, 2, 0, 0, 5, 0, 5, 0, 5, 0, 0, 0, 0, 6, 6, 0, 6, 0, 6, 6, 6, 0, 6, 0, 6, 6, 6, 7, 0, 0, 7, 0, 7, 0, 7, 7, 7, 7, 7, 7, 7, 9, 9, 2, 9, 5, 5, 5, 0, 5, 0, 5, 0, 0, 9, 0, 0, 12, 0, 0, 8, 0, 8, 8, 8, 0, 7, 0, 7, 0, 7, 7, 7, 7, 7, 7, 7, 9, 9, 2, 9, 5, 5, 5, 0, 5, 0, 5, 0, 0, 9, 0, 0, 12, 1, 0, 8, 0, 8, 8, 8, 0, 7, 0, 7, 0, 7, 7, 7, 7, 7, 7, 7, 9, 9, 2, 9, 5, 5, 5, 0, 5, 0, 5, 0, 0, 9, 0, 0, 12, 2, 0, 8, 0, 8, 8, 8, 0, 7, 0, 7, 0, 7, 7, 7, 11, 9, 9, 9, 30, 7, 1, 1, 0, 0, 2, 0, 0, 5, 0, 5, 0, 5, 0, 0, 0, 0, 1, 1, 0, 0, 0, 0] | false => [0, 0, 1, 1, 1, 1, 0, 1001, 0, 1, 0, 29, 0, 0, 0, 3, 3, 3, 0, 3, 0, 4, 4, 4, 4, 4, 3, 0, 2, 2, 0, 0, 0, 0, 0, 0, 2, 0, 0, 5, 0, 5, 0, 5, 0, 0, 0, 0, 6, 6, 0, 6, 0, 6, 6, 6, 0, 6, 0, 6, 6, 6, 7, 0, 7, 7, 0, 7, 0, 7, 0, 7, 0, 7, 0, 7, 7, 7, 7, 7, 7, 7, 9, 9, 2, 9, 5, 5, 5, 0, 5, 0, 5, 0, 0, 9, 0, 0, 12, 0, 0, 8, 0, 8, 8, 8, 0, 7, 0, 7, 0, 7, 7, 7, 7, 7, 7, 7, 9, 9, 2, 9, 5, 5, 5, 0, 5, 0, 5, 0, 0, 9, 0, 0, 12, 1, 0, 8, 0, 8, 8, 8, 0, 7, 0, 7, 0, 7, 7, 7, 7, 7, 7, 7, 9, 9, 2, 9, 5, 5, 5, 0, 5, 0, 5, 0, 0, 9, 0, 0, 12, 2, 0, 8, 0, 8, 8, 8, 0, 7, 0, 7, 0, 7, 7, 7, 11, 9, 9, 9, 30, 7, 1, 1, 0, 0, 2, 0, 0, 5, 0, 5, 0, 5, 0, 0, 0, 0, 1, 1, 0, 0, 0, 0]) [] N t nv
    look [] X = some (.done (.ok (.ret (.int ((sumO 3 O - st).fmod 3) (rtok X)))), [], [], dup (eqsOf X), dupG (gsOf X), dupO (osOf X), ((SumB [O 0, O 1, O 2] ∧ (none : Option Value) = none) ∧ MulB (.ofNat (m 0)) 1 (O 2) ∧ MulB (.ofNat (m 1)) (-1) (O 1) ∧ MulB (.ofNat (m 2)) 1 (O 0) ∧ True ∧ True)) := by
  rcases hk with rfl | rfl <;> cases b <;> cases b2 <;> (intro W X; kernel_rfl)
theorem lb_4 (w : World) (b b2 : Bool) (kd : Nat) (hk : kd = 2 ∨ kd = 3) (xs : Nat → FunC) (ys : Nat → LoopC) (q : Nat → Pos) (o : OutA) (cs : List Nat) (τ : Nat) (st : Int) (τs : Nat) (m : Nat → Nat) (O : Nat → Int) (N t : Nat) (p : Pos) (nv : Nv) :
    let W := wld w b b2
    let X := runC (cfgW W (conLB kd xs ys q o cs τ 4 m O)) 475 (ctxLB (belK kd xs ys q o) cs τ st τs) p (match b2 with | true => [0, 0, 1, 1, 1, 1, 0, 1001, 0, 1, 0, 29, 0, 0, 0, 3, 3, 3, 0, 3, 0, 4, 4, 4, 4, 4, 3, 0, 2, 2, 0, 0, 0, 0, 0, 0, 2, 0, 0, 5, 0, 5, 0, 5, 0, 0, 0, 0, 6, 6, 0, 6, 0, 6, 6, 6, 0, 6, 0, 6, 6, 6, 7, 0, 0, 7, 0, 7, 0, 7, 7, 7, 7, 7, 7, 7, 9, 9, 2, 9, 5, 5, 5, 0, 5, 0, 5, 0, 0, 9, 0, 0, 12, 0, 0, 8, 0, 8, 8, 8, 0, 7, 0, 7, 0, 7, 7, 7, 7, 7, 7, 7, 9, 9, 2, 9, 5, 5, 5, 0, 5, 0, 5, 0, 0, 9, 0, 0, 12, 1, 0, 8, 0, 8, 8, 8, 0, 7, 0, 7, 0, 7, 7, 7, 7, 7, 7, 7, 9, 9, 2, 9, 5, 5, 5, 0, 5, 0, 5, 0, 0, 9, 0, 0, 12, 2, 0, 8, 0, 8, 8, 8, 0, 7, 0, 7, 0, 7, 7, 7, 7, 7, 7, 7, 9, 9, 2, 9, 5, 5, 5, 0, 5, 0, 5, 0, 0, 9, 0, 0, 12, 3, 0, 8, 0, 8, 8, 8, 0, 7, 0, 7, 0, 7, 7, 7, 11, 9, 9, 9, 30, 7, 1, 1, 0, 0, 2, 0, 0, 5, 0, 5, 0, 5, 0, 0, 0, 0, 1, 1, 0, 0, 0, 0] | false => [0, 0, 1, 1, 1, 1, 0, 1001, 0, 1, 0, 29, 0, 0, 0, 3, 3, 3, 0, 3, 0, 4, 4, 4, 4, 4, 3, 0, 2, 2, 0, 0, 0, 0, 0, 0, 2, 0, 0, 5, 0, 5, 0, 5, 0, 0, 0, 0, 6, 6, 0, 6, 0, 6, 6, 6, 0, 6, 0, 6, 6, 6, 7, 0, 7, 7, 0, 7, 0, 7, 0, 7, 0, 7, 0, 7, 7, 7, 7, 7, 7, 7, 9, 9, 2, 9, 5, 5, 5, 0, 5, 0, 5, 0, 0, 9, 0, 0, 12, 0, 0, 8, 0, 8, 8, 8, 0, 7, 0, 7, 0, 7, 7, 7, 7, 7, 7, 7, 9, 9, 2, 9, 5, 5, 5, 0, 5, 0, 5, 0, 0, 9, 0, 0, 12, 1, 0, 8, 0, 8, 8, 8, 0, 7, 0, 7, 0, 7, 7, 7, 7, 7, 7, 7, 9, 9, 2, 9, 5, 5, 5, 0, 5, 0, 5, 0, 0, 9, 0, 0, 12, 2, 0, 8, 0, 8, 8, 8, 0, 7, 0, 7, 0, 7, 7, 7, 7, 7, 7, 7, 9, 9, 2, 9, 5, 5, 5, 0, 5, 0, 5, 0, 0, 9, 0, 0, 12, 3, 0, 8, 0, 8, 8, 8, 0, 7, 0, 7, 0, 7, 7, 7, 11, 9, 9, 9, 30, 7, 1, 1, 0, 0, 2, 0, 0, 5, 0, 5, 0, 5, 0, 0, 0, 0, 1, 1, 0, 0, 0, 0]) [] N t nv
    look [] X = some (.done (.ok (.ret (.int ((st - sumO 4 O).fmod 3) (rtok X)))), [], [], dup (eqsOf X), dupG (gsOf X), dupO (osOf X), ((SumB [O 0, O 1, O 2, O 3] ∧ (none : Option Value) = none) ∧ MulB (.ofNat (m 0)) (-1) (O 3) ∧ MulB (.ofNat (m 1)) 1 (O 2) ∧ MulB (.ofNat (m 2)) (-1) (O 1) ∧ MulB (.ofNat (m 3)) 1 (O 0) ∧ True ∧ True)) := by
  rcases hk with rfl | rfl <;> cases b <;> cases b2 <;> (intro W X; kernel_rfl)
theorem lb_5 (w : World) (b b2 : Bool) (kd : Nat) (hk : kd = 2 ∨ kd = 3) (xs : Nat → FunC) (ys : Nat → LoopC) (q : Nat → Pos) (o : OutA) (cs : List Nat) (τ : Nat) (st : Int) (τs : Nat) (m : Nat → Nat) (O : Nat → Int) (N t : Nat) (p : Pos) (nv : Nv) :
    let W := wld w b b2
    let X := runC (cfgW W (conLB kd xs ys q o cs τ 5 m O)) 532 (ctxLB (belK kd xs ys q o) cs τ st τs) p (match b2 with | true => [0, 0, 1, 1, 1, 1, 0, 1001, 0, 1, 0, 29, 0, 0, 0, 3, 3, 3, 0, 3, 0, 4, 4, 4, 4, 4, 3, 0, 2, 2, 0, 0, 0, 0, 0, 0, 2, 0, 0, 5, 0, 5, 0, 5, 0, 0, 0, 0, 6, 6, 0, 6, 0, 6, 6, 6, 0, 6, 0, 6, 6, 6, 7, 0, 0, 7, 0, 7, 0, 7, 7, 7, 7, 7, 7, 7, 9, 9, 2, 9, 5, 5, 5, 0, 5, 0, 5, 0, 0, 9, 0, 0, 12, 0, 0, 8, 0, 8, 8, 8, 0, 7, 0, 7, 0, 7, 7, 7, 7, 7, 7, 7, 9, 9, 2, 9, 5, 5, 5, 0, 5, 0, 5, 0, 0, 9, 0, 0, 12, 1, 0, 8, 0, 8, 8, 8, 0, 7, 0, 7, 0, 7, 7, 7, 7, 7, 7, 7, 9, 9, 2, 9, 5, 5, 5, 0, 5, 0, 5, 0, 0, 9, 0, 0, 12, 2, 0, 8, 0, 8, 8, 8, 0, 7, 0, 7, 0, 7, 7, 7, 7, 7, 7, 7, 9, 9, 2, 9, 5, 5, 5, 0, 5, 0, 5, 0, 0, 9, 0, 0, 12, 3, 0, 8, 0, 8, 8, 8, 0, 7, 0, 7, 0, 7, 7, 7, 7, 7, 7, 7, 9, 9, 2, 9, 5, 5, 5, 0, 5, 0, 5, 0, 0, 9, 0, 0, 12, 4, 0, 8, 0, 8, 8, 8, 0, 7, 0, 7, 0, 7, 7, 7, 11, 9, 9, 9, 30, 7, 1, 1, 0, 0, 2, 0, 0, 5, 0, 5, 0, 5, 0, 0, 0, 0, 1, 1, 0, 0, 0, 0] | false => [0, 0, 1, 1, 1, 1, 0, 1001, 0, 1, 0, 29, 0, 0, 0, 3, 3, 3, 0, 3, 0, 4, 4, 4, 4, 4, 3, 0, 2, 2, 0, 0, 0, 0, 0, 0, 2, 0, 0, 5, 0, 5, 0, 5, 0, 0, 0, 0, 6, 6, 0, 6, 0, 6, 6, 6, 0, 6, 0, 6, 6, 6, 7, 0, 7, 7, 0, 7, 0, 7, 0, 7, 0, 7, 0, 7, 7, 7, 7, 7, 7, 7, 9, 9, 2, 9, 5, 5, 5, 0, 5, 0, 5, 0, 0, 9, 0, 0, 12, 0, 0, 8, 0, 8, 8, 8, 0, 7, 0, 7, 0, 7, 7, 7, 7, 7, 7, 7, 9, 9, 2, 9, 5, 5, 5, 0, 5, 0, 5, 0, 0, 9, 0, 0, 12, 1, 0, 8, 0, 8, 8, 8, 0, 7, 0, 7, 0, 7, 7, 7, 7, 7, 7, 7, 9, 9, 2, 9, 5, 5, 5, 0, 5, 0, 5, 0, 0, 9, 0, 0, 12, 2, 0, 8, 0, 8, 8, 8, 0, 7, 0, 7, 0, 7, 7, 7, 7, 7, 7, 7, 9, 9, 2, 9, 5, 5, 5, 0, 5, 0, 5, 0, 0, 9, 0, 0, 12, 3, 0, 8, 0, 8, 8, 8, 0, 7, 0, 7, 0, 7, 7, 7, 7, 7, 7, 7, 9, 9, 2, 9, 5, 5, 5, 0, 5, 0, 5, 0, 0, 9, 0, 0, 12, 4, 0, 8, 0, 8, 8, 8, 0, 7, 0, 7, 0, 7, 7, 7, 11, 9, 9, 9, 30, 7, 1, 1, 0, 0, 2, 0, 0, 5, 0, 5, 0, 5, 0, 0, 0, 0, 1, 1, 0, 0, 0, 0]) [] N t nv
    look [] X = some (.done (.ok (.ret (.int ((sumO 5 O - st).fmod 3) (rtok X)))), [], [], dup (eqsOf X), dupG (gsOf X), dupO (osOf X), ((SumB [O 0, O 1, O 2, O 3, O 4] ∧ (none : Option Value) = none) ∧ MulB (.ofNat (m 0)) 1 (O 4) ∧ MulB (.ofNat (m 1)) (-1) (O 3) ∧ MulB (.ofNat (m 2)) 1 (O 2) ∧ MulB (.ofNat (m 3)) (-1) (O 1) ∧ MulB (.ofNat (m 4)) 1 (O 0) ∧ True ∧ True)) := by
  rcases hk with rfl | rfl <;> cases b <;> cases b2 <;> (intro W X; kernel_rfl)
theorem lb_6 (w : World) (b b2 : Bool) (kd : Nat) (hk : kd = 2 ∨ kd = 3) (xs : Nat → FunC) (ys : Nat → LoopC) (q : Nat → Pos) (o : OutA) (cs : List Nat) (τ : Nat) (st : Int) (τs : Nat) (m : Nat → Nat) (O : Nat → Int) (N t : Nat) (p : Pos) (nv : Nv) :
    let W := wld w b b2
    let X := runC (cfgW W (conLB kd xs ys q o cs τ 6 m O)) 589 (ctxLB (belK kd xs ys q o) cs τ st τs) p (match b2 with | true => [0, 0, 1, 1, 1, 1, 0, 1001, 0, 1, 0, 29, 0, 0, 0, 3, 3, 3, 0, 3, 0, 4, 4, 4, 4, 4, 3, 0, 2, 2, 0, 0, 0, 0, 0, 0, 2, 0, 0, 5, 0, 5, 0, 5, 0, 0, 0, 0, 6, 6, 0, 6, 0, 6, 6, 6, 0, 6, 0, 6, 6, 6, 7, 0, 0, 7, 0, 7, 0, 7, 7, 7, 7, 7, 7, 7, 9, 9, 2, 9, 5, 5, 5, 0, 5, 0, 5, 0, 0, 9, 0, 0, 12, 0, 0, 8, 0, 8, 8, 8, 0, 7, 0, 7, 0, 7, 7, 7, 7, 7, 7, 7, 9, 9, 2, 9, 5, 5, 5, 0, 5, 0, 5, 0, 0, 9, 0, 0, 12, 1, 0, 8, 0, 8, 8, 8, 0, 7, 0, 7, 0, 7, 7, 7, 7, 7, 7, 7, 9, 9, 2, 9, 5, 5, 5, 0, 5, 0, 5, 0, 0, 9, 0, 0, 12, 2, 0, 8, 0, 8, 8, 8, 0, 7, 0, 7, 0, 7, 7, 7, 7, 7, 7, 7, 9, 9, 2, 9, 5, 5, 5, 0, 5, 0, 5, 0, 0, 9, 0, 0, 12, 3, 0, 8, 0, 8, 8, 8, 0, 7, 0, 7, 0, 7, 7, 7, 7, 7, 7, 7, 9, 9, 2, 9, 5, 5, 5, 0, 5, 0, 5, 0, 0, 9, 0, 0, 12, 4, 0, 8, 0, 8, 8, 8, 0, 7, 0, 7, 0, 7, 7, 7, 7, 7, 7, 7, 9, 9, 2, 9, 5, 5, 5, 0, 5, 0, 5, 0, 0, 9, 0, 0, 12, 5, 0, 8, 0, 8, 8, 8, 0, 7, 0, 7, 0, 7, 7, 7, 11, 9, 9, 9, 30, 7, 1, 1, 0, 0, 2, 0, 0, 5, 0, 5, 0, 5, 0, 0, 0, 0, 1, 1, 0, 0, 0, 0] | false => [0, 0, 1, 1, 1, 1, 0, 1001, 0, 1, 0, 29, 0, 0, 0, 3, 3, 3, 0, 3, 0, 4, 4, 4, 4, 4, 3, 0, 2, 2, 0, 0, 0, 0, 0, 0, 2, 0, 0, 5, 0, 5, 0, 5, 0, 0, 0, 0, 6, 6, 0, 6, 0, 6, 6, 6, 0, 6, 0, 6, 6, 6, 7, 0, 7, 7, 0, 7, 0, 7, 0, 7, 0, 7, 0, 7, 7, 7, 7, 7, 7, 7, 9, 9, 2, 9, 5, 5, 5, 0, 5, 0, 5, 0, 0, 9, 0, 0, 12, 0, 0, 8, 0, 8, 8, 8, 0, 7, 0, 7, 0, 7, 7, 7, 7, 7, 7, 7, 9, 9, 2, 9, 5, 5, 5, 0, 5, 0, 5, 0, 0, 9, 0, 0, 12, 1, 0, 8, 0, 8, 8, 8, 0, 7, 0, 7, 0, 7, 7, 7, 7, 7, 7, 7, 9, 9, 2, 9, 5, 5, 5, 0, 5, 0, 5, 0, 0, 9, 0, 0, 12, 2, 0, 8, 0, 8, 8, 8, 0, 7, 0, 7, 0, 7, 7, 7, 7, 7, 7, 7, 9, 9, 2, 9, 5, 5, 5, 0, 5, 0, 5, 0, 0, 9, 0, 0, 12, 3, 0, 8, 0, 8, 8, 8, 0, 7, 0, 7, 0, 7, 7, 7, 7, 7, 7, 7, 9, 9, 2, 9, 5, 5, 5, 0, 5, 0, 5, 0, 0, 9, 0, 0, 12, 4, 0, 8, 0, 8, 8, 8, 0, 7, 0, 7, 0, 7, 7, 7, 7, 7, 7, 7, 9, 9, 2, 9, 5, 5, 5, 0, 5, 0, 5, 0, 0, 9, 0, 0, 12, 5, 0, 8, 0, 8, 8, 8, 0, 7, 0, 7, 0, 7, 7, 7, 11, 9, 9, 9, 30, 7, 1, 1, 0, 0, 2, 0, 0, 5, 0, 5, 0, 5, 0, 0, 0, 0, 1, 1, 0, 0, 0, 0]) [] N t nv
    look [] X = some (.done (.ok (.ret (.int ((st - sumO 6 O).fmod 3) (rtok X)))), [], [], dup (eqsOf X), dupG (gsOf X), dupO (osOf X), ((SumB [O 0, O 1, O 2, O 3, O 4, O 5] ∧ (none : Option Value) = none) ∧ MulB (.ofNat (m 0)) (-1) (O 5) ∧ MulB (.ofNat (m 1)) 1 (O 4) ∧ MulB (.ofNat (m 2)) (-1) (O 3) ∧ MulB (.ofNat (m 3)) 1 (O 2) ∧ MulB (.ofNat (m 4)) (-1) (O 1) ∧ MulB (.ofNat (m 5)) 1 (O 0) ∧ True ∧ True)) := by
  rcases hk with rfl | rfl <;> cases b <;> cases b2 <;> (intro W X; kernel_rfl)
theorem lb_7 (w : World) (b b2 : Bool) (kd : Nat) (hk : kd = 2 ∨ kd = 3) (xs : Nat → FunC) (ys : Nat → LoopC) (q : Nat → Pos) (o : OutA) (cs : List Nat) (τ : Nat) (st : Int) (τs : Nat) (m : Nat → Nat) (O : Nat → Int) (N t : Nat) (p : Pos) (nv : Nv) :
    let W := wld w b b2
    let X := runC (cfgW W (conLB kd xs ys q o cs τ 7 m O)) 646 (ctxLB (belK kd xs ys q o) cs τ st τs) p (match b2 with | true => [0, 0, 1, 1, 1, 1, 0, 1001, 0, 1, 0, 29, 0, 0, 0, 3, 3, 3, 0, 3, 0, 4, 4, 4, 4, 4, 3, 0, 2, 2, 0, 0, 0, 0, 0, 0, 2, 0, 0, 5, 0, 5, 0, 5, 0, 0, 0, 0, 6, 6, 0, 6, 0, 6, 6, 6, 0, 6, 0, 6, 6, 6, 7, 0, 0, 7, 0, 7, 0, 7, 7, 7, 7, 7, 7, 7, 9, 9, 2, 9, 5, 5, 5, 0, 5, 0, 5, 0, 0, 9, 0, 0, 12, 0, 0, 8, 0, 8, 8, 8, 0, 7, 0, 7, 0, 7, 7, 7, 7, 7, 7, 7, 9, 9, 2, 9, 5, 5, 5, 0, 5, 0, 5, 0, 0, 9, 0, 0, 12, 1, 0, 8, 0, 8, 8, 8, 0, 7, 0, 7, 0, 7, 7, 7, 7, 7, 7, 7, 9, 9, 2, 9, 5, 5, 5, 0, 5, 0, 5, 0, 0, 9, 0, 0, 12, 2, 0, 8, 0, 8, 8, 8, 0, 7, 0, 7, 0, 7, 7, 7, 7, 7, 7, 7, 9, 9, 2, 9, 5, 5, 5, 0, 5, 0, 5, 0, 0, 9, 0, 0, 12, 3, 0, 8, 0, 8, 8, 8, 0, 7, 0, 7, 0, 7, 7, 7, 7, 7, 7, 7, 9, 9, 2, 9, 5, 5, 5, 0, 5, 0, 5, 0, 0, 9, 0, 0, 12, 4, 0, 8, 0, 8, 8, 8, 0, 7, 0, 7, 0, 7, 7, 7, 7, 7, 7, 7, 9, 9, 2, 9, 5, 5, 5, 0, 5, 0, 5, 0, 0, 9, 0, 0, 12, 5, 0, 8, 0, 8, 8, 8, 0, 7, 0, 7, 0, 7, 7, 7, 7, 7, 7, 7, 9, 9, 2, 9, 5, 5, 5, 0, 5, 0, 5, 0, 0, 9, 0, 0, 12, 6, 0, 8, 0, 8, 8, 8, 0, 7, 0, 7, 0, 7, 7, 7, 11, 9, 9, 9, 30, 7, 1, 1, 0, 0, 2, 0, 0, 5, 0, 5, 0, 5, 0, 0, 0, 0, 1, 1, 0, 0, 0, 0] | false => [0, 0, 1, 1, 1, 1, 0, 1001, 0, 1, 0, 29, 0, 0, 0, 3, 3, 3, 0, 3, 0, 4, 4, 4, 4, 4, 3, 0, 2, 2, 0, 0, 0, 0, 0, 0, 2, 0, 0, 5, 0, 5, 0, 5, 0, 0, 0, 0, 6, 6, 0, 6, 0, 6, 6, 6, 0, 6, 0, 6, 6, 6, 7, 0, 7, 7, 0, 7, 0, 7, 0, 7, 0, 7, 0, 7, 7, 7, 7, 7, 7, 7, 9, 9, 2, 9, 5, 5, 5, 0, 5, 0, 5, 0, 0, 9, 0, 0, 12, 0, 0, 8, 0, 8, 8, 8, 0, 7, 0, 7, 0, 7, 7, 7, 7, 7, 7, 7, 9, 9, 2, 9, 5, 5, 5, 0, 5, 0, 5, 0, 0, 9, 0, 0, 12, 1, 0, 8, 0, 8, 8, 8, 0, 7, 0, 7, 0, 7, 7, 7, 7, 7, 7, 7, 9, 9, 2, 9, 5, 5, 5, 0, 5, 0, 5, 0, 0, 9, 0, 0, 12, 2, 0, 8, 0, 8, 8, 8, 0, 7, 0, 7, 0, 7, 7, 7, 7, 7, 7, 7, 9, 9, 2, 9, 5, 5, 5, 0, 5, 0, 5, 0, 0, 9, 0, 0, 12, 3, 0, 8, 0, 8, 8, 8, 0, 7, 0, 7, 0, 7, 7, 7, 7, 7, 7, 7, 9, 9, 2, 9, 5, 5, 5, 0, 5, 0, 5, 0, 0, 9, 0, 0, 12, 4, 0, 8, 0, 8, 8, 8, 0, 7, 0, 7, 0, 7, 7, 7, 7, 7, 7, 7, 9, 9, 2, 9, 5, 5, 5, 0, 5, 0, 5, 0, 0, 9, 0, 0, 12, 5, 0, 8, 0, 8, 8, 8, 0, 7, 0, 7, 0, 7, 7, 7, 7, 7, 7, 7, 9, 9, 2, 9, 5, 5, 5, 0, 5, 0, 5, 0, 0, 9, 0, 0, 12, 6, 0, 8, 0, 8, 8, 8, 0, 7, 0, 7, 0, 7, 7, 7, 11, 9, 9, 9, 30, 7, 1, 1, 0, 0, 2, 0, 0, 5, 0, 5, 0, 5, 0, 0, 0, 0, 1, 1, 0, 0, 0, 0]) [] N t nv
    look [] X = some (.done (.ok (.ret (.int ((sumO 7 O - st).fmod 3) (rtok X)))), [], [], dup (eqsOf X), dupG (gsOf X), dupO (osOf X), ((SumB [O 0, O 1, O 2, O 3, O 4, O 5, O 6] ∧ (none : Option Value) = none) ∧ MulB (.ofNat (m 0)) 1 (O 6) ∧ MulB (.ofNat (m 1)) (-1) (O 5) ∧ MulB (.ofNat (m 2)) 1 (O 4) ∧ MulB (.ofNat (m 3)) (-1) (O 3) ∧ MulB (.ofNat (m 4)) 1 (O 2) ∧ MulB (.ofNat (m 5)) (-1) (O 1) ∧ MulB (.ofNat (m 6)) 1 (O 0) ∧ True ∧ True)) := by
  rcases hk with rfl | rfl <;> cases b <;> cases b2 <;> (intro W X; kernel_rfl)
theorem lb_8 (w : World) (b b2 : Bool) (kd : Nat) (hk : kd = 2 ∨ kd = 3) (xs : Nat → FunC) (ys : Nat → LoopC) (q : Nat → Pos) (o : OutA) (cs : List Nat) (τ : Nat) (st : Int) (τs : Nat) (m : Nat → Nat) (O : Nat → Int) (N t : Nat) (p : Pos) (nv : Nv) :
    let W := wld w b b2
    let X := runC (cfgW W (conLB kd xs ys q o cs τ 8 m O)) 703 (ctxLB (belK kd xs ys q o) cs τ st τs) p (match b2 with | true => [0, 0, 1, 1, 1, 1, 0, 1001, 0, 1, 0, 29, 0, 0, 0, 3, 3, 3, 0, 3, 0, 4, 4, 4, 4, 4, 3, 0, 2, 2, 0, 0, 0, 0, 0, 0, 2, 0, 0, 5, 0, 5, 0, 5, 0, 0, 0, 0, 6, 6, 0, 6, 0, 6, 6, 6, 0, 6, 0, 6, 6, 6, 7, 0, 0, 7, 0, 7, 0, 7, 7, 7, 7, 7, 7, 7, 9, 9, 2, 9, 5, 5, 5, 0, 5, 0, 5, 0, 0, 9, 0, 0, 12, 0, 0, 8, 0, 8, 8, 8, 0, 7, 0, 7, 0, 7, 7, 7, 7, 7, 7, 7, 9, 9, 2, 9, 5, 5, 5, 0, 5, 0, 5, 0, 0, 9, 0, 0, 12, 1, 0, 8, 0, 8, 8, 8, 0, 7, 0, 7, 0, 7, 7, 7, 7, 7, 7, 7, 9, 9, 2, 9, 5, 5, 5, 0, 5, 0, 5, 0, 0, 9, 0, 0, 12, 2, 0, 8, 0, 8, 8, 8, 0, 7, 0, 7, 0, 7, 7, 7, 7, 7, 7, 7, 9, 9, 2, 9, 5, 5, 5, 0, 5, 0, 5, 0, 0, 9, 0, 0, 12, 3, 0, 8, 0, 8, 8, 8, 0, 7, 0, 7, 0, 7, 7, 7, 7, 7, 7, 7, 9, 9, 2, 9, 5, 5, 5, 0, 5, 0, 5, 0, 0, 9, 0, 0, 12, 4, 0, 8, 0, 8, 8, 8, 0, 7, 0, 7, 0, 7, 7, 7, 7, 7, 7, 7, 9, 9, 2, 9, 5, 5, 5, 0, 5, 0, 5, 0, 0, 9, 0, 0, 12, 5, 0, 8, 0, 8, 8, 8, 0, 7, 0, 7, 0, 7, 7, 7, 7, 7, 7, 7, 9, 9, 2, 9, 5, 5, 5, 0, 5, 0, 5, 0, 0, 9, 0, 0, 12, 6, 0, 8, 0, 8, 8, 8, 0, 7, 0, 7, 0, 7, 7, 7, 7, 7, 7, 7, 9, 9, 2, 9, 5, 5, 5, 0, 5, 0, 5, 0, 0, 9, 0, 0, 12, 7, 0, 8, 0, 8, 8, 8, 0, 7, 0, 7, 0, 7, 7, 7, 11, 9, 9, 9, 30, 7, 1, 1, 0, 0, 2, 0, 0, 5, 0, 5, 0, 5, 0, 0, 0, 0, 1, 1, 0, 0, 0, 0] | false => [0, 0, 1, 1, 1, 1, 0, 1001, 0, 1, 0, 29, 0, 0, 0, 3, 3, 3, 0, 3, 0, 4, 4, 4, 4, 4, 3, 0, 2, 2, 0, 0, 0, 0, 0, 0, 2, 0, 0, 5, 0, 5, 0, 5, 0, 0, 0, 0, 6, 6, 0, 6, 0, 6, 6, 6, 0, 6, 0, 6, 6, 6, 7, 0, 7, 7, 0, 7, 0, 7, 0, 7, 0, 7, 0, 7, 7, 7, 7, 7, 7, 7, 9, 9, 2, 9, 5, 5, 5, 0, 5, 0, 5, 0, 0, 9, 0, 0, 12, 0, 0, 8, 0, 8, 8, 8, 0, 7, 0, 7, 0, 7, 7, 7, 7, 7, 7, 7, 9, 9, 2, 9, 5, 5, 5, 0, 5, 0, 5, 0, 0, 9, 0, 0, 12, 1, 0, 8, 0, 8, 8, 8, 0, 7, 0, 7, 0, 7, 7, 7, 7, 7, 7, 7, 9, 9, 2, 9, 5, 5, 5, 0, 5, 0, 5, 0, 0, 9, 0, 0, 12, 2, 0, 8, 0, 8, 8, 8, 0, 7, 0, 7, 0, 7, 7, 7, 7, 7, 7, 7, 9, 9, 2, 9, 5, 5, 5, 0, 5, 0, 5, 0, 0, 9, 0, 0, 12, 3, 0, 8, 0, 8, 8, 8, 0, 7, 0, 7, 0, 7, 7, 7, 7, 7, 7, 7, 9, 9, 2, 9, 5, 5, 5, 0, 5, 0, 5, 0, 0, 9, 0, 0, 12, 4, 0, 8, 0, 8, 8, 8, 0, 7, 0, 7, 0, 7, 7, 7, 7, 7, 7, 7, 9, 9, 2, 9, 5, 5, 5, 0, 5, 0, 5, 0, 0, 9, 0, 0, 12, 5, 0, 8, 0, 8, 8, 8, 0, 7, 0, 7, 0, 7, 7, 7, 7, 7, 7, 7, 9, 9, 2, 9, 5, 5, 5, 0, 5, 0, 5, 0, 0, 9, 0, 0, 12, 6, 0, 8, 0, 8, 8, 8, 0, 7, 0, 7, 0, 7, 7, 7, 7, 7, 7, 7, 9, 9, 2, 9, 5, 5, 5, 0, 5, 0, 5, 0, 0, 9, 0, 0, 12, 7, 0, 8, 0, 8, 8, 8, 0, 7, 0, 7, 0, 7, 7, 7, 11, 9, 9, 9, 30, 7, 1, 1, 0, 0, 2, 0, 0, 5, 0, 5, 0, 5, 0, 0, 0, 0, 1, 1, 0, 0, 0, 0]) [] N t nv
    look [] X = some (.done (.ok (.ret (.int ((st - sumO 8 O).fmod 3) (rtok X)))), [], [], dup (eqsOf X), dupG (gsOf X), dupO (osOf X), ((SumB [O 0, O 1, O 2, O 3, O 4, O 5, O 6, O 7] ∧ (none : Option Value) = none) ∧ MulB (.ofNat (m 0)) (-1) (O 7) ∧ MulB (.ofNat (m 1)) 1 (O 6) ∧ MulB (.ofNat (m 2)) (-1) (O 5) ∧ MulB (.ofNat (m 3)) 1 (O 4) ∧ MulB (.ofNat (m 4)) (-1) (O 3) ∧ MulB (.ofNat (m 5)) 1 (O 2) ∧ MulB (.ofNat (m 6)) (-1) (O 1) ∧ MulB (.ofNat (m 7)) 1 (O 0) ∧ True ∧ True)) := by
  rcases hk with rfl | rfl <;> cases b <;> cases b2 <;> (intro W X; kernel_rfl)
theorem lb_9 (w : World) (b b2 : Bool) (kd : Nat) (hk : kd = 2 ∨ kd = 3) (xs : Nat → FunC) (ys : Nat → LoopC) (q : Nat → Pos) (o : OutA) (cs : List Nat) (τ : Nat) (st : Int) (τs : Nat) (m : Nat → Nat) (O : Nat → Int) (N t : Nat) (p : Pos) (nv : Nv) :
    let W := wld w b b2
    let X := runC (cfgW W (conLB kd xs ys q o cs τ 9 m O)) 760 (ctxLB (belK kd xs ys q o) cs τ st τs) p (match b2 with | true => [0, 0, 1, 1, 1, 1, 0, 1001, 0, 1, 0, 29, 0, 0, 0, 3, 3, 3, 0, 3, 0, 4, 4, 4, 4, 4, 3, 0, 2, 2, 0, 0, 0, 0, 0, 0, 2, 0, 0, 5, 0, 5, 0, 5, 0, 0, 0, 0, 6, 6, 0, 6, 0, 6, 6, 6, 0, 6, 0, 6, 6, 6, 7, 0, 0, 7, 0, 7, 0, 7, 7, 7, 7, 7, 7, 7, 9, 9, 2, 9, 5, 5, 5, 0, 5, 0, 5, 0, 0, 9, 0, 0, 12, 0, 0, 8, 0, 8, 8, 8, 0, 7, 0, 7, 0, 7, 7, 7, 7, 7, 7, 7, 9, 9, 2, 9, 5, 5, 5, 0, 5, 0, 5, 0, 0, 9, 0, 0, 12, 1, 0, 8, 0, 8, 8, 8, 0, 7, 0, 7, 0, 7, 7, 7, 7, 7, 7, 7, 9, 9, 2, 9, 5, 5, 5, 0, 5, 0, 5, 0, 0, 9, 0, 0, 12, 2, 0, 8, 0, 8, 8, 8, 0, 7, 0, 7, 0, 7, 7, 7, 7, 7, 7, 7, 9, 9, 2, 9, 5, 5, 5, 0, 5, 0, 5, 0, 0, 9, 0, 0, 12, 3, 0, 8, 0, 8, 8, 8, 0, 7, 0, 7, 0, 7, 7, 7, 7, 7, 7, 7, 9, 9, 2, 9, 5, 5, 5, 0, 5, 0, 5, 0, 0, 9, 0, 0, 12, 4, 0, 8, 0, 8, 8, 8, 0, 7, 0, 7, 0, 7, 7, 7, 7, 7, 7, 7, 9, 9, 2, 9, 5, 5, 5, 0, 5, 0, 5, 0, 0, 9, 0, 0, 12, 5, 0, 8, 0, 8, 8, 8, 0, 7, 0, 7, 0, 7, 7, 7, 7, 7, 7, 7, 9, 9, 2, 9, 5, 5, 5, 0, 5, 0, 5, 0, 0, 9, 0, 0, 12, 6, 0, 8, 0, 8, 8, 8, 0, 7, 0, 7, 0, 7, 7, 7, 7, 7, 7, 7, 9, 9, 2, 9, 5, 5, 5, 0, 5, 0, 5, 0, 0, 9, 0, 0, 12, 7, 0, 8, 0, 8, 8, 8, 0, 7, 0, 7, 0, 7, 7, 7, 7, 7, 7, 7, 9, 9, 2, 9, 5, 5, 5, 0, 5, 0, 5, 0, 0, 9, 0, 0, 12, 8, 0, 8, 0, 8, 8, 8, 0, 7, 0, 7, 0, 7, 7, 7, 11, 9, 9, 9, 30, 7, 1, 1, 0, 0, 2, 0, 0, 5, 0, 5, 0, 5, 0, 0, 0, 0, 1, 1, 0, 0, 0, 0] | false => [0, 0, 1, 1, 1, 1, 0, 1001, 0, 1, 0, 29, 0, 0, 0, 3, 3, 3, 0, 3, 0, 4, 4, 4, 4, 4, 3, 0, 2, 2, 0, 0, 0, 0, 0, 0, 2, 0, 0, 5, 0, 5, 0, 5, 0, 0, 0, 0, 6, 6, 0, 6, 0, 6, 6, 6, 0, 6, 0, 6, 6, 6, 7, 0, 7, 7, 0, 7, 0, 7, 0, 7, 0, 7, 0, 7, 7, 7, 7, 7, 7, 7, 9, 9, 2, 9, 5, 5, 5, 0, 5, 0, 5, 0, 0, 9, 0, 0, 12, 0, 0, 8, 0, 8, 8, 8, 0, 7, 0, 7, 0, 7, 7, 7, 7, 7, 7, 7, 9, 9, 2, 9, 5, 5, 5, 0, 5, 0, 5, 0, 0, 9, 0, 0, 12, 1, 0, 8, 0, 8, 8, 8, 0, 7, 0, 7, 0, 7, 7, 7, 7, 7, 7, 7, 9, 9, 2, 9, 5, 5, 5, 0, 5, 0, 5, 0, 0, 9, 0, 0, 12, 2, 0, 8, 0, 8, 8, 8, 0, 7, 0, 7, 0, 7, 7, 7, 7, 7, 7, 7, 9, 9, 2, 9, 5, 5, 5, 0, 5, 0, 5, 0, 0, 9, 0, 0, 12, 3, 0, 8, 0, 8, 8, 8, 0, 7, 0, 7, 0, 7, 7, 7, 7, 7, 7, 7, 9, 9, 2, 9, 5, 5, 5, 0, 5, 0, 5, 0, 0, 9, 0, 0, 12, 4, 0, 8, 0, 8, 8, 8, 0, 7, 0, 7, 0, 7, 7, 7, 7, 7, 7, 7, 9, 9, 2, 9, 5, 5, 5, 0, 5, 0, 5, 0, 0, 9, 0, 0, 12, 5, 0, 8, 0, 8, 8, 8, 0, 7, 0, 7, 0, 7, 7, 7, 7, 7, 7, 7, 9, 9, 2, 9, 5, 5, 5, 0, 5, 0, 5, 0, 0, 9, 0, 0, 12, 6, 0, 8, 0, 8, 8, 8, 0, 7, 0, 7, 0, 7, 7, 7, 7, 7, 7, 7, 9, 9, 2, 9, 5, 5, 5, 0, 5, 0, 5, 0, 0, 9, 0, 0, 12, 7, 0, 8, 0, 8, 8, 8, 0, 7, 0, 7, 0, 7, 7, 7, 7, 7, 7, 7, 9, 9, 2, 9, 5, 5, 5, 0, 5, 0, 5, 0, 0, 9, 0, 0, 12, 8, 0, 8, 0, 8, 8, 8, 0, 7, 0, 7, 0, 7, 7, 7, 11, 9, 9, 9, 30, 7, 1, 1, 0, 0, 2, 0, 0, 5, 0, 5, 0, 5, 0, 0, 0, 0, 1, 1, 0, 0, 0, 0]) [] N t nv
    look [] X = some (.done (.ok (.ret (.int ((sumO 9 O - st).fmod 3) (rtok X)))), [], [], dup (eqsOf X), dupG (gsOf X), dupO (osOf X), ((SumB [O 0, O 1, O 2, O 3, O 4, O 5, O 6, O 7, O 8] ∧ (none : Option Value) = none) ∧ MulB (.ofNat (m 0)) 1 (O 8) ∧ MulB (.ofNat (m 1)) (-1) (O 7) ∧ MulB (.ofNat (m 2)) 1 (O 6) ∧ MulB (.ofNat (m 3)) (-1) (O 5) ∧ MulB (.ofNat (m 4)) 1 (O 4) ∧ MulB (.ofNat (m 5)) (-1) (O 3) ∧ MulB (.ofNat (m 6)) 1 (O 2) ∧ MulB (.ofNat (m 7)) (-1) (O 1) ∧ MulB (.ofNat (m 8)) 1 (O 0) ∧ True ∧ True)) := by
  rcases hk with rfl | rfl <;> cases b <;> cases b2 <;> (intro W X; kernel_rfl)
theorem lb_10 (w : World) (b b2 : Bool) (kd : Nat) (hk : kd = 2 ∨ kd = 3) (xs : Nat → FunC) (ys : Nat → LoopC) (q : Nat → Pos) (o : OutA) (cs : List Nat) (τ : Nat) (st : Int) (τs : Nat) (m : Nat → Nat) (O : Nat → Int) (N t : Nat) (p : Pos) (nv : Nv) :
    let W := wld w b b2
    let X := runC (cfgW W (conLB kd xs ys q o cs τ 10 m O)) 817 (ctxLB (belK kd xs ys q o) cs τ st τs) p (match b2 with | true => [0, 0, 1, 1, 1, 1, 0, 1001, 0, 1, 0, 29, 0, 0, 0, 3, 3, 3, 0, 3, 0, 4, 4, 4, 4, 4, 3, 0, 2, 2, 0, 0, 0, 0, 0, 0, 2, 0, 0, 5, 0, 5, 0, 5, 0, 0, 0, 0, 6, 6, 0, 6, 0, 6, 6, 6, 0, 6, 0, 6, 6, 6, 7, 0, 0, 7, 0, 7, 0, 7, 7, 7, 7, 7, 7, 7, 9, 9, 2, 9, 5, 5, 5, 0, 5, 0, 5, 0, 0, 9, 0, 0, 12, 0, 0, 8, 0, 8, 8, 8, 0, 7, 0, 7, 0, 7, 7, 7, 7, 7, 7, 7, 9, 9, 2, 9, 5, 5, 5, 0, 5, 0, 5, 0, 0, 9, 0, 0, 12, 1, 0, 8, 0, 8, 8, 8, 0, 7, 0, 7, 0, 7, 7, 7, 7, 7, 7, 7, 9, 9, 2, 9, 5, 5, 5, 0, 5, 0, 5, 0, 0, 9, 0, 0, 12, 2, 0, 8, 0, 8, 8, 8, 0, 7, 0, 7, 0, 7, 7, 7, 7, 7, 7, 7, 9, 9, 2, 9, 5, 5, 5, 0, 5, 0, 5, 0, 0, 9, 0, 0, 12, 3, 0, 8, 0, 8, 8, 8, 0, 7, 0, 7, 0, 7, 7, 7, 7, 7, 7, 7, 9, 9, 2, 9, 5, 5, 5, 0, 5, 0, 5, 0, 0, 9, 0, 0, 12, 4, 0, 8, 0, 8, 8, 8, 0, 7, 0, 7, 0, 7, 7, 7, 7, 7, 7, 7, 9, 9, 2, 9, 5, 5, 5, 0, 5, 0, 5, 0, 0, 9, 0, 0, 12, 5, 0, 8, 0, 8, 8, 8, 0, 7, 0, 7, 0, 7, 7, 7, 7, 7, 7, 7, 9, 9, 2, 9, 5, 5, 5, 0, 5, 0, 5, 0, 0, 9, 0, 0, 12, 6, 0, 8, 0, 8, 8, 8, 0, 7, 0, 7, 0, 7, 7, 7, 7, 7, 7, 7, 9, 9, 2, 9, 5, 5, 5, 0, 5, 0, 5, 0, 0, 9, 0, 0, 12, 7, 0, 8, 0, 8, 8, 8, 0, 7, 0, 7, 0, 7, 7, 7, 7, 7, 7, 7, 9, 9, 2, 9, 5, 5, 5, 0, 5, 0, 5, 0, 0, 9, 0, 0, 12, 8, 0, 8, 0, 8, 8, 8, 0, 7, 0, 7, 0, 7, 7, 7, 7, 7, 7, 7, 9, 9, 2, 9, 5, 5, 5, 0, 5, 0, 5, 0, 0, 9, 0, 0, 12, 9, 0, 8, 0, 8, 8, 8, 0, 7, 0, 7, 0, 7, 7, 7, 11, 9, 9, 9, 30, 7, 1, 1, 0, 0, 2, 0, 0, 5, 0, 5, 0, 5, 0, 0, 0, 0, 1, 1, 0, 0, 0, 0] | false => [0, 0, 1, 1, 1, 1, 0, 1001, 0, 1, 0, 29, 0, 0, 0, 3, 3, 3, 0, 3, 0, 4, 4, 4, 4, 4, 3, 0, 2, 2, 0, 0, 0, 0, 0, 0, 2, 0, 0, 5, 0, 5, 0, 5, 0, 0, 0, 0, 6, 6, 0, 6, 0, 6, 6, 6, 0, 6, 0, 6, 6, 6, 7, 0, 7, 7, 0, 7, 0, 7, 0, 7, 0, 7, 0, 7, 7, 7, 7, 7, 7, 7, 9, 9, 2, 9, 5, 5, 5, 0, 5, 0, 5, 0, 0, 9, 0, 0, 12, 0, 0, 8, 0, 8, 8, 8, 0, 7, 0, 7, 0, 7, 7, 7, 7, 7, 7, 7, 9, 9, 2, 9, 5, 5, 5, 0, 5, 0, 5, 0, 0, 9, 0, 0, 12, 1, 0, 8, 0, 8, 8, 8, 0, 7, 0, 7, 0, 7, 7, 7, 7, 7, 7, 7, 9, 9, 2, 9, 5, 5, 5, 0, 5, 0, 5, 0, 0, 9, 0, 0, 12, 2, 0, 8, 0, 8, 8, 8, 0, 7, 0, 7, 0, 7, 7, 7, 7, 7, 7, 7, 9, 9, 2, 9, 5, 5, 5, 0, 5, 0, 5, 0, 0, 9, 0, 0, 12, 3, 0, 8, 0, 8, 8, 8, 0, 7, 0, 7, 0, 7, 7, 7, 7, 7, 7, 7, 9, 9, 2, 9, 5, 5, 5, 0, 5, 0, 5, 0, 0, 9, 0, 0, 12, 4, 0, 8, 0, 8, 8, 8, 0, 7, 0, 7, 0, 7, 7, 7, 7, 7, 7, 7, 9, 9, 2, 9, 5, 5, 5, 0, 5, 0, 5, 0, 0, 9, 0, 0, 12, 5, 0, 8, 0, 8, 8, 8, 0, 7, 0, 7, 0, 7, 7, 7, 7, 7, 7, 7, 9, 9, 2, 9, 5, 5, 5, 0, 5, 0, 5, 0, 0, 9, 0, 0, 12, 6, 0, 8, 0, 8, 8, 8, 0, 7, 0, 7, 0, 7, 7, 7, 7, 7, 7, 7, 9, 9, 2, 9, 5, 5, 5, 0, 5, 0, 5, 0, 0, 9, 0, 0, 12, 7, 0, 8, 0, 8, 8, 8, 0, 7, 0, 7, 0, 7, 7, 7, 7, 7, 7, 7, 9, 9, 2, 9, 5, 5, 5, 0, 5, 0, 5, 0, 0, 9, 0, 0, 12, 8, 0, 8, 0, 8, 8, 8, 0, 7, 0, 7, 0, 7, 7, 7, 7, 7, 7, 7, 9, 9, 2, 9, 5, 5, 5, 0, 5, 0, 5, 0, 0, 9, 0, 0, 12, 9, 0, 8, 0, 8, 8, 8, 0, 7, 0, 7, 0, 7, 7, 7, 11, 9, 9, 9, 30, 7, 1, 1, 0, 0, 2, 0, 0, 5, 0, 5, 0, 5, 0, 0, 0, 0, 1, 1, 0, 0, 0, 0]) [] N t nv
    look [] X = some (.done (.ok (.ret (.int ((st - sumO 10 O).fmod 3) (rtok X)))), [], [], dup (eqsOf X), dupG (gsOf X), dupO (osOf X), ((SumB [O 0, O 1, O 2, O 3, O 4, O 5, O 6, O 7, O 8, O 9] ∧ (none : Option Value) = none) ∧ MulB (.ofNat (m 0)) (-1) (O 9) ∧ MulB (.ofNat (m 1)) 1 (O 8) ∧ MulB (.ofNat (m 2)) (-1) (O 7) ∧ MulB (.ofNat (m 3)) 1 (O 6) ∧ MulB (.ofNat (m 4)) (-1) (O 5) ∧ MulB (.ofNat (m 5)) 1 (O 4) ∧ MulB (.ofNat (m 6)) (-1) (O 3) ∧ MulB (.ofNat (m 7)) 1 (O 2) ∧ MulB (.ofNat (m 8)) (-1) (O 1) ∧ MulB (.ofNat (m 9)) 1 (O 0) ∧ True ∧ True)) := by
  rcases hk with rfl | rfl <;> cases b <;> cases b2 <;> (intro W X; kernel_rfl)
theorem lb_11 (w : World) (b b2 : Bool) (kd : Nat) (hk : kd = 2 ∨ kd = 3) (xs : Nat → FunC) (ys : Nat → LoopC) (q : Nat → Pos) (o : OutA) (cs : List Nat) (τ : Nat) (st : Int) (τs : Nat) (m : Nat → Nat) (O : Nat → Int) (N t : Nat) (p : Pos) (nv : Nv) :
    let W := wld w b b2
    let X := runC (cfgW W (conLB kd xs ys q o cs τ 11 m O)) 874 (ctxLB (belK kd xs ys q o) cs τ st τs) p (match b2 with | true => [0, 0, 1, 1, 1, 1, 0, 1001, 0, 1, 0, 29, 0, 0, 0, 3, 3, 3, 0, 3, 0, 4, 4, 4, 4, 4, 3, 0, 2, 2, 0, 0, 0, 0, 0, 0, 2, 0, 0, 5, 0, 5, 0, 5, 0, 0, 0, 0, 6, 6, 0, 6, 0, 6, 6, 6, 0, 6, 0, 6, 6, 6, 7, 0, 0, 7, 0, 7, 0, 7, 7, 7, 7, 7, 7, 7, 9, 9, 2, 9, 5, 5, 5, 0, 5, 0, 5, 0, 0, 9, 0, 0, 12, 0, 0, 8, 0, 8, 8, 8, 0, 7, 0, 7, 0, 7, 7, 7, 7, 7, 7, 7, 9, 9, 2, 9, 5, 5, 5, 0, 5, 0, 5, 0, 0, 9, 0, 0, 12, 1, 0, 8, 0, 8, 8, 8, 0, 7, 0, 7, 0, 7, 7, 7, 7, 7, 7, 7, 9, 9, 2, 9, 5, 5, 5, 0, 5, 0, 5, 0, 0, 9, 0, 0, 12, 2, 0, 8, 0, 8, 8, 8, 0, 7, 0, 7, 0, 7, 7, 7, 7, 7, 7, 7, 9, 9, 2, 9, 5, 5, 5, 0, 5, 0, 5, 0, 0, 9, 0, 0, 12, 3, 0, 8, 0, 8, 8, 8, 0, 7, 0, 7, 0, 7, 7, 7, 7, 7, 7, 7, 9, 9, 2, 9, 5, 5, 5, 0, 5, 0, 5, 0, 0, 9, 0, 0, 12, 4, 0, 8, 0, 8, 8, 8, 0, 7, 0, 7, 0, 7, 7, 7, 7, 7, 7, 7, 9, 9, 2, 9, 5, 5, 5, 0, 5, 0, 5, 0, 0, 9, 0, 0, 12, 5, 0, 8, 0, 8, 8, 8, 0, 7, 0, 7, 0, 7, 7, 7, 7, 7, 7, 7, 9, 9, 2, 9, 5, 5, 5, 0, 5, 0, 5, 0, 0, 9, 0, 0, 12, 6, 0, 8, 0, 8, 8, 8, 0, 7, 0, 7, 0, 7, 7, 7, 7, 7, 7, 7, 9, 9, 2, 9, 5, 5, 5, 0, 5, 0, 5, 0, 0, 9, 0, 0, 12, 7, 0, 8, 0, 8, 8, 8, 0, 7, 0, 7, 0, 7, 7, 7, 7, 7, 7, 7, 9, 9, 2, 9, 5, 5, 5, 0, 5, 0, 5, 0, 0, 9, 0, 0, 12, 8, 0, 8, 0, 8, 8, 8, 0, 7, 0, 7, 0, 7, 7, 7, 7, 7, 7, 7, 9, 9, 2, 9, 5, 5, 5, 0, 5, 0, 5, 0, 0, 9, 0, 0, 12, 9, 0, 8, 0, 8, 8, 8, 0, 7, 0, 7, 0, 7, 7, 7, 7, 7, 7, 7, 9, 9, 2, 9, 5, 5, 5, 0, 5, 0, 5, 0, 0, 9, 0, 0, 12, 10, 0, 8, 0, 8, 8, 8, 0, 7, 0, 7, 0, 7, 7, 7, 11, 9, 9, 9, 30, 7, 1, 1, 0, 0, 2, 0, 0, 5, 0, 5, 0, 5, 0, 0, 0, 0, 1, 1, 0, 0, 0, 0] | false => [0, 0, 1, 1, 1, 1, 0, 1001, 0, 1, 0, 29, 0, 0, 0, 3, 3, 3, 0, 3, 0, 4, 4, 4, 4, 4, 3, 0, 2, 2, 0, 0, 0, 0, 0, 0, 2, 0, 0, 5, 0, 5, 0, 5, 0, 0, 0, 0, 6, 6, 0, 6, 0, 6, 6, 6, 0, 6, 0, 6, 6, 6, 7, 0, 7, 7, 0, 7, 0, 7, 0, 7, 0, 7, 0, 7, 7, 7, 7, 7, 7, 7, 9, 9, 2, 9, 5, 5, 5, 0, 5, 0, 5, 0, 0, 9, 0, 0, 12, 0, 0, 8, 0, 8, 8, 8, 0, 7, 0, 7, 0, 7, 7, 7, 7, 7, 7, 7, 9, 9, 2, 9, 5, 5, 5, 0, 5, 0, 5, 0, 0, 9, 0, 0, 12, 1, 0, 8, 0, 8, 8, 8, 0, 7, 0, 7, 0, 7, 7, 7, 7, 7, 7, 7, 9, 9, 2, 9, 5, 5, 5, 0, 5, 0, 5, 0, 0, 9, 0, 0, 12, 2, 0, 8, 0, 8, 8, 8, 0, 7, 0, 7, 0, 7, 7, 7, 7, 7, 7, 7, 9, 9, 2, 9, 5, 5, 5, 0, 5, 0, 5, 0, 0, 9, 0, 0, 12, 3, 0, 8, 0, 8, 8, 8, 0, 7, 0, 7, 0, 7, 7, 7, 7, 7, 7, 7, 9, 9, 2, 9, 5, 5, 5, 0, 5, 0, 5, 0, 0, 9, 0, 0, 12, 4, 0, 8, 0, 8, 8, 8, 0, 7, 0, 7, 0, 7, 7, 7, 7, 7, 7, 7, 9, 9, 2, 9, 5, 5, 5, 0, 5, 0, 5, 0, 0, 9, 0, 0, 12, 5, 0, 8, 0, 8, 8, 8, 0, 7, 0, 7, 0, 7, 7, 7, 7, 7, 7, 7, 9, 9, 2, 9, 5, 5, 5, 0, 5, 0, 5, 0, 0, 9, 0, 0, 12, 6, 0, 8, 0, 8, 8, 8, 0, 7, 0, 7, 0, 7, 7, 7, 7, 7, 7, 7, 9, 9, 2, 9, 5, 5, 5, 0, 5, 0, 5, 0, 0, 9, 0, 0, 12, 7, 0, 8, 0, 8, 8, 8, 0, 7, 0, 7, 0, 7, 7, 7, 7, 7, 7, 7, 9, 9, 2, 9, 5, 5, 5, 0, 5, 0, 5, 0, 0, 9, 0, 0, 12, 8, 0, 8, 0, 8, 8, 8, 0, 7, 0, 7, 0, 7, 7, 7, 7, 7, 7, 7, 9, 9, 2, 9, 5, 5, 5, 0, 5, 0, 5, 0, 0, 9, 0, 0, 12, 9, 0, 8, 0, 8, 8, 8, 0, 7, 0, 7, 0, 7, 7, 7, 7, 7, 7, 7, 9, 9, 2, 9, 5, 5, 5, 0, 5, 0, 5, 0, 0, 9, 0, 0, 12, 10, 0, 8, 0, 8, 8, 8, 0, 7, 0, 7, 0, 7, 7, 7, 11, 9, 9, 9, 30, 7, 1, 1, 0, 0, 2, 0, 0, 5, 0, 5, 0, 5, 0, 0, 0, 0, 1, 1, 0, 0, 0, 0]) [] N t nv
    look [] X = some (.done (.ok (.ret (.int ((sumO 11 O - st).fmod 3) (rtok X)))), [], [], dup (eqsOf X), dupG (gsOf X), dupO (osOf X), ((SumB [O 0, O 1, O 2, O 3, O 4, O 5, O 6, O 7, O 8, O 9, O 10] ∧ (none : Option Value) = none) ∧ MulB (.ofNat (m 0)) 1 (O 10) ∧ MulB (.ofNat (m 1)) (-1) (O 9) ∧ MulB (.ofNat (m 2)) 1 (O 8) ∧ MulB (.ofNat (m 3)) (-1) (O 7) ∧ MulB (.ofNat (m 4)) 1 (O 6) ∧ MulB (.ofNat (m 5)) (-1) (O 5) ∧ MulB (.ofNat (m 6)) 1 (O 4) ∧ MulB (.ofNat (m 7)) (-1) (O 3) ∧ MulB (.ofNat (m 8)) 1 (O 2) ∧ MulB (.ofNat (m 9)) (-1) (O 1) ∧ MulB (.ofNat (m 10)) 1 (O 0) ∧ True ∧ True)) := by
  rcases hk with rfl | rfl <;> cases b <;> cases b2 <;> (intro W X; kernel_rfl)
theorem lb_12 (w : World) (b b2 : Bool) (kd : Nat) (hk : kd = 2 ∨ kd = 3) (xs : Nat → FunC) (ys : Nat → LoopC) (q : Nat → Pos) (o : OutA) (cs : List Nat) (τ : Nat) (st : Int) (τs : Nat) (m : Nat → Nat) (O : Nat → Int) (N t : Nat) (p : Pos) (nv : Nv) :
    let W := wld w b b2
    let X := runC (cfgW W (conLB kd xs ys q o cs τ 12 m O)) 931 (ctxLB (belK kd xs ys q o) cs τ st τs) p (match b2 with | true => [0, 0, 1, 1, 1, 1, 0, 1001, 0, 1, 0, 29, 0, 0, 0, 3, 3, 3, 0, 3, 0, 4, 4, 4, 4, 4, 3, 0, 2, 2, 0, 0, 0, 0, 0, 0, 2, 0, 0, 5, 0, 5, 0, 5, 0, 0, 0, 0, 6, 6, 0, 6, 0, 6, 6, 6, 0, 6, 0, 6, 6, 6, 7, 0, 0, 7, 0, 7, 0, 7, 7, 7, 7, 7, 7, 7, 9, 9, 2, 9, 5, 5, 5, 0, 5, 0, 5, 0, 0, 9, 0, 0, 12, 0, 0, 8, 0, 8, 8, 8, 0, 7, 0, 7, 0, 7, 7, 7, 7, 7, 7, 7, 9, 9, 2, 9, 5, 5, 5, 0, 5, 0, 5, 0, 0, 9, 0, 0, 12, 1, 0, 8, 0, 8, 8, 8, 0, 7, 0, 7, 0, 7, 7, 7, 7, 7, 7, 7, 9, 9, 2, 9, 5, 5, 5, 0, 5, 0, 5, 0, 0, 9, 0, 0, 12, 2, 0, 8, 0, 8, 8, 8, 0, 7, 0, 7, 0, 7, 7, 7, 7, 7, 7, 7, 9, 9, 2, 9, 5, 5, 5, 0, 5, 0, 5, 0, 0, 9, 0, 0, 12, 3, 0, 8, 0, 8, 8, 8, 0, 7, 0, 7, 0, 7, 7, 7, 7, 7, 7, 7, 9, 9, 2, 9, 5, 5, 5, 0, 5, 0, 5, 0, 0, 9, 0, 0, 12, 4, 0, 8, 0, 8, 8, 8, 0, 7, 0, 7, 0, 7, 7, 7, 7, 7, 7, 7, 9, 9, 2, 9, 5, 5, 5, 0, 5, 0, 5, 0, 0, 9, 0, 0, 12, 5, 0, 8, 0, 8, 8, 8, 0, 7, 0, 7, 0, 7, 7, 7, 7, 7, 7, 7, 9, 9, 2, 9, 5, 5, 5, 0, 5, 0, 5, 0, 0, 9, 0, 0, 12, 6, 0, 8, 0, 8, 8, 8, 0, 7, 0, 7, 0, 7, 7, 7, 7, 7, 7, 7, 9, 9, 2, 9, 5, 5, 5, 0, 5, 0, 5, 0, 0, 9, 0, 0, 12, 7, 0, 8, 0, 8, 8, 8, 0, 7, 0, 7, 0, 7, 7, 7, 7, 7, 7, 7, 9, 9, 2, 9, 5, 5, 5, 0, 5, 0, 5, 0, 0, 9, 0, 0, 12, 8, 0, 8, 0, 8, 8, 8, 0, 7, 0, 7, 0, 7, 7, 7, 7, 7, 7, 7, 9, 9, 2, 9, 5, 5, 5, 0, 5, 0, 5, 0, 0, 9, 0, 0, 12, 9, 0, 8, 0, 8, 8, 8, 0, 7, 0, 7, 0, 7, 7, 7, 7, 7, 7, 7, 9, 9, 2, 9, 5, 5, 5, 0, 5, 0, 5, 0, 0, 9, 0, 0, 12, 10, 0, 8, 0, 8, 8, 8, 0, 7, 0, 7, 0, 7, 7, 7, 7, 7, 7, 7, 9, 9, 2, 9, 5, 5, 5, 0, 5, 0, 5, 0, 0, 9, 0, 0, 12, 11, 0, 8, 0, 8, 8, 8, 0, 7, 0, 7, 0, 7, 7, 7, 11, 9, 9, 9, 30, 7, 1, 1, 0, 0, 2, 0, 0, 5, 0, 5, 0, 5, 0, 0, 0, 0, 1, 1, 0, 0, 0, 0] | false => [0, 0, 1, 1, 1, 1, 0, 1001, 0, 1, 0, 29, 0, 0, 0, 3, 3, 3, 0, 3, 0, 4, 4, 4, 4, 4, 3, 0, 2, 2, 0, 0, 0, 0, 0, 0, 2, 0, 0, 5, 0, 5, 0, 5, 0, 0, 0, 0, 6, 6, 0, 6, 0, 6, 6, 6, 0, 6, 0, 6, 6, 6, 7, 0, 7, 7, 0, 7, 0, 7, 0, 7, 0, 7, 0, 7, 7, 7, 7, 7, 7, 7, 9, 9, 2, 9, 5, 5, 5, 0, 5, 0, 5, 0, 0, 9, 0, 0, 12, 0, 0, 8, 0, 8, 8, 8, 0, 7, 0, 7, 0, 7, 7, 7, 7, 7, 7, 7, 9, 9, 2, 9, 5, 5, 5, 0, 5, 0, 5, 0, 0, 9, 0, 0, 12, 1, 0, 8, 0, 8, 8, 8, 0, 7, 0, 7, 0, 7, 7, 7, 7, 7, 7, 7, 9, 9, 2, 9, 5, 5, 5, 0, 5, 0, 5, 0, 0, 9, 0, 0, 12, 2, 0, 8, 0, 8, 8, 8, 0, 7, 0, 7, 0, 7, 7, 7, 7, 7, 7, 7, 9, 9, 2, 9, 5, 5, 5, 0, 5, 0, 5, 0, 0, 9, 0, 0, 12, 3, 0, 8, 0, 8, 8, 8, 0, 7, 0, 7, 0, 7, 7, 7, 7, 7, 7, 7, 9, 9, 2, 9, 5, 5, 5, 0, 5, 0, 5, 0, 0, 9, 0, 0, 12, 4, 0, 8, 0, 8, 8, 8, 0, 7, 0, 7, 0, 7, 7, 7, 7, 7, 7, 7, 9, 9, 2, 9, 5, 5, 5, 0, 5, 0, 5, 0, 0, 9, 0, 0, 12, 5, 0, 8, 0, 8, 8, 8, 0, 7, 0, 7, 0, 7, 7, 7, 7, 7, 7, 7, 9, 9, 2, 9, 5, 5, 5, 0, 5, 0, 5, 0, 0, 9, 0, 0, 12, 6, 0, 8, 0, 8, 8, 8, 0, 7, 0, 7, 0, 7, 7, 7, 7, 7, 7, 7, 9, 9, 2, 9, 5, 5, 5, 0, 5, 0, 5, 0, 0, 9, 0, 0, 12, 7, 0, 8, 0, 8, 8, 8, 0, 7, 0, 7, 0, 7, 7, 7, 7, 7, 7, 7, 9, 9, 2, 9, 5, 5, 5, 0, 5, 0, 5, 0, 0, 9, 0, 0, 12, 8, 0, 8, 0, 8, 8, 8, 0, 7, 0, 7, 0, 7, 7, 7, 7, 7, 7, 7, 9, 9, 2, 9, 5, 5, 5, 0, 5, 0, 5, 0, 0, 9, 0, 0, 12, 9, 0, 8, 0, 8, 8, 8, 0, 7, 0, 7, 0, 7, 7, 7, 7, 7, 7, 7, 9, 9, 2, 9, 5, 5, 5, 0, 5, 0, 5, 0, 0, 9, 0, 0, 12, 10, 0, 8, 0, 8, 8, 8, 0, 7, 0, 7, 0, 7, 7, 7, 7, 7, 7, 7, 9, 9, 2, 9, 5, 5, 5, 0, 5, 0, 5, 0, 0, 9, 0, 0, 12, 11, 0, 8, 0, 8, 8, 8, 0, 7, 0, 7, 0, 7, 7, 7, 11, 9, 9, 9, 30, 7, 1, 1, 0, 0, 2, 0, 0, 5, 0, 5, 0, 5, 0, 0, 0, 0, 1, 1, 0, 0, 0, 0]) [] N t nv
    look [] X = some (.done (.ok (.ret (.int ((st - sumO 12 O).fmod 3) (rtok X)))), [], [], dup (eqsOf X), dupG (gsOf X), dupO (osOf X), ((SumB [O 0, O 1, O 2, O 3, O 4, O 5, O 6, O 7, O 8, O 9, O 10, O 11] ∧ (none : Option Value) = none) ∧ MulB (.ofNat (m 0)) (-1) (O 11) ∧ MulB (.ofNat (m 1)) 1 (O 10) ∧ MulB (.ofNat (m 2)) (-1) (O 9) ∧ MulB (.ofNat (m 3)) 1 (O 8) ∧ MulB (.ofNat (m 4)) (-1) (O 7) ∧ MulB (.ofNat (m 5)) 1 (O 6) ∧ MulB (.ofNat (m 6)) (-1) (O 5) ∧ MulB (.ofNat (m 7)) 1 (O 4) ∧ MulB (.ofNat (m 8)) (-1) (O 3) ∧ MulB (.ofNat (m 9)) 1 (O 2) ∧ MulB (.ofNat (m 10)) (-1) (O 1) ∧ MulB (.ofNat (m 11)) 1 (O 0) ∧ True ∧ True)) := by
  rcases hk with rfl | rfl <;> cases b <;> cases b2 <;> (intro W X; kernel_rfl)
/-! M202 -/
noncomputable def sgO (n : Nat) (m : Nat → Nat) (k : Nat) : Int := .ofNat (m (n - 1 - k)) * (match k % 2 with | 0 => 1 | _ => -1)
/-- what _law_behind answers -/
noncomputable def behL (cs : List Nat) (st : Int) : Int :=
  let n := (cntL cs).length
  let t := sumO n (sgO n fun i => (cntL cs).getD i 0)
  if n % 2 = 1 then (t - st).fmod 3 else (st - t).fmod 3
theorem mulM {a : Nat} (h : a ≤ 2) (c : Int) (hc : c = 1 ∨ c = -1) : MulB (.ofNat a) c (.ofNat a * c) := by
  exact ⟨IntMulOk.of_right (by rcases hc with rfl | rfl <;> decide), rfl⟩
theorem inLong_small {i : Int} (h : -1000000 ≤ i) (h' : i ≤ 1000000) : InLong i := ⟨Int.le_trans (by decide) h, Int.lt_of_le_of_lt h' (by decide)⟩
theorem sgO_le {n : Nat} {m : Nat → Nat} (h : ∀ i, m i ≤ 2) (k : Nat) : -2 ≤ sgO n m k ∧ sgO n m k ≤ 2 := by
  unfold sgO
  have := h (n - 1 - k)
  generalize m (n - 1 - k) = a at this ⊢
  have h3 : a = 0 ∨ a = 1 ∨ a = 2 := by omega
  split <;> (rcases h3 with rfl | rfl | rfl <;> decide)
theorem sumF_small : ∀ (is : List Int) (a L : Int), (∀ b ∈ is, -2 ≤ b ∧ b ≤ 2) → (is.length : Int) = L → -1000000 + 2 * L ≤ a → a ≤ 1000000 - 2 * L → SumF a is
  | [], _, _, _, _, _, _ => trivial
  | b :: r, a, L, h, e, h1, h2 => by
    have hb := h b (List.mem_cons_self ..)
    rw [List.length_cons, Int.natCast_add] at e
    have hl : (0 : Int) ≤ r.length := Int.natCast_nonneg _
    have ih := fun x y => sumF_small r (a + b) r.length (fun c hc => h c (List.mem_cons_of_mem _ hc)) rfl x y
    generalize (r.length : Int) = K at e hl ih
    have e : K = L - 1 := by rw [← e]; exact (Int.add_sub_cancel K 1).symm
    obtain ⟨b1, b2⟩ := hb
    refine ⟨inLong_small ?_ ?_, inLong_small ?_ ?_, ih ?_ ?_⟩ <;> omega
theorem sumB_map {n : Nat} (hn : n ≤ 12) {O : Nat → Int} (h : ∀ k, -2 ≤ O k ∧ O k ≤ 2) : SumB ((List.range n).map O) := by
  refine sumF_small _ 0 n (fun b hb => ?_) (by simp) ?_ ?_
  · obtain ⟨k, _, rfl⟩ := List.mem_map.mp hb
    exact h k
  · omega
  · omega
theorem cnt_le : ∀ (cs : List Nat), ∀ m ∈ cntL cs, m ≤ 2
  | [], m, h => by simp [cntL] at h
  | c :: r, m, h => by
    unfold cntL at h
    split at h
    · rcases List.mem_cons.mp h with rfl | h
      · omega
      · exact cnt_le r m h
    · split at h
      · rcases List.mem_cons.mp h with rfl | h
        · omega
        · exact cnt_le r m h
      · exact cnt_le r m h
theorem getD_le (cs : List Nat) (i : Nat) : (cntL cs).getD i 0 ≤ 2 := by
  rw [List.getD_eq_getElem?_getD]
  cases h : (cntL cs)[i]? with
  | none => simp
  | some m => exact cnt_le cs m (List.mem_of_getElem? h)
theorem chars_getD (ms : List Nat) : chars ms.length (fun i => ms.getD i 0) = ms := by
  rw [chars_map]
  apply List.ext_getElem
  · simp
  · intro i h1 h2
    simp [h2]
theorem conLB_ok {w : World} {b b2 : Bool} {kd : Nat} (hk : kd = 2 ∨ kd = 3) {xs : Nat → FunC} {ys : Nat → LoopC} {q : Nat → Pos} {o : OutA} {cs : List Nat} {τ n : Nat} {m : Nat → Nat} {O : Nat → Int} (hz : cs.length ≤ 1000) (ha : ∀ c ∈ cs, c < 128) (hm : chars n m = cntL cs) {l0 : Nat} {s₀ : Shared} :
    ConOk (baseOf (kt (wld w b b2).params) 769 l0 s₀) (MW (wld w b b2)) (cfgW (wld w b b2) (conLB kd xs ys q o cs τ n m O)) := by
  intro j y Γ T m' ads tk s p g hg hx hn ho ob D
  replace hg : conLB kd xs ys q o cs τ n m O j y Γ Γ.code T ads = some g := hg
  by_cases h28 : j = 28
  · subst h28
    cases hg
    replace hx : Γ = ctxCK (belK (kdB kd) (xsB Γ.below xs) ys (qsB Γ.below q) o) cs τ := hx
    rw [hx]
    have hkd : kdB kd < 3 := by rcases hk with rfl | rfl <;> decide
    refine wpCode_mono (fun r s' h => ?_) (counts_ok hkd hz ha (rep_sane D))
    obtain ⟨ν, rfl, hD⟩ := h
    have h1 := hD.new _ (List.mem_cons_self ..)
    have h2 := hD.young _ (List.mem_cons_self ..)
    exact ⟨_, _, ν, left_one (s' := s') (ch := []) D (by show Left.mk _ _ _ = _; rw [hm]; rfl) (by simp) hD.keep h1 h2⟩
  · have : conLB kd xs ys q o cs τ n m O j y Γ Γ.code T ads = conU ⟨⟨fun _ => [], O⟩, fun _ => []⟩ j y Γ Γ.code T ads := by
      unfold conLB
      split
      · exact absurd rfl h28
      · rfl
    rw [this] at hg
    exact conU_ok _ _ _ _ _ _ _ _ _ _ _ hg hx ho ob D
theorem behind_ok {w : World} {b b2 : Bool} {kd : Nat} (hk : kd = 2 ∨ kd = 3) {xs : Nat → FunC} {ys : Nat → LoopC} {q : Nat → Pos} {o : OutA} {cs : List Nat} {τ τs : Nat} {st : Int} (hz : cs.length ≤ 12) (ha : ∀ c ∈ cs, c < 128) (hn : (cntL cs).length ≤ 12) {s : Shared} {p : Pos} (S : Top (wld w b b2) s) :
    wpCode (MW (wld w b b2)) (ctxLB (belK kd xs ys q o) cs τ st τs) (fun r s' => ∃ ν : Unk, r = .ok (.ret (.int (behL cs st) (ν.n 0))) ∧ Did s s' [] []) p s := by
  have hm := chars_getD (cntL cs)
  have hz' : cs.length ≤ 1000 := by omega
  unfold behL
  obtain ⟨m, em⟩ : ∃ m : Nat → Nat, m = fun i => (cntL cs).getD i 0 := ⟨_, rfl⟩
  have h2 : ∀ i, m i ≤ 2 := fun i => em ▸ getD_le cs i
  rw [← em] at hm ⊢
  dsimp only
  generalize (cntL cs).length = n at hm hn ⊢
  have hS := sumB_map hn (sgO_le (n := n) h2)
  have g1 : ∀ i, MulB (.ofNat (m i)) 1 (.ofNat (m i) * 1) := fun i => mulM (h2 i) 1 (.inl rfl)
  have g2 : ∀ i, MulB (.ofNat (m i)) (-1) (.ofNat (m i) * (-1)) := fun i => mulM (h2 i) (-1) (.inr rfl)
  match n, hn with
  | 0, _ =>
    refine runC_ok [] (conLB_ok hk hz' ha hm) S (fun x hx => by cases hx) (by simp) (by simp) _ _ (fun _ => []) _ (fun nv => lb_0 w b b2 kd hk xs ys q o cs τ st τs m (sgO 0 m) _ _ p nv) (fun nv => ⟨⟨hS, rfl⟩, trivial, trivial⟩) fun nv s' Af => ?_
    exact ⟨unkL [_], rfl, Af.did [] [] [] rfl rfl rfl (by simp) (by simp) rfl rfl⟩
  | 1, _ =>
    refine runC_ok [] (conLB_ok hk hz' ha hm) S (fun x hx => by cases hx) (by simp) (by simp) _ _ (fun _ => []) _ (fun nv => lb_1 w b b2 kd hk xs ys q o cs τ st τs m (sgO 1 m) _ _ p nv) (fun nv => ⟨⟨hS, rfl⟩, g1 0, trivial, trivial⟩) fun nv s' Af => ?_
    exact ⟨unkL [_], rfl, Af.did [] [] [] rfl rfl rfl (by simp) (by simp) rfl rfl⟩
  | 2, _ =>
    refine runC_ok [] (conLB_ok hk hz' ha hm) S (fun x hx => by cases hx) (by simp) (by simp) _ _ (fun _ => []) _ (fun nv => lb_2 w b b2 kd hk xs ys q o cs τ st τs m (sgO 2 m) _ _ p nv) (fun nv => ⟨⟨hS, rfl⟩, g2 0, g1 1, trivial, trivial⟩) fun nv s' Af => ?_
    exact ⟨unkL [_], rfl, Af.did [] [] [] rfl rfl rfl (by simp) (by simp) rfl rfl⟩
  | 3, _ =>
    refine runC_ok [] (conLB_ok hk hz' ha hm) S (fun x hx => by cases hx) (by simp) (by simp) _ _ (fun _ => []) _ (fun nv => lb_3 w b b2 kd hk xs ys q o cs τ st τs m (sgO 3 m) _ _ p nv) (fun nv => ⟨⟨hS, rfl⟩, g1 0, g2 1, g1 2, trivial, trivial⟩) fun nv s' Af => ?_
    exact ⟨unkL [_], rfl, Af.did [] [] [] rfl rfl rfl (by simp) (by simp) rfl rfl⟩
  | 4, _ =>
    refine runC_ok [] (conLB_ok hk hz' ha hm) S (fun x hx => by cases hx) (by simp) (by simp) _ _ (fun _ => []) _ (fun nv => lb_4 w b b2 kd hk xs ys q o cs τ st τs m (sgO 4 m) _ _ p nv) (fun nv => ⟨⟨hS, rfl⟩, g2 0, g1 1, g2 2, g1 3, trivial, trivial⟩) fun nv s' Af => ?_
    exact ⟨unkL [_], rfl, Af.did [] [] [] rfl rfl rfl (by simp) (by simp) rfl rfl⟩
  | 5, _ =>
    refine runC_ok [] (conLB_ok hk hz' ha hm) S (fun x hx => by cases hx) (by simp) (by simp) _ _ (fun _ => []) _ (fun nv => lb_5 w b b2 kd hk xs ys q o cs τ st τs m (sgO 5 m) _ _ p nv) (fun nv => ⟨⟨hS, rfl⟩, g1 0, g2 1, g1 2, g2 3, g1 4, trivial, trivial⟩) fun nv s' Af => ?_
    exact ⟨unkL [_], rfl, Af.did [] [] [] rfl rfl rfl (by simp) (by simp) rfl rfl⟩
  | 6, _ =>
    refine runC_ok [] (conLB_ok hk hz' ha hm) S (fun x hx => by cases hx) (by simp) (by simp) _ _ (fun _ => []) _ (fun nv => lb_6 w b b2 kd hk xs ys q o cs τ st τs m (sgO 6 m) _ _ p nv) (fun nv => ⟨⟨hS, rfl⟩, g2 0, g1 1, g2 2, g1 3, g2 4, g1 5, trivial, trivial⟩) fun nv s' Af => ?_
    exact ⟨unkL [_], rfl, Af.did [] [] [] rfl rfl rfl (by simp) (by simp) rfl rfl⟩
  | 7, _ =>
    refine runC_ok [] (conLB_ok hk hz' ha hm) S (fun x hx => by cases hx) (by simp) (by simp) _ _ (fun _ => []) _ (fun nv => lb_7 w b b2 kd hk xs ys q o cs τ st τs m (sgO 7 m) _ _ p nv) (fun nv => ⟨⟨hS, rfl⟩, g1 0, g2 1, g1 2, g2 3, g1 4, g2 5, g1 6, trivial, trivial⟩) fun nv s' Af => ?_
    exact ⟨unkL [_], rfl, Af.did [] [] [] rfl rfl rfl (by simp) (by simp) rfl rfl⟩
  | 8, _ =>
    refine runC_ok [] (conLB_ok hk hz' ha hm) S (fun x hx => by cases hx) (by simp) (by simp) _ _ (fun _ => []) _ (fun nv => lb_8 w b b2 kd hk xs ys q o cs τ st τs m (sgO 8 m) _ _ p nv) (fun nv => ⟨⟨hS, rfl⟩, g2 0, g1 1, g2 2, g1 3, g2 4, g1 5, g2 6, g1 7, trivial, trivial⟩) fun nv s' Af => ?_
    exact ⟨unkL [_], rfl, Af.did [] [] [] rfl rfl rfl (by simp) (by simp) rfl rfl⟩
  | 9, _ =>
    refine runC_ok [] (conLB_ok hk hz' ha hm) S (fun x hx => by cases hx) (by simp) (by simp) _ _ (fun _ => []) _ (fun nv => lb_9 w b b2 kd hk xs ys q o cs τ st τs m (sgO 9 m) _ _ p nv) (fun nv => ⟨⟨hS, rfl⟩, g1 0, g2 1, g1 2, g2 3, g1 4, g2 5, g1 6, g2 7, g1 8, trivial, trivial⟩) fun nv s' Af => ?_
    exact ⟨unkL [_], rfl, Af.did [] [] [] rfl rfl rfl (by simp) (by simp) rfl rfl⟩
  | 10, _ =>
    refine runC_ok [] (conLB_ok hk hz' ha hm) S (fun x hx => by cases hx) (by simp) (by simp) _ _ (fun _ => []) _ (fun nv => lb_10 w b b2 kd hk xs ys q o cs τ st τs m (sgO 10 m) _ _ p nv) (fun nv => ⟨⟨hS, rfl⟩, g2 0, g1 1, g2 2, g1 3, g2 4, g1 5, g2 6, g1 7, g2 8, g1 9, trivial, trivial⟩) fun nv s' Af => ?_
    exact ⟨unkL [_], rfl, Af.did [] [] [] rfl rfl rfl (by simp) (by simp) rfl rfl⟩
  | 11, _ =>
    refine runC_ok [] (conLB_ok hk hz' ha hm) S (fun x hx => by cases hx) (by simp) (by simp) _ _ (fun _ => []) _ (fun nv => lb_11 w b b2 kd hk xs ys q o cs τ st τs m (sgO 11 m) _ _ p nv) (fun nv => ⟨⟨hS, rfl⟩, g1 0, g2 1, g1 2, g2 3, g1 4, g2 5, g1 6, g2 7, g1 8, g2 9, g1 10, trivial, trivial⟩) fun nv s' Af => ?_
    exact ⟨unkL [_], rfl, Af.did [] [] [] rfl rfl rfl (by simp) (by simp) rfl rfl⟩
  | 12, _ =>
    refine runC_ok [] (conLB_ok hk hz' ha hm) S (fun x hx => by cases hx) (by simp) (by simp) _ _ (fun _ => []) _ (fun nv => lb_12 w b b2 kd hk xs ys q o cs τ st τs m (sgO 12 m) _ _ p nv) (fun nv => ⟨⟨hS, rfl⟩, g2 0, g1 1, g2 2, g1 3, g2 4, g1 5, g2 6, g1 7, g2 8, g1 9, g2 10, g1 11, trivial, trivial⟩) fun nv s' Af => ?_
    exact ⟨unkL [_], rfl, Af.did [] [] [] rfl rfl rfl (by simp) (by simp) rfl rfl⟩
/-! M302 -/
/-! ### _law_told: the inner loop's turns -/
noncomputable def dLT : Stmt := nthS 27 F.main.body
noncomputable def qLT : List Nat := [95, 108, 97, 119, 95, 116, 111, 108, 100]
noncomputable def envLT (L : Nat) : Env := envOfD dLT qLT 763 762 L
noncomputable def sLO : Stmt := nthS 3 (fnB dLT)
noncomputable def sLI : Stmt := nthS 1 (forB sLO)
noncomputable def yI (it L : Nat) : LoopC := ⟨forT sLI, .ref it, forB sLI, forO sLI, envLT L⟩
noncomputable def ysI (y : LoopC) (ys : Nat → LoopC) (i : Nat) : LoopC := match i with
  | 0 => y
  | i => ys i
noncomputable def qsI (bel : List (Code × Pos)) (q : Nat → Pos) (i : Nat) : Pos := match i with
  | 1 => posN bel 0
  | i => q i
noncomputable def ctxLT (it L : Nat) (xs : Nat → FunC) (ys : Nat → LoopC) (q : Nat → Pos) (o : OutA) : Ctx := ctxOf (lcode (yI it L)) (belK 3 xs ys q o)
noncomputable def frT (P : Params) (k v : Nat → Nat) (ln : Str) (wd : Int) (wl : Nat) (bg : Bool) (st fi : Int) (cell : Str) : Option (Int × List Nat × Int) → Obj
  | none => frameO [ent P [108,105,110,101] (k 0) (.str ln (v 0)), ent P [119,105,100,116,104] (k 1) (.int wd (v 1)), ent P [119,111,114,100,115] (k 2) (.ref wl), ent P [98,101,103,117,110] (k 3) (.bool bg), ent P [115,116,97,116,101] (k 4) (.int st (v 4)), ent P [102,105,114,115,116] (k 5) (.int fi (v 5)), ent P [99,101,108,108] (k 6) (.str cell (v 6))] 7 ⟨[]⟩
  | some (pl, sg, ah) => frameO [ent P [108,105,110,101] (k 0) (.str ln (v 0)), ent P [119,105,100,116,104] (k 1) (.int wd (v 1)), ent P [119,111,114,100,115] (k 2) (.ref wl), ent P [98,101,103,117,110] (k 3) (.bool bg), ent P [115,116,97,116,101] (k 4) (.int st (v 4)), ent P [102,105,114,115,116] (k 5) (.int fi (v 5)), ent P [99,101,108,108] (k 6) (.str cell (v 6)), ent P [112,108,97,99,101] (k 7) (.int pl (v 7)), ent P [115,105,103,110] (k 8) (.str ⟨⟨sg⟩⟩ (v 8)), ent P [97,104,101,97,100] (k 9) (.int ah (v 9))] 10 ⟨[]⟩
noncomputable def riO (a : Int) (k : Int) : Obj := ⟨.type "range_iterator", none, .fields ⟨[.int a 0, .int k 0, .int (-1) 0]⟩, ⟨[]⟩⟩
noncomputable def strTok : Code → Nat
  | .call _ ⟨.str _ t :: _, _⟩ => t
  | _ => 0
/-- the list's last word -/
noncomputable def IsLst (xs : Array Value) (pre : List Value) (w0 : List Nat) : Prop := ∃ τ, xs = ⟨pre ++ [.str ⟨⟨w0⟩⟩ τ]⟩
noncomputable def conLT (it L : Nat) (xs : Nat → FunC) (ys : Nat → LoopC) (q : Nat → Pos) (o : OutA) (c : Nat) (rest : List Nat) (st ah : Int) (mk : Nat) (pre : List Value) (w0 : List Nat) : CF := fun j x Γ cd T ads => match j with
  | 30 => some { gx := ctxLB (belK 2 xs (ysI (yI it L) ys) (qsI Γ.below q) o) rest (strTok cd) st (tok1 (arg1 cd)), ob := True, left := fun ν => ⟨.ok (.ret (.int ah (ν.n 0))), T, []⟩ }
  | 31 => some { gx := ctxCK (belK 2 xs (ysI (yI it L) ys) (qsI Γ.below q) o) [c] (strTok cd), ob := cntL [c] = [mk], left := fun ν => ⟨.ok (.ret (.ref (ν.n 0))), T, [lsO ⟨[.int (.ofNat mk) (ν.n 100)]⟩ (ν.n 1)]⟩ }
  | 17 => match isList1 (T.get x) with
    | some (ys, n) => some { gx := { Γ with code := .call (.builtin "list.append") ⟨[.ref (adOf ads x), arg1 cd], []⟩ }, oq := [(T.get x, some (lsO ys n))], ob := SmallB ys, left := fun _ => ⟨.ok (.ret .none), setAll T [(x, lsO ⟨ys.toList ++ [arg1 cd]⟩ (n + 1))], []⟩ }
    | none => none
  | 18 => match isList1 (T.get x) with
    | some (ys, n) => some { gx := { Γ with code := .call (.builtin "list.__getitem__") ⟨[.ref (adOf ads x), .int (-1) (tok1 (arg1 cd))], []⟩ }, oq := [(T.get x, some (lsO ys n))], ob := IsLst ys pre w0, left := fun ν => ⟨.ok (.ret (.str ⟨⟨w0⟩⟩ (ν.n 0))), T, []⟩ }
    | none => none
  | 19 => match isList1 (T.get x) with
    | some (ys, n) => some { gx := { Γ with code := .call (.builtin "list.__setitem__") ⟨[.ref (adOf ads x), .int (-1) (tok1 (arg1 cd)), arg2 cd], []⟩ }, oq := [(T.get x, some (lsO ys n))], ob := IsLst ys pre w0, left := fun _ => ⟨.ok (.ret .none), setAll T [(x, lsO ⟨pre ++ [arg2 cd]⟩ n)], []⟩ }
    | none => none
  | j => conQ ⟨⟨fun i => match i with | 1 => [c] | _ => rest, fun _ => 0⟩, fun _ => []⟩ [] .none j x Γ cd T ads
noncomputable def setV (X : Out) (v : Nat → Nat) (is : List Nat) (i : Nat) : Nat := if is.contains i then vt X 1 i else v i
noncomputable def setKT (X : Out) (f : Bool) (k : Nat → Nat) (i : Nat) : Nat := match f with
  | true => if Nat.ble 7 i then ktk X 1 i else k i
  | false => k i
noncomputable def oldT (f : Bool) (z : Int × List Nat × Int) : Option (Int × List Nat × Int) := match f with
  | true => none
  | false => some z
theorem lt_b (w : World) (b b2 f bg : Bool) (it L wl : Nat) (xs : Nat → FunC) (ys : Nat → LoopC) (q : Nat → Pos) (o : OutA) (c : Nat) (rest : List Nat) (k v : Nat → Nat) (ln cell : Str) (wd st fi pl : Int) (z : Int × List Nat × Int) (r : Nat) (vs : Array Value) (n N t : Nat) (p : Pos) (nv : Nv) :
    let W := wld w b b2
    let X := runL (cfgW W (conLT it L xs ys q o c rest st 0 0 [] [])) 100 (ctxLT it L xs ys q o) p (envLT L) false (match f, bg with | true, _ => [1, 0, 1, 0, 1, 1, 1, 1, 1, 1, 1, 2, 2, 2, 2, 10, 1, 2, 2, 0, 2, 2, 0, 0, 9, 302, 2, 0, 31, 0, 2, 2, 2, 0, 0, 2, 2, 1, 2, 2, 1] | false, true => [1, 0, 1, 0, 1, 1, 1, 1, 1, 1, 1, 2, 2, 2, 2, 10, 1, 2, 2, 0, 2, 2, 0, 0, 9, 302, 2, 0, 31, 0, 2, 2, 2, 0, 0, 2, 2, 1, 2, 2, 1] | false, false => [1, 0, 1, 0, 1, 1, 1, 1, 1, 1, 1, 2, 2, 2, 2, 10, 1, 2, 2, 0, 2, 2, 0, 0, 9, 302, 2, 0, 31, 0, 2, 2, 2, 0, 0, 2, 2, 1, 2, 2, 1])
      [(it, riO pl (.ofNat (r + 1))), (L, frT W.params k v ln wd wl (match f with | true => false | false => bg) st fi cell (oldT f z)), (wl, lsO vs n)] N t nv
    let l' := [(it, riO (pl + -1) (.ofNat (r + 1) - 1)), (L, frT W.params (setKT X f k) (setV X v [7, 8, 9]) ln wd wl false st fi cell (some (pl, [c], 0))), (wl, lsO vs n)]
    look [0, 1, 2] X = some (.again (ctxLT it L xs ys q o) (posOf X), os_ l', as_ l', dup (eqsOf X), dupG (gsOf X), dupO (osOf X), (InB [32, 10] c 1 ∧ True ∧ SlcB "slice" cell (some (pl + 1, vtok (fdOf X 3 0))) none none rest ∧ IdxB cell pl [c] ∧ True)) := by
  cases b <;> cases b2 <;> cases f <;> cases bg <;> (intro W X l'; kernel_rfl)
/-! M402 -/
/-! written by mklt.py -/
noncomputable def mkN : Bool → Nat
  | true => 1
  | false => 2
theorem lt_n0 (w : World) (b b2 f : Bool) (it L wl : Nat) (xs : Nat → FunC) (ys : Nat → LoopC) (q : Nat → Pos) (o : OutA) (c : Nat) (rest : List Nat) (k v : Nat → Nat) (ln cell : Str) (wd st fi pl : Int) (z : Int × List Nat × Int) (r : Nat) (pre : List Value) (w0 : List Nat) (τ0 : Nat) (n N t : Nat) (p : Pos) (nv : Nv) :
    let W := wld w b b2
    let X := runL (cfgW W (conLT it L xs ys q o c rest st 0 0 pre [])) 200 (ctxLT it L xs ys q o) p (envLT L) false (match f with | true => [1, 0, 1, 0, 1, 1, 1, 1, 1, 1, 1, 2, 2, 2, 2, 10, 1, 2, 2, 0, 2, 2, 0, 0, 9, 302, 2, 0, 31, 0, 2, 2, 2, 0, 0, 2, 2, 0, 2, 2, 3, 3, 3, 3, 18, 2, 2, 2, 2, 2, 0, 2, 0, 0, 3, 3, 19, 2, 2, 3, 0, 3, 3, 20, 2, 1] | false => [1, 0, 1, 0, 1, 1, 1, 1, 1, 1, 1, 2, 2, 2, 2, 10, 1, 2, 2, 0, 2, 2, 0, 0, 9, 302, 2, 0, 31, 0, 2, 2, 2, 0, 0, 2, 2, 0, 2, 2, 3, 3, 3, 3, 18, 2, 2, 2, 2, 2, 0, 2, 0, 0, 3, 3, 19, 2, 2, 3, 0, 3, 3, 20, 2, 1])
      [(it, riO pl (.ofNat (r + 1))), (L, frT W.params k v ln wd wl false st fi cell (oldT f z)), (wl, lsO ⟨pre⟩ n)] N t nv
    let l' := [(it, riO (pl + -1) (.ofNat (r + 1) - 1)), (L, frT W.params (setKT X f k) (setV X v [7, 8, 9]) ln wd wl true st fi cell (some (pl, [c], 0))), (wl, lsO ⟨pre ++ [.str ((⟨⟨[]⟩⟩ : Str) ++ ⟨⟨[c]⟩⟩) ((nv 7).2.2.n 0)]⟩ (n + 1))]
    look [0, 1, 2] X = some (.again (ctxLT it L xs ys q o) (posOf X), os_ l', as_ l', dup (eqsOf X), dupG (gsOf X), dupO (osOf X), (IsLst ⟨pre ++ [(.str ⟨⟨[]⟩⟩ (nv 3).2.1)]⟩ pre [] ∧ LeB ⟨⟨[]⟩⟩ ⟨⟨[c]⟩⟩ ∧ IsLst ⟨pre ++ [(.str ⟨⟨[]⟩⟩ (nv 3).2.1)]⟩ pre [] ∧ InB [39, 34] c 0 ∧ SmallB ⟨pre⟩ ∧ InB [32, 10] c 0 ∧ True ∧ SlcB "slice" cell (some (pl + 1, vtok (fdOf X 3 0))) none none rest ∧ IdxB cell pl [c] ∧ True)) := by
  cases b <;> cases b2 <;> cases f <;> (intro W X l'; kernel_rfl)
theorem lt_n1 (w : World) (b b2 : Bool) (it L wl : Nat) (xs : Nat → FunC) (ys : Nat → LoopC) (q : Nat → Pos) (o : OutA) (c : Nat) (rest : List Nat) (k v : Nat → Nat) (ln cell : Str) (wd st fi pl : Int) (z : Int × List Nat × Int) (r : Nat) (pre : List Value) (w0 : List Nat) (τ0 : Nat) (n N t : Nat) (p : Pos) (nv : Nv) :
    let W := wld w b b2
    let X := runL (cfgW W (conLT it L xs ys q o c rest st 0 0 pre w0)) 200 (ctxLT it L xs ys q o) p (envLT L) false [1, 0, 1, 0, 1, 1, 1, 1, 1, 1, 1, 2, 2, 2, 2, 10, 1, 2, 2, 0, 2, 2, 0, 0, 9, 302, 2, 0, 31, 0, 2, 2, 2, 0, 0, 2, 2, 0, 2, 2, 2, 0, 2, 0, 0, 3, 3, 19, 2, 2, 3, 0, 3, 3, 20, 2, 1]
      [(it, riO pl (.ofNat (r + 1))), (L, frT W.params k v ln wd wl true st fi cell (oldT false z)), (wl, lsO ⟨pre ++ [(.str ⟨⟨w0⟩⟩ τ0)]⟩ n)] N t nv
    let l' := [(it, riO (pl + -1) (.ofNat (r + 1) - 1)), (L, frT W.params (setKT X false k) (setV X v [7, 8, 9]) ln wd wl true st fi cell (some (pl, [c], 0))), (wl, lsO ⟨pre ++ [.str ((⟨⟨w0⟩⟩ : Str) ++ ⟨⟨[c]⟩⟩) ((nv 6).2.2.n 0)]⟩ n)]
    look [0, 1, 2] X = some (.again (ctxLT it L xs ys q o) (posOf X), os_ l', as_ l', dup (eqsOf X), dupG (gsOf X), dupO (osOf X), (IsLst ⟨pre ++ [(.str ⟨⟨w0⟩⟩ τ0)]⟩ pre w0 ∧ LeB ⟨⟨w0⟩⟩ ⟨⟨[c]⟩⟩ ∧ IsLst ⟨pre ++ [(.str ⟨⟨w0⟩⟩ τ0)]⟩ pre w0 ∧ InB [39, 34] c 0 ∧ InB [32, 10] c 0 ∧ True ∧ SlcB "slice" cell (some (pl + 1, vtok (fdOf X 3 0))) none none rest ∧ IdxB cell pl [c] ∧ True)) := by
  cases b <;> cases b2 <;> (intro W X l'; kernel_rfl)
theorem lt_n2 (w : World) (b b2 d : Bool) (it L wl : Nat) (xs : Nat → FunC) (ys : Nat → LoopC) (q : Nat → Pos) (o : OutA) (c : Nat) (rest : List Nat) (k v : Nat → Nat) (ln cell : Str) (wd st fi pl : Int) (z : Int × List Nat × Int) (r : Nat) (pre : List Value) (w0 : List Nat) (τ0 : Nat) (n N t : Nat) (p : Pos) (nv : Nv) :
    let W := wld w b b2
    let X := runL (cfgW W (conLT it L xs ys q o c rest st (mkOf d) 0 pre w0)) 200 (ctxLT it L xs ys q o) p (envLT L) false [1, 0, 1, 0, 1, 1, 1, 1, 1, 1, 1, 2, 2, 2, 2, 10, 1, 2, 2, 0, 2, 2, 0, 0, 9, 302, 2, 0, 31, 0, 2, 2, 2, 0, 0, 2, 2, 2, 0, 2, 0, 0, 3, 3, 19, 2, 2, 3, 0, 3, 3, 20, 2, 1]
      [(it, riO pl (.ofNat (r + 1))), (L, frT W.params k v ln wd wl true st fi cell (oldT false z)), (wl, lsO ⟨pre ++ [(.str ⟨⟨w0⟩⟩ τ0)]⟩ n)] N t nv
    let l' := [(it, riO (pl + -1) (.ofNat (r + 1) - 1)), (L, frT W.params (setKT X false k) (setV X v [7, 8, 9]) ln wd wl true st fi cell (some (pl, [c], (mkOf d)))), (wl, lsO ⟨pre ++ [.str ((⟨⟨w0⟩⟩ : Str) ++ ⟨⟨[c]⟩⟩) ((nv 5).2.2.n 0)]⟩ n)]
    look [0, 1, 2] X = some (.again (ctxLT it L xs ys q o) (posOf X), os_ l', as_ l', dup (eqsOf X), dupG (gsOf X), dupO (osOf X), (IsLst ⟨pre ++ [(.str ⟨⟨w0⟩⟩ τ0)]⟩ pre w0 ∧ LeB ⟨⟨w0⟩⟩ ⟨⟨[c]⟩⟩ ∧ IsLst ⟨pre ++ [(.str ⟨⟨w0⟩⟩ τ0)]⟩ pre w0 ∧ InB [39, 34] c 0 ∧ True ∧ SlcB "slice" cell (some (pl + 1, vtok (fdOf X 3 0))) none none rest ∧ IdxB cell pl [c] ∧ True)) := by
  cases b <;> cases b2 <;> cases d <;> (intro W X l'; kernel_rfl)
theorem lt_a (w : World) (b b2 d : Bool) (it L wl : Nat) (xs : Nat → FunC) (ys : Nat → LoopC) (q : Nat → Pos) (o : OutA) (c : Nat) (rest : List Nat) (k v : Nat → Nat) (ln cell : Str) (wd st fi pl : Int) (z : Int × List Nat × Int) (r : Nat) (pre : List Value) (w0 : List Nat) (τ0 : Nat) (n N t : Nat) (p : Pos) (nv : Nv) :
    let W := wld w b b2
    let X := runL (cfgW W (conLT it L xs ys q o c rest st (mkOf d) (mkN !d) pre w0)) 200 (ctxLT it L xs ys q o) p (envLT L) false [1, 0, 1, 0, 1, 1, 1, 1, 1, 1, 1, 2, 2, 2, 2, 10, 1, 2, 2, 0, 2, 2, 0, 0, 9, 302, 2, 0, 31, 0, 2, 2, 2, 0, 0, 2, 2, 2, 1, 0, 2, 0, 32, 0, 5, 5, 5, 0, 5, 0, 5, 0, 2, 0, 0, 0, 0, 0, 0, 2, 0, 0, 3, 3, 19, 2, 2, 3, 0, 3, 3, 20, 2, 1]
      [(it, riO pl (.ofNat (r + 1))), (L, frT W.params k v ln wd wl true st fi cell (oldT false z)), (wl, lsO ⟨pre ++ [(.str ⟨⟨w0⟩⟩ τ0)]⟩ n)] N t nv
    let l' := [(it, riO (pl + -1) (.ofNat (r + 1) - 1)), (L, frT W.params (setKT X false k) (setV X v [7, 8, 9]) ln wd wl true st fi cell (some (pl, [c], (mkOf d)))), (wl, lsO ⟨pre ++ [.str ((⟨⟨w0⟩⟩ : Str) ++ ⟨⟨[c]⟩⟩) ((nv 6).2.2.n 0)]⟩ n)]
    look [0, 1, 2] X = some (.again (ctxLT it L xs ys q o) (posOf X), os_ l', as_ l', dup (eqsOf X), dupG (gsOf X), dupO (osOf X), (IsLst ⟨pre ++ [(.str ⟨⟨w0⟩⟩ τ0)]⟩ pre w0 ∧ LeB ⟨⟨w0⟩⟩ ⟨⟨[c]⟩⟩ ∧ IsLst ⟨pre ++ [(.str ⟨⟨w0⟩⟩ τ0)]⟩ pre w0 ∧ cntL [c] = [mkN !d] ∧ InB [39, 34] c 1 ∧ True ∧ SlcB "slice" cell (some (pl + 1, vtok (fdOf X 3 0))) none none rest ∧ IdxB cell pl [c] ∧ True)) := by
  cases b <;> cases b2 <;> cases d <;> (intro W X l'; kernel_rfl)
theorem lt_q0 (w : World) (b b2 f d : Bool) (it L wl : Nat) (xs : Nat → FunC) (ys : Nat → LoopC) (q : Nat → Pos) (o : OutA) (c : Nat) (rest : List Nat) (k v : Nat → Nat) (ln cell : Str) (wd st fi pl : Int) (z : Int × List Nat × Int) (r : Nat) (pre : List Value) (w0 : List Nat) (τ0 : Nat) (n N t : Nat) (p : Pos) (nv : Nv) :
    let W := wld w b b2
    let X := runL (cfgW W (conLT it L xs ys q o c rest st 0 (mkN d) pre [])) 200 (ctxLT it L xs ys q o) p (envLT L) false (match f with | true => [1, 0, 1, 0, 1, 1, 1, 1, 1, 1, 1, 2, 2, 2, 2, 10, 1, 2, 2, 0, 2, 2, 0, 0, 9, 302, 2, 0, 31, 0, 2, 2, 2, 0, 0, 2, 2, 0, 2, 2, 3, 3, 3, 3, 18, 2, 2, 2, 2, 2, 1, 0, 2, 0, 32, 0, 5, 5, 5, 0, 5, 0, 5, 0, 2, 0, 0, 0, 0, 0, 0, 1] | false => [1, 0, 1, 0, 1, 1, 1, 1, 1, 1, 1, 2, 2, 2, 2, 10, 1, 2, 2, 0, 2, 2, 0, 0, 9, 302, 2, 0, 31, 0, 2, 2, 2, 0, 0, 2, 2, 0, 2, 2, 3, 3, 3, 3, 18, 2, 2, 2, 2, 2, 1, 0, 2, 0, 32, 0, 5, 5, 5, 0, 5, 0, 5, 0, 2, 0, 0, 0, 0, 0, 0, 1])
      [(it, riO pl (.ofNat (r + 1))), (L, frT W.params k v ln wd wl false st fi cell (oldT f z)), (wl, lsO ⟨pre⟩ n)] N t nv
    let l' := [(it, riO (pl + -1) (.ofNat (r + 1) - 1)), (L, frT W.params (setKT X f k) (setV X v [7, 8, 9]) ln wd wl true st fi cell (some (pl, [c], 0))), (wl, lsO ⟨pre ++ [(.str ⟨⟨[]⟩⟩ (nv 3).2.1)]⟩ (n + 1))]
    look [0, 1, 2] X = some (.again (ctxLT it L xs ys q o) (posOf X), os_ l', as_ l', dup (eqsOf X), dupG (gsOf X), dupO (osOf X), (cntL [c] = [mkN d] ∧ InB [39, 34] c 1 ∧ SmallB ⟨pre⟩ ∧ InB [32, 10] c 0 ∧ True ∧ SlcB "slice" cell (some (pl + 1, vtok (fdOf X 3 0))) none none rest ∧ IdxB cell pl [c] ∧ True)) := by
  cases b <;> cases b2 <;> cases f <;> cases d <;> (intro W X l'; kernel_rfl)
theorem lt_q1 (w : World) (b b2 d : Bool) (it L wl : Nat) (xs : Nat → FunC) (ys : Nat → LoopC) (q : Nat → Pos) (o : OutA) (c : Nat) (rest : List Nat) (k v : Nat → Nat) (ln cell : Str) (wd st fi pl : Int) (z : Int × List Nat × Int) (r : Nat) (pre : List Value) (w0 : List Nat) (τ0 : Nat) (n N t : Nat) (p : Pos) (nv : Nv) :
    let W := wld w b b2
    let X := runL (cfgW W (conLT it L xs ys q o c rest st 0 (mkN d) pre w0)) 200 (ctxLT it L xs ys q o) p (envLT L) false [1, 0, 1, 0, 1, 1, 1, 1, 1, 1, 1, 2, 2, 2, 2, 10, 1, 2, 2, 0, 2, 2, 0, 0, 9, 302, 2, 0, 31, 0, 2, 2, 2, 0, 0, 2, 2, 0, 2, 2, 2, 1, 0, 2, 0, 32, 0, 5, 5, 5, 0, 5, 0, 5, 0, 2, 0, 0, 0, 0, 0, 0, 1]
      [(it, riO pl (.ofNat (r + 1))), (L, frT W.params k v ln wd wl true st fi cell (oldT false z)), (wl, lsO ⟨pre ++ [(.str ⟨⟨w0⟩⟩ τ0)]⟩ n)] N t nv
    let l' := [(it, riO (pl + -1) (.ofNat (r + 1) - 1)), (L, frT W.params (setKT X false k) (setV X v [7, 8, 9]) ln wd wl true st fi cell (some (pl, [c], 0))), (wl, lsO ⟨pre ++ [(.str ⟨⟨w0⟩⟩ τ0)]⟩ n)]
    look [0, 1, 2] X = some (.again (ctxLT it L xs ys q o) (posOf X), os_ l', as_ l', dup (eqsOf X), dupG (gsOf X), dupO (osOf X), (cntL [c] = [mkN d] ∧ InB [39, 34] c 1 ∧ InB [32, 10] c 0 ∧ True ∧ SlcB "slice" cell (some (pl + 1, vtok (fdOf X 3 0))) none none rest ∧ IdxB cell pl [c] ∧ True)) := by
  cases b <;> cases b2 <;> cases d <;> (intro W X l'; kernel_rfl)
theorem lt_q2 (w : World) (b b2 d : Bool) (it L wl : Nat) (xs : Nat → FunC) (ys : Nat → LoopC) (q : Nat → Pos) (o : OutA) (c : Nat) (rest : List Nat) (k v : Nat → Nat) (ln cell : Str) (wd st fi pl : Int) (z : Int × List Nat × Int) (r : Nat) (pre : List Value) (w0 : List Nat) (τ0 : Nat) (n N t : Nat) (p : Pos) (nv : Nv) :
    let W := wld w b b2
    let X := runL (cfgW W (conLT it L xs ys q o c rest st (mkOf d) (mkN d) pre w0)) 200 (ctxLT it L xs ys q o) p (envLT L) false [1, 0, 1, 0, 1, 1, 1, 1, 1, 1, 1, 2, 2, 2, 2, 10, 1, 2, 2, 0, 2, 2, 0, 0, 9, 302, 2, 0, 31, 0, 2, 2, 2, 0, 0, 2, 2, 2, 1, 0, 2, 0, 32, 0, 5, 5, 5, 0, 5, 0, 5, 0, 2, 0, 0, 0, 0, 0, 0, 1]
      [(it, riO pl (.ofNat (r + 1))), (L, frT W.params k v ln wd wl true st fi cell (oldT false z)), (wl, lsO ⟨pre ++ [(.str ⟨⟨w0⟩⟩ τ0)]⟩ n)] N t nv
    let l' := [(it, riO (pl + -1) (.ofNat (r + 1) - 1)), (L, frT W.params (setKT X false k) (setV X v [7, 8, 9]) ln wd wl true st fi cell (some (pl, [c], (mkOf d)))), (wl, lsO ⟨pre ++ [(.str ⟨⟨w0⟩⟩ τ0)]⟩ n)]
    look [0, 1, 2] X = some (.again (ctxLT it L xs ys q o) (posOf X), os_ l', as_ l', dup (eqsOf X), dupG (gsOf X), dupO (osOf X), (cntL [c] = [mkN d] ∧ InB [39, 34] c 1 ∧ True ∧ SlcB "slice" cell (some (pl + 1, vtok (fdOf X 3 0))) none none rest ∧ IdxB cell pl [c] ∧ True)) := by
  cases b <;> cases b2 <;> cases d <;> (intro W X l'; kernel_rfl)
/-! M502 -/
/-- the inner loop's end -/
theorem lt_e (w : World) (b b2 bg : Bool) (it L wl : Nat) (xs : Nat → FunC) (ys : Nat → LoopC) (q : Nat → Pos) (o : OutA) (c : Nat) (rest : List Nat) (k v : Nat → Nat) (ln cell : Str) (wd st fi pl ah : Int) (z : Int × List Nat × Int) (vs : Array Value) (n N t : Nat) (p : Pos) (nv : Nv) :
    let W := wld w b b2
    let X := runL (cfgW W (conLT it L xs ys q o c rest st ah 0 [] [])) 100 (ctxLT it L xs ys q o) p (envLT L) false [1, 0, 1, 0, 1, 1, 1, 5, 0]
      [(it, riO pl 0), (L, frT W.params k v ln wd wl bg st fi cell (some z)), (wl, lsO vs n)] N t nv
    let l' := [(it, riO pl 0), (L, frT W.params k v ln wd wl bg st fi cell (some z)), (wl, lsO vs n)]
    look [0, 1, 2] X = some (.done (.ok .next), os_ l', as_ l', dup (eqsOf X), dupG (gsOf X), dupO (osOf X), True) := by
  cases b <;> cases b2 <;> cases bg <;> (intro W X l'; kernel_rfl)
/-! M602 -/
theorem conLT_ok {w : World} {b b2 : Bool} {it L : Nat} {xs : Nat → FunC} {ys : Nat → LoopC} {q : Nat → Pos} {o : OutA} {c : Nat} {rest : List Nat} {st ah : Int} {mk : Nat} {pre : List Value} {w0 : List Nat} (hz : rest.length ≤ 12) (ha : ∀ c ∈ rest, c < 128) (hn : (cntL rest).length ≤ 12) (hah : ah = behL rest st) (hc : c < 128) {l0 : Nat} {s₀ : Shared} :
    ConOk (baseOf (kt (wld w b b2).params) 769 l0 s₀) (MW (wld w b b2)) (cfgW (wld w b b2) (conLT it L xs ys q o c rest st ah mk pre w0)) := by
  intro j y Γ T m' ads tk s p g hg hx hn' ho ob D
  replace hg : conLT it L xs ys q o c rest st ah mk pre w0 j y Γ Γ.code T ads = some g := hg
  by_cases h30 : j = 30
  · subst h30
    cases hg
    replace hx : Γ = ctxLB (belK 2 xs (ysI (yI it L) ys) (qsI Γ.below q) o) rest (strTok Γ.code) st (tok1 (arg1 Γ.code)) := hx
    rw [hx]
    refine wpCode_mono (fun r s' h => ?_) (behind_ok (.inl rfl) hz ha hn (rep_sane D))
    obtain ⟨ν, rfl, hD⟩ := h
    exact ⟨_, _, ν, left_none (s' := s') (ch := []) D (by show Left.mk _ _ _ = _; rw [hah]; rfl) (by simp) hD.keep⟩
  · by_cases h31 : j = 31
    · subst h31
      cases hg
      replace hx : Γ = ctxCK (belK 2 xs (ysI (yI it L) ys) (qsI Γ.below q) o) [c] (strTok Γ.code) := hx
      replace ob : cntL [c] = [mk] := ob
      rw [hx]
      refine wpCode_mono (fun r s' h => ?_) (counts_ok (by decide) (by simp) (by simpa using hc) (rep_sane D))
      obtain ⟨ν, rfl, hD⟩ := h
      rw [ob] at hD
      exact ⟨_, _, ν, left_one (s' := s') (ch := []) D rfl (by simp) hD.keep (hD.new _ (List.mem_cons_self ..)) (hD.young _ (List.mem_cons_self ..))⟩
    · by_cases h17 : j = 17
      · subst h17
        unfold conLT at hg
        cases h : isList1 (T.get y) with
        | none => simp only [h] at hg; cases hg
        | some z =>
          obtain ⟨ws, n⟩ := z
          simp only [h] at hg
          cases hg
          have hT := ho _ (List.mem_cons_self ..)
          replace hT : T.get y = some (lsO ws n) := hT
          refine wpCode_at (congrArg Ctx.code hx) <| app_code (D.own y _ hT).2 ob ?_
          exact left_upd D hT (u := s.toks) (ν := unk0) (by obtain ⟨wl⟩ := ws; simp [lsO, Obj.mapSeq]) rfl rfl
      · by_cases h18 : j = 18
        · subst h18
          unfold conLT at hg
          cases h : isList1 (T.get y) with
          | none => simp only [h] at hg; cases hg
          | some z =>
            obtain ⟨ws, n⟩ := z
            simp only [h] at hg
            cases hg
            have hT := ho _ (List.mem_cons_self ..)
            replace hT : T.get y = some (lsO ws n) := hT
            obtain ⟨τ, rfl⟩ := ob
            exact wpCode_at (congrArg Ctx.code hx) <| last_code (D.own y _ hT).2 (left_same D rfl (ν := unkT τ))
        · by_cases h19 : j = 19
          · subst h19
            unfold conLT at hg
            cases h : isList1 (T.get y) with
            | none => simp only [h] at hg; cases hg
            | some z =>
              obtain ⟨ws, n⟩ := z
              simp only [h] at hg
              cases hg
              have hT := ho _ (List.mem_cons_self ..)
              replace hT : T.get y = some (lsO ws n) := hT
              obtain ⟨τ, rfl⟩ := ob
              refine wpCode_at (congrArg Ctx.code hx) <| put_code (D.own y _ hT).2 ?_
              exact left_upd D hT (u := s.toks) (ν := unk0) (by simp [lsO, Obj.mapSeq]) rfl rfl
          · have : conLT it L xs ys q o c rest st ah mk pre w0 j y Γ Γ.code T ads = conQ ⟨⟨fun i => match i with | 1 => [c] | _ => rest, fun _ => 0⟩, fun _ => []⟩ [] .none j y Γ Γ.code T ads := by
              unfold conLT
              split
              · exact absurd rfl h30
              · exact absurd rfl h31
              · exact absurd rfl h17
              · exact absurd rfl h18
              · exact absurd rfl h19
              · rfl
            rw [this] at hg
            exact conQ_ok _ _ _ _ _ _ _ _ _ _ _ _ _ hg hx ho ob D
/-! M702 -/
/-! ### _law_told in plain words -/
noncomputable def isMk (c : Nat) : Bool := c == 39 || c == 34
noncomputable def mkS (c : Nat) : Int := if c = 39 then 1 else 2
/-- the words told: those done, and the one begun -/
noncomputable abbrev Td := List (List Nat) × Option (List Nat)
noncomputable def toldT (c : Nat) (a : Int) (x : Td) : Td :=
  if a = 0 ∧ (c = 32 ∨ c = 10) then (x.1 ++ x.2.toList, none)
  else if isMk c = true ∧ (mkS c + a).fmod 3 ≠ 0 then (x.1, some (x.2.getD []))
  else (x.1, some (x.2.getD [] ++ [c]))
noncomputable def toldR (st : Int) : List Nat → List Nat → Td → Td
  | [], _, x => x
  | c :: r, done, x => toldR st r (c :: done) (toldT c (behL done st) x)
noncomputable def Td.all (x : Td) : List (List Nat) := x.1 ++ x.2.toList
theorem behL_3 (cs : List Nat) (st : Int) : behL cs st = 0 ∨ behL cs st = 1 ∨ behL cs st = 2 := by
  unfold behL
  dsimp only
  split
  · generalize (sumO _ _ - st) = x
    have h1 := Int.fmod_nonneg_of_pos x (b := 3) (by decide)
    have h2 := Int.fmod_lt_of_pos x (b := 3) (by decide)
    omega
  · generalize (st - sumO _ _) = x
    have h1 := Int.fmod_nonneg_of_pos x (b := 3) (by decide)
    have h2 := Int.fmod_lt_of_pos x (b := 3) (by decide)
    omega
/-! slices and places -/
theorem slc_gen {buf : List Nat} {a b : Nat} {l u : Option (Int × Tok)} (hab : a ≤ b) (hb : b ≤ buf.length) (hs : buf.length ≤ 1000)
    (hp : slicePicked ⟨⟨buf⟩⟩ l u none = (List.range (b - a)).map (fun k => a + k)) : SlcB "slice" ⟨⟨buf⟩⟩ l u none ((buf.drop a).take (b - a)) := by
  refine ⟨rfl, rfl, ?_, ?_⟩
  · rw [hp]
    split
    · rename_i h
      have h := (Bool.and_eq_true_iff.mp h).2
      simp [Str.length] at h
      have e : a = 0 := by omega
      subst e
      have e : b = buf.length := by omega
      subst e
      simp
    · have h := StrLaws.picks buf (b - a) a (by omega)
      show Str.mk _ = Str.mk _
      rw [← h]
      simp
  · have : sizeLine = 16777216 := by decide
    rw [List.length_take, List.length_drop]
    omega
theorem slc_from {buf : List Nat} {a : Nat} {i : Int} {τ : Tok} (hi : i = (a : Int)) (ha : a ≤ buf.length) (hs : buf.length ≤ 1000) : SlcB "slice" ⟨⟨buf⟩⟩ (some (i, τ)) none none (buf.drop a) := by
  have h := slc_gen (buf := buf) (a := a) (b := buf.length) (l := some (i, τ)) (u := none) ha (Nat.le_refl _) hs (by
    have := StrLaws.strSliceIndices_plain (a := a) (b := buf.length) (len := buf.length) ha (Nat.le_refl _)
    rw [← this]
    show Builtin.Str.strSliceIndices (some i) none 1 buf.length = _
    rw [hi]
    unfold Builtin.Str.strSliceIndices
    have h1 : ¬ ((buf.length : Int) < 0) := by omega
    simp only [show ((1 : Int) > 0) = True from by simp, if_true, h1, if_false]
    have e2 : max (0 : Int) (min (buf.length : Int) (buf.length : Int)) = buf.length := by omega
    rw [e2])
  rwa [List.take_of_length_le (by rw [List.length_drop]; exact Nat.le_refl _)] at h
theorem slc_mid {buf : List Nat} {a b : Nat} {i j : Int} {τ τ' : Tok} (hi : i = (a : Int)) (hj : j = (b : Int)) (hab : a ≤ b) (hb : b ≤ buf.length) (hs : buf.length ≤ 1000) : SlcB "slice" ⟨⟨buf⟩⟩ (some (i, τ)) (some (j, τ')) none ((buf.drop a).take (b - a)) := by
  refine slc_gen hab hb hs ?_
  rw [hi, hj]
  exact StrLaws.strSliceIndices_plain hab hb
theorem idx_at {buf : List Nat} {i c : Nat} {j : Int} (hj : j = (i : Int)) (h : buf[i]? = some c) (hs : buf.length ≤ 1000) : IdxB ⟨⟨buf⟩⟩ j [c] := by
  have hi := (List.getElem?_eq_some_iff.mp h).1
  have hz : (1000 : Int) ≤ 2 ^ 63 ∧ -(2 ^ 63 : Int) ≤ 0 := by decide
  have hj0 : 0 ≤ j ∧ j < 1000 := by omega
  have hjn : j.toNat = i := by omega
  refine ⟨c, rfl, ?_, ?_⟩
  · clear hj
    generalize (2 ^ 63 : Int) = B at hz
    simp only [Bool.or_eq_false_iff, decide_eq_false_iff_not]
    exact ⟨by omega, by omega⟩
  · have e : seqIndex? j (⟨⟨buf⟩⟩ : Str).length = some i := by
      unfold seqIndex?
      simp only [Str.length, List.size_toArray]
      subst hj
      simp
      omega
    rw [e]
    simpa using h
theorem isWords_last : ∀ {ws : List (List Nat)} {vals : List Value} {w0 : List Nat}, IsWords vals (ws ++ [w0]) → ∃ pre τ, vals = pre ++ [.str ⟨⟨w0⟩⟩ τ] ∧ IsWords pre ws
  | [], .str ⟨⟨l⟩⟩ τ :: r, w0, h => by
    obtain ⟨rfl, h⟩ := h
    cases r with
    | nil => exact ⟨[], τ, rfl, trivial⟩
    | cons x r => exact absurd h (by cases x <;> simp [IsWords])
  | w1 :: ws, .str ⟨⟨l⟩⟩ τ :: r, w0, h => by
    obtain ⟨rfl, h⟩ := h
    obtain ⟨pre, τ', rfl, h'⟩ := isWords_last h
    exact ⟨.str ⟨⟨l⟩⟩ τ :: pre, τ', rfl, rfl, h'⟩
theorem cnt_len : ∀ cs : List Nat, (cntL cs).length ≤ cs.length
  | [] => Nat.le_refl _
  | c :: r => by
    have := cnt_len r
    unfold cntL
    split
    · exact Nat.succ_le_succ this
    · split
      · exact Nat.succ_le_succ this
      · exact Nat.le_succ_of_le this
theorem cnt1 {c : Nat} (h : isMk c = true) : ∃ d : Bool, cntL [c] = [mkN d] ∧ mkS c = mkN d ∧ InB [39, 34] c 1 := by
  simp only [isMk, Bool.or_eq_true, beq_iff_eq] at h
  rcases h with rfl | rfl
  · exact ⟨true, rfl, rfl, rfl⟩
  · exact ⟨false, rfl, rfl, rfl⟩
theorem noMk {c : Nat} (h : ¬ isMk c = true) : InB [39, 34] c 0 := by
  simp only [isMk, Bool.or_eq_true, beq_iff_eq] at h
  exact inB0 (by simpa using h)
/-! M802 -/
/-! ### _law_told's inner loop -/
theorem mk3 {d e : Bool} : ((mkN d : Int) + mkOf e).fmod 3 = 0 ↔ d = !e := by cases d <;> cases e <;> decide
theorem mk0 {d : Bool} : ((mkN d : Int) + 0).fmod 3 ≠ 0 := by cases d <;> decide
theorem blank1 {c : Nat} (h : c = 32 ∨ c = 10) : InB [32, 10] c 1 := inB1 (by simpa using h)
theorem blank0 {c : Nat} (h : ¬ (c = 32 ∨ c = 10)) : InB [32, 10] c 0 := inB0 (by simpa using h)
noncomputable def lastZ (cell : List Nat) (st : Int) : Int × List Nat × Int := (0, [cell.headD 0], behL cell.tail st)
theorem beh_blank {c : Nat} (h : c = 32 ∨ c = 10) (done : List Nat) (st : Int) : behL (c :: done) st = behL done st := by
  have : cntL (c :: done) = cntL done := by rcases h with rfl | rfl <;> rfl
  unfold behL
  rw [this]
theorem did0 {s s' : Shared} {l' : List (Nat × Obj)} {l : List Nat} (A : After s s' l (List.range l.length ++ []) (l ++ []) (os_ l')) (hl : as_ l' = l) : Did s s' l' [] := by
  subst hl
  refine A.did l' [] [] rfl ?_ rfl (by simp) (by simp) rfl (by rw [List.append_nil]; rfl)
  rw [show (as_ l').length = l'.length from List.length_map ..]
theorem boolEq {d e : Bool} (h : ¬ d = !e) : d = e := by cases d <;> cases e <;> first | rfl | exact absurd rfl h
noncomputable def bgm (f bg : Bool) : Bool := match f with
  | true => false
  | false => bg
theorem bgF {f : Bool} {cur : Option (List Nat)} (h : f = true → cur = none) : cur.isSome = bgm f cur.isSome := by
  cases f with
  | false => rfl
  | true => have := h rfl; subst this; rfl
theorem lt_ok {w : World} {b b2 : Bool} {it L wl : Nat} {xs : Nat → FunC} {ys : Nat → LoopC} {q : Nat → Pos} {o : OutA} {ln : Str} {wd st fi : Int} {cell : List Nat} {R : Result → Shared → Prop}
    (nd : [it, L, wl].Nodup) (lo : ∀ y ∈ [it, L, wl], 769 ≤ y) (hz : cell.length ≤ 12) (ha : ∀ c ∈ cell, c < 128) :
    ∀ (r : List Nat) {done : List Nat} {ws : List (List Nat)} {cur : Option (List Nat)} {vals : List Value} {n m : Nat} {k v : Nat → Nat} {z : Option (Int × List Nat × Int)} {s : Shared} {p : Pos} (S : Top (wld w b b2) s)
      (hc : cell = r.reverse ++ done) (hv : IsWords vals (Td.all (ws, cur))) (hm : ws.length ≤ m) (hl : (cur.getD []).length ≤ m) (hmr : m + r.length ≤ 100) (hi : cur = none → behL done st = 0) (hzn : z = none → cur = none) (hzz : r = [] → z = some (lastZ cell st))
      (H : Holds s [(it, riO ((r.length : Int) - 1) (r.length : Int)), (L, frT (wld w b b2).params k v ln wd wl cur.isSome st fi ⟨⟨cell⟩⟩ z), (wl, lsO ⟨vals⟩ n)])
      (fin : ∀ (vals' : List Value) (n' : Nat) (k' v' : Nat → Nat) (s' : Shared), IsWords vals' (Td.all (toldR st r done (ws, cur))) → ((toldR st r done (ws, cur)).2 = none → behL cell st = 0) →
        Did s s' [(it, riO (-1) 0), (L, frT (wld w b b2).params k' v' ln wd wl (toldR st r done (ws, cur)).2.isSome st fi ⟨⟨cell⟩⟩ (some (lastZ cell st))), (wl, lsO ⟨vals'⟩ n')] [] → R (.ok .next) s'),
      wpCode (MW (wld w b b2)) (ctxLT it L xs ys q o) R p s
  | [], done, ws, cur, vals, n, m, k, v, z, s, p, S, hc, hv, hm, hl, hmr, hi, hzn, hzz, H, fin => by
    have ez := hzz rfl
    subst ez
    replace hc : cell = done := hc
    subst hc
    replace H : Holds s [(it, riO (-1) 0), (L, frT (wld w b b2).params k v ln wd wl cur.isSome st fi ⟨⟨cell⟩⟩ (some (lastZ cell st))), (wl, lsO ⟨vals⟩ n)] := H
    have lo' : ∀ y ∈ [(it, riO (-1) 0), (L, frT (wld w b b2).params k v ln wd wl cur.isSome st fi ⟨⟨cell⟩⟩ (some (lastZ cell st))), (wl, lsO ⟨vals⟩ n)], 769 ≤ y.1 := fun y hy => lo _ (List.mem_map.mpr ⟨y, hy, rfl⟩)
    refine runL_ok (env := envLT L) (fl := false) [] (conLT_ok (it := it) (L := L) (xs := xs) (ys := ys) (q := q) (o := o) (st := st) (c := 0) (rest := []) (by simp) (by simp) (by simp [cntL]) (ah := behL [] st) rfl (by decide) (mk := 0) (pre := []) (w0 := [])) rfl S H nd lo' _ _ (fun _ => []) _ (fun nv => lt_e w b b2 cur.isSome it L wl xs ys q o 0 [] k v ln ⟨⟨cell⟩⟩ wd st fi (-1) _ (lastZ cell st) ⟨vals⟩ n _ _ p nv) (fun _ => trivial) fun nv s' Af => ?_
    · try dsimp only at Af
      generalize runL _ _ _ _ _ _ _ _ _ _ _ = X at Af
      exact fin vals n k v s' hv hi (Af.did [(it, riO (-1) 0), (L, frT (wld w b b2).params k v ln wd wl cur.isSome st fi ⟨⟨cell⟩⟩ (some (lastZ cell st))), (wl, lsO ⟨vals⟩ n)] [] [] rfl rfl rfl (by simp) (by simp) rfl rfl)
  | c :: r, done, ws, cur, vals, n, m, k, v, z, s, p, S, hc, hv, hm, hl, hmr, hi, hzn, hzz, H, fin => by
    obtain ⟨ah, hah⟩ : ∃ ah, ah = behL done st := ⟨_, rfl⟩
    have hlen : cell.length = r.length + 1 + done.length := by rw [hc]; simp; omega
    have hdone : done = cell.drop (r.length + 1) := by
      rw [hc, List.reverse_cons, List.append_assoc, ← List.append_assoc]
      rw [List.drop_append_of_le_length (by simp)]
      simp
    have hget : cell[r.length]? = some c := by
      rw [hc, List.reverse_cons, List.append_assoc, List.getElem?_append_right (by simp)]
      simp
    have hz' : cell.length ≤ 1000 := by omega
    have hcc : c < 128 := ha c (by rw [hc]; simp)
    have hdz : done.length ≤ 12 := by omega
    have hda : ∀ x ∈ done, x < 128 := fun x hx => ha x (by rw [hc]; simp [hx])
    have hdn : (cntL done).length ≤ 12 := Nat.le_trans (cnt_len done) hdz
    have hsl : ∀ τ, SlcB "slice" ⟨⟨cell⟩⟩ (some ((r.length : Int) + 1, τ)) none none done := fun τ => by
      have := slc_from (buf := cell) (a := r.length + 1) (i := (r.length : Int) + 1) (τ := τ) (by omega) (by omega) hz'
      rwa [← hdone] at this
    have hix : IdxB ⟨⟨cell⟩⟩ (r.length : Int) [c] := idx_at rfl hget hz'
    have hpl : (((c :: r).length : Nat) : Int) - 1 = (r.length : Int) := by rw [List.length_cons]; omega
    rw [hpl] at H
    replace H : Holds s [(it, riO (r.length : Int) (.ofNat (r.length + 1))), (L, frT (wld w b b2).params k v ln wd wl cur.isSome st fi ⟨⟨cell⟩⟩ z), (wl, lsO ⟨vals⟩ n)] := H
    have e1 : (r.length : Int) + -1 = (r.length : Int) - 1 := rfl
    have e2 : (Int.ofNat (r.length + 1) : Int) - 1 = (r.length : Int) := by
      show ((r.length + 1 : Nat) : Int) - 1 = _
      omega
    -- what a turn leaves
    have step : ∀ {vals2 : List Value} {x2 : Td} (n2 : Nat) (k2 v2 : Nat → Nat) (p2 : Pos) (s2 : Shared), x2 = toldT c ah (ws, cur) → IsWords vals2 (Td.all x2) →
        Did s s2 [(it, riO ((r.length : Int) + -1) (Int.ofNat (r.length + 1) - 1)), (L, frT (wld w b b2).params k2 v2 ln wd wl x2.2.isSome st fi ⟨⟨cell⟩⟩ (some ((r.length : Int), [c], ah))), (wl, lsO ⟨vals2⟩ n2)] [] →
        wpCode (MW (wld w b b2)) (ctxLT it L xs ys q o) R p2 s2 := by
      intro vals2 x2 n2 k2 v2 p2 s2 hx h2 D
      rw [e1, e2] at D
      obtain ⟨ws2, cur2⟩ := x2
      have hb : ws2.length ≤ m + 1 ∧ (cur2.getD []).length ≤ m + 1 ∧ (cur2 = none → behL (c :: done) st = 0) := by
        unfold toldT at hx
        split at hx
        · rename_i hbl
          cases hx
          refine ⟨?_, Nat.zero_le _, fun _ => by rw [beh_blank hbl.2, ← hah]; exact hbl.1⟩
          cases cur <;> simp <;> omega
        · split at hx
          · cases hx
            exact ⟨Nat.le_succ_of_le hm, by simpa using Nat.le_succ_of_le hl, fun h => by cases h⟩
          · cases hx
            exact ⟨Nat.le_succ_of_le hm, by simpa using hl, fun h => by cases h⟩
      have et : toldR st (c :: r) done (ws, cur) = toldR st r (c :: done) (ws2, cur2) := by
        rw [toldR, ← hah, ← hx]
      refine lt_ok nd lo hz ha r (done := c :: done) (ws := ws2) (cur := cur2) (m := m + 1) (Did.sane S D (fun y hy => lo _ (List.mem_map.mpr ⟨y, hy, rfl⟩))) (by rw [hc]; simp) h2 hb.1 hb.2.1 (by rw [List.length_cons] at hmr; omega) hb.2.2 (fun h => by cases h) (fun h => ?_) D.holds fun vals' n' k' v' s' hv' hi' D' => ?_
      · subst h
        unfold lastZ
        rw [hc, hah]
        rfl
      · rw [← et] at hv' hi' D'
        exact fin vals' n' k' v' s' hv' hi' (D.trans D' fun _ h => h)
    have hcon : ∀ {l0 : Nat} (mk : Nat) (pre : List Value) (w0 : List Nat), ConOk (baseOf (kt (wld w b b2).params) 769 l0 s) (MW (wld w b b2)) (cfgW (wld w b b2) (conLT it L xs ys q o c done st ah mk pre w0)) := fun mk pre w0 => conLT_ok hdz hda hdn hah hcc
    have lo' : ∀ (o1 o2 o3 : Obj), ∀ y ∈ [(it, o1), (L, o2), (wl, o3)], 769 ≤ y.1 := fun o1 o2 o3 y hy => lo _ (List.mem_map.mpr ⟨y, hy, rfl⟩)
    have sz : ws.length ≤ 1000000 := by omega
    have hwl : ∀ w0, cur = some w0 → LeB ⟨⟨w0⟩⟩ ⟨⟨[c]⟩⟩ := fun w0 h => by
      subst h
      refine leB ?_
      have : sizeLine = 16777216 := by decide
      have hl : w0.length ≤ m := hl
      omega
    have hw0 : LeB ⟨⟨[]⟩⟩ ⟨⟨[c]⟩⟩ := leB (by decide)
    obtain ⟨f, z0, hf, hfz⟩ : ∃ (f : Bool) (z0 : Int × List Nat × Int), z = oldT f z0 ∧ (f = true → cur = none) := by
      cases z with
      | none => exact ⟨true, default, rfl, fun _ => hzn rfl⟩
      | some z0 => exact ⟨false, z0, rfl, fun h => by cases h⟩
    subst hf
    by_cases h0 : ah = 0
    · rw [h0] at step hcon
      by_cases hbl : c = 32 ∨ c = 10
      · -- a blank
        have hx : ((ws ++ cur.toList, none) : Td) = toldT c 0 (ws, cur) := by unfold toldT; rw [if_pos ⟨rfl, hbl⟩]
        have hvv : IsWords vals (Td.all ((ws ++ cur.toList, none) : Td)) := by simpa [Td.all] using hv
        have hfb := bgF hfz
        rw [hfb] at H
        refine runL_ok (env := envLT L) (fl := false) [] (hcon 0 [] []) rfl S H nd (lo' _ _ _) _ _ (fun _ => []) _ (fun nv => lt_b w b b2 f cur.isSome it L wl xs ys q o c done k v ln ⟨⟨cell⟩⟩ wd st fi r.length z0 r.length ⟨vals⟩ n _ _ p nv) (fun nv => ⟨blank1 hbl, trivial, hsl _, hix, trivial⟩) fun nv s' Af => ?_
        try dsimp only at Af
        generalize runL _ _ _ _ _ _ _ _ _ _ _ = X at Af ⊢
        exact step n _ _ _ s' hx hvv (did0 Af rfl)
      · cases cur with
        | none =>
          have hv0 : IsWords vals ws := by simpa [Td.all] using hv
          have hsm : SmallB ⟨vals⟩ := by
            show vals.length ≤ 1000000
            rw [hv0.length]; exact sz
          by_cases hq : isMk c = true
          · obtain ⟨d, h1, h2, h3⟩ := cnt1 hq
            have hx : ((ws, some []) : Td) = toldT c 0 (ws, none) := by unfold toldT; rw [if_neg (fun h => hbl h.2), if_pos ⟨hq, by rw [h2]; exact mk0⟩]; rfl
            refine runL_ok (env := envLT L) (fl := false) [] (hcon (mkN d) vals []) rfl S H nd (lo' _ _ _) _ _ (fun _ => []) _ (fun nv => lt_q0 w b b2 f d it L wl xs ys q o c done k v ln ⟨⟨cell⟩⟩ wd st fi r.length z0 r.length vals [] 0 n _ _ p nv) (fun nv => ⟨h1, h3, hsm, blank0 hbl, trivial, hsl _, hix, trivial⟩) fun nv s' Af => ?_
            try dsimp only at Af
            generalize runL _ _ _ _ _ _ _ _ _ _ _ = X at Af ⊢
            have D := did0 Af rfl
            exact step _ _ _ _ s' hx hv0.snoc D
          · have hx : ((ws, some [c]) : Td) = toldT c 0 (ws, none) := by unfold toldT; rw [if_neg (fun h => hbl h.2), if_neg (fun h => hq h.1)]; rfl
            refine runL_ok (env := envLT L) (fl := false) [] (hcon 0 vals []) rfl S H nd (lo' _ _ _) _ _ (fun _ => []) _ (fun nv => lt_n0 w b b2 f it L wl xs ys q o c done k v ln ⟨⟨cell⟩⟩ wd st fi r.length z0 r.length vals [] 0 n _ _ p nv) (fun nv => ⟨⟨_, rfl⟩, hw0, ⟨_, rfl⟩, noMk hq, hsm, blank0 hbl, trivial, hsl _, hix, trivial⟩) fun nv s' Af => ?_
            try dsimp only at Af
            generalize runL _ _ _ _ _ _ _ _ _ _ _ = X at Af ⊢
            have D := did0 Af rfl
            exact step _ _ _ _ s' hx hv0.snoc D
        | some w0 =>
          have ef : f = false := by
            cases f with
            | false => rfl
            | true => exact absurd (hfz rfl) (by simp)
          subst ef
          obtain ⟨pre, τ0, rfl, hv0⟩ := isWords_last (w0 := w0) (ws := ws) (by simpa [Td.all] using hv)
          by_cases hq : isMk c = true
          · obtain ⟨d, h1, h2, h3⟩ := cnt1 hq
            have hx : ((ws, some w0) : Td) = toldT c 0 (ws, some w0) := by unfold toldT; rw [if_neg (fun h => hbl h.2), if_pos ⟨hq, by rw [h2]; exact mk0⟩]; rfl
            refine runL_ok (env := envLT L) (fl := false) [] (hcon (mkN d) pre w0) rfl S H nd (lo' _ _ _) _ _ (fun _ => []) _ (fun nv => lt_q1 w b b2 d it L wl xs ys q o c done k v ln ⟨⟨cell⟩⟩ wd st fi r.length z0 r.length pre w0 τ0 n _ _ p nv) (fun nv => ⟨h1, h3, blank0 hbl, trivial, hsl _, hix, trivial⟩) fun nv s' Af => ?_
            try dsimp only at Af
            generalize runL _ _ _ _ _ _ _ _ _ _ _ = X at Af ⊢
            have D := did0 Af rfl
            exact step _ _ _ _ s' hx hv0.snoc D
          · have hx : ((ws, some (w0 ++ [c])) : Td) = toldT c 0 (ws, some w0) := by unfold toldT; rw [if_neg (fun h => hbl h.2), if_neg (fun h => hq h.1)]; rfl
            refine runL_ok (env := envLT L) (fl := false) [] (hcon 0 pre w0) rfl S H nd (lo' _ _ _) _ _ (fun _ => []) _ (fun nv => lt_n1 w b b2 it L wl xs ys q o c done k v ln ⟨⟨cell⟩⟩ wd st fi r.length z0 r.length pre w0 τ0 n _ _ p nv) (fun nv => ⟨⟨_, rfl⟩, hwl w0 rfl, ⟨_, rfl⟩, noMk hq, blank0 hbl, trivial, hsl _, hix, trivial⟩) fun nv s' Af => ?_
            try dsimp only at Af
            generalize runL _ _ _ _ _ _ _ _ _ _ _ = X at Af ⊢
            have D := did0 Af rfl
            exact step _ _ _ _ s' hx hv0.snoc (by rw [str_snoc] at D; exact D)
    · obtain ⟨e, he⟩ : ∃ e : Bool, ah = mkOf e := by
        rcases behL_3 done st with h | h | h
        · exact absurd (hah.trans h) h0
        · exact ⟨true, hah.trans h⟩
        · exact ⟨false, hah.trans h⟩
      cases cur with
      | none => exact absurd (hah.trans (hi rfl)) h0
      | some w0 =>
        have ef : f = false := by
          cases f with
          | false => rfl
          | true => exact absurd (hfz rfl) (by simp)
        subst ef
        obtain ⟨pre, τ0, rfl, hv0⟩ := isWords_last (w0 := w0) (ws := ws) (by simpa [Td.all] using hv)
        rw [he] at step hcon h0
        by_cases hq : isMk c = true
        · obtain ⟨d, h1, h2, h3⟩ := cnt1 hq
          by_cases hde : d = !e
          · subst hde
            have hx : ((ws, some (w0 ++ [c])) : Td) = toldT c (mkOf e) (ws, some w0) := by unfold toldT; rw [if_neg (fun h => h0 h.1), if_neg (fun h => h.2 (by rw [h2]; exact mk3.mpr rfl))]; rfl
            refine runL_ok (env := envLT L) (fl := false) [] (hcon (mkN !e) pre w0) rfl S H nd (lo' _ _ _) _ _ (fun _ => []) _ (fun nv => lt_a w b b2 e it L wl xs ys q o c done k v ln ⟨⟨cell⟩⟩ wd st fi r.length z0 r.length pre w0 τ0 n _ _ p nv) (fun nv => ⟨⟨_, rfl⟩, hwl w0 rfl, ⟨_, rfl⟩, h1, h3, trivial, hsl _, hix, trivial⟩) fun nv s' Af => ?_
            try dsimp only at Af
            generalize runL _ _ _ _ _ _ _ _ _ _ _ = X at Af ⊢
            have D := did0 Af rfl
            exact step _ _ _ _ s' hx hv0.snoc (by rw [str_snoc] at D; exact D)
          · have hd : d = e := boolEq hde
            subst hd
            have hx : ((ws, some w0) : Td) = toldT c (mkOf d) (ws, some w0) := by unfold toldT; rw [if_neg (fun h => h0 h.1), if_pos ⟨hq, by rw [h2]; exact fun h => hde (mk3.mp h)⟩]; rfl
            refine runL_ok (env := envLT L) (fl := false) [] (hcon (mkN d) pre w0) rfl S H nd (lo' _ _ _) _ _ (fun _ => []) _ (fun nv => lt_q2 w b b2 d it L wl xs ys q o c done k v ln ⟨⟨cell⟩⟩ wd st fi r.length z0 r.length pre w0 τ0 n _ _ p nv) (fun nv => ⟨h1, h3, trivial, hsl _, hix, trivial⟩) fun nv s' Af => ?_
            try dsimp only at Af
            generalize runL _ _ _ _ _ _ _ _ _ _ _ = X at Af ⊢
            have D := did0 Af rfl
            exact step _ _ _ _ s' hx hv0.snoc D
        · have hx : ((ws, some (w0 ++ [c])) : Td) = toldT c (mkOf e) (ws, some w0) := by unfold toldT; rw [if_neg (fun h => h0 h.1), if_neg (fun h => hq h.1)]; rfl
          refine runL_ok (env := envLT L) (fl := false) [] (hcon 0 pre w0) rfl S H nd (lo' _ _ _) _ _ (fun _ => []) _ (fun nv => lt_n2 w b b2 e it L wl xs ys q o c done k v ln ⟨⟨cell⟩⟩ wd st fi r.length z0 r.length pre w0 τ0 n _ _ p nv) (fun nv => ⟨⟨_, rfl⟩, hwl w0 rfl, ⟨_, rfl⟩, noMk hq, trivial, hsl _, hix, trivial⟩) fun nv s' Af => ?_
          try dsimp only at Af
          generalize runL _ _ _ _ _ _ _ _ _ _ _ = X at Af ⊢
          have D := did0 Af rfl
          exact step _ _ _ _ s' hx hv0.snoc (by rw [str_snoc] at D; exact D)
/-! M902 -/
/-! ### _law_told: the outer loop's turns -/
noncomputable def riS (a k st : Int) : Obj := ⟨.type "range_iterator", none, .fields ⟨[.int a 0, .int k 0, .int st 0]⟩, ⟨[]⟩⟩
noncomputable def yO (it L : Nat) : LoopC := ⟨forT sLO, .ref it, forB sLO, forO sLO, envLT L⟩
noncomputable def xT (L : Nat) : FunC := ⟨fnB dLT, envLT L⟩
noncomputable def ctxLO (it L : Nat) (qf : Pos) (o : OutA) : Ctx := ctxOf (lcode (yO it L)) ((fcode (xT L), qf) :: outOf o)
noncomputable def qO (bel : List (Code × Pos)) (i : Nat) : Pos := match i with
  | 2 => posN bel 0
  | _ => posN bel 1
noncomputable def frT5 (P : Params) (k v : Nat → Nat) (ln : Str) (wd : Int) (wl : Nat) (bg : Bool) (st : Int) : Obj :=
  frameO [ent P [108,105,110,101] (k 0) (.str ln (v 0)), ent P [119,105,100,116,104] (k 1) (.int wd (v 1)), ent P [119,111,114,100,115] (k 2) (.ref wl), ent P [98,101,103,117,110] (k 3) (.bool bg), ent P [115,116,97,116,101] (k 4) (.int st (v 4))] 5 ⟨[]⟩
noncomputable def isFL : Code → Bool
  | .forLoop .. => true
  | _ => false
noncomputable def inL (P : Params) (i5 L wl : Nat) (ln : Str) (wd st fi : Int) (cell : List Nat) (T : BT) (vals : List Value) (n : Nat) (bg : Bool) (z : Option (Int × List Nat × Int)) : List (Nat × Obj) :=
  [(i5, riO (wd - 1) wd), (L, frT P (fun i => vtok (entO (T.get 1) i).key) (fun i => vtok (entO (T.get 1) i).val) ln wd wl bg st fi ⟨⟨cell⟩⟩ z), (wl, lsO ⟨vals⟩ n)]
noncomputable def inCh (P : Params) (i5 L wl : Nat) (ln : Str) (wd st fi : Int) (cell : List Nat) (ws' : List (List Nat)) (bg' : Bool) (z' : Int × List Nat × Int) (ν : Unk) : List (Nat × Obj) :=
  [(i5, riO (-1) 0), (L, frT P (fun i => vtok (entO (some (ν.ob 0)) i).key) (fun i => vtok (entO (some (ν.ob 0)) i).val) ln wd wl bg' st fi ⟨⟨cell⟩⟩ (some z')), (wl, lsO ⟨mkW ws' fun i => ν.n (i + 1)⟩ (ν.n 0))]
noncomputable def conLO (P : Params) (ito L wl : Nat) (o : OutA) (ln : Str) (wd st fi : Int) (cell : List Nat) (vals : List Value) (n : Nat) (bg : Bool) (z : Option (Int × List Nat × Int)) (st' : Int) (ws' : List (List Nat)) (bg' : Bool) (z' : Int × List Nat × Int) : CF := fun j x Γ cd T ads => match j with
  | 30 => some { gx := ctxLB (belK 3 (fun _ => xT L) (fun _ => yO ito L) (qO Γ.below) o) cell (strTok cd) st (tok1 (arg1 cd)), ob := True, left := fun ν => ⟨.ok (.ret (.int st' (ν.n 0))), T, []⟩ }
  | 32 => match isFL cd with
    | true => some (conS T ads (ctxLT (adOf ads 5) L (fun _ => xT L) (fun _ => yO ito L) (qO Γ.below) o) (zip3 [5, 1, 2] (inL P (adOf ads 5) L wl ln wd st fi cell T vals n bg z)) True
        (fun _ => .ok .next) (fun ν => zip2 [5, 1, 2] (inCh P (adOf ads 5) L wl ln wd st fi cell ws' bg' z' ν)) fun _ => [])
    | false => none
  | j => conO ⟨fun _ => cell, fun _ => 0⟩ j x Γ cd T ads
noncomputable def frF (P : Params) (k v : Nat → Nat) (ln : Str) (wd : Int) (wl : Nat) (bg : Bool) (st : Int) (y : Int × List Nat × (Int × List Nat × Int)) : Bool → Obj
  | true => frT5 P k v ln wd wl bg st
  | false => frT P k v ln wd wl bg st y.1 ⟨⟨y.2.1⟩⟩ (some y.2.2)
noncomputable def wdN : Nat → Int
  | 0 => 1
  | 1 => 2
  | 2 => 3
  | 3 => 4
  | _ => 12
theorem lo_t (w : World) (b b2 f : Bool) (wi : Nat) (hw : wi < 5) (it L wl : Nat) (qf : Pos) (o : OutA) (k v : Nat → Nat) (ln : Str) (st fi : Int) (cell : List Nat) (y : Int × List Nat × (Int × List Nat × Int)) (r : Nat) (vals : List Value) (n : Nat) (bg : Bool) (st' : Int) (ws' : List (List Nat)) (bg' : Bool) (z' : Int × List Nat × Int) (N t : Nat) (p : Pos) (nv : Nv) :
    let W := wld w b b2
    let X := runL (cfgW W (conLO W.params it L wl o ln (wdN wi) st fi cell vals n bg (oldT f y.2.2) st' ws' bg' z')) 160 (ctxLO it L qf o) p (envLT L) false [1, 0, 1, 0, 1, 1, 1, 1, 1, 1, 1, 2, 2, 2, 2, 2, 2, 0, 0, 9, 302, 2, 2, 0, 0, 2, 0, 0, 0, 0, 0, 0, 0, 0, 0, 0, 5, 5, 0, 5, 0, 5, 5, 5, 0, 5, 0, 5, 5, 5, 6, 33, 5, 0, 2, 2, 0, 31, 0, 2, 2, 1]
      [(it, riS fi (.ofNat (r + 1)) (wdN wi)), (L, frF W.params k v ln (wdN wi) wl bg st y f), (wl, lsO ⟨vals⟩ n)] N t nv
    let l' := [(it, riS (fi + wdN wi) (.ofNat (r + 1) - 1) (wdN wi)), (L, frT W.params (ktk X 1) (vt X 1) ln (wdN wi) wl bg' st' fi ⟨⟨cell⟩⟩ (some z')), (wl, lsO ⟨mkW ws' fun i => (nv 1).2.2.n (i + 1)⟩ ((nv 1).2.2.n 0))]
    look [0, 1, 2] X = some (.again (ctxLO it L qf o) (posOf X), os_ l', as_ l', dup (eqsOf X), dupG (gsOf X), dupO (osOf X), (True ∧ True ∧ SlcB "slice" ln (some (fi, vtok (fdOf X 3 0))) (some (fi + wdN wi, vtok (fdOf X 3 1))) none cell ∧ True)) := by
  match wi, hw with
  | 0, _ => cases b <;> cases b2 <;> cases f <;> (intro W X l'; kernel_rfl)
  | 1, _ => cases b <;> cases b2 <;> cases f <;> (intro W X l'; kernel_rfl)
  | 2, _ => cases b <;> cases b2 <;> cases f <;> (intro W X l'; kernel_rfl)
  | 3, _ => cases b <;> cases b2 <;> cases f <;> (intro W X l'; kernel_rfl)
  | 4, _ => cases b <;> cases b2 <;> cases f <;> (intro W X l'; kernel_rfl)
/-- the outer loop's end -/
theorem lo_e (w : World) (b b2 : Bool) (wi : Nat) (it L wl : Nat) (qf : Pos) (o : OutA) (k v : Nat → Nat) (ln : Str) (st fi fi0 : Int) (cell : List Nat) (z : Int × List Nat × Int) (vals : List Value) (n : Nat) (bg : Bool) (N t : Nat) (p : Pos) (nv : Nv) :
    let W := wld w b b2
    let X := runL (cfgW W (conO orc0)) 100 (ctxLO it L qf o) p (envLT L) false [1, 0, 1, 0, 1, 1, 1, 5, 0]
      [(it, riS fi 0 (wdN wi)), (L, frT W.params k v ln (wdN wi) wl bg st fi0 ⟨⟨cell⟩⟩ (some z)), (wl, lsO ⟨vals⟩ n)] N t nv
    let l' := [(it, riS fi 0 (wdN wi)), (L, frT W.params k v ln (wdN wi) wl bg st fi0 ⟨⟨cell⟩⟩ (some z)), (wl, lsO ⟨vals⟩ n)]
    look [0, 1, 2] X = some (.done (.ok .next), os_ l', as_ l', dup (eqsOf X), dupG (gsOf X), dupO (osOf X), True) := by
  cases b <;> cases b2 <;> (intro W X l'; kernel_rfl)
/-! MA02 -/
theorem conLO_ok {w : World} {b b2 : Bool} {ito L wl : Nat} {o : OutA} {ln : Str} {wd st fi : Int} {cell : List Nat} {vals : List Value} {n m : Nat} {bg : Bool} {z : Option (Int × List Nat × Int)} {st' : Int} {ws' : List (List Nat)} {bg' : Bool} {z' : Int × List Nat × Int} {ws : List (List Nat)} {cur : Option (List Nat)}
    (hz : cell.length ≤ 12) (h0 : cell ≠ []) (ha : ∀ c ∈ cell, c < 128) (hwd : wd = (cell.length : Int)) (hv : IsWords vals (Td.all (ws, cur))) (hbg : bg = cur.isSome) (hm : ws.length ≤ m) (hl : (cur.getD []).length ≤ m) (hmr : m + cell.length ≤ 100) (hi : cur = none → behL [] st = 0) (hzn : z = none → cur = none)
    (e1 : st' = behL cell st) (e2 : ws' = Td.all (toldR st cell.reverse [] (ws, cur))) (e3 : bg' = (toldR st cell.reverse [] (ws, cur)).2.isSome) (e4 : z' = lastZ cell st) {l0 : Nat} {s₀ : Shared} :
    ConOk (baseOf (kt (wld w b b2).params) 769 l0 s₀) (MW (wld w b b2)) (cfgW (wld w b b2) (conLO (wld w b b2).params ito L wl o ln wd st fi cell vals n bg z st' ws' bg' z')) := by
  intro j y Γ T m' ads tk s p g hg hx hn ho ob D
  obtain ⟨c0, g1, g2, bel, g3⟩ := Γ
  replace hg : conLO (wld w b b2).params ito L wl o ln wd st fi cell vals n bg z st' ws' bg' z' j y ⟨c0, g1, g2, bel, g3⟩ c0 T ads = some g := hg
  by_cases h30 : j = 30
  · subst h30
    cases hg
    replace hx : _ = ctxLB (belK 3 (fun _ => xT L) (fun _ => yO ito L) (qO bel) o) cell (strTok c0) st (tok1 (arg1 c0)) := hx
    rw [hx]
    refine wpCode_mono (fun r s' h => ?_) (behind_ok (.inr rfl) hz ha (Nat.le_trans (cnt_len cell) hz) (rep_sane D))
    obtain ⟨ν, rfl, hD⟩ := h
    exact ⟨_, _, ν, left_none (s' := s') (ch := []) D (by show Left.mk _ _ _ = _; rw [e1]; rfl) (by simp) hD.keep⟩
  · by_cases h32 : j = 32
    · subst h32
      cases hb' : isFL c0 with
      | false => simp only [conLO, hb'] at hg; cases hg
      | true =>
        simp only [conLO, hb'] at hg
        cases hg
        obtain ⟨h1, h2⟩ := conS_holds D hn ho
        obtain ⟨H, hads, hm2⟩ := zip3_holds _ _ rfl h1 h2
        replace hx : _ = ctxLT (adOf ads 5) L (fun _ => xT L) (fun _ => yO ito L) (qO bel) o := hx
        rw [hx]
        have hads' : [adOf ads 5, L, wl] = [5, 1, 2].map (adOf ads) := hads
        have nd : [adOf ads 5, L, wl].Nodup := by
          rw [hads']; exact nodup_ad D (is := [5, 1, 2]) (by decide) hm2
        have lo : ∀ z ∈ [adOf ads 5, L, wl], 769 ≤ z := fun z hz => by
          rw [hads'] at hz
          obtain ⟨i, hi, rfl⟩ := List.mem_map.mp hz
          exact (D.lo i (hm2 i hi)).1
        unfold inL at H
        rw [hbg] at H
        have hrl : ((cell.reverse.length : Nat) : Int) = wd := by rw [List.length_reverse, hwd]
        refine lt_ok nd lo hz ha cell.reverse (done := []) (ws := ws) (cur := cur) (m := m) (z := z) (rep_sane D) (by simp) hv hm hl (by rw [List.length_reverse]; exact hmr) hi hzn (fun h => absurd (List.reverse_eq_nil_iff.mp h) h0) (by rw [hrl]; exact H) fun vals' n' k' v' s' hv' hi' hD => ?_
        rw [← e2] at hv'
        rw [← e3, ← e4] at hD
        obtain ⟨t, rfl⟩ := isWords_mkW hv'
        have hw : ((inCh (wld w b b2).params (adOf ads 5) L wl ln wd st fi cell ws' bg' z' ⟨fun i => match i with | 0 => n' | i + 1 => t i, fun _ => #[], fun _ => #[], fun _ => frT (wld w b b2).params k' v' ln wd wl bg' st fi ⟨⟨cell⟩⟩ (some z')⟩).map (·.1)) = [5, 1, 2].map (adOf ads) := hads'
        refine conS_left D ⟨fun i => match i with | 0 => n' | i + 1 => t i, fun _ => #[], fun _ => #[], fun _ => frT (wld w b b2).params k' v' ln wd wl bg' st fi ⟨⟨cell⟩⟩ (some z')⟩ _ rfl _ _ hD ?_ (zip2_mem _ _ hm2) rfl fun k hk => absurd hk (Nat.not_lt_zero _)
        refine Eq.trans ?_ (zip2_ad [5, 1, 2] _ hw)
        rfl
    · have : conLO (wld w b b2).params ito L wl o ln wd st fi cell vals n bg z st' ws' bg' z' j y ⟨c0, g1, g2, bel, g3⟩ c0 T ads = conO ⟨fun _ => cell, fun _ => 0⟩ j y ⟨c0, g1, g2, bel, g3⟩ c0 T ads := by
        unfold conLO
        split
        · exact absurd rfl h30
        · exact absurd rfl h32
        · rfl
      rw [this] at hg
      exact conO_ok _ _ _ _ _ _ _ _ _ _ _ hg hx ob D
/-- what _law_told tells: the cells one by one, each from its end -/
noncomputable def toldO (wd : Nat) : Nat → List Nat → Int × Td → Int × Td
  | 0, _, a => a
  | r + 1, ln, a => toldO wd r (ln.drop wd) (behL (ln.take wd) a.1, toldR a.1 (ln.take wd).reverse [] a.2)
/-- _law_told's frame: all but words and state unknown -/
noncomputable def frG (P : Params) (o : Obj) (wl : Nat) (st : Int) : Obj :=
  let k := fun i => vtok (entO (some o) i).key
  let v := fun i => (entO (some o) i).val
  frameO [ent P [108,105,110,101] (k 0) (v 0), ent P [119,105,100,116,104] (k 1) (v 1), ent P [119,111,114,100,115] (k 2) (.ref wl), ent P [98,101,103,117,110] (k 3) (v 3), ent P [115,116,97,116,101] (k 4) (.int st (vtok (v 4))), ent P [102,105,114,115,116] (k 5) (v 5), ent P [99,101,108,108] (k 6) (v 6), ent P [112,108,97,99,101] (k 7) (v 7), ent P [115,105,103,110] (k 8) (v 8), ent P [97,104,101,97,100] (k 9) (v 9)] 10 ⟨[]⟩
theorem frG_eq (P : Params) (k v : Nat → Nat) (ln : Str) (wd : Int) (wl : Nat) (bg : Bool) (st fi : Int) (cell : Str) (z : Int × List Nat × Int) : frT P k v ln wd wl bg st fi cell (some z) = frG P (frT P k v ln wd wl bg st fi cell (some z)) wl st := rfl
/-! MB02 -/
theorem toldT_len {c : Nat} {a : Int} {ws : List (List Nat)} {cur : Option (List Nat)} {m : Nat} (hm : ws.length ≤ m) (hl : (cur.getD []).length ≤ m) : (toldT c a (ws, cur)).1.length ≤ m + 1 ∧ ((toldT c a (ws, cur)).2.getD []).length ≤ m + 1 := by
  unfold toldT
  split
  · refine ⟨?_, Nat.zero_le _⟩
    cases cur <;> simp <;> omega
  · split
    · exact ⟨Nat.le_succ_of_le hm, by simpa using Nat.le_succ_of_le hl⟩
    · exact ⟨Nat.le_succ_of_le hm, by simpa using hl⟩
theorem toldR_len {st : Int} : ∀ (r done : List Nat) (x : Td) (m : Nat), x.1.length ≤ m → (x.2.getD []).length ≤ m → (toldR st r done x).1.length ≤ m + r.length ∧ ((toldR st r done x).2.getD []).length ≤ m + r.length
  | [], _, x, m, h1, h2 => ⟨h1, h2⟩
  | c :: r, done, (ws, cur), m, h1, h2 => by
    have z := toldT_len (c := c) (a := behL done st) h1 h2
    have h := toldR_len (st := st) r (c :: done) (toldT c (behL done st) (ws, cur)) (m + 1) z.1 z.2
    rw [toldR, List.length_cons, show m + (r.length + 1) = m + 1 + r.length by omega]
    exact h
theorem toldR_none {st : Int} : ∀ (r done : List Nat) (x : Td), (x.2 = none → behL done st = 0) → (toldR st r done x).2 = none → behL (r.reverse ++ done) st = 0
  | [], done, x, h, e => h e
  | c :: r, done, (ws, cur), h, e => by
    rw [toldR] at e
    rw [List.reverse_cons, List.append_assoc]
    refine toldR_none r (c :: done) _ (fun hx => ?_) e
    unfold toldT at hx
    split at hx
    · rename_i hb
      rw [beh_blank hb.2]; exact hb.1
    · split at hx <;> cases hx
theorem mkW_words : ∀ (ws : List (List Nat)) (τ : Nat → Nat), IsWords (mkW ws τ) ws
  | [], _ => trivial
  | l :: r, τ => ⟨rfl, mkW_words r _⟩
theorem td_loop {w : World} {b b2 : Bool} {it L wl : Nat} {qf : Pos} {o : OutA} {line : List Nat} {wi : Nat} (hw : wi < 5) {wd : Nat} (ewd : wdN wi = (wd : Int)) (hwd : 0 < wd) (nd : [it, L, wl].Nodup) (lo : ∀ y ∈ [it, L, wl], 769 ≤ y) (hz : line.length = 12) (ha : ∀ c ∈ line, c < 128) {R : Result → Shared → Prop} :
    ∀ (r : Nat) {rest : List Nat} {ws : List (List Nat)} {cur : Option (List Nat)} {st : Int} {vals : List Value} {n m fi : Nat} {k v : Nat → Nat} {y : Int × List Nat × (Int × List Nat × Int)} {f : Bool} {s : Shared} {p : Pos} (S : Top (wld w b b2) s) (hr : rest = line.drop fi) (hfi : fi + r * wd = 12)
      (hv : IsWords vals (Td.all (ws, cur))) (hm : ws.length ≤ m) (hl : (cur.getD []).length ≤ m) (hmr : m + rest.length ≤ 100) (hi : cur = none → behL [] st = 0) (hf : f = true → cur = none ∧ r ≠ 0)
      (H : Holds s [(it, riS (fi : Int) (r : Int) (wdN wi)), (L, frF (wld w b b2).params k v ⟨⟨line⟩⟩ (wdN wi) wl cur.isSome st y f), (wl, lsO ⟨vals⟩ n)])
      (fin : ∀ (vals' : List Value) (n' : Nat) (oi oL : Obj) (s' : Shared), IsWords vals' (toldO wd r rest (st, (ws, cur))).2.all →
        Did s s' [(it, oi), (L, frG (wld w b b2).params oL wl (toldO wd r rest (st, (ws, cur))).1), (wl, lsO ⟨vals'⟩ n')] [] → R (.ok .next) s'),
      wpCode (MW (wld w b b2)) (ctxLO it L qf o) R p s
  | 0, rest, ws, cur, st, vals, n, m, fi, k, v, y, f, s, p, S, hr, hfi, hv, hm, hl, hmr, hi, hf, H, fin => by
    have ef : f = false := by
      cases f with
      | false => rfl
      | true => exact absurd rfl (hf rfl).2
    subst ef
    obtain ⟨fi0, cell, z⟩ := y
    replace H : Holds s [(it, riS (fi : Int) 0 (wdN wi)), (L, frT (wld w b b2).params k v ⟨⟨line⟩⟩ (wdN wi) wl cur.isSome st fi0 ⟨⟨cell⟩⟩ (some z)), (wl, lsO ⟨vals⟩ n)] := H
    have lo' : ∀ (o1 o2 o3 : Obj), ∀ y ∈ [(it, o1), (L, o2), (wl, o3)], 769 ≤ y.1 := fun o1 o2 o3 y hy => lo _ (List.mem_map.mpr ⟨y, hy, rfl⟩)
    refine runL_ok (env := envLT L) (fl := false) [] (conO_good orc0) rfl S H nd (lo' _ _ _) _ _ (fun _ => []) _ (fun nv => lo_e w b b2 wi it L wl qf o k v ⟨⟨line⟩⟩ st fi fi0 cell z vals n cur.isSome _ _ p nv) (fun _ => trivial) fun nv s' Af => ?_
    try dsimp only at Af
    generalize runL _ _ _ _ _ _ _ _ _ _ _ = X at Af
    have D := did0 Af rfl
    rw [frG_eq] at D
    exact fin vals n _ _ s' hv D
  | r + 1, rest, ws, cur, st, vals, n, m, fi, k, v, y, f, s, p, S, hr, hfi, hv, hm, hl, hmr, hi, hf, H, fin => by
    have hmul : (r + 1) * wd = r * wd + wd := Nat.succ_mul r wd
    have hrl : rest.length = r * wd + wd := by rw [hr, List.length_drop]; omega
    obtain ⟨cell, hcell⟩ : ∃ cell, cell = rest.take wd := ⟨_, rfl⟩
    have hcl : cell.length = wd := by rw [hcell, List.length_take]; omega
    have hca : ∀ c ∈ cell, c < 128 := fun c hc => ha c (by rw [hcell, hr] at hc; exact List.mem_of_mem_drop (List.mem_of_mem_take hc))
    have lo' : ∀ (o1 o2 o3 : Obj), ∀ y ∈ [(it, o1), (L, o2), (wl, o3)], 769 ≤ y.1 := fun o1 o2 o3 y hy => lo _ (List.mem_map.mpr ⟨y, hy, rfl⟩)
    have hsl : ∀ τ τ', SlcB "slice" ⟨⟨line⟩⟩ (some ((fi : Int), τ)) (some ((fi : Int) + wdN wi, τ')) none cell := fun τ τ' => by
      have := slc_mid (buf := line) (a := fi) (b := fi + wd) (i := (fi : Int)) (j := (fi : Int) + wdN wi) (τ := τ) (τ' := τ') rfl (by rw [ewd]; omega) (by omega) (by omega) (by omega)
      rwa [Nat.add_sub_cancel_left, ← hr, ← hcell] at this
    replace H : Holds s [(it, riS (fi : Int) (.ofNat (r + 1)) (wdN wi)), (L, frF (wld w b b2).params k v ⟨⟨line⟩⟩ (wdN wi) wl cur.isSome st y f), (wl, lsO ⟨vals⟩ n)] := H
    have hz12 : cell.length ≤ 12 := by omega
    have et : toldO wd (r + 1) rest (st, (ws, cur)) = toldO wd r (rest.drop wd) (behL cell st, toldR st cell.reverse [] (ws, cur)) := by rw [toldO, ← hcell]
    have hb := toldR_len (st := st) cell.reverse [] (ws, cur) m hm hl
    have hnn := toldR_none (st := st) cell.reverse [] (ws, cur) hi
    rw [List.reverse_reverse, List.append_nil] at hnn
    rw [List.length_reverse, hcl] at hb
    have hcon : ∀ {l0 : Nat}, ConOk (baseOf (kt (wld w b b2).params) 769 l0 s) (MW (wld w b b2)) (cfgW (wld w b b2) (conLO (wld w b b2).params it L wl o ⟨⟨line⟩⟩ (wdN wi) st fi cell vals n cur.isSome (oldT f y.2.2) (behL cell st) (Td.all (toldR st cell.reverse [] (ws, cur))) (toldR st cell.reverse [] (ws, cur)).2.isSome (lastZ cell st))) :=
      conLO_ok hz12 (fun h => by rw [h] at hcl; simp at hcl; omega) hca (by rw [ewd, hcl]) hv rfl hm hl (by rw [hcl]; omega) hi (fun h => (hf (by cases f with | true => rfl | false => cases h)).1) rfl rfl rfl rfl
    refine runL_ok (env := envLT L) (fl := false) [] hcon rfl S H nd (lo' _ _ _) _ _ (fun _ => []) _ (fun nv => lo_t w b b2 f wi hw it L wl qf o k v ⟨⟨line⟩⟩ st fi cell y r vals n cur.isSome _ _ _ _ _ _ p nv) (fun _ => ⟨trivial, trivial, hsl _ _, trivial⟩) fun nv s' Af => ?_
    try dsimp only at Af
    generalize runL _ _ _ _ _ _ _ _ _ _ _ = X at Af ⊢
    have D := did0 Af rfl
    clear Af
    have e1 : (fi : Int) + wdN wi = ((fi + wd : Nat) : Int) := by rw [ewd]; omega
    have e2 : (Int.ofNat (r + 1) : Int) - 1 = (r : Int) := by
      show ((r + 1 : Nat) : Int) - 1 = _
      omega
    rw [e1, e2] at D
    generalize toldR st cell.reverse [] (ws, cur) = x2 at hb hnn et D
    obtain ⟨ws2, cur2⟩ := x2
    refine td_loop hw ewd hwd nd lo hz ha r (rest := rest.drop wd) (ws := ws2) (cur := cur2) (st := behL cell st) (m := m + wd) (y := ((fi : Int), cell, lastZ cell st)) (f := false) (Did.sane S D (fun y hy => lo _ (List.mem_map.mpr ⟨y, hy, rfl⟩))) (by rw [hr, List.drop_drop]) (by omega) (mkW_words _ _) hb.1 hb.2 (by rw [List.length_drop]; omega) (fun h => by rw [hnn h]; rfl) (fun h => by cases h) D.holds fun vals' n' oi oL s'' hv' D' => ?_
    rw [← et] at hv' D'
    exact fin vals' n' oi oL s'' hv' (D.trans D' fun _ h => h)
/-! MC02 -/
/-! ### _law_told, called -/
noncomputable def tupO (a : Nat) (st : Int) (τ : Nat) : Obj := ⟨.type "tuple", none, .seq ⟨[.ref a, .int st τ]⟩ 0, ⟨[]⟩⟩
noncomputable def tdIn (P : Params) (T : BT) (i3 L wl : Nat) (line : List Nat) (wd r : Int) : List (Nat × Obj) :=
  [(i3, riS 0 r wd), (L, frT5 P (fun i => vtok (entO (T.get 0) i).key) (fun i => vtok (entO (T.get 0) i).val) ⟨⟨line⟩⟩ wd wl false 0), (wl, lsO ⟨[]⟩ 0)]
noncomputable def tdCh (P : Params) (i3 L wl : Nat) (st' : Int) (ws' : List (List Nat)) (ν : Unk) : List (Nat × Obj) :=
  [(i3, ν.ob 0), (L, frG P (ν.ob 1) wl st'), (wl, lsO ⟨mkW ws' fun i => ν.n (i + 1)⟩ (ν.n 0))]
noncomputable def conTD (P : Params) (o : OutA) (line : List Nat) (wd r : Int) (st' : Int) (ws' : List (List Nat)) : CF := fun j x Γ cd T ads => match j with
  | 33 => match isFL cd with
    | true => some (conS T ads (ctxLO (adOf ads 3) (adOf ads 0) (posN Γ.below 0) o) (zip3 [3, 0, 1] (tdIn P T (adOf ads 3) (adOf ads 0) (adOf ads 1) line wd r)) True
        (fun _ => .ok .next) (fun ν => zip2 [3, 0, 1] (tdCh P (adOf ads 3) (adOf ads 0) (adOf ads 1) st' ws' ν)) fun _ => [])
    | false => none
  | j => conO orc0 j x Γ cd T ads
noncomputable def ctxTD (o : OutA) (line : List Nat) (τ : Nat) (wd : Int) (τw : Nat) : Ctx := ctxOf (.call (.ref 763) ⟨[.str ⟨⟨line⟩⟩ τ, .int wd τw], []⟩) (outOf o)
noncomputable def rnN : Nat → Nat
  | 0 => 12
  | 1 => 6
  | 2 => 4
  | 3 => 3
  | _ => 1
theorem td_r (w : World) (b b2 : Bool) (wi : Nat) (hw : wi < 5) (o : OutA) (c : Nat → Nat) (τ τw : Nat) (st' : Int) (ws' : List (List Nat)) (N t : Nat) (p : Pos) (nv : Nv) :
    let W := wld w b b2
    let X := runC (cfgW W (conTD W.params o (chars 12 c) (wdN wi) (rnN wi) st' ws')) 140 (ctxTD o (chars 12 c) τ (wdN wi) τw) p [0, 0, 1, 1, 1, 1, 0, 1001, 1, 1, 1, 1, 1, 1, 0, 0, 0, 0, 1, 6, 0, 1, 0, 0, 0, 0, 3, 3, 0, 3, 0, 3, 3, 3, 0, 3, 0, 3, 3, 3, 4, 34, 3, 1, 1] [] N t nv
    look [1, 4] X = some (.done (.ok (.ret (.ref (adAt X 4)))), [some (lsO ⟨mkW ws' fun i => (nv 1).2.2.n (i + 1)⟩ ((nv 1).2.2.n 0)), some (tupO (adAt X 1) st' (vtok (entO (some ((nv 1).2.2.ob 1)) 4).val))], [adAt X 1, adAt X 4], dup (eqsOf X), dupG (gsOf X), dupO (osOf X), (True ∧ LnB ⟨⟨chars 12 c⟩⟩ ∧ True)) := by
  match wi, hw with
  | 0, _ => cases b <;> cases b2 <;> (intro W X; kernel_rfl)
  | 1, _ => cases b <;> cases b2 <;> (intro W X; kernel_rfl)
  | 2, _ => cases b <;> cases b2 <;> (intro W X; kernel_rfl)
  | 3, _ => cases b <;> cases b2 <;> (intro W X; kernel_rfl)
  | 4, _ => cases b <;> cases b2 <;> (intro W X; kernel_rfl)
theorem conTD_ok {w : World} {b b2 : Bool} {o : OutA} {line : List Nat} {wi wd r : Nat} {st' : Int} {ws' : List (List Nat)} (hw : wi < 5) (ewd : wdN wi = (wd : Int)) (hwd : 0 < wd) (hr : r * wd = 12) (hz : line.length = 12) (ha : ∀ c ∈ line, c < 128)
    (e1 : st' = (toldO wd r line (0, ([], none))).1) (e2 : ws' = (toldO wd r line (0, ([], none))).2.all) {l0 : Nat} {s₀ : Shared} :
    ConOk (baseOf (kt (wld w b b2).params) 769 l0 s₀) (MW (wld w b b2)) (cfgW (wld w b b2) (conTD (wld w b b2).params o line (wdN wi) r st' ws')) := by
  intro j y Γ T m' ads tk s p g hg hx hn ho ob D
  obtain ⟨c0, g1, g2, bel, g3⟩ := Γ
  replace hg : conTD (wld w b b2).params o line (wdN wi) r st' ws' j y ⟨c0, g1, g2, bel, g3⟩ c0 T ads = some g := hg
  by_cases h33 : j = 33
  · subst h33
    cases hb' : isFL c0 with
    | false => simp only [conTD, hb'] at hg; cases hg
    | true =>
      simp only [conTD, hb'] at hg
      cases hg
      obtain ⟨h1, h2⟩ := conS_holds D hn ho
      obtain ⟨H, hads, hm2⟩ := zip3_holds _ _ rfl h1 h2
      replace hx : _ = ctxLO (adOf ads 3) (adOf ads 0) (posN bel 0) o := hx
      rw [hx]
      have nd : [adOf ads 3, adOf ads 0, adOf ads 1].Nodup := nodup_ad D (is := [3, 0, 1]) (by decide) hm2
      have lo : ∀ z ∈ [adOf ads 3, adOf ads 0, adOf ads 1], 769 ≤ z := fun z hz => by
        have hz : z ∈ [3, 0, 1].map (adOf ads) := hz
        obtain ⟨i, hi, rfl⟩ := List.mem_map.mp hz
        exact (D.lo i (hm2 i hi)).1
      unfold tdIn at H
      refine td_loop hw ewd hwd nd lo hz ha r (rest := line) (ws := []) (cur := none) (st := 0) (vals := []) (m := 0) (fi := 0) (f := true) (y := default) (k := fun i => vtok (entO (T.get 0) i).key) (v := fun i => vtok (entO (T.get 0) i).val) (rep_sane D) rfl (by omega) trivial (Nat.zero_le _) (Nat.zero_le _) (by omega) (fun _ => rfl) (fun _ => ⟨rfl, fun h => by rw [h] at hr; simp at hr⟩) H fun vals' n' oi oL s' hv' hD => ?_
      rw [← e2] at hv'
      rw [← e1] at hD
      obtain ⟨t, rfl⟩ := isWords_mkW hv'
      exact conS_left D ⟨fun i => match i with | 0 => n' | i + 1 => t i, fun _ => #[], fun _ => #[], fun i => match i with | 0 => oi | _ => oL⟩ _ rfl _ _ hD rfl (zip2_mem _ _ hm2) rfl fun k hk => absurd hk (Nat.not_lt_zero _)
  · have : conTD (wld w b b2).params o line (wdN wi) r st' ws' j y ⟨c0, g1, g2, bel, g3⟩ c0 T ads = conO orc0 j y ⟨c0, g1, g2, bel, g3⟩ c0 T ads := by
      unfold conTD
      split
      · exact absurd rfl h33
      · rfl
    rw [this] at hg
    exact conO_ok _ _ _ _ _ _ _ _ _ _ _ hg hx ob D
noncomputable def wdNat : Nat → Nat
  | 0 => 1
  | 1 => 2
  | 2 => 3
  | 3 => 4
  | _ => 12
/-- what _law_told answers: the state behind the line, and the words -/
noncomputable def tdL (wi : Nat) (line : List Nat) : Int × Td := toldO (wdNat wi) (rnN wi) line (0, ([], none))
theorem told_ok {w : World} {b b2 : Bool} {wi : Nat} (hw : wi < 5) {o : OutA} {c : Nat → Nat} {τ τw : Nat} (ha : ∀ x ∈ chars 12 c, x < 128) {s : Shared} {p : Pos} (S : Top (wld w b b2) s) :
    wpCode (MW (wld w b b2)) (ctxTD o (chars 12 c) τ (wdN wi) τw) (fun r s' => ∃ ν : Unk, r = .ok (.ret (.ref (ν.n 0))) ∧ Did s s' [] [(ν.n 1, lsO ⟨mkW (tdL wi (chars 12 c)).2.all fun i => ν.n (i + 100)⟩ (ν.n 2)), (ν.n 0, tupO (ν.n 1) (tdL wi (chars 12 c)).1 (ν.n 3))]) p s := by
  have hz : (chars 12 c).length = 12 := rfl
  have hwd : wdN wi = (wdNat wi : Int) ∧ 0 < wdNat wi ∧ rnN wi * wdNat wi = 12 := by
    match wi, hw with
    | 0, _ => decide
    | 1, _ => decide
    | 2, _ => decide
    | 3, _ => decide
    | 4, _ => decide
  refine runC_ok [1, 4] (conTD_ok hw hwd.1 hwd.2.1 hwd.2.2 hz ha rfl rfl) S (fun x hx => by cases hx) (by simp) (by simp) _ _ (fun _ => [_, _]) _ (fun nv => td_r w b b2 wi hw o c τ τw _ _ _ _ p nv) (fun _ => ⟨trivial, lnB (by rw [hz]; decide), trivial⟩) fun nv s' Af => ?_
  try dsimp only at Af
  generalize runC _ _ _ _ _ _ _ _ _ = X at Af ⊢
  refine ⟨⟨fun i => match i with | 0 => adAt X 4 | 1 => adAt X 1 | 2 => (nv 1).2.2.n 0 | 3 => vtok (entO (some ((nv 1).2.2.ob 1)) 4).val | i + 4 => (nv 1).2.2.n (i - 95), fun _ => #[], fun _ => #[], fun _ => default⟩, rfl, ?_⟩
  exact Af.did [] [_, _] [1, 4] rfl rfl rfl (by simp) (by simp) rfl rfl
/-! N102 -/
/-! ### law's two comprehensions -/
noncomputable def asgV : Stmt → Expr
  | .Assign _ v _ => v
  | _ => .Constant .none 0 default
noncomputable def nthE : Nat → List Expr → Expr
  | 0, e :: _ => e
  | n + 1, _ :: r => nthE n r
  | _, [] => .Constant .none 0 default
noncomputable def argE (n : Nat) : Expr → Expr
  | .Call _ args _ _ => nthE n args
  | _ => .Constant .none 0 default
noncomputable def eC1 : Expr := argE 0 (argE 0 (asgV (nthS 0 (forB sFor))))
noncomputable def eC2 : Expr := argE 0 (asgV (nthS 1 (forB sFor)))
noncomputable def qLW : List Nat := [108, 97, 119]
noncomputable def ctxCo (e : Expr) (it acc L : Nat) (o : OutA) : Ctx := ctxOf (.compLoop e 0 (.ref it) (.ref acc) (envCo e qLW 767 L o.L0)) (outOf o)
noncomputable def itTok (X : Out) (j i : Nat) : Nat := match objAt X j with
  | some o => match o.data with
    | .seq xs _ => vtok (xs.toList.getD i .none)
    | _ => 0
  | none => 0
noncomputable def objC1 (it acc L : Nat) (c : Nat → Nat) (τ : Nat) : List (Nat × Obj) := [(it, siO ⟨⟨chars 12 c⟩⟩ τ 0), (acc, lsO ⟨[]⟩ 0), (L, dictO [] 0)]
theorem co1 (w : World) (b b2 : Bool) (it acc L : Nat) (o : OutA) (c : Nat → Nat) (τ N t : Nat) (p : Pos) (nv : Nv) :
    let W := wld w b b2
    let X := runC (cfgW W (conP ⟨orc0, fun _ => []⟩)) 520 (ctxCo eC1 it acc L o) p [1, 0, 1, 0, 1, 1, 1, 1, 3, 3, 0, 0, 3, 0, 0, 0, 2, 0, 2, 2, 2, 0, 1, 0, 1, 0, 1, 1, 1, 1, 3, 3, 0, 0, 3, 0, 0, 0, 2, 0, 2, 2, 2, 0, 1, 0, 1, 0, 1, 1, 1, 1, 3, 3, 0, 0, 3, 0, 0, 0, 2, 0, 2, 2, 2, 0, 1, 0, 1, 0, 1, 1, 1, 1, 3, 3, 0, 0, 3, 0, 0, 0, 2, 0, 2, 2, 2, 0, 1, 0, 1, 0, 1, 1, 1, 1, 3, 3, 0, 0, 3, 0, 0, 0, 2, 0, 2, 2, 2, 0, 1, 0, 1, 0, 1, 1, 1, 1, 3, 3, 0, 0, 3, 0, 0, 0, 2, 0, 2, 2, 2, 0, 1, 0, 1, 0, 1, 1, 1, 1, 3, 3, 0, 0, 3, 0, 0, 0, 2, 0, 2, 2, 2, 0, 1, 0, 1, 0, 1, 1, 1, 1, 3, 3, 0, 0, 3, 0, 0, 0, 2, 0, 2, 2, 2, 0, 1, 0, 1, 0, 1, 1, 1, 1, 3, 3, 0, 0, 3, 0, 0, 0, 2, 0, 2, 2, 2, 0, 1, 0, 1, 0, 1, 1, 1, 1, 3, 3, 0, 0, 3, 0, 0, 0, 2, 0, 2, 2, 2, 0, 1, 0, 1, 0, 1, 1, 1, 1, 3, 3, 0, 0, 3, 0, 0, 0, 2, 0, 2, 2, 2, 0, 1, 0, 1, 0, 1, 1, 1, 1, 3, 3, 0, 0, 3, 0, 0, 0, 2, 0, 2, 2, 2, 0, 1, 0, 1, 0, 1, 1, 1, 1, 5] (objC1 it acc L c τ) N t nv
    let l' := [(it, obAt X 0), (acc, lsO ⟨itemsOf 12 fun i => .int (.ofNat (c i)) (itTok X 1 i)⟩ 12), (L, loc1 W.params (ktk X 2 0) (some ([c 11], vt X 2 0)))]
    look [0, 1, 2] X = some (.done (.ok .next), os_ l', as_ l', dup (eqsOf X), dupG (gsOf X), dupO (osOf X), True) := by
  cases b <;> cases b2 <;> (intro W X l'; kernel_rfl)
noncomputable def biO (v : Nat → UInt8) (τ : Nat) : Obj := ⟨.type "bytes_iterator", none, .fields ⟨[.bytes ⟨[v 0, v 1, v 2, v 3, v 4, v 5, v 6, v 7, v 8, v 9, v 10, v 11]⟩ τ, .int 0 0]⟩, ⟨[]⟩⟩
noncomputable def objC2 (it acc L : Nat) (v : Nat → UInt8) (τ : Nat) : List (Nat × Obj) := [(it, biO v τ), (acc, lsO ⟨[]⟩ 0), (L, dictO [] 0)]
noncomputable def loc2 (P : Params) (k : Nat) (v : UInt8) (τ : Nat) : Obj := dictO [ent P [111, 99, 116, 101, 116] k (.int (.ofNat v.toNat) τ)] 1
noncomputable def obsD (v : Nat → UInt8) (d : Nat → Nat) : Nat → Prop
  | 0 => True
  | k + 1 => (∃ c, [d k] = [c] ∧ ChrB (.ofNat (v k).toNat) c) ∧ obsD v d k
theorem co2 (w : World) (b b2 : Bool) (it acc L : Nat) (o : OutA) (v : Nat → UInt8) (d : Nat → Nat) (τ N t : Nat) (p : Pos) (nv : Nv) :
    let W := wld w b b2
    let X := runC (cfgW W (conP ⟨⟨fun i => [d i], fun _ => 0⟩, fun _ => []⟩)) 520 (ctxCo eC2 it acc L o) p [1, 0, 1, 0, 1, 1, 1, 1, 3, 3, 0, 0, 3, 16, 0, 0, 2, 0, 2, 2, 2, 0, 1, 0, 1, 0, 1, 1, 1, 1, 3, 3, 0, 0, 3, 16, 1, 0, 2, 0, 2, 2, 2, 0, 1, 0, 1, 0, 1, 1, 1, 1, 3, 3, 0, 0, 3, 16, 2, 0, 2, 0, 2, 2, 2, 0, 1, 0, 1, 0, 1, 1, 1, 1, 3, 3, 0, 0, 3, 16, 3, 0, 2, 0, 2, 2, 2, 0, 1, 0, 1, 0, 1, 1, 1, 1, 3, 3, 0, 0, 3, 16, 4, 0, 2, 0, 2, 2, 2, 0, 1, 0, 1, 0, 1, 1, 1, 1, 3, 3, 0, 0, 3, 16, 5, 0, 2, 0, 2, 2, 2, 0, 1, 0, 1, 0, 1, 1, 1, 1, 3, 3, 0, 0, 3, 16, 6, 0, 2, 0, 2, 2, 2, 0, 1, 0, 1, 0, 1, 1, 1, 1, 3, 3, 0, 0, 3, 16, 7, 0, 2, 0, 2, 2, 2, 0, 1, 0, 1, 0, 1, 1, 1, 1, 3, 3, 0, 0, 3, 16, 8, 0, 2, 0, 2, 2, 2, 0, 1, 0, 1, 0, 1, 1, 1, 1, 3, 3, 0, 0, 3, 16, 9, 0, 2, 0, 2, 2, 2, 0, 1, 0, 1, 0, 1, 1, 1, 1, 3, 3, 0, 0, 3, 16, 10, 0, 2, 0, 2, 2, 2, 0, 1, 0, 1, 0, 1, 1, 1, 1, 3, 3, 0, 0, 3, 16, 11, 0, 2, 0, 2, 2, 2, 0, 1, 0, 1, 0, 1, 1, 1, 1, 5] (objC2 it acc L v τ) N t nv
    let l' := [(it, obAt X 0), (acc, lsO ⟨itemsOf 12 fun i => .str ⟨⟨[d i]⟩⟩ ((nv i).2.2.n 0)⟩ 12), (L, loc2 W.params (ktk X 2 0) (v 11) (vt X 2 0))]
    look [0, 1, 2] X = some (.done (.ok .next), os_ l', as_ l', dup (eqsOf X), dupG (gsOf X), dupO (osOf X), obsD v d 12) := by
  cases b <;> cases b2 <;> (intro W X l'; kernel_rfl)
/-! N202 -/
/-! ### bytes(list of twelve ints) -/
noncomputable def codeBL (it acc : Nat) : Code := .builtin "bytes.__new__.loop" ⟨[.type "bytes", .ref it, .ref acc], []⟩
noncomputable def liX (d : Option Nat) (sl : Array (Option Value)) (l i : Nat) : Obj := ⟨.type "list_iterator", d, .fields ⟨[.ref l, .int (.ofNat i) 0]⟩, sl⟩
noncomputable def by12 (u : Nat → UInt8) : List UInt8 := [u 0, u 1, u 2, u 3, u 4, u 5, u 6, u 7, u 8, u 9, u 10, u 11]
noncomputable def liC (c τ : Nat → Nat) (n : Nat) : Obj := lsO ⟨itemsOf 12 fun i => .int (.ofNat (c i)) (τ i)⟩ n
theorem bl_e (w : World) (b b2 : Bool) (it l acc : Nat) (bel : List (Code × Pos)) (d : Option Nat) (sl : Array (Option Value)) (c τ : Nat → Nat) (u : Nat → UInt8) (n N t : Nat) (p : Pos) (nv : Nv) :
    let W := wld w b b2
    let X := runC (cfgW W (conO orc0)) 58 (ctxOf (codeBL it acc) bel) p [1, 0, 1, 0, 1, 1, 2, 1, 1, 5, 3] [(it, liX d sl l 12), (l, liC c τ n), (acc, baO (by12 u))] N t nv
    let l' := [(it, obAt X 0), (l, liC c τ n), (acc, baO (by12 u))]
    look [0, 1, 2] X = some (.done (.ok (.ret (.bytes ⟨by12 u⟩ (rtok X)))), os_ l', as_ l', dup (eqsOf X), dupG (gsOf X), dupO (osOf X), True) := by
  cases b <;> cases b2 <;> (intro W X l'; kernel_rfl)
theorem items_get {f : Nat → Value} : ∀ {n k : Nat}, k < n → (⟨itemsOf n f⟩ : Array Value)[k]? = some (f k) := by
  intro n k h
  rw [itemsOf_map]
  simp [h]
theorem bl_turn {W : World} {it l acc : Nat} {bel : List (Code × Pos)} {c τ : Nat → Nat} {n i : Nat} {us : List UInt8} {R : Result → Shared → Prop} {d : Option Nat} {sl : Array (Option Value)} {s : Shared} {p : Pos} (hi : i < 12) (hc : ∀ i, c i < 128) (n1 : it ≠ acc) (n2 : l ≠ it) (n3 : l ≠ acc) (hz : us.length + 1 ≤ sizeLine)
    (H : Holds s [(it, liX d sl l i), (l, liC c τ n), (acc, baO us)])
    (h : ∀ (d' : Option Nat) (sl' : Array (Option Value)) (p' : Pos) (s' : Shared), Did s s' [(it, liX d' sl' l (i + 1)), (l, liC c τ n), (acc, baO (us ++ [(c i).toUInt8]))] [] → wpCode (MW W) (ctxOf (codeBL it acc) bel) R p' s') :
    wpCode (MW W) (ctxOf (codeBL it acc) bel) R p s := by
  have h0 := H (it, liX d sl l i) (by simp)
  have h1 := H (l, liC c τ n) (by simp)
  have h2 := H (acc, baO us) (by simp)
  refine bwp entry_bloop rfl ?_
  have z := bturn (prog := F) (w := W) (A := (exactA (ctxOf (codeBL it acc) bel)).under (ctxOf (codeBL it acc) bel).code) (E := fun e s' => R (.error e) s') (s := s) (it := it) (l := l) (acc := acc) (v := .ofNat (c i)) (t := τ i) (c := c i) (i := i) (items := ⟨itemsOf 12 fun i => .int (.ofNat (c i)) (τ i)⟩) (us := us)
    rfl (by have := hc i; omega) n1 ⟨_, h0, rfl, rfl⟩ ⟨_, h1, rfl, n, rfl⟩ (items_get (f := fun i => .int (.ofNat (c i)) (τ i)) hi) h2 hz
  refine Sem.wp_mono _ _ _ (fun fin p' s' hf => ?_) (fun _ _ _ h => h) _ _ (z (ctxOf (codeBL it acc) bel) p (below_exact _).in)
  obtain ⟨rfl, hk, hsz, htk, hit, hacc⟩ := hf
  obtain ⟨o, ho, hoc, hod⟩ := hit
  obtain ⟨oc, od, oda, osl⟩ := o
  replace hoc : oc = .type "list_iterator" := hoc
  replace hod : oda = .fields ⟨[.ref l, .int (.ofNat (i + 1)) 0]⟩ := hod
  subst hoc hod
  refine ⟨plainId_quiet (id := "bytes.__new__.loop") (by decide +kernel) _, ?_⟩
  have hl : s'.heap.get? l = some (liC c τ n) := hk.keep l _ h1 (by simp [n2, n3])
  refine h od osl p' s' ⟨hk.mono (by simp), fun x hx => ?_, fun x hx => (by cases hx), fun x hx => (by cases hx), List.nodup_nil⟩
  simp only [List.mem_cons, List.not_mem_nil, or_false] at hx
  rcases hx with rfl | rfl | rfl
  · exact ho
  · exact hl
  · exact hacc
theorem bl_ok {w : World} {b b2 : Bool} {it l acc : Nat} {bel : List (Code × Pos)} {c τ : Nat → Nat} {n : Nat} (hc : ∀ i, c i < 128) (nd : [it, l, acc].Nodup) (lo : ∀ y ∈ [it, l, acc], 769 ≤ y) {R : Result → Shared → Prop} :
    ∀ (k i : Nat) {us : List UInt8} {d : Option Nat} {sl : Array (Option Value)} {s : Shared} {p : Pos} (S : Top (wld w b b2) s) (hi : i + k = 12) (hu : us = (List.range i).map fun j => (c j).toUInt8) (H : Holds s [(it, liX d sl l i), (l, liC c τ n), (acc, baO us)])
      (fin : ∀ (t : Nat) (o : Obj) (s' : Shared), Did s s' [(it, o), (l, liC c τ n), (acc, baO (by12 fun i => (c i).toUInt8))] [] → R (.ok (.ret (.bytes ⟨by12 fun i => (c i).toUInt8⟩ t))) s'),
      wpCode (MW (wld w b b2)) (ctxOf (codeBL it acc) bel) R p s
  | 0, i, us, d, sl, s, p, S, hi, hu, H, fin => by
    have : i = 12 := by omega
    subst this
    have hu : us = by12 fun i => (c i).toUInt8 := hu
    subst hu
    have lo' : ∀ (o1 o2 o3 : Obj), ∀ y ∈ [(it, o1), (l, o2), (acc, o3)], 769 ≤ y.1 := fun o1 o2 o3 y hy => lo _ (List.mem_map.mpr ⟨y, hy, rfl⟩)
    refine runC_ok [] (conO_good orc0) S H nd (lo' _ _ _) _ _ (fun _ => []) _ (fun nv => bl_e w b b2 it l acc bel d sl c τ (fun i => (c i).toUInt8) n _ _ p nv) (fun _ => trivial) fun nv s' Af => ?_
    try dsimp only at Af
    generalize runC _ _ _ _ _ _ _ _ _ = X at Af ⊢
    exact fin _ _ s' (did0 Af rfl)
  | k + 1, i, us, d, sl, s, p, S, hi, hu, H, fin => by
    have hnd := nd
    simp only [List.nodup_cons, List.mem_cons, List.not_mem_nil, or_false, not_or] at hnd
    refine bl_turn (by omega) hc hnd.1.2 (Ne.symm hnd.1.1) hnd.2.1 ?_ H fun d' sl' p' s' D => ?_
    · have : sizeLine = 16777216 := by decide
      rw [hu, List.length_map, List.length_range]; omega
    · refine bl_ok hc nd lo k (i + 1) (Did.sane S D (fun y hy => lo _ (List.mem_map.mpr ⟨y, hy, rfl⟩))) (by omega) (by rw [hu, List.range_succ, List.map_append]; rfl) D.holds fun t o s'' D' => fin t o s'' (D.trans D' fun _ h => h)
/-! N302 -/
/-! ### law's turns -/
noncomputable def NeB (xs ys : Array Value) : Prop := ∃ ws, IsWords xs.toList ws ∧ IsWords ys.toList ws
noncomputable def oL (it : Nat) (bel : List (Code × Pos)) : OutA := ⟨it, 770, fun i => posN bel i⟩
noncomputable def byTok : Code → Nat
  | .call _ ⟨.bytes _ t :: _, _⟩ => t
  | _ => 0
noncomputable def siTok : Option Obj → Nat
  | some o => match recOf o.data with
    | some (v :: _) => vtok v
    | _ => 0
  | none => 0
noncomputable def itmTok (o : Option Obj) (i : Nat) : Nat := match o with
  | some o => match o.data with
    | .seq xs _ => vtok (xs.toList.getD i .none)
    | _ => 0
  | none => 0
noncomputable def markOf : Nat → List Nat
  | 0 => []
  | 1 => [39]
  | _ => [34]
noncomputable def bufL (d : Nat → Nat) (sN : Nat) : Nat → List Nat
  | 0 => chars 12 d
  | _ => chars 12 d ++ markOf sN
noncomputable def resL (ws' : List (List Nat)) : Nat → Option (List (List Nat))
  | 0 => none
  | _ => some ws'
/-- the refused reading is there but for a line that ends outside -/
noncomputable def okL (sN x : Nat) : Bool := match x with
  | 0 => match sN with
    | 0 => false
    | _ => true
  | _ => true
/-- behind a refusal: a frame that isn't ready yet is made so -/
noncomputable def selL (x : Nat) (ν : Unk) (hs : List Nat) : List Nat := match x with
  | 0 => match ν.sl 3 with
    | ⟨_ :: _ :: _ :: some _ :: _⟩ => hs
    | _ => match hs with
      | a :: b :: c :: d :: e :: r => a :: b :: c :: d :: e :: 2 :: r
      | hs => hs
  | _ => hs
noncomputable def lsW (τs : Nat → Nat) (n : Nat) : Obj := lsO ⟨[.int 1 (τs 0), .int 2 (τs 1), .int 3 (τs 2), .int 4 (τs 3), .int 12 (τs 4)]⟩ n
noncomputable def conLW (P : Params) (it : Nat) (c d : Nat → Nat) (v : Nat → UInt8) (wi sN : Nat) (ws' : List (List Nat)) : CF := fun j x Γ cd T ads => match j with
  | 40 => some { gx := ctxTD (oL it Γ.below) (chars 12 c) (strTok cd) (.ofNat (wdNat wi)) (tok1 (arg1 cd)), ob := True, left := fun ν => ⟨.ok (.ret (.ref (ν.n 1))), T, [lsO ⟨mkW ws' fun i => ν.n (i + 100)⟩ (ν.n 2), tupO (ν.n 0) (.ofNat sN) (ν.n 3)]⟩ }
  | 41 => some { gx := ctxBS (oL it Γ.below) (fun i => (c i).toUInt8) (byTok cd) (wdNat wi) (tok1 (arg1 cd)), ob := True, left := fun ν => ⟨.ok (.ret (.bytes ⟨by12 v⟩ (ν.n 0))), T, []⟩ }
  | 42 => match okL sN x with
    | true => some { conS T ads (ctxS (oL it Γ.below) (bufL d sN x) (strTok cd)) (zip3 [1] (outF (oL it Γ.below) fun _ => froOf (T.get 1))) True (spRes (resL ws' x))
      (fun ν => zip2 [1] (spCh (oL it Γ.below) (fun _ => froOf (T.get 1)) ν)) (fun ν => news_ (spNew (resL ws' x) ν)) with hsel := selL x }
    | false => none
  | 43 => some (conS T ads (ctxOf (codeBL (adOf ads 6) (adOf ads 7)) Γ.below) [(6, adOf ads 6, liX none ⟨[]⟩ (adOf ads 4) 0), (4, adOf ads 4, liC c (itmTok (T.get 4)) 12), (7, adOf ads 7, baO [])] True
      (fun ν => .ok (.ret (.bytes ⟨by12 fun i => (c i).toUInt8⟩ (ν.n 0)))) (fun ν => [(6, ν.ob 0), (4, liC c (itmTok (T.get 4)) 12), (7, baO (by12 fun i => (c i).toUInt8))]) fun _ => [])
  | 44 => match isList1 (T.get (x / 100)), isList1 (T.get (x % 100)) with
    | some (xs, n), some (ys, m) => some { gx := { Γ with code := .call (.builtin "list.__ne__") ⟨[.ref (adOf ads (x / 100)), .ref (adOf ads (x % 100))], []⟩ }, oq := [(T.get (x / 100), some (lsO xs n)), (T.get (x % 100), some (lsO ys m))], ob := NeB xs ys, left := fun _ => ⟨.ok (.ret (.bool false)), T, []⟩ }
    | _, _ => none
  | 45 => some (conS T ads (ctxCo eC1 (adOf ads 3) (adOf ads 4) (adOf ads 5) (oL it Γ.below)) (zip3 [3, 4, 5] (objC1 (adOf ads 3) (adOf ads 4) (adOf ads 5) c (siTok (T.get 3)))) True
      (fun _ => .ok .next) (fun ν => [(3, ν.ob 0), (4, lsO ⟨itemsOf 12 fun i => .int (.ofNat (c i)) (ν.n i)⟩ 12), (5, loc1 P (ν.n 20) (some ([c 11], ν.n 21)))]) fun _ => [])
  | 46 => some (conS T ads (ctxCo eC2 (adOf ads 8) (adOf ads 9) (adOf ads 10) (oL it Γ.below)) (zip3 [8, 9, 10] (objC2 (adOf ads 8) (adOf ads 9) (adOf ads 10) v (siTok (T.get 8)))) (obsD v d 12)
      (fun _ => .ok .next) (fun ν => [(8, ν.ob 0), (9, lsO ⟨itemsOf 12 fun i => .str ⟨⟨[d i]⟩⟩ (ν.n i)⟩ 12), (10, loc2 P (ν.n 20) (v 11) (ν.n 21))]) fun _ => [])
  | 49 => some (conS T ads (ctxOf (.call (.builtin "list_iterator.__next__") ⟨[.ref (adOf ads 0)], []⟩) Γ.below) [(0, adOf ads 0, liX none ⟨[]⟩ (adOf ads 2) wi), (2, adOf ads 2, lsW (itmTok (T.get 2)) 0)] True
      (fun _ => .ok (.ret (.int (.ofNat (wdNat wi)) (itmTok (T.get 2) wi)))) (fun _ => [(0, liX none ⟨[]⟩ (adOf ads 2) (wi + 1)), (2, lsW (itmTok (T.get 2)) 0)]) fun _ => [])
  | j => conP ⟨⟨fun _ => chars 12 d, fun _ => 0⟩, fun _ => []⟩ j x Γ cd T ads
/-- law's frame: what its last turn left in it -/
structure FrL where
  wd : Int
  by_ : Array UInt8
  tx : Str
  wl : Nat
  st : Int
noncomputable def frL (P : Params) (k v : Nat → Nat) (scr : Nat) (ln : List Nat) (y : FrL) (sl : Array (Option Value)) : Nat → Obj
  | 0 => frameO [ent P [115, 99, 114, 105, 112, 116] (k 0) (.ref scr), ent P [108, 105, 110, 101] (k 1) (.str ⟨⟨ln⟩⟩ (v 1))] 2 sl
  | 1 => frameO [ent P [115, 99, 114, 105, 112, 116] (k 0) (.ref scr), ent P [108, 105, 110, 101] (k 1) (.str ⟨⟨ln⟩⟩ (v 1)), ent P [119, 105, 100, 116, 104] (k 2) (.int y.wd (v 2)), ent P [116, 117, 114, 110, 101, 100] (k 3) (.bytes y.by_ (v 3)), ent P [116, 101, 120, 116] (k 4) (.str y.tx (v 4)), ent P [119, 111, 114, 100, 115] (k 5) (.ref y.wl), ent P [115, 116, 97, 116, 101] (k 6) (.int y.st (v 6))] 7 sl
  | _ => frameO [ent P [115, 99, 114, 105, 112, 116] (k 0) (.ref scr), ent P [108, 105, 110, 101] (k 1) (.str ⟨⟨ln⟩⟩ (v 1)), ent P [119, 105, 100, 116, 104] (k 2) (.int y.wd (v 2)), ent P [116, 117, 114, 110, 101, 100] (k 3) (.bytes y.by_ (v 3)), ent P [116, 101, 120, 116] (k 4) (.str y.tx (v 4)), ent P [119, 111, 114, 100, 115] (k 5) (.ref y.wl), ent P [115, 116, 97, 116, 101] (k 6) (.int y.st (v 6)), ent P [114, 101, 102, 117, 115, 101, 100] (k 7) (.bool true)] 8 sl
noncomputable def ctxLaw (it : Nat) (q : Pos) : Ctx := ctxOf (.forLoop (forT sFor) (.ref it) (forB sFor) (forO sFor) (envLW 770)) [(.func (fnB dLW) (envLW 770), q), (.builtin "claim.caller" {}, default)]
/-- the frame's shape behind a turn -/
noncomputable def nxM (sN m : Nat) : Nat := match sN with
  | 0 => match m with
    | 0 => 1
    | m => m
  | _ => 2
noncomputable def runLW (W : World) (b2 : Bool) (it : Nat) (q : Pos) (c d : Nat → Nat) (v : Nat → UInt8) (wi sN : Nat) (ws' : List (List Nat)) (l : List (Nat × Obj)) (N t : Nat) (p : Pos) (nv : Nv) : Out :=
  runL (cfgW W (conLW W.params it c d v wi sN ws')) 340 (ctxLaw it q) p (envLW 770) false (match sN with | 0 => (match b2 with | true => [1, 50, 0, 2, 2, 0, 0, 0, 2, 17, 1, 4, 0, 47, 3, 6, 6, 6, 0, 0, 0, 0, 5, 5, 5, 5, 5, 5, 5, 0, 5, 0, 7, 5, 5, 45, 0, 0, 0, 2, 0, 42, 0, 2, 2, 2, 0, 0, 9, 0, 48, 8, 11, 11, 11, 15, 9, 2, 2, 0, 2, 2, 0, 41, 0, 13, 13, 13, 0, 13, 0, 14, 14, 0, 14, 0, 14, 14, 13, 14, 14, 14, 0, 14, 0, 14, 14, 13, 14, 14, 14, 0, 14, 0, 14, 14, 13, 14, 14, 16, 2, 2, 2, 2, 2, 0, 0, 0, 2, 2, 17, 17, 17, 0, 17, 0, 17, 0, 3, 0, 0, 43, 1, 2, 18, 12, 18, 45, 1711, 1] | false => [1, 50, 0, 2, 2, 0, 0, 0, 2, 17, 1, 4, 0, 4, 4, 0, 4, 0, 4, 47, 3, 6, 6, 6, 0, 0, 0, 0, 5, 5, 5, 5, 5, 5, 5, 0, 5, 0, 7, 5, 5, 45, 0, 0, 0, 2, 0, 42, 0, 2, 2, 2, 0, 0, 9, 0, 9, 9, 0, 9, 0, 9, 48, 8, 11, 11, 11, 15, 9, 2, 2, 0, 2, 2, 0, 41, 0, 13, 13, 13, 0, 13, 0, 14, 14, 0, 14, 0, 14, 14, 13, 14, 14, 14, 0, 14, 0, 14, 14, 13, 14, 14, 14, 0, 14, 0, 14, 14, 13, 14, 14, 16, 2, 2, 2, 2, 2, 0, 0, 0, 2, 2, 17, 17, 17, 0, 17, 0, 17, 0, 3, 0, 0, 43, 1, 2, 18, 12, 18, 45, 1711, 1]) | _ => (match b2 with | true => [1, 50, 0, 2, 2, 0, 0, 0, 2, 17, 1, 4, 0, 47, 3, 6, 6, 6, 0, 0, 0, 0, 5, 5, 5, 5, 5, 5, 5, 0, 5, 0, 7, 5, 5, 45, 0, 0, 0, 2, 0, 42, 0, 2, 2, 2, 0, 0, 9, 0, 48, 8, 11, 11, 11, 15, 9, 2, 2, 0, 2, 2, 0, 41, 0, 13, 13, 13, 0, 13, 0, 14, 14, 0, 14, 0, 14, 14, 13, 14, 14, 14, 0, 14, 0, 14, 14, 13, 14, 14, 14, 0, 14, 0, 14, 14, 13, 14, 14, 16, 2, 2, 2, 2, 2, 0, 0, 2, 2, 0, 2, 0, 43, 0, 17, 18, 18, 18, 2, 17, 17, 17, 19, 19, 0, 0, 0, 17, 0, 17, 19, 19, 2, 2, 2, 0, 2, 2, 20, 20, 20, 0, 20, 0, 20, 0, 3, 0, 0, 43, 1, 2, 21, 12, 21, 45, 2011, 1] | false => [1, 50, 0, 2, 2, 0, 0, 0, 2, 17, 1, 4, 0, 4, 4, 0, 4, 0, 4, 47, 3, 6, 6, 6, 0, 0, 0, 0, 5, 5, 5, 5, 5, 5, 5, 0, 5, 0, 7, 5, 5, 45, 0, 0, 0, 2, 0, 42, 0, 2, 2, 2, 0, 0, 9, 0, 9, 9, 0, 9, 0, 9, 48, 8, 11, 11, 11, 15, 9, 2, 2, 0, 2, 2, 0, 41, 0, 13, 13, 13, 0, 13, 0, 14, 14, 0, 14, 0, 14, 14, 13, 14, 14, 14, 0, 14, 0, 14, 14, 13, 14, 14, 14, 0, 14, 0, 14, 14, 13, 14, 14, 16, 2, 2, 2, 2, 2, 0, 0, 2, 2, 0, 2, 0, 43, 0, 17, 18, 18, 18, 2, 17, 17, 17, 19, 19, 0, 0, 0, 17, 0, 17, 19, 19, 2, 2, 2, 0, 2, 2, 20, 20, 20, 0, 20, 0, 20, 0, 3, 0, 0, 43, 1, 2, 21, 12, 21, 45, 2011, 1])) l N t nv
noncomputable abbrev lwIn (P : Params) (it ls wi : Nat) (k vv : Nat → Nat) (scr : Nat) (c : Nat → Nat) (y : FrL) (sl : Array (Option Value)) (m : Nat) (τs : Nat → Nat) (n : Nat) : List (Nat × Obj) :=
  [(it, liX none ⟨[]⟩ ls wi), (770, frL P k vv scr (chars 12 c) y sl m), (ls, lsW τs n)]
/-- the list's next width -/
theorem lnx (w : World) (b b2 : Bool) (wi : Nat) (hw : wi < 5) (it ls : Nat) (bel : List (Code × Pos)) (τs : Nat → Nat) (N t : Nat) (p : Pos) (nv : Nv) :
    let W := wld w b b2
    let X := runC (cfgW W (conO orc0)) 40 (ctxOf (.call (.builtin "list_iterator.__next__") ⟨[.ref it], []⟩) bel) p [1, 0, 1, 1, 2, 1, 1] [(it, liX none ⟨[]⟩ ls wi), (ls, lsW τs 0)] N t nv
    let l' := [(it, liX none ⟨[]⟩ ls (wi + 1)), (ls, lsW τs 0)]
    look [0, 1] X = some (.done (.ok (.ret (.int (.ofNat (wdNat wi)) (τs wi)))), os_ l', as_ l', dup (eqsOf X), dupG (gsOf X), dupO (osOf X), True) := by
  match wi, hw with
  | 0, _ => cases b <;> (intro W X l'; kernel_rfl)
  | 1, _ => cases b <;> (intro W X l'; kernel_rfl)
  | 2, _ => cases b <;> (intro W X l'; kernel_rfl)
  | 3, _ => cases b <;> (intro W X l'; kernel_rfl)
  | 4, _ => cases b <;> (intro W X l'; kernel_rfl)
/-! N402 -/
noncomputable def updS (nv : Nv) (k : Nat) (arr : Array (Option Value)) : Nv := fun n => match Nat.beq n k with
  | true => ((nv k).1, (nv k).2.1, ⟨(nv k).2.2.n, fun i => match Nat.beq i 3 with | true => arr | false => (nv k).2.2.sl i, (nv k).2.2.vs, (nv k).2.2.ob⟩)
  | false => nv n
theorem updS_eq (nv : Nv) (k : Nat) : nv = updS nv k ((nv k).2.2.sl 3) := by
  funext n
  unfold updS
  cases h : Nat.beq n k with
  | false => rfl
  | true =>
    have := Nat.eq_of_beq_eq_true h
    subst this
    have e : (fun i => match Nat.beq i 3 with | true => (nv n).2.2.sl 3 | false => (nv n).2.2.sl i) = (nv n).2.2.sl := by
      funext i
      cases h3 : Nat.beq i 3 with
      | false => rfl
      | true => rw [Nat.eq_of_beq_eq_true h3]
    show nv n = ((nv n).1, (nv n).2.1, ⟨(nv n).2.2.n, _, (nv n).2.2.vs, (nv n).2.2.ob⟩)
    rw [e]
noncomputable def obsLW (c d : Nat → Nat) (v : Nat → UInt8) (ws' : List (List Nat)) (nv : Nv) : Nat → Prop
  | 0 => NeB ⟨mkW ws' fun i => (nv 9).2.2.n (i + 100)⟩ ⟨mkW ws' fun i => (nv 7).2.2.n (i + 100)⟩ ∧ True ∧ LeB ⟨⟨chars 12 d⟩⟩ ⟨⟨[]⟩⟩ ∧ True ∧ JoinB tyList ⟨⟨[]⟩⟩ (itemsOf 12 fun i => .str ⟨⟨[d i]⟩⟩ ((nv 5).2.2.n i)) (chars 12 d) ∧ obsD v d 12 ∧ True ∧ True ∧ True ∧ AscB ⟨⟨chars 12 c⟩⟩ 1 ∧ True ∧ True
  | sN => NeB ⟨mkW ws' fun i => (nv 10).2.2.n (i + 100)⟩ ⟨mkW ws' fun i => (nv 7).2.2.n (i + 100)⟩ ∧ True ∧ LeB ⟨⟨chars 12 d⟩⟩ ⟨⟨markOf sN⟩⟩ ∧ True ∧ True ∧ JoinB tyList ⟨⟨[]⟩⟩ (itemsOf 12 fun i => .str ⟨⟨[d i]⟩⟩ ((nv 5).2.2.n i)) (chars 12 d) ∧ obsD v d 12 ∧ True ∧ True ∧ True ∧ AscB ⟨⟨chars 12 c⟩⟩ 1 ∧ True ∧ True
theorem lw_t (w : World) (b b2 : Bool) (m : Nat) (hm : m < 3) (sN : Nat) (hs : sN < 3) (wi : Nat) (it ls : Nat) (q : Pos) (scr : Nat) (c d : Nat → Nat) (v : Nat → UInt8) (k vv : Nat → Nat) (y : FrL) (sl : Array (Option Value)) (τs : Nat → Nat) (ws' : List (List Nat)) (N t : Nat) (p : Pos) (nv : Nv) :
    let W := wld w b b2
    let X := runLW W b2 it q c d v wi sN ws' (lwIn W.params it ls wi k vv scr c y sl m τs 0) N t p nv
    let l' := lwIn W.params it ls (wi + 1) (ktk X 1) (vt X 1) scr c ⟨.ofNat (wdNat wi), ⟨by12 v⟩, ⟨⟨chars 12 d⟩⟩, adAt X 11, .ofNat sN⟩ (slOf X 1) (nxM sN m) τs 0
    look [0, 1, 2] X = some (.again (ctxLaw it q) (posOf X), os_ l', as_ l', dup (eqsOf X), dupG (gsOf X), dupO (osOf X), obsLW c d v ws' nv sN) := by
  match m, hm with
  | 0, _ => match sN, hs with
    | 0, _ => cases b <;> cases b2 <;> (intro W X l'; kernel_rfl)
    | 1, _ =>
      rw [updS_eq nv 8]
      generalize (nv 8).2.2.sl 3 = arr
      obtain ⟨l⟩ := arr
      match l with
      | [] => cases b <;> cases b2 <;> (intro W X l'; kernel_rfl)
      | [_] => cases b <;> cases b2 <;> (intro W X l'; kernel_rfl)
      | [_, _] => cases b <;> cases b2 <;> (intro W X l'; kernel_rfl)
      | [_, _, _] => cases b <;> cases b2 <;> (intro W X l'; kernel_rfl)
      | _ :: _ :: _ :: none :: _ => cases b <;> cases b2 <;> (intro W X l'; kernel_rfl)
      | _ :: _ :: _ :: some _ :: _ => cases b <;> cases b2 <;> (intro W X l'; kernel_rfl)
    | 2, _ =>
      rw [updS_eq nv 8]
      generalize (nv 8).2.2.sl 3 = arr
      obtain ⟨l⟩ := arr
      match l with
      | [] => cases b <;> cases b2 <;> (intro W X l'; kernel_rfl)
      | [_] => cases b <;> cases b2 <;> (intro W X l'; kernel_rfl)
      | [_, _] => cases b <;> cases b2 <;> (intro W X l'; kernel_rfl)
      | [_, _, _] => cases b <;> cases b2 <;> (intro W X l'; kernel_rfl)
      | _ :: _ :: _ :: none :: _ => cases b <;> cases b2 <;> (intro W X l'; kernel_rfl)
      | _ :: _ :: _ :: some _ :: _ => cases b <;> cases b2 <;> (intro W X l'; kernel_rfl)
  | 1, _ => match sN, hs with
    | 0, _ => cases b <;> cases b2 <;> (intro W X l'; kernel_rfl)
    | 1, _ =>
      rw [updS_eq nv 8]
      generalize (nv 8).2.2.sl 3 = arr
      obtain ⟨l⟩ := arr
      match l with
      | [] => cases b <;> cases b2 <;> (intro W X l'; kernel_rfl)
      | [_] => cases b <;> cases b2 <;> (intro W X l'; kernel_rfl)
      | [_, _] => cases b <;> cases b2 <;> (intro W X l'; kernel_rfl)
      | [_, _, _] => cases b <;> cases b2 <;> (intro W X l'; kernel_rfl)
      | _ :: _ :: _ :: none :: _ => cases b <;> cases b2 <;> (intro W X l'; kernel_rfl)
      | _ :: _ :: _ :: some _ :: _ => cases b <;> cases b2 <;> (intro W X l'; kernel_rfl)
    | 2, _ =>
      rw [updS_eq nv 8]
      generalize (nv 8).2.2.sl 3 = arr
      obtain ⟨l⟩ := arr
      match l with
      | [] => cases b <;> cases b2 <;> (intro W X l'; kernel_rfl)
      | [_] => cases b <;> cases b2 <;> (intro W X l'; kernel_rfl)
      | [_, _] => cases b <;> cases b2 <;> (intro W X l'; kernel_rfl)
      | [_, _, _] => cases b <;> cases b2 <;> (intro W X l'; kernel_rfl)
      | _ :: _ :: _ :: none :: _ => cases b <;> cases b2 <;> (intro W X l'; kernel_rfl)
      | _ :: _ :: _ :: some _ :: _ => cases b <;> cases b2 <;> (intro W X l'; kernel_rfl)
  | 2, _ => match sN, hs with
    | 0, _ => cases b <;> cases b2 <;> (intro W X l'; kernel_rfl)
    | 1, _ =>
      rw [updS_eq nv 8]
      generalize (nv 8).2.2.sl 3 = arr
      obtain ⟨l⟩ := arr
      match l with
      | [] => cases b <;> cases b2 <;> (intro W X l'; kernel_rfl)
      | [_] => cases b <;> cases b2 <;> (intro W X l'; kernel_rfl)
      | [_, _] => cases b <;> cases b2 <;> (intro W X l'; kernel_rfl)
      | [_, _, _] => cases b <;> cases b2 <;> (intro W X l'; kernel_rfl)
      | _ :: _ :: _ :: none :: _ => cases b <;> cases b2 <;> (intro W X l'; kernel_rfl)
      | _ :: _ :: _ :: some _ :: _ => cases b <;> cases b2 <;> (intro W X l'; kernel_rfl)
    | 2, _ =>
      rw [updS_eq nv 8]
      generalize (nv 8).2.2.sl 3 = arr
      obtain ⟨l⟩ := arr
      match l with
      | [] => cases b <;> cases b2 <;> (intro W X l'; kernel_rfl)
      | [_] => cases b <;> cases b2 <;> (intro W X l'; kernel_rfl)
      | [_, _] => cases b <;> cases b2 <;> (intro W X l'; kernel_rfl)
      | [_, _, _] => cases b <;> cases b2 <;> (intro W X l'; kernel_rfl)
      | _ :: _ :: _ :: none :: _ => cases b <;> cases b2 <;> (intro W X l'; kernel_rfl)
      | _ :: _ :: _ :: some _ :: _ => cases b <;> cases b2 <;> (intro W X l'; kernel_rfl)
noncomputable def mOf : Bool → Nat
  | true => 2
  | false => 1
theorem lw_e (w : World) (b b2 f : Bool) (it ls : Nat) (q : Pos) (scr : Nat) (c : Nat → Nat) (k vv : Nat → Nat) (y : FrL) (sl : Array (Option Value)) (τs : Nat → Nat) (n : Nat) (N t : Nat) (p : Pos) (nv : Nv) :
    let W := wld w b b2
    let X := runL (cfgW W (conO orc0)) 100 (ctxLaw it q) p (envLW 770) false (match b2 with | true => [1, 0, 1, 0, 1, 1, 3, 1, 1, 5, 0] | false => [1, 0, 1, 0, 1, 1, 3, 1, 1, 5, 0]) (lwIn W.params it ls 5 k vv scr c y sl (mOf f) τs n) N t nv
    let l' := [(it, obAt X 0), (770, frL W.params k vv scr (chars 12 c) y sl (mOf f)), (ls, lsW τs n)]
    look [0, 1, 2] X = some (.done (.ok .next), os_ l', as_ l', dup (eqsOf X), dupG (gsOf X), dupO (osOf X), True) := by
  cases b <;> cases b2 <;> cases f <;> (intro W X l'; kernel_rfl)
end Mine.T02
end
section
open PySem PySem.W
open Builtin Builtin.Str Builtin.Int PySem.SeqAt
namespace Mine.T02
/-! N502 -/
/-! ### the contracts of law's turns -/
theorem co1_ok {w : World} {b b2 : Bool} {it acc L : Nat} {o : OutA} {c : Nat → Nat} {τ : Nat} (nd : [it, acc, L].Nodup) (lo : ∀ y ∈ [it, acc, L], 769 ≤ y) {s : Shared} {p : Pos} (S : Top (wld w b b2) s) (H : Holds s (objC1 it acc L c τ)) :
    wpCode (MW (wld w b b2)) (ctxCo eC1 it acc L o) (fun r s' => ∃ (ob : Obj) (t : Nat → Nat) (k u : Nat), r = .ok .next ∧ Did s s' [(it, ob), (acc, lsO ⟨itemsOf 12 fun i => .int (.ofNat (c i)) (t i)⟩ 12), (L, loc1 (wld w b b2).params k (some ([c 11], u)))] []) p s := by
  have lo' : ∀ y ∈ objC1 it acc L c τ, 769 ≤ y.1 := fun y hy => lo _ (List.mem_map.mpr ⟨y, hy, rfl⟩)
  refine runC_ok [] (conP_good ⟨orc0, fun _ => []⟩) S H nd lo' _ _ (fun _ => []) _ (fun nv => co1 w b b2 it acc L o c τ _ _ p nv) (fun _ => trivial) fun nv s' Af => ?_
  try dsimp only at Af
  generalize runC _ _ _ _ _ _ _ _ _ = X at Af ⊢
  exact ⟨_, _, _, _, rfl, did0 Af rfl⟩
theorem co2_ok {w : World} {b b2 : Bool} {it acc L : Nat} {o : OutA} {v : Nat → UInt8} {d : Nat → Nat} {τ : Nat} (hd : obsD v d 12) (nd : [it, acc, L].Nodup) (lo : ∀ y ∈ [it, acc, L], 769 ≤ y) {s : Shared} {p : Pos} (S : Top (wld w b b2) s) (H : Holds s (objC2 it acc L v τ)) :
    wpCode (MW (wld w b b2)) (ctxCo eC2 it acc L o) (fun r s' => ∃ (ob : Obj) (t : Nat → Nat) (k u : Nat), r = .ok .next ∧ Did s s' [(it, ob), (acc, lsO ⟨itemsOf 12 fun i => .str ⟨⟨[d i]⟩⟩ (t i)⟩ 12), (L, loc2 (wld w b b2).params k (v 11) u)] []) p s := by
  have lo' : ∀ y ∈ objC2 it acc L v τ, 769 ≤ y.1 := fun y hy => lo _ (List.mem_map.mpr ⟨y, hy, rfl⟩)
  refine runC_ok [] (conP_good ⟨⟨fun i => [d i], fun _ => 0⟩, fun _ => []⟩) S H nd lo' _ _ (fun _ => []) _ (fun nv => co2 w b b2 it acc L o v d τ _ _ p nv) (fun _ => hd) fun nv s' Af => ?_
  try dsimp only at Af
  generalize runC _ _ _ _ _ _ _ _ _ = X at Af ⊢
  exact ⟨_, _, _, _, rfl, did0 Af rfl⟩
theorem words_at : ∀ {vs : List Value} {ws : List (List Nat)}, IsWords vs ws → ∀ (j : Nat) (h : j < vs.length), ∃ l τ, vs[j] = .str ⟨⟨l⟩⟩ τ ∧ ws[j]? = some l
  | .str ⟨⟨l⟩⟩ τ :: r, l' :: r', h, 0, _ => ⟨l, τ, rfl, by rw [h.1]; rfl⟩
  | .str ⟨⟨l⟩⟩ τ :: r, l' :: r', h, j + 1, hj => by
    obtain ⟨l2, τ2, e1, e2⟩ := words_at h.2 j (Nat.lt_of_succ_lt_succ hj)
    exact ⟨l2, τ2, e1, e2⟩
/-- list != list, the words the same -/
theorem ne_code {prog : Program} {w : World} {A : Around} {s : Shared} {R : Result → Shared → Prop} {a1 a2 : Addr} {xs ys : Array Value} {n m : Nat} (h1 : s.heap.get? a1 = some (lsO xs n)) (h2 : s.heap.get? a2 = some (lsO ys m)) (h : NeB xs ys)
    (hR : R (.ok (.ret (.bool false))) s) : codeAny (model prog w) A (.call (.builtin "list.__ne__") ⟨[.ref a1, .ref a2], []⟩) R s := by
  obtain ⟨ws, hx, hy⟩ := h
  have hl : xs.toList.length = ys.toList.length := by rw [hx.length, hy.length]
  have hsz : xs.size = ys.size := by simpa using hl
  refine meets_code F.slot_list_ne ⟨_, h1, rfl⟩ F.entry_list_ne (F.args_list_ne_2 _ _) (list_neAt a1 a2 xs ys n m none none ⟨[]⟩ ⟨[]⟩ hsz (fun _ => true)) ⟨h1, h2, fun j g1 g2 => ?_, ?_⟩
  rotate_left
  · have : (List.range xs.size).all (fun _ => true) = true := by simp
    rw [this]; exact hR
  obtain ⟨l, τ, e1, e2⟩ := words_at hx j (by simpa using g1)
  obtain ⟨l', τ', e1', e2'⟩ := words_at hy j (by simpa using g2)
  have el : l = l' := by rw [e2] at e2'; exact Option.some.inj e2'
  have ex : xs[j] = .str ⟨⟨l⟩⟩ τ := by simpa using e1
  have ey : ys[j] = .str ⟨⟨l'⟩⟩ τ' := by simpa using e1'
  rw [ex, ey, el]
  have := EqAt.str_str (A := A.in1) (s := s) (⟨⟨l'⟩⟩ : Str) τ ⟨⟨l'⟩⟩ τ'
  simpa using this
theorem wd_eq {wi : Nat} (hw : wi < 5) : wdN wi = .ofNat (wdNat wi) := by
  match wi, hw with
  | 0, _ => rfl
  | 1, _ => rfl
  | 2, _ => rfl
  | 3, _ => rfl
  | 4, _ => rfl
theorem lnx_ok {w : World} {b b2 : Bool} {wi : Nat} (hw : wi < 5) {it ls : Nat} {bel : List (Code × Pos)} {τs : Nat → Nat} (nd : [it, ls].Nodup) (lo : ∀ y ∈ [it, ls], 769 ≤ y) {s : Shared} {p : Pos} (S : Top (wld w b b2) s) (H : Holds s [(it, liX none ⟨[]⟩ ls wi), (ls, lsW τs 0)]) :
    wpCode (MW (wld w b b2)) (ctxOf (.call (.builtin "list_iterator.__next__") ⟨[.ref it], []⟩) bel) (fun r s' => r = .ok (.ret (.int (.ofNat (wdNat wi)) (τs wi))) ∧ Did s s' [(it, liX none ⟨[]⟩ ls (wi + 1)), (ls, lsW τs 0)] []) p s := by
  have lo' : ∀ y ∈ [(it, liX none ⟨[]⟩ ls wi), (ls, lsW τs 0)], 769 ≤ y.1 := fun y hy => lo _ (List.mem_map.mpr ⟨y, hy, rfl⟩)
  refine runC_ok [] (conO_good orc0) S H nd lo' _ _ (fun _ => []) _ (fun nv => lnx w b b2 wi hw it ls bel τs _ _ p nv) (fun _ => trivial) fun nv s' Af => ?_
  try dsimp only at Af
  generalize runC _ _ _ _ _ _ _ _ _ = X at Af
  exact ⟨rfl, did0 Af rfl⟩
theorem conLW_ok {w : World} {b b2 : Bool} {it : Nat} {c d : Nat → Nat} {v : Nat → UInt8} {wi sN : Nat} {ws' : List (List Nat)} (hc : ∀ i, c i < 128) (hw : wi < 5) (hv : by12 v = bsL (wdNat wi) fun i => (c i).toUInt8)
    (hst : (tdL wi (chars 12 c)).1 = .ofNat sN) (hws : (tdL wi (chars 12 c)).2.all = ws') (hr0 : sN ≠ 0 → rdAll (2 * (chars 12 d).length + 2) (chars 12 d) 32 = none) (hr1 : rdAll (2 * (chars 12 d ++ markOf sN).length + 2) (chars 12 d ++ markOf sN) 32 = some ws')
    (hbs : 92 ∉ chars 12 d ++ markOf sN) {l0 : Nat} {s₀ : Shared} :
    ConOk (baseOf (kt (wld w b b2).params) 769 l0 s₀) (MW (wld w b b2)) (cfgW (wld w b b2) (conLW (wld w b b2).params it c d v wi sN ws')) := by
  intro j y Γ T m' ads tk s p g hg hx hn ho ob D
  obtain ⟨c0, g1, g2, bel, g3⟩ := Γ
  replace hg : conLW (wld w b b2).params it c d v wi sN ws' j y ⟨c0, g1, g2, bel, g3⟩ c0 T ads = some g := hg
  have hca : ∀ x ∈ chars 12 c, x < 128 := fun x hx => by
    rw [chars_map] at hx
    obtain ⟨i, _, rfl⟩ := List.mem_map.mp hx
    exact hc i
  by_cases h40 : j = 40
  · subst h40
    cases hg
    replace hx : _ = ctxTD (oL it bel) (chars 12 c) (strTok c0) (.ofNat (wdNat wi)) (tok1 (arg1 c0)) := hx
    rw [← wd_eq hw] at hx
    rw [hx]
    refine wpCode_mono (fun r s' h => ?_) (told_ok hw hca (rep_sane D))
    obtain ⟨ν, rfl, hD⟩ := h
    rw [hst, hws] at hD
    refine ⟨_, _, ⟨fun i => match i with | 0 => ν.n 1 | 1 => ν.n 0 | i => ν.n i, fun _ => #[], fun _ => #[], fun _ => default⟩, left_of (s' := s') (ch := []) (news := [lsO ⟨mkW ws' fun i => ν.n (i + 100)⟩ (ν.n 2), tupO (ν.n 1) (.ofNat sN) (ν.n 3)]) D rfl (by simp) hD.keep (fun k o hk => ?_) fun k k' hk hk' e => ?_⟩
    · match k, hk with
      | 0, hk => cases hk; exact ⟨hD.new _ (List.mem_cons_self ..), hD.young _ (List.mem_cons_self ..)⟩
      | 1, hk => cases hk; exact ⟨hD.new _ (List.mem_cons_of_mem _ (List.mem_cons_self ..)), hD.young _ (List.mem_cons_of_mem _ (List.mem_cons_self ..))⟩
      | k + 2, hk => simp at hk
    · have hne : ν.n 1 ≠ ν.n 0 := by
        have := hD.nodup
        simp only [List.map_cons, List.map_nil, List.nodup_cons, List.mem_cons, List.not_mem_nil, or_false] at this
        exact this.1
      replace hk : k < 2 := hk
      replace hk' : k' < 2 := hk'
      rcases (show k = 0 ∨ k = 1 by omega) with rfl | rfl <;> rcases (show k' = 0 ∨ k' = 1 by omega) with rfl | rfl
      · rfl
      · exact absurd e hne
      · exact absurd e.symm hne
      · rfl
  · by_cases h41 : j = 41
    · subst h41
      cases hg
      replace hx : _ = ctxBS (oL it bel) (fun i => (c i).toUInt8) (byTok c0) (wdNat wi) (tok1 (arg1 c0)) := hx
      rw [hx]
      have hwd : wdNat wi ∈ widths := by
        match wi, hw with
        | 0, _ => decide
        | 1, _ => decide
        | 2, _ => decide
        | 3, _ => decide
        | 4, _ => decide
      refine wpCode_mono (fun r s' h => ?_) (bs_ok hwd (rep_sane D))
      obtain ⟨ν, rfl, hD⟩ := h
      exact ⟨_, _, ν, left_none (s' := s') (ch := []) D (by show Left.mk _ _ _ = _; rw [hv]; rfl) (by simp) hD.keep⟩
    · by_cases h42 : j = 42
      · subst h42
        cases hok : okL sN y with
        | false => simp only [conLW, hok] at hg; cases hg
        | true =>
          simp only [conLW, hok] at hg
          cases hg
          obtain ⟨h1, h2⟩ := conS_holds (ins := zip3 [1] (outF (oL it bel) fun _ => froOf (T.get 1))) (ob := True) (gx := ctxS (oL it bel) (bufL d sN y) (strTok c0)) (res := spRes (resL ws' y)) (ch := fun ν => zip2 [1] (spCh (oL it bel) (fun _ => froOf (T.get 1)) ν)) (news := fun ν => news_ (spNew (resL ws' y) ν)) D hn ho
          obtain ⟨H, hads, hm2⟩ := zip3_holds _ _ rfl h1 h2
          have hads' : [770] = [1].map (adOf ads) := hads
          have lo : ∀ z ∈ outA (oL it bel), 769 ≤ z := fun z hz => by
            have hz : z ∈ [1].map (adOf ads) := hads' ▸ hz
            obtain ⟨i, hi, rfl⟩ := List.mem_map.mp hz
            exact (D.lo i (hm2 i hi)).1
          have hbuf : resL ws' y = rdAll (2 * (bufL d sN y).length + 2) (bufL d sN y) 32 ∧ (bufL d sN y).length ≤ 13 ∧ 92 ∉ bufL d sN y := by
            match y, hok with
            | 0, hok =>
              refine ⟨(hr0 fun h => ?_).symm, by show 12 ≤ 13; decide, fun h => hbs (List.mem_append_left _ h)⟩
              rw [h] at hok; cases hok
            | y + 1, _ =>
              refine ⟨hr1.symm, ?_, hbs⟩
              show (chars 12 d ++ markOf sN).length ≤ 13
              rw [List.length_append, show (chars 12 d).length = 12 from rfl]
              unfold markOf
              split <;> decide
          replace hx : _ = ctxS (oL it bel) (bufL d sN y) (strTok c0) := hx
          rw [hx]
          refine wpCode_mono (fun r s' h => ?_) (split_ok hbuf.1 hbuf.2.1 hbuf.2.2 (rep_sane D) H (by simp [outA]) lo)
          obtain ⟨ν, hr', hD⟩ := h
          have hw2 : ((spCh (oL it bel) (fun _ => froOf (T.get 1)) ν).map (·.1)) = [1].map (adOf ads) := hads'
          exact conS_left (res := spRes (resL ws' y)) (ins := zip3 [1] (outF (oL it bel) fun _ => froOf (T.get 1))) (gx := ctxS (oL it bel) (bufL d sN y) (strTok c0)) (ob := True) (ch := fun ν => zip2 [1] (spCh (oL it bel) (fun _ => froOf (T.get 1)) ν)) (news := fun ν => news_ (spNew (resL ws' y) ν)) D ν _ hr' _ _ hD (zip2_ad _ _ hw2) (zip2_mem _ _ hm2) rfl fun k hk => by
            match y, hk with
            | 0, hk =>
              match k, hk with
              | 0, _ => rfl
              | 1, _ => rfl
              | k + 2, hk => exact absurd hk (by show ¬ k + 2 < 2; omega)
            | y + 1, hk =>
              match k, hk with
              | 0, _ => rfl
              | k + 1, hk => exact absurd hk (by show ¬ k + 1 < 1; omega)
      · by_cases h43 : j = 43
        · subst h43
          cases hg
          obtain ⟨H, ha⟩ := conS_holds D hn ho
          replace hx : _ = ctxOf (codeBL (adOf ads 6) (adOf ads 7)) bel := hx
          rw [hx]
          have hm : ∀ i ∈ [6, 4, 7], i < m' := fun i hi => by
            simp only [List.mem_cons, List.not_mem_nil, or_false] at hi
            rcases hi with rfl | rfl | rfl
            · exact (ha (6, adOf ads 6, _) (List.mem_cons_self ..)).1
            · exact (ha (4, adOf ads 4, _) (List.mem_cons_of_mem _ (List.mem_cons_self ..))).1
            · exact (ha (7, adOf ads 7, _) (List.mem_cons_of_mem _ (List.mem_cons_of_mem _ (List.mem_cons_self ..)))).1
          have nd : [adOf ads 6, adOf ads 4, adOf ads 7].Nodup := nodup_ad D (is := [6, 4, 7]) (by decide) hm
          have lo : ∀ z ∈ [adOf ads 6, adOf ads 4, adOf ads 7], 769 ≤ z := fun z hz => by
            have hz : z ∈ [6, 4, 7].map (adOf ads) := hz
            obtain ⟨i, hi, rfl⟩ := List.mem_map.mp hz
            exact (D.lo i (hm i hi)).1
          refine bl_ok hc nd lo 12 0 (rep_sane D) rfl rfl H fun t o s' hD => ?_
          refine conS_left D ⟨fun _ => t, fun _ => #[], fun _ => #[], fun _ => o⟩ _ rfl _ _ hD rfl (fun z hz => ?_) rfl fun k hk => absurd hk (Nat.not_lt_zero _)
          exact hm z.1 (by
            simp only [List.mem_cons, List.not_mem_nil, or_false] at hz
            rcases hz with rfl | rfl | rfl <;> simp)
        · by_cases h44 : j = 44
          · subst h44
            unfold conLW at hg
            simp only at hg
            split at hg
            · rename_i xs n ys m e1 e2
              cases hg
              have hT := ho _ (List.mem_cons_self ..)
              have hT2 := ho _ (List.mem_cons_of_mem _ (List.mem_cons_self ..))
              replace hT : T.get (y / 100) = some (lsO xs n) := hT
              replace hT2 : T.get (y % 100) = some (lsO ys m) := hT2
              exact wpCode_at (congrArg Ctx.code hx) <| ne_code (D.own _ _ hT).2 (D.own _ _ hT2).2 ob (left_same D rfl (ν := unk0))
            · cases hg
          · by_cases h45 : j = 45
            · subst h45
              cases hg
              obtain ⟨h1, h2⟩ := conS_holds D hn ho
              obtain ⟨H, hads, hm⟩ := zip3_holds _ _ rfl h1 h2
              have nd : [adOf ads 3, adOf ads 4, adOf ads 5].Nodup := nodup_ad D (is := [3, 4, 5]) (by decide) hm
              have lo : ∀ z ∈ [adOf ads 3, adOf ads 4, adOf ads 5], 769 ≤ z := fun z hz => by
                have hz : z ∈ [3, 4, 5].map (adOf ads) := hz
                obtain ⟨i, hi, rfl⟩ := List.mem_map.mp hz
                exact (D.lo i (hm i hi)).1
              replace hx : _ = ctxCo eC1 (adOf ads 3) (adOf ads 4) (adOf ads 5) (oL it bel) := hx
              rw [hx]
              refine wpCode_mono (fun r s' h => ?_) (co1_ok nd lo (rep_sane D) H)
              obtain ⟨o, t, k, u, hr', hD⟩ := h
              refine conS_left D ⟨fun i => match i with | 20 => k | 21 => u | i => t i, fun _ => #[], fun _ => #[], fun _ => o⟩ _ hr' _ _ hD rfl (fun z hz => ?_) rfl fun k hk => absurd hk (Nat.not_lt_zero _)
              exact hm z.1 (by
                simp only [List.mem_cons, List.not_mem_nil, or_false] at hz
                rcases hz with rfl | rfl | rfl <;> simp)
            · by_cases h46 : j = 46
              · subst h46
                cases hg
                obtain ⟨h1, h2⟩ := conS_holds D hn ho
                obtain ⟨H, hads, hm⟩ := zip3_holds _ _ rfl h1 h2
                have nd : [adOf ads 8, adOf ads 9, adOf ads 10].Nodup := nodup_ad D (is := [8, 9, 10]) (by decide) hm
                have lo : ∀ z ∈ [adOf ads 8, adOf ads 9, adOf ads 10], 769 ≤ z := fun z hz => by
                  have hz : z ∈ [8, 9, 10].map (adOf ads) := hz
                  obtain ⟨i, hi, rfl⟩ := List.mem_map.mp hz
                  exact (D.lo i (hm i hi)).1
                replace hx : _ = ctxCo eC2 (adOf ads 8) (adOf ads 9) (adOf ads 10) (oL it bel) := hx
                rw [hx]
                refine wpCode_mono (fun r s' h => ?_) (co2_ok ob nd lo (rep_sane D) H)
                obtain ⟨o, t, k, u, hr', hD⟩ := h
                refine conS_left D ⟨fun i => match i with | 20 => k | 21 => u | i => t i, fun _ => #[], fun _ => #[], fun _ => o⟩ _ hr' _ _ hD rfl (fun z hz => ?_) rfl fun k hk => absurd hk (Nat.not_lt_zero _)
                exact hm z.1 (by
                  simp only [List.mem_cons, List.not_mem_nil, or_false] at hz
                  rcases hz with rfl | rfl | rfl <;> simp)
              · by_cases h49 : j = 49
                · subst h49
                  cases hg
                  obtain ⟨H, ha⟩ := conS_holds D hn ho
                  replace hx : _ = ctxOf (.call (.builtin "list_iterator.__next__") ⟨[.ref (adOf ads 0)], []⟩) bel := hx
                  rw [hx]
                  have hm : ∀ i ∈ [0, 2], i < m' := fun i hi => by
                    simp only [List.mem_cons, List.not_mem_nil, or_false] at hi
                    rcases hi with rfl | rfl
                    · exact (ha (0, adOf ads 0, _) (List.mem_cons_self ..)).1
                    · exact (ha (2, adOf ads 2, _) (List.mem_cons_of_mem _ (List.mem_cons_self ..))).1
                  have nd : [adOf ads 0, adOf ads 2].Nodup := nodup_ad D (is := [0, 2]) (by decide) hm
                  have lo : ∀ z ∈ [adOf ads 0, adOf ads 2], 769 ≤ z := fun z hz => by
                    have hz : z ∈ [0, 2].map (adOf ads) := hz
                    obtain ⟨i, hi, rfl⟩ := List.mem_map.mp hz
                    exact (D.lo i (hm i hi)).1
                  refine wpCode_mono (fun r s' h => ?_) (lnx_ok hw nd lo (rep_sane D) H)
                  obtain ⟨hr', hD⟩ := h
                  refine conS_left D unk0 _ hr' _ _ hD rfl (fun z hz => ?_) rfl fun k hk => absurd hk (Nat.not_lt_zero _)
                  exact hm z.1 (by
                    simp only [List.mem_cons, List.not_mem_nil, or_false] at hz
                    rcases hz with rfl | rfl <;> simp)
                · have : conLW (wld w b b2).params it c d v wi sN ws' j y ⟨c0, g1, g2, bel, g3⟩ c0 T ads = conP ⟨⟨fun _ => chars 12 d, fun _ => 0⟩, fun _ => []⟩ j y ⟨c0, g1, g2, bel, g3⟩ c0 T ads := by
                    unfold conLW
                    split
                    · exact absurd rfl h40
                    · exact absurd rfl h41
                    · exact absurd rfl h42
                    · exact absurd rfl h43
                    · exact absurd rfl h44
                    · exact absurd rfl h45
                    · exact absurd rfl h46
                    · exact absurd rfl h49
                    · rfl
                  rw [this] at hg
                  exact conP_ok _ _ _ _ _ _ _ _ _ _ _ hg hx ob D
end Mine.T02
end
section
open PySem PySem.W
namespace Mine.T02
/-! PL02 -/
/-! ### the plain law: what is told is what is read -/
noncomputable def nextS (a : Int) (c : Nat) : Int := if isMk c = true then (mkS c - a).fmod 3 else a
/-- told sign by sign along the turned text -/
noncomputable def runM : List Nat → Int × Td → Int × Td
  | [], x => x
  | c :: r, x => runM r (nextS x.1 c, toldT c x.1 x.2)
theorem runM_append : ∀ (l r : List Nat) (x : Int × Td), runM (l ++ r) x = runM r (runM l x)
  | [], _, _ => rfl
  | c :: l, r, x => by rw [List.cons_append, runM, runM_append l r, runM]
theorem sumO_cons (n : Nat) (m : Nat → Nat) (a : Nat) : sumO (n + 1) (sgO (n + 1) fun i => match i with | 0 => a | i + 1 => m i) = sumO n (sgO n m) + (.ofNat a) * (match n % 2 with | 0 => 1 | _ => -1) := by
  rw [sumO]
  have h1 : sgO (n + 1) (fun i => match i with | 0 => a | i + 1 => m i) n = (.ofNat a) * (match n % 2 with | 0 => 1 | _ => -1) := by
    unfold sgO
    rw [show n + 1 - 1 - n = 0 by omega]
    try rfl
  rw [h1]
  congr 1
  have : ∀ k, k ≤ n → sumO k (sgO (n + 1) fun i => match i with | 0 => a | i + 1 => m i) = sumO k (sgO n m) := by
    intro k
    induction k with
    | zero => intro _; rfl
    | succ k ih =>
      intro h
      rw [sumO, sumO, ih (by omega)]
      congr 1
      unfold sgO
      rw [show n + 1 - 1 - k = (n - 1 - k) + 1 by omega]
  exact this n (Nat.le_refl _)
theorem fm (x : Int) : x.fmod 3 = x % 3 := Int.fmod_eq_emod_of_nonneg x (by decide)
theorem behL_cons (c : Nat) (done : List Nat) (st : Int) : behL (c :: done) st = nextS (behL done st) c := by
  unfold nextS
  by_cases h : isMk c = true
  · rw [if_pos h]
    obtain ⟨a, ha, he⟩ : ∃ a : Nat, cntL (c :: done) = a :: cntL done ∧ mkS c = (a : Int) := by
      simp only [isMk, Bool.or_eq_true, beq_iff_eq] at h
      rcases h with rfl | rfl
      · exact ⟨1, rfl, rfl⟩
      · exact ⟨2, rfl, rfl⟩
    unfold behL
    rw [ha, he]
    dsimp only
    rw [List.length_cons]
    have hf : (fun i => (a :: cntL done).getD i 0) = fun i => match i with | 0 => a | i + 1 => (cntL done).getD i 0 := by
      funext i
      cases i <;> rfl
    rw [hf, sumO_cons]
    generalize sumO _ _ = t
    generalize (cntL done).length = n
    simp only [fm]
    by_cases hn : n % 2 = 1
    · have h2 : ¬ (n + 1) % 2 = 1 := by omega
      rw [if_pos hn, if_neg h2, hn]
      show (st - (t + (a : Int) * -1)) % 3 = ((a : Int) - (t - st) % 3) % 3
      omega
    · have hn0 : n % 2 = 0 := by omega
      have h2 : (n + 1) % 2 = 1 := by omega
      rw [if_neg hn, if_pos h2, hn0]
      show (t + (a : Int) * 1 - st) % 3 = ((a : Int) - (st - t) % 3) % 3
      omega
  · rw [if_neg h]
    have : cntL (c :: done) = cntL done := by
      simp only [isMk, Bool.or_eq_true, beq_iff_eq, not_or] at h
      rw [cntL, if_neg h.1, if_neg h.2]
    unfold behL
    rw [this]
theorem runM_cell {st : Int} : ∀ (r done : List Nat) (x : Td), runM r (behL done st, x) = (behL (r.reverse ++ done) st, toldR st r done x)
  | [], _, _ => rfl
  | c :: r, done, x => by
    rw [runM, toldR, ← behL_cons, runM_cell r (c :: done), List.reverse_cons, List.append_assoc]; rfl
theorem behL_nil {st : Int} (h : st = 0 ∨ st = 1 ∨ st = 2) : behL [] st = st := by rcases h with rfl | rfl | rfl <;> rfl
/-- the line, its cells turned about -/
noncomputable def rvL (wd : Nat) : Nat → List Nat → List Nat
  | 0, _ => []
  | r + 1, ln => (ln.take wd).reverse ++ rvL wd r (ln.drop wd)
theorem toldO_run (wd : Nat) : ∀ (r : Nat) (ln : List Nat) (a : Int × Td), (a.1 = 0 ∨ a.1 = 1 ∨ a.1 = 2) → toldO wd r ln a = runM (rvL wd r ln) a
  | 0, _, _, _ => rfl
  | r + 1, ln, (st, x), h => by
    rw [toldO, rvL, runM_append, toldO_run wd r _ _ (behL_3 _ _)]
    congr 1
    have := runM_cell (st := st) (ln.take wd).reverse [] x
    rw [behL_nil h, List.reverse_reverse, List.append_nil] at this
    exact this.symm
/-! reading -/
noncomputable def okS (c : Nat) : Prop := c ≠ 9 ∧ c ≠ 13
noncomputable def finM (x : Int × Td) : Option (List (List Nat)) := if x.1 = 0 then some x.2.all else none
noncomputable def rdK (n : Nat) (cs : List Nat) (st : Nat) (tok : List Nat) (qd : Bool) : Option (List (List Nat)) :=
  match (rd cs st tok qd).err with
  | true => none
  | false => if (rd cs st tok qd).qd = false ∧ (rd cs st tok qd).tok = [] then some [] else (rdAll n (rd cs st tok qd).rest (rd cs st tok qd).st).map ((rd cs st tok qd).tok :: ·)
theorem rdAll_K (n : Nat) (cs : List Nat) (st : Nat) : rdAll (n + 1) cs st = rdK n cs st [] false := rfl
theorem rdK_step {n : Nat} {c : Nat} {r : List Nat} {st st' : Nat} {tok tok' : List Nat} {qd qd' : Bool} (h : rd (c :: r) st tok qd = rd r st' tok' qd') : rdK n (c :: r) st tok qd = rdK n r st' tok' qd' := by
  unfold rdK; rw [h]
theorem toldT_pre (pre : List (List Nat)) (c : Nat) (a : Int) (ws : List (List Nat)) (cur : Option (List Nat)) : toldT c a (pre ++ ws, cur) = (pre ++ (toldT c a (ws, cur)).1, (toldT c a (ws, cur)).2) := by
  unfold toldT
  split
  · simp
  · split <;> rfl
theorem runM_pre (pre : List (List Nat)) : ∀ (cs : List Nat) (a : Int) (ws : List (List Nat)) (cur : Option (List Nat)), runM cs (a, (pre ++ ws, cur)) = ((runM cs (a, (ws, cur))).1, (pre ++ (runM cs (a, (ws, cur))).2.1, (runM cs (a, (ws, cur))).2.2))
  | [], _, _, _ => rfl
  | c :: r, a, ws, cur => by
    rw [runM, runM]
    show runM r (nextS a c, toldT c a (pre ++ ws, cur)) = _
    rw [toldT_pre, runM_pre pre r]
theorem finM_pre (t : List Nat) (cs : List Nat) : finM (runM cs (0, ([t], none))) = (finM (runM cs (0, ([], none)))).map (t :: ·) := by
  have := runM_pre [t] cs 0 [] none
  rw [List.append_nil] at this
  rw [this]
  unfold finM
  dsimp only
  split
  · simp [Td.all]
  · rfl
theorem nxt0 {c : Nat} (h : ¬ isMk c = true) (a : Int) : nextS a c = a := by unfold nextS; rw [if_neg h]
theorem isQt_mk (c : Nat) : isQt c = isMk c := rfl
theorem ws_blank {c : Nat} (h : okS c) : isWs c = true ↔ (c = 32 ∨ c = 10) := by
  obtain ⟨h1, h2⟩ := h
  simp only [isWs, Bool.or_eq_true, beq_iff_eq]
  omega
theorem blank_noMk {c : Nat} (h : c = 32 ∨ c = 10) : ¬ isMk c = true := by rcases h with rfl | rfl <;> decide
theorem read_main : ∀ (cs : List Nat), (∀ c ∈ cs, okS c) → ∀ n, cs.length < n →
    rdK n cs 32 [] false = finM (runM cs (0, ([], none))) ∧
    (∀ tok qd, (tok ≠ [] ∨ qd = true) → rdK n cs 97 tok qd = finM (runM cs (0, ([], some tok)))) ∧
    (∀ tok qd, rdK n cs 39 tok qd = finM (runM cs (1, ([], some tok)))) ∧ (∀ tok qd, rdK n cs 34 tok qd = finM (runM cs (2, ([], some tok))))
  | [], _, n, hn => by
    refine ⟨rfl, fun tok qd h => ?_, fun tok qd => rfl, fun tok qd => rfl⟩
    obtain ⟨k, rfl⟩ : ∃ k, n = k + 1 := ⟨n - 1, by omega⟩
    unfold rdK
    have e : rd [] 97 tok qd = ⟨false, tok, qd, 0, [], []⟩ := rfl
    rw [e]
    dsimp only
    rw [if_neg (fun z => by
      rcases h with h | h
      · exact h z.2
      · rw [h] at z; exact absurd z.1 (by decide))]
    rfl
  | c :: r, hok, n, hn => by
    have hc := hok c (List.mem_cons_self ..)
    have hr := fun x hx => hok x (List.mem_cons_of_mem c hx)
    rw [List.length_cons] at hn
    obtain ⟨i1, i2, i3, i4⟩ := read_main r hr n (by omega)
    refine ⟨?_, fun tok qd h => ?_, fun tok qd => ?_, fun tok qd => ?_⟩
    · rw [runM]
      dsimp only
      by_cases hw : isWs c = true
      · have hb := (ws_blank hc).mp hw
        rw [rdK_step (show rd (c :: r) 32 [] false = rd r 32 [] false by rw [rd, if_pos rfl, if_pos hw]), i1, nxt0 (blank_noMk hb)]
        unfold toldT
        rw [if_pos ⟨rfl, hb⟩]; rfl
      · have hb := fun h => hw ((ws_blank hc).mpr h)
        by_cases hq : isQt c = true
        · rw [rdK_step (show rd (c :: r) 32 [] false = rd r c [] false by rw [rd, if_pos rfl, if_neg hw, if_pos hq])]
          have hm : isMk c = true := hq
          have et : toldT c 0 ([], none) = ([], some []) := by
            have h3 : (mkS c + 0).fmod 3 ≠ 0 := by
              simp only [isMk, Bool.or_eq_true, beq_iff_eq] at hm
              rcases hm with rfl | rfl <;> decide
            unfold toldT
            rw [if_neg (fun h => hb h.2), if_pos ⟨hm, h3⟩]
            try rfl
          rw [et]
          simp only [isMk, Bool.or_eq_true, beq_iff_eq] at hm
          rcases hm with rfl | rfl
          · exact i3 [] false
          · exact i4 [] false
        · rw [rdK_step (show rd (c :: r) 32 [] false = rd r 97 [c] false by rw [rd, if_pos rfl, if_neg hw, if_neg hq]), i2 [c] false (.inl (by simp)), nxt0 hq]
          unfold toldT
          rw [if_neg (fun h => hb h.2), if_neg (fun h => hq h.1)]; rfl
    · rw [runM]
      dsimp only
      by_cases hw : isWs c = true
      · have hb := (ws_blank hc).mp hw
        have e : rd (c :: r) 97 tok qd = ⟨false, tok, qd, 32, r, [c]⟩ := by rw [rd, if_neg (by decide), if_pos rfl, if_pos hw]
        have et : toldT c 0 ([], some tok) = ([tok], none) := by
          unfold toldT
          rw [if_pos ⟨rfl, hb⟩]; rfl
        rw [et, nxt0 (blank_noMk hb), finM_pre]
        unfold rdK
        rw [e]
        dsimp only
        rw [if_neg (fun z => by
          rcases h with h | h
          · exact h z.2
          · rw [h] at z; exact absurd z.1 (by decide))]
        obtain ⟨k, rfl⟩ : ∃ k, n = k + 1 := ⟨n - 1, by omega⟩
        rw [rdAll_K, (read_main r hr k (by omega)).1]
      · have hb := fun h => hw ((ws_blank hc).mpr h)
        by_cases hq : isQt c = true
        · rw [rdK_step (show rd (c :: r) 97 tok qd = rd r c tok qd by rw [rd, if_neg (by decide), if_pos rfl, if_neg hw, if_pos hq])]
          have hm : isMk c = true := hq
          have et : toldT c 0 ([], some tok) = ([], some tok) := by
            have h3 : (mkS c + 0).fmod 3 ≠ 0 := by
              simp only [isMk, Bool.or_eq_true, beq_iff_eq] at hm
              rcases hm with rfl | rfl <;> decide
            unfold toldT
            rw [if_neg (fun h => hb h.2), if_pos ⟨hm, h3⟩]
            rfl
          rw [et]
          simp only [isMk, Bool.or_eq_true, beq_iff_eq] at hm
          rcases hm with rfl | rfl
          · exact i3 tok qd
          · exact i4 tok qd
        · rw [rdK_step (show rd (c :: r) 97 tok qd = rd r 97 (tok ++ [c]) qd by rw [rd, if_neg (by decide), if_pos rfl, if_neg hw, if_neg hq]), i2 (tok ++ [c]) qd (.inl (by simp)), nxt0 hq]
          unfold toldT
          rw [if_neg (fun h => hb h.2), if_neg (fun h => hq h.1)]; rfl
    · rw [runM]
      dsimp only
      by_cases he : c = 39
      · subst he
        rw [rdK_step (show rd (39 :: r) 39 tok qd = rd r 97 tok true by rw [rd, if_neg (by decide), if_neg (by decide), if_pos rfl]), i2 tok true (.inr rfl)]
        rfl
      · rw [rdK_step (show rd (c :: r) 39 tok qd = rd r 39 (tok ++ [c]) true by rw [rd, if_neg (by decide), if_neg (by decide), if_neg he]), i3]
        by_cases h2 : c = 34
        · subst h2; rfl
        · have hm : ¬ isMk c = true := by simp [isMk, he, h2]
          rw [nxt0 hm]
          unfold toldT
          rw [if_neg (fun h => absurd h.1 (by decide)), if_neg (fun h => hm h.1)]; rfl
    · rw [runM]
      dsimp only
      by_cases he : c = 34
      · subst he
        rw [rdK_step (show rd (34 :: r) 34 tok qd = rd r 97 tok true by rw [rd, if_neg (by decide), if_neg (by decide), if_pos rfl]), i2 tok true (.inr rfl)]
        rfl
      · rw [rdK_step (show rd (c :: r) 34 tok qd = rd r 34 (tok ++ [c]) true by rw [rd, if_neg (by decide), if_neg (by decide), if_neg he]), i4]
        by_cases h2 : c = 39
        · subst h2; rfl
        · have hm : ¬ isMk c = true := by simp [isMk, he, h2]
          rw [nxt0 hm]
          unfold toldT
          rw [if_neg (fun h => absurd h.1 (by decide)), if_neg (fun h => hm h.1)]; rfl
/-! the law -/
theorem read_text {cs : List Nat} (h : ∀ c ∈ cs, okS c) : rdAll (2 * cs.length + 2) cs 32 = finM (runM cs (0, ([], none))) := by
  rw [rdAll_K (2 * cs.length + 1) cs 32]
  exact (read_main cs h _ (by omega)).1
theorem nextS_3 {a : Int} (c : Nat) (h : a = 0 ∨ a = 1 ∨ a = 2) : nextS a c = 0 ∨ nextS a c = 1 ∨ nextS a c = 2 := by
  unfold nextS
  split
  · rw [fm]; omega
  · exact h
theorem runM_inv : ∀ (cs : List Nat) (a : Int) (x : Td), (a = 0 ∨ a = 1 ∨ a = 2) → (a ≠ 0 → x.2.isSome = true) →
    ((runM cs (a, x)).1 = 0 ∨ (runM cs (a, x)).1 = 1 ∨ (runM cs (a, x)).1 = 2) ∧ ((runM cs (a, x)).1 ≠ 0 → (runM cs (a, x)).2.2.isSome = true)
  | [], a, x, h, h2 => ⟨h, h2⟩
  | c :: r, a, (ws, cur), h, h2 => by
    rw [runM]
    refine runM_inv r _ _ (nextS_3 c h) fun hn => ?_
    unfold toldT
    split
    · rename_i hb
      replace hb : a = 0 ∧ (c = 32 ∨ c = 10) := hb
      refine absurd ?_ hn
      show nextS a c = 0
      rw [nxt0 (blank_noMk hb.2)]; exact hb.1
    · split <;> rfl
/-- the mark that ends what is open -/
noncomputable def mkOfS (s : Int) : List Nat := if s = 0 then [] else if s = 1 then [39] else [34]
theorem plain_law {cs : List Nat} (h : ∀ c ∈ cs, okS c) : let x := runM cs (0, ([], none))
    (x.1 ≠ 0 → rdAll (2 * cs.length + 2) cs 32 = none) ∧ rdAll (2 * (cs ++ mkOfS x.1).length + 2) (cs ++ mkOfS x.1) 32 = some x.2.all := by
  intro x
  have inv := runM_inv cs 0 ([], none) (.inl rfl) (fun h => absurd rfl h)
  have h2 : ∀ c ∈ cs ++ mkOfS x.1, okS c := by
    intro c hc
    rcases List.mem_append.mp hc with hc | hc
    · exact h c hc
    · unfold mkOfS at hc
      split at hc
      · cases hc
      · split at hc
        · rw [List.mem_singleton.mp hc]; exact ⟨by decide, by decide⟩
        · rw [List.mem_singleton.mp hc]; exact ⟨by decide, by decide⟩
  refine ⟨fun hn => ?_, ?_⟩
  · rw [read_text h]
    unfold finM
    rw [if_neg hn]
  · rw [read_text h2, runM_append]
    change _ ∧ _ at inv
    replace inv : (x.1 = 0 ∨ x.1 = 1 ∨ x.1 = 2) ∧ (x.1 ≠ 0 → x.2.2.isSome = true) := inv
    show finM (runM (mkOfS x.1) x) = _
    obtain ⟨a, ws, cur⟩ := x
    obtain ⟨i1, i2⟩ := inv
    replace i1 : a = 0 ∨ a = 1 ∨ a = 2 := i1
    rcases i1 with rfl | rfl | rfl
    · rfl
    · obtain ⟨t, rfl⟩ : ∃ t, cur = some t := Option.isSome_iff_exists.mp (i2 fun h => absurd (show (1 : Int) = 0 from h) (by decide))
      rfl
    · obtain ⟨t, rfl⟩ : ∃ t, cur = some t := Option.isSome_iff_exists.mp (i2 fun h => absurd (show (2 : Int) = 0 from h) (by decide))
      rfl
/-! N602 -/
/-! ### law's loop -/
/-- the turned line's signs -/
noncomputable def dW (wi : Nat) (c : Nat → Nat) (k : Nat) : Nat := c (k / wdNat wi * wdNat wi + (wdNat wi - 1 - k % wdNat wi))
noncomputable def vW (wi : Nat) (c : Nat → Nat) (k : Nat) : UInt8 := (dW wi c k).toUInt8
theorem bsL_vW (wi : Nat) (c : Nat → Nat) : by12 (vW wi c) = bsL (wdNat wi) fun i => (c i).toUInt8 := rfl
theorem turned {wi : Nat} (hw : wi < 5) (c : Nat → Nat) : chars 12 (dW wi c) = rvL (wdNat wi) (rnN wi) (chars 12 c) := by
  match wi, hw with
  | 0, _ => rfl
  | 1, _ => rfl
  | 2, _ => rfl
  | 3, _ => rfl
  | 4, _ => rfl
structure OkC (c : Nat → Nat) : Prop where
  lt : ∀ i, c i < 128
  n9 : ∀ i, c i ≠ 9
  n13 : ∀ i, c i ≠ 13
  n92 : ∀ i, c i ≠ 92
theorem mem_chars {n : Nat} {c : Nat → Nat} {x : Nat} (h : x ∈ chars n c) : ∃ i, c i = x := by
  rw [chars_map] at h
  obtain ⟨i, _, e⟩ := List.mem_map.mp h
  exact ⟨i, e⟩
theorem obsD_ok {wi : Nat} {c : Nat → Nat} (h : OkC c) : ∀ n, obsD (vW wi c) (dW wi c) n
  | 0 => trivial
  | n + 1 => by
    refine ⟨⟨dW wi c n, rfl, ?_, ?_⟩, obsD_ok h n⟩
    · have := (vW wi c n).toNat_lt
      generalize (vW wi c n).toNat = k at this
      have h1 : ¬ ((Int.ofNat k : Int) < 0) := by show ¬ ((k : Int) < 0); omega
      have h2 : ¬ ((Int.ofNat k : Int) > 0x10FFFF) := by show ¬ ((k : Int) > 0x10FFFF); omega
      simp only [h1, h2, decide_false, Bool.or_self]
    · show (vW wi c n).toNat = dW wi c n
      unfold vW
      have h : dW wi c n < 128 := h.lt _
      simp
      omega
theorem law_turn_facts {wi : Nat} (hw : wi < 5) {c : Nat → Nat} (h : OkC c) : ∃ sN : Nat, sN < 3 ∧ (tdL wi (chars 12 c)).1 = .ofNat sN ∧ (sN ≠ 0 → rdAll (2 * (chars 12 (dW wi c)).length + 2) (chars 12 (dW wi c)) 32 = none) ∧
    rdAll (2 * (chars 12 (dW wi c) ++ markOf sN).length + 2) (chars 12 (dW wi c) ++ markOf sN) 32 = some (tdL wi (chars 12 c)).2.all ∧ 92 ∉ chars 12 (dW wi c) ++ markOf sN := by
  have ok : ∀ x ∈ chars 12 (dW wi c), okS x := fun x hx => by
    obtain ⟨i, rfl⟩ := mem_chars hx
    exact ⟨h.n9 _, h.n13 _⟩
  have e : tdL wi (chars 12 c) = runM (chars 12 (dW wi c)) (0, ([], none)) := by
    unfold tdL
    rw [toldO_run _ _ _ _ (.inl rfl), turned hw]
  have P := plain_law ok
  have I := runM_inv (chars 12 (dW wi c)) 0 ([], none) (.inl rfl) (fun h => absurd rfl h)
  rw [← e] at P I
  dsimp only at P
  obtain ⟨p1, p2⟩ := P
  have n92 : 92 ∉ chars 12 (dW wi c) := fun hx => by
    obtain ⟨i, e⟩ := mem_chars hx
    exact h.n92 _ e
  have mk : ∀ sN : Nat, sN < 3 → (tdL wi (chars 12 c)).1 = .ofNat sN → mkOfS (tdL wi (chars 12 c)).1 = markOf sN → 92 ∉ markOf sN → ∃ sN : Nat, sN < 3 ∧ (tdL wi (chars 12 c)).1 = .ofNat sN ∧ (sN ≠ 0 → rdAll (2 * (chars 12 (dW wi c)).length + 2) (chars 12 (dW wi c)) 32 = none) ∧
      rdAll (2 * (chars 12 (dW wi c) ++ markOf sN).length + 2) (chars 12 (dW wi c) ++ markOf sN) 32 = some (tdL wi (chars 12 c)).2.all ∧ 92 ∉ chars 12 (dW wi c) ++ markOf sN := by
    intro sN h3 h1 h2 h92
    refine ⟨sN, h3, h1, fun hn => p1 fun h0 => hn ?_, h2 ▸ p2, fun hx => (List.mem_append.mp hx).elim n92 h92⟩
    rw [h1] at h0
    exact Int.ofNat.inj h0
  rcases I.1 with h0 | h0 | h0
  · exact mk 0 (by decide) h0 (by rw [h0]; rfl) (by decide)
  · exact mk 1 (by decide) h0 (by rw [h0]; rfl) (by decide)
  · exact mk 2 (by decide) h0 (by rw [h0]; rfl) (by decide)
theorem obsLW_ok {wi : Nat} {c : Nat → Nat} (h : OkC c) {ws' : List (List Nat)} {nv : Nv} : ∀ sN : Nat, obsLW c (dW wi c) (vW wi c) ws' nv sN := by
  have ne : ∀ (τ τ' : Nat → Nat), NeB ⟨mkW ws' τ⟩ ⟨mkW ws' τ'⟩ := fun τ τ' => ⟨ws', mkW_words _ _, mkW_words _ _⟩
  have jn : JoinB tyList ⟨⟨[]⟩⟩ (itemsOf 12 fun i => .str ⟨⟨[dW wi c i]⟩⟩ ((nv 5).2.2.n i)) (chars 12 (dW wi c)) := joinB_chars (dW wi c) _ 12 (Nat.le_refl _)
  have le : ∀ l : List Nat, l.length ≤ 1 → LeB ⟨⟨chars 12 (dW wi c)⟩⟩ ⟨⟨l⟩⟩ := fun l hl => by
    unfold LeB
    have e : (⟨⟨chars 12 (dW wi c)⟩⟩ : Str) ++ ⟨⟨l⟩⟩ = ⟨⟨chars 12 (dW wi c) ++ l⟩⟩ := by
      show Str.mk _ = Str.mk _
      simp
    rw [e]
    have : sizeLine = 16777216 := by decide
    show (chars 12 (dW wi c) ++ l).length ≤ sizeLine
    rw [List.length_append, show (chars 12 (dW wi c)).length = 12 from rfl]
    omega
  have asc : AscB ⟨⟨chars 12 c⟩⟩ 1 := by
    show (⟨chars 12 c⟩ : Array Nat).all (· < 128) = true
    rw [Array.all_eq_true_iff_forall_mem]
    intro x hx
    obtain ⟨i, rfl⟩ := mem_chars (by simpa using hx)
    simpa using h.lt i
  intro sN
  match sN with
  | 0 => exact ⟨ne _ _, trivial, le _ (by decide), trivial, jn, obsD_ok h 12, trivial, trivial, trivial, asc, trivial, trivial⟩
  | 1 => exact ⟨ne _ _, trivial, le _ (by decide), trivial, trivial, jn, obsD_ok h 12, trivial, trivial, trivial, asc, trivial, trivial⟩
  | n + 2 => exact ⟨ne _ _, trivial, le [34] (by decide), trivial, trivial, jn, obsD_ok h 12, trivial, trivial, trivial, asc, trivial, trivial⟩
theorem nxM_mOf (sN m : Nat) (hm : m ≤ 2) : ∃ f, nxM sN m = mOf f := by
  rcases (show m = 0 ∨ m = 1 ∨ m = 2 by omega) with rfl | rfl | rfl <;> cases sN
  · exact ⟨false, rfl⟩
  · exact ⟨true, rfl⟩
  · exact ⟨false, rfl⟩
  · exact ⟨true, rfl⟩
  · exact ⟨true, rfl⟩
  · exact ⟨true, rfl⟩
theorem law_loop {w : World} {b b2 : Bool} {it ls : Nat} {q : Pos} {scr : Nat} {c : Nat → Nat} (h : OkC c) (nd : [it, 770, ls].Nodup) (lo : ∀ y ∈ [it, 770, ls], 769 ≤ y) {τs : Nat → Nat} {R : Result → Shared → Prop} :
    ∀ (r wi m : Nat) {k vv : Nat → Nat} {y : FrL} {sl : Array (Option Value)} {s : Shared} {p : Pos} (hr : wi + r = 5) (hm : m ≤ 2) (hm0 : m = 0 ↔ wi = 0) (S : Top (wld w b b2) s) (H : Holds s (lwIn (wld w b b2).params it ls wi k vv scr c y sl m τs 0))
      (fin : ∀ (oi oL : Obj) (s' : Shared), Did s s' [(it, oi), (770, oL), (ls, lsW τs 0)] [] → R (.ok .next) s'), wpCode (MW (wld w b b2)) (ctxLaw it q) R p s
  | 0, wi, m, k, vv, y, sl, s, p, hr, hm, hm0, S, H, fin => by
    have e : wi = 5 := by omega
    subst e
    have lo' : ∀ (o1 o2 o3 : Obj), ∀ y ∈ [(it, o1), (770, o2), (ls, o3)], 769 ≤ y.1 := fun o1 o2 o3 y hy => lo _ (List.mem_map.mpr ⟨y, hy, rfl⟩)
    obtain ⟨f, hf⟩ : ∃ f, m = mOf f := by
      rcases (show m = 1 ∨ m = 2 by omega) with rfl | rfl
      · exact ⟨false, rfl⟩
      · exact ⟨true, rfl⟩
    subst hf
    refine runL_ok (env := envLW 770) (fl := false) [] (conO_good orc0) rfl S H nd (lo' _ _ _) _ _ (fun _ => []) _ (fun nv => lw_e w b b2 f it ls q scr c k vv y sl τs 0 _ _ p nv) (fun _ => trivial) fun nv s' Af => ?_
    try dsimp only at Af
    generalize runL _ _ _ _ _ _ _ _ _ _ _ = X at Af
    exact fin _ _ s' (did0 Af rfl)
  | r + 1, wi, m, k, vv, y, sl, s, p, hr, hm, hm0, S, H, fin => by
    have hw : wi < 5 := by omega
    obtain ⟨sN, h3, hst, hr0, hr1, h92⟩ := law_turn_facts hw h
    have lo' : ∀ (o1 o2 o3 : Obj), ∀ y ∈ [(it, o1), (770, o2), (ls, o3)], 769 ≤ y.1 := fun o1 o2 o3 y hy => lo _ (List.mem_map.mpr ⟨y, hy, rfl⟩)
    have hcon : ∀ {l0 : Nat}, ConOk (baseOf (kt (wld w b b2).params) 769 l0 s) (MW (wld w b b2)) (cfgW (wld w b b2) (conLW (wld w b b2).params it c (dW wi c) (vW wi c) wi sN (tdL wi (chars 12 c)).2.all)) := conLW_ok h.lt hw (bsL_vW wi c) hst rfl hr0 hr1 h92
    have go : ∀ {k2 v2 : Nat → Nat} {y2 : FrL} {sl2 : Array (Option Value)} {m2 : Nat} (p2 : Pos) (s2 : Shared), m2 ≤ 2 → m2 ≠ 0 → Did s s2 (lwIn (wld w b b2).params it ls (wi + 1) k2 v2 scr c y2 sl2 m2 τs 0) [] → wpCode (MW (wld w b b2)) (ctxLaw it q) R p2 s2 := by
      intro k2 v2 y2 sl2 m2 p2 s2 g1 g2 D
      refine law_loop h nd lo r (wi + 1) m2 (by omega) g1 ⟨fun h => absurd h g2, fun h => by omega⟩ (Did.sane S D (fun y hy => lo _ (List.mem_map.mpr ⟨y, hy, rfl⟩))) D.holds fun oi oL s' D' => fin oi oL s' (D.trans D' fun _ h => h)
    have mle : ∀ sN m, m ≤ 2 → nxM sN m ≤ 2 ∧ nxM sN m ≠ 0 := fun sN m hm => by
      obtain ⟨f, e⟩ := nxM_mOf sN m hm
      rw [e]
      cases f <;> exact ⟨by decide, by decide⟩
    refine runL_ok (env := envLW 770) (fl := false) [] hcon rfl S H nd (lo' _ _ _) _ _ (fun _ => []) _ (fun nv => lw_t w b b2 m (by omega) sN h3 wi it ls q scr c (dW wi c) (vW wi c) k vv y sl τs _ _ _ p nv) (fun _ => obsLW_ok h sN) fun nv s' Af => ?_
    try dsimp only at Af
    generalize runLW _ _ _ _ _ _ _ _ _ _ _ _ _ _ _ = X at Af ⊢
    exact go _ s' (mle sN m hm).1 (mle sN m hm).2 (did0 Af rfl)
/-! N702 -/
/-! ### law -/
noncomputable def conTop (P : Params) (c : Nat → Nat) (items : Array Value) : CF := fun j x Γ cd T ads => match j with
  | 47 => some (conS T ads (ctxLL ⟨770, posN Γ.below 0⟩ 769) [(0, 769, listO items 0)] True (fun ν => .ok (.ret (.str ⟨⟨chars 12 c⟩⟩ (ν.n 0)))) (fun _ => [(0, listO items 0)]) fun _ => [])
  | 48 => match isFL cd with
    | true => some (conS T ads (ctxLaw (adOf ads 3) (posN Γ.below 0)) (zip3 [3, 1, 2] (lwIn P (adOf ads 3) (adOf ads 2) 0 (fun i => vtok (entO (T.get 1) i).key) (fun i => vtok (entO (T.get 1) i).val) 769 c ⟨0, ⟨[]⟩, ⟨⟨[]⟩⟩, 0, 0⟩ ⟨[]⟩ 0 (itmTok (T.get 2)) 0)) True
        (fun _ => .ok .next) (fun ν => [(3, ν.ob 0), (1, ν.ob 1), (2, lsW (itmTok (T.get 2)) 0)]) fun _ => [])
    | false => none
  | j => conO orc0 j x Γ cd T ads
noncomputable def treeLaw : Sem Fin := do ret (← PySem.call (.ref 768) [.ref 769])
noncomputable def runTop (W : World) (c : Nat → Nat) (items : Array Value) (fuel : Nat) (hs : List Nat) (N t : Nat) (p : Pos) (nv : Nv) : Out :=
  sxF (cfgW W (conTop W.params c items)) fuel Γ0 p .base treeLaw hs (treeOf 0 [listO items 0] .nil) 1 (adsOf 0 [769] N []) t 0 nv ⟨[], [], [], True⟩
theorem law_r (w : World) (b b2 : Bool) (c : Nat → Nat) (items : Array Value) (t : Nat) (nv : Nv) :
    let W := wld w b b2
    let X := runTop W c items 120 (0 :: [0, 0, 2, 2, 0, 1001, 0, 2, 0, 48, 0, 2, 2, 3, 3, 0, 3, 0, 4, 49, 3]) 770 t default nv
    look [0] X = some (.done (.ok (.ret (.bool true))), [some (listO items 0)], [769], dup (eqsOf X), dupG (gsOf X), dupO (osOf X), (True ∧ True ∧ True)) := by
  cases b <;> cases b2 <;> (intro W X; kernel_rfl)
theorem conTop_ok {w : World} {b b2 : Bool} {c : Nat → Nat} {xs : List Int} {ts : List Nat} (ht : ts.length = xs.length) (hl : xs.length ≤ 63) (hc : OkC c) (hx : lineL xs = chars 12 c) {l0 : Nat} {s₀ : Shared} :
    ConOk (baseOf (kt (wld w b b2).params) 769 l0 s₀) (MW (wld w b b2)) (cfgW (wld w b b2) (conTop (wld w b b2).params c ⟨List.zipWith (fun x t => Value.int x t) xs ts⟩)) := by
  intro j y Γ T m' ads tk s p g hg hx' hn ho ob D
  obtain ⟨c0, g1, g2, bel, g3⟩ := Γ
  replace hg : conTop (wld w b b2).params c ⟨List.zipWith (fun x t => Value.int x t) xs ts⟩ j y ⟨c0, g1, g2, bel, g3⟩ c0 T ads = some g := hg
  by_cases h47 : j = 47
  · subst h47
    cases hg
    obtain ⟨H, ha⟩ := conS_holds D hn ho
    replace hx' : _ = ctxLL ⟨770, posN bel 0⟩ 769 := hx'
    rw [hx']
    have h1 := ha (0, 769, _) (List.mem_cons_self ..)
    refine wpCode_mono (fun r s' h => ?_) (line_ok (rep_sane D) ht hl H (Nat.le_refl _))
    obtain ⟨ν, rfl, hD⟩ := h
    rw [hx]
    refine conS_left D ν _ rfl _ _ hD ?_ (fun z hz => ?_) rfl fun k hk => absurd hk (Nat.not_lt_zero _)
    · show [(769, _)] = [(adOf ads 0, _)]
      rw [← h1.2]
    · simp only [List.mem_singleton] at hz
      subst hz
      exact h1.1
  · by_cases h48 : j = 48
    · subst h48
      cases hb' : isFL c0 with
      | false => simp only [conTop, hb'] at hg; cases hg
      | true =>
        simp only [conTop, hb'] at hg
        cases hg
        obtain ⟨h1, h2⟩ := conS_holds D hn ho
        obtain ⟨H, hads, hm⟩ := zip3_holds _ _ rfl h1 h2
        have hads' : [adOf ads 3, 770, adOf ads 2] = [3, 1, 2].map (adOf ads) := hads
        have nd : [adOf ads 3, 770, adOf ads 2].Nodup := hads' ▸ nodup_ad D (is := [3, 1, 2]) (by decide) hm
        have lo : ∀ z ∈ [adOf ads 3, 770, adOf ads 2], 769 ≤ z := fun z hz => by
          have hz : z ∈ [3, 1, 2].map (adOf ads) := hads' ▸ hz
          obtain ⟨i, hi, rfl⟩ := List.mem_map.mp hz
          exact (D.lo i (hm i hi)).1
        replace hx' : _ = ctxLaw (adOf ads 3) (posN bel 0) := hx'
        rw [hx']
        refine law_loop hc nd lo 5 0 0 rfl (by decide) ⟨fun _ => rfl, fun _ => rfl⟩ (rep_sane D) H fun oi oL s' hD => ?_
        refine conS_left D ⟨fun _ => 0, fun _ => #[], fun _ => #[], fun i => match i with | 0 => oi | _ => oL⟩ _ rfl _ _ hD ?_ (fun z hz => ?_) rfl fun k hk => absurd hk (Nat.not_lt_zero _)
        · have e1 : (770 : Nat) = adOf ads 1 := by
            have := congrArg (fun l => l.getD 1 0) hads'
            exact this
          show [(adOf ads 3, oi), (770, oL), (adOf ads 2, _)] = [(adOf ads 3, oi), (adOf ads 1, oL), (adOf ads 2, _)]
          rw [← e1]
        · exact hm z.1 (by
            simp only [List.mem_cons, List.not_mem_nil, or_false] at hz
            rcases hz with rfl | rfl | rfl <;> simp)
    · have : conTop (wld w b b2).params c ⟨List.zipWith (fun x t => Value.int x t) xs ts⟩ j y ⟨c0, g1, g2, bel, g3⟩ c0 T ads = conO orc0 j y ⟨c0, g1, g2, bel, g3⟩ c0 T ads := by
        unfold conTop
        split
        · exact absurd rfl h47
        · exact absurd rfl h48
        · rfl
      rw [this] at hg
      exact conO_ok _ _ _ _ _ _ _ _ _ _ _ hg hx' ob D
/-- the line's signs -/
noncomputable def cL (xs : List Int) (i : Nat) : Nat := (lineL xs).getD i 0
theorem tbl_mem (k : Nat) : tblL.getD k 0 ∈ tblL ∨ tblL.getD k 0 = 0 := by
  by_cases h : k < tblL.length
  · left
    rw [List.getD_eq_getElem?_getD, List.getElem?_eq_getElem h]
    exact List.getElem_mem h
  · right
    rw [List.getD_eq_getElem?_getD, List.getElem?_eq_none (by omega)]
    rfl
theorem lineL_len (xs : List Int) : (lineL xs).length = 12 := by
  unfold lineL
  rw [List.length_append, List.length_map, List.length_drop, List.length_take]
  show min 12 xs.length + (12 - min 12 xs.length) = 12
  omega
theorem lineL_mem {xs : List Int} {x : Nat} (h : x ∈ lineL xs) : x ∈ tblL ∨ x = 0 ∨ x ∈ defL := by
  unfold lineL at h
  rcases List.mem_append.mp h with h | h
  · obtain ⟨i, _, rfl⟩ := List.mem_map.mp h
    unfold sgL
    rcases tbl_mem (i.fmod 8).toNat with h | h
    · exact .inl h
    · exact .inr (.inl h)
  · exact .inr (.inr (List.mem_of_mem_drop h))
theorem cL_ok (xs : List Int) : OkC (cL xs) := by
  have key : ∀ i, cL xs i ∈ tblL ∨ cL xs i = 0 ∨ cL xs i ∈ defL := fun i => by
    unfold cL
    rw [List.getD_eq_getElem?_getD]
    cases h : (lineL xs)[i]? with
    | none => exact .inr (.inl rfl)
    | some x => exact lineL_mem (List.mem_of_getElem? h)
  have good : ∀ x, (x ∈ tblL ∨ x = 0 ∨ x ∈ defL) → x < 128 ∧ x ≠ 9 ∧ x ≠ 13 ∧ x ≠ 92 := fun x h => by
    simp only [tblL, defL, List.mem_cons, List.not_mem_nil, or_false] at h
    omega
  exact ⟨fun i => (good _ (key i)).1, fun i => (good _ (key i)).2.1, fun i => (good _ (key i)).2.2.1, fun i => (good _ (key i)).2.2.2⟩
theorem lineL_chars (xs : List Int) : lineL xs = chars 12 (cL xs) := by
  rw [chars_map]
  apply List.ext_getElem
  · rw [lineL_len]; simp
  · intro i h1 h2
    simp [cL, h1]
/-- law answers True -/
theorem law_ok {w : World} {b b2 : Bool} {xs : List Int} {ts : List Nat} (ht : ts.length = xs.length) (hl : xs.length ≤ 63) {s : Shared} (S : Top (wld w b b2) s) (hz : s.heap.objs.size = 770) (H : Holds s [(769, listO ⟨List.zipWith (fun x t => Value.int x t) xs ts⟩ 0)]) {R : Result → Shared → Prop}
    (fin : ∀ s', Did s s' [(769, listO ⟨List.zipWith (fun x t => Value.int x t) xs ts⟩ 0)] [] → R (.ok (.ret (.bool true))) s') :
    Sem.wp (MW (wld w b b2)) Γ0 treeLaw (Sem.finPost (MW (wld w b b2)) Γ0 R) (fun e _ s' => R (.error e) s') default s := by
  have h := run_tree (M := MW (wld w b b2)) (R := R) (C := cfgW (wld w b b2) (conTop (wld w b b2).params (cL xs) ⟨List.zipWith (fun x t => Value.int x t) xs ts⟩)) (l := [(769, listO ⟨List.zipWith (fun x t => Value.int x t) xs ts⟩ 0)]) (Γ := Γ0) (p := default) (t := treeLaw) (n := 120) (hs := 0 :: [0, 0, 2, 2, 0, 1001, 0, 2, 0, 48, 0, 2, 2, 3, 3, 0, 3, 0, 4, 49, 3]) (ext := [])
    (den_ok F _) rfl rfl rfl (conTop_ok ht hl (cL_ok xs) (lineL_chars xs)) (lvTree_ok (by show lvF = lvTree; exact lv_eq.symm)) S H (by simp) (by simp)
    (fun _ => .done (.ok (.ret (.bool true)))) (fun _ => [some (listO ⟨List.zipWith (fun x t => Value.int x t) xs ts⟩ 0)]) (fun _ => []) (fun _ => True ∧ True ∧ True) (fun nv => ?_) (fun _ => ⟨trivial, trivial, trivial⟩) fun nv s' Af => ?_
  · exact h
  · have := law_r w b b2 (cL xs) ⟨List.zipWith (fun x t => Value.int x t) xs ts⟩ s.toks nv
    unfold runTop at this
    rw [show sxF = @sx from sx_eq.symm] at this
    rw [hz]
    exact this
  · exact fin s' (Af.did [(769, listO ⟨List.zipWith (fun x t => Value.int x t) xs ts⟩ 0)] [] [] rfl rfl rfl (by simp) (by simp) rfl rfl)
end Mine.T02
end
section
open PySem PySem.W PySem.Calls PyProof.Rows
namespace Mine.T02
/-! NW02 -/
/-! ### the walk -/
/-- a tree's entries -/
noncomputable def ents : X.KT → Nat → Nat → List (Nat × Obj)
  | .nil, _, _ => []
  | .node v l r, s, b => (match v with | some o => [(b, o)] | none => []) ++ (ents l (2 * s) (s + b) ++ ents r (2 * s) (2 * s + b))
theorem holds_ents {h : Heap} : ∀ (t : X.KT) (s b : Nat), (∀ x ∈ ents t s b, h.get? x.1 = some x.2) → X.KT.Holds h s b t
  | .nil, _, _, _ => trivial
  | .node v l r, s, b, H => by
    refine ⟨fun o e => ?_, holds_ents l _ _ fun x hx => H x ?_, holds_ents r _ _ fun x hx => H x ?_⟩
    · subst e
      exact H (b, o) (by simp [ents])
    · simp only [ents, List.mem_append]
      exact .inr (.inl hx)
    · simp only [ents, List.mem_append]
      exact .inr (.inr hx)
theorem kt_ents (P : Params) : ents (kt P) 1 0 = [0, 2, 54, 25, 5, 38, 49, 35, 41, 8, 19, 50, 24, 32, 16, 53, 39, 33, 46, 26, 15, 45, 4, 22, 29, 10, 42, 1, 55, 6, 36, 14, 44, 3, 9, 21, 12, 51, 28, 17, 7, 40, 34, 18, 23, 31, 47, 52, 27, 20, 30, 37, 11, 48, 13, 43].map fun i => (kfrag P).getD i (0, o0 P) := by kernel_rfl
theorem kads_eq (P : Params) : kads = (kfrag P).map (·.1) := by kernel_rfl
theorem all_of_map {h : Heap} : ∀ {l : List (Nat × Obj)}, (l.map (·.1)).map h.get? = l.map (fun x => some x.2) → ∀ x ∈ l, h.get? x.1 = some x.2
  | [], _, x, hx => by cases hx
  | y :: r, e, x, hx => by
    rw [List.map_cons, List.map_cons, List.map_cons] at e
    injection e with e1 e2
    rcases List.mem_cons.mp hx with rfl | hx
    · exact e1
    · exact all_of_map e2 x hx
theorem getD_mem {α : Type} {l : List α} {i : Nat} {d : α} (hd : d ∈ l) : l.getD i d ∈ l := by
  rw [List.getD_eq_getElem?_getD]
  cases h : l[i]? with
  | none => exact hd
  | some x => exact List.mem_of_getElem? h
theorem kt_get {P : Params} {h : Heap} (H : ∀ x ∈ kfrag P, h.get? x.1 = some x.2) (a : Nat) (o : Obj) (e : (kt P).get a = some o) : h.get? a = some o := by
  have hh : X.KT.Holds h 1 0 (kt P) := holds_ents _ _ _ fun x hx => by
    rw [kt_ents] at hx
    obtain ⟨i, _, rfl⟩ := List.mem_map.mp hx
    exact H _ (getD_mem (List.mem_cons_self ..))
  have := X.KT.Holds.get hh e
  rwa [Nat.one_mul, Nat.add_zero] at this
/-- the list laid -/
theorem lay_ints {R : WRecords} {cl : Str → Option Addr} {P : Params} {ord : List DictEntry → List DictEntry} : ∀ (xs : List Int) (s : Shared), ∃ ts : List Nat, ts.length = xs.length ∧
    layAllW R cl P ord (xs.map WData.int) s = some (List.zipWith (fun x t => Value.int x t) xs ts, { s with toks := s.toks + xs.length })
  | [], s => ⟨[], rfl, by simp [layAllW]⟩
  | x :: r, s => by
    obtain ⟨ts, h1, h2⟩ := lay_ints r { s with toks := s.toks + 1 }
    refine ⟨s.toks :: ts, by simp [h1], ?_⟩
    simp only [List.map_cons, layAllW, layW]
    rw [h2]
    simp only [List.zipWith_cons_cons, List.length_cons]
    congr 3
    omega
theorem law_addr (P : Params) : nsFind (match (o3 P).data with | .dict es _ => es | _ => #[]) PySem.Challenge.rw_op0182_02.row.name = some (.ref 768) := by kernel_rfl
theorem world_eq (w : World) : ∃ w' b b2, w = wld w' b b2 := by
  refine ⟨w, w.params.followText "special-get-raises", w.params.followText "comprehension-iter-twice", ?_⟩
  unfold wld
  rw [World.withFollow_self, World.withFollow_self]
theorem most63 (ys : List WData) (hP : WTm.holds [] (.and (.not (.lt (.lit (.int ((63 : Nat) : Int))) (.len (.arg 0)))) (.lit (.bool true))) { args := [WData.list ys] } = true) (h : 63 < ys.length) : False := by
  have h2 : ((63 : Nat) : Int) < (ys.length : Int) := by omega
  simp only [WTm.holds, WTm.value, List.getElem?_cons_zero, less?, Num.less?, h2, decide_true, Option.map_some, Bool.not_true] at hP
  cases hP
theorem post_true (a b : List WData) : PySem.Challenge.rw_op0182_02.row.toRowW.claim.post a (.bool true) b = true := by
  show (WShape.has [] (.bool true) .bool && WTm.holds [] (.eq .res (.lit (.bool true))) { args := a, res := some (.bool true), after := b }) = true
  simp [WShape.has, WShape.arms, WTm.holds, WTm.value, PySem.W.same]
theorem walk02 : Walk := by
  intro w s₀ s₁ mg hobs hns a ha args vs as hpre hlay L hg
  obtain ⟨w', b, b2, rfl⟩ := world_eq w
  obtain ⟨hA, hP⟩ := pre_splitW (r := PySem.Challenge.rw_op0182_02.row.toRowW) hpre
  obtain ⟨d, r, rfl, hd, hr⟩ := hasAllW_cons hA
  have er := hasAllW_nil hr
  subst er
  obtain ⟨ds, rfl, hds⟩ := hasW_list hd
  obtain ⟨xs, rfl⟩ := items_int hds
  have hlen : xs.length ≤ 63 := by
    by_cases h : xs.length ≤ 63
    · exact h
    · exfalso
      exact most63 (xs.map WData.int) hP (by rw [List.length_map]; omega)
  -- what is laid
  obtain ⟨ord, _, e⟩ := L.laid
  obtain ⟨ts, ht, hl⟩ := lay_ints (R := PySem.Challenge.rw_op0182_02.row.toRowW.records) (cl := classAt s₀.heap) (P := (wld w' b b2).params) (ord := ord) xs s₀
  simp only [layAllW, layW] at e
  rw [hl] at e
  simp only [Option.some.injEq, Prod.mk.injEq] at e
  obtain ⟨rfl, es⟩ := e
  have eh : s₁.heap = s₀.heap.push { cls := .type "list", data := .seq (List.zipWith (fun x t => Value.int x t) xs ts).toArray } := by rw [← es]
  -- the top
  have y1 : kads.map s₀.heap.get? = (kfrag (wld w' b b2).params).map fun x => some x.2 := congrArg Prod.fst hobs
  have hsz : s₀.heap.objs.size = 769 := congrArg (fun x => x.2.1) hobs
  rw [kads_eq (wld w' b b2).params] at y1
  have hK := all_of_map y1
  have push : ∀ {b' : Nat} {o : Obj}, s₀.heap.get? b' = some o → s₁.heap.get? b' = some o := fun h => by rw [eh]; exact Heap.get?_push_of_some _ h
  have ea : a = 768 := by
    obtain ⟨o, es, ep, ho, hd, _, hf⟩ := hns
    have h3 : s₀.heap.get? 3 = some (o3 (wld w' b b2).params) := hK (3, o3 (wld w' b b2).params) (by simp [kfrag])
    have : o = o3 (wld w' b b2).params := Option.some.inj (ho.symm.trans (push h3))
    subst this
    have z := law_addr (wld w' b b2).params
    rw [hd] at z
    have z2 := (hf PySem.Challenge.rw_op0182_02.row.name).trans ha
    have z3 := z.symm.trans z2
    cases z3
    rfl
  subst ea
  have hs1 : s₁.heap.objs.size = 770 := by rw [eh, Heap.size_push, hsz]
  have S : Top (wld w' b b2) s₁ := ⟨fun a o e => ⟨by rw [← hsz]; exact Heap.lt_size (kt_get hK a o e), push (kt_get hK a o e)⟩, by rw [hs1]; decide⟩
  have H : Holds s₁ [(769, listO ⟨List.zipWith (fun x t => Value.int x t) xs ts⟩ 0)] := by
    intro x hx
    simp only [List.mem_singleton] at hx
    subst hx
    show s₁.heap.get? 769 = _
    rw [eh, ← hsz]
    exact Heap.get?_push_size _ rfl
  have main := law_ok (w := w') (b := b) (b2 := b2) ht hlen S hs1 H (R := fun res s' => GoodWG PySem.Challenge.rw_op0182_02.row.toRowW.claim (classAt s₀.heap) (ExcName.means s₀.heap) [.list (xs.map .int)] s₁ res s') fun s' D => ?_
  · rw [hsz]
    exact main
  · refine ⟨.inl ⟨.bool true, .bool true, [], rfl, fun _ => rfl, .bool true, post_true _ _, fun _ => ⟨List.nodup_nil, fun a h => by cases h⟩⟩, .of_keep fun b o hb => ?_, D.keep.os, .of_eq (D.keep.gens.trans hg)⟩
    by_cases hb9 : b = 769
    · subst hb9
      have h1 := H _ (List.mem_cons_self ..)
      have h2 := D.holds _ (List.mem_cons_self ..)
      rw [show s₁.heap.get? 769 = _ from h1] at hb
      rw [show s'.heap.get? 769 = _ from h2]
      exact hb
    · exact D.keep.keep b o hb (by simpa using hb9)
end Mine.T02
end

theorem PySem.Challenge.cw_op0182_02_holds : PySem.Challenge.rw_op0182_02.Holds :=
  Mine.T02.hd02 Mine.T02.walk02
