import PyProof.Rows.All
import Wide.All
import OpenK.AllK
import Wide.FinOn
import PyProof.SumWalk
import Lean
import PySem.Challenge.RW_op0182_01

/-! Joined by join.py out of the texts that were built apart: an executor for the model's trees (Sx*), the head (Hd*), the code that the law reaches, each function once, the plain law, the walk. -/
set_option Elab.async false
set_option linter.all false
set_option maxRecDepth 1000000
set_option maxHeartbeats 0

section
open PySem PySem.W
namespace Mine
/-! SxCore -/

/-- the continuations behind the tree at hand -/
inductive K where
  | base
  | ret (Γ : Ctx) (p : Pos) (k : Result → Sem Fin) (κ : K)
  | lv (Γ : Ctx) (env : Env) (fin : Bool) (κ : K)
/-- what a raise does that leaves the tree: only one that is raised within it is noted -/
noncomputable def dropK : K → K
  | .lv _ _ _ κ => dropK κ
  | .base => .base
  | .ret Γ p k κ => .ret Γ p k κ

/-- index to address: runs of consecutive addresses, the newest first -/
noncomputable abbrev Ads := List (Nat × Nat)
noncomputable def adOf : Ads → Nat → Nat
  | [], j => j
  | x :: r, j => match Nat.ble x.1 j with
    | true => x.2 + (j - x.1)
    | false => adOf r j

/-- what a contract leaves unknown -/
structure Unk where
  n : Nat → Nat
  sl : Nat → Array (Option Value)
  vs : Nat → Array Value
  ob : Nat → Obj
/-- what a contract leaves: its answer, the table, the new objects (the i-th at the address n i) -/
structure Left where
  res : Result
  tab : BT
  news : List Obj
/-- a contract at a call: the context it is for, what it asks, what it leaves -/
structure Con where
  gx : Ctx
  nq : List (Nat × Nat) := []
  oq : List (Option Obj × Option Obj) := []
  ob : Prop
  left : Unk → Left
  /-- what the hints are behind it -/
  hsel : Unk → List Nat → List Nat := fun _ h => h
noncomputable abbrev mkC (gx : Ctx) (ob : Prop) (left : Unk → Left) : Con := { gx, ob, left }

structure Cfg where
  den : Code → Sem Fin
  prog : Program
  w : World
  kt : X.KT
  con : Nat → Nat → Ctx → Code → BT → Ads → Option Con
  lvt : Code → Option (Sem Fin × Env × Bool)

inductive End1 where
  | done (r : Result)
  | again (Γ : Ctx) (p : Pos)

structure Acc where
  eqs : List (Nat × Nat)
  gs : List (Ctx × Ctx)
  os : List (Option Obj × Option Obj)
  ob : Prop

inductive Out where
  | stop (n : Nat)
  | fin (e : End1) (T : BT) (m : Nat) (ads : Ads) (tk : Nat) (A : Acc)

noncomputable abbrev Nv := Nat → Nat × Nat × Unk
noncomputable abbrev Run := List Nat → BT → Nat → Ads → Nat → Nat → Nv → Acc → Out
noncomputable abbrev RunTy := Ctx → Pos → K → Sem Fin → Run
noncomputable def halt (n : Nat) : Run := fun _ _ _ _ _ _ _ _ => .stop n

noncomputable def addEq (A : Acc) (a b : Nat) : Acc := ⟨(a, b) :: A.eqs, A.gs, A.os, A.ob⟩
noncomputable def addEqs (A : Acc) (q : List (Nat × Nat)) : Acc := ⟨q ++ A.eqs, A.gs, A.os, A.ob⟩
noncomputable def addCon (A : Acc) (Γ : Ctx) (g : Con) : Acc := ⟨g.nq ++ A.eqs, (Γ, g.gx) :: A.gs, g.oq ++ A.os, g.ob ∧ A.ob⟩

/-! a raise that leaves a frame -/
noncomputable def nthV : List Value → Nat → Option Value
  | [], _ => none
  | v :: _, 0 => some v
  | _ :: r, n + 1 => nthV r n
noncomputable def recOf : Data → Option (List Value)
  | .fields ⟨l⟩ => some l
  | _ => none
noncomputable def isMod : ScopeKind → Bool
  | .module => true
  | _ => false
noncomputable def slotsTo (sl : Array (Option Value)) (o : Obj) : Obj := { o with slots := sl }
/-- the frames made ready: each one's slots are unknown behind it -/
noncomputable def ready (ν : Unk) : Nat → List Env → List Nat → BT → Ads → List (Nat × Nat) → Option (BT × List (Nat × Nat) × List Nat)
  | _, [], hs, T, _, q => some (T, q, hs)
  | i, env :: l, hs, T, ads, q => match hs with
    | [] => none
    | h :: hs => match env.frame with
      | none => none
      | some L => match isMod env.scope.kind with
        | true => none
        | false => match T.get h with
          | none => none
          | some o => match recOf o.data with
            | some _ => none
            | none => ready ν (i + 1) l hs (T.set h (slotsTo (ν.sl i))) ads ((L, adOf ads h) :: q)
noncomputable def framesOf (Γ : Ctx) : List Env := Γ.code.envs ++ envsOf Γ.below
noncomputable def entryO (head : Value) (L : Nat) (fl : Value) (tl : Array Value) : Obj := ⟨.type "traceback", none, .fields ⟨head :: .ref L :: .none :: fl :: .none :: tl.toList⟩, ⟨[]⟩⟩
/-- a new entry ahead of the traceback -/
noncomputable def noteNew (Γ : Ctx) (L : Nat) (fin : Bool) (ie : Nat) (head : Value) (go : Run) : Run := fun hs T m ads t i nv A =>
  match framesOf Γ with
  | [] => .stop 40
  | env0 :: outer => match env0.frame with
    | none => .stop 41
    | some L0 => match nv 0 with
      | (_, _, ν) => match ready ν 0 (env0 :: outer) hs T ads [] with
        | none => .stop 42
        | some (T1, q, hs) => match T1.get ie with
          | none => .stop 43
          | some oe => match recOf oe.data with
            | none => .stop 44
            | some vs => match nthV vs 1 with
              | none => .stop 45
              | some _ => match (T1.ins m (entryO head L (.int (.ofNat L) 0) (ν.vs 0))).get m with
                | none => .stop 46
                | some _ => go hs (match fin with
                    | true => ((T1.ins m (entryO head L (.int (.ofNat L) 0) (ν.vs 0))).set ie (Obj.mapFields (·.setIfInBounds 1 (.ref (adOf ads m))))).set m (Obj.mapFields (·.setIfInBounds 3 .none))
                    | false => (T1.ins m (entryO head L (.int (.ofNat L) 0) (ν.vs 0))).set ie (Obj.mapFields (·.setIfInBounds 1 (.ref (adOf ads m)))))
                  (m + 1) ads t i (fun n => nv (n + 1)) (addEqs A ((L0, L) :: q))
noncomputable def leave (Γ : Ctx) (env : Env) (fin : Bool) (e : Value) (go : Run) : Run := fun hs T m ads t i nv A =>
  match e with
  | .ref a => match env.frame with
    | none => .stop 50
    | some L => match hs with
      | [] => .stop 1
      | ie :: hs => match T.get ie with
        | none => .stop 51
        | some oe => match recOf oe.data with
          | none => .stop 52
          | some vs => match nthV vs 1 with
            | some .none => noteNew Γ L fin ie .none go hs T m ads t i nv (addEq A a (adOf ads ie))
            | some (.ref tb) => match hs with
              | [] => .stop 1
              | it :: hs => match T.get it with
                | none => .stop 53
                | some ot => match recOf ot.data with
                  | none => .stop 54
                  | some ts => match nthV ts 3 with
                    | some .none => noteNew Γ L fin ie (.ref tb) go hs (T.set it (Obj.mapFields (·.setIfInBounds 3 .none))) m ads t i nv (addEqs A [(a, adOf ads ie), (tb, adOf ads it)])
                    | some (.int (.ofNat L') tk) => match Nat.beq tk 0 with
                      | true => go hs (match fin with
                          | true => T.set it (Obj.mapFields (·.setIfInBounds 3 .none))
                          | false => T) m ads t i nv (addEqs A [(a, adOf ads ie), (tb, adOf ads it), (L', L)])
                      | false => .stop 55
                    | _ => .stop 56
            | _ => .stop 57
  | _ => .stop 58

noncomputable def back (ih : RunTy) (r : Result) : K → Run
  | .base => fun _ T m ads t i _ A => .fin (.done r) T m ads (t + i) A
  | .ret Γ p k κ => ih Γ p κ (k r)
  | .lv Γ env fin κ => match r with
    | .ok _ => back ih r κ
    | .error e => leave Γ env fin e (back ih r κ)

/-- the new objects laid into the table -/
noncomputable def putNew (ν : Nat → Nat) : Nat → List Obj → BT → Nat → Ads → Option (BT × Nat × Ads)
  | _, [], T, m, ads => some (T, m, ads)
  | i, o :: r, T, m, ads => match (T.ins m o).get m with
    | some _ => putNew ν (i + 1) r (T.ins m o) (m + 1) ((m, ν i) :: ads)
    | none => none
/-- go on behind a contract -/
noncomputable def after (go : Result → Run) (hs : List Nat) (m : Nat) (ads : Ads) (nv : Nv) (A : Acc) (Γ : Ctx) (g : Con) : Out :=
  match nv 0 with
  | (N, t, ν) => match g.left ν with
    | ⟨r, T, l⟩ => match putNew ν.n 0 l T m ads with
      | some (T', m', ads') => go r (g.hsel ν hs) T' m' ((m', N) :: ads') t 0 (fun n => nv (n + 1)) (addCon A Γ g)
      | none => .stop 12

noncomputable def sx1 (C : Cfg) (ih : RunTy) (Γ : Ctx) (p : Pos) (κ : K) (t : Sem Fin) : Run := match t with
  | .pure f => match f with
    | .done f => back ih (.ok f) κ
    | .again c => match c.quiet with
      | true => fun hs T m ads t i nv A => match hs with
        | [] => .stop 1
        | h :: hs => match h with
          | 0 => ih (Γ.goto c) p (dropK κ) (C.den c) hs T m ads t i nv A
          | 1 => match dropK κ with
            | .base => .fin (.again (Γ.goto c) p) T m ads (t + i) A
            | _ => .stop 2
          | j + 2 => match Nat.beq j 999 with
            | true => match C.lvt c with
              | some (t', env, fin) => ih (Γ.goto c) p (.lv (Γ.goto c) env fin (dropK κ)) t' hs T m ads t i nv A
              | none => .stop 13
            | false => match hs with
              | [] => .stop 1
              | x :: hs => match C.con j x (Γ.goto c) c T ads with
                | some g => after (fun r => back ih r (dropK κ)) hs m ads nv A (Γ.goto c) g
                | none => .stop 11
      | false => halt 2
  | .raise e => back ih (.error e) κ
  | .rule _ k => ih Γ p κ (k ())
  | .at p' k => ih Γ p' κ (k ())
  | .point _ k => ih Γ p κ (k ())
  | .ask k => ih Γ p κ (k ⟨C.prog, C.w.params⟩)
  | .load a _ k => fun hs T m ads t i nv A => match hs with
    | [] => .stop 3
    | h :: hs => match h with
      | 0 => match C.kt.get a with
        | some o => ih Γ p κ (k o) hs T m ads t i nv A
        | none => .stop 4
      | j + 1 => match T.get j with
        | some o => ih Γ p κ (k o) hs T m ads t i nv (addEq A a (adOf ads j))
        | none => .stop 5
  | .loadIfAlive a k => fun hs T m ads t i nv A => match hs with
    | [] => .stop 3
    | h :: hs => match h with
      | 0 => match C.kt.get a with
        | some o => ih Γ p κ (k (some o)) hs T m ads t i nv A
        | none => .stop 4
      | j + 1 => match T.get j with
        | some o => ih Γ p κ (k (some o)) hs T m ads t i nv (addEq A a (adOf ads j))
        | none => .stop 5
  | .update a _ f k => fun hs T m ads t i nv A => match hs with
    | [] => .stop 3
    | h :: hs => match h with
      | 0 => .stop 6
      | j + 1 => match T.get j with
        | some o => match (f o).isFreed with
          | true => .stop 7
          | false => ih Γ p κ (k ()) hs (T.set j f) m ads t i nv (addEq A a (adOf ads j))
        | none => .stop 5
  | .alloc o k => fun hs T m ads t i nv A => match o.isFreed with
    | true => .stop 8
    | false => match (T.ins m o).get m with
      | some _ => ih Γ p κ (k (adOf ads m)) hs (T.ins m o) (m + 1) ads t i nv A
      | none => .stop 9
  | .fresh k => fun hs T m ads t i nv A => ih Γ p κ (k (t + i)) hs T m ads t (i + 1) nv A
  | .handled own k => match own with
    | true => ih Γ p κ (k Γ.own)
    | false => ih Γ p κ (k Γ.handled)
  | .stack k => ih Γ p κ (k ((Γ.code, p) :: Γ.below))
  | .call c hd _ _ k => fun hs T m ads t i nv A => match hs with
    | [] => .stop 10
    | h :: hs => match h with
      | 0 => ih (Γ.enter c hd p) p (.ret Γ p k κ) (C.den c) hs T m ads t i nv A
      | j + 1 => match Nat.beq j 999 with
        | true => match C.lvt c with
          | some (t', env, fin) => ih (Γ.enter c hd p) p (.lv (Γ.enter c hd p) env fin (.ret Γ p k κ)) t' hs T m ads t i nv A
          | none => .stop 13
        | false => match hs with
          | [] => .stop 1
          | x :: hs => match C.con j x (Γ.enter c hd p) c T ads with
            | some g => after (fun r => ih Γ p κ (k r)) hs m ads nv A (Γ.enter c hd p) g
            | none => .stop 11
  | .unsupported _ => halt 20
  | .finish _ => halt 21
  | .register .. => halt 22
  | .choose .. => halt 23
  | .os .. => halt 24
  | .newGen .. => halt 25
  | .genState .. => halt 26
  | .resume .. => halt 27
  | .yield .. => halt 28
  | .fork .. => halt 29
  | .thread _ => halt 30
  | .await .. => halt 31
noncomputable def sx (C : Cfg) : Nat → RunTy
  | 0 => fun _ _ _ _ => halt 0
  | n + 1 => sx1 C (sx C n)

/-! ### what the table says of a state -/
structure Base where
  kt : X.KT
  n₀ : Nat
  h₀ : Heap
  k : Nat
  gens : Array GenState
  d : Drawn
  os : OsState

structure Rep (B : Base) (s : Shared) (T : BT) (m : Nat) (ads : Ads) (tk : Nat) : Prop where
  size : s.heap.objs.size = adOf ads m
  own : ∀ i o, T.get i = some o → i < m ∧ s.heap.get? (adOf ads i) = some o
  inj : ∀ i j, i < m → j < m → adOf ads i = adOf ads j → i = j
  lo : ∀ i, i < m → B.n₀ ≤ adOf ads i ∧ adOf ads i < adOf ads m
  top : B.n₀ ≤ adOf ads m
  next : ∀ k, adOf ads (m + k) = adOf ads m + k
  kt : ∀ a o, B.kt.get a = some o → a < B.n₀ ∧ s.heap.get? a = some o
  frame : ∀ b o, B.h₀.get? b = some o → (∀ i, i < m → b ≠ adOf ads i) → s.heap.get? b = some o
  old : B.h₀.objs.size ≤ s.heap.objs.size
  young : ∀ i, B.k ≤ i → i < m → B.h₀.objs.size ≤ adOf ads i
  toks : s.toks = tk
  gens : s.gens = B.gens
  drawn : s.drawn = B.d
  os : s.os = B.os

/-- what is done to a raise that leaves the tree -/
noncomputable def lvH (env : Env) : Bool → Value → Sem Unit
  | true => leaving env
  | false => fun x => do noteFrame x env; theTreesLotGoes x
/-- a code's tree without that -/
noncomputable def lvTree : Code → Option (Sem Fin × Env × Bool)
  | .func body env => some (do
      point
      match ← execs body env with
      | .ret v => ret v
      | _ => ret .none, env, true)
  | .whileLoop test body orelse env => some (whileTurn test body orelse env, env, false)
  | .forLoop target it body orelse env => some (forTurn target it body orelse env, env, false)
  | _ => none

/-- what must hold behind a tree that stands before κ, and behind one that goes over into another code -/
noncomputable def posts (M : Model) (R : Result → Shared → Prop) : K → (Result → Shared → Prop) × (Result → Shared → Prop)
  | .base => (R, R)
  | .ret Γ p k κ => (fun r s => Sem.wp M Γ (k r) (Sem.finPost M Γ (posts M R κ).2) (fun e _ s' => (posts M R κ).1 (.error e) s') p s,
      fun r s => Sem.wp M Γ (k r) (Sem.finPost M Γ (posts M R κ).2) (fun e _ s' => (posts M R κ).1 (.error e) s') p s)
  | .lv Γ env fin κ => (fun r s => match r with
    | .ok _ => (posts M R κ).1 r s
    | .error e => ∀ p, Sem.wp M Γ (lvH env fin e) (fun _ _ s' => (posts M R κ).1 (.error e) s') (fun e' _ s' => (posts M R κ).1 (.error e') s') p s, (posts M R κ).2)
noncomputable def post (M : Model) (R : Result → Shared → Prop) (κ : K) : Result → Shared → Prop := (posts M R κ).1
theorem posts_drop (M : Model) (R : Result → Shared → Prop) : ∀ κ : K, (posts M R κ).2 = post M R (dropK κ)
  | .base => rfl
  | .ret .. => rfl
  | .lv _ _ _ κ => posts_drop M R κ
theorem dropK_dropK : ∀ κ : K, dropK (dropK κ) = dropK κ
  | .base => rfl
  | .ret .. => rfl
  | .lv _ _ _ κ => dropK_dropK κ
noncomputable abbrev Mean (M : Model) (R : Result → Shared → Prop) (κ : K) (Γ : Ctx) (p : Pos) (t : Sem Fin) (s : Shared) : Prop :=
  Sem.wp M Γ t (Sem.finPost M Γ (post M R (dropK κ))) (fun e _ s' => post M R κ (.error e) s') p s

noncomputable def AccOk (A : Acc) : Prop := (∀ x ∈ A.eqs, x.1 = x.2) ∧ (∀ x ∈ A.gs, x.1 = x.2) ∧ (∀ x ∈ A.os, x.1 = x.2) ∧ A.ob
noncomputable def EndOk (M : Model) (R : Result → Shared → Prop) : End1 → Shared → Prop
  | .done r, s => R r s
  | .again Γ p, s => wpCode M Γ R p s
noncomputable def Good (B : Base) (M : Model) (R : Result → Shared → Prop) : Out → Prop
  | .stop _ => False
  | .fin e T m ads tk A => AccOk A ∧ ∀ s, Rep B s T m ads tk → EndOk M R e s

/-! SxSound -/
section
noncomputable def unk0 : Unk := ⟨id, fun _ => #[], fun _ => #[], fun _ => default⟩
noncomputable def scons (x : Nat × Nat × Unk) (nv : Nv) : Nv
  | 0 => x
  | n + 1 => nv n

theorem acc_eq {A : Acc} {a b : Nat} (h : AccOk (addEq A a b)) : a = b ∧ AccOk A :=
  ⟨h.1 _ (List.Mem.head _), fun x hx => h.1 x (List.Mem.tail _ hx), h.2⟩
theorem acc_eqs {A : Acc} {q : List (Nat × Nat)} (h : AccOk (addEqs A q)) : (∀ x ∈ q, x.1 = x.2) ∧ AccOk A :=
  ⟨fun x hx => h.1 x (List.mem_append_left _ hx), fun x hx => h.1 x (List.mem_append_right _ hx), h.2⟩
theorem acc_con {A : Acc} {Γ : Ctx} {g : Con} (h : AccOk (addCon A Γ g)) : (Γ = g.gx ∧ (∀ x ∈ g.nq, x.1 = x.2) ∧ (∀ x ∈ g.oq, x.1 = x.2) ∧ g.ob) ∧ AccOk A :=
  ⟨⟨h.2.1 _ (List.Mem.head _), fun x hx => h.1 x (List.mem_append_left _ hx), fun x hx => h.2.2.1 x (List.mem_append_left _ hx), h.2.2.2.1⟩,
    fun x hx => h.1 x (List.mem_append_right _ hx), fun x hx => h.2.1 x (List.Mem.tail _ hx), fun x hx => h.2.2.1 x (List.mem_append_right _ hx), h.2.2.2.2⟩

section
variable {B : Base} {M : Model} {R : Result → Shared → Prop} {C : Cfg}
noncomputable abbrev GoAcc (B : Base) (M : Model) (R : Result → Shared → Prop) (go : Run) : Prop := ∀ hs T m ads t0 i nv A, Good B M R (go hs T m ads t0 i nv A) → AccOk A
theorem noteNew_acc {Γ : Ctx} {L : Nat} {fin : Bool} {ie : Nat} {head : Value} {go : Run} (hgo : GoAcc B M R go) {hs T m ads t0 i nv A}
    (H : Good B M R (noteNew Γ L fin ie head go hs T m ads t0 i nv A)) : AccOk A := by
  unfold noteNew at H
  split at H
  · exact H.elim
  · split at H
    · exact H.elim
    · split at H
      split at H
      · exact H.elim
      · split at H
        · exact H.elim
        · split at H
          · exact H.elim
          · split at H
            · exact H.elim
            · split at H
              · exact H.elim
              · exact (acc_eqs (hgo _ _ _ _ _ _ _ _ H)).2
theorem leave_acc {Γ : Ctx} {env : Env} {fin : Bool} {e : Value} {go : Run} (hgo : GoAcc B M R go) {hs T m ads t0 i nv A}
    (H : Good B M R (leave Γ env fin e go hs T m ads t0 i nv A)) : AccOk A := by
  unfold leave at H
  split at H
  · split at H
    · exact H.elim
    · split at H
      · exact H.elim
      · split at H
        · exact H.elim
        · split at H
          · exact H.elim
          · split at H
            · exact (acc_eq (noteNew_acc hgo H)).2
            · split at H
              · exact H.elim
              · split at H
                · exact H.elim
                · split at H
                  · exact H.elim
                  · split at H
                    · exact (acc_eqs (noteNew_acc hgo H)).2
                    · split at H
                      · exact (acc_eqs (hgo _ _ _ _ _ _ _ _ H)).2
                      · exact H.elim
                    · exact H.elim
            · exact H.elim
  · exact H.elim
end
section
variable {B : Base} {M : Model} {R : Result → Shared → Prop} {C : Cfg} {ih : RunTy}
  (IH : ∀ Γ p κ t hs T m ads t0 i nv A, Good B M R (ih Γ p κ t hs T m ads t0 i nv A) → AccOk A)
include IH
theorem back_acc {r : Result} : ∀ {κ : K} {hs T m ads t0 i nv A}, Good B M R (back ih r κ hs T m ads t0 i nv A) → AccOk A
  | .base, _, _, _, _, _, _, _, _, H => H.1
  | .ret Γ p k κ, _, _, _, _, _, _, _, _, H => IH _ _ _ _ _ _ _ _ _ _ _ _ H
  | .lv Γ env fin κ, _, _, _, _, _, _, _, _, H => by
    cases r with
    | ok f => exact back_acc (κ := κ) H
    | error e => exact leave_acc (fun _ _ _ _ _ _ _ _ h => back_acc (κ := κ) h) H
omit IH in
theorem after_acc {go : Result → Run} (hgo : ∀ r hs T m ads t0 i nv A, Good B M R (go r hs T m ads t0 i nv A) → AccOk A)
    {hs m ads nv A Γ} {g : Con} (H : Good B M R (after go hs m ads nv A Γ g)) : AccOk (addCon A Γ g) := by
  unfold after at H
  split at H
  split at H
  split at H
  · exact hgo _ _ _ _ _ _ _ _ _ H
  · exact H.elim
theorem sx1_acc {Γ p κ t hs T m ads t0 i nv A} (H : Good B M R (sx1 C ih Γ p κ t hs T m ads t0 i nv A)) : AccOk A := by
  cases t with
  | pure f =>
    cases f with
    | done f => exact back_acc IH H
    | again c =>
      cases hq : c.quiet with
      | false => simp only [sx1, hq] at H; exact H.elim
      | true =>
        simp only [sx1, hq] at H
        split at H
        · exact H.elim
        · split at H
          · exact IH _ _ _ _ _ _ _ _ _ _ _ _ H
          · split at H
            · exact H.1
            · exact H.elim
          · split at H
            · split at H
              · exact IH _ _ _ _ _ _ _ _ _ _ _ _ H
              · exact H.elim
            · split at H
              · exact H.elim
              · split at H
                · exact (acc_con (after_acc (fun r hs T m ads t0 i nv A h => back_acc IH h) H)).2
                · exact H.elim
  | raise e => exact back_acc IH H
  | rule => exact IH _ _ _ _ _ _ _ _ _ _ _ _ H
  | «at» => exact IH _ _ _ _ _ _ _ _ _ _ _ _ H
  | point => exact IH _ _ _ _ _ _ _ _ _ _ _ _ H
  | ask => exact IH _ _ _ _ _ _ _ _ _ _ _ _ H
  | load a q k =>
    simp only [sx1] at H
    split at H
    · exact H.elim
    · split at H
      · split at H
        · exact IH _ _ _ _ _ _ _ _ _ _ _ _ H
        · exact H.elim
      · split at H
        · exact (acc_eq (IH _ _ _ _ _ _ _ _ _ _ _ _ H)).2
        · exact H.elim
  | loadIfAlive a k =>
    simp only [sx1] at H
    split at H
    · exact H.elim
    · split at H
      · split at H
        · exact IH _ _ _ _ _ _ _ _ _ _ _ _ H
        · exact H.elim
      · split at H
        · exact (acc_eq (IH _ _ _ _ _ _ _ _ _ _ _ _ H)).2
        · exact H.elim
  | update a q f k =>
    simp only [sx1] at H
    split at H
    · exact H.elim
    · split at H
      · exact H.elim
      · split at H
        · split at H
          · exact H.elim
          · exact (acc_eq (IH _ _ _ _ _ _ _ _ _ _ _ _ H)).2
        · exact H.elim
  | alloc o k =>
    simp only [sx1] at H
    split at H
    · exact H.elim
    · split at H
      · exact IH _ _ _ _ _ _ _ _ _ _ _ _ H
      · exact H.elim
  | fresh => exact IH _ _ _ _ _ _ _ _ _ _ _ _ H
  | handled own k => cases own <;> exact IH _ _ _ _ _ _ _ _ _ _ _ _ H
  | stack => exact IH _ _ _ _ _ _ _ _ _ _ _ _ H
  | call c hd g l k =>
    simp only [sx1] at H
    split at H
    · exact H.elim
    · split at H
      · exact IH _ _ _ _ _ _ _ _ _ _ _ _ H
      · split at H
        · split at H
          · exact IH _ _ _ _ _ _ _ _ _ _ _ _ H
          · exact H.elim
        · split at H
          · exact H.elim
          · split at H
            · exact (acc_con (after_acc (fun r hs T m ads t0 i nv A h => IH _ _ _ _ _ _ _ _ _ _ _ _ h) H)).2
            · exact H.elim
  | unsupported => exact H.elim
  | finish => exact H.elim
  | register => exact H.elim
  | choose => exact H.elim
  | os => exact H.elim
  | newGen => exact H.elim
  | genState => exact H.elim
  | resume => exact H.elim
  | yield => exact H.elim
  | fork => exact H.elim
  | thread => exact H.elim
  | await => exact H.elim
end
theorem sx_acc {B : Base} {M : Model} {R : Result → Shared → Prop} {C : Cfg} : ∀ n Γ p κ t hs T m ads t0 i nv A, Good B M R (sx C n Γ p κ t hs T m ads t0 i nv A) → AccOk A
  | 0 => fun _ _ _ _ _ _ _ _ _ _ _ _ H => H.elim
  | n + 1 => fun _ _ _ _ _ _ _ _ _ _ _ _ H => sx1_acc (sx_acc n) H

/-! ### the table's steps -/
section
variable {B : Base} {s : Shared} {T : BT} {m : Nat} {ads : Ads} {tk : Nat}
theorem Rep.fresh (D : Rep B s T m ads tk) : Rep B { s with toks := s.toks + 1 } T m ads (tk + 1) :=
  ⟨D.size, D.own, D.inj, D.lo, D.top, D.next, D.kt, D.frame, D.old, D.young, by rw [← D.toks], D.gens, D.drawn, D.os⟩
theorem Rep.alloc (D : Rep B s T m ads tk) {o : Obj} (hf : o.isFreed = false) (hg : ((T.ins m o).get m).isSome = true) :
    Rep B { s with heap := s.heap.push o } (T.ins m o) (m + 1) ads tk := by
  have hsz : (s.heap.push o).objs.size = adOf ads m + 1 := by rw [Heap.size_push, D.size]
  have hn := D.next 1
  refine ⟨hsz.trans hn.symm, fun i o' e => ?_, fun i j hi hj e => ?_, fun i hi => ?_, by rw [hn]; exact Nat.le_succ_of_le D.top, fun k => ?_, fun a o' e => ⟨(D.kt a o' e).1, Heap.get?_push_of_some _ (D.kt a o' e).2⟩, fun b o' e hb => Heap.get?_push_of_some _ (D.frame b o' e fun i hi => hb i (Nat.lt_succ_of_lt hi)), ?_, fun i hk hi => ?_, D.toks, D.gens, D.drawn, D.os⟩
  · rw [BT.get_ins o T m hg] at e
    by_cases hi : i = m
    · subst hi
      rw [if_pos rfl] at e
      cases e
      refine ⟨Nat.lt_succ_self _, ?_⟩
      rw [← D.size]; exact Heap.get?_push_size _ hf
    · rw [if_neg hi] at e
      have z := D.own i o' e
      exact ⟨Nat.lt_succ_of_lt z.1, Heap.get?_push_of_some _ z.2⟩
  · rcases Nat.lt_succ_iff_lt_or_eq.mp hi with hi | rfl <;> rcases Nat.lt_succ_iff_lt_or_eq.mp hj with hj | rfl
    · exact D.inj i j hi hj e
    · have := (D.lo i hi).2; omega
    · have := (D.lo j hj).2; omega
    · rfl
  · rw [hn]
    rcases Nat.lt_succ_iff_lt_or_eq.mp hi with hi | rfl
    · have := D.lo i hi; omega
    · exact ⟨D.top, Nat.lt_succ_self _⟩
  · rw [hn, show m + 1 + k = m + (1 + k) by omega, D.next]; omega
  · show _ ≤ (s.heap.push o).objs.size
    rw [hsz, ← D.size]; exact Nat.le_succ_of_le D.old
  · rcases Nat.lt_succ_iff_lt_or_eq.mp hi with hi | rfl
    · exact D.young i hk hi
    · rw [← D.size]; exact D.old
theorem Rep.update (D : Rep B s T m ads tk) {j : Nat} {o : Obj} {f : Obj → Obj} (e : T.get j = some o) (hf : (f o).isFreed = false) :
    Rep B { s with heap := s.heap.update (adOf ads j) f } (T.set j f) m ads tk := by
  obtain ⟨hj, ho⟩ := D.own j o e
  have hs : Heap.SameBut (adOf ads j) s.heap (s.heap.update (adOf ads j) f) := Heap.SameBut.update ..
  refine ⟨(by show (s.heap.update _ f).objs.size = _; rw [hs.1, D.size]), fun i o' e' => ?_, D.inj, D.lo, D.top, D.next, fun a o' e' => ?_, fun b o' e' hb => ?_, (by show _ ≤ (s.heap.update _ f).objs.size; rw [hs.1]; exact D.old), D.young, D.toks, D.gens, D.drawn, D.os⟩
  · rw [BT.get_set] at e'
    by_cases hi : i = j
    · subst hi
      rw [if_pos rfl, e] at e'
      cases e'
      exact ⟨hj, Heap.get?_update_self f ho hf⟩
    · rw [if_neg hi] at e'
      have y := D.own i o' e'
      exact ⟨y.1, (hs.2 _ fun z => hi (D.inj i j y.1 hj z)).trans y.2⟩
  · have z := D.kt a o' e'
    refine ⟨z.1, (hs.2 a ?_).trans z.2⟩
    have h1 := (D.lo j hj).1
    have h2 := z.1
    exact Nat.ne_of_lt (Nat.lt_of_lt_of_le h2 h1)
  · exact (hs.2 b (hb j hj)).trans (D.frame b o' e' hb)
end

/-! ### a raise that leaves a frame -/
noncomputable def inA (Γ : Ctx) : Around := { handled := Γ.handled, depth := frameCount Γ.below + Γ.code.weight, frames := some (framesOf Γ), guards := some (Γ.code.guards ++ guardsOf Γ.below), units := Γ.units }
theorem in_inA (Γ : Ctx) : Γ.In (inA Γ) := ⟨rfl, Nat.le_refl _, fun l h => by cases h; rfl, fun g h => by cases h; rfl, Nat.le_refl _⟩
theorem nthV_eq : ∀ (l : List Value) (n : Nat), nthV l n = l[n]?
  | [], n => by simp [nthV]
  | v :: r, 0 => rfl
  | v :: r, n + 1 => by rw [nthV, List.getElem?_cons_succ]; exact nthV_eq r n
theorem recOf_some {d : Data} {l : List Value} (h : recOf d = some l) : d = .fields ⟨l⟩ := by
  unfold recOf at h; split at h <;> simp_all
theorem recOf_none {d : Data} (h : recOf d = none) : ∀ vs, d ≠ .fields vs := by
  rintro ⟨l⟩ rfl; cases h
theorem ready_sub {ν : Unk} {ads : Ads} : ∀ (l : List Env) (i : Nat) (hs : List Nat) (T : BT) (q : List (Nat × Nat)) {T1 : BT} {q1 : List (Nat × Nat)} {hs1 : List Nat}, ready ν i l hs T ads q = some (T1, q1, hs1) → ∀ x ∈ q, x ∈ q1
  | [], i, hs, T, q, T1, q1, hs1, h, x, hx => by cases h; exact hx
  | env :: l, i, hs, T, q, T1, q1, hs1, h, x, hx => by
    unfold ready at h
    (repeat' split at h) <;> first | cases h | exact ready_sub l _ _ _ _ h x (List.mem_cons_of_mem _ hx)
theorem ready_frames {ν : Unk} {ads : Ads} {m : Nat} {h0 : Heap} : ∀ (l : List Env) (i : Nat) (hs : List Nat) (T : BT) (q : List (Nat × Nat)) {T1 : BT} {q1 : List (Nat × Nat)} {hs1 : List Nat}, ready ν i l hs T ads q = some (T1, q1, hs1) → (∀ x ∈ q1, x.1 = x.2) →
    (∀ j o, T.get j = some o → j < m ∧ ∃ sl, h0.get? (adOf ads j) = some (slotsTo sl o)) → h0.FunFrames default l ∧ ∀ L ∈ l.filterMap (·.frame), ∃ j, j < m ∧ L = adOf ads j
  | [], i, hs, T, q, T1, q1, hs1, h, hq, P => ⟨trivial, fun L h => by simp at h⟩
  | env :: l, i, hs, T, q, T1, q1, hs1, h, hq, P => by
    unfold ready at h
    split at h
    · cases h
    · rename_i h' hs'
      split at h
      · cases h
      · rename_i L hf
        split at h
        · cases h
        · rename_i hm
          split at h
          · cases h
          · rename_i o ho
            split at h
            · cases h
            · rename_i hr
              have e : L = adOf ads h' := hq _ (ready_sub _ _ _ _ _ h _ (List.mem_cons_self ..))
              obtain ⟨hj, sl, hsl⟩ := P h' o ho
              have IH := ready_frames (m := m) (h0 := h0) l (i + 1) _ _ _ h hq fun j o' e' => by
                rw [BT.get_set] at e'
                by_cases z : j = h'
                · subst z
                  rw [if_pos rfl, ho] at e'
                  cases e'
                  exact ⟨hj, sl, hsl⟩
                · rw [if_neg z] at e'; exact P j o' e'
              have hdef : (default : Heap).get? L = none := by
                cases hz : (default : Heap).get? L with
                | none => rfl
                | some o => exact absurd (Heap.lt_size hz) (Nat.not_lt_zero _)
              refine ⟨⟨fun z => by (rw [z] at hm; cases hm), ⟨L, slotsTo sl o, hf, hdef, e ▸ hsl, recOf_none hr⟩, IH.1⟩, fun L' hL => ?_⟩
              · rw [List.filterMap_cons, hf] at hL
                rcases List.mem_cons.mp hL with rfl | hL
                · exact ⟨h', hj, e⟩
                · exact IH.2 _ hL
theorem slotsTo_self (o : Obj) : slotsTo o.slots o = o := rfl
theorem ready_own {ν : Unk} {ads : Ads} {m : Nat} {h1 : Heap} (inj : ∀ i j, i < m → j < m → adOf ads i = adOf ads j → i = j) : ∀ (l : List Env) (i : Nat) (hs : List Nat) (T : BT) (q : List (Nat × Nat)) {T1 : BT} {q1 : List (Nat × Nat)} {hs1 : List Nat}, ready ν i l hs T ads q = some (T1, q1, hs1) → (∀ x ∈ q1, x.1 = x.2) →
    (∀ k env L o, l[k]? = some env → env.frame = some L → h1.get? L = some o → ν.sl (i + k) = o.slots) →
    (∀ j o, T.get j = some o → j < m ∧ ∃ sl, h1.get? (adOf ads j) = some (slotsTo sl o) ∧ (adOf ads j ∉ l.filterMap (·.frame) → sl = o.slots)) → ∀ j o, T1.get j = some o → j < m ∧ h1.get? (adOf ads j) = some o
  | [], i, hs, T, q, T1, q1, hs1, h, hq, N, P, j, o, e => by
    cases h
    obtain ⟨h1, sl, h2, h3⟩ := P j o e
    have := h3 (by simp)
    subst this
    exact ⟨h1, h2⟩
  | env :: l, i, hs, T, q, T1, q1, hs1, h, hq, N, P, j, o, e => by
    unfold ready at h
    split at h
    · cases h
    · rename_i h' hs'
      split at h
      · cases h
      · rename_i L hf
        split at h
        · cases h
        · split at h
          · cases h
          · rename_i o' ho
            split at h
            · cases h
            · rename_i hr
              have ea : L = adOf ads h' := hq _ (ready_sub _ _ _ _ _ h _ (List.mem_cons_self ..))
              refine ready_own inj l (i + 1) _ _ _ h hq (fun k env' L' o'' hk hf' hg => by have := N (k + 1) env' L' o'' (by rw [List.getElem?_cons_succ]; exact hk) hf' hg; rwa [show i + (k + 1) = i + 1 + k by omega] at this) (fun j' o'' e' => ?_) j o e
              rw [BT.get_set] at e'
              by_cases z : j' = h'
              · subst z
                rw [if_pos rfl, ho] at e'
                cases e'
                obtain ⟨p1, sl, p2, p3⟩ := P _ _ ho
                have w : ν.sl i = sl := N 0 env L _ rfl hf (ea ▸ p2)
                exact ⟨p1, sl, p2, fun _ => w.symm⟩
              · rw [if_neg z] at e'
                obtain ⟨p1, sl, p2, p3⟩ := P _ _ e'
                refine ⟨p1, sl, p2, fun hn => p3 fun hm => ?_⟩
                rw [List.filterMap_cons, hf] at hm
                rcases List.mem_cons.mp hm with hm | hm
                · exact z (inj _ _ p1 (P _ _ ho).1 (hm.trans ea))
                · exact hn hm

section
variable {B : Base} {s : Shared} {T : BT} {m : Nat} {ads : Ads} {tk : Nat}
/-- the frames' slots turned: the table behind it -/
theorem Rep.slots (D : Rep B s T m ads tk) {S : List Addr} {h1 : Heap} (x : Heap.SlotsOnly S s.heap h1) (hS : ∀ L ∈ S, ∃ j, j < m ∧ L = adOf ads j) {T1 : BT} (own : ∀ j o, T1.get j = some o → j < m ∧ h1.get? (adOf ads j) = some o) :
    Rep B { s with heap := h1 } T1 m ads tk := by
  refine ⟨by rw [← D.size]; exact x.1, own, D.inj, D.lo, D.top, D.next, fun a o e => ⟨(D.kt a o e).1, (x.2.1 a fun h => ?_).trans (D.kt a o e).2⟩, fun b o hb hn => (x.2.1 b fun h => ?_).trans (D.frame b o hb hn), by rw [show ({ s with heap := h1 } : Shared).heap.objs.size = s.heap.objs.size from x.1]; exact D.old, D.young, D.toks, D.gens, D.drawn, D.os⟩
  · obtain ⟨j, hj, e'⟩ := hS a h
    have h1 := (D.lo j hj).1
    have h2 := (D.kt a o e).1
    rw [e'] at h2
    exact absurd h2 (Nat.not_lt.mpr h1)
  · obtain ⟨j, hj, e'⟩ := hS b h
    exact hn j hj e'
end
section
variable {M : Model} {A : Around} {E : Value → Shared → Prop} {s : Shared}
theorem wpAny_entryNew {env env0 : Env} {outer : List Env} {L e : Addr} {head : Value} {hadNext : Bool} {Q : Unit → Shared → Prop}
    (hfr : A.frames = some (env0 :: outer)) (hl : s.heap.FunFrames default (env0 :: outer)) (hf0 : env0.frame = some L) (hf : env.frame = some L)
    (he : ∀ h₁, Heap.SlotsOnly ((env0 :: outer).filterMap (·.frame)) s.heap h₁ → ∃ oe vs, h₁.get? e = some oe ∧ oe.data = .fields vs ∧ 1 < vs.size)
    (h : ∀ h₁ tl, Heap.SlotsOnly ((env0 :: outer).filterMap (·.frame)) s.heap h₁ → Q () { s with heap := (h₁.push (entryO head L (.int (.ofNat L) 0) tl)).update e (Obj.mapFields (·.setIfInBounds 1 (.ref h₁.objs.size))) }) :
    wpAny M A (do let a ← frameOf env; let pl ← entryPlaceOf L hadNext; let b ← EntryCells.newEntry head a .none (rawInt L) .none pl; setField (.ref e) 1 b) Q E s := by
  have hfo : ∀ Q' : Value → Shared → Prop, (∀ h₁, Heap.SlotsOnly ((env0 :: outer).filterMap (·.frame)) s.heap h₁ → Q' (.ref L) { s with heap := h₁ }) → wpAny M A (frameOf env) Q' E s := fun Q' hQ => by
    unfold frameOf
    refine wpAny_bind (wpAny_frameEnvs hfr ?_)
    have hdw : ((env0 :: outer).dropWhile fun x => x.frame != env.frame) = env0 :: outer := by simp [List.dropWhile, hf, hf0]
    rw [hdw]
    unfold frameObject
    refine wpAny_bind (wpAny_bind (wpAny_readyFrames_fun hl fun h₁ hs₁ => wpAny_pure ?_))
    rw [hf0]
    exact wpAny_pure (hQ h₁ hs₁)
  refine wpAny_bind (hfo _ fun h₁ hs₁ => ?_)
  refine wpAny_bind (wpAny_entryPlaceOf fun pl hpl => ?_)
  unfold EntryCells.newEntry newFields
  refine wpAny_bind (wpAny_newObj_type ?_ (hpl.sizeOk5 _ _ _ _ _))
  obtain ⟨oe, vs, he1, hd, hsz⟩ := he h₁ hs₁
  refine wpAny_setField (Heap.get?_push_of_some _ he1) hd hsz ?_
  have := h h₁ (if pl.isEmpty then List.replicate 6 Value.none else pl).toArray hs₁
  exact this
end
section
variable {B : Base} {M : Model} {R : Result → Shared → Prop} {P : Shared → Prop} {go : Run} {E : Value → Shared → Prop}
noncomputable abbrev GoOk (B : Base) (M : Model) (R : Result → Shared → Prop) (go : Run) (P : Shared → Prop) : Prop :=
  ∀ hs T m ads t0 i A s, Rep B s T m ads (t0 + i) → (∀ nv, Good B M R (go hs T m ads t0 i nv A)) → P s
/-- the rest of what is done: the flight ended, or the tree's lot -/
noncomputable def lvRest (env : Env) (e : Value) : Bool → Sem Unit
  | true => setFlight e none
  | false => theTreesLotGoes e
theorem wpAny_lvH {A : Around} {env : Env} {fin : Bool} {e : Value} {Q : Unit → Shared → Prop} {s : Shared} (h : wpAny M A (noteFrame e env) (fun _ s' => wpAny M A (lvRest env e fin) Q E s') E s) : wpAny M A (lvH env fin e) Q E s := by
  cases fin with
  | true => exact wpAny_bind h
  | false => exact wpAny_bind h
theorem noteNew_sound {Γ : Ctx} {env : Env} {L a : Nat} {fin : Bool} {ie : Nat} {head : Value} {hadNext : Bool} {hs T m ads t0 i A} {s : Shared} (D : Rep B s T m ads (t0 + i)) (hf : env.frame = some L) (ha : a = adOf ads ie)
    (gs : GoOk B M R go P) (ga : GoAcc B M R go) (H : ∀ nv, Good B M R (noteNew Γ L fin ie head go hs T m ads t0 i nv A)) :
    wpAny M (inA Γ) (do let a' ← frameOf env; let pl ← entryPlaceOf L hadNext; let b ← EntryCells.newEntry head a' .none (rawInt L) .none pl; setField (.ref a) 1 b) (fun _ s' => wpAny M (inA Γ) (lvRest env (.ref a) fin) (fun _ => P) E s') E s := by
  unfold noteNew at H
  cases hfr : framesOf Γ with
  | nil => simp only [hfr] at H; exact (H fun _ => (0, 0, unk0)).elim
  | cons env0 outer =>
    simp only [hfr] at H
    cases hf0 : env0.frame with
    | none => simp only [hf0] at H; exact (H fun _ => (0, 0, unk0)).elim
    | some L0 =>
      simp only [hf0] at H
      -- the run at some unknowns
      have H0 := H fun _ => (0, 0, unk0)
      cases hr : ready unk0 0 (env0 :: outer) hs T ads [] with
      | none => simp only [hr] at H0; exact H0.elim
      | some x =>
        obtain ⟨T1, q, hs1⟩ := x
        simp only [hr] at H0
        have acc0 : ∀ x ∈ (L0, L) :: q, x.1 = x.2 := by
          split at H0
          · exact H0.elim
          · split at H0
            · exact H0.elim
            · split at H0
              · exact H0.elim
              · split at H0
                · exact H0.elim
                · exact (acc_eqs (ga _ _ _ _ _ _ _ _ H0)).1
        have eL : L0 = L := acc0 _ (List.mem_cons_self ..)
        subst eL
        have hq0 : ∀ x ∈ q, x.1 = x.2 := fun x hx => acc0 x (List.mem_cons_of_mem _ hx)
        obtain ⟨FF, FS⟩ := ready_frames (m := m) (h0 := s.heap) (env0 :: outer) 0 hs T [] hr hq0 fun j o e => ⟨(D.own j o e).1, o.slots, by rw [slotsTo_self]; exact (D.own j o e).2⟩
        -- what the run says at the unknowns that are
        have key : ∀ h₁ tl, Heap.SlotsOnly ((env0 :: outer).filterMap (·.frame)) s.heap h₁ → ∃ T2 hs2 q2 oe vs, (∃ v, vs[1]? = some v) ∧ oe.data = .fields ⟨vs⟩ ∧ T2.get ie = some oe ∧ Rep B { s with heap := h₁ } T2 m ads (t0 + i) ∧
            ((T2.ins m (entryO head L0 (.int (.ofNat L0) 0) tl)).get m).isSome = true ∧
            ∀ nv, Good B M R (go hs2 (match fin with
              | true => ((T2.ins m (entryO head L0 (.int (.ofNat L0) 0) tl)).set ie (Obj.mapFields (·.setIfInBounds 1 (.ref (adOf ads m))))).set m (Obj.mapFields (·.setIfInBounds 3 .none))
              | false => (T2.ins m (entryO head L0 (.int (.ofNat L0) 0) tl)).set ie (Obj.mapFields (·.setIfInBounds 1 (.ref (adOf ads m))))) (m + 1) ads t0 i nv (addEqs A q2)) := by
          intro h₁ tl hso
          let ν : Unk := ⟨id, fun k => ((((env0 :: outer)[k]?).bind (·.frame)).bind fun L => (h₁.get? L).map (·.slots)).getD #[], fun _ => tl, fun _ => default⟩
          have H1 : ∀ nv, _ := fun nv => H (scons (0, 0, ν) nv)
          simp only [scons] at H1
          cases hr1 : ready ν 0 (env0 :: outer) hs T ads [] with
          | none => simp only [hr1] at H1; exact (H1 fun _ => (0, 0, unk0)).elim
          | some x =>
            obtain ⟨T2, q2, hs2⟩ := x
            simp only [hr1] at H1
            have H2 := H1 fun _ => (0, 0, unk0)
            cases hg : T2.get ie with
            | none => simp only [hg] at H2; exact H2.elim
            | some oe =>
              simp only [hg] at H1 H2
              cases hre : recOf oe.data with
              | none => simp only [hre] at H2; exact H2.elim
              | some vs =>
                simp only [hre] at H1 H2
                cases hn : nthV vs 1 with
                | none => simp only [hn] at H2; exact H2.elim
                | some v =>
                  simp only [hn] at H1 H2
                  cases hi : (T2.ins m (entryO head L0 (.int (.ofNat L0) 0) tl)).get m with
                  | none => simp only [ν, hi] at H2; exact H2.elim
                  | some oi =>
                    simp only [ν, hi] at H1 H2
                    have hq2 : ∀ x ∈ q2, x.1 = x.2 := fun x hx => (acc_eqs (ga _ _ _ _ _ _ _ _ H2)).1 x (List.mem_cons_of_mem _ hx)
                    have own := ready_own (h1 := h₁) (m := m) D.inj (env0 :: outer) 0 hs T [] hr1 hq2 (fun k env L o hk hf hg => by simp only [ν, Nat.zero_add, hk, Option.bind_some, hf, hg, Option.map_some, Option.getD_some]) fun j o e => by
                      have z := D.own j o e
                      obtain ⟨sl, hsl⟩ := hso.2.2 _ o z.2
                      refine ⟨z.1, sl, hsl, fun hn => ?_⟩
                      rw [hso.2.1 _ hn, z.2] at hsl
                      have := congrArg Obj.slots (Option.some.inj hsl)
                      exact this.symm
                    refine ⟨T2, hs2, _, oe, vs, ⟨v, by rw [← nthV_eq]; exact hn⟩, recOf_some hre, hg, D.slots hso FS own, by rw [hi]; rfl, H1⟩
        refine wpAny_entryNew (by show some (framesOf Γ) = _; rw [hfr]) FF hf0 hf (fun h₁ hso => ?_) (fun h₁ tl hso => ?_)
        · obtain ⟨T2, _, _, oe, vs, ⟨v, hv⟩, hd, hg, D2, _⟩ := key h₁ #[] hso
          exact ⟨oe, ⟨vs⟩, by rw [ha]; exact (D2.own _ _ hg).2, hd, by obtain ⟨h, _⟩ := List.getElem?_eq_some_iff.mp hv; exact h⟩
        · obtain ⟨T2, hs2, q2, oe, vs, ⟨v, hv⟩, hd, hg, D2, hi, H2⟩ := key h₁ tl hso
          have hsz : h₁.objs.size = adOf ads m := D2.size
          have hlt := (D2.own _ _ hg).1
          have D3 := D2.alloc (o := entryO head L0 (.int (.ofNat L0) 0) tl) rfl hi
          have g3 : (T2.ins m (entryO head L0 (.int (.ofNat L0) 0) tl)).get ie = some oe := by rw [BT.get_ins _ _ _ hi, if_neg (Nat.ne_of_lt hlt)]; exact hg
          have g3m : (T2.ins m (entryO head L0 (.int (.ofNat L0) 0) tl)).get m = some (entryO head L0 (.int (.ofNat L0) 0) tl) := by rw [BT.get_ins _ _ _ hi, if_pos rfl]
          have nf : (Obj.mapFields (·.setIfInBounds 1 (.ref (adOf ads m))) oe).isFreed = false := Obj.isFreed_of_fields (Obj.data_mapFields hd _)
          have D4 := D3.update (f := Obj.mapFields (·.setIfInBounds 1 (.ref (adOf ads m)))) g3 nf
          rw [ha, hsz]
          cases fin with
          | false =>
            exact wpAny_theTreesLotGoes (gs _ _ _ _ _ _ _ _ D4 H2)
          | true =>
            have g4 : ((T2.ins m (entryO head L0 (.int (.ofNat L0) 0) tl)).set ie (Obj.mapFields (·.setIfInBounds 1 (.ref (adOf ads m))))).get m = some (entryO head L0 (.int (.ofNat L0) 0) tl) := by
              rw [BT.get_set, if_neg (Nat.ne_of_gt hlt)]; exact g3m
            have g4e : ((T2.ins m (entryO head L0 (.int (.ofNat L0) 0) tl)).set ie (Obj.mapFields (·.setIfInBounds 1 (.ref (adOf ads m))))).get ie = some (Obj.mapFields (·.setIfInBounds 1 (.ref (adOf ads m))) oe) := by
              rw [BT.get_set, if_pos rfl, g3]; rfl
            have D5 := D4.update (f := Obj.mapFields (·.setIfInBounds 3 .none)) g4 rfl
            show wpAny M (inA Γ) (setFlight (.ref (adOf ads ie)) none) _ E _
            unfold setFlight
            refine wpAny_bind (wpAny_field (D4.own _ _ g4e).2 (Obj.data_mapFields hd _) (x := .ref (adOf ads m)) ?_ ?_)
            · obtain ⟨h, _⟩ := List.getElem?_eq_some_iff.mp hv
              simp [h]
            · rw [if_pos (show (Value.ref (adOf ads m) != Value.none) = true from by simp)]
              refine wpAny_setField (D4.own _ _ g4).2 rfl (by simp) ?_
              exact gs _ _ _ _ _ _ _ _ D5 H2
end

section
variable {B : Base} {M : Model} {R : Result → Shared → Prop} {P : Shared → Prop} {go : Run} {E : Value → Shared → Prop}
theorem leave_sound {Γ : Ctx} {env : Env} {fin : Bool} {e : Value} {hs T m ads t0 i A} {s : Shared} (D : Rep B s T m ads (t0 + i))
    (gs : GoOk B M R go P) (ga : GoAcc B M R go) (H : ∀ nv, Good B M R (leave Γ env fin e go hs T m ads t0 i nv A)) : wpAny M (inA Γ) (lvH env fin e) (fun _ => P) E s := by
  have dz : Nv := fun _ => (0, 0, unk0)
  cases e with
  | ref a =>
    simp only [leave] at H
    cases hf : env.frame with
    | none => simp only [hf] at H; exact (H dz).elim
    | some L =>
      simp only [hf] at H
      cases hs with
      | nil => exact (H dz).elim
      | cons ie hs =>
        simp only at H
        cases he : T.get ie with
        | none => simp only [he] at H; exact (H dz).elim
        | some oe =>
          simp only [he] at H
          cases hre : recOf oe.data with
          | none => simp only [hre] at H; exact (H dz).elim
          | some vs =>
            simp only [hre] at H
            have hd := recOf_some hre
            cases hn : nthV vs 1 with
            | none => simp only [hn] at H; exact (H dz).elim
            | some v =>
              have hv : (⟨vs⟩ : Array Value)[1]? = some v := by rw [nthV_eq] at hn; simpa using hn
              have hsz : 1 < vs.length := by rw [nthV_eq] at hn; exact (List.getElem?_eq_some_iff.mp hn).1
              cases v with
              | none =>
                simp only [hn] at H
                obtain ⟨ea, _⟩ := acc_eq (noteNew_acc ga (H dz))
                refine wpAny_lvH ?_
                unfold noteFrame
                simp only [hf]
                refine wpAny_bind (wpAny_field (ea ▸ (D.own _ _ he).2) hd hv ?_)
                rw [if_neg (by decide)]
                exact noteNew_sound D hf ea gs ga H
              | ref tb =>
                simp only [hn] at H
                cases hs with
                | nil => exact (H dz).elim
                | cons it hs =>
                  simp only at H
                  cases ht : T.get it with
                  | none => simp only [ht] at H; exact (H dz).elim
                  | some ot =>
                    simp only [ht] at H
                    cases hrt : recOf ot.data with
                    | none => simp only [hrt] at H; exact (H dz).elim
                    | some ts =>
                      simp only [hrt] at H
                      have hdt := recOf_some hrt
                      cases hnt : nthV ts 3 with
                      | none => simp only [hnt] at H; exact (H dz).elim
                      | some fl =>
                        have hfl : (⟨ts⟩ : Array Value)[3]? = some fl := by rw [nthV_eq] at hnt; simpa using hnt
                        have hszt : 3 < ts.length := by rw [nthV_eq] at hnt; exact (List.getElem?_eq_some_iff.mp hnt).1
                        have nft : (Obj.mapFields (·.setIfInBounds 3 .none) ot).isFreed = false := Obj.isFreed_of_fields (Obj.data_mapFields hdt _)
                        have Dt := D.update (f := Obj.mapFields (·.setIfInBounds 3 .none)) ht nft
                        cases fl with
                        | none =>
                          simp only [hnt] at H
                          have acc := (acc_eqs (noteNew_acc ga (H dz))).1
                          have ea : a = adOf ads ie := acc _ (List.mem_cons_self ..)
                          have et : tb = adOf ads it := acc _ (List.mem_cons_of_mem _ (List.mem_cons_self ..))
                          refine wpAny_lvH ?_
                          unfold noteFrame
                          simp only [hf]
                          refine wpAny_bind (wpAny_field (ea ▸ (D.own _ _ he).2) hd hv ?_)
                          rw [if_pos (show (Value.ref tb != Value.none) = true from by simp)]
                          refine wpAny_bind (wpAny_field (et ▸ (D.own _ _ ht).2) hdt hfl ?_)
                          rw [if_neg (show ¬ ((Value.none == rawInt L) = true) from by simp [rawInt])]
                          refine wpAny_bind (wpAny_setField (et ▸ (D.own _ _ ht).2) hdt (by simpa using hszt) ?_)
                          rw [et]
                          rw [et] at H
                          exact noteNew_sound Dt hf ea gs ga H
                        | int z tk =>
                          cases z with
                          | ofNat L' =>
                            simp only [hnt] at H
                            cases hb : Nat.beq tk 0 with
                            | false => simp only [hb] at H; exact (H dz).elim
                            | true =>
                              simp only [hb] at H
                              have acc := (acc_eqs (ga _ _ _ _ _ _ _ _ (H dz))).1
                              have ea : a = adOf ads ie := acc _ (List.mem_cons_self ..)
                              have et : tb = adOf ads it := acc _ (List.mem_cons_of_mem _ (List.mem_cons_self ..))
                              have eL : L' = L := acc _ (List.mem_cons_of_mem _ (List.mem_cons_of_mem _ (List.mem_cons_self ..)))
                              have ek : tk = 0 := Nat.eq_of_beq_eq_true hb
                              subst eL ek
                              refine wpAny_lvH ?_
                              unfold noteFrame
                              simp only [hf]
                              refine wpAny_bind (wpAny_field (ea ▸ (D.own _ _ he).2) hd hv ?_)
                              rw [if_pos (show (Value.ref tb != Value.none) = true from by simp)]
                              refine wpAny_bind (wpAny_field (et ▸ (D.own _ _ ht).2) hdt hfl ?_)
                              rw [if_pos (show (Value.int (Int.ofNat L') 0 == rawInt L') = true from by simp [rawInt])]
                              refine wpAny_pure ?_
                              cases fin with
                              | false => exact wpAny_theTreesLotGoes (gs _ _ _ _ _ _ _ _ D H)
                              | true =>
                                show wpAny M (inA Γ) (setFlight (.ref a) none) _ E _
                                unfold setFlight
                                refine wpAny_bind (wpAny_field (ea ▸ (D.own _ _ he).2) hd hv ?_)
                                rw [if_pos (show (Value.ref tb != Value.none) = true from by simp)]
                                refine wpAny_setField (et ▸ (D.own _ _ ht).2) hdt (by simpa using hszt) ?_
                                rw [et]
                                exact gs _ _ _ _ _ _ _ _ Dt H
                          | negSucc => simp only [hnt] at H; exact (H dz).elim
                        | _ => simp only [hnt] at H; exact (H dz).elim
              | _ => simp only [hn] at H; exact (H dz).elim
  | _ => exact (H dz).elim
end

/-! ### contracts -/
noncomputable def LeftRep (B : Base) (g : Con) (ν : Unk) (r : Result) (s : Shared) (m : Nat) (ads : Ads) (N t : Nat) : Prop :=
  match g.left ν with
  | ⟨r', T, l⟩ => r = r' ∧ ∀ T' m' ads', putNew ν.n 0 l T m ads = some (T', m', ads') → Rep B s T' m' ((m', N) :: ads') t
noncomputable def ConOk (B : Base) (M : Model) (C : Cfg) : Prop :=
  ∀ (j x : Nat) (Γ : Ctx) (T : BT) (m : Nat) (ads : Ads) (tk : Nat) (s : Shared) (p : Pos) (g : Con), C.con j x Γ Γ.code T ads = some g → Γ = g.gx → (∀ x ∈ g.nq, x.1 = x.2) → (∀ x ∈ g.oq, x.1 = x.2) → g.ob → Rep B s T m ads tk →
    wpCode M Γ (fun r s' => ∃ N t ν, LeftRep B g ν r s' m ads N t) p s

/-- the trees without what is done to a raise -/
noncomputable def LvOk (M : Model) (C : Cfg) : Prop := ∀ c t env fin, C.lvt c = some (t, env, fin) → ∀ Γ Q E p s, Sem.wp M Γ t Q (fun e p' s' => Sem.wp M Γ (lvH env fin e) (fun _ p'' s'' => E e p'' s'') E p' s') p s → Sem.wp M Γ (M.den c) Q E p s
theorem lvTree_ok {prog : Program} {w : World} {C : Cfg} (h : C.lvt = lvTree) : LvOk (model prog w) C := by
  intro c t env fin e Γ Q E p s H
  rw [h] at e
  cases c with
  | func body env' =>
    cases e
    show Sem.wp _ Γ (do
      point
      match ← (execs body env).onRaise (leaving env) with
      | .ret v => ret v
      | _ => ret .none) Q E p s
    rw [Sem.wp_bind'] at H ⊢
    refine Sem.wp_mono _ Γ _ (fun _ p' s' h' => ?_) (fun e p' s' h' => ?_) p s (show Sem.wp _ Γ point (fun _ p' s' => Sem.wp _ Γ (do
      match ← execs body env with
      | .ret v => ret v
      | _ => ret .none) Q _ p' s') (fun e p' s' => E e p' s') p s from H)
    · rw [Sem.wp_bind'] at h' ⊢
      rw [Sem.wp_onRaise]
      refine Sem.wp_mono _ Γ _ (fun f p' s' h'' => ?_) (fun e p' s' h'' => h'') _ _ h'
      cases f <;> exact h''
    · exact h'
  | whileLoop test body orelse env' =>
    cases e
    show Sem.wp _ Γ ((whileTurn test body orelse env).onRaise (fun x => do noteFrame x env; theTreesLotGoes x)) Q E p s
    rw [Sem.wp_onRaise]; exact H
  | forLoop target it body orelse env' =>
    cases e
    show Sem.wp _ Γ ((forTurn target it body orelse env).onRaise (fun x => do noteFrame x env; theTreesLotGoes x)) Q E p s
    rw [Sem.wp_onRaise]; exact H
  | _ => cases e

section
variable {B : Base} {M : Model} {R : Result → Shared → Prop} {C : Cfg} {ih : RunTy} (hden : C.den = M.den) (hprog : C.prog = M.prog) (hw : C.w = M.w) (hkt : C.kt = B.kt) (hcon : ConOk B M C) (hlv : LvOk M C)
  (IA : ∀ Γ p κ t hs T m ads t0 i nv A, Good B M R (ih Γ p κ t hs T m ads t0 i nv A) → AccOk A)
  (IH : ∀ Γ p κ t hs T m ads t0 i A s, Rep B s T m ads (t0 + i) → (∀ nv, Good B M R (ih Γ p κ t hs T m ads t0 i nv A)) → Mean M R κ Γ p t s)
include IH
include IA in
theorem back_sound {r : Result} : ∀ {κ : K} {hs T m ads t0 i A s} (D : Rep B s T m ads (t0 + i)) (H : ∀ nv, Good B M R (back ih r κ hs T m ads t0 i nv A)), post M R κ r s
  | .base, _, _, _, _, _, _, _, s, D, H => (H fun _ => (0, 0, unk0)).2 s D
  | .ret Γ p k κ, _, _, _, _, _, _, _, s, D, H => by
    have z := IH _ _ _ _ _ _ _ _ _ _ _ s D H
    show Sem.wp M Γ (k r) (Sem.finPost M Γ (posts M R κ).2) _ p s
    rw [posts_drop]; exact z
  | .lv Γ env fin κ, _, _, _, _, _, _, _, s, D, H => by
    cases r with
    | ok f => exact back_sound (κ := κ) D H
    | error e =>
      intro p
      exact leave_sound (P := fun s' => post M R κ (.error e) s') (E := fun e' s' => post M R κ (.error e') s') D (fun _ _ _ _ _ _ _ _ D' H' => back_sound (κ := κ) D' H') (fun _ _ _ _ _ _ _ _ h => back_acc IA h) H Γ p (in_inA Γ)
omit IH in
theorem drop_ok {f : Flow} {s : Shared} : ∀ {κ : K}, post M R κ (.ok f) s → post M R (dropK κ) (.ok f) s
  | .base, h => h
  | .ret .., h => h
  | .lv _ _ _ κ, h => drop_ok (κ := κ) h
omit IH in
include hlv in
theorem lv_enter {c : Code} {t : Sem Fin} {env : Env} {fin : Bool} {Γ : Ctx} {κ : K} {p : Pos} {s : Shared} (hk : dropK κ = κ) (hc : Γ.code = c) (e : C.lvt c = some (t, env, fin)) (h : Mean M R (.lv Γ env fin κ) Γ p t s) : wpCode M Γ (post M R κ) p s := by
  have h : Sem.wp M Γ t (Sem.finPost M Γ (post M R (dropK κ))) (fun e _ s' => post M R (.lv Γ env fin κ) (.error e) s') p s := h
  rw [hk] at h
  rw [wpCode_iff_wp, hc]
  refine hlv c t env fin e Γ _ _ p s (Sem.wp_mono _ Γ _ (fun _ _ _ h' => h') (fun e p' s' h' => ?_) p s h)
  exact Sem.wp_mono _ Γ _ (fun _ _ _ h'' => h'') (fun _ _ _ h'' => h'') p' s' (h' p')
omit IH in
include hcon in
theorem after_sound {Q : Result → Shared → Prop} {go : Result → Run} {hs m ads tk A Γ T j x s p} {g : Con}
    (ga : ∀ r hs T m ads t0 i nv A, Good B M R (go r hs T m ads t0 i nv A) → AccOk A)
    (gs : ∀ r hs T m ads t0 i A s, Rep B s T m ads (t0 + i) → (∀ nv, Good B M R (go r hs T m ads t0 i nv A)) → Q r s)
    (e : C.con j x Γ Γ.code T ads = some g) (D : Rep B s T m ads tk) (H : ∀ nv, Good B M R (after go hs m ads nv A Γ g)) : wpCode M Γ Q p s := by
  obtain ⟨⟨h1, h2, h3, h4⟩, _⟩ := acc_con (after_acc ga (H fun _ => (0, 0, unk0)))
  refine wpCode_mono ?_ (hcon j x Γ T m ads tk s p g e h1 h2 h3 h4 D)
  rintro r s' ⟨N, t, ν, h⟩
  unfold LeftRep at h
  have H' : ∀ nv, Good B M R (after go hs m ads (scons (N, t, ν) nv) A Γ g) := fun nv => H _
  unfold after at H'
  simp only [scons] at H'
  cases hl : g.left ν with
  | mk r' T' l =>
    simp only [hl] at h H'
    obtain ⟨rfl, D'⟩ := h
    cases hp : putNew ν.n 0 l T' m ads with
    | none => simp only [hp] at H'; exact (H' fun _ => (0, 0, unk0)).elim
    | some q =>
      obtain ⟨T2, m2, ads2⟩ := q
      simp only [hp] at H'
      exact gs _ _ _ _ _ _ _ _ s' (D' _ _ _ hp) H'
include hden hprog hw hkt hcon hlv IA
theorem sx1_sound {Γ p κ t hs T m ads t0 i A s} (D : Rep B s T m ads (t0 + i)) (H : ∀ nv, Good B M R (sx1 C ih Γ p κ t hs T m ads t0 i nv A)) : Mean M R κ Γ p t s := by
  have dz : Nv := fun _ => (0, 0, unk0)
  cases t with
  | pure f =>
    cases f with
    | done f =>
      show Sem.wp M Γ (Sem.pure (Fin.done f)) _ _ p s
      rw [Sem.wp_pure]
      exact drop_ok (back_sound IA IH D H)
    | again c =>
      show Sem.wp M Γ (Sem.pure (Fin.again c)) _ _ p s
      rw [Sem.wp_pure]
      cases hq : c.quiet with
      | false => simp only [sx1, hq] at H; exact (H dz).elim
      | true =>
        simp only [sx1, hq] at H
        refine ⟨hq, ?_⟩
        cases hs with
        | nil => exact (H dz).elim
        | cons h hs =>
          match h with
          | 0 => exact (wpCode_iff_wp ..).mpr (by have z := IH _ _ _ _ _ _ _ _ _ _ _ s D H; rw [hden] at z; unfold Mean at z; rw [dropK_dropK] at z; exact z)
          | 1 =>
            simp only at H
            cases hk : dropK κ with
            | base => simp only [hk] at H; exact (H dz).2 s D
            | ret => simp only [hk] at H; exact (H dz).elim
            | lv => simp only [hk] at H; exact (H dz).elim
          | j + 2 =>
            simp only at H
            cases hb : Nat.beq j 999 with
            | true =>
              simp only [hb] at H
              cases hl : C.lvt c with
              | none => simp only [hl] at H; exact (H dz).elim
              | some x =>
                obtain ⟨t', env, fin⟩ := x
                simp only [hl] at H
                exact lv_enter hlv (dropK_dropK κ) rfl hl (IH _ _ _ _ _ _ _ _ _ _ _ s D H)
            | false =>
              simp only [hb] at H
              cases hs with
              | nil => exact (H dz).elim
              | cons x hs =>
                simp only at H
                cases hg : C.con j x (Γ.goto c) c T ads with
                | none => simp only [hg] at H; exact (H dz).elim
                | some g =>
                  simp only [hg] at H
                  exact after_sound (go := fun r => back ih r (dropK κ)) (hs := hs) hcon (fun _ _ _ _ _ _ _ _ _ h => back_acc IA h) (fun _ _ _ _ _ _ _ _ _ D' H' => back_sound IA IH D' H') hg D H
  | raise e =>
    show Sem.wp M Γ (Sem.raise e) _ _ p s
    rw [Sem.wp_raise]
    exact back_sound IA IH D H
  | rule tag k => show Sem.wp M Γ (Sem.rule tag k) _ _ p s; rw [Sem.wp_rule]; exact IH _ _ _ _ _ _ _ _ _ _ _ s D H
  | «at» q k => show Sem.wp M Γ (Sem.at q k) _ _ p s; rw [Sem.wp_at]; exact IH _ _ _ _ _ _ _ _ _ _ _ s D H
  | point l k => show Sem.wp M Γ (Sem.point l k) _ _ p s; rw [Sem.wp_point]; exact IH _ _ _ _ _ _ _ _ _ _ _ s D H
  | ask k =>
    show Sem.wp M Γ (Sem.ask k) _ _ p s
    rw [Sem.wp_ask]
    have z := IH _ _ _ _ _ _ _ _ _ _ _ s D H
    rw [hprog, hw] at z
    exact z
  | load a q k =>
    show Sem.wp M Γ (Sem.load a q k) _ _ p s
    rw [Sem.wp_load]
    simp only [sx1] at H
    cases hs with
    | nil => exact (H dz).elim
    | cons h hs =>
      match h with
      | 0 =>
        cases e : C.kt.get a with
        | none => simp only [e] at H; exact (H dz).elim
        | some o =>
          simp only [e] at H
          exact ⟨o, (D.kt a o (hkt ▸ e)).2, IH _ _ _ _ _ _ _ _ _ _ _ s D H⟩
      | j + 1 =>
        simp only at H
        cases e : T.get j with
        | none => simp only [e] at H; exact (H dz).elim
        | some o =>
          simp only [e] at H
          obtain ⟨ha, _⟩ := acc_eq (IA _ _ _ _ _ _ _ _ _ _ _ _ (H dz))
          exact ⟨o, ha ▸ (D.own j o e).2, IH _ _ _ _ _ _ _ _ _ _ _ s D H⟩
  | loadIfAlive a k =>
    show Sem.wp M Γ (Sem.loadIfAlive a k) _ _ p s
    rw [Sem.wp_loadIfAlive]
    simp only [sx1] at H
    cases hs with
    | nil => exact (H dz).elim
    | cons h hs =>
      match h with
      | 0 =>
        cases e : C.kt.get a with
        | none => simp only [e] at H; exact (H dz).elim
        | some o =>
          simp only [e] at H
          rw [(D.kt a o (hkt ▸ e)).2]
          exact IH _ _ _ _ _ _ _ _ _ _ _ s D H
      | j + 1 =>
        simp only at H
        cases e : T.get j with
        | none => simp only [e] at H; exact (H dz).elim
        | some o =>
          simp only [e] at H
          obtain ⟨ha, _⟩ := acc_eq (IA _ _ _ _ _ _ _ _ _ _ _ _ (H dz))
          rw [ha, (D.own j o e).2]
          exact IH _ _ _ _ _ _ _ _ _ _ _ s D H
  | update a q f k =>
    show Sem.wp M Γ (Sem.update a q f k) _ _ p s
    rw [Sem.wp_update]
    simp only [sx1] at H
    cases hs with
    | nil => exact (H dz).elim
    | cons h hs =>
      match h with
      | 0 => exact (H dz).elim
      | j + 1 =>
        simp only at H
        cases e : T.get j with
        | none => simp only [e] at H; exact (H dz).elim
        | some o =>
          simp only [e] at H
          cases hf : (f o).isFreed with
          | true => simp only [hf] at H; exact (H dz).elim
          | false =>
            simp only [hf] at H
            obtain ⟨ha, _⟩ := acc_eq (IA _ _ _ _ _ _ _ _ _ _ _ _ (H dz))
            subst ha
            exact ⟨by rw [(D.own j o e).2]; rfl, IH _ _ _ _ _ _ _ _ _ _ _ _ (D.update e hf) H⟩
  | alloc o k =>
    show Sem.wp M Γ (Sem.alloc o k) _ _ p s
    rw [Sem.wp_alloc]
    simp only [sx1] at H
    cases hf : o.isFreed with
    | true => simp only [hf] at H; exact (H dz).elim
    | false =>
      simp only [hf] at H
      cases e : (T.ins m o).get m with
      | none => simp only [e] at H; exact (H dz).elim
      | some o' =>
        simp only [e] at H
        rw [D.size]
        exact IH _ _ _ _ _ _ _ _ _ _ _ _ (D.alloc hf (by rw [e]; rfl)) H
  | fresh k =>
    show Sem.wp M Γ (Sem.fresh k) _ _ p s
    rw [Sem.wp_fresh, D.toks]
    exact IH _ _ _ _ _ _ _ _ _ _ _ _ (D.toks ▸ D.fresh) H
  | handled own k =>
    show Sem.wp M Γ (Sem.handled own k) _ _ p s
    rw [Sem.wp_handled]
    cases own <;> exact IH _ _ _ _ _ _ _ _ _ _ _ s D H
  | stack k => show Sem.wp M Γ (Sem.stack k) _ _ p s; rw [Sem.wp_stack]; exact IH _ _ _ _ _ _ _ _ _ _ _ s D H
  | call c hd g l k =>
    show Sem.wp M Γ (Sem.call c hd g l k) _ _ p s
    rw [Sem.wp_call]
    simp only [sx1] at H
    cases hs with
    | nil => exact (H dz).elim
    | cons h hs =>
      match h with
      | 0 => exact (wpCode_iff_wp ..).mpr (by have z := IH _ _ _ _ _ _ _ _ _ _ _ s D H; rw [hden] at z; unfold Mean dropK post posts at z; rw [posts_drop] at z; exact z)
      | j + 1 =>
       simp only at H
       cases hb : Nat.beq j 999 with
       | true =>
        simp only [hb] at H
        cases hl : C.lvt c with
        | none => simp only [hl] at H; exact (H dz).elim
        | some x =>
          obtain ⟨t', env, fin⟩ := x
          simp only [hl] at H
          have z := lv_enter hlv rfl rfl hl (IH _ _ _ _ _ _ _ _ _ _ _ s D H)
          unfold post posts at z; rw [posts_drop] at z; exact z
       | false =>
        simp only [hb] at H
        cases hs with
        | nil => exact (H dz).elim
        | cons x hs =>
          simp only at H
          cases hg : C.con j x (Γ.enter c hd p) c T ads with
          | none => simp only [hg] at H; exact (H dz).elim
          | some g =>
            simp only [hg] at H
            exact after_sound (go := fun r => ih Γ p κ (k r)) (hs := hs) hcon (fun _ _ _ _ _ _ _ _ _ h => IA _ _ _ _ _ _ _ _ _ _ _ _ h) (fun _ _ _ _ _ _ _ _ _ D' H' => IH _ _ _ _ _ _ _ _ _ _ _ _ D' H') hg D H
  | unsupported => exact (H dz).elim
  | finish => exact (H dz).elim
  | register => exact (H dz).elim
  | choose => exact (H dz).elim
  | os => exact (H dz).elim
  | newGen => exact (H dz).elim
  | genState => exact (H dz).elim
  | resume => exact (H dz).elim
  | yield => exact (H dz).elim
  | fork => exact (H dz).elim
  | thread => exact (H dz).elim
  | await => exact (H dz).elim
end
theorem sx_sound {B : Base} {M : Model} {R : Result → Shared → Prop} {C : Cfg} (hden : C.den = M.den) (hprog : C.prog = M.prog) (hw : C.w = M.w) (hkt : C.kt = B.kt) (hcon : ConOk B M C) (hlv : LvOk M C) :
    ∀ n Γ p κ t hs T m ads t0 i A s, Rep B s T m ads (t0 + i) → (∀ nv, Good B M R (sx C n Γ p κ t hs T m ads t0 i nv A)) → Mean M R κ Γ p t s
  | 0 => fun _ _ _ _ _ _ _ _ _ _ _ _ _ H => (H fun _ => (0, 0, unk0)).elim
  | n + 1 => fun _ _ _ _ _ _ _ _ _ _ _ _ D H => sx1_sound hden hprog hw hkt hcon hlv (sx_acc n) (sx_sound hden hprog hw hkt hcon hlv n) D H
end
end Mine
end
section
open PySem PySem.W PySem.Spec PySem.Calls PyProof.Rows
namespace Mine
/-! HdLib -/

noncomputable abbrev Γ0 : PySem.Ctx := ⟨.builtin "claim.caller" {}, none, none, [], none⟩

theorem ends_of_wp {prog : Program} {w : World} {t : Sem Fin} {s : Shared} {R : Result → Shared → Prop} (hreg : s.asleep)
    (h : Sem.wp (model prog w) Γ0 t (Sem.finPost (model prog w) Γ0 fun r s' => R r s' ∧ leftWithCleanup s'.gens = false) (fun e _ s' => R (.error e) s' ∧ leftWithCleanup s'.gens = false) default s) :
    ∃ n r s' s'', runN (denote table) prog w n s ⟨t, .builtin "claim.caller" {}, default, []⟩ = .halted (outcomeOf r) s' ∧
      schedN (denote table) prog w n (.single s ⟨t, .builtin "claim.caller" {}, default, []⟩) = .halted (outcomeOf r) s' ∧ s'.forget = s''.forget ∧ R r s'' := by
  obtain ⟨n, r, s₁, s₂, hs, hn, hfo, hR⟩ := wp_halts_full (M := model prog w) (R := R) hreg h
  exact ⟨n, r, s₂, s₁, hn, hs, hfo, hR⟩

theorem callFrom_wp {c : ClaimW} {tree : List Value → Sem Fin} {w : World} {s : Shared} {free : Addr → Prop} {gens : Prop} {kept : Heap → Prop} (hz : s.asleep) (hgens : s.gens = #[])
    (hspec : ∀ args, c.pre args = true → WData.layableAll args = true →
      ∀ ord : List DictEntry → List DictEntry, (∀ l, (ord l).Perm l) →
      ∃ vs s₁, layAllW c.records (classAt s.heap) w.params ord args s = some (vs, s₁) ∧
        Sem.wp (model c.prog w) Γ0 (tree vs) (Sem.finPost (model c.prog w) Γ0 fun r s' => (c.Ends s args vs s₁ r s' ∧ s'.os = s.os ∧ kept s'.heap) ∧ leftWithCleanup s'.gens = false)
          (fun e _ s' => (c.Ends s args vs s₁ (.error e) s' ∧ s'.os = s.os ∧ kept s'.heap) ∧ leftWithCleanup s'.gens = false) default s₁) :
    c.CallFrom (fun vs => ⟨tree vs, .builtin "claim.caller" {}, default, []⟩) w free gens kept s := by
  intro args hpre hlay ord hord
  obtain ⟨vs, s₁, hlaid, hcode⟩ := hspec args hpre hlay ord hord
  have hal := layAllW_rest _ _ _ hlaid
  obtain ⟨k, r, s', s'', hrun, hsched, hfo, hcase, hos, hkp⟩ := ends_of_wp (prog := c.prog) (w := w) (t := tree vs) (s := s₁)
    (R := fun r s' => c.Ends s args vs s₁ r s' ∧ s'.os = s.os ∧ kept s'.heap) (Shared.asleep_of_life hal.2.2.2 hz) hcode
  obtain ⟨eh, _, _, eo, _⟩ := Shared.forget_eq hfo
  have hcase := hcase.congr eh
  have hkp : kept s'.heap := by first | exact eh ▸ hkp | (rw [eh] at hkp; exact hkp) | (rw [← eh] at hkp; exact hkp)
  rw [← eo] at hos
  have hlife : s'.heap.life = s.heap.life := (runN_life _ _ _ hrun).trans hal.2.2.2
  refine ⟨vs, s₁, hlaid, k, _, s', hsched, ?_, (fun _ i x hx => by rw [hgens] at hx; simp at hx), hkp, by rw [hlife], Shared.rest_eq hos⟩
  rcases hcase with ⟨v, rfl, d1, d2, d3, d4, d5⟩ | ⟨e, ob, cls, rfl, d1, d2, d3, d4, d5⟩
  · exact .inl ⟨v, rfl, d1, d2, d3, fun b o y _ => d4 b o y, d5⟩
  · exact .inr ⟨e, ob, cls, rfl, d1, d2, d3, d4, fun b o y _ => d5 b o y⟩

/-- a law's row from its head and its walk at the claim's own context -/
theorem holds_wp {r : OpenRow} {q : Program} {loose : List Str} {Xt : Shared → Bool} {XP : (Str → Option Value) → Heap → Prop} {α : Type} {Yf : Shared → α} {Ya : World → α} {d : DefRec} {kwd : List (Str × Expr)} {N : Nat}
    (left : LeftO r.prog q loose Xt Yf Ya N)
    (hX : ∀ s, Xt s = true → XP (s.heap.nsMap mainGlobals) s.heap) (hXk : ∀ mg h h', XP mg h → (∀ b o, h.get? b = some o → h'.get? b = some o) → XP mg h')
    (hdef : defOf q r.name = some (d, kwd)) (hp : r.prog.theDef r.name = some (d.params, d.body, d.scope)) (hk : kwWritten? d.params.kwonlyargs d.params.kw_defaults = some kwd) (hRf : ∀ s, Xt s = true → RecFacts r.records s.heap) (hwr : (!r.writes || r.records.isEmpty) = true)
    (k1 : r.wellSaid = true) (ok : (chainsOk q && opensWell r.prog && (frees r.toRowW && r.within.isEmpty)) = true) (hb : r.prog.bare) (hw : r.toRowW.promised)
    (call : ∀ (w : World) (s₀ s₁ : Shared) (mg : Str → Option Value), Yf s₀ = Ya w → s₁.heap.Ns mainGlobals mg → ∀ (a : Addr), mg r.name = some (.ref a) → ∀ (args : List WData) (vs : List Value) (as : List Addr),
      r.toRowW.claim.pre args = true → WData.layableAll args = true → Laid r.toRowW.records w s₀ s₁ args vs as → s₁.gens = #[] →
        Sem.wp (model r.prog w) Γ0 (do ret (← PySem.call (.ref a) vs)) (Sem.finPost (model r.prog w) Γ0 fun res s' => GoodWG r.toRowW.claim (classAt s₀.heap) (ExcName.means s₀.heap) args s₁ res s')
          (fun e _ s' => GoodWG r.toRowW.claim (classAt s₀.heap) (ExcName.means s₀.heap) args s₁ (.error e) s') default s₁) : r.Holds := by
  obtain ⟨ok, k5⟩ := Bool.and_eq_true_iff.mp ok
  obtain ⟨hch, o1⟩ := Bool.and_eq_true_iff.mp ok
  obtain ⟨k5, k6⟩ := Bool.and_eq_true_iff.mp k5
  obtain ⟨hsame, hu, ha, hap, hm⟩ := frees_parts k5
  refine ⟨k1, hw, ⟨hb, o1, by show r.toRowW.makers.map _ = []; rw [hm]; rfl⟩, hw.witness, fun w => ⟨(left.behind hX hch w).1, fun s' hs' => ?_⟩⟩
  obtain ⟨s₀, hf, hg0, s, hT, hz, hgens, hg, G00, y⟩ := (left.behind (XP := fun mg h => XP mg h ∧ RecFacts r.toRowW.records h) (fun s hs => ⟨hX s hs, hRf s hs⟩) hch w).2 s' hs'
  have G0 : Ground q loose [] XP w s (s.heap.nsMap mainGlobals) (s.heap.nsMap builtinsNs) s.heap := ⟨G00.T, G00.B, G00.D, G00.TE, G00.TD, G00.W, G00.X.1, G00.cls, G00.has, G00.apart, G00.once, G00.K⟩
  have RF := G00.X.2
  have hT' := hT
  refine ⟨s₀, hf, hg0, s, hT, (fun n hn => ?_), RF.1, RF.2.1, ?_⟩
  · obtain rfl : n = r.name := by split at hn <;> simp_all
    exact pinned_of_view hg G0 hdef hp hk
  have hgens : s.gens = #[] := Array.eq_empty_of_size_eq_zero (beq_iff_eq.mp hgens)
  have G : Ground q loose r.toRowW.records XP w s _ _ s.heap := RF.ground G0
  refine callFrom_wp (c := r.toRowW.claim) (tree := fun vs => do match ← nsGet mainNs r.name with
      | some f => do ret (← PySem.call f vs)
      | none => unsupported "claim.caller:no-such-global") hz hgens fun args hpre hlay ord hord => ?_
  obtain ⟨⟨vs, s₁⟩, hlaid⟩ := Option.isSome_iff_exists.mp (layAllW_isSome (P := w.params) (ord := ord) G.has args r.toRowW.args s (pre_splitW hpre).1)
  have keeps := layAllW_keeps _ _ _ hlaid
  have hal := layAllW_rest _ _ _ hlaid
  obtain ⟨as, hrd, hin, hold⟩ := reads_layAllW hord _ _ _ hlaid hlay s₁.heap (fun _ _ e => e)
  have L : Laid r.toRowW.records w s s₁ args vs as := ⟨⟨ord, hord, hlaid⟩, hrd, hin, hold, keeps, hal.1.trans hgens, hal.2.2.1⟩
  have G₁ := G.keeps hXk keeps
  obtain ⟨a, o, pm, cd, doc, dV, kV, h1, h2, h3, h4, h5⟩ := G₁.fn hdef
  have hi := ident_freeW hu ha hap
  have hwi : r.toRowW.claim.within = [] := List.isEmpty_iff.mp k6
  have hc := call w s s₁ _ y G₁.T.g a h1 args vs as hpre hlay L L.gens
  refine ⟨vs, s₁, hlaid, ?_⟩
  have goodEnd : ∀ res s', GoodWG r.toRowW.claim (classAt s.heap) (ExcName.means s.heap) args s₁ res s' →
      (r.toRowW.claim.Ends s args vs s₁ res s' ∧ s'.os = s.os ∧ (r.writes = true → namesKept r.toRowW.claim.prog r.keeps s.heap s'.heap ∧ ∀ x ∈ r.toRowW.claim.records, ∀ a, classAt s.heap x.1 = some a → recordClass s'.heap a x.1 (x.2.map (·.1)) = true)) ∧ leftWithCleanup s'.gens = false := by
    intro res s' g
    have z := g.laid (c := r.toRowW.claim) hsame hwi hi L
    exact ⟨⟨z.1, z.2.1, fun q => ⟨namesKept_of hT' hg r.keeps keeps g.2.1.old, noTable hwr q⟩⟩, leftWithCleanup_false_of_bare z.2.2⟩
  have G1g : s₁.heap.Ns mainNs (s.heap.nsMap mainGlobals) := G₁.T.g
  rw [Sem.wp_bind', Sem.wp_nsGet _ _ _ _ _ G1g, show (s.heap.nsMap mainGlobals) r.name = some (.ref a) from h1]
  refine Sem.wp_mono _ _ _ (fun fin p' s' h => ?_) (fun e p' s' h => goodEnd _ _ h) _ _ hc
  cases fin with
  | done f => exact goodEnd _ _ h
  | again c => exact ⟨h.1, wpCode_mono goodEnd h.2⟩
end Mine
end
section
open PySem PySem.W PySem.Calls PyProof.Rows
namespace Mine
/-! HdT -/

/-! ### the head's run over a tree -/
noncomputable def impT (den : Code → Sem Fin) (p : Program) (w : World) : Nat → SharedT → Thread → Option SharedT
  | 0, _, _ => none
  | n + 1, s, t => match t.atExitBegin with
    | some [] => some s
    | some (_ :: _) => none
    | none => match stepT den p w s t with
      | some r => impT den p w n r.1 r.2
      | none => none
noncomputable def topT (den : Code → Sem Fin) (p : Program) (w : World) (n₀ : Nat) (ann : Option Value) : Nat → SharedT → Thread → Option SharedT
  | 0, _, _ => none
  | n + 1, s, t => match through t with
    | true => some s
    | false => match stepOk n₀ ann t with
      | false => none
      | true => match stepT den p w s t with
        | some r => topT den p w n₀ ann n r.1 r.2
        | none => none
theorem impT_of {tb : String → Option Builtin} {p : Program} {w : World} : ∀ {n : Nat} {s s' : SharedT} {t : Thread}, impT (denote tb) p w n s t = some s' → importEnds tb p w n s.abs t = some s'.abs
  | 0, _, _, _, h => by cases h
  | n + 1, s, s', t, h => by
    unfold impT at h
    unfold importEnds
    cases he : t.atExitBegin with
    | some x =>
      rw [he] at h
      cases x with
      | nil => cases h; rfl
      | cons => cases h
    | none =>
      rw [he] at h
      cases hs : stepT (denote tb) p w s t with
      | none => rw [hs] at h; cases h
      | some r => rw [hs] at h; dsimp only; rw [stepT_spec (s' := r.1) (t' := r.2) hs]; exact impT_of h
theorem topT_of {tb : String → Option Builtin} {p : Program} {w : World} {n₀ : Nat} {ann : Option Value} : ∀ {n : Nat} {s s' : SharedT} {t : Thread}, topT (denote tb) p w n₀ ann n s t = some s' → topRun tb p w n₀ ann n s.abs t = some s'.abs
  | 0, _, _, _, h => by cases h
  | n + 1, s, s', t, h => by
    unfold topT at h
    unfold topRun
    cases he : through t with
    | true => rw [he] at h; cases h; rfl
    | false =>
      rw [he] at h
      cases hk : stepOk n₀ ann t with
      | false => rw [hk] at h; cases h
      | true =>
        rw [hk] at h
        cases hs : stepT (denote tb) p w s t with
        | none => rw [hs] at h; cases h
        | some r => rw [hs] at h; dsimp only; rw [stepT_spec (s' := r.1) (t' := r.2) hs]; exact topT_of h

/-- a list as a tree -/
noncomputable def treeOf : Nat → List Obj → BT → BT
  | _, [], t => t
  | i, o :: l, t => treeOf (i + 1) l (t.ins i o)
noncomputable def toT (s : Shared) : SharedT := ⟨treeOf 0 s.heap.objs.toList .nil, s.heap.objs.size, s.heap.life, s.gens, s.drawn, s.toks, s.os⟩
structure HdOut where
  s0 : Shared
  s1 : SharedT
noncomputable def headT (den : Code → Sem Fin) (p : Program) (w : World) (N : Nat) : Option HdOut :=
  match impT den (opening p) w N (toT (start (opening p)).1) (start (opening p)).2 with
  | none => none
  | some sT => match fenceModules? p sT.abs with
    | none => none
    | some s0 => match topT den p w s0.heap.objs.size (s0.heap.nsMap mainGlobals "__annotations__") N (toT s0) (topStub p) with
      | none => none
      | some s1 => some ⟨s0, s1⟩

noncomputable def Full (t : BT) (n : Nat) : Prop := ∀ j, (t.get j).isSome = decide (j < n)
theorem full_ins (o : Obj) : ∀ (t : BT) (n : Nat), Full t n → ((t.ins n o).get n).isSome = true
  | .nil, n, h => by
    have h0 : n = 0 := by
      have := h 0
      rw [show (BT.nil.get 0).isSome = false from rfl] at this
      have := of_decide_eq_false this.symm
      omega
    subst h0; rfl
  | .node v l r, n, h => by
    rw [BT.ins_node]
    by_cases h0 : n = 0
    · exfalso
      have := h 0
      rw [BT.get_node, if_pos rfl, h0] at this
      simp at this
    · rw [if_neg h0]
      by_cases p : n % 2 = 1
      · rw [if_pos p, BT.get_node, if_neg h0, if_pos p]
        refine full_ins o l (n / 2) fun j => ?_
        have := h (2 * j + 1)
        rw [BT.get_node, if_neg (Nat.succ_ne_zero _), if_pos (Nat.mul_add_mod 2 j 1), show (2 * j + 1) / 2 = j from Nat.mul_add_div (by decide) j 1] at this
        rw [this]
        exact decide_eq_decide.mpr (by omega)
      · rw [if_neg p, BT.get_node, if_neg h0, if_neg p]
        refine full_ins o r (n / 2 - 1) fun j => ?_
        have := h (2 * j + 2)
        rw [BT.get_node, if_neg (Nat.succ_ne_zero _), if_neg (fun z => absurd ((Nat.mul_add_mod 2 j 2).symm.trans z) (by decide)), show (2 * j + 2) / 2 - 1 = j from congrArg (· - 1) (Nat.mul_add_div (by decide) j 2)] at this
        rw [this]
        exact decide_eq_decide.mpr (by omega)
theorem treeOf_get : ∀ (l : List Obj) (i : Nat) (t : BT), Full t i → ∀ j, (treeOf i l t).get j = if j < i then t.get j else l[j - i]?
  | [], i, t, h, j => by
    show t.get j = _
    by_cases q : j < i
    · rw [if_pos q]
    · rw [if_neg q]
      have := h j
      rw [decide_eq_false q] at this
      simp only [List.getElem?_nil]
      exact Option.isNone_iff_eq_none.mp (by simpa using this)
  | o :: l, i, t, h, j => by
    have hg := full_ins o t i h
    have hf : Full (t.ins i o) (i + 1) := fun k => by
      rw [BT.get_ins o t i hg]
      by_cases e : k = i
      · rw [if_pos e, decide_eq_true (e ▸ Nat.lt_succ_self i)]; rfl
      · rw [if_neg e, h k]
        exact decide_eq_decide.mpr ⟨Nat.lt_succ_of_lt, fun z => Nat.lt_of_le_of_ne (Nat.le_of_lt_succ z) e⟩
    show (treeOf (i + 1) l (t.ins i o)).get j = _
    rw [treeOf_get l (i + 1) _ hf, BT.get_ins o t i hg]
    by_cases q : j < i
    · rw [if_pos q, if_pos (by omega), if_neg (by omega)]
    · rw [if_neg q]
      by_cases e : j = i
      · subst e; rw [if_pos (by omega), if_pos rfl, Nat.sub_self]; rfl
      · rw [if_neg (by omega), show j - i = (j - (i + 1)) + 1 by omega]; rfl
theorem toT_abs (s : Shared) : (toT s).abs = s := by
  obtain ⟨⟨⟨l⟩, life⟩, gens, d, t, os⟩ := s
  have e : absHeap (treeOf 0 l .nil) l.length life = ⟨⟨l⟩, life⟩ := by
    have : (absHeap (treeOf 0 l .nil) l.length life).objs = ⟨l⟩ := by
      apply Array.ext_getElem?
      intro i
      rw [absHeap_at, treeOf_get l 0 .nil (fun j => by simp [BT.get]), if_neg (Nat.not_lt_zero _), Nat.sub_zero]
      by_cases q : i < l.length
      · rw [if_pos q]
        simp [List.getElem?_eq_getElem q]
      · rw [if_neg q]
        simp [List.getElem?_eq_none (Nat.le_of_not_lt q)]
    show Heap.mk _ _ = Heap.mk _ _
    exact congrArg (Heap.mk · life) this
  show Shared.mk (absHeap (treeOf 0 l .nil) l.length life) gens d t os = _
  rw [e]

theorem left_of_eval {p q : Program} {loose : List Str} {Xt : Shared → Bool} {α : Type} {Yf : Shared → α} {Ya : World → α} {N : Nat}
    (h : ∀ w : World, (headT (denote treeTable) p w N).map (fun x => (x.s0.heap.isNs mainGlobals && x.s0.gens.size == 0 && (staticsOk (importedModules p.main.body) x.s0.heap x.s1.abs.heap && namesBound p x.s1.abs.heap && gensDone x.s1.abs && laidKept x.s0.heap x.s1.abs.heap),
      openSeen q loose (importedModules p.main.body) Xt true x.s1.abs, Yf x.s1.abs)) = some (true, openGood q loose, Ya w)) : LeftO p q loose Xt Yf Ya N := fun w => by
  obtain ⟨x, hx, e⟩ := Option.map_eq_some_iff.mp (h w)
  obtain ⟨e1, e2⟩ := Prod.mk.inj e
  obtain ⟨e2, e3⟩ := Prod.mk.inj e2
  obtain ⟨e0, e1⟩ := Bool.and_eq_true_iff.mp e1
  unfold headT at hx
  cases h1 : impT (denote treeTable) (opening p) w N (toT (start (opening p)).1) (start (opening p)).2 with
  | none => rw [h1] at hx; cases hx
  | some sT =>
    rw [h1] at hx
    dsimp only at hx
    cases h2 : fenceModules? p sT.abs with
    | none => rw [h2] at hx; cases hx
    | some s0 =>
      rw [h2] at hx
      dsimp only at hx
      cases h3 : topT (denote treeTable) p w s0.heap.objs.size (s0.heap.nsMap mainGlobals "__annotations__") N (toT s0) (topStub p) with
      | none => rw [h3] at hx; cases hx
      | some s1 =>
        rw [h3] at hx
        cases hx
        have z1 := impT_of h1
        rw [toT_abs] at z1
        have z3 := topT_of h3
        rw [toT_abs] at z3
        have f : topFrom treeTable p w N s0 = some s1.abs := by
          unfold topFrom
          rw [e0, z3]
          show (match staticsOk (importedModules p.main.body) s0.heap s1.abs.heap && namesBound p s1.abs.heap && gensDone s1.abs && laidKept s0.heap s1.abs.heap with | true => _ | false => _) = _
          rw [e1]
        have o : openEnds treeTable p w N = some s1.abs := by
          unfold openEnds fencedOpening
          rw [z1]
          show (Option.bind (fenceModules? p sT.abs) _) = _
          rw [h2]
          exact f
        rw [o]
        exact congrArg some (Prod.ext e2 e3)
/-! HdK -/
/-! ### reading the program's text -/
noncomputable def nthS : Nat → List Stmt → Stmt
  | 0, s :: _ => s
  | n + 1, _ :: r => nthS n r
  | _, [] => .Pass default
noncomputable def clsB : Stmt → List Stmt
  | .ClassDef _ _ _ b _ _ _ _ _ _ _ => b
  | _ => []
noncomputable def fnP : Stmt → Arguments
  | .FunctionDef _ a _ _ _ _ _ _ _ _ => a
  | _ => ⟨[], [], none, [], [], none, []⟩
noncomputable def fnB : Stmt → List Stmt
  | .FunctionDef _ _ b _ _ _ _ _ _ _ => b
  | _ => []
noncomputable def fnS : Stmt → Scope
  | .FunctionDef _ _ _ _ _ _ s _ _ _ => s
  | _ => default
noncomputable def lastS : List Stmt → List Stmt
  | [] => []
  | [s] => [s]
  | _ :: r => lastS r
noncomputable def lawView (p : Program) : Program := { p with main := { p.main with body := lastS p.main.body } }
noncomputable def obsK (as : List Nat) (s : Shared) : List (Option Obj) × Nat × Nat := (as.map s.heap.get?, s.heap.objs.size, s.toks)
noncomputable def anyX : Shared → Bool := fun _ => true
noncomputable def hdLook (p : Program) (loose : List Str) (as : List Nat) (x : HdOut) :=
  (x.s0.heap.isNs mainGlobals && x.s0.gens.size == 0 && (staticsOk (importedModules p.main.body) x.s0.heap x.s1.abs.heap && namesBound p x.s1.abs.heap && gensDone x.s1.abs && laidKept x.s0.heap x.s1.abs.heap),
      openSeen (lawView p) loose (importedModules p.main.body) anyX true x.s1.abs, obsK as x.s1.abs)
noncomputable def hdGood (p : Program) (loose : List Str) := openGood (lawView p) loose
noncomputable def hdVal (K : Params → Frag) (n t : Nat) (w : World) : List (Option Obj) × Nat × Nat := ((K w.params).map fun x => some x.2, n, t)
end Mine
end
section -- HdA01
open PySem PySem.W PySem.Calls PyProof.Rows
lay_quick Mine.headT Mine.hdLook Mine.hdGood
namespace Mine
namespace T01
/-! the objects of the top that the walk meets (written by a small program of ours) -/
noncomputable abbrev F : Program := PySem.Challenge.pw_op0182_01
noncomputable def o0 (P : Params) : Obj := ⟨(.type SL.s14018661285674007319x4), none, (.dict ⟨[⟨PyData.keyHash P ⟨⟨[95, 95, 110, 97, 109, 101, 95, 95]⟩⟩, (.str ⟨⟨[95, 95, 110, 97, 109, 101, 95, 95]⟩⟩ 1), (.str ⟨⟨[98, 117, 105, 108, 116, 105, 110, 115]⟩⟩ 160)⟩,
    ⟨PyData.keyHash P ⟨⟨[95, 95, 100, 111, 99, 95, 95]⟩⟩, (.str ⟨⟨[95, 95, 100, 111, 99, 95, 95]⟩⟩ 2), (.builtin "builtins.__doc__:str#opaque")⟩,
    ⟨PyData.keyHash P ⟨⟨[95, 95, 112, 97, 99, 107, 97, 103, 101, 95, 95]⟩⟩, (.str ⟨⟨[95, 95, 112, 97, 99, 107, 97, 103, 101, 95, 95]⟩⟩ 3), (.builtin "builtins.__package__:str#opaque")⟩,
    ⟨PyData.keyHash P ⟨⟨[95, 95, 108, 111, 97, 100, 101, 114, 95, 95]⟩⟩, (.str ⟨⟨[95, 95, 108, 111, 97, 100, 101, 114, 95, 95]⟩⟩ 4), (.builtin "builtins.__loader__:shared#opaque")⟩,
    ⟨PyData.keyHash P ⟨⟨[95, 95, 115, 112, 101, 99, 95, 95]⟩⟩, (.str ⟨⟨[95, 95, 115, 112, 101, 99, 95, 95]⟩⟩ 5), (.builtin SL.s11665532747177232413x24)⟩,
    ⟨PyData.keyHash P ⟨⟨[95, 95, 98, 117, 105, 108, 100, 95, 99, 108, 97, 115, 115, 95, 95]⟩⟩, (.str ⟨⟨[95, 95, 98, 117, 105, 108, 100, 95, 99, 108, 97, 115, 115, 95, 95]⟩⟩ 6), (.builtin SL.s15183661809925369436x15)⟩,
    ⟨PyData.keyHash P ⟨⟨[95, 95, 105, 109, 112, 111, 114, 116, 95, 95]⟩⟩, (.str ⟨⟨[95, 95, 105, 109, 112, 111, 114, 116, 95, 95]⟩⟩ 7), (.builtin SL.s13915890719876406383x10)⟩,
    ⟨PyData.keyHash P ⟨⟨[97, 98, 115]⟩⟩, (.str ⟨⟨[97, 98, 115]⟩⟩ 8), (.builtin SL.s13459172003223722735x3)⟩,
    ⟨PyData.keyHash P ⟨⟨[97, 108, 108]⟩⟩, (.str ⟨⟨[97, 108, 108]⟩⟩ 9), (.builtin SL.s10557405761357834076x3)⟩,
    ⟨PyData.keyHash P ⟨⟨[97, 110, 121]⟩⟩, (.str ⟨⟨[97, 110, 121]⟩⟩ 10), (.builtin SL.s4233737765568776869x3)⟩,
    ⟨PyData.keyHash P ⟨⟨[97, 115, 99, 105, 105]⟩⟩, (.str ⟨⟨[97, 115, 99, 105, 105]⟩⟩ 11), (.builtin SL.s2508922471967985374x5)⟩,
    ⟨PyData.keyHash P ⟨⟨[98, 105, 110]⟩⟩, (.str ⟨⟨[98, 105, 110]⟩⟩ 12), (.builtin SL.s15574269061696679450x3)⟩,
    ⟨PyData.keyHash P ⟨⟨[98, 114, 101, 97, 107, 112, 111, 105, 110, 116]⟩⟩, (.str ⟨⟨[98, 114, 101, 97, 107, 112, 111, 105, 110, 116]⟩⟩ 13), (.builtin SL.s6016482663378992977x10)⟩,
    ⟨PyData.keyHash P ⟨⟨[99, 97, 108, 108, 97, 98, 108, 101]⟩⟩, (.str ⟨⟨[99, 97, 108, 108, 97, 98, 108, 101]⟩⟩ 14), (.builtin SL.s5596568736180474577x8)⟩,
    ⟨PyData.keyHash P ⟨⟨[99, 104, 114]⟩⟩, (.str ⟨⟨[99, 104, 114]⟩⟩ 15), (.builtin SL.s2839554839881490554x3)⟩,
    ⟨PyData.keyHash P ⟨⟨[99, 111, 109, 112, 105, 108, 101]⟩⟩, (.str ⟨⟨[99, 111, 109, 112, 105, 108, 101]⟩⟩ 16), (.builtin SL.s725004073602090463x7)⟩,
    ⟨PyData.keyHash P ⟨⟨[100, 101, 108, 97, 116, 116, 114]⟩⟩, (.str ⟨⟨[100, 101, 108, 97, 116, 116, 114]⟩⟩ 17), (.builtin SL.s9436932552931045734x7)⟩,
    ⟨PyData.keyHash P ⟨⟨[100, 105, 114]⟩⟩, (.str ⟨⟨[100, 105, 114]⟩⟩ 18), (.builtin SL.s2754603736356183583x3)⟩,
    ⟨PyData.keyHash P ⟨⟨[100, 105, 118, 109, 111, 100]⟩⟩, (.str ⟨⟨[100, 105, 118, 109, 111, 100]⟩⟩ 19), (.builtin SL.s15185746759980889043x6)⟩,
    ⟨PyData.keyHash P ⟨⟨[101, 118, 97, 108]⟩⟩, (.str ⟨⟨[101, 118, 97, 108]⟩⟩ 20), (.builtin SL.s8192189862530294059x4)⟩,
    ⟨PyData.keyHash P ⟨⟨[101, 120, 101, 99]⟩⟩, (.str ⟨⟨[101, 120, 101, 99]⟩⟩ 21), (.builtin SL.s7038307821325472102x4)⟩,
    ⟨PyData.keyHash P ⟨⟨[102, 111, 114, 109, 97, 116]⟩⟩, (.str ⟨⟨[102, 111, 114, 109, 97, 116]⟩⟩ 22), (.builtin SL.s5662562618415449548x6)⟩,
    ⟨PyData.keyHash P ⟨⟨[103, 101, 116, 97, 116, 116, 114]⟩⟩, (.str ⟨⟨[103, 101, 116, 97, 116, 116, 114]⟩⟩ 23), (.builtin SL.s15281542589158584767x7)⟩,
    ⟨PyData.keyHash P ⟨⟨[103, 108, 111, 98, 97, 108, 115]⟩⟩, (.str ⟨⟨[103, 108, 111, 98, 97, 108, 115]⟩⟩ 24), (.builtin SL.s17651547275483570877x7)⟩,
    ⟨PyData.keyHash P ⟨⟨[104, 97, 115, 97, 116, 116, 114]⟩⟩, (.str ⟨⟨[104, 97, 115, 97, 116, 116, 114]⟩⟩ 25), (.builtin SL.s4036449017235975746x7)⟩,
    ⟨PyData.keyHash P ⟨⟨[104, 97, 115, 104]⟩⟩, (.str ⟨⟨[104, 97, 115, 104]⟩⟩ 26), (.builtin SL.s8879979712987360175x4)⟩,
    ⟨PyData.keyHash P ⟨⟨[104, 101, 120]⟩⟩, (.str ⟨⟨[104, 101, 120]⟩⟩ 27), (.builtin SL.s1801250619170735830x3)⟩,
    ⟨PyData.keyHash P ⟨⟨[105, 100]⟩⟩, (.str ⟨⟨[105, 100]⟩⟩ 28), (.builtin SL.s17659931425627118568x2)⟩,
    ⟨PyData.keyHash P ⟨⟨[105, 110, 112, 117, 116]⟩⟩, (.str ⟨⟨[105, 110, 112, 117, 116]⟩⟩ 29), (.builtin SL.s6063217899685152688x5)⟩,
    ⟨PyData.keyHash P ⟨⟨[105, 115, 105, 110, 115, 116, 97, 110, 99, 101]⟩⟩, (.str ⟨⟨[105, 115, 105, 110, 115, 116, 97, 110, 99, 101]⟩⟩ 30), (.builtin SL.s8008927332132565319x10)⟩,
    ⟨PyData.keyHash P ⟨⟨[105, 115, 115, 117, 98, 99, 108, 97, 115, 115]⟩⟩, (.str ⟨⟨[105, 115, 115, 117, 98, 99, 108, 97, 115, 115]⟩⟩ 31), (.builtin SL.s3544116645089599534x10)⟩,
    ⟨PyData.keyHash P ⟨⟨[105, 116, 101, 114]⟩⟩, (.str ⟨⟨[105, 116, 101, 114]⟩⟩ 32), (.builtin SL.s13761710972054866084x4)⟩,
    ⟨PyData.keyHash P ⟨⟨[97, 105, 116, 101, 114]⟩⟩, (.str ⟨⟨[97, 105, 116, 101, 114]⟩⟩ 33), (.builtin SL.s12896375587409280029x5)⟩,
    ⟨PyData.keyHash P ⟨⟨[108, 101, 110]⟩⟩, (.str ⟨⟨[108, 101, 110]⟩⟩ 34), (.builtin SL.s13014049009108672802x3)⟩,
    ⟨PyData.keyHash P ⟨⟨[108, 111, 99, 97, 108, 115]⟩⟩, (.str ⟨⟨[108, 111, 99, 97, 108, 115]⟩⟩ 35), (.builtin SL.s13935586738268321596x6)⟩,
    ⟨PyData.keyHash P ⟨⟨[109, 97, 120]⟩⟩, (.str ⟨⟨[109, 97, 120]⟩⟩ 36), (.builtin SL.s8200498257699607233x3)⟩,
    ⟨PyData.keyHash P ⟨⟨[109, 105, 110]⟩⟩, (.str ⟨⟨[109, 105, 110]⟩⟩ 37), (.builtin SL.s14114244577727609259x3)⟩,
    ⟨PyData.keyHash P ⟨⟨[110, 101, 120, 116]⟩⟩, (.str ⟨⟨[110, 101, 120, 116]⟩⟩ 38), (.builtin SL.s1499430450269397089x4)⟩,
    ⟨PyData.keyHash P ⟨⟨[97, 110, 101, 120, 116]⟩⟩, (.str ⟨⟨[97, 110, 101, 120, 116]⟩⟩ 39), (.builtin SL.s8755793994789770505x5)⟩,
    ⟨PyData.keyHash P ⟨⟨[111, 99, 116]⟩⟩, (.str ⟨⟨[111, 99, 116]⟩⟩ 40), (.builtin SL.s15725212667919936108x3)⟩,
    ⟨PyData.keyHash P ⟨⟨[111, 114, 100]⟩⟩, (.str ⟨⟨[111, 114, 100]⟩⟩ 41), (.builtin SL.s15791221867095933363x3)⟩,
    ⟨PyData.keyHash P ⟨⟨[112, 111, 119]⟩⟩, (.str ⟨⟨[112, 111, 119]⟩⟩ 42), (.builtin SL.s81309575031448614x3)⟩,
    ⟨PyData.keyHash P ⟨⟨[112, 114, 105, 110, 116]⟩⟩, (.str ⟨⟨[112, 114, 105, 110, 116]⟩⟩ 43), (.builtin SL.s8069831620301644142x5)⟩,
    ⟨PyData.keyHash P ⟨⟨[114, 101, 112, 114]⟩⟩, (.str ⟨⟨[114, 101, 112, 114]⟩⟩ 44), (.builtin SL.s10061844253413749634x4)⟩,
    ⟨PyData.keyHash P ⟨⟨[114, 111, 117, 110, 100]⟩⟩, (.str ⟨⟨[114, 111, 117, 110, 100]⟩⟩ 45), (.builtin SL.s9496514870978017513x5)⟩,
    ⟨PyData.keyHash P ⟨⟨[115, 101, 116, 97, 116, 116, 114]⟩⟩, (.str ⟨⟨[115, 101, 116, 97, 116, 116, 114]⟩⟩ 46), (.builtin SL.s8899691144933366716x7)⟩,
    ⟨PyData.keyHash P ⟨⟨[115, 111, 114, 116, 101, 100]⟩⟩, (.str ⟨⟨[115, 111, 114, 116, 101, 100]⟩⟩ 47), (.builtin SL.s15201008993051130160x6)⟩,
    ⟨PyData.keyHash P ⟨⟨[115, 117, 109]⟩⟩, (.str ⟨⟨[115, 117, 109]⟩⟩ 48), (.builtin SL.s741896355592496720x3)⟩,
    ⟨PyData.keyHash P ⟨⟨[118, 97, 114, 115]⟩⟩, (.str ⟨⟨[118, 97, 114, 115]⟩⟩ 49), (.builtin SL.s17925004256654032244x4)⟩,
    ⟨PyData.keyHash P ⟨⟨[78, 111, 110, 101]⟩⟩, (.str ⟨⟨[78, 111, 110, 101]⟩⟩ 50), .none⟩,
    ⟨PyData.keyHash P ⟨⟨[69, 108, 108, 105, 112, 115, 105, 115]⟩⟩, (.str ⟨⟨[69, 108, 108, 105, 112, 115, 105, 115]⟩⟩ 51), .ellipsis⟩,
    ⟨PyData.keyHash P ⟨⟨[78, 111, 116, 73, 109, 112, 108, 101, 109, 101, 110, 116, 101, 100]⟩⟩, (.str ⟨⟨[78, 111, 116, 73, 109, 112, 108, 101, 109, 101, 110, 116, 101, 100]⟩⟩ 52), .notImplemented⟩,
    ⟨PyData.keyHash P ⟨⟨[70, 97, 108, 115, 101]⟩⟩, (.str ⟨⟨[70, 97, 108, 115, 101]⟩⟩ 53), (.bool false)⟩,
    ⟨PyData.keyHash P ⟨⟨[84, 114, 117, 101]⟩⟩, (.str ⟨⟨[84, 114, 117, 101]⟩⟩ 54), (.bool true)⟩,
    ⟨PyData.keyHash P ⟨⟨[98, 111, 111, 108]⟩⟩, (.str ⟨⟨[98, 111, 111, 108]⟩⟩ 55), (.type SL.s11695548795398191787x4)⟩,
    ⟨PyData.keyHash P ⟨⟨[109, 101, 109, 111, 114, 121, 118, 105, 101, 119]⟩⟩, (.str ⟨⟨[109, 101, 109, 111, 114, 121, 118, 105, 101, 119]⟩⟩ 56), (.type SL.s4156966113859768872x10)⟩,
    ⟨PyData.keyHash P ⟨⟨[98, 121, 116, 101, 97, 114, 114, 97, 121]⟩⟩, (.str ⟨⟨[98, 121, 116, 101, 97, 114, 114, 97, 121]⟩⟩ 57), (.type SL.s9501651726347032510x9)⟩,
    ⟨PyData.keyHash P ⟨⟨[98, 121, 116, 101, 115]⟩⟩, (.str ⟨⟨[98, 121, 116, 101, 115]⟩⟩ 58), (.type SL.s15722918466584999320x5)⟩,
    ⟨PyData.keyHash P ⟨⟨[99, 108, 97, 115, 115, 109, 101, 116, 104, 111, 100]⟩⟩, (.str ⟨⟨[99, 108, 97, 115, 115, 109, 101, 116, 104, 111, 100]⟩⟩ 59), (.type SL.s591115383303110208x11)⟩,
    ⟨PyData.keyHash P ⟨⟨[99, 111, 109, 112, 108, 101, 120]⟩⟩, (.str ⟨⟨[99, 111, 109, 112, 108, 101, 120]⟩⟩ 60), (.type SL.s15721156781594690315x7)⟩,
    ⟨PyData.keyHash P ⟨⟨[100, 105, 99, 116]⟩⟩, (.str ⟨⟨[100, 105, 99, 116]⟩⟩ 61), (.type SL.s14018661285674007319x4)⟩,
    ⟨PyData.keyHash P ⟨⟨[101, 110, 117, 109, 101, 114, 97, 116, 101]⟩⟩, (.str ⟨⟨[101, 110, 117, 109, 101, 114, 97, 116, 101]⟩⟩ 62), (.type SL.s14340494229221121180x9)⟩,
    ⟨PyData.keyHash P ⟨⟨[102, 105, 108, 116, 101, 114]⟩⟩, (.str ⟨⟨[102, 105, 108, 116, 101, 114]⟩⟩ 63), (.type SL.s13429844117177748173x6)⟩,
    ⟨PyData.keyHash P ⟨⟨[102, 108, 111, 97, 116]⟩⟩, (.str ⟨⟨[102, 108, 111, 97, 116]⟩⟩ 64), (.type SL.s16463266125957815391x5)⟩,
    ⟨PyData.keyHash P ⟨⟨[102, 114, 111, 122, 101, 110, 115, 101, 116]⟩⟩, (.str ⟨⟨[102, 114, 111, 122, 101, 110, 115, 101, 116]⟩⟩ 65), (.type SL.s4922535414793169389x9)⟩,
    ⟨PyData.keyHash P ⟨⟨[112, 114, 111, 112, 101, 114, 116, 121]⟩⟩, (.str ⟨⟨[112, 114, 111, 112, 101, 114, 116, 121]⟩⟩ 66), (.type SL.s8101838861749082086x8)⟩,
    ⟨PyData.keyHash P ⟨⟨[105, 110, 116]⟩⟩, (.str ⟨⟨[105, 110, 116]⟩⟩ 67), (.type SL.s7066276694103001551x3)⟩,
    ⟨PyData.keyHash P ⟨⟨[108, 105, 115, 116]⟩⟩, (.str ⟨⟨[108, 105, 115, 116]⟩⟩ 68), (.type SL.s9222952809800978799x4)⟩,
    ⟨PyData.keyHash P ⟨⟨[109, 97, 112]⟩⟩, (.str ⟨⟨[109, 97, 112]⟩⟩ 69), (.type SL.s462964344163437139x3)⟩,
    ⟨PyData.keyHash P ⟨⟨[111, 98, 106, 101, 99, 116]⟩⟩, (.str ⟨⟨[111, 98, 106, 101, 99, 116]⟩⟩ 70), (.type SL.s2742458400755230247x6)⟩,
    ⟨PyData.keyHash P ⟨⟨[114, 97, 110, 103, 101]⟩⟩, (.str ⟨⟨[114, 97, 110, 103, 101]⟩⟩ 71), (.type SL.s1438033511350832697x5)⟩,
    ⟨PyData.keyHash P ⟨⟨[114, 101, 118, 101, 114, 115, 101, 100]⟩⟩, (.str ⟨⟨[114, 101, 118, 101, 114, 115, 101, 100]⟩⟩ 72), (.type SL.s14365286008749172514x8)⟩,
    ⟨PyData.keyHash P ⟨⟨[115, 101, 116]⟩⟩, (.str ⟨⟨[115, 101, 116]⟩⟩ 73), (.type SL.s3642769012341782148x3)⟩,
    ⟨PyData.keyHash P ⟨⟨[115, 108, 105, 99, 101]⟩⟩, (.str ⟨⟨[115, 108, 105, 99, 101]⟩⟩ 74), (.type SL.s4674234679698826739x5)⟩,
    ⟨PyData.keyHash P ⟨⟨[115, 116, 97, 116, 105, 99, 109, 101, 116, 104, 111, 100]⟩⟩, (.str ⟨⟨[115, 116, 97, 116, 105, 99, 109, 101, 116, 104, 111, 100]⟩⟩ 75), (.type SL.s16656946322747308186x12)⟩,
    ⟨PyData.keyHash P ⟨⟨[115, 116, 114]⟩⟩, (.str ⟨⟨[115, 116, 114]⟩⟩ 76), (.type SL.s10796804682411823810x3)⟩,
    ⟨PyData.keyHash P ⟨⟨[115, 117, 112, 101, 114]⟩⟩, (.str ⟨⟨[115, 117, 112, 101, 114]⟩⟩ 77), (.type SL.s4290257624100764138x5)⟩,
    ⟨PyData.keyHash P ⟨⟨[116, 117, 112, 108, 101]⟩⟩, (.str ⟨⟨[116, 117, 112, 108, 101]⟩⟩ 78), (.type SL.s2766695959194262286x5)⟩,
    ⟨PyData.keyHash P ⟨⟨[116, 121, 112, 101]⟩⟩, (.str ⟨⟨[116, 121, 112, 101]⟩⟩ 79), (.type SL.s17162191345867700912x4)⟩,
    ⟨PyData.keyHash P ⟨⟨[122, 105, 112]⟩⟩, (.str ⟨⟨[122, 105, 112]⟩⟩ 80), (.type SL.s14339709457334898076x3)⟩,
    ⟨PyData.keyHash P ⟨⟨[95, 95, 100, 101, 98, 117, 103, 95, 95]⟩⟩, (.str ⟨⟨[95, 95, 100, 101, 98, 117, 103, 95, 95]⟩⟩ 81), (.bool true)⟩,
    ⟨PyData.keyHash P ⟨⟨[66, 97, 115, 101, 69, 120, 99, 101, 112, 116, 105, 111, 110]⟩⟩, (.str ⟨⟨[66, 97, 115, 101, 69, 120, 99, 101, 112, 116, 105, 111, 110]⟩⟩ 82), (.type SL.s4278001404047624695x13)⟩,
    ⟨PyData.keyHash P ⟨⟨[66, 97, 115, 101, 69, 120, 99, 101, 112, 116, 105, 111, 110, 71, 114, 111, 117, 112]⟩⟩, (.str ⟨⟨[66, 97, 115, 101, 69, 120, 99, 101, 112, 116, 105, 111, 110, 71, 114, 111, 117, 112]⟩⟩ 83), (.type SL.s6585700554429387442x18)⟩,
    ⟨PyData.keyHash P ⟨⟨[69, 120, 99, 101, 112, 116, 105, 111, 110]⟩⟩, (.str ⟨⟨[69, 120, 99, 101, 112, 116, 105, 111, 110]⟩⟩ 84), (.type SL.s5946037652744460706x9)⟩,
    ⟨PyData.keyHash P ⟨⟨[71, 101, 110, 101, 114, 97, 116, 111, 114, 69, 120, 105, 116]⟩⟩, (.str ⟨⟨[71, 101, 110, 101, 114, 97, 116, 111, 114, 69, 120, 105, 116]⟩⟩ 85), (.type SL.s7410770068591931388x13)⟩,
    ⟨PyData.keyHash P ⟨⟨[75, 101, 121, 98, 111, 97, 114, 100, 73, 110, 116, 101, 114, 114, 117, 112, 116]⟩⟩, (.str ⟨⟨[75, 101, 121, 98, 111, 97, 114, 100, 73, 110, 116, 101, 114, 114, 117, 112, 116]⟩⟩ 86), (.type SL.s11817881795495490833x17)⟩,
    ⟨PyData.keyHash P ⟨⟨[83, 121, 115, 116, 101, 109, 69, 120, 105, 116]⟩⟩, (.str ⟨⟨[83, 121, 115, 116, 101, 109, 69, 120, 105, 116]⟩⟩ 87), (.type SL.s15679963881808890155x10)⟩,
    ⟨PyData.keyHash P ⟨⟨[65, 114, 105, 116, 104, 109, 101, 116, 105, 99, 69, 114, 114, 111, 114]⟩⟩, (.str ⟨⟨[65, 114, 105, 116, 104, 109, 101, 116, 105, 99, 69, 114, 114, 111, 114]⟩⟩ 88), (.type SL.s3871700062485845797x15)⟩,
    ⟨PyData.keyHash P ⟨⟨[65, 115, 115, 101, 114, 116, 105, 111, 110, 69, 114, 114, 111, 114]⟩⟩, (.str ⟨⟨[65, 115, 115, 101, 114, 116, 105, 111, 110, 69, 114, 114, 111, 114]⟩⟩ 89), (.type SL.s7689518266570723881x14)⟩,
    ⟨PyData.keyHash P ⟨⟨[65, 116, 116, 114, 105, 98, 117, 116, 101, 69, 114, 114, 111, 114]⟩⟩, (.str ⟨⟨[65, 116, 116, 114, 105, 98, 117, 116, 101, 69, 114, 114, 111, 114]⟩⟩ 90), (.type SL.s9001593270443806431x14)⟩,
    ⟨PyData.keyHash P ⟨⟨[66, 117, 102, 102, 101, 114, 69, 114, 114, 111, 114]⟩⟩, (.str ⟨⟨[66, 117, 102, 102, 101, 114, 69, 114, 114, 111, 114]⟩⟩ 91), (.type SL.s6882542574934516792x11)⟩,
    ⟨PyData.keyHash P ⟨⟨[69, 79, 70, 69, 114, 114, 111, 114]⟩⟩, (.str ⟨⟨[69, 79, 70, 69, 114, 114, 111, 114]⟩⟩ 92), (.type SL.s14403400214490484960x8)⟩,
    ⟨PyData.keyHash P ⟨⟨[73, 109, 112, 111, 114, 116, 69, 114, 114, 111, 114]⟩⟩, (.str ⟨⟨[73, 109, 112, 111, 114, 116, 69, 114, 114, 111, 114]⟩⟩ 93), (.type SL.s14457978657717015782x11)⟩,
    ⟨PyData.keyHash P ⟨⟨[76, 111, 111, 107, 117, 112, 69, 114, 114, 111, 114]⟩⟩, (.str ⟨⟨[76, 111, 111, 107, 117, 112, 69, 114, 114, 111, 114]⟩⟩ 94), (.type SL.s1753610191782819921x11)⟩,
    ⟨PyData.keyHash P ⟨⟨[77, 101, 109, 111, 114, 121, 69, 114, 114, 111, 114]⟩⟩, (.str ⟨⟨[77, 101, 109, 111, 114, 121, 69, 114, 114, 111, 114]⟩⟩ 95), (.type SL.s14119380538032626715x11)⟩,
    ⟨PyData.keyHash P ⟨⟨[78, 97, 109, 101, 69, 114, 114, 111, 114]⟩⟩, (.str ⟨⟨[78, 97, 109, 101, 69, 114, 114, 111, 114]⟩⟩ 96), (.type SL.s11437920000406562045x9)⟩,
    ⟨PyData.keyHash P ⟨⟨[79, 83, 69, 114, 114, 111, 114]⟩⟩, (.str ⟨⟨[79, 83, 69, 114, 114, 111, 114]⟩⟩ 97), (.type SL.s10852414792293593619x7)⟩,
    ⟨PyData.keyHash P ⟨⟨[82, 101, 102, 101, 114, 101, 110, 99, 101, 69, 114, 114, 111, 114]⟩⟩, (.str ⟨⟨[82, 101, 102, 101, 114, 101, 110, 99, 101, 69, 114, 114, 111, 114]⟩⟩ 98), (.type SL.s14816307405966870543x14)⟩,
    ⟨PyData.keyHash P ⟨⟨[82, 117, 110, 116, 105, 109, 101, 69, 114, 114, 111, 114]⟩⟩, (.str ⟨⟨[82, 117, 110, 116, 105, 109, 101, 69, 114, 114, 111, 114]⟩⟩ 99), (.type SL.s8682627914449686677x12)⟩,
    ⟨PyData.keyHash P ⟨⟨[83, 116, 111, 112, 65, 115, 121, 110, 99, 73, 116, 101, 114, 97, 116, 105, 111, 110]⟩⟩, (.str ⟨⟨[83, 116, 111, 112, 65, 115, 121, 110, 99, 73, 116, 101, 114, 97, 116, 105, 111, 110]⟩⟩ 100), (.type SL.s4428170145600203450x18)⟩,
    ⟨PyData.keyHash P ⟨⟨[83, 116, 111, 112, 73, 116, 101, 114, 97, 116, 105, 111, 110]⟩⟩, (.str ⟨⟨[83, 116, 111, 112, 73, 116, 101, 114, 97, 116, 105, 111, 110]⟩⟩ 101), (.type SL.s5991306692159431302x13)⟩,
    ⟨PyData.keyHash P ⟨⟨[83, 121, 110, 116, 97, 120, 69, 114, 114, 111, 114]⟩⟩, (.str ⟨⟨[83, 121, 110, 116, 97, 120, 69, 114, 114, 111, 114]⟩⟩ 102), (.type SL.s16067994140765818257x11)⟩,
    ⟨PyData.keyHash P ⟨⟨[83, 121, 115, 116, 101, 109, 69, 114, 114, 111, 114]⟩⟩, (.str ⟨⟨[83, 121, 115, 116, 101, 109, 69, 114, 114, 111, 114]⟩⟩ 103), (.type SL.s2327743974964600596x11)⟩,
    ⟨PyData.keyHash P ⟨⟨[84, 121, 112, 101, 69, 114, 114, 111, 114]⟩⟩, (.str ⟨⟨[84, 121, 112, 101, 69, 114, 114, 111, 114]⟩⟩ 104), (.type SL.s2804747833354056582x9)⟩,
    ⟨PyData.keyHash P ⟨⟨[86, 97, 108, 117, 101, 69, 114, 114, 111, 114]⟩⟩, (.str ⟨⟨[86, 97, 108, 117, 101, 69, 114, 114, 111, 114]⟩⟩ 105), (.type SL.s6070975301684473832x10)⟩,
    ⟨PyData.keyHash P ⟨⟨[87, 97, 114, 110, 105, 110, 103]⟩⟩, (.str ⟨⟨[87, 97, 114, 110, 105, 110, 103]⟩⟩ 106), (.type SL.s14270485950484850486x7)⟩,
    ⟨PyData.keyHash P ⟨⟨[70, 108, 111, 97, 116, 105, 110, 103, 80, 111, 105, 110, 116, 69, 114, 114, 111, 114]⟩⟩, (.str ⟨⟨[70, 108, 111, 97, 116, 105, 110, 103, 80, 111, 105, 110, 116, 69, 114, 114, 111, 114]⟩⟩ 107), (.type SL.s12041534306414923332x18)⟩,
    ⟨PyData.keyHash P ⟨⟨[79, 118, 101, 114, 102, 108, 111, 119, 69, 114, 114, 111, 114]⟩⟩, (.str ⟨⟨[79, 118, 101, 114, 102, 108, 111, 119, 69, 114, 114, 111, 114]⟩⟩ 108), (.type SL.s2531307568338490285x13)⟩,
    ⟨PyData.keyHash P ⟨⟨[90, 101, 114, 111, 68, 105, 118, 105, 115, 105, 111, 110, 69, 114, 114, 111, 114]⟩⟩, (.str ⟨⟨[90, 101, 114, 111, 68, 105, 118, 105, 115, 105, 111, 110, 69, 114, 114, 111, 114]⟩⟩ 109), (.type SL.s631175304937289666x17)⟩,
    ⟨PyData.keyHash P ⟨⟨[66, 121, 116, 101, 115, 87, 97, 114, 110, 105, 110, 103]⟩⟩, (.str ⟨⟨[66, 121, 116, 101, 115, 87, 97, 114, 110, 105, 110, 103]⟩⟩ 110), (.type SL.s5144983644357021410x12)⟩,
    ⟨PyData.keyHash P ⟨⟨[68, 101, 112, 114, 101, 99, 97, 116, 105, 111, 110, 87, 97, 114, 110, 105, 110, 103]⟩⟩, (.str ⟨⟨[68, 101, 112, 114, 101, 99, 97, 116, 105, 111, 110, 87, 97, 114, 110, 105, 110, 103]⟩⟩ 111), (.type SL.s18039099521571816885x18)⟩,
    ⟨PyData.keyHash P ⟨⟨[69, 110, 99, 111, 100, 105, 110, 103, 87, 97, 114, 110, 105, 110, 103]⟩⟩, (.str ⟨⟨[69, 110, 99, 111, 100, 105, 110, 103, 87, 97, 114, 110, 105, 110, 103]⟩⟩ 112), (.type SL.s6011586214260557989x15)⟩,
    ⟨PyData.keyHash P ⟨⟨[70, 117, 116, 117, 114, 101, 87, 97, 114, 110, 105, 110, 103]⟩⟩, (.str ⟨⟨[70, 117, 116, 117, 114, 101, 87, 97, 114, 110, 105, 110, 103]⟩⟩ 113), (.type SL.s5430567037509283100x13)⟩,
    ⟨PyData.keyHash P ⟨⟨[73, 109, 112, 111, 114, 116, 87, 97, 114, 110, 105, 110, 103]⟩⟩, (.str ⟨⟨[73, 109, 112, 111, 114, 116, 87, 97, 114, 110, 105, 110, 103]⟩⟩ 114), (.type SL.s8117915138073963741x13)⟩,
    ⟨PyData.keyHash P ⟨⟨[80, 101, 110, 100, 105, 110, 103, 68, 101, 112, 114, 101, 99, 97, 116, 105, 111, 110, 87, 97, 114, 110, 105, 110, 103]⟩⟩, (.str ⟨⟨[80, 101, 110, 100, 105, 110, 103, 68, 101, 112, 114, 101, 99, 97, 116, 105, 111, 110, 87, 97, 114, 110, 105, 110, 103]⟩⟩ 115), (.type SL.s3423317712779056401x25)⟩,
    ⟨PyData.keyHash P ⟨⟨[82, 101, 115, 111, 117, 114, 99, 101, 87, 97, 114, 110, 105, 110, 103]⟩⟩, (.str ⟨⟨[82, 101, 115, 111, 117, 114, 99, 101, 87, 97, 114, 110, 105, 110, 103]⟩⟩ 116), (.type SL.s2007317383269046180x15)⟩,
    ⟨PyData.keyHash P ⟨⟨[82, 117, 110, 116, 105, 109, 101, 87, 97, 114, 110, 105, 110, 103]⟩⟩, (.str ⟨⟨[82, 117, 110, 116, 105, 109, 101, 87, 97, 114, 110, 105, 110, 103]⟩⟩ 117), (.type SL.s17481586968713580700x14)⟩,
    ⟨PyData.keyHash P ⟨⟨[83, 121, 110, 116, 97, 120, 87, 97, 114, 110, 105, 110, 103]⟩⟩, (.str ⟨⟨[83, 121, 110, 116, 97, 120, 87, 97, 114, 110, 105, 110, 103]⟩⟩ 118), (.type SL.s2450899226349176912x13)⟩,
    ⟨PyData.keyHash P ⟨⟨[85, 110, 105, 99, 111, 100, 101, 87, 97, 114, 110, 105, 110, 103]⟩⟩, (.str ⟨⟨[85, 110, 105, 99, 111, 100, 101, 87, 97, 114, 110, 105, 110, 103]⟩⟩ 119), (.type SL.s16626165730633575011x14)⟩,
    ⟨PyData.keyHash P ⟨⟨[85, 115, 101, 114, 87, 97, 114, 110, 105, 110, 103]⟩⟩, (.str ⟨⟨[85, 115, 101, 114, 87, 97, 114, 110, 105, 110, 103]⟩⟩ 120), (.type SL.s14288496050688921416x11)⟩,
    ⟨PyData.keyHash P ⟨⟨[66, 108, 111, 99, 107, 105, 110, 103, 73, 79, 69, 114, 114, 111, 114]⟩⟩, (.str ⟨⟨[66, 108, 111, 99, 107, 105, 110, 103, 73, 79, 69, 114, 114, 111, 114]⟩⟩ 121), (.type SL.s5735081916595925998x15)⟩,
    ⟨PyData.keyHash P ⟨⟨[67, 104, 105, 108, 100, 80, 114, 111, 99, 101, 115, 115, 69, 114, 114, 111, 114]⟩⟩, (.str ⟨⟨[67, 104, 105, 108, 100, 80, 114, 111, 99, 101, 115, 115, 69, 114, 114, 111, 114]⟩⟩ 122), (.type SL.s3865607918536308442x17)⟩,
    ⟨PyData.keyHash P ⟨⟨[67, 111, 110, 110, 101, 99, 116, 105, 111, 110, 69, 114, 114, 111, 114]⟩⟩, (.str ⟨⟨[67, 111, 110, 110, 101, 99, 116, 105, 111, 110, 69, 114, 114, 111, 114]⟩⟩ 123), (.type SL.s13337502604062700212x15)⟩,
    ⟨PyData.keyHash P ⟨⟨[70, 105, 108, 101, 69, 120, 105, 115, 116, 115, 69, 114, 114, 111, 114]⟩⟩, (.str ⟨⟨[70, 105, 108, 101, 69, 120, 105, 115, 116, 115, 69, 114, 114, 111, 114]⟩⟩ 124), (.type SL.s13114017843053701147x15)⟩,
    ⟨PyData.keyHash P ⟨⟨[70, 105, 108, 101, 78, 111, 116, 70, 111, 117, 110, 100, 69, 114, 114, 111, 114]⟩⟩, (.str ⟨⟨[70, 105, 108, 101, 78, 111, 116, 70, 111, 117, 110, 100, 69, 114, 114, 111, 114]⟩⟩ 125), (.type SL.s17467278006356818441x17)⟩,
    ⟨PyData.keyHash P ⟨⟨[73, 110, 116, 101, 114, 114, 117, 112, 116, 101, 100, 69, 114, 114, 111, 114]⟩⟩, (.str ⟨⟨[73, 110, 116, 101, 114, 114, 117, 112, 116, 101, 100, 69, 114, 114, 111, 114]⟩⟩ 126), (.type SL.s17722149559621369488x16)⟩,
    ⟨PyData.keyHash P ⟨⟨[73, 115, 65, 68, 105, 114, 101, 99, 116, 111, 114, 121, 69, 114, 114, 111, 114]⟩⟩, (.str ⟨⟨[73, 115, 65, 68, 105, 114, 101, 99, 116, 111, 114, 121, 69, 114, 114, 111, 114]⟩⟩ 127), (.type SL.s7855274175708717672x17)⟩,
    ⟨PyData.keyHash P ⟨⟨[78, 111, 116, 65, 68, 105, 114, 101, 99, 116, 111, 114, 121, 69, 114, 114, 111, 114]⟩⟩, (.str ⟨⟨[78, 111, 116, 65, 68, 105, 114, 101, 99, 116, 111, 114, 121, 69, 114, 114, 111, 114]⟩⟩ 128), (.type SL.s13351283678309829046x18)⟩,
    ⟨PyData.keyHash P ⟨⟨[80, 101, 114, 109, 105, 115, 115, 105, 111, 110, 69, 114, 114, 111, 114]⟩⟩, (.str ⟨⟨[80, 101, 114, 109, 105, 115, 115, 105, 111, 110, 69, 114, 114, 111, 114]⟩⟩ 129), (.type SL.s6668348653404991179x15)⟩,
    ⟨PyData.keyHash P ⟨⟨[80, 114, 111, 99, 101, 115, 115, 76, 111, 111, 107, 117, 112, 69, 114, 114, 111, 114]⟩⟩, (.str ⟨⟨[80, 114, 111, 99, 101, 115, 115, 76, 111, 111, 107, 117, 112, 69, 114, 114, 111, 114]⟩⟩ 130), (.type SL.s12913350958174193794x18)⟩,
    ⟨PyData.keyHash P ⟨⟨[84, 105, 109, 101, 111, 117, 116, 69, 114, 114, 111, 114]⟩⟩, (.str ⟨⟨[84, 105, 109, 101, 111, 117, 116, 69, 114, 114, 111, 114]⟩⟩ 131), (.type SL.s16115879512475548326x12)⟩,
    ⟨PyData.keyHash P ⟨⟨[73, 110, 100, 101, 110, 116, 97, 116, 105, 111, 110, 69, 114, 114, 111, 114]⟩⟩, (.str ⟨⟨[73, 110, 100, 101, 110, 116, 97, 116, 105, 111, 110, 69, 114, 114, 111, 114]⟩⟩ 132), (.type SL.s15920661018069861047x16)⟩,
    ⟨PyData.keyHash P ⟨⟨[95, 73, 110, 99, 111, 109, 112, 108, 101, 116, 101, 73, 110, 112, 117, 116, 69, 114, 114, 111, 114]⟩⟩, (.str ⟨⟨[95, 73, 110, 99, 111, 109, 112, 108, 101, 116, 101, 73, 110, 112, 117, 116, 69, 114, 114, 111, 114]⟩⟩ 133), (.type SL.s10779130036587390575x21)⟩,
    ⟨PyData.keyHash P ⟨⟨[73, 110, 100, 101, 120, 69, 114, 114, 111, 114]⟩⟩, (.str ⟨⟨[73, 110, 100, 101, 120, 69, 114, 114, 111, 114]⟩⟩ 134), (.type SL.s7801419657504700863x10)⟩,
    ⟨PyData.keyHash P ⟨⟨[75, 101, 121, 69, 114, 114, 111, 114]⟩⟩, (.str ⟨⟨[75, 101, 121, 69, 114, 114, 111, 114]⟩⟩ 135), (.type SL.s1688129525768580628x8)⟩,
    ⟨PyData.keyHash P ⟨⟨[77, 111, 100, 117, 108, 101, 78, 111, 116, 70, 111, 117, 110, 100, 69, 114, 114, 111, 114]⟩⟩, (.str ⟨⟨[77, 111, 100, 117, 108, 101, 78, 111, 116, 70, 111, 117, 110, 100, 69, 114, 114, 111, 114]⟩⟩ 136), (.type SL.s1031832959479892071x19)⟩,
    ⟨PyData.keyHash P ⟨⟨[78, 111, 116, 73, 109, 112, 108, 101, 109, 101, 110, 116, 101, 100, 69, 114, 114, 111, 114]⟩⟩, (.str ⟨⟨[78, 111, 116, 73, 109, 112, 108, 101, 109, 101, 110, 116, 101, 100, 69, 114, 114, 111, 114]⟩⟩ 137), (.type SL.s8991790508128307865x19)⟩,
    ⟨PyData.keyHash P ⟨⟨[80, 121, 116, 104, 111, 110, 70, 105, 110, 97, 108, 105, 122, 97, 116, 105, 111, 110, 69, 114, 114, 111, 114]⟩⟩, (.str ⟨⟨[80, 121, 116, 104, 111, 110, 70, 105, 110, 97, 108, 105, 122, 97, 116, 105, 111, 110, 69, 114, 114, 111, 114]⟩⟩ 138), (.type SL.s14539662485746970245x23)⟩,
    ⟨PyData.keyHash P ⟨⟨[82, 101, 99, 117, 114, 115, 105, 111, 110, 69, 114, 114, 111, 114]⟩⟩, (.str ⟨⟨[82, 101, 99, 117, 114, 115, 105, 111, 110, 69, 114, 114, 111, 114]⟩⟩ 139), (.type SL.s11643622729373238714x14)⟩,
    ⟨PyData.keyHash P ⟨⟨[85, 110, 98, 111, 117, 110, 100, 76, 111, 99, 97, 108, 69, 114, 114, 111, 114]⟩⟩, (.str ⟨⟨[85, 110, 98, 111, 117, 110, 100, 76, 111, 99, 97, 108, 69, 114, 114, 111, 114]⟩⟩ 140), (.type SL.s3386828779285465597x17)⟩,
    ⟨PyData.keyHash P ⟨⟨[85, 110, 105, 99, 111, 100, 101, 69, 114, 114, 111, 114]⟩⟩, (.str ⟨⟨[85, 110, 105, 99, 111, 100, 101, 69, 114, 114, 111, 114]⟩⟩ 141), (.type SL.s13042696260734638735x12)⟩,
    ⟨PyData.keyHash P ⟨⟨[66, 114, 111, 107, 101, 110, 80, 105, 112, 101, 69, 114, 114, 111, 114]⟩⟩, (.str ⟨⟨[66, 114, 111, 107, 101, 110, 80, 105, 112, 101, 69, 114, 114, 111, 114]⟩⟩ 142), (.type SL.s18239426817015966623x15)⟩,
    ⟨PyData.keyHash P ⟨⟨[67, 111, 110, 110, 101, 99, 116, 105, 111, 110, 65, 98, 111, 114, 116, 101, 100, 69, 114, 114, 111, 114]⟩⟩, (.str ⟨⟨[67, 111, 110, 110, 101, 99, 116, 105, 111, 110, 65, 98, 111, 114, 116, 101, 100, 69, 114, 114, 111, 114]⟩⟩ 143), (.type SL.s1270395311379034370x22)⟩,
    ⟨PyData.keyHash P ⟨⟨[67, 111, 110, 110, 101, 99, 116, 105, 111, 110, 82, 101, 102, 117, 115, 101, 100, 69, 114, 114, 111, 114]⟩⟩, (.str ⟨⟨[67, 111, 110, 110, 101, 99, 116, 105, 111, 110, 82, 101, 102, 117, 115, 101, 100, 69, 114, 114, 111, 114]⟩⟩ 144), (.type SL.s10696252587037064777x22)⟩,
    ⟨PyData.keyHash P ⟨⟨[67, 111, 110, 110, 101, 99, 116, 105, 111, 110, 82, 101, 115, 101, 116, 69, 114, 114, 111, 114]⟩⟩, (.str ⟨⟨[67, 111, 110, 110, 101, 99, 116, 105, 111, 110, 82, 101, 115, 101, 116, 69, 114, 114, 111, 114]⟩⟩ 145), (.type SL.s7852717498200857586x20)⟩,
    ⟨PyData.keyHash P ⟨⟨[84, 97, 98, 69, 114, 114, 111, 114]⟩⟩, (.str ⟨⟨[84, 97, 98, 69, 114, 114, 111, 114]⟩⟩ 146), (.type SL.s6377248116197321094x8)⟩,
    ⟨PyData.keyHash P ⟨⟨[85, 110, 105, 99, 111, 100, 101, 68, 101, 99, 111, 100, 101, 69, 114, 114, 111, 114]⟩⟩, (.str ⟨⟨[85, 110, 105, 99, 111, 100, 101, 68, 101, 99, 111, 100, 101, 69, 114, 114, 111, 114]⟩⟩ 147), (.type SL.s3834378056692298002x18)⟩,
    ⟨PyData.keyHash P ⟨⟨[85, 110, 105, 99, 111, 100, 101, 69, 110, 99, 111, 100, 101, 69, 114, 114, 111, 114]⟩⟩, (.str ⟨⟨[85, 110, 105, 99, 111, 100, 101, 69, 110, 99, 111, 100, 101, 69, 114, 114, 111, 114]⟩⟩ 148), (.type SL.s17586630440231065808x18)⟩,
    ⟨PyData.keyHash P ⟨⟨[85, 110, 105, 99, 111, 100, 101, 84, 114, 97, 110, 115, 108, 97, 116, 101, 69, 114, 114, 111, 114]⟩⟩, (.str ⟨⟨[85, 110, 105, 99, 111, 100, 101, 84, 114, 97, 110, 115, 108, 97, 116, 101, 69, 114, 114, 111, 114]⟩⟩ 149), (.type SL.s15234114252648025395x21)⟩,
    ⟨PyData.keyHash P ⟨⟨[69, 120, 99, 101, 112, 116, 105, 111, 110, 71, 114, 111, 117, 112]⟩⟩, (.str ⟨⟨[69, 120, 99, 101, 112, 116, 105, 111, 110, 71, 114, 111, 117, 112]⟩⟩ 150), (.type SL.s8496462677383758984x14)⟩,
    ⟨PyData.keyHash P ⟨⟨[69, 110, 118, 105, 114, 111, 110, 109, 101, 110, 116, 69, 114, 114, 111, 114]⟩⟩, (.str ⟨⟨[69, 110, 118, 105, 114, 111, 110, 109, 101, 110, 116, 69, 114, 114, 111, 114]⟩⟩ 151), (.type SL.s10852414792293593619x7)⟩,
    ⟨PyData.keyHash P ⟨⟨[73, 79, 69, 114, 114, 111, 114]⟩⟩, (.str ⟨⟨[73, 79, 69, 114, 114, 111, 114]⟩⟩ 152), (.type SL.s10852414792293593619x7)⟩,
    ⟨PyData.keyHash P ⟨⟨[111, 112, 101, 110]⟩⟩, (.str ⟨⟨[111, 112, 101, 110]⟩⟩ 153), (.builtin SL.s16789243406116112673x4)⟩,
    ⟨PyData.keyHash P ⟨⟨[113, 117, 105, 116]⟩⟩, (.str ⟨⟨[113, 117, 105, 116]⟩⟩ 154), (.builtin SL.s14400166428656793546x20)⟩,
    ⟨PyData.keyHash P ⟨⟨[101, 120, 105, 116]⟩⟩, (.str ⟨⟨[101, 120, 105, 116]⟩⟩ 155), (.builtin SL.s5857708277339239366x20)⟩,
    ⟨PyData.keyHash P ⟨⟨[99, 111, 112, 121, 114, 105, 103, 104, 116]⟩⟩, (.str ⟨⟨[99, 111, 112, 121, 114, 105, 103, 104, 116]⟩⟩ 156), (.builtin "builtins.copyright#opaque")⟩,
    ⟨PyData.keyHash P ⟨⟨[99, 114, 101, 100, 105, 116, 115]⟩⟩, (.str ⟨⟨[99, 114, 101, 100, 105, 116, 115]⟩⟩ 157), (.builtin "builtins.credits#opaque")⟩,
    ⟨PyData.keyHash P ⟨⟨[108, 105, 99, 101, 110, 115, 101]⟩⟩, (.str ⟨⟨[108, 105, 99, 101, 110, 115, 101]⟩⟩ 158), (.builtin "builtins.license#opaque")⟩,
    ⟨PyData.keyHash P ⟨⟨[104, 101, 108, 112]⟩⟩, (.str ⟨⟨[104, 101, 108, 112]⟩⟩ 159), (.builtin SL.s7804999707787243718x20)⟩]⟩ 159), ⟨[]⟩⟩
noncomputable def o2 (P : Params) : Obj := ⟨.none, none, (.dict ⟨[⟨PyData.keyHash P ⟨⟨[105, 109, 112, 111, 114, 116, 46, 108, 111, 97, 100, 101, 100, 46, 95, 99, 111, 108, 108, 101, 99, 116, 105, 111, 110, 115]⟩⟩, (.str ⟨⟨[105, 109, 112, 111, 114, 116, 46, 108, 111, 97, 100, 101, 100, 46, 95, 99, 111, 108, 108, 101, 99, 116, 105, 111, 110, 115]⟩⟩ 185), (.bool true)⟩,
    ⟨PyData.keyHash P ⟨⟨[99, 108, 97, 115, 115, 46, 95, 102, 114, 111, 122, 101, 110, 95, 105, 109, 112, 111, 114, 116, 108, 105, 98, 46, 66, 117, 105, 108, 116, 105, 110, 73, 109, 112, 111, 114, 116, 101, 114]⟩⟩, (.str ⟨⟨[99, 108, 97, 115, 115, 46, 95, 102, 114, 111, 122, 101, 110, 95, 105, 109, 112, 111, 114, 116, 108, 105, 98, 46, 66, 117, 105, 108, 116, 105, 110, 73, 109, 112, 111, 114, 116, 101, 114]⟩⟩ 187), (.ref 15)⟩,
    ⟨PyData.keyHash P ⟨⟨[119, 97, 116, 99, 104, 101, 100, 46, 105, 109, 112, 111, 114, 116]⟩⟩, (.str ⟨⟨[119, 97, 116, 99, 104, 101, 100, 46, 105, 109, 112, 111, 114, 116]⟩⟩ 208), (.ref 19)⟩,
    ⟨PyData.keyHash P ⟨⟨[99, 108, 97, 115, 115, 46, 95, 102, 114, 111, 122, 101, 110, 95, 105, 109, 112, 111, 114, 116, 108, 105, 98, 46, 77, 111, 100, 117, 108, 101, 83, 112, 101, 99]⟩⟩, (.str ⟨⟨[99, 108, 97, 115, 115, 46, 95, 102, 114, 111, 122, 101, 110, 95, 105, 109, 112, 111, 114, 116, 108, 105, 98, 46, 77, 111, 100, 117, 108, 101, 83, 112, 101, 99]⟩⟩ 218), (.ref 23)⟩,
    ⟨PyData.keyHash P ⟨⟨[115, 121, 115, 46, 109, 111, 100, 117, 108, 101, 115, 46, 98, 111, 111, 107, 101, 100, 45, 101, 112, 111, 99, 104]⟩⟩, (.str ⟨⟨[115, 121, 115, 46, 109, 111, 100, 117, 108, 101, 115, 46, 98, 111, 111, 107, 101, 100, 45, 101, 112, 111, 99, 104]⟩⟩ 247), (.int (3) 0)⟩,
    ⟨PyData.keyHash P ⟨⟨[115, 121, 115, 46, 109, 111, 100, 117, 108, 101, 115, 46, 108, 97, 110, 100, 101, 100, 46, 95, 99, 111, 108, 108, 101, 99, 116, 105, 111, 110, 115]⟩⟩, (.str ⟨⟨[115, 121, 115, 46, 109, 111, 100, 117, 108, 101, 115, 46, 108, 97, 110, 100, 101, 100, 46, 95, 99, 111, 108, 108, 101, 99, 116, 105, 111, 110, 115]⟩⟩ 248), (.bool true)⟩,
    ⟨PyData.keyHash P ⟨⟨[105, 109, 112, 111, 114, 116, 46, 108, 97, 116, 101, 114, 45, 108, 97, 105, 100, 46, 95, 99, 111, 108, 108, 101, 99, 116, 105, 111, 110, 115]⟩⟩, (.str ⟨⟨[105, 109, 112, 111, 114, 116, 46, 108, 97, 116, 101, 114, 45, 108, 97, 105, 100, 46, 95, 99, 111, 108, 108, 101, 99, 116, 105, 111, 110, 115]⟩⟩ 263), (.bool true)⟩,
    ⟨PyData.keyHash P ⟨⟨[119, 97, 116, 99, 104, 101, 100, 46, 108, 105, 98, 114, 97, 114, 121]⟩⟩, (.str ⟨⟨[119, 97, 116, 99, 104, 101, 100, 46, 108, 105, 98, 114, 97, 114, 121]⟩⟩ 265), (.ref 28)⟩,
    ⟨PyData.keyHash P ⟨⟨[119, 97, 116, 99, 104, 101, 100, 46, 108, 105, 98, 114, 97, 114, 121, 45, 111, 98, 106, 101, 99, 116, 115]⟩⟩, (.str ⟨⟨[119, 97, 116, 99, 104, 101, 100, 46, 108, 105, 98, 114, 97, 114, 121, 45, 111, 98, 106, 101, 99, 116, 115]⟩⟩ 0), (.str ⟨⟨[13]⟩⟩ 0)⟩,
    ⟨PyData.keyHash P ⟨⟨[119, 97, 116, 99, 104, 101, 100, 46, 108, 105, 98, 114, 97, 114, 121, 45, 100, 101, 101, 112, 46, 95, 99, 111, 108, 108, 101, 99, 116, 105, 111, 110, 115]⟩⟩, (.str ⟨⟨[119, 97, 116, 99, 104, 101, 100, 46, 108, 105, 98, 114, 97, 114, 121, 45, 100, 101, 101, 112, 46, 95, 99, 111, 108, 108, 101, 99, 116, 105, 111, 110, 115]⟩⟩ 266), (.str ⟨⟨[4, 0, 0, 12, 4, 0, 0, 12, 4, 0, 0, 3, 4, 0, 0, 12, 8, 4, 100, 105, 99, 116, 2]⟩⟩ 0)⟩,
    ⟨PyData.keyHash P ⟨⟨[116, 121, 112, 101, 46, 95, 95, 115, 117, 98, 99, 108, 97, 115, 115, 101, 115, 95, 95, 46, 79, 83, 69, 114, 114, 111, 114, 46, 48]⟩⟩, (.str ⟨⟨[116, 121, 112, 101, 46, 95, 95, 115, 117, 98, 99, 108, 97, 115, 115, 101, 115, 95, 95, 46, 79, 83, 69, 114, 114, 111, 114, 46, 48]⟩⟩ 335), (.int (70) 0)⟩,
    ⟨PyData.keyHash P ⟨⟨[116, 121, 112, 101, 46, 95, 95, 115, 117, 98, 99, 108, 97, 115, 115, 101, 115, 95, 95, 46, 79, 83, 69, 114, 114, 111, 114, 46, 110]⟩⟩, (.str ⟨⟨[116, 121, 112, 101, 46, 95, 95, 115, 117, 98, 99, 108, 97, 115, 115, 101, 115, 95, 95, 46, 79, 83, 69, 114, 114, 111, 114, 46, 110]⟩⟩ 336), (.int (1) 0)⟩]⟩ 12), ⟨[]⟩⟩
noncomputable def o3 (P : Params) : Obj := ⟨(.type SL.s14018661285674007319x4), none, (.dict ⟨[⟨PyData.keyHash P ⟨⟨[95, 95, 110, 97, 109, 101, 95, 95]⟩⟩, (.str ⟨⟨[95, 95, 110, 97, 109, 101, 95, 95]⟩⟩ 165), (.str ⟨⟨[108, 97, 119, 95, 111, 112, 48, 49, 56, 50, 95, 48, 49]⟩⟩ 1165)⟩,
    ⟨PyData.keyHash P ⟨⟨[95, 95, 100, 111, 99, 95, 95]⟩⟩, (.str ⟨⟨[95, 95, 100, 111, 99, 95, 95]⟩⟩ 166), .none⟩,
    ⟨PyData.keyHash P ⟨⟨[95, 95, 112, 97, 99, 107, 97, 103, 101, 95, 95]⟩⟩, (.str ⟨⟨[95, 95, 112, 97, 99, 107, 97, 103, 101, 95, 95]⟩⟩ 167), .none⟩,
    ⟨PyData.keyHash P ⟨⟨[95, 95, 108, 111, 97, 100, 101, 114, 95, 95]⟩⟩, (.str ⟨⟨[95, 95, 108, 111, 97, 100, 101, 114, 95, 95]⟩⟩ 168), (.builtin SL.s7097527257260152453x26)⟩,
    ⟨PyData.keyHash P ⟨⟨[95, 95, 115, 112, 101, 99, 95, 95]⟩⟩, (.str ⟨⟨[95, 95, 115, 112, 101, 99, 95, 95]⟩⟩ 169), .none⟩,
    ⟨PyData.keyHash P ⟨⟨[95, 95, 97, 110, 110, 111, 116, 97, 116, 105, 111, 110, 115, 95, 95]⟩⟩, (.str ⟨⟨[95, 95, 97, 110, 110, 111, 116, 97, 116, 105, 111, 110, 115, 95, 95]⟩⟩ 170), (.ref 6)⟩,
    ⟨PyData.keyHash P ⟨⟨[95, 95, 98, 117, 105, 108, 116, 105, 110, 115, 95, 95]⟩⟩, (.str ⟨⟨[95, 95, 98, 117, 105, 108, 116, 105, 110, 115, 95, 95]⟩⟩ 171), (.ref 4)⟩,
    ⟨PyData.keyHash P ⟨⟨[95, 95, 102, 105, 108, 101, 95, 95]⟩⟩, (.str ⟨⟨[95, 95, 102, 105, 108, 101, 95, 95]⟩⟩ 173), (.str ⟨⟨[47, 99, 108, 97, 105, 109, 47, 99, 117, 116, 46, 112, 121]⟩⟩ 172)⟩,
    ⟨PyData.keyHash P ⟨⟨[95, 95, 99, 97, 99, 104, 101, 100, 95, 95]⟩⟩, (.str ⟨⟨[95, 95, 99, 97, 99, 104, 101, 100, 95, 95]⟩⟩ 174), .none⟩,
    ⟨PyData.keyHash P ⟨⟨[100, 101, 113, 117, 101]⟩⟩, (.str ⟨⟨[100, 101, 113, 117, 101]⟩⟩ 272), (.type SL.s5314052453082223887x17)⟩,
    ⟨PyData.keyHash P ⟨⟨[95, 119, 97, 108, 108]⟩⟩, (.str ⟨⟨[95, 119, 97, 108, 108]⟩⟩ 285), (.ref 39)⟩,
    ⟨PyData.keyHash P ⟨⟨[95, 98, 121, 116, 101, 115, 119, 97, 112]⟩⟩, (.str ⟨⟨[95, 98, 121, 116, 101, 115, 119, 97, 112]⟩⟩ 298), (.ref 46)⟩,
    ⟨PyData.keyHash P ⟨⟨[95, 119, 104, 101, 110, 99, 101]⟩⟩, (.str ⟨⟨[95, 119, 104, 101, 110, 99, 101]⟩⟩ 308), (.ref 53)⟩,
    ⟨PyData.keyHash P ⟨⟨[95, 105, 110, 100, 101, 120]⟩⟩, (.str ⟨⟨[95, 105, 110, 100, 101, 120]⟩⟩ 316), (.ref 60)⟩,
    ⟨PyData.keyHash P ⟨⟨[85, 110, 115, 117, 112, 112, 111, 114, 116, 101, 100, 79, 112, 101, 114, 97, 116, 105, 111, 110]⟩⟩, (.str ⟨⟨[85, 110, 115, 117, 112, 112, 111, 114, 116, 101, 100, 79, 112, 101, 114, 97, 116, 105, 111, 110]⟩⟩ 338), (.ref 70)⟩,
    ⟨PyData.keyHash P ⟨⟨[73, 79, 66, 97, 115, 101]⟩⟩, (.str ⟨⟨[73, 79, 66, 97, 115, 101]⟩⟩ 370), (.ref 90)⟩,
    ⟨PyData.keyHash P ⟨⟨[66, 117, 102, 102, 101, 114, 101, 100, 73, 79, 66, 97, 115, 101]⟩⟩, (.str ⟨⟨[66, 117, 102, 102, 101, 114, 101, 100, 73, 79, 66, 97, 115, 101]⟩⟩ 388), (.ref 105)⟩,
    ⟨PyData.keyHash P ⟨⟨[84, 101, 120, 116, 73, 79, 66, 97, 115, 101]⟩⟩, (.str ⟨⟨[84, 101, 120, 116, 73, 79, 66, 97, 115, 101]⟩⟩ 406), (.ref 117)⟩,
    ⟨PyData.keyHash P ⟨⟨[66, 121, 116, 101, 115, 73, 79]⟩⟩, (.str ⟨⟨[66, 121, 116, 101, 115, 73, 79]⟩⟩ 668), (.ref 347)⟩,
    ⟨PyData.keyHash P ⟨⟨[83, 116, 114, 105, 110, 103, 73, 79]⟩⟩, (.str ⟨⟨[83, 116, 114, 105, 110, 103, 73, 79]⟩⟩ 955), (.ref 594)⟩,
    ⟨PyData.keyHash P ⟨⟨[95, 107, 105, 110, 100]⟩⟩, (.str ⟨⟨[95, 107, 105, 110, 100]⟩⟩ 966), (.ref 603)⟩,
    ⟨PyData.keyHash P ⟨⟨[95, 102, 115, 112, 97, 116, 104]⟩⟩, (.str ⟨⟨[95, 102, 115, 112, 97, 116, 104]⟩⟩ 975), (.ref 610)⟩,
    ⟨PyData.keyHash P ⟨⟨[95, 99, 104, 101, 99, 107, 95, 97, 114, 103, 95, 116, 121, 112, 101, 115]⟩⟩, (.str ⟨⟨[95, 99, 104, 101, 99, 107, 95, 97, 114, 103, 95, 116, 121, 112, 101, 115]⟩⟩ 985), (.ref 617)⟩,
    ⟨PyData.keyHash P ⟨⟨[105, 115, 97, 98, 115]⟩⟩, (.str ⟨⟨[105, 115, 97, 98, 115]⟩⟩ 992), (.ref 624)⟩,
    ⟨PyData.keyHash P ⟨⟨[106, 111, 105, 110]⟩⟩, (.str ⟨⟨[106, 111, 105, 110]⟩⟩ 1003), (.ref 631)⟩,
    ⟨PyData.keyHash P ⟨⟨[100, 105, 114, 110, 97, 109, 101]⟩⟩, (.str ⟨⟨[100, 105, 114, 110, 97, 109, 101]⟩⟩ 1013), (.ref 638)⟩,
    ⟨PyData.keyHash P ⟨⟨[115, 104, 108, 101, 120]⟩⟩, (.str ⟨⟨[115, 104, 108, 101, 120]⟩⟩ 1154), (.ref 729)⟩,
    ⟨PyData.keyHash P ⟨⟨[115, 112, 108, 105, 116]⟩⟩, (.str ⟨⟨[115, 112, 108, 105, 116]⟩⟩ 1164), (.ref 741)⟩,
    ⟨PyData.keyHash P ⟨⟨[95, 108, 97, 119, 95, 115, 105, 103, 110]⟩⟩, (.str ⟨⟨[95, 108, 97, 119, 95, 115, 105, 103, 110]⟩⟩ 1174), (.ref 748)⟩,
    ⟨PyData.keyHash P ⟨⟨[95, 108, 97, 119, 95, 115, 112, 108, 105, 116]⟩⟩, (.str ⟨⟨[95, 108, 97, 119, 95, 115, 112, 108, 105, 116]⟩⟩ 1180), (.ref 753)⟩,
    ⟨PyData.keyHash P ⟨⟨[95, 108, 97, 119, 95, 119, 97, 121]⟩⟩, (.str ⟨⟨[95, 108, 97, 119, 95, 119, 97, 121]⟩⟩ 1191), (.ref 760)⟩,
    ⟨PyData.keyHash P ⟨⟨[95, 108, 97, 119, 95, 119, 111, 114, 100, 115]⟩⟩, (.str ⟨⟨[95, 108, 97, 119, 95, 119, 111, 114, 100, 115]⟩⟩ 1202), (.ref 767)⟩,
    ⟨PyData.keyHash P ⟨⟨[95, 108, 97, 119, 95, 115, 116, 97, 110, 100, 105, 110, 103]⟩⟩, (.str ⟨⟨[95, 108, 97, 119, 95, 115, 116, 97, 110, 100, 105, 110, 103]⟩⟩ 1213), (.ref 774)⟩,
    ⟨PyData.keyHash P ⟨⟨[95, 108, 97, 119, 95, 116, 117, 114, 110, 101, 100]⟩⟩, (.str ⟨⟨[95, 108, 97, 119, 95, 116, 117, 114, 110, 101, 100]⟩⟩ 1219), (.ref 779)⟩,
    ⟨PyData.keyHash P ⟨⟨[108, 97, 119]⟩⟩, (.str ⟨⟨[108, 97, 119]⟩⟩ 1225), (.ref 784)⟩]⟩ 35), ⟨[]⟩⟩
noncomputable def o45 (P : Params) : Obj := ⟨(.type SL.s5856160107412720595x4), none, (.fields ⟨[(.str ⟨⟨[95, 98, 121, 116, 101, 115, 119, 97, 112]⟩⟩ 288), (.str ⟨⟨[95, 98, 121, 116, 101, 115, 119, 97, 112]⟩⟩ 289), (.str ⟨⟨[47, 99, 108, 97, 105, 109, 47, 99, 117, 116, 46, 112, 121]⟩⟩ 290), (.int (6) 0), (.int (2) 0), (.int (0) 0), (.int (0) 0), (.int (3) 0), (.ref 40), (.bool true), (.int (273) 0), (.ref 41), .none, (.ref 42), (.ref 43), (.ref 44), (.int (296) 0), (.int (6) 0), (.str ⟨⟨[47, 99, 108, 97, 105, 109, 47, 99, 117, 116, 46, 112, 121]⟩⟩ 297)]⟩), ⟨[]⟩⟩
noncomputable def o46 (P : Params) : Obj := ⟨(.type SL.s7174869446012820540x8), none, (.func { name := ⟨⟨[95, 98, 121, 116, 101, 115, 119, 97, 112]⟩⟩, qualname := ⟨⟨[95, 98, 121, 116, 101, 115, 119, 97, 112]⟩⟩, params := fnP (nthS 3 F.main.body), body := .stmts (fnB (nthS 3 F.main.body)), scope := fnS (nthS 3 F.main.body), globals := 3, closure := [], defaults := .none, kwdefaults := .none, doc := .none, pyModule := (.str ⟨⟨[99, 112, 121, 51, 49, 51, 46, 119, 97, 118, 101]⟩⟩ 286), annotations := none, code := (.ref 45), closureTuple := .none, builtins := 0 }), ⟨[]⟩⟩
noncomputable def o59 (P : Params) : Obj := ⟨(.type SL.s5856160107412720595x4), none, (.fields ⟨[(.str ⟨⟨[95, 105, 110, 100, 101, 120]⟩⟩ 309), (.str ⟨⟨[95, 105, 110, 100, 101, 120]⟩⟩ 310), (.str ⟨⟨[47, 99, 108, 97, 105, 109, 47, 99, 117, 116, 46, 112, 121]⟩⟩ 311), (.int (18) 0), (.int (2) 0), (.int (0) 0), (.int (0) 0), (.int (3) 0), (.ref 54), (.bool true), (.int (273) 0), (.ref 55), .none, (.ref 56), (.ref 57), (.ref 58), (.int (314) 0), (.int (18) 0), (.str ⟨⟨[47, 99, 108, 97, 105, 109, 47, 99, 117, 116, 46, 112, 121]⟩⟩ 315)]⟩), ⟨[]⟩⟩
noncomputable def o60 (P : Params) : Obj := ⟨(.type SL.s7174869446012820540x8), none, (.func { name := ⟨⟨[95, 105, 110, 100, 101, 120]⟩⟩, qualname := ⟨⟨[95, 105, 110, 100, 101, 120]⟩⟩, params := fnP (nthS 6 F.main.body), body := .stmts (fnB (nthS 6 F.main.body)), scope := fnS (nthS 6 F.main.body), globals := 3, closure := [], defaults := .none, kwdefaults := .none, doc := .none, pyModule := (.str ⟨⟨[105, 111]⟩⟩ 299), annotations := none, code := (.ref 59), closureTuple := .none, builtins := 0 }), ⟨[]⟩⟩
noncomputable def o86 (P : Params) : Obj := ⟨(.type SL.s5856160107412720595x4), none, (.fields ⟨[(.str ⟨⟨[95, 95, 110, 101, 119, 95, 95]⟩⟩ 353), (.str ⟨⟨[73, 79, 66, 97, 115, 101, 46, 95, 95, 110, 101, 119, 95, 95]⟩⟩ 354), (.str ⟨⟨[47, 99, 108, 97, 105, 109, 47, 99, 117, 116, 46, 112, 121]⟩⟩ 355), (.int (30) 0), (.int (1) 0), (.int (1) 0), (.int (0) 0), (.int (15) 0), (.ref 81), (.bool true), (.int (273) 0), (.ref 82), .none, (.ref 83), (.ref 84), (.ref 85), (.int (359) 0), (.int (30) 0), (.str ⟨⟨[47, 99, 108, 97, 105, 109, 47, 99, 117, 116, 46, 112, 121]⟩⟩ 360)]⟩), ⟨[]⟩⟩
noncomputable def o87 (P : Params) : Obj := ⟨(.type SL.s7174869446012820540x8), none, (.func { name := ⟨⟨[95, 95, 110, 101, 119, 95, 95]⟩⟩, qualname := ⟨⟨[73, 79, 66, 97, 115, 101, 46, 95, 95, 110, 101, 119, 95, 95]⟩⟩, params := fnP (nthS 1 (clsB (nthS 8 F.main.body))), body := .stmts (fnB (nthS 1 (clsB (nthS 8 F.main.body)))), scope := fnS (nthS 1 (clsB (nthS 8 F.main.body))), globals := 3, closure := [], defaults := .none, kwdefaults := .none, doc := .none, pyModule := (.str ⟨⟨[105, 111]⟩⟩ 299), annotations := none, code := (.ref 86), closureTuple := .none, builtins := 0 }), ⟨[]⟩⟩
noncomputable def o89 (P : Params) : Obj := ⟨(.type SL.s14018661285674007319x4), none, (.dict ⟨[⟨PyData.keyHash P ⟨⟨[95, 95, 109, 111, 100, 117, 108, 101, 95, 95]⟩⟩, (.str ⟨⟨[95, 95, 109, 111, 100, 117, 108, 101, 95, 95]⟩⟩ 346), (.str ⟨⟨[105, 111]⟩⟩ 351)⟩,
    ⟨PyData.keyHash P ⟨⟨[95, 95, 102, 105, 114, 115, 116, 108, 105, 110, 101, 110, 111, 95, 95]⟩⟩, (.str ⟨⟨[95, 95, 102, 105, 114, 115, 116, 108, 105, 110, 101, 110, 111, 95, 95]⟩⟩ 350), (.int (27) 349)⟩,
    ⟨PyData.keyHash P ⟨⟨[95, 95, 110, 101, 119, 95, 95]⟩⟩, (.str ⟨⟨[95, 95, 110, 101, 119, 95, 95]⟩⟩ 361), (.ref 91)⟩,
    ⟨PyData.keyHash P ⟨⟨[95, 95, 115, 116, 97, 116, 105, 99, 95, 97, 116, 116, 114, 105, 98, 117, 116, 101, 115, 95, 95]⟩⟩, (.str ⟨⟨[95, 95, 115, 116, 97, 116, 105, 99, 95, 97, 116, 116, 114, 105, 98, 117, 116, 101, 115, 95, 95]⟩⟩ 362), (.ref 88)⟩,
    ⟨PyData.keyHash P ⟨⟨[95, 95, 100, 105, 99, 116, 95, 95]⟩⟩, (.str ⟨⟨[95, 95, 100, 105, 99, 116, 95, 95]⟩⟩ 365), (.ref 92)⟩,
    ⟨PyData.keyHash P ⟨⟨[95, 95, 119, 101, 97, 107, 114, 101, 102, 95, 95]⟩⟩, (.str ⟨⟨[95, 95, 119, 101, 97, 107, 114, 101, 102, 95, 95]⟩⟩ 367), (.ref 93)⟩,
    ⟨PyData.keyHash P ⟨⟨[95, 95, 100, 111, 99, 95, 95]⟩⟩, (.str ⟨⟨[95, 95, 100, 111, 99, 95, 95]⟩⟩ 368), .none⟩]⟩ 4), ⟨[]⟩⟩
noncomputable def o90 (P : Params) : Obj := ⟨(.type SL.s17162191345867700912x4), none, (.cls { name := ⟨⟨[73, 79, 66, 97, 115, 101]⟩⟩, bases := [(.type SL.s2742458400755230247x6)], mro := [(.ref 90), (.type SL.s2742458400755230247x6)], ns := 89, qualname := ⟨⟨[73, 79, 66, 97, 115, 101]⟩⟩, hasDict := true, slotNames := [], subclasses := [(.ref 105), (.ref 117)], abstract := false, collection := none, hasDel := false }), ⟨[none, none, (some (.str ⟨⟨[73, 79, 66, 97, 115, 101]⟩⟩ 339)), (some (.str ⟨⟨[73, 79, 66, 97, 115, 101]⟩⟩ 347)), (some .none), (some (.bool true))]⟩⟩
noncomputable def o91 (P : Params) : Obj := ⟨(.type SL.s16656946322747308186x12), none, (.fields ⟨[(.ref 87)]⟩), ⟨[]⟩⟩
noncomputable def o116 (P : Params) : Obj := ⟨(.type SL.s14018661285674007319x4), none, (.dict ⟨[⟨PyData.keyHash P ⟨⟨[95, 95, 109, 111, 100, 117, 108, 101, 95, 95]⟩⟩, (.str ⟨⟨[95, 95, 109, 111, 100, 117, 108, 101, 95, 95]⟩⟩ 396), (.str ⟨⟨[105, 111]⟩⟩ 401)⟩,
    ⟨PyData.keyHash P ⟨⟨[95, 95, 102, 105, 114, 115, 116, 108, 105, 110, 101, 110, 111, 95, 95]⟩⟩, (.str ⟨⟨[95, 95, 102, 105, 114, 115, 116, 108, 105, 110, 101, 110, 111, 95, 95]⟩⟩ 400), (.int (36) 399)⟩,
    ⟨PyData.keyHash P ⟨⟨[95, 95, 115, 116, 97, 116, 105, 99, 95, 97, 116, 116, 114, 105, 98, 117, 116, 101, 115, 95, 95]⟩⟩, (.str ⟨⟨[95, 95, 115, 116, 97, 116, 105, 99, 95, 97, 116, 116, 114, 105, 98, 117, 116, 101, 115, 95, 95]⟩⟩ 403), (.ref 115)⟩,
    ⟨PyData.keyHash P ⟨⟨[95, 95, 100, 111, 99, 95, 95]⟩⟩, (.str ⟨⟨[95, 95, 100, 111, 99, 95, 95]⟩⟩ 404), .none⟩]⟩ 2), ⟨[]⟩⟩
noncomputable def o117 (P : Params) : Obj := ⟨(.type SL.s17162191345867700912x4), none, (.cls { name := ⟨⟨[84, 101, 120, 116, 73, 79, 66, 97, 115, 101]⟩⟩, bases := [(.ref 90)], mro := [(.ref 117), (.ref 90), (.type SL.s2742458400755230247x6)], ns := 116, qualname := ⟨⟨[84, 101, 120, 116, 73, 79, 66, 97, 115, 101]⟩⟩, hasDict := true, slotNames := [], subclasses := [(.ref 594)], abstract := false, collection := none, hasDel := false }), ⟨[(some (.ref 108)), none, (some (.str ⟨⟨[84, 101, 120, 116, 73, 79, 66, 97, 115, 101]⟩⟩ 389)), (some (.str ⟨⟨[84, 101, 120, 116, 73, 79, 66, 97, 115, 101]⟩⟩ 397)), (some .none), (some (.bool true))]⟩⟩
noncomputable def o347 (P : Params) : Obj := ⟨(.type SL.s17162191345867700912x4), none, (.cls { name := ⟨⟨[66, 121, 116, 101, 115, 73, 79]⟩⟩, bases := [(.ref 105)], mro := [(.ref 347), (.ref 105), (.ref 90), (.type SL.s2742458400755230247x6)], ns := 346, qualname := ⟨⟨[66, 121, 116, 101, 115, 73, 79]⟩⟩, hasDict := true, slotNames := [], subclasses := [], abstract := false, collection := none, hasDel := false }), ⟨[(some (.ref 120)), none, (some (.str ⟨⟨[66, 121, 116, 101, 115, 73, 79]⟩⟩ 407)), (some (.str ⟨⟨[66, 121, 116, 101, 115, 73, 79]⟩⟩ 415)), (some .none), (some (.bool true))]⟩⟩
noncomputable def o357 (P : Params) : Obj := ⟨(.type SL.s2766695959194262286x5), none, (.seq ⟨[(.str ⟨⟨[]⟩⟩ 683), (.str ⟨⟨[10]⟩⟩ 684)]⟩ 0), ⟨[]⟩⟩
noncomputable def o363 (P : Params) : Obj := ⟨(.type SL.s5856160107412720595x4), none, (.fields ⟨[(.str ⟨⟨[95, 95, 105, 110, 105, 116, 95, 95]⟩⟩ 685), (.str ⟨⟨[83, 116, 114, 105, 110, 103, 73, 79, 46, 95, 95, 105, 110, 105, 116, 95, 95]⟩⟩ 686), (.str ⟨⟨[47, 99, 108, 97, 105, 109, 47, 99, 117, 116, 46, 112, 121]⟩⟩ 687), (.int (211) 0), (.int (3) 0), (.int (0) 0), (.int (0) 0), (.int (3) 0), (.ref 358), (.bool true), (.int (273) 0), (.ref 359), .none, (.ref 360), (.ref 361), (.ref 362), (.int (691) 0), (.int (211) 0), (.str ⟨⟨[47, 99, 108, 97, 105, 109, 47, 99, 117, 116, 46, 112, 121]⟩⟩ 692)]⟩), ⟨[]⟩⟩
noncomputable def o364 (P : Params) : Obj := ⟨(.type SL.s7174869446012820540x8), none, (.func { name := ⟨⟨[95, 95, 105, 110, 105, 116, 95, 95]⟩⟩, qualname := ⟨⟨[83, 116, 114, 105, 110, 103, 73, 79, 46, 95, 95, 105, 110, 105, 116, 95, 95]⟩⟩, params := fnP (nthS 1 (clsB (nthS 12 F.main.body))), body := .stmts (fnB (nthS 1 (clsB (nthS 12 F.main.body)))), scope := fnS (nthS 1 (clsB (nthS 12 F.main.body))), globals := 3, closure := [], defaults := (.ref 357), kwdefaults := .none, doc := .none, pyModule := (.str ⟨⟨[105, 111]⟩⟩ 299), annotations := none, code := (.ref 363), closureTuple := .none, builtins := 0 }), ⟨[]⟩⟩
noncomputable def o370 (P : Params) : Obj := ⟨(.type SL.s5856160107412720595x4), none, (.fields ⟨[(.str ⟨⟨[95, 95, 116, 114, 97, 110, 115, 108, 97, 116, 101, 100]⟩⟩ 694), (.str ⟨⟨[83, 116, 114, 105, 110, 103, 73, 79, 46, 95, 95, 116, 114, 97, 110, 115, 108, 97, 116, 101, 100]⟩⟩ 695), (.str ⟨⟨[47, 99, 108, 97, 105, 109, 47, 99, 117, 116, 46, 112, 121]⟩⟩ 696), (.int (224) 0), (.int (2) 0), (.int (0) 0), (.int (0) 0), (.int (3) 0), (.ref 365), (.bool true), (.int (273) 0), (.ref 366), .none, (.ref 367), (.ref 368), (.ref 369), (.int (700) 0), (.int (224) 0), (.str ⟨⟨[47, 99, 108, 97, 105, 109, 47, 99, 117, 116, 46, 112, 121]⟩⟩ 701)]⟩), ⟨[]⟩⟩
noncomputable def o371 (P : Params) : Obj := ⟨(.type SL.s7174869446012820540x8), none, (.func { name := ⟨⟨[95, 95, 116, 114, 97, 110, 115, 108, 97, 116, 101, 100]⟩⟩, qualname := ⟨⟨[83, 116, 114, 105, 110, 103, 73, 79, 46, 95, 95, 116, 114, 97, 110, 115, 108, 97, 116, 101, 100]⟩⟩, params := fnP (nthS 2 (clsB (nthS 12 F.main.body))), body := .stmts (fnB (nthS 2 (clsB (nthS 12 F.main.body)))), scope := fnS (nthS 2 (clsB (nthS 12 F.main.body))), globals := 3, closure := [], defaults := .none, kwdefaults := .none, doc := .none, pyModule := (.str ⟨⟨[105, 111]⟩⟩ 299), annotations := none, code := (.ref 370), closureTuple := .none, builtins := 0 }), ⟨[]⟩⟩
noncomputable def o377 (P : Params) : Obj := ⟨(.type SL.s5856160107412720595x4), none, (.fields ⟨[(.str ⟨⟨[95, 95, 99, 104, 101, 99, 107]⟩⟩ 703), (.str ⟨⟨[83, 116, 114, 105, 110, 103, 73, 79, 46, 95, 95, 99, 104, 101, 99, 107]⟩⟩ 704), (.str ⟨⟨[47, 99, 108, 97, 105, 109, 47, 99, 117, 116, 46, 112, 121]⟩⟩ 705), (.int (232) 0), (.int (1) 0), (.int (0) 0), (.int (0) 0), (.int (3) 0), (.ref 372), (.bool true), (.int (273) 0), (.ref 373), .none, (.ref 374), (.ref 375), (.ref 376), (.int (707) 0), (.int (232) 0), (.str ⟨⟨[47, 99, 108, 97, 105, 109, 47, 99, 117, 116, 46, 112, 121]⟩⟩ 708)]⟩), ⟨[]⟩⟩
noncomputable def o378 (P : Params) : Obj := ⟨(.type SL.s7174869446012820540x8), none, (.func { name := ⟨⟨[95, 95, 99, 104, 101, 99, 107]⟩⟩, qualname := ⟨⟨[83, 116, 114, 105, 110, 103, 73, 79, 46, 95, 95, 99, 104, 101, 99, 107]⟩⟩, params := fnP (nthS 3 (clsB (nthS 12 F.main.body))), body := .stmts (fnB (nthS 3 (clsB (nthS 12 F.main.body)))), scope := fnS (nthS 3 (clsB (nthS 12 F.main.body))), globals := 3, closure := [], defaults := .none, kwdefaults := .none, doc := .none, pyModule := (.str ⟨⟨[105, 111]⟩⟩ 299), annotations := none, code := (.ref 377), closureTuple := .none, builtins := 0 }), ⟨[]⟩⟩
noncomputable def o533 (P : Params) : Obj := ⟨(.type SL.s2766695959194262286x5), none, (.seq ⟨[(.int (-1) 876)]⟩ 0), ⟨[]⟩⟩
noncomputable def o539 (P : Params) : Obj := ⟨(.type SL.s5856160107412720595x4), none, (.fields ⟨[(.str ⟨⟨[114, 101, 97, 100]⟩⟩ 877), (.str ⟨⟨[83, 116, 114, 105, 110, 103, 73, 79, 46, 114, 101, 97, 100]⟩⟩ 878), (.str ⟨⟨[47, 99, 108, 97, 105, 109, 47, 99, 117, 116, 46, 112, 121]⟩⟩ 879), (.int (354) 0), (.int (2) 0), (.int (2) 0), (.int (0) 0), (.int (3) 0), (.ref 534), (.bool true), (.int (273) 0), (.ref 535), .none, (.ref 536), (.ref 537), (.ref 538), (.int (884) 0), (.int (354) 0), (.str ⟨⟨[47, 99, 108, 97, 105, 109, 47, 99, 117, 116, 46, 112, 121]⟩⟩ 885)]⟩), ⟨[]⟩⟩
noncomputable def o540 (P : Params) : Obj := ⟨(.type SL.s7174869446012820540x8), none, (.func { name := ⟨⟨[114, 101, 97, 100]⟩⟩, qualname := ⟨⟨[83, 116, 114, 105, 110, 103, 73, 79, 46, 114, 101, 97, 100]⟩⟩, params := fnP (nthS 25 (clsB (nthS 12 F.main.body))), body := .stmts (fnB (nthS 25 (clsB (nthS 12 F.main.body)))), scope := fnS (nthS 25 (clsB (nthS 12 F.main.body))), globals := 3, closure := [], defaults := (.ref 533), kwdefaults := .none, doc := .none, pyModule := (.str ⟨⟨[105, 111]⟩⟩ 299), annotations := none, code := (.ref 539), closureTuple := .none, builtins := 0 }), ⟨[]⟩⟩
noncomputable def o593 (P : Params) : Obj := ⟨(.type SL.s14018661285674007319x4), none, (.dict ⟨[⟨PyData.keyHash P ⟨⟨[95, 95, 109, 111, 100, 117, 108, 101, 95, 95]⟩⟩, (.str ⟨⟨[95, 95, 109, 111, 100, 117, 108, 101, 95, 95]⟩⟩ 676), (.str ⟨⟨[95, 105, 111]⟩⟩ 681)⟩,
    ⟨PyData.keyHash P ⟨⟨[95, 95, 102, 105, 114, 115, 116, 108, 105, 110, 101, 110, 111, 95, 95]⟩⟩, (.str ⟨⟨[95, 95, 102, 105, 114, 115, 116, 108, 105, 110, 101, 110, 111, 95, 95]⟩⟩ 680), (.int (208) 679)⟩,
    ⟨PyData.keyHash P ⟨⟨[95, 95, 105, 110, 105, 116, 95, 95]⟩⟩, (.str ⟨⟨[95, 95, 105, 110, 105, 116, 95, 95]⟩⟩ 693), (.ref 364)⟩,
    ⟨PyData.keyHash P ⟨⟨[95, 83, 116, 114, 105, 110, 103, 73, 79, 95, 95, 116, 114, 97, 110, 115, 108, 97, 116, 101, 100]⟩⟩, (.str ⟨⟨[95, 83, 116, 114, 105, 110, 103, 73, 79, 95, 95, 116, 114, 97, 110, 115, 108, 97, 116, 101, 100]⟩⟩ 702), (.ref 371)⟩,
    ⟨PyData.keyHash P ⟨⟨[95, 83, 116, 114, 105, 110, 103, 73, 79, 95, 95, 99, 104, 101, 99, 107]⟩⟩, (.str ⟨⟨[95, 83, 116, 114, 105, 110, 103, 73, 79, 95, 95, 99, 104, 101, 99, 107]⟩⟩ 709), (.ref 378)⟩,
    ⟨PyData.keyHash P ⟨⟨[95, 83, 116, 114, 105, 110, 103, 73, 79, 95, 95, 99, 104, 101, 99, 107, 95, 100, 111, 116]⟩⟩, (.str ⟨⟨[95, 83, 116, 114, 105, 110, 103, 73, 79, 95, 95, 99, 104, 101, 99, 107, 95, 100, 111, 116]⟩⟩ 716), (.ref 385)⟩,
    ⟨PyData.keyHash P ⟨⟨[95, 83, 116, 114, 105, 110, 103, 73, 79, 95, 95, 108, 105, 110, 101]⟩⟩, (.str ⟨⟨[95, 83, 116, 114, 105, 110, 103, 73, 79, 95, 95, 108, 105, 110, 101]⟩⟩ 731), (.ref 392)⟩,
    ⟨PyData.keyHash P ⟨⟨[99, 108, 111, 115, 101, 100]⟩⟩, (.str ⟨⟨[99, 108, 111, 115, 101, 100]⟩⟩ 739), (.ref 400)⟩,
    ⟨PyData.keyHash P ⟨⟨[108, 105, 110, 101, 95, 98, 117, 102, 102, 101, 114, 105, 110, 103]⟩⟩, (.str ⟨⟨[108, 105, 110, 101, 95, 98, 117, 102, 102, 101, 114, 105, 110, 103]⟩⟩ 747), (.ref 408)⟩,
    ⟨PyData.keyHash P ⟨⟨[110, 101, 119, 108, 105, 110, 101, 115]⟩⟩, (.str ⟨⟨[110, 101, 119, 108, 105, 110, 101, 115]⟩⟩ 755), (.ref 416)⟩,
    ⟨PyData.keyHash P ⟨⟨[101, 110, 99, 111, 100, 105, 110, 103]⟩⟩, (.str ⟨⟨[101, 110, 99, 111, 100, 105, 110, 103]⟩⟩ 763), (.ref 424)⟩,
    ⟨PyData.keyHash P ⟨⟨[101, 114, 114, 111, 114, 115]⟩⟩, (.str ⟨⟨[101, 114, 114, 111, 114, 115]⟩⟩ 771), (.ref 432)⟩,
    ⟨PyData.keyHash P ⟨⟨[99, 108, 111, 115, 101]⟩⟩, (.str ⟨⟨[99, 108, 111, 115, 101]⟩⟩ 778), (.ref 439)⟩,
    ⟨PyData.keyHash P ⟨⟨[95, 95, 101, 110, 116, 101, 114, 95, 95]⟩⟩, (.str ⟨⟨[95, 95, 101, 110, 116, 101, 114, 95, 95]⟩⟩ 785), (.ref 446)⟩,
    ⟨PyData.keyHash P ⟨⟨[95, 95, 101, 120, 105, 116, 95, 95]⟩⟩, (.str ⟨⟨[95, 95, 101, 120, 105, 116, 95, 95]⟩⟩ 793), (.ref 453)⟩,
    ⟨PyData.keyHash P ⟨⟨[114, 101, 97, 100, 97, 98, 108, 101]⟩⟩, (.str ⟨⟨[114, 101, 97, 100, 97, 98, 108, 101]⟩⟩ 800), (.ref 460)⟩,
    ⟨PyData.keyHash P ⟨⟨[119, 114, 105, 116, 97, 98, 108, 101]⟩⟩, (.str ⟨⟨[119, 114, 105, 116, 97, 98, 108, 101]⟩⟩ 807), (.ref 467)⟩,
    ⟨PyData.keyHash P ⟨⟨[115, 101, 101, 107, 97, 98, 108, 101]⟩⟩, (.str ⟨⟨[115, 101, 101, 107, 97, 98, 108, 101]⟩⟩ 814), (.ref 474)⟩,
    ⟨PyData.keyHash P ⟨⟨[105, 115, 97, 116, 116, 121]⟩⟩, (.str ⟨⟨[105, 115, 97, 116, 116, 121]⟩⟩ 821), (.ref 481)⟩,
    ⟨PyData.keyHash P ⟨⟨[102, 108, 117, 115, 104]⟩⟩, (.str ⟨⟨[102, 108, 117, 115, 104]⟩⟩ 828), (.ref 488)⟩,
    ⟨PyData.keyHash P ⟨⟨[102, 105, 108, 101, 110, 111]⟩⟩, (.str ⟨⟨[102, 105, 108, 101, 110, 111]⟩⟩ 835), (.ref 495)⟩,
    ⟨PyData.keyHash P ⟨⟨[100, 101, 116, 97, 99, 104]⟩⟩, (.str ⟨⟨[100, 101, 116, 97, 99, 104]⟩⟩ 842), (.ref 502)⟩,
    ⟨PyData.keyHash P ⟨⟨[103, 101, 116, 118, 97, 108, 117, 101]⟩⟩, (.str ⟨⟨[103, 101, 116, 118, 97, 108, 117, 101]⟩⟩ 849), (.ref 509)⟩,
    ⟨PyData.keyHash P ⟨⟨[116, 101, 108, 108]⟩⟩, (.str ⟨⟨[116, 101, 108, 108]⟩⟩ 856), (.ref 516)⟩,
    ⟨PyData.keyHash P ⟨⟨[115, 101, 101, 107]⟩⟩, (.str ⟨⟨[115, 101, 101, 107]⟩⟩ 866), (.ref 524)⟩,
    ⟨PyData.keyHash P ⟨⟨[116, 114, 117, 110, 99, 97, 116, 101]⟩⟩, (.str ⟨⟨[116, 114, 117, 110, 99, 97, 116, 101]⟩⟩ 874), (.ref 532)⟩,
    ⟨PyData.keyHash P ⟨⟨[114, 101, 97, 100]⟩⟩, (.str ⟨⟨[114, 101, 97, 100]⟩⟩ 886), (.ref 540)⟩,
    ⟨PyData.keyHash P ⟨⟨[114, 101, 97, 100, 108, 105, 110, 101]⟩⟩, (.str ⟨⟨[114, 101, 97, 100, 108, 105, 110, 101]⟩⟩ 896), (.ref 548)⟩,
    ⟨PyData.keyHash P ⟨⟨[114, 101, 97, 100, 108, 105, 110, 101, 115]⟩⟩, (.str ⟨⟨[114, 101, 97, 100, 108, 105, 110, 101, 115]⟩⟩ 906), (.ref 556)⟩,
    ⟨PyData.keyHash P ⟨⟨[95, 95, 105, 116, 101, 114, 95, 95]⟩⟩, (.str ⟨⟨[95, 95, 105, 116, 101, 114, 95, 95]⟩⟩ 913), (.ref 563)⟩,
    ⟨PyData.keyHash P ⟨⟨[95, 95, 110, 101, 120, 116, 95, 95]⟩⟩, (.str ⟨⟨[95, 95, 110, 101, 120, 116, 95, 95]⟩⟩ 921), (.ref 570)⟩,
    ⟨PyData.keyHash P ⟨⟨[119, 114, 105, 116, 101]⟩⟩, (.str ⟨⟨[119, 114, 105, 116, 101]⟩⟩ 933), (.ref 577)⟩,
    ⟨PyData.keyHash P ⟨⟨[119, 114, 105, 116, 101, 108, 105, 110, 101, 115]⟩⟩, (.str ⟨⟨[119, 114, 105, 116, 101, 108, 105, 110, 101, 115]⟩⟩ 941), (.ref 584)⟩,
    ⟨PyData.keyHash P ⟨⟨[95, 95, 114, 101, 112, 114, 95, 95]⟩⟩, (.str ⟨⟨[95, 95, 114, 101, 112, 114, 95, 95]⟩⟩ 948), (.ref 591)⟩,
    ⟨PyData.keyHash P ⟨⟨[95, 95, 115, 116, 97, 116, 105, 99, 95, 97, 116, 116, 114, 105, 98, 117, 116, 101, 115, 95, 95]⟩⟩, (.str ⟨⟨[95, 95, 115, 116, 97, 116, 105, 99, 95, 97, 116, 116, 114, 105, 98, 117, 116, 101, 115, 95, 95]⟩⟩ 952), (.ref 592)⟩,
    ⟨PyData.keyHash P ⟨⟨[95, 95, 100, 111, 99, 95, 95]⟩⟩, (.str ⟨⟨[95, 95, 100, 111, 99, 95, 95]⟩⟩ 953), .none⟩]⟩ 2), ⟨[]⟩⟩
noncomputable def o594 (P : Params) : Obj := ⟨(.type SL.s17162191345867700912x4), none, (.cls { name := ⟨⟨[83, 116, 114, 105, 110, 103, 73, 79]⟩⟩, bases := [(.ref 117)], mro := [(.ref 594), (.ref 117), (.ref 90), (.type SL.s2742458400755230247x6)], ns := 593, qualname := ⟨⟨[83, 116, 114, 105, 110, 103, 73, 79]⟩⟩, hasDict := true, slotNames := [], subclasses := [], abstract := false, collection := none, hasDel := false }), ⟨[(some (.ref 350)), none, (some (.str ⟨⟨[83, 116, 114, 105, 110, 103, 73, 79]⟩⟩ 669)), (some (.str ⟨⟨[83, 116, 114, 105, 110, 103, 73, 79]⟩⟩ 677)), (some .none), (some (.bool true))]⟩⟩
noncomputable def o646 (P : Params) : Obj := ⟨(.type SL.s2766695959194262286x5), none, (.seq ⟨[.none, .none, (.bool false), (.bool false)]⟩ 0), ⟨[]⟩⟩
noncomputable def o652 (P : Params) : Obj := ⟨(.type SL.s5856160107412720595x4), none, (.fields ⟨[(.str ⟨⟨[95, 95, 105, 110, 105, 116, 95, 95]⟩⟩ 1028), (.str ⟨⟨[115, 104, 108, 101, 120, 46, 95, 95, 105, 110, 105, 116, 95, 95]⟩⟩ 1029), (.str ⟨⟨[47, 99, 108, 97, 105, 109, 47, 99, 117, 116, 46, 112, 121]⟩⟩ 1030), (.int (479) 0), (.int (5) 0), (.int (0) 0), (.int (0) 0), (.int (3) 0), (.ref 647), (.bool true), (.int (273) 0), (.ref 648), .none, (.ref 649), (.ref 650), (.ref 651), (.int (1037) 0), (.int (479) 0), (.str ⟨⟨[47, 99, 108, 97, 105, 109, 47, 99, 117, 116, 46, 112, 121]⟩⟩ 1038)]⟩), ⟨[]⟩⟩
noncomputable def o653 (P : Params) : Obj := ⟨(.type SL.s7174869446012820540x8), none, (.func { name := ⟨⟨[95, 95, 105, 110, 105, 116, 95, 95]⟩⟩, qualname := ⟨⟨[115, 104, 108, 101, 120, 46, 95, 95, 105, 110, 105, 116, 95, 95]⟩⟩, params := fnP (nthS 0 (clsB (nthS 21 F.main.body))), body := .stmts (fnB (nthS 0 (clsB (nthS 21 F.main.body)))), scope := fnS (nthS 0 (clsB (nthS 21 F.main.body))), globals := 3, closure := [], defaults := (.ref 646), kwdefaults := .none, doc := .none, pyModule := (.str ⟨⟨[99, 112, 121, 51, 49, 51, 46, 115, 104, 108, 101, 120]⟩⟩ 1014), annotations := none, code := (.ref 652), closureTuple := .none, builtins := 0 }), ⟨[]⟩⟩
noncomputable def o659 (P : Params) : Obj := ⟨(.type SL.s5856160107412720595x4), none, (.fields ⟨[(.str ⟨⟨[112, 117, 110, 99, 116, 117, 97, 116, 105, 111, 110, 95, 99, 104, 97, 114, 115]⟩⟩ 1040), (.str ⟨⟨[115, 104, 108, 101, 120, 46, 112, 117, 110, 99, 116, 117, 97, 116, 105, 111, 110, 95, 99, 104, 97, 114, 115]⟩⟩ 1041), (.str ⟨⟨[47, 99, 108, 97, 105, 109, 47, 99, 117, 116, 46, 112, 121]⟩⟩ 1042), (.int (520) 0), (.int (1) 0), (.int (0) 0), (.int (0) 0), (.int (3) 0), (.ref 654), (.bool true), (.int (273) 0), (.ref 655), .none, (.ref 656), (.ref 657), (.ref 658), (.int (1044) 0), (.int (520) 0), (.str ⟨⟨[47, 99, 108, 97, 105, 109, 47, 99, 117, 116, 46, 112, 121]⟩⟩ 1045)]⟩), ⟨[]⟩⟩
noncomputable def o660 (P : Params) : Obj := ⟨(.type SL.s7174869446012820540x8), none, (.func { name := ⟨⟨[112, 117, 110, 99, 116, 117, 97, 116, 105, 111, 110, 95, 99, 104, 97, 114, 115]⟩⟩, qualname := ⟨⟨[115, 104, 108, 101, 120, 46, 112, 117, 110, 99, 116, 117, 97, 116, 105, 111, 110, 95, 99, 104, 97, 114, 115]⟩⟩, params := fnP (nthS 1 (clsB (nthS 21 F.main.body))), body := .stmts (fnB (nthS 1 (clsB (nthS 21 F.main.body)))), scope := fnS (nthS 1 (clsB (nthS 21 F.main.body))), globals := 3, closure := [], defaults := .none, kwdefaults := .none, doc := .none, pyModule := (.str ⟨⟨[99, 112, 121, 51, 49, 51, 46, 115, 104, 108, 101, 120]⟩⟩ 1014), annotations := none, code := (.ref 659), closureTuple := .none, builtins := 0 }), ⟨[]⟩⟩
noncomputable def o661 (P : Params) : Obj := ⟨(.type SL.s8101838861749082086x8), none, (.fields ⟨[(.ref 660), .none, .none, .none, (.str ⟨⟨[112, 117, 110, 99, 116, 117, 97, 116, 105, 111, 110, 95, 99, 104, 97, 114, 115]⟩⟩ 1047), (.bool false)]⟩), ⟨[]⟩⟩
noncomputable def o689 (P : Params) : Obj := ⟨(.type SL.s5856160107412720595x4), none, (.fields ⟨[(.str ⟨⟨[103, 101, 116, 95, 116, 111, 107, 101, 110]⟩⟩ 1072), (.str ⟨⟨[115, 104, 108, 101, 120, 46, 103, 101, 116, 95, 116, 111, 107, 101, 110]⟩⟩ 1073), (.str ⟨⟨[47, 99, 108, 97, 105, 109, 47, 99, 117, 116, 46, 112, 121]⟩⟩ 1074), (.int (547) 0), (.int (1) 0), (.int (0) 0), (.int (0) 0), (.int (3) 0), (.ref 684), (.bool true), (.int (273) 0), (.ref 685), .none, (.ref 686), (.ref 687), (.ref 688), (.int (1081) 0), (.int (547) 0), (.str ⟨⟨[47, 99, 108, 97, 105, 109, 47, 99, 117, 116, 46, 112, 121]⟩⟩ 1082)]⟩), ⟨[]⟩⟩
noncomputable def o690 (P : Params) : Obj := ⟨(.type SL.s7174869446012820540x8), none, (.func { name := ⟨⟨[103, 101, 116, 95, 116, 111, 107, 101, 110]⟩⟩, qualname := ⟨⟨[115, 104, 108, 101, 120, 46, 103, 101, 116, 95, 116, 111, 107, 101, 110]⟩⟩, params := fnP (nthS 5 (clsB (nthS 21 F.main.body))), body := .stmts (fnB (nthS 5 (clsB (nthS 21 F.main.body)))), scope := fnS (nthS 5 (clsB (nthS 21 F.main.body))), globals := 3, closure := [], defaults := .none, kwdefaults := .none, doc := .none, pyModule := (.str ⟨⟨[99, 112, 121, 51, 49, 51, 46, 115, 104, 108, 101, 120]⟩⟩ 1014), annotations := none, code := (.ref 689), closureTuple := .none, builtins := 0 }), ⟨[]⟩⟩
noncomputable def o696 (P : Params) : Obj := ⟨(.type SL.s5856160107412720595x4), none, (.fields ⟨[(.str ⟨⟨[114, 101, 97, 100, 95, 116, 111, 107, 101, 110]⟩⟩ 1084), (.str ⟨⟨[115, 104, 108, 101, 120, 46, 114, 101, 97, 100, 95, 116, 111, 107, 101, 110]⟩⟩ 1085), (.str ⟨⟨[47, 99, 108, 97, 105, 109, 47, 99, 117, 116, 46, 112, 121]⟩⟩ 1086), (.int (574) 0), (.int (1) 0), (.int (0) 0), (.int (0) 0), (.int (3) 0), (.ref 691), (.bool true), (.int (273) 0), (.ref 692), .none, (.ref 693), (.ref 694), (.ref 695), (.int (1092) 0), (.int (574) 0), (.str ⟨⟨[47, 99, 108, 97, 105, 109, 47, 99, 117, 116, 46, 112, 121]⟩⟩ 1093)]⟩), ⟨[]⟩⟩
noncomputable def o697 (P : Params) : Obj := ⟨(.type SL.s7174869446012820540x8), none, (.func { name := ⟨⟨[114, 101, 97, 100, 95, 116, 111, 107, 101, 110]⟩⟩, qualname := ⟨⟨[115, 104, 108, 101, 120, 46, 114, 101, 97, 100, 95, 116, 111, 107, 101, 110]⟩⟩, params := fnP (nthS 6 (clsB (nthS 21 F.main.body))), body := .stmts (fnB (nthS 6 (clsB (nthS 21 F.main.body)))), scope := fnS (nthS 6 (clsB (nthS 21 F.main.body))), globals := 3, closure := [], defaults := .none, kwdefaults := .none, doc := .none, pyModule := (.str ⟨⟨[99, 112, 121, 51, 49, 51, 46, 115, 104, 108, 101, 120]⟩⟩ 1014), annotations := none, code := (.ref 696), closureTuple := .none, builtins := 0 }), ⟨[]⟩⟩
noncomputable def o718 (P : Params) : Obj := ⟨(.type SL.s5856160107412720595x4), none, (.fields ⟨[(.str ⟨⟨[95, 95, 105, 116, 101, 114, 95, 95]⟩⟩ 1112), (.str ⟨⟨[115, 104, 108, 101, 120, 46, 95, 95, 105, 116, 101, 114, 95, 95]⟩⟩ 1113), (.str ⟨⟨[47, 99, 108, 97, 105, 109, 47, 99, 117, 116, 46, 112, 121]⟩⟩ 1114), (.int (721) 0), (.int (1) 0), (.int (0) 0), (.int (0) 0), (.int (3) 0), (.ref 713), (.bool true), (.int (273) 0), (.ref 714), .none, (.ref 715), (.ref 716), (.ref 717), (.int (1116) 0), (.int (721) 0), (.str ⟨⟨[47, 99, 108, 97, 105, 109, 47, 99, 117, 116, 46, 112, 121]⟩⟩ 1117)]⟩), ⟨[]⟩⟩
noncomputable def o719 (P : Params) : Obj := ⟨(.type SL.s7174869446012820540x8), none, (.func { name := ⟨⟨[95, 95, 105, 116, 101, 114, 95, 95]⟩⟩, qualname := ⟨⟨[115, 104, 108, 101, 120, 46, 95, 95, 105, 116, 101, 114, 95, 95]⟩⟩, params := fnP (nthS 9 (clsB (nthS 21 F.main.body))), body := .stmts (fnB (nthS 9 (clsB (nthS 21 F.main.body)))), scope := fnS (nthS 9 (clsB (nthS 21 F.main.body))), globals := 3, closure := [], defaults := .none, kwdefaults := .none, doc := .none, pyModule := (.str ⟨⟨[99, 112, 121, 51, 49, 51, 46, 115, 104, 108, 101, 120]⟩⟩ 1014), annotations := none, code := (.ref 718), closureTuple := .none, builtins := 0 }), ⟨[]⟩⟩
noncomputable def o725 (P : Params) : Obj := ⟨(.type SL.s5856160107412720595x4), none, (.fields ⟨[(.str ⟨⟨[95, 95, 110, 101, 120, 116, 95, 95]⟩⟩ 1119), (.str ⟨⟨[115, 104, 108, 101, 120, 46, 95, 95, 110, 101, 120, 116, 95, 95]⟩⟩ 1120), (.str ⟨⟨[47, 99, 108, 97, 105, 109, 47, 99, 117, 116, 46, 112, 121]⟩⟩ 1121), (.int (724) 0), (.int (1) 0), (.int (0) 0), (.int (0) 0), (.int (3) 0), (.ref 720), (.bool true), (.int (273) 0), (.ref 721), .none, (.ref 722), (.ref 723), (.ref 724), (.int (1124) 0), (.int (724) 0), (.str ⟨⟨[47, 99, 108, 97, 105, 109, 47, 99, 117, 116, 46, 112, 121]⟩⟩ 1125)]⟩), ⟨[]⟩⟩
noncomputable def o726 (P : Params) : Obj := ⟨(.type SL.s7174869446012820540x8), none, (.func { name := ⟨⟨[95, 95, 110, 101, 120, 116, 95, 95]⟩⟩, qualname := ⟨⟨[115, 104, 108, 101, 120, 46, 95, 95, 110, 101, 120, 116, 95, 95]⟩⟩, params := fnP (nthS 10 (clsB (nthS 21 F.main.body))), body := .stmts (fnB (nthS 10 (clsB (nthS 21 F.main.body)))), scope := fnS (nthS 10 (clsB (nthS 21 F.main.body))), globals := 3, closure := [], defaults := .none, kwdefaults := .none, doc := .none, pyModule := (.str ⟨⟨[99, 112, 121, 51, 49, 51, 46, 115, 104, 108, 101, 120]⟩⟩ 1014), annotations := none, code := (.ref 725), closureTuple := .none, builtins := 0 }), ⟨[]⟩⟩
noncomputable def o728 (P : Params) : Obj := ⟨(.type SL.s14018661285674007319x4), none, (.dict ⟨[⟨PyData.keyHash P ⟨⟨[95, 95, 109, 111, 100, 117, 108, 101, 95, 95]⟩⟩, (.str ⟨⟨[95, 95, 109, 111, 100, 117, 108, 101, 95, 95]⟩⟩ 1023), (.str ⟨⟨[99, 112, 121, 51, 49, 51, 46, 115, 104, 108, 101, 120]⟩⟩ 1014)⟩,
    ⟨PyData.keyHash P ⟨⟨[95, 95, 102, 105, 114, 115, 116, 108, 105, 110, 101, 110, 111, 95, 95]⟩⟩, (.str ⟨⟨[95, 95, 102, 105, 114, 115, 116, 108, 105, 110, 101, 110, 111, 95, 95]⟩⟩ 1027), (.int (477) 1026)⟩,
    ⟨PyData.keyHash P ⟨⟨[95, 95, 105, 110, 105, 116, 95, 95]⟩⟩, (.str ⟨⟨[95, 95, 105, 110, 105, 116, 95, 95]⟩⟩ 1039), (.ref 653)⟩,
    ⟨PyData.keyHash P ⟨⟨[112, 117, 110, 99, 116, 117, 97, 116, 105, 111, 110, 95, 99, 104, 97, 114, 115]⟩⟩, (.str ⟨⟨[112, 117, 110, 99, 116, 117, 97, 116, 105, 111, 110, 95, 99, 104, 97, 114, 115]⟩⟩ 1047), (.ref 661)⟩,
    ⟨PyData.keyHash P ⟨⟨[112, 117, 115, 104, 95, 116, 111, 107, 101, 110]⟩⟩, (.str ⟨⟨[112, 117, 115, 104, 95, 116, 111, 107, 101, 110]⟩⟩ 1055), (.ref 668)⟩,
    ⟨PyData.keyHash P ⟨⟨[112, 117, 115, 104, 95, 115, 111, 117, 114, 99, 101]⟩⟩, (.str ⟨⟨[112, 117, 115, 104, 95, 115, 111, 117, 114, 99, 101]⟩⟩ 1064), (.ref 676)⟩,
    ⟨PyData.keyHash P ⟨⟨[112, 111, 112, 95, 115, 111, 117, 114, 99, 101]⟩⟩, (.str ⟨⟨[112, 111, 112, 95, 115, 111, 117, 114, 99, 101]⟩⟩ 1071), (.ref 683)⟩,
    ⟨PyData.keyHash P ⟨⟨[103, 101, 116, 95, 116, 111, 107, 101, 110]⟩⟩, (.str ⟨⟨[103, 101, 116, 95, 116, 111, 107, 101, 110]⟩⟩ 1083), (.ref 690)⟩,
    ⟨PyData.keyHash P ⟨⟨[114, 101, 97, 100, 95, 116, 111, 107, 101, 110]⟩⟩, (.str ⟨⟨[114, 101, 97, 100, 95, 116, 111, 107, 101, 110]⟩⟩ 1094), (.ref 697)⟩,
    ⟨PyData.keyHash P ⟨⟨[115, 111, 117, 114, 99, 101, 104, 111, 111, 107]⟩⟩, (.str ⟨⟨[115, 111, 117, 114, 99, 101, 104, 111, 111, 107]⟩⟩ 1102), (.ref 704)⟩,
    ⟨PyData.keyHash P ⟨⟨[101, 114, 114, 111, 114, 95, 108, 101, 97, 100, 101, 114]⟩⟩, (.str ⟨⟨[101, 114, 114, 111, 114, 95, 108, 101, 97, 100, 101, 114]⟩⟩ 1111), (.ref 712)⟩,
    ⟨PyData.keyHash P ⟨⟨[95, 95, 105, 116, 101, 114, 95, 95]⟩⟩, (.str ⟨⟨[95, 95, 105, 116, 101, 114, 95, 95]⟩⟩ 1118), (.ref 719)⟩,
    ⟨PyData.keyHash P ⟨⟨[95, 95, 110, 101, 120, 116, 95, 95]⟩⟩, (.str ⟨⟨[95, 95, 110, 101, 120, 116, 95, 95]⟩⟩ 1126), (.ref 726)⟩,
    ⟨PyData.keyHash P ⟨⟨[95, 95, 115, 116, 97, 116, 105, 99, 95, 97, 116, 116, 114, 105, 98, 117, 116, 101, 115, 95, 95]⟩⟩, (.str ⟨⟨[95, 95, 115, 116, 97, 116, 105, 99, 95, 97, 116, 116, 114, 105, 98, 117, 116, 101, 115, 95, 95]⟩⟩ 1147), (.ref 727)⟩,
    ⟨PyData.keyHash P ⟨⟨[95, 95, 100, 105, 99, 116, 95, 95]⟩⟩, (.str ⟨⟨[95, 95, 100, 105, 99, 116, 95, 95]⟩⟩ 1149), (.ref 730)⟩,
    ⟨PyData.keyHash P ⟨⟨[95, 95, 119, 101, 97, 107, 114, 101, 102, 95, 95]⟩⟩, (.str ⟨⟨[95, 95, 119, 101, 97, 107, 114, 101, 102, 95, 95]⟩⟩ 1151), (.ref 731)⟩,
    ⟨PyData.keyHash P ⟨⟨[95, 95, 100, 111, 99, 95, 95]⟩⟩, (.str ⟨⟨[95, 95, 100, 111, 99, 95, 95]⟩⟩ 1152), .none⟩]⟩ 4), ⟨[]⟩⟩
noncomputable def o729 (P : Params) : Obj := ⟨(.type SL.s17162191345867700912x4), none, (.cls { name := ⟨⟨[115, 104, 108, 101, 120]⟩⟩, bases := [(.type SL.s2742458400755230247x6)], mro := [(.ref 729), (.type SL.s2742458400755230247x6)], ns := 728, qualname := ⟨⟨[115, 104, 108, 101, 120]⟩⟩, hasDict := true, slotNames := [], subclasses := [], abstract := false, collection := none, hasDel := false }), ⟨[none, none, (some (.str ⟨⟨[115, 104, 108, 101, 120]⟩⟩ 1016)), (some (.str ⟨⟨[115, 104, 108, 101, 120]⟩⟩ 1024)), (some (.builtin SL.s11443829558043349243x14)), (some (.bool true))]⟩⟩
noncomputable def o734 (P : Params) : Obj := ⟨(.type SL.s2766695959194262286x5), none, (.seq ⟨[(.bool false), (.bool true)]⟩ 0), ⟨[]⟩⟩
noncomputable def o740 (P : Params) : Obj := ⟨(.type SL.s5856160107412720595x4), none, (.fields ⟨[(.str ⟨⟨[115, 112, 108, 105, 116]⟩⟩ 1155), (.str ⟨⟨[115, 112, 108, 105, 116]⟩⟩ 1156), (.str ⟨⟨[47, 99, 108, 97, 105, 109, 47, 99, 117, 116, 46, 112, 121]⟩⟩ 1157), (.int (729) 0), (.int (3) 0), (.int (0) 0), (.int (0) 0), (.int (3) 0), (.ref 735), (.bool true), (.int (273) 0), (.ref 736), .none, (.ref 737), (.ref 738), (.ref 739), (.int (1162) 0), (.int (729) 0), (.str ⟨⟨[47, 99, 108, 97, 105, 109, 47, 99, 117, 116, 46, 112, 121]⟩⟩ 1163)]⟩), ⟨[]⟩⟩
noncomputable def o741 (P : Params) : Obj := ⟨(.type SL.s7174869446012820540x8), none, (.func { name := ⟨⟨[115, 112, 108, 105, 116]⟩⟩, qualname := ⟨⟨[115, 112, 108, 105, 116]⟩⟩, params := fnP (nthS 22 F.main.body), body := .stmts (fnB (nthS 22 F.main.body)), scope := fnS (nthS 22 F.main.body), globals := 3, closure := [], defaults := (.ref 734), kwdefaults := .none, doc := .none, pyModule := (.str ⟨⟨[99, 112, 121, 51, 49, 51, 46, 115, 104, 108, 101, 120]⟩⟩ 1014), annotations := none, code := (.ref 740), closureTuple := .none, builtins := 0 }), ⟨[]⟩⟩
noncomputable def o747 (P : Params) : Obj := ⟨(.type SL.s5856160107412720595x4), none, (.fields ⟨[(.str ⟨⟨[95, 108, 97, 119, 95, 115, 105, 103, 110]⟩⟩ 1167), (.str ⟨⟨[95, 108, 97, 119, 95, 115, 105, 103, 110]⟩⟩ 1168), (.str ⟨⟨[47, 99, 108, 97, 105, 109, 47, 99, 117, 116, 46, 112, 121]⟩⟩ 1169), (.int (738) 0), (.int (1) 0), (.int (0) 0), (.int (0) 0), (.int (3) 0), (.ref 742), (.bool true), (.int (273) 0), (.ref 743), .none, (.ref 744), (.ref 745), (.ref 746), (.int (1172) 0), (.int (738) 0), (.str ⟨⟨[47, 99, 108, 97, 105, 109, 47, 99, 117, 116, 46, 112, 121]⟩⟩ 1173)]⟩), ⟨[]⟩⟩
noncomputable def o748 (P : Params) : Obj := ⟨(.type SL.s7174869446012820540x8), none, (.func { name := ⟨⟨[95, 108, 97, 119, 95, 115, 105, 103, 110]⟩⟩, qualname := ⟨⟨[95, 108, 97, 119, 95, 115, 105, 103, 110]⟩⟩, params := fnP (nthS 24 F.main.body), body := .stmts (fnB (nthS 24 F.main.body)), scope := fnS (nthS 24 F.main.body), globals := 3, closure := [], defaults := .none, kwdefaults := .none, doc := .none, pyModule := (.str ⟨⟨[108, 97, 119, 95, 111, 112, 48, 49, 56, 50, 95, 48, 49]⟩⟩ 1165), annotations := none, code := (.ref 747), closureTuple := .none, builtins := 0 }), ⟨[]⟩⟩
noncomputable def o752 (P : Params) : Obj := ⟨(.type SL.s5856160107412720595x4), none, (.fields ⟨[(.str ⟨⟨[95, 108, 97, 119, 95, 115, 112, 108, 105, 116]⟩⟩ 1175), (.str ⟨⟨[95, 108, 97, 119, 95, 115, 112, 108, 105, 116]⟩⟩ 1176), (.str ⟨⟨[47, 99, 108, 97, 105, 109, 47, 99, 117, 116, 46, 112, 121]⟩⟩ 1177), (.int (747) 0), (.int (1) 0), (.int (0) 0), (.int (0) 0), (.int (3) 0), (.ref 749), (.bool true), (.int (273) 0), (.ref 750), .none, .none, .none, (.ref 751), (.int (1178) 0), (.int (747) 0), (.str ⟨⟨[47, 99, 108, 97, 105, 109, 47, 99, 117, 116, 46, 112, 121]⟩⟩ 1179)]⟩), ⟨[]⟩⟩
noncomputable def o753 (P : Params) : Obj := ⟨(.type SL.s7174869446012820540x8), none, (.func { name := ⟨⟨[95, 108, 97, 119, 95, 115, 112, 108, 105, 116]⟩⟩, qualname := ⟨⟨[95, 108, 97, 119, 95, 115, 112, 108, 105, 116]⟩⟩, params := fnP (nthS 25 F.main.body), body := .stmts (fnB (nthS 25 F.main.body)), scope := fnS (nthS 25 F.main.body), globals := 3, closure := [], defaults := .none, kwdefaults := .none, doc := .none, pyModule := (.str ⟨⟨[108, 97, 119, 95, 111, 112, 48, 49, 56, 50, 95, 48, 49]⟩⟩ 1165), annotations := none, code := (.ref 752), closureTuple := .none, builtins := 0 }), ⟨[]⟩⟩
noncomputable def o759 (P : Params) : Obj := ⟨(.type SL.s5856160107412720595x4), none, (.fields ⟨[(.str ⟨⟨[95, 108, 97, 119, 95, 119, 97, 121]⟩⟩ 1181), (.str ⟨⟨[95, 108, 97, 119, 95, 119, 97, 121]⟩⟩ 1182), (.str ⟨⟨[47, 99, 108, 97, 105, 109, 47, 99, 117, 116, 46, 112, 121]⟩⟩ 1183), (.int (752) 0), (.int (2) 0), (.int (0) 0), (.int (0) 0), (.int (3) 0), (.ref 754), (.bool true), (.int (273) 0), (.ref 755), .none, (.ref 756), (.ref 757), (.ref 758), (.int (1189) 0), (.int (752) 0), (.str ⟨⟨[47, 99, 108, 97, 105, 109, 47, 99, 117, 116, 46, 112, 121]⟩⟩ 1190)]⟩), ⟨[]⟩⟩
noncomputable def o760 (P : Params) : Obj := ⟨(.type SL.s7174869446012820540x8), none, (.func { name := ⟨⟨[95, 108, 97, 119, 95, 119, 97, 121]⟩⟩, qualname := ⟨⟨[95, 108, 97, 119, 95, 119, 97, 121]⟩⟩, params := fnP (nthS 26 F.main.body), body := .stmts (fnB (nthS 26 F.main.body)), scope := fnS (nthS 26 F.main.body), globals := 3, closure := [], defaults := .none, kwdefaults := .none, doc := .none, pyModule := (.str ⟨⟨[108, 97, 119, 95, 111, 112, 48, 49, 56, 50, 95, 48, 49]⟩⟩ 1165), annotations := none, code := (.ref 759), closureTuple := .none, builtins := 0 }), ⟨[]⟩⟩
noncomputable def o766 (P : Params) : Obj := ⟨(.type SL.s5856160107412720595x4), none, (.fields ⟨[(.str ⟨⟨[95, 108, 97, 119, 95, 119, 111, 114, 100, 115]⟩⟩ 1192), (.str ⟨⟨[95, 108, 97, 119, 95, 119, 111, 114, 100, 115]⟩⟩ 1193), (.str ⟨⟨[47, 99, 108, 97, 105, 109, 47, 99, 117, 116, 46, 112, 121]⟩⟩ 1194), (.int (764) 0), (.int (2) 0), (.int (0) 0), (.int (0) 0), (.int (3) 0), (.ref 761), (.bool true), (.int (273) 0), (.ref 762), .none, (.ref 763), (.ref 764), (.ref 765), (.int (1200) 0), (.int (764) 0), (.str ⟨⟨[47, 99, 108, 97, 105, 109, 47, 99, 117, 116, 46, 112, 121]⟩⟩ 1201)]⟩), ⟨[]⟩⟩
noncomputable def o767 (P : Params) : Obj := ⟨(.type SL.s7174869446012820540x8), none, (.func { name := ⟨⟨[95, 108, 97, 119, 95, 119, 111, 114, 100, 115]⟩⟩, qualname := ⟨⟨[95, 108, 97, 119, 95, 119, 111, 114, 100, 115]⟩⟩, params := fnP (nthS 27 F.main.body), body := .stmts (fnB (nthS 27 F.main.body)), scope := fnS (nthS 27 F.main.body), globals := 3, closure := [], defaults := .none, kwdefaults := .none, doc := .none, pyModule := (.str ⟨⟨[108, 97, 119, 95, 111, 112, 48, 49, 56, 50, 95, 48, 49]⟩⟩ 1165), annotations := none, code := (.ref 766), closureTuple := .none, builtins := 0 }), ⟨[]⟩⟩
noncomputable def o773 (P : Params) : Obj := ⟨(.type SL.s5856160107412720595x4), none, (.fields ⟨[(.str ⟨⟨[95, 108, 97, 119, 95, 115, 116, 97, 110, 100, 105, 110, 103]⟩⟩ 1203), (.str ⟨⟨[95, 108, 97, 119, 95, 115, 116, 97, 110, 100, 105, 110, 103]⟩⟩ 1204), (.str ⟨⟨[47, 99, 108, 97, 105, 109, 47, 99, 117, 116, 46, 112, 121]⟩⟩ 1205), (.int (776) 0), (.int (1) 0), (.int (0) 0), (.int (0) 0), (.int (3) 0), (.ref 768), (.bool true), (.int (273) 0), (.ref 769), .none, (.ref 770), (.ref 771), (.ref 772), (.int (1211) 0), (.int (776) 0), (.str ⟨⟨[47, 99, 108, 97, 105, 109, 47, 99, 117, 116, 46, 112, 121]⟩⟩ 1212)]⟩), ⟨[]⟩⟩
noncomputable def o774 (P : Params) : Obj := ⟨(.type SL.s7174869446012820540x8), none, (.func { name := ⟨⟨[95, 108, 97, 119, 95, 115, 116, 97, 110, 100, 105, 110, 103]⟩⟩, qualname := ⟨⟨[95, 108, 97, 119, 95, 115, 116, 97, 110, 100, 105, 110, 103]⟩⟩, params := fnP (nthS 28 F.main.body), body := .stmts (fnB (nthS 28 F.main.body)), scope := fnS (nthS 28 F.main.body), globals := 3, closure := [], defaults := .none, kwdefaults := .none, doc := .none, pyModule := (.str ⟨⟨[108, 97, 119, 95, 111, 112, 48, 49, 56, 50, 95, 48, 49]⟩⟩ 1165), annotations := none, code := (.ref 773), closureTuple := .none, builtins := 0 }), ⟨[]⟩⟩
noncomputable def o778 (P : Params) : Obj := ⟨(.type SL.s5856160107412720595x4), none, (.fields ⟨[(.str ⟨⟨[95, 108, 97, 119, 95, 116, 117, 114, 110, 101, 100]⟩⟩ 1214), (.str ⟨⟨[95, 108, 97, 119, 95, 116, 117, 114, 110, 101, 100]⟩⟩ 1215), (.str ⟨⟨[47, 99, 108, 97, 105, 109, 47, 99, 117, 116, 46, 112, 121]⟩⟩ 1216), (.int (783) 0), (.int (1) 0), (.int (0) 0), (.int (0) 0), (.int (3) 0), (.ref 775), (.bool true), (.int (273) 0), (.ref 776), .none, .none, .none, (.ref 777), (.int (1217) 0), (.int (783) 0), (.str ⟨⟨[47, 99, 108, 97, 105, 109, 47, 99, 117, 116, 46, 112, 121]⟩⟩ 1218)]⟩), ⟨[]⟩⟩
noncomputable def o779 (P : Params) : Obj := ⟨(.type SL.s7174869446012820540x8), none, (.func { name := ⟨⟨[95, 108, 97, 119, 95, 116, 117, 114, 110, 101, 100]⟩⟩, qualname := ⟨⟨[95, 108, 97, 119, 95, 116, 117, 114, 110, 101, 100]⟩⟩, params := fnP (nthS 29 F.main.body), body := .stmts (fnB (nthS 29 F.main.body)), scope := fnS (nthS 29 F.main.body), globals := 3, closure := [], defaults := .none, kwdefaults := .none, doc := .none, pyModule := (.str ⟨⟨[108, 97, 119, 95, 111, 112, 48, 49, 56, 50, 95, 48, 49]⟩⟩ 1165), annotations := none, code := (.ref 778), closureTuple := .none, builtins := 0 }), ⟨[]⟩⟩
noncomputable def o783 (P : Params) : Obj := ⟨(.type SL.s5856160107412720595x4), none, (.fields ⟨[(.str ⟨⟨[108, 97, 119]⟩⟩ 1220), (.str ⟨⟨[108, 97, 119]⟩⟩ 1221), (.str ⟨⟨[47, 99, 108, 97, 105, 109, 47, 99, 117, 116, 46, 112, 121]⟩⟩ 1222), (.int (792) 0), (.int (1) 0), (.int (0) 0), (.int (0) 0), (.int (3) 0), (.ref 780), (.bool true), (.int (273) 0), (.ref 781), .none, .none, .none, (.ref 782), (.int (1223) 0), (.int (792) 0), (.str ⟨⟨[47, 99, 108, 97, 105, 109, 47, 99, 117, 116, 46, 112, 121]⟩⟩ 1224)]⟩), ⟨[]⟩⟩
noncomputable def o784 (P : Params) : Obj := ⟨(.type SL.s7174869446012820540x8), none, (.func { name := ⟨⟨[108, 97, 119]⟩⟩, qualname := ⟨⟨[108, 97, 119]⟩⟩, params := fnP (nthS 30 F.main.body), body := .stmts (fnB (nthS 30 F.main.body)), scope := fnS (nthS 30 F.main.body), globals := 3, closure := [], defaults := .none, kwdefaults := .none, doc := .none, pyModule := (.str ⟨⟨[108, 97, 119, 95, 111, 112, 48, 49, 56, 50, 95, 48, 49]⟩⟩ 1165), annotations := none, code := (.ref 783), closureTuple := .none, builtins := 0 }), ⟨[]⟩⟩
noncomputable def kfrag (P : Params) : Frag := [(0, o0 P), (2, o2 P), (3, o3 P), (45, o45 P), (46, o46 P), (59, o59 P), (60, o60 P), (86, o86 P), (87, o87 P), (89, o89 P), (90, o90 P), (91, o91 P), (116, o116 P), (117, o117 P), (347, o347 P), (357, o357 P), (363, o363 P), (364, o364 P), (370, o370 P), (371, o371 P), (377, o377 P), (378, o378 P), (533, o533 P), (539, o539 P), (540, o540 P), (593, o593 P), (594, o594 P), (646, o646 P), (652, o652 P), (653, o653 P), (659, o659 P), (660, o660 P), (661, o661 P), (689, o689 P), (690, o690 P), (696, o696 P), (697, o697 P), (718, o718 P), (719, o719 P), (725, o725 P), (726, o726 P), (728, o728 P), (729, o729 P), (734, o734 P), (740, o740 P), (741, o741 P), (747, o747 P), (748, o748 P), (752, o752 P), (753, o753 P), (759, o759 P), (760, o760 P), (766, o766 P), (767, o767 P), (773, o773 P), (774, o774 P), (778, o778 P), (779, o779 P), (783, o783 P), (784, o784 P)]
noncomputable def kads : List Nat := [0, 2, 3, 45, 46, 59, 60, 86, 87, 89, 90, 91, 116, 117, 347, 357, 363, 364, 370, 371, 377, 378, 533, 539, 540, 593, 594, 646, 652, 653, 659, 660, 661, 689, 690, 696, 697, 718, 719, 725, 726, 728, 729, 734, 740, 741, 747, 748, 752, 753, 759, 760, 766, 767, 773, 774, 778, 779, 783, 784]
noncomputable def kt (P : Params) : X.KT := (.node (some (o0 P)) (.node none (.node (some (o3 P)) (.node none (.node none (.node none (.node none (.node none (.node none .nil (.node (some (o767 P)) .nil .nil)) .nil) .nil) .nil) (.node none (.node none (.node none (.node none .nil (.node (some (o783 P)) .nil .nil)) .nil) (.node none .nil (.node none (.node (some (o719 P)) .nil .nil) .nil))) .nil)) (.node none .nil (.node none (.node (some (o87 P)) .nil .nil) (.node none .nil (.node none .nil (.node none (.node (some (o759 P)) .nil .nil) .nil)))))) (.node none (.node none .nil (.node none (.node none (.node none .nil (.node none (.node (some (o659 P)) .nil .nil) .nil)) .nil) (.node none .nil (.node none (.node (some (o371 P)) .nil .nil) .nil)))) (.node none (.node none (.node none (.node none (.node none .nil (.node (some (o779 P)) .nil .nil)) .nil) .nil) (.node none .nil (.node none (.node (some (o363 P)) .nil .nil) (.node none (.node (some (o747 P)) .nil .nil) .nil)))) (.node (some (o59 P)) (.node (some (o91 P)) (.node none (.node none (.node (some (o539 P)) .nil .nil) .nil) .nil) (.node none (.node (some (o347 P)) .nil .nil) .nil)) .nil)))) (.node none (.node none (.node none .nil (.node none (.node none .nil (.node none (.node none (.node (some (o593 P)) .nil .nil) .nil) .nil)) (.node none (.node none .nil (.node none (.node (some (o689 P)) .nil .nil) .nil)) (.node none .nil (.node none (.node (some (o753 P)) .nil .nil) .nil))))) (.node none .nil (.node none (.node (some (o89 P)) .nil (.node none .nil (.node none (.node (some (o729 P)) .nil .nil) .nil))) (.node none (.node none .nil (.node none (.node (some (o697 P)) .nil .nil) .nil)) (.node none (.node (some (o377 P)) .nil .nil) .nil))))) (.node none (.node none (.node none (.node none (.node none (.node none .nil (.node (some (o773 P)) .nil .nil)) .nil) .nil) (.node none .nil (.node none (.node (some (o357 P)) .nil .nil) (.node none (.node (some (o741 P)) .nil .nil) .nil)))) (.node none (.node none (.node none (.node none (.node (some (o533 P)) .nil .nil) .nil) (.node none (.node (some (o661 P)) .nil .nil) .nil)) (.node none .nil (.node none (.node (some (o725 P)) .nil .nil) .nil))) (.node (some (o117 P)) .nil .nil))) (.node none (.node (some (o45 P)) (.node none (.node none .nil (.node none (.node (some (o653 P)) .nil .nil) .nil)) .nil) .nil) .nil)))) (.node (some (o2 P)) (.node none (.node none (.node none .nil (.node none (.node none (.node none (.node none .nil (.node (some (o784 P)) .nil .nil)) .nil) .nil) (.node none .nil (.node none .nil (.node none (.node (some (o752 P)) .nil .nil) .nil))))) (.node none .nil (.node none (.node none .nil (.node none .nil (.node none (.node (some (o728 P)) .nil .nil) .nil))) (.node none (.node none .nil (.node none (.node (some (o696 P)) .nil .nil) .nil)) (.node none .nil (.node none (.node (some (o760 P)) .nil .nil) .nil)))))) (.node none (.node none (.node none .nil (.node none .nil (.node none .nil (.node none (.node (some (o740 P)) .nil .nil) .nil)))) (.node none (.node none (.node none .nil (.node none (.node (some (o660 P)) .nil .nil) .nil)) .nil) (.node (some (o116 P)) .nil .nil))) (.node none (.node none (.node none (.node none .nil (.node none (.node (some (o652 P)) .nil .nil) .nil)) .nil) (.node none .nil (.node none (.node (some (o364 P)) .nil .nil) (.node none (.node (some (o748 P)) .nil .nil) .nil)))) (.node (some (o60 P)) (.node none (.node none (.node none (.node (some (o540 P)) .nil .nil) .nil) .nil) .nil) .nil)))) (.node none (.node none (.node none .nil (.node none (.node none .nil (.node none (.node none (.node (some (o594 P)) .nil .nil) .nil) .nil)) (.node none (.node none .nil (.node none (.node (some (o690 P)) .nil .nil) .nil)) (.node none (.node (some (o370 P)) .nil .nil) .nil)))) (.node none (.node none (.node none (.node none (.node none .nil (.node (some (o778 P)) .nil .nil)) .nil) .nil) .nil) (.node none (.node (some (o90 P)) .nil .nil) (.node none .nil (.node none (.node (some (o378 P)) .nil .nil) .nil))))) (.node none (.node none (.node none (.node none (.node none (.node none .nil (.node (some (o774 P)) .nil .nil)) (.node none (.node (some (o646 P)) .nil .nil) .nil)) .nil) .nil) (.node none (.node (some (o86 P)) .nil (.node none .nil (.node none (.node (some (o726 P)) .nil .nil) .nil))) .nil)) (.node none (.node (some (o46 P)) (.node none .nil (.node none .nil (.node none (.node (some (o718 P)) .nil .nil) .nil))) .nil) (.node none (.node none .nil (.node none .nil (.node none (.node (some (o734 P)) .nil .nil) .nil))) (.node none .nil (.node none .nil (.node none (.node (some (o766 P)) .nil .nil) .nil)))))))))

noncomputable def loose : List Str := [⟨⟨[100, 101, 113, 117, 101]⟩⟩, ⟨⟨[95, 119, 97, 108, 108]⟩⟩, ⟨⟨[95, 95, 110, 97, 109, 101, 95, 95]⟩⟩, ⟨⟨[95, 98, 121, 116, 101, 115, 119, 97, 112]⟩⟩, ⟨⟨[95, 119, 104, 101, 110, 99, 101]⟩⟩, ⟨⟨[95, 105, 110, 100, 101, 120]⟩⟩, ⟨⟨[85, 110, 115, 117, 112, 112, 111, 114, 116, 101, 100, 79, 112, 101, 114, 97, 116, 105, 111, 110]⟩⟩, ⟨⟨[73, 79, 66, 97, 115, 101]⟩⟩, ⟨⟨[66, 117, 102, 102, 101, 114, 101, 100, 73, 79, 66, 97, 115, 101]⟩⟩, ⟨⟨[84, 101, 120, 116, 73, 79, 66, 97, 115, 101]⟩⟩, ⟨⟨[66, 121, 116, 101, 115, 73, 79]⟩⟩, ⟨⟨[83, 116, 114, 105, 110, 103, 73, 79]⟩⟩, ⟨⟨[95, 107, 105, 110, 100]⟩⟩, ⟨⟨[95, 102, 115, 112, 97, 116, 104]⟩⟩, ⟨⟨[95, 99, 104, 101, 99, 107, 95, 97, 114, 103, 95, 116, 121, 112, 101, 115]⟩⟩, ⟨⟨[105, 115, 97, 98, 115]⟩⟩, ⟨⟨[106, 111, 105, 110]⟩⟩, ⟨⟨[100, 105, 114, 110, 97, 109, 101]⟩⟩, ⟨⟨[115, 104, 108, 101, 120]⟩⟩, ⟨⟨[115, 112, 108, 105, 116]⟩⟩, ⟨⟨[95, 108, 97, 119, 95, 115, 105, 103, 110]⟩⟩, ⟨⟨[95, 108, 97, 119, 95, 115, 112, 108, 105, 116]⟩⟩, ⟨⟨[95, 108, 97, 119, 95, 119, 97, 121]⟩⟩, ⟨⟨[95, 108, 97, 119, 95, 119, 111, 114, 100, 115]⟩⟩, ⟨⟨[95, 108, 97, 119, 95, 115, 116, 97, 110, 100, 105, 110, 103]⟩⟩, ⟨⟨[95, 108, 97, 119, 95, 116, 117, 114, 110, 101, 100]⟩⟩]
end T01
end Mine
end
section
open PySem PySem.W PySem.Calls PyProof.Rows
namespace Mine.T01
/-! HdB01 -/
theorem eval1 (w : World) : (headT (denote treeTable) PySem.Challenge.pw_op0182_01 w 20000).map (hdLook PySem.Challenge.pw_op0182_01 loose kads) =
    some (true, hdGood PySem.Challenge.pw_op0182_01 loose, hdVal kfrag 785 1226 w) := by
  rw [show @headT = _ from PySem.W.Fast.te1006530560209335509, show denote = _ from PySem.W.Fast.te11892475500146522536, show treeTable = _ from PySem.W.Fast.te14364793385576792824, show @hdLook = _ from PySem.W.Fast.te102023862698074697, show @hdGood = _ from PySem.W.Fast.te731727335646702260]
  kernel_rfl
/-! HdC01 -/
theorem left01 : LeftO PySem.Challenge.pw_op0182_01 (lawView PySem.Challenge.pw_op0182_01) loose anyX (obsK kads) (hdVal kfrag 785 1226) 20000 := left_of_eval eval1

noncomputable abbrev Walk : Prop := ∀ (w : World) (s₀ s₁ : Shared) (mg : Str → Option Value), obsK kads s₀ = hdVal kfrag 785 1226 w → s₁.heap.Ns mainGlobals mg → ∀ (a : Addr), mg PySem.Challenge.rw_op0182_01.row.name = some (.ref a) → ∀ (args : List WData) (vs : List Value) (as : List Addr),
      PySem.Challenge.rw_op0182_01.row.toRowW.claim.pre args = true → WData.layableAll args = true → Laid PySem.Challenge.rw_op0182_01.row.toRowW.records w s₀ s₁ args vs as → s₁.gens = #[] →
        Sem.wp (model PySem.Challenge.pw_op0182_01 w) Γ0 (do ret (← PySem.call (.ref a) vs)) (Sem.finPost (model PySem.Challenge.pw_op0182_01 w) Γ0 fun res s' => GoodWG PySem.Challenge.rw_op0182_01.row.toRowW.claim (classAt s₀.heap) (ExcName.means s₀.heap) args s₁ res s')
          (fun e _ s' => GoodWG PySem.Challenge.rw_op0182_01.row.toRowW.claim (classAt s₀.heap) (ExcName.means s₀.heap) args s₁ (.error e) s') default s₁

theorem hd01 (call : Walk) : PySem.Challenge.rw_op0182_01.Holds := by
  refine holds_law (by kernel_rfl) fun said => ?_
  refine holds_wp (r := PySem.Challenge.rw_op0182_01.row) (XP := fun _ _ => True) left01 (fun _ _ => trivial) (fun _ _ _ _ _ => trivial) (by rfl) (by rfl) (by rfl) (fun _ _ => recFacts_nil rfl) rfl (by first | assumption | decide +kernel) (by decide +kernel) ⟨rfl, rfl, rfl, rfl, rfl, by decide +kernel⟩ ?hw call
  case hw => w_witness2
end Mine.T01
end
section
open PySem PySem.W
namespace Mine
/-! SxUse -/

/-! ### using the executor -/
noncomputable def Holds (s : Shared) (l : List (Nat × Obj)) : Prop := ∀ x ∈ l, s.heap.get? x.1 = some x.2
structure Keep (as : List Nat) (s s' : Shared) : Prop where
  keep : ∀ b o, s.heap.get? b = some o → b ∉ as → s'.heap.get? b = some o
  size : s.heap.objs.size ≤ s'.heap.objs.size
  gens : s'.gens = s.gens
  drawn : s'.drawn = s.drawn
  os : s'.os = s.os
theorem Keep.trans {as : List Nat} {s s' s'' : Shared} (x : Keep as s s') (y : Keep as s' s'') : Keep as s s'' :=
  ⟨fun b o e h => y.keep b o (x.keep b o e h) h, Nat.le_trans x.size y.size, y.gens.trans x.gens, y.drawn.trans x.drawn, y.os.trans x.os⟩
theorem Keep.mono {as bs : List Nat} {s s' : Shared} (x : Keep as s s') (h : ∀ a ∈ as, a ∈ bs) : Keep bs s s' :=
  ⟨fun b o e hb => x.keep b o e fun ha => hb (h b ha), x.size, x.gens, x.drawn, x.os⟩

/-- the addresses a list gives, then the heap's end -/
noncomputable def adsOf : Nat → List Nat → Nat → Ads → Ads
  | i, [], N, r => (i, N) :: r
  | i, a :: l, N, r => adsOf (i + 1) l N ((i, a) :: r)
theorem adOf_cons (x : Nat × Nat) (r : Ads) (j : Nat) : adOf (x :: r) j = if x.1 ≤ j then x.2 + (j - x.1) else adOf r j := by
  show (match Nat.ble x.1 j with | true => _ | false => _) = _
  by_cases h : x.1 ≤ j
  · rw [if_pos h, Nat.ble_eq_true_of_le h]
  · rw [if_neg h]
    have : Nat.ble x.1 j = false := by
      cases q : Nat.ble x.1 j with
      | false => rfl
      | true => exact absurd (Nat.le_of_ble_eq_true q) h
    rw [this]
theorem adsOf_spec : ∀ (l : List Nat) (i N : Nat) (r : Ads) (j : Nat), adOf (adsOf i l N r) j = if i + l.length ≤ j then N + (j - (i + l.length)) else if i ≤ j then l.getD (j - i) 0 else adOf r j
  | [], i, N, r, j => by
    show adOf ((i, N) :: r) j = _
    rw [adOf_cons]
    simp only [List.length_nil, Nat.add_zero]
    by_cases h : i ≤ j
    · rw [if_pos h, if_pos h]
    · rw [if_neg h, if_neg h, if_neg h]
  | a :: l, i, N, r, j => by
    show adOf (adsOf (i + 1) l N ((i, a) :: r)) j = _
    rw [adsOf_spec l (i + 1) N ((i, a) :: r) j, adOf_cons]
    simp only [List.length_cons]
    by_cases h1 : i + 1 + l.length ≤ j
    · have h1' : i + (l.length + 1) ≤ j := by omega
      rw [if_pos h1, if_pos h1', show j - (i + 1 + l.length) = j - (i + (l.length + 1)) by omega]
    · have h1' : ¬ i + (l.length + 1) ≤ j := by omega
      rw [if_neg h1, if_neg h1']
      by_cases h2 : i + 1 ≤ j
      · have h3 : i ≤ j := by omega
        rw [if_pos h2, if_pos h3, show j - i = (j - (i + 1)) + 1 by omega]
        rfl
      · rw [if_neg h2]
        by_cases h3 : i ≤ j
        · rw [if_pos h3, if_pos h3, show j - i = 0 by omega]; rfl
        · rw [if_neg h3, if_neg h3]

structure Sane (kt : X.KT) (n₀ : Nat) (s : Shared) : Prop where
  kt : ∀ a o, kt.get a = some o → a < n₀ ∧ s.heap.get? a = some o
  top : n₀ ≤ s.heap.objs.size
theorem Sane.keep {kt : X.KT} {n₀ : Nat} {as : List Nat} {s s' : Shared} (S : Sane kt n₀ s) (k : Keep as s s') (lo : ∀ a ∈ as, n₀ ≤ a) : Sane kt n₀ s' :=
  ⟨fun a o e => ⟨(S.kt a o e).1, k.keep a o (S.kt a o e).2 fun h => by have := lo a h; have := (S.kt a o e).1; omega⟩, Nat.le_trans S.top k.size⟩

noncomputable def baseOf (kt : X.KT) (n₀ k : Nat) (s : Shared) : Base := ⟨kt, n₀, s.heap, k, s.gens, s.drawn, s.os⟩
theorem Rep.start {kt : X.KT} {n₀ : Nat} {s : Shared} (S : Sane kt n₀ s) {l : List (Nat × Obj)} (H : Holds s l) (nd : (l.map (·.1)).Nodup) (lo : ∀ x ∈ l, n₀ ≤ x.1) :
    Rep (baseOf kt n₀ l.length s) s (treeOf 0 (l.map (·.2)) .nil) l.length (adsOf 0 (l.map (·.1)) s.heap.objs.size []) s.toks := by
  have ad : ∀ j, adOf (adsOf 0 (l.map (·.1)) s.heap.objs.size []) j = if l.length ≤ j then s.heap.objs.size + (j - l.length) else (l.map (·.1)).getD j 0 := fun j => by
    rw [adsOf_spec]
    simp only [List.length_map, Nat.zero_add, Nat.sub_zero, Nat.zero_le, if_true]
  have at_ : ∀ j (h : j < l.length), (l.map (·.1)).getD j 0 = l[j].1 := fun j h => by
    rw [List.getD_eq_getElem?_getD, List.getElem?_map, List.getElem?_eq_getElem h]; rfl
  have adlt : ∀ j (h : j < l.length), adOf (adsOf 0 (l.map (·.1)) s.heap.objs.size []) j = l[j].1 := fun j h => by rw [ad, if_neg (by omega), at_ j h]
  have adm : adOf (adsOf 0 (l.map (·.1)) s.heap.objs.size []) l.length = s.heap.objs.size := by rw [ad, if_pos (Nat.le_refl _), Nat.sub_self, Nat.add_zero]
  refine ⟨adm.symm, fun i o e => ?_, fun i j hi hj e => ?_, fun i hi => ?_, by rw [adm]; exact S.top, fun k => ?_, S.kt, fun b o e _ => e, Nat.le_refl _, fun i hk hi => absurd hi (Nat.not_lt.mpr hk), rfl, rfl, rfl, rfl⟩
  · rw [treeOf_get (l.map (·.2)) 0 .nil (fun j => by simp [BT.get]), if_neg (Nat.not_lt_zero _), Nat.sub_zero, List.getElem?_map] at e
    obtain ⟨x, hx, rfl⟩ := Option.map_eq_some_iff.mp e
    obtain ⟨hi, rfl⟩ := List.getElem?_eq_some_iff.mp hx
    exact ⟨hi, by rw [adlt i hi]; exact H _ (List.getElem_mem hi)⟩
  · rw [adlt i hi, adlt j hj] at e
    have := (List.getElem_inj (i := i) (j := j) (h₀ := by rw [List.length_map]; exact hi) (h₁ := by rw [List.length_map]; exact hj) nd).mp (by rw [List.getElem_map, List.getElem_map]; exact e)
    exact this
  · rw [adlt i hi, adm]
    exact ⟨lo _ (List.getElem_mem hi), Heap.lt_size (H _ (List.getElem_mem hi))⟩
  · rw [ad, if_pos (by omega), adm]; omega

/-- the table goes on to another state: all but some of its objects, and all else, as it was -/
theorem Rep.to {B : Base} {s s' : Shared} {T T' : BT} {m : Nat} {ads : Ads} {tk : Nat} (D : Rep B s T m ads tk) (js : List Nat) (hj : ∀ j ∈ js, j < m) (k : Keep (js.map (adOf ads)) s s')
    (own : ∀ i o, T'.get i = some o → i < m ∧ s'.heap.get? (adOf ads i) = some o) : Rep B s' T' m ((m, s'.heap.objs.size) :: ads) s'.toks := by
  have ad : ∀ i, i < m → adOf ((m, s'.heap.objs.size) :: ads) i = adOf ads i := fun i h => by rw [adOf_cons, if_neg (by show ¬ m ≤ i; omega)]
  have adm : ∀ i, adOf ((m, s'.heap.objs.size) :: ads) (m + i) = s'.heap.objs.size + i := fun i => by rw [adOf_cons, if_pos (Nat.le_add_right _ _)]; show _ + (m + i - m) = _; omega
  have adm0 := adm 0
  rw [Nat.add_zero, Nat.add_zero] at adm0
  have hs := k.size
  rw [D.size] at hs
  refine ⟨adm0.symm, fun i o₁ e₁ => ?_, fun i i' hi hi' e₁ => ?_, fun i hi => ?_, by rw [adm0]; exact Nat.le_trans D.top hs, fun i => by rw [adm, adm0], fun a o₁ e₁ => ⟨(D.kt a o₁ e₁).1, k.keep a o₁ (D.kt a o₁ e₁).2 ?_⟩, fun b o₁ e₁ hb => k.keep b o₁ (D.frame b o₁ e₁ fun i hi => by have := hb i hi; rwa [ad i hi] at this) ?_, Nat.le_trans D.old k.size, (fun i hk hi => by rw [ad i hi]; exact D.young i hk hi), rfl, k.gens.trans D.gens, k.drawn.trans D.drawn, k.os.trans D.os⟩
  · have z := own i o₁ e₁
    exact ⟨z.1, by rw [ad i z.1]; exact z.2⟩
  · rw [ad i hi, ad i' hi'] at e₁; exact D.inj i i' hi hi' e₁
  · rw [ad i hi, adm0]
    have := D.lo i hi
    exact ⟨this.1, Nat.lt_of_lt_of_le this.2 hs⟩
  · intro q
    obtain ⟨j, hj', rfl⟩ := List.mem_map.mp q
    have h1 := (D.kt _ o₁ e₁).1
    have h2 := (D.lo j (hj j hj')).1
    omega
  · intro q
    obtain ⟨j, hj', rfl⟩ := List.mem_map.mp q
    have := hb j (hj j hj')
    rw [ad j (hj j hj')] at this
    exact this rfl
noncomputable def setAll (T : BT) : List (Nat × Obj) → BT
  | [] => T
  | x :: r => setAll (T.set x.1 fun _ => x.2) r
theorem own_setAll {s' : Shared} {m : Nat} {ads : Ads} : ∀ (ch : List (Nat × Obj)) (T : BT), (∀ x ∈ ch, s'.heap.get? (adOf ads x.1) = some x.2) →
    (∀ i o, T.get i = some o → i < m ∧ (s'.heap.get? (adOf ads i) = some o ∨ i ∈ ch.map (·.1))) → ∀ i o, (setAll T ch).get i = some o → i < m ∧ s'.heap.get? (adOf ads i) = some o
  | [], T, _, h, i, o, e => ⟨(h i o e).1, (h i o e).2.elim id (by simp)⟩
  | x :: r, T, hc, h, i, o, e => by
    refine own_setAll r (T.set x.1 fun _ => x.2) (fun y hy => hc y (List.mem_cons_of_mem _ hy)) (fun i o e => ?_) i o e
    rw [BT.get_set] at e
    by_cases q : i = x.1
    · subst q
      rw [if_pos rfl] at e
      obtain ⟨o', h1, h2⟩ := Option.map_eq_some_iff.mp e
      subst h2
      exact ⟨(h _ _ h1).1, .inl (hc x (List.mem_cons_self ..))⟩
    · rw [if_neg q] at e
      refine ⟨(h i o e).1, (h i o e).2.imp id fun z => ?_⟩
      rcases List.mem_cons.mp z with z | z
      · exact absurd z q
      · exact z
theorem Rep.move {B : Base} {s s' : Shared} {T : BT} {m : Nat} {ads : Ads} {tk : Nat} (D : Rep B s T m ads tk) (ch : List (Nat × Obj)) (hc : ∀ x ∈ ch, x.1 < m ∧ s'.heap.get? (adOf ads x.1) = some x.2)
    (k : Keep (ch.map fun x => adOf ads x.1) s s') : Rep B s' (setAll T ch) m ((m, s'.heap.objs.size) :: ads) s'.toks := by
  have k' : Keep ((ch.map (·.1)).map (adOf ads)) s s' := by rw [List.map_map]; exact k
  refine D.to (ch.map (·.1)) (fun j hj => ?_) k' (own_setAll ch T (fun x hx => (hc x hx).2) fun i o e => ?_)
  · obtain ⟨x, hx, rfl⟩ := List.mem_map.mp hj
    exact (hc x hx).1
  · have z := D.own i o e
    refine ⟨z.1, ?_⟩
    by_cases q : i ∈ ch.map (·.1)
    · exact .inr q
    · refine .inl (k'.keep _ _ z.2 fun h => ?_)
      obtain ⟨j, hj, e'⟩ := List.mem_map.mp h
      obtain ⟨x, hx, rfl⟩ := List.mem_map.mp hj
      exact q (D.inj _ _ (hc x hx).1 z.1 e' ▸ hj)
theorem Rep.addNew {B : Base} {s : Shared} {T : BT} {m : Nat} {ads : Ads} {t N a : Nat} {o : Obj} (D : Rep B s T m ((m, N) :: ads) t) (ho : s.heap.get? a = some o) (h1 : B.n₀ ≤ a) (h2 : B.h₀.objs.size ≤ a)
    (h3 : ∀ i, i < m → adOf ads i ≠ a) (hg : ((T.ins m o).get m).isSome = true) : Rep B s (T.ins m o) (m + 1) ((m + 1, N) :: (m, a) :: ads) t := by
  have ad : ∀ i, i < m → adOf ((m + 1, N) :: (m, a) :: ads) i = adOf ads i := fun i h => by
    rw [adOf_cons, if_neg (by show ¬ m + 1 ≤ i; omega), adOf_cons, if_neg (by show ¬ m ≤ i; omega)]
  have ad' : ∀ i, i < m → adOf ((m, N) :: ads) i = adOf ads i := fun i h => by rw [adOf_cons, if_neg (by show ¬ m ≤ i; omega)]
  have adM : adOf ((m + 1, N) :: (m, a) :: ads) m = a := by
    rw [adOf_cons, if_neg (by show ¬ m + 1 ≤ m; omega), adOf_cons, if_pos (Nat.le_refl _)]; show a + (m - m) = a; omega
  have adT : ∀ k, adOf ((m + 1, N) :: (m, a) :: ads) (m + 1 + k) = N + k := fun k => by
    rw [adOf_cons, if_pos (Nat.le_add_right _ _)]; show N + (m + 1 + k - (m + 1)) = _; omega
  have adT0 : adOf ((m + 1, N) :: (m, a) :: ads) (m + 1) = N := adT 0
  have adN : adOf ((m, N) :: ads) m = N := by rw [adOf_cons, if_pos (Nat.le_refl _)]; show N + (m - m) = N; omega
  have hN : s.heap.objs.size = N := D.size.trans adN
  have haN : a < N := hN ▸ Heap.lt_size ho
  refine ⟨hN.trans adT0.symm, fun i o' e => ?_, fun i j hi hj e => ?_, fun i hi => ?_, by rw [adT0]; have := D.top; rw [adN] at this; exact this, fun k => by rw [adT, adT0], D.kt, fun b o' e hb => D.frame b o' e fun i hi q => hb i (Nat.lt_succ_of_lt hi) (by rw [ad i hi, ← ad' i hi]; exact q), D.old, fun i hk hi => ?_, D.toks, D.gens, D.drawn, D.os⟩
  · rw [BT.get_ins o T m hg] at e
    by_cases q : i = m
    · subst q
      rw [if_pos rfl] at e
      cases e
      exact ⟨Nat.lt_succ_self _, by rw [adM]; exact ho⟩
    · rw [if_neg q] at e
      have z := D.own i o' e
      exact ⟨Nat.lt_succ_of_lt z.1, by rw [ad i z.1, ← ad' i z.1]; exact z.2⟩
  · rcases Nat.lt_succ_iff_lt_or_eq.mp hi with hi | rfl <;> rcases Nat.lt_succ_iff_lt_or_eq.mp hj with hj | rfl
    · rw [ad i hi, ad j hj, ← ad' i hi, ← ad' j hj] at e; exact D.inj i j hi hj e
    · rw [ad i hi, adM] at e; exact absurd e (h3 i hi)
    · rw [ad j hj, adM] at e; exact absurd e.symm (h3 j hj)
    · rfl
  · rw [adT0]
    rcases Nat.lt_succ_iff_lt_or_eq.mp hi with hi | rfl
    · have := D.lo i hi
      rw [ad' i hi, adN] at this
      rw [ad i hi]; exact this
    · rw [adM]; exact ⟨h1, haN⟩
  · rcases Nat.lt_succ_iff_lt_or_eq.mp hi with hi | rfl
    · have := D.young i hk hi
      rw [ad' i hi] at this
      rw [ad i hi]; exact this
    · rw [adM]; exact h2
theorem Rep.putNew {B : Base} {s : Shared} {N t lo : Nat} {ν : Nat → Nat} (h1 : B.n₀ ≤ lo) (h2 : B.h₀.objs.size ≤ lo) : ∀ (l : List Obj) (i : Nat) {T : BT} {m : Nat} {ads : Ads} {T' : BT} {m' : Nat} {ads' : Ads},
    Rep B s T m ((m, N) :: ads) t → (∀ k o, l[k]? = some o → s.heap.get? (ν (i + k)) = some o ∧ lo ≤ ν (i + k)) → (∀ j k, j < m → k < l.length → adOf ads j ≠ ν (i + k)) → (∀ k k', k < l.length → k' < l.length → ν (i + k) = ν (i + k') → k = k') →
    Mine.putNew ν i l T m ads = some (T', m', ads') → Rep B s T' m' ((m', N) :: ads') t
  | [], i, T, m, ads, T', m', ads', D, _, _, _, e => by cases e; exact D
  | o :: r, i, T, m, ads, T', m', ads', D, h, h3, inj, e => by
    unfold Mine.putNew at e
    split at e
    · rename_i q
      have z := h 0 o rfl
      refine Rep.putNew h1 h2 r (i + 1) (D.addNew z.1 (Nat.le_trans h1 z.2) (Nat.le_trans h2 z.2) (fun j hj => h3 j 0 hj (Nat.succ_pos _)) (by rw [q]; rfl)) (fun k o' e' => ?_) (fun j k hj hk => ?_) (fun k k' hk hk' e' => ?_) e
      · have := h (k + 1) o' e'
        rwa [show i + (k + 1) = i + 1 + k by omega] at this
      · rw [adOf_cons]
        by_cases q : m ≤ j
        · rw [if_pos (show m ≤ j from q)]
          have : j = m := by omega
          subst this
          intro e'
          have := inj 0 (k + 1) (Nat.succ_pos _) (Nat.succ_lt_succ hk) (by rw [show i + (k + 1) = i + 1 + k by omega, ← e']; show ν i = ν i + (j - j); omega)
          omega
        · rw [if_neg (show ¬ m ≤ j from q)]
          have := h3 j (k + 1) (by omega) (Nat.succ_lt_succ hk)
          rwa [show i + (k + 1) = i + 1 + k by omega] at this
      · have := inj (k + 1) (k' + 1) (Nat.succ_lt_succ hk) (Nat.succ_lt_succ hk') (by rw [show i + (k + 1) = i + 1 + k by omega, show i + (k' + 1) = i + 1 + k' by omega]; exact e')
        omega
    · cases e
/-- what a contract must say, in the words of states -/
theorem left_of {B : Base} {s s' : Shared} {T : BT} {m : Nat} {ads : Ads} {tk : Nat} {g : Con} {ν : Unk} {r : Result} {ch : List (Nat × Obj)} {news : List Obj} (D : Rep B s T m ads tk) (e : g.left ν = ⟨r, setAll T ch, news⟩)
    (hc : ∀ x ∈ ch, x.1 < m ∧ s'.heap.get? (adOf ads x.1) = some x.2) (k : Keep (ch.map fun x => adOf ads x.1) s s')
    (hn : ∀ k o, news[k]? = some o → s'.heap.get? (ν.n k) = some o ∧ s.heap.objs.size ≤ ν.n k) (inj : ∀ k k', k < news.length → k' < news.length → ν.n k = ν.n k' → k = k') :
    LeftRep B g ν r s' m ads s'.heap.objs.size s'.toks := by
  unfold LeftRep
  rw [e]
  refine ⟨rfl, fun T' m' ads' h => Rep.putNew (lo := s.heap.objs.size) (D.size ▸ D.top) D.old news 0 (D.move ch hc k) (by simpa using hn) (fun j k hj hk e' => ?_) (by simpa using inj) h⟩
  have h1 := (D.lo j hj).2
  have h2 := (hn k news[k] (List.getElem?_eq_getElem hk)).2
  rw [D.size] at h2
  rw [Nat.zero_add] at e'
  omega
theorem left_one {B : Base} {s s' : Shared} {T : BT} {m : Nat} {ads : Ads} {tk : Nat} {g : Con} {ν : Unk} {r : Result} {ch : List (Nat × Obj)} {o : Obj} (D : Rep B s T m ads tk) (e : g.left ν = ⟨r, setAll T ch, [o]⟩)
    (hc : ∀ x ∈ ch, x.1 < m ∧ s'.heap.get? (adOf ads x.1) = some x.2) (k : Keep (ch.map fun x => adOf ads x.1) s s')
    (h1 : s'.heap.get? (ν.n 0) = some o) (h2 : s.heap.objs.size ≤ ν.n 0) : LeftRep B g ν r s' m ads s'.heap.objs.size s'.toks := by
  refine left_of D e hc k (fun k o' q => ?_) (fun k k' hk hk' _ => ?_)
  · cases k with
    | zero => cases q; exact ⟨h1, h2⟩
    | succ k => simp at q
  · simp at hk hk'; omega
theorem left_none {B : Base} {s s' : Shared} {T : BT} {m : Nat} {ads : Ads} {tk : Nat} {g : Con} {ν : Unk} {r : Result} {ch : List (Nat × Obj)} (D : Rep B s T m ads tk) (e : g.left ν = ⟨r, setAll T ch, []⟩)
    (hc : ∀ x ∈ ch, x.1 < m ∧ s'.heap.get? (adOf ads x.1) = some x.2) (k : Keep (ch.map fun x => adOf ads x.1) s s') : LeftRep B g ν r s' m ads s'.heap.objs.size s'.toks :=
  left_of D e hc k (fun k o' q => by simp at q) (fun k k' hk hk' _ => by simp at hk)

/-! ### looking at what a run leaves -/
noncomputable def look (is : List Nat) (X : Out) : Option (End1 × List (Option Obj) × List Nat × List (Nat × Nat) × List (Ctx × Ctx) × List (Option Obj × Option Obj) × Prop) := match X with
  | .fin e T _ ads _ A => some (e, is.map T.get, is.map (adOf ads), A.eqs, A.gs, A.os, A.ob)
  | .stop _ => none
noncomputable def eqsOf : Out → List (Nat × Nat)
  | .fin _ _ _ _ _ A => A.eqs
  | _ => []
noncomputable def gsOf : Out → List (Ctx × Ctx)
  | .fin _ _ _ _ _ A => A.gs
  | _ => []
noncomputable def osOf : Out → List (Option Obj × Option Obj)
  | .fin _ _ _ _ _ A => A.os
  | _ => []
noncomputable def dup (l : List (Nat × Nat)) : List (Nat × Nat) := l.map fun x => (x.1, x.1)
noncomputable def dupG (l : List (Ctx × Ctx)) : List (Ctx × Ctx) := l.map fun x => (x.1, x.1)
noncomputable def dupO (l : List (Option Obj × Option Obj)) : List (Option Obj × Option Obj) := l.map fun x => (x.1, x.1)
theorem dup_ok {l : List (Nat × Nat)} (h : l = dup l) : ∀ x ∈ l, x.1 = x.2 := fun x hx => by
  rw [h] at hx
  obtain ⟨y, _, rfl⟩ := List.mem_map.mp hx
  rfl
theorem dupG_ok {l : List (Ctx × Ctx)} (h : l = dupG l) : ∀ x ∈ l, x.1 = x.2 := fun x hx => by
  rw [h] at hx
  obtain ⟨y, _, rfl⟩ := List.mem_map.mp hx
  rfl

theorem dupO_ok {l : List (Option Obj × Option Obj)} (h : l = dupO l) : ∀ x ∈ l, x.1 = x.2 := fun x hx => by
  rw [h] at hx
  obtain ⟨y, _, rfl⟩ := List.mem_map.mp hx
  rfl

/-- what is known behind a run: the objects asked for (the first are those that stood ahead, then new ones), all else as it was -/
structure After (s s' : Shared) (l : List Nat) (is as : List Nat) (os : List (Option Obj)) : Prop where
  keep : Keep l s s'
  objs : ∀ (i a : Nat) (o : Obj), as[i]? = some a → os[i]? = some (some o) → s'.heap.get? a = some o
  young : ∀ (i a j : Nat) (o : Obj), is[i]? = some j → l.length ≤ j → as[i]? = some a → os[i]? = some (some o) → s.heap.objs.size ≤ a
  apart : ∀ (i i' a a' j j' : Nat) (o o' : Obj), is[i]? = some j → is[i']? = some j' → j ≠ j' → as[i]? = some a → os[i]? = some (some o) → as[i']? = some a' → os[i']? = some (some o') → a ≠ a'

theorem good_of_look {kt : X.KT} {n₀ : Nat} {s : Shared} {M : Model} {R : Result → Shared → Prop} {l ext : List Nat} {X : Out} {e : End1} {os : List (Option Obj)} {xs : List Nat} {ob : Prop}
    (h : look (List.range l.length ++ ext) X = some (e, os, l ++ xs, dup (eqsOf X), dupG (gsOf X), dupO (osOf X), ob)) (hob : ob) (fin : ∀ s', After s s' l (List.range l.length ++ ext) (l ++ xs) os → EndOk M R e s') : Good (baseOf kt n₀ l.length s) M R X := by
  cases X with
  | stop n => cases h
  | fin e' T m ads tk A =>
    simp only [look, Option.some.injEq, Prod.mk.injEq] at h
    obtain ⟨rfl, rfl, h0, h1, h2, h4, h3⟩ := h
    have hl : (List.range l.length).map (adOf ads) = l := by
      rw [List.map_append] at h0
      exact (List.append_inj h0 (by simp)).1
    rw [← h0] at fin
    have getA : ∀ {i a : Nat} {o : Obj}, ((List.range l.length ++ ext).map (adOf ads))[i]? = some a → ((List.range l.length ++ ext).map T.get)[i]? = some (some o) → ∃ j, (List.range l.length ++ ext)[i]? = some j ∧ a = adOf ads j ∧ T.get j = some o := by
      intro i a o ha ho
      rw [List.getElem?_map] at ha ho
      obtain ⟨x, hx, rfl⟩ := Option.map_eq_some_iff.mp ha
      obtain ⟨y, hy, hy'⟩ := Option.map_eq_some_iff.mp ho
      rw [hx] at hy
      cases hy
      exact ⟨x, hx, rfl, hy'⟩
    refine ⟨⟨dup_ok h1, dupG_ok h2, dupO_ok h4, h3 ▸ hob⟩, fun s' D => fin s' ⟨⟨fun b o hb hn => D.frame b o hb fun i hi => ?_, D.old, D.gens, D.drawn, D.os⟩, fun i a o ha ho => ?_, fun i a j o hj hk ha ho => ?_, fun i i' a a' j j' o o' hj hj' hne ha ho ha' ho' => ?_⟩⟩
    · by_cases q : i < l.length
      · intro z
        rw [← hl] at hn
        exact hn (z ▸ List.mem_map.mpr ⟨i, List.mem_range.mpr q, rfl⟩)
      · have h1 := D.young i (Nat.le_of_not_lt q) hi
        have h2 := Heap.lt_size hb
        exact Nat.ne_of_lt (Nat.lt_of_lt_of_le h2 h1)
    · obtain ⟨x, hx, rfl, hy'⟩ := getA ha ho
      exact (D.own _ _ hy').2
    · obtain ⟨x, hx, rfl, hy'⟩ := getA ha ho
      rw [hj] at hx; cases hx
      exact D.young _ hk (D.own _ _ hy').1
    · obtain ⟨x, hx, rfl, hy⟩ := getA ha ho
      obtain ⟨x', hx', rfl, hy'⟩ := getA ha' ho'
      rw [hj] at hx; cases hx
      rw [hj'] at hx'; cases hx'
      exact fun q => hne (D.inj _ _ (D.own _ _ hy).1 (D.own _ _ hy').1 q)

/-- the executor's word for a tree: from what stands ahead to what stands behind -/
theorem run_tree {kt : X.KT} {n₀ : Nat} {s : Shared} {M : Model} {R : Result → Shared → Prop} {C : Cfg} {l : List (Nat × Obj)} {Γ : Ctx} {p : Pos} {t : Sem Fin} {n : Nat} {hs ext : List Nat}
    (hden : C.den = M.den) (hprog : C.prog = M.prog) (hw : C.w = M.w) (hkt : C.kt = kt) (hcon : ConOk (baseOf kt n₀ l.length s) M C) (hlv : LvOk M C)
    (S : Sane kt n₀ s) (H : Holds s l) (nd : (l.map (·.1)).Nodup) (lo : ∀ x ∈ l, n₀ ≤ x.1)
    (e : Nv → End1) (os : Nv → List (Option Obj)) (xs : Nv → List Nat) (ob : Nv → Prop)
    (run : ∀ nv, let X := sx C n Γ p .base t hs (treeOf 0 (l.map (·.2)) .nil) l.length (adsOf 0 (l.map (·.1)) s.heap.objs.size []) s.toks 0 nv ⟨[], [], [], True⟩
      look (List.range l.length ++ ext) X = some (e nv, os nv, l.map (·.1) ++ xs nv, dup (eqsOf X), dupG (gsOf X), dupO (osOf X), ob nv))
    (hob : ∀ nv, ob nv) (fin : ∀ nv s', After s s' (l.map (·.1)) (List.range l.length ++ ext) (l.map (·.1) ++ xs nv) (os nv) → EndOk M R (e nv) s') : Mean M R .base Γ p t s := by
  refine sx_sound hden hprog hw hkt hcon hlv n Γ p .base _ hs _ _ _ _ 0 ⟨[], [], [], True⟩ s (Rep.start S H nd lo) fun nv => ?_
  have hlen : l.length = (l.map (·.1)).length := by rw [List.length_map]
  have r := run nv
  have f := fin nv
  rw [hlen] at r f ⊢
  exact good_of_look (by simpa only [List.length_map] using r) (hob nv) (by simpa only [List.length_map] using f)
/-- the same for a code -/
theorem run_spec {kt : X.KT} {n₀ : Nat} {s : Shared} {M : Model} {R : Result → Shared → Prop} {C : Cfg} {l : List (Nat × Obj)} {Γ : Ctx} {p : Pos} {n : Nat} {hs ext : List Nat}
    (hden : C.den = M.den) (hprog : C.prog = M.prog) (hw : C.w = M.w) (hkt : C.kt = kt) (hcon : ConOk (baseOf kt n₀ l.length s) M C) (hlv : LvOk M C)
    (S : Sane kt n₀ s) (H : Holds s l) (nd : (l.map (·.1)).Nodup) (lo : ∀ x ∈ l, n₀ ≤ x.1)
    (e : Nv → End1) (os : Nv → List (Option Obj)) (xs : Nv → List Nat) (ob : Nv → Prop)
    (run : ∀ nv, let X := sx C n Γ p .base (C.den Γ.code) hs (treeOf 0 (l.map (·.2)) .nil) l.length (adsOf 0 (l.map (·.1)) s.heap.objs.size []) s.toks 0 nv ⟨[], [], [], True⟩
      look (List.range l.length ++ ext) X = some (e nv, os nv, l.map (·.1) ++ xs nv, dup (eqsOf X), dupG (gsOf X), dupO (osOf X), ob nv))
    (hob : ∀ nv, ob nv) (fin : ∀ nv s', After s s' (l.map (·.1)) (List.range l.length ++ ext) (l.map (·.1) ++ xs nv) (os nv) → EndOk M R (e nv) s') : wpCode M Γ R p s := by
  rw [wpCode_iff_wp, ← hden]
  exact run_tree hden hprog hw hkt hcon hlv S H nd lo e os xs ob run hob fin
/-- the tree of a code without what is done to a raise -/
noncomputable def lvOf (C : Cfg) (c : Code) : Sem Fin := match C.lvt c with
  | some (t, _, _) => t
  | none => .unsupported ""
/-- the same for a code whose raises are noted by its frame -/
theorem run_lv {kt : X.KT} {n₀ : Nat} {s : Shared} {M : Model} {R : Result → Shared → Prop} {C : Cfg} {l : List (Nat × Obj)} {Γ : Ctx} {p : Pos} {env : Env} {fl : Bool} {n : Nat} {hs ext : List Nat}
    (hden : C.den = M.den) (hprog : C.prog = M.prog) (hw : C.w = M.w) (hkt : C.kt = kt) (hcon : ConOk (baseOf kt n₀ l.length s) M C) (hlv : LvOk M C)
    (S : Sane kt n₀ s) (H : Holds s l) (nd : (l.map (·.1)).Nodup) (lo : ∀ x ∈ l, n₀ ≤ x.1) (hl : C.lvt Γ.code = some (lvOf C Γ.code, env, fl))
    (e : Nv → End1) (os : Nv → List (Option Obj)) (xs : Nv → List Nat) (ob : Nv → Prop)
    (run : ∀ nv, let X := sx C n Γ p (.lv Γ env fl .base) (lvOf C Γ.code) hs (treeOf 0 (l.map (·.2)) .nil) l.length (adsOf 0 (l.map (·.1)) s.heap.objs.size []) s.toks 0 nv ⟨[], [], [], True⟩
      look (List.range l.length ++ ext) X = some (e nv, os nv, l.map (·.1) ++ xs nv, dup (eqsOf X), dupG (gsOf X), dupO (osOf X), ob nv))
    (hob : ∀ nv, ob nv) (fin : ∀ nv s', After s s' (l.map (·.1)) (List.range l.length ++ ext) (l.map (·.1) ++ xs nv) (os nv) → EndOk M R (e nv) s') : wpCode M Γ R p s := by
  refine lv_enter (κ := .base) hlv rfl rfl hl (sx_sound hden hprog hw hkt hcon hlv n Γ p _ _ hs _ _ _ _ 0 ⟨[], [], [], True⟩ s (Rep.start S H nd lo) fun nv => ?_)
  have hlen : l.length = (l.map (·.1)).length := by rw [List.length_map]
  have r := run nv
  have f := fin nv
  rw [hlen] at r f ⊢
  exact good_of_look (by simpa only [List.length_map] using r) (hob nv) (by simpa only [List.length_map] using f)
/-- what a call has done: some objects turned, some new -/
structure Did (s s' : Shared) (ch news : List (Nat × Obj)) : Prop where
  keep : Keep (ch.map (·.1)) s s'
  holds : Holds s' ch
  new : Holds s' news
  young : ∀ x ∈ news, s.heap.objs.size ≤ x.1
  nodup : (news.map (·.1)).Nodup
/-- a contract told by what stands at its addresses -/
noncomputable def conS (T : BT) (ads : Ads) (gx : Ctx) (ins : List (Nat × Nat × Obj)) (ob : Prop) (res : Unk → Result) (ch : Unk → List (Nat × Obj)) (news : Unk → List Obj) : Con :=
  { gx, nq := ins.map (fun x => (x.2.1, adOf ads x.1)), oq := ins.map (fun x => (T.get x.1, some x.2.2)), ob, left := fun ν => ⟨res ν, setAll T (ch ν), news ν⟩ }
theorem conS_holds {B : Base} {s : Shared} {T : BT} {m : Nat} {ads : Ads} {tk : Nat} {gx : Ctx} {ins : List (Nat × Nat × Obj)} {ob : Prop} {res : Unk → Result} {ch : Unk → List (Nat × Obj)} {news : Unk → List Obj} (D : Rep B s T m ads tk)
    (hn : ∀ x ∈ (conS T ads gx ins ob res ch news).nq, x.1 = x.2) (ho : ∀ x ∈ (conS T ads gx ins ob res ch news).oq, x.1 = x.2) : Holds s (ins.map fun x => (x.2.1, x.2.2)) ∧ ∀ x ∈ ins, x.1 < m ∧ x.2.1 = adOf ads x.1 := by
  have h1 : ∀ x ∈ ins, x.2.1 = adOf ads x.1 := fun x hx => hn _ (List.mem_map.mpr ⟨x, hx, rfl⟩)
  have h2 : ∀ x ∈ ins, T.get x.1 = some x.2.2 := fun x hx => ho _ (List.mem_map.mpr ⟨x, hx, rfl⟩)
  refine ⟨fun y hy => ?_, fun x hx => ⟨(D.own _ _ (h2 x hx)).1, h1 x hx⟩⟩
  obtain ⟨x, hx, rfl⟩ := List.mem_map.mp hy
  show s.heap.get? x.2.1 = some x.2.2
  rw [h1 x hx]
  exact (D.own _ _ (h2 x hx)).2
theorem conS_left {B : Base} {s s' : Shared} {T : BT} {m : Nat} {ads : Ads} {tk : Nat} {gx : Ctx} {ins : List (Nat × Nat × Obj)} {ob : Prop} {res : Unk → Result} {ch : Unk → List (Nat × Obj)} {news : Unk → List Obj} (D : Rep B s T m ads tk)
    (ν : Unk) (r : Result) (hr : r = res ν) (c : List (Nat × Obj)) (n : List (Nat × Obj)) (G : Did s s' c n) (hc : c = (ch ν).map fun x => (adOf ads x.1, x.2)) (hm : ∀ x ∈ ch ν, x.1 < m)
    (hn1 : n.map (·.2) = news ν) (hn2 : ∀ k, k < n.length → (n.map (·.1))[k]? = some (ν.n k)) : ∃ N t ν', LeftRep B (conS T ads gx ins ob res ch news) ν' r s' m ads N t := by
  refine ⟨_, _, ν, left_of (ch := ch ν) (news := news ν) D (by rw [hr]; rfl) (fun x hx => ⟨hm x hx, ?_⟩) ?_ (fun k o hk => ?_) fun k k' hk hk' e => ?_⟩
  · exact G.holds (adOf ads x.1, x.2) (by rw [hc]; exact List.mem_map.mpr ⟨x, hx, rfl⟩)
  · have := G.keep
    rw [hc, List.map_map] at this
    exact this
  · rw [← hn1, List.getElem?_map] at hk
    obtain ⟨y, hy, rfl⟩ := Option.map_eq_some_iff.mp hk
    have hlt := (List.getElem?_eq_some_iff.mp hy).1
    have e := hn2 k hlt
    rw [List.getElem?_map, hy] at e
    have e : y.1 = ν.n k := Option.some.inj e
    have hmem : y ∈ n := List.mem_of_getElem? hy
    exact ⟨e ▸ G.new y hmem, e ▸ G.young y hmem⟩
  · rw [← hn1, List.length_map] at hk hk'
    have e1 := hn2 k hk
    have e2 := hn2 k' hk'
    rw [← e] at e2
    obtain ⟨a1, b1⟩ := List.getElem?_eq_some_iff.mp e1
    obtain ⟨a2, b2⟩ := List.getElem?_eq_some_iff.mp e2
    exact (List.getElem_inj G.nodup).mp (b1.trans b2.symm)
/-! SxCon -/
/-! ### contracts out of the library's rules -/
noncomputable def exactA (Γ : Ctx) : Around := { handled := Γ.handled, depth := frameCount Γ.below, frames := some (envsOf Γ.below), guards := some (guardsOf Γ.below), units := unitsOf Γ.below }
theorem below_exact (Γ : Ctx) : Γ.Below (exactA Γ) :=
  ⟨rfl, Nat.le_refl _, fun l h => by cases h; rfl, fun g h => by cases h; rfl, Nat.le_refl _⟩
theorem wpCode_any {M : Model} {Γ : Ctx} {R : Result → Shared → Prop} {p : Pos} {s : Shared} (h : codeAny M (exactA Γ) Γ.code R s) : wpCode M Γ R p s := h Γ p rfl (below_exact Γ)
/-- only the tokens have moved -/
theorem Keep.toks (s : Shared) (t : Nat) : Keep [] s { s with toks := t } := ⟨fun _ _ e _ => e, Nat.le_refl _, rfl, rfl, rfl⟩

theorem left_toks {B : Base} {s : Shared} {T : BT} {m : Nat} {ads : Ads} {tk : Nat} (D : Rep B s T m ads tk) {g : Con} {r : Result} {ν : Unk} (t : Nat) (e : g.left ν = ⟨r, T, []⟩) :
    LeftRep B g ν r { s with toks := t } m ads s.heap.objs.size t :=
  left_none (s' := { s with toks := t }) (ch := []) D e (by simp) (Keep.toks s t)

theorem add_code {prog : Program} {w : World} {A : Around} {s : Shared} {a b : Str} {ta tb : Tok} {R : Result → Shared → Prop} (hs : (a ++ b).length ≤ sizeLine)
    (h : ∀ τ t, R (.ok (.ret (.str (a ++ b) τ))) { s with toks := t }) : codeAny (model prog w) A (.call (.builtin "str.__add__") ⟨[.str a ta, .str b tb], []⟩) R s := by
  refine codeAny_call_builtin F.slot_str_add.plain F.entry_str_add (F.slot_str_add.check _ _ _ _ _ _ _ _ (typeIs_str s a ta) (F.args_str_add_2 _ _) (gives_str_add a b ta tb prog w A R s ?_))
  split
  · rename_i h0
    have : a ++ b = b := by
      have : a = Str.empty := by
        obtain ⟨⟨l⟩⟩ := a
        have : l.length = 0 := by simpa [Str.length] using h0
        cases l with
        | nil => rfl
        | cons => simp at this
      rw [this]; exact Str.empty_append b
    have z := h tb s.toks
    rw [this] at z
    exact z
  · split
    · rename_i h0
      have : a ++ b = a := by
        obtain ⟨⟨l⟩⟩ := b
        have : l.length = 0 := by simpa [Str.length] using h0
        cases l with
        | nil =>
          obtain ⟨⟨k⟩⟩ := a
          show Str.mk _ = Str.mk _
          simp
        | cons => simp at this
      have z := h ta s.toks
      rw [this] at z
      exact z
    · exact ⟨hs, h _ _⟩
end Mine
end
section
open PySem PySem.W
open Builtin Builtin.Str Builtin.Int PySem.SeqAt
namespace Mine
/-! SxLib -/
section
variable {prog : Program} {w : World} {A : Around} {s : Shared} {R : Result → Shared → Prop}
/-- a pure built-in, by the library's word for its tree -/
theorem gives_code {T : String} {name : Str} {id : String} {B : Builtin} {self : Value} {rest : List Value} {m : Made} (slot : Slot T name id) (hT : s.TypeIs self T)
    (entry : entryFor table id = some B) (args : argsOk id ⟨self :: rest, []⟩) (g : Gives (B ⟨self :: rest, []⟩) m) (h : m.post (fun v s' => R (.ok (.ret v)) s') s) :
    codeAny (model prog w) A (.call (.builtin id) ⟨self :: rest, []⟩) R s :=
  codeAny_call_builtin slot.plain entry (slot.check _ _ _ _ _ _ _ _ hT args (g prog w A R s h))
theorem meets_code {T : String} {name : Str} {id : String} {B : Builtin} {self : Value} {rest : List Value} {S : Spec} (slot : Slot T name id) (hT : s.TypeIs self T)
    (entry : entryFor table id = some B) (args : argsOk id ⟨self :: rest, []⟩) (g : Meets (B ⟨self :: rest, []⟩) S) (h : S A R s) :
    codeAny (model prog w) A (.call (.builtin id) ⟨self :: rest, []⟩) R s :=
  codeAny_call_builtin slot.plain entry (slot.check _ _ _ _ _ _ _ _ hT args (g prog w A R s h))
theorem eq_code {a b : Str} {ta tb : Tok} (h : R (.ok (.ret (.bool (a.cps.toList == b.cps.toList)))) s) : codeAny (model prog w) A (.call (.builtin "str.__eq__") ⟨[.str a ta, .str b tb], []⟩) R s :=
  gives_code F.slot_str_eq (typeIs_str s a ta) F.entry_str_eq (F.args_str_eq_2 _ _) (gives_str_eq a b ta tb) h
theorem in_code {a b : Str} {ta tb : Tok} (h : R (.ok (.ret (.bool !(occurrences a b 0 a.length 1).isEmpty))) s) : codeAny (model prog w) A (.call (.builtin "str.__contains__") ⟨[.str a ta, .str b tb], []⟩) R s :=
  gives_code F.slot_str_contains (typeIs_str s a ta) F.entry_str_contains (F.args_str_contains_2 _ _) (gives_str_contains a b ta tb) h
theorem inTuple_code {l : Addr} {items : List Value} {n : Nat} {x : Value} {e : Value → Bool} (hl : s.heap.get? l = some ⟨.type "tuple", none, .seq ⟨items⟩ n, ⟨[]⟩⟩) (he : ∀ y ∈ items, EqAt A.in1 s y x (e y))
    (h : R (.ok (.ret (.bool (items.any e)))) s) : codeAny (model prog w) A (.call (.builtin "tuple.__contains__") ⟨[.ref l, x], []⟩) R s :=
  meets_code F.slot_tuple_contains ⟨_, hl, rfl⟩ F.entry_tuple_contains (F.args_tuple_contains_2 _ _) (tuple_containsAt l ⟨items⟩ n none ⟨[]⟩ x e) ⟨hl, fun y hy => he y (by simpa using hy), by simpa using h⟩
theorem len_body {a : Str} {ta : Tok} (hf : a.length ≤ sizeLine) (h : ∀ τ t, R (.ok (.ret (.int a.length τ))) { s with toks := t }) : codeAny (model prog w) A (.builtin "len" ⟨[.str a ta], []⟩) R s := by
  refine codeAny_builtin entry_len ?_
  rw [Around.under_plainId plain_len _]
  have hz : sizeLine < 2 ^ 63 := by decide
  exact wpAny_mono (wpAny_len_body (Q := fun r s' => R (.ok (.ret r)) s') (typeIs_str s a ta) F.slot_str_len F.entry_str_len (F.args_str_len_1 _) (gives_str_len a ta) (by omega) (by omega) (h _ _))
      (fun fin s' h' => by obtain ⟨r, rfl, hq⟩ := h'; exact hq) fun _ _ e => e
/-- a built-in function, by its tree -/
theorem fn_code {id : String} {b : Builtin} {args : List Value} (hk : builtinKind id = none) (hp : plainId id = true) (hb : entryFor table id = some b) (ha : argsOk id ⟨args, []⟩)
    (hc : wpAny (model prog w) A.in1 (b ⟨args, []⟩) (fun fin s' => ∃ v, fin = .done (.ret v) ∧ R (.ok (.ret v)) s') (fun e s' => R (.error e) s') s) : codeAny (model prog w) A (.call (.builtin id) ⟨args, []⟩) R s := by
  refine codeAny_call_builtin hp hb ?_
  have hfin := wpAny_mono hc (Q' := fun fin s' => match fin with
      | .done f => R (.ok f) s'
      | .again c' => c'.quiet = true ∧ codeAny (model prog w) A c' R s') (fun fin s' h' => by obtain ⟨v, rfl, hv⟩ := h'; exact hv) fun _ _ h' => h'
  simp only [checkBuiltinCall, hk]
  cases hsig : Manifest.signature? id with
  | none => exact wpAny_pure hfin
  | some sig =>
    simp only [argsOk, hsig] at ha
    have h2 : Bind.checkArgs id sig ⟨args, []⟩ = pure () := ha
    show wpAny _ A.in1 (Bind.checkArgs id sig ⟨args, []⟩) _ _ s
    rw [h2]; exact wpAny_pure hfin
theorem len_code {a : Str} {ta : Tok} (hf : a.length ≤ sizeLine) (h : ∀ τ t, R (.ok (.ret (.int a.length τ))) { s with toks := t }) : codeAny (model prog w) A (.call (.builtin "len") ⟨[.str a ta], []⟩) R s := by
  have hz : sizeLine < 2 ^ 63 := by decide
  exact fn_code kind_len plain_len entry_len (args_len1 _) (wpAny_len_body (Q := fun r s' => R (.ok (.ret r)) s') (typeIs_str s a ta) F.slot_str_len F.entry_str_len (F.args_str_len_1 _) (gives_str_len a ta) (by omega) (by omega) (h _ _))
end
/-! SxB -/
/-! ### contracts for built-ins, the same in every run -/
noncomputable def bOf : Nat → Bool
  | 0 => false
  | _ + 1 => true
noncomputable def EqB (a b : List Nat) (x : Nat) : Prop := (a == b) = bOf x
noncomputable def InB (l : List Nat) (c x : Nat) : Prop := decide (c ∈ l) = bOf x
noncomputable def LeB (a b : Str) : Prop := (a ++ b).length ≤ sizeLine
noncomputable def TupB (ty : String) (e1 a : Str) : Prop := ty = "tuple" ∧ e1 = a
noncomputable def LnB (a : Str) : Prop := a.length ≤ sizeLine
noncomputable def unkT (τ : Nat) : Unk := ⟨fun _ => τ, fun _ => #[], fun _ => #[], fun _ => default⟩
/-! what a code's arguments are -/
noncomputable def argsOf : Code → Option (List Value)
  | .call _ a => some a.pos
  | .builtin _ a => some a.pos
  | _ => none
noncomputable def asS : Value → Option (Str × Tok)
  | .str a t => some (a, t)
  | _ => none
noncomputable def asI : Value → Option (Int × Tok)
  | .int a t => some (a, t)
  | _ => none
noncomputable def fst1 : Option (List Value) → Option Value
  | some (v :: _) => some v
  | _ => none
noncomputable def snd1 : Option (List Value) → Option Value
  | some (_ :: v :: _) => some v
  | _ => none
noncomputable def thd1 : Option (List Value) → Option Value
  | some (_ :: _ :: v :: _) => some v
  | _ => none
noncomputable def asN : Value → Option (Nat × Tok)
  | .int (.ofNat k) t => some (k, t)
  | _ => none
noncomputable def bindO {α β : Type} (x : Option α) (f : α → Option β) : Option β := match x with
  | some a => f a
  | none => none
theorem bindO_some {α β : Type} {x : Option α} {f : α → Option β} {b : β} (h : bindO x f = some b) : ∃ a, x = some a ∧ f a = some b := by
  cases x with
  | none => cases h
  | some a => exact ⟨a, rfl, h⟩
/-- the two texts, the two ints, the text, the int of a code -/
noncomputable def sAt (c : Code) : Option (Str × Tok) := bindO (fst1 (argsOf c)) asS
noncomputable def sAt2 (c : Code) : Option (Str × Tok) := bindO (snd1 (argsOf c)) asS
noncomputable def iAt (c : Code) : Option (Int × Tok) := bindO (fst1 (argsOf c)) asI
noncomputable def iAt2 (c : Code) : Option (Int × Tok) := bindO (snd1 (argsOf c)) asI
noncomputable def two {α β : Type} (x : Option α) (y : Option β) : Option (α × β) := bindO x fun a => bindO y fun b => some (a, b)
noncomputable def one1 : List Nat → Option Nat
  | [c] => some c
  | _ => none
noncomputable def seqOf : Option Obj → Option (String × List Value)
  | some ⟨.type ty, none, .seq ⟨l⟩ _, ⟨[]⟩⟩ => some (ty, l)
  | _ => none
theorem seqOf_some {o : Option Obj} {y : String × List Value} (h : seqOf o = some y) : ∃ n, o = some ⟨.type y.1, none, .seq ⟨y.2⟩ n, ⟨[]⟩⟩ := by
  unfold seqOf at h
  split at h
  · cases h; exact ⟨_, rfl⟩
  · cases h
theorem asS_some {v : Value} {z : Str × Tok} (h : asS v = some z) : v = .str z.1 z.2 := by
  unfold asS at h
  split at h
  · cases h; rfl
  · cases h
noncomputable def strs2 : List Value → Option ((Str × Tok) × (Str × Tok))
  | [a, b] => two (asS a) (asS b)
  | _ => none
theorem strs2_some {l : List Value} {u : (Str × Tok) × (Str × Tok)} (h : strs2 l = some u) : l = [.str u.1.1 u.1.2, .str u.2.1 u.2.2] := by
  unfold strs2 at h
  split at h
  · obtain ⟨a, e1, h⟩ := bindO_some h
    obtain ⟨b, e2, h⟩ := bindO_some h
    cases h
    rw [asS_some e1, asS_some e2]
  · cases h
noncomputable def conB : Nat → Nat → Ctx → Code → BT → Ads → Option Con := fun j x Γ c T ads => match j with
  | 0 => bindO (two (sAt c) (sAt2 c)) fun z => some (mkC { Γ with code := .call (.builtin "str.__eq__") ⟨[.str z.1.1 z.1.2, .str z.2.1 z.2.2], []⟩ } (EqB z.1.1.cps.toList z.2.1.cps.toList x) (fun _ => ⟨.ok (.ret (.bool (bOf x))), T, []⟩))
  | 1 => bindO (two (sAt c) (sAt2 c)) fun z => bindO (one1 z.2.1.cps.toList) fun d => some (mkC { Γ with code := .call (.builtin "str.__contains__") ⟨[.str z.1.1 z.1.2, .str ⟨⟨[d]⟩⟩ z.2.2], []⟩ } (InB z.1.1.cps.toList d x) (fun _ => ⟨.ok (.ret (.bool (bOf x))), T, []⟩))
  | 2 => bindO (two (sAt c) (sAt2 c)) fun z => some (mkC { Γ with code := .call (.builtin "str.__add__") ⟨[.str z.1.1 z.1.2, .str z.2.1 z.2.2], []⟩ } (LeB z.1.1 z.2.1) (fun ν => ⟨.ok (.ret (.str (z.1.1 ++ z.2.1) (ν.n 0))), T, []⟩))
  | 3 => bindO (sAt2 c) fun z => bindO (seqOf (T.get x)) fun y => bindO (strs2 y.2) fun u => some (mkC { Γ with code := .call (.builtin "tuple.__contains__") ⟨[.ref (adOf ads x), .str z.1 z.2], []⟩ } (TupB y.1 u.1.1 z.1) fun ν => ⟨.ok (.ret (.bool true)), T, []⟩)
  | 4 => bindO (sAt c) fun z => some (mkC { Γ with code := .builtin "len" ⟨[.str z.1 z.2], []⟩ } (LnB z.1) (fun ν => ⟨.ok (.ret (.int z.1.length (ν.n 0))), T, []⟩))
  | 5 => bindO (sAt c) fun z => some (mkC { Γ with code := .call (.builtin "len") ⟨[.str z.1 z.2], []⟩ } (LnB z.1) (fun ν => ⟨.ok (.ret (.int z.1.length (ν.n 0))), T, []⟩))
  | _ => none

theorem wpCode_at {M : Model} {Γ : Ctx} {R : Result → Shared → Prop} {p : Pos} {s : Shared} {c : Code} (hc : Γ.code = c) (h : codeAny M (exactA Γ) c R s) : wpCode M Γ R p s := wpCode_any (hc ▸ h)
theorem inPair_code {prog : Program} {w : World} {A : Around} {s : Shared} {R : Result → Shared → Prop} {l : Addr} {e1 e2 a : Str} {t1 t2 ta : Tok} {n : Nat}
    (hl : s.heap.get? l = some ⟨.type "tuple", none, .seq ⟨[.str e1 t1, .str e2 t2]⟩ n, ⟨[]⟩⟩) (he : e1 = a) (h : R (.ok (.ret (.bool true))) s) : codeAny (model prog w) A (.call (.builtin "tuple.__contains__") ⟨[.ref l, .str a ta], []⟩) R s := by
  refine inTuple_code (e := fun y => match y with | .str b _ => b == a | _ => false) hl (fun y hy => ?_) (by simpa [he] using h)
  rcases List.mem_cons.mp hy with rfl | hy
  · exact EqAt.str_str _ _ _ _
  · rcases List.mem_cons.mp hy with rfl | hy
    · exact EqAt.str_str _ _ _ _
    · cases hy
theorem left_same {B : Base} {s : Shared} {T : BT} {m : Nat} {ads : Ads} {tk : Nat} (D : Rep B s T m ads tk) {g : Con} {r : Result} {ν : Unk} (e : g.left ν = ⟨r, T, []⟩) : ∃ N t ν, LeftRep B g ν r s m ads N t :=
  ⟨_, _, ν, by have := left_toks D s.toks e; exact this⟩
theorem conB_ok {B : Base} {prog : Program} {w : World} : ∀ (j x : Nat) (Γ : Ctx) (T : BT) (m : Nat) (ads : Ads) (tk : Nat) (s : Shared) (p : Pos) (g : Con), conB j x Γ Γ.code T ads = some g → Γ = g.gx → g.ob → Rep B s T m ads tk →
    wpCode (model prog w) Γ (fun r s' => ∃ N t ν, LeftRep B g ν r s' m ads N t) p s := by
  intro j x Γ T m ads tk s p g hg hx ob D
  match j, hg with
  | 0, hg =>
    obtain ⟨z, _, e⟩ := bindO_some hg
    cases e
    exact wpCode_at (congrArg Ctx.code hx) <| eq_code (left_same D (by rw [show _ = bOf _ from ob]) (ν := unk0))
  | 1, hg =>
    obtain ⟨z, _, e⟩ := bindO_some hg
    obtain ⟨d, _, e⟩ := bindO_some e
    cases e
    exact wpCode_at (congrArg Ctx.code hx) <| in_code (left_same D (by rw [StrLaws.found_one, show _ = bOf _ from ob]) (ν := unk0))
  | 2, hg =>
    obtain ⟨z, _, e⟩ := bindO_some hg
    cases e
    exact wpCode_at (congrArg Ctx.code hx) <| add_code ob fun τ t => ⟨_, _, unkT τ, left_toks D t rfl⟩
  | 3, hg =>
    obtain ⟨z, _, e⟩ := bindO_some hg
    obtain ⟨y, hy, e⟩ := bindO_some e
    obtain ⟨u, hu, e⟩ := bindO_some e
    cases e
    obtain ⟨n, hT⟩ := seqOf_some hy
    obtain ⟨h1, h2⟩ := ob
    rw [strs2_some hu, h1] at hT
    exact wpCode_at (congrArg Ctx.code hx) <| inPair_code (D.own _ _ hT).2 h2 (left_same D rfl (ν := unk0))
  | 4, hg =>
    obtain ⟨z, _, e⟩ := bindO_some hg
    cases e
    exact wpCode_at (congrArg Ctx.code hx) <| len_body ob fun τ t => ⟨_, _, unkT τ, left_toks D t rfl⟩
  | 5, hg =>
    obtain ⟨z, _, e⟩ := bindO_some hg
    cases e
    exact wpCode_at (congrArg Ctx.code hx) <| len_code ob fun τ t => ⟨_, _, unkT τ, left_toks D t rfl⟩
  | _ + 6, hg => cases hg
/-! SxO -/
section
/-! ### contracts whose answers are told from outside -/
structure Orc where
  str : Nat → List Nat
  int : Nat → Int
noncomputable def orc0 : Orc := ⟨fun _ => [], fun _ => 0⟩
noncomputable def GeB (a b : Int) (x : Nat) : Prop := decide (a ≥ b) = bOf x
noncomputable def LtB (a b : Int) (x : Nat) : Prop := decide (a < b) = bOf x
noncomputable def GtB (a b : Int) (x : Nat) : Prop := decide (a > b) = bOf x
noncomputable def IeB (a b : Int) (x : Nat) : Prop := (a == b) = bOf x
noncomputable def partOf : Value → Option (Option (Int × Tok))
  | .none => some none
  | .int i t => some (some (i, t))
  | _ => none
noncomputable def SlcB (ty : String) (a : Str) (l u st : Option (Int × Tok)) (res : List Nat) : Prop :=
  ty = "slice" ∧ ((st.map (·.1)).getD 1 == 0) = false ∧ (if ((st.map (·.1)).getD 1 == 1 && (slicePicked a l u st).length == a.length) = true then a else (⟨((slicePicked a l u st).filterMap (a.cps[·]?)).toArray⟩ : Str)) = ⟨⟨res⟩⟩ ∧ res.length ≤ sizeLine
noncomputable def IdxB (a : Str) (i : Int) (res : List Nat) : Prop := ∃ c, res = [c] ∧ (decide (i < -(2 ^ 63 : Int)) || decide (i ≥ 2 ^ 63)) = false ∧ (seqIndex? i a.length).bind (a.cps[·]?) = some c
noncomputable def MulB (a b r : Int) : Prop := IntMulOk a b ∧ a * b = r
noncomputable def fldOf : Option Obj → Option (String × List Value)
  | some ⟨.type ty, none, .fields ⟨l⟩, ⟨[]⟩⟩ => some (ty, l)
  | _ => none
theorem fldOf_some {o : Option Obj} {y : String × List Value} (h : fldOf o = some y) : o = some ⟨.type y.1, none, .fields ⟨y.2⟩, ⟨[]⟩⟩ := by
  unfold fldOf at h
  split at h
  · cases h; rfl
  · cases h
structure Three (α : Type) where
  a : α
  b : α
  c : α
noncomputable def parts3 {α : Type} (f : Value → Option α) : List Value → Option (Three α)
  | [l, u, s] => bindO (f l) fun a => bindO (f u) fun b => bindO (f s) fun c => some ⟨a, b, c⟩
  | _ => none
theorem parts3_some {α : Type} {f : Value → Option α} {l : List Value} {z : Three α} (h : parts3 f l = some z) : ∃ x y w, l = [x, y, w] ∧ f x = some z.a ∧ f y = some z.b ∧ f w = some z.c := by
  unfold parts3 at h
  split at h
  · obtain ⟨a, e1, h⟩ := bindO_some h
    obtain ⟨b, e2, h⟩ := bindO_some h
    obtain ⟨c, e3, h⟩ := bindO_some h
    cases h
    exact ⟨_, _, _, rfl, e1, e2, e3⟩
  · cases h
theorem partOf_val {v : Value} {x : Option (Int × Tok)} (h : partOf v = some x) : v = partValue x := by
  unfold partOf at h
  split at h <;> cases h <;> rfl
noncomputable def conO (O : Orc) : Nat → Nat → Ctx → Code → BT → Ads → Option Con := fun j x Γ c T ads => match Nat.blt j 6 with
  | true => conB j x Γ c T ads
  | false => match j with
    | 6 => bindO (two (iAt c) (iAt2 c)) fun z => some (mkC { Γ with code := .call (.builtin "int.__ge__") ⟨[.int z.1.1 z.1.2, .int z.2.1 z.2.2], []⟩ } (GeB z.1.1 z.2.1 x) fun _ => ⟨.ok (.ret (.bool (bOf x))), T, []⟩)
    | 7 => bindO (two (iAt c) (iAt2 c)) fun z => some (mkC { Γ with code := .call (.builtin "int.__lt__") ⟨[.int z.1.1 z.1.2, .int z.2.1 z.2.2], []⟩ } (LtB z.1.1 z.2.1 x) fun _ => ⟨.ok (.ret (.bool (bOf x))), T, []⟩)
    | 8 => bindO (sAt c) fun z => bindO (fldOf (T.get (x / 100))) fun y => bindO (parts3 partOf y.2) fun u => some (mkC { Γ with code := .call (.builtin "str.__getitem__") ⟨[.str z.1 z.2, .ref (adOf ads (x / 100))], []⟩ } (SlcB y.1 z.1 u.a u.b u.c (O.str (x % 100)))
          fun ν => ⟨.ok (.ret (.str ⟨⟨O.str (x % 100)⟩⟩ (ν.n 0))), T, []⟩)
    | 9 => bindO (two (sAt c) (iAt2 c)) fun z => some (mkC { Γ with code := .call (.builtin "str.__getitem__") ⟨[.str z.1.1 z.1.2, .int z.2.1 z.2.2], []⟩ } (IdxB z.1.1 z.2.1 (O.str x)) fun ν => ⟨.ok (.ret (.str ⟨⟨O.str x⟩⟩ (ν.n 0))), T, []⟩)
    | 10 => bindO (two (iAt c) (iAt2 c)) fun z => some (mkC { Γ with code := .call (.builtin "int.__eq__") ⟨[.int z.1.1 z.1.2, .int z.2.1 z.2.2], []⟩ } (IeB z.1.1 z.2.1 x) fun _ => ⟨.ok (.ret (.bool (bOf x))), T, []⟩)
    | 11 => bindO (two (iAt c) (iAt2 c)) fun z => some (mkC { Γ with code := .call (.builtin "int.__mul__") ⟨[.int z.1.1 z.1.2, .int z.2.1 z.2.2], []⟩ } (MulB z.1.1 z.2.1 (O.int x)) fun ν => ⟨.ok (.ret (.int (O.int x) (ν.n 0))), T, []⟩)
    | 12 => bindO (two (iAt c) (iAt2 c)) fun z => some (mkC { Γ with code := .call (.builtin "int.__gt__") ⟨[.int z.1.1 z.1.2, .int z.2.1 z.2.2], []⟩ } (GtB z.1.1 z.2.1 x) fun _ => ⟨.ok (.ret (.bool (bOf x))), T, []⟩)
    | _ => none

section
variable {prog : Program} {w : World} {A : Around} {s : Shared} {R : Result → Shared → Prop}
theorem ge_code {a b : Int} {ta tb : Tok} (h : R (.ok (.ret (.bool (decide (a ≥ b))))) s) : codeAny (model prog w) A (.call (.builtin "int.__ge__") ⟨[.int a ta, .int b tb], []⟩) R s :=
  gives_code F.slot_int_ge (typeIs_int s a ta) F.entry_int_ge (F.args_int_ge_2 _ _) (gives_int_ge a b ta tb) h
theorem lt_code {a b : Int} {ta tb : Tok} (h : R (.ok (.ret (.bool (decide (a < b))))) s) : codeAny (model prog w) A (.call (.builtin "int.__lt__") ⟨[.int a ta, .int b tb], []⟩) R s :=
  gives_code F.slot_int_lt (typeIs_int s a ta) F.entry_int_lt (F.args_int_lt_2 _ _) (gives_int_lt a b ta tb) h
theorem gt_code {a b : Int} {ta tb : Tok} (h : R (.ok (.ret (.bool (decide (a > b))))) s) : codeAny (model prog w) A (.call (.builtin "int.__gt__") ⟨[.int a ta, .int b tb], []⟩) R s :=
  gives_code F.slot_int_gt (typeIs_int s a ta) F.entry_int_gt (F.args_int_gt_2 _ _) (gives_int_gt a b ta tb) h
theorem ie_code {a b : Int} {ta tb : Tok} (h : R (.ok (.ret (.bool (a == b)))) s) : codeAny (model prog w) A (.call (.builtin "int.__eq__") ⟨[.int a ta, .int b tb], []⟩) R s :=
  gives_code F.slot_int_eq (typeIs_int s a ta) F.entry_int_eq (F.args_int_eq_2 _ _) (gives_int_eq a b ta tb) h
theorem mul_code {a b : Int} {ta tb : Tok} (hm : IntMulOk a b) (h : ∀ τ t, R (.ok (.ret (.int (a * b) τ))) { s with toks := t }) : codeAny (model prog w) A (.call (.builtin "int.__mul__") ⟨[.int a ta, .int b tb], []⟩) R s :=
  gives_code F.slot_int_mul (typeIs_int s a ta) F.entry_int_mul (F.args_int_mul_2 _ _) (gives_int_mul a b ta tb hm) (h _ _)
theorem slc_code {a : Str} {ta : Tok} {r : Addr} {l u st : Option (Int × Tok)} {res : List Nat} (hs : s.heap.IsSlice r l u st) (h0 : ((st.map (·.1)).getD 1 == 0) = false) (hr : (if ((st.map (·.1)).getD 1 == 1 && (slicePicked a l u st).length == a.length) = true then a else (⟨((slicePicked a l u st).filterMap (a.cps[·]?)).toArray⟩ : Str)) = ⟨⟨res⟩⟩)
    (hl : res.length ≤ sizeLine) (h : ∀ τ t, R (.ok (.ret (.str ⟨⟨res⟩⟩ τ))) { s with toks := t }) : codeAny (model prog w) A (.call (.builtin "str.__getitem__") ⟨[.str a ta, .ref r], []⟩) R s := by
  refine meets_code F.slot_str_getitem (typeIs_str s a ta) F.entry_str_getitem (F.args_str_getitem_2 _ _) (meets_str_getitem_slice a ta r l u st h0) ⟨hs, ?_⟩
  unfold sliceMade
  split
  · rename_i hw
    rw [if_pos hw] at hr
    have z := h ta s.toks
    rw [← hr] at z
    exact z
  · rename_i hw
    rw [if_neg hw] at hr
    rw [hr]
    exact ⟨by simpa [Str.length] using hl, h _ _⟩
theorem idx_code {a : Str} {ta ti : Tok} {i : Int} {c : Nat} (hr : (decide (i < -(2 ^ 63 : Int)) || decide (i ≥ 2 ^ 63)) = false) (hc : (seqIndex? i a.length).bind (a.cps[·]?) = some c)
    (h : ∀ τ t, R (.ok (.ret (.str ⟨⟨[c]⟩⟩ τ))) { s with toks := t }) : codeAny (model prog w) A (.call (.builtin "str.__getitem__") ⟨[.str a ta, .int i ti], []⟩) R s :=
  gives_code F.slot_str_getitem (typeIs_str s a ta) F.entry_str_getitem (F.args_str_getitem_2 _ _) (gives_str_getitem a i ta ti c hr hc) ⟨by show 1 ≤ sizeLine; decide, h _ _⟩
end
theorem conO_ok {B : Base} {prog : Program} {w : World} (O : Orc) : ∀ (j x : Nat) (Γ : Ctx) (T : BT) (m : Nat) (ads : Ads) (tk : Nat) (s : Shared) (p : Pos) (g : Con), conO O j x Γ Γ.code T ads = some g → Γ = g.gx → g.ob → Rep B s T m ads tk →
    wpCode (model prog w) Γ (fun r s' => ∃ N t ν, LeftRep B g ν r s' m ads N t) p s := by
  intro j x Γ T m ads tk s p g hg hx ob D
  cases hb : Nat.blt j 6 with
  | true =>
    unfold conO at hg
    rw [hb] at hg
    exact conB_ok _ _ _ _ _ _ _ _ _ _ hg hx ob D
  | false =>
    match j, hb, hg with
    | 6, _, hg =>
      obtain ⟨z, _, e⟩ := bindO_some hg
      cases e
      exact wpCode_at (congrArg Ctx.code hx) <| ge_code (left_same D (by rw [show _ = bOf _ from ob]) (ν := unk0))
    | 7, _, hg =>
      obtain ⟨z, _, e⟩ := bindO_some hg
      cases e
      exact wpCode_at (congrArg Ctx.code hx) <| lt_code (left_same D (by rw [show _ = bOf _ from ob]) (ν := unk0))
    | 8, _, hg =>
      obtain ⟨z, _, e⟩ := bindO_some hg
      obtain ⟨y, hy, e⟩ := bindO_some e
      obtain ⟨u, hu, e⟩ := bindO_some e
      cases e
      obtain ⟨h1, h0, hr, hl⟩ := ob
      have hT := fldOf_some hy
      obtain ⟨_, _, _, el, e1, e2, e3⟩ := parts3_some hu
      rw [el, partOf_val e1, partOf_val e2, partOf_val e3, h1] at hT
      exact wpCode_at (congrArg Ctx.code hx) <| slc_code ⟨_, (D.own _ _ hT).2, rfl, rfl⟩ h0 hr hl fun τ t => ⟨_, _, unkT τ, left_toks D t rfl⟩
    | 9, _, hg =>
      obtain ⟨z, _, e⟩ := bindO_some hg
      cases e
      obtain ⟨c, hc, h1, h2⟩ := ob
      refine wpCode_at (congrArg Ctx.code hx) <| idx_code h1 h2 fun τ t => ⟨_, _, unkT τ, left_toks D t ?_⟩
      show Left.mk _ _ _ = _
      rw [hc]; rfl
    | 10, _, hg =>
      obtain ⟨z, _, e⟩ := bindO_some hg
      cases e
      exact wpCode_at (congrArg Ctx.code hx) <| ie_code (left_same D (by rw [show _ = bOf _ from ob]) (ν := unk0))
    | 11, _, hg =>
      obtain ⟨z, _, e⟩ := bindO_some hg
      cases e
      obtain ⟨h1, h2⟩ := ob
      refine wpCode_at (congrArg Ctx.code hx) <| mul_code h1 fun τ t => ⟨_, _, unkT τ, left_toks D t ?_⟩
      show Left.mk _ _ _ = _
      rw [← h2]; rfl
    | 12, _, hg =>
      obtain ⟨z, _, e⟩ := bindO_some hg
      cases e
      exact wpCode_at (congrArg Ctx.code hx) <| gt_code (left_same D (by rw [show _ = bOf _ from ob]) (ν := unk0))
    | 0, hb, _ => cases hb
    | 1, hb, _ => cases hb
    | 2, hb, _ => cases hb
    | 3, hb, _ => cases hb
    | 4, hb, _ => cases hb
    | 5, hb, _ => cases hb
    | _ + 13, _, hg => cases hg
end
end Mine
end
section
open PySem PySem.W
namespace Mine
/-! SxDid -/
/-! ### what a run has done, by its objects -/
theorem After.did {s s' : Shared} {l is as : List Nat} {os : List (Option Obj)} (A : After s s' l is as os) (chs news : List (Nat × Obj)) (ext : List Nat) (hl : chs.map (·.1) = l) (hi : is = List.range chs.length ++ ext)
    (he : ext.length = news.length) (hext : ∀ j ∈ ext, chs.length ≤ j) (hnd : ext.Nodup) (ha : as = chs.map (·.1) ++ news.map (·.1)) (ho : os = (chs ++ news).map fun x => some x.2) : Did s s' chs news := by
  have hlen : l.length = chs.length := by rw [← hl, List.length_map]
  have at1 : ∀ i (h : i < chs.length), as[i]? = some chs[i].1 ∧ os[i]? = some (some chs[i].2) := fun i h => by
    rw [ha, ho]
    refine ⟨?_, ?_⟩
    · rw [List.getElem?_append_left (by simpa using h), List.getElem?_map, List.getElem?_eq_getElem h]; rfl
    · rw [List.getElem?_map, List.getElem?_append_left h, List.getElem?_eq_getElem h]; rfl
  have at2 : ∀ i (h : i < news.length), as[chs.length + i]? = some news[i].1 ∧ os[chs.length + i]? = some (some news[i].2) ∧ is[chs.length + i]? = ext[i]? := fun i h => by
    rw [ha, ho, hi]
    refine ⟨?_, ?_, ?_⟩
    · rw [List.getElem?_append_right (by simp), List.getElem?_map, List.length_map, Nat.add_sub_cancel_left, List.getElem?_eq_getElem h]; rfl
    · rw [List.getElem?_map, List.getElem?_append_right (by simp), Nat.add_sub_cancel_left, List.getElem?_eq_getElem h]; rfl
    · rw [List.getElem?_append_right (by simp), List.length_range, Nat.add_sub_cancel_left]
  refine ⟨hl ▸ A.keep, fun x hx => ?_, fun x hx => ?_, fun x hx => ?_, ?_⟩
  · obtain ⟨i, h, rfl⟩ := List.getElem_of_mem hx
    exact A.objs i _ _ (at1 i h).1 (at1 i h).2
  · obtain ⟨i, h, rfl⟩ := List.getElem_of_mem hx
    exact A.objs _ _ _ (at2 i h).1 (at2 i h).2.1
  · obtain ⟨i, h, rfl⟩ := List.getElem_of_mem hx
    have hx : i < ext.length := he ▸ h
    exact A.young _ _ ext[i] _ ((at2 i h).2.2.trans (List.getElem?_eq_getElem hx)) (hlen ▸ hext _ (List.getElem_mem hx)) (at2 i h).1 (at2 i h).2.1
  · rw [List.nodup_iff_pairwise_ne, List.pairwise_map, List.pairwise_iff_getElem]
    intro i j h1 h2 hij
    have e1 : i < ext.length := he ▸ h1
    have e2 : j < ext.length := he ▸ h2
    refine A.apart _ _ _ _ ext[i] ext[j] _ _ ((at2 i h1).2.2.trans (List.getElem?_eq_getElem e1)) ((at2 j h2).2.2.trans (List.getElem?_eq_getElem e2)) (fun q => ?_) (at2 i h1).1 (at2 i h1).2.1 (at2 j h2).1 (at2 j h2).2.1
    have := (List.getElem_inj hnd).mp q
    omega
theorem Did.trans {s s' s'' : Shared} {c c' n : List (Nat × Obj)} (x : Did s s' c []) (y : Did s' s'' c' n) (h : ∀ a ∈ c.map (·.1), a ∈ c'.map (·.1)) : Did s s'' c' n :=
  ⟨(x.keep.mono h).trans y.keep, y.holds, y.new, fun z hz => Nat.le_trans x.keep.size (y.young z hz), y.nodup⟩
theorem Did.sane {kt : X.KT} {n₀ : Nat} {s s' : Shared} {c n : List (Nat × Obj)} (S : Sane kt n₀ s) (x : Did s s' c n) (lo : ∀ y ∈ c, n₀ ≤ y.1) : Sane kt n₀ s' :=
  S.keep x.keep fun a ha => by obtain ⟨y, hy, rfl⟩ := List.mem_map.mp ha; exact lo y hy
theorem Holds.append {s : Shared} {l l' : List (Nat × Obj)} (h : Holds s l) (h' : Holds s l') : Holds s (l ++ l') := fun x hx => (List.mem_append.mp hx).elim (h x) (h' x)
/-- unknowns told -/
noncomputable def unkL (l : List Nat) (sl : List (Array (Option Value)) := []) (vs : List (Array Value) := []) (ob : Nat → Obj := fun _ => default) : Unk := ⟨fun i => l.getD i 0, fun i => sl.getD i #[], fun i => vs.getD i #[], ob⟩
/-! ### obligations -/
theorem str_snoc (l : List Nat) (c : Nat) : ((⟨⟨l⟩⟩ : Str) ++ ⟨⟨[c]⟩⟩) = ⟨⟨l ++ [c]⟩⟩ := by
  show Str.mk _ = Str.mk _
  simp
theorem leB {l : List Nat} {c : Nat} (h : l.length < sizeLine) : LeB ⟨⟨l⟩⟩ ⟨⟨[c]⟩⟩ := by
  unfold LeB
  rw [str_snoc]
  show (l ++ [c]).length ≤ sizeLine
  rw [List.length_append]; exact h
theorem lnB {l : List Nat} (h : l.length ≤ sizeLine) : LnB ⟨⟨l⟩⟩ := h
theorem lnB1 (c : Nat) : LnB ⟨⟨[c]⟩⟩ := lnB (by show 1 ≤ sizeLine; decide)
theorem inB0 {l : List Nat} {c : Nat} (h : c ∉ l) : InB l c 0 := by unfold InB; simp [h, bOf]
theorem inB1 {l : List Nat} {c : Nat} (h : c ∈ l) : InB l c 1 := by unfold InB; simp [h, bOf]
theorem eqB0 {c d : Nat} (h : c ≠ d) : EqB [c] [d] 0 := by unfold EqB; simp [h, bOf]
theorem eqB1 {c d : Nat} (h : c = d) : EqB [c] [d] 1 := by unfold EqB; simp [h, bOf]
theorem tupB (e : Str) : TupB "tuple" e e := ⟨rfl, rfl⟩
end Mine
end
section
open PySem
namespace Mine
/-! ShPlain -/
/-! ### what shlex reads, in plain words -/
noncomputable def isWs (c : Nat) : Bool := c == 32 || c == 9 || c == 13 || c == 10
noncomputable def isQt (c : Nat) : Bool := c == 39 || c == 34
/-- how a reading of one token ends -/
structure RdR where
  err : Bool
  tok : List Nat
  qd : Bool
  st : Nat
  rest : List Nat
  nc : List Nat
/-- read_token's loop: the signs ahead, the state (0: None), the token so far, whether quoted -/
noncomputable def rd : List Nat → Nat → List Nat → Bool → RdR
  | [], st, tok, qd => if isQt st then ⟨true, tok, true, st, [], []⟩ else ⟨false, tok, qd, 0, [], []⟩
  | c :: r, st, tok, qd =>
    if st = 32 then
      if isWs c then rd r 32 tok qd
      else if isQt c then rd r c tok qd
      else rd r 97 [c] qd
    else if st = 97 then
      if isWs c then ⟨false, tok, qd, 32, r, [c]⟩
      else if isQt c then rd r c tok qd
      else rd r 97 (tok ++ [c]) qd
    else if c = st then rd r 97 tok true
    else rd r st (tok ++ [c]) true
theorem isWs_iff {c : Nat} : isWs c = true ↔ c ∈ [32, 9, 13, 10] := by simp [isWs, or_assoc]
theorem isQt_iff {c : Nat} : isQt c = true ↔ c ∈ [39, 34] := by simp [isQt]
/-- the states that the loop can stand in -/
noncomputable def RdInv (st : Nat) (tok : List Nat) (qd first : Bool) (cs : List Nat) : Prop :=
  (st = 0 ∧ tok = [] ∧ qd = false ∧ first = true ∧ cs = []) ∨ (st = 32 ∧ tok = [] ∧ qd = false) ∨ (st = 97 ∧ (tok ≠ [] ∨ qd = true) ∧ first = false) ∨ ((st = 39 ∨ st = 34) ∧ first = false)
/-- all tokens -/
noncomputable def rdAll : Nat → List Nat → Nat → Option (List (List Nat))
  | 0, _, _ => none
  | n + 1, cs, st =>
    let r := rd cs st [] false
    match r.err with
    | true => none
    | false => if r.qd = false ∧ r.tok = [] then some [] else (rdAll n r.rest r.st).map (r.tok :: ·)
noncomputable def rdMu (cs : List Nat) (st : Nat) : Nat := 2 * cs.length + (if st = 0 then 0 else 1)
/-- what is left of the text behind a token -/
theorem rd_rest : ∀ (cs : List Nat) (st : Nat) (tok : List Nat) (qd : Bool), (st = 0 → cs = []) → (rd cs st tok qd).err = false →
    (∃ pre, cs = pre ++ (rd cs st tok qd).rest) ∧ (((rd cs st tok qd).st = 0 ∧ (rd cs st tok qd).rest = []) ∨ ((rd cs st tok qd).st = 32 ∧ (rd cs st tok qd).rest.length < cs.length ∧ (st = 32 → (rd cs st tok qd).rest.length + 1 < cs.length)))
  | [], st, tok, qd, h0, he => by
    unfold rd at he ⊢
    split
    · rename_i h; rw [if_pos h] at he; cases he
    · exact ⟨⟨[], rfl⟩, .inl ⟨rfl, rfl⟩⟩
  | c :: r, st, tok, qd, h0, he => by
    have lift : ∀ {st' : Nat} {tok' : List Nat} {qd' : Bool}, (st' = 0 → r = []) → rd (c :: r) st tok qd = rd r st' tok' qd' →
        (∃ pre, c :: r = pre ++ (rd (c :: r) st tok qd).rest) ∧ (((rd (c :: r) st tok qd).st = 0 ∧ (rd (c :: r) st tok qd).rest = []) ∨ ((rd (c :: r) st tok qd).st = 32 ∧ (rd (c :: r) st tok qd).rest.length < (c :: r).length ∧ (st = 32 → (rd (c :: r) st tok qd).rest.length + 1 < (c :: r).length))) := by
      intro st' tok' qd' h e
      rw [e] at he ⊢
      obtain ⟨⟨pre, hp⟩, h2⟩ := rd_rest r st' tok' qd' h he
      refine ⟨⟨c :: pre, by rw [List.cons_append, ← hp]⟩, h2.imp id fun ⟨a, b, _⟩ => ⟨a, ?_, fun _ => ?_⟩⟩
      · rw [List.length_cons]; omega
      · rw [List.length_cons]; omega
    by_cases h32 : st = 32
    · subst h32
      by_cases hw : isWs c = true
      · exact lift (st' := 32) (fun h => absurd h (by decide)) (by rw [rd, if_pos rfl, if_pos hw])
      · by_cases hq : isQt c = true
        · have : c ≠ 0 := by rintro rfl; simp [isQt] at hq
          exact lift (fun h => absurd h this) (by rw [rd, if_pos rfl, if_neg hw, if_pos hq])
        · exact lift (st' := 97) (fun h => absurd h (by decide)) (by rw [rd, if_pos rfl, if_neg hw, if_neg hq])
    · by_cases h97 : st = 97
      · subst h97
        by_cases hw : isWs c = true
        · have e : rd (c :: r) 97 tok qd = ⟨false, tok, qd, 32, r, [c]⟩ := by rw [rd, if_neg h32, if_pos rfl, if_pos hw]
          rw [e]
          exact ⟨⟨[c], rfl⟩, .inr ⟨rfl, by simp, fun h => absurd h h32⟩⟩
        · by_cases hq : isQt c = true
          · have : c ≠ 0 := by rintro rfl; simp [isQt] at hq
            exact lift (fun h => absurd h this) (by rw [rd, if_neg h32, if_pos rfl, if_neg hw, if_pos hq])
          · exact lift (st' := 97) (fun h => absurd h (by decide)) (by rw [rd, if_neg h32, if_pos rfl, if_neg hw, if_neg hq])
      · have hst : st ≠ 0 := fun h => by have := h0 h; cases this
        by_cases hc : c = st
        · exact lift (st' := 97) (fun h => absurd h (by decide)) (by rw [rd, if_neg h32, if_neg h97, if_pos hc])
        · exact lift (fun h => absurd h hst) (by rw [rd, if_neg h32, if_neg h97, if_neg hc])
theorem rd_step (c : Nat) (r : List Nat) (st : Nat) (tok : List Nat) (qd : Bool) : (∃ st' tok' qd', rd (c :: r) st tok qd = rd r st' tok' qd') ∨ rd (c :: r) st tok qd = ⟨false, tok, qd, 32, r, [c]⟩ := by
  by_cases h32 : st = 32
  · by_cases hw : isWs c = true
    · exact .inl ⟨_, _, _, by rw [rd, if_pos h32, if_pos hw]⟩
    · by_cases hq : isQt c = true
      · exact .inl ⟨_, _, _, by rw [rd, if_pos h32, if_neg hw, if_pos hq]⟩
      · exact .inl ⟨_, _, _, by rw [rd, if_pos h32, if_neg hw, if_neg hq]⟩
  · by_cases h97 : st = 97
    · by_cases hw : isWs c = true
      · exact .inr (by rw [rd, if_neg h32, if_pos h97, if_pos hw])
      · by_cases hq : isQt c = true
        · exact .inl ⟨_, _, _, by rw [rd, if_neg h32, if_pos h97, if_neg hw, if_pos hq]⟩
        · exact .inl ⟨_, _, _, by rw [rd, if_neg h32, if_pos h97, if_neg hw, if_neg hq]⟩
    · by_cases hc : c = st
      · exact .inl ⟨_, _, _, by rw [rd, if_neg h32, if_neg h97, if_pos hc]⟩
      · exact .inl ⟨_, _, _, by rw [rd, if_neg h32, if_neg h97, if_neg hc]⟩
theorem rd_err : ∀ (cs : List Nat) (st : Nat) (tok : List Nat) (qd : Bool), (rd cs st tok qd).err = true → (rd cs st tok qd).qd = true
  | [], st, tok, qd, h => by
    unfold rd at h ⊢
    split
    · rfl
    · rename_i h'; rw [if_neg h'] at h; cases h
  | c :: r, st, tok, qd, h => by
    rcases rd_step c r st tok qd with ⟨st', tok', qd', e⟩ | e
    · rw [e] at h ⊢; exact rd_err r st' tok' qd' h
    · rw [e] at h; cases h
/-- the texts of a list's items -/
noncomputable def IsWords : List Value → List (List Nat) → Prop
  | [], [] => True
  | .str ⟨⟨l⟩⟩ _ :: r, l' :: r' => l = l' ∧ IsWords r r'
  | _, _ => False
theorem IsWords.snoc {l : List Nat} {τ : Nat} : ∀ {vs : List Value} {ws : List (List Nat)}, IsWords vs ws → IsWords (vs ++ [.str ⟨⟨l⟩⟩ τ]) (ws ++ [l])
  | [], [], _ => ⟨rfl, trivial⟩
  | .str ⟨⟨_⟩⟩ _ :: r, _ :: r', h => ⟨h.1, IsWords.snoc h.2⟩
theorem IsWords.length : ∀ {vs : List Value} {ws : List (List Nat)}, IsWords vs ws → vs.length = ws.length
  | [], [], _ => rfl
  | .str ⟨⟨_⟩⟩ _ :: r, _ :: r', h => congrArg (· + 1) (IsWords.length h.2)
end Mine
end
section
open PySem PySem.W
open Builtin Builtin.Str Builtin.Int PySem.SeqAt
namespace Mine
/-! SxP -/
section
/-! ### more contracts whose answers are told from outside -/
structure OrP extends Orc where
  lst : Nat → List Value
noncomputable def strL : List Value → Option (List (Str × Tok))
  | [] => some []
  | .str a t :: r => (strL r).map ((a, t) :: ·)
  | _ => none
theorem strL_eq : ∀ {vs : List Value} {l : List (Str × Tok)}, strL vs = some l → vs = strValues l
  | [], l, h => by cases h; rfl
  | .str a t :: r, l, h => by
    unfold strL at h
    obtain ⟨l', h', rfl⟩ := Option.map_eq_some_iff.mp h
    show Value.str a t :: r = Value.str a t :: strValues l'
    rw [strL_eq h']
noncomputable def partI : Value → Option (Option Int)
  | .none => some none
  | .int i _ => some (some i)
  | _ => none
theorem partI_part {v : Value} {k : Option Int} (h : partI v = some k) : IsPart v k := by
  unfold partI at h
  split at h <;> cases h
  · exact .none
  · exact .int _ _
noncomputable def SlLB (ty ty2 : String) (items : Array Value) (lo hi st : Option Int) (res : List Value) : Prop := ty = "list" ∧ ty2 = "slice" ∧ st ≠ some 0 ∧ slicePick items lo hi st = ⟨res⟩ ∧ items.size ≤ sizeLine
noncomputable def JoinB (ty : String) (sep : Str) (vs : List Value) (res : List Nat) : Prop := ty = "list" ∧ ∃ l, strL vs = some l ∧ tooLong ((l.map (·.1)).toArray.foldl (· + ·.length + sep.length) 0) = false ∧ glued sep (l.map (·.1)) = ⟨⟨res⟩⟩ ∧ res.length ≤ sizeLine
noncomputable def ChrB (i : Int) (c : Nat) : Prop := (decide (i < 0) || decide (i > 0x10FFFF)) = false ∧ i.toNat = c
noncomputable def AscB (a : Str) (x : Nat) : Prop := a.cps.all (· < 128) = bOf x
noncomputable def iterTy : Nat → String
  | 0 => "str_iterator"
  | _ + 1 => "str_ascii_iterator"
noncomputable def conP (O : OrP) : Nat → Nat → Ctx → Code → BT → Ads → Option Con := fun j x Γ c T ads => match Nat.blt j 13 with
  | true => conO O.toOrc j x Γ c T ads
  | false => match j with
    | 13 => bindO (seqOf (T.get (x / 100))) fun y => bindO (fldOf (T.get (x % 100))) fun z => bindO (parts3 partI z.2) fun u => some (mkC { Γ with code := .call (.builtin "list.__getitem__") ⟨[.ref (adOf ads (x / 100)), .ref (adOf ads (x % 100))], []⟩ } (SlLB y.1 z.1 ⟨y.2⟩ u.a u.b u.c (O.lst 0))
          fun ν => ⟨.ok (.ret (.ref (ν.n 0))), T, [⟨.type "list", none, .seq ⟨O.lst 0⟩ 0, ⟨[]⟩⟩]⟩)
    | 14 => bindO (sAt c) fun z => bindO (seqOf (T.get x)) fun y => some (mkC { Γ with code := .call (.builtin "str.join") ⟨[.str z.1 z.2, .ref (adOf ads x)], []⟩ } (JoinB y.1 z.1 y.2 (O.str 50)) fun ν => ⟨.ok (.ret (.str ⟨⟨O.str 50⟩⟩ (ν.n 0))), T, []⟩)
    | 15 => bindO (iAt c) fun z => some (mkC { Γ with code := .call (.builtin "chr") ⟨[.int z.1 z.2], []⟩ } (∃ c, O.str x = [c] ∧ ChrB z.1 c) fun ν => ⟨.ok (.ret (.str ⟨⟨O.str x⟩⟩ (ν.n 0))), T, []⟩)
    | 16 => bindO (sAt c) fun z => some (mkC { Γ with code := .call (.builtin "str.__iter__") ⟨[.str z.1 z.2], []⟩ } (AscB z.1 x) fun ν => ⟨.ok (.ret (.ref (ν.n 0))), T, [⟨.type (iterTy x), none, .fields ⟨[.str z.1 z.2, .int 0 0]⟩, ⟨[]⟩⟩]⟩)
    | _ => none

section
variable {prog : Program} {w : World} {A : Around} {s : Shared} {R : Result → Shared → Prop}
theorem slL_code {l sl : Addr} {items : Array Value} {n : Nat} {vl vu vs : Value} {lo hi st : Option Int} (hl : s.heap.get? l = some ⟨.type "list", none, .seq items n, ⟨[]⟩⟩) (hs : s.heap.IsSliceOf sl vl vu vs)
    (pl : IsPart vl lo) (pu : IsPart vu hi) (ps : IsPart vs st) (h0 : st ≠ some 0) (hsz : items.size ≤ sizeLine)
    (h : R (.ok (.ret (.ref s.heap.objs.size))) { s with heap := s.heap.push { cls := .type "list", data := .seq (slicePick items lo hi st) } }) : codeAny (model prog w) A (.call (.builtin "list.__getitem__") ⟨[.ref l, .ref sl], []⟩) R s := by
  obtain ⟨os, hos, hcs, hds⟩ := id hs
  have hT : s.TypeIs (.ref l) "list" := ⟨_, hl, rfl⟩
  have hTs : s.TypeIs (.ref sl) "slice" := ⟨os, hos, hcs⟩
  refine codeAny_call_builtin F.slot_list_getitem.plain F.entry_list_getitem (F.slot_list_getitem.check _ _ _ _ _ _ _ _ hT (F.args_list_getitem_2 _ _) ?_)
  show wpAny _ _ (Builtin.List.listSubscript? (.ref sl) >>= _) _ _ s
  refine wpAny_bind ?_
  unfold Builtin.List.listSubscript?
  refine wpAny_bind (wpAny_specialOf hTs slice_no_index ?_)
  refine wpAny_pure ?_
  show wpAny _ _ (typeOf (.ref sl) >>= _) _ _ s
  refine wpAny_bind (wpAny_typeOf hTs ?_)
  rw [if_neg (by decide), listSliceParts_eq]
  have hstep : ¬ ((rawPart st == rawInt 0) = true) := by
    cases st with
    | none => exact Bool.false_ne_true
    | some c =>
      intro hh
      have : c = 0 := by simpa [rawPart, rawInt] using hh
      exact h0 (by rw [this])
  refine wpAny_bind (wpAny_bind (wpAny_field hos hds (x := vs) rfl (wpAny_bind (wpAny_listPart ps ?_))))
  rw [if_neg hstep]
  refine wpAny_bind (wpAny_field hos hds (x := vl) rfl (wpAny_bind (wpAny_listPart pl ?_)))
  refine wpAny_bind (wpAny_field hos hds (x := vu) rfl (wpAny_bind (wpAny_listPart pu (wpAny_pure ?_))))
  refine wpAny_bind (m := Builtin.List.listItems (.ref l)) ?_
  unfold Builtin.List.listItems
  refine wpAny_bind (wpAny_seqItems hl rfl (wpAny_pure ?_))
  refine wpAny_bind (wpAny_of_eq (sliceIndices_raw lo hi st items.size h0) ?_)
  exact wpAny_bind (wpAny_newObj_type (wpAny_pure h) (Nat.le_trans (slicePick_size_le items lo hi st) hsz))
theorem join_code {sep : Str} {ts : Tok} {l : Addr} {n : Nat} {lst : List (Str × Tok)} {res : List Nat} (hl : s.heap.get? l = some ⟨.type "list", none, .seq ⟨strValues lst⟩ n, ⟨[]⟩⟩)
    (ht : tooLong ((lst.map (·.1)).toArray.foldl (· + ·.length + sep.length) 0) = false) (hg : glued sep (lst.map (·.1)) = ⟨⟨res⟩⟩) (hr : res.length ≤ sizeLine) (h : ∀ τ t, R (.ok (.ret (.str ⟨⟨res⟩⟩ τ))) { s with toks := t }) :
    codeAny (model prog w) A (.call (.builtin "str.join") ⟨[.str sep ts, .ref l], []⟩) R s := by
  refine meets_code F.slot_str_join (typeIs_str s sep ts) F.entry_str_join (F.args_str_join_2 _ _) (meets_str_join_list sep ts l lst ht) ⟨⟨_, hl, rfl, n, rfl⟩, ?_⟩
  unfold joinMade
  split
  · rename_i p
    have e : p.1 = ⟨⟨res⟩⟩ := by rw [← hg]; exact (StrLaws.glued_eq_join sep [p.1]).symm ▸ rfl
    have := h p.2 s.toks
    rw [← e] at this
    exact this
  · rw [hg]
    exact ⟨by simpa [Str.length] using hr, h _ _⟩
theorem chr_code {i : Int} {t : Tok} (hi : (decide (i < 0) || decide (i > 0x10FFFF)) = false) (h : ∀ τ t, R (.ok (.ret (.str ⟨⟨[i.toNat]⟩⟩ τ))) { s with toks := t }) : codeAny (model prog w) A (.call (.builtin "chr") ⟨[.int i t], []⟩) R s := by
  refine fn_code F.kind_chr F.plain_chr F.entry_chr (F.args_chr1 _) ?_
  show wpAny _ _ (if (decide (i < 0) || decide (i > 0x10FFFF)) = true then _ else retStr ⟨#[i.toNat]⟩) _ _ s
  rw [hi]
  exact wpAny_bind (wpAny_mkStr (wpAny_pure ⟨_, rfl, h _ _⟩) (by show 1 ≤ sizeLine; decide))
theorem iter_code {a : Str} {t : Tok} {x : Nat} (hx : a.cps.all (· < 128) = bOf x) (h : R (.ok (.ret (.ref s.heap.objs.size))) { s with heap := s.heap.push ⟨.type (iterTy x), none, .fields ⟨[.str a t, .int 0 0]⟩, ⟨[]⟩⟩ }) :
    codeAny (model prog w) A (.call (.builtin "str.__iter__") ⟨[.str a t], []⟩) R s := by
  refine codeAny_call_builtin F.slot_str_iter.plain F.entry_str_iter (F.slot_str_iter.check _ _ _ _ _ _ _ _ (typeIs_str s a t) (F.args_str_iter_1 _) ?_)
  show wpAny _ _ (do ret (← newFields (if (true && a.cps.all (· < 128)) = true then "str_ascii_iterator" else "str_iterator") [.str a t, rawInt 0])) _ _ s
  have e : (if (true && a.cps.all (· < 128)) = true then "str_ascii_iterator" else "str_iterator") = iterTy x := by
    rw [hx]; cases x <;> rfl
  rw [e]
  exact wpAny_bind (wpAny_newObj_type (wpAny_pure h) (by show 2 ≤ sizeLine + 2; decide))
end
/-- a new object laid: what a contract must say of it -/
theorem left_push {B : Base} {s : Shared} {T : BT} {m : Nat} {ads : Ads} {tk : Nat} (D : Rep B s T m ads tk) {g : Con} {r : Result} {o : Obj} (hf : o.isFreed = false) (e : g.left (unkT s.heap.objs.size) = ⟨r, T, [o]⟩) :
    ∃ N t ν, LeftRep B g ν r { s with heap := s.heap.push o } m ads N t :=
  ⟨_, _, _, left_one (s' := { s with heap := s.heap.push o }) (ch := []) D e (by simp) ⟨fun b o' hb _ => Heap.get?_push_of_some _ hb, by rw [Heap.size_push]; exact Nat.le_succ _, rfl, rfl, rfl⟩ (Heap.get?_push_size _ hf) (Nat.le_refl _)⟩
theorem conP_ok {B : Base} {prog : Program} {w : World} (O : OrP) : ∀ (j x : Nat) (Γ : Ctx) (T : BT) (m : Nat) (ads : Ads) (tk : Nat) (s : Shared) (p : Pos) (g : Con), conP O j x Γ Γ.code T ads = some g → Γ = g.gx → g.ob → Rep B s T m ads tk →
    wpCode (model prog w) Γ (fun r s' => ∃ N t ν, LeftRep B g ν r s' m ads N t) p s := by
  intro j x Γ T m ads tk s p g hg hx ob D
  cases hb : Nat.blt j 13 with
  | true =>
    unfold conP at hg
    rw [hb] at hg
    exact conO_ok O.toOrc _ _ _ _ _ _ _ _ _ _ hg hx ob D
  | false =>
    have h13 : 13 ≤ j := by
      rcases Nat.lt_or_ge j 13 with h | h
      · rw [Nat.blt_eq.mpr h] at hb; cases hb
      · exact h
    obtain ⟨k, rfl⟩ : ∃ k, j = k + 13 := ⟨j - 13, (Nat.sub_add_cancel h13).symm⟩
    clear hb
    match k, hg with
    | 0, hg =>
      obtain ⟨y, hy, e⟩ := bindO_some hg
      obtain ⟨z, hz, e⟩ := bindO_some e
      obtain ⟨u, hu, e⟩ := bindO_some e
      cases e
      obtain ⟨h1, h2, h0, hr, hsz⟩ := ob
      obtain ⟨n, hT1⟩ := seqOf_some hy
      have hT2 := fldOf_some hz
      obtain ⟨_, _, _, el, p1, p2, p3⟩ := parts3_some hu
      rw [h1] at hT1
      rw [el, h2] at hT2
      refine wpCode_at (congrArg Ctx.code hx) <| slL_code (D.own _ _ hT1).2 ⟨_, (D.own _ _ hT2).2, rfl, rfl⟩ (partI_part p1) (partI_part p2) (partI_part p3) h0 hsz ?_
      rw [hr]
      exact left_push (o := ⟨.type "list", none, .seq ⟨O.lst 0⟩ 0, ⟨[]⟩⟩) D rfl rfl
    | 1, hg =>
      obtain ⟨z, _, e⟩ := bindO_some hg
      obtain ⟨y, hy, e⟩ := bindO_some e
      cases e
      obtain ⟨h1, l, hl, ht, hgl, hr⟩ := ob
      obtain ⟨n, hT⟩ := seqOf_some hy
      rw [strL_eq hl, h1] at hT
      exact wpCode_at (congrArg Ctx.code hx) <| join_code (D.own _ _ hT).2 ht hgl hr fun τ t => ⟨_, _, unkT τ, left_toks D t rfl⟩
    | 2, hg =>
      obtain ⟨z, _, e⟩ := bindO_some hg
      cases e
      obtain ⟨c, hc, h1, h2⟩ := ob
      refine wpCode_at (congrArg Ctx.code hx) <| chr_code h1 fun τ t => ⟨_, _, unkT τ, left_toks D t ?_⟩
      show Left.mk _ _ _ = _
      rw [hc, h2]; rfl
    | 3, hg =>
      obtain ⟨z, _, e⟩ := bindO_some hg
      cases e
      exact wpCode_at (congrArg Ctx.code hx) <| iter_code ob (left_push D rfl rfl)
    | _ + 4, hg => cases hg
end
end Mine
end
section
open PySem PySem.W
namespace Mine
/-! SxR -/
section
theorem entry_baset : entryFor table "bytearray.__setitem__" = some Builtin.«bytearray.__setitem__» := entryFor_of_tree (by kernel_rfl)
theorem entry_bainit : entryFor table "bytearray.__init__" = some Builtin.«bytearray.__init__» := entryFor_of_tree (by kernel_rfl)
theorem entry_bloop : entryFor table "bytes.__new__.loop" = some Builtin.«bytes.__new__.loop» := entryFor_of_tree (by kernel_rfl)
noncomputable def baO (us : List UInt8) : Obj := ⟨.type "bytearray", none, .bytearray ⟨us⟩ 0, ⟨[]⟩⟩
section
variable {prog : Program} {w : World} {A : Around} {s : Shared} {R : Result → Shared → Prop}
theorem baWrite {E : Value → Shared → Prop} {M : Model} {a : Addr} {us : List UInt8} {f : Array UInt8 → Array UInt8} {Q : Unit → Shared → Prop} (ha : s.heap.get? a = some (baO us)) (hf : (f ⟨us⟩).size ≤ sizeLine)
    (h : Q () { s with heap := s.heap.update a (Obj.mapBytearray f) }) : wpAny M A (Builtin.Bytes.write (.ref a) f) Q E s := by
  unfold Builtin.Bytes.write updateBytearray
  refine wpAny_bind (wpAny_load ha ?_)
  show wpAny M A (update a (Obj.mapBytearray f) >>= fun _ => lookBehind a) Q E s
  refine wpAny_bind (wpAny_update ha ?_)
  refine wpAny_lookBehind (o := ⟨.type "bytearray", none, .bytearray (f ⟨us⟩) 0, ⟨[]⟩⟩) (Heap.get?_update_self _ ha rfl) ?_ h
  simp only [Data.pastItsLine]
  rw [if_neg (by omega)]
theorem asIndex_int (i : Int) (t : Tok) : asIndex (.int i t) = pure i := rfl
theorem sem_pure_bind {α β : Type} (a : α) (f : α → Sem β) : (pure a : Sem α) >>= f = f a := rfl
theorem fits_small (k : Nat) (hk : k ≤ 16777216) : Builtin.Bytes.fitsIndex (k : Int) = true := by
  unfold Builtin.Bytes.fitsIndex
  simp
  omega
theorem sub_ok {E : Value → Shared → Prop} {M : Model} {i : Int} {tk : Tok} {Q : Option Int → Shared → Prop} (hf : Builtin.Bytes.fitsIndex i = true) (h : Q (some i) s) : wpAny M A (Builtin.Bytes.subscript? (.int i tk)) Q E s := by
  unfold Builtin.Bytes.subscript?
  refine wpAny_bind ?_
  refine wpAny_specialOf (T := "int") (r := some (.builtin "int.__index__")) ?a ?b ?c
  case a => exact typeIs_int s i tk
  case b => exact int_index
  simp only [Option.isNone_some, Bool.false_eq_true, if_false]
  rw [asIndex_int, sem_pure_bind, hf]
  exact wpAny_pure h
theorem bv_ok {E : Value → Shared → Prop} {M : Model} {i : Int} {tc : Tok} {Q : UInt8 → Shared → Prop} (hb : (decide (i < 0) || decide (i ≥ 256)) = false) (h : Q i.toNat.toUInt8 s) : wpAny M A (Builtin.Bytes.byteValue (.int i tc)) Q E s := by
  unfold Builtin.Bytes.byteValue
  rw [asIndex_int, sem_pure_bind, hb]
  exact wpAny_pure h
theorem pl_ok {E : Value → Shared → Prop} {M : Model} {a : Addr} {us : List UInt8} {Q : Array UInt8 → Shared → Prop} (ha : s.heap.get? a = some (baO us)) (h : Q ⟨us⟩ s) : wpAny M A (Builtin.Bytes.payload (.ref a)) Q E s := by
  unfold Builtin.Bytes.payload Builtin.Bytes.payload?
  exact wpAny_bind (wpAny_bind (wpAny_load ha (wpAny_pure (wpAny_pure h))))
theorem baset_code' {a : Addr} {us : List UInt8} {i v : Int} {k : Nat} {tk tc : Tok} (ha : s.heap.get? a = some (baO us)) (hf : Builtin.Bytes.fitsIndex i = true) (hb : (decide (v < 0) || decide (v ≥ 256)) = false)
    (hq : seqIndex? i (⟨us⟩ : Array UInt8).size = some k) (hs : us.length ≤ sizeLine)
    (h : R (.ok (.ret .none)) { s with heap := s.heap.update a (Obj.mapBytearray (·.setIfInBounds k v.toNat.toUInt8)) }) : codeAny (model prog w) A (.builtin "bytearray.__setitem__" ⟨[.ref a, .int i tk, .int v tc], []⟩) R s := by
  refine codeAny_builtin entry_baset ?_
  refine wpAny_bind (m := Builtin.Bytes.subscript? (.int i tk)) (sub_ok hf ?_)
  refine wpAny_bind (m := Builtin.Bytes.byteValue (.int v tc)) (bv_ok hb ?_)
  refine wpAny_bind (m := Builtin.Bytes.payload (.ref a)) (pl_ok ha ?_)
  simp only [hq]
  refine wpAny_bind (baWrite ha ?_ (wpAny_pure h))
  simpa using hs
theorem baset_code {a : Addr} {us : List UInt8} {k c : Nat} {tk tc : Tok} (ha : s.heap.get? a = some (baO us)) (hk : k < us.length) (hs : us.length ≤ 16777216) (hc : c < 256)
    (h : R (.ok (.ret .none)) { s with heap := s.heap.update a (Obj.mapBytearray (·.setIfInBounds k c.toUInt8)) }) : codeAny (model prog w) A (.builtin "bytearray.__setitem__" ⟨[.ref a, .int k tk, .int c tc], []⟩) R s := by
  have hf := fits_small k (by omega)
  have hb : (decide ((c : Int) < 0) || decide ((c : Int) ≥ 256)) = false := by simp; omega
  have hq : seqIndex? (k : Int) (⟨us⟩ : Array UInt8).size = some k := by
    unfold seqIndex?
    simp
    omega
  have ht : (c : Int).toNat = c := Int.toNat_natCast c
  have hsz : sizeLine = 16777216 := by decide
  generalize (k : Int) = i at hf hq ⊢
  generalize (c : Int) = v at hb ht ⊢
  exact baset_code' ha hf hb hq (hsz ▸ hs) (ht ▸ h)
/-- a turn of bytes(list of ints) -/
theorem bturn {E : Value → Shared → Prop} {it l acc : Addr} {v : Int} {t : Tok} {c i : Nat} {items : Array Value} {us : List UInt8} (hv : v = (c : Int)) (hc : c < 256) (n1 : it ≠ acc)
    (hit : s.heap.IsListIter it l i) (hl : s.heap.IsList l items) (hx : items[i]? = some (.int v t)) (ha : s.heap.get? acc = some (baO us)) (hz : us.length + 1 ≤ sizeLine) :
    wpAny (model prog w) A (Builtin.«bytes.__new__.loop» ⟨[.type "bytes", .ref it, .ref acc], []⟩) (fun fin s' => fin = .again (.builtin "bytes.__new__.loop" ⟨[.type "bytes", .ref it, .ref acc], []⟩) ∧ Keep [it, acc] s s' ∧ s'.heap.objs.size = s.heap.objs.size ∧ s'.toks = s.toks ∧
      s'.heap.IsListIter it l (i + 1) ∧ s'.heap.get? acc = some (baO (us ++ [c.toUInt8]))) E s := by
  have hb : (decide (v < 0) || decide (v ≥ 256)) = false := by subst hv; simp; omega
  have ht : v.toNat = c := by subst hv; exact Int.toNat_natCast _
  refine wpAny_bind (m := pyNext (.ref it)) (wpAny_pyNext_list_item (x := .int v t) hit hl hx fun h' hit' hsb => ?_)
  refine wpAny_bind (m := holding [Value.int v t] (asIndex (.int v t))) (wpAny_holding ?_)
  rw [asIndex_int]
  refine wpAny_pure ?_
  refine wpAny_bind (m := letGo [Value.int v t]) (wpAny_letGo ?_)
  rw [hb, ht]
  have ha' : ({ s with heap := h' } : Shared).heap.get? acc = some (baO us) := (hsb.2 _ (Ne.symm n1)).trans ha
  refine wpAny_bind (m := Builtin.Bytes.write (.ref acc) (·.push c.toUInt8)) (baWrite ha' (by simpa using hz) ?_)
  have hn : (Obj.mapBytearray (·.push c.toUInt8) (baO us)).isFreed = false := rfl
  refine wpAny_pure ⟨rfl, ⟨fun b o hb' hne => ?_, ?_, rfl, rfl, rfl⟩, ?_, rfl, ?_, ?_⟩
  · simp only [List.mem_cons, List.not_mem_nil, or_false, not_or] at hne
    show (h'.update acc _).get? b = some o
    rw [Heap.get?_update_other _ _ (Ne.symm hne.2)]
    exact (hsb.2 b hne.1).trans hb'
  · show s.heap.objs.size ≤ (h'.update acc _).objs.size
    rw [(Heap.SameBut.update h' acc _).1, hsb.1]; exact Nat.le_refl _
  · show (h'.update acc _).objs.size = _
    rw [(Heap.SameBut.update h' acc _).1, hsb.1]
  · obtain ⟨o, h1, h2, h3⟩ := hit'
    exact ⟨o, by show (h'.update acc _).get? it = some o; rw [Heap.get?_update_other _ _ (Ne.symm n1)]; exact h1, h2, h3⟩
  · show (h'.update acc _).get? acc = _
    rw [Heap.get?_update_self _ ha' hn]
    show some (⟨_, _, Data.bytearray ((⟨us⟩ : Array UInt8).push c.toUInt8) 0, _⟩ : Obj) = some ⟨_, _, Data.bytearray ⟨us ++ [c.toUInt8]⟩ 0, _⟩
    simp
end
end
/-! SxS -/
section
/-! ### lists whose items are unknown -/
noncomputable def lsO (xs : Array Value) (n : Nat) : Obj := ⟨.type "list", none, .seq xs n, ⟨[]⟩⟩
section
variable {prog : Program} {w : World} {A : Around} {s : Shared} {R : Result → Shared → Prop}
theorem app_code {l : Addr} {xs : Array Value} {n : Nat} {x : Value} (hl : s.heap.get? l = some (lsO xs n)) (hz : xs.size ≤ 1000000)
    (h : R (.ok (.ret .none)) { s with heap := s.heap.update l (Obj.mapSeq (·.push x)) }) : codeAny (model prog w) A (.call (.builtin "list.append") ⟨[.ref l, x], []⟩) R s := by
  have hsz : sizeLine = 16777216 := by decide
  refine codeAny_call_builtin F.slot_list_append.plain F.entry_list_append (F.slot_list_append.check _ _ _ _ _ _ _ _ ⟨_, hl, rfl⟩ (F.args_list_append_2 _ _) ?_)
  show wpAny _ _ (updateSeq l (·.push x) >>= fun _ => ret .none) _ _ s
  exact wpAny_bind (wpAny_updateSeq hl rfl (wpAny_pure h) (by omega) (by rw [Array.size_push]; omega))
theorem last_item (vs : List Value) (v : Value) : ((seqIndex? (-1) (⟨vs ++ [v]⟩ : Array Value).size).bind fun j => (⟨vs ++ [v]⟩ : Array Value)[j]?.map (j, ·)) = some (vs.length, v) := by
  have e : seqIndex? (-1) (⟨vs ++ [v]⟩ : Array Value).size = some vs.length := by
    unfold seqIndex?
    simp
    omega
  rw [e]
  simp
theorem last_code {l : Addr} {vs : List Value} {n : Nat} {t : Tok} {v : Value} (hl : s.heap.get? l = some (lsO ⟨vs ++ [v]⟩ n)) (h : R (.ok (.ret v)) s) :
    codeAny (model prog w) A (.call (.builtin "list.__getitem__") ⟨[.ref l, .int (-1) t], []⟩) R s := by
  refine codeAny_call_builtin F.slot_list_getitem.plain F.entry_list_getitem (F.slot_list_getitem.check _ _ _ _ _ _ _ _ ⟨_, hl, rfl⟩ (F.args_list_getitem_2 _ _) ?_)
  show wpAny _ _ (Builtin.List.listSubscript? (.int (-1) t) >>= _) _ _ s
  refine wpAny_bind (wpAny_listSubscript_int (by decide) ?_)
  show wpAny _ _ ((Builtin.List.listItems (.ref l) >>= fun xs => pure ((seqIndex? (-1) xs.size).bind fun j => xs[j]?.map (j, ·))) >>= _) _ _ s
  refine wpAny_bind (wpAny_bind (m := Builtin.List.listItems (.ref l)) ?_)
  unfold Builtin.List.listItems
  refine wpAny_bind (wpAny_seqItems hl rfl (wpAny_pure (wpAny_pure ?_)))
  rw [last_item vs v]
  exact wpAny_pure h
theorem put_code {l : Addr} {vs : List Value} {n : Nat} {t : Tok} {v x : Value} (hl : s.heap.get? l = some (lsO ⟨vs ++ [v]⟩ n)) (h : R (.ok (.ret .none)) { s with heap := s.heap.update l (Obj.mapSeq (·.setIfInBounds vs.length x)) }) :
    codeAny (model prog w) A (.call (.builtin "list.__setitem__") ⟨[.ref l, .int (-1) t, x], []⟩) R s := by
  refine codeAny_call_builtin F.slot_list_setitem.plain F.entry_list_setitem (F.slot_list_setitem.check _ _ _ _ _ _ _ _ ⟨_, hl, rfl⟩ (F.args_list_setitem_3 _ _ _) ?_)
  show wpAny _ _ (Builtin.List.listSubscript? (.int (-1) t) >>= _) _ _ s
  refine wpAny_bind (wpAny_listSubscript_int (by decide) ?_)
  show wpAny _ _ ((Builtin.List.listItems (.ref l) >>= fun xs => pure ((seqIndex? (-1) xs.size).bind fun j => xs[j]?.map (j, ·))) >>= _) _ _ s
  refine wpAny_bind (wpAny_bind (m := Builtin.List.listItems (.ref l)) ?_)
  unfold Builtin.List.listItems
  refine wpAny_bind (wpAny_seqItems hl rfl (wpAny_pure (wpAny_pure ?_)))
  rw [last_item vs v]
  exact wpAny_bind (wpAny_setSeqItemAt hl rfl (wpAny_pure h))
/-! ### a text's iterator -/
noncomputable def siO (a : Str) (t : Tok) (i : Nat) : Obj := ⟨.type "str_ascii_iterator", none, .fields ⟨[.str a t, .int (.ofNat i) 0]⟩, ⟨[]⟩⟩
theorem next_code {it : Addr} {a : Str} {t : Tok} {i c : Nat} (hi : s.heap.get? it = some (siO a t i)) (hc : a.cps[i]? = some c)
    (h : ∀ τ u, R (.ok (.ret (.str ⟨⟨[c]⟩⟩ τ))) { s with heap := s.heap.update it (Obj.mapFields (·.setIfInBounds 1 (.int (.ofNat (i + 1)) 0))), toks := u }) :
    codeAny (model prog w) A (.call (.builtin "str_ascii_iterator.__next__") ⟨[.ref it], []⟩) R s := by
  refine codeAny_call_builtin F.slot_str_ascii_iterator_next.plain F.entry_str_ascii_iterator_next (F.slot_str_ascii_iterator_next.check _ _ _ _ _ _ _ _ ⟨_, hi, rfl⟩ (F.args_str_ascii_iterator_next_1 _) ?_)
  show wpAny _ _ (field (.ref it) 0 >>= _) _ _ s
  refine wpAny_bind (wpAny_field hi rfl (x := .str a t) rfl ?_)
  show wpAny _ _ (field (.ref it) 1 >>= _) _ _ s
  refine wpAny_bind (wpAny_field hi rfl (x := .int (.ofNat i) 0) rfl ?_)
  show wpAny _ _ (match a.cps[i]? with | some c => (do setField (.ref it) 1 (rawInt (.ofNat i + 1)); retStr ⟨#[c]⟩) | none => _) _ _ s
  rw [hc]
  exact wpAny_bind (wpAny_setField hi rfl (by simp) (wpAny_bind (wpAny_mkStr (wpAny_pure (h _ _)) (by show 1 ≤ sizeLine; decide))))
theorem stop_code {it : Addr} {a : Str} {t : Tok} {i : Nat} (hh : A.handled = none) (hi : s.heap.get? it = some (siO a t i)) (hc : a.cps[i]? = none)
    (h : ∀ h1, h1 = ((s.heap.update it (Obj.mapFields (·.setIfInBounds 0 .none))).push ⟨.type "tuple", none, .seq ⟨[]⟩ 0, ⟨[]⟩⟩).push ⟨.type "StopIteration", none, .fields ⟨[.ref s.heap.objs.size, .none, .none, .none, .bool false, .none]⟩, ⟨[]⟩⟩ →
      R (.error (.ref (s.heap.objs.size + 1))) { s with heap := h1 }) :
    codeAny (model prog w) A (.call (.builtin "str_ascii_iterator.__next__") ⟨[.ref it], []⟩) R s := by
  refine codeAny_call_builtin F.slot_str_ascii_iterator_next.plain F.entry_str_ascii_iterator_next (F.slot_str_ascii_iterator_next.check _ _ _ _ _ _ _ _ ⟨_, hi, rfl⟩ (F.args_str_ascii_iterator_next_1 _) ?_)
  show wpAny _ _ (field (.ref it) 0 >>= _) _ _ s
  refine wpAny_bind (wpAny_field hi rfl (x := .str a t) rfl ?_)
  show wpAny _ _ (field (.ref it) 1 >>= _) _ _ s
  refine wpAny_bind (wpAny_field hi rfl (x := .int (.ofNat i) 0) rfl ?_)
  show wpAny _ _ (match a.cps[i]? with | some c => _ | none => (do rule "str_ascii_iterator.__next__.end"; setField (.ref it) 0 .none; letGo [.str a t]; raiseNew (← newExc (.type "StopIteration") []))) _ _ s
  rw [hc]
  refine wpAny_bind (wpAny_rule (wpAny_bind (wpAny_setField hi rfl (by simp) (wpAny_bind (wpAny_letGo ?_)))))
  refine wpAny_bind (m := newExc (.type "StopIteration") []) ?_
  simp only [newExc, newTuple]
  refine wpAny_bind (wpAny_newObj_type ?_ (by show 0 ≤ sizeLine; decide))
  refine wpAny_bind (m := firstArgMember _ _) (wpAny_of_eq (a := Value.none) (by first | rfl | (simp only [firstArgMember]; rfl)) ?_)
  refine wpAny_newObj_type ?_ (by show 6 ≤ sizeLine + 2; decide)
  simp only [raiseNew]
  refine wpAny_bind (wpAny_handled ?_)
  rw [show A.in1.handled = none from hh]
  refine wpAny_bind (wpAny_pure (wpAny_throw ?_))
  have e1 : (s.heap.update it (Obj.mapFields (·.setIfInBounds 0 Value.none))).objs.size = s.heap.objs.size := (Heap.SameBut.update ..).1
  have := h _ rfl
  have hw : ownMembersOf (.type "StopIteration") [] = #[] := rfl
  simpa [Heap.size_push, e1, hw] using this
end
end
/-! SxT -/
/-! ### contracts on lists and iterators -/
noncomputable def isList1 : Option Obj → Option (Array Value × Nat)
  | some ⟨_, _, .seq xs n, _⟩ => some (xs, n)
  | _ => none
noncomputable def isSi : Option Obj → Option (Str × Tok × Nat)
  | some ⟨_, _, .fields ⟨[.str a t, .int (.ofNat i) _]⟩, _⟩ => some (a, t, i)
  | _ => none
noncomputable def arg1 : Code → Value
  | .call _ ⟨_ :: v :: _, _⟩ => v
  | _ => .none
noncomputable def arg2 : Code → Value
  | .call _ ⟨_ :: _ :: v :: _, _⟩ => v
  | _ => .none
noncomputable def tok1 : Value → Nat
  | .int _ t => t
  | _ => 0
noncomputable def NextB (a : Str) (i : Nat) (res : List Nat) : Prop := ∃ c, res = [c] ∧ a.cps[i]? = some c
noncomputable def StopB (a : Str) (i : Nat) : Prop := a.cps[i]? = none
noncomputable def SmallB (xs : Array Value) : Prop := xs.size ≤ 1000000
noncomputable def stopO (args : Nat) : Obj := ⟨.type "StopIteration", none, .fields ⟨[.ref args, .none, .none, .none, .bool false, .none]⟩, ⟨[]⟩⟩
noncomputable def conQ (O : OrP) (pre : List Value) (lst : Value) : Nat → Nat → Ctx → Code → BT → Ads → Option Con := fun j x Γ c T ads => match j with
  | 17 => match isList1 (T.get x) with
    | some (xs, n) => some { gx := { Γ with code := .call (.builtin "list.append") ⟨[.ref (adOf ads x), arg1 c], []⟩ }, oq := [(T.get x, some (lsO xs n))], ob := SmallB xs, left := fun _ => ⟨.ok (.ret .none), setAll T [(x, lsO (xs.push (arg1 c)) (n + 1))], []⟩ }
    | none => none
  | 18 => match isList1 (T.get x) with
    | some (xs, n) => some { gx := { Γ with code := .call (.builtin "list.__getitem__") ⟨[.ref (adOf ads x), .int (-1) (tok1 (arg1 c))], []⟩ }, oq := [(T.get x, some (lsO ⟨pre ++ [lst]⟩ n))], ob := True, left := fun _ => ⟨.ok (.ret lst), T, []⟩ }
    | none => none
  | 19 => match isList1 (T.get x) with
    | some (xs, n) => some { gx := { Γ with code := .call (.builtin "list.__setitem__") ⟨[.ref (adOf ads x), .int (-1) (tok1 (arg1 c)), arg2 c], []⟩ }, oq := [(T.get x, some (lsO ⟨pre ++ [lst]⟩ n))], ob := True, left := fun _ => ⟨.ok (.ret .none), setAll T [(x, lsO ⟨pre ++ [arg2 c]⟩ n)], []⟩ }
    | none => none
  | 25 => match isSi (T.get (x / 100)) with
    | some (a, t, i) => some { gx := { Γ with code := .call (.builtin "str_ascii_iterator.__next__") ⟨[.ref (adOf ads (x / 100))], []⟩ }, oq := [(T.get (x / 100), some (siO a t i))], ob := NextB a i (O.str (x % 100)), left := fun ν => ⟨.ok (.ret (.str ⟨⟨O.str (x % 100)⟩⟩ (ν.n 0))), setAll T [(x / 100, siO a t (i + 1))], []⟩ }
    | none => none
  | 26 => match isSi (T.get x) with
    | some (a, t, i) => some { gx := { Γ with code := .call (.builtin "str_ascii_iterator.__next__") ⟨[.ref (adOf ads x)], []⟩ }, oq := [(T.get x, some (siO a t i))], ob := StopB a i ∧ Γ.handled = none, left := fun ν => ⟨.error (.ref (ν.n 0)), setAll T [(x, ν.ob 0)], [stopO (ν.n 1)]⟩ }
    | none => none
  | j => conP O j x Γ c T ads
theorem left_upd {B : Base} {s : Shared} {T : BT} {m : Nat} {ads : Ads} {tk : Nat} (D : Rep B s T m ads tk) {x : Nat} {o o' : Obj} (hT : T.get x = some o) {g : Con} {ν : Unk} {r : Result} {f : Obj → Obj} (hf : f o = o') (nf : o'.isFreed = false) {u : Nat} (e : g.left ν = ⟨r, setAll T [(x, o')], []⟩) :
    ∃ N t ν, LeftRep B g ν r { s with heap := s.heap.update (adOf ads x) f, toks := u } m ads N t := by
  have D1 := D.own x _ hT
  have hs : Heap.SameBut (adOf ads x) s.heap (s.heap.update (adOf ads x) f) := Heap.SameBut.update ..
  refine ⟨_, _, ν, left_none (s' := { s with heap := s.heap.update (adOf ads x) f, toks := u }) (ch := [(x, o')]) D e (fun z hz => ?_) ⟨fun b' o' hb' hne => ?_, ?_, rfl, rfl, rfl⟩⟩
  · simp only [List.mem_singleton] at hz
    subst hz
    refine ⟨D1.1, ?_⟩
    show (s.heap.update (adOf ads x) f).get? (adOf ads x) = _
    rw [Heap.get?_update_self _ D1.2 (by rw [hf]; exact nf), hf]
  · simp only [List.map_cons, List.map_nil, List.mem_singleton] at hne
    exact (hs.2 b' hne).trans hb'
  · show _ ≤ (s.heap.update (adOf ads x) _).objs.size
    rw [hs.1]; exact Nat.le_refl _
theorem conQ_ok {B : Base} {prog : Program} {w : World} (O : OrP) (pre : List Value) (lst : Value) : ∀ (j x : Nat) (Γ : Ctx) (T : BT) (m : Nat) (ads : Ads) (tk : Nat) (s : Shared) (p : Pos) (g : Con), conQ O pre lst j x Γ Γ.code T ads = some g → Γ = g.gx → (∀ z ∈ g.oq, z.1 = z.2) → g.ob → Rep B s T m ads tk →
    wpCode (model prog w) Γ (fun r s' => ∃ N t ν, LeftRep B g ν r s' m ads N t) p s := by
  intro j x Γ T m ads tk s p g hg hx ho ob D
  unfold conQ at hg
  split at hg
  · cases h : isList1 (T.get x) with
    | none => rw [h] at hg; cases hg
    | some q =>
      obtain ⟨xs, n⟩ := q
      rw [h] at hg
      cases hg
      have hT := ho _ (List.mem_cons_self ..)
      replace hT : T.get x = some (lsO xs n) := hT
      refine wpCode_at (congrArg Ctx.code hx) <| app_code (D.own x _ hT).2 ob ?_
      exact left_upd D hT (u := s.toks) (ν := unk0) (by simp [lsO, Obj.mapSeq]) rfl rfl
  · cases h : isList1 (T.get x) with
    | none => rw [h] at hg; cases hg
    | some q =>
      obtain ⟨xs, n⟩ := q
      rw [h] at hg
      cases hg
      have hT := ho _ (List.mem_cons_self ..)
      replace hT : T.get x = some (lsO ⟨pre ++ [lst]⟩ n) := hT
      exact wpCode_at (congrArg Ctx.code hx) <| last_code (D.own x _ hT).2 (left_same D rfl (ν := unk0))
  · cases h : isList1 (T.get x) with
    | none => rw [h] at hg; cases hg
    | some q =>
      obtain ⟨xs, n⟩ := q
      rw [h] at hg
      cases hg
      have hT := ho _ (List.mem_cons_self ..)
      replace hT : T.get x = some (lsO ⟨pre ++ [lst]⟩ n) := hT
      refine wpCode_at (congrArg Ctx.code hx) <| put_code (D.own x _ hT).2 ?_
      exact left_upd D hT (u := s.toks) (ν := unk0) (by simp [lsO, Obj.mapSeq]) rfl rfl
  · cases h : isSi (T.get (x / 100)) with
    | none => rw [h] at hg; cases hg
    | some q =>
      obtain ⟨a, t, i⟩ := q
      rw [h] at hg
      cases hg
      have hT := ho _ (List.mem_cons_self ..)
      replace hT : T.get (x / 100) = some (siO a t i) := hT
      obtain ⟨c, hc, hi⟩ := ob
      refine wpCode_at (congrArg Ctx.code hx) <| next_code (D.own _ _ hT).2 hi fun τ u => ?_
      refine left_upd D hT (ν := unkT τ) rfl rfl ?_
      show Left.mk _ _ _ = _
      rw [hc]; rfl
  · cases h : isSi (T.get x) with
    | none => rw [h] at hg; cases hg
    | some q =>
      obtain ⟨a, t, i⟩ := q
      rw [h] at hg
      cases hg
      have hT := ho _ (List.mem_cons_self ..)
      replace hT : T.get x = some (siO a t i) := hT
      obtain ⟨hs, hh⟩ := ob
      have D1 := D.own x _ hT
      refine wpCode_at (congrArg Ctx.code hx) <| stop_code hh D1.2 hs fun h1 e1 => ?_
      have hu : Heap.SameBut (adOf ads x) s.heap (s.heap.update (adOf ads x) (Obj.mapFields (·.setIfInBounds 0 Value.none))) := Heap.SameBut.update ..
      have hsz : ((s.heap.update (adOf ads x) (Obj.mapFields (·.setIfInBounds 0 Value.none))).push ⟨.type "tuple", none, .seq ⟨[]⟩ 0, ⟨[]⟩⟩).objs.size = s.heap.objs.size + 1 := by rw [Heap.size_push, hu.1]
      refine ⟨_, _, ⟨fun k => match k with | 0 => s.heap.objs.size + 1 | _ => s.heap.objs.size, fun _ => #[], fun _ => #[], fun _ => Obj.mapFields (·.setIfInBounds 0 Value.none) (siO a t i)⟩,
        left_one (s' := { s with heap := h1 }) (ch := [(x, Obj.mapFields (·.setIfInBounds 0 Value.none) (siO a t i))]) (o := stopO s.heap.objs.size) D rfl (fun z hz => ?_) ⟨fun b' o' hb' hne => ?_, ?_, rfl, rfl, rfl⟩ ?_ ?_⟩
      · simp only [List.mem_singleton] at hz
        subst hz
        refine ⟨D1.1, ?_⟩
        show h1.get? (adOf ads x) = _
        rw [e1]
        exact Heap.get?_push_of_some _ (Heap.get?_push_of_some _ (Heap.get?_update_self _ D1.2 rfl))
      · simp only [List.map_cons, List.map_nil, List.mem_singleton] at hne
        show h1.get? b' = _
        rw [e1]
        exact Heap.get?_push_of_some _ (Heap.get?_push_of_some _ ((hu.2 b' hne).trans hb'))
      · show s.heap.objs.size ≤ h1.objs.size
        rw [e1, Heap.size_push, hsz]
        omega
      · show h1.get? (s.heap.objs.size + 1) = _
        rw [e1, ← hsz]
        exact Heap.get?_push_size _ rfl
      · exact Nat.le_succ _
  · exact conP_ok O _ _ _ _ _ _ _ _ _ _ hg hx ob D
/-! SxU -/
section
/-! ### sum of a list of ints -/
noncomputable def intsOf : List Value → Option (List Int)
  | [] => some []
  | .int b _ :: r => match intsOf r with
    | some q => some (b :: q)
    | none => none
  | _ => none
noncomputable def sumI : Int → List Int → Int
  | a, [] => a
  | a, b :: r => sumI (a + b) r
theorem intsOf_cons {vs : List Value} {b : Int} {r : List Int} (h : intsOf vs = some (b :: r)) : ∃ t rest, vs = .int b t :: rest ∧ intsOf rest = some r := by
  unfold intsOf at h
  split at h
  · simp at h
  · split at h
    · rename_i e
      simp only [Option.some.injEq, List.cons.injEq] at h
      obtain ⟨rfl, rfl⟩ := h
      exact ⟨_, _, rfl, e⟩
    · cases h
  · cases h
theorem intsOf_nil {vs : List Value} (h : intsOf vs = some []) : vs = [] := by
  unfold intsOf at h
  split at h
  · rfl
  · split at h <;> simp at h
  · cases h
theorem drop_cons {vs : List Value} {i : Nat} {v : Value} {r : List Value} (h : vs.drop i = v :: r) : vs[i]? = some v ∧ vs.drop (i + 1) = r := by
  constructor
  · have := congrArg (·[0]?) h
    simpa using this
  · have := congrArg (List.drop 1) h
    simpa [Nat.add_comm] using this
section
variable {prog : Program} {w : World} {A : Around} {R : Result → Shared → Prop}
theorem fnCheck {id : String} {args : List Value} (hk : builtinKind id = none) (ha : argsOk id ⟨args, []⟩) : checkBuiltinCall id ⟨args, []⟩ = pure () := by
  simp only [checkBuiltinCall, hk]
  cases hsig : Manifest.signature? id with
  | none => rfl
  | some sig =>
    simp only [argsOk, hsig] at ha
    exact ha
end
/-! the contract -/
end
/-! SxTry -/
/-! ### a function whose body is one try: what is raised in it is handled -/
noncomputable def posD (x : Nat × Nat × Unk) : Pos := ⟨x.2.2.n 0, x.2.2.n 1, x.2.2.n 2, x.2.2.n 3⟩
noncomputable def posE (p : Pos) : Nat × Nat × Unk := (0, 0, { unk0 with n := fun i => match i with | 0 => p.line | 1 => p.col | 2 => p.endLine | _ => p.endCol })
noncomputable def tryT (b : List Stmt) (env : Env) (pos : Pos) : Sem Fin := do
  point
  standAt pos
  let f ← execs b env
  pure (.done f)
noncomputable def hdT (hs : List ExceptHandler) (env : Env) (e : Value) : Sem Fin := do
  match ← handleBy e env hs with
  | .ret v => ret v
  | _ => ret .none
noncomputable def runTry (X : Cfg → Nat → RunTy) (C : Cfg) (n : Nat) (Γ : Ctx) (p : Pos) (env : Env) (t : Sem Fin) (hd : Value → Sem Fin) (hs1 hs2 : List Nat) (T : BT) (m : Nat) (ads : Ads) (t0 : Nat) (nv nv2 : Nv) : Out :=
  match X C n Γ p .base t hs1 T m ads t0 0 nv ⟨[], [], [], True⟩ with
  | .fin (.done (.error e)) T m ads tk A => leave Γ env true e (fun hs T m ads t i nv A => X C n Γ (posD (nv 0)) .base (hd e) hs T m ads t i (fun k => nv (k + 1)) A) hs2 T m ads tk 0 nv2 A
  | _ => .stop 90
noncomputable def RT (M : Model) (Γ : Ctx) (hs : List ExceptHandler) (env : Env) (R : Result → Shared → Prop) : Result → Shared → Prop
  | .ok _, _ => False
  | .error e, s' => ∀ p', Sem.wp M Γ (lvH env true e) (fun _ p3 s3 => Sem.wp M Γ (hdT hs env e) (Sem.finPost M Γ R) (fun _ _ _ => False) p3 s3) (fun _ _ _ => False) p' s'
noncomputable def RN (R : Result → Shared → Prop) : Result → Shared → Prop
  | .ok f, s => R (.ok f) s
  | .error _, _ => False
theorem func_try {prog : Program} {w : World} {Γ : Ctx} {b : List Stmt} {hs : List ExceptHandler} {pos : Pos} {env : Env} {R : Result → Shared → Prop} {p : Pos} {s : Shared}
    (hc : Γ.code = .func [.Try b hs [] [] pos] env) (ne : hs.isEmpty = false)
    (h : Sem.wp (model prog w) Γ (tryT b env pos) (Sem.finPost (model prog w) Γ (RT (model prog w) Γ hs env R)) (fun e _ s' => RT (model prog w) Γ hs env R (.error e) s') p s) :
    wpCode (model prog w) Γ R p s := by
  rw [wpCode_iff_wp, hc]
  show Sem.wp _ Γ (do
      point
      match ← (execs [.Try b hs [] [] pos] env).onRaise (leaving env) with
      | .ret v => ret v
      | _ => ret .none) _ _ p s
  unfold tryT at h
  rw [Sem.wp_bind', Sem.wp_cmd_point] at h ⊢
  rw [Sem.wp_bind', Sem.wp_onRaise]
  show Sem.wp _ Γ (do
      match ← exec (.Try b hs [] [] pos) env with
      | .next => execs [] env
      | f => pure f) _ _ _ _
  rw [Sem.wp_bind']
  show Sem.wp _ Γ (do
      standAt pos
      tryStmt false (execs b env) hs (execs [] env) [] env) _ _ _ _
  rw [Sem.wp_bind', Sem.wp_cmd_standAt] at h ⊢
  show Sem.wp _ Γ (do
        match ← (execs b env).attempt with
        | .ok .next => execs [] env
        | .ok f => pure f
        | .error e =>
          noteFrame e env
          if hs.isEmpty then throw e
          setFlight e none
          if false && hs.any (fun | .ExceptHandler none .. => true | _ => false) then unsupported "internal:except-star-without-type"
          if false then runOwn (.starHandlers e e (← newList []) hs env) env (some e) else handleBy e env hs) _ _ _ _
  rw [Sem.wp_bind', Sem.wp_attempt]
  rw [Sem.wp_bind'] at h
  refine Sem.wp_mono _ Γ _ (fun f p2 s2 h2 => (h2 : False).elim) (fun e p2 s2 h2 => ?_) _ _ h
  have h2 := h2 p2
  show Sem.wp _ Γ (do
          noteFrame e env
          if hs.isEmpty then throw e
          setFlight e none
          handleBy e env hs) _ _ p2 s2
  rw [ne]
  show Sem.wp _ Γ (do
          noteFrame e env
          setFlight e none
          handleBy e env hs) _ _ p2 s2
  have h2 : Sem.wp _ Γ (do noteFrame e env; setFlight e none) _ _ p2 s2 := h2
  rw [Sem.wp_bind'] at h2 ⊢
  refine Sem.wp_mono _ Γ _ (fun _ p3 s3 h3 => ?_) (fun _ p3 s3 h3 => h3.elim) p2 s2 h2
  rw [Sem.wp_bind']
  refine Sem.wp_mono _ Γ _ (fun _ p4 s4 h4 => ?_) (fun _ p4 s4 h4 => h4.elim) p3 s3 h3
  unfold hdT at h4
  rw [Sem.wp_bind'] at h4
  refine Sem.wp_mono _ Γ _ (fun f p5 s5 h5 => ?_) (fun _ p5 s5 h5 => h5.elim) p4 s4 h4
  cases f <;> exact Sem.wp_mono _ Γ _ (fun _ _ _ h => h) (fun _ _ _ h => (h : False).elim) _ _ h5

theorem finPost_mono {M : Model} {Γ : Ctx} {R R' : Result → Shared → Prop} (h : ∀ r s, R r s → R' r s) {f : Fin} {p : Pos} {s : Shared} (q : Sem.finPost M Γ R f p s) : Sem.finPost M Γ R' f p s := by
  cases f with
  | done f => exact h _ _ q
  | again c => exact ⟨q.1, wpCode_mono h q.2⟩
theorem run_try {kt : X.KT} {n₀ : Nat} {s : Shared} {prog : Program} {w : World} {R : Result → Shared → Prop} {C : Cfg} {l : List (Nat × Obj)} {Γ : Ctx} {b : List Stmt} {hd : List ExceptHandler} {pos : Pos} {env : Env} {p : Pos} {n : Nat} {hs1 hs2 ext : List Nat}
    (hden : C.den = (model prog w).den) (hprog : C.prog = (model prog w).prog) (hw : C.w = (model prog w).w) (hkt : C.kt = kt) (hcon : ConOk (baseOf kt n₀ l.length s) (model prog w) C) (hlv : LvOk (model prog w) C)
    (S : Sane kt n₀ s) (H : Holds s l) (nd : (l.map (·.1)).Nodup) (lo : ∀ x ∈ l, n₀ ≤ x.1)
    (hc : Γ.code = .func [.Try b hd [] [] pos] env) (ne : hd.isEmpty = false)
    (e : Nv → Nv → End1) (os : Nv → Nv → List (Option Obj)) (xs : Nv → Nv → List Nat) (ob : Nv → Nv → Prop)
    (run : ∀ nv nv2, let X := runTry sx C n Γ p env (tryT b env pos) (hdT hd env) hs1 hs2 (treeOf 0 (l.map (·.2)) .nil) l.length (adsOf 0 (l.map (·.1)) s.heap.objs.size []) s.toks nv nv2
      look (List.range l.length ++ ext) X = some (e nv nv2, os nv nv2, l.map (·.1) ++ xs nv nv2, dup (eqsOf X), dupG (gsOf X), dupO (osOf X), ob nv nv2))
    (hob : ∀ nv nv2, ob nv nv2) (fin : ∀ nv nv2 s', After s s' (l.map (·.1)) (List.range l.length ++ ext) (l.map (·.1) ++ xs nv nv2) (os nv nv2) → EndOk (model prog w) (RN R) (e nv nv2) s') : wpCode (model prog w) Γ R p s := by
  have hlen : l.length = (l.map (·.1)).length := by rw [List.length_map]
  have good : ∀ nv nv2, Good (baseOf kt n₀ l.length s) (model prog w) (RN R) (runTry sx C n Γ p env (tryT b env pos) (hdT hd env) hs1 hs2 (treeOf 0 (l.map (·.2)) .nil) l.length (adsOf 0 (l.map (·.1)) s.heap.objs.size []) s.toks nv nv2) := by
    intro nv nv2
    have r := run nv nv2
    have f := fin nv nv2
    rw [hlen] at r f ⊢
    exact good_of_look (by simpa only [List.length_map] using r) (hob nv nv2) (by simpa only [List.length_map] using f)
  refine func_try hc ne ?_
  refine sx_sound (R := RT (model prog w) Γ hd env R) hden hprog hw hkt hcon hlv n Γ p .base (tryT b env pos) hs1 _ _ _ _ 0 ⟨[], [], [], True⟩ s (Rep.start S H nd lo) fun nv => ?_
  · have g := good nv
    unfold runTry at g
    cases hX : sx C n Γ p .base (tryT b env pos) hs1 (treeOf 0 (l.map (·.2)) .nil) l.length (adsOf 0 (l.map (·.1)) s.heap.objs.size []) s.toks 0 nv ⟨[], [], [], True⟩ with
    | stop k => rw [hX] at g; exact (g fun _ => (0, 0, unk0)).elim
    | fin e T m ads tk A =>
      rw [hX] at g
      match e, g with
      | .again _ _, g => exact (g fun _ => (0, 0, unk0)).elim
      | .done (.ok _), g => exact (g fun _ => (0, 0, unk0)).elim
      | .done (.error x), g =>
        have ga : GoAcc (baseOf kt n₀ l.length s) (model prog w) (RN R) (fun hs T m ads t i nv A => sx C n Γ (posD (nv 0)) K.base (hdT hd env x) hs T m ads t i (fun k => nv (k + 1)) A) :=
          fun _ _ _ _ _ _ _ _ H => sx_acc n _ _ _ _ _ _ _ _ _ _ _ _ H
        refine ⟨leave_acc ga (g fun _ => (0, 0, unk0)), fun s1 D => ?_⟩
        intro p'
        have z := leave_sound (P := fun s' => ∀ p', Sem.wp (model prog w) Γ (hdT hd env x) (Sem.finPost (model prog w) Γ R) (fun _ _ _ => False) p' s') (E := fun _ _ => False) (t0 := tk) (i := 0) D (fun hs T m ads t0 i A s2 D2 H2 => ?_) ga g Γ p' (in_inA Γ)
        · exact Sem.wp_mono _ Γ _ (fun _ p3 s3 h => h p3) (fun _ _ _ h => h) p' s1 z
        · intro p3
          have z := sx_sound (R := RN R) hden hprog hw hkt hcon hlv n Γ p3 .base (hdT hd env x) hs T m ads t0 i A s2 D2 fun nv => H2 (scons (posE p3) nv)
          exact Sem.wp_mono _ Γ _ (fun f p4 s4 h => finPost_mono (fun r s h => by cases r with | ok f => exact h | error e => exact h.elim) h) (fun _ _ _ h => h) p3 s2 z
end Mine
end
section
open PySem PySem.W
open Builtin Builtin.Str Builtin.Int PySem.SeqAt
namespace Mine
/-! SxV -/
section
/-! ### contracts: list iterators, any text's iterator, sums of any ints, lists laid together -/
structure OrV extends OrP where
  val : Nat → Value
noncomputable def liO (l i : Nat) : Obj := ⟨.type "list_iterator", none, .fields ⟨[.ref l, .int (.ofNat i) 0]⟩, ⟨[]⟩⟩
noncomputable def siU (a : Str) (t : Tok) (i : Nat) : Obj := ⟨.type "str_iterator", none, .fields ⟨[.str a t, .int (.ofNat i) 0]⟩, ⟨[]⟩⟩
noncomputable def isLi : Option Obj → Option (Nat × Nat)
  | some ⟨_, _, .fields ⟨[.ref l, .int (.ofNat i) _]⟩, _⟩ => some (l, i)
  | _ => none
noncomputable def ItB (xs : Array Value) (i : Nat) (v : Value) : Prop := xs[i]? = some v
noncomputable def EndB (xs : Array Value) (i : Nat) : Prop := xs[i]? = none
noncomputable def Small2 (xs ys : Array Value) : Prop := xs.size ≤ 1000000 ∧ ys.size ≤ 1000000
noncomputable def TupC (ty : String) (e1 e2 a : Str) (x : Nat) : Prop := ty = "tuple" ∧ (e1 == a || e2 == a) = bOf x
noncomputable def MulSB (a : Str) (n : Int) (res : List Nat) : Prop := ∃ (c m : Nat), a = ⟨⟨[c]⟩⟩ ∧ n = (m : Int) ∧ m ≤ 1000 ∧ res = List.replicate m c
section
variable {prog : Program} {w : World} {A : Around} {s : Shared} {R : Result → Shared → Prop}
theorem lnext_code {it l : Addr} {i n : Nat} {xs : Array Value} {v : Value} (hi : s.heap.get? it = some (liO l i)) (hl : s.heap.get? l = some (lsO xs n)) (hc : xs[i]? = some v)
    (h : R (.ok (.ret v)) { s with heap := s.heap.update it (Obj.mapFields (·.setIfInBounds 1 (.int (.ofNat (i + 1)) 0))) }) :
    codeAny (model prog w) A (.call (.builtin "list_iterator.__next__") ⟨[.ref it], []⟩) R s := by
  refine codeAny_call_builtin slot_listiter_next.plain entry_listiter_next (slot_listiter_next.check _ _ _ _ _ _ _ _ ⟨_, hi, rfl⟩ (args_listiter_next _) ?_)
  show wpAny _ _ (field (.ref it) 0 >>= _) _ _ s
  refine wpAny_bind (wpAny_field hi rfl (x := .ref l) rfl ?_)
  show wpAny _ _ (field (.ref it) 1 >>= _) _ _ s
  refine wpAny_bind (wpAny_field hi rfl (x := .int (.ofNat i) 0) rfl ?_)
  show wpAny _ _ (seqItems? (.ref l) >>= _) _ _ s
  refine wpAny_bind (wpAny_seqItems hl rfl ?_)
  show wpAny _ _ (match xs[i]? with | some x => (do setField (.ref it) 1 (rawInt (.ofNat i + 1)); ret x) | none => _) _ _ s
  rw [hc]
  exact wpAny_bind (wpAny_setField hi rfl (by simp) (wpAny_pure h))
theorem lstop_code {it l : Addr} {i n : Nat} {xs : Array Value} (hh : A.handled = none) (hi : s.heap.get? it = some (liO l i)) (hl : s.heap.get? l = some (lsO xs n)) (hc : xs[i]? = none)
    (h : ∀ h1, h1 = ((s.heap.update it (Obj.mapFields (·.setIfInBounds 0 .none))).push ⟨.type "tuple", none, .seq ⟨[]⟩ 0, ⟨[]⟩⟩).push ⟨.type "StopIteration", none, .fields ⟨[.ref s.heap.objs.size, .none, .none, .none, .bool false, .none]⟩, ⟨[]⟩⟩ →
      R (.error (.ref (s.heap.objs.size + 1))) { s with heap := h1 }) :
    codeAny (model prog w) A (.call (.builtin "list_iterator.__next__") ⟨[.ref it], []⟩) R s := by
  refine codeAny_call_builtin slot_listiter_next.plain entry_listiter_next (slot_listiter_next.check _ _ _ _ _ _ _ _ ⟨_, hi, rfl⟩ (args_listiter_next _) ?_)
  show wpAny _ _ (field (.ref it) 0 >>= _) _ _ s
  refine wpAny_bind (wpAny_field hi rfl (x := .ref l) rfl ?_)
  show wpAny _ _ (field (.ref it) 1 >>= _) _ _ s
  refine wpAny_bind (wpAny_field hi rfl (x := .int (.ofNat i) 0) rfl ?_)
  show wpAny _ _ (seqItems? (.ref l) >>= _) _ _ s
  refine wpAny_bind (wpAny_seqItems hl rfl ?_)
  show wpAny _ _ (match xs[i]? with | some x => _ | none => (do rule "list_iterator.__next__.end"; setField (.ref it) 0 .none; raiseNew (← newExc (.type "StopIteration") []))) _ _ s
  rw [hc]
  refine wpAny_bind (wpAny_rule (wpAny_bind (wpAny_setField hi rfl (by simp) ?_)))
  refine wpAny_bind (m := newExc (.type "StopIteration") []) ?_
  simp only [newExc, newTuple]
  refine wpAny_bind (wpAny_newObj_type ?_ (by show 0 ≤ sizeLine; decide))
  refine wpAny_bind (m := firstArgMember _ _) (wpAny_of_eq (a := Value.none) (by first | rfl | (simp only [firstArgMember]; rfl)) ?_)
  refine wpAny_newObj_type ?_ (by show 6 ≤ sizeLine + 2; decide)
  simp only [raiseNew]
  refine wpAny_bind (wpAny_handled ?_)
  rw [show A.in1.handled = none from hh]
  refine wpAny_bind (wpAny_pure (wpAny_throw ?_))
  have e1 : (s.heap.update it (Obj.mapFields (·.setIfInBounds 0 Value.none))).objs.size = s.heap.objs.size := (Heap.SameBut.update ..).1
  have := h _ rfl
  have hw : ownMembersOf (.type "StopIteration") [] = #[] := rfl
  simpa [Heap.size_push, e1, hw] using this
theorem unext_code {it : Addr} {a : Str} {t : Tok} {i c : Nat} (hi : s.heap.get? it = some (siU a t i)) (hc : a.cps[i]? = some c)
    (h : ∀ τ u, R (.ok (.ret (.str ⟨⟨[c]⟩⟩ τ))) { s with heap := s.heap.update it (Obj.mapFields (·.setIfInBounds 1 (.int (.ofNat (i + 1)) 0))), toks := u }) :
    codeAny (model prog w) A (.call (.builtin "str_iterator.__next__") ⟨[.ref it], []⟩) R s := by
  refine codeAny_call_builtin F.slot_str_iterator_next.plain F.entry_str_iterator_next (F.slot_str_iterator_next.check _ _ _ _ _ _ _ _ ⟨_, hi, rfl⟩ (F.args_str_iterator_next_1 _) ?_)
  show wpAny _ _ (field (.ref it) 0 >>= _) _ _ s
  refine wpAny_bind (wpAny_field hi rfl (x := .str a t) rfl ?_)
  show wpAny _ _ (field (.ref it) 1 >>= _) _ _ s
  refine wpAny_bind (wpAny_field hi rfl (x := .int (.ofNat i) 0) rfl ?_)
  show wpAny _ _ (match a.cps[i]? with | some c => (do setField (.ref it) 1 (rawInt (.ofNat i + 1)); retStr ⟨#[c]⟩) | none => _) _ _ s
  rw [hc]
  exact wpAny_bind (wpAny_setField hi rfl (by simp) (wpAny_bind (wpAny_mkStr (wpAny_pure (h _ _)) (by show 1 ≤ sizeLine; decide))))
theorem ustop_code {it : Addr} {a : Str} {t : Tok} {i : Nat} (hh : A.handled = none) (hi : s.heap.get? it = some (siU a t i)) (hc : a.cps[i]? = none)
    (h : ∀ h1, h1 = ((s.heap.update it (Obj.mapFields (·.setIfInBounds 0 .none))).push ⟨.type "tuple", none, .seq ⟨[]⟩ 0, ⟨[]⟩⟩).push ⟨.type "StopIteration", none, .fields ⟨[.ref s.heap.objs.size, .none, .none, .none, .bool false, .none]⟩, ⟨[]⟩⟩ →
      R (.error (.ref (s.heap.objs.size + 1))) { s with heap := h1 }) :
    codeAny (model prog w) A (.call (.builtin "str_iterator.__next__") ⟨[.ref it], []⟩) R s := by
  refine codeAny_call_builtin F.slot_str_iterator_next.plain F.entry_str_iterator_next (F.slot_str_iterator_next.check _ _ _ _ _ _ _ _ ⟨_, hi, rfl⟩ (F.args_str_iterator_next_1 _) ?_)
  show wpAny _ _ (field (.ref it) 0 >>= _) _ _ s
  refine wpAny_bind (wpAny_field hi rfl (x := .str a t) rfl ?_)
  show wpAny _ _ (field (.ref it) 1 >>= _) _ _ s
  refine wpAny_bind (wpAny_field hi rfl (x := .int (.ofNat i) 0) rfl ?_)
  show wpAny _ _ (match a.cps[i]? with | some c => _ | none => (do rule "str_iterator.__next__.end"; setField (.ref it) 0 .none; letGo [.str a t]; raiseNew (← newExc (.type "StopIteration") []))) _ _ s
  rw [hc]
  refine wpAny_bind (wpAny_rule (wpAny_bind (wpAny_setField hi rfl (by simp) (wpAny_bind (wpAny_letGo ?_)))))
  refine wpAny_bind (m := newExc (.type "StopIteration") []) ?_
  simp only [newExc, newTuple]
  refine wpAny_bind (wpAny_newObj_type ?_ (by show 0 ≤ sizeLine; decide))
  refine wpAny_bind (m := firstArgMember _ _) (wpAny_of_eq (a := Value.none) (by first | rfl | (simp only [firstArgMember]; rfl)) ?_)
  refine wpAny_newObj_type ?_ (by show 6 ≤ sizeLine + 2; decide)
  simp only [raiseNew]
  refine wpAny_bind (wpAny_handled ?_)
  rw [show A.in1.handled = none from hh]
  refine wpAny_bind (wpAny_pure (wpAny_throw ?_))
  have e1 : (s.heap.update it (Obj.mapFields (·.setIfInBounds 0 Value.none))).objs.size = s.heap.objs.size := (Heap.SameBut.update ..).1
  have := h _ rfl
  have hw : ownMembersOf (.type "StopIteration") [] = #[] := rfl
  simpa [Heap.size_push, e1, hw] using this
theorem ladd_code {l l2 : Addr} {xs ys : Array Value} {n n2 : Nat} (hl : s.heap.get? l = some (lsO xs n)) (hl2 : s.heap.get? l2 = some (lsO ys n2)) (hz : Small2 xs ys)
    (h : R (.ok (.ret (.ref s.heap.objs.size))) { s with heap := s.heap.push (lsO (xs ++ ys) 0) }) : codeAny (model prog w) A (.call (.builtin "list.__add__") ⟨[.ref l, .ref l2], []⟩) R s := by
  have hsz : sizeLine = 16777216 := by decide
  obtain ⟨h1, h2⟩ := hz
  exact meets_code F.slot_list_add ⟨_, hl, rfl⟩ F.entry_list_add (F.args_list_add_2 _ _) (AutoSeq1.list___add___list_list_0 l xs n l2 ys n2 (by omega)) ⟨hl, hl2, h⟩
theorem smul_code {c m : Nat} {t u : Tok} (hm : m ≤ 1000) (h : ∀ τ tk, R (.ok (.ret (.str ⟨⟨List.replicate m c⟩⟩ τ))) { s with toks := tk }) :
    codeAny (model prog w) A (.call (.builtin "str.__mul__") ⟨[.str ⟨⟨[c]⟩⟩ t, .int (m : Int) u], []⟩) R s := by
  have key : ∀ n : Int, n = (m : Int) → codeAny (model prog w) A (.call (.builtin "str.__mul__") ⟨[.str ⟨⟨[c]⟩⟩ t, .int n u], []⟩) R s := by
    intro n hn
    have hr : (decide (n < -(2 ^ 63 : Int)) || decide (n ≥ 2 ^ 63)) = false := by
      simp only [Bool.or_eq_false_iff, decide_eq_false_iff_not]
      omega
    refine gives_code F.slot_str_mul (typeIs_str s _ t) F.entry_str_mul (F.args_str_mul_2 _ _) (gives_str_mul _ n t u hr (fun h1 _ => ?_) (fun h1 _ => ?_)) ?_
    · show ¬ ((1 : Nat) : Int) > (2 ^ 63 - 1) / n
      have : (1 : Int) ≤ (2 ^ 63 - 1) / n := by
        rw [Int.le_ediv_iff_mul_le (by omega)]
        omega
      omega
    · show tooLong (1 * n.toNat) = false
      have e : n.toNat = m := by omega
      rw [e]
      unfold Builtin.Str.tooLong
      have hz : sizeLine = 16777216 := by decide
      simp
      omega
    · by_cases h0 : m = 0
      · rw [if_pos (by omega)]
        subst h0
        exact ⟨by show 0 ≤ sizeLine; decide, h _ _⟩
      · rw [if_neg (by omega)]
        by_cases h1 : m = 1
        · have e1 : (n == 1 || (⟨⟨[c]⟩⟩ : Str).length == 0) = true := by
            have : n = 1 := by omega
            rw [this]; rfl
          rw [if_pos e1]
          subst h1
          exact h t s.toks
        · have e1 : ¬ (n == 1 || (⟨⟨[c]⟩⟩ : Str).length == 0) = true := by
            have : ¬ n = 1 := by omega
            simp [this, Str.length]
          rw [if_neg e1]
          have e : n.toNat = m := by omega
          rw [e]
          have hrep : ∀ (k : Nat) (acc : List Nat), (List.replicate k (⟨[c]⟩ : Array Nat)).foldl (· ++ ·) ⟨acc⟩ = ⟨acc ++ List.replicate k c⟩ := by
            intro k
            induction k with
            | zero => intro acc; simp
            | succ k ih =>
              intro acc
              rw [List.replicate_succ, List.foldl_cons, show (⟨acc⟩ : Array Nat) ++ (⟨[c]⟩ : Array Nat) = ⟨acc ++ [c]⟩ from by simp, ih, List.replicate_succ]
              simp
          have := hrep m []
          rw [List.nil_append] at this
          show (Made.str ⟨(List.replicate m (⟨[c]⟩ : Array Nat)).foldl (· ++ ·) ⟨[]⟩⟩).post _ s
          rw [this]
          refine ⟨?_, h _ _⟩
          show (List.replicate m c).length ≤ sizeLine
          have hz : sizeLine = 16777216 := by decide
          rw [List.length_replicate]
          omega
  exact key _ rfl
/-! sum of any ints -/
theorem sumloopV_code {l it S : Addr} {vs : List Value} (hh : A.handled = none) (n1 : S ≠ it) (n2 : it ≠ l) (n3 : S ≠ l) : ∀ (is : List Int) (i : Nat) (a : Int) (tA : Tok) (c : Nat) (st : Int) (s : Shared), (st = 0 ∨ st = 2) → intsOf (vs.drop i) = some is →
    s.heap.IsListIter it l i → s.heap.IsList l ⟨vs⟩ → s.heap.get? S = some { cls := .type "list", dict := none, data := .seq #[.int a tA] c, slots := #[] } → s.heap.objs.size = S + 1 →
    (∀ s' t', Keep [it, S] s s' → R (.ok (.ret (.int (sumI a is) t'))) s') →
    codeAny (model prog w) A (.builtin "sum.loop" ⟨[.ref it, .ref S, rawInt st, rawInt 0], []⟩) R s := by
  intro is
  induction is with
  | nil =>
    intro i a tA c st s hst hd hit hl hS hz hR
    refine codeAny_builtin F.entry_sum_loop ?_
    rw [Around.under_plainId F.plain_sum_loop _]
    show wpAny _ A.in1 (seqItems? (.ref S) >>= _) _ _ s
    refine wpAny_bind (wpAny_seqItems hS rfl ?_)
    show wpAny _ A.in1 (tryCatch (pyNext (.ref it)) _ >>= _) _ _ s
    have hx : (⟨vs⟩ : Array Value)[i]? = none := by
      have := intsOf_nil hd
      simp only [List.drop_eq_nil_iff] at this
      simpa using this
    refine wpAny_bind (wpAny_tryCatch (wpAny_pyNext_list_end (show A.in1.handled = none from hh) hit hl hx fun h' he => ?_))
    have h2 : h'.get? S = _ := he S _ n1 hS
    have h3 : S < h'.objs.size := Heap.lt_size h2
    refine wpAny_pure (hR _ tA ⟨fun b o hb hne => ?_, ?_, rfl, rfl, rfl⟩)
    · simp only [List.mem_cons, List.not_mem_nil, or_false, not_or] at hne
      exact he b o hne.1 hb
    · show s.heap.objs.size ≤ h'.objs.size
      rw [hz]; exact h3
  | cons b r ih =>
    intro i a tA c st s hst hd hit hl hS hz hR
    obtain ⟨t, rest, e1, e2⟩ := intsOf_cons hd
    obtain ⟨e3, e4⟩ := drop_cons e1
    refine codeAny_builtin F.entry_sum_loop ?_
    rw [Around.under_plainId F.plain_sum_loop _]
    show wpAny _ A.in1 (seqItems? (.ref S) >>= _) _ _ s
    refine wpAny_bind (wpAny_seqItems hS rfl ?_)
    show wpAny _ A.in1 (tryCatch (pyNext (.ref it)) _ >>= _) _ _ s
    refine wpAny_bind (wpAny_tryCatch (wpAny_pyNext_list_item (x := .int b t) hit hl (by simpa using e3) fun h' hit' hsb => ?_))
    have hS' : ({ s with heap := h' } : Shared).heap.get? S = _ := (hsb.2 S n1).trans hS
    have hl' : h'.IsList l ⟨vs⟩ := let ⟨o, ho, q⟩ := hl; ⟨o, (hsb.2 l (Ne.symm n2)).trans ho, q⟩
    have fin : ∀ (s2 : Shared) (tB : Tok) (c2 : Nat) (st2 : Int), (st2 = 0 ∨ st2 = 2) → Heap.SameBut S h' s2.heap → s2.heap.get? S = some { cls := .type "list", dict := none, data := .seq #[.int (a + b) tB] c2, slots := #[] } → s2.gens = s.gens → s2.drawn = s.drawn → s2.os = s.os →
        codeAny (model prog w) A (.builtin "sum.loop" ⟨[.ref it, .ref S, rawInt st2, rawInt 0], []⟩) R s2 := by
      intro s2 tB c2 st2 hst2 hs2 hS2 g1 g2 g3
      refine ih (i + 1) (a + b) tB c2 st2 s2 hst2 (by rw [e4]; exact e2) ?_ ?_ hS2 ?_ fun s' t' K => hR s' t' ?_
      · obtain ⟨o, h1, q⟩ := hit'
        exact ⟨o, (hs2.2 it (Ne.symm n1)).trans h1, q⟩
      · obtain ⟨o, h1, q⟩ := hl'
        exact ⟨o, (hs2.2 l (Ne.symm n3)).trans h1, q⟩
      · rw [hs2.1, hsb.1]; exact hz
      · refine ⟨fun b' o hb hne => K.keep b' o ?_ hne, ?_, K.gens.trans g1, K.drawn.trans g2, K.os.trans g3⟩
        · simp only [List.mem_cons, List.not_mem_nil, or_false, not_or] at hne
          exact (hs2.2 b' hne.2).trans ((hsb.2 b' hne.1).trans hb)
        · have := K.size
          have e : s2.heap.objs.size = s.heap.objs.size := by rw [hs2.1, hsb.1]
          exact e ▸ this
    have two : ∀ (h2 : Heap), Heap.SameBut S h' h2 → Heap.SameBut S h' (h2.update S (Obj.mapSeq fun _ => #[Value.int (a + b) s.toks])) := fun h2 q => by
      have q2 : Heap.SameBut S h2 (h2.update S (Obj.mapSeq fun _ => #[Value.int (a + b) s.toks])) := Heap.SameBut.update ..
      exact ⟨q2.1.trans q.1, fun b hb => (q2.2 b hb).trans (q.2 b hb)⟩
    have self : Heap.SameBut S h' h' := ⟨rfl, fun _ _ => rfl⟩
    rcases hst with rfl | rfl
    · show wpAny _ A.in1 (if (_ : Bool) = true then (mkInt (a + b) >>= _) else _) _ _ _
      split
      · refine wpAny_bind (wpAny_mkInt ?_)
        show wpAny _ A.in1 (updateSeq S (fun _ => #[.int (a + b) s.toks]) >>= _) _ _ _
        refine wpAny_bind ?_
        exact wpAny_updateSeq hS' rfl (wpAny_pure ⟨plainId_quiet F.plain_sum_loop _, fin _ s.toks _ 0 (.inl rfl) (two _ self) (Heap.get?_update_self _ hS' rfl) rfl rfl rfl⟩)
      · refine wpAny_bind (wpAny_rule ?_)
        refine wpAny_bind (wpAny_attempt (wpAny_holding (wpAny_add_int ?_)))
        show wpAny _ A.in1 (updateSeq S (fun _ => #[.int (a + b) s.toks]) >>= _) _ _ _
        refine wpAny_bind (wpAny_updateSeq hS' rfl ?_)
        have hS₂ := Heap.get?_update_self (Obj.mapSeq fun _ => #[Value.int (a + b) s.toks]) hS' rfl
        refine wpAny_bind (wpAny_letGo ?_)
        exact wpAny_bind (wpAny_updateSeq hS₂ rfl (wpAny_pure ⟨plainId_quiet F.plain_sum_loop _, fin _ s.toks _ 2 (.inr rfl) (two _ (two _ self)) (Heap.get?_update_self _ hS₂ rfl) rfl rfl rfl⟩))
    · show wpAny _ A.in1 ((holding [Value.int b t] (binaryOp .Add (.int a tA) (.int b t))).attempt >>= _) _ _ _
      refine wpAny_bind (wpAny_attempt (wpAny_holding (wpAny_add_int ?_)))
      show wpAny _ A.in1 (updateSeq S (fun _ => #[.int (a + b) s.toks]) >>= _) _ _ _
      refine wpAny_bind (wpAny_updateSeq hS' rfl ?_)
      have hS₂ := Heap.get?_update_self (Obj.mapSeq fun _ => #[Value.int (a + b) s.toks]) hS' rfl
      refine wpAny_bind (wpAny_letGo ?_)
      exact wpAny_bind (wpAny_updateSeq hS₂ rfl (wpAny_pure ⟨plainId_quiet F.plain_sum_loop _, fin _ s.toks _ 2 (.inr rfl) (two _ (two _ self)) (Heap.get?_update_self _ hS₂ rfl) rfl rfl rfl⟩))
theorem sumV_code {l : Addr} {vs : List Value} {n : Nat} {is : List Int} {s : Shared} (hh : A.handled = none) (hl : s.heap.get? l = some (lsO ⟨vs⟩ n)) (hi : intsOf vs = some is)
    (h : ∀ s' t', Keep [] s s' → R (.ok (.ret (.int (sumI 0 is) t'))) s') : codeAny (model prog w) A (.call (.builtin "sum") ⟨[.ref l], []⟩) R s := by
  refine codeAny_call_builtin F.plain_sum F.entry_sum ?_
  refine wpAny_of_eq (a := ()) (fnCheck F.kind_sum (F.args_sum1 _)) ?_
  unfold Builtin.«sum»
  simp only [List.length_cons, List.length_nil]
  rw [if_neg (by decide)]
  refine wpAny_bind (wpAny_of_eq (show Builtin.Builtins.bindParams "sum" ["start"] 0 { } = pure [none] from rfl) ?_)
  have hL : s.heap.IsList l ⟨vs⟩ := ⟨_, hl, rfl, n, rfl⟩
  have hlt := Heap.lt_size hl
  refine wpAny_bind (wpAny_pyIter_list hL ?_)
  refine wpAny_bind (wpAny_mkInt ?_)
  refine wpAny_bind (wpAny_pure ?_)
  simp only [List.forIn_cons, List.forIn_nil]
  refine wpAny_bind (wpAny_bind (wpAny_bind (wpAny_isInstance (T := "int") (b := false) (typeIs_int _ _ _) sub_int_str ?_)))
  simp only [Bool.false_eq_true, if_false]
  refine wpAny_pure (wpAny_bind (wpAny_bind (wpAny_isInstance (T := "int") (b := false) (typeIs_int _ _ _) sub_int_bytes ?_)))
  simp only [Bool.false_eq_true, if_false]
  refine wpAny_pure (wpAny_bind (wpAny_bind (wpAny_isInstance (T := "int") (b := false) (typeIs_int _ _ _) sub_int_bytearray ?_)))
  simp only [Bool.false_eq_true, if_false]
  refine wpAny_pure (wpAny_pure ?_)
  refine wpAny_bind (wpAny_newObj_type ?_)
  have hb : ∀ b o, s.heap.get? b = some o → b < s.heap.objs.size := fun b o e => Heap.lt_size e
  refine wpAny_pure ⟨plainId_quiet F.plain_sum_loop _, ?_⟩
  show codeAny _ _ (.builtin "sum.loop" ⟨[.ref s.heap.objs.size, .ref (s.heap.push _).objs.size, _, _], []⟩) _ _
  have hpz : ∀ o, (s.heap.push o).objs.size = s.heap.objs.size + 1 := fun o => Heap.size_push ..
  refine sumloopV_code (l := l) (vs := vs) hh ?n1 ?n2 ?n3 is 0 0 s.toks 0 0 _ (.inl rfl) (by simpa using hi) ?_ ?_ ?_ ?_ fun s' t' K => h s' t' ?_
  case n1 => rw [hpz]; exact Nat.succ_ne_self _
  case n2 => exact Nat.ne_of_gt hlt
  case n3 => rw [hpz]; exact Nat.ne_of_gt (Nat.lt_succ_of_lt hlt)
  · exact ⟨_, Heap.get?_push_of_some _ (Heap.get?_push_size _ rfl), rfl, rfl⟩
  · exact ⟨_, Heap.get?_push_of_some _ (Heap.get?_push_of_some _ hl), rfl, n, rfl⟩
  · show (Heap.push (Heap.push _ _) _).get? _ = _
    exact Heap.get?_push_size (s.heap.push _) rfl
  · show (Heap.push (Heap.push _ _) _).objs.size = _
    rw [Heap.size_push, Heap.size_push]
  · refine ⟨fun b o e _ => K.keep b o (Heap.get?_push_of_some _ (Heap.get?_push_of_some _ e)) ?_, ?_, K.gens, K.drawn, K.os⟩
    · have h1 := hb b o e
      simp only [List.mem_cons, List.not_mem_nil, or_false, not_or]
      rw [hpz]
      exact ⟨Nat.ne_of_lt h1, Nat.ne_of_lt (Nat.lt_succ_of_lt h1)⟩
    · have h1 : (Heap.push (Heap.push s.heap _) _).objs.size ≤ s'.heap.objs.size := K.size
      rw [Heap.size_push, Heap.size_push] at h1
      exact Nat.le_trans (Nat.le_add_right _ 2) h1
end
end
/-! SxW -/
theorem filterMap_some {α β : Type} {f : α → Option β} {g : α → β} : ∀ {l : List α}, (∀ x ∈ l, f x = some (g x)) → l.filterMap f = l.map g
  | [], _ => rfl
  | x :: r, h => by
    rw [List.filterMap_cons, h x (List.mem_cons_self ..), List.map_cons, filterMap_some fun y hy => h y (List.mem_cons_of_mem _ hy)]
theorem slice_rev (xs : List Value) : slicePick ⟨xs⟩ none none (some (-1)) = ⟨xs.reverse⟩ := by
  have h : sliceRange (sliceBounds none none (some (-1)) xs.length).1 (sliceBounds none none (some (-1)) xs.length).2.1 (sliceBounds none none (some (-1)) xs.length).2.2 = (List.range xs.length).map fun i => xs.length - 1 - i := by
    cases hn : xs.length with
    | zero => rfl
    | succ n =>
      have e : sliceBounds none none (some (-1)) (n + 1) = ((n : Int), -1, -1) := by
        unfold sliceBounds
        simp
      rw [e]
      unfold sliceRange
      have h1 : ¬ ((-1 : Int) > 0) := by decide
      have h2 : ((n : Int) > -1) := by omega
      simp only [h1, h2, if_true, if_false]
      have e2 : (((n : Int) - -1 - -1 - 1) / -(-1)).toNat = n + 1 := by
        have : ((n : Int) - -1 - -1 - 1) / -(-1) = (n : Int) + 1 := by
          rw [show (-(-1) : Int) = 1 from rfl, Int.ediv_one]; omega
        rw [this]; omega
      rw [e2]
      apply List.map_congr_left
      intro i hi
      simp at hi
      omega
  unfold slicePick
  show (List.filterMap _ (sliceRange (sliceBounds none none (some (-1)) xs.length).1 (sliceBounds none none (some (-1)) xs.length).2.1 (sliceBounds none none (some (-1)) xs.length).2.2)).toArray = _
  rw [h, List.filterMap_map]
  congr 1
  apply List.ext_getElem?
  intro i
  have : (List.range xs.length).filterMap ((fun x => (⟨xs⟩ : Array Value)[x]?) ∘ fun i => xs.length - 1 - i) = (List.range xs.length).map fun i => xs[xs.length - 1 - i]?.getD .none := by
    apply filterMap_some
    intro j hj
    simp at hj
    have hl : xs.length - 1 - j < xs.length := by omega
    simp [hl]
  rw [this, List.getElem?_map]
  by_cases hi : i < xs.length
  · rw [List.getElem?_range hi, List.getElem?_reverse hi]
    have hl : xs.length - 1 - i < xs.length := by omega
    simp [hl]
  · rw [List.getElem?_eq_none (by simp; omega), List.getElem?_eq_none (by simp; omega)]
    rfl
noncomputable def RevB (xs : Array Value) (ty : String) (a b c : Option Int) : Prop := ty = "slice" ∧ a = none ∧ b = none ∧ c = some (-1) ∧ xs.size ≤ 1000000
noncomputable def AddB (a b : Str) (res : List Nat) : Prop := a ++ b = ⟨⟨res⟩⟩ ∧ res.length ≤ 1000000
/-! the contracts -/
noncomputable def conV (O : OrV) : Nat → Nat → Ctx → Code → BT → Ads → Option Con := fun j x Γ c T ads => match Nat.blt j 50 with
  | true => conQ O.toOrP [] .none j x Γ c T ads
  | false => match j with
    | 50 => bindO (isLi (T.get (x / 100))) fun y => bindO (isList1 (T.get (x % 100))) fun z => some { gx := { Γ with code := .call (.builtin "list_iterator.__next__") ⟨[.ref (adOf ads (x / 100))], []⟩ }, nq := [(y.1, adOf ads (x % 100))], oq := [(T.get (x / 100), some (liO y.1 y.2)), (T.get (x % 100), some (lsO z.1 z.2))], ob := ItB z.1 y.2 (O.val y.2), left := fun _ => ⟨.ok (.ret (O.val y.2)), setAll T [(x / 100, liO y.1 (y.2 + 1))], []⟩ }
    | 51 => bindO (isLi (T.get (x / 100))) fun y => bindO (isList1 (T.get (x % 100))) fun z => some { gx := { Γ with code := .call (.builtin "list_iterator.__next__") ⟨[.ref (adOf ads (x / 100))], []⟩ }, nq := [(y.1, adOf ads (x % 100))], oq := [(T.get (x / 100), some (liO y.1 y.2)), (T.get (x % 100), some (lsO z.1 z.2))], ob := EndB z.1 y.2 ∧ Γ.handled = none, left := fun ν => ⟨.error (.ref (ν.n 0)), setAll T [(x / 100, ν.ob 0)], [stopO (ν.n 1)]⟩ }
    | 52 => bindO (isList1 (T.get (x / 100))) fun y => bindO (isList1 (T.get (x % 100))) fun z => some { gx := { Γ with code := .call (.builtin "list.__add__") ⟨[.ref (adOf ads (x / 100)), .ref (adOf ads (x % 100))], []⟩ }, oq := [(T.get (x / 100), some (lsO y.1 y.2)), (T.get (x % 100), some (lsO z.1 z.2))], ob := Small2 y.1 z.1, left := fun ν => ⟨.ok (.ret (.ref (ν.n 0))), T, [lsO (y.1 ++ z.1) 0]⟩ }
    | 53 => bindO (sAt2 c) fun z => bindO (seqOf (T.get (x / 2))) fun y => bindO (strs2 y.2) fun u => some (mkC { Γ with code := .call (.builtin "tuple.__contains__") ⟨[.ref (adOf ads (x / 2)), .str z.1 z.2], []⟩ } (TupC y.1 u.1.1 u.2.1 z.1 (x % 2)) fun ν => ⟨.ok (.ret (.bool (bOf (x % 2)))), T, []⟩)
    | 54 => bindO (two (sAt c) (iAt2 c)) fun z => some (mkC { Γ with code := .call (.builtin "str.__mul__") ⟨[.str z.1.1 z.1.2, .int z.2.1 z.2.2], []⟩ } (MulSB z.1.1 z.2.1 (O.str x)) fun ν => ⟨.ok (.ret (.str ⟨⟨O.str x⟩⟩ (ν.n 0))), T, []⟩)
    | 55 => bindO (isSi (T.get (x / 100))) fun y => some { gx := { Γ with code := .call (.builtin "str_iterator.__next__") ⟨[.ref (adOf ads (x / 100))], []⟩ }, oq := [(T.get (x / 100), some (siU y.1 y.2.1 y.2.2))], ob := NextB y.1 y.2.2 (O.str (x % 100)), left := fun ν => ⟨.ok (.ret (.str ⟨⟨O.str (x % 100)⟩⟩ (ν.n 0))), setAll T [(x / 100, siU y.1 y.2.1 (y.2.2 + 1))], []⟩ }
    | 56 => bindO (isSi (T.get x)) fun y => some { gx := { Γ with code := .call (.builtin "str_iterator.__next__") ⟨[.ref (adOf ads x)], []⟩ }, oq := [(T.get x, some (siU y.1 y.2.1 y.2.2))], ob := StopB y.1 y.2.2 ∧ Γ.handled = none, left := fun ν => ⟨.error (.ref (ν.n 0)), setAll T [(x, ν.ob 0)], [stopO (ν.n 1)]⟩ }
    | 57 => bindO (isList1 (T.get x)) fun y => bindO (intsOf y.1.toList) fun is => some { gx := { Γ with code := .call (.builtin "sum") ⟨[.ref (adOf ads x)], []⟩ }, oq := [(T.get x, some (lsO y.1 y.2))], ob := Γ.handled = none, left := fun ν => ⟨.ok (.ret (.int (sumI 0 is) (ν.n 0))), T, []⟩ }
    | 58 => bindO (two (sAt c) (sAt2 c)) fun z => some (mkC { Γ with code := .call (.builtin "str.__add__") ⟨[.str z.1.1 z.1.2, .str z.2.1 z.2.2], []⟩ } (AddB z.1.1 z.2.1 (O.str x)) fun ν => ⟨.ok (.ret (.str ⟨⟨O.str x⟩⟩ (ν.n 0))), T, []⟩)
    | 59 => bindO (isList1 (T.get (x / 100))) fun y => bindO (fldOf (T.get (x % 100))) fun z => bindO (parts3 partI z.2) fun u => some { gx := { Γ with code := .call (.builtin "list.__getitem__") ⟨[.ref (adOf ads (x / 100)), .ref (adOf ads (x % 100))], []⟩ }, oq := [(T.get (x / 100), some (lsO y.1 y.2))], ob := RevB y.1 z.1 u.a u.b u.c, left := fun ν => ⟨.ok (.ret (.ref (ν.n 0))), T, [lsO ⟨y.1.toList.reverse⟩ 0]⟩ }
    | _ => none
theorem left_stop {B : Base} {s : Shared} {T : BT} {m : Nat} {ads : Ads} {tk : Nat} (D : Rep B s T m ads tk) {x : Nat} {o o' : Obj} (hT : T.get x = some o) {g : Con} {h1 : Heap} (nf : o'.isFreed = false) (ho : Obj.mapFields (·.setIfInBounds 0 Value.none) o = o')
    (eg : ∀ ν, g.left ν = ⟨.error (.ref (ν.n 0)), setAll T [(x, ν.ob 0)], [stopO (ν.n 1)]⟩)
    (e1 : h1 = ((s.heap.update (adOf ads x) (Obj.mapFields (·.setIfInBounds 0 .none))).push ⟨.type "tuple", none, .seq ⟨[]⟩ 0, ⟨[]⟩⟩).push ⟨.type "StopIteration", none, .fields ⟨[.ref s.heap.objs.size, .none, .none, .none, .bool false, .none]⟩, ⟨[]⟩⟩) :
    ∃ N t ν, LeftRep B g ν (.error (.ref (s.heap.objs.size + 1))) { s with heap := h1 } m ads N t := by
  have D1 := D.own x _ hT
  have hu : Heap.SameBut (adOf ads x) s.heap (s.heap.update (adOf ads x) (Obj.mapFields (·.setIfInBounds 0 Value.none))) := Heap.SameBut.update ..
  have hsz : ((s.heap.update (adOf ads x) (Obj.mapFields (·.setIfInBounds 0 Value.none))).push ⟨.type "tuple", none, .seq ⟨[]⟩ 0, ⟨[]⟩⟩).objs.size = s.heap.objs.size + 1 := by rw [Heap.size_push, hu.1]
  refine ⟨_, _, ⟨fun k => match k with | 0 => s.heap.objs.size + 1 | _ => s.heap.objs.size, fun _ => #[], fun _ => #[], fun _ => o'⟩,
    left_one (s' := { s with heap := h1 }) (ch := [(x, o')]) (o := stopO s.heap.objs.size) D (eg _) (fun z hz => ?_) ⟨fun b' o1 hb' hne => ?_, ?_, rfl, rfl, rfl⟩ ?_ ?_⟩
  · simp only [List.mem_singleton] at hz
    subst hz
    refine ⟨D1.1, ?_⟩
    show h1.get? (adOf ads x) = _
    rw [e1]
    rw [← ho] at nf ⊢
    exact Heap.get?_push_of_some _ (Heap.get?_push_of_some _ (Heap.get?_update_self _ D1.2 nf))
  · simp only [List.map_cons, List.map_nil, List.mem_singleton] at hne
    show h1.get? b' = _
    rw [e1]
    exact Heap.get?_push_of_some _ (Heap.get?_push_of_some _ ((hu.2 b' hne).trans hb'))
  · show s.heap.objs.size ≤ h1.objs.size
    rw [e1, Heap.size_push, hsz]
    omega
  · show h1.get? (s.heap.objs.size + 1) = _
    rw [e1, ← hsz]
    exact Heap.get?_push_size _ rfl
  · exact Nat.le_succ _
theorem conV_ok {B : Base} {prog : Program} {w : World} (O : OrV) : ∀ (j x : Nat) (Γ : Ctx) (T : BT) (m : Nat) (ads : Ads) (tk : Nat) (s : Shared) (p : Pos) (g : Con), conV O j x Γ Γ.code T ads = some g → Γ = g.gx → (∀ z ∈ g.nq, z.1 = z.2) → (∀ z ∈ g.oq, z.1 = z.2) → g.ob → Rep B s T m ads tk →
    wpCode (model prog w) Γ (fun r s' => ∃ N t ν, LeftRep B g ν r s' m ads N t) p s := by
  intro j x Γ T m ads tk s p g hg hx hn ho ob D
  cases hb : Nat.blt j 50 with
  | true =>
    unfold conV at hg
    rw [hb] at hg
    exact conQ_ok O.toOrP [] .none _ _ _ _ _ _ _ _ _ _ hg hx ho ob D
  | false =>
    have h50 : 50 ≤ j := by
      rcases Nat.lt_or_ge j 50 with h | h
      · rw [Nat.blt_eq.mpr h] at hb; cases hb
      · exact h
    obtain ⟨k, rfl⟩ : ∃ k, j = k + 50 := ⟨j - 50, (Nat.sub_add_cancel h50).symm⟩
    clear hb
    match k, hg with
    | 0, hg =>
      obtain ⟨y, _, e⟩ := bindO_some hg
      obtain ⟨z, _, e⟩ := bindO_some e
      cases e
      have hl : y.1 = adOf ads (x % 100) := hn _ (List.mem_cons_self ..)
      have h1 : T.get (x / 100) = some (liO y.1 y.2) := ho _ (List.mem_cons_self ..)
      have h2 : T.get (x % 100) = some (lsO z.1 z.2) := ho _ (List.mem_cons_of_mem _ (List.mem_cons_self ..))
      refine wpCode_at (congrArg Ctx.code hx) <| lnext_code (D.own _ _ h1).2 (hl ▸ (D.own _ _ h2).2) ob ?_
      exact left_upd D h1 (u := s.toks) (ν := unk0) (o' := liO y.1 (y.2 + 1)) rfl rfl rfl
    | 1, hg =>
      obtain ⟨y, _, e⟩ := bindO_some hg
      obtain ⟨z, _, e⟩ := bindO_some e
      cases e
      have hl : y.1 = adOf ads (x % 100) := hn _ (List.mem_cons_self ..)
      have h1 : T.get (x / 100) = some (liO y.1 y.2) := ho _ (List.mem_cons_self ..)
      have h2 : T.get (x % 100) = some (lsO z.1 z.2) := ho _ (List.mem_cons_of_mem _ (List.mem_cons_self ..))
      obtain ⟨hs, hh⟩ := ob
      refine wpCode_at (congrArg Ctx.code hx) <| lstop_code hh (D.own _ _ h1).2 (hl ▸ (D.own _ _ h2).2) hs fun h1' e1 => ?_
      exact left_stop D h1 (o' := Obj.mapFields (·.setIfInBounds 0 Value.none) (liO y.1 y.2)) rfl rfl (fun _ => rfl) e1
    | 2, hg =>
      obtain ⟨y, _, e⟩ := bindO_some hg
      obtain ⟨z, _, e⟩ := bindO_some e
      cases e
      have h1 : T.get (x / 100) = some (lsO y.1 y.2) := ho _ (List.mem_cons_self ..)
      have h2 : T.get (x % 100) = some (lsO z.1 z.2) := ho _ (List.mem_cons_of_mem _ (List.mem_cons_self ..))
      exact wpCode_at (congrArg Ctx.code hx) <| ladd_code (D.own _ _ h1).2 (D.own _ _ h2).2 ob (left_push D (o := lsO (y.1 ++ z.1) 0) rfl rfl)
    | 3, hg =>
      obtain ⟨z, _, e⟩ := bindO_some hg
      obtain ⟨y, hy, e⟩ := bindO_some e
      obtain ⟨u, hu, e⟩ := bindO_some e
      cases e
      obtain ⟨n, hT⟩ := seqOf_some hy
      obtain ⟨h1, h2⟩ := ob
      rw [strs2_some hu, h1] at hT
      refine wpCode_at (congrArg Ctx.code hx) <| inTuple_code (e := fun y => match y with | .str b _ => b == z.1 | _ => false) (D.own _ _ hT).2 (fun y hy => ?_) ?_
      · rcases List.mem_cons.mp hy with rfl | hy
        · exact EqAt.str_str _ _ _ _
        · rcases List.mem_cons.mp hy with rfl | hy
          · exact EqAt.str_str _ _ _ _
          · cases hy
      · refine left_same D (ν := unk0) ?_
        show Left.mk (.ok (.ret (.bool (bOf (x % 2))))) T [] = _
        rw [← h2]
        simp
    | 4, hg =>
      obtain ⟨z, _, e⟩ := bindO_some hg
      cases e
      obtain ⟨c, m', h1, h2, h3, h4⟩ := ob
      refine wpCode_at (c := .call (.builtin "str.__mul__") ⟨[.str ⟨⟨[c]⟩⟩ z.1.2, .int (m' : Int) z.2.2], []⟩) ?_ <| smul_code h3 fun τ t => ⟨_, _, unkT τ, left_toks D t ?_⟩
      · rw [← h1, ← h2]; exact congrArg Ctx.code hx
      · show Left.mk _ _ _ = _
        rw [h4]; rfl
    | 5, hg =>
      obtain ⟨y, _, e⟩ := bindO_some hg
      cases e
      have hT : T.get (x / 100) = some (siU y.1 y.2.1 y.2.2) := ho _ (List.mem_cons_self ..)
      obtain ⟨c, hc, hi⟩ := ob
      refine wpCode_at (congrArg Ctx.code hx) <| unext_code (D.own _ _ hT).2 hi fun τ u => ?_
      refine left_upd D hT (ν := unkT τ) (o' := siU y.1 y.2.1 (y.2.2 + 1)) rfl rfl ?_
      show Left.mk _ _ _ = _
      rw [hc]; rfl
    | 6, hg =>
      obtain ⟨y, _, e⟩ := bindO_some hg
      cases e
      have hT : T.get x = some (siU y.1 y.2.1 y.2.2) := ho _ (List.mem_cons_self ..)
      obtain ⟨hs, hh⟩ := ob
      refine wpCode_at (congrArg Ctx.code hx) <| ustop_code hh (D.own _ _ hT).2 hs fun h1' e1 => ?_
      exact left_stop D hT (o' := Obj.mapFields (·.setIfInBounds 0 Value.none) (siU y.1 y.2.1 y.2.2)) rfl rfl (fun _ => rfl) e1
    | 7, hg =>
      obtain ⟨y, _, e⟩ := bindO_some hg
      obtain ⟨is, hi, e⟩ := bindO_some e
      cases e
      have hT : T.get x = some (lsO y.1 y.2) := ho _ (List.mem_cons_self ..)
      refine wpCode_at (congrArg Ctx.code hx) <| sumV_code ob (vs := y.1.toList) (D.own x _ hT).2 hi fun s' t' K => ?_
      exact ⟨_, _, unkT t', left_none (s' := s') (ch := []) D rfl (by simp) K⟩
    | 8, hg =>
      obtain ⟨z, _, e⟩ := bindO_some hg
      cases e
      obtain ⟨h1, h2⟩ := ob
      have hsz : sizeLine = 16777216 := by decide
      refine wpCode_at (congrArg Ctx.code hx) <| add_code (by rw [h1]; show (O.str x).length ≤ sizeLine; omega) fun τ t => ⟨_, _, unkT τ, left_toks D t ?_⟩
      rw [h1]; rfl
    | 9, hg =>
      obtain ⟨y, _, e⟩ := bindO_some hg
      obtain ⟨z, hz, e⟩ := bindO_some e
      obtain ⟨u, hu, e⟩ := bindO_some e
      cases e
      have h1 : T.get (x / 100) = some (lsO y.1 y.2) := ho _ (List.mem_cons_self ..)
      have hT2 := fldOf_some hz
      obtain ⟨hty, ha, hb', hc, hsz⟩ := ob
      obtain ⟨_, _, _, el, p1, p2, p3⟩ := parts3_some hu
      rw [ha] at p1
      rw [hb'] at p2
      rw [hc] at p3
      rw [el, hty] at hT2
      have hz : sizeLine = 16777216 := by decide
      refine wpCode_at (congrArg Ctx.code hx) <| slL_code (lo := none) (hi := none) (st := some (-1)) (D.own _ _ h1).2 ⟨_, (D.own _ _ hT2).2, rfl, rfl⟩ (partI_part p1) (partI_part p2) (partI_part p3) (by decide) (by omega) ?_
      rw [show y.1 = ⟨y.1.toList⟩ from rfl, slice_rev]
      exact left_push (o := lsO ⟨y.1.toList.reverse⟩ 0) D rfl rfl
    | _ + 10, hg => cases hg
/-! SxX -/
section
/-! ### contracts: %, range and its iterator, len of bytes, sums told -/
structure OrX extends OrV where
  il : List Int
  nat : Nat → Nat
noncomputable def riN (k left w : Nat) : Obj := ⟨.type "range_iterator", none, .fields ⟨[.int (.ofNat k) 0, .int (.ofNat left) 0, .int (.ofNat w) 0]⟩, ⟨[]⟩⟩
noncomputable def rgO (a : Int) (t : Tok) (b : Int) (u : Tok) (c : Int) (v : Tok) : Obj := ⟨.type "range", none, .fields ⟨[.int a t, .int b u, .int c v]⟩, ⟨[]⟩⟩
structure I3 where
  a : Int
  t : Tok
  b : Int
  u : Tok
  c : Int
  v : Tok
noncomputable def rgArgs : Code → Option I3
  | .call _ ⟨[_, .int a t, .int b u, .int c v], _⟩ => some ⟨a, t, b, u, c, v⟩
  | _ => none
noncomputable def isRg : Option Obj → Option I3
  | some ⟨_, _, .fields ⟨[.int a t, .int b u, .int c v]⟩, _⟩ => some ⟨a, t, b, u, c, v⟩
  | _ => none
structure N3 where
  a : Nat
  b : Nat
  c : Nat
noncomputable def isRi : Option Obj → Option N3
  | some ⟨_, _, .fields ⟨[.int (.ofNat a) _, .int (.ofNat b) _, .int (.ofNat c) _]⟩, _⟩ => some ⟨a, b, c⟩
  | _ => none
noncomputable def pred1 : Nat → Option Nat
  | 0 => none
  | n + 1 => some n
noncomputable def asB : Value → Option (List UInt8 × Tok)
  | .bytes b t => some (b.toList, t)
  | _ => none
noncomputable def bAt (c : Code) : Option (List UInt8 × Tok) := bindO (fst1 (argsOf c)) asB
noncomputable def IntsB (vs : List Value) (is : List Int) (h : Option Value) : Prop := intsOf vs = some is ∧ h = none
noncomputable def ModB (a b : Int) (r : Nat) : Prop := b ≠ 0 ∧ a.fmod b = (r : Int)
noncomputable def RngB (c : Int) : Prop := c ≠ 0 ∧ c.natAbs < 1073741824
noncomputable def RngI (a b c : Int) (k n w : Nat) : Prop := a = (k : Int) ∧ c = (w : Int) ∧ Builtin.Range.small a b c = true ∧ Builtin.Range.rangeSize a b c = (n : Int)
noncomputable def LbB (b : List UInt8) : Prop := b.length ≤ 1000000
section
variable {prog : Program} {w : World} {A : Around} {s : Shared} {R : Result → Shared → Prop}
theorem mod_code {a b : Int} {ta tb : Tok} (hb : b ≠ 0) (h : ∀ τ t, R (.ok (.ret (.int (a.fmod b) τ))) { s with toks := t }) : codeAny (model prog w) A (.call (.builtin "int.__mod__") ⟨[.int a ta, .int b tb], []⟩) R s :=
  gives_code F.slot_int_mod (typeIs_int s a ta) F.entry_int_mod (F.args_int_mod_2 _ _) (AutoIntG6.int___mod___int_int_1 a ta b tb (by simpa using hb)) (h _ _)
theorem rnew_code {a b c : Int} {t u v : Tok} (hc : RngB c) (h : R (.ok (.ret (.ref s.heap.objs.size))) { s with heap := s.heap.push (rgO a t b u c v) }) :
    codeAny (model prog w) A (.call (.builtin "range.__new__") ⟨[.type "range", .int a t, .int b u, .int c v], []⟩) R s := by
  obtain ⟨h0, h1⟩ := hc
  have hsub : isSubtype (.type "range") (.type "range") = pure true := by rw [isSubtype_type]; kernel_rfl
  have hm := AutoRange.range___new___type_int_int_int_1 a b c t u v hsub (by simpa using h0)
  have hchk : checkBuiltinCall "range.__new__" ⟨[.type "range", .int a t, .int b u, .int c v], []⟩ = pure () := by kernel_rfl
  refine codeAny_call_builtin (by decide +kernel) F.entry_range_new ?_
  refine wpAny_of_eq (a := ()) hchk ?_
  exact hm prog w A R s ⟨PyProof.noPylong_small h1, h⟩
theorem riter_code {r : Addr} {a b c : Int} {t u v : Tok} (hr : s.heap.get? r = some (rgO a t b u c v)) (hs : Builtin.Range.small a b c = true)
    (h : R (.ok (.ret (.ref s.heap.objs.size))) { s with heap := s.heap.push ⟨.type "range_iterator", none, .fields ⟨[.int a 0, .int (Builtin.Range.rangeSize a b c) 0, .int c 0]⟩, ⟨[]⟩⟩ }) :
    codeAny (model prog w) A (.call (.builtin "range.__iter__") ⟨[.ref r], []⟩) R s := by
  refine meets_code F.slot_range_iter ⟨_, hr, rfl⟩ F.entry_range_iter (F.args_range_iter_1 _) (AutoRange.range___iter___range_1 r a b c t u v (by unfold Builtin.Range.small at hs; simp [hs])) ⟨hr, ?_⟩
  unfold Builtin.Range.small at hs
  simp only [hs, if_true]
  exact h
theorem rnext_code {it : Addr} {k l wd : Nat} (hi : s.heap.get? it = some (riN k (l + 1) wd)) (h : ∀ τ t h', h'.get? it = some (riN (k + wd) l wd) → Heap.SameBut it s.heap h' → R (.ok (.ret (.int (.ofNat k) τ))) { s with heap := h', toks := t }) :
    codeAny (model prog w) A (.call (.builtin "range_iterator.__next__") ⟨[.ref it], []⟩) R s := by
  refine meets_code F.slot_range_iterator_next ⟨_, hi, rfl⟩ F.entry_range_iterator_next (F.args_range_iterator_next_1 _) (AutoRange.range_iterator___next___range_iterator_1 it (.ofNat k) (.ofNat (l + 1)) (.ofNat wd) (by show ¬ ((l + 1 : Nat) : Int) ≤ 0; omega)) ⟨hi, ?_⟩
  refine h _ _ _ ?_ ((Heap.SameBut.update ..).trans (Heap.SameBut.update ..))
  rw [Heap.get?_update_self _ (Heap.get?_update_self _ hi rfl) rfl]
  show some (⟨_, _, .fields ⟨[.int (Int.ofNat k + Int.ofNat wd) 0, .int (Int.ofNat (l + 1) - 1) 0, _]⟩, _⟩ : Obj) = _
  have e : Int.ofNat (l + 1) - 1 = Int.ofNat l := by show ((l + 1 : Nat) : Int) - 1 = (l : Int); omega
  rw [e]; rfl
theorem len_bytes_code {b : List UInt8} {t : Tok} (hb : LbB b) (h : ∀ τ tk, R (.ok (.ret (.int (.ofNat b.length) τ))) { s with toks := tk }) : codeAny (model prog w) A (.call (.builtin "len") ⟨[.bytes ⟨b⟩ t], []⟩) R s := by
  have hg : Gives (Builtin.«bytes.__len__» ⟨[.bytes ⟨b⟩ t], []⟩) (.int (.ofNat b.length)) := .of_eq rfl
  have h1 : LbB b := hb
  unfold LbB at h1
  refine fn_code kind_len plain_len entry_len (args_len1 _) ?_
  have h2 : ¬ (Int.ofNat b.length) < 0 := by show ¬ ((b.length : Nat) : Int) < 0; omega
  have h3 : ¬ (Int.ofNat b.length) ≥ 2 ^ 63 := by
    show ¬ ((b.length : Nat) : Int) ≥ 2 ^ 63
    generalize b.length = n at h1
    intro hx
    have : (n : Int) ≤ ((1000000 : Nat) : Int) := Int.ofNat_le.mpr h1
    have h9 : ((1000000 : Nat) : Int) < 2 ^ 63 := by decide +kernel
    exact absurd (Int.le_trans hx this) (Int.not_le.mpr h9)
  exact wpAny_len_body (Q := fun r s' => R (.ok (.ret r)) s') (typeIs_bytes s _ t) FB.slot_bytes_len FB.entry_bytes_len (FB.args_bytes_len_1 _) hg h2 h3 (h _ _)
theorem rstop_code {it : Addr} {k wd : Nat} (hh : A.handled = none) (hi : s.heap.get? it = some (riN k 0 wd))
    (h : ∀ h1, h1 = (s.heap.push ⟨.type "tuple", none, .seq ⟨[]⟩ 0, ⟨[]⟩⟩).push ⟨.type "StopIteration", none, .fields ⟨[.ref s.heap.objs.size, .none, .none, .none, .bool false, .none]⟩, ⟨[]⟩⟩ →
      R (.error (.ref (s.heap.objs.size + 1))) { s with heap := h1 }) :
    codeAny (model prog w) A (.call (.builtin "range_iterator.__next__") ⟨[.ref it], []⟩) R s := by
  refine codeAny_call_builtin F.slot_range_iterator_next.plain F.entry_range_iterator_next (F.slot_range_iterator_next.check _ _ _ _ _ _ _ _ ⟨_, hi, rfl⟩ (F.args_range_iterator_next_1 _) ?_)
  show wpAny _ _ (field (.ref it) 0 >>= _) _ _ s
  refine wpAny_bind (wpAny_field hi rfl (x := .int (.ofNat k) 0) rfl ?_)
  show wpAny _ _ (field (.ref it) 1 >>= _) _ _ s
  refine wpAny_bind (wpAny_field hi rfl (x := .int (.ofNat 0) 0) rfl ?_)
  show wpAny _ _ (field (.ref it) 2 >>= _) _ _ s
  refine wpAny_bind (wpAny_field hi rfl (x := .int (.ofNat wd) 0) rfl ?_)
  show wpAny _ _ (if (Int.ofNat 0) ≤ 0 then _ else _) _ _ s
  rw [if_pos (show (Int.ofNat 0) ≤ 0 from Int.le_refl 0)]
  refine wpAny_bind (wpAny_rule ?_)
  refine wpAny_bind ?_
  show wpAny _ _ (newExc (.type "StopIteration") [] >>= _) _ _ _
  refine wpAny_bind ?_
  simp only [newExc, newTuple]
  refine wpAny_bind (wpAny_newObj_type ?_ (by show 0 ≤ sizeLine; decide))
  refine wpAny_bind (m := firstArgMember _ _) (wpAny_of_eq (a := Value.none) (by first | rfl | (simp only [firstArgMember]; rfl)) ?_)
  refine wpAny_newObj_type ?_ (by show 6 ≤ sizeLine + 2; decide)
  simp only [raiseNew]
  refine wpAny_bind (wpAny_handled ?_)
  rw [show A.in1.handled = none from hh]
  refine wpAny_bind (wpAny_pure (wpAny_throw ?_))
  have := h _ rfl
  have hw : ownMembersOf (.type "StopIteration") [] = #[] := rfl
  simpa [Heap.size_push, hw] using this
end
noncomputable def conX (O : OrX) : Nat → Nat → Ctx → Code → BT → Ads → Option Con := fun j x Γ c T ads => match Nat.blt j 80 with
  | true => match Nat.beq j 57 with
    | true => bindO (isList1 (T.get x)) fun y => some { gx := { Γ with code := .call (.builtin "sum") ⟨[.ref (adOf ads x)], []⟩ }, oq := [(T.get x, some (lsO y.1 y.2))], ob := IntsB y.1.toList O.il Γ.handled, left := fun ν => ⟨.ok (.ret (.int (sumI 0 O.il) (ν.n 0))), T, []⟩ }
    | false => conV O.toOrV j x Γ c T ads
  | false => match j with
    | 80 => bindO (two (iAt c) (iAt2 c)) fun z => some (mkC { Γ with code := .call (.builtin "int.__mod__") ⟨[.int z.1.1 z.1.2, .int z.2.1 z.2.2], []⟩ } (ModB z.1.1 z.2.1 (O.nat x)) fun ν => ⟨.ok (.ret (.int (.ofNat (O.nat x)) (ν.n 0))), T, []⟩)
    | 81 => bindO (rgArgs c) fun z => some (mkC { Γ with code := .call (.builtin "range.__new__") ⟨[.type "range", .int z.a z.t, .int z.b z.u, .int z.c z.v], []⟩ } (RngB z.c) fun ν => ⟨.ok (.ret (.ref (ν.n 0))), T, [rgO z.a z.t z.b z.u z.c z.v]⟩)
    | 82 => bindO (isRg (T.get x)) fun z => some { gx := { Γ with code := .call (.builtin "range.__iter__") ⟨[.ref (adOf ads x)], []⟩ }, oq := [(T.get x, some (rgO z.a z.t z.b z.u z.c z.v))], ob := RngI z.a z.b z.c (O.nat 10) (O.nat 11) (O.nat 12), left := fun ν => ⟨.ok (.ret (.ref (ν.n 0))), T, [riN (O.nat 10) (O.nat 11) (O.nat 12)]⟩ }
    | 83 => bindO (isRi (T.get x)) fun z => bindO (pred1 z.b) fun l => some { gx := { Γ with code := .call (.builtin "range_iterator.__next__") ⟨[.ref (adOf ads x)], []⟩ }, oq := [(T.get x, some (riN z.a (l + 1) z.c))], ob := True, left := fun ν => ⟨.ok (.ret (.int (.ofNat z.a) (ν.n 0))), setAll T [(x, riN (z.a + z.c) l z.c)], []⟩ }
    | 84 => bindO (isRi (T.get x)) fun z => some { gx := { Γ with code := .call (.builtin "range_iterator.__next__") ⟨[.ref (adOf ads x)], []⟩ }, oq := [(T.get x, some (riN z.a 0 z.c))], ob := Γ.handled = none, left := fun ν => ⟨.error (.ref (ν.n 0)), T, [stopO (ν.n 1)]⟩ }
    | 85 => bindO (bAt c) fun z => some (mkC { Γ with code := .call (.builtin "len") ⟨[.bytes ⟨z.1⟩ z.2], []⟩ } (LbB z.1) fun ν => ⟨.ok (.ret (.int (.ofNat z.1.length) (ν.n 0))), T, []⟩)
    | _ => none
theorem conX_ok {B : Base} {prog : Program} {w : World} (O : OrX) : ∀ (j x : Nat) (Γ : Ctx) (T : BT) (m : Nat) (ads : Ads) (tk : Nat) (s : Shared) (p : Pos) (g : Con), conX O j x Γ Γ.code T ads = some g → Γ = g.gx → (∀ z ∈ g.nq, z.1 = z.2) → (∀ z ∈ g.oq, z.1 = z.2) → g.ob → Rep B s T m ads tk →
    wpCode (model prog w) Γ (fun r s' => ∃ N t ν, LeftRep B g ν r s' m ads N t) p s := by
  intro j x Γ T m ads tk s p g hg hx hn ho ob D
  cases hb : Nat.blt j 80 with
  | true =>
    cases h57 : Nat.beq j 57 with
    | false =>
      unfold conX at hg
      rw [hb] at hg
      simp only [h57] at hg
      exact conV_ok O.toOrV _ _ _ _ _ _ _ _ _ _ hg hx hn ho ob D
    | true =>
      unfold conX at hg
      rw [hb] at hg
      simp only [h57] at hg
      obtain ⟨y, _, e⟩ := bindO_some hg
      cases e
      have hT : T.get x = some (lsO y.1 y.2) := ho _ (List.mem_cons_self ..)
      obtain ⟨h1, h2⟩ := ob
      refine wpCode_at (congrArg Ctx.code hx) <| sumV_code h2 (vs := y.1.toList) (D.own x _ hT).2 h1 fun s' t' K => ?_
      exact ⟨_, _, unkT t', left_none (s' := s') (ch := []) D rfl (by simp) K⟩
  | false =>
    have h80 : 80 ≤ j := by
      rcases Nat.lt_or_ge j 80 with h | h
      · rw [Nat.blt_eq.mpr h] at hb; cases hb
      · exact h
    obtain ⟨k, rfl⟩ : ∃ k, j = k + 80 := ⟨j - 80, (Nat.sub_add_cancel h80).symm⟩
    clear hb
    match k, hg with
    | 0, hg =>
      obtain ⟨z, _, e⟩ := bindO_some hg
      cases e
      obtain ⟨h1, h2⟩ := ob
      refine wpCode_at (congrArg Ctx.code hx) <| mod_code h1 fun τ t => ⟨_, _, unkT τ, left_toks D t ?_⟩
      rw [h2]; rfl
    | 1, hg =>
      obtain ⟨z, _, e⟩ := bindO_some hg
      cases e
      exact wpCode_at (congrArg Ctx.code hx) <| rnew_code ob (left_push D rfl rfl)
    | 2, hg =>
      obtain ⟨z, _, e⟩ := bindO_some hg
      cases e
      have hT : T.get x = some (rgO z.a z.t z.b z.u z.c z.v) := ho _ (List.mem_cons_self ..)
      obtain ⟨h1, h2, h3, h4⟩ := ob
      refine wpCode_at (congrArg Ctx.code hx) <| riter_code (D.own _ _ hT).2 h3 (left_push (o := ⟨.type "range_iterator", none, .fields ⟨[.int z.a 0, .int (Builtin.Range.rangeSize z.a z.b z.c) 0, .int z.c 0]⟩, ⟨[]⟩⟩) D rfl ?_)
      show Left.mk _ _ [riN _ _ _] = _
      rw [h1, h2] at h4 ⊢
      rw [h4]; rfl
    | 3, hg =>
      obtain ⟨z, _, e⟩ := bindO_some hg
      obtain ⟨l, _, e⟩ := bindO_some e
      cases e
      have hT : T.get x = some (riN z.a (l + 1) z.c) := ho _ (List.mem_cons_self ..)
      have D1 := D.own x _ hT
      refine wpCode_at (congrArg Ctx.code hx) <| rnext_code D1.2 fun τ t h' hg' hs => ?_
      refine ⟨_, _, unkT τ, left_none (s' := { s with heap := h', toks := t }) (ch := [(x, riN (z.a + z.c) l z.c)]) D rfl (fun y hy => ?_) ⟨fun b' o' hb' hne => ?_, ?_, rfl, rfl, rfl⟩⟩
      · simp only [List.mem_singleton] at hy
        subst hy
        exact ⟨D1.1, hg'⟩
      · simp only [List.map_cons, List.map_nil, List.mem_singleton] at hne
        exact (hs.2 b' hne).trans hb'
      · show s.heap.objs.size ≤ h'.objs.size
        rw [hs.1]; exact Nat.le_refl _
    | 4, hg =>
      obtain ⟨z, _, e⟩ := bindO_some hg
      cases e
      have hT : T.get x = some (riN z.a 0 z.c) := ho _ (List.mem_cons_self ..)
      have D1 := D.own x _ hT
      refine wpCode_at (congrArg Ctx.code hx) <| rstop_code ob D1.2 fun h1 e1 => ?_
      refine ⟨_, _, ⟨fun k => match k with | 0 => s.heap.objs.size + 1 | _ => s.heap.objs.size, fun _ => #[], fun _ => #[], fun _ => default⟩,
        left_one (s' := { s with heap := h1 }) (ch := []) (o := stopO s.heap.objs.size) D rfl (by simp) ⟨fun b' o1 hb' hne => ?_, ?_, rfl, rfl, rfl⟩ ?_ ?_⟩
      · show h1.get? b' = _
        rw [e1]
        exact Heap.get?_push_of_some _ (Heap.get?_push_of_some _ hb')
      · show s.heap.objs.size ≤ h1.objs.size
        rw [e1, Heap.size_push, Heap.size_push]; omega
      · show h1.get? (s.heap.objs.size + 1) = _
        rw [e1]
        have := Heap.get?_push_size (s.heap.push ⟨.type "tuple", none, .seq ⟨[]⟩ 0, ⟨[]⟩⟩) (o := stopO s.heap.objs.size) rfl
        rw [Heap.size_push] at this
        exact this
      · exact Nat.le_succ _
    | 5, hg =>
      obtain ⟨z, _, e⟩ := bindO_some hg
      cases e
      exact wpCode_at (congrArg Ctx.code hx) <| len_bytes_code ob fun τ t => ⟨_, _, unkT τ, left_toks D t rfl⟩
    | _ + 6, hg => cases hg
end
end Mine
end
section -- SxQ01
open PySem PySem.W
lay_quick Mine.sx Mine.lvTree
end
section
open PySem PySem.W
namespace Mine.T01
/-! S101 -/
/-! ### the executor for this program -/
noncomputable def denF : Code → Sem Fin := PySem.W.Fast.tw11892475500146522536 PySem.W.Fast.tw14364793385576792824
noncomputable abbrev lvF : Code → Option (Sem Fin × Env × Bool) := PySem.W.Fast.tw18348235328754309742
theorem lv_eq : lvTree = lvF := PySem.W.Fast.te18348235328754309742
noncomputable abbrev sxF := PySem.W.Fast.tw1486101770073244658
theorem sx_eq : @sx = @sxF := PySem.W.Fast.te1486101770073244658
theorem den_ok (prog : Program) (w : World) : denF = (model prog w).den := by
  show PySem.W.Fast.tw11892475500146522536 PySem.W.Fast.tw14364793385576792824 = denote table
  rw [← show denote = _ from PySem.W.Fast.te11892475500146522536, ← show treeTable = _ from PySem.W.Fast.te14364793385576792824]
  exact congrArg denote table_eq_tree.symm
/-- the world with its two asked rows told -/
noncomputable def wld (w : World) (b b2 : Bool) : World := (w.withFollow "comprehension-iter-twice" b2).withFollow "special-get-raises" b
noncomputable abbrev CF := Nat → Nat → Ctx → Code → BT → Ads → Option Con
noncomputable def cfgW (W : World) (con : CF) : Cfg := ⟨denF, F, W, kt W.params, con, lvF⟩
noncomputable abbrev MW (W : World) : Model := model F W
noncomputable abbrev Top (W : World) (s : Shared) : Prop := Sane (kt W.params) 785 s

/-! ### reading the text -/
noncomputable def whT : Stmt → Expr
  | .While t _ _ _ => t
  | _ => .Constant .none 0 default
noncomputable def whB : Stmt → List Stmt
  | .While _ b _ _ => b
  | _ => []
noncomputable def whO : Stmt → List Stmt
  | .While _ _ o _ => o
  | _ => []
noncomputable def forT : Stmt → Expr
  | .For t _ _ _ _ => t
  | _ => .Constant .none 0 default
noncomputable def forB : Stmt → List Stmt
  | .For _ _ b _ _ => b
  | _ => []
noncomputable def forO : Stmt → List Stmt
  | .For _ _ _ o _ => o
  | _ => []
/-- the frame of a plain def -/
noncomputable def envOfD (d : Stmt) (qual : List Nat) (f c L : Nat) : Env :=
  { scope := fnS d, locals := L, globals := 3, cells := [], qual := ⟨⟨qual⟩⟩ ++ (⟨⟨[46, 60, 108, 111, 99, 97, 108, 115, 62, 46]⟩⟩ : Str), func := some f, code := .ref c, frame := some L, builtins := 0 }

/-! ### shapes -/
noncomputable def ent (P : Params) (k : List Nat) (t : Nat) (v : Value) : DictEntry := ⟨PyData.keyHash P ⟨⟨k⟩⟩, .str ⟨⟨k⟩⟩ t, v⟩
noncomputable def inst (cls d : Nat) : Obj := ⟨.ref cls, some d, .plain, ⟨[]⟩⟩
noncomputable def tyDict : String := SL.s14018661285674007319x4
noncomputable def tyFrame : String := SL.s658472552662922059x5
noncomputable def dictO (es : List DictEntry) (n : Nat) : Obj := ⟨.type tyDict, none, .dict ⟨es⟩ n, ⟨[]⟩⟩
noncomputable def frameO (es : List DictEntry) (n : Nat) (sl : Array (Option Value)) : Obj := ⟨.type tyFrame, none, .dict ⟨es⟩ n, sl⟩

/-- a run of a code whose raises are noted -/
noncomputable def runL (C : Cfg) (fuel : Nat) (Γ : Ctx) (p : Pos) (env : Env) (fl : Bool) (hs : List Nat) (l : List (Nat × Obj)) (N t : Nat) (nv : Nv) : Out :=
  sxF C fuel Γ p (.lv Γ env fl .base) (lvOf C Γ.code) hs (treeOf 0 (l.map (·.2)) .nil) l.length (adsOf 0 (l.map (·.1)) N []) t 0 nv ⟨[], [], [], True⟩
/-- a run of any other -/
noncomputable def runC (C : Cfg) (fuel : Nat) (Γ : Ctx) (p : Pos) (hs : List Nat) (l : List (Nat × Obj)) (N t : Nat) (nv : Nv) : Out :=
  sxF C fuel Γ p .base (C.den Γ.code) hs (treeOf 0 (l.map (·.2)) .nil) l.length (adsOf 0 (l.map (·.1)) N []) t 0 nv ⟨[], [], [], True⟩

/-! ### reading tokens off a run -/
noncomputable def posOf : Out → Pos
  | .fin (.again _ p) _ _ _ _ _ => p
  | _ => default
noncomputable def entAt (X : Out) (i j : Nat) : DictEntry := match X with
  | .fin _ T _ _ _ _ => match T.get i with
    | some o => match o.data with
      | .dict es _ => es.toList.getD j ⟨0, .none, .none⟩
      | _ => ⟨0, .none, .none⟩
    | none => ⟨0, .none, .none⟩
  | _ => ⟨0, .none, .none⟩
noncomputable def vtok : Value → Nat
  | .str _ t => t
  | .int _ t => t
  | .bytes _ t => t
  | _ => 0
/-- the token of the value (of the key) at the entry j of the object i -/
noncomputable def vt (X : Out) (i j : Nat) : Nat := vtok (entAt X i j).val
noncomputable def ktk (X : Out) (i j : Nat) : Nat := vtok (entAt X i j).key
noncomputable def objAt (X : Out) (i : Nat) : Option Obj := match X with
  | .fin _ T _ _ _ _ => T.get i
  | _ => none
noncomputable def obAt (X : Out) (i : Nat) : Obj := match objAt X i with
  | some o => o
  | none => ⟨.none, none, .plain, ⟨[]⟩⟩
noncomputable def adAt (X : Out) (i : Nat) : Nat := match X with
  | .fin _ _ _ ads _ _ => adOf ads i
  | _ => 0
noncomputable def slOf (X : Out) (i : Nat) : Array (Option Value) := match objAt X i with
  | some o => o.slots
  | none => ⟨[]⟩
/-- the field k of the record i -/
noncomputable def fdOf (X : Out) (i k : Nat) : Value := match objAt X i with
  | some o => match recOf o.data with
    | some vs => match nthV vs k with
      | some v => v
      | none => .none
    | none => .none
  | none => .none
noncomputable def tlV : Nat → List Value → List Value
  | 0, l => l
  | n + 1, _ :: l => tlV n l
  | _ + 1, [] => []
noncomputable def tlOf (X : Out) (i : Nat) : Array Value := match objAt X i with
  | some o => match recOf o.data with
    | some vs => ⟨tlV 5 vs⟩
    | none => ⟨[]⟩
  | none => ⟨[]⟩
/-- an exception of a built-in class that stands with the traceback tb -/
noncomputable def excO (cls : String) (args : Nat) (tb : Nat) (sl : Array (Option Value)) : Obj := ⟨.type cls, none, .fields ⟨[.ref args, .ref tb, .none, .none, .bool false, .none]⟩, sl⟩
/-- the token of the answer -/
noncomputable def rtok : Out → Nat
  | .fin (.done (.ok (.ret v))) _ _ _ _ _ => vtok v
  | _ => 0
noncomputable def setK (k : Nat → Nat) (i v : Nat) : Nat → Nat := fun j => match Nat.beq j i with | true => v | false => k j

/-! ### shlex's objects -/
noncomputable def dRT : Stmt := nthS 6 (clsB (nthS 21 F.main.body))
noncomputable def dGT : Stmt := nthS 5 (clsB (nthS 21 F.main.body))
noncomputable def dNX : Stmt := nthS 10 (clsB (nthS 21 F.main.body))
noncomputable def dSP : Stmt := nthS 22 F.main.body
noncomputable def dLW : Stmt := nthS 30 F.main.body
noncomputable def envRT (L : Nat) : Env := envOfD dRT [115, 104, 108, 101, 120, 46, 114, 101, 97, 100, 95, 116, 111, 107, 101, 110] 697 696 L
noncomputable def envGT (L : Nat) : Env := envOfD dGT [115, 104, 108, 101, 120, 46, 103, 101, 116, 95, 116, 111, 107, 101, 110] 690 689 L
noncomputable def envNX (L : Nat) : Env := envOfD dNX [115, 104, 108, 101, 120, 46, 95, 95, 110, 101, 120, 116, 95, 95] 726 725 L
noncomputable def envSP (L : Nat) : Env := envOfD dSP [115, 112, 108, 105, 116] 741 740 L
noncomputable def envLW (L : Nat) : Env := envOfD dLW [108, 97, 119] 784 783 L
noncomputable def sWh : Stmt := nthS 2 (fnB dRT)
noncomputable def wCode (L : Nat) : Code := .whileLoop (whT sWh) (whB sWh) (whO sWh) (envRT L)
noncomputable def wordL : List Nat := [97, 98, 99, 100, 102, 101, 103, 104, 105, 106, 107, 108, 109, 110, 111, 112, 113, 114, 115, 116, 117, 118, 119, 120, 121, 122, 65, 66, 67, 68, 69, 70, 71, 72, 73, 74, 75, 76, 77, 78, 79, 80, 81, 82, 83, 84, 85, 86, 87, 88, 89, 90, 48, 49, 50, 51, 52, 53, 54, 55, 56, 57, 95, 223, 224, 225, 226, 227, 228, 229, 230, 231, 232, 233, 234, 235, 236, 237, 238, 239, 240, 241, 242, 243, 244, 245, 246, 248, 249, 250, 251, 252, 253, 254, 255, 192, 193, 194, 195, 196, 197, 198, 199, 200, 201, 202, 203, 204, 205, 206, 207, 208, 209, 210, 211, 212, 213, 214, 216, 217, 218, 219, 220, 221, 222]
/-- lex's dict: k the keys' tokens, v the still values' tokens -/
noncomputable def lexD (P : Params) (k v : Nat → Nat) (sio dq1 dq2 : Nat) (st ln tok : Value) : Obj := dictO [
  ent P [105, 110, 115, 116, 114, 101, 97, 109] (k 0) (.ref sio),
  ent P [105, 110, 102, 105, 108, 101] (k 1) .none,
  ent P [112, 111, 115, 105, 120] (k 2) (.bool true),
  ent P [101, 111, 102] (k 3) .none,
  ent P [99, 111, 109, 109, 101, 110, 116, 101, 114, 115] (k 4) (.str ⟨⟨[]⟩⟩ (v 0)),
  ent P [119, 111, 114, 100, 99, 104, 97, 114, 115] (k 5) (.str ⟨⟨wordL⟩⟩ (v 1)),
  ent P [119, 104, 105, 116, 101, 115, 112, 97, 99, 101] (k 6) (.str ⟨⟨[32, 9, 13, 10]⟩⟩ (v 2)),
  ent P [119, 104, 105, 116, 101, 115, 112, 97, 99, 101, 95, 115, 112, 108, 105, 116] (k 7) (.bool true),
  ent P [113, 117, 111, 116, 101, 115] (k 8) (.str ⟨⟨[39, 34]⟩⟩ (v 3)),
  ent P [101, 115, 99, 97, 112, 101] (k 9) (.str ⟨⟨[92]⟩⟩ (v 4)),
  ent P [101, 115, 99, 97, 112, 101, 100, 113, 117, 111, 116, 101, 115] (k 10) (.str ⟨⟨[34]⟩⟩ (v 5)),
  ent P [115, 116, 97, 116, 101] (k 11) st,
  ent P [112, 117, 115, 104, 98, 97, 99, 107] (k 12) (.ref dq1),
  ent P [108, 105, 110, 101, 110, 111] (k 13) ln,
  ent P [100, 101, 98, 117, 103] (k 14) (.int 0 (v 6)),
  ent P [116, 111, 107, 101, 110] (k 15) tok,
  ent P [102, 105, 108, 101, 115, 116, 97, 99, 107] (k 16) (.ref dq2),
  ent P [115, 111, 117, 114, 99, 101] (k 17) .none,
  ent P [95, 112, 117, 110, 99, 116, 117, 97, 116, 105, 111, 110, 95, 99, 104, 97, 114, 115] (k 18) (.str ⟨⟨[]⟩⟩ (v 7))] 19
noncomputable def sioD (P : Params) (k : Nat → Nat) (nl : Nat) (buf : Value) (pos : Value) : Obj := dictO [
  ent P [95, 83, 116, 114, 105, 110, 103, 73, 79, 95, 95, 110, 101, 119, 108, 105, 110, 101] (k 0) (.str ⟨⟨[10]⟩⟩ nl),
  ent P [95, 83, 116, 114, 105, 110, 103, 73, 79, 95, 95, 98, 117, 102] (k 1) buf,
  ent P [95, 83, 116, 114, 105, 110, 103, 73, 79, 95, 95, 112, 111, 115] (k 2) pos] 3
noncomputable def deqO : Obj := ⟨.type SL.s5314052453082223887x17, none, .fields ⟨[.none, .int 0 0]⟩, ⟨[]⟩⟩
/-- read_token's frame: ahead of its first sign, and behind it -/
noncomputable def frRT0 (P : Params) (k : Nat → Nat) (lex : Nat) (q : Bool) (et : Nat) (sl : Array (Option Value)) : Obj := frameO [
  ent P [115, 101, 108, 102] (k 0) (.ref lex), ent P [113, 117, 111, 116, 101, 100] (k 1) (.bool q), ent P [101, 115, 99, 97, 112, 101, 100, 115, 116, 97, 116, 101] (k 2) (.str ⟨⟨[32]⟩⟩ et)] 3 sl
noncomputable def frRT1 (P : Params) (k : Nat → Nat) (lex : Nat) (q : Bool) (et : Nat) (nc : Value) (sl : Array (Option Value)) : Obj := frameO [
  ent P [115, 101, 108, 102] (k 0) (.ref lex), ent P [113, 117, 111, 116, 101, 100] (k 1) (.bool q), ent P [101, 115, 99, 97, 112, 101, 100, 115, 116, 97, 116, 101] (k 2) (.str ⟨⟨[32]⟩⟩ et),
  ent P [110, 101, 120, 116, 99, 104, 97, 114] (k 3) nc] 4 sl

/-! ### the stack below read_token's loop -/
noncomputable def loopC (l lex : Nat) : Code := .builtin "list.extend.loop" ⟨[.ref l, .ref lex, .none], []⟩
noncomputable def belL (lex Ls : Nat) (q : Nat → Pos) (out : List (Code × Pos)) : List (Code × Pos) :=
  (.builtin "type.__call__" ⟨[.type "list", .ref lex], []⟩, q 2) :: (.func (fnB dSP) (envSP Ls), q 3) :: out
noncomputable def belN (l lex Ls : Nat) (q : Nat → Pos) (out : List (Code × Pos)) : List (Code × Pos) := (loopC l lex, q 4) :: belL lex Ls q out
noncomputable def belG (l lex Ls Ln : Nat) (q : Nat → Pos) (out : List (Code × Pos)) : List (Code × Pos) := (.func (fnB dNX) (envNX Ln), q 5) :: belN l lex Ls q out
noncomputable def belR (l lex Ls Ln Lg : Nat) (q : Nat → Pos) (out : List (Code × Pos)) : List (Code × Pos) := (.func (fnB dGT) (envGT Lg), q 6) :: belG l lex Ls Ln q out
noncomputable def belW (l lex Ls Ln Lg L : Nat) (q : Nat → Pos) (out : List (Code × Pos)) : List (Code × Pos) := (.func (fnB dRT) (envRT L), q 7) :: belR l lex Ls Ln Lg q out
noncomputable def ctxOf (c : Code) (bel : List (Code × Pos)) : Ctx := ⟨c, none, none, bel, none⟩
/-- what lies around split -/
structure Ar where
  l : Nat
  lex : Nat
  Ls : Nat
  Ln : Nat
  Lg : Nat
  L : Nat
  q : Nat → Pos
noncomputable def dLSp : Stmt := nthS 25 F.main.body
noncomputable def envSpl (L : Nat) : Env := envOfD dLSp [95, 108, 97, 119, 95, 115, 112, 108, 105, 116] 753 752 L
noncomputable def asgE : Stmt → Expr
  | .Assign _ v _ => v
  | _ => .Constant .none 0 default
noncomputable def lcSc : Expr → Scope
  | .ListComp _ _ s _ => s
  | _ => default
noncomputable def eTold : Expr := asgE (nthS 8 (fnB dLW))
noncomputable def envLwc (L0 ct cw : Nat) : Env := { envLW L0 with cells := [((⟨⟨[116, 101, 120, 116]⟩⟩ : Str), ct), (⟨⟨[119, 105, 100, 116, 104]⟩⟩, cw)] }
/-- _law_split, law's comprehension and law itself -/
structure OutA where
  L1 : Nat
  it : Nat
  acc : Nat
  Lc : Nat
  L0 : Nat
  ct : Nat
  cw : Nat
  q : Nat → Pos
noncomputable def envTold (o : OutA) : Env :=
  { scope := lcSc eTold, locals := o.Lc, globals := 3, cells := [], qual := (⟨⟨[108, 97, 119]⟩⟩ : Str) ++ (⟨⟨[46, 60, 108, 111, 99, 97, 108, 115, 62, 46]⟩⟩ : Str), func := none, code := .ref 783, frame := some o.L0, builtins := 0 }
noncomputable def outOf (o : OutA) : List (Code × Pos) :=
  [(.func (fnB dLSp) (envSpl o.L1), o.q 0), (.compLoop eTold 0 (.ref o.it) (.ref o.acc) (envTold o), o.q 1), (.func (fnB dLW) (envLwc o.L0 o.ct o.cw), o.q 2), (.builtin "claim.caller" {}, default)]
noncomputable def Ar.W (a : Ar) (o : OutA) : List (Code × Pos) := belW a.l a.lex a.Ls a.Ln a.Lg a.L a.q (outOf o)
/-- any frame -/
structure FrO where
  es : List DictEntry
  n : Nat
  sl : Array (Option Value)
noncomputable def frX (g : FrO) : Obj := frameO g.es g.n g.sl
noncomputable def outF (o : OutA) (g : Nat → FrO) : List (Nat × Obj) := [(o.L1, frX (g 3)), (o.L0, frX (g 4))]
noncomputable def outA (o : OutA) : List Nat := [o.L1, o.L0]
/-- the frames below read_token's -/
noncomputable def frs (a : Ar) (o : OutA) (g : Nat → FrO) : List (Nat × Obj) := (a.Lg, frX (g 0)) :: (a.Ln, frX (g 1)) :: (a.Ls, frX (g 2)) :: outF o g
/-- shlex's still parts -/
structure Lx where
  d : Nat
  sio : Nat
  e : Nat
  dq1 : Nat
  dq2 : Nat
  k : Nat → Nat
  v : Nat → Nat
  sk : Nat → Nat
  nl : Nat
  buf : List Nat
  τb : Nat
noncomputable def stV (st τ : Nat) : Value := match Nat.beq st 0 with
  | true => .none
  | false => .str ⟨⟨[st]⟩⟩ τ
noncomputable def lxL (P : Params) (lex : Nat) (x : Lx) (st : Value) (ln τl : Nat) (tok : Str) (τt pos τp : Nat) : List (Nat × Obj) :=
  [(lex, inst 729 x.d), (x.d, lexD P x.k x.v x.sio x.dq1 x.dq2 st (.int (.ofNat ln) τl) (.str tok τt)), (x.sio, inst 594 x.e), (x.e, sioD P x.sk x.nl (.str ⟨⟨x.buf⟩⟩ x.τb) (.int (.ofNat pos) τp))]
noncomputable def frW (P : Params) (lex : Nat) (fk : Nat → Nat) (et : Nat) (sl : Array (Option Value)) (q : Bool) : Option (List Nat × Nat) → Obj
  | none => frRT0 P fk lex q et sl
  | some x => frRT1 P fk lex q et (.str ⟨⟨x.1⟩⟩ x.2) sl
noncomputable def os_ (l : List (Nat × Obj)) : List (Option Obj) := l.map fun y => some y.2
noncomputable def as_ (l : List (Nat × Obj)) : List Nat := l.map (·.1)
/-! S201 -/
noncomputable def posAt : List (Code × Pos) → Pos
  | (_, p) :: _ => p
  | [] => default
/-- what the loop's contracts are: 0 read(1), 1 + j the built-ins' -/
noncomputable def conW (P : Params) (a : Ar) (o : OutA) (x : Lx) (pos τp : Nat) (c : List Nat) (pos' : Nat) : CF
  | 0, _, Γ, .call _ ⟨[_, .int _ τ], _⟩, T, ads => some (conS T ads (ctxOf (.call (.ref 540) ⟨[.ref x.sio, .int 1 τ], []⟩) ((wCode a.L, posAt Γ.below) :: a.W o))
      [(2, x.sio, inst 594 x.e), (3, x.e, sioD P x.sk x.nl (.str ⟨⟨x.buf⟩⟩ x.τb) (.int (.ofNat pos) τp))] True
      (fun ν => .ok (.ret (.str ⟨⟨c⟩⟩ (ν.n 0)))) (fun ν => [(3, sioD P x.sk x.nl (.str ⟨⟨x.buf⟩⟩ x.τb) (.int (.ofNat pos') (ν.n 1)))]) fun _ => [])
  | j + 1, x, Γ, c, T, ads => conB j x Γ c T ads
  | _, _, _, _, _, _ => none
noncomputable def runW (W : World) (a : Ar) (o : OutA) (x : Lx) (pos τp : Nat) (c : List Nat) (pos' : Nat) (fuel : Nat) (hs : List Nat) (l : List (Nat × Obj)) (N t : Nat) (p : Pos) (nv : Nv) : Out :=
  runL (cfgW W (conW W.params a o x pos τp c pos')) fuel (ctxOf (wCode a.L) (a.W o)) p (envRT a.L) false hs l N t nv
theorem t0bc (w : World) (b b2 : Bool) (a : Ar) (o : OutA) (x : Lx) (g : Nat → FrO) (fk : Nat → Nat) (et : Nat) (sl : Array (Option Value)) (τs ln τl τt pos τp pos' : Nat) (nc : List Nat × Nat) (a0 : Nat) (tok : List Nat) (qd : Bool) (c : Nat) (N t : Nat) (p : Pos) (nv : Nv) :
    let W := wld w b b2
    let X := runW W a o x pos τp [c] pos' 424 [5, 1, 0, 0, 0, 0, 1, 0, 0, 0, 0, 0, 0, 0, 0, 0, 0, 0, 0, 0, 0, 0, 11, 11, 0, 1001, 11, 1, 0, 0, 0, 0, 1, 0, 0, 0, 1, 1, 0, 2, 0, 0, 0, 5, 1, 0, 0, 0, 0, 1, 0, 0, 0, 1, 1, 0, 2, 3, 0, 0, 0, 0, 0, 0, 0, 3, 0, 0, 0, 0, 0, 0, 0, 3, 0, 0, 0, 0, 3, 4, 0, 1, 0, 5, 5, 5, 2, 0, 5, 1, 0, 0, 0, 0, 1, 0, 0, 0, 1, 1, 0, 2, 0, 0, 5, 1, 0, 0, 0, 0, 1, 0, 0, 0, 1, 1, 0, 2, 5, 1, 0, 0, 0, 0, 1, 0, 0, 0, 1, 1, 0, 2, 0, 0, 5, 6, 0, 5, 5, 1, 0, 0, 0, 0, 1, 0, 0, 0, 1, 1, 0, 2, 3, 0, 5, 5, 1, 0, 0, 0, 0, 1, 0, 0, 0, 1, 1, 0, 2, 3, 0, 5, 1, 0, 0, 0, 0, 1, 0, 0, 0, 1, 1, 0, 2, 5, 5, 1, 0, 0, 0, 0, 1, 0, 0, 0, 1, 1, 0, 2, 3, 0, 5, 5, 1, 0, 0, 0, 0, 1, 0, 0, 0, 1, 1, 0, 2, 3, 1, 5, 5, 1, 0, 0, 0, 0, 1, 0, 0, 1, 0, 1, 0, 0, 0, 1, 0, 2, 2, 2, 5, 1, 0, 0, 0, 0, 1, 0, 0, 1, 0, 1, 0, 0, 0, 1, 0, 2, 2, 2, 1]
      (lxL W.params a.lex x (stV 32 τs) ln τl ⟨⟨[]⟩⟩ τt pos τp ++ (a.L, frW W.params a.lex fk et sl false none) :: frs a o g) N t p nv
    let l' := lxL W.params a.lex x (stV 97 (vt X 1 11)) ln (vt X 1 13) ⟨⟨[c]⟩⟩ (vt X 1 15) pos' (vt X 3 2) ++ (a.L, frW W.params a.lex (setK fk 3 (ktk X 4 3)) et sl false (some ([c], vt X 4 3))) :: frs a o g
    look [0, 1, 2, 3, 4, 5, 6, 7, 8, 9] X = some (.again (ctxOf (wCode a.L) (a.W o)) (posOf X), os_ l', as_ l', dup (eqsOf X), dupG (gsOf X), dupO (osOf X), (InB wordL c 1 ∧ InB [92] c 0 ∧ InB [] c 0 ∧ InB [32, 9, 13, 10] c 0 ∧ LnB ⟨⟨[c]⟩⟩ ∧ EqB [c] [10] 0 ∧ True ∧ True)) := by
  cases b <;> (intro W X l'; kernel_rfl)
theorem t1awn (w : World) (b b2 : Bool) (a : Ar) (o : OutA) (x : Lx) (g : Nat → FrO) (fk : Nat → Nat) (et : Nat) (sl : Array (Option Value)) (τs ln τl τt pos τp pos' : Nat) (nc : List Nat × Nat) (a0 : Nat) (tok : List Nat) (qd : Bool) (c : Nat) (N t : Nat) (p : Pos) (nv : Nv) :
    let W := wld w b b2
    let X := runW W a o x pos τp [c] pos' 466 [5, 1, 0, 0, 0, 0, 1, 0, 0, 0, 0, 0, 0, 0, 0, 0, 0, 0, 0, 0, 0, 0, 11, 11, 0, 1001, 11, 1, 0, 0, 0, 0, 1, 0, 0, 0, 1, 1, 0, 2, 0, 0, 0, 5, 1, 0, 0, 0, 0, 1, 0, 0, 0, 1, 1, 0, 2, 3, 0, 0, 0, 0, 0, 0, 0, 3, 0, 0, 0, 0, 0, 0, 0, 3, 0, 0, 0, 0, 3, 4, 0, 1, 0, 5, 5, 5, 2, 0, 5, 1, 0, 0, 0, 0, 1, 0, 0, 0, 1, 1, 0, 2, 0, 0, 5, 1, 0, 0, 0, 0, 1, 0, 0, 0, 1, 1, 0, 2, 5, 1, 0, 0, 0, 0, 1, 0, 0, 0, 1, 1, 0, 2, 0, 0, 5, 1, 0, 0, 0, 0, 1, 0, 0, 0, 1, 1, 0, 2, 5, 1, 0, 0, 0, 0, 1, 0, 0, 0, 1, 1, 0, 2, 0, 0, 5, 1, 0, 0, 0, 0, 1, 0, 0, 0, 1, 1, 0, 2, 5, 1, 0, 0, 0, 0, 1, 0, 0, 0, 1, 1, 0, 2, 0, 0, 5, 1, 0, 0, 0, 0, 1, 0, 0, 0, 1, 1, 0, 2, 12, 12, 5, 11, 5, 6, 0, 5, 5, 1, 0, 0, 0, 0, 1, 0, 0, 0, 1, 1, 0, 2, 3, 1, 5, 1, 0, 0, 0, 0, 1, 0, 0, 0, 1, 1, 0, 2, 0, 0, 5, 1, 0, 0, 0, 0, 1, 0, 0, 1, 0, 1, 0, 0, 0, 1, 0, 2, 2, 2, 5, 1, 0, 0, 0, 0, 1, 0, 0, 0, 1, 1, 0, 2, 6, 0]
      (lxL W.params a.lex x (stV 97 τs) ln τl ⟨⟨(a0 :: tok)⟩⟩ τt pos τp ++ (a.L, frW W.params a.lex fk et sl qd (some nc)) :: frs a o g) N t p nv
    let l' := lxL W.params a.lex x (stV 32 (vt X 1 11)) ln (vt X 1 13) ⟨⟨(a0 :: tok)⟩⟩ (vt X 1 15) pos' (vt X 3 2) ++ (a.L, frW W.params a.lex (setK fk 3 (ktk X 4 3)) et sl qd (some ([c], vt X 4 3))) :: frs a o g
    look [0, 1, 2, 3, 4, 5, 6, 7, 8, 9] X = some (.done (.ok .next), os_ l', as_ l', dup (eqsOf X), dupG (gsOf X), dupO (osOf X), (LnB ⟨⟨a0 :: tok⟩⟩ ∧ InB [32, 9, 13, 10] c 1 ∧ LnB ⟨⟨[c]⟩⟩ ∧ TupB "tuple" ⟨⟨[97]⟩⟩ ⟨⟨[97]⟩⟩ ∧ EqB [c] [10] 0 ∧ True ∧ True)) := by
  cases b <;> (intro W X l'; kernel_rfl)
theorem t0bw (w : World) (b b2 : Bool) (a : Ar) (o : OutA) (x : Lx) (g : Nat → FrO) (fk : Nat → Nat) (et : Nat) (sl : Array (Option Value)) (τs ln τl τt pos τp pos' : Nat) (nc : List Nat × Nat) (a0 : Nat) (tok : List Nat) (qd : Bool) (c : Nat) (N t : Nat) (p : Pos) (nv : Nv) :
    let W := wld w b b2
    let X := runW W a o x pos τp [c] pos' 354 [5, 1, 0, 0, 0, 0, 1, 0, 0, 0, 0, 0, 0, 0, 0, 0, 0, 0, 0, 0, 0, 0, 11, 11, 0, 1001, 11, 1, 0, 0, 0, 0, 1, 0, 0, 0, 1, 1, 0, 2, 0, 0, 0, 5, 1, 0, 0, 0, 0, 1, 0, 0, 0, 1, 1, 0, 2, 3, 0, 0, 0, 0, 0, 0, 0, 3, 0, 0, 0, 0, 0, 0, 0, 3, 0, 0, 0, 0, 3, 4, 0, 1, 0, 5, 5, 5, 2, 0, 5, 1, 0, 0, 0, 0, 1, 0, 0, 0, 1, 1, 0, 2, 0, 0, 5, 1, 0, 0, 0, 0, 1, 0, 0, 0, 1, 1, 0, 2, 5, 1, 0, 0, 0, 0, 1, 0, 0, 0, 1, 1, 0, 2, 0, 0, 5, 6, 0, 5, 5, 1, 0, 0, 0, 0, 1, 0, 0, 0, 1, 1, 0, 2, 3, 1, 5, 1, 0, 0, 0, 0, 1, 0, 0, 0, 1, 1, 0, 2, 0, 0, 5, 1, 0, 0, 0, 0, 1, 0, 0, 0, 1, 1, 0, 2, 0, 0, 0, 5, 1, 0, 0, 0, 0, 1, 0, 0, 0, 1, 1, 0, 2, 5, 1]
      (lxL W.params a.lex x (stV 32 τs) ln τl ⟨⟨[]⟩⟩ τt pos τp ++ (a.L, frW W.params a.lex fk et sl false none) :: frs a o g) N t p nv
    let l' := lxL W.params a.lex x (stV 32 (vt X 1 11)) ln (vt X 1 13) ⟨⟨[]⟩⟩ (vt X 1 15) pos' (vt X 3 2) ++ (a.L, frW W.params a.lex (setK fk 3 (ktk X 4 3)) et sl false (some ([c], vt X 4 3))) :: frs a o g
    look [0, 1, 2, 3, 4, 5, 6, 7, 8, 9] X = some (.again (ctxOf (wCode a.L) (a.W o)) (posOf X), os_ l', as_ l', dup (eqsOf X), dupG (gsOf X), dupO (osOf X), (InB [32, 9, 13, 10] c 1 ∧ LnB ⟨⟨[c]⟩⟩ ∧ EqB [c] [10] 0 ∧ True ∧ True)) := by
  cases b <;> (intro W X l'; kernel_rfl)
theorem t1bo (w : World) (b b2 : Bool) (a : Ar) (o : OutA) (x : Lx) (g : Nat → FrO) (fk : Nat → Nat) (et : Nat) (sl : Array (Option Value)) (τs ln τl τt pos τp pos' : Nat) (nc : List Nat × Nat) (a0 : Nat) (tok : List Nat) (qd : Bool) (c : Nat) (N t : Nat) (p : Pos) (nv : Nv) :
    let W := wld w b b2
    let X := runW W a o x pos τp [c] pos' 531 [5, 1, 0, 0, 0, 0, 1, 0, 0, 0, 0, 0, 0, 0, 0, 0, 0, 0, 0, 0, 0, 0, 11, 11, 0, 1001, 11, 1, 0, 0, 0, 0, 1, 0, 0, 0, 1, 1, 0, 2, 0, 0, 0, 5, 1, 0, 0, 0, 0, 1, 0, 0, 0, 1, 1, 0, 2, 3, 0, 0, 0, 0, 0, 0, 0, 3, 0, 0, 0, 0, 0, 0, 0, 3, 0, 0, 0, 0, 3, 4, 0, 1, 0, 5, 5, 5, 2, 0, 5, 1, 0, 0, 0, 0, 1, 0, 0, 0, 1, 1, 0, 2, 0, 0, 5, 1, 0, 0, 0, 0, 1, 0, 0, 0, 1, 1, 0, 2, 5, 1, 0, 0, 0, 0, 1, 0, 0, 0, 1, 1, 0, 2, 0, 0, 5, 6, 0, 5, 5, 1, 0, 0, 0, 0, 1, 0, 0, 0, 1, 1, 0, 2, 3, 0, 5, 5, 1, 0, 0, 0, 0, 1, 0, 0, 0, 1, 1, 0, 2, 3, 0, 5, 1, 0, 0, 0, 0, 1, 0, 0, 0, 1, 1, 0, 2, 5, 5, 1, 0, 0, 0, 0, 1, 0, 0, 0, 1, 1, 0, 2, 3, 0, 5, 5, 1, 0, 0, 0, 0, 1, 0, 0, 0, 1, 1, 0, 2, 3, 0, 5, 5, 1, 0, 0, 0, 0, 1, 0, 0, 0, 0, 0, 0, 0, 0, 0, 0, 0, 0, 0, 0, 0, 12, 12, 0, 1001, 12, 1, 0, 0, 0, 0, 1, 0, 0, 0, 1, 1, 0, 2, 3, 0, 5, 5, 1, 0, 0, 0, 0, 1, 0, 0, 0, 1, 1, 0, 2, 3, 0, 5, 1, 0, 0, 0, 0, 1, 0, 0, 0, 1, 1, 0, 2, 5, 5, 1, 0, 0, 0, 0, 1, 0, 0, 1, 0, 1, 0, 0, 0, 1, 0, 2, 2, 2, 5, 1, 0, 0, 0, 0, 1, 0, 0, 1, 0, 1, 0, 0, 0, 1, 0, 2, 2, 2, 1]
      (lxL W.params a.lex x (stV 32 τs) ln τl ⟨⟨[]⟩⟩ τt pos τp ++ (a.L, frW W.params a.lex fk et sl false (some nc)) :: frs a o g) N t p nv
    let l' := lxL W.params a.lex x (stV 97 (vt X 1 11)) ln (vt X 1 13) ⟨⟨[c]⟩⟩ (vt X 1 15) pos' (vt X 3 2) ++ (a.L, frW W.params a.lex (setK fk 3 (ktk X 4 3)) et sl false (some ([c], vt X 4 3))) :: frs a o g
    look [0, 1, 2, 3, 4, 5, 6, 7, 8, 9] X = some (.again (ctxOf (wCode a.L) (a.W o)) (posOf X), os_ l', as_ l', dup (eqsOf X), dupG (gsOf X), dupO (osOf X), (InB [39, 34] c 0 ∧ InB [] c 0 ∧ InB wordL c 0 ∧ InB [92] c 0 ∧ InB [] c 0 ∧ InB [32, 9, 13, 10] c 0 ∧ LnB ⟨⟨[c]⟩⟩ ∧ EqB [c] [10] 0 ∧ True ∧ True)) := by
  cases b <;> (intro W X l'; kernel_rfl)
theorem t1ac (w : World) (b b2 : Bool) (a : Ar) (o : OutA) (x : Lx) (g : Nat → FrO) (fk : Nat → Nat) (et : Nat) (sl : Array (Option Value)) (τs ln τl τt pos τp pos' : Nat) (nc : List Nat × Nat) (a0 : Nat) (tok : List Nat) (qd : Bool) (c : Nat) (N t : Nat) (p : Pos) (nv : Nv) :
    let W := wld w b b2
    let X := runW W a o x pos τp [c] pos' 600 [5, 1, 0, 0, 0, 0, 1, 0, 0, 0, 0, 0, 0, 0, 0, 0, 0, 0, 0, 0, 0, 0, 11, 11, 0, 1001, 11, 1, 0, 0, 0, 0, 1, 0, 0, 0, 1, 1, 0, 2, 0, 0, 0, 5, 1, 0, 0, 0, 0, 1, 0, 0, 0, 1, 1, 0, 2, 3, 0, 0, 0, 0, 0, 0, 0, 3, 0, 0, 0, 0, 0, 0, 0, 3, 0, 0, 0, 0, 3, 4, 0, 1, 0, 5, 5, 5, 2, 0, 5, 1, 0, 0, 0, 0, 1, 0, 0, 0, 1, 1, 0, 2, 0, 0, 5, 1, 0, 0, 0, 0, 1, 0, 0, 0, 1, 1, 0, 2, 5, 1, 0, 0, 0, 0, 1, 0, 0, 0, 1, 1, 0, 2, 0, 0, 5, 1, 0, 0, 0, 0, 1, 0, 0, 0, 1, 1, 0, 2, 5, 1, 0, 0, 0, 0, 1, 0, 0, 0, 1, 1, 0, 2, 0, 0, 5, 1, 0, 0, 0, 0, 1, 0, 0, 0, 1, 1, 0, 2, 5, 1, 0, 0, 0, 0, 1, 0, 0, 0, 1, 1, 0, 2, 0, 0, 5, 1, 0, 0, 0, 0, 1, 0, 0, 0, 1, 1, 0, 2, 12, 12, 5, 11, 5, 6, 0, 5, 5, 1, 0, 0, 0, 0, 1, 0, 0, 0, 1, 1, 0, 2, 3, 0, 5, 5, 1, 0, 0, 0, 0, 1, 0, 0, 0, 1, 1, 0, 2, 3, 0, 5, 1, 0, 0, 0, 0, 1, 0, 0, 0, 1, 1, 0, 2, 0, 0, 5, 1, 0, 0, 0, 0, 1, 0, 0, 0, 1, 1, 0, 2, 5, 5, 1, 0, 0, 0, 0, 1, 0, 0, 0, 1, 1, 0, 2, 3, 0, 5, 1, 0, 0, 0, 0, 1, 0, 0, 0, 1, 1, 0, 2, 5, 5, 1, 0, 0, 0, 0, 1, 0, 0, 0, 1, 1, 0, 2, 3, 0, 5, 5, 1, 0, 0, 0, 0, 1, 0, 0, 0, 1, 1, 0, 2, 3, 1, 5, 1, 0, 0, 0, 0, 1, 0, 0, 0, 1, 1, 0, 2, 5, 4, 0, 1, 0, 0, 0, 0, 1, 0, 0, 1, 0, 1, 0, 0, 0, 1, 0, 2, 2, 2, 1]
      (lxL W.params a.lex x (stV 97 τs) ln τl ⟨⟨tok⟩⟩ τt pos τp ++ (a.L, frW W.params a.lex fk et sl qd (some nc)) :: frs a o g) N t p nv
    let l' := lxL W.params a.lex x (stV 97 (vt X 1 11)) ln (vt X 1 13) (⟨⟨tok⟩⟩ ++ ⟨⟨[c]⟩⟩) (vt X 1 15) pos' (vt X 3 2) ++ (a.L, frW W.params a.lex (setK fk 3 (ktk X 4 3)) et sl qd (some ([c], vt X 4 3))) :: frs a o g
    look [0, 1, 2, 3, 4, 5, 6, 7, 8, 9] X = some (.again (ctxOf (wCode a.L) (a.W o)) (posOf X), os_ l', as_ l', dup (eqsOf X), dupG (gsOf X), dupO (osOf X), (LeB ⟨⟨tok⟩⟩ ⟨⟨[c]⟩⟩ ∧ InB wordL c 1 ∧ InB [92] c 0 ∧ InB [39, 34] c 0 ∧ InB [] c 0 ∧ InB [32, 9, 13, 10] c 0 ∧ LnB ⟨⟨[c]⟩⟩ ∧ TupB "tuple" ⟨⟨[97]⟩⟩ ⟨⟨[97]⟩⟩ ∧ EqB [c] [10] 0 ∧ True ∧ True)) := by
  cases b <;> (intro W X l'; kernel_rfl)
theorem t1aln (w : World) (b b2 : Bool) (a : Ar) (o : OutA) (x : Lx) (g : Nat → FrO) (fk : Nat → Nat) (et : Nat) (sl : Array (Option Value)) (τs ln τl τt pos τp pos' : Nat) (nc : List Nat × Nat) (a0 : Nat) (tok : List Nat) (qd : Bool) (c : Nat) (N t : Nat) (p : Pos) (nv : Nv) :
    let W := wld w b b2
    let X := runW W a o x pos τp [c] pos' 516 [5, 1, 0, 0, 0, 0, 1, 0, 0, 0, 0, 0, 0, 0, 0, 0, 0, 0, 0, 0, 0, 0, 11, 11, 0, 1001, 11, 1, 0, 0, 0, 0, 1, 0, 0, 0, 1, 1, 0, 2, 0, 0, 0, 5, 1, 0, 0, 0, 0, 1, 0, 0, 0, 1, 1, 0, 2, 3, 0, 0, 0, 0, 0, 0, 0, 3, 0, 0, 0, 0, 0, 0, 0, 3, 0, 0, 0, 0, 3, 4, 0, 1, 0, 5, 5, 5, 2, 1, 5, 1, 0, 0, 0, 0, 1, 0, 0, 0, 1, 1, 0, 2, 0, 0, 1, 0, 0, 0, 0, 1, 0, 0, 1, 0, 1, 0, 0, 0, 1, 0, 2, 2, 2, 5, 1, 0, 0, 0, 0, 1, 0, 0, 0, 1, 1, 0, 2, 0, 0, 5, 1, 0, 0, 0, 0, 1, 0, 0, 0, 1, 1, 0, 2, 5, 1, 0, 0, 0, 0, 1, 0, 0, 0, 1, 1, 0, 2, 0, 0, 5, 1, 0, 0, 0, 0, 1, 0, 0, 0, 1, 1, 0, 2, 5, 1, 0, 0, 0, 0, 1, 0, 0, 0, 1, 1, 0, 2, 0, 0, 5, 1, 0, 0, 0, 0, 1, 0, 0, 0, 1, 1, 0, 2, 5, 1, 0, 0, 0, 0, 1, 0, 0, 0, 1, 1, 0, 2, 0, 0, 5, 1, 0, 0, 0, 0, 1, 0, 0, 0, 1, 1, 0, 2, 12, 12, 5, 11, 5, 6, 0, 5, 5, 1, 0, 0, 0, 0, 1, 0, 0, 0, 1, 1, 0, 2, 3, 1, 5, 1, 0, 0, 0, 0, 1, 0, 0, 0, 1, 1, 0, 2, 0, 0, 5, 1, 0, 0, 0, 0, 1, 0, 0, 1, 0, 1, 0, 0, 0, 1, 0, 2, 2, 2, 5, 1, 0, 0, 0, 0, 1, 0, 0, 0, 1, 1, 0, 2, 6, 0]
      (lxL W.params a.lex x (stV 97 τs) ln τl ⟨⟨(a0 :: tok)⟩⟩ τt pos τp ++ (a.L, frW W.params a.lex fk et sl qd (some nc)) :: frs a o g) N t p nv
    let l' := lxL W.params a.lex x (stV 32 (vt X 1 11)) (ln + 1) (vt X 1 13) ⟨⟨(a0 :: tok)⟩⟩ (vt X 1 15) pos' (vt X 3 2) ++ (a.L, frW W.params a.lex (setK fk 3 (ktk X 4 3)) et sl qd (some ([c], vt X 4 3))) :: frs a o g
    look [0, 1, 2, 3, 4, 5, 6, 7, 8, 9] X = some (.done (.ok .next), os_ l', as_ l', dup (eqsOf X), dupG (gsOf X), dupO (osOf X), (LnB ⟨⟨a0 :: tok⟩⟩ ∧ InB [32, 9, 13, 10] c 1 ∧ LnB ⟨⟨[c]⟩⟩ ∧ TupB "tuple" ⟨⟨[97]⟩⟩ ⟨⟨[97]⟩⟩ ∧ EqB [c] [10] 1 ∧ True ∧ True)) := by
  cases b <;> (intro W X l'; kernel_rfl)
theorem t0bl (w : World) (b b2 : Bool) (a : Ar) (o : OutA) (x : Lx) (g : Nat → FrO) (fk : Nat → Nat) (et : Nat) (sl : Array (Option Value)) (τs ln τl τt pos τp pos' : Nat) (nc : List Nat × Nat) (a0 : Nat) (tok : List Nat) (qd : Bool) (c : Nat) (N t : Nat) (p : Pos) (nv : Nv) :
    let W := wld w b b2
    let X := runW W a o x pos τp [c] pos' 404 [5, 1, 0, 0, 0, 0, 1, 0, 0, 0, 0, 0, 0, 0, 0, 0, 0, 0, 0, 0, 0, 0, 11, 11, 0, 1001, 11, 1, 0, 0, 0, 0, 1, 0, 0, 0, 1, 1, 0, 2, 0, 0, 0, 5, 1, 0, 0, 0, 0, 1, 0, 0, 0, 1, 1, 0, 2, 3, 0, 0, 0, 0, 0, 0, 0, 3, 0, 0, 0, 0, 0, 0, 0, 3, 0, 0, 0, 0, 3, 4, 0, 1, 0, 5, 5, 5, 2, 1, 5, 1, 0, 0, 0, 0, 1, 0, 0, 0, 1, 1, 0, 2, 0, 0, 1, 0, 0, 0, 0, 1, 0, 0, 1, 0, 1, 0, 0, 0, 1, 0, 2, 2, 2, 5, 1, 0, 0, 0, 0, 1, 0, 0, 0, 1, 1, 0, 2, 0, 0, 5, 1, 0, 0, 0, 0, 1, 0, 0, 0, 1, 1, 0, 2, 5, 1, 0, 0, 0, 0, 1, 0, 0, 0, 1, 1, 0, 2, 0, 0, 5, 6, 0, 5, 5, 1, 0, 0, 0, 0, 1, 0, 0, 0, 1, 1, 0, 2, 3, 1, 5, 1, 0, 0, 0, 0, 1, 0, 0, 0, 1, 1, 0, 2, 0, 0, 5, 1, 0, 0, 0, 0, 1, 0, 0, 0, 1, 1, 0, 2, 0, 0, 0, 5, 1, 0, 0, 0, 0, 1, 0, 0, 0, 1, 1, 0, 2, 5, 1]
      (lxL W.params a.lex x (stV 32 τs) ln τl ⟨⟨[]⟩⟩ τt pos τp ++ (a.L, frW W.params a.lex fk et sl false none) :: frs a o g) N t p nv
    let l' := lxL W.params a.lex x (stV 32 (vt X 1 11)) (ln + 1) (vt X 1 13) ⟨⟨[]⟩⟩ (vt X 1 15) pos' (vt X 3 2) ++ (a.L, frW W.params a.lex (setK fk 3 (ktk X 4 3)) et sl false (some ([c], vt X 4 3))) :: frs a o g
    look [0, 1, 2, 3, 4, 5, 6, 7, 8, 9] X = some (.again (ctxOf (wCode a.L) (a.W o)) (posOf X), os_ l', as_ l', dup (eqsOf X), dupG (gsOf X), dupO (osOf X), (InB [32, 9, 13, 10] c 1 ∧ LnB ⟨⟨[c]⟩⟩ ∧ EqB [c] [10] 1 ∧ True ∧ True)) := by
  cases b <;> (intro W X l'; kernel_rfl)
theorem t1bl (w : World) (b b2 : Bool) (a : Ar) (o : OutA) (x : Lx) (g : Nat → FrO) (fk : Nat → Nat) (et : Nat) (sl : Array (Option Value)) (τs ln τl τt pos τp pos' : Nat) (nc : List Nat × Nat) (a0 : Nat) (tok : List Nat) (qd : Bool) (c : Nat) (N t : Nat) (p : Pos) (nv : Nv) :
    let W := wld w b b2
    let X := runW W a o x pos τp [c] pos' 404 [5, 1, 0, 0, 0, 0, 1, 0, 0, 0, 0, 0, 0, 0, 0, 0, 0, 0, 0, 0, 0, 0, 11, 11, 0, 1001, 11, 1, 0, 0, 0, 0, 1, 0, 0, 0, 1, 1, 0, 2, 0, 0, 0, 5, 1, 0, 0, 0, 0, 1, 0, 0, 0, 1, 1, 0, 2, 3, 0, 0, 0, 0, 0, 0, 0, 3, 0, 0, 0, 0, 0, 0, 0, 3, 0, 0, 0, 0, 3, 4, 0, 1, 0, 5, 5, 5, 2, 1, 5, 1, 0, 0, 0, 0, 1, 0, 0, 0, 1, 1, 0, 2, 0, 0, 1, 0, 0, 0, 0, 1, 0, 0, 1, 0, 1, 0, 0, 0, 1, 0, 2, 2, 2, 5, 1, 0, 0, 0, 0, 1, 0, 0, 0, 1, 1, 0, 2, 0, 0, 5, 1, 0, 0, 0, 0, 1, 0, 0, 0, 1, 1, 0, 2, 5, 1, 0, 0, 0, 0, 1, 0, 0, 0, 1, 1, 0, 2, 0, 0, 5, 6, 0, 5, 5, 1, 0, 0, 0, 0, 1, 0, 0, 0, 1, 1, 0, 2, 3, 1, 5, 1, 0, 0, 0, 0, 1, 0, 0, 0, 1, 1, 0, 2, 0, 0, 5, 1, 0, 0, 0, 0, 1, 0, 0, 0, 1, 1, 0, 2, 0, 0, 0, 5, 1, 0, 0, 0, 0, 1, 0, 0, 0, 1, 1, 0, 2, 5, 1]
      (lxL W.params a.lex x (stV 32 τs) ln τl ⟨⟨[]⟩⟩ τt pos τp ++ (a.L, frW W.params a.lex fk et sl false (some nc)) :: frs a o g) N t p nv
    let l' := lxL W.params a.lex x (stV 32 (vt X 1 11)) (ln + 1) (vt X 1 13) ⟨⟨[]⟩⟩ (vt X 1 15) pos' (vt X 3 2) ++ (a.L, frW W.params a.lex (setK fk 3 (ktk X 4 3)) et sl false (some ([c], vt X 4 3))) :: frs a o g
    look [0, 1, 2, 3, 4, 5, 6, 7, 8, 9] X = some (.again (ctxOf (wCode a.L) (a.W o)) (posOf X), os_ l', as_ l', dup (eqsOf X), dupG (gsOf X), dupO (osOf X), (InB [32, 9, 13, 10] c 1 ∧ LnB ⟨⟨[c]⟩⟩ ∧ EqB [c] [10] 1 ∧ True ∧ True)) := by
  cases b <;> (intro W X l'; kernel_rfl)
theorem t1bc (w : World) (b b2 : Bool) (a : Ar) (o : OutA) (x : Lx) (g : Nat → FrO) (fk : Nat → Nat) (et : Nat) (sl : Array (Option Value)) (τs ln τl τt pos τp pos' : Nat) (nc : List Nat × Nat) (a0 : Nat) (tok : List Nat) (qd : Bool) (c : Nat) (N t : Nat) (p : Pos) (nv : Nv) :
    let W := wld w b b2
    let X := runW W a o x pos τp [c] pos' 424 [5, 1, 0, 0, 0, 0, 1, 0, 0, 0, 0, 0, 0, 0, 0, 0, 0, 0, 0, 0, 0, 0, 11, 11, 0, 1001, 11, 1, 0, 0, 0, 0, 1, 0, 0, 0, 1, 1, 0, 2, 0, 0, 0, 5, 1, 0, 0, 0, 0, 1, 0, 0, 0, 1, 1, 0, 2, 3, 0, 0, 0, 0, 0, 0, 0, 3, 0, 0, 0, 0, 0, 0, 0, 3, 0, 0, 0, 0, 3, 4, 0, 1, 0, 5, 5, 5, 2, 0, 5, 1, 0, 0, 0, 0, 1, 0, 0, 0, 1, 1, 0, 2, 0, 0, 5, 1, 0, 0, 0, 0, 1, 0, 0, 0, 1, 1, 0, 2, 5, 1, 0, 0, 0, 0, 1, 0, 0, 0, 1, 1, 0, 2, 0, 0, 5, 6, 0, 5, 5, 1, 0, 0, 0, 0, 1, 0, 0, 0, 1, 1, 0, 2, 3, 0, 5, 5, 1, 0, 0, 0, 0, 1, 0, 0, 0, 1, 1, 0, 2, 3, 0, 5, 1, 0, 0, 0, 0, 1, 0, 0, 0, 1, 1, 0, 2, 5, 5, 1, 0, 0, 0, 0, 1, 0, 0, 0, 1, 1, 0, 2, 3, 0, 5, 5, 1, 0, 0, 0, 0, 1, 0, 0, 0, 1, 1, 0, 2, 3, 1, 5, 5, 1, 0, 0, 0, 0, 1, 0, 0, 1, 0, 1, 0, 0, 0, 1, 0, 2, 2, 2, 5, 1, 0, 0, 0, 0, 1, 0, 0, 1, 0, 1, 0, 0, 0, 1, 0, 2, 2, 2, 1]
      (lxL W.params a.lex x (stV 32 τs) ln τl ⟨⟨[]⟩⟩ τt pos τp ++ (a.L, frW W.params a.lex fk et sl false (some nc)) :: frs a o g) N t p nv
    let l' := lxL W.params a.lex x (stV 97 (vt X 1 11)) ln (vt X 1 13) ⟨⟨[c]⟩⟩ (vt X 1 15) pos' (vt X 3 2) ++ (a.L, frW W.params a.lex (setK fk 3 (ktk X 4 3)) et sl false (some ([c], vt X 4 3))) :: frs a o g
    look [0, 1, 2, 3, 4, 5, 6, 7, 8, 9] X = some (.again (ctxOf (wCode a.L) (a.W o)) (posOf X), os_ l', as_ l', dup (eqsOf X), dupG (gsOf X), dupO (osOf X), (InB wordL c 1 ∧ InB [92] c 0 ∧ InB [] c 0 ∧ InB [32, 9, 13, 10] c 0 ∧ LnB ⟨⟨[c]⟩⟩ ∧ EqB [c] [10] 0 ∧ True ∧ True)) := by
  cases b <;> (intro W X l'; kernel_rfl)
theorem t0be (w : World) (b b2 : Bool) (a : Ar) (o : OutA) (x : Lx) (g : Nat → FrO) (fk : Nat → Nat) (et : Nat) (sl : Array (Option Value)) (τs ln τl τt pos τp pos' : Nat) (nc : List Nat × Nat) (a0 : Nat) (tok : List Nat) (qd : Bool) (c : Nat) (N t : Nat) (p : Pos) (nv : Nv) :
    let W := wld w b b2
    let X := runW W a o x pos τp [] pos' 288 [5, 1, 0, 0, 0, 0, 1, 0, 0, 0, 0, 0, 0, 0, 0, 0, 0, 0, 0, 0, 0, 0, 11, 11, 0, 1001, 11, 1, 0, 0, 0, 0, 1, 0, 0, 0, 1, 1, 0, 2, 0, 0, 0, 5, 1, 0, 0, 0, 0, 1, 0, 0, 0, 1, 1, 0, 2, 3, 0, 0, 0, 0, 0, 0, 0, 3, 0, 0, 0, 0, 0, 0, 0, 3, 0, 0, 0, 0, 3, 4, 0, 1, 0, 5, 5, 5, 0, 0, 5, 1, 0, 0, 0, 0, 1, 0, 0, 0, 1, 1, 0, 2, 0, 0, 5, 1, 0, 0, 0, 0, 1, 0, 0, 0, 1, 1, 0, 2, 5, 1, 0, 0, 0, 0, 1, 0, 0, 0, 1, 1, 0, 2, 0, 0, 5, 0, 0, 0, 5, 1, 0, 0, 0, 0, 1, 0, 0, 1, 0, 1, 0, 0, 0, 1, 0, 2, 2, 2]
      (lxL W.params a.lex x (stV 32 τs) ln τl ⟨⟨[]⟩⟩ τt pos τp ++ (a.L, frW W.params a.lex fk et sl false none) :: frs a o g) N t p nv
    let l' := lxL W.params a.lex x (stV 0 (vt X 1 11)) ln (vt X 1 13) ⟨⟨[]⟩⟩ (vt X 1 15) pos' (vt X 3 2) ++ (a.L, frW W.params a.lex (setK fk 3 (ktk X 4 3)) et sl false (some ([], vt X 4 3))) :: frs a o g
    look [0, 1, 2, 3, 4, 5, 6, 7, 8, 9] X = some (.done (.ok .next), os_ l', as_ l', dup (eqsOf X), dupG (gsOf X), dupO (osOf X), (True ∧ True)) := by
  cases b <;> (intro W X l'; kernel_rfl)
theorem t1ao (w : World) (b b2 : Bool) (a : Ar) (o : OutA) (x : Lx) (g : Nat → FrO) (fk : Nat → Nat) (et : Nat) (sl : Array (Option Value)) (τs ln τl τt pos τp pos' : Nat) (nc : List Nat × Nat) (a0 : Nat) (tok : List Nat) (qd : Bool) (c : Nat) (N t : Nat) (p : Pos) (nv : Nv) :
    let W := wld w b b2
    let X := runW W a o x pos τp [c] pos' 704 [5, 1, 0, 0, 0, 0, 1, 0, 0, 0, 0, 0, 0, 0, 0, 0, 0, 0, 0, 0, 0, 0, 11, 11, 0, 1001, 11, 1, 0, 0, 0, 0, 1, 0, 0, 0, 1, 1, 0, 2, 0, 0, 0, 5, 1, 0, 0, 0, 0, 1, 0, 0, 0, 1, 1, 0, 2, 3, 0, 0, 0, 0, 0, 0, 0, 3, 0, 0, 0, 0, 0, 0, 0, 3, 0, 0, 0, 0, 3, 4, 0, 1, 0, 5, 5, 5, 2, 0, 5, 1, 0, 0, 0, 0, 1, 0, 0, 0, 1, 1, 0, 2, 0, 0, 5, 1, 0, 0, 0, 0, 1, 0, 0, 0, 1, 1, 0, 2, 5, 1, 0, 0, 0, 0, 1, 0, 0, 0, 1, 1, 0, 2, 0, 0, 5, 1, 0, 0, 0, 0, 1, 0, 0, 0, 1, 1, 0, 2, 5, 1, 0, 0, 0, 0, 1, 0, 0, 0, 1, 1, 0, 2, 0, 0, 5, 1, 0, 0, 0, 0, 1, 0, 0, 0, 1, 1, 0, 2, 5, 1, 0, 0, 0, 0, 1, 0, 0, 0, 1, 1, 0, 2, 0, 0, 5, 1, 0, 0, 0, 0, 1, 0, 0, 0, 1, 1, 0, 2, 12, 12, 5, 11, 5, 6, 0, 5, 5, 1, 0, 0, 0, 0, 1, 0, 0, 0, 1, 1, 0, 2, 3, 0, 5, 5, 1, 0, 0, 0, 0, 1, 0, 0, 0, 1, 1, 0, 2, 3, 0, 5, 1, 0, 0, 0, 0, 1, 0, 0, 0, 1, 1, 0, 2, 0, 0, 5, 1, 0, 0, 0, 0, 1, 0, 0, 0, 1, 1, 0, 2, 5, 5, 1, 0, 0, 0, 0, 1, 0, 0, 0, 1, 1, 0, 2, 3, 0, 5, 1, 0, 0, 0, 0, 1, 0, 0, 0, 1, 1, 0, 2, 5, 5, 1, 0, 0, 0, 0, 1, 0, 0, 0, 1, 1, 0, 2, 3, 0, 5, 5, 1, 0, 0, 0, 0, 1, 0, 0, 0, 1, 1, 0, 2, 3, 0, 5, 5, 1, 0, 0, 0, 0, 1, 0, 0, 0, 1, 1, 0, 2, 3, 0, 5, 1, 0, 0, 0, 0, 1, 0, 0, 0, 1, 1, 0, 2, 5, 5, 1, 0, 0, 0, 0, 1, 0, 0, 0, 0, 0, 0, 0, 0, 0, 0, 0, 0, 0, 0, 0, 13, 13, 0, 1001, 13, 1, 0, 0, 0, 0, 1, 0, 0, 0, 1, 1, 0, 2, 3, 0, 5, 1, 0, 0, 0, 0, 1, 0, 0, 0, 1, 1, 0, 2, 5, 4, 0, 1, 0, 0, 0, 0, 1, 0, 0, 1, 0, 1, 0, 0, 0, 1, 0, 2, 2, 2, 1]
      (lxL W.params a.lex x (stV 97 τs) ln τl ⟨⟨tok⟩⟩ τt pos τp ++ (a.L, frW W.params a.lex fk et sl qd (some nc)) :: frs a o g) N t p nv
    let l' := lxL W.params a.lex x (stV 97 (vt X 1 11)) ln (vt X 1 13) (⟨⟨tok⟩⟩ ++ ⟨⟨[c]⟩⟩) (vt X 1 15) pos' (vt X 3 2) ++ (a.L, frW W.params a.lex (setK fk 3 (ktk X 4 3)) et sl qd (some ([c], vt X 4 3))) :: frs a o g
    look [0, 1, 2, 3, 4, 5, 6, 7, 8, 9] X = some (.again (ctxOf (wCode a.L) (a.W o)) (posOf X), os_ l', as_ l', dup (eqsOf X), dupG (gsOf X), dupO (osOf X), (LeB ⟨⟨tok⟩⟩ ⟨⟨[c]⟩⟩ ∧ InB [] c 0 ∧ InB [39, 34] c 0 ∧ InB wordL c 0 ∧ InB [92] c 0 ∧ InB [39, 34] c 0 ∧ InB [] c 0 ∧ InB [32, 9, 13, 10] c 0 ∧ LnB ⟨⟨[c]⟩⟩ ∧ TupB "tuple" ⟨⟨[97]⟩⟩ ⟨⟨[97]⟩⟩ ∧ EqB [c] [10] 0 ∧ True ∧ True)) := by
  cases b <;> (intro W X l'; kernel_rfl)
theorem t1bw (w : World) (b b2 : Bool) (a : Ar) (o : OutA) (x : Lx) (g : Nat → FrO) (fk : Nat → Nat) (et : Nat) (sl : Array (Option Value)) (τs ln τl τt pos τp pos' : Nat) (nc : List Nat × Nat) (a0 : Nat) (tok : List Nat) (qd : Bool) (c : Nat) (N t : Nat) (p : Pos) (nv : Nv) :
    let W := wld w b b2
    let X := runW W a o x pos τp [c] pos' 354 [5, 1, 0, 0, 0, 0, 1, 0, 0, 0, 0, 0, 0, 0, 0, 0, 0, 0, 0, 0, 0, 0, 11, 11, 0, 1001, 11, 1, 0, 0, 0, 0, 1, 0, 0, 0, 1, 1, 0, 2, 0, 0, 0, 5, 1, 0, 0, 0, 0, 1, 0, 0, 0, 1, 1, 0, 2, 3, 0, 0, 0, 0, 0, 0, 0, 3, 0, 0, 0, 0, 0, 0, 0, 3, 0, 0, 0, 0, 3, 4, 0, 1, 0, 5, 5, 5, 2, 0, 5, 1, 0, 0, 0, 0, 1, 0, 0, 0, 1, 1, 0, 2, 0, 0, 5, 1, 0, 0, 0, 0, 1, 0, 0, 0, 1, 1, 0, 2, 5, 1, 0, 0, 0, 0, 1, 0, 0, 0, 1, 1, 0, 2, 0, 0, 5, 6, 0, 5, 5, 1, 0, 0, 0, 0, 1, 0, 0, 0, 1, 1, 0, 2, 3, 1, 5, 1, 0, 0, 0, 0, 1, 0, 0, 0, 1, 1, 0, 2, 0, 0, 5, 1, 0, 0, 0, 0, 1, 0, 0, 0, 1, 1, 0, 2, 0, 0, 0, 5, 1, 0, 0, 0, 0, 1, 0, 0, 0, 1, 1, 0, 2, 5, 1]
      (lxL W.params a.lex x (stV 32 τs) ln τl ⟨⟨[]⟩⟩ τt pos τp ++ (a.L, frW W.params a.lex fk et sl false (some nc)) :: frs a o g) N t p nv
    let l' := lxL W.params a.lex x (stV 32 (vt X 1 11)) ln (vt X 1 13) ⟨⟨[]⟩⟩ (vt X 1 15) pos' (vt X 3 2) ++ (a.L, frW W.params a.lex (setK fk 3 (ktk X 4 3)) et sl false (some ([c], vt X 4 3))) :: frs a o g
    look [0, 1, 2, 3, 4, 5, 6, 7, 8, 9] X = some (.again (ctxOf (wCode a.L) (a.W o)) (posOf X), os_ l', as_ l', dup (eqsOf X), dupG (gsOf X), dupO (osOf X), (InB [32, 9, 13, 10] c 1 ∧ LnB ⟨⟨[c]⟩⟩ ∧ EqB [c] [10] 0 ∧ True ∧ True)) := by
  cases b <;> (intro W X l'; kernel_rfl)
theorem t1ae (w : World) (b b2 : Bool) (a : Ar) (o : OutA) (x : Lx) (g : Nat → FrO) (fk : Nat → Nat) (et : Nat) (sl : Array (Option Value)) (τs ln τl τt pos τp pos' : Nat) (nc : List Nat × Nat) (a0 : Nat) (tok : List Nat) (qd : Bool) (c : Nat) (N t : Nat) (p : Pos) (nv : Nv) :
    let W := wld w b b2
    let X := runW W a o x pos τp [] pos' 402 [5, 1, 0, 0, 0, 0, 1, 0, 0, 0, 0, 0, 0, 0, 0, 0, 0, 0, 0, 0, 0, 0, 11, 11, 0, 1001, 11, 1, 0, 0, 0, 0, 1, 0, 0, 0, 1, 1, 0, 2, 0, 0, 0, 5, 1, 0, 0, 0, 0, 1, 0, 0, 0, 1, 1, 0, 2, 3, 0, 0, 0, 0, 0, 0, 0, 3, 0, 0, 0, 0, 0, 0, 0, 3, 0, 0, 0, 0, 3, 4, 0, 1, 0, 5, 5, 5, 0, 0, 5, 1, 0, 0, 0, 0, 1, 0, 0, 0, 1, 1, 0, 2, 0, 0, 5, 1, 0, 0, 0, 0, 1, 0, 0, 0, 1, 1, 0, 2, 5, 1, 0, 0, 0, 0, 1, 0, 0, 0, 1, 1, 0, 2, 0, 0, 5, 1, 0, 0, 0, 0, 1, 0, 0, 0, 1, 1, 0, 2, 5, 1, 0, 0, 0, 0, 1, 0, 0, 0, 1, 1, 0, 2, 0, 0, 5, 1, 0, 0, 0, 0, 1, 0, 0, 0, 1, 1, 0, 2, 5, 1, 0, 0, 0, 0, 1, 0, 0, 0, 1, 1, 0, 2, 0, 0, 5, 1, 0, 0, 0, 0, 1, 0, 0, 0, 1, 1, 0, 2, 12, 12, 5, 11, 5, 0, 0, 0, 5, 1, 0, 0, 0, 0, 1, 0, 0, 1, 0, 1, 0, 0, 0, 1, 0, 2, 2, 2]
      (lxL W.params a.lex x (stV 97 τs) ln τl ⟨⟨tok⟩⟩ τt pos τp ++ (a.L, frW W.params a.lex fk et sl qd (some nc)) :: frs a o g) N t p nv
    let l' := lxL W.params a.lex x (stV 0 (vt X 1 11)) ln (vt X 1 13) ⟨⟨tok⟩⟩ (vt X 1 15) pos' (vt X 3 2) ++ (a.L, frW W.params a.lex (setK fk 3 (ktk X 4 3)) et sl qd (some ([], vt X 4 3))) :: frs a o g
    look [0, 1, 2, 3, 4, 5, 6, 7, 8, 9] X = some (.done (.ok .next), os_ l', as_ l', dup (eqsOf X), dupG (gsOf X), dupO (osOf X), (TupB "tuple" ⟨⟨[97]⟩⟩ ⟨⟨[97]⟩⟩ ∧ True ∧ True)) := by
  cases b <;> (intro W X l'; kernel_rfl)
theorem t0nx (w : World) (b b2 : Bool) (a : Ar) (o : OutA) (x : Lx) (g : Nat → FrO) (fk : Nat → Nat) (et : Nat) (sl : Array (Option Value)) (τs ln τl τt pos τp pos' : Nat) (nc : List Nat × Nat) (a0 : Nat) (tok : List Nat) (qd : Bool) (c : Nat) (N t : Nat) (p : Pos) (nv : Nv) :
    let W := wld w b b2
    let X := runW W a o x pos τp [] pos' 251 [5, 1, 0, 0, 0, 0, 1, 0, 0, 0, 0, 0, 0, 0, 0, 0, 0, 0, 0, 0, 0, 0, 11, 11, 0, 1001, 11, 1, 0, 0, 0, 0, 1, 0, 0, 0, 1, 1, 0, 2, 0, 0, 0, 5, 1, 0, 0, 0, 0, 1, 0, 0, 0, 1, 1, 0, 2, 3, 0, 0, 0, 0, 0, 0, 0, 3, 0, 0, 0, 0, 0, 0, 0, 3, 0, 0, 0, 0, 3, 4, 0, 1, 0, 5, 5, 5, 0, 0, 5, 1, 0, 0, 0, 0, 1, 0, 0, 0, 1, 1, 0, 2, 0, 0, 5, 1, 0, 0, 0, 0, 1, 0, 0, 0, 1, 1, 0, 2, 5, 1, 0, 0, 0, 0, 1, 0, 0, 1, 0, 1, 0, 0, 0, 1, 0, 2, 2, 2]
      (lxL W.params a.lex x (stV 0 τs) ln τl ⟨⟨[]⟩⟩ τt pos τp ++ (a.L, frW W.params a.lex fk et sl false none) :: frs a o g) N t p nv
    let l' := lxL W.params a.lex x (stV 0 (vt X 1 11)) ln (vt X 1 13) ⟨⟨[]⟩⟩ (vt X 1 15) pos' (vt X 3 2) ++ (a.L, frW W.params a.lex (setK fk 3 (ktk X 4 3)) et sl false (some ([], vt X 4 3))) :: frs a o g
    look [0, 1, 2, 3, 4, 5, 6, 7, 8, 9] X = some (.done (.ok .next), os_ l', as_ l', dup (eqsOf X), dupG (gsOf X), dupO (osOf X), (True ∧ True)) := by
  cases b <;> (intro W X l'; kernel_rfl)
theorem t0bq (w : World) (b b2 : Bool) (a : Ar) (o : OutA) (x : Lx) (g : Nat → FrO) (fk : Nat → Nat) (et : Nat) (sl : Array (Option Value)) (τs ln τl τt pos τp pos' : Nat) (nc : List Nat × Nat) (a0 : Nat) (tok : List Nat) (qd : Bool) (c : Nat) (N t : Nat) (p : Pos) (nv : Nv) :
    let W := wld w b b2
    let X := runW W a o x pos τp [c] pos' 503 [5, 1, 0, 0, 0, 0, 1, 0, 0, 0, 0, 0, 0, 0, 0, 0, 0, 0, 0, 0, 0, 0, 11, 11, 0, 1001, 11, 1, 0, 0, 0, 0, 1, 0, 0, 0, 1, 1, 0, 2, 0, 0, 0, 5, 1, 0, 0, 0, 0, 1, 0, 0, 0, 1, 1, 0, 2, 3, 0, 0, 0, 0, 0, 0, 0, 3, 0, 0, 0, 0, 0, 0, 0, 3, 0, 0, 0, 0, 3, 4, 0, 1, 0, 5, 5, 5, 2, 0, 5, 1, 0, 0, 0, 0, 1, 0, 0, 0, 1, 1, 0, 2, 0, 0, 5, 1, 0, 0, 0, 0, 1, 0, 0, 0, 1, 1, 0, 2, 5, 1, 0, 0, 0, 0, 1, 0, 0, 0, 1, 1, 0, 2, 0, 0, 5, 6, 0, 5, 5, 1, 0, 0, 0, 0, 1, 0, 0, 0, 1, 1, 0, 2, 3, 0, 5, 5, 1, 0, 0, 0, 0, 1, 0, 0, 0, 1, 1, 0, 2, 3, 0, 5, 1, 0, 0, 0, 0, 1, 0, 0, 0, 1, 1, 0, 2, 5, 5, 1, 0, 0, 0, 0, 1, 0, 0, 0, 1, 1, 0, 2, 3, 0, 5, 5, 1, 0, 0, 0, 0, 1, 0, 0, 0, 1, 1, 0, 2, 3, 0, 5, 5, 1, 0, 0, 0, 0, 1, 0, 0, 0, 0, 0, 0, 0, 0, 0, 0, 0, 0, 0, 0, 0, 12, 12, 0, 1001, 12, 1, 0, 0, 0, 0, 1, 0, 0, 0, 1, 1, 0, 2, 3, 0, 5, 5, 1, 0, 0, 0, 0, 1, 0, 0, 0, 1, 1, 0, 2, 3, 1, 5, 1, 0, 0, 0, 0, 1, 0, 0, 0, 1, 1, 0, 2, 5, 5, 1, 0, 0, 0, 0, 1, 0, 0, 1, 0, 1, 0, 0, 0, 1, 0, 2, 2, 2, 1]
      (lxL W.params a.lex x (stV 32 τs) ln τl ⟨⟨[]⟩⟩ τt pos τp ++ (a.L, frW W.params a.lex fk et sl false none) :: frs a o g) N t p nv
    let l' := lxL W.params a.lex x (.str ⟨⟨[c]⟩⟩ (vt X 1 11)) ln (vt X 1 13) ⟨⟨[]⟩⟩ (vt X 1 15) pos' (vt X 3 2) ++ (a.L, frW W.params a.lex (setK fk 3 (ktk X 4 3)) et sl false (some ([c], vt X 4 3))) :: frs a o g
    look [0, 1, 2, 3, 4, 5, 6, 7, 8, 9] X = some (.again (ctxOf (wCode a.L) (a.W o)) (posOf X), os_ l', as_ l', dup (eqsOf X), dupG (gsOf X), dupO (osOf X), (InB [39, 34] c 1 ∧ InB [] c 0 ∧ InB wordL c 0 ∧ InB [92] c 0 ∧ InB [] c 0 ∧ InB [32, 9, 13, 10] c 0 ∧ LnB ⟨⟨[c]⟩⟩ ∧ EqB [c] [10] 0 ∧ True ∧ True)) := by
  cases b <;> (intro W X l'; kernel_rfl)
theorem t1sz (w : World) (b b2 : Bool) (a : Ar) (o : OutA) (x : Lx) (g : Nat → FrO) (fk : Nat → Nat) (et : Nat) (sl : Array (Option Value)) (τs ln τl τt pos τp pos' : Nat) (nc : List Nat × Nat) (a0 : Nat) (tok : List Nat) (qd : Bool) (c : Nat) (N t : Nat) (p : Pos) (nv : Nv) :
    let W := wld w b b2
    let X := runW W a o x pos τp [c] pos' 376 [5, 1, 0, 0, 0, 0, 1, 0, 0, 0, 0, 0, 0, 0, 0, 0, 0, 0, 0, 0, 0, 0, 11, 11, 0, 1001, 11, 1, 0, 0, 0, 0, 1, 0, 0, 0, 1, 1, 0, 2, 0, 0, 0, 5, 1, 0, 0, 0, 0, 1, 0, 0, 0, 1, 1, 0, 2, 3, 0, 0, 0, 0, 0, 0, 0, 3, 0, 0, 0, 0, 0, 0, 0, 3, 0, 0, 0, 0, 3, 4, 0, 1, 0, 5, 5, 5, 2, 0, 5, 1, 0, 0, 0, 0, 1, 0, 0, 0, 1, 1, 0, 2, 0, 0, 5, 1, 0, 0, 0, 0, 1, 0, 0, 0, 1, 1, 0, 2, 5, 1, 0, 0, 0, 0, 1, 0, 0, 0, 1, 1, 0, 2, 0, 0, 5, 1, 0, 0, 0, 0, 1, 0, 0, 0, 1, 1, 0, 2, 5, 1, 0, 0, 0, 0, 1, 0, 0, 0, 1, 1, 0, 2, 0, 0, 5, 5, 5, 6, 0, 5, 5, 1, 0, 0, 0, 0, 1, 0, 0, 0, 1, 1, 0, 2, 2, 1, 5, 1, 0, 0, 0, 0, 1, 0, 0, 0, 1, 1, 0, 2, 5, 1, 0, 0, 0, 0, 1, 0, 0, 1, 0, 1, 0, 0, 0, 1, 0, 2, 2, 2, 1]
      (lxL W.params a.lex x (stV 39 τs) ln τl ⟨⟨tok⟩⟩ τt pos τp ++ (a.L, frW W.params a.lex fk et sl qd (some nc)) :: frs a o g) N t p nv
    let l' := lxL W.params a.lex x (stV 97 (vt X 1 11)) ln (vt X 1 13) ⟨⟨tok⟩⟩ (vt X 1 15) pos' (vt X 3 2) ++ (a.L, frW W.params a.lex (setK fk 3 (ktk X 4 3)) et sl true (some ([c], vt X 4 3))) :: frs a o g
    look [0, 1, 2, 3, 4, 5, 6, 7, 8, 9] X = some (.again (ctxOf (wCode a.L) (a.W o)) (posOf X), os_ l', as_ l', dup (eqsOf X), dupG (gsOf X), dupO (osOf X), (EqB [c] [39] 1 ∧ LnB ⟨⟨[c]⟩⟩ ∧ EqB [c] [10] 0 ∧ True ∧ True)) := by
  cases b <;> (intro W X l'; kernel_rfl)
theorem t1awe (w : World) (b b2 : Bool) (a : Ar) (o : OutA) (x : Lx) (g : Nat → FrO) (fk : Nat → Nat) (et : Nat) (sl : Array (Option Value)) (τs ln τl τt pos τp pos' : Nat) (nc : List Nat × Nat) (a0 : Nat) (tok : List Nat) (qd : Bool) (c : Nat) (N t : Nat) (p : Pos) (nv : Nv) :
    let W := wld w b b2
    let X := runW W a o x pos τp [c] pos' 496 [5, 1, 0, 0, 0, 0, 1, 0, 0, 0, 0, 0, 0, 0, 0, 0, 0, 0, 0, 0, 0, 0, 11, 11, 0, 1001, 11, 1, 0, 0, 0, 0, 1, 0, 0, 0, 1, 1, 0, 2, 0, 0, 0, 5, 1, 0, 0, 0, 0, 1, 0, 0, 0, 1, 1, 0, 2, 3, 0, 0, 0, 0, 0, 0, 0, 3, 0, 0, 0, 0, 0, 0, 0, 3, 0, 0, 0, 0, 3, 4, 0, 1, 0, 5, 5, 5, 2, 0, 5, 1, 0, 0, 0, 0, 1, 0, 0, 0, 1, 1, 0, 2, 0, 0, 5, 1, 0, 0, 0, 0, 1, 0, 0, 0, 1, 1, 0, 2, 5, 1, 0, 0, 0, 0, 1, 0, 0, 0, 1, 1, 0, 2, 0, 0, 5, 1, 0, 0, 0, 0, 1, 0, 0, 0, 1, 1, 0, 2, 5, 1, 0, 0, 0, 0, 1, 0, 0, 0, 1, 1, 0, 2, 0, 0, 5, 1, 0, 0, 0, 0, 1, 0, 0, 0, 1, 1, 0, 2, 5, 1, 0, 0, 0, 0, 1, 0, 0, 0, 1, 1, 0, 2, 0, 0, 5, 1, 0, 0, 0, 0, 1, 0, 0, 0, 1, 1, 0, 2, 12, 12, 5, 11, 5, 6, 0, 5, 5, 1, 0, 0, 0, 0, 1, 0, 0, 0, 1, 1, 0, 2, 3, 1, 5, 1, 0, 0, 0, 0, 1, 0, 0, 0, 1, 1, 0, 2, 0, 0, 5, 1, 0, 0, 0, 0, 1, 0, 0, 1, 0, 1, 0, 0, 0, 1, 0, 2, 2, 2, 5, 1, 0, 0, 0, 0, 1, 0, 0, 0, 1, 1, 0, 2, 0, 0, 0, 5, 1, 0, 0, 0, 0, 1, 0, 0, 0, 1, 1, 0, 2, 5]
      (lxL W.params a.lex x (stV 97 τs) ln τl ⟨⟨[]⟩⟩ τt pos τp ++ (a.L, frW W.params a.lex fk et sl true (some nc)) :: frs a o g) N t p nv
    let l' := lxL W.params a.lex x (stV 32 (vt X 1 11)) ln (vt X 1 13) ⟨⟨[]⟩⟩ (vt X 1 15) pos' (vt X 3 2) ++ (a.L, frW W.params a.lex (setK fk 3 (ktk X 4 3)) et sl true (some ([c], vt X 4 3))) :: frs a o g
    look [0, 1, 2, 3, 4, 5, 6, 7, 8, 9] X = some (.done (.ok .next), os_ l', as_ l', dup (eqsOf X), dupG (gsOf X), dupO (osOf X), (InB [32, 9, 13, 10] c 1 ∧ LnB ⟨⟨[c]⟩⟩ ∧ TupB "tuple" ⟨⟨[97]⟩⟩ ⟨⟨[97]⟩⟩ ∧ EqB [c] [10] 0 ∧ True ∧ True)) := by
  cases b <;> (intro W X l'; kernel_rfl)
theorem t1be (w : World) (b b2 : Bool) (a : Ar) (o : OutA) (x : Lx) (g : Nat → FrO) (fk : Nat → Nat) (et : Nat) (sl : Array (Option Value)) (τs ln τl τt pos τp pos' : Nat) (nc : List Nat × Nat) (a0 : Nat) (tok : List Nat) (qd : Bool) (c : Nat) (N t : Nat) (p : Pos) (nv : Nv) :
    let W := wld w b b2
    let X := runW W a o x pos τp [] pos' 288 [5, 1, 0, 0, 0, 0, 1, 0, 0, 0, 0, 0, 0, 0, 0, 0, 0, 0, 0, 0, 0, 0, 11, 11, 0, 1001, 11, 1, 0, 0, 0, 0, 1, 0, 0, 0, 1, 1, 0, 2, 0, 0, 0, 5, 1, 0, 0, 0, 0, 1, 0, 0, 0, 1, 1, 0, 2, 3, 0, 0, 0, 0, 0, 0, 0, 3, 0, 0, 0, 0, 0, 0, 0, 3, 0, 0, 0, 0, 3, 4, 0, 1, 0, 5, 5, 5, 0, 0, 5, 1, 0, 0, 0, 0, 1, 0, 0, 0, 1, 1, 0, 2, 0, 0, 5, 1, 0, 0, 0, 0, 1, 0, 0, 0, 1, 1, 0, 2, 5, 1, 0, 0, 0, 0, 1, 0, 0, 0, 1, 1, 0, 2, 0, 0, 5, 0, 0, 0, 5, 1, 0, 0, 0, 0, 1, 0, 0, 1, 0, 1, 0, 0, 0, 1, 0, 2, 2, 2]
      (lxL W.params a.lex x (stV 32 τs) ln τl ⟨⟨[]⟩⟩ τt pos τp ++ (a.L, frW W.params a.lex fk et sl false (some nc)) :: frs a o g) N t p nv
    let l' := lxL W.params a.lex x (stV 0 (vt X 1 11)) ln (vt X 1 13) ⟨⟨[]⟩⟩ (vt X 1 15) pos' (vt X 3 2) ++ (a.L, frW W.params a.lex (setK fk 3 (ktk X 4 3)) et sl false (some ([], vt X 4 3))) :: frs a o g
    look [0, 1, 2, 3, 4, 5, 6, 7, 8, 9] X = some (.done (.ok .next), os_ l', as_ l', dup (eqsOf X), dupG (gsOf X), dupO (osOf X), (True ∧ True)) := by
  cases b <;> (intro W X l'; kernel_rfl)
theorem t1aq (w : World) (b b2 : Bool) (a : Ar) (o : OutA) (x : Lx) (g : Nat → FrO) (fk : Nat → Nat) (et : Nat) (sl : Array (Option Value)) (τs ln τl τt pos τp pos' : Nat) (nc : List Nat × Nat) (a0 : Nat) (tok : List Nat) (qd : Bool) (c : Nat) (N t : Nat) (p : Pos) (nv : Nv) :
    let W := wld w b b2
    let X := runW W a o x pos τp [c] pos' 512 [5, 1, 0, 0, 0, 0, 1, 0, 0, 0, 0, 0, 0, 0, 0, 0, 0, 0, 0, 0, 0, 0, 11, 11, 0, 1001, 11, 1, 0, 0, 0, 0, 1, 0, 0, 0, 1, 1, 0, 2, 0, 0, 0, 5, 1, 0, 0, 0, 0, 1, 0, 0, 0, 1, 1, 0, 2, 3, 0, 0, 0, 0, 0, 0, 0, 3, 0, 0, 0, 0, 0, 0, 0, 3, 0, 0, 0, 0, 3, 4, 0, 1, 0, 5, 5, 5, 2, 0, 5, 1, 0, 0, 0, 0, 1, 0, 0, 0, 1, 1, 0, 2, 0, 0, 5, 1, 0, 0, 0, 0, 1, 0, 0, 0, 1, 1, 0, 2, 5, 1, 0, 0, 0, 0, 1, 0, 0, 0, 1, 1, 0, 2, 0, 0, 5, 1, 0, 0, 0, 0, 1, 0, 0, 0, 1, 1, 0, 2, 5, 1, 0, 0, 0, 0, 1, 0, 0, 0, 1, 1, 0, 2, 0, 0, 5, 1, 0, 0, 0, 0, 1, 0, 0, 0, 1, 1, 0, 2, 5, 1, 0, 0, 0, 0, 1, 0, 0, 0, 1, 1, 0, 2, 0, 0, 5, 1, 0, 0, 0, 0, 1, 0, 0, 0, 1, 1, 0, 2, 12, 12, 5, 11, 5, 6, 0, 5, 5, 1, 0, 0, 0, 0, 1, 0, 0, 0, 1, 1, 0, 2, 3, 0, 5, 5, 1, 0, 0, 0, 0, 1, 0, 0, 0, 1, 1, 0, 2, 3, 0, 5, 1, 0, 0, 0, 0, 1, 0, 0, 0, 1, 1, 0, 2, 0, 0, 5, 1, 0, 0, 0, 0, 1, 0, 0, 0, 1, 1, 0, 2, 5, 5, 1, 0, 0, 0, 0, 1, 0, 0, 0, 1, 1, 0, 2, 3, 1, 5, 5, 1, 0, 0, 0, 0, 1, 0, 0, 1, 0, 1, 0, 0, 0, 1, 0, 2, 2, 2, 1]
      (lxL W.params a.lex x (stV 97 τs) ln τl ⟨⟨tok⟩⟩ τt pos τp ++ (a.L, frW W.params a.lex fk et sl qd (some nc)) :: frs a o g) N t p nv
    let l' := lxL W.params a.lex x (.str ⟨⟨[c]⟩⟩ (vt X 1 11)) ln (vt X 1 13) ⟨⟨tok⟩⟩ (vt X 1 15) pos' (vt X 3 2) ++ (a.L, frW W.params a.lex (setK fk 3 (ktk X 4 3)) et sl qd (some ([c], vt X 4 3))) :: frs a o g
    look [0, 1, 2, 3, 4, 5, 6, 7, 8, 9] X = some (.again (ctxOf (wCode a.L) (a.W o)) (posOf X), os_ l', as_ l', dup (eqsOf X), dupG (gsOf X), dupO (osOf X), (InB [39, 34] c 1 ∧ InB [] c 0 ∧ InB [32, 9, 13, 10] c 0 ∧ LnB ⟨⟨[c]⟩⟩ ∧ TupB "tuple" ⟨⟨[97]⟩⟩ ⟨⟨[97]⟩⟩ ∧ EqB [c] [10] 0 ∧ True ∧ True)) := by
  cases b <;> (intro W X l'; kernel_rfl)
theorem t0bo (w : World) (b b2 : Bool) (a : Ar) (o : OutA) (x : Lx) (g : Nat → FrO) (fk : Nat → Nat) (et : Nat) (sl : Array (Option Value)) (τs ln τl τt pos τp pos' : Nat) (nc : List Nat × Nat) (a0 : Nat) (tok : List Nat) (qd : Bool) (c : Nat) (N t : Nat) (p : Pos) (nv : Nv) :
    let W := wld w b b2
    let X := runW W a o x pos τp [c] pos' 531 [5, 1, 0, 0, 0, 0, 1, 0, 0, 0, 0, 0, 0, 0, 0, 0, 0, 0, 0, 0, 0, 0, 11, 11, 0, 1001, 11, 1, 0, 0, 0, 0, 1, 0, 0, 0, 1, 1, 0, 2, 0, 0, 0, 5, 1, 0, 0, 0, 0, 1, 0, 0, 0, 1, 1, 0, 2, 3, 0, 0, 0, 0, 0, 0, 0, 3, 0, 0, 0, 0, 0, 0, 0, 3, 0, 0, 0, 0, 3, 4, 0, 1, 0, 5, 5, 5, 2, 0, 5, 1, 0, 0, 0, 0, 1, 0, 0, 0, 1, 1, 0, 2, 0, 0, 5, 1, 0, 0, 0, 0, 1, 0, 0, 0, 1, 1, 0, 2, 5, 1, 0, 0, 0, 0, 1, 0, 0, 0, 1, 1, 0, 2, 0, 0, 5, 6, 0, 5, 5, 1, 0, 0, 0, 0, 1, 0, 0, 0, 1, 1, 0, 2, 3, 0, 5, 5, 1, 0, 0, 0, 0, 1, 0, 0, 0, 1, 1, 0, 2, 3, 0, 5, 1, 0, 0, 0, 0, 1, 0, 0, 0, 1, 1, 0, 2, 5, 5, 1, 0, 0, 0, 0, 1, 0, 0, 0, 1, 1, 0, 2, 3, 0, 5, 5, 1, 0, 0, 0, 0, 1, 0, 0, 0, 1, 1, 0, 2, 3, 0, 5, 5, 1, 0, 0, 0, 0, 1, 0, 0, 0, 0, 0, 0, 0, 0, 0, 0, 0, 0, 0, 0, 0, 12, 12, 0, 1001, 12, 1, 0, 0, 0, 0, 1, 0, 0, 0, 1, 1, 0, 2, 3, 0, 5, 5, 1, 0, 0, 0, 0, 1, 0, 0, 0, 1, 1, 0, 2, 3, 0, 5, 1, 0, 0, 0, 0, 1, 0, 0, 0, 1, 1, 0, 2, 5, 5, 1, 0, 0, 0, 0, 1, 0, 0, 1, 0, 1, 0, 0, 0, 1, 0, 2, 2, 2, 5, 1, 0, 0, 0, 0, 1, 0, 0, 1, 0, 1, 0, 0, 0, 1, 0, 2, 2, 2, 1]
      (lxL W.params a.lex x (stV 32 τs) ln τl ⟨⟨[]⟩⟩ τt pos τp ++ (a.L, frW W.params a.lex fk et sl false none) :: frs a o g) N t p nv
    let l' := lxL W.params a.lex x (stV 97 (vt X 1 11)) ln (vt X 1 13) ⟨⟨[c]⟩⟩ (vt X 1 15) pos' (vt X 3 2) ++ (a.L, frW W.params a.lex (setK fk 3 (ktk X 4 3)) et sl false (some ([c], vt X 4 3))) :: frs a o g
    look [0, 1, 2, 3, 4, 5, 6, 7, 8, 9] X = some (.again (ctxOf (wCode a.L) (a.W o)) (posOf X), os_ l', as_ l', dup (eqsOf X), dupG (gsOf X), dupO (osOf X), (InB [39, 34] c 0 ∧ InB [] c 0 ∧ InB wordL c 0 ∧ InB [92] c 0 ∧ InB [] c 0 ∧ InB [32, 9, 13, 10] c 0 ∧ LnB ⟨⟨[c]⟩⟩ ∧ EqB [c] [10] 0 ∧ True ∧ True)) := by
  cases b <;> (intro W X l'; kernel_rfl)
theorem t1so (w : World) (b b2 : Bool) (a : Ar) (o : OutA) (x : Lx) (g : Nat → FrO) (fk : Nat → Nat) (et : Nat) (sl : Array (Option Value)) (τs ln τl τt pos τp pos' : Nat) (nc : List Nat × Nat) (a0 : Nat) (tok : List Nat) (qd : Bool) (c : Nat) (N t : Nat) (p : Pos) (nv : Nv) :
    let W := wld w b b2
    let X := runW W a o x pos τp [c] pos' 420 [5, 1, 0, 0, 0, 0, 1, 0, 0, 0, 0, 0, 0, 0, 0, 0, 0, 0, 0, 0, 0, 0, 11, 11, 0, 1001, 11, 1, 0, 0, 0, 0, 1, 0, 0, 0, 1, 1, 0, 2, 0, 0, 0, 5, 1, 0, 0, 0, 0, 1, 0, 0, 0, 1, 1, 0, 2, 3, 0, 0, 0, 0, 0, 0, 0, 3, 0, 0, 0, 0, 0, 0, 0, 3, 0, 0, 0, 0, 3, 4, 0, 1, 0, 5, 5, 5, 2, 0, 5, 1, 0, 0, 0, 0, 1, 0, 0, 0, 1, 1, 0, 2, 0, 0, 5, 1, 0, 0, 0, 0, 1, 0, 0, 0, 1, 1, 0, 2, 5, 1, 0, 0, 0, 0, 1, 0, 0, 0, 1, 1, 0, 2, 0, 0, 5, 1, 0, 0, 0, 0, 1, 0, 0, 0, 1, 1, 0, 2, 5, 1, 0, 0, 0, 0, 1, 0, 0, 0, 1, 1, 0, 2, 0, 0, 5, 5, 5, 6, 0, 5, 5, 1, 0, 0, 0, 0, 1, 0, 0, 0, 1, 1, 0, 2, 2, 0, 5, 1, 0, 0, 0, 0, 1, 0, 0, 0, 1, 1, 0, 2, 5, 5, 1, 0, 0, 0, 0, 1, 0, 0, 0, 1, 1, 0, 2, 3, 0, 5, 1, 0, 0, 0, 0, 1, 0, 0, 0, 1, 1, 0, 2, 5, 4, 0, 1, 0, 0, 0, 0, 1, 0, 0, 1, 0, 1, 0, 0, 0, 1, 0, 2, 2, 2, 1]
      (lxL W.params a.lex x (stV 39 τs) ln τl ⟨⟨tok⟩⟩ τt pos τp ++ (a.L, frW W.params a.lex fk et sl qd (some nc)) :: frs a o g) N t p nv
    let l' := lxL W.params a.lex x (stV 39 (vt X 1 11)) ln (vt X 1 13) (⟨⟨tok⟩⟩ ++ ⟨⟨[c]⟩⟩) (vt X 1 15) pos' (vt X 3 2) ++ (a.L, frW W.params a.lex (setK fk 3 (ktk X 4 3)) et sl true (some ([c], vt X 4 3))) :: frs a o g
    look [0, 1, 2, 3, 4, 5, 6, 7, 8, 9] X = some (.again (ctxOf (wCode a.L) (a.W o)) (posOf X), os_ l', as_ l', dup (eqsOf X), dupG (gsOf X), dupO (osOf X), (LeB ⟨⟨tok⟩⟩ ⟨⟨[c]⟩⟩ ∧ InB [92] c 0 ∧ EqB [c] [39] 0 ∧ LnB ⟨⟨[c]⟩⟩ ∧ EqB [c] [10] 0 ∧ True ∧ True)) := by
  cases b <;> (intro W X l'; kernel_rfl)
theorem t1se (w : World) (b b2 : Bool) (a : Ar) (o : OutA) (x : Lx) (g : Nat → FrO) (fk : Nat → Nat) (et : Nat) (sl : Array (Option Value)) (τs ln τl τt pos τp pos' : Nat) (nc : List Nat × Nat) (a0 : Nat) (tok : List Nat) (qd : Bool) (c : Nat) (N t : Nat) (p : Pos) (nv : Nv) :
    let W := wld w b b2
    let X := runW W a o x pos τp [] pos' 373 [5, 1, 0, 0, 0, 0, 1, 0, 0, 0, 0, 0, 0, 0, 0, 0, 0, 0, 0, 0, 0, 0, 11, 11, 0, 1001, 11, 1, 0, 0, 0, 0, 1, 0, 0, 0, 1, 1, 0, 2, 0, 0, 0, 5, 1, 0, 0, 0, 0, 1, 0, 0, 0, 1, 1, 0, 2, 3, 0, 0, 0, 0, 0, 0, 0, 3, 0, 0, 0, 0, 0, 0, 0, 3, 0, 0, 0, 0, 3, 4, 0, 1, 0, 5, 5, 5, 0, 0, 5, 1, 0, 0, 0, 0, 1, 0, 0, 0, 1, 1, 0, 2, 0, 0, 5, 1, 0, 0, 0, 0, 1, 0, 0, 0, 1, 1, 0, 2, 5, 1, 0, 0, 0, 0, 1, 0, 0, 0, 1, 1, 0, 2, 0, 0, 5, 1, 0, 0, 0, 0, 1, 0, 0, 0, 1, 1, 0, 2, 5, 1, 0, 0, 0, 0, 1, 0, 0, 0, 1, 1, 0, 2, 0, 0, 5, 5, 5, 0, 0, 0, 5, 1, 0, 0, 0, 0, 1, 0, 0, 0, 1, 1, 0, 2, 0, 0, 0, 0, 0, 0, 0, 0, 13, 13, 0, 13, 13, 0, 13, 13, 13, 13, 13, 13, 13, 13, 12, 4, 5, 6, 7, 8, 9]
      (lxL W.params a.lex x (stV 39 τs) ln τl ⟨⟨tok⟩⟩ τt pos τp ++ (a.L, frW W.params a.lex fk et sl qd (some nc)) :: frs a o g) N t p nv
    let l' := lxL W.params a.lex x (stV 39 (vt X 1 11)) ln (vt X 1 13) ⟨⟨tok⟩⟩ (vt X 1 15) pos' (vt X 3 2) ++ (a.L, frW W.params a.lex (setK fk 3 (ktk X 4 3)) et (slOf X 4) true (some ([], vt X 4 3))) :: frs a o (fun i => ⟨(g i).es, (g i).n, slOf X (5 + i)⟩) ++ [(adAt X 12, excO "ValueError" (adAt X 13) (adAt X 14) (slOf X 12)), (adAt X 14, entryO .none a.L (.int (.ofNat a.L) 0) (tlOf X 14))]
    look [0, 1, 2, 3, 4, 5, 6, 7, 8, 9, 12, 14] X = some (.done (.error (.ref (adAt X 12))), os_ l', as_ l', dup (eqsOf X), dupG (gsOf X), dupO (osOf X), (True ∧ True)) := by
  cases b <;> (intro W X l'; kernel_rfl)
theorem t1do (w : World) (b b2 : Bool) (a : Ar) (o : OutA) (x : Lx) (g : Nat → FrO) (fk : Nat → Nat) (et : Nat) (sl : Array (Option Value)) (τs ln τl τt pos τp pos' : Nat) (nc : List Nat × Nat) (a0 : Nat) (tok : List Nat) (qd : Bool) (c : Nat) (N t : Nat) (p : Pos) (nv : Nv) :
    let W := wld w b b2
    let X := runW W a o x pos τp [c] pos' 420 [5, 1, 0, 0, 0, 0, 1, 0, 0, 0, 0, 0, 0, 0, 0, 0, 0, 0, 0, 0, 0, 0, 11, 11, 0, 1001, 11, 1, 0, 0, 0, 0, 1, 0, 0, 0, 1, 1, 0, 2, 0, 0, 0, 5, 1, 0, 0, 0, 0, 1, 0, 0, 0, 1, 1, 0, 2, 3, 0, 0, 0, 0, 0, 0, 0, 3, 0, 0, 0, 0, 0, 0, 0, 3, 0, 0, 0, 0, 3, 4, 0, 1, 0, 5, 5, 5, 2, 0, 5, 1, 0, 0, 0, 0, 1, 0, 0, 0, 1, 1, 0, 2, 0, 0, 5, 1, 0, 0, 0, 0, 1, 0, 0, 0, 1, 1, 0, 2, 5, 1, 0, 0, 0, 0, 1, 0, 0, 0, 1, 1, 0, 2, 0, 0, 5, 1, 0, 0, 0, 0, 1, 0, 0, 0, 1, 1, 0, 2, 5, 1, 0, 0, 0, 0, 1, 0, 0, 0, 1, 1, 0, 2, 0, 0, 5, 5, 5, 6, 0, 5, 5, 1, 0, 0, 0, 0, 1, 0, 0, 0, 1, 1, 0, 2, 2, 0, 5, 1, 0, 0, 0, 0, 1, 0, 0, 0, 1, 1, 0, 2, 5, 5, 1, 0, 0, 0, 0, 1, 0, 0, 0, 1, 1, 0, 2, 3, 0, 5, 1, 0, 0, 0, 0, 1, 0, 0, 0, 1, 1, 0, 2, 5, 4, 0, 1, 0, 0, 0, 0, 1, 0, 0, 1, 0, 1, 0, 0, 0, 1, 0, 2, 2, 2, 1]
      (lxL W.params a.lex x (stV 34 τs) ln τl ⟨⟨tok⟩⟩ τt pos τp ++ (a.L, frW W.params a.lex fk et sl qd (some nc)) :: frs a o g) N t p nv
    let l' := lxL W.params a.lex x (stV 34 (vt X 1 11)) ln (vt X 1 13) (⟨⟨tok⟩⟩ ++ ⟨⟨[c]⟩⟩) (vt X 1 15) pos' (vt X 3 2) ++ (a.L, frW W.params a.lex (setK fk 3 (ktk X 4 3)) et sl true (some ([c], vt X 4 3))) :: frs a o g
    look [0, 1, 2, 3, 4, 5, 6, 7, 8, 9] X = some (.again (ctxOf (wCode a.L) (a.W o)) (posOf X), os_ l', as_ l', dup (eqsOf X), dupG (gsOf X), dupO (osOf X), (LeB ⟨⟨tok⟩⟩ ⟨⟨[c]⟩⟩ ∧ InB [92] c 0 ∧ EqB [c] [34] 0 ∧ LnB ⟨⟨[c]⟩⟩ ∧ EqB [c] [10] 0 ∧ True ∧ True)) := by
  cases b <;> (intro W X l'; kernel_rfl)
theorem t1dl (w : World) (b b2 : Bool) (a : Ar) (o : OutA) (x : Lx) (g : Nat → FrO) (fk : Nat → Nat) (et : Nat) (sl : Array (Option Value)) (τs ln τl τt pos τp pos' : Nat) (nc : List Nat × Nat) (a0 : Nat) (tok : List Nat) (qd : Bool) (c : Nat) (N t : Nat) (p : Pos) (nv : Nv) :
    let W := wld w b b2
    let X := runW W a o x pos τp [c] pos' 470 [5, 1, 0, 0, 0, 0, 1, 0, 0, 0, 0, 0, 0, 0, 0, 0, 0, 0, 0, 0, 0, 0, 11, 11, 0, 1001, 11, 1, 0, 0, 0, 0, 1, 0, 0, 0, 1, 1, 0, 2, 0, 0, 0, 5, 1, 0, 0, 0, 0, 1, 0, 0, 0, 1, 1, 0, 2, 3, 0, 0, 0, 0, 0, 0, 0, 3, 0, 0, 0, 0, 0, 0, 0, 3, 0, 0, 0, 0, 3, 4, 0, 1, 0, 5, 5, 5, 2, 1, 5, 1, 0, 0, 0, 0, 1, 0, 0, 0, 1, 1, 0, 2, 0, 0, 1, 0, 0, 0, 0, 1, 0, 0, 1, 0, 1, 0, 0, 0, 1, 0, 2, 2, 2, 5, 1, 0, 0, 0, 0, 1, 0, 0, 0, 1, 1, 0, 2, 0, 0, 5, 1, 0, 0, 0, 0, 1, 0, 0, 0, 1, 1, 0, 2, 5, 1, 0, 0, 0, 0, 1, 0, 0, 0, 1, 1, 0, 2, 0, 0, 5, 1, 0, 0, 0, 0, 1, 0, 0, 0, 1, 1, 0, 2, 5, 1, 0, 0, 0, 0, 1, 0, 0, 0, 1, 1, 0, 2, 0, 0, 5, 5, 5, 6, 0, 5, 5, 1, 0, 0, 0, 0, 1, 0, 0, 0, 1, 1, 0, 2, 2, 0, 5, 1, 0, 0, 0, 0, 1, 0, 0, 0, 1, 1, 0, 2, 5, 5, 1, 0, 0, 0, 0, 1, 0, 0, 0, 1, 1, 0, 2, 3, 0, 5, 1, 0, 0, 0, 0, 1, 0, 0, 0, 1, 1, 0, 2, 5, 4, 0, 1, 0, 0, 0, 0, 1, 0, 0, 1, 0, 1, 0, 0, 0, 1, 0, 2, 2, 2, 1]
      (lxL W.params a.lex x (stV 34 τs) ln τl ⟨⟨tok⟩⟩ τt pos τp ++ (a.L, frW W.params a.lex fk et sl qd (some nc)) :: frs a o g) N t p nv
    let l' := lxL W.params a.lex x (stV 34 (vt X 1 11)) (ln + 1) (vt X 1 13) (⟨⟨tok⟩⟩ ++ ⟨⟨[c]⟩⟩) (vt X 1 15) pos' (vt X 3 2) ++ (a.L, frW W.params a.lex (setK fk 3 (ktk X 4 3)) et sl true (some ([c], vt X 4 3))) :: frs a o g
    look [0, 1, 2, 3, 4, 5, 6, 7, 8, 9] X = some (.again (ctxOf (wCode a.L) (a.W o)) (posOf X), os_ l', as_ l', dup (eqsOf X), dupG (gsOf X), dupO (osOf X), (LeB ⟨⟨tok⟩⟩ ⟨⟨[c]⟩⟩ ∧ InB [92] c 0 ∧ EqB [c] [34] 0 ∧ LnB ⟨⟨[c]⟩⟩ ∧ EqB [c] [10] 1 ∧ True ∧ True)) := by
  cases b <;> (intro W X l'; kernel_rfl)
theorem t1de (w : World) (b b2 : Bool) (a : Ar) (o : OutA) (x : Lx) (g : Nat → FrO) (fk : Nat → Nat) (et : Nat) (sl : Array (Option Value)) (τs ln τl τt pos τp pos' : Nat) (nc : List Nat × Nat) (a0 : Nat) (tok : List Nat) (qd : Bool) (c : Nat) (N t : Nat) (p : Pos) (nv : Nv) :
    let W := wld w b b2
    let X := runW W a o x pos τp [] pos' 373 [5, 1, 0, 0, 0, 0, 1, 0, 0, 0, 0, 0, 0, 0, 0, 0, 0, 0, 0, 0, 0, 0, 11, 11, 0, 1001, 11, 1, 0, 0, 0, 0, 1, 0, 0, 0, 1, 1, 0, 2, 0, 0, 0, 5, 1, 0, 0, 0, 0, 1, 0, 0, 0, 1, 1, 0, 2, 3, 0, 0, 0, 0, 0, 0, 0, 3, 0, 0, 0, 0, 0, 0, 0, 3, 0, 0, 0, 0, 3, 4, 0, 1, 0, 5, 5, 5, 0, 0, 5, 1, 0, 0, 0, 0, 1, 0, 0, 0, 1, 1, 0, 2, 0, 0, 5, 1, 0, 0, 0, 0, 1, 0, 0, 0, 1, 1, 0, 2, 5, 1, 0, 0, 0, 0, 1, 0, 0, 0, 1, 1, 0, 2, 0, 0, 5, 1, 0, 0, 0, 0, 1, 0, 0, 0, 1, 1, 0, 2, 5, 1, 0, 0, 0, 0, 1, 0, 0, 0, 1, 1, 0, 2, 0, 0, 5, 5, 5, 0, 0, 0, 5, 1, 0, 0, 0, 0, 1, 0, 0, 0, 1, 1, 0, 2, 0, 0, 0, 0, 0, 0, 0, 0, 13, 13, 0, 13, 13, 0, 13, 13, 13, 13, 13, 13, 13, 13, 12, 4, 5, 6, 7, 8, 9]
      (lxL W.params a.lex x (stV 34 τs) ln τl ⟨⟨tok⟩⟩ τt pos τp ++ (a.L, frW W.params a.lex fk et sl qd (some nc)) :: frs a o g) N t p nv
    let l' := lxL W.params a.lex x (stV 34 (vt X 1 11)) ln (vt X 1 13) ⟨⟨tok⟩⟩ (vt X 1 15) pos' (vt X 3 2) ++ (a.L, frW W.params a.lex (setK fk 3 (ktk X 4 3)) et (slOf X 4) true (some ([], vt X 4 3))) :: frs a o (fun i => ⟨(g i).es, (g i).n, slOf X (5 + i)⟩) ++ [(adAt X 12, excO "ValueError" (adAt X 13) (adAt X 14) (slOf X 12)), (adAt X 14, entryO .none a.L (.int (.ofNat a.L) 0) (tlOf X 14))]
    look [0, 1, 2, 3, 4, 5, 6, 7, 8, 9, 12, 14] X = some (.done (.error (.ref (adAt X 12))), os_ l', as_ l', dup (eqsOf X), dupG (gsOf X), dupO (osOf X), (True ∧ True)) := by
  cases b <;> (intro W X l'; kernel_rfl)
theorem t1sl (w : World) (b b2 : Bool) (a : Ar) (o : OutA) (x : Lx) (g : Nat → FrO) (fk : Nat → Nat) (et : Nat) (sl : Array (Option Value)) (τs ln τl τt pos τp pos' : Nat) (nc : List Nat × Nat) (a0 : Nat) (tok : List Nat) (qd : Bool) (c : Nat) (N t : Nat) (p : Pos) (nv : Nv) :
    let W := wld w b b2
    let X := runW W a o x pos τp [c] pos' 470 [5, 1, 0, 0, 0, 0, 1, 0, 0, 0, 0, 0, 0, 0, 0, 0, 0, 0, 0, 0, 0, 0, 11, 11, 0, 1001, 11, 1, 0, 0, 0, 0, 1, 0, 0, 0, 1, 1, 0, 2, 0, 0, 0, 5, 1, 0, 0, 0, 0, 1, 0, 0, 0, 1, 1, 0, 2, 3, 0, 0, 0, 0, 0, 0, 0, 3, 0, 0, 0, 0, 0, 0, 0, 3, 0, 0, 0, 0, 3, 4, 0, 1, 0, 5, 5, 5, 2, 1, 5, 1, 0, 0, 0, 0, 1, 0, 0, 0, 1, 1, 0, 2, 0, 0, 1, 0, 0, 0, 0, 1, 0, 0, 1, 0, 1, 0, 0, 0, 1, 0, 2, 2, 2, 5, 1, 0, 0, 0, 0, 1, 0, 0, 0, 1, 1, 0, 2, 0, 0, 5, 1, 0, 0, 0, 0, 1, 0, 0, 0, 1, 1, 0, 2, 5, 1, 0, 0, 0, 0, 1, 0, 0, 0, 1, 1, 0, 2, 0, 0, 5, 1, 0, 0, 0, 0, 1, 0, 0, 0, 1, 1, 0, 2, 5, 1, 0, 0, 0, 0, 1, 0, 0, 0, 1, 1, 0, 2, 0, 0, 5, 5, 5, 6, 0, 5, 5, 1, 0, 0, 0, 0, 1, 0, 0, 0, 1, 1, 0, 2, 2, 0, 5, 1, 0, 0, 0, 0, 1, 0, 0, 0, 1, 1, 0, 2, 5, 5, 1, 0, 0, 0, 0, 1, 0, 0, 0, 1, 1, 0, 2, 3, 0, 5, 1, 0, 0, 0, 0, 1, 0, 0, 0, 1, 1, 0, 2, 5, 4, 0, 1, 0, 0, 0, 0, 1, 0, 0, 1, 0, 1, 0, 0, 0, 1, 0, 2, 2, 2, 1]
      (lxL W.params a.lex x (stV 39 τs) ln τl ⟨⟨tok⟩⟩ τt pos τp ++ (a.L, frW W.params a.lex fk et sl qd (some nc)) :: frs a o g) N t p nv
    let l' := lxL W.params a.lex x (stV 39 (vt X 1 11)) (ln + 1) (vt X 1 13) (⟨⟨tok⟩⟩ ++ ⟨⟨[c]⟩⟩) (vt X 1 15) pos' (vt X 3 2) ++ (a.L, frW W.params a.lex (setK fk 3 (ktk X 4 3)) et sl true (some ([c], vt X 4 3))) :: frs a o g
    look [0, 1, 2, 3, 4, 5, 6, 7, 8, 9] X = some (.again (ctxOf (wCode a.L) (a.W o)) (posOf X), os_ l', as_ l', dup (eqsOf X), dupG (gsOf X), dupO (osOf X), (LeB ⟨⟨tok⟩⟩ ⟨⟨[c]⟩⟩ ∧ InB [92] c 0 ∧ EqB [c] [39] 0 ∧ LnB ⟨⟨[c]⟩⟩ ∧ EqB [c] [10] 1 ∧ True ∧ True)) := by
  cases b <;> (intro W X l'; kernel_rfl)
theorem t1dz (w : World) (b b2 : Bool) (a : Ar) (o : OutA) (x : Lx) (g : Nat → FrO) (fk : Nat → Nat) (et : Nat) (sl : Array (Option Value)) (τs ln τl τt pos τp pos' : Nat) (nc : List Nat × Nat) (a0 : Nat) (tok : List Nat) (qd : Bool) (c : Nat) (N t : Nat) (p : Pos) (nv : Nv) :
    let W := wld w b b2
    let X := runW W a o x pos τp [c] pos' 376 [5, 1, 0, 0, 0, 0, 1, 0, 0, 0, 0, 0, 0, 0, 0, 0, 0, 0, 0, 0, 0, 0, 11, 11, 0, 1001, 11, 1, 0, 0, 0, 0, 1, 0, 0, 0, 1, 1, 0, 2, 0, 0, 0, 5, 1, 0, 0, 0, 0, 1, 0, 0, 0, 1, 1, 0, 2, 3, 0, 0, 0, 0, 0, 0, 0, 3, 0, 0, 0, 0, 0, 0, 0, 3, 0, 0, 0, 0, 3, 4, 0, 1, 0, 5, 5, 5, 2, 0, 5, 1, 0, 0, 0, 0, 1, 0, 0, 0, 1, 1, 0, 2, 0, 0, 5, 1, 0, 0, 0, 0, 1, 0, 0, 0, 1, 1, 0, 2, 5, 1, 0, 0, 0, 0, 1, 0, 0, 0, 1, 1, 0, 2, 0, 0, 5, 1, 0, 0, 0, 0, 1, 0, 0, 0, 1, 1, 0, 2, 5, 1, 0, 0, 0, 0, 1, 0, 0, 0, 1, 1, 0, 2, 0, 0, 5, 5, 5, 6, 0, 5, 5, 1, 0, 0, 0, 0, 1, 0, 0, 0, 1, 1, 0, 2, 2, 1, 5, 1, 0, 0, 0, 0, 1, 0, 0, 0, 1, 1, 0, 2, 5, 1, 0, 0, 0, 0, 1, 0, 0, 1, 0, 1, 0, 0, 0, 1, 0, 2, 2, 2, 1]
      (lxL W.params a.lex x (stV 34 τs) ln τl ⟨⟨tok⟩⟩ τt pos τp ++ (a.L, frW W.params a.lex fk et sl qd (some nc)) :: frs a o g) N t p nv
    let l' := lxL W.params a.lex x (stV 97 (vt X 1 11)) ln (vt X 1 13) ⟨⟨tok⟩⟩ (vt X 1 15) pos' (vt X 3 2) ++ (a.L, frW W.params a.lex (setK fk 3 (ktk X 4 3)) et sl true (some ([c], vt X 4 3))) :: frs a o g
    look [0, 1, 2, 3, 4, 5, 6, 7, 8, 9] X = some (.again (ctxOf (wCode a.L) (a.W o)) (posOf X), os_ l', as_ l', dup (eqsOf X), dupG (gsOf X), dupO (osOf X), (EqB [c] [34] 1 ∧ LnB ⟨⟨[c]⟩⟩ ∧ EqB [c] [10] 0 ∧ True ∧ True)) := by
  cases b <;> (intro W X l'; kernel_rfl)
theorem t1bq (w : World) (b b2 : Bool) (a : Ar) (o : OutA) (x : Lx) (g : Nat → FrO) (fk : Nat → Nat) (et : Nat) (sl : Array (Option Value)) (τs ln τl τt pos τp pos' : Nat) (nc : List Nat × Nat) (a0 : Nat) (tok : List Nat) (qd : Bool) (c : Nat) (N t : Nat) (p : Pos) (nv : Nv) :
    let W := wld w b b2
    let X := runW W a o x pos τp [c] pos' 503 [5, 1, 0, 0, 0, 0, 1, 0, 0, 0, 0, 0, 0, 0, 0, 0, 0, 0, 0, 0, 0, 0, 11, 11, 0, 1001, 11, 1, 0, 0, 0, 0, 1, 0, 0, 0, 1, 1, 0, 2, 0, 0, 0, 5, 1, 0, 0, 0, 0, 1, 0, 0, 0, 1, 1, 0, 2, 3, 0, 0, 0, 0, 0, 0, 0, 3, 0, 0, 0, 0, 0, 0, 0, 3, 0, 0, 0, 0, 3, 4, 0, 1, 0, 5, 5, 5, 2, 0, 5, 1, 0, 0, 0, 0, 1, 0, 0, 0, 1, 1, 0, 2, 0, 0, 5, 1, 0, 0, 0, 0, 1, 0, 0, 0, 1, 1, 0, 2, 5, 1, 0, 0, 0, 0, 1, 0, 0, 0, 1, 1, 0, 2, 0, 0, 5, 6, 0, 5, 5, 1, 0, 0, 0, 0, 1, 0, 0, 0, 1, 1, 0, 2, 3, 0, 5, 5, 1, 0, 0, 0, 0, 1, 0, 0, 0, 1, 1, 0, 2, 3, 0, 5, 1, 0, 0, 0, 0, 1, 0, 0, 0, 1, 1, 0, 2, 5, 5, 1, 0, 0, 0, 0, 1, 0, 0, 0, 1, 1, 0, 2, 3, 0, 5, 5, 1, 0, 0, 0, 0, 1, 0, 0, 0, 1, 1, 0, 2, 3, 0, 5, 5, 1, 0, 0, 0, 0, 1, 0, 0, 0, 0, 0, 0, 0, 0, 0, 0, 0, 0, 0, 0, 0, 12, 12, 0, 1001, 12, 1, 0, 0, 0, 0, 1, 0, 0, 0, 1, 1, 0, 2, 3, 0, 5, 5, 1, 0, 0, 0, 0, 1, 0, 0, 0, 1, 1, 0, 2, 3, 1, 5, 1, 0, 0, 0, 0, 1, 0, 0, 0, 1, 1, 0, 2, 5, 5, 1, 0, 0, 0, 0, 1, 0, 0, 1, 0, 1, 0, 0, 0, 1, 0, 2, 2, 2, 1]
      (lxL W.params a.lex x (stV 32 τs) ln τl ⟨⟨[]⟩⟩ τt pos τp ++ (a.L, frW W.params a.lex fk et sl false (some nc)) :: frs a o g) N t p nv
    let l' := lxL W.params a.lex x (.str ⟨⟨[c]⟩⟩ (vt X 1 11)) ln (vt X 1 13) ⟨⟨[]⟩⟩ (vt X 1 15) pos' (vt X 3 2) ++ (a.L, frW W.params a.lex (setK fk 3 (ktk X 4 3)) et sl false (some ([c], vt X 4 3))) :: frs a o g
    look [0, 1, 2, 3, 4, 5, 6, 7, 8, 9] X = some (.again (ctxOf (wCode a.L) (a.W o)) (posOf X), os_ l', as_ l', dup (eqsOf X), dupG (gsOf X), dupO (osOf X), (InB [39, 34] c 1 ∧ InB [] c 0 ∧ InB wordL c 0 ∧ InB [92] c 0 ∧ InB [] c 0 ∧ InB [32, 9, 13, 10] c 0 ∧ LnB ⟨⟨[c]⟩⟩ ∧ EqB [c] [10] 0 ∧ True ∧ True)) := by
  cases b <;> (intro W X l'; kernel_rfl)
theorem t1ale (w : World) (b b2 : Bool) (a : Ar) (o : OutA) (x : Lx) (g : Nat → FrO) (fk : Nat → Nat) (et : Nat) (sl : Array (Option Value)) (τs ln τl τt pos τp pos' : Nat) (nc : List Nat × Nat) (a0 : Nat) (tok : List Nat) (qd : Bool) (c : Nat) (N t : Nat) (p : Pos) (nv : Nv) :
    let W := wld w b b2
    let X := runW W a o x pos τp [c] pos' 546 [5, 1, 0, 0, 0, 0, 1, 0, 0, 0, 0, 0, 0, 0, 0, 0, 0, 0, 0, 0, 0, 0, 11, 11, 0, 1001, 11, 1, 0, 0, 0, 0, 1, 0, 0, 0, 1, 1, 0, 2, 0, 0, 0, 5, 1, 0, 0, 0, 0, 1, 0, 0, 0, 1, 1, 0, 2, 3, 0, 0, 0, 0, 0, 0, 0, 3, 0, 0, 0, 0, 0, 0, 0, 3, 0, 0, 0, 0, 3, 4, 0, 1, 0, 5, 5, 5, 2, 1, 5, 1, 0, 0, 0, 0, 1, 0, 0, 0, 1, 1, 0, 2, 0, 0, 1, 0, 0, 0, 0, 1, 0, 0, 1, 0, 1, 0, 0, 0, 1, 0, 2, 2, 2, 5, 1, 0, 0, 0, 0, 1, 0, 0, 0, 1, 1, 0, 2, 0, 0, 5, 1, 0, 0, 0, 0, 1, 0, 0, 0, 1, 1, 0, 2, 5, 1, 0, 0, 0, 0, 1, 0, 0, 0, 1, 1, 0, 2, 0, 0, 5, 1, 0, 0, 0, 0, 1, 0, 0, 0, 1, 1, 0, 2, 5, 1, 0, 0, 0, 0, 1, 0, 0, 0, 1, 1, 0, 2, 0, 0, 5, 1, 0, 0, 0, 0, 1, 0, 0, 0, 1, 1, 0, 2, 5, 1, 0, 0, 0, 0, 1, 0, 0, 0, 1, 1, 0, 2, 0, 0, 5, 1, 0, 0, 0, 0, 1, 0, 0, 0, 1, 1, 0, 2, 12, 12, 5, 11, 5, 6, 0, 5, 5, 1, 0, 0, 0, 0, 1, 0, 0, 0, 1, 1, 0, 2, 3, 1, 5, 1, 0, 0, 0, 0, 1, 0, 0, 0, 1, 1, 0, 2, 0, 0, 5, 1, 0, 0, 0, 0, 1, 0, 0, 1, 0, 1, 0, 0, 0, 1, 0, 2, 2, 2, 5, 1, 0, 0, 0, 0, 1, 0, 0, 0, 1, 1, 0, 2, 0, 0, 0, 5, 1, 0, 0, 0, 0, 1, 0, 0, 0, 1, 1, 0, 2, 5]
      (lxL W.params a.lex x (stV 97 τs) ln τl ⟨⟨[]⟩⟩ τt pos τp ++ (a.L, frW W.params a.lex fk et sl true (some nc)) :: frs a o g) N t p nv
    let l' := lxL W.params a.lex x (stV 32 (vt X 1 11)) (ln + 1) (vt X 1 13) ⟨⟨[]⟩⟩ (vt X 1 15) pos' (vt X 3 2) ++ (a.L, frW W.params a.lex (setK fk 3 (ktk X 4 3)) et sl true (some ([c], vt X 4 3))) :: frs a o g
    look [0, 1, 2, 3, 4, 5, 6, 7, 8, 9] X = some (.done (.ok .next), os_ l', as_ l', dup (eqsOf X), dupG (gsOf X), dupO (osOf X), (InB [32, 9, 13, 10] c 1 ∧ LnB ⟨⟨[c]⟩⟩ ∧ TupB "tuple" ⟨⟨[97]⟩⟩ ⟨⟨[97]⟩⟩ ∧ EqB [c] [10] 1 ∧ True ∧ True)) := by
  cases b <;> (intro W X l'; kernel_rfl)
/-! S301 -/
/-! ### StringIO.read(1) -/
noncomputable def ctxR (a : Ar) (o : OutA) (q : Pos) (sio : Nat) (τ : Nat) : Ctx := ctxOf (.call (.ref 540) ⟨[.ref sio, .int 1 τ], []⟩) ((wCode a.L, q) :: a.W o)
noncomputable def runR (W : World) (O : Orc) (a : Ar) (o : OutA) (q : Pos) (τ sio e : Nat) (sk : Nat → Nat) (nl : Nat) (buf : Str) (τb : Nat) (pos : Int) (τp : Nat) (fuel : Nat) (hs : List Nat) (N t : Nat) (p : Pos) (nv : Nv) : Out :=
  runC (cfgW W (conO O)) fuel (ctxR a o q sio τ) p hs [(sio, inst 594 e), (e, sioD W.params sk nl (.str buf τb) (.int pos τp))] N t nv
theorem r1 (w : World) (b b2 : Bool) (O : Orc) (a : Ar) (o : OutA) (q : Pos) (τ sio e : Nat) (sk : Nat → Nat) (nl : Nat) (buf : Str) (τb : Nat) (pos : Int) (τp : Nat) (N t : Nat) (p : Pos) (nv : Nv) :
    let W := wld w b b2
    let X := runR W O a o q τ sio e sk nl buf τb pos τp 428 [0, 0, 0, 3, 3, 3, 3, 0, 1001, 3, 0, 3, 0, 0, 0, 0, 4, 4, 4, 4, 0, 1001, 0, 0, 4, 0, 0, 0, 0, 0, 0, 4, 0, 0, 0, 0, 0, 0, 4, 4, 4, 0, 0, 4, 0, 0, 0, 0, 4, 3, 3, 3, 1, 0, 0, 0, 0, 0, 0, 0, 1, 0, 0, 0, 0, 0, 0, 0, 1, 0, 0, 0, 0, 1, 2, 0, 0, 0, 0, 5, 5, 0, 1001, 5, 1, 0, 0, 0, 0, 0, 0, 0, 0, 1, 0, 0, 0, 0, 0, 0, 0, 1, 1, 0, 2, 3, 1, 0, 0, 0, 0, 0, 0, 0, 0, 1, 0, 0, 0, 0, 0, 0, 0, 1, 1, 0, 2, 3, 3, 0, 0, 3, 1, 0, 0, 0, 0, 0, 0, 0, 0, 1, 0, 0, 0, 0, 0, 0, 0, 1, 1, 0, 2, 6, 0, 3, 3, 3, 3, 7, 0, 3, 0, 0, 3, 3, 0, 0, 3, 8, 1, 3, 3, 0, 0, 3, 3, 3, 3, 1, 0, 0, 0, 0, 0, 0, 0, 0, 1, 0, 0, 1, 0, 1, 0, 0, 0, 0, 0, 0, 0, 1, 0, 2, 2, 2, 3, 1, 0, 0, 0, 0, 0, 0, 0, 0, 1, 0, 0, 0, 0, 0, 0, 0, 1, 1, 0, 2, 3, 3, 9, 500] N t p nv
    look [0, 1] X = some (.done (.ok (.ret (.str ⟨⟨O.str 0⟩⟩ (rtok X)))), [some (inst 594 e), some (sioD W.params sk nl (.str buf τb) (.int (pos + 1) (vt X 1 2)))], [sio, e], dup (eqsOf X), dupG (gsOf X), dupO (osOf X),
      (SlcB "slice" buf (some (pos, τp)) (some (pos + 1, vt X 1 2)) none (O.str 0) ∧ LtB (pos + 1) buf.length 1 ∧ GeB pos buf.length 0 ∧ LnB buf ∧ True)) := by
  cases b <;> (intro W X; kernel_rfl)
theorem r2 (w : World) (b b2 : Bool) (O : Orc) (a : Ar) (o : OutA) (q : Pos) (τ sio e : Nat) (sk : Nat → Nat) (nl : Nat) (buf : Str) (τb : Nat) (pos : Int) (τp : Nat) (N t : Nat) (p : Pos) (nv : Nv) :
    let W := wld w b b2
    let X := runR W O a o q τ sio e sk nl buf τb pos τp 411 [0, 0, 0, 3, 3, 3, 3, 0, 1001, 3, 0, 3, 0, 0, 0, 0, 4, 4, 4, 4, 0, 1001, 0, 0, 4, 0, 0, 0, 0, 0, 0, 4, 0, 0, 0, 0, 0, 0, 4, 4, 4, 0, 0, 4, 0, 0, 0, 0, 4, 3, 3, 3, 1, 0, 0, 0, 0, 0, 0, 0, 1, 0, 0, 0, 0, 0, 0, 0, 1, 0, 0, 0, 0, 1, 2, 0, 0, 0, 0, 5, 5, 0, 1001, 5, 1, 0, 0, 0, 0, 0, 0, 0, 0, 1, 0, 0, 0, 0, 0, 0, 0, 1, 1, 0, 2, 3, 1, 0, 0, 0, 0, 0, 0, 0, 0, 1, 0, 0, 0, 0, 0, 0, 0, 1, 1, 0, 2, 3, 3, 0, 0, 3, 1, 0, 0, 0, 0, 0, 0, 0, 0, 1, 0, 0, 0, 0, 0, 0, 0, 1, 1, 0, 2, 6, 0, 3, 3, 3, 3, 7, 0, 3, 0, 0, 3, 3, 0, 0, 3, 8, 0, 3, 3, 1, 0, 0, 0, 0, 0, 0, 0, 0, 1, 0, 0, 1, 0, 1, 0, 0, 0, 0, 0, 0, 0, 1, 0, 2, 2, 2, 3, 1, 0, 0, 0, 0, 0, 0, 0, 0, 1, 0, 0, 0, 0, 0, 0, 0, 1, 1, 0, 2, 3, 3, 9, 500] N t p nv
    look [0, 1] X = some (.done (.ok (.ret (.str ⟨⟨O.str 0⟩⟩ (rtok X)))), [some (inst 594 e), some (sioD W.params sk nl (.str buf τb) (.int buf.length (vt X 1 2)))], [sio, e], dup (eqsOf X), dupG (gsOf X), dupO (osOf X),
      (SlcB "slice" buf (some (pos, τp)) (some (buf.length, vt X 1 2)) none (O.str 0) ∧ LtB (pos + 1) buf.length 0 ∧ GeB pos buf.length 0 ∧ LnB buf ∧ True)) := by
  cases b <;> (intro W X; kernel_rfl)
theorem r3 (w : World) (b b2 : Bool) (O : Orc) (a : Ar) (o : OutA) (q : Pos) (τ sio e : Nat) (sk : Nat → Nat) (nl : Nat) (buf : Str) (τb : Nat) (pos : Int) (τp : Nat) (N t : Nat) (p : Pos) (nv : Nv) :
    let W := wld w b b2
    let X := runR W O a o q τ sio e sk nl buf τb pos τp 318 [0, 0, 0, 3, 3, 3, 3, 0, 1001, 3, 0, 3, 0, 0, 0, 0, 4, 4, 4, 4, 0, 1001, 0, 0, 4, 0, 0, 0, 0, 0, 0, 4, 0, 0, 0, 0, 0, 0, 4, 4, 4, 0, 0, 4, 0, 0, 0, 0, 4, 3, 3, 3, 1, 0, 0, 0, 0, 0, 0, 0, 1, 0, 0, 0, 0, 0, 0, 0, 1, 0, 0, 0, 0, 1, 2, 0, 0, 0, 0, 5, 5, 0, 1001, 5, 1, 0, 0, 0, 0, 0, 0, 0, 0, 1, 0, 0, 0, 0, 0, 0, 0, 1, 1, 0, 2, 3, 1, 0, 0, 0, 0, 0, 0, 0, 0, 1, 0, 0, 0, 0, 0, 0, 0, 1, 1, 0, 2, 3, 3, 0, 0, 3, 1, 0, 0, 0, 0, 0, 0, 0, 0, 1, 0, 0, 0, 0, 0, 0, 0, 1, 1, 0, 2, 6, 0, 3, 3, 3, 3, 7, 1] N t p nv
    look [0, 1] X = some (.done (.ok (.ret (.str ⟨⟨[]⟩⟩ (rtok X)))), [some (inst 594 e), some (sioD W.params sk nl (.str buf τb) (.int pos τp))], [sio, e], dup (eqsOf X), dupG (gsOf X), dupO (osOf X),
      (GeB pos buf.length 1 ∧ LnB buf ∧ True)) := by
  cases b <;> (intro W X; kernel_rfl)
/-! S401 -/
/-! ### the executor's word in this program -/
theorem runC_ok {W : World} {con : CF} {s : Shared} {R : Result → Shared → Prop} {l : List (Nat × Obj)} {Γ : Ctx} {p : Pos} {n : Nat} {hs : List Nat} (ext : List Nat)
    (hcon : ConOk (baseOf (kt W.params) 785 l.length s) (MW W) (cfgW W con)) (S : Top W s) (H : Holds s l) (nd : (l.map (·.1)).Nodup) (lo : ∀ x ∈ l, 785 ≤ x.1)
    (e : Nv → End1) (os : Nv → List (Option Obj)) (xs : Nv → List Nat) (ob : Nv → Prop)
    (run : ∀ nv, look (List.range l.length ++ ext) (runC (cfgW W con) n Γ p hs l s.heap.objs.size s.toks nv) = some (e nv, os nv, l.map (·.1) ++ xs nv, dup (eqsOf (runC (cfgW W con) n Γ p hs l s.heap.objs.size s.toks nv)), dupG (gsOf (runC (cfgW W con) n Γ p hs l s.heap.objs.size s.toks nv)), dupO (osOf (runC (cfgW W con) n Γ p hs l s.heap.objs.size s.toks nv)), ob nv))
    (hob : ∀ nv, ob nv) (fin : ∀ nv s', After s s' (l.map (·.1)) (List.range l.length ++ ext) (l.map (·.1) ++ xs nv) (os nv) → EndOk (MW W) R (e nv) s') : wpCode (MW W) Γ R p s := by
  refine run_spec (C := cfgW W con) (ext := ext) (n := n) (hs := hs) (den_ok F W) rfl rfl rfl hcon (lvTree_ok (by show lvF = lvTree; exact lv_eq.symm)) S H nd lo e os xs ob (fun nv => ?_) hob fin
  have := run nv
  unfold runC at this
  rw [show sxF = @sx from sx_eq.symm] at this
  exact this
theorem runL_ok {W : World} {con : CF} {s : Shared} {R : Result → Shared → Prop} {l : List (Nat × Obj)} {Γ : Ctx} {p : Pos} {env : Env} {fl : Bool} {n : Nat} {hs : List Nat} (ext : List Nat)
    (hcon : ConOk (baseOf (kt W.params) 785 l.length s) (MW W) (cfgW W con)) (hl : (lvTree Γ.code).map (·.2) = some (env, fl)) (S : Top W s) (H : Holds s l) (nd : (l.map (·.1)).Nodup) (lo : ∀ x ∈ l, 785 ≤ x.1)
    (e : Nv → End1) (os : Nv → List (Option Obj)) (xs : Nv → List Nat) (ob : Nv → Prop)
    (run : ∀ nv, look (List.range l.length ++ ext) (runL (cfgW W con) n Γ p env fl hs l s.heap.objs.size s.toks nv) = some (e nv, os nv, l.map (·.1) ++ xs nv, dup (eqsOf (runL (cfgW W con) n Γ p env fl hs l s.heap.objs.size s.toks nv)), dupG (gsOf (runL (cfgW W con) n Γ p env fl hs l s.heap.objs.size s.toks nv)), dupO (osOf (runL (cfgW W con) n Γ p env fl hs l s.heap.objs.size s.toks nv)), ob nv))
    (hob : ∀ nv, ob nv) (fin : ∀ nv s', After s s' (l.map (·.1)) (List.range l.length ++ ext) (l.map (·.1) ++ xs nv) (os nv) → EndOk (MW W) R (e nv) s') : wpCode (MW W) Γ R p s := by
  have hlv : (cfgW W con).lvt = lvTree := by show lvF = lvTree; exact lv_eq.symm
  have hl' : (cfgW W con).lvt Γ.code = some (lvOf (cfgW W con) Γ.code, env, fl) := by
    unfold lvOf
    rw [hlv]
    cases h : lvTree Γ.code with
    | none => rw [h] at hl; cases hl
    | some x =>
      obtain ⟨t, e', f'⟩ := x
      rw [h] at hl
      cases hl
      rfl
  refine run_lv (C := cfgW W con) (ext := ext) (n := n) (hs := hs) (den_ok F W) rfl rfl rfl hcon (lvTree_ok hlv) S H nd lo hl' e os xs ob (fun nv => ?_) hob fin
  have := run nv
  unfold runL at this
  rw [show sxF = @sx from sx_eq.symm] at this
  exact this
theorem conO_good {W : World} {s : Shared} {l : Nat} (O : Orc) : ConOk (baseOf (kt W.params) 785 l s) (MW W) (cfgW W (conO O)) :=
  fun j x Γ T m ads tk s p g hg hx _ _ ob D => conO_ok O j x Γ T m ads tk s p g hg hx ob D

/-! ### StringIO.read(1) -/
/-- the sign at a place, and the place behind it -/
noncomputable def rdAt (buf : List Nat) (pos : Nat) : List Nat := (buf.drop pos).take 1
theorem rdAt_lt {buf : List Nat} {pos : Nat} (h : pos < buf.length) : rdAt buf pos = [buf[pos]] := by
  unfold rdAt
  rw [List.drop_eq_getElem_cons h]; rfl
theorem slc_rd {buf : List Nat} {pos n : Nat} (h : pos < buf.length) (hn : n = pos + 1) (hs : buf.length ≤ sizeLine) {τ τ' : Tok} : SlcB "slice" ⟨⟨buf⟩⟩ (some ((pos : Int), τ)) (some ((n : Int), τ')) none (rdAt buf pos) := by
  subst hn
  have e : slicePicked ⟨⟨buf⟩⟩ (some ((pos : Int), τ)) (some (((pos + 1 : Nat) : Int), τ')) none = [pos] := by
    unfold slicePicked
    have := StrLaws.strSliceIndices_plain (a := pos) (b := pos + 1) (len := buf.length) (by omega) (by omega)
    simp only [Option.map_some, Option.map_none, Option.getD_none, Str.length, List.size_toArray] at this ⊢
    rw [this]
    simp [List.range_succ_eq_map]
  refine ⟨rfl, rfl, ?_, by rw [rdAt_lt h]; show 1 ≤ sizeLine; decide⟩
  rw [e, rdAt_lt h]
  split
  · rename_i hw
    have hw : buf.length = 1 := by
      have hw := (Bool.and_eq_true_iff.mp hw).2
      simp [Str.length] at hw
      omega
    obtain ⟨c, rfl⟩ : ∃ c, buf = [c] := by
      match buf, hw with
      | [c], _ => exact ⟨c, rfl⟩
    have : pos = 0 := by simpa using h
    subst this
    rfl
  · simp [h]
noncomputable def orcS (l : List Nat) : Orc := ⟨fun _ => l, fun _ => 0⟩
theorem read_ok {w : World} {b b2 : Bool} {a : Ar} {o : OutA} {q : Pos} {τ : Nat} {x : Lx} {pos τp : Nat} {s : Shared} {p : Pos} (S : Top (wld w b b2) s)
    (H : Holds s [(x.sio, inst 594 x.e), (x.e, sioD (wld w b b2).params x.sk x.nl (.str ⟨⟨x.buf⟩⟩ x.τb) (.int (.ofNat pos) τp))]) (hne : x.sio ≠ x.e) (l1 : 785 ≤ x.sio) (l2 : 785 ≤ x.e) (hb : x.buf.length ≤ sizeLine) :
    wpCode (MW (wld w b b2)) (ctxR a o q x.sio τ) (fun r s' => ∃ ν : Unk, r = .ok (.ret (.str ⟨⟨rdAt x.buf pos⟩⟩ (ν.n 0))) ∧
      Did s s' [(x.e, sioD (wld w b b2).params x.sk x.nl (.str ⟨⟨x.buf⟩⟩ x.τb) (.int (.ofNat (pos + (rdAt x.buf pos).length)) (ν.n 1)))] []) p s := by
  have nd : ([(x.sio, inst 594 x.e), (x.e, sioD (wld w b b2).params x.sk x.nl (.str ⟨⟨x.buf⟩⟩ x.τb) (.int (.ofNat pos) τp))].map (·.1)).Nodup := by simp [hne]
  have lo : ∀ y ∈ [(x.sio, inst 594 x.e), (x.e, sioD (wld w b b2).params x.sk x.nl (.str ⟨⟨x.buf⟩⟩ x.τb) (.int (.ofNat pos) τp))], 785 ≤ y.1 := by
    intro y hy
    simp only [List.mem_cons, List.not_mem_nil, or_false] at hy
    rcases hy with rfl | rfl
    · exact l1
    · exact l2
  have one : ∀ {s' : Shared} {o1 : Obj}, Did s s' [(x.sio, inst 594 x.e), (x.e, o1)] [] → Did s s' [(x.e, o1)] [] := fun {s' o1} D =>
    ⟨⟨fun b o hb hn => by
        by_cases e : b = x.sio
        · subst e
          have h1 := H (x.sio, inst 594 x.e) (by simp)
          have h2 := D.holds (x.sio, inst 594 x.e) (by simp)
          rw [hb] at h1
          cases h1
          exact h2
        · exact D.keep.keep b o hb (by simp only [List.map_cons, List.map_nil, List.mem_cons, List.not_mem_nil, or_false] at hn ⊢; exact fun z => z.elim e hn), D.keep.size, D.keep.gens, D.keep.drawn, D.keep.os⟩,
      fun y hy => D.holds y (List.mem_cons_of_mem _ hy), D.new, D.young, D.nodup⟩
  by_cases h1 : pos < x.buf.length
  · have e1 : pos + (rdAt x.buf pos).length = pos + 1 := by rw [rdAt_lt h1]; rfl
    by_cases h2 : pos + 1 < x.buf.length
    · refine runC_ok [] (conO_good (orcS (rdAt x.buf pos))) S H nd lo _ _ (fun _ => []) _ (fun nv => r1 w b b2 (orcS (rdAt x.buf pos)) a o q τ x.sio x.e x.sk x.nl ⟨⟨x.buf⟩⟩ x.τb (.ofNat pos) τp _ _ p nv) (fun nv => ?_) fun nv s' Af => ?_
      · exact ⟨slc_rd h1 rfl hb, by unfold LtB; simp [bOf, Str.length]; omega, by unfold GeB; simp [bOf, Str.length]; omega, hb, trivial⟩
      · show ∃ ν : Unk, _
        rw [e1]
        exact ⟨unkL [_, _], rfl, one (Af.did _ [] [] rfl rfl rfl (by simp) (by simp) rfl rfl)⟩
    · have e2 : x.buf.length = pos + 1 := by omega
      refine runC_ok [] (conO_good (orcS (rdAt x.buf pos))) S H nd lo _ _ (fun _ => []) _ (fun nv => r2 w b b2 (orcS (rdAt x.buf pos)) a o q τ x.sio x.e x.sk x.nl ⟨⟨x.buf⟩⟩ x.τb (.ofNat pos) τp _ _ p nv) (fun nv => ?_) fun nv s' Af => ?_
      · exact ⟨slc_rd h1 e2 hb, by unfold LtB; simp [bOf, Str.length]; omega, by unfold GeB; simp [bOf, Str.length]; omega, hb, trivial⟩
      · show ∃ ν : Unk, _
        rw [e1, ← e2]
        exact ⟨unkL [_, _], rfl, one (Af.did _ [] [] rfl rfl rfl (by simp) (by simp) rfl rfl)⟩
  · have e1 : rdAt x.buf pos = [] := by unfold rdAt; rw [List.drop_eq_nil_of_le (by omega)]; rfl
    refine runC_ok [] (conO_good orc0) S H nd lo _ _ (fun _ => []) _ (fun nv => r3 w b b2 orc0 a o q τ x.sio x.e x.sk x.nl ⟨⟨x.buf⟩⟩ x.τb (.ofNat pos) τp _ _ p nv) (fun nv => ?_) fun nv s' Af => ?_
    · exact ⟨by unfold GeB; simp [bOf, Str.length]; omega, hb, trivial⟩
    · show ∃ ν : Unk, _
      rw [e1]
      exact ⟨unkL [_, _], rfl, one (Af.did _ [] [] rfl rfl rfl (by simp) (by simp) rfl rfl)⟩
/-! S501 -/
/-! ### the turns in words of states -/
noncomputable def adL (a : Ar) (o : OutA) (x : Lx) : List Nat := [a.lex, x.d, x.sio, x.e, a.L, a.Lg, a.Ln, a.Ls] ++ outA o
structure Fx (a : Ar) (o : OutA) (x : Lx) : Prop where
  nd : (adL a o x).Nodup
  lo : ∀ y ∈ adL a o x, 785 ≤ y
  hb : x.buf.length ≤ sizeLine
theorem Fx.lo' {a : Ar} {o : OutA} {x : Lx} (F : Fx a o x) {l : List (Nat × Obj)} (h : l.map (·.1) = adL a o x := by rfl) : ∀ y ∈ l, 785 ≤ y.1 := fun y hy => F.lo _ (h ▸ List.mem_map.mpr ⟨y, hy, rfl⟩)
theorem rep_sane {W : World} {s₀ s : Shared} {l m tk : Nat} {T : BT} {ads : Ads} (D : Rep (baseOf (kt W.params) 785 l s₀) s T m ads tk) : Top W s := ⟨D.kt, by have := D.top; rw [← D.size] at this; exact this⟩
theorem conW_ok {w : World} {b b2 : Bool} {a : Ar} {o : OutA} {x : Lx} (F : Fx a o x) {pos τp : Nat} (c : List Nat) (hc : c = rdAt x.buf pos) (pos' : Nat) (hp : pos' = pos + c.length) {l : Nat} {s₀ : Shared} :
    ConOk (baseOf (kt (wld w b b2).params) 785 l s₀) (MW (wld w b b2)) (cfgW (wld w b b2) (conW (wld w b b2).params a o x pos τp c pos')) := by
  intro j y Γ T m ads tk s p g hg hx hn ho ob D
  obtain ⟨c0, e1, e2, bel, e3⟩ := Γ
  replace hg : conW (wld w b b2).params a o x pos τp c pos' j y ⟨c0, e1, e2, bel, e3⟩ c0 T ads = some g := hg
  unfold conW at hg
  split at hg
  · cases hg
    obtain ⟨h1, h2⟩ := conS_holds D hn ho
    generalize hq : posAt bel = q at hx
    simp only [conS, hq] at hx
    rw [hx]
    have nd := F.nd
    have lo := F.lo
    have hne : x.sio ≠ x.e := by
      intro e
      simp [adL, e] at nd
    refine wpCode_mono (fun r s' h => ?_) (read_ok (q := q) (rep_sane D) h1 hne (lo _ (by simp [adL])) (lo _ (by simp [adL])) F.hb)
    obtain ⟨ν, hr, hD⟩ := h
    rw [← hc, ← hp] at hD
    rw [← hc] at hr
    refine conS_left D ν r hr _ _ hD ?_ (fun z hz => ?_) rfl (fun k hk => absurd hk (Nat.not_lt_zero _))
    · have := (h2 (3, x.e, _) (List.mem_cons_of_mem _ (List.mem_cons_self ..))).2
      show [(x.e, _)] = [(adOf _ 3, _)]
      rw [← this]
    · simp only [List.mem_singleton] at hz
      subst hz
      exact (h2 (3, x.e, _) (List.mem_cons_of_mem _ (List.mem_cons_self ..))).1
  · exact conB_ok _ _ _ _ _ _ _ _ _ _ hg hx ob D
  · cases hg
theorem t0bc_ok {w : World} {b b2 : Bool} {a : Ar} {o : OutA} {x : Lx} (F : Fx a o x) {g : Nat → FrO} {fk : Nat → Nat} {et : Nat} {sl : Array (Option Value)} {τs ln τl τt pos τp : Nat} {c : Nat} {s : Shared} {p : Pos} {R : Result → Shared → Prop} (S : Top (wld w b b2) s)
    (hc : rdAt x.buf pos = [c]) (hob : InB wordL c 1 ∧ InB [92] c 0 ∧ InB [] c 0 ∧ InB [32, 9, 13, 10] c 0 ∧ LnB ⟨⟨[c]⟩⟩ ∧ EqB [c] [10] 0 ∧ True ∧ True) (H : Holds s (lxL (wld w b b2).params a.lex x (stV 32 τs) ln τl ⟨⟨[]⟩⟩ τt pos τp ++ (a.L, frW (wld w b b2).params a.lex fk et sl false none) :: frs a o g))
    (next : ∀ (τs2 τl2 τt2 τp2 κ2 τn2 : Nat) (p' : Pos) (s' : Shared), Did s s' (lxL (wld w b b2).params a.lex x (stV 97 τs2) ln τl2 ⟨⟨[c]⟩⟩ τt2 (pos + 1) τp2 ++ (a.L, frW (wld w b b2).params a.lex (setK fk 3 κ2) et sl false (some ([c], τn2))) :: frs a o g) [] → wpCode (MW (wld w b b2)) (ctxOf (wCode a.L) (a.W o)) R p' s') : wpCode (MW (wld w b b2)) (ctxOf (wCode a.L) (a.W o)) R p s := by
  refine runL_ok [] (conW_ok F [c] hc.symm (pos + 1) rfl) rfl S H F.nd F.lo' _ _ (fun _ => []) _ (fun nv => t0bc w b b2 a o x g fk et sl τs ln τl τt pos τp _ ([], 0) 0 [] false c  _ _ p nv) (fun _ => hob) fun nv s' Af => ?_
  try dsimp only at Af
  generalize runW _ _ _ _ _ _ _ _ _ _ _ _ _ _ _ = X at Af
  exact next (vt X 1 11) (vt X 1 13) (vt X 1 15) (vt X 3 2) (ktk X 4 3) (vt X 4 3) _ s' (Af.did _ [] [] rfl rfl rfl (by simp) (by simp) rfl rfl)
theorem t1awn_ok {w : World} {b b2 : Bool} {a : Ar} {o : OutA} {x : Lx} (F : Fx a o x) {g : Nat → FrO} {fk : Nat → Nat} {et : Nat} {sl : Array (Option Value)} {τs ln τl τt pos τp : Nat} {nc : List Nat × Nat} {a0 : Nat} {tok : List Nat} {qd : Bool} {c : Nat} {s : Shared} {p : Pos} {R : Result → Shared → Prop} (S : Top (wld w b b2) s)
    (hc : rdAt x.buf pos = [c]) (hob : LnB ⟨⟨a0 :: tok⟩⟩ ∧ InB [32, 9, 13, 10] c 1 ∧ LnB ⟨⟨[c]⟩⟩ ∧ TupB "tuple" ⟨⟨[97]⟩⟩ ⟨⟨[97]⟩⟩ ∧ EqB [c] [10] 0 ∧ True ∧ True) (H : Holds s (lxL (wld w b b2).params a.lex x (stV 97 τs) ln τl ⟨⟨(a0 :: tok)⟩⟩ τt pos τp ++ (a.L, frW (wld w b b2).params a.lex fk et sl qd (some nc)) :: frs a o g))
    (next : ∀ (τs2 τl2 τt2 τp2 κ2 τn2 : Nat) (s' : Shared), Did s s' (lxL (wld w b b2).params a.lex x (stV 32 τs2) ln τl2 ⟨⟨(a0 :: tok)⟩⟩ τt2 (pos + 1) τp2 ++ (a.L, frW (wld w b b2).params a.lex (setK fk 3 κ2) et sl qd (some ([c], τn2))) :: frs a o g) [] → R (.ok .next) s') : wpCode (MW (wld w b b2)) (ctxOf (wCode a.L) (a.W o)) R p s := by
  refine runL_ok [] (conW_ok F [c] hc.symm (pos + 1) rfl) rfl S H F.nd F.lo' _ _ (fun _ => []) _ (fun nv => t1awn w b b2 a o x g fk et sl τs ln τl τt pos τp _ nc a0 tok qd c  _ _ p nv) (fun _ => hob) fun nv s' Af => ?_
  try dsimp only at Af
  generalize runW _ _ _ _ _ _ _ _ _ _ _ _ _ _ _ = X at Af
  exact next (vt X 1 11) (vt X 1 13) (vt X 1 15) (vt X 3 2) (ktk X 4 3) (vt X 4 3) s' (Af.did _ [] [] rfl rfl rfl (by simp) (by simp) rfl rfl)
theorem t0bw_ok {w : World} {b b2 : Bool} {a : Ar} {o : OutA} {x : Lx} (F : Fx a o x) {g : Nat → FrO} {fk : Nat → Nat} {et : Nat} {sl : Array (Option Value)} {τs ln τl τt pos τp : Nat} {c : Nat} {s : Shared} {p : Pos} {R : Result → Shared → Prop} (S : Top (wld w b b2) s)
    (hc : rdAt x.buf pos = [c]) (hob : InB [32, 9, 13, 10] c 1 ∧ LnB ⟨⟨[c]⟩⟩ ∧ EqB [c] [10] 0 ∧ True ∧ True) (H : Holds s (lxL (wld w b b2).params a.lex x (stV 32 τs) ln τl ⟨⟨[]⟩⟩ τt pos τp ++ (a.L, frW (wld w b b2).params a.lex fk et sl false none) :: frs a o g))
    (next : ∀ (τs2 τl2 τt2 τp2 κ2 τn2 : Nat) (p' : Pos) (s' : Shared), Did s s' (lxL (wld w b b2).params a.lex x (stV 32 τs2) ln τl2 ⟨⟨[]⟩⟩ τt2 (pos + 1) τp2 ++ (a.L, frW (wld w b b2).params a.lex (setK fk 3 κ2) et sl false (some ([c], τn2))) :: frs a o g) [] → wpCode (MW (wld w b b2)) (ctxOf (wCode a.L) (a.W o)) R p' s') : wpCode (MW (wld w b b2)) (ctxOf (wCode a.L) (a.W o)) R p s := by
  refine runL_ok [] (conW_ok F [c] hc.symm (pos + 1) rfl) rfl S H F.nd F.lo' _ _ (fun _ => []) _ (fun nv => t0bw w b b2 a o x g fk et sl τs ln τl τt pos τp _ ([], 0) 0 [] false c  _ _ p nv) (fun _ => hob) fun nv s' Af => ?_
  try dsimp only at Af
  generalize runW _ _ _ _ _ _ _ _ _ _ _ _ _ _ _ = X at Af
  exact next (vt X 1 11) (vt X 1 13) (vt X 1 15) (vt X 3 2) (ktk X 4 3) (vt X 4 3) _ s' (Af.did _ [] [] rfl rfl rfl (by simp) (by simp) rfl rfl)
theorem t1bo_ok {w : World} {b b2 : Bool} {a : Ar} {o : OutA} {x : Lx} (F : Fx a o x) {g : Nat → FrO} {fk : Nat → Nat} {et : Nat} {sl : Array (Option Value)} {τs ln τl τt pos τp : Nat} {nc : List Nat × Nat} {c : Nat} {s : Shared} {p : Pos} {R : Result → Shared → Prop} (S : Top (wld w b b2) s)
    (hc : rdAt x.buf pos = [c]) (hob : InB [39, 34] c 0 ∧ InB [] c 0 ∧ InB wordL c 0 ∧ InB [92] c 0 ∧ InB [] c 0 ∧ InB [32, 9, 13, 10] c 0 ∧ LnB ⟨⟨[c]⟩⟩ ∧ EqB [c] [10] 0 ∧ True ∧ True) (H : Holds s (lxL (wld w b b2).params a.lex x (stV 32 τs) ln τl ⟨⟨[]⟩⟩ τt pos τp ++ (a.L, frW (wld w b b2).params a.lex fk et sl false (some nc)) :: frs a o g))
    (next : ∀ (τs2 τl2 τt2 τp2 κ2 τn2 : Nat) (p' : Pos) (s' : Shared), Did s s' (lxL (wld w b b2).params a.lex x (stV 97 τs2) ln τl2 ⟨⟨[c]⟩⟩ τt2 (pos + 1) τp2 ++ (a.L, frW (wld w b b2).params a.lex (setK fk 3 κ2) et sl false (some ([c], τn2))) :: frs a o g) [] → wpCode (MW (wld w b b2)) (ctxOf (wCode a.L) (a.W o)) R p' s') : wpCode (MW (wld w b b2)) (ctxOf (wCode a.L) (a.W o)) R p s := by
  refine runL_ok [] (conW_ok F [c] hc.symm (pos + 1) rfl) rfl S H F.nd F.lo' _ _ (fun _ => []) _ (fun nv => t1bo w b b2 a o x g fk et sl τs ln τl τt pos τp _ nc 0 [] false c  _ _ p nv) (fun _ => hob) fun nv s' Af => ?_
  try dsimp only at Af
  generalize runW _ _ _ _ _ _ _ _ _ _ _ _ _ _ _ = X at Af
  exact next (vt X 1 11) (vt X 1 13) (vt X 1 15) (vt X 3 2) (ktk X 4 3) (vt X 4 3) _ s' (Af.did _ [] [] rfl rfl rfl (by simp) (by simp) rfl rfl)
theorem t1ac_ok {w : World} {b b2 : Bool} {a : Ar} {o : OutA} {x : Lx} (F : Fx a o x) {g : Nat → FrO} {fk : Nat → Nat} {et : Nat} {sl : Array (Option Value)} {τs ln τl τt pos τp : Nat} {nc : List Nat × Nat} {tok : List Nat} {qd : Bool} {c : Nat} {s : Shared} {p : Pos} {R : Result → Shared → Prop} (S : Top (wld w b b2) s)
    (hc : rdAt x.buf pos = [c]) (hob : LeB ⟨⟨tok⟩⟩ ⟨⟨[c]⟩⟩ ∧ InB wordL c 1 ∧ InB [92] c 0 ∧ InB [39, 34] c 0 ∧ InB [] c 0 ∧ InB [32, 9, 13, 10] c 0 ∧ LnB ⟨⟨[c]⟩⟩ ∧ TupB "tuple" ⟨⟨[97]⟩⟩ ⟨⟨[97]⟩⟩ ∧ EqB [c] [10] 0 ∧ True ∧ True) (H : Holds s (lxL (wld w b b2).params a.lex x (stV 97 τs) ln τl ⟨⟨tok⟩⟩ τt pos τp ++ (a.L, frW (wld w b b2).params a.lex fk et sl qd (some nc)) :: frs a o g))
    (next : ∀ (τs2 τl2 τt2 τp2 κ2 τn2 : Nat) (p' : Pos) (s' : Shared), Did s s' (lxL (wld w b b2).params a.lex x (stV 97 τs2) ln τl2 (⟨⟨tok⟩⟩ ++ ⟨⟨[c]⟩⟩) τt2 (pos + 1) τp2 ++ (a.L, frW (wld w b b2).params a.lex (setK fk 3 κ2) et sl qd (some ([c], τn2))) :: frs a o g) [] → wpCode (MW (wld w b b2)) (ctxOf (wCode a.L) (a.W o)) R p' s') : wpCode (MW (wld w b b2)) (ctxOf (wCode a.L) (a.W o)) R p s := by
  refine runL_ok [] (conW_ok F [c] hc.symm (pos + 1) rfl) rfl S H F.nd F.lo' _ _ (fun _ => []) _ (fun nv => t1ac w b b2 a o x g fk et sl τs ln τl τt pos τp _ nc 0 tok qd c  _ _ p nv) (fun _ => hob) fun nv s' Af => ?_
  try dsimp only at Af
  generalize runW _ _ _ _ _ _ _ _ _ _ _ _ _ _ _ = X at Af
  exact next (vt X 1 11) (vt X 1 13) (vt X 1 15) (vt X 3 2) (ktk X 4 3) (vt X 4 3) _ s' (Af.did _ [] [] rfl rfl rfl (by simp) (by simp) rfl rfl)
theorem t1aln_ok {w : World} {b b2 : Bool} {a : Ar} {o : OutA} {x : Lx} (F : Fx a o x) {g : Nat → FrO} {fk : Nat → Nat} {et : Nat} {sl : Array (Option Value)} {τs ln τl τt pos τp : Nat} {nc : List Nat × Nat} {a0 : Nat} {tok : List Nat} {qd : Bool} {c : Nat} {s : Shared} {p : Pos} {R : Result → Shared → Prop} (S : Top (wld w b b2) s)
    (hc : rdAt x.buf pos = [c]) (hob : LnB ⟨⟨a0 :: tok⟩⟩ ∧ InB [32, 9, 13, 10] c 1 ∧ LnB ⟨⟨[c]⟩⟩ ∧ TupB "tuple" ⟨⟨[97]⟩⟩ ⟨⟨[97]⟩⟩ ∧ EqB [c] [10] 1 ∧ True ∧ True) (H : Holds s (lxL (wld w b b2).params a.lex x (stV 97 τs) ln τl ⟨⟨(a0 :: tok)⟩⟩ τt pos τp ++ (a.L, frW (wld w b b2).params a.lex fk et sl qd (some nc)) :: frs a o g))
    (next : ∀ (τs2 τl2 τt2 τp2 κ2 τn2 : Nat) (s' : Shared), Did s s' (lxL (wld w b b2).params a.lex x (stV 32 τs2) (ln + 1) τl2 ⟨⟨(a0 :: tok)⟩⟩ τt2 (pos + 1) τp2 ++ (a.L, frW (wld w b b2).params a.lex (setK fk 3 κ2) et sl qd (some ([c], τn2))) :: frs a o g) [] → R (.ok .next) s') : wpCode (MW (wld w b b2)) (ctxOf (wCode a.L) (a.W o)) R p s := by
  refine runL_ok [] (conW_ok F [c] hc.symm (pos + 1) rfl) rfl S H F.nd F.lo' _ _ (fun _ => []) _ (fun nv => t1aln w b b2 a o x g fk et sl τs ln τl τt pos τp _ nc a0 tok qd c  _ _ p nv) (fun _ => hob) fun nv s' Af => ?_
  try dsimp only at Af
  generalize runW _ _ _ _ _ _ _ _ _ _ _ _ _ _ _ = X at Af
  exact next (vt X 1 11) (vt X 1 13) (vt X 1 15) (vt X 3 2) (ktk X 4 3) (vt X 4 3) s' (Af.did _ [] [] rfl rfl rfl (by simp) (by simp) rfl rfl)
theorem t0bl_ok {w : World} {b b2 : Bool} {a : Ar} {o : OutA} {x : Lx} (F : Fx a o x) {g : Nat → FrO} {fk : Nat → Nat} {et : Nat} {sl : Array (Option Value)} {τs ln τl τt pos τp : Nat} {c : Nat} {s : Shared} {p : Pos} {R : Result → Shared → Prop} (S : Top (wld w b b2) s)
    (hc : rdAt x.buf pos = [c]) (hob : InB [32, 9, 13, 10] c 1 ∧ LnB ⟨⟨[c]⟩⟩ ∧ EqB [c] [10] 1 ∧ True ∧ True) (H : Holds s (lxL (wld w b b2).params a.lex x (stV 32 τs) ln τl ⟨⟨[]⟩⟩ τt pos τp ++ (a.L, frW (wld w b b2).params a.lex fk et sl false none) :: frs a o g))
    (next : ∀ (τs2 τl2 τt2 τp2 κ2 τn2 : Nat) (p' : Pos) (s' : Shared), Did s s' (lxL (wld w b b2).params a.lex x (stV 32 τs2) (ln + 1) τl2 ⟨⟨[]⟩⟩ τt2 (pos + 1) τp2 ++ (a.L, frW (wld w b b2).params a.lex (setK fk 3 κ2) et sl false (some ([c], τn2))) :: frs a o g) [] → wpCode (MW (wld w b b2)) (ctxOf (wCode a.L) (a.W o)) R p' s') : wpCode (MW (wld w b b2)) (ctxOf (wCode a.L) (a.W o)) R p s := by
  refine runL_ok [] (conW_ok F [c] hc.symm (pos + 1) rfl) rfl S H F.nd F.lo' _ _ (fun _ => []) _ (fun nv => t0bl w b b2 a o x g fk et sl τs ln τl τt pos τp _ ([], 0) 0 [] false c  _ _ p nv) (fun _ => hob) fun nv s' Af => ?_
  try dsimp only at Af
  generalize runW _ _ _ _ _ _ _ _ _ _ _ _ _ _ _ = X at Af
  exact next (vt X 1 11) (vt X 1 13) (vt X 1 15) (vt X 3 2) (ktk X 4 3) (vt X 4 3) _ s' (Af.did _ [] [] rfl rfl rfl (by simp) (by simp) rfl rfl)
theorem t1bl_ok {w : World} {b b2 : Bool} {a : Ar} {o : OutA} {x : Lx} (F : Fx a o x) {g : Nat → FrO} {fk : Nat → Nat} {et : Nat} {sl : Array (Option Value)} {τs ln τl τt pos τp : Nat} {nc : List Nat × Nat} {c : Nat} {s : Shared} {p : Pos} {R : Result → Shared → Prop} (S : Top (wld w b b2) s)
    (hc : rdAt x.buf pos = [c]) (hob : InB [32, 9, 13, 10] c 1 ∧ LnB ⟨⟨[c]⟩⟩ ∧ EqB [c] [10] 1 ∧ True ∧ True) (H : Holds s (lxL (wld w b b2).params a.lex x (stV 32 τs) ln τl ⟨⟨[]⟩⟩ τt pos τp ++ (a.L, frW (wld w b b2).params a.lex fk et sl false (some nc)) :: frs a o g))
    (next : ∀ (τs2 τl2 τt2 τp2 κ2 τn2 : Nat) (p' : Pos) (s' : Shared), Did s s' (lxL (wld w b b2).params a.lex x (stV 32 τs2) (ln + 1) τl2 ⟨⟨[]⟩⟩ τt2 (pos + 1) τp2 ++ (a.L, frW (wld w b b2).params a.lex (setK fk 3 κ2) et sl false (some ([c], τn2))) :: frs a o g) [] → wpCode (MW (wld w b b2)) (ctxOf (wCode a.L) (a.W o)) R p' s') : wpCode (MW (wld w b b2)) (ctxOf (wCode a.L) (a.W o)) R p s := by
  refine runL_ok [] (conW_ok F [c] hc.symm (pos + 1) rfl) rfl S H F.nd F.lo' _ _ (fun _ => []) _ (fun nv => t1bl w b b2 a o x g fk et sl τs ln τl τt pos τp _ nc 0 [] false c  _ _ p nv) (fun _ => hob) fun nv s' Af => ?_
  try dsimp only at Af
  generalize runW _ _ _ _ _ _ _ _ _ _ _ _ _ _ _ = X at Af
  exact next (vt X 1 11) (vt X 1 13) (vt X 1 15) (vt X 3 2) (ktk X 4 3) (vt X 4 3) _ s' (Af.did _ [] [] rfl rfl rfl (by simp) (by simp) rfl rfl)
theorem t1bc_ok {w : World} {b b2 : Bool} {a : Ar} {o : OutA} {x : Lx} (F : Fx a o x) {g : Nat → FrO} {fk : Nat → Nat} {et : Nat} {sl : Array (Option Value)} {τs ln τl τt pos τp : Nat} {nc : List Nat × Nat} {c : Nat} {s : Shared} {p : Pos} {R : Result → Shared → Prop} (S : Top (wld w b b2) s)
    (hc : rdAt x.buf pos = [c]) (hob : InB wordL c 1 ∧ InB [92] c 0 ∧ InB [] c 0 ∧ InB [32, 9, 13, 10] c 0 ∧ LnB ⟨⟨[c]⟩⟩ ∧ EqB [c] [10] 0 ∧ True ∧ True) (H : Holds s (lxL (wld w b b2).params a.lex x (stV 32 τs) ln τl ⟨⟨[]⟩⟩ τt pos τp ++ (a.L, frW (wld w b b2).params a.lex fk et sl false (some nc)) :: frs a o g))
    (next : ∀ (τs2 τl2 τt2 τp2 κ2 τn2 : Nat) (p' : Pos) (s' : Shared), Did s s' (lxL (wld w b b2).params a.lex x (stV 97 τs2) ln τl2 ⟨⟨[c]⟩⟩ τt2 (pos + 1) τp2 ++ (a.L, frW (wld w b b2).params a.lex (setK fk 3 κ2) et sl false (some ([c], τn2))) :: frs a o g) [] → wpCode (MW (wld w b b2)) (ctxOf (wCode a.L) (a.W o)) R p' s') : wpCode (MW (wld w b b2)) (ctxOf (wCode a.L) (a.W o)) R p s := by
  refine runL_ok [] (conW_ok F [c] hc.symm (pos + 1) rfl) rfl S H F.nd F.lo' _ _ (fun _ => []) _ (fun nv => t1bc w b b2 a o x g fk et sl τs ln τl τt pos τp _ nc 0 [] false c  _ _ p nv) (fun _ => hob) fun nv s' Af => ?_
  try dsimp only at Af
  generalize runW _ _ _ _ _ _ _ _ _ _ _ _ _ _ _ = X at Af
  exact next (vt X 1 11) (vt X 1 13) (vt X 1 15) (vt X 3 2) (ktk X 4 3) (vt X 4 3) _ s' (Af.did _ [] [] rfl rfl rfl (by simp) (by simp) rfl rfl)
theorem t0be_ok {w : World} {b b2 : Bool} {a : Ar} {o : OutA} {x : Lx} (F : Fx a o x) {g : Nat → FrO} {fk : Nat → Nat} {et : Nat} {sl : Array (Option Value)} {τs ln τl τt pos τp : Nat} {s : Shared} {p : Pos} {R : Result → Shared → Prop} (S : Top (wld w b b2) s)
    (hc : rdAt x.buf pos = []) (hob : True ∧ True) (H : Holds s (lxL (wld w b b2).params a.lex x (stV 32 τs) ln τl ⟨⟨[]⟩⟩ τt pos τp ++ (a.L, frW (wld w b b2).params a.lex fk et sl false none) :: frs a o g))
    (next : ∀ (τs2 τl2 τt2 τp2 κ2 τn2 : Nat) (s' : Shared), Did s s' (lxL (wld w b b2).params a.lex x (stV 0 τs2) ln τl2 ⟨⟨[]⟩⟩ τt2 pos τp2 ++ (a.L, frW (wld w b b2).params a.lex (setK fk 3 κ2) et sl false (some ([], τn2))) :: frs a o g) [] → R (.ok .next) s') : wpCode (MW (wld w b b2)) (ctxOf (wCode a.L) (a.W o)) R p s := by
  refine runL_ok [] (conW_ok F [] hc.symm pos rfl) rfl S H F.nd F.lo' _ _ (fun _ => []) _ (fun nv => t0be w b b2 a o x g fk et sl τs ln τl τt pos τp _ ([], 0) 0 [] false 0  _ _ p nv) (fun _ => hob) fun nv s' Af => ?_
  try dsimp only at Af
  generalize runW _ _ _ _ _ _ _ _ _ _ _ _ _ _ _ = X at Af
  exact next (vt X 1 11) (vt X 1 13) (vt X 1 15) (vt X 3 2) (ktk X 4 3) (vt X 4 3) s' (Af.did _ [] [] rfl rfl rfl (by simp) (by simp) rfl rfl)
theorem t1ao_ok {w : World} {b b2 : Bool} {a : Ar} {o : OutA} {x : Lx} (F : Fx a o x) {g : Nat → FrO} {fk : Nat → Nat} {et : Nat} {sl : Array (Option Value)} {τs ln τl τt pos τp : Nat} {nc : List Nat × Nat} {tok : List Nat} {qd : Bool} {c : Nat} {s : Shared} {p : Pos} {R : Result → Shared → Prop} (S : Top (wld w b b2) s)
    (hc : rdAt x.buf pos = [c]) (hob : LeB ⟨⟨tok⟩⟩ ⟨⟨[c]⟩⟩ ∧ InB [] c 0 ∧ InB [39, 34] c 0 ∧ InB wordL c 0 ∧ InB [92] c 0 ∧ InB [39, 34] c 0 ∧ InB [] c 0 ∧ InB [32, 9, 13, 10] c 0 ∧ LnB ⟨⟨[c]⟩⟩ ∧ TupB "tuple" ⟨⟨[97]⟩⟩ ⟨⟨[97]⟩⟩ ∧ EqB [c] [10] 0 ∧ True ∧ True) (H : Holds s (lxL (wld w b b2).params a.lex x (stV 97 τs) ln τl ⟨⟨tok⟩⟩ τt pos τp ++ (a.L, frW (wld w b b2).params a.lex fk et sl qd (some nc)) :: frs a o g))
    (next : ∀ (τs2 τl2 τt2 τp2 κ2 τn2 : Nat) (p' : Pos) (s' : Shared), Did s s' (lxL (wld w b b2).params a.lex x (stV 97 τs2) ln τl2 (⟨⟨tok⟩⟩ ++ ⟨⟨[c]⟩⟩) τt2 (pos + 1) τp2 ++ (a.L, frW (wld w b b2).params a.lex (setK fk 3 κ2) et sl qd (some ([c], τn2))) :: frs a o g) [] → wpCode (MW (wld w b b2)) (ctxOf (wCode a.L) (a.W o)) R p' s') : wpCode (MW (wld w b b2)) (ctxOf (wCode a.L) (a.W o)) R p s := by
  refine runL_ok [] (conW_ok F [c] hc.symm (pos + 1) rfl) rfl S H F.nd F.lo' _ _ (fun _ => []) _ (fun nv => t1ao w b b2 a o x g fk et sl τs ln τl τt pos τp _ nc 0 tok qd c  _ _ p nv) (fun _ => hob) fun nv s' Af => ?_
  try dsimp only at Af
  generalize runW _ _ _ _ _ _ _ _ _ _ _ _ _ _ _ = X at Af
  exact next (vt X 1 11) (vt X 1 13) (vt X 1 15) (vt X 3 2) (ktk X 4 3) (vt X 4 3) _ s' (Af.did _ [] [] rfl rfl rfl (by simp) (by simp) rfl rfl)
theorem t1bw_ok {w : World} {b b2 : Bool} {a : Ar} {o : OutA} {x : Lx} (F : Fx a o x) {g : Nat → FrO} {fk : Nat → Nat} {et : Nat} {sl : Array (Option Value)} {τs ln τl τt pos τp : Nat} {nc : List Nat × Nat} {c : Nat} {s : Shared} {p : Pos} {R : Result → Shared → Prop} (S : Top (wld w b b2) s)
    (hc : rdAt x.buf pos = [c]) (hob : InB [32, 9, 13, 10] c 1 ∧ LnB ⟨⟨[c]⟩⟩ ∧ EqB [c] [10] 0 ∧ True ∧ True) (H : Holds s (lxL (wld w b b2).params a.lex x (stV 32 τs) ln τl ⟨⟨[]⟩⟩ τt pos τp ++ (a.L, frW (wld w b b2).params a.lex fk et sl false (some nc)) :: frs a o g))
    (next : ∀ (τs2 τl2 τt2 τp2 κ2 τn2 : Nat) (p' : Pos) (s' : Shared), Did s s' (lxL (wld w b b2).params a.lex x (stV 32 τs2) ln τl2 ⟨⟨[]⟩⟩ τt2 (pos + 1) τp2 ++ (a.L, frW (wld w b b2).params a.lex (setK fk 3 κ2) et sl false (some ([c], τn2))) :: frs a o g) [] → wpCode (MW (wld w b b2)) (ctxOf (wCode a.L) (a.W o)) R p' s') : wpCode (MW (wld w b b2)) (ctxOf (wCode a.L) (a.W o)) R p s := by
  refine runL_ok [] (conW_ok F [c] hc.symm (pos + 1) rfl) rfl S H F.nd F.lo' _ _ (fun _ => []) _ (fun nv => t1bw w b b2 a o x g fk et sl τs ln τl τt pos τp _ nc 0 [] false c  _ _ p nv) (fun _ => hob) fun nv s' Af => ?_
  try dsimp only at Af
  generalize runW _ _ _ _ _ _ _ _ _ _ _ _ _ _ _ = X at Af
  exact next (vt X 1 11) (vt X 1 13) (vt X 1 15) (vt X 3 2) (ktk X 4 3) (vt X 4 3) _ s' (Af.did _ [] [] rfl rfl rfl (by simp) (by simp) rfl rfl)
theorem t1ae_ok {w : World} {b b2 : Bool} {a : Ar} {o : OutA} {x : Lx} (F : Fx a o x) {g : Nat → FrO} {fk : Nat → Nat} {et : Nat} {sl : Array (Option Value)} {τs ln τl τt pos τp : Nat} {nc : List Nat × Nat} {tok : List Nat} {qd : Bool} {s : Shared} {p : Pos} {R : Result → Shared → Prop} (S : Top (wld w b b2) s)
    (hc : rdAt x.buf pos = []) (hob : TupB "tuple" ⟨⟨[97]⟩⟩ ⟨⟨[97]⟩⟩ ∧ True ∧ True) (H : Holds s (lxL (wld w b b2).params a.lex x (stV 97 τs) ln τl ⟨⟨tok⟩⟩ τt pos τp ++ (a.L, frW (wld w b b2).params a.lex fk et sl qd (some nc)) :: frs a o g))
    (next : ∀ (τs2 τl2 τt2 τp2 κ2 τn2 : Nat) (s' : Shared), Did s s' (lxL (wld w b b2).params a.lex x (stV 0 τs2) ln τl2 ⟨⟨tok⟩⟩ τt2 pos τp2 ++ (a.L, frW (wld w b b2).params a.lex (setK fk 3 κ2) et sl qd (some ([], τn2))) :: frs a o g) [] → R (.ok .next) s') : wpCode (MW (wld w b b2)) (ctxOf (wCode a.L) (a.W o)) R p s := by
  refine runL_ok [] (conW_ok F [] hc.symm pos rfl) rfl S H F.nd F.lo' _ _ (fun _ => []) _ (fun nv => t1ae w b b2 a o x g fk et sl τs ln τl τt pos τp _ nc 0 tok qd 0  _ _ p nv) (fun _ => hob) fun nv s' Af => ?_
  try dsimp only at Af
  generalize runW _ _ _ _ _ _ _ _ _ _ _ _ _ _ _ = X at Af
  exact next (vt X 1 11) (vt X 1 13) (vt X 1 15) (vt X 3 2) (ktk X 4 3) (vt X 4 3) s' (Af.did _ [] [] rfl rfl rfl (by simp) (by simp) rfl rfl)
theorem t0nx_ok {w : World} {b b2 : Bool} {a : Ar} {o : OutA} {x : Lx} (F : Fx a o x) {g : Nat → FrO} {fk : Nat → Nat} {et : Nat} {sl : Array (Option Value)} {τs ln τl τt pos τp : Nat} {s : Shared} {p : Pos} {R : Result → Shared → Prop} (S : Top (wld w b b2) s)
    (hc : rdAt x.buf pos = []) (hob : True ∧ True) (H : Holds s (lxL (wld w b b2).params a.lex x (stV 0 τs) ln τl ⟨⟨[]⟩⟩ τt pos τp ++ (a.L, frW (wld w b b2).params a.lex fk et sl false none) :: frs a o g))
    (next : ∀ (τs2 τl2 τt2 τp2 κ2 τn2 : Nat) (s' : Shared), Did s s' (lxL (wld w b b2).params a.lex x (stV 0 τs2) ln τl2 ⟨⟨[]⟩⟩ τt2 pos τp2 ++ (a.L, frW (wld w b b2).params a.lex (setK fk 3 κ2) et sl false (some ([], τn2))) :: frs a o g) [] → R (.ok .next) s') : wpCode (MW (wld w b b2)) (ctxOf (wCode a.L) (a.W o)) R p s := by
  refine runL_ok [] (conW_ok F [] hc.symm pos rfl) rfl S H F.nd F.lo' _ _ (fun _ => []) _ (fun nv => t0nx w b b2 a o x g fk et sl τs ln τl τt pos τp _ ([], 0) 0 [] false 0  _ _ p nv) (fun _ => hob) fun nv s' Af => ?_
  try dsimp only at Af
  generalize runW _ _ _ _ _ _ _ _ _ _ _ _ _ _ _ = X at Af
  exact next (vt X 1 11) (vt X 1 13) (vt X 1 15) (vt X 3 2) (ktk X 4 3) (vt X 4 3) s' (Af.did _ [] [] rfl rfl rfl (by simp) (by simp) rfl rfl)
theorem t0bq_ok {w : World} {b b2 : Bool} {a : Ar} {o : OutA} {x : Lx} (F : Fx a o x) {g : Nat → FrO} {fk : Nat → Nat} {et : Nat} {sl : Array (Option Value)} {τs ln τl τt pos τp : Nat} {c : Nat} {s : Shared} {p : Pos} {R : Result → Shared → Prop} (S : Top (wld w b b2) s)
    (hc : rdAt x.buf pos = [c]) (hob : InB [39, 34] c 1 ∧ InB [] c 0 ∧ InB wordL c 0 ∧ InB [92] c 0 ∧ InB [] c 0 ∧ InB [32, 9, 13, 10] c 0 ∧ LnB ⟨⟨[c]⟩⟩ ∧ EqB [c] [10] 0 ∧ True ∧ True) (H : Holds s (lxL (wld w b b2).params a.lex x (stV 32 τs) ln τl ⟨⟨[]⟩⟩ τt pos τp ++ (a.L, frW (wld w b b2).params a.lex fk et sl false none) :: frs a o g))
    (next : ∀ (τs2 τl2 τt2 τp2 κ2 τn2 : Nat) (p' : Pos) (s' : Shared), Did s s' (lxL (wld w b b2).params a.lex x (.str ⟨⟨[c]⟩⟩ τs2) ln τl2 ⟨⟨[]⟩⟩ τt2 (pos + 1) τp2 ++ (a.L, frW (wld w b b2).params a.lex (setK fk 3 κ2) et sl false (some ([c], τn2))) :: frs a o g) [] → wpCode (MW (wld w b b2)) (ctxOf (wCode a.L) (a.W o)) R p' s') : wpCode (MW (wld w b b2)) (ctxOf (wCode a.L) (a.W o)) R p s := by
  refine runL_ok [] (conW_ok F [c] hc.symm (pos + 1) rfl) rfl S H F.nd F.lo' _ _ (fun _ => []) _ (fun nv => t0bq w b b2 a o x g fk et sl τs ln τl τt pos τp _ ([], 0) 0 [] false c  _ _ p nv) (fun _ => hob) fun nv s' Af => ?_
  try dsimp only at Af
  generalize runW _ _ _ _ _ _ _ _ _ _ _ _ _ _ _ = X at Af
  exact next (vt X 1 11) (vt X 1 13) (vt X 1 15) (vt X 3 2) (ktk X 4 3) (vt X 4 3) _ s' (Af.did _ [] [] rfl rfl rfl (by simp) (by simp) rfl rfl)
theorem t1sz_ok {w : World} {b b2 : Bool} {a : Ar} {o : OutA} {x : Lx} (F : Fx a o x) {g : Nat → FrO} {fk : Nat → Nat} {et : Nat} {sl : Array (Option Value)} {τs ln τl τt pos τp : Nat} {nc : List Nat × Nat} {tok : List Nat} {qd : Bool} {c : Nat} {s : Shared} {p : Pos} {R : Result → Shared → Prop} (S : Top (wld w b b2) s)
    (hc : rdAt x.buf pos = [c]) (hob : EqB [c] [39] 1 ∧ LnB ⟨⟨[c]⟩⟩ ∧ EqB [c] [10] 0 ∧ True ∧ True) (H : Holds s (lxL (wld w b b2).params a.lex x (stV 39 τs) ln τl ⟨⟨tok⟩⟩ τt pos τp ++ (a.L, frW (wld w b b2).params a.lex fk et sl qd (some nc)) :: frs a o g))
    (next : ∀ (τs2 τl2 τt2 τp2 κ2 τn2 : Nat) (p' : Pos) (s' : Shared), Did s s' (lxL (wld w b b2).params a.lex x (stV 97 τs2) ln τl2 ⟨⟨tok⟩⟩ τt2 (pos + 1) τp2 ++ (a.L, frW (wld w b b2).params a.lex (setK fk 3 κ2) et sl true (some ([c], τn2))) :: frs a o g) [] → wpCode (MW (wld w b b2)) (ctxOf (wCode a.L) (a.W o)) R p' s') : wpCode (MW (wld w b b2)) (ctxOf (wCode a.L) (a.W o)) R p s := by
  refine runL_ok [] (conW_ok F [c] hc.symm (pos + 1) rfl) rfl S H F.nd F.lo' _ _ (fun _ => []) _ (fun nv => t1sz w b b2 a o x g fk et sl τs ln τl τt pos τp _ nc 0 tok qd c  _ _ p nv) (fun _ => hob) fun nv s' Af => ?_
  try dsimp only at Af
  generalize runW _ _ _ _ _ _ _ _ _ _ _ _ _ _ _ = X at Af
  exact next (vt X 1 11) (vt X 1 13) (vt X 1 15) (vt X 3 2) (ktk X 4 3) (vt X 4 3) _ s' (Af.did _ [] [] rfl rfl rfl (by simp) (by simp) rfl rfl)
theorem t1awe_ok {w : World} {b b2 : Bool} {a : Ar} {o : OutA} {x : Lx} (F : Fx a o x) {g : Nat → FrO} {fk : Nat → Nat} {et : Nat} {sl : Array (Option Value)} {τs ln τl τt pos τp : Nat} {nc : List Nat × Nat} {c : Nat} {s : Shared} {p : Pos} {R : Result → Shared → Prop} (S : Top (wld w b b2) s)
    (hc : rdAt x.buf pos = [c]) (hob : InB [32, 9, 13, 10] c 1 ∧ LnB ⟨⟨[c]⟩⟩ ∧ TupB "tuple" ⟨⟨[97]⟩⟩ ⟨⟨[97]⟩⟩ ∧ EqB [c] [10] 0 ∧ True ∧ True) (H : Holds s (lxL (wld w b b2).params a.lex x (stV 97 τs) ln τl ⟨⟨[]⟩⟩ τt pos τp ++ (a.L, frW (wld w b b2).params a.lex fk et sl true (some nc)) :: frs a o g))
    (next : ∀ (τs2 τl2 τt2 τp2 κ2 τn2 : Nat) (s' : Shared), Did s s' (lxL (wld w b b2).params a.lex x (stV 32 τs2) ln τl2 ⟨⟨[]⟩⟩ τt2 (pos + 1) τp2 ++ (a.L, frW (wld w b b2).params a.lex (setK fk 3 κ2) et sl true (some ([c], τn2))) :: frs a o g) [] → R (.ok .next) s') : wpCode (MW (wld w b b2)) (ctxOf (wCode a.L) (a.W o)) R p s := by
  refine runL_ok [] (conW_ok F [c] hc.symm (pos + 1) rfl) rfl S H F.nd F.lo' _ _ (fun _ => []) _ (fun nv => t1awe w b b2 a o x g fk et sl τs ln τl τt pos τp _ nc 0 [] false c  _ _ p nv) (fun _ => hob) fun nv s' Af => ?_
  try dsimp only at Af
  generalize runW _ _ _ _ _ _ _ _ _ _ _ _ _ _ _ = X at Af
  exact next (vt X 1 11) (vt X 1 13) (vt X 1 15) (vt X 3 2) (ktk X 4 3) (vt X 4 3) s' (Af.did _ [] [] rfl rfl rfl (by simp) (by simp) rfl rfl)
theorem t1be_ok {w : World} {b b2 : Bool} {a : Ar} {o : OutA} {x : Lx} (F : Fx a o x) {g : Nat → FrO} {fk : Nat → Nat} {et : Nat} {sl : Array (Option Value)} {τs ln τl τt pos τp : Nat} {nc : List Nat × Nat} {s : Shared} {p : Pos} {R : Result → Shared → Prop} (S : Top (wld w b b2) s)
    (hc : rdAt x.buf pos = []) (hob : True ∧ True) (H : Holds s (lxL (wld w b b2).params a.lex x (stV 32 τs) ln τl ⟨⟨[]⟩⟩ τt pos τp ++ (a.L, frW (wld w b b2).params a.lex fk et sl false (some nc)) :: frs a o g))
    (next : ∀ (τs2 τl2 τt2 τp2 κ2 τn2 : Nat) (s' : Shared), Did s s' (lxL (wld w b b2).params a.lex x (stV 0 τs2) ln τl2 ⟨⟨[]⟩⟩ τt2 pos τp2 ++ (a.L, frW (wld w b b2).params a.lex (setK fk 3 κ2) et sl false (some ([], τn2))) :: frs a o g) [] → R (.ok .next) s') : wpCode (MW (wld w b b2)) (ctxOf (wCode a.L) (a.W o)) R p s := by
  refine runL_ok [] (conW_ok F [] hc.symm pos rfl) rfl S H F.nd F.lo' _ _ (fun _ => []) _ (fun nv => t1be w b b2 a o x g fk et sl τs ln τl τt pos τp _ nc 0 [] false 0  _ _ p nv) (fun _ => hob) fun nv s' Af => ?_
  try dsimp only at Af
  generalize runW _ _ _ _ _ _ _ _ _ _ _ _ _ _ _ = X at Af
  exact next (vt X 1 11) (vt X 1 13) (vt X 1 15) (vt X 3 2) (ktk X 4 3) (vt X 4 3) s' (Af.did _ [] [] rfl rfl rfl (by simp) (by simp) rfl rfl)
theorem t1aq_ok {w : World} {b b2 : Bool} {a : Ar} {o : OutA} {x : Lx} (F : Fx a o x) {g : Nat → FrO} {fk : Nat → Nat} {et : Nat} {sl : Array (Option Value)} {τs ln τl τt pos τp : Nat} {nc : List Nat × Nat} {tok : List Nat} {qd : Bool} {c : Nat} {s : Shared} {p : Pos} {R : Result → Shared → Prop} (S : Top (wld w b b2) s)
    (hc : rdAt x.buf pos = [c]) (hob : InB [39, 34] c 1 ∧ InB [] c 0 ∧ InB [32, 9, 13, 10] c 0 ∧ LnB ⟨⟨[c]⟩⟩ ∧ TupB "tuple" ⟨⟨[97]⟩⟩ ⟨⟨[97]⟩⟩ ∧ EqB [c] [10] 0 ∧ True ∧ True) (H : Holds s (lxL (wld w b b2).params a.lex x (stV 97 τs) ln τl ⟨⟨tok⟩⟩ τt pos τp ++ (a.L, frW (wld w b b2).params a.lex fk et sl qd (some nc)) :: frs a o g))
    (next : ∀ (τs2 τl2 τt2 τp2 κ2 τn2 : Nat) (p' : Pos) (s' : Shared), Did s s' (lxL (wld w b b2).params a.lex x (.str ⟨⟨[c]⟩⟩ τs2) ln τl2 ⟨⟨tok⟩⟩ τt2 (pos + 1) τp2 ++ (a.L, frW (wld w b b2).params a.lex (setK fk 3 κ2) et sl qd (some ([c], τn2))) :: frs a o g) [] → wpCode (MW (wld w b b2)) (ctxOf (wCode a.L) (a.W o)) R p' s') : wpCode (MW (wld w b b2)) (ctxOf (wCode a.L) (a.W o)) R p s := by
  refine runL_ok [] (conW_ok F [c] hc.symm (pos + 1) rfl) rfl S H F.nd F.lo' _ _ (fun _ => []) _ (fun nv => t1aq w b b2 a o x g fk et sl τs ln τl τt pos τp _ nc 0 tok qd c  _ _ p nv) (fun _ => hob) fun nv s' Af => ?_
  try dsimp only at Af
  generalize runW _ _ _ _ _ _ _ _ _ _ _ _ _ _ _ = X at Af
  exact next (vt X 1 11) (vt X 1 13) (vt X 1 15) (vt X 3 2) (ktk X 4 3) (vt X 4 3) _ s' (Af.did _ [] [] rfl rfl rfl (by simp) (by simp) rfl rfl)
theorem t0bo_ok {w : World} {b b2 : Bool} {a : Ar} {o : OutA} {x : Lx} (F : Fx a o x) {g : Nat → FrO} {fk : Nat → Nat} {et : Nat} {sl : Array (Option Value)} {τs ln τl τt pos τp : Nat} {c : Nat} {s : Shared} {p : Pos} {R : Result → Shared → Prop} (S : Top (wld w b b2) s)
    (hc : rdAt x.buf pos = [c]) (hob : InB [39, 34] c 0 ∧ InB [] c 0 ∧ InB wordL c 0 ∧ InB [92] c 0 ∧ InB [] c 0 ∧ InB [32, 9, 13, 10] c 0 ∧ LnB ⟨⟨[c]⟩⟩ ∧ EqB [c] [10] 0 ∧ True ∧ True) (H : Holds s (lxL (wld w b b2).params a.lex x (stV 32 τs) ln τl ⟨⟨[]⟩⟩ τt pos τp ++ (a.L, frW (wld w b b2).params a.lex fk et sl false none) :: frs a o g))
    (next : ∀ (τs2 τl2 τt2 τp2 κ2 τn2 : Nat) (p' : Pos) (s' : Shared), Did s s' (lxL (wld w b b2).params a.lex x (stV 97 τs2) ln τl2 ⟨⟨[c]⟩⟩ τt2 (pos + 1) τp2 ++ (a.L, frW (wld w b b2).params a.lex (setK fk 3 κ2) et sl false (some ([c], τn2))) :: frs a o g) [] → wpCode (MW (wld w b b2)) (ctxOf (wCode a.L) (a.W o)) R p' s') : wpCode (MW (wld w b b2)) (ctxOf (wCode a.L) (a.W o)) R p s := by
  refine runL_ok [] (conW_ok F [c] hc.symm (pos + 1) rfl) rfl S H F.nd F.lo' _ _ (fun _ => []) _ (fun nv => t0bo w b b2 a o x g fk et sl τs ln τl τt pos τp _ ([], 0) 0 [] false c  _ _ p nv) (fun _ => hob) fun nv s' Af => ?_
  try dsimp only at Af
  generalize runW _ _ _ _ _ _ _ _ _ _ _ _ _ _ _ = X at Af
  exact next (vt X 1 11) (vt X 1 13) (vt X 1 15) (vt X 3 2) (ktk X 4 3) (vt X 4 3) _ s' (Af.did _ [] [] rfl rfl rfl (by simp) (by simp) rfl rfl)
theorem t1so_ok {w : World} {b b2 : Bool} {a : Ar} {o : OutA} {x : Lx} (F : Fx a o x) {g : Nat → FrO} {fk : Nat → Nat} {et : Nat} {sl : Array (Option Value)} {τs ln τl τt pos τp : Nat} {nc : List Nat × Nat} {tok : List Nat} {qd : Bool} {c : Nat} {s : Shared} {p : Pos} {R : Result → Shared → Prop} (S : Top (wld w b b2) s)
    (hc : rdAt x.buf pos = [c]) (hob : LeB ⟨⟨tok⟩⟩ ⟨⟨[c]⟩⟩ ∧ InB [92] c 0 ∧ EqB [c] [39] 0 ∧ LnB ⟨⟨[c]⟩⟩ ∧ EqB [c] [10] 0 ∧ True ∧ True) (H : Holds s (lxL (wld w b b2).params a.lex x (stV 39 τs) ln τl ⟨⟨tok⟩⟩ τt pos τp ++ (a.L, frW (wld w b b2).params a.lex fk et sl qd (some nc)) :: frs a o g))
    (next : ∀ (τs2 τl2 τt2 τp2 κ2 τn2 : Nat) (p' : Pos) (s' : Shared), Did s s' (lxL (wld w b b2).params a.lex x (stV 39 τs2) ln τl2 (⟨⟨tok⟩⟩ ++ ⟨⟨[c]⟩⟩) τt2 (pos + 1) τp2 ++ (a.L, frW (wld w b b2).params a.lex (setK fk 3 κ2) et sl true (some ([c], τn2))) :: frs a o g) [] → wpCode (MW (wld w b b2)) (ctxOf (wCode a.L) (a.W o)) R p' s') : wpCode (MW (wld w b b2)) (ctxOf (wCode a.L) (a.W o)) R p s := by
  refine runL_ok [] (conW_ok F [c] hc.symm (pos + 1) rfl) rfl S H F.nd F.lo' _ _ (fun _ => []) _ (fun nv => t1so w b b2 a o x g fk et sl τs ln τl τt pos τp _ nc 0 tok qd c  _ _ p nv) (fun _ => hob) fun nv s' Af => ?_
  try dsimp only at Af
  generalize runW _ _ _ _ _ _ _ _ _ _ _ _ _ _ _ = X at Af
  exact next (vt X 1 11) (vt X 1 13) (vt X 1 15) (vt X 3 2) (ktk X 4 3) (vt X 4 3) _ s' (Af.did _ [] [] rfl rfl rfl (by simp) (by simp) rfl rfl)
theorem t1se_ok {w : World} {b b2 : Bool} {a : Ar} {o : OutA} {x : Lx} (F : Fx a o x) {g : Nat → FrO} {fk : Nat → Nat} {et : Nat} {sl : Array (Option Value)} {τs ln τl τt pos τp : Nat} {nc : List Nat × Nat} {tok : List Nat} {qd : Bool} {s : Shared} {p : Pos} {R : Result → Shared → Prop} (S : Top (wld w b b2) s)
    (hc : rdAt x.buf pos = []) (hob : True ∧ True) (H : Holds s (lxL (wld w b b2).params a.lex x (stV 39 τs) ln τl ⟨⟨tok⟩⟩ τt pos τp ++ (a.L, frW (wld w b b2).params a.lex fk et sl qd (some nc)) :: frs a o g))
    (next : ∀ (τs2 τl2 τt2 τp2 κ2 τn2 : Nat) (sl2 : Array (Option Value)) (gsl : Nat → Array (Option Value)) (esl : Array (Option Value)) (ea ga ta : Nat) (tl : Array Value) (s' : Shared), Did s s' (lxL (wld w b b2).params a.lex x (stV 39 τs2) ln τl2 ⟨⟨tok⟩⟩ τt2 pos τp2 ++ (a.L, frW (wld w b b2).params a.lex (setK fk 3 κ2) et sl2 true (some ([], τn2))) :: frs a o (fun i => ⟨(g i).es, (g i).n, gsl i⟩)) [(ea, excO "ValueError" ga ta esl), (ta, entryO .none a.L (.int (.ofNat a.L) 0) tl)] → R (.error (.ref ea)) s') : wpCode (MW (wld w b b2)) (ctxOf (wCode a.L) (a.W o)) R p s := by
  refine runL_ok [12, 14] (conW_ok F [] hc.symm pos rfl) rfl S H F.nd F.lo' _ _ (fun _ => [_, _]) _ (fun nv => t1se w b b2 a o x g fk et sl τs ln τl τt pos τp _ nc 0 tok qd 0  _ _ p nv) (fun _ => hob) fun nv s' Af => ?_
  try dsimp only at Af
  generalize runW _ _ _ _ _ _ _ _ _ _ _ _ _ _ _ = X at Af
  exact next (vt X 1 11) (vt X 1 13) (vt X 1 15) (vt X 3 2) (ktk X 4 3) (vt X 4 3) (slOf X 4) (fun i => slOf X (5 + i)) (slOf X 12) (adAt X 12) (adAt X 13) (adAt X 14) (tlOf X 14) s' (Af.did _ [_, _] [12, 14] rfl rfl rfl (by simp [as_, lxL, frs, outF]) (by simp) rfl rfl)
theorem t1do_ok {w : World} {b b2 : Bool} {a : Ar} {o : OutA} {x : Lx} (F : Fx a o x) {g : Nat → FrO} {fk : Nat → Nat} {et : Nat} {sl : Array (Option Value)} {τs ln τl τt pos τp : Nat} {nc : List Nat × Nat} {tok : List Nat} {qd : Bool} {c : Nat} {s : Shared} {p : Pos} {R : Result → Shared → Prop} (S : Top (wld w b b2) s)
    (hc : rdAt x.buf pos = [c]) (hob : LeB ⟨⟨tok⟩⟩ ⟨⟨[c]⟩⟩ ∧ InB [92] c 0 ∧ EqB [c] [34] 0 ∧ LnB ⟨⟨[c]⟩⟩ ∧ EqB [c] [10] 0 ∧ True ∧ True) (H : Holds s (lxL (wld w b b2).params a.lex x (stV 34 τs) ln τl ⟨⟨tok⟩⟩ τt pos τp ++ (a.L, frW (wld w b b2).params a.lex fk et sl qd (some nc)) :: frs a o g))
    (next : ∀ (τs2 τl2 τt2 τp2 κ2 τn2 : Nat) (p' : Pos) (s' : Shared), Did s s' (lxL (wld w b b2).params a.lex x (stV 34 τs2) ln τl2 (⟨⟨tok⟩⟩ ++ ⟨⟨[c]⟩⟩) τt2 (pos + 1) τp2 ++ (a.L, frW (wld w b b2).params a.lex (setK fk 3 κ2) et sl true (some ([c], τn2))) :: frs a o g) [] → wpCode (MW (wld w b b2)) (ctxOf (wCode a.L) (a.W o)) R p' s') : wpCode (MW (wld w b b2)) (ctxOf (wCode a.L) (a.W o)) R p s := by
  refine runL_ok [] (conW_ok F [c] hc.symm (pos + 1) rfl) rfl S H F.nd F.lo' _ _ (fun _ => []) _ (fun nv => t1do w b b2 a o x g fk et sl τs ln τl τt pos τp _ nc 0 tok qd c  _ _ p nv) (fun _ => hob) fun nv s' Af => ?_
  try dsimp only at Af
  generalize runW _ _ _ _ _ _ _ _ _ _ _ _ _ _ _ = X at Af
  exact next (vt X 1 11) (vt X 1 13) (vt X 1 15) (vt X 3 2) (ktk X 4 3) (vt X 4 3) _ s' (Af.did _ [] [] rfl rfl rfl (by simp) (by simp) rfl rfl)
theorem t1dl_ok {w : World} {b b2 : Bool} {a : Ar} {o : OutA} {x : Lx} (F : Fx a o x) {g : Nat → FrO} {fk : Nat → Nat} {et : Nat} {sl : Array (Option Value)} {τs ln τl τt pos τp : Nat} {nc : List Nat × Nat} {tok : List Nat} {qd : Bool} {c : Nat} {s : Shared} {p : Pos} {R : Result → Shared → Prop} (S : Top (wld w b b2) s)
    (hc : rdAt x.buf pos = [c]) (hob : LeB ⟨⟨tok⟩⟩ ⟨⟨[c]⟩⟩ ∧ InB [92] c 0 ∧ EqB [c] [34] 0 ∧ LnB ⟨⟨[c]⟩⟩ ∧ EqB [c] [10] 1 ∧ True ∧ True) (H : Holds s (lxL (wld w b b2).params a.lex x (stV 34 τs) ln τl ⟨⟨tok⟩⟩ τt pos τp ++ (a.L, frW (wld w b b2).params a.lex fk et sl qd (some nc)) :: frs a o g))
    (next : ∀ (τs2 τl2 τt2 τp2 κ2 τn2 : Nat) (p' : Pos) (s' : Shared), Did s s' (lxL (wld w b b2).params a.lex x (stV 34 τs2) (ln + 1) τl2 (⟨⟨tok⟩⟩ ++ ⟨⟨[c]⟩⟩) τt2 (pos + 1) τp2 ++ (a.L, frW (wld w b b2).params a.lex (setK fk 3 κ2) et sl true (some ([c], τn2))) :: frs a o g) [] → wpCode (MW (wld w b b2)) (ctxOf (wCode a.L) (a.W o)) R p' s') : wpCode (MW (wld w b b2)) (ctxOf (wCode a.L) (a.W o)) R p s := by
  refine runL_ok [] (conW_ok F [c] hc.symm (pos + 1) rfl) rfl S H F.nd F.lo' _ _ (fun _ => []) _ (fun nv => t1dl w b b2 a o x g fk et sl τs ln τl τt pos τp _ nc 0 tok qd c  _ _ p nv) (fun _ => hob) fun nv s' Af => ?_
  try dsimp only at Af
  generalize runW _ _ _ _ _ _ _ _ _ _ _ _ _ _ _ = X at Af
  exact next (vt X 1 11) (vt X 1 13) (vt X 1 15) (vt X 3 2) (ktk X 4 3) (vt X 4 3) _ s' (Af.did _ [] [] rfl rfl rfl (by simp) (by simp) rfl rfl)
theorem t1de_ok {w : World} {b b2 : Bool} {a : Ar} {o : OutA} {x : Lx} (F : Fx a o x) {g : Nat → FrO} {fk : Nat → Nat} {et : Nat} {sl : Array (Option Value)} {τs ln τl τt pos τp : Nat} {nc : List Nat × Nat} {tok : List Nat} {qd : Bool} {s : Shared} {p : Pos} {R : Result → Shared → Prop} (S : Top (wld w b b2) s)
    (hc : rdAt x.buf pos = []) (hob : True ∧ True) (H : Holds s (lxL (wld w b b2).params a.lex x (stV 34 τs) ln τl ⟨⟨tok⟩⟩ τt pos τp ++ (a.L, frW (wld w b b2).params a.lex fk et sl qd (some nc)) :: frs a o g))
    (next : ∀ (τs2 τl2 τt2 τp2 κ2 τn2 : Nat) (sl2 : Array (Option Value)) (gsl : Nat → Array (Option Value)) (esl : Array (Option Value)) (ea ga ta : Nat) (tl : Array Value) (s' : Shared), Did s s' (lxL (wld w b b2).params a.lex x (stV 34 τs2) ln τl2 ⟨⟨tok⟩⟩ τt2 pos τp2 ++ (a.L, frW (wld w b b2).params a.lex (setK fk 3 κ2) et sl2 true (some ([], τn2))) :: frs a o (fun i => ⟨(g i).es, (g i).n, gsl i⟩)) [(ea, excO "ValueError" ga ta esl), (ta, entryO .none a.L (.int (.ofNat a.L) 0) tl)] → R (.error (.ref ea)) s') : wpCode (MW (wld w b b2)) (ctxOf (wCode a.L) (a.W o)) R p s := by
  refine runL_ok [12, 14] (conW_ok F [] hc.symm pos rfl) rfl S H F.nd F.lo' _ _ (fun _ => [_, _]) _ (fun nv => t1de w b b2 a o x g fk et sl τs ln τl τt pos τp _ nc 0 tok qd 0  _ _ p nv) (fun _ => hob) fun nv s' Af => ?_
  try dsimp only at Af
  generalize runW _ _ _ _ _ _ _ _ _ _ _ _ _ _ _ = X at Af
  exact next (vt X 1 11) (vt X 1 13) (vt X 1 15) (vt X 3 2) (ktk X 4 3) (vt X 4 3) (slOf X 4) (fun i => slOf X (5 + i)) (slOf X 12) (adAt X 12) (adAt X 13) (adAt X 14) (tlOf X 14) s' (Af.did _ [_, _] [12, 14] rfl rfl rfl (by simp [as_, lxL, frs, outF]) (by simp) rfl rfl)
theorem t1sl_ok {w : World} {b b2 : Bool} {a : Ar} {o : OutA} {x : Lx} (F : Fx a o x) {g : Nat → FrO} {fk : Nat → Nat} {et : Nat} {sl : Array (Option Value)} {τs ln τl τt pos τp : Nat} {nc : List Nat × Nat} {tok : List Nat} {qd : Bool} {c : Nat} {s : Shared} {p : Pos} {R : Result → Shared → Prop} (S : Top (wld w b b2) s)
    (hc : rdAt x.buf pos = [c]) (hob : LeB ⟨⟨tok⟩⟩ ⟨⟨[c]⟩⟩ ∧ InB [92] c 0 ∧ EqB [c] [39] 0 ∧ LnB ⟨⟨[c]⟩⟩ ∧ EqB [c] [10] 1 ∧ True ∧ True) (H : Holds s (lxL (wld w b b2).params a.lex x (stV 39 τs) ln τl ⟨⟨tok⟩⟩ τt pos τp ++ (a.L, frW (wld w b b2).params a.lex fk et sl qd (some nc)) :: frs a o g))
    (next : ∀ (τs2 τl2 τt2 τp2 κ2 τn2 : Nat) (p' : Pos) (s' : Shared), Did s s' (lxL (wld w b b2).params a.lex x (stV 39 τs2) (ln + 1) τl2 (⟨⟨tok⟩⟩ ++ ⟨⟨[c]⟩⟩) τt2 (pos + 1) τp2 ++ (a.L, frW (wld w b b2).params a.lex (setK fk 3 κ2) et sl true (some ([c], τn2))) :: frs a o g) [] → wpCode (MW (wld w b b2)) (ctxOf (wCode a.L) (a.W o)) R p' s') : wpCode (MW (wld w b b2)) (ctxOf (wCode a.L) (a.W o)) R p s := by
  refine runL_ok [] (conW_ok F [c] hc.symm (pos + 1) rfl) rfl S H F.nd F.lo' _ _ (fun _ => []) _ (fun nv => t1sl w b b2 a o x g fk et sl τs ln τl τt pos τp _ nc 0 tok qd c  _ _ p nv) (fun _ => hob) fun nv s' Af => ?_
  try dsimp only at Af
  generalize runW _ _ _ _ _ _ _ _ _ _ _ _ _ _ _ = X at Af
  exact next (vt X 1 11) (vt X 1 13) (vt X 1 15) (vt X 3 2) (ktk X 4 3) (vt X 4 3) _ s' (Af.did _ [] [] rfl rfl rfl (by simp) (by simp) rfl rfl)
theorem t1dz_ok {w : World} {b b2 : Bool} {a : Ar} {o : OutA} {x : Lx} (F : Fx a o x) {g : Nat → FrO} {fk : Nat → Nat} {et : Nat} {sl : Array (Option Value)} {τs ln τl τt pos τp : Nat} {nc : List Nat × Nat} {tok : List Nat} {qd : Bool} {c : Nat} {s : Shared} {p : Pos} {R : Result → Shared → Prop} (S : Top (wld w b b2) s)
    (hc : rdAt x.buf pos = [c]) (hob : EqB [c] [34] 1 ∧ LnB ⟨⟨[c]⟩⟩ ∧ EqB [c] [10] 0 ∧ True ∧ True) (H : Holds s (lxL (wld w b b2).params a.lex x (stV 34 τs) ln τl ⟨⟨tok⟩⟩ τt pos τp ++ (a.L, frW (wld w b b2).params a.lex fk et sl qd (some nc)) :: frs a o g))
    (next : ∀ (τs2 τl2 τt2 τp2 κ2 τn2 : Nat) (p' : Pos) (s' : Shared), Did s s' (lxL (wld w b b2).params a.lex x (stV 97 τs2) ln τl2 ⟨⟨tok⟩⟩ τt2 (pos + 1) τp2 ++ (a.L, frW (wld w b b2).params a.lex (setK fk 3 κ2) et sl true (some ([c], τn2))) :: frs a o g) [] → wpCode (MW (wld w b b2)) (ctxOf (wCode a.L) (a.W o)) R p' s') : wpCode (MW (wld w b b2)) (ctxOf (wCode a.L) (a.W o)) R p s := by
  refine runL_ok [] (conW_ok F [c] hc.symm (pos + 1) rfl) rfl S H F.nd F.lo' _ _ (fun _ => []) _ (fun nv => t1dz w b b2 a o x g fk et sl τs ln τl τt pos τp _ nc 0 tok qd c  _ _ p nv) (fun _ => hob) fun nv s' Af => ?_
  try dsimp only at Af
  generalize runW _ _ _ _ _ _ _ _ _ _ _ _ _ _ _ = X at Af
  exact next (vt X 1 11) (vt X 1 13) (vt X 1 15) (vt X 3 2) (ktk X 4 3) (vt X 4 3) _ s' (Af.did _ [] [] rfl rfl rfl (by simp) (by simp) rfl rfl)
theorem t1bq_ok {w : World} {b b2 : Bool} {a : Ar} {o : OutA} {x : Lx} (F : Fx a o x) {g : Nat → FrO} {fk : Nat → Nat} {et : Nat} {sl : Array (Option Value)} {τs ln τl τt pos τp : Nat} {nc : List Nat × Nat} {c : Nat} {s : Shared} {p : Pos} {R : Result → Shared → Prop} (S : Top (wld w b b2) s)
    (hc : rdAt x.buf pos = [c]) (hob : InB [39, 34] c 1 ∧ InB [] c 0 ∧ InB wordL c 0 ∧ InB [92] c 0 ∧ InB [] c 0 ∧ InB [32, 9, 13, 10] c 0 ∧ LnB ⟨⟨[c]⟩⟩ ∧ EqB [c] [10] 0 ∧ True ∧ True) (H : Holds s (lxL (wld w b b2).params a.lex x (stV 32 τs) ln τl ⟨⟨[]⟩⟩ τt pos τp ++ (a.L, frW (wld w b b2).params a.lex fk et sl false (some nc)) :: frs a o g))
    (next : ∀ (τs2 τl2 τt2 τp2 κ2 τn2 : Nat) (p' : Pos) (s' : Shared), Did s s' (lxL (wld w b b2).params a.lex x (.str ⟨⟨[c]⟩⟩ τs2) ln τl2 ⟨⟨[]⟩⟩ τt2 (pos + 1) τp2 ++ (a.L, frW (wld w b b2).params a.lex (setK fk 3 κ2) et sl false (some ([c], τn2))) :: frs a o g) [] → wpCode (MW (wld w b b2)) (ctxOf (wCode a.L) (a.W o)) R p' s') : wpCode (MW (wld w b b2)) (ctxOf (wCode a.L) (a.W o)) R p s := by
  refine runL_ok [] (conW_ok F [c] hc.symm (pos + 1) rfl) rfl S H F.nd F.lo' _ _ (fun _ => []) _ (fun nv => t1bq w b b2 a o x g fk et sl τs ln τl τt pos τp _ nc 0 [] false c  _ _ p nv) (fun _ => hob) fun nv s' Af => ?_
  try dsimp only at Af
  generalize runW _ _ _ _ _ _ _ _ _ _ _ _ _ _ _ = X at Af
  exact next (vt X 1 11) (vt X 1 13) (vt X 1 15) (vt X 3 2) (ktk X 4 3) (vt X 4 3) _ s' (Af.did _ [] [] rfl rfl rfl (by simp) (by simp) rfl rfl)
theorem t1ale_ok {w : World} {b b2 : Bool} {a : Ar} {o : OutA} {x : Lx} (F : Fx a o x) {g : Nat → FrO} {fk : Nat → Nat} {et : Nat} {sl : Array (Option Value)} {τs ln τl τt pos τp : Nat} {nc : List Nat × Nat} {c : Nat} {s : Shared} {p : Pos} {R : Result → Shared → Prop} (S : Top (wld w b b2) s)
    (hc : rdAt x.buf pos = [c]) (hob : InB [32, 9, 13, 10] c 1 ∧ LnB ⟨⟨[c]⟩⟩ ∧ TupB "tuple" ⟨⟨[97]⟩⟩ ⟨⟨[97]⟩⟩ ∧ EqB [c] [10] 1 ∧ True ∧ True) (H : Holds s (lxL (wld w b b2).params a.lex x (stV 97 τs) ln τl ⟨⟨[]⟩⟩ τt pos τp ++ (a.L, frW (wld w b b2).params a.lex fk et sl true (some nc)) :: frs a o g))
    (next : ∀ (τs2 τl2 τt2 τp2 κ2 τn2 : Nat) (s' : Shared), Did s s' (lxL (wld w b b2).params a.lex x (stV 32 τs2) (ln + 1) τl2 ⟨⟨[]⟩⟩ τt2 (pos + 1) τp2 ++ (a.L, frW (wld w b b2).params a.lex (setK fk 3 κ2) et sl true (some ([c], τn2))) :: frs a o g) [] → R (.ok .next) s') : wpCode (MW (wld w b b2)) (ctxOf (wCode a.L) (a.W o)) R p s := by
  refine runL_ok [] (conW_ok F [c] hc.symm (pos + 1) rfl) rfl S H F.nd F.lo' _ _ (fun _ => []) _ (fun nv => t1ale w b b2 a o x g fk et sl τs ln τl τt pos τp _ nc 0 [] false c  _ _ p nv) (fun _ => hob) fun nv s' Af => ?_
  try dsimp only at Af
  generalize runW _ _ _ _ _ _ _ _ _ _ _ _ _ _ _ = X at Af
  exact next (vt X 1 11) (vt X 1 13) (vt X 1 15) (vt X 3 2) (ktk X 4 3) (vt X 4 3) s' (Af.did _ [] [] rfl rfl rfl (by simp) (by simp) rfl rfl)
/-! S601 -/
/-! ### read_token's loop -/
noncomputable def wRes (r : RdR) (ν : Unk) : Result := match r.err with
  | true => .error (.ref (ν.n 0))
  | false => .ok .next
noncomputable def wCh (P : Params) (a : Ar) (o : OutA) (x : Lx) (g : Nat → FrO) (fk : Nat → Nat) (et : Nat) (sl : Array (Option Value)) (r : RdR) (ν : Unk) : List (Nat × Obj) :=
  lxL P a.lex x (stV r.st (ν.n 2)) (ν.n 3) (ν.n 4) ⟨⟨r.tok⟩⟩ (ν.n 5) (x.buf.length - r.rest.length) (ν.n 6) ++
    (a.L, frW P a.lex (setK fk 3 (ν.n 7)) et (match r.err with | true => ν.sl 0 | false => sl) r.qd (some (r.nc, ν.n 8))) :: frs a o (match r.err with | true => fun i => ⟨(g i).es, (g i).n, ν.sl (i + 1)⟩ | false => g)
noncomputable def wNew (a : Ar) (r : RdR) (ν : Unk) : List (Nat × Obj) := match r.err with
  | true => [(ν.n 0, excO "ValueError" (ν.n 9) (ν.n 1) (ν.sl 20)), (ν.n 1, entryO .none a.L (.int (.ofNat a.L) 0) (ν.vs 0))]
  | false => []
theorem drop_cons {l : List Nat} {pos c : Nat} {r : List Nat} (h : l.drop pos = c :: r) : rdAt l pos = [c] ∧ l.drop (pos + 1) = r ∧ pos < l.length := by
  refine ⟨by unfold rdAt; rw [h]; rfl, by rw [← List.drop_drop, h]; rfl, ?_⟩
  have := congrArg List.length h
  rw [List.length_drop, List.length_cons] at this
  omega
theorem drop_nil {l : List Nat} {pos : Nat} (h : l.drop pos = []) : rdAt l pos = [] ∧ l.length ≤ pos := by
  refine ⟨by unfold rdAt; rw [h]; rfl, ?_⟩
  have := congrArg List.length h
  rw [List.length_drop, List.length_nil] at this
  omega
noncomputable def isNone : Option (List Nat × Nat) → Bool
  | none => true
  | some _ => false
theorem rdAt_len {l : List Nat} {pos : Nat} {r : List Nat} (h : l.drop pos = r) (hp : pos ≤ l.length) : l.length - r.length = pos := by
  have := congrArg List.length h
  rw [List.length_drop] at this
  omega
theorem while_ok {w : World} {b b2 : Bool} {a : Ar} {o : OutA} {x : Lx} (F : Fx a o x) {g : Nat → FrO} {et : Nat} {sl : Array (Option Value)} {R : Result → Shared → Prop} :
    ∀ (cs : List Nat) {fk : Nat → Nat} {st τs ln τl : Nat} {tok : List Nat} {τt pos τp : Nat} {qd : Bool} {nc : Option (List Nat × Nat)} {s : Shared} {p : Pos} (S : Top (wld w b b2) s)
    (hcs : x.buf.drop pos = cs) (hbs : 92 ∉ cs) (ht : tok.length ≤ pos) (hp : pos ≤ x.buf.length) (inv : RdInv st tok qd (isNone nc) cs)
    (H : Holds s (lxL (wld w b b2).params a.lex x (stV st τs) ln τl ⟨⟨tok⟩⟩ τt pos τp ++ (a.L, frW (wld w b b2).params a.lex fk et sl qd nc) :: frs a o g))
    (fin : ∀ ν s', Did s s' (wCh (wld w b b2).params a o x g fk et sl (rd cs st tok qd) ν) (wNew a (rd cs st tok qd) ν) → R (wRes (rd cs st tok qd) ν) s'),
    wpCode (MW (wld w b b2)) (ctxOf (wCode a.L) (a.W o)) R p s
  | [], fk, st, τs, ln, τl, tok, τt, pos, τp, qd, nc, s, p, S, hcs, hbs, ht, hp, inv, H, fin => by
    obtain ⟨hc, hle⟩ := drop_nil hcs
    have hpos : x.buf.length = pos := by omega
    have hln : ∀ {l : List Nat}, l.length ≤ pos → LnB ⟨⟨l⟩⟩ := fun h => lnB (Nat.le_trans (Nat.le_trans h hp) F.hb)
    have done : ∀ {st' : Nat} {tok' : List Nat} {qd' : Bool}, isQt st = false → rd [] st tok qd = ⟨false, tok', qd', 0, [], []⟩ → ∀ (τs2 τl2 τt2 τp2 κ2 τn2 : Nat) (s' : Shared),
        Did s s' (lxL (wld w b b2).params a.lex x (stV 0 τs2) ln τl2 ⟨⟨tok'⟩⟩ τt2 pos τp2 ++ (a.L, frW (wld w b b2).params a.lex (setK fk 3 κ2) et sl qd' (some ([], τn2))) :: frs a o g) [] → R (.ok .next) s' := by
      intro st' tok' qd' _ e τs2 τl2 τt2 τp2 κ2 τn2 s' D
      have := fin (unkL [0, 0, τs2, ln, τl2, τt2, τp2, κ2, τn2]) s'
      rw [e] at this
      refine this ?_
      show Did s s' (lxL _ a.lex x (stV 0 τs2) ln τl2 ⟨⟨tok'⟩⟩ τt2 (x.buf.length - 0) τp2 ++ _) []
      rw [hpos]
      exact D
    rcases inv with ⟨rfl, rfl, rfl, hf, _⟩ | ⟨rfl, rfl, rfl⟩ | ⟨rfl, hq, hf⟩ | ⟨hst, hf⟩
    · cases nc with
      | some y => cases hf
      | none => exact t0nx_ok F S hc ⟨trivial, trivial⟩ H fun τs2 τl2 τt2 τp2 κ2 τn2 s' D => done (st' := 0) rfl rfl τs2 τl2 τt2 τp2 κ2 τn2 s' D
    · cases nc with
      | none => exact t0be_ok F S hc ⟨trivial, trivial⟩ H fun τs2 τl2 τt2 τp2 κ2 τn2 s' D => done (st' := 0) rfl rfl τs2 τl2 τt2 τp2 κ2 τn2 s' D
      | some y => exact t1be_ok F S hc ⟨trivial, trivial⟩ H fun τs2 τl2 τt2 τp2 κ2 τn2 s' D => done (st' := 0) rfl rfl τs2 τl2 τt2 τp2 κ2 τn2 s' D
    · cases nc with
      | none => cases hf
      | some y => exact t1ae_ok F S hc ⟨tupB _, trivial, trivial⟩ H fun τs2 τl2 τt2 τp2 κ2 τn2 s' D => done (st' := 0) rfl rfl τs2 τl2 τt2 τp2 κ2 τn2 s' D
    · cases nc with
      | none => cases hf
      | some y =>
        have err : rd [] st tok qd = ⟨true, tok, true, st, [], []⟩ → ∀ (τs2 τl2 τt2 τp2 κ2 τn2 : Nat) (sl2 : Array (Option Value)) (gsl : Nat → Array (Option Value)) (esl : Array (Option Value)) (ea ga ta : Nat) (tl : Array Value) (s' : Shared),
            Did s s' (lxL (wld w b b2).params a.lex x (stV st τs2) ln τl2 ⟨⟨tok⟩⟩ τt2 pos τp2 ++ (a.L, frW (wld w b b2).params a.lex (setK fk 3 κ2) et sl2 true (some ([], τn2))) :: frs a o fun i => ⟨(g i).es, (g i).n, gsl i⟩)
              [(ea, excO "ValueError" ga ta esl), (ta, entryO .none a.L (.int (.ofNat a.L) 0) tl)] → R (.error (.ref ea)) s' := by
          intro e τs2 τl2 τt2 τp2 κ2 τn2 sl2 gsl esl ea ga ta tl s' D
          have := fin ⟨(unkL [ea, ta, τs2, ln, τl2, τt2, τp2, κ2, τn2, ga]).n, fun i => match Nat.beq i 20 with | true => esl | false => match i with | 0 => sl2 | i + 1 => gsl i, fun _ => tl, fun _ => default⟩ s'
          rw [e] at this
          refine this ?_
          show Did s s' (lxL _ a.lex x (stV st τs2) ln τl2 ⟨⟨tok⟩⟩ τt2 (x.buf.length - 0) τp2 ++ _) _
          rw [hpos]
          exact D
        rcases hst with rfl | rfl
        · exact t1se_ok F S hc ⟨trivial, trivial⟩ H (err rfl)
        · exact t1de_ok F S hc ⟨trivial, trivial⟩ H (err rfl)
  | c :: r, fk, st, τs, ln, τl, tok, τt, pos, τp, qd, nc, s, p, S, hcs, hbs, ht, hp, inv, H, fin => by
    obtain ⟨hc, hr, hlt⟩ := drop_cons hcs
    have hb1 : c ∉ [92] := by
      simp only [List.mem_singleton]
      rintro rfl
      exact hbs (List.mem_cons_self ..)
    have hb2 : 92 ∉ r := fun h => hbs (List.mem_cons_of_mem _ h)
    have h0 : c ∉ ([] : List Nat) := by simp
    have hle : LeB ⟨⟨tok⟩⟩ ⟨⟨[c]⟩⟩ := leB (Nat.lt_of_le_of_lt ht (Nat.lt_of_lt_of_le hlt F.hb))
    have hpos : x.buf.length - r.length = pos + 1 := rdAt_len hr hlt
    have go : ∀ {st2 : Nat} {tok2 : List Nat} {qd2 : Bool} (ln2 : Nat), rd (c :: r) st tok qd = rd r st2 tok2 qd2 → RdInv st2 tok2 qd2 false r → tok2.length ≤ pos + 1 → ∀ (τs2 τl2 τt2 τp2 κ2 τn2 : Nat) (p' : Pos) (s' : Shared),
        Did s s' (lxL (wld w b b2).params a.lex x (stV st2 τs2) ln2 τl2 ⟨⟨tok2⟩⟩ τt2 (pos + 1) τp2 ++ (a.L, frW (wld w b b2).params a.lex (setK fk 3 κ2) et sl qd2 (some ([c], τn2))) :: frs a o g) [] → wpCode (MW (wld w b b2)) (ctxOf (wCode a.L) (a.W o)) R p' s' := by
      intro st2 tok2 qd2 ln2 e inv2 ht2 τs2 τl2 τt2 τp2 κ2 τn2 p' s' D
      refine while_ok F r (Did.sane S D F.lo') hr hb2 ht2 hlt inv2 D.holds fun ν s'' D2 => ?_
      rw [← e] at D2 ⊢
      exact fin ν s'' (D.trans D2 fun _ h => h)
    have halt : ∀ (ln2 : Nat), rd (c :: r) st tok qd = ⟨false, tok, qd, 32, r, [c]⟩ → ∀ (τs2 τl2 τt2 τp2 κ2 τn2 : Nat) (s' : Shared),
        Did s s' (lxL (wld w b b2).params a.lex x (stV 32 τs2) ln2 τl2 ⟨⟨tok⟩⟩ τt2 (pos + 1) τp2 ++ (a.L, frW (wld w b b2).params a.lex (setK fk 3 κ2) et sl qd (some ([c], τn2))) :: frs a o g) [] → R (.ok .next) s' := by
      intro ln2 e τs2 τl2 τt2 τp2 κ2 τn2 s' D
      have := fin (unkL [0, 0, τs2, ln2, τl2, τt2, τp2, κ2, τn2]) s'
      rw [e] at this
      refine this ?_
      show Did s s' (lxL _ a.lex x (stV 32 τs2) ln2 τl2 ⟨⟨tok⟩⟩ τt2 (x.buf.length - r.length) τp2 ++ _) []
      rw [hpos]
      exact D
    have snoc : ∀ {st2 : Nat} {qd2 : Bool} (ln2 : Nat), rd (c :: r) st tok qd = rd r st2 (tok ++ [c]) qd2 → RdInv st2 (tok ++ [c]) qd2 false r → ∀ (τs2 τl2 τt2 τp2 κ2 τn2 : Nat) (p' : Pos) (s' : Shared),
        Did s s' (lxL (wld w b b2).params a.lex x (stV st2 τs2) ln2 τl2 (⟨⟨tok⟩⟩ ++ ⟨⟨[c]⟩⟩) τt2 (pos + 1) τp2 ++ (a.L, frW (wld w b b2).params a.lex (setK fk 3 κ2) et sl qd2 (some ([c], τn2))) :: frs a o g) [] → wpCode (MW (wld w b b2)) (ctxOf (wCode a.L) (a.W o)) R p' s' := by
      intro st2 qd2 ln2 e inv2 τs2 τl2 τt2 τp2 κ2 τn2 p' s' D
      rw [str_snoc] at D
      exact go ln2 e inv2 (by rw [List.length_append]; exact Nat.succ_le_succ ht) τs2 τl2 τt2 τp2 κ2 τn2 p' s' D
    have hqne : ∀ {d : Nat}, c ∉ [39, 34] → (d = 39 ∨ d = 34) → c ≠ d := fun h hd e => h (by simp [e, hd])
    rcases inv with ⟨_, _, _, _, h⟩ | ⟨rfl, rfl, rfl⟩ | ⟨rfl, hq, hf⟩ | ⟨hst, hf⟩
    · cases h
    · by_cases hw : c ∈ [32, 9, 13, 10]
      · have e : rd (c :: r) 32 [] false = rd r 32 [] false := by rw [rd, if_pos rfl, if_pos (isWs_iff.mpr hw)]
        have iv : RdInv 32 [] false false r := .inr (.inl ⟨rfl, rfl, rfl⟩)
        by_cases h10 : c = 10
        · cases nc with
          | none => exact t0bl_ok F S hc ⟨inB1 hw, lnB1 c, eqB1 h10, trivial, trivial⟩ H (go _ e iv (Nat.zero_le _))
          | some y => exact t1bl_ok F S hc ⟨inB1 hw, lnB1 c, eqB1 h10, trivial, trivial⟩ H (go _ e iv (Nat.zero_le _))
        · cases nc with
          | none => exact t0bw_ok F S hc ⟨inB1 hw, lnB1 c, eqB0 h10, trivial, trivial⟩ H (go _ e iv (Nat.zero_le _))
          | some y => exact t1bw_ok F S hc ⟨inB1 hw, lnB1 c, eqB0 h10, trivial, trivial⟩ H (go _ e iv (Nat.zero_le _))
      · have h10 : c ≠ 10 := by rintro rfl; exact hw (by simp)
        have nw : isWs c = false := by rw [← Bool.not_eq_true, isWs_iff]; exact hw
        by_cases hq : c ∈ [39, 34]
        · have e : rd (c :: r) 32 [] false = rd r c [] false := by rw [rd, if_pos rfl, if_neg (by simp [nw]), if_pos (isQt_iff.mpr hq)]
          have hcq : c = 39 ∨ c = 34 := by simpa using hq
          have iv : RdInv c [] false false r := .inr (.inr (.inr ⟨hcq, rfl⟩))
          have hwd : c ∉ wordL := by rcases hcq with rfl | rfl <;> decide
          have st : ∀ τ, Value.str ⟨⟨[c]⟩⟩ τ = stV c τ := fun τ => by rcases hcq with rfl | rfl <;> rfl
          cases nc with
          | none => exact t0bq_ok F S hc ⟨inB1 hq, inB0 h0, inB0 hwd, inB0 hb1, inB0 h0, inB0 hw, lnB1 c, eqB0 h10, trivial, trivial⟩ H fun τs2 τl2 τt2 τp2 κ2 τn2 p' s' D => go _ e iv (Nat.zero_le _) τs2 τl2 τt2 τp2 κ2 τn2 p' s' (by rw [← st]; exact D)
          | some y => exact t1bq_ok F S hc ⟨inB1 hq, inB0 h0, inB0 hwd, inB0 hb1, inB0 h0, inB0 hw, lnB1 c, eqB0 h10, trivial, trivial⟩ H fun τs2 τl2 τt2 τp2 κ2 τn2 p' s' D => go _ e iv (Nat.zero_le _) τs2 τl2 τt2 τp2 κ2 τn2 p' s' (by rw [← st]; exact D)
        · have nq : isQt c = false := by rw [← Bool.not_eq_true, isQt_iff]; exact hq
          have e : rd (c :: r) 32 [] false = rd r 97 [c] false := by rw [rd, if_pos rfl, if_neg (by simp [nw]), if_neg (by simp [nq])]
          have iv : RdInv 97 [c] false false r := .inr (.inr (.inl ⟨rfl, .inl (by simp), rfl⟩))
          have hl1 : [c].length ≤ pos + 1 := Nat.succ_le_succ (Nat.zero_le _)
          by_cases hwd : c ∈ wordL
          · cases nc with
            | none => exact t0bc_ok F S hc ⟨inB1 hwd, inB0 hb1, inB0 h0, inB0 hw, lnB1 c, eqB0 h10, trivial, trivial⟩ H (go _ e iv hl1)
            | some y => exact t1bc_ok F S hc ⟨inB1 hwd, inB0 hb1, inB0 h0, inB0 hw, lnB1 c, eqB0 h10, trivial, trivial⟩ H (go _ e iv hl1)
          · cases nc with
            | none => exact t0bo_ok F S hc ⟨inB0 hq, inB0 h0, inB0 hwd, inB0 hb1, inB0 h0, inB0 hw, lnB1 c, eqB0 h10, trivial, trivial⟩ H (go _ e iv hl1)
            | some y => exact t1bo_ok F S hc ⟨inB0 hq, inB0 h0, inB0 hwd, inB0 hb1, inB0 h0, inB0 hw, lnB1 c, eqB0 h10, trivial, trivial⟩ H (go _ e iv hl1)
    · cases nc with
      | none => cases hf
      | some y =>
        by_cases hw : c ∈ [32, 9, 13, 10]
        · have e : rd (c :: r) 97 tok qd = ⟨false, tok, qd, 32, r, [c]⟩ := by rw [rd, if_neg (by decide), if_pos rfl, if_pos (isWs_iff.mpr hw)]
          cases tok with
          | nil =>
            have hq : qd = true := hq.resolve_left (by simp)
            subst hq
            by_cases h10 : c = 10
            · exact t1ale_ok F S hc ⟨inB1 hw, lnB1 c, tupB _, eqB1 h10, trivial, trivial⟩ H (halt _ e)
            · exact t1awe_ok F S hc ⟨inB1 hw, lnB1 c, tupB _, eqB0 h10, trivial, trivial⟩ H (halt _ e)
          | cons a0 tok =>
            have hl : LnB ⟨⟨a0 :: tok⟩⟩ := lnB (Nat.le_trans ht (Nat.le_trans hp F.hb))
            by_cases h10 : c = 10
            · exact t1aln_ok F S hc ⟨hl, inB1 hw, lnB1 c, tupB _, eqB1 h10, trivial, trivial⟩ H (halt _ e)
            · exact t1awn_ok F S hc ⟨hl, inB1 hw, lnB1 c, tupB _, eqB0 h10, trivial, trivial⟩ H (halt _ e)
        · have h10 : c ≠ 10 := by rintro rfl; exact hw (by simp)
          have nw : isWs c = false := by rw [← Bool.not_eq_true, isWs_iff]; exact hw
          by_cases hq' : c ∈ [39, 34]
          · have e : rd (c :: r) 97 tok qd = rd r c tok qd := by rw [rd, if_neg (by decide), if_pos rfl, if_neg (by simp [nw]), if_pos (isQt_iff.mpr hq')]
            have hcq : c = 39 ∨ c = 34 := by simpa using hq'
            have st : ∀ τ, Value.str ⟨⟨[c]⟩⟩ τ = stV c τ := fun τ => by rcases hcq with rfl | rfl <;> rfl
            exact t1aq_ok F S hc ⟨inB1 hq', inB0 h0, inB0 hw, lnB1 c, tupB _, eqB0 h10, trivial, trivial⟩ H fun τs2 τl2 τt2 τp2 κ2 τn2 p' s' D => go _ e (.inr (.inr (.inr ⟨hcq, rfl⟩))) (Nat.le_succ_of_le ht) τs2 τl2 τt2 τp2 κ2 τn2 p' s' (by rw [← st]; exact D)
          · have nq : isQt c = false := by rw [← Bool.not_eq_true, isQt_iff]; exact hq'
            have e : rd (c :: r) 97 tok qd = rd r 97 (tok ++ [c]) qd := by rw [rd, if_neg (by decide), if_pos rfl, if_neg (by simp [nw]), if_neg (by simp [nq])]
            have iv : RdInv 97 (tok ++ [c]) qd false r := .inr (.inr (.inl ⟨rfl, .inl (by simp), rfl⟩))
            by_cases hwd : c ∈ wordL
            · exact t1ac_ok F S hc ⟨hle, inB1 hwd, inB0 hb1, inB0 hq', inB0 h0, inB0 hw, lnB1 c, tupB _, eqB0 h10, trivial, trivial⟩ H (snoc _ e iv)
            · exact t1ao_ok F S hc ⟨hle, inB0 h0, inB0 hq', inB0 hwd, inB0 hb1, inB0 hq', inB0 h0, inB0 hw, lnB1 c, tupB _, eqB0 h10, trivial, trivial⟩ H (snoc _ e iv)
    · cases nc with
      | none => cases hf
      | some y =>
        have n32 : ¬ st = 32 := by omega
        have n97 : ¬ st = 97 := by omega
        by_cases hz : c = st
        · have e : rd (c :: r) st tok qd = rd r 97 tok true := by rw [rd, if_neg n32, if_neg n97, if_pos hz]
          have h10 : c ≠ 10 := by omega
          have iv : RdInv 97 tok true false r := .inr (.inr (.inl ⟨rfl, .inr rfl, rfl⟩))
          rcases hst with rfl | rfl
          · exact t1sz_ok F S hc ⟨eqB1 hz, lnB1 c, eqB0 h10, trivial, trivial⟩ H (go _ e iv (Nat.le_succ_of_le ht))
          · exact t1dz_ok F S hc ⟨eqB1 hz, lnB1 c, eqB0 h10, trivial, trivial⟩ H (go _ e iv (Nat.le_succ_of_le ht))
        · have e : rd (c :: r) st tok qd = rd r st (tok ++ [c]) true := by rw [rd, if_neg n32, if_neg n97, if_neg hz]
          have iv : RdInv st (tok ++ [c]) true false r := .inr (.inr (.inr ⟨hst, rfl⟩))
          by_cases h10 : c = 10
          · rcases hst with rfl | rfl
            · exact t1sl_ok F S hc ⟨hle, inB0 hb1, eqB0 hz, lnB1 c, eqB1 h10, trivial, trivial⟩ H (snoc _ e iv)
            · exact t1dl_ok F S hc ⟨hle, inB0 hb1, eqB0 hz, lnB1 c, eqB1 h10, trivial, trivial⟩ H (snoc _ e iv)
          · rcases hst with rfl | rfl
            · exact t1so_ok F S hc ⟨hle, inB0 hb1, eqB0 hz, lnB1 c, eqB0 h10, trivial, trivial⟩ H (snoc _ e iv)
            · exact t1do_ok F S hc ⟨hle, inB0 hb1, eqB0 hz, lnB1 c, eqB0 h10, trivial, trivial⟩ H (snoc _ e iv)
/-! S701 -/
/-! ### list.extend.loop: a turn asks lex for a token -/
noncomputable def posN : List (Code × Pos) → Nat → Pos
  | [], _ => default
  | x :: _, 0 => x.2
  | _ :: r, n + 1 => posN r n
/-- what lies around split, off the stack below read_token's loop -/
noncomputable def aOf (l lex Ls Ln Lg L : Nat) (bel : List (Code × Pos)) : Ar := ⟨l, lex, Ls, Ln, Lg, L, fun i => match i with
  | 7 => posN bel 0
  | 6 => posN bel 1
  | 5 => posN bel 2
  | 4 => posN bel 3
  | 2 => posN bel 4
  | _ => posN bel 5⟩
noncomputable def froOf : Option Obj → FrO
  | some o => match o.data with
    | .dict ⟨es⟩ n => ⟨es, n, o.slots⟩
    | _ => ⟨[], 0, ⟨[]⟩⟩
  | none => ⟨[], 0, ⟨[]⟩⟩
noncomputable def entO (o : Option Obj) (j : Nat) : DictEntry := match o with
  | some o => match o.data with
    | .dict ⟨es⟩ _ => es.getD j ⟨0, .none, .none⟩
    | _ => ⟨0, .none, .none⟩
  | none => ⟨0, .none, .none⟩
noncomputable def sltO : Option Obj → Array (Option Value)
  | some o => o.slots
  | none => ⟨[]⟩
noncomputable def tyList : String := SL.s9222952809800978799x4
noncomputable def listO (xs : Array Value) (n : Nat) : Obj := ⟨.type tyList, none, .seq xs n, ⟨[]⟩⟩
noncomputable def zip3 (is : List Nat) (l : List (Nat × Obj)) : List (Nat × Nat × Obj) := List.zipWith (fun i y => (i, y.1, y.2)) is l
noncomputable def zip2 (is : List Nat) (l : List (Nat × Obj)) : List (Nat × Obj) := List.zipWith (fun i y => (i, y.2)) is l
noncomputable def news_ (l : List (Nat × Obj)) : List Obj := l.map (·.2)
noncomputable def eIdx : List Nat := [1, 2, 3, 4, 12, 11, 10, 7, 8, 9]
noncomputable def gE (T : BT) (i : Nat) : FrO := froOf (T.get (match i with | 0 => 11 | 1 => 10 | 2 => 7 | i + 3 => i + 8))
noncomputable def aE (l lex Ls : Nat) (ads : Ads) (bel : List (Code × Pos)) : Ar := aOf l lex Ls (adOf ads 10) (adOf ads 11) (adOf ads 12) bel
noncomputable def fkE (T : BT) (i : Nat) : Nat := vtok (entO (T.get 12) i).key
noncomputable def conE (P : Params) (l lex Ls : Nat) (o : OutA) (x : Lx) (st τs ln τl τt pos τp : Nat) (r : RdR) : CF
  | 0, _, Γ, .whileLoop _ _ _ env, T, ads => some (conS T ads (ctxOf (wCode (adOf ads 12)) ((aE l lex Ls ads Γ.below).W o))
      (zip3 eIdx (lxL P lex x (stV st τs) ln τl ⟨⟨[]⟩⟩ τt pos τp ++ (adOf ads 12, frW P lex (fkE T) (vtok (entO (T.get 12) 2).val) (sltO (T.get 12)) false none) :: frs (aE l lex Ls ads Γ.below) o (gE T))) True
      (wRes r) (fun ν => zip2 eIdx (wCh P (aE l lex Ls ads Γ.below) o x (gE T) (fkE T) (vtok (entO (T.get 12) 2).val) (sltO (T.get 12)) r ν)) (fun ν => news_ (wNew (aE l lex Ls ads Γ.below) r ν)))
  | j + 1, x, Γ, c, T, ads => conB j x Γ c T ads
  | _, _, _, _, _, _ => none
noncomputable def exL (P : Params) (l lex Ls : Nat) (o : OutA) (x : Lx) (g : Nat → FrO) (xs : Array Value) (n : Nat) (st : Value) (ln τl τt pos τp : Nat) : List (Nat × Obj) :=
  (l, listO xs n) :: lxL P lex x st ln τl ⟨⟨[]⟩⟩ τt pos τp ++ (x.dq1, deqO) :: (x.dq2, deqO) :: (Ls, frX (g 2)) :: outF o g
noncomputable def ctxE (l lex Ls : Nat) (q : Nat → Pos) (o : OutA) : Ctx := ctxOf (loopC l lex) (belL lex Ls q (outOf o))
noncomputable def lnOf (X : Out) (i j : Nat) : Nat := match (entAt X i j).val with
  | .int (.ofNat n) _ => n
  | _ => 0
noncomputable def runE (W : World) (l lex Ls : Nat) (q : Nat → Pos) (o : OutA) (x : Lx) (g : Nat → FrO) (xs : Array Value) (n : Nat) (st τs ln τl τt pos τp : Nat) (r : RdR) (fuel : Nat) (hs : List Nat) (N t : Nat) (p : Pos) (nv : Nv) : Out :=
  runC (cfgW W (conE W.params l lex Ls o x st τs ln τl τt pos τp r)) fuel (ctxE l lex Ls q o) p hs (exL W.params l lex Ls o x g xs n (stV st τs) ln τl τt pos τp) N t nv
noncomputable def itemsOf : Nat → (Nat → Value) → List Value
  | 0, _ => []
  | k + 1, f => f 0 :: itemsOf k fun i => f (i + 1)
theorem all7 {P : Nat → Prop} (h : P 0 ∧ P 1 ∧ P 2 ∧ P 3 ∧ P 4 ∧ P 5 ∧ P 6) : ∀ k, k < 7 → P k := fun k hk => by
  obtain ⟨h0, h1, h2, h3, h4, h5, h6⟩ := h
  match k, hk with
  | 0, _ => exact h0
  | 1, _ => exact h1
  | 2, _ => exact h2
  | 3, _ => exact h3
  | 4, _ => exact h4
  | 5, _ => exact h5
  | 6, _ => exact h6
/-- a quoted token -/
theorem e1 (w : World) (b b2 : Bool) (l lex Ls : Nat) (q : Nat → Pos) (o : OutA) (x : Lx) (g : Nat → FrO) (f : Nat → Value) (n st τs ln τl τt pos τp : Nat) (tok : List Nat) (st1 : Nat) (rest nc : List Nat) (N t : Nat) (p : Pos) (nv : Nv) : ∀ k, k < 7 →
    let W := wld w b b2
    let X := runE W l lex Ls q o x g ⟨itemsOf k f⟩ n st τs ln τl τt pos τp ⟨false, tok, true, st1, rest, nc⟩ 430 [2, 0, 0, 0, 0, 0, 0, 0, 11, 11, 0, 1001, 11, 2, 0, 0, 0, 2, 0, 0, 0, 2, 0, 0, 0, 0, 2, 3, 0, 0, 0, 0, 12, 12, 0, 1001, 12, 2, 0, 0, 0, 0, 2, 0, 0, 0, 2, 2, 0, 3, 6, 6, 0, 6, 0, 6, 0, 6, 12, 2, 0, 0, 0, 2, 0, 0, 0, 2, 0, 0, 0, 0, 2, 3, 0, 0, 0, 0, 13, 13, 0, 1001, 13, 13, 13, 13, 1, 0, 13, 2, 0, 0, 0, 0, 2, 0, 0, 0, 2, 2, 0, 3, 13, 13, 13, 2, 0, 0, 0, 0, 2, 0, 0, 2, 0, 2, 0, 0, 0, 2, 0, 3, 3, 3, 13, 2, 0, 0, 0, 0, 2, 0, 0, 0, 2, 2, 0, 3, 13, 13, 2, 0, 0, 0, 0, 2, 0, 0, 0, 2, 2, 0, 3, 0, 0, 13, 12, 12, 12, 2, 0, 0, 0, 0, 2, 0, 0, 0, 2, 2, 0, 3, 1000, 12, 12, 2, 0, 0, 0, 0, 2, 0, 0, 0, 2, 2, 0, 3, 0, 0, 0, 0, 12, 2, 0, 0, 0, 0, 2, 0, 0, 0, 2, 2, 0, 3, 0, 0, 12, 11, 11, 11, 11, 2, 0, 0, 0, 0, 2, 0, 0, 0, 2, 2, 0, 3, 0, 0, 0, 0, 11, 1, 1, 1, 1] N t p nv
    let l' := exL W.params l lex Ls o x g ((⟨itemsOf k f⟩ : Array Value).push (.str ⟨⟨tok⟩⟩ ((nv 0).2.2.n 5))) (n + 1) (stV st1 ((nv 0).2.2.n 2)) (lnOf X 2 13) (vt X 2 13) (vt X 2 15) (x.buf.length - rest.length) (vt X 4 2)
    look [0, 1, 2, 3, 4, 5, 6, 7, 8, 9] X = some (.again (ctxE l lex Ls q o) (posOf X), os_ l', as_ l', dup (eqsOf X), dupG (gsOf X), dupO (osOf X), (True ∧ True)) := by
  refine all7 ?_
  cases b <;> (refine ⟨?_, ?_, ?_, ?_, ?_, ?_, ?_⟩ <;> (intro W X l'; kernel_rfl))
/-- a bare token -/
theorem e2 (w : World) (b b2 : Bool) (l lex Ls : Nat) (q : Nat → Pos) (o : OutA) (x : Lx) (g : Nat → FrO) (f : Nat → Value) (n st τs ln τl τt pos τp : Nat) (tok : List Nat) (st1 : Nat) (rest nc : List Nat) (N t : Nat) (p : Pos) (nv : Nv) : ∀ k, k < 7 →
    let W := wld w b b2
    let X := runE W l lex Ls q o x g ⟨itemsOf k f⟩ n st τs ln τl τt pos τp ⟨false, tok, false, st1, rest, nc⟩ 436 [2, 0, 0, 0, 0, 0, 0, 0, 11, 11, 0, 1001, 11, 2, 0, 0, 0, 2, 0, 0, 0, 2, 0, 0, 0, 0, 2, 3, 0, 0, 0, 0, 12, 12, 0, 1001, 12, 2, 0, 0, 0, 0, 2, 0, 0, 0, 2, 2, 0, 3, 6, 6, 0, 6, 0, 6, 0, 6, 12, 2, 0, 0, 0, 2, 0, 0, 0, 2, 0, 0, 0, 0, 2, 3, 0, 0, 0, 0, 13, 13, 0, 1001, 13, 13, 13, 13, 1, 0, 13, 2, 0, 0, 0, 0, 2, 0, 0, 0, 2, 2, 0, 3, 13, 13, 13, 2, 0, 0, 0, 0, 2, 0, 0, 2, 0, 2, 0, 0, 0, 2, 0, 3, 3, 3, 13, 2, 0, 0, 0, 0, 2, 0, 0, 0, 2, 2, 0, 3, 13, 13, 2, 0, 13, 2, 0, 0, 0, 0, 2, 0, 0, 0, 2, 2, 0, 3, 0, 0, 13, 12, 12, 12, 2, 0, 0, 0, 0, 2, 0, 0, 0, 2, 2, 0, 3, 1000, 12, 12, 2, 0, 0, 0, 0, 2, 0, 0, 0, 2, 2, 0, 3, 0, 0, 0, 0, 12, 2, 0, 0, 0, 0, 2, 0, 0, 0, 2, 2, 0, 3, 0, 0, 12, 11, 11, 11, 11, 2, 0, 0, 0, 0, 2, 0, 0, 0, 2, 2, 0, 3, 0, 0, 0, 0, 11, 1, 1, 1, 1] N t p nv
    let l' := exL W.params l lex Ls o x g ((⟨itemsOf k f⟩ : Array Value).push (.str ⟨⟨tok⟩⟩ ((nv 0).2.2.n 5))) (n + 1) (stV st1 ((nv 0).2.2.n 2)) (lnOf X 2 13) (vt X 2 13) (vt X 2 15) (x.buf.length - rest.length) (vt X 4 2)
    look [0, 1, 2, 3, 4, 5, 6, 7, 8, 9] X = some (.again (ctxE l lex Ls q o) (posOf X), os_ l', as_ l', dup (eqsOf X), dupG (gsOf X), dupO (osOf X), (EqB tok [] 0 ∧ True ∧ True)) := by
  refine all7 ?_
  cases b <;> (refine ⟨?_, ?_, ?_, ?_, ?_, ?_, ?_⟩ <;> (intro W X l'; kernel_rfl))
/-- an open quotation -/
theorem e3 (w : World) (b b2 : Bool) (l lex Ls : Nat) (q : Nat → Pos) (o : OutA) (x : Lx) (g : Nat → FrO) (xs : Array Value) (n st τs ln τl τt pos τp : Nat) (tok : List Nat) (st1 : Nat) (rest nc : List Nat) (N t : Nat) (p : Pos) (nv : Nv) :
    let W := wld w b b2
    let X := runE W l lex Ls q o x g xs n st τs ln τl τt pos τp ⟨true, tok, true, st1, rest, nc⟩ 190 [2, 0, 0, 0, 0, 0, 0, 0, 11, 11, 0, 1001, 11, 2, 0, 0, 0, 2, 0, 0, 0, 2, 0, 0, 0, 0, 2, 3, 0, 0, 0, 0, 12, 12, 0, 1001, 12, 2, 0, 0, 0, 0, 2, 0, 0, 0, 2, 2, 0, 3, 6, 6, 0, 6, 0, 6, 0, 6, 12, 2, 0, 0, 0, 2, 0, 0, 0, 2, 0, 0, 0, 0, 2, 3, 0, 0, 0, 0, 13, 13, 0, 1001, 13, 13, 13, 13, 1, 0, 14, 14, 15, 15, 13, 14, 13, 14, 11, 10, 7, 8, 9, 13, 15, 10, 7, 8, 9, 14] N t p nv
    let l' := [(l, obAt X 0), (lex, obAt X 1), (x.d, obAt X 2), (x.sio, obAt X 3), (x.e, obAt X 4), (x.dq1, obAt X 5), (x.dq2, obAt X 6), (Ls, frX ⟨(g 2).es, (g 2).n, slOf X 7⟩)] ++ (outF o fun i => ⟨(g i).es, (g i).n, slOf X (5 + i)⟩) ++
        [(adAt X 13, excO "ValueError" ((nv 0).2.2.n 9) (adAt X 16) (slOf X 13)), (adAt X 16, entryO (.ref (adAt X 15)) (adAt X 10) .none (tlOf X 16))]
    look [0, 1, 2, 3, 4, 5, 6, 7, 8, 9, 13, 16] X = some (.done (.error (.ref (adAt X 13))), os_ l', as_ l', dup (eqsOf X), dupG (gsOf X), dupO (osOf X), (True ∧ True)) := by
  cases b <;> (intro W X l'; kernel_rfl)
/-- the end -/
theorem e4 (w : World) (b b2 : Bool) (l lex Ls : Nat) (q : Nat → Pos) (o : OutA) (x : Lx) (g : Nat → FrO) (xs : Array Value) (n st τs ln τl τt pos τp : Nat) (tok : List Nat) (st1 : Nat) (rest nc : List Nat) (N t : Nat) (p : Pos) (nv : Nv) :
    let W := wld w b b2
    let X := runE W l lex Ls q o x g xs n st τs ln τl τt pos τp ⟨false, tok, false, st1, rest, nc⟩ 494 [2, 0, 0, 0, 0, 0, 0, 0, 11, 11, 0, 1001, 11, 2, 0, 0, 0, 2, 0, 0, 0, 2, 0, 0, 0, 0, 2, 3, 0, 0, 0, 0, 12, 12, 0, 1001, 12, 2, 0, 0, 0, 0, 2, 0, 0, 0, 2, 2, 0, 3, 6, 6, 0, 6, 0, 6, 0, 6, 12, 2, 0, 0, 0, 2, 0, 0, 0, 2, 0, 0, 0, 0, 2, 3, 0, 0, 0, 0, 13, 13, 0, 1001, 13, 13, 13, 13, 1, 0, 13, 2, 0, 0, 0, 0, 2, 0, 0, 0, 2, 2, 0, 3, 13, 13, 13, 2, 0, 0, 0, 0, 2, 0, 0, 2, 0, 2, 0, 0, 0, 2, 0, 3, 3, 3, 13, 2, 0, 0, 0, 0, 2, 0, 0, 0, 2, 2, 0, 3, 13, 13, 2, 1, 13, 13, 13, 2, 0, 0, 0, 0, 2, 0, 0, 0, 2, 2, 0, 3, 0, 0, 13, 12, 12, 12, 2, 0, 0, 0, 0, 2, 0, 0, 0, 2, 2, 0, 3, 1000, 12, 12, 2, 0, 0, 0, 0, 2, 0, 0, 0, 2, 2, 0, 3, 0, 0, 12, 2, 0, 0, 0, 0, 2, 0, 0, 0, 2, 2, 0, 3, 7, 7, 0, 7, 0, 7, 0, 7, 12, 2, 0, 0, 0, 0, 2, 0, 0, 0, 2, 2, 0, 3, 11, 11, 11, 11, 2, 0, 0, 0, 0, 2, 0, 0, 0, 2, 2, 0, 3, 0, 0, 0, 0, 0, 0, 0, 0, 15, 15, 0, 15, 15, 0, 0, 15, 15, 15, 15, 15, 15, 15, 15, 15, 15, 0, 0, 0, 15, 14, 10, 7, 8, 9, 15] N t p nv
    let l' := exL W.params l lex Ls o x (fun i => ⟨(g i).es, (g i).n, slOf X (5 + i)⟩) xs n (stV st1 ((nv 0).2.2.n 2)) (lnOf X 2 13) (vt X 2 13) (vt X 2 15) (x.buf.length - rest.length) (vt X 4 2)
    look [0, 1, 2, 3, 4, 5, 6, 7, 8, 9] X = some (.done (.ok (.ret .none)), os_ l', as_ l', dup (eqsOf X), dupG (gsOf X), dupO (osOf X), (EqB tok [] 1 ∧ True ∧ True)) := by
  cases b <;> (intro W X l'; kernel_rfl)
/-! S801 -/
/-! ### list(lex) -/
theorem zip2_ad {ads : Ads} : ∀ (is : List Nat) (l : List (Nat × Obj)), l.map (·.1) = is.map (adOf ads) → l = (zip2 is l).map fun x => (adOf ads x.1, x.2)
  | [], [], _ => rfl
  | i :: is, y :: l, h => by
    have h1 := List.cons.inj h
    show y :: l = (adOf ads i, y.2) :: (zip2 is l).map _
    rw [← zip2_ad is l h1.2, ← h1.1]
  | [], _ :: _, h => by cases h
  | _ :: _, [], h => by cases h
theorem zip2_mem {m : Nat} : ∀ (is : List Nat) (l : List (Nat × Obj)), (∀ i ∈ is, i < m) → ∀ x ∈ zip2 is l, x.1 < m
  | [], _, _, x, h => by cases h
  | i :: is, [], _, x, h => by cases h
  | i :: is, y :: l, H, x, h => by
    rcases List.mem_cons.mp h with rfl | h
    · exact H i (List.mem_cons_self ..)
    · exact zip2_mem is l (fun j hj => H j (List.mem_cons_of_mem _ hj)) x h
theorem zip3_holds {s : Shared} {ads : Ads} {m : Nat} : ∀ (is : List Nat) (l : List (Nat × Obj)), is.length = l.length → Holds s ((zip3 is l).map fun x => (x.2.1, x.2.2)) → (∀ x ∈ zip3 is l, x.1 < m ∧ x.2.1 = adOf ads x.1) → Holds s l ∧ l.map (·.1) = is.map (adOf ads) ∧ ∀ i ∈ is, i < m
  | [], [], _, _, _ => ⟨fun x h => by (cases h), rfl, fun x h => by (cases h)⟩
  | i :: is, y :: l, e, H, A => by
    obtain ⟨h1, h2, h3⟩ := zip3_holds is l (Nat.succ.inj e) (fun x hx => H x (List.mem_cons_of_mem _ hx)) fun x hx => A x (List.mem_cons_of_mem _ hx)
    have a0 := A (i, y.1, y.2) (List.mem_cons_self ..)
    refine ⟨fun x hx => ?_, ?_, fun j hj => ?_⟩
    · rcases List.mem_cons.mp hx with rfl | hx
      · exact H (x.1, x.2) (List.mem_cons_self ..)
      · exact h1 x hx
    · show y.1 :: _ = adOf ads i :: _
      rw [h2, ← a0.2]
    · rcases List.mem_cons.mp hj with rfl | hj
      · exact a0.1
      · exact h3 j hj
  | [], _ :: _, e, _, _ => by cases e
  | _ :: _, [], e, _, _ => by cases e
theorem nodup_ad {B : Base} {s : Shared} {T : BT} {m : Nat} {ads : Ads} {tk : Nat} (D : Rep B s T m ads tk) {is : List Nat} (hn : is.Nodup) (hm : ∀ i ∈ is, i < m) : (is.map (adOf ads)).Nodup := by
  rw [List.nodup_iff_pairwise_ne, List.pairwise_map]
  refine List.Pairwise.imp_of_mem (fun {i j} hi hj h e => h (D.inj i j (hm i hi) (hm j hj) e)) (List.nodup_iff_pairwise_ne.mp hn)
theorem conE_ok {w : World} {b b2 : Bool} {l lex Ls : Nat} {o : OutA} {x : Lx} {st τs ln τl τt pos τp : Nat} {r : RdR} (hr : r = rd (x.buf.drop pos) st [] false) (hst : (st = 0 ∧ x.buf.drop pos = []) ∨ st = 32) (hb : x.buf.length ≤ sizeLine) (hbs : 92 ∉ x.buf.drop pos)
    (hp : pos ≤ x.buf.length) {l0 : Nat} {s₀ : Shared} : ConOk (baseOf (kt (wld w b b2).params) 785 l0 s₀) (MW (wld w b b2)) (cfgW (wld w b b2) (conE (wld w b b2).params l lex Ls o x st τs ln τl τt pos τp r)) := by
  intro j y Γ T m ads tk s p g hg hx hn ho ob D
  obtain ⟨c0, e1, e2, bel, e3⟩ := Γ
  replace hg : conE (wld w b b2).params l lex Ls o x st τs ln τl τt pos τp r j y ⟨c0, e1, e2, bel, e3⟩ c0 T ads = some g := hg
  cases j with
  | succ j => exact conB_ok _ _ _ _ _ _ _ _ _ _ hg hx ob D
  | zero =>
    cases c0 with
    | whileLoop test body orelse env =>
      cases hg
      obtain ⟨h1, h2⟩ := conS_holds D hn ho
      replace hx : _ = ctxOf (wCode (adOf ads 12)) ((aE l lex Ls ads bel).W o) := hx
      rw [hx]
      obtain ⟨H, ha, hm⟩ := zip3_holds _ _ rfl h1 h2
      have F : Fx (aE l lex Ls ads bel) o x := ⟨by
          have := nodup_ad D (is := eIdx) (by decide) hm
          rw [← ha] at this
          exact this, fun z hz => by
          have hz : z ∈ eIdx.map (adOf ads) := by rw [← ha]; exact hz
          obtain ⟨i, hi, rfl⟩ := List.mem_map.mp hz
          exact (D.lo i (hm i hi)).1, hb⟩
      refine while_ok F (x.buf.drop pos) (rep_sane D) rfl hbs (Nat.zero_le _) hp ?_ H fun ν s' hD => ?_
      · rcases hst with ⟨rfl, h⟩ | rfl
        · exact .inl ⟨rfl, rfl, rfl, rfl, h⟩
        · exact .inr (.inl ⟨rfl, rfl, rfl⟩)
      · rw [← hr] at hD ⊢
        have hw : ((wCh (wld w b b2).params (aE l lex Ls ads bel) o x (gE T) (fkE T) (vtok (entO (T.get 12) 2).val) (sltO (T.get 12)) r ν).map (·.1)) = eIdx.map (adOf ads) := by
          rw [← ha]; cases r with | mk err tok qd st1 rest nc => cases err <;> rfl
        refine conS_left D ν _ rfl _ _ hD (zip2_ad _ _ hw) (zip2_mem _ _ hm) rfl fun k hk => ?_
        cases r with | mk err tok qd st1 rest nc =>
          cases err with
          | false => exact absurd hk (Nat.not_lt_zero _)
          | true =>
            match k, hk with
            | 0, _ => rfl
            | 1, _ => rfl
    | _ => cases hg
noncomputable def adE (l lex Ls : Nat) (o : OutA) (x : Lx) : List Nat := [l, lex, x.d, x.sio, x.e, x.dq1, x.dq2, Ls] ++ outA o
structure Ex (l lex Ls : Nat) (o : OutA) (x : Lx) : Prop where
  nd : (adE l lex Ls o x).Nodup
  lo : ∀ y ∈ adE l lex Ls o x, 785 ≤ y
  hb : x.buf.length ≤ 13
  bs : 92 ∉ x.buf
theorem Ex.lo' {l lex Ls : Nat} {o : OutA} {x : Lx} (F : Ex l lex Ls o x) {c : List (Nat × Obj)} (h : c.map (·.1) = adE l lex Ls o x := by rfl) : ∀ y ∈ c, 785 ≤ y.1 := fun y hy => F.lo _ (h ▸ List.mem_map.mpr ⟨y, hy, rfl⟩)
theorem itemsOf_getD : ∀ (vs : List Value), itemsOf vs.length (fun i => vs.getD i .none) = vs
  | [] => rfl
  | v :: vs => congrArg (v :: ·) (itemsOf_getD vs)
theorem push_list (vs : List Value) (v : Value) : (⟨vs⟩ : Array Value).push v = ⟨vs ++ [v]⟩ := by simp
/-- what is left of split's objects when a quotation is open -/
noncomputable def badL (l lex Ls : Nat) (o : OutA) (x : Lx) (g : Nat → FrO) (sls : Nat → Array (Option Value)) (gb : Nat → Obj) : List (Nat × Obj) :=
  [(l, gb 0), (lex, gb 1), (x.d, gb 2), (x.sio, gb 3), (x.e, gb 4), (x.dq1, gb 5), (x.dq2, gb 6), (Ls, frX ⟨(g 2).es, (g 2).n, sls 2⟩)] ++ outF o fun i => ⟨(g i).es, (g i).n, sls i⟩
theorem extend_ok {w : World} {b b2 : Bool} {l lex Ls : Nat} {q : Nat → Pos} {o : OutA} {x : Lx} (F : Ex l lex Ls o x) {g : Nat → FrO} {R : Result → Shared → Prop} :
    ∀ (n : Nat) {vals : List Value} {ws : List (List Nat)} {nn st τs ln τl τt pos τp : Nat} {s : Shared} {p : Pos} (S : Top (wld w b b2) s) (hmu : rdMu (x.buf.drop pos) st < n) (hp : pos ≤ x.buf.length)
    (hst : (st = 0 ∧ x.buf.drop pos = []) ∨ (st = 32 ∧ 2 * vals.length ≤ pos)) (hw : IsWords vals ws) (H : Holds s (exL (wld w b b2).params l lex Ls o x g ⟨vals⟩ nn (stV st τs) ln τl τt pos τp))
    (ok : ∀ words, rdAll n (x.buf.drop pos) st = some words → ∀ (vals' : List Value) (nn' : Nat) (sls : Nat → Array (Option Value)) (stv : Value) (ln' τl' τt' pos' τp' : Nat) (s' : Shared), IsWords vals' (ws ++ words) →
      Did s s' (exL (wld w b b2).params l lex Ls o x (fun i => ⟨(g i).es, (g i).n, sls i⟩) ⟨vals'⟩ nn' stv ln' τl' τt' pos' τp') [] → R (.ok (.ret .none)) s')
    (bad : rdAll n (x.buf.drop pos) st = none → ∀ (sls : Nat → Array (Option Value)) (gb : Nat → Obj) (esl : Array (Option Value)) (ea ga ta hd lf : Nat) (tl : Array Value) (s' : Shared),
      Did s s' (badL l lex Ls o x g sls gb) [(ea, excO "ValueError" ga ta esl), (ta, entryO (.ref hd) lf .none tl)] → R (.error (.ref ea)) s'),
    wpCode (MW (wld w b b2)) (ctxE l lex Ls q o) R p s
  | 0, vals, ws, nn, st, τs, ln, τl, τt, pos, τp, s, p, S, hmu, hp, hst, hw, H, ok, bad => absurd hmu (Nat.not_lt_zero _)
  | n + 1, vals, ws, nn, st, τs, ln, τl, τt, pos, τp, s, p, S, hmu, hp, hst, hw, H, ok, bad => by
    have hbl : x.buf.length ≤ sizeLine := Nat.le_trans F.hb (by decide)
    have hbs : 92 ∉ x.buf.drop pos := fun h => F.bs (List.mem_of_mem_drop h)
    have h0 : st = 0 → x.buf.drop pos = [] := fun h => by
      rcases hst with ⟨_, h'⟩ | ⟨h', _⟩
      · exact h'
      · rw [h] at h'; cases h'
    have hst' : (st = 0 ∧ x.buf.drop pos = []) ∨ st = 32 := hst.imp id (·.1)
    cases hr : rd (x.buf.drop pos) st [] false with
    | mk err tok qd st1 rest nc =>
      have con := fun l0 => conE_ok (w := w) (b := b) (b2 := b2) (l := l) (lex := lex) (Ls := Ls) (o := o) (τs := τs) (ln := ln) (τl := τl) (τt := τt) (τp := τp) hr.symm hst' hbl hbs hp (l0 := l0) (s₀ := s)
      cases err with
      | true =>
        have hq : qd = true := by
          have := rd_err (x.buf.drop pos) st [] false (by rw [hr])
          rw [hr] at this
          exact this
        subst hq
        have e : rdAll (n + 1) (x.buf.drop pos) st = none := by show (match (rd (x.buf.drop pos) st [] false).err with | true => _ | false => _) = _; rw [hr]
        refine runC_ok [13, 16] (con _) S H F.nd F.lo' _ _ (fun _ => [_, _]) _ (fun nv => e3 w b b2 l lex Ls q o x g ⟨vals⟩ nn st τs ln τl τt pos τp tok st1 rest nc _ _ p nv) (fun _ => ⟨trivial, trivial⟩) fun nv s' Af => ?_
        try dsimp only at Af
        generalize runE _ _ _ _ _ _ _ _ _ _ _ _ _ _ _ _ _ _ _ _ _ _ _ _ = X at Af
        exact bad e (fun i => slOf X (5 + i)) (obAt X) (slOf X 13) (adAt X 13) _ (adAt X 16) (adAt X 15) _ (tlOf X 16) s' (Af.did _ [_, _] [13, 16] rfl rfl rfl (by simp [badL, outF]) (by simp) rfl rfl)
      | false =>
        by_cases hend : qd = false ∧ tok = []
        · obtain ⟨rfl, rfl⟩ := hend
          have e : rdAll (n + 1) (x.buf.drop pos) st = some [] := by show (match (rd (x.buf.drop pos) st [] false).err with | true => _ | false => _) = _; rw [hr]; rfl
          refine runC_ok [] (con _) S H F.nd F.lo' _ _ (fun _ => []) _ (fun nv => e4 w b b2 l lex Ls q o x g ⟨vals⟩ nn st τs ln τl τt pos τp [] st1 rest nc _ _ p nv) (fun _ => ⟨by unfold EqB; rfl, trivial, trivial⟩) fun nv s' Af => ?_
          try dsimp only at Af
          generalize runE _ _ _ _ _ _ _ _ _ _ _ _ _ _ _ _ _ _ _ _ _ _ _ _ = X at Af
          exact ok [] e vals nn (fun i => slOf X (5 + i)) _ (lnOf X 2 13) (vt X 2 13) (vt X 2 15) _ (vt X 4 2) s' (by rw [List.append_nil]; exact hw) (Af.did _ [] [] rfl rfl rfl (by simp) (by simp) rfl rfl)
        · have e : rdAll (n + 1) (x.buf.drop pos) st = (rdAll n rest st1).map (tok :: ·) := by
            show (match (rd (x.buf.drop pos) st [] false).err with | true => _ | false => _) = _
            rw [hr]
            show (if qd = false ∧ tok = [] then _ else _) = _
            rw [if_neg hend]
          -- the state was blank
          have h32 : st = 32 ∧ 2 * vals.length ≤ pos := hst.resolve_left fun ⟨h1, h2⟩ => by
            rw [h2, h1] at hr
            cases hr
            exact hend ⟨rfl, rfl⟩
          obtain ⟨rfl, h2k⟩ := h32
          have hne : x.buf.drop pos ≠ [] := fun h => by
            rw [h] at hr
            cases hr
            exact hend ⟨rfl, rfl⟩
          have hlt : pos < x.buf.length := by
            have := List.length_pos_iff.mpr hne
            rw [List.length_drop] at this
            omega
          have hk : vals.length < 7 := by have := F.hb; omega
          obtain ⟨⟨pre, hpre⟩, hnext⟩ := rd_rest (x.buf.drop pos) 32 [] false h0 (by rw [hr])
          rw [hr] at hpre hnext
          simp only at hpre hnext
          have hrest : x.buf.drop (x.buf.length - rest.length) = rest := by
            have h1 := congrArg List.length hpre
            rw [List.length_drop, List.length_append] at h1
            rw [show x.buf.length - rest.length = pos + pre.length by omega, ← List.drop_drop, hpre, List.drop_left]
          have hlen : rest.length ≤ (x.buf.drop pos).length := by rw [hpre, List.length_append]; omega
          rw [List.length_drop] at hlen
          have step : ∀ (τ : Nat) (st2 ln2 τl2 τt2 τp2 : Nat) (p' : Pos) (s' : Shared), Did s s' (exL (wld w b b2).params l lex Ls o x g (((⟨itemsOf vals.length fun i => vals.getD i .none⟩ : Array Value)).push (.str ⟨⟨tok⟩⟩ τ)) (nn + 1) (stV st1 st2) ln2 τl2 τt2 (x.buf.length - rest.length) τp2) [] →
              wpCode (MW (wld w b b2)) (ctxE l lex Ls q o) R p' s' := by
            intro τ st2 ln2 τl2 τt2 τp2 p' s' D
            rw [itemsOf_getD, push_list] at D
            refine extend_ok F n (ws := ws ++ [tok]) (Did.sane S D F.lo') ?_ (by omega) ?_ hw.snoc D.holds (fun words hwd vals' nn' sls stv ln' τl' τt' pos' τp' s'' hv D' => ?_) fun hn sls gb esl ea ga ta hd lf tl s'' D' => ?_
            · rw [hrest]
              unfold rdMu at hmu ⊢
              rw [List.length_drop] at hmu
              rcases hnext with ⟨rfl, rfl⟩ | ⟨rfl, h, h'⟩
              · simp at hmu ⊢; omega
              · rw [List.length_drop] at h
                simp at hmu ⊢; omega
            · rw [hrest]
              rcases hnext with ⟨rfl, rfl⟩ | ⟨rfl, h, h'⟩
              · exact .inl ⟨rfl, rfl⟩
              · refine .inr ⟨rfl, ?_⟩
                have := h' (by first | rfl | trivial)
                rw [List.length_drop] at this
                rw [List.length_append, List.length_singleton]
                omega
            · rw [hrest] at hwd
              exact ok (tok :: words) (by rw [e, hwd]; rfl) vals' nn' sls stv ln' τl' τt' pos' τp' s'' (by simpa using hv) (D.trans D' fun _ h => h)
            · rw [hrest] at hn
              exact bad (by rw [e, hn]; rfl) sls gb esl ea ga ta hd lf tl s'' (D.trans D' fun _ h => h)
          have H' : Holds s (exL (wld w b b2).params l lex Ls o x g ⟨itemsOf vals.length fun i => vals.getD i .none⟩ nn (stV 32 τs) ln τl τt pos τp) := by rw [itemsOf_getD]; exact H
          cases qd with
          | true =>
            refine runC_ok [] (con _) S H' F.nd F.lo' _ _ (fun _ => []) _ (fun nv => e1 w b b2 l lex Ls q o x g (fun i => vals.getD i .none) nn 32 τs ln τl τt pos τp tok st1 rest nc _ _ p nv vals.length hk) (fun _ => ⟨trivial, trivial⟩) fun nv s' Af => ?_
            try dsimp only at Af
            generalize runE _ _ _ _ _ _ _ _ _ _ _ _ _ _ _ _ _ _ _ _ _ _ _ _ = X at Af
            exact step _ _ (lnOf X 2 13) (vt X 2 13) (vt X 2 15) (vt X 4 2) _ s' (Af.did _ [] [] rfl rfl rfl (by simp) (by simp) rfl rfl)
          | false =>
            have htok : tok ≠ [] := fun h => hend ⟨rfl, h⟩
            refine runC_ok [] (con _) S H' F.nd F.lo' _ _ (fun _ => []) _ (fun nv => e2 w b b2 l lex Ls q o x g (fun i => vals.getD i .none) nn 32 τs ln τl τt pos τp tok st1 rest nc _ _ p nv vals.length hk) (fun _ => ⟨by unfold EqB; simp [htok, bOf], trivial, trivial⟩) fun nv s' Af => ?_
            try dsimp only at Af
            generalize runE _ _ _ _ _ _ _ _ _ _ _ _ _ _ _ _ _ _ _ _ _ _ _ _ = X at Af
            exact step _ _ (lnOf X 2 13) (vt X 2 13) (vt X 2 15) (vt X 4 2) _ s' (Af.did _ [] [] rfl rfl rfl (by simp) (by simp) rfl rfl)
/-! S901 -/
theorem bwp {W : World} {id : String} {B : Builtin} (e : entryFor table id = some B) {Γ : Ctx} {args : Args} (hc : Γ.code = .builtin id args) {R : Result → Shared → Prop} {p : Pos} {s : Shared}
    (h : Sem.wp (MW W) Γ (B args) (Sem.finPost (MW W) Γ R) (fun e _ s' => R (.error e) s') p s) : wpCode (MW W) Γ R p s := by
  rw [wpCode_iff_wp, hc]
  show Sem.wp (MW W) _ (match entryFor table id with | some b => b args | none => unsupported ((withoutEnding? id "#data").getD id)) _ _ p s
  rw [e]
  exact h
/-! ### list.__init__ -/
noncomputable def ctxI (l lex Ls : Nat) (q : Nat → Pos) (o : OutA) : Ctx := ctxOf (.call (.builtin "list.__init__") ⟨[.ref l, .ref lex], []⟩) (belL lex Ls q (outOf o))
noncomputable def ctxJ (l lex Ls : Nat) (q : Nat → Pos) (o : OutA) : Ctx := ctxOf (.builtin "list.__init__" ⟨[.ref l, .ref lex], []⟩) (belL lex Ls q (outOf o))
theorem i1 (w : World) (b b2 : Bool) (l lex Ls : Nat) (q : Nat → Pos) (o : OutA) (x : Lx) (g : Nat → FrO) (st τs ln τl τt pos τp : Nat) (N t : Nat) (p : Pos) (nv : Nv) :
    let W := wld w b b2
    let X := runC (cfgW W (conO orc0)) 42 (ctxI l lex Ls q o) p [1, 1] (exL W.params l lex Ls o x g ⟨[]⟩ 0 (stV st τs) ln τl τt pos τp) N t nv
    let l' := exL W.params l lex Ls o x g ⟨[]⟩ 0 (stV st τs) ln τl τt pos τp
    look [0, 1, 2, 3, 4, 5, 6, 7, 8, 9] X = some (.again (ctxJ l lex Ls q o) (posOf X), os_ l', as_ l', dup (eqsOf X), dupG (gsOf X), dupO (osOf X), (True)) := by
  cases b <;> (intro W X l'; kernel_rfl)
theorem init_ok {w : World} {b b2 : Bool} {l lex Ls : Nat} {q : Nat → Pos} {o : OutA} {x : Lx} (F : Ex l lex Ls o x) {g : Nat → FrO} {R : Result → Shared → Prop}
    {τs ln τl τt τp : Nat} {s : Shared} {p : Pos} (S : Top (wld w b b2) s) (H : Holds s (exL (wld w b b2).params l lex Ls o x g ⟨[]⟩ 0 (stV 32 τs) ln τl τt 0 τp))
    (ok : ∀ words, rdAll (2 * x.buf.length + 2) x.buf 32 = some words → ∀ (vals' : List Value) (nn' : Nat) (sls : Nat → Array (Option Value)) (stv : Value) (ln' τl' τt' pos' τp' : Nat) (s' : Shared), IsWords vals' words →
      Did s s' (exL (wld w b b2).params l lex Ls o x (fun i => ⟨(g i).es, (g i).n, sls i⟩) ⟨vals'⟩ nn' stv ln' τl' τt' pos' τp') [] → R (.ok (.ret .none)) s')
    (bad : rdAll (2 * x.buf.length + 2) x.buf 32 = none → ∀ (sls : Nat → Array (Option Value)) (gb : Nat → Obj) (esl : Array (Option Value)) (ea ga ta hd lf : Nat) (tl : Array Value) (s' : Shared),
      Did s s' (badL l lex Ls o x g sls gb) [(ea, excO "ValueError" ga ta esl), (ta, entryO (.ref hd) lf .none tl)] → R (.error (.ref ea)) s') :
    wpCode (MW (wld w b b2)) (ctxI l lex Ls q o) R p s := by
  refine runC_ok [] (conO_good orc0) S H F.nd F.lo' _ _ (fun _ => []) _ (fun nv => i1 w b b2 l lex Ls q o x g 32 τs ln τl τt 0 τp _ _ p nv) (fun _ => trivial) fun nv s' Af => ?_
  try dsimp only at Af
  generalize hX : runC _ _ _ _ _ _ _ _ _ = X at Af ⊢
  have D := Af.did (exL (wld w b b2).params l lex Ls o x g ⟨[]⟩ 0 (stV 32 τs) ln τl τt 0 τp) [] [] rfl rfl rfl (by simp) (by simp) rfl rfl
  clear Af hX
  show wpCode (MW (wld w b b2)) (ctxJ l lex Ls q o) R (posOf X) s'
  generalize posOf X = p'
  have hne : l ≠ lex := by
    intro e
    have := F.nd
    simp [adE, e] at this
  refine bwp PySem.F.entry_list_init rfl ?_
  dsimp only [Builtin.«list.__init__», Builtin.List.listExtendWith, Builtin.List.listSameRef]
  have hb : (l == lex) = false := by simp [hne]
  simp only [hb, Bool.false_or]
  have S' : Top (wld w b b2) s' := Did.sane S D F.lo'
  refine run_tree (C := cfgW (wld w b b2) (conO orc0)) (n := 91) (hs := [1, 1, 1, 1, 2, 2, 0, 0, 0, 2, 0, 0, 0, 0, 0, 0, 0, 11, 11, 0, 1001, 11, 2, 0, 0, 0, 2, 0, 0, 0, 2, 0, 0, 0, 1, 1, 1, 1, 1, 1, 1]) (ext := []) (den_ok _ _) rfl rfl rfl (conO_good orc0) (lvTree_ok (by show lvF = lvTree; exact lv_eq.symm)) S' D.holds F.nd F.lo'
    (fun nv => .again (ctxE l lex Ls q o) p') (fun nv => os_ (exL (wld w b b2).params l lex Ls o x g ⟨[]⟩ 2 (stV 32 τs) ln τl τt 0 τp)) (fun _ => []) (fun _ => True) (fun nv => ?_) (fun _ => trivial) fun nv s2 Af => ?_
  · rw [show @sx = @sxF from sx_eq]
    cases b <;> (intro X0; kernel_rfl)
  · have D2 := Af.did (exL (wld w b b2).params l lex Ls o x g ⟨[]⟩ 2 (stV 32 τs) ln τl τt 0 τp) [] [] rfl rfl rfl (by simp) (by simp) rfl rfl
    refine extend_ok F (2 * x.buf.length + 2) (vals := []) (ws := []) (Did.sane S' D2 F.lo') (by simp [rdMu]) (Nat.zero_le _) (.inr ⟨rfl, Nat.zero_le _⟩) trivial D2.holds (fun words hw vals' nn' sls stv ln' τl' τt' pos' τp' s3 hv D3 => ?_) fun hn sls gb esl ea ga ta hd lf tl s3 D3 => ?_
    · exact ok words hw vals' nn' sls stv ln' τl' τt' pos' τp' s3 (by simpa using hv) ((D.trans D2 fun _ h => h).trans D3 fun _ h => h)
    · exact bad hn sls gb esl ea ga ta hd lf tl s3 ((D.trans D2 fun _ h => h).trans D3 fun _ h => h)
/-! SA01 -/
/-! ### split -/
noncomputable def mkW : List (List Nat) → (Nat → Nat) → List Value
  | [], _ => []
  | l :: r, τ => .str ⟨⟨l⟩⟩ (τ 0) :: mkW r fun i => τ (i + 1)
theorem isWords_mkW : ∀ {vs : List Value} {ws : List (List Nat)}, IsWords vs ws → ∃ τ, vs = mkW ws τ
  | [], [], _ => ⟨fun _ => 0, rfl⟩
  | .str ⟨⟨l⟩⟩ τ0 :: r, l' :: r', h => by
    obtain ⟨rfl, h⟩ := h
    obtain ⟨τ, e⟩ := isWords_mkW h
    refine ⟨fun i => match i with | 0 => τ0 | i + 1 => τ i, ?_⟩
    rw [e]; rfl
noncomputable def iRes (r : Option (List (List Nat))) (ν : Unk) : Result := match r with
  | some _ => .ok (.ret .none)
  | none => .error (.ref (ν.n 0))
noncomputable def iCh (l lex Ls : Nat) (o : OutA) (x : Lx) (g : Nat → FrO) (r : Option (List (List Nat))) (ν : Unk) : List (Nat × Obj) := match r with
  | some ws => [(l, listO ⟨mkW ws fun i => ν.n (i + 100)⟩ (ν.n 0)), (lex, ν.ob 1), (x.d, ν.ob 2), (x.sio, ν.ob 3), (x.e, ν.ob 4), (x.dq1, ν.ob 5), (x.dq2, ν.ob 6), (Ls, frX ⟨(g 2).es, (g 2).n, ν.sl 2⟩)] ++ outF o fun i => ⟨(g i).es, (g i).n, ν.sl i⟩
  | none => badL l lex Ls o x g ν.sl ν.ob
noncomputable def iNew (r : Option (List (List Nat))) (ν : Unk) : List (Nat × Obj) := match r with
  | some _ => []
  | none => [(ν.n 0, excO "ValueError" (ν.n 2) (ν.n 1) (ν.sl 20)), (ν.n 1, entryO (.ref (ν.n 3)) (ν.n 4) .none (ν.vs 0))]
theorem init_post {w : World} {b b2 : Bool} {l lex Ls : Nat} {q : Nat → Pos} {o : OutA} {x : Lx} (F : Ex l lex Ls o x) {g : Nat → FrO} {τs ln τl τt τp : Nat} {s : Shared} {p : Pos} (S : Top (wld w b b2) s)
    (H : Holds s (exL (wld w b b2).params l lex Ls o x g ⟨[]⟩ 0 (stV 32 τs) ln τl τt 0 τp)) : wpCode (MW (wld w b b2)) (ctxI l lex Ls q o)
      (fun r s' => ∃ ν, r = iRes (rdAll (2 * x.buf.length + 2) x.buf 32) ν ∧ Did s s' (iCh l lex Ls o x g (rdAll (2 * x.buf.length + 2) x.buf 32) ν) (iNew (rdAll (2 * x.buf.length + 2) x.buf 32) ν)) p s := by
  refine init_ok F S H (fun words e vals' nn' sls stv ln' τl' τt' pos' τp' s' hv D => ?_) fun e sls gb esl ea ga ta hd lf tl s' D => ?_
  · obtain ⟨τ, rfl⟩ := isWords_mkW hv
    rw [e]
    refine ⟨⟨fun i => match Nat.beq i 0 with | true => nn' | false => τ (i - 100), sls, fun _ => #[], fun i => match i with
      | 1 => inst 729 x.d
      | 2 => lexD (wld w b b2).params x.k x.v x.sio x.dq1 x.dq2 stv (.int (.ofNat ln') τl') (.str ⟨⟨[]⟩⟩ τt')
      | 3 => inst 594 x.e
      | 4 => sioD (wld w b b2).params x.sk x.nl (.str ⟨⟨x.buf⟩⟩ x.τb) (.int (.ofNat pos') τp')
      | _ => deqO⟩, rfl, D⟩
  · rw [e]
    exact ⟨⟨fun i => match i with | 0 => ea | 1 => ta | 2 => ga | 3 => hd | _ => lf, fun i => match Nat.beq i 20 with | true => esl | false => sls i, fun _ => tl, gb⟩, rfl, D⟩
/-! SB01 -/
/-! ### split -/
noncomputable def iIdx : List Nat := [15, 4, 3, 10, 9, 13, 14, 2, 0, 1]
noncomputable def gI (T : BT) (i : Nat) : FrO := froOf (T.get (match i with | 0 => 2 | 1 => 2 | 2 => 2 | i + 3 => i))
noncomputable def xI (T : BT) (ads : Ads) (buf : List Nat) : Lx := ⟨adOf ads 3, adOf ads 10, adOf ads 9, adOf ads 13, adOf ads 14, fun i => vtok (entO (T.get 3) i).key,
  fun i => vtok (entO (T.get 3) (match i with | 0 => 4 | 1 => 5 | 2 => 6 | 3 => 8 | 4 => 9 | 5 => 10 | 6 => 14 | _ => 18)).val, fun i => vtok (entO (T.get 9) i).key, vtok (entO (T.get 9) 0).val, buf, vtok (entO (T.get 9) 1).val⟩
noncomputable def qI (bel : List (Code × Pos)) (i : Nat) : Pos := match i with
  | 2 => posN bel 0
  | _ => posN bel 1
noncomputable def exI (P : Params) (o : OutA) (buf : List Nat) (T : BT) (ads : Ads) : List (Nat × Obj) :=
  exL P (adOf ads 15) (adOf ads 4) (adOf ads 2) o (xI T ads buf) (gI T) ⟨[]⟩ 0 (stV 32 (vtok (entO (T.get 3) 11).val)) 1 (vtok (entO (T.get 3) 13).val) (vtok (entO (T.get 3) 15).val) 0 (vtok (entO (T.get 9) 2).val)
noncomputable def isRR : Code → Bool
  | .call _ ⟨[.ref _, .ref _], _⟩ => true
  | _ => false
noncomputable def conI (P : Params) (o : OutA) (buf : List Nat) (res : Option (List (List Nat))) : CF := fun j x Γ c T ads => match j with
  | 0 => match isRR c with
    | true => some (conS T ads (ctxI (adOf ads 15) (adOf ads 4) (adOf ads 2) (qI Γ.below) o) (zip3 iIdx (exI P o buf T ads)) True (iRes res)
      (fun ν => zip2 iIdx (iCh (adOf ads 15) (adOf ads 4) (adOf ads 2) o (xI T ads buf) (gI T) res ν)) fun ν => news_ (iNew res ν))
    | false => none
  | j + 1 => conB j x Γ c T ads
theorem conI_ok {w : World} {b b2 : Bool} {o : OutA} {buf : List Nat} {res : Option (List (List Nat))} (hr : res = rdAll (2 * buf.length + 2) buf 32) (hb : buf.length ≤ 13) (hbs : 92 ∉ buf) {l0 : Nat} {s₀ : Shared} :
    ConOk (baseOf (kt (wld w b b2).params) 785 l0 s₀) (MW (wld w b b2)) (cfgW (wld w b b2) (conI (wld w b b2).params o buf res)) := by
  intro j y Γ T m ads tk s p g hg hx hn ho ob D
  obtain ⟨c0, e1, e2, bel, e3⟩ := Γ
  replace hg : conI (wld w b b2).params o buf res j y ⟨c0, e1, e2, bel, e3⟩ c0 T ads = some g := hg
  cases j with
  | succ j => exact conB_ok _ _ _ _ _ _ _ _ _ _ hg hx ob D
  | zero =>
    cases hb' : isRR c0 with
    | false => simp only [conI, hb'] at hg; cases hg
    | true =>
      simp only [conI, hb'] at hg
      cases hg
      obtain ⟨h1, h2⟩ := conS_holds D hn ho
      obtain ⟨H, ha, hm⟩ := zip3_holds _ _ rfl h1 h2
      have F : Ex (adOf ads 15) (adOf ads 4) (adOf ads 2) o (xI T ads buf) := ⟨by
          have := nodup_ad D (is := iIdx) (by decide) hm
          rw [← ha] at this
          exact this, fun z hz => by
          have hz : z ∈ iIdx.map (adOf ads) := by rw [← ha]; exact hz
          obtain ⟨i, hi, rfl⟩ := List.mem_map.mp hz
          exact (D.lo i (hm i hi)).1, hb, hbs⟩
      replace hx : _ = ctxI (adOf ads 15) (adOf ads 4) (adOf ads 2) (qI bel) o := hx
      rw [hx]
      refine wpCode_mono (fun r s' h => ?_) (init_post F (rep_sane D) H)
      obtain ⟨ν, hr', hD⟩ := h
      replace hD : Did s s' (iCh (adOf ads 15) (adOf ads 4) (adOf ads 2) o (xI T ads buf) (gI T) (rdAll (2 * buf.length + 2) buf 32) ν) (iNew (rdAll (2 * buf.length + 2) buf 32) ν) := hD
      replace hr' : r = iRes (rdAll (2 * buf.length + 2) buf 32) ν := hr'
      rw [← hr] at hD hr'
      have hw : ((iCh (adOf ads 15) (adOf ads 4) (adOf ads 2) o (xI T ads buf) (gI T) res ν).map (·.1)) = iIdx.map (adOf ads) := by
        rw [← ha]; cases res <;> rfl
      refine conS_left D ν _ hr' _ _ hD (zip2_ad _ _ hw) (zip2_mem _ _ hm) rfl fun k hk => ?_
      cases res with
      | some ws => exact absurd hk (Nat.not_lt_zero _)
      | none =>
        match k, hk with
        | 0, _ => rfl
        | 1, _ => rfl
noncomputable def ctxS (o : OutA) (buf : List Nat) (τ : Nat) : Ctx := ctxOf (.call (.ref 741) ⟨[.str ⟨⟨buf⟩⟩ τ], []⟩) (outOf o)
noncomputable def runS (W : World) (o : OutA) (buf : List Nat) (τ : Nat) (g : Nat → FrO) (res : Option (List (List Nat))) (fuel : Nat) (hs : List Nat) (N t : Nat) (p : Pos) (nv : Nv) : Out :=
  runC (cfgW W (conI W.params o buf res)) fuel (ctxS o buf τ) p hs (outF o g) N t nv
/-- split gives the words -/
theorem s2 (w : World) (b b2 : Bool) (o : OutA) (buf : List Nat) (τ : Nat) (g : Nat → FrO) (ws : List (List Nat)) (N t : Nat) (p : Pos) (nv : Nv) :
    let W := wld w b b2
    let X := runS W o buf τ g (some ws) 1412 [0, 0, 0, 3, 3, 3, 3, 3, 3, 0, 1001, 3, 0, 3, 3, 0, 0, 0, 0, 0, 0, 0, 0, 0, 0, 0, 0, 0, 0, 0, 0, 0, 0, 0, 0, 0, 0, 0, 0, 0, 0, 0, 0, 0, 0, 0, 0, 0, 5, 0, 5, 0, 0, 0, 0, 0, 0, 0, 0, 6, 6, 6, 6, 6, 6, 6, 6, 6, 6, 0, 1001, 0, 0, 6, 0, 0, 0, 0, 0, 0, 6, 0, 0, 0, 0, 0, 0, 0, 0, 0, 0, 0, 0, 0, 0, 0, 0, 0, 0, 0, 0, 0, 0, 0, 0, 0, 0, 0, 0, 0, 0, 0, 0, 0, 9, 9, 9, 9, 9, 9, 0, 1001, 9, 0, 0, 0, 9, 0, 0, 0, 0, 0, 9, 0, 0, 0, 0, 0, 0, 0, 0, 0, 0, 0, 0, 0, 0, 0, 0, 0, 0, 0, 0, 0, 0, 0, 0, 0, 0, 0, 0, 0, 0, 0, 0, 0, 0, 0, 0, 0, 0, 0, 11, 0, 11, 0, 0, 0, 0, 0, 0, 0, 0, 12, 12, 12, 12, 12, 12, 0, 1001, 12, 0, 0, 12, 0, 0, 0, 0, 12, 12, 0, 0, 12, 0, 0, 12, 0, 0, 12, 0, 0, 0, 0, 12, 12, 11, 0, 0, 0, 0, 0, 0, 0, 0, 11, 0, 0, 11, 0, 11, 0, 0, 0, 0, 0, 0, 0, 11, 0, 10, 10, 10, 12, 11, 0, 0, 0, 0, 0, 0, 0, 0, 11, 0, 0, 11, 0, 11, 0, 0, 0, 0, 0, 0, 0, 11, 0, 10, 10, 10, 12, 11, 0, 0, 0, 0, 0, 0, 0, 0, 11, 0, 0, 11, 0, 11, 0, 0, 0, 0, 0, 0, 0, 11, 0, 10, 10, 10, 12, 12, 11, 0, 0, 0, 0, 0, 0, 0, 11, 0, 0, 0, 0, 0, 0, 0, 11, 0, 0, 0, 0, 11, 10, 12, 0, 0, 0, 0, 13, 13, 13, 13, 0, 1001, 13, 11, 0, 0, 0, 0, 0, 0, 0, 0, 11, 0, 0, 0, 0, 0, 0, 0, 11, 11, 0, 10, 13, 13, 13, 13, 0, 0, 13, 0, 0, 13, 12, 11, 0, 0, 0, 0, 0, 0, 0, 0, 11, 0, 0, 11, 0, 11, 0, 0, 0, 0, 0, 0, 0, 11, 0, 10, 10, 10, 6, 6, 6, 6, 6, 5, 0, 0, 0, 0, 5, 0, 0, 5, 0, 5, 0, 0, 0, 5, 0, 4, 4, 4, 6, 6, 5, 0, 0, 0, 0, 5, 0, 0, 5, 0, 5, 0, 0, 0, 5, 0, 4, 4, 4, 6, 6, 5, 0, 0, 0, 0, 5, 0, 0, 5, 0, 5, 0, 0, 0, 5, 0, 4, 4, 4, 6, 6, 5, 0, 0, 0, 0, 5, 0, 0, 5, 0, 5, 0, 0, 0, 5, 0, 4, 4, 4, 6, 5, 0, 0, 0, 0, 5, 0, 0, 5, 0, 5, 0, 0, 0, 5, 0, 4, 4, 4, 6, 5, 0, 0, 0, 0, 5, 0, 0, 5, 0, 5, 0, 0, 0, 5, 0, 4, 4, 4, 6, 5, 0, 0, 0, 0, 5, 0, 0, 0, 5, 5, 0, 4, 6, 5, 0, 0, 0, 0, 5, 0, 0, 0, 5, 5, 0, 4, 0, 0, 5, 0, 0, 0, 0, 5, 0, 0, 5, 0, 5, 0, 0, 0, 5, 0, 4, 4, 4, 6, 5, 0, 0, 0, 0, 5, 0, 0, 5, 0, 5, 0, 0, 0, 5, 0, 4, 4, 4, 6, 5, 0, 0, 0, 0, 5, 0, 0, 5, 0, 5, 0, 0, 0, 5, 0, 4, 4, 4, 6, 5, 0, 0, 0, 0, 5, 0, 0, 5, 0, 5, 0, 0, 0, 5, 0, 4, 4, 4, 6, 5, 0, 0, 0, 0, 5, 0, 0, 5, 0, 5, 0, 0, 0, 5, 0, 4, 4, 4, 6, 5, 0, 0, 0, 0, 5, 0, 0, 5, 0, 5, 0, 0, 0, 5, 0, 4, 4, 4, 6, 5, 0, 0, 0, 0, 5, 0, 0, 5, 0, 5, 0, 0, 0, 5, 0, 4, 4, 4, 0, 0, 0, 0, 0, 14, 14, 0, 14, 0, 14, 14, 14, 6, 5, 0, 0, 0, 0, 5, 0, 0, 5, 0, 5, 0, 0, 0, 5, 0, 4, 4, 4, 6, 5, 0, 0, 0, 0, 5, 0, 0, 5, 0, 5, 0, 0, 0, 5, 0, 4, 4, 4, 6, 5, 0, 0, 0, 0, 5, 0, 0, 5, 0, 5, 0, 0, 0, 5, 0, 4, 4, 4, 6, 5, 0, 0, 0, 0, 5, 0, 0, 5, 0, 5, 0, 0, 0, 5, 0, 4, 4, 4, 0, 0, 0, 0, 0, 15, 15, 0, 15, 0, 15, 15, 15, 6, 5, 0, 0, 0, 0, 5, 0, 0, 5, 0, 5, 0, 0, 0, 5, 0, 4, 4, 4, 6, 5, 0, 0, 0, 0, 5, 0, 0, 5, 0, 5, 0, 0, 0, 5, 0, 4, 4, 4, 6, 6, 6, 6, 6, 5, 0, 0, 0, 0, 5, 0, 0, 5, 0, 5, 0, 0, 0, 5, 0, 4, 4, 4, 6, 0, 0, 0, 3, 3, 3, 5, 0, 0, 0, 0, 5, 0, 0, 5, 0, 5, 0, 0, 0, 5, 0, 4, 4, 4, 3, 3, 5, 0, 0, 0, 0, 5, 0, 0, 5, 0, 5, 0, 0, 0, 5, 0, 4, 4, 4, 0, 0, 3, 0, 0, 0, 0, 16, 16, 1, 0] N t p nv
    let l' := (outF o fun i => ⟨(g i).es, (g i).n, slOf X (i - 3)⟩) ++ [(adAt X 15, listO ⟨mkW ws fun i => (nv 0).2.2.n (i + 100)⟩ ((nv 0).2.2.n 0))]
    look [0, 1, 15] X = some (.done (.ok (.ret (.ref (adAt X 15)))), os_ l', as_ l', dup (eqsOf X), dupG (gsOf X), dupO (osOf X), (True ∧ True)) := by
  cases b <;> (intro W X l'; kernel_rfl)
/-- split refuses -/
theorem s1 (w : World) (b b2 : Bool) (o : OutA) (buf : List Nat) (τ : Nat) (g : Nat → FrO) (N t : Nat) (p : Pos) (nv : Nv) :
    let W := wld w b b2
    let X := runS W o buf τ g none 1412 [0, 0, 0, 3, 3, 3, 3, 3, 3, 0, 1001, 3, 0, 3, 3, 0, 0, 0, 0, 0, 0, 0, 0, 0, 0, 0, 0, 0, 0, 0, 0, 0, 0, 0, 0, 0, 0, 0, 0, 0, 0, 0, 0, 0, 0, 0, 0, 0, 5, 0, 5, 0, 0, 0, 0, 0, 0, 0, 0, 6, 6, 6, 6, 6, 6, 6, 6, 6, 6, 0, 1001, 0, 0, 6, 0, 0, 0, 0, 0, 0, 6, 0, 0, 0, 0, 0, 0, 0, 0, 0, 0, 0, 0, 0, 0, 0, 0, 0, 0, 0, 0, 0, 0, 0, 0, 0, 0, 0, 0, 0, 0, 0, 0, 0, 9, 9, 9, 9, 9, 9, 0, 1001, 9, 0, 0, 0, 9, 0, 0, 0, 0, 0, 9, 0, 0, 0, 0, 0, 0, 0, 0, 0, 0, 0, 0, 0, 0, 0, 0, 0, 0, 0, 0, 0, 0, 0, 0, 0, 0, 0, 0, 0, 0, 0, 0, 0, 0, 0, 0, 0, 0, 0, 11, 0, 11, 0, 0, 0, 0, 0, 0, 0, 0, 12, 12, 12, 12, 12, 12, 0, 1001, 12, 0, 0, 12, 0, 0, 0, 0, 12, 12, 0, 0, 12, 0, 0, 12, 0, 0, 12, 0, 0, 0, 0, 12, 12, 11, 0, 0, 0, 0, 0, 0, 0, 0, 11, 0, 0, 11, 0, 11, 0, 0, 0, 0, 0, 0, 0, 11, 0, 10, 10, 10, 12, 11, 0, 0, 0, 0, 0, 0, 0, 0, 11, 0, 0, 11, 0, 11, 0, 0, 0, 0, 0, 0, 0, 11, 0, 10, 10, 10, 12, 11, 0, 0, 0, 0, 0, 0, 0, 0, 11, 0, 0, 11, 0, 11, 0, 0, 0, 0, 0, 0, 0, 11, 0, 10, 10, 10, 12, 12, 11, 0, 0, 0, 0, 0, 0, 0, 11, 0, 0, 0, 0, 0, 0, 0, 11, 0, 0, 0, 0, 11, 10, 12, 0, 0, 0, 0, 13, 13, 13, 13, 0, 1001, 13, 11, 0, 0, 0, 0, 0, 0, 0, 0, 11, 0, 0, 0, 0, 0, 0, 0, 11, 11, 0, 10, 13, 13, 13, 13, 0, 0, 13, 0, 0, 13, 12, 11, 0, 0, 0, 0, 0, 0, 0, 0, 11, 0, 0, 11, 0, 11, 0, 0, 0, 0, 0, 0, 0, 11, 0, 10, 10, 10, 6, 6, 6, 6, 6, 5, 0, 0, 0, 0, 5, 0, 0, 5, 0, 5, 0, 0, 0, 5, 0, 4, 4, 4, 6, 6, 5, 0, 0, 0, 0, 5, 0, 0, 5, 0, 5, 0, 0, 0, 5, 0, 4, 4, 4, 6, 6, 5, 0, 0, 0, 0, 5, 0, 0, 5, 0, 5, 0, 0, 0, 5, 0, 4, 4, 4, 6, 6, 5, 0, 0, 0, 0, 5, 0, 0, 5, 0, 5, 0, 0, 0, 5, 0, 4, 4, 4, 6, 5, 0, 0, 0, 0, 5, 0, 0, 5, 0, 5, 0, 0, 0, 5, 0, 4, 4, 4, 6, 5, 0, 0, 0, 0, 5, 0, 0, 5, 0, 5, 0, 0, 0, 5, 0, 4, 4, 4, 6, 5, 0, 0, 0, 0, 5, 0, 0, 0, 5, 5, 0, 4, 6, 5, 0, 0, 0, 0, 5, 0, 0, 0, 5, 5, 0, 4, 0, 0, 5, 0, 0, 0, 0, 5, 0, 0, 5, 0, 5, 0, 0, 0, 5, 0, 4, 4, 4, 6, 5, 0, 0, 0, 0, 5, 0, 0, 5, 0, 5, 0, 0, 0, 5, 0, 4, 4, 4, 6, 5, 0, 0, 0, 0, 5, 0, 0, 5, 0, 5, 0, 0, 0, 5, 0, 4, 4, 4, 6, 5, 0, 0, 0, 0, 5, 0, 0, 5, 0, 5, 0, 0, 0, 5, 0, 4, 4, 4, 6, 5, 0, 0, 0, 0, 5, 0, 0, 5, 0, 5, 0, 0, 0, 5, 0, 4, 4, 4, 6, 5, 0, 0, 0, 0, 5, 0, 0, 5, 0, 5, 0, 0, 0, 5, 0, 4, 4, 4, 6, 5, 0, 0, 0, 0, 5, 0, 0, 5, 0, 5, 0, 0, 0, 5, 0, 4, 4, 4, 0, 0, 0, 0, 0, 14, 14, 0, 14, 0, 14, 14, 14, 6, 5, 0, 0, 0, 0, 5, 0, 0, 5, 0, 5, 0, 0, 0, 5, 0, 4, 4, 4, 6, 5, 0, 0, 0, 0, 5, 0, 0, 5, 0, 5, 0, 0, 0, 5, 0, 4, 4, 4, 6, 5, 0, 0, 0, 0, 5, 0, 0, 5, 0, 5, 0, 0, 0, 5, 0, 4, 4, 4, 6, 5, 0, 0, 0, 0, 5, 0, 0, 5, 0, 5, 0, 0, 0, 5, 0, 4, 4, 4, 0, 0, 0, 0, 0, 15, 15, 0, 15, 0, 15, 15, 15, 6, 5, 0, 0, 0, 0, 5, 0, 0, 5, 0, 5, 0, 0, 0, 5, 0, 4, 4, 4, 6, 5, 0, 0, 0, 0, 5, 0, 0, 5, 0, 5, 0, 0, 0, 5, 0, 4, 4, 4, 6, 6, 6, 6, 6, 5, 0, 0, 0, 0, 5, 0, 0, 5, 0, 5, 0, 0, 0, 5, 0, 4, 4, 4, 6, 0, 0, 0, 3, 3, 3, 5, 0, 0, 0, 0, 5, 0, 0, 5, 0, 5, 0, 0, 0, 5, 0, 4, 4, 4, 3, 3, 5, 0, 0, 0, 0, 5, 0, 0, 5, 0, 5, 0, 0, 0, 5, 0, 4, 4, 4, 0, 0, 3, 0, 0, 0, 0, 16, 16, 1, 0, 16, 17, 2, 0, 1] N t p nv
    let l' := (outF o fun i => ⟨(g i).es, (g i).n, slOf X (i - 3)⟩) ++ [(adAt X 16, excO "ValueError" ((nv 0).2.2.n 2) (adAt X 18) (slOf X 16)), (adAt X 18, entryO (.ref (adAt X 17)) (adAt X 2) .none (tlOf X 18))]
    look [0, 1, 16, 18] X = some (.done (.error (.ref (adAt X 16))), os_ l', as_ l', dup (eqsOf X), dupG (gsOf X), dupO (osOf X), (True ∧ True)) := by
  cases b <;> (intro W X l'; kernel_rfl)
noncomputable def spRes (r : Option (List (List Nat))) (ν : Unk) : Result := match r with
  | some _ => .ok (.ret (.ref (ν.n 0)))
  | none => .error (.ref (ν.n 0))
noncomputable def spCh (o : OutA) (g : Nat → FrO) (ν : Unk) : List (Nat × Obj) := outF o fun i => ⟨(g i).es, (g i).n, ν.sl i⟩
noncomputable def spNew (r : Option (List (List Nat))) (ν : Unk) : List (Nat × Obj) := match r with
  | some ws => [(ν.n 0, listO ⟨mkW ws fun i => ν.n (i + 100)⟩ (ν.n 1))]
  | none => [(ν.n 0, excO "ValueError" (ν.n 2) (ν.n 1) (ν.sl 20)), (ν.n 1, entryO (.ref (ν.n 3)) (ν.n 4) .none (ν.vs 0))]
theorem split_ok {w : World} {b b2 : Bool} {o : OutA} {buf : List Nat} {τ : Nat} {g : Nat → FrO} {res : Option (List (List Nat))} {s : Shared} {p : Pos} (hr : res = rdAll (2 * buf.length + 2) buf 32) (hb : buf.length ≤ 13) (hbs : 92 ∉ buf)
    (S : Top (wld w b b2) s) (H : Holds s (outF o g)) (nd : (outA o).Nodup) (lo : ∀ y ∈ outA o, 785 ≤ y) :
    wpCode (MW (wld w b b2)) (ctxS o buf τ) (fun r s' => ∃ ν, r = spRes res ν ∧ Did s s' (spCh o g ν) (spNew res ν)) p s := by
  have nd' : ((outF o g).map (·.1)).Nodup := nd
  have lo' : ∀ y ∈ outF o g, 785 ≤ y.1 := fun y hy => lo _ (List.mem_map.mpr ⟨y, hy, rfl⟩)
  cases res with
  | some ws =>
    refine runC_ok [15] (conI_ok hr hb hbs) S H nd' lo' _ _ (fun _ => [_]) _ (fun nv => s2 w b b2 o buf τ g ws _ _ p nv) (fun _ => ⟨trivial, trivial⟩) fun nv s' Af => ?_
    try dsimp only at Af
    generalize hX : runS _ _ _ _ _ _ _ _ _ _ _ _ = X at Af ⊢
    refine ⟨⟨fun i => match i with | 0 => adAt X 15 | 1 => (nv 0).2.2.n 0 | i + 2 => (nv 0).2.2.n (i + 2), fun i => slOf X (i - 3), fun _ => #[], fun _ => default⟩, rfl, ?_⟩
    exact Af.did (outF o fun i => ⟨(g i).es, (g i).n, slOf X (i - 3)⟩) [_] [15] rfl rfl rfl (by simp [outF]) (by simp) rfl rfl
  | none =>
    refine runC_ok [16, 18] (conI_ok hr hb hbs) S H nd' lo' _ _ (fun _ => [_, _]) _ (fun nv => s1 w b b2 o buf τ g _ _ p nv) (fun _ => ⟨trivial, trivial⟩) fun nv s' Af => ?_
    try dsimp only at Af
    generalize hX : runS _ _ _ _ _ _ _ _ _ _ _ _ = X at Af ⊢
    refine ⟨⟨fun i => match i with | 0 => adAt X 16 | 1 => adAt X 18 | 2 => (nv 0).2.2.n 2 | 3 => adAt X 17 | _ => adAt X 2, fun i => match Nat.beq i 20 with | true => slOf X 16 | false => slOf X (i - 3), fun _ => tlOf X 18, fun _ => default⟩, rfl, ?_⟩
    exact Af.did (outF o fun i => ⟨(g i).es, (g i).n, slOf X (i - 3)⟩) [_, _] [16, 18] rfl rfl rfl (by simp [outF]) (by simp) rfl rfl
/-! P101 -/
/-! ### _law_sign -/
theorem conP_good {W : World} {s : Shared} {l : Nat} (O : OrP) : ConOk (baseOf (kt W.params) 785 l s) (MW W) (cfgW W (conP O)) :=
  fun j x Γ T m ads tk s p g hg hx _ _ ob D => conP_ok O j x Γ T m ads tk s p g hg hx ob D
noncomputable def orc1 (c : Nat) : OrP := ⟨⟨fun _ => [c], fun _ => 0⟩, fun _ => []⟩
noncomputable def firstE : Expr → Expr
  | .BoolOp _ (e :: _) _ => e
  | _ => .Constant .none 0 default
noncomputable def argL : Expr → Expr
  | .Call _ (e :: _) _ _ => e
  | _ => .Constant .none 0 default
noncomputable def eDrawn : Expr := argL (firstE (asgE (nthS 1 (fnB dLW))))
/-- a comprehension of law's, and law itself -/
structure OutC where
  it : Nat
  acc : Nat
  Lc : Nat
  L0 : Nat
  ct : Nat
  cw : Nat
  q : Nat → Pos
noncomputable def envCL (e : Expr) (o : OutC) : Env :=
  { scope := lcSc e, locals := o.Lc, globals := 3, cells := [], qual := (⟨⟨[108, 97, 119]⟩⟩ : Str) ++ (⟨⟨[46, 60, 108, 111, 99, 97, 108, 115, 62, 46]⟩⟩ : Str), func := none, code := .ref 783, frame := some o.L0, builtins := 0 }
noncomputable def belC (e : Expr) (o : OutC) : List (Code × Pos) := [(.compLoop e 0 (.ref o.it) (.ref o.acc) (envCL e o), o.q 0), (.func (fnB dLW) (envLwc o.L0 o.ct o.cw), o.q 1), (.builtin "claim.caller" {}, default)]
noncomputable def ctxSg (o : OutC) (x : Int) (τ : Nat) : Ctx := ctxOf (.call (.ref 748) ⟨[.int x τ], []⟩) (belC eDrawn o)
noncomputable def runSg (W : World) (o : OutC) (x : Int) (τ c : Nat) (hs : List Nat) (N t : Nat) (p : Pos) (nv : Nv) : Out := runC (cfgW W (conP (orc1 c))) 140 (ctxSg o x τ) p hs [] N t nv
theorem sg1 (w : World) (b b2 : Bool) (o : OutC) (x : Int) (τ c N t : Nat) (p : Pos) (nv : Nv) :
    let W := wld w b b2
    let X := runSg W o x τ c [0, 0, 1, 1, 0, 1001, 1, 0, 0, 8, 1] N t p nv
    look [] X = some (.done (.ok (.ret (.str ⟨⟨[39]⟩⟩ (rtok X)))), [], [], dup (eqsOf X), dupG (gsOf X), dupO (osOf X), (LtB (x.fmod 8) 2 1 ∧ True)) := by
  cases b <;> (intro W X; kernel_rfl)
theorem sg2 (w : World) (b b2 : Bool) (o : OutC) (x : Int) (τ c N t : Nat) (p : Pos) (nv : Nv) :
    let W := wld w b b2
    let X := runSg W o x τ c [0, 0, 1, 1, 0, 1001, 1, 0, 0, 8, 0, 1, 0, 0, 8, 1] N t p nv
    look [] X = some (.done (.ok (.ret (.str ⟨⟨[34]⟩⟩ (rtok X)))), [], [], dup (eqsOf X), dupG (gsOf X), dupO (osOf X), (LtB (x.fmod 8) 4 1 ∧ LtB (x.fmod 8) 2 0 ∧ True)) := by
  cases b <;> (intro W X; kernel_rfl)
theorem sg3 (w : World) (b b2 : Bool) (o : OutC) (x : Int) (τ c N t : Nat) (p : Pos) (nv : Nv) :
    let W := wld w b b2
    let X := runSg W o x τ c [0, 0, 1, 1, 0, 1001, 1, 0, 0, 8, 0, 1, 0, 0, 8, 0, 1, 0, 0, 11, 1, 1, 0, 0, 0, 0, 10, 1] N t p nv
    look [] X = some (.done (.ok (.ret (.str ⟨⟨[c]⟩⟩ (rtok X)))), [], [], dup (eqsOf X), dupG (gsOf X), dupO (osOf X), (IdxB ⟨⟨[32, 9, 10, 13]⟩⟩ ((x.fdiv 8).fmod 4) [c] ∧ IeB (x.fmod 8) 4 1 ∧ LtB (x.fmod 8) 4 0 ∧ LtB (x.fmod 8) 2 0 ∧ True)) := by
  cases b <;> (intro W X; kernel_rfl)
theorem sg4 (w : World) (b b2 : Bool) (o : OutC) (x : Int) (τ c N t : Nat) (p : Pos) (nv : Nv) :
    let W := wld w b b2
    let X := runSg W o x τ c [0, 0, 1, 1, 0, 1001, 1, 0, 0, 8, 0, 1, 0, 0, 8, 0, 1, 0, 0, 11, 0, 0, 0, 1, 0, 0, 0, 0, 16, 1, 1, 1, 1, 1, 1] N t p nv
    look [] X = some (.done (.ok (.ret (.str ⟨⟨[47]⟩⟩ (rtok X)))), [], [], dup (eqsOf X), dupG (gsOf X), dupO (osOf X), (EqB [c] [92] 1 ∧ (∃ c', [c] = [c'] ∧ ChrB ((x.fdiv 8).fmod 256) c') ∧ IeB (x.fmod 8) 4 0 ∧ LtB (x.fmod 8) 4 0 ∧ LtB (x.fmod 8) 2 0 ∧ True)) := by
  cases b <;> (intro W X; kernel_rfl)
theorem sg5 (w : World) (b b2 : Bool) (o : OutC) (x : Int) (τ c N t : Nat) (p : Pos) (nv : Nv) :
    let W := wld w b b2
    let X := runSg W o x τ c [0, 0, 1, 1, 0, 1001, 1, 0, 0, 8, 0, 1, 0, 0, 8, 0, 1, 0, 0, 11, 0, 0, 0, 1, 0, 0, 0, 0, 16, 1, 1, 1, 1, 1, 0, 1] N t p nv
    look [] X = some (.done (.ok (.ret (.str ⟨⟨[c]⟩⟩ (rtok X)))), [], [], dup (eqsOf X), dupG (gsOf X), dupO (osOf X), (EqB [c] [92] 0 ∧ (∃ c', [c] = [c'] ∧ ChrB ((x.fdiv 8).fmod 256) c') ∧ IeB (x.fmod 8) 4 0 ∧ LtB (x.fmod 8) 4 0 ∧ LtB (x.fmod 8) 2 0 ∧ True)) := by
  cases b <;> (intro W X; kernel_rfl)
/-- the sign of a number -/
noncomputable def sgP (x : Int) : Nat := if x.fmod 8 < 2 then 39 else if x.fmod 8 < 4 then 34 else if x.fmod 8 = 4 then [32, 9, 10, 13].getD ((x.fdiv 8).fmod 4).toNat 0 else if ((x.fdiv 8).fmod 256).toNat = 92 then 47 else ((x.fdiv 8).fmod 256).toNat
theorem ltB0 {a b : Int} (h : ¬ a < b) : LtB a b 0 := by unfold LtB; simp [h, bOf]
theorem ltB1 {a b : Int} (h : a < b) : LtB a b 1 := by unfold LtB; simp [h, bOf]
theorem ieB0 {a b : Int} (h : a ≠ b) : IeB a b 0 := by unfold IeB; simp [h, bOf]
theorem ieB1 {a b : Int} (h : a = b) : IeB a b 1 := by unfold IeB; simp [h, bOf]
theorem fmod_nat (y : Int) {m : Nat} (hm : 0 < m) : ∃ k : Nat, k < m ∧ y.fmod (m : Int) = (k : Int) := by
  have h1 := Int.fmod_nonneg_of_pos y (b := (m : Int)) (by omega)
  have h2 := Int.fmod_lt_of_pos y (b := (m : Int)) (by omega)
  exact ⟨(y.fmod (m : Int)).toNat, by omega, by omega⟩
theorem sign_ok {w : World} {b b2 : Bool} {o : OutC} {x : Int} {τ : Nat} {s : Shared} {p : Pos} (S : Top (wld w b b2) s) :
    wpCode (MW (wld w b b2)) (ctxSg o x τ) (fun r s' => ∃ u, r = .ok (.ret (.str ⟨⟨[sgP x]⟩⟩ u)) ∧ Did s s' [] []) p s := by
  have fin : ∀ {s' : Shared}, After s s' [] ([] ++ []) ([] ++ []) [] → Did s s' [] [] := fun Af => Af.did [] [] [] rfl rfl rfl (by simp) (by simp) rfl rfl
  obtain ⟨k4, h4, e4⟩ := fmod_nat (x.fdiv 8) (m := 4) (by decide)
  obtain ⟨k6, h6, e6⟩ := fmod_nat (x.fdiv 8) (m := 256) (by decide)
  have e4 : (x.fdiv 8).fmod 4 = (k4 : Int) := e4
  have e6 : (x.fdiv 8).fmod 256 = (k6 : Int) := e6
  by_cases h1 : x.fmod 8 < 2
  · refine runC_ok [] (conP_good (orc1 0)) S (fun x hx => by cases hx) (by simp) (by simp) _ _ (fun _ => []) _ (fun nv => sg1 w b b2 o x τ 0 _ _ p nv) (fun _ => ⟨ltB1 h1, trivial⟩) fun nv s' Af => ?_
    have e : sgP x = 39 := by unfold sgP; rw [if_pos h1]
    rw [e]
    exact ⟨_, rfl, fin Af⟩
  · by_cases h2 : x.fmod 8 < 4
    · refine runC_ok [] (conP_good (orc1 0)) S (fun x hx => by cases hx) (by simp) (by simp) _ _ (fun _ => []) _ (fun nv => sg2 w b b2 o x τ 0 _ _ p nv) (fun _ => ⟨ltB1 h2, ltB0 h1, trivial⟩) fun nv s' Af => ?_
      have e : sgP x = 34 := by unfold sgP; rw [if_neg h1, if_pos h2]
      rw [e]
      exact ⟨_, rfl, fin Af⟩
    · by_cases h3 : x.fmod 8 = 4
      · have hi : IdxB ⟨⟨[32, 9, 10, 13]⟩⟩ ((x.fdiv 8).fmod 4) [[32, 9, 10, 13].getD k4 0] := by
          rw [e4]
          refine ⟨_, rfl, ?_, ?_⟩
          · rcases (show k4 = 0 ∨ k4 = 1 ∨ k4 = 2 ∨ k4 = 3 by omega) with rfl | rfl | rfl | rfl <;> decide
          · rcases (show k4 = 0 ∨ k4 = 1 ∨ k4 = 2 ∨ k4 = 3 by omega) with rfl | rfl | rfl | rfl <;> rfl
        refine runC_ok [] (conP_good (orc1 ([32, 9, 10, 13].getD k4 0))) S (fun x hx => by cases hx) (by simp) (by simp) _ _ (fun _ => []) _ (fun nv => sg3 w b b2 o x τ _ _ _ p nv) (fun _ => ⟨hi, ieB1 h3, ltB0 h2, ltB0 h1, trivial⟩) fun nv s' Af => ?_
        have e : sgP x = [32, 9, 10, 13].getD k4 0 := by unfold sgP; rw [if_neg h1, if_neg h2, if_pos h3, e4]; rfl
        rw [e]
        exact ⟨_, rfl, fin Af⟩
      · have hc : ∃ c', [k6] = [c'] ∧ ChrB ((x.fdiv 8).fmod 256) c' := by
          rw [e6]
          refine ⟨k6, rfl, ?_, rfl⟩
          have g1 : ¬ ((k6 : Int) < 0) := by omega
          have g2 : ¬ ((k6 : Int) > 0x10FFFF) := by omega
          simp only [g1, g2, decide_false, Bool.or_self]
        have et : ((x.fdiv 8).fmod 256).toNat = k6 := by rw [e6]; rfl
        by_cases h5 : k6 = 92
        · refine runC_ok [] (conP_good (orc1 k6)) S (fun x hx => by cases hx) (by simp) (by simp) _ _ (fun _ => []) _ (fun nv => sg4 w b b2 o x τ k6 _ _ p nv) (fun _ => ⟨eqB1 h5, hc, ieB0 h3, ltB0 h2, ltB0 h1, trivial⟩) fun nv s' Af => ?_
          have e : sgP x = 47 := by unfold sgP; rw [if_neg h1, if_neg h2, if_neg h3, et, if_pos h5]
          rw [e]
          exact ⟨_, rfl, fin Af⟩
        · refine runC_ok [] (conP_good (orc1 k6)) S (fun x hx => by cases hx) (by simp) (by simp) _ _ (fun _ => []) _ (fun nv => sg5 w b b2 o x τ k6 _ _ p nv) (fun _ => ⟨eqB0 h5, hc, ieB0 h3, ltB0 h2, ltB0 h1, trivial⟩) fun nv s' Af => ?_
          have e : sgP x = k6 := by unfold sgP; rw [if_neg h1, if_neg h2, if_neg h3, et, if_neg h5]
          rw [e]
          exact ⟨_, rfl, fin Af⟩
/-! P201 -/
/-! ### _law_split's comprehension (written by mkcs.py) -/
noncomputable def chars : Nat → (Nat → Nat) → List Nat
  | 0, _ => []
  | k + 1, c => c 0 :: chars k fun i => c (i + 1)
noncomputable def byN : Nat → (Nat → UInt8) → List UInt8
  | 0, _ => []
  | n + 1, v => v 0 :: byN n fun i => v (i + 1)
noncomputable def tryB : Stmt → List Stmt
  | .Try b _ _ _ _ => b
  | _ => []
noncomputable def retE : List Stmt → Expr
  | .Return (some e) _ :: _ => e
  | _ => .Constant .none 0 default
noncomputable def eSp : Expr := argL (argL (retE (tryB (nthS 0 (fnB dLSp)))))
noncomputable def ctxSp (it acc L : Nat) (o : OutA) : Ctx := ctxOf (.compLoop eSp 0 (.ref it) (.ref acc)
  { scope := lcSc eSp, locals := L, globals := 3, cells := [], qual := (⟨⟨[95, 108, 97, 119, 95, 115, 112, 108, 105, 116]⟩⟩ : Str) ++ (⟨⟨[46, 60, 108, 111, 99, 97, 108, 115, 62, 46]⟩⟩ : Str), func := none, code := .ref 752, frame := some o.L1, builtins := 0 }) (outOf o)
noncomputable def biN (n : Nat) (v : Nat → UInt8) (τ : Nat) : Obj := ⟨.type "bytes_iterator", none, .fields ⟨[.bytes ⟨byN n v⟩ τ, .int 0 0]⟩, ⟨[]⟩⟩
noncomputable def objSp (n it acc L : Nat) (v : Nat → UInt8) (τ : Nat) : List (Nat × Obj) := [(it, biN n v τ), (acc, lsO ⟨[]⟩ 0), (L, dictO [] 0)]
noncomputable def loc2 (P : Params) (k : Nat) (v : UInt8) (τ : Nat) : Obj := dictO [ent P [111, 99, 116, 101, 116] k (.int (.ofNat v.toNat) τ)] 1
noncomputable def obsD (v : Nat → UInt8) (d : Nat → Nat) : Nat → Prop
  | 0 => True
  | k + 1 => (∃ c, [d k] = [c] ∧ ChrB (.ofNat (v k).toNat) c) ∧ obsD v d k
noncomputable def conD (d : Nat → Nat) : CF := conP ⟨⟨fun i => [d i], fun _ => 0⟩, fun _ => []⟩
theorem cs_1 (w : World) (b b2 : Bool) (it acc L : Nat) (o : OutA) (v : Nat → UInt8) (d : Nat → Nat) (τ N t : Nat) (p : Pos) (nv : Nv) :
    let W := wld w b b2
    let X := runC (cfgW W (conD d)) 90 (ctxSp it acc L o) p [1, 0, 1, 0, 1, 1, 1, 1, 3, 3, 0, 0, 3, 16, 0, 0, 2, 0, 2, 2, 2, 0, 1, 0, 1, 0, 1, 1, 1, 1, 5] (objSp 1 it acc L v τ) N t nv
    let l' := [(it, obAt X 0), (acc, lsO ⟨itemsOf 1 fun i => .str ⟨⟨[d i]⟩⟩ ((nv i).2.2.n 0)⟩ 1), (L, loc2 W.params (ktk X 2 0) (v 0) (vt X 2 0))]
    look [0, 1, 2] X = some (.done (.ok .next), os_ l', as_ l', dup (eqsOf X), dupG (gsOf X), dupO (osOf X), obsD v d 1) := by
  cases b <;> cases b2 <;> (intro W X l'; kernel_rfl)
theorem cs_2 (w : World) (b b2 : Bool) (it acc L : Nat) (o : OutA) (v : Nat → UInt8) (d : Nat → Nat) (τ N t : Nat) (p : Pos) (nv : Nv) :
    let W := wld w b b2
    let X := runC (cfgW W (conD d)) 124 (ctxSp it acc L o) p [1, 0, 1, 0, 1, 1, 1, 1, 3, 3, 0, 0, 3, 16, 0, 0, 2, 0, 2, 2, 2, 0, 1, 0, 1, 0, 1, 1, 1, 1, 3, 3, 0, 0, 3, 16, 1, 0, 2, 0, 2, 2, 2, 0, 1, 0, 1, 0, 1, 1, 1, 1, 5] (objSp 2 it acc L v τ) N t nv
    let l' := [(it, obAt X 0), (acc, lsO ⟨itemsOf 2 fun i => .str ⟨⟨[d i]⟩⟩ ((nv i).2.2.n 0)⟩ 2), (L, loc2 W.params (ktk X 2 0) (v 1) (vt X 2 0))]
    look [0, 1, 2] X = some (.done (.ok .next), os_ l', as_ l', dup (eqsOf X), dupG (gsOf X), dupO (osOf X), obsD v d 2) := by
  cases b <;> cases b2 <;> (intro W X l'; kernel_rfl)
theorem cs_3 (w : World) (b b2 : Bool) (it acc L : Nat) (o : OutA) (v : Nat → UInt8) (d : Nat → Nat) (τ N t : Nat) (p : Pos) (nv : Nv) :
    let W := wld w b b2
    let X := runC (cfgW W (conD d)) 158 (ctxSp it acc L o) p [1, 0, 1, 0, 1, 1, 1, 1, 3, 3, 0, 0, 3, 16, 0, 0, 2, 0, 2, 2, 2, 0, 1, 0, 1, 0, 1, 1, 1, 1, 3, 3, 0, 0, 3, 16, 1, 0, 2, 0, 2, 2, 2, 0, 1, 0, 1, 0, 1, 1, 1, 1, 3, 3, 0, 0, 3, 16, 2, 0, 2, 0, 2, 2, 2, 0, 1, 0, 1, 0, 1, 1, 1, 1, 5] (objSp 3 it acc L v τ) N t nv
    let l' := [(it, obAt X 0), (acc, lsO ⟨itemsOf 3 fun i => .str ⟨⟨[d i]⟩⟩ ((nv i).2.2.n 0)⟩ 3), (L, loc2 W.params (ktk X 2 0) (v 2) (vt X 2 0))]
    look [0, 1, 2] X = some (.done (.ok .next), os_ l', as_ l', dup (eqsOf X), dupG (gsOf X), dupO (osOf X), obsD v d 3) := by
  cases b <;> cases b2 <;> (intro W X l'; kernel_rfl)
theorem cs_4 (w : World) (b b2 : Bool) (it acc L : Nat) (o : OutA) (v : Nat → UInt8) (d : Nat → Nat) (τ N t : Nat) (p : Pos) (nv : Nv) :
    let W := wld w b b2
    let X := runC (cfgW W (conD d)) 192 (ctxSp it acc L o) p [1, 0, 1, 0, 1, 1, 1, 1, 3, 3, 0, 0, 3, 16, 0, 0, 2, 0, 2, 2, 2, 0, 1, 0, 1, 0, 1, 1, 1, 1, 3, 3, 0, 0, 3, 16, 1, 0, 2, 0, 2, 2, 2, 0, 1, 0, 1, 0, 1, 1, 1, 1, 3, 3, 0, 0, 3, 16, 2, 0, 2, 0, 2, 2, 2, 0, 1, 0, 1, 0, 1, 1, 1, 1, 3, 3, 0, 0, 3, 16, 3, 0, 2, 0, 2, 2, 2, 0, 1, 0, 1, 0, 1, 1, 1, 1, 5] (objSp 4 it acc L v τ) N t nv
    let l' := [(it, obAt X 0), (acc, lsO ⟨itemsOf 4 fun i => .str ⟨⟨[d i]⟩⟩ ((nv i).2.2.n 0)⟩ 4), (L, loc2 W.params (ktk X 2 0) (v 3) (vt X 2 0))]
    look [0, 1, 2] X = some (.done (.ok .next), os_ l', as_ l', dup (eqsOf X), dupG (gsOf X), dupO (osOf X), obsD v d 4) := by
  cases b <;> cases b2 <;> (intro W X l'; kernel_rfl)
theorem cs_5 (w : World) (b b2 : Bool) (it acc L : Nat) (o : OutA) (v : Nat → UInt8) (d : Nat → Nat) (τ N t : Nat) (p : Pos) (nv : Nv) :
    let W := wld w b b2
    let X := runC (cfgW W (conD d)) 226 (ctxSp it acc L o) p [1, 0, 1, 0, 1, 1, 1, 1, 3, 3, 0, 0, 3, 16, 0, 0, 2, 0, 2, 2, 2, 0, 1, 0, 1, 0, 1, 1, 1, 1, 3, 3, 0, 0, 3, 16, 1, 0, 2, 0, 2, 2, 2, 0, 1, 0, 1, 0, 1, 1, 1, 1, 3, 3, 0, 0, 3, 16, 2, 0, 2, 0, 2, 2, 2, 0, 1, 0, 1, 0, 1, 1, 1, 1, 3, 3, 0, 0, 3, 16, 3, 0, 2, 0, 2, 2, 2, 0, 1, 0, 1, 0, 1, 1, 1, 1, 3, 3, 0, 0, 3, 16, 4, 0, 2, 0, 2, 2, 2, 0, 1, 0, 1, 0, 1, 1, 1, 1, 5] (objSp 5 it acc L v τ) N t nv
    let l' := [(it, obAt X 0), (acc, lsO ⟨itemsOf 5 fun i => .str ⟨⟨[d i]⟩⟩ ((nv i).2.2.n 0)⟩ 5), (L, loc2 W.params (ktk X 2 0) (v 4) (vt X 2 0))]
    look [0, 1, 2] X = some (.done (.ok .next), os_ l', as_ l', dup (eqsOf X), dupG (gsOf X), dupO (osOf X), obsD v d 5) := by
  cases b <;> cases b2 <;> (intro W X l'; kernel_rfl)
theorem cs_6 (w : World) (b b2 : Bool) (it acc L : Nat) (o : OutA) (v : Nat → UInt8) (d : Nat → Nat) (τ N t : Nat) (p : Pos) (nv : Nv) :
    let W := wld w b b2
    let X := runC (cfgW W (conD d)) 260 (ctxSp it acc L o) p [1, 0, 1, 0, 1, 1, 1, 1, 3, 3, 0, 0, 3, 16, 0, 0, 2, 0, 2, 2, 2, 0, 1, 0, 1, 0, 1, 1, 1, 1, 3, 3, 0, 0, 3, 16, 1, 0, 2, 0, 2, 2, 2, 0, 1, 0, 1, 0, 1, 1, 1, 1, 3, 3, 0, 0, 3, 16, 2, 0, 2, 0, 2, 2, 2, 0, 1, 0, 1, 0, 1, 1, 1, 1, 3, 3, 0, 0, 3, 16, 3, 0, 2, 0, 2, 2, 2, 0, 1, 0, 1, 0, 1, 1, 1, 1, 3, 3, 0, 0, 3, 16, 4, 0, 2, 0, 2, 2, 2, 0, 1, 0, 1, 0, 1, 1, 1, 1, 3, 3, 0, 0, 3, 16, 5, 0, 2, 0, 2, 2, 2, 0, 1, 0, 1, 0, 1, 1, 1, 1, 5] (objSp 6 it acc L v τ) N t nv
    let l' := [(it, obAt X 0), (acc, lsO ⟨itemsOf 6 fun i => .str ⟨⟨[d i]⟩⟩ ((nv i).2.2.n 0)⟩ 6), (L, loc2 W.params (ktk X 2 0) (v 5) (vt X 2 0))]
    look [0, 1, 2] X = some (.done (.ok .next), os_ l', as_ l', dup (eqsOf X), dupG (gsOf X), dupO (osOf X), obsD v d 6) := by
  cases b <;> cases b2 <;> (intro W X l'; kernel_rfl)
theorem cs_7 (w : World) (b b2 : Bool) (it acc L : Nat) (o : OutA) (v : Nat → UInt8) (d : Nat → Nat) (τ N t : Nat) (p : Pos) (nv : Nv) :
    let W := wld w b b2
    let X := runC (cfgW W (conD d)) 294 (ctxSp it acc L o) p [1, 0, 1, 0, 1, 1, 1, 1, 3, 3, 0, 0, 3, 16, 0, 0, 2, 0, 2, 2, 2, 0, 1, 0, 1, 0, 1, 1, 1, 1, 3, 3, 0, 0, 3, 16, 1, 0, 2, 0, 2, 2, 2, 0, 1, 0, 1, 0, 1, 1, 1, 1, 3, 3, 0, 0, 3, 16, 2, 0, 2, 0, 2, 2, 2, 0, 1, 0, 1, 0, 1, 1, 1, 1, 3, 3, 0, 0, 3, 16, 3, 0, 2, 0, 2, 2, 2, 0, 1, 0, 1, 0, 1, 1, 1, 1, 3, 3, 0, 0, 3, 16, 4, 0, 2, 0, 2, 2, 2, 0, 1, 0, 1, 0, 1, 1, 1, 1, 3, 3, 0, 0, 3, 16, 5, 0, 2, 0, 2, 2, 2, 0, 1, 0, 1, 0, 1, 1, 1, 1, 3, 3, 0, 0, 3, 16, 6, 0, 2, 0, 2, 2, 2, 0, 1, 0, 1, 0, 1, 1, 1, 1, 5] (objSp 7 it acc L v τ) N t nv
    let l' := [(it, obAt X 0), (acc, lsO ⟨itemsOf 7 fun i => .str ⟨⟨[d i]⟩⟩ ((nv i).2.2.n 0)⟩ 7), (L, loc2 W.params (ktk X 2 0) (v 6) (vt X 2 0))]
    look [0, 1, 2] X = some (.done (.ok .next), os_ l', as_ l', dup (eqsOf X), dupG (gsOf X), dupO (osOf X), obsD v d 7) := by
  cases b <;> cases b2 <;> (intro W X l'; kernel_rfl)
theorem cs_8 (w : World) (b b2 : Bool) (it acc L : Nat) (o : OutA) (v : Nat → UInt8) (d : Nat → Nat) (τ N t : Nat) (p : Pos) (nv : Nv) :
    let W := wld w b b2
    let X := runC (cfgW W (conD d)) 328 (ctxSp it acc L o) p [1, 0, 1, 0, 1, 1, 1, 1, 3, 3, 0, 0, 3, 16, 0, 0, 2, 0, 2, 2, 2, 0, 1, 0, 1, 0, 1, 1, 1, 1, 3, 3, 0, 0, 3, 16, 1, 0, 2, 0, 2, 2, 2, 0, 1, 0, 1, 0, 1, 1, 1, 1, 3, 3, 0, 0, 3, 16, 2, 0, 2, 0, 2, 2, 2, 0, 1, 0, 1, 0, 1, 1, 1, 1, 3, 3, 0, 0, 3, 16, 3, 0, 2, 0, 2, 2, 2, 0, 1, 0, 1, 0, 1, 1, 1, 1, 3, 3, 0, 0, 3, 16, 4, 0, 2, 0, 2, 2, 2, 0, 1, 0, 1, 0, 1, 1, 1, 1, 3, 3, 0, 0, 3, 16, 5, 0, 2, 0, 2, 2, 2, 0, 1, 0, 1, 0, 1, 1, 1, 1, 3, 3, 0, 0, 3, 16, 6, 0, 2, 0, 2, 2, 2, 0, 1, 0, 1, 0, 1, 1, 1, 1, 3, 3, 0, 0, 3, 16, 7, 0, 2, 0, 2, 2, 2, 0, 1, 0, 1, 0, 1, 1, 1, 1, 5] (objSp 8 it acc L v τ) N t nv
    let l' := [(it, obAt X 0), (acc, lsO ⟨itemsOf 8 fun i => .str ⟨⟨[d i]⟩⟩ ((nv i).2.2.n 0)⟩ 8), (L, loc2 W.params (ktk X 2 0) (v 7) (vt X 2 0))]
    look [0, 1, 2] X = some (.done (.ok .next), os_ l', as_ l', dup (eqsOf X), dupG (gsOf X), dupO (osOf X), obsD v d 8) := by
  cases b <;> cases b2 <;> (intro W X l'; kernel_rfl)
theorem cs_9 (w : World) (b b2 : Bool) (it acc L : Nat) (o : OutA) (v : Nat → UInt8) (d : Nat → Nat) (τ N t : Nat) (p : Pos) (nv : Nv) :
    let W := wld w b b2
    let X := runC (cfgW W (conD d)) 362 (ctxSp it acc L o) p [1, 0, 1, 0, 1, 1, 1, 1, 3, 3, 0, 0, 3, 16, 0, 0, 2, 0, 2, 2, 2, 0, 1, 0, 1, 0, 1, 1, 1, 1, 3, 3, 0, 0, 3, 16, 1, 0, 2, 0, 2, 2, 2, 0, 1, 0, 1, 0, 1, 1, 1, 1, 3, 3, 0, 0, 3, 16, 2, 0, 2, 0, 2, 2, 2, 0, 1, 0, 1, 0, 1, 1, 1, 1, 3, 3, 0, 0, 3, 16, 3, 0, 2, 0, 2, 2, 2, 0, 1, 0, 1, 0, 1, 1, 1, 1, 3, 3, 0, 0, 3, 16, 4, 0, 2, 0, 2, 2, 2, 0, 1, 0, 1, 0, 1, 1, 1, 1, 3, 3, 0, 0, 3, 16, 5, 0, 2, 0, 2, 2, 2, 0, 1, 0, 1, 0, 1, 1, 1, 1, 3, 3, 0, 0, 3, 16, 6, 0, 2, 0, 2, 2, 2, 0, 1, 0, 1, 0, 1, 1, 1, 1, 3, 3, 0, 0, 3, 16, 7, 0, 2, 0, 2, 2, 2, 0, 1, 0, 1, 0, 1, 1, 1, 1, 3, 3, 0, 0, 3, 16, 8, 0, 2, 0, 2, 2, 2, 0, 1, 0, 1, 0, 1, 1, 1, 1, 5] (objSp 9 it acc L v τ) N t nv
    let l' := [(it, obAt X 0), (acc, lsO ⟨itemsOf 9 fun i => .str ⟨⟨[d i]⟩⟩ ((nv i).2.2.n 0)⟩ 9), (L, loc2 W.params (ktk X 2 0) (v 8) (vt X 2 0))]
    look [0, 1, 2] X = some (.done (.ok .next), os_ l', as_ l', dup (eqsOf X), dupG (gsOf X), dupO (osOf X), obsD v d 9) := by
  cases b <;> cases b2 <;> (intro W X l'; kernel_rfl)
theorem cs_10 (w : World) (b b2 : Bool) (it acc L : Nat) (o : OutA) (v : Nat → UInt8) (d : Nat → Nat) (τ N t : Nat) (p : Pos) (nv : Nv) :
    let W := wld w b b2
    let X := runC (cfgW W (conD d)) 396 (ctxSp it acc L o) p [1, 0, 1, 0, 1, 1, 1, 1, 3, 3, 0, 0, 3, 16, 0, 0, 2, 0, 2, 2, 2, 0, 1, 0, 1, 0, 1, 1, 1, 1, 3, 3, 0, 0, 3, 16, 1, 0, 2, 0, 2, 2, 2, 0, 1, 0, 1, 0, 1, 1, 1, 1, 3, 3, 0, 0, 3, 16, 2, 0, 2, 0, 2, 2, 2, 0, 1, 0, 1, 0, 1, 1, 1, 1, 3, 3, 0, 0, 3, 16, 3, 0, 2, 0, 2, 2, 2, 0, 1, 0, 1, 0, 1, 1, 1, 1, 3, 3, 0, 0, 3, 16, 4, 0, 2, 0, 2, 2, 2, 0, 1, 0, 1, 0, 1, 1, 1, 1, 3, 3, 0, 0, 3, 16, 5, 0, 2, 0, 2, 2, 2, 0, 1, 0, 1, 0, 1, 1, 1, 1, 3, 3, 0, 0, 3, 16, 6, 0, 2, 0, 2, 2, 2, 0, 1, 0, 1, 0, 1, 1, 1, 1, 3, 3, 0, 0, 3, 16, 7, 0, 2, 0, 2, 2, 2, 0, 1, 0, 1, 0, 1, 1, 1, 1, 3, 3, 0, 0, 3, 16, 8, 0, 2, 0, 2, 2, 2, 0, 1, 0, 1, 0, 1, 1, 1, 1, 3, 3, 0, 0, 3, 16, 9, 0, 2, 0, 2, 2, 2, 0, 1, 0, 1, 0, 1, 1, 1, 1, 5] (objSp 10 it acc L v τ) N t nv
    let l' := [(it, obAt X 0), (acc, lsO ⟨itemsOf 10 fun i => .str ⟨⟨[d i]⟩⟩ ((nv i).2.2.n 0)⟩ 10), (L, loc2 W.params (ktk X 2 0) (v 9) (vt X 2 0))]
    look [0, 1, 2] X = some (.done (.ok .next), os_ l', as_ l', dup (eqsOf X), dupG (gsOf X), dupO (osOf X), obsD v d 10) := by
  cases b <;> cases b2 <;> (intro W X l'; kernel_rfl)
theorem cs_11 (w : World) (b b2 : Bool) (it acc L : Nat) (o : OutA) (v : Nat → UInt8) (d : Nat → Nat) (τ N t : Nat) (p : Pos) (nv : Nv) :
    let W := wld w b b2
    let X := runC (cfgW W (conD d)) 430 (ctxSp it acc L o) p [1, 0, 1, 0, 1, 1, 1, 1, 3, 3, 0, 0, 3, 16, 0, 0, 2, 0, 2, 2, 2, 0, 1, 0, 1, 0, 1, 1, 1, 1, 3, 3, 0, 0, 3, 16, 1, 0, 2, 0, 2, 2, 2, 0, 1, 0, 1, 0, 1, 1, 1, 1, 3, 3, 0, 0, 3, 16, 2, 0, 2, 0, 2, 2, 2, 0, 1, 0, 1, 0, 1, 1, 1, 1, 3, 3, 0, 0, 3, 16, 3, 0, 2, 0, 2, 2, 2, 0, 1, 0, 1, 0, 1, 1, 1, 1, 3, 3, 0, 0, 3, 16, 4, 0, 2, 0, 2, 2, 2, 0, 1, 0, 1, 0, 1, 1, 1, 1, 3, 3, 0, 0, 3, 16, 5, 0, 2, 0, 2, 2, 2, 0, 1, 0, 1, 0, 1, 1, 1, 1, 3, 3, 0, 0, 3, 16, 6, 0, 2, 0, 2, 2, 2, 0, 1, 0, 1, 0, 1, 1, 1, 1, 3, 3, 0, 0, 3, 16, 7, 0, 2, 0, 2, 2, 2, 0, 1, 0, 1, 0, 1, 1, 1, 1, 3, 3, 0, 0, 3, 16, 8, 0, 2, 0, 2, 2, 2, 0, 1, 0, 1, 0, 1, 1, 1, 1, 3, 3, 0, 0, 3, 16, 9, 0, 2, 0, 2, 2, 2, 0, 1, 0, 1, 0, 1, 1, 1, 1, 3, 3, 0, 0, 3, 16, 10, 0, 2, 0, 2, 2, 2, 0, 1, 0, 1, 0, 1, 1, 1, 1, 5] (objSp 11 it acc L v τ) N t nv
    let l' := [(it, obAt X 0), (acc, lsO ⟨itemsOf 11 fun i => .str ⟨⟨[d i]⟩⟩ ((nv i).2.2.n 0)⟩ 11), (L, loc2 W.params (ktk X 2 0) (v 10) (vt X 2 0))]
    look [0, 1, 2] X = some (.done (.ok .next), os_ l', as_ l', dup (eqsOf X), dupG (gsOf X), dupO (osOf X), obsD v d 11) := by
  cases b <;> cases b2 <;> (intro W X l'; kernel_rfl)
theorem cs_12 (w : World) (b b2 : Bool) (it acc L : Nat) (o : OutA) (v : Nat → UInt8) (d : Nat → Nat) (τ N t : Nat) (p : Pos) (nv : Nv) :
    let W := wld w b b2
    let X := runC (cfgW W (conD d)) 464 (ctxSp it acc L o) p [1, 0, 1, 0, 1, 1, 1, 1, 3, 3, 0, 0, 3, 16, 0, 0, 2, 0, 2, 2, 2, 0, 1, 0, 1, 0, 1, 1, 1, 1, 3, 3, 0, 0, 3, 16, 1, 0, 2, 0, 2, 2, 2, 0, 1, 0, 1, 0, 1, 1, 1, 1, 3, 3, 0, 0, 3, 16, 2, 0, 2, 0, 2, 2, 2, 0, 1, 0, 1, 0, 1, 1, 1, 1, 3, 3, 0, 0, 3, 16, 3, 0, 2, 0, 2, 2, 2, 0, 1, 0, 1, 0, 1, 1, 1, 1, 3, 3, 0, 0, 3, 16, 4, 0, 2, 0, 2, 2, 2, 0, 1, 0, 1, 0, 1, 1, 1, 1, 3, 3, 0, 0, 3, 16, 5, 0, 2, 0, 2, 2, 2, 0, 1, 0, 1, 0, 1, 1, 1, 1, 3, 3, 0, 0, 3, 16, 6, 0, 2, 0, 2, 2, 2, 0, 1, 0, 1, 0, 1, 1, 1, 1, 3, 3, 0, 0, 3, 16, 7, 0, 2, 0, 2, 2, 2, 0, 1, 0, 1, 0, 1, 1, 1, 1, 3, 3, 0, 0, 3, 16, 8, 0, 2, 0, 2, 2, 2, 0, 1, 0, 1, 0, 1, 1, 1, 1, 3, 3, 0, 0, 3, 16, 9, 0, 2, 0, 2, 2, 2, 0, 1, 0, 1, 0, 1, 1, 1, 1, 3, 3, 0, 0, 3, 16, 10, 0, 2, 0, 2, 2, 2, 0, 1, 0, 1, 0, 1, 1, 1, 1, 3, 3, 0, 0, 3, 16, 11, 0, 2, 0, 2, 2, 2, 0, 1, 0, 1, 0, 1, 1, 1, 1, 5] (objSp 12 it acc L v τ) N t nv
    let l' := [(it, obAt X 0), (acc, lsO ⟨itemsOf 12 fun i => .str ⟨⟨[d i]⟩⟩ ((nv i).2.2.n 0)⟩ 12), (L, loc2 W.params (ktk X 2 0) (v 11) (vt X 2 0))]
    look [0, 1, 2] X = some (.done (.ok .next), os_ l', as_ l', dup (eqsOf X), dupG (gsOf X), dupO (osOf X), obsD v d 12) := by
  cases b <;> cases b2 <;> (intro W X l'; kernel_rfl)
theorem cs_all (w : World) (b b2 : Bool) (it acc L : Nat) (o : OutA) (v : Nat → UInt8) (d : Nat → Nat) (τ : Nat) : ∀ n, n < 12 → ∃ fuel hs, ∀ (N t : Nat) (p : Pos) (nv : Nv),
    let W := wld w b b2
    let X := runC (cfgW W (conD d)) fuel (ctxSp it acc L o) p hs (objSp (n + 1) it acc L v τ) N t nv
    let l' := [(it, obAt X 0), (acc, lsO ⟨itemsOf (n + 1) fun i => .str ⟨⟨[d i]⟩⟩ ((nv i).2.2.n 0)⟩ (n + 1)), (L, loc2 W.params (ktk X 2 0) (v n) (vt X 2 0))]
    look [0, 1, 2] X = some (.done (.ok .next), os_ l', as_ l', dup (eqsOf X), dupG (gsOf X), dupO (osOf X), obsD v d (n + 1))
  | 0, _ => ⟨_, _, fun N t p nv => cs_1 w b b2 it acc L o v d τ N t p nv⟩
  | 1, _ => ⟨_, _, fun N t p nv => cs_2 w b b2 it acc L o v d τ N t p nv⟩
  | 2, _ => ⟨_, _, fun N t p nv => cs_3 w b b2 it acc L o v d τ N t p nv⟩
  | 3, _ => ⟨_, _, fun N t p nv => cs_4 w b b2 it acc L o v d τ N t p nv⟩
  | 4, _ => ⟨_, _, fun N t p nv => cs_5 w b b2 it acc L o v d τ N t p nv⟩
  | 5, _ => ⟨_, _, fun N t p nv => cs_6 w b b2 it acc L o v d τ N t p nv⟩
  | 6, _ => ⟨_, _, fun N t p nv => cs_7 w b b2 it acc L o v d τ N t p nv⟩
  | 7, _ => ⟨_, _, fun N t p nv => cs_8 w b b2 it acc L o v d τ N t p nv⟩
  | 8, _ => ⟨_, _, fun N t p nv => cs_9 w b b2 it acc L o v d τ N t p nv⟩
  | 9, _ => ⟨_, _, fun N t p nv => cs_10 w b b2 it acc L o v d τ N t p nv⟩
  | 10, _ => ⟨_, _, fun N t p nv => cs_11 w b b2 it acc L o v d τ N t p nv⟩
  | 11, _ => ⟨_, _, fun N t p nv => cs_12 w b b2 it acc L o v d τ N t p nv⟩
  | n + 12, h => absurd h (by omega)
/-! P301 -/
/-! ### _law_split  -/
noncomputable def belT (o : OutA) : List (Code × Pos) := [(.compLoop eTold 0 (.ref o.it) (.ref o.acc) (envTold o), o.q 1), (.func (fnB dLW) (envLwc o.L0 o.ct o.cw), o.q 2), (.builtin "claim.caller" {}, default)]
noncomputable def ctxLSp (o : OutA) (n : Nat) (v : Nat → UInt8) (τ : Nat) : Ctx := ctxOf (.call (.ref 753) ⟨[.bytes ⟨byN (n + 1) v⟩ τ], []⟩) (belT o)
noncomputable def oS (o : OutA) (L1 : Nat) (bel : List (Code × Pos)) : OutA := { o with L1 := L1, q := fun i => posN bel i }
noncomputable def isCo2 : Code → Bool
  | .compLoop .. => true
  | _ => false
noncomputable def strTok : Code → Nat
  | .call _ ⟨.str _ t :: _, _⟩ => t
  | _ => 0
noncomputable def siTok : Option Obj → Nat
  | some o => match recOf o.data with
    | some (v :: _) => vtok v
    | _ => 0
  | none => 0
noncomputable def gS (T : BT) (i : Nat) : FrO := froOf (T.get (match i with | 3 => 1 | _ => 0))
noncomputable def conSp (P : Params) (o : OutA) (n : Nat) (v : Nat → UInt8) (d : Nat → Nat) (res : Option (List (List Nat))) : CF := fun j x Γ cd T ads => match j with
  | 42 => some (conS T ads (ctxS (oS o (adOf ads 1) Γ.below) (chars (n + 1) d) (strTok cd)) (zip3 [1, 0] (outF (oS o (adOf ads 1) Γ.below) (gS T))) True (spRes res)
      (fun ν => zip2 [1, 0] (spCh (oS o (adOf ads 1) Γ.below) (gS T) ν)) (fun ν => news_ (spNew res ν)))
  | 46 => some (conS T ads (ctxSp (adOf ads 2) (adOf ads 3) (adOf ads 4) (oS o (adOf ads 1) Γ.below)) (zip3 [2, 3, 4] (objSp (n + 1) (adOf ads 2) (adOf ads 3) (adOf ads 4) v (siTok (T.get 2)))) (obsD v d (n + 1))
      (fun _ => .ok .next) (fun ν => [(2, ν.ob 0), (3, lsO ⟨itemsOf (n + 1) fun i => .str ⟨⟨[d i]⟩⟩ (ν.n i)⟩ (n + 1)), (4, loc2 P (ν.n 20) (v n) (ν.n 21))]) fun _ => [])
  | j => conP ⟨⟨fun _ => chars (n + 1) d, fun _ => 0⟩, fun _ => []⟩ j x Γ cd T ads
theorem lsA (w : World) (b b2 : Bool) (o : OutA) (n : Nat) (v : Nat → UInt8) (d : Nat → Nat) (τ : Nat) (g : FrO) (ws : List (List Nat)) (N t : Nat) (p : Pos) (nv : Nv) :
    let W := wld w b b2
    let X := runC (cfgW W (conSp W.params o n v d (some ws))) 120 (ctxLSp o n v τ) p (match b2 with | true => [0, 0, 2, 2, 0, 1001, 0, 2, 0, 0, 3, 0, 48, 2, 5, 5, 5, 15, 3, 0, 43, 0] | false => [0, 0, 2, 2, 0, 1001, 0, 2, 0, 0, 3, 0, 3, 3, 0, 3, 0, 3, 48, 2, 5, 5, 5, 15, 3, 0, 43, 0]) [(o.L0, frX g)] N t nv
    look [0, 5] X = some (.done (.ok (.ret (.ref (adAt X 5)))), [some (frX ⟨g.es, g.n, slOf X 0⟩), some (listO ⟨mkW ws fun i => (nv 2).2.2.n (i + 100)⟩ ((nv 2).2.2.n 1))], [o.L0, adAt X 5], dup (eqsOf X), dupG (gsOf X), dupO (osOf X), (True ∧ JoinB tyList ⟨⟨[]⟩⟩ (itemsOf (n + 1) fun i => .str ⟨⟨[d i]⟩⟩ ((nv 0).2.2.n i)) (chars (n + 1) d) ∧ obsD v d (n + 1) ∧ True)) := by
  cases b <;> cases b2 <;> (intro W X; kernel_rfl)
/-- split refuses: first _law_split's frame -/
noncomputable def ctxLF (o : OutA) (L1 : Nat) : Ctx := ctxOf (.func (fnB dLSp) (envSpl L1)) (belT o)
noncomputable def frLS (P : Params) (k n : Nat) (v : Nat → UInt8) (τ : Nat) (sl : Array (Option Value)) : Obj := frameO [ent P [111, 99, 116, 101, 116, 115] k (.bytes ⟨byN (n + 1) v⟩ τ)] 1 sl
theorem lsF (w : World) (b b2 : Bool) (o : OutA) (n : Nat) (v : Nat → UInt8) (d : Nat → Nat) (τ : Nat) (g : FrO) (N t : Nat) (p : Pos) (nv : Nv) :
    let W := wld w b b2
    let X := runC (cfgW W (conSp W.params o n v d none)) 60 (ctxLSp o n v τ) p [0, 0, 2, 2, 0, 1] [(o.L0, frX g)] N t nv
    look [0, 1] X = some (.again (ctxLF o (adAt X 1)) (posOf X), [some (frX ⟨g.es, g.n, slOf X 0⟩), some (frLS W.params (ktk X 1 0) n v τ (slOf X 1))], [o.L0, adAt X 1], dup (eqsOf X), dupG (gsOf X), dupO (osOf X), (True)) := by
  cases b <;> (intro W X; kernel_rfl)
noncomputable def trB : Stmt → List Stmt | .Try b _ _ _ _ => b | _ => []
noncomputable def trH : Stmt → List ExceptHandler | .Try _ h _ _ _ => h | _ => []
noncomputable def trP : Stmt → Pos | .Try _ _ _ _ p => p | _ => default
noncomputable def sTry : Stmt := nthS 0 (fnB dLSp)
noncomputable def runTr (W : World) (con : CF) (fuel : Nat) (Γ : Ctx) (p : Pos) (env : Env) (s : Stmt) (hs1 hs2 : List Nat) (l : List (Nat × Obj)) (N t : Nat) (nv nv2 : Nv) : Out :=
  runTry sxF (cfgW W con) fuel Γ p env (tryT (trB s) env (trP s)) (hdT (trH s) env) hs1 hs2 (treeOf 0 (l.map (·.2)) .nil) l.length (adsOf 0 (l.map (·.1)) N []) t nv nv2
theorem lsR (w : World) (b b2 : Bool) (o : OutA) (L1 k n : Nat) (v : Nat → UInt8) (d : Nat → Nat) (τ : Nat) (g : FrO) (sl : Array (Option Value)) (N t : Nat) (p : Pos) (nv nv2 : Nv) :
    let W := wld w b b2
    let X := runTr W (conSp W.params o n v d none) 160 (ctxLF o L1) p (envSpl L1) sTry (match b2 with | true => [0, 2, 0, 0, 3, 0, 48, 2, 5, 5, 5, 15, 3, 0, 43, 0] | false => [0, 2, 0, 0, 3, 0, 3, 3, 0, 3, 0, 3, 48, 2, 5, 5, 5, 15, 3, 0, 43, 0]) [5, 6, 1, 0, 0, 0, 0, 6, 0, 6, 8, 8] [(o.L0, frX g), (L1, frLS W.params k n v τ sl)] N t nv nv2
    look [0, 1] X = some (.done (.ok (.ret .none)), [some (frX ⟨g.es, g.n, slOf X 0⟩), some (frLS W.params k n v τ (slOf X 1))], [o.L0, L1], dup (eqsOf X), dupG (gsOf X), dupO (osOf X), (True ∧ JoinB tyList ⟨⟨[]⟩⟩ (itemsOf (n + 1) fun i => .str ⟨⟨[d i]⟩⟩ ((nv 0).2.2.n i)) (chars (n + 1) d) ∧ obsD v d (n + 1) ∧ True)) := by
  cases b <;> cases b2 <;> (intro W X; kernel_rfl)
/-! P401 -/
/-! ### contracts from what is proved of a code -/
theorem newsIx {ν : Unk} {l : List (Nat × Obj)} (h : l.map (·.1) = (List.range l.length).map ν.n) (k : Nat) (hk : k < l.length) : (l.map (·.1))[k]? = some (ν.n k) := by
  rw [h, List.getElem?_map, List.getElem?_range hk]; rfl
theorem con_z {W : World} {T : BT} {ads : Ads} {m tk : Nat} {s s₀ : Shared} {p : Pos} {gx : Ctx} {l0 : Nat} {is : List Nat} {l : List (Nat × Obj)} {ob : Prop} {res : Unk → Result} {ch nw : Unk → List (Nat × Obj)}
    (D : Rep (baseOf (kt W.params) 785 l0 s₀) s T m ads tk) (hl : is.length = l.length) (hnd : is.Nodup)
    (hn : ∀ x ∈ (conS T ads gx (zip3 is l) ob res (fun ν => zip2 is (ch ν)) (fun ν => news_ (nw ν))).nq, x.1 = x.2) (ho : ∀ x ∈ (conS T ads gx (zip3 is l) ob res (fun ν => zip2 is (ch ν)) (fun ν => news_ (nw ν))).oq, x.1 = x.2)
    (wp : Top W s → Holds s l → (l.map (·.1)).Nodup → (∀ y ∈ l, 785 ≤ y.1) → wpCode (MW W) gx (fun r s' => ∃ ν, r = res ν ∧ Did s s' (ch ν) (nw ν)) p s)
    (hch : ∀ ν, (ch ν).map (·.1) = l.map (·.1)) (hnw : ∀ ν k, k < (nw ν).length → ((nw ν).map (·.1))[k]? = some (ν.n k)) :
    wpCode (MW W) gx (fun r s' => ∃ N t ν, LeftRep (baseOf (kt W.params) 785 l0 s₀) (conS T ads gx (zip3 is l) ob res (fun ν => zip2 is (ch ν)) (fun ν => news_ (nw ν))) ν r s' m ads N t) p s := by
  obtain ⟨h1, h2⟩ := conS_holds D hn ho
  obtain ⟨H, ha, hm⟩ := zip3_holds _ _ hl h1 h2
  have nd : (l.map (·.1)).Nodup := ha ▸ nodup_ad D hnd hm
  have lo : ∀ y ∈ l, 785 ≤ y.1 := fun y hy => by
    have : y.1 ∈ is.map (adOf ads) := ha ▸ List.mem_map.mpr ⟨y, hy, rfl⟩
    obtain ⟨i, hi, e⟩ := List.mem_map.mp this
    exact e ▸ (D.lo i (hm i hi)).1
  refine wpCode_mono (fun r s' h => ?_) (wp (rep_sane D) H nd lo)
  obtain ⟨ν, hr, hD⟩ := h
  have hw : (ch ν).map (·.1) = is.map (adOf ads) := (hch ν).trans ha
  exact conS_left D ν _ hr _ _ hD (zip2_ad _ _ hw) (zip2_mem _ _ hm) rfl (hnw ν)
theorem runTr_ok {W : World} {con : CF} {s : Shared} {R : Result → Shared → Prop} {l : List (Nat × Obj)} {Γ : Ctx} {st : Stmt} {env : Env} {p : Pos} {n : Nat} {hs1 hs2 : List Nat} (ext : List Nat)
    (hcon : ConOk (baseOf (kt W.params) 785 l.length s) (MW W) (cfgW W con)) (S : Top W s) (H : Holds s l) (nd : (l.map (·.1)).Nodup) (lo : ∀ x ∈ l, 785 ≤ x.1)
    (hc : Γ.code = .func [.Try (trB st) (trH st) [] [] (trP st)] env) (ne : (trH st).isEmpty = false)
    (e : Nv → Nv → End1) (os : Nv → Nv → List (Option Obj)) (xs : Nv → Nv → List Nat) (ob : Nv → Nv → Prop)
    (run : ∀ nv nv2, let X := runTr W con n Γ p env st hs1 hs2 l s.heap.objs.size s.toks nv nv2
      look (List.range l.length ++ ext) X = some (e nv nv2, os nv nv2, l.map (·.1) ++ xs nv nv2, dup (eqsOf X), dupG (gsOf X), dupO (osOf X), ob nv nv2))
    (hob : ∀ nv nv2, ob nv nv2) (fin : ∀ nv nv2 s', After s s' (l.map (·.1)) (List.range l.length ++ ext) (l.map (·.1) ++ xs nv nv2) (os nv nv2) → EndOk (MW W) (RN R) (e nv nv2) s') : wpCode (MW W) Γ R p s := by
  refine run_try (C := cfgW W con) (ext := ext) (n := n) (hs1 := hs1) (hs2 := hs2) (den_ok F W) rfl rfl rfl hcon (lvTree_ok (by show lvF = lvTree; exact lv_eq.symm)) S H nd lo hc ne e os xs ob (fun nv nv2 => ?_) hob fin
  have := run nv nv2
  unfold runTr at this
  rw [show sxF = @sx from sx_eq.symm] at this
  exact this

theorem itemsOf_congr : ∀ {k : Nat} {f g : Nat → Value}, (∀ i, i < k → f i = g i) → itemsOf k f = itemsOf k g
  | 0, _, _, _ => rfl
  | k + 1, f, g, h => by
    show f 0 :: _ = g 0 :: _
    rw [h 0 (Nat.zero_lt_succ k), itemsOf_congr (k := k) (f := fun i => f (i + 1)) (g := fun i => g (i + 1)) fun i hi => h (i + 1) (Nat.succ_lt_succ hi)]
theorem cs_ok {w : World} {b b2 : Bool} {it acc L : Nat} {o : OutA} {v : Nat → UInt8} {d : Nat → Nat} {τ n : Nat} {s : Shared} {p : Pos} (hn : n < 12) (S : Top (wld w b b2) s) (H : Holds s (objSp (n + 1) it acc L v τ)) (nd : ((objSp (n + 1) it acc L v τ).map (·.1)).Nodup) (lo : ∀ y ∈ objSp (n + 1) it acc L v τ, 785 ≤ y.1) (hd : obsD v d (n + 1)) :
    wpCode (MW (wld w b b2)) (ctxSp it acc L o) (fun r s' => ∃ ν : Unk, r = .ok .next ∧ Did s s' [(it, ν.ob 0), (acc, lsO ⟨itemsOf (n + 1) fun i => .str ⟨⟨[d i]⟩⟩ (ν.n i)⟩ (n + 1)), (L, loc2 (wld w b b2).params (ν.n 20) (v n) (ν.n 21))] []) p s := by
  obtain ⟨fuel, hs, run⟩ := cs_all w b b2 it acc L o v d τ n hn
  refine runC_ok [] (conP_good _) S H nd lo _ _ (fun _ => []) _ (fun nv => run _ _ p nv) (fun _ => hd) fun nv s' Af => ?_
  generalize hX : runC _ _ _ _ _ _ _ _ _ = X at Af ⊢
  refine ⟨⟨fun i => if i = 20 then ktk X 2 0 else if i = 21 then vt X 2 0 else (nv i).2.2.n 0, fun _ => #[], fun _ => #[], fun _ => obAt X 0⟩, rfl, ?_⟩
  have e : (itemsOf (n + 1) fun i => Value.str ⟨⟨[d i]⟩⟩ ((nv i).2.2.n 0)) = itemsOf (n + 1) fun i => .str ⟨⟨[d i]⟩⟩ (if i = 20 then ktk X 2 0 else if i = 21 then vt X 2 0 else (nv i).2.2.n 0) :=
    itemsOf_congr fun i hi => by rw [if_neg (by omega), if_neg (by omega)]
  have D := Af.did [(it, obAt X 0), (acc, lsO ⟨itemsOf (n + 1) fun i => .str ⟨⟨[d i]⟩⟩ ((nv i).2.2.n 0)⟩ (n + 1)), (L, loc2 (wld w b b2).params (ktk X 2 0) (v n) (vt X 2 0))] [] [] rfl rfl rfl (by simp) (by simp) rfl rfl
  rw [e] at D
  exact D
theorem conSp_ok {w : World} {b b2 : Bool} {o : OutA} {n : Nat} {v : Nat → UInt8} {d : Nat → Nat} {res : Option (List (List Nat))} (hn : n < 12) (hr : res = rdAll (2 * (chars (n + 1) d).length + 2) (chars (n + 1) d) 32) (hb : (chars (n + 1) d).length ≤ 13) (hbs : 92 ∉ chars (n + 1) d) {l0 : Nat} {s₀ : Shared} :
    ConOk (baseOf (kt (wld w b b2).params) 785 l0 s₀) (MW (wld w b b2)) (cfgW (wld w b b2) (conSp (wld w b b2).params o n v d res)) := by
  intro j y Γ T m ads tk s p g hg hx hn' ho ob D
  replace hg : conSp (wld w b b2).params o n v d res j y Γ Γ.code T ads = some g := hg
  by_cases h1 : j = 42
  · subst h1
    cases hg
    replace hx : Γ = _ := hx
    rw [hx]
    exact con_z D rfl (by decide) hn' ho (fun S H nd lo => split_ok hr hb hbs S H nd (by
      intro y hy
      obtain ⟨z, hz, rfl⟩ := List.mem_map.mp (show y ∈ (outF (oS o (adOf ads 1) Γ.below) (gS T)).map (·.1) from hy)
      exact lo z hz)) (fun ν => rfl) (fun ν k hk => by
        cases res with
        | some ws => match k, hk with
          | 0, _ => rfl
        | none => match k, hk with
          | 0, _ => rfl
          | 1, _ => rfl)
  · by_cases h2 : j = 46
    · subst h2
      cases hg
      replace hx : Γ = _ := hx
      rw [hx]
      exact con_z (ch := fun ν => [(adOf ads 2, ν.ob 0), (adOf ads 3, lsO ⟨itemsOf (n + 1) fun i => .str ⟨⟨[d i]⟩⟩ (ν.n i)⟩ (n + 1)), (adOf ads 4, loc2 (wld w b b2).params (ν.n 20) (v n) (ν.n 21))]) (nw := fun _ => []) D rfl (by decide) hn' ho (fun S H nd lo => cs_ok hn S H nd lo ob) (fun ν => rfl) (fun ν k hk => absurd hk (Nat.not_lt_zero _))
    · have hg' : conP ⟨⟨fun _ => chars (n + 1) d, fun _ => 0⟩, fun _ => []⟩ j y Γ Γ.code T ads = some g := by
        unfold conSp at hg
        split at hg
        · exact absurd rfl h1
        · exact absurd rfl h2
        · exact hg
      exact conP_good _ j y Γ T m ads tk s p g hg' hx hn' ho ob D
/-! P501 -/
theorem chars_map (f : Nat → Nat) : ∀ k, chars k f = (List.range k).map f
  | 0 => rfl
  | k + 1 => by
    rw [chars, chars_map, List.range_succ_eq_map, List.map_cons, List.map_map]; rfl
theorem itemsOf_map (f : Nat → Value) : ∀ k, itemsOf k f = (List.range k).map f
  | 0 => rfl
  | k + 1 => by
    rw [itemsOf, itemsOf_map (fun i => f (i + 1)), List.range_succ_eq_map, List.map_cons, List.map_map]; rfl
theorem slice12 (items : Array Value) : slicePick items none (some 12) none = (items.toList.take 12).toArray := by
  by_cases h : 12 ≤ items.size
  · exact slicePick_upto items 12 h
  · have e : slicePick items none (some 12) none = slicePick items none (some (items.size : Int)) none := by
      unfold slicePick
      have : sliceBounds none (some 12) none items.size = sliceBounds none (some (items.size : Int)) none items.size := by
        unfold sliceBounds
        simp only [Option.getD_none]
        have h1 : ¬ ((12 : Int) < 0) := by decide
        have h2 : ¬ ((items.size : Int) < 0) := by omega
        simp only [h1, h2, if_false, show ((1 : Int) > 0) from by decide, if_true]
        congr 2
        omega
      rw [this]
    rw [e, slicePick_upto items items.size (Nat.le_refl _)]
    rw [List.take_of_length_le (by simp), List.take_of_length_le (by rw [Array.length_toList]; omega)]
theorem strL_chars (c τ : Nat → Nat) : ∀ k, strL (itemsOf k fun i => .str ⟨⟨[c i]⟩⟩ (τ i)) = some ((List.range k).map fun i => (⟨⟨[c i]⟩⟩, τ i))
  | 0 => rfl
  | k + 1 => by
    rw [itemsOf, strL, strL_chars (fun i => c (i + 1)) (fun i => τ (i + 1)) k, List.range_succ_eq_map, List.map_cons, List.map_map]; rfl
theorem join_chars (c : Nat → Nat) : ∀ (l : List Nat), Str.join (⟨⟨[]⟩⟩ : Str) (l.map fun i => (⟨⟨[c i]⟩⟩ : Str)) = ⟨⟨l.map c⟩⟩
  | [] => rfl
  | [i] => rfl
  | i :: j :: r => by
    have ih := join_chars c (j :: r)
    rw [List.map_cons] at ih
    rw [List.map_cons, List.map_cons]
    show (⟨⟨[c i]⟩⟩ : Str) ++ ⟨⟨[]⟩⟩ ++ Str.join ⟨⟨[]⟩⟩ ((⟨⟨[c j]⟩⟩ : Str) :: r.map fun i => (⟨⟨[c i]⟩⟩ : Str)) = _
    rw [ih]
    rw [show (⟨⟨[c i]⟩⟩ : Str) ++ ⟨⟨[]⟩⟩ = ⟨⟨[c i]⟩⟩ from rfl]
    show Str.mk _ = Str.mk _
    simp
theorem joinB_chars (c τ : Nat → Nat) (k : Nat) (hk : k ≤ 12) : JoinB tyList ⟨⟨[]⟩⟩ (itemsOf k fun i => .str ⟨⟨[c i]⟩⟩ (τ i)) (chars k c) := by
  refine ⟨rfl, _, strL_chars c τ k, ?_, ?_, ?_⟩
  · rw [List.map_map]
    have fold : ∀ (l : List Nat) (a : Nat), (l.map ((fun x : Str × Tok => x.1) ∘ fun i => ((⟨⟨[c i]⟩⟩ : Str), τ i))).foldl (fun (a : Nat) (p : Str) => a + p.length + (⟨⟨[]⟩⟩ : Str).length) a = a + l.length := by
      intro l
      induction l with
      | nil => intro a; rfl
      | cons i l ih =>
        intro a
        rw [List.map_cons, List.foldl_cons, ih, List.length_cons]
        show a + 1 + 0 + l.length = _
        omega
    have := fold (List.range k) 0
    rw [List.foldl_toArray, this, List.length_range]
    unfold Builtin.Str.tooLong
    have hz : sizeLine = 16777216 := by decide
    simp
    omega
  · rw [List.map_map, StrLaws.glued_eq_join, chars_map]
    exact join_chars c (List.range k)
  · rw [chars_map, List.length_map, List.length_range]
    exact Nat.le_trans hk (by decide)

theorem conV_good {W : World} {s : Shared} {l : Nat} (O : OrV) : ConOk (baseOf (kt W.params) 785 l s) (MW W) (cfgW W (conV O)) :=
  fun j x Γ T m ads tk s p g hg hx hn ho ob D => conV_ok O j x Γ T m ads tk s p g hg hx hn ho ob D
/-- what was new is held on with -/
theorem grow {s s' s'' : Shared} {c c2 n n2 : List (Nat × Obj)} (x : Did s s' c n) (y : Did s' s'' (c2 ++ n2) []) (hc : c2.map (·.1) = c.map (·.1)) (hn : n2.map (·.1) = n.map (·.1)) : Did s s'' c2 n2 := by
  have hy : ∀ z ∈ n2, s.heap.objs.size ≤ z.1 := fun z hz => by
    have : z.1 ∈ n.map (·.1) := hn ▸ List.mem_map.mpr ⟨z, hz, rfl⟩
    obtain ⟨w, hw, e⟩ := List.mem_map.mp this
    exact e ▸ x.young w hw
  refine ⟨⟨fun b o hb hne => ?_, Nat.le_trans x.keep.size y.keep.size, y.keep.gens.trans x.keep.gens, y.keep.drawn.trans x.keep.drawn, y.keep.os.trans x.keep.os⟩, fun z hz => y.holds z (List.mem_append_left _ hz), fun z hz => y.holds z (List.mem_append_right _ hz), hy, hn ▸ x.nodup⟩
  refine y.keep.keep b o (x.keep.keep b o hb (hc ▸ hne)) fun h => ?_
  rw [List.map_append] at h
  rcases List.mem_append.mp h with h | h
  · exact hne h
  · obtain ⟨z, hz, e⟩ := List.mem_map.mp h
    have h1 := hy z hz
    have h2 : b < s.heap.objs.size := Heap.lt_size hb
    replace e : z.1 = b := e
    exact absurd (e ▸ h1) (Nat.not_le.mpr h2)
/-! ### _law_split -/
noncomputable def lspV (res : Option (List (List Nat))) (k : Nat) : Value := match res with
  | some _ => .ref k
  | none => .none
noncomputable def lspO (res : Option (List (List Nat))) (ν : Unk) : Obj := match res with
  | some ws => listO ⟨mkW ws fun i => ν.n (i + 100)⟩ (ν.n 1)
  | none => ν.ob 1
theorem lspl_ok {w : World} {b b2 : Bool} {o : OutA} {n : Nat} {v : Nat → UInt8} {d : Nat → Nat} {τ : Nat} {g : FrO} {res : Option (List (List Nat))} {s : Shared} {p : Pos} (hn : n < 12) (hr : res = rdAll (2 * (chars (n + 1) d).length + 2) (chars (n + 1) d) 32) (hbs : 92 ∉ chars (n + 1) d) (hd : obsD v d (n + 1))
    (S : Top (wld w b b2) s) (H : Holds s [(o.L0, frX g)]) (lo : 785 ≤ o.L0) :
    wpCode (MW (wld w b b2)) (ctxLSp o n v τ) (fun r s' => ∃ ν : Unk, r = .ok (.ret (lspV res (ν.n 0))) ∧ Did s s' [(o.L0, frX ⟨g.es, g.n, ν.sl 0⟩)] [(ν.n 0, lspO res ν)]) p s := by
  have hb : (chars (n + 1) d).length ≤ 13 := by rw [chars_map, List.length_map, List.length_range]; omega
  have hj := fun τ => joinB_chars d τ (n + 1) (by omega)
  cases res with
  | some ws =>
    refine runC_ok [5] (conSp_ok (o := o) (v := v) hn hr hb hbs) S H (by simp) (by simpa using lo) _ _ (fun _ => [_]) _ (fun nv => lsA w b b2 o n v d τ g ws _ _ p nv) (fun nv => ⟨trivial, hj _, hd, trivial⟩) fun nv s' Af => ?_
    try dsimp only at Af
    generalize runC _ _ _ _ _ _ _ _ _ = X at Af ⊢
    refine ⟨⟨fun i => match i with | 0 => adAt X 5 | 1 => (nv 2).2.2.n 1 | i => (nv 2).2.2.n i, fun _ => slOf X 0, fun _ => #[], fun _ => default⟩, rfl, ?_⟩
    exact Af.did [(o.L0, frX ⟨g.es, g.n, slOf X 0⟩)] [(adAt X 5, listO ⟨mkW ws fun i => (nv 2).2.2.n (i + 100)⟩ ((nv 2).2.2.n 1))] [5] rfl rfl rfl (by simp) (by simp) rfl rfl
  | none =>
    refine runC_ok [1] (conSp_ok (o := o) (v := v) hn hr hb hbs) S H (by simp) (by simpa using lo) _ _ (fun _ => [_]) _ (fun nv => lsF w b b2 o n v d τ g _ _ p nv) (fun nv => trivial) fun nv s1 Af => ?_
    try dsimp only at Af
    generalize runC _ _ _ _ _ _ _ _ _ = X at Af ⊢
    have D1 := Af.did [(o.L0, frX ⟨g.es, g.n, slOf X 0⟩)] [(adAt X 1, frLS (wld w b b2).params (ktk X 1 0) n v τ (slOf X 1))] [1] rfl rfl rfl (by simp) (by simp) rfl rfl
    have hne : o.L0 ≠ adAt X 1 := fun e => by
      have h1 := D1.young _ (List.mem_cons_self ..)
      have h2 := Heap.lt_size (H _ (List.mem_cons_self ..))
      replace h1 : s.heap.objs.size ≤ adAt X 1 := h1
      replace h2 : o.L0 < s.heap.objs.size := h2
      omega
    have hz := S.top
    have lo1 : 785 ≤ adAt X 1 := Nat.le_trans hz (D1.young _ (List.mem_cons_self ..))
    show wpCode _ (ctxLF o (adAt X 1)) _ (posOf X) s1
    refine runTr_ok [] (conSp_ok (o := o) (v := v) hn hr hb hbs) (D1.sane S (by simpa using lo)) (Holds.append D1.holds D1.new) (by simpa using hne) (by simpa using ⟨lo, lo1⟩) rfl rfl _ _ (fun _ _ => []) _ (fun nv nv2 => lsR w b b2 o (adAt X 1) (ktk X 1 0) n v d τ ⟨g.es, g.n, slOf X 0⟩ (slOf X 1) _ _ (posOf X) nv nv2) (fun nv nv2 => ⟨trivial, hj _, hd, trivial⟩) fun nv nv2 s2 Af2 => ?_
    try dsimp only at Af2
    generalize runTr _ _ _ _ _ _ _ _ _ _ _ _ _ _ = Y at Af2 ⊢
    have D2 := Af2.did ([(o.L0, frX ⟨g.es, g.n, slOf Y 0⟩)] ++ [(adAt X 1, frLS (wld w b b2).params (ktk X 1 0) n v τ (slOf Y 1))]) [] [] rfl rfl rfl (by simp) (by simp) rfl rfl
    exact ⟨⟨fun _ => adAt X 1, fun _ => slOf Y 0, fun _ => #[], fun _ => frLS (wld w b b2).params (ktk X 1 0) n v τ (slOf Y 1)⟩, rfl, grow D1 D2 rfl rfl⟩
/-! Q101 -/
/-! ### _law_way: its loop's turns (written by mkq1.py) -/
structure FunC where
  b : List Stmt
  e : Env
structure LoopC where
  t : Expr
  it : Value
  b : List Stmt
  o : List Stmt
  e : Env
noncomputable def fcode (x : FunC) : Code := .func x.b x.e
noncomputable def lcode (y : LoopC) : Code := .forLoop y.t y.it y.b y.o y.e
noncomputable def dWy : Stmt := nthS 26 F.main.body
noncomputable def qWy : List Nat := [95, 108, 97, 119, 95, 119, 97, 121]
noncomputable def envWy (L : Nat) : Env := envOfD dWy qWy 760 759 L
noncomputable def sWy : Stmt := nthS 2 (fnB dWy)
noncomputable def yWy (it L : Nat) : LoopC := ⟨forT sWy, .ref it, forB sWy, forO sWy, envWy L⟩
noncomputable def ctxWy (it L : Nat) (bel : List (Code × Pos)) : Ctx := ctxOf (lcode (yWy it L)) bel
noncomputable def frWy (P : Params) (k v : Nat → Nat) (rw : Str) (bg pl : List Nat) (pa : Nat) : Option (List Nat) → Obj
  | none => frameO [ent P [114,111,119] (k 0) (.str rw (v 0)), ent P [98,101,103,117,110] (k 1) (.str ⟨⟨bg⟩⟩ (v 1)), ent P [112,108,97,99,101] (k 2) (.str ⟨⟨pl⟩⟩ (v 2)), ent P [112,97,114,116,115] (k 3) (.ref pa)] 4 ⟨[]⟩
  | some c => frameO [ent P [114,111,119] (k 0) (.str rw (v 0)), ent P [98,101,103,117,110] (k 1) (.str ⟨⟨bg⟩⟩ (v 1)), ent P [112,108,97,99,101] (k 2) (.str ⟨⟨pl⟩⟩ (v 2)), ent P [112,97,114,116,115] (k 3) (.ref pa), ent P [115,105,103,110] (k 4) (.str ⟨⟨c⟩⟩ (v 4))] 5 ⟨[]⟩
noncomputable def siX (u : Bool) (a : Str) (t i : Nat) : Obj := match u with
  | true => siO a t i
  | false => siU a t i
noncomputable def orcW (c : Nat) : OrV := ⟨⟨⟨fun _ => [c], fun _ => 0⟩, fun _ => []⟩, fun _ => .none⟩
noncomputable def oldW (f : Bool) (c : List Nat) : Option (List Nat) := match f with
  | true => none
  | false => some c
noncomputable def objWy (P : Params) (u : Bool) (it L pa : Nat) (k v : Nat → Nat) (rw : Str) (ta i : Nat) (bg pl : List Nat) (xs : Array Value) (n : Nat) (sg : Option (List Nat)) : List (Nat × Obj) := [(it, siX u rw ta i), (L, frWy P k v rw bg pl pa sg), (pa, lsO xs n)]
noncomputable def runWy (W : World) (it L : Nat) (bel : List (Code × Pos)) (c : Nat) (hs : List Nat) (l : List (Nat × Obj)) (N t : Nat) (p : Pos) (nv : Nv) : Out :=
  runL (cfgW W (conV (orcW c))) 110 (ctxWy it L bel) p (envWy L) false hs l N t nv
noncomputable def uh (u : Bool) (a b : Nat) (r : List Nat) : List Nat := 1 :: (match u with | true => a | false => b) :: r
theorem wy1 (w : World) (b b2 f u : Bool) (it L pa : Nat) (bel : List (Code × Pos)) (rw : Str) (bg pl old : List Nat) (ta i c : Nat) (xs : Array Value) (n : Nat) (k v : Nat → Nat) (N t : Nat) (p : Pos) (nv : Nv) :
    let W := wld w b b2
    let X := runWy W it L bel c (uh u 26 56 [0, 2, 2, 2, 4, 4, 54, 7, 2, 2, 5, 5, 54, 9, 2, 1, 1, 2, 2, 2, 2, 3, 3, 3, 3, 18, 2, 1]) (objWy W.params u it L pa k v rw ta i bg pl xs n (oldW f old)) N t p nv
    let l' := objWy W.params u it L pa (ktk X 1) (vt X 1) rw ta (i + 1) bg [c] (xs.push (.str ⟨⟨[]⟩⟩ ((nv 3).2.1 + 1))) (n + 1) (some [c])
    look [0, 1, 2] X = some (.again (ctxWy it L bel) (posOf X), os_ l', as_ l', dup (eqsOf X), dupG (gsOf X), dupO (osOf X), (SmallB xs ∧ EqB pl [] 1 ∧ TupC "tuple" ⟨⟨[]⟩⟩ ⟨⟨[c]⟩⟩ ⟨⟨pl⟩⟩ 1 ∧ TupC "tuple" ⟨⟨[39]⟩⟩ ⟨⟨[34]⟩⟩ ⟨⟨[c]⟩⟩ 1 ∧ NextB rw i [c] ∧ True)) := by
  cases b <;> cases b2 <;> cases f <;> cases u <;> (intro W X l'; kernel_rfl)
theorem wy2 (w : World) (b b2 f u : Bool) (it L pa : Nat) (bel : List (Code × Pos)) (rw : Str) (bg pl old : List Nat) (ta i c : Nat) (xs : Array Value) (n : Nat) (k v : Nat → Nat) (N t : Nat) (p : Pos) (nv : Nv) :
    let W := wld w b b2
    let X := runWy W it L bel c (uh u 26 56 [0, 2, 2, 2, 4, 4, 54, 7, 2, 2, 5, 5, 54, 9, 2, 1, 0, 2, 2, 2, 3, 3, 3, 3, 18, 2, 1]) (objWy W.params u it L pa k v rw ta i bg pl xs n (oldW f old)) N t p nv
    let l' := objWy W.params u it L pa (ktk X 1) (vt X 1) rw ta (i + 1) bg [] (xs.push (.str ⟨⟨[]⟩⟩ ((nv 3).2.1 + 2))) (n + 1) (some [c])
    look [0, 1, 2] X = some (.again (ctxWy it L bel) (posOf X), os_ l', as_ l', dup (eqsOf X), dupG (gsOf X), dupO (osOf X), (SmallB xs ∧ EqB pl [] 0 ∧ TupC "tuple" ⟨⟨[]⟩⟩ ⟨⟨[c]⟩⟩ ⟨⟨pl⟩⟩ 1 ∧ TupC "tuple" ⟨⟨[39]⟩⟩ ⟨⟨[34]⟩⟩ ⟨⟨[c]⟩⟩ 1 ∧ NextB rw i [c] ∧ True)) := by
  cases b <;> cases b2 <;> cases f <;> cases u <;> (intro W X l'; kernel_rfl)
theorem wy3 (w : World) (b b2 f u : Bool) (it L pa : Nat) (bel : List (Code × Pos)) (rw : Str) (bg pl old : List Nat) (ta i c : Nat) (xs : Array Value) (n : Nat) (k v : Nat → Nat) (N t : Nat) (p : Pos) (nv : Nv) :
    let W := wld w b b2
    let X := runWy W it L bel c (uh u 26 56 [0, 2, 2, 2, 4, 4, 54, 7, 2, 2, 5, 5, 54, 8, 2, 1, 0, 2, 3, 3, 3, 3, 2, 18, 2, 1]) (objWy W.params u it L pa k v rw ta i bg pl xs n (oldW f old)) N t p nv
    let l' := objWy W.params u it L pa (ktk X 1) (vt X 1) rw ta (i + 1) bg pl (xs.push (.str ⟨⟨[c]⟩⟩ (vt X 1 4))) (n + 1) (some [c])
    look [0, 1, 2] X = some (.again (ctxWy it L bel) (posOf X), os_ l', as_ l', dup (eqsOf X), dupG (gsOf X), dupO (osOf X), (SmallB xs ∧ EqB pl [] 0 ∧ TupC "tuple" ⟨⟨[]⟩⟩ ⟨⟨[c]⟩⟩ ⟨⟨pl⟩⟩ 0 ∧ TupC "tuple" ⟨⟨[39]⟩⟩ ⟨⟨[34]⟩⟩ ⟨⟨[c]⟩⟩ 1 ∧ NextB rw i [c] ∧ True)) := by
  cases b <;> cases b2 <;> cases f <;> cases u <;> (intro W X l'; kernel_rfl)
theorem wy4 (w : World) (b b2 f u : Bool) (it L pa : Nat) (bel : List (Code × Pos)) (rw : Str) (bg pl old : List Nat) (ta i c : Nat) (xs : Array Value) (n : Nat) (k v : Nat → Nat) (N t : Nat) (p : Pos) (nv : Nv) :
    let W := wld w b b2
    let X := runWy W it L bel c (uh u 26 56 [0, 2, 2, 2, 4, 4, 54, 6, 2, 1, 1, 2, 2, 1, 2, 3, 3, 3, 3, 18, 2, 1]) (objWy W.params u it L pa k v rw ta i bg pl xs n (oldW f old)) N t p nv
    let l' := objWy W.params u it L pa (ktk X 1) (vt X 1) rw ta (i + 1) bg pl (xs.push (.none)) (n + 1) (some [c])
    look [0, 1, 2] X = some (.again (ctxWy it L bel) (posOf X), os_ l', as_ l', dup (eqsOf X), dupG (gsOf X), dupO (osOf X), (SmallB xs ∧ InB [32, 9, 10, 13] c 1 ∧ EqB pl [] 1 ∧ TupC "tuple" ⟨⟨[39]⟩⟩ ⟨⟨[34]⟩⟩ ⟨⟨[c]⟩⟩ 0 ∧ NextB rw i [c] ∧ True)) := by
  cases b <;> cases b2 <;> cases f <;> cases u <;> (intro W X l'; kernel_rfl)
theorem wy5 (w : World) (b b2 f u : Bool) (it L pa : Nat) (bel : List (Code × Pos)) (rw : Str) (bg pl old : List Nat) (ta i c : Nat) (xs : Array Value) (n : Nat) (k v : Nat → Nat) (N t : Nat) (p : Pos) (nv : Nv) :
    let W := wld w b b2
    let X := runWy W it L bel c (uh u 26 56 [0, 2, 2, 2, 4, 4, 54, 6, 2, 1, 1, 2, 2, 0, 2, 3, 3, 3, 3, 2, 18, 2, 1]) (objWy W.params u it L pa k v rw ta i bg pl xs n (oldW f old)) N t p nv
    let l' := objWy W.params u it L pa (ktk X 1) (vt X 1) rw ta (i + 1) bg pl (xs.push (.str ⟨⟨[c]⟩⟩ (vt X 1 4))) (n + 1) (some [c])
    look [0, 1, 2] X = some (.again (ctxWy it L bel) (posOf X), os_ l', as_ l', dup (eqsOf X), dupG (gsOf X), dupO (osOf X), (SmallB xs ∧ InB [32, 9, 10, 13] c 0 ∧ EqB pl [] 1 ∧ TupC "tuple" ⟨⟨[39]⟩⟩ ⟨⟨[34]⟩⟩ ⟨⟨[c]⟩⟩ 0 ∧ NextB rw i [c] ∧ True)) := by
  cases b <;> cases b2 <;> cases f <;> cases u <;> (intro W X l'; kernel_rfl)
theorem wy6 (w : World) (b b2 f u : Bool) (it L pa : Nat) (bel : List (Code × Pos)) (rw : Str) (bg pl old : List Nat) (ta i c : Nat) (xs : Array Value) (n : Nat) (k v : Nat → Nat) (N t : Nat) (p : Pos) (nv : Nv) :
    let W := wld w b b2
    let X := runWy W it L bel c (uh u 26 56 [0, 2, 2, 2, 4, 4, 54, 6, 2, 1, 0, 2, 3, 3, 3, 3, 2, 18, 2, 1]) (objWy W.params u it L pa k v rw ta i bg pl xs n (oldW f old)) N t p nv
    let l' := objWy W.params u it L pa (ktk X 1) (vt X 1) rw ta (i + 1) bg pl (xs.push (.str ⟨⟨[c]⟩⟩ (vt X 1 4))) (n + 1) (some [c])
    look [0, 1, 2] X = some (.again (ctxWy it L bel) (posOf X), os_ l', as_ l', dup (eqsOf X), dupG (gsOf X), dupO (osOf X), (SmallB xs ∧ EqB pl [] 0 ∧ TupC "tuple" ⟨⟨[39]⟩⟩ ⟨⟨[34]⟩⟩ ⟨⟨[c]⟩⟩ 0 ∧ NextB rw i [c] ∧ True)) := by
  cases b <;> cases b2 <;> cases f <;> cases u <;> (intro W X l'; kernel_rfl)
theorem wye (w : World) (b b2 u : Bool) (it L pa : Nat) (bel : List (Code × Pos)) (rw : Str) (bg pl old : List Nat) (ta i c : Nat) (xs : Array Value) (n : Nat) (k v : Nat → Nat) (N t : Nat) (p : Pos) (nv : Nv) :
    let W := wld w b b2
    let X := runWy W it L bel c (uh u 27 57 [0, 4, 0]) (objWy W.params u it L pa k v rw ta i bg pl xs n (some old)) N t p nv
    let l' := [(it, obAt X 0), (L, frWy W.params k v rw bg pl pa (some old)), (pa, lsO xs n)]
    look [0, 1, 2] X = some (.done (.ok .next), os_ l', as_ l', dup (eqsOf X), dupG (gsOf X), dupO (osOf X), ((StopB rw i ∧ (none : Option Value) = none) ∧ True)) := by
  cases b <;> cases b2 <;> cases u <;> (intro W X l'; kernel_rfl)
/-! Q201 -/
/-! ### _law_way's loop -/
/-- a part: None, or a text -/
noncomputable def IsP : List Value → List (Option (List Nat)) → Prop
  | [], [] => True
  | .none :: r, none :: r' => IsP r r'
  | .str s _ :: r, some l :: r' => s = ⟨⟨l⟩⟩ ∧ IsP r r'
  | _, _ => False
theorem IsP.snocN : ∀ {vs : List Value} {ps : List (Option (List Nat))}, IsP vs ps → IsP (vs ++ [.none]) (ps ++ [none])
  | [], [], _ => trivial
  | .none :: r, none :: r', h => IsP.snocN (vs := r) (ps := r') h
  | .str _ _ :: r, some _ :: r', h => ⟨h.1, IsP.snocN h.2⟩
theorem IsP.snocS {l : List Nat} {τ : Nat} : ∀ {vs : List Value} {ps : List (Option (List Nat))}, IsP vs ps → IsP (vs ++ [.str ⟨⟨l⟩⟩ τ]) (ps ++ [some l])
  | [], [], _ => ⟨rfl, trivial⟩
  | .none :: r, none :: r', h => IsP.snocS (vs := r) (ps := r') h
  | .str _ _ :: r, some _ :: r', h => ⟨h.1, IsP.snocS h.2⟩
theorem IsP.length : ∀ {vs : List Value} {ps : List (Option (List Nat))}, IsP vs ps → vs.length = ps.length
  | [], [], _ => rfl
  | .none :: r, none :: r', h => congrArg (· + 1) (IsP.length (vs := r) (ps := r') h)
  | .str _ _ :: r, some _ :: r', h => congrArg (· + 1) (IsP.length h.2)
noncomputable def mkP : List (Option (List Nat)) → (Nat → Nat) → List Value
  | [], _ => []
  | none :: r, τ => .none :: mkP r fun i => τ (i + 1)
  | some l :: r, τ => .str ⟨⟨l⟩⟩ (τ 0) :: mkP r fun i => τ (i + 1)
theorem isP_mkP : ∀ {vs : List Value} {ps : List (Option (List Nat))}, IsP vs ps → ∃ τ, vs = mkP ps τ
  | [], [], _ => ⟨fun _ => 0, rfl⟩
  | .none :: r, none :: r', h => by
    obtain ⟨τ, e⟩ := isP_mkP (vs := r) (ps := r') h
    refine ⟨fun i => match i with | 0 => 0 | i + 1 => τ i, ?_⟩
    rw [e]; rfl
  | .str _ t :: r, some l :: r', h => by
    obtain ⟨rfl, h⟩ := h
    obtain ⟨τ, e⟩ := isP_mkP h
    refine ⟨fun i => match i with | 0 => t | i + 1 => τ i, ?_⟩
    rw [e]; rfl
theorem isP_mk : ∀ (ps : List (Option (List Nat))) (τ : Nat → Nat), IsP (mkP ps τ) ps
  | [], _ => trivial
  | none :: r, τ => isP_mk r fun i => τ (i + 1)
  | some l :: r, τ => ⟨rfl, isP_mk r fun i => τ (i + 1)⟩
theorem IsP.append : ∀ {vs vs' : List Value} {ps ps' : List (Option (List Nat))}, IsP vs ps → IsP vs' ps' → IsP (vs ++ vs') (ps ++ ps')
  | [], _, [], _, _, h' => h'
  | .none :: r, _, none :: r', _, h, h' => IsP.append (vs := r) (ps := r') h h'
  | .str _ _ :: r, _, some _ :: r', _, h, h' => ⟨h.1, IsP.append h.2 h'⟩
/-- a sign read at a place: where it leads, what it gives -/
noncomputable def way1 (pl : List Nat) (c : Nat) : List Nat × Option (List Nat) :=
  if c = 39 ∨ c = 34 then (if pl = [] then ([c], some []) else if pl = [c] then ([], some []) else (pl, some [c]))
  else if pl = [] then (if c = 32 ∨ c = 9 ∨ c = 10 ∨ c = 13 then ([], none) else ([], some [c])) else (pl, some [c])
noncomputable def wayR : List Nat → List Nat → List Nat × List (Option (List Nat))
  | pl, [] => (pl, [])
  | pl, c :: r => ((wayR (way1 pl c).1 r).1, (way1 pl c).2 :: (wayR (way1 pl c).1 r).2)
theorem did0 {s s' : Shared} {l' : List (Nat × Obj)} {l : List Nat} (A : After s s' l (List.range l.length ++ []) (l ++ []) (os_ l')) (hl : as_ l' = l) : Did s s' l' [] := by
  subst hl
  refine A.did l' [] [] rfl ?_ rfl (by simp) (by simp) rfl (by rw [List.append_nil]; rfl)
  rw [show (as_ l').length = l'.length from List.length_map ..]
theorem tupC0 {e1 e2 a : List Nat} (h : ¬ (e1 = a ∨ e2 = a)) : TupC "tuple" ⟨⟨e1⟩⟩ ⟨⟨e2⟩⟩ ⟨⟨a⟩⟩ 0 := by
  refine ⟨rfl, ?_⟩
  have h1 : ((⟨⟨e1⟩⟩ : Str) == ⟨⟨a⟩⟩) = false := by
    rw [beq_eq_false_iff_ne]; intro e; exact h (.inl (by injection e with e; injection e))
  have h2 : ((⟨⟨e2⟩⟩ : Str) == ⟨⟨a⟩⟩) = false := by
    rw [beq_eq_false_iff_ne]; intro e; exact h (.inr (by injection e with e; injection e))
  rw [h1, h2]; rfl
theorem tupC1 {e1 e2 a : List Nat} (h : e1 = a ∨ e2 = a) : TupC "tuple" ⟨⟨e1⟩⟩ ⟨⟨e2⟩⟩ ⟨⟨a⟩⟩ 1 := by
  refine ⟨rfl, ?_⟩
  rcases h with rfl | rfl
  · simp [bOf]
  · simp [bOf]
theorem eqL0 {a b : List Nat} (h : a ≠ b) : EqB a b 0 := by unfold EqB; simp [h, bOf]
theorem eqL1 {a b : List Nat} (h : a = b) : EqB a b 1 := by unfold EqB; simp [h, bOf]
theorem wy_loop {w : World} {b b2 u : Bool} {it L pa : Nat} {bel : List (Code × Pos)} {rw_ bg : List Nat} {ta : Nat} {R : Result → Shared → Prop} (nd : [it, L, pa].Nodup) (lo : ∀ y ∈ [it, L, pa], 785 ≤ y) (hz : rw_.length ≤ 1000) :
    ∀ (r : List Nat) {i : Nat} {pl : List Nat} {vs : List Value} {ps : List (Option (List Nat))} {n : Nat} {k v : Nat → Nat} {sg : Option (List Nat)} {s : Shared} {p : Pos} (S : Top (wld w b b2) s) (hr : rw_.drop i = r) (hs : r = [] → ∃ c : Nat, sg = some [c]) (hv : IsP vs ps) (hm : ps.length ≤ i) (hi : i ≤ rw_.length)
      (H : Holds s (objWy (wld w b b2).params u it L pa k v ⟨⟨rw_⟩⟩ ta i bg pl ⟨vs⟩ n sg))
      (fin : ∀ (vs' : List Value) (n' : Nat) (k' v' : Nat → Nat) (c' : Nat) (ob : Obj) (s' : Shared), IsP vs' (ps ++ (wayR pl r).2) → Did s s' [(it, ob), (L, frWy (wld w b b2).params k' v' ⟨⟨rw_⟩⟩ bg (wayR pl r).1 pa (some [c'])), (pa, lsO ⟨vs'⟩ n')] [] → R (.ok .next) s'),
      wpCode (MW (wld w b b2)) (ctxWy it L bel) R p s
  | [], i, pl, vs, ps, n, k, v, sg, s, p, S, hr, hs, hv, hm, hi, H, fin => by
    obtain ⟨c0, rfl⟩ := hs rfl
    have hst : StopB ⟨⟨rw_⟩⟩ i := by
      have := congrArg List.length hr
      rw [List.length_drop, List.length_nil] at this
      show (⟨rw_⟩ : Array Nat)[i]? = none
      rw [Array.getElem?_eq_none]
      show rw_.length ≤ i
      omega
    have lo' : ∀ y ∈ objWy (wld w b b2).params u it L pa k v ⟨⟨rw_⟩⟩ ta i bg pl ⟨vs⟩ n (some [c0]), 785 ≤ y.1 := fun y hy => lo _ (List.mem_map.mpr ⟨y, hy, rfl⟩)
    refine runL_ok (env := envWy L) (fl := false) [] (conV_good (orcW 0)) rfl S H nd lo' _ _ (fun _ => []) _ (fun nv => wye w b b2 u it L pa bel ⟨⟨rw_⟩⟩ bg pl [c0] ta i 0 ⟨vs⟩ n k v _ _ p nv) (fun _ => ⟨⟨hst, rfl⟩, trivial⟩) fun nv s' Af => ?_
    try dsimp only at Af
    generalize runWy _ _ _ _ _ _ _ _ _ _ _ = X at Af
    exact fin vs n k v c0 (obAt X 0) s' (by rw [wayR, List.append_nil]; exact hv) (did0 (l' := [(it, obAt X 0), (L, frWy (wld w b b2).params k v ⟨⟨rw_⟩⟩ bg pl pa (some [c0])), (pa, lsO ⟨vs⟩ n)]) Af rfl)
  | c :: r, i, pl, vs, ps, n, k, v, sg, s, p, S, hr, hs, hv, hm, hi, H, fin => by
    obtain ⟨hc, hr2, hlt⟩ := drop_cons hr
    have hn : NextB ⟨⟨rw_⟩⟩ i [c] := ⟨c, rfl, by
      show (⟨rw_⟩ : Array Nat)[i]? = some c
      have := congrArg List.head? hr
      rw [List.head?_drop] at this
      simpa using this⟩
    have hsm : SmallB ⟨vs⟩ := by
      show vs.length ≤ 1000000
      rw [hv.length]
      omega
    have go : ∀ {pl2 : List Nat} {part : Option (List Nat)} {vs2 : List Value} {n2 : Nat} {k2 v2 : Nat → Nat} {p2 : Pos} {s2 : Shared}, way1 pl c = (pl2, part) → IsP vs2 (ps ++ [part]) → Did s s2 (objWy (wld w b b2).params u it L pa k2 v2 ⟨⟨rw_⟩⟩ ta (i + 1) bg pl2 ⟨vs2⟩ n2 (some [c])) [] → wpCode (MW (wld w b b2)) (ctxWy it L bel) R p2 s2 := by
      intro pl2 part vs2 n2 k2 v2 p2 s2 e h2 D
      refine wy_loop nd lo hz r (Did.sane S D (fun y hy => lo _ (List.mem_map.mpr ⟨y, hy, rfl⟩))) hr2 (fun _ => ⟨_, rfl⟩) h2 (by rw [List.length_append]; exact Nat.succ_le_succ hm) hlt D.holds fun vs' n' k' v' c' ob s' hv' D' => ?_
      refine fin vs' n' k' v' c' ob s' ?_ ?_
      · rw [wayR, e]
        rw [List.append_assoc] at hv'
        exact hv'
      · rw [wayR, e]
        exact D.trans D' fun _ h => h
    have key : ∀ (f : Bool) (x : List Nat), sg = oldW f x → wpCode (MW (wld w b b2)) (ctxWy it L bel) R p s := by
      intro f x e
      subst e
      have lo' : ∀ y ∈ objWy (wld w b b2).params u it L pa k v ⟨⟨rw_⟩⟩ ta i bg pl ⟨vs⟩ n (oldW f x), 785 ≤ y.1 := fun y hy => lo _ (List.mem_map.mpr ⟨y, hy, rfl⟩)
      by_cases hq : c = 39 ∨ c = 34
      · have hT : TupC "tuple" ⟨⟨[39]⟩⟩ ⟨⟨[34]⟩⟩ ⟨⟨[c]⟩⟩ 1 := tupC1 (by rcases hq with rfl | rfl <;> simp)
        by_cases h0 : pl = []
        · have hw : way1 pl c = ([c], some []) := by unfold way1; rw [if_pos hq, if_pos h0]
          refine runL_ok (env := envWy L) (fl := false) [] (conV_good (orcW c)) rfl S H nd lo' _ _ (fun _ => []) _ (fun nv => wy1 w b b2 f u it L pa bel ⟨⟨rw_⟩⟩ bg pl x ta i c ⟨vs⟩ n k v _ _ p nv) (fun _ => ⟨hsm, eqL1 h0, tupC1 (.inl h0.symm), hT, hn, trivial⟩) fun nv s' Af => ?_
          try dsimp only at Af
          generalize runWy _ _ _ _ _ _ _ _ _ _ _ = X at Af ⊢
          have D := did0 (l' := objWy (wld w b b2).params u it L pa (ktk X 1) (vt X 1) ⟨⟨rw_⟩⟩ ta (i + 1) bg [c] ((⟨vs⟩ : Array Value).push (.str ⟨⟨[]⟩⟩ ((nv 3).2.1 + 1))) (n + 1) (some [c])) Af rfl
          rw [push_list] at D
          exact go hw hv.snocS D
        · by_cases h1 : pl = [c]
          · have hw : way1 pl c = ([], some []) := by unfold way1; rw [if_pos hq, if_neg h0, if_pos h1]
            refine runL_ok (env := envWy L) (fl := false) [] (conV_good (orcW c)) rfl S H nd lo' _ _ (fun _ => []) _ (fun nv => wy2 w b b2 f u it L pa bel ⟨⟨rw_⟩⟩ bg pl x ta i c ⟨vs⟩ n k v _ _ p nv) (fun _ => ⟨hsm, eqL0 h0, tupC1 (.inr h1.symm), hT, hn, trivial⟩) fun nv s' Af => ?_
            try dsimp only at Af
            generalize runWy _ _ _ _ _ _ _ _ _ _ _ = X at Af ⊢
            have D := did0 (l' := objWy (wld w b b2).params u it L pa (ktk X 1) (vt X 1) ⟨⟨rw_⟩⟩ ta (i + 1) bg [] ((⟨vs⟩ : Array Value).push (.str ⟨⟨[]⟩⟩ ((nv 3).2.1 + 2))) (n + 1) (some [c])) Af rfl
            rw [push_list] at D
            exact go hw hv.snocS D
          · have hw : way1 pl c = (pl, some [c]) := by unfold way1; rw [if_pos hq, if_neg h0, if_neg h1]
            refine runL_ok (env := envWy L) (fl := false) [] (conV_good (orcW c)) rfl S H nd lo' _ _ (fun _ => []) _ (fun nv => wy3 w b b2 f u it L pa bel ⟨⟨rw_⟩⟩ bg pl x ta i c ⟨vs⟩ n k v _ _ p nv) (fun _ => ⟨hsm, eqL0 h0, tupC0 (fun h => h.elim (fun h => h0 h.symm) fun h => h1 h.symm), hT, hn, trivial⟩) fun nv s' Af => ?_
            try dsimp only at Af
            generalize runWy _ _ _ _ _ _ _ _ _ _ _ = X at Af ⊢
            have D := did0 (l' := objWy (wld w b b2).params u it L pa (ktk X 1) (vt X 1) ⟨⟨rw_⟩⟩ ta (i + 1) bg pl ((⟨vs⟩ : Array Value).push (.str ⟨⟨[c]⟩⟩ (vt X 1 4))) (n + 1) (some [c])) Af rfl
            rw [push_list] at D
            exact go hw hv.snocS D
      · have hT : TupC "tuple" ⟨⟨[39]⟩⟩ ⟨⟨[34]⟩⟩ ⟨⟨[c]⟩⟩ 0 := tupC0 (by
          intro h
          apply hq
          rcases h with h | h
          · injection h with h; exact .inl h.symm
          · injection h with h; exact .inr h.symm)
        by_cases h0 : pl = []
        · by_cases h1 : c = 32 ∨ c = 9 ∨ c = 10 ∨ c = 13
          · have hw : way1 pl c = (pl, none) := by unfold way1; rw [if_neg hq, if_pos h0, if_pos h1, h0]
            refine runL_ok (env := envWy L) (fl := false) [] (conV_good (orcW c)) rfl S H nd lo' _ _ (fun _ => []) _ (fun nv => wy4 w b b2 f u it L pa bel ⟨⟨rw_⟩⟩ bg pl x ta i c ⟨vs⟩ n k v _ _ p nv) (fun _ => ⟨hsm, inB1 (by simpa using h1), eqL1 h0, hT, hn, trivial⟩) fun nv s' Af => ?_
            try dsimp only at Af
            generalize runWy _ _ _ _ _ _ _ _ _ _ _ = X at Af ⊢
            have D := did0 (l' := objWy (wld w b b2).params u it L pa (ktk X 1) (vt X 1) ⟨⟨rw_⟩⟩ ta (i + 1) bg pl ((⟨vs⟩ : Array Value).push (.none)) (n + 1) (some [c])) Af rfl
            rw [push_list] at D
            exact go hw hv.snocN D
          · have hw : way1 pl c = (pl, some [c]) := by unfold way1; rw [if_neg hq, if_pos h0, if_neg h1, h0]
            refine runL_ok (env := envWy L) (fl := false) [] (conV_good (orcW c)) rfl S H nd lo' _ _ (fun _ => []) _ (fun nv => wy5 w b b2 f u it L pa bel ⟨⟨rw_⟩⟩ bg pl x ta i c ⟨vs⟩ n k v _ _ p nv) (fun _ => ⟨hsm, inB0 (by simpa using h1), eqL1 h0, hT, hn, trivial⟩) fun nv s' Af => ?_
            try dsimp only at Af
            generalize runWy _ _ _ _ _ _ _ _ _ _ _ = X at Af ⊢
            have D := did0 (l' := objWy (wld w b b2).params u it L pa (ktk X 1) (vt X 1) ⟨⟨rw_⟩⟩ ta (i + 1) bg pl ((⟨vs⟩ : Array Value).push (.str ⟨⟨[c]⟩⟩ (vt X 1 4))) (n + 1) (some [c])) Af rfl
            rw [push_list] at D
            exact go hw hv.snocS D
        · have hw : way1 pl c = (pl, some [c]) := by unfold way1; rw [if_neg hq, if_neg h0]
          refine runL_ok (env := envWy L) (fl := false) [] (conV_good (orcW c)) rfl S H nd lo' _ _ (fun _ => []) _ (fun nv => wy6 w b b2 f u it L pa bel ⟨⟨rw_⟩⟩ bg pl x ta i c ⟨vs⟩ n k v _ _ p nv) (fun _ => ⟨hsm, eqL0 h0, hT, hn, trivial⟩) fun nv s' Af => ?_
          try dsimp only at Af
          generalize runWy _ _ _ _ _ _ _ _ _ _ _ = X at Af ⊢
          have D := did0 (l' := objWy (wld w b b2).params u it L pa (ktk X 1) (vt X 1) ⟨⟨rw_⟩⟩ ta (i + 1) bg pl ((⟨vs⟩ : Array Value).push (.str ⟨⟨[c]⟩⟩ (vt X 1 4))) (n + 1) (some [c])) Af rfl
          rw [push_list] at D
          exact go hw hv.snocS D
    cases sg with
    | none => exact key true [] rfl
    | some x => exact key false x rfl
/-! Q301 -/
/-! ### _law_way, called -/
noncomputable def dTu : Stmt := nthS 29 F.main.body
noncomputable def sTu : Stmt := nthS 2 (fnB dTu)
noncomputable def eWays : Expr := asgE (nthS 0 (forB sTu))
structure CompC where
  it : Value
  acc : Value
  env : Env
noncomputable def ccode (z : CompC) : Code := .compLoop eWays 0 z.it z.acc z.env
noncomputable def isFL : Code → Bool
  | .forLoop .. => true
  | _ => false
/-- law's own place -/
structure OutL where
  L0 : Nat
  ct : Nat
  cw : Nat
  q : Pos
noncomputable def outL (o : OutL) : List (Code × Pos) := [(.func (fnB dLW) (envLwc o.L0 o.ct o.cw), o.q), (.builtin "claim.caller" {}, default)]
noncomputable def belY (kd : Nat) (x : FunC) (y : LoopC) (z : CompC) (q : Nat → Pos) (o : OutL) : List (Code × Pos) := match kd with
  | 0 => (lcode y, q 0) :: (fcode x, q 1) :: outL o
  | _ => (ccode z, q 2) :: (lcode y, q 0) :: (fcode x, q 1) :: outL o
noncomputable def ctxWC (bel : List (Code × Pos)) (rw bg : List Nat) (τr τb : Nat) : Ctx := ctxOf (.call (.ref 760) ⟨[.str ⟨⟨rw⟩⟩ τr, .str ⟨⟨bg⟩⟩ τb], []⟩) bel
noncomputable def fk (T : BT) (i j : Nat) : Nat := vtok (entO (T.get i) j).key
noncomputable def fv (T : BT) (i j : Nat) : Nat := vtok (entO (T.get i) j).val
noncomputable def bx (u : Bool) : Nat := match u with
  | true => 1
  | false => 0
noncomputable def wyCh (P : Params) (it L pa : Nat) (rw bg : List Nat) (ν : Unk) : List (Nat × Obj) := [(it, ν.ob 0), (L, frWy P (fun i => ν.n (i + 10)) (fun i => ν.n (i + 20)) ⟨⟨rw⟩⟩ bg (wayR bg rw).1 pa (some [ν.n 3])), (pa, lsO ⟨mkP (wayR bg rw).2 fun i => ν.n (i + 100)⟩ (ν.n 4))]
noncomputable def conWy (P : Params) (u : Bool) (rw bg : List Nat) (τr : Nat) : CF := fun j x Γ cd T ads => match j with
  | 60 => match isFL cd with
    | true => some (conS T ads (ctxWy (adOf ads 2) (adOf ads 0) Γ.below) (zip3 [2, 0, 1] (objWy P u (adOf ads 2) (adOf ads 0) (adOf ads 1) (fk T 0) (fv T 0) ⟨⟨rw⟩⟩ τr 0 bg bg ⟨[]⟩ 0 none)) True
        (fun _ => .ok .next) (fun ν => zip2 [2, 0, 1] (wyCh P (adOf ads 2) (adOf ads 0) (adOf ads 1) rw bg ν)) fun ν => news_ [])
    | false => none
  | j => conP ⟨orc0, fun _ => []⟩ j x Γ cd T ads
noncomputable def tupO (xs : List Value) : Obj := ⟨.type "tuple", none, .seq ⟨xs⟩ 0, ⟨[]⟩⟩
theorem wc (w : World) (b b2 u : Bool) (kd : Nat) (hk : kd < 2) (x : FunC) (y : LoopC) (z : CompC) (q : Nat → Pos) (o : OutL) (rw bg : List Nat) (τr τb : Nat) (N t : Nat) (p : Pos) (nv : Nv) :
    let W := wld w b b2
    let X := runC (cfgW W (conWy W.params u rw bg τr)) 90 (ctxWC (belY kd x y z q o) rw bg τr τb) p [0, 0, 1, 1, 1, 1, 0, 1001, 1, 1, 1, 1, 1, 1, 17, bx u, 3, 61, 0, 1, 1] [] N t nv
    look [3, 1] X = some (.done (.ok (.ret (.ref (adAt X 3)))), [some (tupO [.str ⟨⟨(wayR bg rw).1⟩⟩ ((nv 1).2.2.n 22), .ref (adAt X 1)]), some (lsO ⟨mkP (wayR bg rw).2 fun i => (nv 1).2.2.n (i + 100)⟩ ((nv 1).2.2.n 4))], [adAt X 3, adAt X 1], dup (eqsOf X), dupG (gsOf X), dupO (osOf X), (True ∧ AscB ⟨⟨rw⟩⟩ (bx u) ∧ True)) := by
  match kd, hk with
  | 0, _ => cases b <;> cases b2 <;> cases u <;> (intro W X; kernel_rfl)
  | 1, _ => cases b <;> cases b2 <;> cases u <;> (intro W X; kernel_rfl)
theorem conWy_ok {w : World} {b b2 u : Bool} {rw bg : List Nat} {τr : Nat} (hne : rw ≠ []) (hz : rw.length ≤ 1000) {l0 : Nat} {s₀ : Shared} :
    ConOk (baseOf (kt (wld w b b2).params) 785 l0 s₀) (MW (wld w b b2)) (cfgW (wld w b b2) (conWy (wld w b b2).params u rw bg τr)) := by
  intro j y Γ T m ads tk s p g hg hx hn ho ob D
  replace hg : conWy (wld w b b2).params u rw bg τr j y Γ Γ.code T ads = some g := hg
  by_cases h60 : j = 60
  · subst h60
    cases hb : isFL Γ.code with
    | false => simp only [conWy, hb] at hg; cases hg
    | true =>
      simp only [conWy, hb] at hg
      cases hg
      replace hx : Γ = _ := hx
      rw [hx]
      refine con_z (ch := fun ν => wyCh (wld w b b2).params (adOf ads 2) (adOf ads 0) (adOf ads 1) rw bg ν) (nw := fun _ => []) D rfl (by decide) hn ho (fun S H nd lo => ?_) (fun ν => rfl) (fun ν k hk => absurd hk (Nat.not_lt_zero _))
      refine wy_loop nd (fun y hy => by obtain ⟨z, hz, rfl⟩ := List.mem_map.mp (show y ∈ (objWy (wld w b b2).params u (adOf ads 2) (adOf ads 0) (adOf ads 1) (fk T 0) (fv T 0) ⟨⟨rw⟩⟩ τr 0 bg bg ⟨[]⟩ 0 none).map (·.1) from hy); exact lo z hz) hz rw (vs := []) (ps := []) S rfl (fun h => absurd h hne) trivial (Nat.zero_le _) (Nat.zero_le _) H fun vs' n' k' v' c' ob' s' hv hD => ?_
      obtain ⟨t, rfl⟩ := isP_mkP hv
      refine ⟨⟨fun i => if 100 ≤ i then t (i - 100) else if 20 ≤ i then v' (i - 20) else if 10 ≤ i then k' (i - 10) else if i = 3 then c' else n', fun _ => #[], fun _ => #[], fun _ => ob'⟩, rfl, ?_⟩
      have e : ∀ k v : Nat → Nat, (∀ i, i < 5 → k i = k' i) → (∀ i, i < 5 → v i = v' i) → frWy (wld w b b2).params k v ⟨⟨rw⟩⟩ bg (wayR bg rw).1 (adOf ads 1) (some [c']) = frWy (wld w b b2).params k' v' ⟨⟨rw⟩⟩ bg (wayR bg rw).1 (adOf ads 1) (some [c']) := by
        intro k v h1 h2
        unfold frWy
        simp only [h1 0 (by decide), h1 1 (by decide), h1 2 (by decide), h1 3 (by decide), h1 4 (by decide), h2 0 (by decide), h2 1 (by decide), h2 2 (by decide), h2 4 (by decide)]
      have e2 : mkP (wayR bg rw).2 (fun i => if 100 ≤ i + 100 then t (i + 100 - 100) else if 20 ≤ i + 100 then v' (i + 100 - 20) else if 10 ≤ i + 100 then k' (i + 100 - 10) else if i + 100 = 3 then c' else n') = mkP (wayR bg rw).2 t := by
        have : (fun i => if 100 ≤ i + 100 then t (i + 100 - 100) else if 20 ≤ i + 100 then v' (i + 100 - 20) else if 10 ≤ i + 100 then k' (i + 100 - 10) else if i + 100 = 3 then c' else n') = t := by
          funext i
          rw [if_pos (Nat.le_add_left 100 i)]
          exact congrArg t (Nat.add_sub_cancel i 100)
        rw [this]
      rw [List.nil_append] at hD
      show Did s s' [_, (adOf ads 0, frWy _ _ _ _ _ _ _ (some [c'])), (adOf ads 1, lsO ⟨mkP _ fun i => if 100 ≤ i + 100 then t (i + 100 - 100) else if 20 ≤ i + 100 then v' (i + 100 - 20) else if 10 ≤ i + 100 then k' (i + 100 - 10) else if i + 100 = 3 then c' else n'⟩ n')] []
      rw [e2, e _ _ (fun i hi => ?_) (fun i hi => ?_)]
      · exact hD
      · show (if 100 ≤ i + 10 then _ else if 20 ≤ i + 10 then _ else if 10 ≤ i + 10 then k' (i + 10 - 10) else _) = k' i
        rw [if_neg (by omega), if_neg (by omega), if_pos (by omega), Nat.add_sub_cancel]
      · show (if 100 ≤ i + 20 then _ else if 20 ≤ i + 20 then v' (i + 20 - 20) else _) = v' i
        rw [if_neg (by omega), if_pos (by omega), Nat.add_sub_cancel]
  · have : conWy (wld w b b2).params u rw bg τr j y Γ Γ.code T ads = conP ⟨orc0, fun _ => []⟩ j y Γ Γ.code T ads := by
      unfold conWy
      split
      · exact absurd rfl h60
      · rfl
    rw [this] at hg
    exact conP_ok _ _ _ _ _ _ _ _ _ _ _ hg hx ob D
/-- _law_way -/
theorem way_ok {w : World} {b b2 : Bool} {kd : Nat} (hk : kd < 2) {x : FunC} {y : LoopC} {z : CompC} {q : Nat → Pos} {o : OutL} {rw_ bg : List Nat} {τr τb : Nat} (hne : rw_ ≠ []) (hz : rw_.length ≤ 1000) {s : Shared} {p : Pos} (S : Top (wld w b b2) s) :
    wpCode (MW (wld w b b2)) (ctxWC (belY kd x y z q o) rw_ bg τr τb) (fun r s' => ∃ ν : Unk, r = .ok (.ret (.ref (ν.n 0))) ∧ Did s s' [] [(ν.n 0, tupO [.str ⟨⟨(wayR bg rw_).1⟩⟩ (ν.n 2), .ref (ν.n 1)]), (ν.n 1, lsO ⟨mkP (wayR bg rw_).2 fun i => ν.n (i + 100)⟩ (ν.n 3))]) p s := by
  have key : ∀ u : Bool, AscB ⟨⟨rw_⟩⟩ (bx u) → wpCode (MW (wld w b b2)) (ctxWC (belY kd x y z q o) rw_ bg τr τb) (fun r s' => ∃ ν : Unk, r = .ok (.ret (.ref (ν.n 0))) ∧ Did s s' [] [(ν.n 0, tupO [.str ⟨⟨(wayR bg rw_).1⟩⟩ (ν.n 2), .ref (ν.n 1)]), (ν.n 1, lsO ⟨mkP (wayR bg rw_).2 fun i => ν.n (i + 100)⟩ (ν.n 3))]) p s := by
    intro u hu
    refine runC_ok [3, 1] (conWy_ok (u := u) (rw := rw_) (bg := bg) (τr := τr) hne hz) S (fun x hx => by cases hx) (by simp) (by simp) _ _ (fun _ => [_, _]) _ (fun nv => wc w b b2 u kd hk x y z q o rw_ bg τr τb _ _ p nv) (fun _ => ⟨trivial, hu, trivial⟩) fun nv s' Af => ?_
    try dsimp only at Af
    generalize runC _ _ _ _ _ _ _ _ _ = X at Af ⊢
    refine ⟨⟨fun i => match i with | 0 => adAt X 3 | 1 => adAt X 1 | 2 => (nv 1).2.2.n 22 | 3 => (nv 1).2.2.n 4 | i => (nv 1).2.2.n i, fun _ => #[], fun _ => #[], fun _ => default⟩, rfl, ?_⟩
    exact Af.did [] [_, _] [3, 1] rfl rfl rfl (by simp) (by simp) rfl rfl
  cases h : (⟨rw_⟩ : Array Nat).all (· < 128) with
  | true => exact key true (by unfold AscB; exact h)
  | false => exact key false (by unfold AscB; exact h)
/-! Q401 -/
/-! ### _law_words: its loop's turns (written by mkq4.py) -/
noncomputable def dWd : Stmt := nthS 27 F.main.body
noncomputable def qWd : List Nat := [95, 108, 97, 119, 95, 119, 111, 114, 100, 115]
noncomputable def envWd (L : Nat) : Env := envOfD dWd qWd 767 766 L
noncomputable def sWd : Stmt := nthS 3 (fnB dWd)
noncomputable def yWd (it L : Nat) : LoopC := ⟨forT sWd, .ref it, forB sWd, forO sWd, envWd L⟩
noncomputable def ctxWd (it L : Nat) (bel : List (Code × Pos)) : Ctx := ctxOf (lcode (yWd it L)) bel
noncomputable def oV (x : Option (List Nat)) (τ : Nat) : Value := match x with
  | none => .none
  | some l => .str ⟨⟨l⟩⟩ τ
noncomputable def frWd (P : Params) (k v : Nat → Nat) (pl : List Nat) (pa wl : Nat) (wd : Option (List Nat)) : Option (Option (List Nat)) → Obj
  | none => frameO [ent P [112,108,97,99,101] (k 0) (.str ⟨⟨pl⟩⟩ (v 0)), ent P [112,97,114,116,115] (k 1) (.ref pa), ent P [119,111,114,100,115] (k 2) (.ref wl), ent P [119,111,114,100] (k 3) (oV wd (v 3))] 4 ⟨[]⟩
  | some x => frameO [ent P [112,108,97,99,101] (k 0) (.str ⟨⟨pl⟩⟩ (v 0)), ent P [112,97,114,116,115] (k 1) (.ref pa), ent P [119,111,114,100,115] (k 2) (.ref wl), ent P [119,111,114,100] (k 3) (oV wd (v 3)), ent P [112,97,114,116] (k 4) (oV x (v 4))] 5 ⟨[]⟩
noncomputable def orcWd (val : Value) (res : List Nat) : OrV := ⟨⟨⟨fun _ => res, fun _ => 0⟩, fun _ => []⟩, fun _ => val⟩
noncomputable def oldP (f : Bool) (x : Option (List Nat)) : Option (Option (List Nat)) := match f with
  | true => none
  | false => some x
noncomputable def objWd (P : Params) (it L wl l : Nat) (k v : Nat → Nat) (i : Nat) (pl : List Nat) (pa : Nat) (ps : Array Value) (np : Nat) (xs : Array Value) (n : Nat) (wd : Option (List Nat)) (pt : Option (Option (List Nat))) : List (Nat × Obj) := [(it, liO l i), (L, frWd P k v pl pa wl wd pt), (wl, lsO xs n), (l, lsO ps np)]
noncomputable def runWd (W : World) (it L : Nat) (bel : List (Code × Pos)) (val : Value) (res : List Nat) (hs : List Nat) (l : List (Nat × Obj)) (N t : Nat) (p : Pos) (nv : Nv) : Out :=
  runL (cfgW W (conV (orcWd val res))) 110 (ctxWd it L bel) p (envWd L) false hs l N t nv
theorem wd_sn (w : World) (b b2 f : Bool) (it L wl l : Nat) (bel : List (Code × Pos)) (k v : Nat → Nat) (i : Nat) (pl : List Nat) (pa : Nat) (ps : Array Value) (np : Nat) (xs : Array Value) (n : Nat) (old : Option (List Nat)) (lp : List Nat) (τ : Nat) (N t : Nat) (p : Pos) (nv : Nv) :
    let W := wld w b b2
    let X := runWd W it L bel (.str ⟨⟨lp⟩⟩ τ) (lp) [1, 51, 3, 2, 2, 2, 2, 2, 59, 0, 2, 2, 1] (objWd W.params it L wl l k v i pl pa ps np xs n none (oldP f old)) N t p nv
    let l' := objWd W.params it L wl l (ktk X 1) (vt X 1) (i + 1) pl pa ps np xs n (some lp) (some (some lp))
    look [0, 1, 2, 3] X = some (.again (ctxWd it L bel) (posOf X), os_ l', as_ l', dup (eqsOf X), dupG (gsOf X), dupO (osOf X), (AddB ⟨⟨[]⟩⟩ ⟨⟨lp⟩⟩ lp ∧ ItB ps i (.str ⟨⟨lp⟩⟩ τ) ∧ True)) := by
  cases b <;> cases b2 <;> cases f <;> (intro W X l'; kernel_rfl)
theorem wd_se (w : World) (b b2 : Bool) (it L wl l : Nat) (bel : List (Code × Pos)) (k v : Nat → Nat) (i : Nat) (pl : List Nat) (pa : Nat) (ps : Array Value) (np : Nat) (xs : Array Value) (n : Nat) (old : Option (List Nat)) (lp : List Nat) (τ : Nat) (N t : Nat) (p : Pos) (nv : Nv) :
    let W := wld w b b2
    let X := runWd W it L bel (.str ⟨⟨lp⟩⟩ τ) (lp) [1, 51, 3, 2, 2, 2, 2, 5, 0, 2, 59, 0, 2, 2, 1] (objWd W.params it L wl l k v i pl pa ps np xs n (some []) (some old)) N t p nv
    let l' := objWd W.params it L wl l (ktk X 1) (vt X 1) (i + 1) pl pa ps np xs n (some lp) (some (some lp))
    look [0, 1, 2, 3] X = some (.again (ctxWd it L bel) (posOf X), os_ l', as_ l', dup (eqsOf X), dupG (gsOf X), dupO (osOf X), (AddB ⟨⟨[]⟩⟩ ⟨⟨lp⟩⟩ lp ∧ LnB ⟨⟨[]⟩⟩ ∧ ItB ps i (.str ⟨⟨lp⟩⟩ τ) ∧ True)) := by
  cases b <;> cases b2 <;> (intro W X l'; kernel_rfl)
theorem wd_sw (w : World) (b b2 : Bool) (it L wl l : Nat) (bel : List (Code × Pos)) (k v : Nat → Nat) (i : Nat) (pl : List Nat) (pa : Nat) (ps : Array Value) (np : Nat) (xs : Array Value) (n : Nat) (old : Option (List Nat)) (lp : List Nat) (τ : Nat) (a : Nat) (r res : List Nat) (N t : Nat) (p : Pos) (nv : Nv) :
    let W := wld w b b2
    let X := runWd W it L bel (.str ⟨⟨lp⟩⟩ τ) (res) [1, 51, 3, 2, 2, 2, 2, 5, 0, 2, 59, 0, 2, 2, 1] (objWd W.params it L wl l k v i pl pa ps np xs n (some (a :: r)) (some old)) N t p nv
    let l' := objWd W.params it L wl l (ktk X 1) (vt X 1) (i + 1) pl pa ps np xs n (some res) (some (some lp))
    look [0, 1, 2, 3] X = some (.again (ctxWd it L bel) (posOf X), os_ l', as_ l', dup (eqsOf X), dupG (gsOf X), dupO (osOf X), (AddB ⟨⟨a :: r⟩⟩ ⟨⟨lp⟩⟩ res ∧ LnB ⟨⟨a :: r⟩⟩ ∧ ItB ps i (.str ⟨⟨lp⟩⟩ τ) ∧ True)) := by
  cases b <;> cases b2 <;> (intro W X l'; kernel_rfl)
theorem wd_nn (w : World) (b b2 f : Bool) (it L wl l : Nat) (bel : List (Code × Pos)) (k v : Nat → Nat) (i : Nat) (pl : List Nat) (pa : Nat) (ps : Array Value) (np : Nat) (xs : Array Value) (n : Nat) (old : Option (List Nat)) (lp : List Nat) (τ : Nat) (N t : Nat) (p : Pos) (nv : Nv) :
    let W := wld w b b2
    let X := runWd W it L bel (.none) ([]) [1, 51, 3, 2, 2, 2, 2, 1] (objWd W.params it L wl l k v i pl pa ps np xs n none (oldP f old)) N t p nv
    let l' := objWd W.params it L wl l (ktk X 1) (vt X 1) (i + 1) pl pa ps np xs n none (some none)
    look [0, 1, 2, 3] X = some (.again (ctxWd it L bel) (posOf X), os_ l', as_ l', dup (eqsOf X), dupG (gsOf X), dupO (osOf X), (ItB ps i .none ∧ True)) := by
  cases b <;> cases b2 <;> cases f <;> (intro W X l'; kernel_rfl)
theorem wd_nw (w : World) (b b2 : Bool) (it L wl l : Nat) (bel : List (Code × Pos)) (k v : Nat → Nat) (i : Nat) (pl : List Nat) (pa : Nat) (ps : Array Value) (np : Nat) (xs : Array Value) (n : Nat) (old : Option (List Nat)) (lp : List Nat) (τ : Nat) (wd : List Nat) (N t : Nat) (p : Pos) (nv : Nv) :
    let W := wld w b b2
    let X := runWd W it L bel (.none) ([]) [1, 51, 3, 2, 2, 2, 2, 2, 3, 3, 3, 3, 2, 18, 2, 2, 2, 1] (objWd W.params it L wl l k v i pl pa ps np xs n (some wd) (some old)) N t p nv
    let l' := objWd W.params it L wl l (ktk X 1) (vt X 1) (i + 1) pl pa ps np (xs.push (.str ⟨⟨wd⟩⟩ (v 3))) (n + 1) none (some none)
    look [0, 1, 2, 3] X = some (.again (ctxWd it L bel) (posOf X), os_ l', as_ l', dup (eqsOf X), dupG (gsOf X), dupO (osOf X), (SmallB xs ∧ ItB ps i .none ∧ True)) := by
  cases b <;> cases b2 <;> (intro W X l'; kernel_rfl)
theorem wd_e (w : World) (b b2 : Bool) (it L wl l : Nat) (bel : List (Code × Pos)) (k v : Nat → Nat) (i : Nat) (pl : List Nat) (pa : Nat) (ps : Array Value) (np : Nat) (xs : Array Value) (n : Nat) (wd old : Option (List Nat)) (N t : Nat) (p : Pos) (nv : Nv) :
    let W := wld w b b2
    let X := runWd W it L bel .none [] [1, 52, 3, 5, 0] (objWd W.params it L wl l k v i pl pa ps np xs n wd (some old)) N t p nv
    let l' := [(it, obAt X 0), (L, frWd W.params k v pl pa wl wd (some old)), (wl, lsO xs n), (l, lsO ps np)]
    look [0, 1, 2, 3] X = some (.done (.ok .next), os_ l', as_ l', dup (eqsOf X), dupG (gsOf X), dupO (osOf X), ((EndB ps i ∧ (none : Option Value) = none) ∧ True)) := by
  cases b <;> cases b2 <;> (intro W X l'; kernel_rfl)
/-! Q501 -/
/-! ### _law_words' loop -/
/-- words out of parts: None ends one -/
noncomputable def wdsR : List (Option (List Nat)) → Option (List Nat) → List (List Nat)
  | [], _ => []
  | some l :: r, none => wdsR r (some l)
  | some l :: r, some wd => wdsR r (some (wd ++ l))
  | none :: r, some wd => wd :: wdsR r none
  | none :: r, none => wdsR r none
theorem isP_get : ∀ {vs : List Value} {ps : List (Option (List Nat))} {i : Nat} {x : Option (List Nat)}, IsP vs ps → ps[i]? = some x → ∃ τ, vs[i]? = some (oV x τ)
  | [], [], i, x, _, h => by simp at h
  | .none :: r, none :: r', 0, x, _, h => by simp at h; subst h; exact ⟨0, rfl⟩
  | .none :: r, none :: r', i + 1, x, hv, h => by
    simp only [List.getElem?_cons_succ] at h ⊢
    exact isP_get (vs := r) (ps := r') hv h
  | .str _ t :: r, some l :: r', 0, x, hv, h => by
    simp at h; subst h
    obtain ⟨rfl, _⟩ := hv
    exact ⟨t, rfl⟩
  | .str _ t :: r, some l :: r', i + 1, x, hv, h => by
    simp only [List.getElem?_cons_succ] at h ⊢
    exact isP_get hv.2 h
theorem addB {a b res : List Nat} (h : a ++ b = res) (hz : res.length ≤ 1000000) : AddB ⟨⟨a⟩⟩ ⟨⟨b⟩⟩ res := by
  subst h
  refine ⟨?_, hz⟩
  show Str.mk _ = Str.mk _
  simp
theorem drop_consP {l : List (Option (List Nat))} {i : Nat} {c : Option (List Nat)} {r : List (Option (List Nat))} (h : l.drop i = c :: r) : l[i]? = some c ∧ l.drop (i + 1) = r ∧ i < l.length := by
  refine ⟨?_, ?_, ?_⟩
  · have := congrArg (·[0]?) h
    simpa using this
  · have := congrArg (List.drop 1) h
    simpa [Nat.add_comm] using this
  · have := congrArg List.length h
    rw [List.length_drop, List.length_cons] at this
    omega
theorem wd_loop {w : World} {b b2 : Bool} {it L wl l : Nat} {bel : List (Code × Pos)} {pl : List Nat} {pa np : Nat} {psv : List Value} {ps : List (Option (List Nat))} {R : Result → Shared → Prop} (nd : [it, L, wl, l].Nodup) (lo : ∀ y ∈ [it, L, wl, l], 785 ≤ y)
    (hz : ps.length ≤ 1000) (hp : IsP psv ps) (h1 : ∀ x, some x ∈ ps → x.length ≤ 1) :
    ∀ (r : List (Option (List Nat))) {i : Nat} {wd : Option (List Nat)} {vs : List Value} {ws : List (List Nat)} {n : Nat} {k v : Nat → Nat} {pt : Option (Option (List Nat))} {s : Shared} {p : Pos} (S : Top (wld w b b2) s) (hr : ps.drop i = r) (hf : pt = none → wd = none)
      (hl : r = [] → wd = none ∧ pt = some none) (hl2 : r ≠ [] → ∃ r', r = r' ++ [none]) (hv : IsWords vs ws) (hm : ws.length ≤ i) (hw : (wd.getD []).length ≤ i) (hi : i ≤ ps.length)
      (H : Holds s (objWd (wld w b b2).params it L wl l k v i pl pa ⟨psv⟩ np ⟨vs⟩ n wd pt))
      (fin : ∀ (vs' : List Value) (n' : Nat) (k' v' : Nat → Nat) (ob : Obj) (s' : Shared), IsWords vs' (ws ++ wdsR r wd) → Did s s' [(it, ob), (L, frWd (wld w b b2).params k' v' pl pa wl none (some none)), (wl, lsO ⟨vs'⟩ n'), (l, lsO ⟨psv⟩ np)] [] → R (.ok .next) s'),
      wpCode (MW (wld w b b2)) (ctxWd it L bel) R p s
  | [], i, wd, vs, ws, n, k, v, pt, s, p, S, hr, hf, hl, hl2, hv, hm, hw, hi, H, fin => by
    obtain ⟨rfl, rfl⟩ := hl rfl
    have hst : EndB ⟨psv⟩ i := by
      have := congrArg List.length hr
      rw [List.length_drop, List.length_nil] at this
      show (⟨psv⟩ : Array Value)[i]? = none
      rw [Array.getElem?_eq_none]
      show psv.length ≤ i
      rw [hp.length]
      omega
    have lo' : ∀ y ∈ objWd (wld w b b2).params it L wl l k v i pl pa ⟨psv⟩ np ⟨vs⟩ n none (some none), 785 ≤ y.1 := fun y hy => lo _ (List.mem_map.mpr ⟨y, hy, rfl⟩)
    refine runL_ok (env := envWd L) (fl := false) [] (conV_good (orcWd .none [])) rfl S H nd lo' _ _ (fun _ => []) _ (fun nv => wd_e w b b2 it L wl l bel k v i pl pa ⟨psv⟩ np ⟨vs⟩ n none none _ _ p nv) (fun _ => ⟨⟨hst, rfl⟩, trivial⟩) fun nv s' Af => ?_
    try dsimp only at Af
    generalize runWd _ _ _ _ _ _ _ _ _ _ _ _ = X at Af
    exact fin vs n k v (obAt X 0) s' (by rw [wdsR, List.append_nil]; exact hv) (did0 (l' := [(it, obAt X 0), (L, frWd (wld w b b2).params k v pl pa wl none (some none)), (wl, lsO ⟨vs⟩ n), (l, lsO ⟨psv⟩ np)]) Af rfl)
  | c :: r, i, wd, vs, ws, n, k, v, pt, s, p, S, hr, hf, hl, hl2, hv, hm, hw, hi, H, fin => by
    obtain ⟨hc, hr2, hlt⟩ := drop_consP hr
    obtain ⟨τ, hit⟩ := isP_get hp hc
    have hit : ItB ⟨psv⟩ i (oV c τ) := by
      show (⟨psv⟩ : Array Value)[i]? = _
      simpa using hit
    have hsm : SmallB ⟨vs⟩ := by
      show vs.length ≤ 1000000
      rw [hv.length]
      omega
    have hlast : r = [] → c = none := fun h => by
      obtain ⟨r', e⟩ := hl2 (by simp)
      subst h
      cases r' with
      | nil => simpa using e
      | cons a r' => simp at e
    have hrest : r ≠ [] → ∃ r', r = r' ++ [none] := fun h => by
      obtain ⟨r', e⟩ := hl2 (by simp)
      cases r' with
      | nil => simp at e; exact absurd e.2 h
      | cons a r' => simp at e; exact ⟨r', e.2⟩
    have go : ∀ {wd2 : Option (List Nat)} {vs2 : List Value} {ws2 : List (List Nat)} {n2 : Nat} {k2 v2 : Nat → Nat} {p2 : Pos} {s2 : Shared}, ws ++ wdsR (c :: r) wd = ws2 ++ wdsR r wd2 → (c = none → wd2 = none) → IsWords vs2 ws2 → ws2.length ≤ i + 1 → (wd2.getD []).length ≤ i + 1 →
        Did s s2 (objWd (wld w b b2).params it L wl l k2 v2 (i + 1) pl pa ⟨psv⟩ np ⟨vs2⟩ n2 wd2 (some c)) [] → wpCode (MW (wld w b b2)) (ctxWd it L bel) R p2 s2 := by
      intro wd2 vs2 ws2 n2 k2 v2 p2 s2 e h2 hv2 hm2 hw2 D
      refine wd_loop nd lo hz hp h1 r (Did.sane S D (fun y hy => lo _ (List.mem_map.mpr ⟨y, hy, rfl⟩))) hr2 (fun h => by cases h) (fun h => ⟨h2 (hlast h), by rw [hlast h]⟩) hrest hv2 hm2 hw2 hlt D.holds fun vs' n' k' v' ob s' hv' D' => ?_
      rw [← e] at hv'
      exact fin vs' n' k' v' ob s' hv' (D.trans D' fun _ h => h)
    have lo' : ∀ y ∈ objWd (wld w b b2).params it L wl l k v i pl pa ⟨psv⟩ np ⟨vs⟩ n wd pt, 785 ≤ y.1 := fun y hy => lo _ (List.mem_map.mpr ⟨y, hy, rfl⟩)
    have key : ∀ (f : Bool) (x : Option (List Nat)), pt = oldP f x → (f = true → wd = none) → wpCode (MW (wld w b b2)) (ctxWd it L bel) R p s := by
      intro f x e hfw
      subst e
      cases c with
      | none =>
        cases wd with
        | none =>
          refine runL_ok (env := envWd L) (fl := false) [] (conV_good (orcWd .none [])) rfl S H nd lo' _ _ (fun _ => []) _ (fun nv => wd_nn w b b2 f it L wl l bel k v i pl pa ⟨psv⟩ np ⟨vs⟩ n x [] 0 _ _ p nv) (fun _ => ⟨hit, trivial⟩) fun nv s' Af => ?_
          try dsimp only at Af
          generalize runWd _ _ _ _ _ _ _ _ _ _ _ _ = X at Af ⊢
          have D := did0 (l' := objWd (wld w b b2).params it L wl l (ktk X 1) (vt X 1) (i + 1) pl pa ⟨psv⟩ np ⟨vs⟩ n none (some none)) Af rfl
          exact go (by rw [wdsR]) (fun _ => rfl) hv (Nat.le_succ_of_le hm) (Nat.zero_le _) D
        | some wd =>
          cases f with
          | true => exact absurd (hfw rfl) (by simp)
          | false =>
            refine runL_ok (env := envWd L) (fl := false) [] (conV_good (orcWd .none [])) rfl S H nd lo' _ _ (fun _ => []) _ (fun nv => wd_nw w b b2 it L wl l bel k v i pl pa ⟨psv⟩ np ⟨vs⟩ n x [] 0 wd _ _ p nv) (fun _ => ⟨hsm, hit, trivial⟩) fun nv s' Af => ?_
            try dsimp only at Af
            generalize runWd _ _ _ _ _ _ _ _ _ _ _ _ = X at Af ⊢
            have D := did0 (l' := objWd (wld w b b2).params it L wl l (ktk X 1) (vt X 1) (i + 1) pl pa ⟨psv⟩ np ((⟨vs⟩ : Array Value).push (.str ⟨⟨wd⟩⟩ (v 3))) (n + 1) none (some none)) Af rfl
            rw [push_list] at D
            exact go (ws2 := ws ++ [wd]) (by rw [wdsR, List.append_assoc]; rfl) (fun _ => rfl) (hv.snoc) (by rw [List.length_append]; exact Nat.succ_le_succ hm) (Nat.zero_le _) D
      | some lp =>
        have hlp : lp.length ≤ 1 := h1 lp (List.mem_of_getElem? hc)
        cases wd with
        | none =>
          refine runL_ok (env := envWd L) (fl := false) [] (conV_good (orcWd (.str ⟨⟨lp⟩⟩ τ) lp)) rfl S H nd lo' _ _ (fun _ => []) _ (fun nv => wd_sn w b b2 f it L wl l bel k v i pl pa ⟨psv⟩ np ⟨vs⟩ n x lp τ _ _ p nv) (fun _ => ⟨addB (List.nil_append _) (by omega), hit, trivial⟩) fun nv s' Af => ?_
          try dsimp only at Af
          generalize runWd _ _ _ _ _ _ _ _ _ _ _ _ = X at Af ⊢
          have D := did0 (l' := objWd (wld w b b2).params it L wl l (ktk X 1) (vt X 1) (i + 1) pl pa ⟨psv⟩ np ⟨vs⟩ n (some lp) (some (some lp))) Af rfl
          exact go (by rw [wdsR]) (fun h => by cases h) hv (Nat.le_succ_of_le hm) (by show lp.length ≤ _; omega) D
        | some wd =>
          cases f with
          | true => exact absurd (hfw rfl) (by simp)
          | false =>
            replace hw : wd.length ≤ i := hw
            cases wd with
            | nil =>
              refine runL_ok (env := envWd L) (fl := false) [] (conV_good (orcWd (.str ⟨⟨lp⟩⟩ τ) lp)) rfl S H nd lo' _ _ (fun _ => []) _ (fun nv => wd_se w b b2 it L wl l bel k v i pl pa ⟨psv⟩ np ⟨vs⟩ n x lp τ _ _ p nv) (fun _ => ⟨addB (List.nil_append _) (by omega), lnB (Nat.zero_le _), hit, trivial⟩) fun nv s' Af => ?_
              try dsimp only at Af
              generalize runWd _ _ _ _ _ _ _ _ _ _ _ _ = X at Af ⊢
              have D := did0 (l' := objWd (wld w b b2).params it L wl l (ktk X 1) (vt X 1) (i + 1) pl pa ⟨psv⟩ np ⟨vs⟩ n (some lp) (some (some lp))) Af rfl
              exact go (by rw [wdsR]; rfl) (fun h => by cases h) hv (Nat.le_succ_of_le hm) (by show lp.length ≤ _; omega) D
            | cons a wr =>
              have hlen : (a :: wr ++ lp).length ≤ i + 1 := by rw [List.length_append]; omega
              have hsz : sizeLine = 16777216 := by decide
              refine runL_ok (env := envWd L) (fl := false) [] (conV_good (orcWd (.str ⟨⟨lp⟩⟩ τ) (a :: wr ++ lp))) rfl S H nd lo' _ _ (fun _ => []) _ (fun nv => wd_sw w b b2 it L wl l bel k v i pl pa ⟨psv⟩ np ⟨vs⟩ n x lp τ a wr (a :: wr ++ lp) _ _ p nv) (fun _ => ⟨addB rfl (by omega), lnB (by omega), hit, trivial⟩) fun nv s' Af => ?_
              try dsimp only at Af
              generalize runWd _ _ _ _ _ _ _ _ _ _ _ _ = X at Af ⊢
              have D := did0 (l' := objWd (wld w b b2).params it L wl l (ktk X 1) (vt X 1) (i + 1) pl pa ⟨psv⟩ np ⟨vs⟩ n (some (a :: wr ++ lp)) (some (some lp))) Af rfl
              exact go (wd2 := some (a :: wr ++ lp)) (by rw [wdsR]) (fun h => by cases h) hv (Nat.le_succ_of_le hm) hlen D
    cases pt with
    | none => exact key true none rfl fun _ => hf rfl
    | some x => exact key false x rfl fun h => by cases h
/-! Q601 -/
/-! ### _law_words, called -/
noncomputable def belF (x : FunC) (q : Nat → Pos) (o : OutL) : List (Code × Pos) := (fcode x, q 1) :: outL o
noncomputable def ctxWdC (bel : List (Code × Pos)) (pl : List Nat) (τ pa : Nat) : Ctx := ctxOf (.call (.ref 767) ⟨[.str ⟨⟨pl⟩⟩ τ, .ref pa], []⟩) bel
noncomputable def wordsP (pl : List Nat) (ps : List (Option (List Nat))) : Option (List (List Nat)) := if pl = [] then some (wdsR (ps ++ [none]) none) else none
noncomputable def arrN (psv : List Value) : Array Value := (⟨psv⟩ : Array Value) ++ (⟨[.none]⟩ : Array Value)
noncomputable def wdCh (P : Params) (it L wl l pa : Nat) (ps : Array Value) (ws : List (List Nat)) (ν : Unk) : List (Nat × Obj) := [(it, ν.ob 0), (L, frWd P (fun i => ν.n (i + 10)) (fun i => ν.n (i + 20)) [] pa wl none (some none)), (wl, lsO ⟨mkW ws fun i => ν.n (i + 100)⟩ (ν.n 4)), (l, lsO ps 0)]
noncomputable def conWd (P : Params) (psv : List Value) (ws : List (List Nat)) : CF := fun j x Γ cd T ads => match j with
  | 61 => match isFL cd with
    | true => some (conS T ads (ctxWd (adOf ads 5) (adOf ads 1) Γ.below) (zip3 [5, 1, 2, 4] (objWd P (adOf ads 5) (adOf ads 1) (adOf ads 2) (adOf ads 4) (fk T 1) (fv T 1) 0 [] (adOf ads 0) (arrN psv) 0 ⟨[]⟩ 0 none none)) True
        (fun _ => .ok .next) (fun ν => zip2 [5, 1, 2, 4] (wdCh P (adOf ads 5) (adOf ads 1) (adOf ads 2) (adOf ads 4) (adOf ads 0) (arrN psv) ws ν)) fun ν => news_ [])
    | false => none
  | j => conV ⟨⟨orc0, fun _ => []⟩, fun _ => .none⟩ j x Γ cd T ads
theorem wk_a (w : World) (b b2 : Bool) (x : FunC) (q : Nat → Pos) (o : OutL) (τ pa np : Nat) (psv : List Value) (ws : List (List Nat)) (N t : Nat) (p : Pos) (nv : Nv) :
    let W := wld w b b2
    let X := runC (cfgW W (conWd W.params psv ws)) 110 (ctxWdC (belF x q o) [] τ pa) p [0, 0, 2, 2, 2, 2, 0, 1001, 2, 0, 0, 2, 2, 2, 2, 2, 1, 4, 1, 53, 3, 5, 5, 0, 5, 0, 6, 62, 0, 2] [(pa, lsO ⟨psv⟩ np)] N t nv
    look [0, 2] X = some (.done (.ok (.ret (.ref (adAt X 2)))), [some (lsO ⟨psv⟩ np), some (lsO ⟨mkW ws fun i => (nv 1).2.2.n (i + 100)⟩ ((nv 1).2.2.n 4))], [pa, adAt X 2], dup (eqsOf X), dupG (gsOf X), dupO (osOf X), (True ∧ Small2 ⟨psv⟩ ⟨[.none]⟩ ∧ True)) := by
  cases b <;> cases b2 <;> (intro W X; kernel_rfl)
theorem wk_b (w : World) (b b2 : Bool) (x : FunC) (q : Nat → Pos) (o : OutL) (a : Nat) (r : List Nat) (τ pa np : Nat) (psv : List Value) (ws : List (List Nat)) (N t : Nat) (p : Pos) (nv : Nv) :
    let W := wld w b b2
    let X := runC (cfgW W (conWd W.params psv ws)) 60 (ctxWdC (belF x q o) (a :: r) τ pa) p [0, 0, 2, 2, 2, 2, 0, 1001, 2, 0, 0] [(pa, lsO ⟨psv⟩ np)] N t nv
    look [0, 1] X = some (.done (.ok (.ret .none)), [some (lsO ⟨psv⟩ np), some (obAt X 1)], [pa, adAt X 1], dup (eqsOf X), dupG (gsOf X), dupO (osOf X), True) := by
  cases b <;> cases b2 <;> (intro W X; kernel_rfl)
theorem lsO_eq (xs : Array Value) (n : Nat) : lsO xs n = listO xs n := by kernel_rfl
theorem arrN_eq (psv : List Value) : arrN psv = ⟨psv ++ [.none]⟩ := by unfold arrN; simp
theorem conWd_ok {w : World} {b b2 : Bool} {psv : List Value} {ps : List (Option (List Nat))} (hz : ps.length ≤ 999) (hp : IsP psv ps) (h1 : ∀ x, some x ∈ ps → x.length ≤ 1) {l0 : Nat} {s₀ : Shared} :
    ConOk (baseOf (kt (wld w b b2).params) 785 l0 s₀) (MW (wld w b b2)) (cfgW (wld w b b2) (conWd (wld w b b2).params psv (wdsR (ps ++ [none]) none))) := by
  intro j y Γ T m ads tk s p g hg hx hn ho ob D
  replace hg : conWd (wld w b b2).params psv (wdsR (ps ++ [none]) none) j y Γ Γ.code T ads = some g := hg
  by_cases h61 : j = 61
  · subst h61
    cases hb : isFL Γ.code with
    | false => simp only [conWd, hb] at hg; cases hg
    | true =>
      simp only [conWd, hb] at hg
      cases hg
      replace hx : Γ = _ := hx
      rw [hx]
      refine con_z (ch := fun ν => wdCh (wld w b b2).params (adOf ads 5) (adOf ads 1) (adOf ads 2) (adOf ads 4) (adOf ads 0) (arrN psv) (wdsR (ps ++ [none]) none) ν) (nw := fun _ => []) D rfl (by decide) hn ho (fun S H nd lo => ?_) (fun ν => rfl) (fun ν k hk => absurd hk (Nat.not_lt_zero _))
      rw [arrN_eq] at H
      have lo' : ∀ y ∈ [adOf ads 5, adOf ads 1, adOf ads 2, adOf ads 4], 785 ≤ y := fun y hy => by
        obtain ⟨z, hz, rfl⟩ := List.mem_map.mp (show y ∈ (objWd (wld w b b2).params (adOf ads 5) (adOf ads 1) (adOf ads 2) (adOf ads 4) (fk T 1) (fv T 1) 0 [] (adOf ads 0) (arrN psv) 0 ⟨[]⟩ 0 none none).map (·.1) from hy)
        exact lo z hz
      refine wd_loop nd lo' (ps := ps ++ [none]) (psv := psv ++ [.none]) (by simp; omega) hp.snocN (fun x hx => h1 x (by simpa using hx)) (ps ++ [none]) (wd := none) (vs := []) (ws := []) (pt := none) S rfl (fun _ => rfl) (fun h => by simp at h) (fun _ => ⟨ps, rfl⟩) trivial (Nat.zero_le _) (Nat.zero_le _) (Nat.zero_le _) H fun vs' n' k' v' ob' s' hv hD => ?_
      rw [List.nil_append] at hv
      obtain ⟨t, rfl⟩ := isWords_mkW hv
      refine ⟨⟨fun i => if 100 ≤ i then t (i - 100) else if 20 ≤ i then v' (i - 20) else if 10 ≤ i then k' (i - 10) else n', fun _ => #[], fun _ => #[], fun _ => ob'⟩, rfl, ?_⟩
      have e : ∀ k v : Nat → Nat, (∀ i, i < 5 → k i = k' i) → (∀ i, i < 5 → v i = v' i) → frWd (wld w b b2).params k v [] (adOf ads 0) (adOf ads 2) none (some none) = frWd (wld w b b2).params k' v' [] (adOf ads 0) (adOf ads 2) none (some none) := by
        intro k v h1 h2
        unfold frWd
        simp only [h1 0 (by decide), h1 1 (by decide), h1 2 (by decide), h1 3 (by decide), h1 4 (by decide), h2 0 (by decide), h2 3 (by decide), h2 4 (by decide)]
      have e2 : (fun i => if 100 ≤ i + 100 then t (i + 100 - 100) else if 20 ≤ i + 100 then v' (i + 100 - 20) else if 10 ≤ i + 100 then k' (i + 100 - 10) else n') = t := by
        funext i
        rw [if_pos (Nat.le_add_left 100 i)]
        exact congrArg t (Nat.add_sub_cancel i 100)
      show Did s s' [_, (adOf ads 1, frWd _ _ _ _ _ _ none (some none)), (adOf ads 2, lsO ⟨mkW _ fun i => if 100 ≤ i + 100 then t (i + 100 - 100) else if 20 ≤ i + 100 then v' (i + 100 - 20) else if 10 ≤ i + 100 then k' (i + 100 - 10) else n'⟩ n'), (adOf ads 4, lsO (arrN psv) 0)] []
      rw [e2, arrN_eq, e _ _ (fun i hi => ?_) (fun i hi => ?_)]
      · exact hD
      · show (if 100 ≤ i + 10 then _ else if 20 ≤ i + 10 then _ else if 10 ≤ i + 10 then k' (i + 10 - 10) else _) = k' i
        rw [if_neg (by omega), if_neg (by omega), if_pos (by omega), Nat.add_sub_cancel]
      · show (if 100 ≤ i + 20 then _ else if 20 ≤ i + 20 then v' (i + 20 - 20) else _) = v' i
        rw [if_neg (by omega), if_pos (by omega), Nat.add_sub_cancel]
  · have : conWd (wld w b b2).params psv (wdsR (ps ++ [none]) none) j y Γ Γ.code T ads = conV ⟨⟨orc0, fun _ => []⟩, fun _ => .none⟩ j y Γ Γ.code T ads := by
      unfold conWd
      split
      · exact absurd rfl h61
      · rfl
    rw [this] at hg
    exact conV_ok _ _ _ _ _ _ _ _ _ _ _ hg hx hn ho ob D
theorem words_ok {w : World} {b b2 : Bool} {x : FunC} {q : Nat → Pos} {o : OutL} {pl : List Nat} {τ pa np : Nat} {psv : List Value} {ps : List (Option (List Nat))} (hz : ps.length ≤ 999) (hp : IsP psv ps) (h1 : ∀ x, some x ∈ ps → x.length ≤ 1) {s : Shared} {p : Pos} (S : Top (wld w b b2) s)
    (H : Holds s [(pa, lsO ⟨psv⟩ np)]) (lo : 785 ≤ pa) :
    wpCode (MW (wld w b b2)) (ctxWdC (belF x q o) pl τ pa) (fun r s' => ∃ ν : Unk, r = .ok (.ret (lspV (wordsP pl ps) (ν.n 0))) ∧ Did s s' [(pa, lsO ⟨psv⟩ np)] [(ν.n 0, lspO (wordsP pl ps) ν)]) p s := by
  cases pl with
  | nil =>
    have e : wordsP [] ps = some (wdsR (ps ++ [none]) none) := if_pos rfl
    rw [e]
    have hsm : Small2 ⟨psv⟩ ⟨[.none]⟩ := ⟨by show psv.length ≤ _; rw [hp.length]; omega, by decide⟩
    refine runC_ok [2] (conWd_ok hz hp h1) S H (by simp) (by simpa using lo) _ _ (fun _ => [_]) _ (fun nv => wk_a w b b2 x q o τ pa np psv (wdsR (ps ++ [none]) none) _ _ p nv) (fun _ => ⟨trivial, hsm, trivial⟩) fun nv s' Af => ?_
    try dsimp only at Af
    generalize runC _ _ _ _ _ _ _ _ _ = X at Af ⊢
    refine ⟨⟨fun i => match i with | 0 => adAt X 2 | 1 => (nv 1).2.2.n 4 | i => (nv 1).2.2.n i, fun _ => #[], fun _ => #[], fun _ => default⟩, rfl, ?_⟩
    have D := Af.did [(pa, lsO ⟨psv⟩ np)] [(adAt X 2, lsO ⟨mkW (wdsR (ps ++ [none]) none) fun i => (nv 1).2.2.n (i + 100)⟩ ((nv 1).2.2.n 4))] [2] rfl rfl rfl (by simp) (by simp) rfl rfl
    rw [lsO_eq ⟨mkW _ _⟩] at D
    exact D
  | cons a r =>
    have e : wordsP (a :: r) ps = none := if_neg (by simp)
    rw [e]
    refine runC_ok [1] (conWd_ok hz hp h1) S H (by simp) (by simpa using lo) _ _ (fun _ => [_]) _ (fun nv => wk_b w b b2 x q o a r τ pa np psv _ _ _ p nv) (fun _ => trivial) fun nv s' Af => ?_
    · try dsimp only at Af
      generalize runC _ _ _ _ _ _ _ _ _ = X at Af ⊢
      refine ⟨⟨fun i => adAt X 1, fun _ => #[], fun _ => #[], fun _ => obAt X 1⟩, rfl, ?_⟩
      exact Af.did [(pa, lsO ⟨psv⟩ np)] [(adAt X 1, obAt X 1)] [1] rfl rfl rfl (by simp) (by simp) rfl rfl
/-! Q701 -/
/-! ### _law_standing: its loop's turns -/
noncomputable def dSt : Stmt := nthS 28 F.main.body
noncomputable def qSt : List Nat := [95, 108, 97, 119, 95, 115, 116, 97, 110, 100, 105, 110, 103]
noncomputable def envSt (L : Nat) : Env := envOfD dSt qSt 774 773 L
noncomputable def sSt : Stmt := nthS 2 (fnB dSt)
noncomputable def ySt (it L : Nat) : LoopC := ⟨forT sSt, .ref it, forB sSt, forO sSt, envSt L⟩
noncomputable def fSt (L : Nat) : FunC := ⟨fnB dSt, envSt L⟩
noncomputable def ctxSt (it L : Nat) (q : Nat → Pos) (o : OutL) : Ctx := ctxOf (lcode (ySt it L)) (belF (fSt L) q o)
noncomputable def frSt (P : Params) (k v : Nat → Nat) (l : Nat) (pl : List Nat) (pa : Nat) : Option (Value × Value) → Obj
  | none => frameO [ent P [114,111,119,115] (k 0) (.ref l), ent P [112,108,97,99,101] (k 1) (.str ⟨⟨pl⟩⟩ (v 1)), ent P [112,97,114,116,115] (k 2) (.ref pa)] 3 ⟨[]⟩
  | some x => frameO [ent P [114,111,119,115] (k 0) (.ref l), ent P [112,108,97,99,101] (k 1) (.str ⟨⟨pl⟩⟩ (v 1)), ent P [112,97,114,116,115] (k 2) (.ref pa), ent P [114,111,119] (k 3) x.1, ent P [109,111,114,101] (k 4) x.2] 5 ⟨[]⟩
noncomputable def oldS (f : Bool) (x : Value × Value) : Option (Value × Value) := match f with
  | true => none
  | false => some x
noncomputable def objSt (P : Params) (it L pa l : Nat) (k v : Nat → Nat) (i : Nat) (pl : List Nat) (ps : Array Value) (n : Nat) (rs : Array Value) (nr : Nat) (x : Option (Value × Value)) : List (Nat × Obj) := [(it, liO l i), (L, frSt P k v l pl pa x), (pa, lsO ps n), (l, lsO rs nr)]
noncomputable def z0 : CompC := ⟨.none, .none, default⟩
/-- the place of law itself below -/
noncomputable def oBel (o : OutL) (bel : List (Code × Pos)) (i : Nat) : OutL := ⟨o.L0, o.ct, o.cw, posN bel i⟩
noncomputable def wyNew (rw bg : List Nat) (ν : Unk) : List (Nat × Obj) := [(ν.n 0, tupO [.str ⟨⟨(wayR bg rw).1⟩⟩ (ν.n 2), .ref (ν.n 1)]), (ν.n 1, lsO ⟨mkP (wayR bg rw).2 fun i => ν.n (i + 100)⟩ (ν.n 3))]
noncomputable def conSt (o : OutL) (it L : Nat) (rw pl : List Nat) (val : Value) : CF := fun j x Γ cd T ads => match j with
  | 62 => some (conS T ads (ctxWC (belY 0 (fSt L) (ySt it L) z0 (fun i => posN Γ.below i) (oBel o Γ.below 2)) rw pl (strTok cd) (vtok (arg1 cd))) (zip3 [] []) True (fun ν => .ok (.ret (.ref (ν.n 0)))) (fun ν => zip2 [] []) fun ν => news_ (wyNew rw pl ν))
  | j => conV ⟨⟨orc0, fun _ => []⟩, fun _ => val⟩ j x Γ cd T ads
noncomputable def runSt (W : World) (it L : Nat) (q : Nat → Pos) (o : OutL) (rw pl : List Nat) (val : Value) (hs : List Nat) (l : List (Nat × Obj)) (N t : Nat) (p : Pos) (nv : Nv) : Out :=
  runL (cfgW W (conSt o it L rw pl val)) 160 (ctxSt it L q o) p (envSt L) false hs l N t nv
theorem st_t (w : World) (b b2 f : Bool) (it L pa l : Nat) (q : Nat → Pos) (o : OutL) (k v : Nat → Nat) (i : Nat) (rw pl : List Nat) (τ : Nat) (ps : Array Value) (n : Nat) (rs : Array Value) (nr : Nat) (x : Value × Value) (N t : Nat) (p : Pos) (nv : Nv) :
    let W := wld w b b2
    let X := runSt W it L q o rw pl (.str ⟨⟨rw⟩⟩ τ) [1, 51, 3, 2, 2, 0, 2, 2, 0, 63, 0, 5, 5, 5, 0, 5, 0, 7, 7, 0, 7, 0, 7, 7, 5, 7, 7, 7, 0, 7, 0, 7, 7, 5, 7, 7, 7, 0, 7, 0, 7, 7, 5, 7, 7, 9, 2, 2, 2, 2, 2, 2, 3, 6, 3, 53, 205, 2, 2, 1] (objSt W.params it L pa l k v i pl ps n rs nr (oldS f x)) N t p nv
    let l' := objSt W.params it L pa l (ktk X 1) (vt X 1) (i + 1) (wayR pl rw).1 ps n rs nr (some (.str ⟨⟨rw⟩⟩ τ, .ref (adAt X 5)))
    look [0, 1, 2, 3, 9] X = some (.again (ctxSt it L q o) (posOf X), [some (liO l (i + 1)), some (frSt W.params (ktk X 1) (vt X 1) l (wayR pl rw).1 (adAt X 9) (some (.str ⟨⟨rw⟩⟩ τ, .ref (adAt X 5)))), some (lsO ps n), some (lsO rs nr), some (lsO (ps ++ (⟨mkP (wayR pl rw).2 fun i => (nv 1).2.2.n (i + 100)⟩ : Array Value)) 0)], [it, L, pa, l, adAt X 9], dup (eqsOf X), dupG (gsOf X), dupO (osOf X),
      (Small2 ps ⟨mkP (wayR pl rw).2 fun i => (nv 1).2.2.n (i + 100)⟩ ∧ True ∧ ItB rs i (.str ⟨⟨rw⟩⟩ τ) ∧ True)) := by
  cases b <;> cases b2 <;> cases f <;> (intro W X l'; kernel_rfl)
theorem st_e (w : World) (b b2 : Bool) (it L pa l : Nat) (q : Nat → Pos) (o : OutL) (k v : Nat → Nat) (i : Nat) (pl : List Nat) (ps : Array Value) (n : Nat) (rs : Array Value) (nr : Nat) (x : Value × Value) (N t : Nat) (p : Pos) (nv : Nv) :
    let W := wld w b b2
    let X := runSt W it L q o [0] [] .none [1, 52, 3, 5, 0] (objSt W.params it L pa l k v i pl ps n rs nr (some x)) N t p nv
    let l' := [(it, obAt X 0), (L, frSt W.params k v l pl pa (some x)), (pa, lsO ps n), (l, lsO rs nr)]
    look [0, 1, 2, 3] X = some (.done (.ok .next), os_ l', as_ l', dup (eqsOf X), dupG (gsOf X), dupO (osOf X), ((EndB rs i ∧ (none : Option Value) = none) ∧ True)) := by
  cases b <;> cases b2 <;> (intro W X l'; kernel_rfl)
/-! Q801 -/
/-! ### _law_standing's loop -/
noncomputable def rowsR : List Nat → List (List Nat) → List Nat × List (Option (List Nat))
  | pl, [] => (pl, [])
  | pl, r :: rest => ((rowsR (wayR pl r).1 rest).1, (wayR pl r).2 ++ (rowsR (wayR pl r).1 rest).2)
theorem keep_drop {l1 l2 : List Nat} {s s' : Shared} (k : Keep l1 s s') (h : ∀ a ∈ l1, a ∉ l2 → ∃ o, s.heap.get? a = some o ∧ s'.heap.get? a = some o) : Keep l2 s s' :=
  ⟨fun b o e hb => by
    by_cases hb1 : b ∈ l1
    · obtain ⟨o', e1, e2⟩ := h b hb1 hb
      rw [e] at e1; cases e1; exact e2
    · exact k.keep b o e hb1, k.size, k.gens, k.drawn, k.os⟩
theorem words_get : ∀ {vs : List Value} {ws : List (List Nat)} {i : Nat} {x : List Nat}, IsWords vs ws → ws[i]? = some x → ∃ τ, vs[i]? = some (.str ⟨⟨x⟩⟩ τ)
  | [], [], i, x, _, h => by simp at h
  | .str ⟨⟨l⟩⟩ t :: r, l' :: r', 0, x, hv, h => by
    simp at h; subst h
    obtain ⟨rfl, _⟩ := hv
    exact ⟨t, rfl⟩
  | .str ⟨⟨l⟩⟩ t :: r, l' :: r', i + 1, x, hv, h => by
    simp only [List.getElem?_cons_succ] at h ⊢
    exact words_get hv.2 h
theorem drop_consG {α : Type} {l : List α} {i : Nat} {c : α} {r : List α} (h : l.drop i = c :: r) : l[i]? = some c ∧ l.drop (i + 1) = r ∧ i < l.length := by
  refine ⟨?_, ?_, ?_⟩
  · have := congrArg (·[0]?) h
    simpa using this
  · have := congrArg (List.drop 1) h
    simpa [Nat.add_comm] using this
  · have := congrArg List.length h
    rw [List.length_drop, List.length_cons] at this
    omega
theorem endB {vs : List Value} {n i : Nat} (h : vs.length = n) (hi : n ≤ i) : EndB ⟨vs⟩ i := by
  show (⟨vs⟩ : Array Value)[i]? = none
  rw [Array.getElem?_eq_none]
  show vs.length ≤ i
  omega
theorem itB {vs : List Value} {i : Nat} {v : Value} (h : vs[i]? = some v) : ItB ⟨vs⟩ i v := by
  show (⟨vs⟩ : Array Value)[i]? = _
  simpa using h
theorem wayR_len : ∀ (r : List Nat) (pl : List Nat), (wayR pl r).2.length = r.length
  | [], _ => rfl
  | c :: r, pl => congrArg (· + 1) (wayR_len r _)
/-- _law_way's contract -/
theorem wyCon_ok {w : World} {b b2 : Bool} {l0 : Nat} {s₀ s : Shared} {T : BT} {m tk : Nat} {ads : Ads} {p : Pos} {kd : Nat} (hk : kd < 2) {x : FunC} {y : LoopC} {z : CompC} {q : Nat → Pos} {o : OutL} {rw_ bg : List Nat} {τr τb : Nat} (hne : rw_ ≠ []) (hz : rw_.length ≤ 1000)
    (D : Rep (baseOf (kt (wld w b b2).params) 785 l0 s₀) s T m ads tk) :
    wpCode (MW (wld w b b2)) (ctxWC (belY kd x y z q o) rw_ bg τr τb) (fun r s' => ∃ N t ν, LeftRep (baseOf (kt (wld w b b2).params) 785 l0 s₀) (conS T ads (ctxWC (belY kd x y z q o) rw_ bg τr τb) (zip3 [] []) True (fun ν => .ok (.ret (.ref (ν.n 0)))) (fun ν => zip2 [] []) fun ν => news_ (wyNew rw_ bg ν)) ν r s' m ads N t) p s := by
  refine con_z (W := wld w b b2) (is := []) (l := []) (ch := fun _ => []) (nw := fun ν => wyNew rw_ bg ν) D rfl (by decide) (fun x hx => by cases hx) (fun x hx => by cases hx) (fun S H nd lo => way_ok hk hne hz S) (fun ν => rfl) (fun ν k hk => ?_)
  match k, hk with
  | 0, _ => rfl
  | 1, _ => rfl
theorem conSt_ok {w : World} {b b2 : Bool} {o : OutL} {it L : Nat} {rw_ pl : List Nat} {val : Value} (hne : rw_ ≠ []) (hz : rw_.length ≤ 1000) {l0 : Nat} {s₀ : Shared} :
    ConOk (baseOf (kt (wld w b b2).params) 785 l0 s₀) (MW (wld w b b2)) (cfgW (wld w b b2) (conSt o it L rw_ pl val)) := by
  intro j y Γ T m ads tk s p g hg hx hn ho ob D
  replace hg : conSt o it L rw_ pl val j y Γ Γ.code T ads = some g := hg
  by_cases h : j = 62
  · subst h
    cases hg
    replace hx : Γ = _ := hx
    rw [hx]
    exact wyCon_ok (by decide) hne hz D
  · have : conSt o it L rw_ pl val j y Γ Γ.code T ads = conV ⟨⟨orc0, fun _ => []⟩, fun _ => val⟩ j y Γ Γ.code T ads := by
      unfold conSt
      split
      · exact absurd rfl h
      · rfl
    rw [this] at hg
    exact conV_ok _ _ _ _ _ _ _ _ _ _ _ hg hx hn ho ob D
theorem st_loop {w : World} {b b2 : Bool} {it L l : Nat} {q : Nat → Pos} {o : OutL} {rv : List Value} {rows : List (List Nat)} {nr : Nat} {R : Result → Shared → Prop} (hrv : IsWords rv rows) (hz : rows.length ≤ 100) (h1 : ∀ r ∈ rows, r ≠ [] ∧ r.length ≤ 12) :
    ∀ (r : List (List Nat)) {i : Nat} {pl : List Nat} {psv : List Value} {ps : List (Option (List Nat))} {n : Nat} {k v : Nat → Nat} {x : Option (Value × Value)} {pa : Nat} {s : Shared} {p : Pos} (S : Top (wld w b b2) s) (nd : [it, L, pa, l].Nodup) (lo : ∀ y ∈ [it, L, pa, l], 785 ≤ y)
      (hr : rows.drop i = r) (hs : r = [] → ∃ y, x = some y) (hv : IsP psv ps) (hm : ps.length ≤ 12 * i) (hi : i ≤ rows.length)
      (H : Holds s (objSt (wld w b b2).params it L pa l k v i pl ⟨psv⟩ n ⟨rv⟩ nr x))
      (fin : ∀ (psv' : List Value) (n' pa' : Nat) (k' v' : Nat → Nat) (y : Value × Value) (ob : Obj) (s' : Shared), IsP psv' (ps ++ (rowsR pl r).2) → Keep [it, L, l] s s' →
        Holds s' [(it, ob), (L, frSt (wld w b b2).params k' v' l (rowsR pl r).1 pa' (some y)), (l, lsO ⟨rv⟩ nr), (pa', lsO ⟨psv'⟩ n')] → ((r = [] ∧ pa' = pa) ∨ s.heap.objs.size ≤ pa') → R (.ok .next) s'),
      wpCode (MW (wld w b b2)) (ctxSt it L q o) R p s
  | [], i, pl, psv, ps, n, k, v, x, pa, s, p, S, nd, lo, hr, hs, hv, hm, hi, H, fin => by
    obtain ⟨y, rfl⟩ := hs rfl
    have hend : EndB ⟨rv⟩ i := endB hrv.length (by
      have := congrArg List.length hr
      rw [List.length_drop, List.length_nil] at this
      omega)
    have lo' : ∀ z ∈ objSt (wld w b b2).params it L pa l k v i pl ⟨psv⟩ n ⟨rv⟩ nr (some y), 785 ≤ z.1 := fun z hz => lo _ (List.mem_map.mpr ⟨z, hz, rfl⟩)
    refine runL_ok (env := envSt L) (fl := false) [] (conSt_ok (o := o) (it := it) (L := L) (rw_ := [0]) (pl := []) (val := .none) (by simp) (by simp)) rfl S H nd lo' _ _ (fun _ => []) _ (fun nv => st_e w b b2 it L pa l q o k v i pl ⟨psv⟩ n ⟨rv⟩ nr y _ _ p nv) (fun _ => ⟨⟨hend, rfl⟩, trivial⟩) fun nv s' Af => ?_
    try dsimp only at Af
    generalize runSt _ _ _ _ _ _ _ _ _ _ _ _ _ _ = X at Af
    have D := did0 (l' := [(it, obAt X 0), (L, frSt (wld w b b2).params k v l pl pa (some y)), (pa, lsO ⟨psv⟩ n), (l, lsO ⟨rv⟩ nr)]) Af rfl
    refine fin psv n pa k v y (obAt X 0) s' (by rw [rowsR, List.append_nil]; exact hv) (keep_drop D.keep fun a ha hb => ?_) (fun z hz => D.holds z ?_) (.inl ⟨rfl, rfl⟩)
    · have : a = pa := by
        simp only [List.map_cons, List.map_nil, List.mem_cons, List.not_mem_nil, or_false, not_or] at ha hb
        rcases ha with h | h | h | h
        · exact absurd h hb.1
        · exact absurd h hb.2.1
        · exact h
        · exact absurd h hb.2.2
      subst this
      exact ⟨_, H (a, lsO ⟨psv⟩ n) (by simp [objSt]), D.holds (a, lsO ⟨psv⟩ n) (by simp)⟩
    · simp only [List.mem_cons, List.not_mem_nil, or_false] at hz ⊢
      rcases hz with rfl | rfl | rfl | rfl <;> simp [rowsR]
  | rw_ :: r, i, pl, psv, ps, n, k, v, x, pa, s, p, S, nd, lo, hr, hs, hv, hm, hi, H, fin => by
    obtain ⟨hc, hr2, hlt⟩ := drop_consG hr
    obtain ⟨τ, hit⟩ := words_get hrv hc
    obtain ⟨hrn, hrl⟩ := h1 rw_ (List.mem_of_getElem? hc)
    have key : ∀ (f : Bool) (y : Value × Value), x = oldS f y → wpCode (MW (wld w b b2)) (ctxSt it L q o) R p s := by
      intro f y e
      subst e
      have lo' : ∀ z ∈ objSt (wld w b b2).params it L pa l k v i pl ⟨psv⟩ n ⟨rv⟩ nr (oldS f y), 785 ≤ z.1 := fun z hz => lo _ (List.mem_map.mpr ⟨z, hz, rfl⟩)
      have hsm : ∀ τ, Small2 ⟨psv⟩ ⟨mkP (wayR pl rw_).2 τ⟩ := fun τ => ⟨by show psv.length ≤ _; rw [hv.length]; omega, by
        show (mkP (wayR pl rw_).2 τ).length ≤ _
        rw [(isP_mk _ _).length, wayR_len]; omega⟩
      refine runL_ok (env := envSt L) (fl := false) [9] (conSt_ok (o := o) (it := it) (L := L) (rw_ := rw_) (pl := pl) (val := .str ⟨⟨rw_⟩⟩ τ) hrn (by omega)) rfl S H nd lo' _ _ (fun _ => [_]) _ (fun nv => st_t w b b2 f it L pa l q o k v i rw_ pl τ ⟨psv⟩ n ⟨rv⟩ nr y _ _ p nv) (fun _ => ⟨hsm _, trivial, itB hit, trivial⟩) fun nv s1 Af => ?_
      try dsimp only at Af
      generalize runSt _ _ _ _ _ _ _ _ _ _ _ _ _ _ = X at Af ⊢
      have D := Af.did [(it, liO l (i + 1)), (L, frSt (wld w b b2).params (ktk X 1) (vt X 1) l (wayR pl rw_).1 (adAt X 9) (some (.str ⟨⟨rw_⟩⟩ τ, .ref (adAt X 5)))), (pa, lsO ⟨psv⟩ n), (l, lsO ⟨rv⟩ nr)] [(adAt X 9, lsO ((⟨psv⟩ : Array Value) ++ (⟨mkP (wayR pl rw_).2 fun i => (nv 1).2.2.n (i + 100)⟩ : Array Value)) 0)] [9] rfl rfl rfl (by simp) (by simp) rfl rfl
      generalize adAt X 9 = pa1 at D ⊢
      have ea : (⟨psv⟩ : Array Value) ++ (⟨mkP (wayR pl rw_).2 fun i => (nv 1).2.2.n (i + 100)⟩ : Array Value) = ⟨psv ++ mkP (wayR pl rw_).2 fun i => (nv 1).2.2.n (i + 100)⟩ := by simp
      rw [ea] at D
      have hy1 : s.heap.objs.size ≤ pa1 := D.young _ (List.mem_cons_self ..)
      have hold : ∀ a o, s.heap.get? a = some o → a ≠ pa1 := fun a o h e => by
        have := Heap.lt_size h
        exact absurd hy1 (Nat.not_le.mpr (e ▸ this))
      have i1 := hold it _ (H (it, _) (List.mem_cons_self ..))
      have i2 := hold L _ (H (L, _) (by simp [objSt]; exact .inr (.inl rfl)))
      have i3 := hold l _ (H (l, lsO ⟨rv⟩ nr) (by simp [objSt]))
      have nd1 : [it, L, pa1, l].Nodup := by
        simp only [List.nodup_cons, List.mem_cons, List.not_mem_nil, or_false, not_or, List.nodup_nil, and_true, not_false_eq_true] at nd ⊢
        exact ⟨⟨nd.1.1, i1, nd.1.2.2⟩, ⟨i2, nd.2.1.2⟩, fun h => i3 h.symm⟩
      have hpa1 : 785 ≤ pa1 := Nat.le_trans S.top hy1
      have lo1 : ∀ y ∈ [it, L, pa1, l], 785 ≤ y := fun y hy => by
        simp only [List.mem_cons, List.not_mem_nil, or_false] at hy lo
        rcases hy with rfl | rfl | rfl | rfl
        · exact lo _ (.inl rfl)
        · exact lo _ (.inr (.inl rfl))
        · exact hpa1
        · exact lo _ (.inr (.inr (.inr rfl)))
      have K1 : Keep [it, L, l] s s1 := keep_drop D.keep fun a ha hb => by
        have : a = pa := by
          simp only [List.map_cons, List.map_nil, List.mem_cons, List.not_mem_nil, or_false, not_or] at ha hb
          rcases ha with h | h | h | h
          · exact absurd h hb.1
          · exact absurd h hb.2.1
          · exact h
          · exact absurd h hb.2.2
        subst this
        exact ⟨_, H (a, lsO ⟨psv⟩ n) (by simp [objSt]), D.holds (a, lsO ⟨psv⟩ n) (by simp)⟩
      have H1 : Holds s1 (objSt (wld w b b2).params it L pa1 l (ktk X 1) (vt X 1) (i + 1) (wayR pl rw_).1 ⟨psv ++ mkP (wayR pl rw_).2 fun i => (nv 1).2.2.n (i + 100)⟩ 0 ⟨rv⟩ nr (some (.str ⟨⟨rw_⟩⟩ τ, .ref (adAt X 5)))) := by
        intro z hz
        simp only [objSt, List.mem_cons, List.not_mem_nil, or_false] at hz
        rcases hz with rfl | rfl | rfl | rfl
        · exact D.holds _ (by simp)
        · exact D.holds _ (by simp)
        · exact D.new _ (by simp)
        · exact D.holds _ (by simp)
      refine st_loop hrv hz h1 r (Did.sane S D (fun y hy => lo _ (List.mem_map.mpr ⟨y, hy, rfl⟩))) nd1 lo1 hr2 (fun _ => ⟨_, rfl⟩) (hv.append (isP_mk _ _)) (by rw [List.length_append, wayR_len]; omega) hlt H1 fun psv' n' pa' k' v' y' ob s' hv' K2 H2 hy2 => ?_
      refine fin psv' n' pa' k' v' y' ob s' (by rw [rowsR, ← List.append_assoc]; exact hv') (K1.trans K2) (by rw [rowsR]; exact H2) (.inr ?_)
      rcases hy2 with ⟨_, rfl⟩ | h
      · exact hy1
      · exact Nat.le_trans D.keep.size h
    cases x with
    | none => exact key true (.none, .none) rfl
    | some y => exact key false y rfl
/-! Q901 -/
/-! ### _law_standing, called -/
noncomputable def ctxStC (o : OutL) (l : Nat) : Ctx := ctxOf (.call (.ref 774) ⟨[.ref l], []⟩) (outL o)
noncomputable def vsAt (ν : Unk) (i : Nat) : Value := (ν.vs i).toList.headD .none
noncomputable def stNew (ps : List (Option (List Nat))) (ν : Unk) : List (Nat × Obj) := [(ν.n 0, lsO ⟨mkP ps fun i => ν.n (i + 100)⟩ (ν.n 1))]
noncomputable def stCh (P : Params) (it L pa l : Nat) (pl : List Nat) (rv : List Value) (nr : Nat) (ν : Unk) : List (Nat × Obj) := [(it, ν.ob 0), (L, frSt P (fun i => ν.n (i + 10)) (fun i => ν.n (i + 20)) l pl (ν.n 0) (some (vsAt ν 0, vsAt ν 1))), (pa, lsO ⟨[]⟩ 0), (l, lsO ⟨rv⟩ nr)]
/-- _law_words' contract -/
noncomputable def conWC (T : BT) (ads : Ads) (x : FunC) (q : Nat → Pos) (o : OutL) (i : Nat) (pl : List Nat) (ps : List (Option (List Nat))) (τ : Nat) : Option Con := match isList1 (T.get i) with
  | some (xs, n) => some (conS T ads (ctxWdC (belF x q o) pl τ (adOf ads i)) (zip3 [i] [(adOf ads i, lsO ⟨xs.toList⟩ n)]) (IsP xs.toList ps) (fun ν => .ok (.ret (lspV (wordsP pl ps) (ν.n 0)))) (fun ν => zip2 [i] [(adOf ads i, lsO ⟨xs.toList⟩ n)]) fun ν => news_ [(ν.n 0, lspO (wordsP pl ps) ν)])
  | none => none
noncomputable def conSC (P : Params) (o : OutL) (pl : List Nat) (ps : List (Option (List Nat))) (rv : List Value) (nr : Nat) : CF := fun j x Γ cd T ads => match j with
  | 64 => match isFL cd with
    | true => some (conS T ads (ctxSt (adOf ads 3) (adOf ads 1) (fun _ => posN Γ.below 0) (oBel o Γ.below 1)) (zip3 [3, 1, 2, 0] (objSt P (adOf ads 3) (adOf ads 1) (adOf ads 2) (adOf ads 0) (fk T 1) (fv T 1) 0 [] ⟨[]⟩ 0 ⟨rv⟩ nr none)) True
        (fun _ => .ok .next) (fun ν => zip2 [3, 1, 2, 0] (stCh P (adOf ads 3) (adOf ads 1) (adOf ads 2) (adOf ads 0) pl rv nr ν)) fun ν => news_ (stNew ps ν))
    | false => none
  | 63 => conWC T ads (fSt (adOf ads 1)) (fun _ => posN Γ.below 0) (oBel o Γ.below 1) x pl ps (strTok cd)
  | j => conV ⟨⟨orc0, fun _ => []⟩, fun _ => .none⟩ j x Γ cd T ads
noncomputable def standP (rows : List (List Nat)) : Option (List (List Nat)) := wordsP (rowsR [] rows).1 (rowsR [] rows).2
theorem sc (w : World) (b b2 : Bool) (o : OutL) (pl : List Nat) (ps : List (Option (List Nat))) (rv : List Value) (nr l : Nat) (N t : Nat) (p : Pos) (nv : Nv) :
    let W := wld w b b2
    let X := runC (cfgW W (conSC W.params o pl ps rv nr)) 110 (ctxStC o l) p [0, 0, 2, 2, 0, 1001, 2, 2, 2, 2, 2, 1, 1, 0, 1, 0, 4, 65, 0, 0, 2, 2, 0, 64, 4] [(l, lsO ⟨rv⟩ nr)] N t nv
    look [0, 5] X = some (.done (.ok (.ret (lspV (wordsP pl ps) (adAt X 5)))), [some (lsO ⟨rv⟩ nr), some (lspO (wordsP pl ps) (nv 1).2.2)], [l, adAt X 5], dup (eqsOf X), dupG (gsOf X), dupO (osOf X), (IsP (mkP ps fun i => (nv 0).2.2.n (i + 100)) ps ∧ True ∧ True)) := by
  cases pl with
  | nil => cases b <;> cases b2 <;> (intro W X; kernel_rfl)
  | cons a r => cases b <;> cases b2 <;> (intro W X; kernel_rfl)
theorem wayR_one : ∀ (r : List Nat) (pl : List Nat), ∀ x, some x ∈ (wayR pl r).2 → x.length ≤ 1
  | [], _, x, h => by simp [wayR] at h
  | c :: r, pl, x, h => by
    rw [wayR] at h
    rcases List.mem_cons.mp h with h | h
    · unfold way1 at h
      split at h
      · split at h
        · cases h; simp
        · split at h <;> (cases h; simp)
      · split at h
        · split at h
          · cases h
          · cases h; simp
        · cases h; simp
    · exact wayR_one r _ x h
theorem rowsR_one : ∀ (rows : List (List Nat)) (pl : List Nat), ∀ x, some x ∈ (rowsR pl rows).2 → x.length ≤ 1
  | [], _, x, h => by simp [rowsR] at h
  | r :: rest, pl, x, h => by
    rw [rowsR] at h
    rcases List.mem_append.mp h with h | h
    · exact wayR_one r pl x h
    · exact rowsR_one rest _ x h
theorem rowsR_len : ∀ (rows : List (List Nat)) (pl : List Nat), (∀ r ∈ rows, r.length ≤ 12) → (rowsR pl rows).2.length ≤ 12 * rows.length
  | [], _, _ => Nat.zero_le _
  | r :: rest, pl, h => by
    rw [rowsR, List.length_append, wayR_len, List.length_cons]
    have h1 := h r (List.mem_cons_self ..)
    have h2 := rowsR_len rest (wayR pl r).1 fun x hx => h x (List.mem_cons_of_mem _ hx)
    omega
theorem wcCon_ok {w : World} {b b2 : Bool} {l0 : Nat} {s₀ s : Shared} {T : BT} {m tk : Nat} {ads : Ads} {p : Pos} {x : FunC} {q : Nat → Pos} {o : OutL} {i : Nat} {pl : List Nat} {ps : List (Option (List Nat))} {τ : Nat} {g : Con} {Γ : Ctx} (hz : ps.length ≤ 999) (h1 : ∀ x, some x ∈ ps → x.length ≤ 1)
    (hg : conWC T ads x q o i pl ps τ = some g) (hx : Γ = g.gx) (hn : ∀ z ∈ g.nq, z.1 = z.2) (ho : ∀ z ∈ g.oq, z.1 = z.2) (ob : g.ob) (D : Rep (baseOf (kt (wld w b b2).params) 785 l0 s₀) s T m ads tk) :
    wpCode (MW (wld w b b2)) Γ (fun r s' => ∃ N t ν, LeftRep (baseOf (kt (wld w b b2).params) 785 l0 s₀) g ν r s' m ads N t) p s := by
  unfold conWC at hg
  cases h : isList1 (T.get i) with
  | none => rw [h] at hg; cases hg
  | some y =>
    obtain ⟨⟨xs⟩, n⟩ := y
    rw [h] at hg
    cases hg
    replace hx : Γ = _ := hx
    rw [hx]
    exact con_z (W := wld w b b2) (is := [i]) (l := [(adOf ads i, lsO ⟨xs⟩ n)]) (ch := fun _ => [(adOf ads i, lsO ⟨xs⟩ n)]) (nw := fun ν => [(ν.n 0, lspO (wordsP pl ps) ν)]) D rfl (by simp) hn ho (fun S H nd lo => words_ok hz ob h1 S H (lo _ (List.mem_cons_self ..))) (fun ν => rfl) (fun ν k hk => by
      match k, hk with
      | 0, _ => rfl)
theorem conSC_ok {w : World} {b b2 : Bool} {o : OutL} {rows : List (List Nat)} {rv : List Value} {nr : Nat} (hrv : IsWords rv rows) (hz : rows.length ≤ 80) (h1 : ∀ r ∈ rows, r ≠ [] ∧ r.length ≤ 12) (hne : rows ≠ []) {l0 : Nat} {s₀ : Shared} :
    ConOk (baseOf (kt (wld w b b2).params) 785 l0 s₀) (MW (wld w b b2)) (cfgW (wld w b b2) (conSC (wld w b b2).params o (rowsR [] rows).1 (rowsR [] rows).2 rv nr)) := by
  intro j y Γ T m ads tk s p g hg hx hn ho ob D
  replace hg : conSC (wld w b b2).params o (rowsR [] rows).1 (rowsR [] rows).2 rv nr j y Γ Γ.code T ads = some g := hg
  by_cases h : j = 64
  · subst h
    cases hb : isFL Γ.code with
    | false => simp only [conSC, hb] at hg; cases hg
    | true =>
      simp only [conSC, hb] at hg
      cases hg
      replace hx : Γ = _ := hx
      rw [hx]
      refine con_z (ch := fun ν => stCh (wld w b b2).params (adOf ads 3) (adOf ads 1) (adOf ads 2) (adOf ads 0) (rowsR [] rows).1 rv nr ν) (nw := fun ν => stNew (rowsR [] rows).2 ν) D rfl (by decide) hn ho (fun S H nd lo => ?_) (fun ν => rfl) (fun ν k hk => by
        match k, hk with
        | 0, _ => rfl)
      have nd' : [adOf ads 3, adOf ads 1, adOf ads 2, adOf ads 0].Nodup := nd
      have lo' : ∀ y ∈ [adOf ads 3, adOf ads 1, adOf ads 2, adOf ads 0], 785 ≤ y := fun y hy => by
        obtain ⟨z, hz, rfl⟩ := List.mem_map.mp (show y ∈ (objSt (wld w b b2).params (adOf ads 3) (adOf ads 1) (adOf ads 2) (adOf ads 0) (fk T 1) (fv T 1) 0 [] ⟨[]⟩ 0 ⟨rv⟩ nr none).map (·.1) from hy)
        exact lo z hz
      refine st_loop hrv (by omega) h1 rows (psv := []) (ps := []) S nd' lo' rfl (fun h => absurd h hne) trivial (Nat.zero_le _) (Nat.zero_le _) H fun psv' n' pa' k' v' y ob' s' hv K H2 hy => ?_
      rw [List.nil_append] at hv
      obtain ⟨t, rfl⟩ := isP_mkP hv
      refine ⟨⟨fun i => if 100 ≤ i then t (i - 100) else if 20 ≤ i then v' (i - 20) else if 10 ≤ i then k' (i - 10) else if i = 0 then pa' else n', fun _ => #[], fun i => #[if i = 0 then y.1 else y.2], fun _ => ob'⟩, rfl, ?_⟩
      have e : ∀ k v : Nat → Nat, (∀ i, i < 5 → k i = k' i) → (∀ i, i < 5 → v i = v' i) → frSt (wld w b b2).params k v (adOf ads 0) (rowsR [] rows).1 pa' (some (y.1, y.2)) = frSt (wld w b b2).params k' v' (adOf ads 0) (rowsR [] rows).1 pa' (some y) := by
        intro k v h1 h2
        unfold frSt
        simp only [h1 0 (by decide), h1 1 (by decide), h1 2 (by decide), h1 3 (by decide), h1 4 (by decide), h2 1 (by decide)]
      have e2 : (fun i => if 100 ≤ i + 100 then t (i + 100 - 100) else if 20 ≤ i + 100 then v' (i + 100 - 20) else if 10 ≤ i + 100 then k' (i + 100 - 10) else if i + 100 = 0 then pa' else n') = t := by
        funext i
        rw [if_pos (Nat.le_add_left 100 i)]
        exact congrArg t (Nat.add_sub_cancel i 100)
      show Did s s' [(adOf ads 3, ob'), (adOf ads 1, frSt _ (fun i => if 100 ≤ i + 10 then t (i + 10 - 100) else if 20 ≤ i + 10 then v' (i + 10 - 20) else if 10 ≤ i + 10 then k' (i + 10 - 10) else if i + 10 = 0 then pa' else n') (fun i => if 100 ≤ i + 20 then t (i + 20 - 100) else if 20 ≤ i + 20 then v' (i + 20 - 20) else if 10 ≤ i + 20 then k' (i + 20 - 10) else if i + 20 = 0 then pa' else n') _ _ pa' (some (y.1, y.2))), (adOf ads 2, lsO ⟨[]⟩ 0), (adOf ads 0, lsO ⟨rv⟩ nr)] [(pa', lsO ⟨mkP _ fun i => if 100 ≤ i + 100 then t (i + 100 - 100) else if 20 ≤ i + 100 then v' (i + 100 - 20) else if 10 ≤ i + 100 then k' (i + 100 - 10) else if i + 100 = 0 then pa' else n'⟩ n')]
      rw [e2, e _ _ (fun i hi => ?_) (fun i hi => ?_)]
      · have hy : s.heap.objs.size ≤ pa' := hy.elim (fun h => absurd h.1 hne) id
        have h2 : s'.heap.get? (adOf ads 2) = some (lsO ⟨[]⟩ 0) := K.keep _ _ (H (adOf ads 2, lsO ⟨[]⟩ 0) (by simp [objSt])) (by
          simp only [List.nodup_cons, List.mem_cons, List.not_mem_nil, or_false, not_or, List.nodup_nil, and_true, not_false_eq_true] at nd' ⊢
          exact ⟨fun h => nd'.1.2.1 h.symm, fun h => nd'.2.1.1 h.symm, nd'.2.2⟩)
        refine ⟨K.mono (by simp), fun z hz => ?_, fun z hz => H2 z (by simp only [List.mem_cons, List.not_mem_nil, or_false] at hz ⊢; exact .inr (.inr (.inr hz))), fun z hz => ?_, by simp⟩
        · simp only [List.mem_cons, List.not_mem_nil, or_false] at hz
          rcases hz with rfl | rfl | rfl | rfl
          · exact H2 _ (by simp)
          · exact H2 _ (by simp)
          · exact h2
          · exact H2 _ (by simp)
        · simp only [List.mem_cons, List.not_mem_nil, or_false] at hz
          subst hz
          exact hy
      · rw [if_neg (by omega), if_neg (by omega), if_pos (by omega), Nat.add_sub_cancel]
      · rw [if_neg (by omega), if_pos (by omega), Nat.add_sub_cancel]
  · by_cases h3 : j = 63
    · subst h3
      have hlen := rowsR_len rows [] fun r hr => (h1 r hr).2
      exact wcCon_ok (by omega) (rowsR_one rows []) hg hx hn ho ob D
    · have : conSC (wld w b b2).params o (rowsR [] rows).1 (rowsR [] rows).2 rv nr j y Γ Γ.code T ads = conV ⟨⟨orc0, fun _ => []⟩, fun _ => .none⟩ j y Γ Γ.code T ads := by
        unfold conSC
        split
        · exact absurd rfl h
        · exact absurd rfl h3
        · rfl
      rw [this] at hg
      exact conV_ok _ _ _ _ _ _ _ _ _ _ _ hg hx hn ho ob D
theorem stand_ok {w : World} {b b2 : Bool} {o : OutL} {rows : List (List Nat)} {rv : List Value} {nr l : Nat} (hrv : IsWords rv rows) (hz : rows.length ≤ 80) (h1 : ∀ r ∈ rows, r ≠ [] ∧ r.length ≤ 12) (hne : rows ≠ []) {s : Shared} {p : Pos} (S : Top (wld w b b2) s) (H : Holds s [(l, lsO ⟨rv⟩ nr)]) (lo : 785 ≤ l) :
    wpCode (MW (wld w b b2)) (ctxStC o l) (fun r s' => ∃ ν : Unk, r = .ok (.ret (lspV (standP rows) (ν.n 0))) ∧ Did s s' [(l, lsO ⟨rv⟩ nr)] [(ν.n 0, lspO (standP rows) ν)]) p s := by
  refine runC_ok [5] (conSC_ok (o := o) (nr := nr) hrv hz h1 hne) S H (by simp) (by simpa using lo) _ _ (fun _ => [_]) _ (fun nv => sc w b b2 o (rowsR [] rows).1 (rowsR [] rows).2 rv nr l _ _ p nv) (fun _ => ⟨isP_mk _ _, trivial, trivial⟩) fun nv s' Af => ?_
  try dsimp only at Af
  generalize runC _ _ _ _ _ _ _ _ _ = X at Af ⊢
  refine ⟨⟨fun i => match i with | 0 => adAt X 5 | i => (nv 1).2.2.n i, fun _ => #[], fun _ => #[], (nv 1).2.2.ob⟩, rfl, ?_⟩
  have D := Af.did [(l, lsO ⟨rv⟩ nr)] [(adAt X 5, lspO (standP rows) (nv 1).2.2)] [5] rfl rfl rfl (by simp) (by simp) rfl rfl
  have e : lspO (standP rows) ⟨fun i => match i with | 0 => adAt X 5 | i => (nv 1).2.2.n i, fun _ => #[], fun _ => #[], (nv 1).2.2.ob⟩ = lspO (standP rows) (nv 1).2.2 := by
    unfold lspO
    split <;> rfl
  rw [e]
  exact D
/-! R101 -/
/-! ### _law_turned: its two comprehensions -/
noncomputable def qTu : List Nat := [95, 108, 97, 119, 95, 116, 117, 114, 110, 101, 100]
noncomputable def envTu (L cr cp : Nat) : Env := { envOfD dTu qTu 779 778 L with cells := [((⟨⟨[114, 111, 119]⟩⟩ : Str), cr), (⟨⟨[112, 108, 97, 99, 101]⟩⟩, cp)] }
noncomputable def yTu (it L cr cp : Nat) : LoopC := ⟨forT sTu, .ref it, forB sTu, forO sTu, envTu L cr cp⟩
noncomputable def fTu (L cr cp : Nat) : FunC := ⟨fnB dTu, envTu L cr cp⟩
noncomputable def subE : Expr → Expr
  | .Subscript v _ _ => v
  | _ => .Constant .none 0 default
noncomputable def eFilt : Expr := subE (asgE (nthS 1 (forB sTu)))
/-- a comprehension's free names are its function's cells -/
noncomputable def scC (s : Scope) : Scope := { s with names := s.names.map fun x => (x.1, match x.2 with | .free => .cell | k => k) }
noncomputable def envCoT (e : Expr) (Lc L : Nat) (name : List Nat) (c : Nat) : Env :=
  { scope := scC (lcSc e), locals := Lc, globals := 3, cells := [((⟨⟨name⟩⟩ : Str), c)], qual := ⟨⟨qTu⟩⟩ ++ (⟨⟨[46, 60, 108, 111, 99, 97, 108, 115, 62, 46]⟩⟩ : Str), func := none, code := .ref 778, frame := some L, builtins := 0 }
noncomputable def zTu (it acc Lc L cr : Nat) : CompC := ⟨.ref it, .ref acc, envCoT eWays Lc L [114, 111, 119] cr⟩
/-- where the two stand: the turn's iterator, its frame, its cells -/
structure TuA where
  li : Nat
  L : Nat
  cr : Nat
  cp : Nat
noncomputable def belTu (a : TuA) (q : Nat → Pos) (o : OutL) : List (Code × Pos) := belY 0 (fTu a.L a.cr a.cp) (yTu a.li a.L a.cr a.cp) z0 q o
noncomputable def ctxWays (it acc Lc : Nat) (a : TuA) (q : Nat → Pos) (o : OutL) : Ctx := ctxOf (ccode (zTu it acc Lc a.L a.cr)) (belTu a q o)
noncomputable def ctxFilt (it acc Lc : Nat) (a : TuA) (q : Nat → Pos) (o : OutL) : Ctx := ctxOf (.compLoop eFilt 0 (.ref it) (.ref acc) (envCoT eFilt Lc a.L [112, 108, 97, 99, 101] a.cp)) (belTu a q o)
noncomputable def tiO (tup i : Nat) : Obj := ⟨.type "tuple_iterator", none, .fields ⟨[.ref tup, .int (.ofNat i) 0]⟩, ⟨[]⟩⟩
noncomputable def celV (v : Option Value) : Obj := ⟨.type "cell", none, .cell v, ⟨[]⟩⟩
noncomputable def fst3 (τ : Nat → Nat) : List Value := [.str ⟨⟨[]⟩⟩ (τ 0), .str ⟨⟨[39]⟩⟩ (τ 1), .str ⟨⟨[34]⟩⟩ (τ 2)]
noncomputable def fPl : Nat → List Nat
  | 0 => []
  | 1 => [39]
  | _ => [34]
noncomputable def qW (bel : List (Code × Pos)) (i : Nat) : Pos := match i with
  | 0 => posN bel 1
  | 1 => posN bel 2
  | _ => posN bel 0
noncomputable def conWs (a : TuA) (o : OutL) (it acc Lc : Nat) (rw : List Nat) : CF := fun j x Γ cd T ads => match j with
  | 62 => match sAt2 cd with
    | some z => some (conS T ads (ctxWC (belY 1 (fTu a.L a.cr a.cp) (yTu a.li a.L a.cr a.cp) (zTu it acc Lc a.L a.cr) (qW Γ.below) (oBel o Γ.below 3)) rw z.1.cps.toList (strTok cd) z.2) (zip3 [] []) True (fun ν => .ok (.ret (.ref (ν.n 0)))) (fun ν => zip2 [] []) fun ν => news_ (wyNew rw z.1.cps.toList ν))
    | none => none
  | j => conV ⟨⟨orc0, fun _ => []⟩, fun _ => .none⟩ j x Γ cd T ads
noncomputable def objWs (it acc Lc tup cr : Nat) (τ : Nat → Nat) (rw : List Nat) (τr : Nat) : List (Nat × Obj) := [(it, tiO tup 0), (acc, lsO ⟨[]⟩ 0), (Lc, dictO [] 0), (tup, tupO (fst3 τ)), (cr, celV (some (.str ⟨⟨rw⟩⟩ τr)))]
noncomputable def wayT (f rw : List Nat) (τ l : Nat) : Obj := tupO [.str ⟨⟨(wayR f rw).1⟩⟩ τ, .ref l]
noncomputable def wayL (f rw : List Nat) (τ : Nat → Nat) (n : Nat) : Obj := lsO ⟨mkP (wayR f rw).2 τ⟩ n
noncomputable def locF (P : Params) (k τ : Nat) : Obj := dictO [ent P [102, 105, 114, 115, 116] k (.str ⟨⟨[34]⟩⟩ τ)] 1
noncomputable def locO (P : Params) (k r : Nat) : Obj := dictO [ent P [111, 110, 101] k (.ref r)] 1
theorem ways_r (w : World) (b b2 : Bool) (it acc Lc tup : Nat) (a : TuA) (q : Nat → Pos) (o : OutL) (τ : Nat → Nat) (rw : List Nat) (τr : Nat) (N t : Nat) (p : Pos) (nv : Nv) :
    let W := wld w b b2
    let X := runC (cfgW W (conWs a o it acc Lc rw)) 180 (ctxWays it acc Lc a q o) p (match b2 with | true => [1, 0, 1, 0, 1, 1, 4, 1, 1, 3, 3, 3, 0, 5, 3, 0, 63, 0, 18, 1, 0, 1, 0, 1, 0, 1, 1, 4, 1, 1, 3, 3, 3, 0, 5, 3, 0, 63, 0, 18, 1, 0, 1, 0, 1, 0, 1, 1, 4, 1, 1, 3, 3, 3, 0, 5, 3, 0, 63, 0, 18, 1, 0, 1, 0, 1, 0, 1, 1, 4, 1, 1, 16] | false => [1, 0, 1, 0, 1, 1, 4, 1, 1, 3, 3, 3, 0, 5, 3, 0, 63, 0, 18, 1, 0, 1, 0, 1, 0, 1, 1, 4, 1, 1, 3, 3, 3, 0, 5, 3, 0, 63, 0, 18, 1, 0, 1, 0, 1, 0, 1, 1, 4, 1, 1, 3, 3, 3, 0, 5, 3, 0, 63, 0, 18, 1, 0, 1, 0, 1, 0, 1, 1, 4, 1, 1, 16]) (objWs it acc Lc tup a.cr τ rw τr) N t nv
    let l' := [(it, obAt X 0), (acc, lsO ⟨[.ref (adAt X 7), .ref (adAt X 10), .ref (adAt X 13)]⟩ 3), (Lc, locF W.params (ktk X 2 0) (vt X 2 0)), (tup, tupO (fst3 τ)), (a.cr, celV (some (.str ⟨⟨rw⟩⟩ τr))),
      (adAt X 7, tupO [.str ⟨⟨[]⟩⟩ (τ 0), .ref (adAt X 5)]), (adAt X 5, wayT [] rw ((nv 0).2.2.n 2) (adAt X 6)), (adAt X 6, wayL [] rw (fun i => (nv 0).2.2.n (i + 100)) ((nv 0).2.2.n 3)),
      (adAt X 10, tupO [.str ⟨⟨[39]⟩⟩ (τ 1), .ref (adAt X 8)]), (adAt X 8, wayT [39] rw ((nv 2).2.2.n 2) (adAt X 9)), (adAt X 9, wayL [39] rw (fun i => (nv 2).2.2.n (i + 100)) ((nv 2).2.2.n 3)),
      (adAt X 13, tupO [.str ⟨⟨[34]⟩⟩ (τ 2), .ref (adAt X 11)]), (adAt X 11, wayT [34] rw ((nv 4).2.2.n 2) (adAt X 12)), (adAt X 12, wayL [34] rw (fun i => (nv 4).2.2.n (i + 100)) ((nv 4).2.2.n 3))]
    look [0, 1, 2, 3, 4, 7, 5, 6, 10, 8, 9, 13, 11, 12] X = some (.done (.ok .next), os_ l', as_ l', dup (eqsOf X), dupG (gsOf X), dupO (osOf X), (SmallB ⟨[.ref (adAt X 7), .ref (adAt X 10)]⟩ ∧ True ∧ SmallB ⟨[.ref (adAt X 7)]⟩ ∧ True ∧ SmallB ⟨[]⟩ ∧ True ∧ True)) := by
  cases b <;> cases b2 <;> (intro W X l'; kernel_rfl)
noncomputable def objFl (it acc Lc src cp : Nat) (t wA : Nat → Nat) (pl : List Nat) (τp : Nat) (f : Nat → List Nat) (τf : Nat → Nat) (pE : Nat → List Nat) (τe l : Nat → Nat) : List (Nat × Obj) :=
  [(it, liO src 0), (acc, lsO ⟨[]⟩ 0), (Lc, dictO [] 0), (src, lsO ⟨[.ref (t 0), .ref (t 1), .ref (t 2)]⟩ 3), (cp, celV (some (.str ⟨⟨pl⟩⟩ τp))),
   (t 0, tupO [.str ⟨⟨f 0⟩⟩ (τf 0), .ref (wA 0)]), (wA 0, tupO [.str ⟨⟨pE 0⟩⟩ (τe 0), .ref (l 0)]), (t 1, tupO [.str ⟨⟨f 1⟩⟩ (τf 1), .ref (wA 1)]), (wA 1, tupO [.str ⟨⟨pE 1⟩⟩ (τe 1), .ref (l 1)]), (t 2, tupO [.str ⟨⟨f 2⟩⟩ (τf 2), .ref (wA 2)]), (wA 2, tupO [.str ⟨⟨pE 2⟩⟩ (τe 2), .ref (l 2)])]
noncomputable def orcF (t : Nat → Nat) : OrV := ⟨⟨orc0, fun _ => []⟩, fun i => .ref (t i)⟩
noncomputable def chFl (it acc Lc src cp : Nat) (t wA : Nat → Nat) (pl : List Nat) (τp : Nat) (f : Nat → List Nat) (τf : Nat → Nat) (pE : Nat → List Nat) (τe l : Nat → Nat) (m : Nat) (o0 o2 : Obj) : List (Nat × Obj) :=
  [(it, o0), (acc, lsO ⟨[.ref (t m)]⟩ 1), (Lc, o2), (src, lsO ⟨[.ref (t 0), .ref (t 1), .ref (t 2)]⟩ 3), (cp, celV (some (.str ⟨⟨pl⟩⟩ τp))),
   (t 0, tupO [.str ⟨⟨f 0⟩⟩ (τf 0), .ref (wA 0)]), (wA 0, tupO [.str ⟨⟨pE 0⟩⟩ (τe 0), .ref (l 0)]), (t 1, tupO [.str ⟨⟨f 1⟩⟩ (τf 1), .ref (wA 1)]), (wA 1, tupO [.str ⟨⟨pE 1⟩⟩ (τe 1), .ref (l 1)]), (t 2, tupO [.str ⟨⟨f 2⟩⟩ (τf 2), .ref (wA 2)]), (wA 2, tupO [.str ⟨⟨pE 2⟩⟩ (τe 2), .ref (l 2)])]
theorem filt_0 (w : World) (b b2 : Bool) (it acc Lc src : Nat) (a : TuA) (q : Nat → Pos) (o : OutL) (t wA : Nat → Nat) (pl : List Nat) (τp : Nat) (f : Nat → List Nat) (τf : Nat → Nat) (pE : Nat → List Nat) (τe l : Nat → Nat) (N tk : Nat) (p : Pos) (nv : Nv) :
    let W := wld w b b2
    let X := runC (cfgW W (conV (orcF t))) 180 (ctxFilt it acc Lc a q o) p (match b2 with | true => [1, 51, 3, 3, 3, 3, 6, 6, 6, 0, 6, 0, 6, 7, 7, 7, 0, 7, 0, 7, 0, 5, 1, 1, 3, 18, 1, 0, 1, 51, 3, 3, 3, 3, 8, 8, 8, 0, 8, 0, 8, 9, 9, 9, 0, 9, 0, 9, 0, 5, 1, 0, 0, 1, 51, 3, 3, 3, 3, 10, 10, 10, 0, 10, 0, 10, 11, 11, 11, 0, 11, 0, 11, 0, 5, 1, 0, 0, 1, 52, 3, 12] | false => [1, 51, 3, 3, 3, 3, 6, 6, 6, 0, 6, 0, 6, 7, 7, 7, 0, 7, 0, 7, 0, 5, 1, 1, 3, 18, 1, 0, 1, 51, 3, 3, 3, 3, 8, 8, 8, 0, 8, 0, 8, 9, 9, 9, 0, 9, 0, 9, 0, 5, 1, 0, 0, 1, 51, 3, 3, 3, 3, 10, 10, 10, 0, 10, 0, 10, 11, 11, 11, 0, 11, 0, 11, 0, 5, 1, 0, 0, 1, 52, 3, 12]) (objFl it acc Lc src a.cp t wA pl τp f τf pE τe l) N tk nv
    let l' := chFl it acc Lc src a.cp t wA pl τp f τf pE τe l 0 (obAt X 0) (locO W.params (ktk X 2 0) (t 2))
    look [0, 1, 2, 3, 4, 5, 6, 7, 8, 9, 10] X = some (.done (.ok .next), os_ l', as_ l', dup (eqsOf X), dupG (gsOf X), dupO (osOf X), ((EndB ⟨[.ref (t 0), .ref (t 1), .ref (t 2)]⟩ 3 ∧ (none : Option Value) = none) ∧ EqB (pE 2) pl 0 ∧ ItB ⟨[.ref (t 0), .ref (t 1), .ref (t 2)]⟩ 2 (.ref (t 2)) ∧ EqB (pE 1) pl 0 ∧ ItB ⟨[.ref (t 0), .ref (t 1), .ref (t 2)]⟩ 1 (.ref (t 1)) ∧ SmallB ⟨[]⟩ ∧ EqB (pE 0) pl 1 ∧ ItB ⟨[.ref (t 0), .ref (t 1), .ref (t 2)]⟩ 0 (.ref (t 0)) ∧ True)) := by
  cases b <;> cases b2 <;> (intro W X l'; kernel_rfl)
theorem filt_1 (w : World) (b b2 : Bool) (it acc Lc src : Nat) (a : TuA) (q : Nat → Pos) (o : OutL) (t wA : Nat → Nat) (pl : List Nat) (τp : Nat) (f : Nat → List Nat) (τf : Nat → Nat) (pE : Nat → List Nat) (τe l : Nat → Nat) (N tk : Nat) (p : Pos) (nv : Nv) :
    let W := wld w b b2
    let X := runC (cfgW W (conV (orcF t))) 180 (ctxFilt it acc Lc a q o) p (match b2 with | true => [1, 51, 3, 3, 3, 3, 6, 6, 6, 0, 6, 0, 6, 7, 7, 7, 0, 7, 0, 7, 0, 5, 1, 0, 0, 1, 51, 3, 3, 3, 3, 8, 8, 8, 0, 8, 0, 8, 9, 9, 9, 0, 9, 0, 9, 0, 5, 1, 1, 3, 18, 1, 0, 1, 51, 3, 3, 3, 3, 10, 10, 10, 0, 10, 0, 10, 11, 11, 11, 0, 11, 0, 11, 0, 5, 1, 0, 0, 1, 52, 3, 12] | false => [1, 51, 3, 3, 3, 3, 6, 6, 6, 0, 6, 0, 6, 7, 7, 7, 0, 7, 0, 7, 0, 5, 1, 0, 0, 1, 51, 3, 3, 3, 3, 8, 8, 8, 0, 8, 0, 8, 9, 9, 9, 0, 9, 0, 9, 0, 5, 1, 1, 3, 18, 1, 0, 1, 51, 3, 3, 3, 3, 10, 10, 10, 0, 10, 0, 10, 11, 11, 11, 0, 11, 0, 11, 0, 5, 1, 0, 0, 1, 52, 3, 12]) (objFl it acc Lc src a.cp t wA pl τp f τf pE τe l) N tk nv
    let l' := chFl it acc Lc src a.cp t wA pl τp f τf pE τe l 1 (obAt X 0) (locO W.params (ktk X 2 0) (t 2))
    look [0, 1, 2, 3, 4, 5, 6, 7, 8, 9, 10] X = some (.done (.ok .next), os_ l', as_ l', dup (eqsOf X), dupG (gsOf X), dupO (osOf X), ((EndB ⟨[.ref (t 0), .ref (t 1), .ref (t 2)]⟩ 3 ∧ (none : Option Value) = none) ∧ EqB (pE 2) pl 0 ∧ ItB ⟨[.ref (t 0), .ref (t 1), .ref (t 2)]⟩ 2 (.ref (t 2)) ∧ SmallB ⟨[]⟩ ∧ EqB (pE 1) pl 1 ∧ ItB ⟨[.ref (t 0), .ref (t 1), .ref (t 2)]⟩ 1 (.ref (t 1)) ∧ EqB (pE 0) pl 0 ∧ ItB ⟨[.ref (t 0), .ref (t 1), .ref (t 2)]⟩ 0 (.ref (t 0)) ∧ True)) := by
  cases b <;> cases b2 <;> (intro W X l'; kernel_rfl)
theorem filt_2 (w : World) (b b2 : Bool) (it acc Lc src : Nat) (a : TuA) (q : Nat → Pos) (o : OutL) (t wA : Nat → Nat) (pl : List Nat) (τp : Nat) (f : Nat → List Nat) (τf : Nat → Nat) (pE : Nat → List Nat) (τe l : Nat → Nat) (N tk : Nat) (p : Pos) (nv : Nv) :
    let W := wld w b b2
    let X := runC (cfgW W (conV (orcF t))) 180 (ctxFilt it acc Lc a q o) p (match b2 with | true => [1, 51, 3, 3, 3, 3, 6, 6, 6, 0, 6, 0, 6, 7, 7, 7, 0, 7, 0, 7, 0, 5, 1, 0, 0, 1, 51, 3, 3, 3, 3, 8, 8, 8, 0, 8, 0, 8, 9, 9, 9, 0, 9, 0, 9, 0, 5, 1, 0, 0, 1, 51, 3, 3, 3, 3, 10, 10, 10, 0, 10, 0, 10, 11, 11, 11, 0, 11, 0, 11, 0, 5, 1, 1, 3, 18, 1, 0, 1, 52, 3, 12] | false => [1, 51, 3, 3, 3, 3, 6, 6, 6, 0, 6, 0, 6, 7, 7, 7, 0, 7, 0, 7, 0, 5, 1, 0, 0, 1, 51, 3, 3, 3, 3, 8, 8, 8, 0, 8, 0, 8, 9, 9, 9, 0, 9, 0, 9, 0, 5, 1, 0, 0, 1, 51, 3, 3, 3, 3, 10, 10, 10, 0, 10, 0, 10, 11, 11, 11, 0, 11, 0, 11, 0, 5, 1, 1, 3, 18, 1, 0, 1, 52, 3, 12]) (objFl it acc Lc src a.cp t wA pl τp f τf pE τe l) N tk nv
    let l' := chFl it acc Lc src a.cp t wA pl τp f τf pE τe l 2 (obAt X 0) (locO W.params (ktk X 2 0) (t 2))
    look [0, 1, 2, 3, 4, 5, 6, 7, 8, 9, 10] X = some (.done (.ok .next), os_ l', as_ l', dup (eqsOf X), dupG (gsOf X), dupO (osOf X), ((EndB ⟨[.ref (t 0), .ref (t 1), .ref (t 2)]⟩ 3 ∧ (none : Option Value) = none) ∧ SmallB ⟨[]⟩ ∧ EqB (pE 2) pl 1 ∧ ItB ⟨[.ref (t 0), .ref (t 1), .ref (t 2)]⟩ 2 (.ref (t 2)) ∧ EqB (pE 1) pl 0 ∧ ItB ⟨[.ref (t 0), .ref (t 1), .ref (t 2)]⟩ 1 (.ref (t 1)) ∧ EqB (pE 0) pl 0 ∧ ItB ⟨[.ref (t 0), .ref (t 1), .ref (t 2)]⟩ 0 (.ref (t 0)) ∧ True)) := by
  cases b <;> cases b2 <;> (intro W X l'; kernel_rfl)
/-! R201 -/
theorem conWs_ok {w : World} {b b2 : Bool} {a : TuA} {o : OutL} {it acc Lc : Nat} {rw_ : List Nat} (hne : rw_ ≠ []) (hz : rw_.length ≤ 1000) {l0 : Nat} {s₀ : Shared} :
    ConOk (baseOf (kt (wld w b b2).params) 785 l0 s₀) (MW (wld w b b2)) (cfgW (wld w b b2) (conWs a o it acc Lc rw_)) := by
  intro j y Γ T m ads tk s p g hg hx hn ho ob D
  replace hg : conWs a o it acc Lc rw_ j y Γ Γ.code T ads = some g := hg
  by_cases h : j = 62
  · subst h
    cases hs : sAt2 Γ.code with
    | none => simp only [conWs, hs] at hg; cases hg
    | some z =>
      simp only [conWs, hs] at hg
      cases hg
      replace hx : Γ = _ := hx
      rw [hx]
      exact wyCon_ok (by decide) hne hz D
  · have : conWs a o it acc Lc rw_ j y Γ Γ.code T ads = conV ⟨⟨orc0, fun _ => []⟩, fun _ => .none⟩ j y Γ Γ.code T ads := by
      unfold conWs
      split
      · exact absurd rfl h
      · rfl
    rw [this] at hg
    exact conV_ok _ _ _ _ _ _ _ _ _ _ _ hg hx hn ho ob D
noncomputable def chWs (P : Params) (it acc Lc tup cr : Nat) (τ : Nat → Nat) (rw : List Nat) (τr : Nat) (ν : Unk) : List (Nat × Obj) := [(it, ν.ob 0), (acc, lsO ⟨[.ref (ν.n 0), .ref (ν.n 3), .ref (ν.n 6)]⟩ 3), (Lc, locF P (ν.n 40) (ν.n 41)), (tup, tupO (fst3 τ)), (cr, celV (some (.str ⟨⟨rw⟩⟩ τr)))]
noncomputable def nwWs (τ : Nat → Nat) (rw : List Nat) (ν : Unk) : List (Nat × Obj) := [(ν.n 0, tupO [.str ⟨⟨[]⟩⟩ (τ 0), .ref (ν.n 1)]), (ν.n 1, wayT [] rw (ν.n 20) (ν.n 2)), (ν.n 2, wayL [] rw (fun i => ν.n (3 * i + 100)) (ν.n 30)),
      (ν.n 3, tupO [.str ⟨⟨[39]⟩⟩ (τ 1), .ref (ν.n 4)]), (ν.n 4, wayT [39] rw (ν.n 21) (ν.n 5)), (ν.n 5, wayL [39] rw (fun i => ν.n (3 * i + 101)) (ν.n 31)),
      (ν.n 6, tupO [.str ⟨⟨[34]⟩⟩ (τ 2), .ref (ν.n 7)]), (ν.n 7, wayT [34] rw (ν.n 22) (ν.n 8)), (ν.n 8, wayL [34] rw (fun i => ν.n (3 * i + 102)) (ν.n 32))]
/-- three token lists in one -/
noncomputable def three (f g h : Nat → Nat) (i : Nat) : Nat := if i % 3 = 0 then f (i / 3) else if i % 3 = 1 then g (i / 3) else h (i / 3)
theorem three0 (f g h : Nat → Nat) (i : Nat) : three f g h (3 * i) = f i := by
  unfold three
  rw [if_pos (Nat.mul_mod_right 3 i), Nat.mul_div_cancel_left i (by decide)]
theorem three1 (f g h : Nat → Nat) (i : Nat) : three f g h (3 * i + 1) = g i := by
  unfold three
  rw [Nat.mul_add_mod 3 i 1, Nat.mul_add_div (by decide) i 1]; rfl
theorem three2 (f g h : Nat → Nat) (i : Nat) : three f g h (3 * i + 2) = h i := by
  unfold three
  rw [Nat.mul_add_mod 3 i 2, Nat.mul_add_div (by decide) i 2]; rfl
noncomputable def unkW (g0 g1 g2 M : Nat → Nat) (ob : Nat → Obj) : Unk := ⟨fun i => if 100 ≤ i then three g0 g1 g2 (i - 100) else M i, fun _ => #[], fun _ => #[], ob⟩
theorem nwWs_mk (τ : Nat → Nat) (rw_ : List Nat) (g0 g1 g2 M : Nat → Nat) (ob : Nat → Obj) : nwWs τ rw_ (unkW g0 g1 g2 M ob) = [(M 0, tupO [.str ⟨⟨[]⟩⟩ (τ 0), .ref (M 1)]), (M 1, wayT [] rw_ (M 20) (M 2)), (M 2, wayL [] rw_ g0 (M 30)),
      (M 3, tupO [.str ⟨⟨[39]⟩⟩ (τ 1), .ref (M 4)]), (M 4, wayT [39] rw_ (M 21) (M 5)), (M 5, wayL [39] rw_ g1 (M 31)),
      (M 6, tupO [.str ⟨⟨[34]⟩⟩ (τ 2), .ref (M 7)]), (M 7, wayT [34] rw_ (M 22) (M 8)), (M 8, wayL [34] rw_ g2 (M 32))] := by
  have e0 : (fun i => (unkW g0 g1 g2 M ob).n (3 * i + 100)) = g0 := by
    funext i
    show (if 100 ≤ 3 * i + 100 then three g0 g1 g2 (3 * i + 100 - 100) else M (3 * i + 100)) = _
    rw [if_pos (Nat.le_add_left 100 (3 * i)), Nat.add_sub_cancel, three0]
  have e1 : (fun i => (unkW g0 g1 g2 M ob).n (3 * i + 101)) = g1 := by
    funext i
    show (if 100 ≤ 3 * i + 101 then three g0 g1 g2 (3 * i + 101 - 100) else M (3 * i + 101)) = _
    rw [if_pos (Nat.le_trans (by decide : 100 ≤ 101) (Nat.le_add_left 101 (3 * i))), show 3 * i + 101 - 100 = 3 * i + 1 from Nat.add_sub_cancel (3 * i + 1) 100, three1]
  have e2 : (fun i => (unkW g0 g1 g2 M ob).n (3 * i + 102)) = g2 := by
    funext i
    show (if 100 ≤ 3 * i + 102 then three g0 g1 g2 (3 * i + 102 - 100) else M (3 * i + 102)) = _
    rw [if_pos (Nat.le_trans (by decide : 100 ≤ 102) (Nat.le_add_left 102 (3 * i))), show 3 * i + 102 - 100 = 3 * i + 2 from Nat.add_sub_cancel (3 * i + 2) 100, three2]
  unfold nwWs
  rw [e0, e1, e2]
  rfl
theorem ways_ok {w : World} {b b2 : Bool} {it acc Lc tup : Nat} {a : TuA} {q : Nat → Pos} {o : OutL} {τ : Nat → Nat} {rw_ : List Nat} {τr : Nat} (hne : rw_ ≠ []) (hz : rw_.length ≤ 1000) {s : Shared} {p : Pos} (S : Top (wld w b b2) s)
    (H : Holds s (objWs it acc Lc tup a.cr τ rw_ τr)) (nd : ((objWs it acc Lc tup a.cr τ rw_ τr).map (·.1)).Nodup) (lo : ∀ y ∈ objWs it acc Lc tup a.cr τ rw_ τr, 785 ≤ y.1) :
    wpCode (MW (wld w b b2)) (ctxWays it acc Lc a q o) (fun r s' => ∃ ν : Unk, r = .ok .next ∧ Did s s' (chWs (wld w b b2).params it acc Lc tup a.cr τ rw_ τr ν) (nwWs τ rw_ ν)) p s := by
  refine runC_ok [7, 5, 6, 10, 8, 9, 13, 11, 12] (conWs_ok hne hz) S H nd lo _ _ (fun _ => [_, _, _, _, _, _, _, _, _]) _ (fun nv => ways_r w b b2 it acc Lc tup a q o τ rw_ τr _ _ p nv) (fun _ => ⟨by show 2 ≤ 1000000; decide, trivial, by show 1 ≤ 1000000; decide, trivial, by show 0 ≤ 1000000; decide, trivial, trivial⟩) fun nv s' Af => ?_
  try dsimp only at Af
  generalize runC _ _ _ _ _ _ _ _ _ = X at Af ⊢
  refine ⟨unkW (fun i => (nv 0).2.2.n (i + 100)) (fun i => (nv 2).2.2.n (i + 100)) (fun i => (nv 4).2.2.n (i + 100)) (fun i => match i with | 0 => adAt X 7 | 1 => adAt X 5 | 2 => adAt X 6 | 3 => adAt X 10 | 4 => adAt X 8 | 5 => adAt X 9 | 6 => adAt X 13 | 7 => adAt X 11 | 8 => adAt X 12 | 20 => (nv 0).2.2.n 2 | 21 => (nv 2).2.2.n 2 | 22 => (nv 4).2.2.n 2 | 30 => (nv 0).2.2.n 3 | 31 => (nv 2).2.2.n 3 | 32 => (nv 4).2.2.n 3 | 40 => ktk X 2 0 | _ => vt X 2 0) fun i => obAt X 0, rfl, ?_⟩
  have D := Af.did [(it, obAt X 0), (acc, lsO ⟨[.ref (adAt X 7), .ref (adAt X 10), .ref (adAt X 13)]⟩ 3), (Lc, locF (wld w b b2).params (ktk X 2 0) (vt X 2 0)), (tup, tupO (fst3 τ)), (a.cr, celV (some (.str ⟨⟨rw_⟩⟩ τr)))]
      [(adAt X 7, tupO [.str ⟨⟨[]⟩⟩ (τ 0), .ref (adAt X 5)]), (adAt X 5, wayT [] rw_ ((nv 0).2.2.n 2) (adAt X 6)), (adAt X 6, wayL [] rw_ (fun i => (nv 0).2.2.n (i + 100)) ((nv 0).2.2.n 3)),
      (adAt X 10, tupO [.str ⟨⟨[39]⟩⟩ (τ 1), .ref (adAt X 8)]), (adAt X 8, wayT [39] rw_ ((nv 2).2.2.n 2) (adAt X 9)), (adAt X 9, wayL [39] rw_ (fun i => (nv 2).2.2.n (i + 100)) ((nv 2).2.2.n 3)),
      (adAt X 13, tupO [.str ⟨⟨[34]⟩⟩ (τ 2), .ref (adAt X 11)]), (adAt X 11, wayT [34] rw_ ((nv 4).2.2.n 2) (adAt X 12)), (adAt X 12, wayL [34] rw_ (fun i => (nv 4).2.2.n (i + 100)) ((nv 4).2.2.n 3))] [7, 5, 6, 10, 8, 9, 13, 11, 12] rfl rfl rfl (by simp) (by simp) rfl rfl
  rw [nwWs_mk]
  exact D
/-- one place alone leads there -/
noncomputable def FiltB (m : Nat) (pE : Nat → List Nat) (pl : List Nat) : Prop := m < 3 ∧ pE m = pl ∧ ∀ j, j < 3 → j ≠ m → pE j ≠ pl
theorem filt_ok {w : World} {b b2 : Bool} {it acc Lc src : Nat} {a : TuA} {q : Nat → Pos} {o : OutL} {t wA : Nat → Nat} {pl : List Nat} {τp : Nat} {f : Nat → List Nat} {τf : Nat → Nat} {pE : Nat → List Nat} {τe l : Nat → Nat} {m : Nat} (hm : FiltB m pE pl) {s : Shared} {p : Pos} (S : Top (wld w b b2) s)
    (H : Holds s (objFl it acc Lc src a.cp t wA pl τp f τf pE τe l)) (nd : ((objFl it acc Lc src a.cp t wA pl τp f τf pE τe l).map (·.1)).Nodup) (lo : ∀ y ∈ objFl it acc Lc src a.cp t wA pl τp f τf pE τe l, 785 ≤ y.1) :
    wpCode (MW (wld w b b2)) (ctxFilt it acc Lc a q o) (fun r s' => ∃ ν : Unk, r = .ok .next ∧ Did s s' (chFl it acc Lc src a.cp t wA pl τp f τf pE τe l m (ν.ob 0) (locO (wld w b b2).params (ν.n 0) (t 2))) []) p s := by
  obtain ⟨h3, he, hne⟩ := hm
  have s0 : SmallB ⟨[]⟩ := by show 0 ≤ 1000000; decide
  have fin : ∀ {X : Out} {s' : Shared}, After s s' ((objFl it acc Lc src a.cp t wA pl τp f τf pE τe l).map (·.1)) (List.range 11 ++ []) ((objFl it acc Lc src a.cp t wA pl τp f τf pE τe l).map (·.1) ++ []) (os_ (chFl it acc Lc src a.cp t wA pl τp f τf pE τe l m (obAt X 0) (locO (wld w b b2).params (ktk X 2 0) (t 2)))) →
      ∃ ν : Unk, (.ok .next : Result) = .ok .next ∧ Did s s' (chFl it acc Lc src a.cp t wA pl τp f τf pE τe l m (ν.ob 0) (locO (wld w b b2).params (ν.n 0) (t 2))) [] := fun {X s'} Af =>
    ⟨⟨fun _ => ktk X 2 0, fun _ => #[], fun _ => #[], fun i => obAt X 0⟩, rfl, did0 (l' := chFl it acc Lc src a.cp t wA pl τp f τf pE τe l m (obAt X 0) (locO (wld w b b2).params (ktk X 2 0) (t 2))) Af rfl⟩
  match m, h3, he, hne, @fin with
  | 0, _, he, hne, fin =>
    exact runC_ok [] (conV_good (orcF t)) S H nd lo _ _ (fun _ => []) _ (fun nv => filt_0 w b b2 it acc Lc src a q o t wA pl τp f τf pE τe l _ _ p nv) (fun _ => ⟨⟨rfl, rfl⟩, eqL0 (hne 2 (by decide) (by decide)), rfl, eqL0 (hne 1 (by decide) (by decide)), rfl, s0, eqL1 he, rfl, trivial⟩) fun nv s' Af => fin Af
  | 1, _, he, hne, fin =>
    exact runC_ok [] (conV_good (orcF t)) S H nd lo _ _ (fun _ => []) _ (fun nv => filt_1 w b b2 it acc Lc src a q o t wA pl τp f τf pE τe l _ _ p nv) (fun _ => ⟨⟨rfl, rfl⟩, eqL0 (hne 2 (by decide) (by decide)), rfl, s0, eqL1 he, rfl, eqL0 (hne 0 (by decide) (by decide)), rfl, trivial⟩) fun nv s' Af => fin Af
  | 2, _, he, hne, fin =>
    exact runC_ok [] (conV_good (orcF t)) S H nd lo _ _ (fun _ => []) _ (fun nv => filt_2 w b b2 it acc Lc src a q o t wA pl τp f τf pE τe l _ _ p nv) (fun _ => ⟨⟨rfl, rfl⟩, s0, eqL1 he, rfl, eqL0 (hne 1 (by decide) (by decide)), rfl, eqL0 (hne 0 (by decide) (by decide)), rfl, trivial⟩) fun nv s' Af => fin Af
/-! R301 -/
/-! ### _law_turned: its loop's turns (written by mkr3.py) -/
noncomputable def tkS (o : Option Obj) (i : Nat) : Nat := match o with
  | some o => match o.data with
    | .seq xs _ => vtok (xs.toList.getD i .none)
    | _ => 0
  | none => 0
noncomputable def ctxTu (a : TuA) (q : Nat → Pos) (o : OutL) : Ctx := ctxOf (lcode (yTu a.li a.L a.cr a.cp)) (belF (fTu a.L a.cr a.cp) q o)
noncomputable def frTu (P : Params) (k : Nat → Nat) (l pa : Nat) : Option (Value × Value × Value) → Obj
  | none => frameO [ent P [114,111,119,115] (k 0) (.ref l), ent P [112,97,114,116,115] (k 1) (.ref pa)] 2 ⟨[]⟩
  | some x => frameO [ent P [114,111,119,115] (k 0) (.ref l), ent P [112,97,114,116,115] (k 1) (.ref pa), ent P [119,97,121,115] (k 2) x.1, ent P [98,101,103,117,110] (k 3) x.2.1, ent P [119,97,121] (k 4) x.2.2] 5 ⟨[]⟩
noncomputable def oldT (f : Bool) (x : Value × Value × Value) : Option (Value × Value × Value) := match f with
  | true => none
  | false => some x
noncomputable def oldC (f : Bool) (v : Value) : Option Value := match f with
  | true => none
  | false => some v
noncomputable def objTu (P : Params) (a : TuA) (pa l : Nat) (k : Nat → Nat) (i : Nat) (pl : List Nat) (τp : Nat) (ps : Array Value) (n : Nat) (rs : Array Value) (nr : Nat) (x : Option (Value × Value × Value)) (cv : Option Value) : List (Nat × Obj) :=
  [(a.li, liO l i), (a.L, frTu P k l pa x), (pa, lsO ps n), (l, lsO rs nr), (a.cr, celV cv), (a.cp, celV (some (.str ⟨⟨pl⟩⟩ τp)))]
noncomputable def aT (ads : Ads) : TuA := ⟨adOf ads 0, adOf ads 1, adOf ads 4, adOf ads 5⟩
noncomputable def tA (ads : Ads) (i : Nat) : Nat := match i with | 0 => adOf ads 10 | 1 => adOf ads 13 | _ => adOf ads 16
noncomputable def wAA (ads : Ads) (i : Nat) : Nat := match i with | 0 => adOf ads 11 | 1 => adOf ads 14 | _ => adOf ads 17
noncomputable def lA (ads : Ads) (i : Nat) : Nat := match i with | 0 => adOf ads 12 | 1 => adOf ads 15 | _ => adOf ads 18
noncomputable def tT (T : BT) (i : Nat) : Nat := match i with | 0 => tkS (T.get 10) 0 | 1 => tkS (T.get 13) 0 | _ => tkS (T.get 16) 0
noncomputable def tE (T : BT) (i : Nat) : Nat := match i with | 0 => tkS (T.get 11) 0 | 1 => tkS (T.get 14) 0 | _ => tkS (T.get 17) 0
noncomputable def pW (rw : List Nat) (i : Nat) : List Nat := match i with | 0 => (wayR [] rw).1 | 1 => (wayR [39] rw).1 | _ => (wayR [34] rw).1
noncomputable def ixWs : List Nat := [7, 8, 9, 6, 4]
noncomputable def ixFl : List Nat := [19, 20, 21, 8, 5, 10, 11, 13, 14, 16, 17]
noncomputable def conTu (P : Params) (o : OutL) (m : Nat) (rw pl : List Nat) (τr τp : Nat) : CF := fun j x Γ cd T ads => match j with
  | 65 => match isCo2 cd with
    | true => some (conS T ads (ctxWays (adOf ads 7) (adOf ads 8) (adOf ads 9) (aT ads) (fun i => posN Γ.below i) (oBel o Γ.below 2)) (zip3 ixWs (objWs (adOf ads 7) (adOf ads 8) (adOf ads 9) (adOf ads 6) (adOf ads 4) (tkS (T.get 6)) rw τr)) True (fun _ => .ok .next) (fun ν => zip2 ixWs (chWs P (adOf ads 7) (adOf ads 8) (adOf ads 9) (adOf ads 6) (adOf ads 4) (tkS (T.get 6)) rw τr ν)) fun ν => news_ (nwWs (tkS (T.get 6)) rw ν))
    | false => none
  | 66 => match isCo2 cd with
    | true => some (conS T ads (ctxFilt (adOf ads 19) (adOf ads 20) (adOf ads 21) (aT ads) (fun i => posN Γ.below i) (oBel o Γ.below 2)) (zip3 ixFl (objFl (adOf ads 19) (adOf ads 20) (adOf ads 21) (adOf ads 8) (adOf ads 5) (tA ads) (wAA ads) pl τp fPl (tT T) (pW rw) (tE T) (lA ads))) (FiltB m (pW rw) pl) (fun _ => .ok .next)
        (fun ν => zip2 ixFl (chFl (adOf ads 19) (adOf ads 20) (adOf ads 21) (adOf ads 8) (adOf ads 5) (tA ads) (wAA ads) pl τp fPl (tT T) (pW rw) (tE T) (lA ads) m (ν.ob 0) (locO P (ν.n 0) (tA ads 2)))) fun ν => news_ [])
    | false => none
  | j => conV ⟨⟨orc0, fun _ => []⟩, fun _ => .str ⟨⟨rw⟩⟩ τr⟩ j x Γ cd T ads
noncomputable def enV (X : Out) (j : Nat) : Value := (entAt X 1 j).val
noncomputable def runTu (W : World) (a : TuA) (q : Nat → Pos) (o : OutL) (m : Nat) (rw pl : List Nat) (τr τp : Nat) (hs : List Nat) (l : List (Nat × Obj)) (N t : Nat) (p : Pos) (nv : Nv) : Out :=
  runL (cfgW W (conTu W.params o m rw pl τr τp)) 270 (ctxTu a q o) p (envTu a.L a.cr a.cp) false hs l N t nv
theorem tu_0 (w : World) (b b2 f : Bool) (a : TuA) (pa l : Nat) (q : Nat → Pos) (o : OutL) (k : Nat → Nat) (i : Nat) (rw pl : List Nat) (τr τp : Nat) (ps : Array Value) (n : Nat) (rs : Array Value) (nr : Nat) (x : Value × Value × Value) (cv : Value) (N t : Nat) (p : Pos) (nv : Nv) :
    let W := wld w b b2
    let X := runTu W a q o 0 rw pl τr τp (match b2 with | true => [1, 51, 3, 5, 5, 7, 7, 0, 7, 0, 8, 0, 67, 0, 2, 2, 10, 10, 10, 2, 9, 9, 0, 9, 0, 20, 0, 68, 0, 22, 22, 22, 21, 21, 21, 0, 21, 0, 21, 0, 11, 11, 11, 0, 11, 0, 23, 23, 0, 23, 0, 23, 23, 11, 23, 23, 23, 0, 23, 0, 23, 23, 11, 23, 23, 23, 0, 23, 0, 23, 23, 11, 23, 23, 25, 2, 2, 2, 2, 2, 2, 12, 12, 12, 0, 12, 0, 12, 0, 0, 13, 13, 13, 60, 1225, 0, 3, 27, 3, 53, 226, 2, 2, 2, 6, 6, 1] | false => [1, 51, 3, 5, 5, 7, 7, 0, 7, 0, 8, 0, 8, 8, 0, 8, 0, 8, 67, 0, 2, 2, 10, 10, 10, 2, 9, 9, 0, 9, 0, 20, 0, 20, 20, 0, 20, 0, 20, 68, 0, 22, 22, 22, 21, 21, 21, 0, 21, 0, 21, 0, 11, 11, 11, 0, 11, 0, 23, 23, 0, 23, 0, 23, 23, 11, 23, 23, 23, 0, 23, 0, 23, 23, 11, 23, 23, 23, 0, 23, 0, 23, 23, 11, 23, 23, 25, 2, 2, 2, 2, 2, 2, 12, 12, 12, 0, 12, 0, 12, 0, 0, 13, 13, 13, 60, 1225, 0, 3, 27, 3, 53, 226, 2, 2, 2, 6, 6, 1]) (objTu W.params a pa l k i pl τp ps n rs nr (oldT f x) (oldC f cv)) N t p nv
    look [0, 1, 2, 3, 4, 5, 27] X = some (.again (ctxTu a q o) (posOf X), [some (liO l (i + 1)), some (frTu W.params (ktk X 1) l (adAt X 27) (some (enV X 2, enV X 3, enV X 4))), some (lsO ps n), some (lsO rs nr), some (celV (some (.str ⟨⟨rw⟩⟩ τr))), some (celV (some (.str ⟨⟨[]⟩⟩ (vt X 1 3)))),
      some (lsO (ps ++ (⟨(mkP (wayR [] rw).2 fun i => (nv 1).2.2.n (3 * i + 100)).reverse⟩ : Array Value)) 0)], [a.li, a.L, pa, l, a.cr, a.cp, adAt X 27], dup (eqsOf X), dupG (gsOf X), dupO (osOf X),
      (Small2 ps ⟨(mkP (wayR [] rw).2 fun i => (nv 1).2.2.n (3 * i + 100)).reverse⟩ ∧ RevB ⟨mkP (wayR [] rw).2 fun i => (nv 1).2.2.n (3 * i + 100)⟩ "slice" none none (some (-1)) ∧ FiltB 0 (pW rw) pl ∧ True ∧ ItB rs i (.str ⟨⟨rw⟩⟩ τr) ∧ True)) := by
  cases b <;> cases b2 <;> cases f <;> (intro W X; kernel_rfl)
theorem tu_1 (w : World) (b b2 f : Bool) (a : TuA) (pa l : Nat) (q : Nat → Pos) (o : OutL) (k : Nat → Nat) (i : Nat) (rw pl : List Nat) (τr τp : Nat) (ps : Array Value) (n : Nat) (rs : Array Value) (nr : Nat) (x : Value × Value × Value) (cv : Value) (N t : Nat) (p : Pos) (nv : Nv) :
    let W := wld w b b2
    let X := runTu W a q o 1 rw pl τr τp (match b2 with | true => [1, 51, 3, 5, 5, 7, 7, 0, 7, 0, 8, 0, 67, 0, 2, 2, 10, 10, 10, 2, 9, 9, 0, 9, 0, 20, 0, 68, 0, 22, 22, 22, 21, 21, 21, 0, 21, 0, 21, 0, 14, 14, 14, 0, 14, 0, 23, 23, 0, 23, 0, 23, 23, 14, 23, 23, 23, 0, 23, 0, 23, 23, 14, 23, 23, 23, 0, 23, 0, 23, 23, 14, 23, 23, 25, 2, 2, 2, 2, 2, 2, 15, 15, 15, 0, 15, 0, 15, 0, 0, 16, 16, 16, 60, 1525, 0, 3, 27, 3, 53, 226, 2, 2, 2, 6, 6, 1] | false => [1, 51, 3, 5, 5, 7, 7, 0, 7, 0, 8, 0, 8, 8, 0, 8, 0, 8, 67, 0, 2, 2, 10, 10, 10, 2, 9, 9, 0, 9, 0, 20, 0, 20, 20, 0, 20, 0, 20, 68, 0, 22, 22, 22, 21, 21, 21, 0, 21, 0, 21, 0, 14, 14, 14, 0, 14, 0, 23, 23, 0, 23, 0, 23, 23, 14, 23, 23, 23, 0, 23, 0, 23, 23, 14, 23, 23, 23, 0, 23, 0, 23, 23, 14, 23, 23, 25, 2, 2, 2, 2, 2, 2, 15, 15, 15, 0, 15, 0, 15, 0, 0, 16, 16, 16, 60, 1525, 0, 3, 27, 3, 53, 226, 2, 2, 2, 6, 6, 1]) (objTu W.params a pa l k i pl τp ps n rs nr (oldT f x) (oldC f cv)) N t p nv
    look [0, 1, 2, 3, 4, 5, 27] X = some (.again (ctxTu a q o) (posOf X), [some (liO l (i + 1)), some (frTu W.params (ktk X 1) l (adAt X 27) (some (enV X 2, enV X 3, enV X 4))), some (lsO ps n), some (lsO rs nr), some (celV (some (.str ⟨⟨rw⟩⟩ τr))), some (celV (some (.str ⟨⟨[39]⟩⟩ (vt X 1 3)))),
      some (lsO (ps ++ (⟨(mkP (wayR [39] rw).2 fun i => (nv 1).2.2.n (3 * i + 101)).reverse⟩ : Array Value)) 0)], [a.li, a.L, pa, l, a.cr, a.cp, adAt X 27], dup (eqsOf X), dupG (gsOf X), dupO (osOf X),
      (Small2 ps ⟨(mkP (wayR [39] rw).2 fun i => (nv 1).2.2.n (3 * i + 101)).reverse⟩ ∧ RevB ⟨mkP (wayR [39] rw).2 fun i => (nv 1).2.2.n (3 * i + 101)⟩ "slice" none none (some (-1)) ∧ FiltB 1 (pW rw) pl ∧ True ∧ ItB rs i (.str ⟨⟨rw⟩⟩ τr) ∧ True)) := by
  cases b <;> cases b2 <;> cases f <;> (intro W X; kernel_rfl)
theorem tu_2 (w : World) (b b2 f : Bool) (a : TuA) (pa l : Nat) (q : Nat → Pos) (o : OutL) (k : Nat → Nat) (i : Nat) (rw pl : List Nat) (τr τp : Nat) (ps : Array Value) (n : Nat) (rs : Array Value) (nr : Nat) (x : Value × Value × Value) (cv : Value) (N t : Nat) (p : Pos) (nv : Nv) :
    let W := wld w b b2
    let X := runTu W a q o 2 rw pl τr τp (match b2 with | true => [1, 51, 3, 5, 5, 7, 7, 0, 7, 0, 8, 0, 67, 0, 2, 2, 10, 10, 10, 2, 9, 9, 0, 9, 0, 20, 0, 68, 0, 22, 22, 22, 21, 21, 21, 0, 21, 0, 21, 0, 17, 17, 17, 0, 17, 0, 23, 23, 0, 23, 0, 23, 23, 17, 23, 23, 23, 0, 23, 0, 23, 23, 17, 23, 23, 23, 0, 23, 0, 23, 23, 17, 23, 23, 25, 2, 2, 2, 2, 2, 2, 18, 18, 18, 0, 18, 0, 18, 0, 0, 19, 19, 19, 60, 1825, 0, 3, 27, 3, 53, 226, 2, 2, 2, 6, 6, 1] | false => [1, 51, 3, 5, 5, 7, 7, 0, 7, 0, 8, 0, 8, 8, 0, 8, 0, 8, 67, 0, 2, 2, 10, 10, 10, 2, 9, 9, 0, 9, 0, 20, 0, 20, 20, 0, 20, 0, 20, 68, 0, 22, 22, 22, 21, 21, 21, 0, 21, 0, 21, 0, 17, 17, 17, 0, 17, 0, 23, 23, 0, 23, 0, 23, 23, 17, 23, 23, 23, 0, 23, 0, 23, 23, 17, 23, 23, 23, 0, 23, 0, 23, 23, 17, 23, 23, 25, 2, 2, 2, 2, 2, 2, 18, 18, 18, 0, 18, 0, 18, 0, 0, 19, 19, 19, 60, 1825, 0, 3, 27, 3, 53, 226, 2, 2, 2, 6, 6, 1]) (objTu W.params a pa l k i pl τp ps n rs nr (oldT f x) (oldC f cv)) N t p nv
    look [0, 1, 2, 3, 4, 5, 27] X = some (.again (ctxTu a q o) (posOf X), [some (liO l (i + 1)), some (frTu W.params (ktk X 1) l (adAt X 27) (some (enV X 2, enV X 3, enV X 4))), some (lsO ps n), some (lsO rs nr), some (celV (some (.str ⟨⟨rw⟩⟩ τr))), some (celV (some (.str ⟨⟨[34]⟩⟩ (vt X 1 3)))),
      some (lsO (ps ++ (⟨(mkP (wayR [34] rw).2 fun i => (nv 1).2.2.n (3 * i + 102)).reverse⟩ : Array Value)) 0)], [a.li, a.L, pa, l, a.cr, a.cp, adAt X 27], dup (eqsOf X), dupG (gsOf X), dupO (osOf X),
      (Small2 ps ⟨(mkP (wayR [34] rw).2 fun i => (nv 1).2.2.n (3 * i + 102)).reverse⟩ ∧ RevB ⟨mkP (wayR [34] rw).2 fun i => (nv 1).2.2.n (3 * i + 102)⟩ "slice" none none (some (-1)) ∧ FiltB 2 (pW rw) pl ∧ True ∧ ItB rs i (.str ⟨⟨rw⟩⟩ τr) ∧ True)) := by
  cases b <;> cases b2 <;> cases f <;> (intro W X; kernel_rfl)
theorem tu_e (w : World) (b b2 : Bool) (a : TuA) (pa l : Nat) (q : Nat → Pos) (o : OutL) (k : Nat → Nat) (i : Nat) (pl : List Nat) (τp : Nat) (ps : Array Value) (n : Nat) (rs : Array Value) (nr : Nat) (x : Value × Value × Value) (cv : Value) (N t : Nat) (p : Pos) (nv : Nv) :
    let W := wld w b b2
    let X := runTu W a q o 0 [0] pl 0 τp [1, 52, 3, 7, 0] (objTu W.params a pa l k i pl τp ps n rs nr (some x) (some cv)) N t p nv
    let l' := [(a.li, obAt X 0), (a.L, frTu W.params k l pa (some x)), (pa, lsO ps n), (l, lsO rs nr), (a.cr, celV (some cv)), (a.cp, celV (some (.str ⟨⟨pl⟩⟩ τp)))]
    look [0, 1, 2, 3, 4, 5] X = some (.done (.ok .next), os_ l', as_ l', dup (eqsOf X), dupG (gsOf X), dupO (osOf X), ((EndB rs i ∧ (none : Option Value) = none) ∧ True)) := by
  cases b <;> cases b2 <;> (intro W X l'; kernel_rfl)
/-! R401 -/
/-! ### _law_turned's loop (written by mkr4.py) -/
noncomputable def IsPl (pl : List Nat) : Prop := pl = [] ∨ pl = [39] ∨ pl = [34]
theorem way1_pl {pl : List Nat} {c : Nat} (h : IsPl pl) : IsPl (way1 pl c).1 := by
  unfold way1
  split
  · rename_i hc
    split
    · rcases hc with rfl | rfl
      · exact .inr (.inl rfl)
      · exact .inr (.inr rfl)
    · split
      · exact .inl rfl
      · exact h
  · split
    · split <;> exact .inl rfl
    · exact h
theorem way1_inj {pl pl' : List Nat} {c : Nat} (h : IsPl pl) (h' : IsPl pl') (hne : pl ≠ pl') : (way1 pl c).1 ≠ (way1 pl' c).1 := by
  unfold way1
  by_cases hc : c = 39 ∨ c = 34
  · rw [if_pos hc, if_pos hc]
    rcases hc with rfl | rfl <;> rcases h with rfl | rfl | rfl <;> rcases h' with rfl | rfl | rfl <;> first | exact absurd rfl hne | decide
  · rw [if_neg hc, if_neg hc]
    have e : ∀ q : List Nat, (if q = [] then (if c = 32 ∨ c = 9 ∨ c = 10 ∨ c = 13 then (([] : List Nat), none) else ([], some [c])) else (q, some [c])).1 = q := by
      intro q
      split
      · rename_i hq
        split <;> exact hq.symm
      · rfl
    rw [e, e]; exact hne
theorem wayR_pl : ∀ (r : List Nat) {pl : List Nat}, IsPl pl → IsPl (wayR pl r).1
  | [], _, h => h
  | c :: r, _, h => wayR_pl r (way1_pl h)
theorem wayR_inj : ∀ (r : List Nat) {pl pl' : List Nat}, IsPl pl → IsPl pl' → pl ≠ pl' → (wayR pl r).1 ≠ (wayR pl' r).1
  | [], _, _, _, _, h => h
  | c :: r, _, _, h, h', hne => wayR_inj r (way1_pl h) (way1_pl h') (way1_inj h h' hne)
/-- where a row's reading began, by where it ends -/
noncomputable def begP (pl r : List Nat) : List Nat := if (wayR [] r).1 = pl then [] else if (wayR [39] r).1 = pl then [39] else [34]
theorem beg_filt {pl r : List Nat} (h : IsPl pl) : (begP pl r = [] ∧ FiltB 0 (pW r) pl) ∨ (begP pl r = [39] ∧ FiltB 1 (pW r) pl) ∨ (begP pl r = [34] ∧ FiltB 2 (pW r) pl) := by
  have a0 : IsPl [] := .inl rfl
  have a1 : IsPl [39] := .inr (.inl rfl)
  have a2 : IsPl [34] := .inr (.inr rfl)
  have d01 := wayR_inj r a0 a1 (by decide)
  have d02 := wayR_inj r a0 a2 (by decide)
  have d12 := wayR_inj r a1 a2 (by decide)
  have b0 := wayR_pl r a0
  have b1 := wayR_pl r a1
  have b2 := wayR_pl r a2
  have three : ∀ {P : Nat → Prop}, P 0 → P 1 → P 2 → ∀ j, j < 3 → P j := fun h0 h1 h2 j hj => match j, hj with
    | 0, _ => h0
    | 1, _ => h1
    | 2, _ => h2
  by_cases h0 : (wayR [] r).1 = pl
  · refine .inl ⟨if_pos h0, by decide, h0, three (fun h => absurd rfl h) (fun _ e => d01 (h0.trans e.symm)) fun _ e => d02 (h0.trans e.symm)⟩
  · by_cases h1 : (wayR [39] r).1 = pl
    · refine .inr (.inl ⟨by unfold begP; rw [if_neg h0, if_pos h1], by decide, h1, three (fun _ => h0) (fun h => absurd rfl h) fun _ e => d12 (h1.trans e.symm)⟩)
    · refine .inr (.inr ⟨by unfold begP; rw [if_neg h0, if_neg h1], by decide, ?_, three (fun _ => h0) (fun _ => h1) fun h => absurd rfl h⟩)
      show (wayR [34] r).1 = pl
      generalize (wayR [] r).1 = x at *
      generalize (wayR [39] r).1 = y at *
      generalize (wayR [34] r).1 = z at *
      rcases h with rfl | rfl | rfl <;> rcases b0 with rfl | rfl | rfl <;> rcases b1 with rfl | rfl | rfl <;> rcases b2 with rfl | rfl | rfl <;> first | rfl | exact absurd rfl d01 | exact absurd rfl d02 | exact absurd rfl d12 | exact absurd rfl h0 | exact absurd rfl h1
theorem begP_pl (pl r : List Nat) : IsPl (begP pl r) := by
  unfold begP
  split
  · exact .inl rfl
  · split
    · exact .inr (.inl rfl)
    · exact .inr (.inr rfl)
noncomputable def turnR : List Nat → List (List Nat) → List Nat × List (Option (List Nat))
  | pl, [] => (pl, [])
  | pl, r :: rest => ((turnR (begP pl r) rest).1, (wayR (begP pl r) r).2.reverse ++ (turnR (begP pl r) rest).2)
theorem IsP.reverse : ∀ {vs : List Value} {ps : List (Option (List Nat))}, IsP vs ps → IsP vs.reverse ps.reverse
  | [], [], _ => trivial
  | .none :: r, none :: r', h => by
    rw [List.reverse_cons, List.reverse_cons]
    exact IsP.snocN (IsP.reverse (vs := r) (ps := r') h)
  | .str _ _ :: r, some _ :: r', h => by
    obtain ⟨rfl, h⟩ := h
    rw [List.reverse_cons, List.reverse_cons]
    exact IsP.snocS (IsP.reverse h)
theorem conTu_ok {w : World} {b b2 : Bool} {o : OutL} {m : Nat} {rw_ pl : List Nat} {τr τp : Nat} (hne : rw_ ≠ []) (hz : rw_.length ≤ 1000) {l0 : Nat} {s₀ : Shared} :
    ConOk (baseOf (kt (wld w b b2).params) 785 l0 s₀) (MW (wld w b b2)) (cfgW (wld w b b2) (conTu (wld w b b2).params o m rw_ pl τr τp)) := by
  intro j y Γ T m' ads tk s p g hg hx hn ho ob D
  replace hg : conTu (wld w b b2).params o m rw_ pl τr τp j y Γ Γ.code T ads = some g := hg
  by_cases h65 : j = 65
  · subst h65
    cases hb : isCo2 Γ.code with
    | false => simp only [conTu, hb] at hg; cases hg
    | true =>
      simp only [conTu, hb] at hg
      cases hg
      replace hx : Γ = _ := hx
      rw [hx]
      exact con_z (ch := fun ν => chWs (wld w b b2).params (adOf ads 7) (adOf ads 8) (adOf ads 9) (adOf ads 6) (adOf ads 4) (tkS (T.get 6)) rw_ τr ν) (nw := fun ν => nwWs (tkS (T.get 6)) rw_ ν) D rfl (by decide) hn ho (fun S H nd lo => ways_ok (a := aT ads) hne hz S H nd lo) (fun ν => rfl) (fun ν => newsIx rfl)
  · by_cases h66 : j = 66
    · subst h66
      cases hb : isCo2 Γ.code with
      | false => simp only [conTu, hb] at hg; cases hg
      | true =>
        simp only [conTu, hb] at hg
        cases hg
        replace hx : Γ = _ := hx
        rw [hx]
        exact con_z (ch := fun ν => chFl (adOf ads 19) (adOf ads 20) (adOf ads 21) (adOf ads 8) (adOf ads 5) (tA ads) (wAA ads) pl τp fPl (tT T) (pW rw_) (tE T) (lA ads) m (ν.ob 0) (locO (wld w b b2).params (ν.n 0) (tA ads 2))) (nw := fun ν => []) D rfl (by decide) hn ho (fun S H nd lo => filt_ok (a := aT ads) ob S H nd lo) (fun ν => rfl) (fun ν k hk => absurd hk (Nat.not_lt_zero _))
    · have : conTu (wld w b b2).params o m rw_ pl τr τp j y Γ Γ.code T ads = conV ⟨⟨orc0, fun _ => []⟩, fun _ => .str ⟨⟨rw_⟩⟩ τr⟩ j y Γ Γ.code T ads := by
        unfold conTu
        split
        · exact absurd rfl h65
        · exact absurd rfl h66
        · rfl
      rw [this] at hg
      exact conV_ok _ _ _ _ _ _ _ _ _ _ _ hg hx hn ho ob D
theorem tu_loop {w : World} {b b2 : Bool} {a : TuA} {l : Nat} {q : Nat → Pos} {o : OutL} {rv : List Value} {rows : List (List Nat)} {nr : Nat} {R : Result → Shared → Prop} (hrv : IsWords rv rows) (hz : rows.length ≤ 100) (h1 : ∀ r ∈ rows, r ≠ [] ∧ r.length ≤ 12) :
    ∀ (r : List (List Nat)) {i : Nat} {pl : List Nat} {τp : Nat} {psv : List Value} {ps : List (Option (List Nat))} {n : Nat} {k : Nat → Nat} {x : Option (Value × Value × Value)} {cv : Option Value} {pa : Nat} {s : Shared} {p : Pos} (S : Top (wld w b b2) s) (hpl : IsPl pl) (nd : [a.li, a.L, pa, l, a.cr, a.cp].Nodup) (lo : ∀ y ∈ [a.li, a.L, pa, l, a.cr, a.cp], 785 ≤ y)
      (hr : rows.drop i = r) (hs : r = [] → x ≠ none) (hxc : x = none ↔ cv = none) (hv : IsP psv ps) (hm : ps.length ≤ 12 * i) (hi : i ≤ rows.length)
      (H : Holds s (objTu (wld w b b2).params a pa l k i pl τp ⟨psv⟩ n ⟨rv⟩ nr x cv))
      (fin : ∀ (psv' : List Value) (n' pa' : Nat) (k' : Nat → Nat) (y : Value × Value × Value) (cv' : Value) (τ' : Nat) (ob : Obj) (s' : Shared), IsP psv' (ps ++ (turnR pl r).2) → Keep [a.li, a.L, l, a.cr, a.cp] s s' →
        Holds s' [(a.li, ob), (a.L, frTu (wld w b b2).params k' l pa' (some y)), (l, lsO ⟨rv⟩ nr), (a.cr, celV (some cv')), (a.cp, celV (some (.str ⟨⟨(turnR pl r).1⟩⟩ τ'))), (pa', lsO ⟨psv'⟩ n')] → ((r = [] ∧ pa' = pa) ∨ s.heap.objs.size ≤ pa') → R (.ok .next) s'),
      wpCode (MW (wld w b b2)) (ctxTu a q o) R p s
  | [], i, pl, τp, psv, ps, n, k, x, cv, pa, s, p, S, hpl, nd, lo, hr, hs, hxc, hv, hm, hi, H, fin => by
    obtain ⟨y, rfl⟩ : ∃ y, x = some y := Option.ne_none_iff_exists'.mp (hs rfl)
    obtain ⟨c0, rfl⟩ : ∃ y, cv = some y := Option.ne_none_iff_exists'.mp fun h => by have := hxc.mpr h; cases this
    have hend : EndB ⟨rv⟩ i := endB hrv.length (by
      have := congrArg List.length hr
      rw [List.length_drop, List.length_nil] at this
      omega)
    have lo' : ∀ z ∈ objTu (wld w b b2).params a pa l k i pl τp ⟨psv⟩ n ⟨rv⟩ nr (some y) (some c0), 785 ≤ z.1 := fun z hz => lo _ (List.mem_map.mpr ⟨z, hz, rfl⟩)
    refine runL_ok (env := envTu a.L a.cr a.cp) (fl := false) [] (conTu_ok (o := o) (m := 0) (rw_ := [0]) (pl := pl) (τr := 0) (τp := τp) (by simp) (by simp)) rfl S H nd lo' _ _ (fun _ => []) _ (fun nv => tu_e w b b2 a pa l q o k i pl τp ⟨psv⟩ n ⟨rv⟩ nr y c0 _ _ p nv) (fun _ => ⟨⟨hend, rfl⟩, trivial⟩) fun nv s' Af => ?_
    try dsimp only at Af
    generalize runTu _ _ _ _ _ _ _ _ _ _ _ _ _ _ _ = X at Af
    have D := did0 (l' := [(a.li, obAt X 0), (a.L, frTu (wld w b b2).params k l pa (some y)), (pa, lsO ⟨psv⟩ n), (l, lsO ⟨rv⟩ nr), (a.cr, celV (some c0)), (a.cp, celV (some (.str ⟨⟨pl⟩⟩ τp)))]) Af rfl
    refine fin psv n pa k y c0 τp (obAt X 0) s' (by rw [turnR, List.append_nil]; exact hv) (keep_drop D.keep fun z ha hb => ?_) (fun z hz => D.holds z ?_) (.inl ⟨rfl, rfl⟩)
    · have : z = pa := by
        simp only [List.map_cons, List.map_nil, List.mem_cons, List.not_mem_nil, or_false, not_or] at ha hb
        rcases ha with h | h | h | h | h | h
        · exact absurd h hb.1
        · exact absurd h hb.2.1
        · exact h
        · exact absurd h hb.2.2.1
        · exact absurd h hb.2.2.2.1
        · exact absurd h hb.2.2.2.2
      subst this
      exact ⟨_, H (z, lsO ⟨psv⟩ n) (by simp [objTu]), D.holds (z, lsO ⟨psv⟩ n) (by simp)⟩
    · simp only [List.mem_cons, List.not_mem_nil, or_false] at hz ⊢
      rcases hz with rfl | rfl | rfl | rfl | rfl | rfl <;> simp [turnR]
  | rw_ :: r, i, pl, τp, psv, ps, n, k, x, cv, pa, s, p, S, hpl, nd, lo, hr, hs, hxc, hv, hm, hi, H, fin => by
    obtain ⟨hc, hr2, hlt⟩ := drop_consG hr
    obtain ⟨τ, hit⟩ := words_get hrv hc
    obtain ⟨hrn, hrl⟩ := h1 rw_ (List.mem_of_getElem? hc)
    have go : ∀ {f : List Nat} {τf : Nat} {k2 : Nat → Nat} {pa1 : Nat} {x2 : Value × Value × Value} {τs : Nat → Nat} {p2 : Pos} {s1 : Shared}, begP pl rw_ = f →
        Did s s1 [(a.li, liO l (i + 1)), (a.L, frTu (wld w b b2).params k2 l pa1 (some x2)), (pa, lsO ⟨psv⟩ n), (l, lsO ⟨rv⟩ nr), (a.cr, celV (some (.str ⟨⟨rw_⟩⟩ τ))), (a.cp, celV (some (.str ⟨⟨f⟩⟩ τf)))] [(pa1, lsO ((⟨psv⟩ : Array Value) ++ (⟨(mkP (wayR f rw_).2 τs).reverse⟩ : Array Value)) 0)] →
        wpCode (MW (wld w b b2)) (ctxTu a q o) R p2 s1 := by
      intro f τf k2 pa1 x2 τs p2 s1 hf D
      have ea : (⟨psv⟩ : Array Value) ++ (⟨(mkP (wayR f rw_).2 τs).reverse⟩ : Array Value) = ⟨psv ++ (mkP (wayR f rw_).2 τs).reverse⟩ := by simp
      rw [ea] at D
      have hy1 : s.heap.objs.size ≤ pa1 := D.young _ (List.mem_cons_self ..)
      have hold : ∀ a o, s.heap.get? a = some o → a ≠ pa1 := fun a o h e => by
        have := Heap.lt_size h
        exact absurd hy1 (Nat.not_le.mpr (e ▸ this))
      have i1 := hold a.li _ (H (a.li, liO l i) (by simp [objTu]))
      have i2 := hold a.L _ (H (a.L, frTu (wld w b b2).params k l pa x) (by simp [objTu]))
      have i3 := hold l _ (H (l, lsO ⟨rv⟩ nr) (by simp [objTu]))
      have i4 := hold a.cr _ (H (a.cr, celV cv) (by simp [objTu]))
      have i5 := hold a.cp _ (H (a.cp, celV (some (.str ⟨⟨pl⟩⟩ τp))) (by simp [objTu]))
      have nd1 : [a.li, a.L, pa1, l, a.cr, a.cp].Nodup := by
        simp only [List.nodup_cons, List.mem_cons, List.not_mem_nil, or_false, not_or, List.nodup_nil, and_true, not_false_eq_true] at nd ⊢
        exact ⟨⟨nd.1.1, i1, nd.1.2.2⟩, ⟨i2, nd.2.1.2⟩, ⟨fun h => i3 h.symm, fun h => i4 h.symm, fun h => i5 h.symm⟩, nd.2.2.2⟩
      have hpa1 : 785 ≤ pa1 := Nat.le_trans S.top hy1
      have lo1 : ∀ y ∈ [a.li, a.L, pa1, l, a.cr, a.cp], 785 ≤ y := fun y hy => by
        simp only [List.mem_cons, List.not_mem_nil, or_false] at hy lo
        rcases hy with h | h | h | h
        · exact lo _ (.inl h)
        · exact lo _ (.inr (.inl h))
        · exact h ▸ hpa1
        · exact lo _ (.inr (.inr (.inr h)))
      have K1 : Keep [a.li, a.L, l, a.cr, a.cp] s s1 := keep_drop D.keep fun z ha hb => by
        have : z = pa := by
          simp only [List.map_cons, List.map_nil, List.mem_cons, List.not_mem_nil, or_false, not_or] at ha hb
          rcases ha with h | h | h | h | h | h
          · exact absurd h hb.1
          · exact absurd h hb.2.1
          · exact h
          · exact absurd h hb.2.2.1
          · exact absurd h hb.2.2.2.1
          · exact absurd h hb.2.2.2.2
        subst this
        exact ⟨_, H (z, lsO ⟨psv⟩ n) (by simp [objTu]), D.holds (z, lsO ⟨psv⟩ n) (by simp)⟩
      have H1 : Holds s1 (objTu (wld w b b2).params a pa1 l k2 (i + 1) f τf ⟨psv ++ (mkP (wayR f rw_).2 τs).reverse⟩ 0 ⟨rv⟩ nr (some x2) (some (.str ⟨⟨rw_⟩⟩ τ))) := by
        intro z hz
        simp only [objTu, List.mem_cons, List.not_mem_nil, or_false] at hz
        rcases hz with rfl | rfl | rfl | rfl | rfl | rfl
        · exact D.holds _ (by simp)
        · exact D.holds _ (by simp)
        · exact D.new _ (by simp)
        · exact D.holds _ (by simp)
        · exact D.holds _ (by simp)
        · exact D.holds _ (by simp)
      have hfp : IsPl f := hf ▸ begP_pl pl rw_
      refine tu_loop hrv hz h1 r (Did.sane S D (fun y hy => lo _ (List.mem_map.mpr ⟨y, hy, rfl⟩))) hfp nd1 lo1 hr2 (fun _ h => by cases h) (by simp) (hv.append (isP_mk _ _).reverse) (by rw [List.length_append, List.length_reverse, wayR_len]; omega) hlt H1 fun psv' n' pa' k' y' cv' τ' ob s' hv' K2 H2 hy2 => ?_
      refine fin psv' n' pa' k' y' cv' τ' ob s' (by rw [turnR, hf, ← List.append_assoc]; exact hv') (K1.trans K2) (by rw [turnR, hf]; exact H2) (.inr ?_)
      rcases hy2 with ⟨_, rfl⟩ | h
      · exact hy1
      · exact Nat.le_trans D.keep.size h
    have key : ∀ (f : Bool) (y : Value × Value × Value) (c0 : Value), x = oldT f y → cv = oldC f c0 → wpCode (MW (wld w b b2)) (ctxTu a q o) R p s := by
      intro f y c0 e ec
      subst e ec
      have lo' : ∀ z ∈ objTu (wld w b b2).params a pa l k i pl τp ⟨psv⟩ n ⟨rv⟩ nr (oldT f y) (oldC f c0), 785 ≤ z.1 := fun z hz => lo _ (List.mem_map.mpr ⟨z, hz, rfl⟩)
      have hlen : ∀ g τ, (mkP (wayR g rw_).2 τ).length = rw_.length := fun g τ => by rw [(isP_mk _ _).length, wayR_len]
      have hsm : ∀ g τ, Small2 ⟨psv⟩ ⟨(mkP (wayR g rw_).2 τ).reverse⟩ := fun g τ => ⟨by show psv.length ≤ _; rw [hv.length]; omega, by
        show (mkP (wayR g rw_).2 τ).reverse.length ≤ _
        rw [List.length_reverse, hlen]; omega⟩
      have hrv2 : ∀ g τ, RevB ⟨mkP (wayR g rw_).2 τ⟩ "slice" none none (some (-1)) := fun g τ => ⟨rfl, rfl, rfl, rfl, by
        show (mkP (wayR g rw_).2 τ).length ≤ _
        rw [hlen]; omega⟩
      rcases beg_filt (r := rw_) hpl with ⟨hf, hF⟩ | ⟨hf, hF⟩ | ⟨hf, hF⟩
      · refine runL_ok (env := envTu a.L a.cr a.cp) (fl := false) [27] (conTu_ok (o := o) (m := 0) (rw_ := rw_) (pl := pl) (τr := τ) (τp := τp) hrn (by omega)) rfl S H nd lo' _ _ (fun _ => [_]) _ (fun nv => tu_0 w b b2 f a pa l q o k i rw_ pl τ τp ⟨psv⟩ n ⟨rv⟩ nr y c0 _ _ p nv) (fun _ => ⟨hsm _ _, hrv2 _ _, hF, trivial, itB hit, trivial⟩) fun nv s1 Af => ?_
        try dsimp only at Af
        generalize runTu _ _ _ _ _ _ _ _ _ _ _ _ _ _ _ = X at Af ⊢
        exact go hf (Af.did [(a.li, liO l (i + 1)), (a.L, frTu (wld w b b2).params (ktk X 1) l (adAt X 27) (some (enV X 2, enV X 3, enV X 4))), (pa, lsO ⟨psv⟩ n), (l, lsO ⟨rv⟩ nr), (a.cr, celV (some (.str ⟨⟨rw_⟩⟩ τ))), (a.cp, celV (some (.str ⟨⟨[]⟩⟩ (vt X 1 3))))] [(adAt X 27, lsO ((⟨psv⟩ : Array Value) ++ (⟨(mkP (wayR [] rw_).2 fun i => (nv 1).2.2.n (3 * i + 100)).reverse⟩ : Array Value)) 0)] [27] rfl rfl rfl (by simp) (by simp) rfl rfl)
      · refine runL_ok (env := envTu a.L a.cr a.cp) (fl := false) [27] (conTu_ok (o := o) (m := 1) (rw_ := rw_) (pl := pl) (τr := τ) (τp := τp) hrn (by omega)) rfl S H nd lo' _ _ (fun _ => [_]) _ (fun nv => tu_1 w b b2 f a pa l q o k i rw_ pl τ τp ⟨psv⟩ n ⟨rv⟩ nr y c0 _ _ p nv) (fun _ => ⟨hsm _ _, hrv2 _ _, hF, trivial, itB hit, trivial⟩) fun nv s1 Af => ?_
        try dsimp only at Af
        generalize runTu _ _ _ _ _ _ _ _ _ _ _ _ _ _ _ = X at Af ⊢
        exact go hf (Af.did [(a.li, liO l (i + 1)), (a.L, frTu (wld w b b2).params (ktk X 1) l (adAt X 27) (some (enV X 2, enV X 3, enV X 4))), (pa, lsO ⟨psv⟩ n), (l, lsO ⟨rv⟩ nr), (a.cr, celV (some (.str ⟨⟨rw_⟩⟩ τ))), (a.cp, celV (some (.str ⟨⟨[39]⟩⟩ (vt X 1 3))))] [(adAt X 27, lsO ((⟨psv⟩ : Array Value) ++ (⟨(mkP (wayR [39] rw_).2 fun i => (nv 1).2.2.n (3 * i + 101)).reverse⟩ : Array Value)) 0)] [27] rfl rfl rfl (by simp) (by simp) rfl rfl)
      · refine runL_ok (env := envTu a.L a.cr a.cp) (fl := false) [27] (conTu_ok (o := o) (m := 2) (rw_ := rw_) (pl := pl) (τr := τ) (τp := τp) hrn (by omega)) rfl S H nd lo' _ _ (fun _ => [_]) _ (fun nv => tu_2 w b b2 f a pa l q o k i rw_ pl τ τp ⟨psv⟩ n ⟨rv⟩ nr y c0 _ _ p nv) (fun _ => ⟨hsm _ _, hrv2 _ _, hF, trivial, itB hit, trivial⟩) fun nv s1 Af => ?_
        try dsimp only at Af
        generalize runTu _ _ _ _ _ _ _ _ _ _ _ _ _ _ _ = X at Af ⊢
        exact go hf (Af.did [(a.li, liO l (i + 1)), (a.L, frTu (wld w b b2).params (ktk X 1) l (adAt X 27) (some (enV X 2, enV X 3, enV X 4))), (pa, lsO ⟨psv⟩ n), (l, lsO ⟨rv⟩ nr), (a.cr, celV (some (.str ⟨⟨rw_⟩⟩ τ))), (a.cp, celV (some (.str ⟨⟨[34]⟩⟩ (vt X 1 3))))] [(adAt X 27, lsO ((⟨psv⟩ : Array Value) ++ (⟨(mkP (wayR [34] rw_).2 fun i => (nv 1).2.2.n (3 * i + 102)).reverse⟩ : Array Value)) 0)] [27] rfl rfl rfl (by simp) (by simp) rfl rfl)
    cases x with
    | none => exact key true (.none, .none, .none) .none rfl (hxc.mp rfl)
    | some y =>
      obtain ⟨c0, rfl⟩ : ∃ y, cv = some y := Option.ne_none_iff_exists'.mp fun h => by have := hxc.mpr h; cases this
      exact key false y c0 rfl rfl
/-! R501 -/
/-! ### _law_turned, called -/
noncomputable def ctxTuC (o : OutL) (l : Nat) : Ctx := ctxOf (.call (.ref 779) ⟨[.ref l], []⟩) (outL o)
noncomputable def celTok (o : Option Obj) : Nat := match o with
  | some o => match o.data with
    | .cell (some v) => vtok v
    | _ => 0
  | none => 0
noncomputable def aC (ads : Ads) : TuA := ⟨adOf ads 5, adOf ads 1, adOf ads 3, adOf ads 2⟩
noncomputable def tuCh (P : Params) (a : TuA) (pa l : Nat) (pl : List Nat) (rv : List Value) (nr : Nat) (ν : Unk) : List (Nat × Obj) := [(a.li, ν.ob 0), (a.L, frTu P (fun i => ν.n (i + 10)) l (ν.n 0) (some (vsAt ν 0, vsAt ν 1, vsAt ν 2))), (pa, lsO ⟨[]⟩ 0), (l, lsO ⟨rv⟩ nr), (a.cr, celV (some (vsAt ν 3))), (a.cp, celV (some (.str ⟨⟨pl⟩⟩ (ν.n 2))))]
noncomputable def ixTu : List Nat := [5, 1, 4, 0, 3, 2]
noncomputable def conTC (P : Params) (o : OutL) (pl : List Nat) (ps : List (Option (List Nat))) (rv : List Value) (nr : Nat) : CF := fun j x Γ cd T ads => match j with
  | 67 => match isFL cd with
    | true => some (conS T ads (ctxTu (aC ads) (fun _ => posN Γ.below 0) (oBel o Γ.below 1)) (zip3 ixTu (objTu P (aC ads) (adOf ads 4) (adOf ads 0) (fk T 1) 0 [] (celTok (T.get 2)) ⟨[]⟩ 0 ⟨rv⟩ nr none none)) True
        (fun _ => .ok .next) (fun ν => zip2 ixTu (tuCh P (aC ads) (adOf ads 4) (adOf ads 0) pl rv nr ν)) fun ν => news_ (stNew ps ν))
    | false => none
  | 63 => conWC T ads (fTu (adOf ads 1) (adOf ads 3) (adOf ads 2)) (fun _ => posN Γ.below 0) (oBel o Γ.below 1) x pl ps (strTok cd)
  | j => conV ⟨⟨orc0, fun _ => []⟩, fun _ => .none⟩ j x Γ cd T ads
noncomputable def turnP (rows : List (List Nat)) : Option (List (List Nat)) := wordsP (turnR [] rows).1 (turnR [] rows).2
theorem tc (w : World) (b b2 : Bool) (o : OutL) (pl : List Nat) (ps : List (Option (List Nat))) (rv : List Value) (nr l : Nat) (N t : Nat) (p : Pos) (nv : Nv) :
    let W := wld w b b2
    let X := runC (cfgW W (conTC W.params o pl ps rv nr)) 110 (ctxTuC o l) p [0, 0, 2, 2, 0, 1001, 3, 3, 2, 2, 2, 1, 1, 0, 1, 0, 6, 68, 0, 0, 3, 2, 0, 64, 6] [(l, lsO ⟨rv⟩ nr)] N t nv
    look [0, 7] X = some (.done (.ok (.ret (lspV (wordsP pl ps) (adAt X 7)))), [some (lsO ⟨rv⟩ nr), some (lspO (wordsP pl ps) (nv 1).2.2)], [l, adAt X 7], dup (eqsOf X), dupG (gsOf X), dupO (osOf X), (IsP (mkP ps fun i => (nv 0).2.2.n (i + 100)) ps ∧ True ∧ True)) := by
  cases pl with
  | nil => cases b <;> cases b2 <;> (intro W X; kernel_rfl)
  | cons a r => cases b <;> cases b2 <;> (intro W X; kernel_rfl)
theorem turnR_one : ∀ (rows : List (List Nat)) (pl : List Nat), ∀ x, some x ∈ (turnR pl rows).2 → x.length ≤ 1
  | [], _, x, h => by simp [turnR] at h
  | r :: rest, pl, x, h => by
    rw [turnR] at h
    rcases List.mem_append.mp h with h | h
    · exact wayR_one r _ x (List.mem_reverse.mp h)
    · exact turnR_one rest _ x h
theorem turnR_len : ∀ (rows : List (List Nat)) (pl : List Nat), (∀ r ∈ rows, r.length ≤ 12) → (turnR pl rows).2.length ≤ 12 * rows.length
  | [], _, _ => Nat.zero_le _
  | r :: rest, pl, h => by
    rw [turnR, List.length_append, List.length_reverse, wayR_len, List.length_cons]
    have h1 := h r (List.mem_cons_self ..)
    have h2 := turnR_len rest (begP pl r) fun x hx => h x (List.mem_cons_of_mem _ hx)
    omega
theorem conTC_ok {w : World} {b b2 : Bool} {o : OutL} {rows : List (List Nat)} {rv : List Value} {nr : Nat} (hrv : IsWords rv rows) (hz : rows.length ≤ 80) (h1 : ∀ r ∈ rows, r ≠ [] ∧ r.length ≤ 12) (hne : rows ≠ []) {l0 : Nat} {s₀ : Shared} :
    ConOk (baseOf (kt (wld w b b2).params) 785 l0 s₀) (MW (wld w b b2)) (cfgW (wld w b b2) (conTC (wld w b b2).params o (turnR [] rows).1 (turnR [] rows).2 rv nr)) := by
  intro j y Γ T m ads tk s p g hg hx hn ho ob D
  replace hg : conTC (wld w b b2).params o (turnR [] rows).1 (turnR [] rows).2 rv nr j y Γ Γ.code T ads = some g := hg
  by_cases h : j = 67
  · subst h
    cases hb : isFL Γ.code with
    | false => simp only [conTC, hb] at hg; cases hg
    | true =>
      simp only [conTC, hb] at hg
      cases hg
      replace hx : Γ = _ := hx
      rw [hx]
      refine con_z (ch := fun ν => tuCh (wld w b b2).params (aC ads) (adOf ads 4) (adOf ads 0) (turnR [] rows).1 rv nr ν) (nw := fun ν => stNew (turnR [] rows).2 ν) D rfl (by decide) hn ho (fun S H nd lo => ?_) (fun ν => rfl) (fun ν k hk => by
        match k, hk with
        | 0, _ => rfl)
      have nd' : [(aC ads).li, (aC ads).L, adOf ads 4, adOf ads 0, (aC ads).cr, (aC ads).cp].Nodup := nd
      have lo' : ∀ y ∈ [(aC ads).li, (aC ads).L, adOf ads 4, adOf ads 0, (aC ads).cr, (aC ads).cp], 785 ≤ y := fun y hy => by
        obtain ⟨z, hz, rfl⟩ := List.mem_map.mp (show y ∈ (objTu (wld w b b2).params (aC ads) (adOf ads 4) (adOf ads 0) (fk T 1) 0 [] (celTok (T.get 2)) ⟨[]⟩ 0 ⟨rv⟩ nr none none).map (·.1) from hy)
        exact lo z hz
      generalize aC ads = a at H nd' lo' ⊢
      generalize adOf ads 4 = pa at H nd' lo' ⊢
      generalize adOf ads 0 = l at H nd' lo' ⊢
      refine tu_loop hrv (by omega) h1 rows (psv := []) (ps := []) S (.inl rfl) nd' lo' rfl (fun h => absurd h hne) (by simp) trivial (Nat.zero_le _) (Nat.zero_le _) H fun psv' n' pa' k' y cv' τ' ob' s' hv K H2 hy => ?_
      rw [List.nil_append] at hv
      obtain ⟨t, rfl⟩ := isP_mkP hv
      refine ⟨⟨fun i => if 100 ≤ i then t (i - 100) else if 10 ≤ i then k' (i - 10) else if i = 0 then pa' else if i = 1 then n' else τ', fun _ => #[], fun i => #[if i = 0 then y.1 else if i = 1 then y.2.1 else if i = 2 then y.2.2 else cv'], fun _ => ob'⟩, rfl, ?_⟩
      have e : ∀ k : Nat → Nat, (∀ i, i < 5 → k i = k' i) → frTu (wld w b b2).params k l pa' (some (y.1, y.2.1, y.2.2)) = frTu (wld w b b2).params k' l pa' (some y) := by
        intro k h1
        unfold frTu
        simp only [h1 0 (by decide), h1 1 (by decide), h1 2 (by decide), h1 3 (by decide), h1 4 (by decide)]
      have e2 : (fun i => if 100 ≤ i + 100 then t (i + 100 - 100) else if 10 ≤ i + 100 then k' (i + 100 - 10) else if i + 100 = 0 then pa' else if i + 100 = 1 then n' else τ') = t := by
        funext i
        rw [if_pos (Nat.le_add_left 100 i)]
        exact congrArg t (Nat.add_sub_cancel i 100)
      show Did s s' [(a.li, ob'), (a.L, frTu _ (fun i => if 100 ≤ i + 10 then t (i + 10 - 100) else if 10 ≤ i + 10 then k' (i + 10 - 10) else if i + 10 = 0 then pa' else if i + 10 = 1 then n' else τ') _ pa' (some (y.1, y.2.1, y.2.2))), (pa, lsO ⟨[]⟩ 0), (l, lsO ⟨rv⟩ nr), (a.cr, celV (some cv')), (a.cp, celV (some (.str ⟨⟨_⟩⟩ τ')))] [(pa', lsO ⟨mkP _ fun i => if 100 ≤ i + 100 then t (i + 100 - 100) else if 10 ≤ i + 100 then k' (i + 100 - 10) else if i + 100 = 0 then pa' else if i + 100 = 1 then n' else τ'⟩ n')]
      rw [e2, e _ (fun i hi => ?_)]
      · have hy : s.heap.objs.size ≤ pa' := hy.elim (fun h => absurd h.1 hne) id
        have h2 : s'.heap.get? pa = some (lsO ⟨[]⟩ 0) := K.keep _ _ (H (pa, lsO ⟨[]⟩ 0) (by simp [objTu])) (by
          simp only [List.nodup_cons, List.mem_cons, List.not_mem_nil, or_false, not_or, List.nodup_nil, and_true, not_false_eq_true] at nd' ⊢
          exact ⟨fun h => nd'.1.2.1 h.symm, fun h => nd'.2.1.1 h.symm, nd'.2.2.1.1, nd'.2.2.1.2.1, nd'.2.2.1.2.2⟩)
        refine ⟨K.mono (by simp), fun z hz => ?_, fun z hz => H2 z (by simp only [List.mem_cons, List.not_mem_nil, or_false] at hz ⊢; exact .inr (.inr (.inr (.inr (.inr hz))))), fun z hz => ?_, by simp⟩
        · simp only [List.mem_cons, List.not_mem_nil, or_false] at hz
          rcases hz with rfl | rfl | rfl | rfl | rfl | rfl
          · exact H2 _ (by simp)
          · exact H2 _ (by simp)
          · exact h2
          · exact H2 _ (by simp)
          · exact H2 _ (by simp)
          · exact H2 _ (by simp)
        · simp only [List.mem_cons, List.not_mem_nil, or_false] at hz
          subst hz
          exact hy
      · show (if 100 ≤ i + 10 then _ else if 10 ≤ i + 10 then k' (i + 10 - 10) else _) = k' i
        rw [if_neg (by omega), if_pos (by omega), Nat.add_sub_cancel]
  · by_cases h3 : j = 63
    · subst h3
      have hlen := turnR_len rows [] fun r hr => (h1 r hr).2
      exact wcCon_ok (by omega) (turnR_one rows []) hg hx hn ho ob D
    · have : conTC (wld w b b2).params o (turnR [] rows).1 (turnR [] rows).2 rv nr j y Γ Γ.code T ads = conV ⟨⟨orc0, fun _ => []⟩, fun _ => .none⟩ j y Γ Γ.code T ads := by
        unfold conTC
        split
        · exact absurd rfl h
        · exact absurd rfl h3
        · rfl
      rw [this] at hg
      exact conV_ok _ _ _ _ _ _ _ _ _ _ _ hg hx hn ho ob D
theorem turned_ok {w : World} {b b2 : Bool} {o : OutL} {rows : List (List Nat)} {rv : List Value} {nr l : Nat} (hrv : IsWords rv rows) (hz : rows.length ≤ 80) (h1 : ∀ r ∈ rows, r ≠ [] ∧ r.length ≤ 12) (hne : rows ≠ []) {s : Shared} {p : Pos} (S : Top (wld w b b2) s) (H : Holds s [(l, lsO ⟨rv⟩ nr)]) (lo : 785 ≤ l) :
    wpCode (MW (wld w b b2)) (ctxTuC o l) (fun r s' => ∃ ν : Unk, r = .ok (.ret (lspV (turnP rows) (ν.n 0))) ∧ Did s s' [(l, lsO ⟨rv⟩ nr)] [(ν.n 0, lspO (turnP rows) ν)]) p s := by
  refine runC_ok [7] (conTC_ok (o := o) (nr := nr) hrv hz h1 hne) S H (by simp) (by simpa using lo) _ _ (fun _ => [_]) _ (fun nv => tc w b b2 o (turnR [] rows).1 (turnR [] rows).2 rv nr l _ _ p nv) (fun _ => ⟨isP_mk _ _, trivial, trivial⟩) fun nv s' Af => ?_
  try dsimp only at Af
  generalize runC _ _ _ _ _ _ _ _ _ = X at Af ⊢
  refine ⟨⟨fun i => match i with | 0 => adAt X 7 | i => (nv 1).2.2.n i, fun _ => #[], fun _ => #[], (nv 1).2.2.ob⟩, rfl, ?_⟩
  have D := Af.did [(l, lsO ⟨rv⟩ nr)] [(adAt X 7, lspO (turnP rows) (nv 1).2.2)] [7] rfl rfl rfl (by simp) (by simp) rfl rfl
  have e : lspO (turnP rows) ⟨fun i => match i with | 0 => adAt X 7 | i => (nv 1).2.2.n i, fun _ => #[], fun _ => #[], (nv 1).2.2.ob⟩ = lspO (turnP rows) (nv 1).2.2 := by
    unfold lspO
    split <;> rfl
  rw [e]
  exact D
/-! T101 -/
/-! ### _byteswap (written by mkt2.py) -/
noncomputable def dBS : Stmt := nthS 3 F.main.body
noncomputable def envBS (L : Nat) : Env := envOfD dBS [95, 98, 121, 116, 101, 115, 119, 97, 112] 46 45 L
noncomputable def ctxBI (o : OutL) (a Lb n t : Nat) (q : Nat → Pos) : Ctx := ctxOf (.builtin "bytearray.__init__" ⟨[.ref a, .int (.ofNat n) t], []⟩)
  ((.builtin "type.__call__" ⟨[.type "bytearray", .int (.ofNat n) t], []⟩, q 0) :: (.func (fnB dBS) (envBS Lb), q 1) :: outL o)
theorem and_flip : and = fun a b => and b a := by funext a b; exact Bool.and_comm a b
theorem bainit_ok {w : World} {b b2 : Bool} {o : OutL} {a Lb t n : Nat} (hn : n ≤ 12) {q : Nat → Pos} {s : Shared} {p : Pos} {R : Result → Shared → Prop} (S : Top (wld w b b2) s) (H : Holds s [(a, baO [])]) (lo : 785 ≤ a)
    (fin : ∀ s', Did s s' [(a, baO (List.replicate n 0))] [] → R (.ok (.ret .none)) s') : wpCode (MW (wld w b b2)) (ctxBI o a Lb n t q) R p s := by
  refine bwp entry_bainit rfl ?_
  unfold Builtin.«bytearray.__init__» Builtin.Bytes.exported
  rw [and_flip]
  refine run_tree (C := cfgW (wld w b b2) (conO orc0)) (n := 52) (hs := [1, 1, 1, 1, 1, 1, 1, 1, 1]) (ext := []) (den_ok _ _) rfl rfl rfl (conO_good orc0) (lvTree_ok (by show lvF = lvTree; exact lv_eq.symm)) S H (by simp) (by simpa using lo)
    (fun nv => .done (.ok (.ret .none))) (fun nv => os_ [(a, baO (List.replicate n 0))]) (fun _ => []) (fun _ => True) (fun nv => ?_) (fun _ => trivial) fun nv s2 Af => ?_
  · rw [show @sx = @sxF from sx_eq]
    match n, hn with
    | 0, _ => cases b <;> (intro X0; kernel_rfl)
    | 1, _ => cases b <;> (intro X0; kernel_rfl)
    | 2, _ => cases b <;> (intro X0; kernel_rfl)
    | 3, _ => cases b <;> (intro X0; kernel_rfl)
    | 4, _ => cases b <;> (intro X0; kernel_rfl)
    | 5, _ => cases b <;> (intro X0; kernel_rfl)
    | 6, _ => cases b <;> (intro X0; kernel_rfl)
    | 7, _ => cases b <;> (intro X0; kernel_rfl)
    | 8, _ => cases b <;> (intro X0; kernel_rfl)
    | 9, _ => cases b <;> (intro X0; kernel_rfl)
    | 10, _ => cases b <;> (intro X0; kernel_rfl)
    | 11, _ => cases b <;> (intro X0; kernel_rfl)
    | 12, _ => cases b <;> (intro X0; kernel_rfl)
    | n + 13, h => exact absurd h (by omega)
  · exact fin s2 (Af.did [(a, baO (List.replicate n 0))] [] [] rfl rfl rfl (by simp) (by simp) rfl rfl)
noncomputable def qB (bel : List (Code × Pos)) (i : Nat) : Pos := match i with
  | 0 => posN bel 0
  | _ => posN bel 1
noncomputable def isBI : Code → Option Nat
  | .builtin "bytearray.__init__" ⟨[.ref _, .int (.ofNat _) t], _⟩ => some t
  | _ => none
noncomputable def baOf : Option Obj → Option (List UInt8)
  | some ⟨_, _, .bytearray ⟨us⟩ _, _⟩ => some us
  | _ => none
noncomputable def conBS (o : OutL) (n : Nat) : CF := fun j x Γ c T ads => match j with
  | 23 => match isBI c with
    | some t => some (conS T ads (ctxBI o (adOf ads 1) (adOf ads 0) n t (qB Γ.below)) [(1, adOf ads 1, baO [])] (n ≤ 12) (fun _ => .ok (.ret .none)) (fun _ => [(1, baO (List.replicate n 0))]) fun _ => [])
    | none => none
  | 22 => bindO (bindO (snd1 (argsOf c)) asN) fun k => bindO (bindO (thd1 (argsOf c)) asN) fun v => bindO (baOf (T.get 1)) fun us => match Nat.blt k.1 us.length && Nat.ble us.length 16777216 with
    | true => some { gx := { Γ with code := .builtin "bytearray.__setitem__" ⟨[.ref (adOf ads 1), .int k.1 k.2, .int v.1 v.2], []⟩ }, oq := [(T.get 1, some (baO us))], ob := v.1 < 256, left := fun _ => ⟨.ok (.ret .none), setAll T [(1, baO (us.set k.1 v.1.toUInt8))], []⟩ }
    | false => none
  | _ => none
noncomputable def ctxBS (o : OutL) (n : Nat) (u : Nat → UInt8) (τ wd τw : Nat) : Ctx := ctxOf (.call (.ref 46) ⟨[.bytes ⟨byN n u⟩ τ, .int (.ofNat wd) τw], []⟩) (outL o)
/-- where each octet comes from -/
noncomputable def bsI (n wd : Nat) : List Nat := (List.range n).map fun k => k / wd * wd + (wd - 1 - k % wd)
noncomputable def obB (n0 : Nat) : Nat → (Nat → UInt8) → Prop
  | 0, _ => n0 ≤ 12 ∧ True
  | k + 1, u => (u k).toNat < 256 ∧ obB n0 k u
/-! T201 -/
/-! ### _byteswap, run (written by mkt2.py) -/
noncomputable def hbI (a : Nat) : List Nat := [a, 0, a, 0, a, a, a, a, a, a, a, 1, 1, 1, 1, 1, 0, 0, 0, 0, 1, 1, 1, 0, 0, 0, 0, 1, 0, 0, 2, 2, 0, 2, 24, 1, 1001]
noncomputable def hbN (a : Nat) : Nat → List Nat → List Nat
  | 0, r => r
  | k + 1, r => hbI a ++ hbN a k r
noncomputable def hbO (wd : Nat) : Nat → Nat → List Nat → List Nat
  | 0, _, r => r
  | k + 1, c, r => [4, 0, 4, 0, 4, 4, 4, 4, 4, 4, 4, 1, 1, 0, 0, 1, 0, 0, 0, 0, c, c, 0, c, 0, c, c, c, 0, c, 0, c, c, c, c + 1, 1000] ++ hbN (c + 1) wd ([c + 1, 0, c + 1, 0, c + 1, c + 1, c + 1, c + 3, 0, 1001] ++ hbO wd k (c + 4) r)
noncomputable def hbs (R wd : Nat) : List Nat := [0, 0, 1, 1, 1, 1, 0, 1001, 0, 0, 0, 0, 1, 0, 0, 0, 0, 0, 0, 0, 0, 2, 2, 0, 2, 25, 1, 1, 1, 0, 0, 0, 0, 1, 0, 0, 0, 0, 1, 0, 0, 0, 0, 3, 3, 0, 3, 0, 3, 3, 3, 0, 3, 0, 3, 3, 3, 4, 1000] ++
  hbO wd R 5 [4, 0, 4, 0, 4, 4, 4, 4 * R + 6, 0, 0, 0, 1, 0, 0, 0, 0, 2, 2, 2, 2, 2, 2, 2, 2, 2, 2, 0, 0]
noncomputable def bsP (n wd R : Nat) : Prop := ∀ (w : World) (b b2 : Bool) (o : OutL) (u : Nat → UInt8) (τ τw N t : Nat) (p : Pos) (nv : Nv),
    let W := wld w b b2
    let X := runC (cfgW W (conBS o n)) 2000 (ctxBS o n u τ wd τw) p (hbs R wd) [] N t nv
    look [] X = some (.done (.ok (.ret (.bytes ⟨(bsI n wd).map fun k => (u k).toNat.toUInt8⟩ (rtok X)))), [], [], dup (eqsOf X), dupG (gsOf X), dupO (osOf X), obB n n u)
theorem bs_1_1 : bsP 1 1 1 := by intro w b b2 o u τ τw N t p nv; cases b <;> (intro W X; kernel_rfl)
theorem bs_2_1 : bsP 2 1 2 := by intro w b b2 o u τ τw N t p nv; cases b <;> (intro W X; kernel_rfl)
theorem bs_2_2 : bsP 2 2 1 := by intro w b b2 o u τ τw N t p nv; cases b <;> (intro W X; kernel_rfl)
theorem bs_3_1 : bsP 3 1 3 := by intro w b b2 o u τ τw N t p nv; cases b <;> (intro W X; kernel_rfl)
theorem bs_3_3 : bsP 3 3 1 := by intro w b b2 o u τ τw N t p nv; cases b <;> (intro W X; kernel_rfl)
theorem bs_4_1 : bsP 4 1 4 := by intro w b b2 o u τ τw N t p nv; cases b <;> (intro W X; kernel_rfl)
theorem bs_4_2 : bsP 4 2 2 := by intro w b b2 o u τ τw N t p nv; cases b <;> (intro W X; kernel_rfl)
theorem bs_4_4 : bsP 4 4 1 := by intro w b b2 o u τ τw N t p nv; cases b <;> (intro W X; kernel_rfl)
theorem bs_5_1 : bsP 5 1 5 := by intro w b b2 o u τ τw N t p nv; cases b <;> (intro W X; kernel_rfl)
theorem bs_5_5 : bsP 5 5 1 := by intro w b b2 o u τ τw N t p nv; cases b <;> (intro W X; kernel_rfl)
theorem bs_6_1 : bsP 6 1 6 := by intro w b b2 o u τ τw N t p nv; cases b <;> (intro W X; kernel_rfl)
theorem bs_6_2 : bsP 6 2 3 := by intro w b b2 o u τ τw N t p nv; cases b <;> (intro W X; kernel_rfl)
theorem bs_6_3 : bsP 6 3 2 := by intro w b b2 o u τ τw N t p nv; cases b <;> (intro W X; kernel_rfl)
theorem bs_6_6 : bsP 6 6 1 := by intro w b b2 o u τ τw N t p nv; cases b <;> (intro W X; kernel_rfl)
theorem bs_7_1 : bsP 7 1 7 := by intro w b b2 o u τ τw N t p nv; cases b <;> (intro W X; kernel_rfl)
theorem bs_7_7 : bsP 7 7 1 := by intro w b b2 o u τ τw N t p nv; cases b <;> (intro W X; kernel_rfl)
theorem bs_8_1 : bsP 8 1 8 := by intro w b b2 o u τ τw N t p nv; cases b <;> (intro W X; kernel_rfl)
theorem bs_8_2 : bsP 8 2 4 := by intro w b b2 o u τ τw N t p nv; cases b <;> (intro W X; kernel_rfl)
theorem bs_8_4 : bsP 8 4 2 := by intro w b b2 o u τ τw N t p nv; cases b <;> (intro W X; kernel_rfl)
theorem bs_8_8 : bsP 8 8 1 := by intro w b b2 o u τ τw N t p nv; cases b <;> (intro W X; kernel_rfl)
theorem bs_9_1 : bsP 9 1 9 := by intro w b b2 o u τ τw N t p nv; cases b <;> (intro W X; kernel_rfl)
theorem bs_9_3 : bsP 9 3 3 := by intro w b b2 o u τ τw N t p nv; cases b <;> (intro W X; kernel_rfl)
theorem bs_9_9 : bsP 9 9 1 := by intro w b b2 o u τ τw N t p nv; cases b <;> (intro W X; kernel_rfl)
theorem bs_10_1 : bsP 10 1 10 := by intro w b b2 o u τ τw N t p nv; cases b <;> (intro W X; kernel_rfl)
theorem bs_10_2 : bsP 10 2 5 := by intro w b b2 o u τ τw N t p nv; cases b <;> (intro W X; kernel_rfl)
theorem bs_10_10 : bsP 10 10 1 := by intro w b b2 o u τ τw N t p nv; cases b <;> (intro W X; kernel_rfl)
theorem bs_11_1 : bsP 11 1 11 := by intro w b b2 o u τ τw N t p nv; cases b <;> (intro W X; kernel_rfl)
theorem bs_11_11 : bsP 11 11 1 := by intro w b b2 o u τ τw N t p nv; cases b <;> (intro W X; kernel_rfl)
theorem bs_12_1 : bsP 12 1 12 := by intro w b b2 o u τ τw N t p nv; cases b <;> (intro W X; kernel_rfl)
theorem bs_12_2 : bsP 12 2 6 := by intro w b b2 o u τ τw N t p nv; cases b <;> (intro W X; kernel_rfl)
theorem bs_12_3 : bsP 12 3 4 := by intro w b b2 o u τ τw N t p nv; cases b <;> (intro W X; kernel_rfl)
theorem bs_12_4 : bsP 12 4 3 := by intro w b b2 o u τ τw N t p nv; cases b <;> (intro W X; kernel_rfl)
theorem bs_12_12 : bsP 12 12 1 := by intro w b b2 o u τ τw N t p nv; cases b <;> (intro W X; kernel_rfl)
noncomputable def okL : List (Nat × Nat) := [(1, 1), (2, 1), (2, 2), (3, 1), (3, 3), (4, 1), (4, 2), (4, 4), (5, 1), (5, 5), (6, 1), (6, 2), (6, 3), (6, 6), (7, 1), (7, 7), (8, 1), (8, 2), (8, 4), (8, 8), (9, 1), (9, 3), (9, 9), (10, 1), (10, 2), (10, 10), (11, 1), (11, 11), (12, 1), (12, 2), (12, 3), (12, 4), (12, 12)]
noncomputable def okNW (n wd : Nat) : Prop := (n, wd) ∈ okL
noncomputable def bsQ (x : Nat × Nat) : Prop := bsP x.1 x.2 (x.1 / x.2)
theorem ac {P : Nat × Nat → Prop} {a : Nat × Nat} {l : List (Nat × Nat)} (h : P a) (h2 : ∀ x ∈ l, P x) : ∀ x ∈ a :: l, P x := List.forall_mem_cons.mpr ⟨h, h2⟩
theorem bs_tab : ∀ x ∈ okL, bsQ x := ac (P := bsQ) bs_1_1 <| ac (P := bsQ) bs_2_1 <| ac (P := bsQ) bs_2_2 <| ac (P := bsQ) bs_3_1 <| ac (P := bsQ) bs_3_3 <| ac (P := bsQ) bs_4_1 <| ac (P := bsQ) bs_4_2 <| ac (P := bsQ) bs_4_4 <| ac (P := bsQ) bs_5_1 <| ac (P := bsQ) bs_5_5 <| ac (P := bsQ) bs_6_1 <| ac (P := bsQ) bs_6_2 <| ac (P := bsQ) bs_6_3 <| ac (P := bsQ) bs_6_6 <| ac (P := bsQ) bs_7_1 <| ac (P := bsQ) bs_7_7 <| ac (P := bsQ) bs_8_1 <| ac (P := bsQ) bs_8_2 <| ac (P := bsQ) bs_8_4 <| ac (P := bsQ) bs_8_8 <| ac (P := bsQ) bs_9_1 <| ac (P := bsQ) bs_9_3 <| ac (P := bsQ) bs_9_9 <| ac (P := bsQ) bs_10_1 <| ac (P := bsQ) bs_10_2 <| ac (P := bsQ) bs_10_10 <| ac (P := bsQ) bs_11_1 <| ac (P := bsQ) bs_11_11 <| ac (P := bsQ) bs_12_1 <| ac (P := bsQ) bs_12_2 <| ac (P := bsQ) bs_12_3 <| ac (P := bsQ) bs_12_4 <| ac (P := bsQ) bs_12_12 <| fun _ h => by cases h
theorem bs_all (w : World) (b b2 : Bool) (o : OutL) (u : Nat → UInt8) (τ τw : Nat) {n wd : Nat} (h : okNW n wd) : ∃ fuel hs, ∀ (N t : Nat) (p : Pos) (nv : Nv),
    let W := wld w b b2
    let X := runC (cfgW W (conBS o n)) fuel (ctxBS o n u τ wd τw) p hs [] N t nv
    look [] X = some (.done (.ok (.ret (.bytes ⟨(bsI n wd).map fun k => (u k).toNat.toUInt8⟩ (rtok X)))), [], [], dup (eqsOf X), dupG (gsOf X), dupO (osOf X), obB n n u) :=
  ⟨_, _, fun N t p nv => bs_tab (n, wd) h w b b2 o u τ τw N t p nv⟩
/-! T301 -/
theorem left_ba {B : Base} {s : Shared} {T : BT} {m : Nat} {ads : Ads} {tk : Nat} (D : Rep B s T m ads tk) {us us' : List UInt8} (hT : T.get 1 = some (baO us)) {g : Con} (e : ∀ ν, g.left ν = ⟨.ok (.ret .none), setAll T [(1, baO us')], []⟩) {f : Array UInt8 → Array UInt8} (hf : f ⟨us⟩ = ⟨us'⟩) :
    ∃ N t ν, LeftRep B g ν (.ok (.ret .none)) { s with heap := s.heap.update (adOf ads 1) (Obj.mapBytearray f) } m ads N t := by
  have D1 := D.own 1 _ hT
  have hs : Heap.SameBut (adOf ads 1) s.heap (s.heap.update (adOf ads 1) (Obj.mapBytearray f)) := Heap.SameBut.update ..
  refine ⟨_, _, unk0, left_none (s' := { s with heap := s.heap.update (adOf ads 1) (Obj.mapBytearray f) }) (ch := [(1, baO us')]) D (e unk0) (fun z hz => ?_) ⟨fun b' o' hb' hne => ?_, ?_, rfl, rfl, rfl⟩⟩
  · simp only [List.mem_singleton] at hz
    subst hz
    refine ⟨D1.1, ?_⟩
    show (s.heap.update (adOf ads 1) _).get? (adOf ads 1) = _
    rw [Heap.get?_update_self _ D1.2 rfl]
    show some (⟨_, _, Data.bytearray (f ⟨us⟩) 0, _⟩ : Obj) = some ⟨_, _, Data.bytearray ⟨us'⟩ 0, _⟩
    rw [hf]
  · simp only [List.map_cons, List.map_nil, List.mem_singleton] at hne
    exact (hs.2 b' hne).trans hb'
  · show _ ≤ (s.heap.update (adOf ads 1) _).objs.size
    rw [hs.1]; exact Nat.le_refl _
theorem conBS_ok {w : World} {b b2 : Bool} {o : OutL} {n : Nat} {l0 : Nat} {s₀ : Shared} : ConOk (baseOf (kt (wld w b b2).params) 785 l0 s₀) (MW (wld w b b2)) (cfgW (wld w b b2) (conBS o n)) := by
  intro j y Γ T m ads tk s p g hg hx hn ho ob D
  obtain ⟨c0, e1, e2, bel, e3⟩ := Γ
  replace hg : conBS o n j y ⟨c0, e1, e2, bel, e3⟩ c0 T ads = some g := hg
  by_cases h23 : j = 23
  · subst h23
    cases hb : isBI c0 with
    | none => simp only [conBS, hb] at hg; cases hg
    | some t =>
      simp only [conBS, hb] at hg
      cases hg
      obtain ⟨H, ha⟩ := conS_holds D hn ho
      replace hx : _ = ctxBI o (adOf ads 1) (adOf ads 0) n t (qB bel) := hx
      rw [hx]
      have h1 := ha (1, adOf ads 1, baO []) (List.mem_cons_self ..)
      refine bainit_ok ob (rep_sane D) H (D.lo 1 h1.1).1 fun s' hD => ?_
      refine conS_left D unk0 _ rfl _ _ hD rfl (fun z hz => ?_) rfl fun k hk => absurd hk (Nat.not_lt_zero _)
      simp only [List.mem_singleton] at hz
      subst hz
      exact h1.1
  · by_cases h22 : j = 22
    · subst h22
      replace hg : bindO (bindO (snd1 (argsOf c0)) asN) _ = some g := hg
      obtain ⟨k, _, hg⟩ := bindO_some hg
      obtain ⟨v, _, hg⟩ := bindO_some hg
      obtain ⟨us, _, hg⟩ := bindO_some hg
      cases hlt : (Nat.blt k.1 us.length && Nat.ble us.length 16777216) with
      | false => simp only [hlt] at hg; cases hg
      | true =>
        simp only [hlt] at hg
        cases hg
        have hT := ho _ (List.mem_cons_self ..)
        replace hT : T.get 1 = some (baO us) := hT
        have D1 := D.own 1 _ hT
        have hlt := Bool.and_eq_true_iff.mp hlt
        have hk := Nat.blt_eq.mp hlt.1
        have hz := Nat.le_of_ble_eq_true hlt.2
        refine wpCode_at (congrArg Ctx.code hx) <| baset_code D1.2 hk hz ob ?_
        exact left_ba D hT (fun _ => rfl) (by simp)
    · exfalso
      unfold conBS at hg
      split at hg
      · exact h23 rfl
      · exact h22 rfl
      · cases hg
theorem obB_ok (n0 : Nat) (h : n0 ≤ 12) (u : Nat → UInt8) : ∀ k, obB n0 k u
  | 0 => ⟨h, trivial⟩
  | k + 1 => ⟨(u k).toNat_lt, obB_ok n0 h u k⟩
noncomputable def bsL (n wd : Nat) (u : Nat → UInt8) : List UInt8 := (bsI n wd).map u
theorem bs_ok {w : World} {b b2 : Bool} {o : OutL} {n : Nat} {u : Nat → UInt8} {τ wd τw : Nat} {s : Shared} {p : Pos} (hw : okNW n wd) (hn : n ≤ 12) (S : Top (wld w b b2) s) :
    wpCode (MW (wld w b b2)) (ctxBS o n u τ wd τw) (fun r s' => ∃ ν : Unk, r = .ok (.ret (.bytes ⟨bsL n wd u⟩ (ν.n 0))) ∧ Did s s' [] []) p s := by
  have back : ∀ k, (u k).toNat.toUInt8 = u k := fun k => by simp
  obtain ⟨fuel, hs, run⟩ := bs_all w b b2 o u τ τw hw
  refine runC_ok [] conBS_ok S (fun x hx => by cases hx) (by simp) (by simp) _ _ (fun _ => []) _ (fun nv => run _ _ p nv) (fun nv => obB_ok n hn u n) fun nv s' Af => ?_
  show ∃ ν : Unk, _
  simp only [back]
  exact ⟨unkL [_], rfl, Af.did [] [] [] rfl rfl rfl (by simp) (by simp) rfl rfl⟩
/-! U101 -/
/-! ### law's comprehensions: their turns (written by mku1.py) -/
noncomputable def binL : Expr → Expr
  | .BinOp l _ _ _ => l
  | _ => .Constant .none 0 default
noncomputable def binR : Expr → Expr
  | .BinOp _ _ r _ => r
  | _ => .Constant .none 0 default
noncomputable def eWd : Expr := argL (binR (binL (binR (asgE (nthS 0 (fnB dLW))))))
noncomputable def eRows : Expr := asgE (nthS 3 (fnB dLW))
noncomputable def eTape : Expr := argL (asgE (nthS 4 (fnB dLW)))
noncomputable def envCm (e : Expr) (Lc : Nat) (cells : List (Str × Nat)) (L0 : Nat) : Env :=
  { scope := scC (lcSc e), locals := Lc, globals := 3, cells := cells, qual := (⟨⟨[108, 97, 119]⟩⟩ : Str) ++ (⟨⟨[46, 60, 108, 111, 99, 97, 108, 115, 62, 46]⟩⟩ : Str), func := none, code := .ref 783, frame := some L0, builtins := 0 }
noncomputable def ctxCm (e : Expr) (it acc Lc : Nat) (cells : List (Str × Nat)) (o : OutL) : Ctx := ctxOf (.compLoop e 0 (.ref it) (.ref acc) (envCm e Lc cells o.L0)) (outL o)
noncomputable def oldL (P : Params) (name : List Nat) (f : Bool) (k : Nat) (v : Value) : Obj := match f with
  | true => dictO [] 0
  | false => dictO [ent P name k v] 1
theorem conX_good {W : World} {s : Shared} {l : Nat} (O : OrX) : ConOk (baseOf (kt W.params) 785 l s) (MW W) (cfgW W (conX O)) :=
  fun j x Γ T m ads tk s p g hg hx hn ho ob D => conX_ok O j x Γ T m ads tk s p g hg hx hn ho ob D
noncomputable def obj1 (P : Params) (it acc Lc l : Nat) (i : Nat) (xs : Array Value) (n : Nat) (loc : Obj) (vs : Array Value) (nr : Nat) : List (Nat × Obj) := [(it, liO l i), (acc, lsO xs n), (Lc, loc), (l, lsO vs nr)]
/-- x // 2048 -/
theorem cm1_t (w : World) (b b2 f : Bool) (it acc Lc l : Nat) (o : OutL) (i : Nat) (x : Int) (τ : Nat) (xs : Array Value) (n : Nat) (k : Nat) (v : Value) (vs : Array Value) (nr : Nat) (N t : Nat) (p : Pos) (nv : Nv) :
    let W := wld w b b2
    let X := runC (cfgW W (conV (orcWd (.int x τ) []))) 60 (ctxCm eWd it acc Lc [] o) p [1, 51, 3, 3, 3, 3, 0, 0, 18, 1, 1] (obj1 W.params it acc Lc l i xs n (oldL W.params [120] f k v) vs nr) N t nv
    let l' := obj1 W.params it acc Lc l (i + 1) (xs.push (.int (x.fdiv 2048) ((nv 0).2.1 + 2))) (n + 1) (dictO [ent W.params [120] (ktk X 2 0) (.int x τ)] 1) vs nr
    look [0, 1, 2, 3] X = some (.again (ctxCm eWd it acc Lc [] o) (posOf X), os_ l', as_ l', dup (eqsOf X), dupG (gsOf X), dupO (osOf X), (SmallB xs ∧ ItB vs i (.int x τ) ∧ True)) := by
  cases b <;> cases b2 <;> cases f <;> (intro W X l'; kernel_rfl)
theorem cm1_e (w : World) (b b2 f : Bool) (it acc Lc l : Nat) (o : OutL) (i : Nat) (xs : Array Value) (n : Nat) (k : Nat) (v : Value) (vs : Array Value) (nr : Nat) (N t : Nat) (p : Pos) (nv : Nv) :
    let W := wld w b b2
    let X := runC (cfgW W (conV (orcWd .none []))) 60 (ctxCm eWd it acc Lc [] o) p [1, 52, 3, 5] (obj1 W.params it acc Lc l i xs n (oldL W.params [120] f k v) vs nr) N t nv
    let l' := [(it, obAt X 0), (acc, lsO xs n), (Lc, oldL W.params [120] f k v), (l, lsO vs nr)]
    look [0, 1, 2, 3] X = some (.done (.ok .next), os_ l', as_ l', dup (eqsOf X), dupG (gsOf X), dupO (osOf X), ((EndB vs i ∧ (none : Option Value) = none) ∧ True)) := by
  cases b <;> cases b2 <;> cases f <;> (intro W X l'; kernel_rfl)
/-- _law_sign -/
noncomputable def intTok : Code → Nat
  | .call _ ⟨.int _ t :: _, _⟩ => t
  | _ => 0
noncomputable def conC2 (o : OutL) (it acc Lc : Nat) (x : Int) (τ : Nat) : CF := fun j y Γ cd T ads => match j with
  | 86 => some (conS T ads (ctxSg ⟨it, acc, Lc, o.L0, o.ct, o.cw, fun i => posN Γ.below i⟩ x (intTok cd)) (zip3 [] []) True (fun ν => .ok (.ret (.str ⟨⟨[sgP x]⟩⟩ (ν.n 0)))) (fun ν => zip2 [] []) fun ν => news_ [])
  | j => conV (orcWd (.int x τ) []) j y Γ cd T ads
theorem cm2_t (w : World) (b b2 f : Bool) (it acc Lc l : Nat) (o : OutL) (i : Nat) (x : Int) (τ : Nat) (xs : Array Value) (n : Nat) (k : Nat) (v : Value) (vs : Array Value) (nr : Nat) (N t : Nat) (p : Pos) (nv : Nv) :
    let W := wld w b b2
    let X := runC (cfgW W (conC2 o it acc Lc x τ)) 60 (ctxCm eDrawn it acc Lc [] o) p [1, 51, 3, 3, 3, 0, 3, 0, 87, 0, 18, 1, 1] (obj1 W.params it acc Lc l i xs n (oldL W.params [120] f k v) vs nr) N t nv
    let l' := obj1 W.params it acc Lc l (i + 1) (xs.push (.str ⟨⟨[sgP x]⟩⟩ ((nv 1).2.2.n 0))) (n + 1) (dictO [ent W.params [120] (ktk X 2 0) (.int x τ)] 1) vs nr
    look [0, 1, 2, 3] X = some (.again (ctxCm eDrawn it acc Lc [] o) (posOf X), os_ l', as_ l', dup (eqsOf X), dupG (gsOf X), dupO (osOf X), (SmallB xs ∧ True ∧ ItB vs i (.int x τ) ∧ True)) := by
  cases b <;> cases b2 <;> cases f <;> (intro W X l'; kernel_rfl)
theorem cm2_e (w : World) (b b2 f : Bool) (it acc Lc l : Nat) (o : OutL) (i : Nat) (xs : Array Value) (n : Nat) (k : Nat) (v : Value) (vs : Array Value) (nr : Nat) (N t : Nat) (p : Pos) (nv : Nv) :
    let W := wld w b b2
    let X := runC (cfgW W (conV (orcWd .none []))) 60 (ctxCm eDrawn it acc Lc [] o) p [1, 52, 3, 5] (obj1 W.params it acc Lc l i xs n (oldL W.params [120] f k v) vs nr) N t nv
    let l' := [(it, obAt X 0), (acc, lsO xs n), (Lc, oldL W.params [120] f k v), (l, lsO vs nr)]
    look [0, 1, 2, 3] X = some (.done (.ok .next), os_ l', as_ l', dup (eqsOf X), dupG (gsOf X), dupO (osOf X), ((EndB vs i ∧ (none : Option Value) = none) ∧ True)) := by
  cases b <;> cases b2 <;> cases f <;> (intro W X l'; kernel_rfl)
/-- text[k:k + width] -/
noncomputable def celR (cw ct : Nat) : List (Str × Nat) := [((⟨⟨[119, 105, 100, 116, 104]⟩⟩ : Str), cw), (⟨⟨[116, 101, 120, 116]⟩⟩, ct)]
noncomputable def orcR (row : List Nat) : OrX := ⟨⟨⟨⟨fun _ => row, fun _ => 0⟩, fun _ => []⟩, fun _ => .none⟩, [], fun _ => 0⟩
noncomputable def obj3 (P : Params) (it acc Lc cw ct : Nat) (a l wd : Nat) (xs : Array Value) (n : Nat) (loc : Obj) (τw : Nat) (cs : List Nat) (τc : Nat) : List (Nat × Obj) := [(it, riN a l wd), (acc, lsO xs n), (Lc, loc), (cw, celV (some (.int (.ofNat wd) τw))), (ct, celV (some (.str ⟨⟨cs⟩⟩ τc)))]
theorem cm3_t (w : World) (b b2 f : Bool) (it acc Lc cw ct : Nat) (o : OutL) (a r wd : Nat) (row : List Nat) (xs : Array Value) (n : Nat) (k : Nat) (v : Value) (τw : Nat) (cs : List Nat) (τc : Nat) (N t : Nat) (p : Pos) (nv : Nv) :
    let W := wld w b b2
    let X := runC (cfgW W (conX (orcR row))) 70 (ctxCm eRows it acc Lc (celR cw ct) o) p [1, 84, 0, 3, 3, 5, 3, 3, 4, 0, 0, 9, 500, 18, 1, 1] (obj3 W.params it acc Lc cw ct a (r + 1) wd xs n (oldL W.params [107] f k v) τw cs τc) N t nv
    let l' := obj3 W.params it acc Lc cw ct (a + wd) r wd (xs.push (.str ⟨⟨row⟩⟩ ((nv 1).2.2.n 0))) (n + 1) (dictO [ent W.params [107] (ktk X 2 0) (.int (.ofNat a) (vt X 2 0))] 1) τw cs τc
    look [0, 1, 2, 3, 4] X = some (.again (ctxCm eRows it acc Lc (celR cw ct) o) (posOf X), os_ l', as_ l', dup (eqsOf X), dupG (gsOf X), dupO (osOf X), (SmallB xs ∧ SlcB "slice" ⟨⟨cs⟩⟩ (some (.ofNat a, vtok (fdOf X 5 0))) (some (.ofNat (a + wd), vtok (fdOf X 5 1))) none row ∧ True ∧ True)) := by
  cases b <;> cases b2 <;> cases f <;> (intro W X l'; kernel_rfl)
theorem cm3_e (w : World) (b b2 : Bool) (it acc Lc cw ct : Nat) (o : OutL) (a wd : Nat) (xs : Array Value) (n : Nat) (k : Nat) (v : Value) (τw : Nat) (cs : List Nat) (τc : Nat) (N t : Nat) (p : Pos) (nv : Nv) :
    let W := wld w b b2
    let X := runC (cfgW W (conX (orcR []))) 70 (ctxCm eRows it acc Lc (celR cw ct) o) p [1, 85, 0, 6] (obj3 W.params it acc Lc cw ct a 0 wd xs n (oldL W.params [107] false k v) τw cs τc) N t nv
    let l' := obj3 W.params it acc Lc cw ct a 0 wd xs n (oldL W.params [107] false k v) τw cs τc
    look [0, 1, 2, 3, 4] X = some (.done (.ok .next), os_ l', as_ l', dup (eqsOf X), dupG (gsOf X), dupO (osOf X), ((none : Option Value) = none ∧ True)) := by
  cases b <;> cases b2 <;> (intro W X l'; kernel_rfl)
/-- ord(sign) -/
noncomputable def obj4 (P : Params) (u : Bool) (it acc Lc : Nat) (cs : List Nat) (τ i : Nat) (xs : Array Value) (n : Nat) (loc : Obj) : List (Nat × Obj) := [(it, siX u ⟨⟨cs⟩⟩ τ i), (acc, lsO xs n), (Lc, loc)]
theorem cm4_t (w : World) (b b2 f u : Bool) (it acc Lc : Nat) (o : OutL) (cs : List Nat) (τ i c : Nat) (xs : Array Value) (n : Nat) (k : Nat) (v : Value) (N t : Nat) (p : Pos) (nv : Nv) :
    let W := wld w b b2
    let X := runC (cfgW W (conV (orcW c))) 70 (ctxCm eTape it acc Lc [] o) p (uh u 26 56 [0, 3, 3, 0, 0, 3, 0, 0, 18, 1, 1]) (obj4 W.params u it acc Lc cs τ i xs n (oldL W.params [115, 105, 103, 110] f k v)) N t nv
    let l' := obj4 W.params u it acc Lc cs τ (i + 1) (xs.push (.int (.ofNat c) ((nv 0).2.1 + 1))) (n + 1) (dictO [ent W.params [115, 105, 103, 110] (ktk X 2 0) (.str ⟨⟨[c]⟩⟩ (vt X 2 0))] 1)
    look [0, 1, 2] X = some (.again (ctxCm eTape it acc Lc [] o) (posOf X), os_ l', as_ l', dup (eqsOf X), dupG (gsOf X), dupO (osOf X), (SmallB xs ∧ NextB ⟨⟨cs⟩⟩ i [c] ∧ True)) := by
  cases b <;> cases b2 <;> cases f <;> cases u <;> (intro W X l'; kernel_rfl)
theorem cm4_e (w : World) (b b2 u : Bool) (it acc Lc : Nat) (o : OutL) (cs : List Nat) (τ i : Nat) (xs : Array Value) (n : Nat) (k : Nat) (v : Value) (N t : Nat) (p : Pos) (nv : Nv) :
    let W := wld w b b2
    let X := runC (cfgW W (conV (orcW 0))) 70 (ctxCm eTape it acc Lc [] o) p (uh u 27 57 [0, 4]) (obj4 W.params u it acc Lc cs τ i xs n (oldL W.params [115, 105, 103, 110] false k v)) N t nv
    let l' := [(it, obAt X 0), (acc, lsO xs n), (Lc, oldL W.params [115, 105, 103, 110] false k v)]
    look [0, 1, 2] X = some (.done (.ok .next), os_ l', as_ l', dup (eqsOf X), dupG (gsOf X), dupO (osOf X), ((StopB ⟨⟨cs⟩⟩ i ∧ (none : Option Value) = none) ∧ True)) := by
  cases b <;> cases b2 <;> cases u <;> (intro W X l'; kernel_rfl)
/-! U201 -/
/-! ### law's comprehensions: their loops -/
noncomputable def IsI : List Value → List Int → Prop
  | [], [] => True
  | .int x _ :: r, y :: r' => x = y ∧ IsI r r'
  | _, _ => False
theorem IsI.snoc {x : Int} {τ : Nat} : ∀ {vs : List Value} {ys : List Int}, IsI vs ys → IsI (vs ++ [.int x τ]) (ys ++ [x])
  | [], [], _ => ⟨rfl, trivial⟩
  | .int _ _ :: r, _ :: r', h => ⟨h.1, IsI.snoc h.2⟩
theorem IsI.length : ∀ {vs : List Value} {ys : List Int}, IsI vs ys → vs.length = ys.length
  | [], [], _ => rfl
  | .int _ _ :: r, _ :: r', h => congrArg (· + 1) (IsI.length h.2)
theorem IsI.get : ∀ {vs : List Value} {ys : List Int} {i : Nat} {x : Int}, IsI vs ys → ys[i]? = some x → ∃ τ, vs[i]? = some (.int x τ)
  | [], [], i, x, _, h => by simp at h
  | .int _ t :: r, y :: r', 0, x, hv, h => by
    simp at h; subst h
    obtain ⟨rfl, _⟩ := hv
    exact ⟨t, rfl⟩
  | .int _ t :: r, y :: r', i + 1, x, hv, h => by
    simp only [List.getElem?_cons_succ] at h ⊢
    exact IsI.get hv.2 h
noncomputable def mkIv : List Int → (Nat → Nat) → List Value
  | [], _ => []
  | x :: r, τ => .int x (τ 0) :: mkIv r fun i => τ (i + 1)
theorem isI_mkIv : ∀ {vs : List Value} {ys : List Int}, IsI vs ys → ∃ τ, vs = mkIv ys τ
  | [], [], _ => ⟨fun _ => 0, rfl⟩
  | .int _ t :: r, y :: r', h => by
    obtain ⟨rfl, h⟩ := h
    obtain ⟨τ, e⟩ := isI_mkIv h
    refine ⟨fun i => match i with | 0 => t | i + 1 => τ i, ?_⟩
    rw [e]; rfl
theorem isI_mk : ∀ (ys : List Int) (τ : Nat → Nat), IsI (mkIv ys τ) ys
  | [], _ => trivial
  | x :: r, τ => ⟨rfl, isI_mk r fun i => τ (i + 1)⟩
theorem intsOf_isI : ∀ {vs : List Value} {ys : List Int}, IsI vs ys → intsOf vs = some ys
  | [], [], _ => rfl
  | .int _ t :: r, y :: r', h => by
    obtain ⟨rfl, h⟩ := h
    rw [intsOf, intsOf_isI h]
theorem isEmpty_cons {α : Type} {f : Bool} {x : α} {r : List α} : (f && (x :: r).isEmpty) = false := by cases f <;> rfl
theorem cm1_loop {w : World} {b b2 : Bool} {it acc Lc l : Nat} {o : OutL} {vs : List Value} {xs : List Int} {nr : Nat} {R : Result → Shared → Prop} (nd : [it, acc, Lc, l].Nodup) (lo : ∀ y ∈ [it, acc, Lc, l], 785 ≤ y) (hz : xs.length ≤ 1000) (hx : IsI vs xs) :
    ∀ (r : List Int) {i : Nat} {ys : List Value} {is : List Int} {n : Nat} {f : Bool} {k : Nat} {v : Value} {s : Shared} {p : Pos} (S : Top (wld w b b2) s) (hr : xs.drop i = r) (hv : IsI ys is) (hm : is.length ≤ i) (hi : i ≤ xs.length)
      (H : Holds s (obj1 (wld w b b2).params it acc Lc l i ⟨ys⟩ n (oldL (wld w b b2).params [120] f k v) ⟨vs⟩ nr))
      (fin : ∀ (ys' : List Value) (n' k' : Nat) (v' : Value) (ob : Obj) (s' : Shared), IsI ys' (is ++ r.map (·.fdiv 2048)) → Did s s' [(it, ob), (acc, lsO ⟨ys'⟩ n'), (Lc, oldL (wld w b b2).params [120] (f && r.isEmpty) k' v'), (l, lsO ⟨vs⟩ nr)] [] → R (.ok .next) s'),
      wpCode (MW (wld w b b2)) (ctxCm eWd it acc Lc [] o) R p s
  | [], i, ys, is, n, f, k, v, s, p, S, hr, hv, hm, hi, H, fin => by
    have hend : EndB ⟨vs⟩ i := endB hx.length (by
      have := congrArg List.length hr
      rw [List.length_drop, List.length_nil] at this
      omega)
    refine runC_ok [] (conV_good (orcWd .none [])) S H nd (fun z hz => lo _ (List.mem_map.mpr ⟨z, hz, rfl⟩)) _ _ (fun _ => []) _ (fun nv => cm1_e w b b2 f it acc Lc l o i ⟨ys⟩ n k v ⟨vs⟩ nr _ _ p nv) (fun _ => ⟨⟨hend, rfl⟩, trivial⟩) fun nv s' Af => ?_
    try dsimp only at Af
    generalize runC _ _ _ _ _ _ _ _ _ = X at Af
    exact fin ys n k v (obAt X 0) s' (by simpa using hv) (by
      rw [show (f && ([] : List Int).isEmpty) = f by cases f <;> rfl]
      exact did0 (l' := [(it, obAt X 0), (acc, lsO ⟨ys⟩ n), (Lc, oldL (wld w b b2).params [120] f k v), (l, lsO ⟨vs⟩ nr)]) Af rfl)
  | x :: r, i, ys, is, n, f, k, v, s, p, S, hr, hv, hm, hi, H, fin => by
    obtain ⟨hc, hr2, hlt⟩ := drop_consG hr
    obtain ⟨τ, hit⟩ := hx.get hc
    have hsm : SmallB ⟨ys⟩ := by show ys.length ≤ 1000000; rw [hv.length]; omega
    refine runC_ok [] (conV_good (orcWd (.int x τ) [])) S H nd (fun z hz => lo _ (List.mem_map.mpr ⟨z, hz, rfl⟩)) _ _ (fun _ => []) _ (fun nv => cm1_t w b b2 f it acc Lc l o i x τ ⟨ys⟩ n k v ⟨vs⟩ nr _ _ p nv) (fun _ => ⟨hsm, itB hit, trivial⟩) fun nv s1 Af => ?_
    try dsimp only at Af
    generalize runC _ _ _ _ _ _ _ _ _ = X at Af ⊢
    have D := did0 (l' := obj1 (wld w b b2).params it acc Lc l (i + 1) ((⟨ys⟩ : Array Value).push (.int (x.fdiv 2048) ((nv 0).2.1 + 2))) (n + 1) (oldL (wld w b b2).params [120] false (ktk X 2 0) (.int x τ)) ⟨vs⟩ nr) Af rfl
    rw [push_list] at D
    refine cm1_loop nd lo hz hx r (Did.sane S D (fun y hy => lo _ (List.mem_map.mpr ⟨y, hy, rfl⟩))) hr2 hv.snoc (by rw [List.length_append]; exact Nat.succ_le_succ hm) hlt D.holds fun ys' n' k' v' ob s' hv' D' => ?_
    refine fin ys' n' k' v' ob s' (by rw [List.append_assoc] at hv'; exact hv') ?_
    rw [isEmpty_cons]
    exact D.trans D' fun _ h => h
theorem sgCon_ok {w : World} {b b2 : Bool} {o : OutL} {it acc Lc : Nat} {x : Int} {τ : Nat} {l0 : Nat} {s₀ : Shared} : ConOk (baseOf (kt (wld w b b2).params) 785 l0 s₀) (MW (wld w b b2)) (cfgW (wld w b b2) (conC2 o it acc Lc x τ)) := by
  intro j y Γ T m ads tk s p g hg hx hn ho ob D
  replace hg : conC2 o it acc Lc x τ j y Γ Γ.code T ads = some g := hg
  by_cases h : j = 86
  · subst h
    cases hg
    replace hx : Γ = _ := hx
    rw [hx]
    refine con_z (W := wld w b b2) (is := []) (l := []) (ch := fun _ => []) (nw := fun ν => []) D rfl (by decide) (fun x hx => by cases hx) (fun x hx => by cases hx) (fun S H nd lo => ?_) (fun ν => rfl) (fun ν k hk => absurd hk (Nat.not_lt_zero _))
    refine wpCode_mono (fun r s' h => ?_) (sign_ok S)
    obtain ⟨u, rfl, hD⟩ := h
    exact ⟨unkL [u], rfl, hD⟩
  · have : conC2 o it acc Lc x τ j y Γ Γ.code T ads = conV (orcWd (.int x τ) []) j y Γ Γ.code T ads := by
      unfold conC2
      split
      · exact absurd rfl h
      · rfl
    rw [this] at hg
    exact conV_ok _ _ _ _ _ _ _ _ _ _ _ hg hx hn ho ob D
theorem cm2_loop {w : World} {b b2 : Bool} {it acc Lc l : Nat} {o : OutL} {vs : List Value} {xs : List Int} {nr : Nat} {R : Result → Shared → Prop} (nd : [it, acc, Lc, l].Nodup) (lo : ∀ y ∈ [it, acc, Lc, l], 785 ≤ y) (hz : xs.length ≤ 1000) (hx : IsI vs xs) :
    ∀ (r : List Int) {i : Nat} {ys : List Value} {is : List (List Nat)} {n : Nat} {f : Bool} {k : Nat} {v : Value} {s : Shared} {p : Pos} (S : Top (wld w b b2) s) (hr : xs.drop i = r) (hv : IsWords ys is) (hm : is.length ≤ i) (hi : i ≤ xs.length)
      (H : Holds s (obj1 (wld w b b2).params it acc Lc l i ⟨ys⟩ n (oldL (wld w b b2).params [120] f k v) ⟨vs⟩ nr))
      (fin : ∀ (ys' : List Value) (n' k' : Nat) (v' : Value) (ob : Obj) (s' : Shared), IsWords ys' (is ++ r.map fun x => [sgP x]) → Did s s' [(it, ob), (acc, lsO ⟨ys'⟩ n'), (Lc, oldL (wld w b b2).params [120] (f && r.isEmpty) k' v'), (l, lsO ⟨vs⟩ nr)] [] → R (.ok .next) s'),
      wpCode (MW (wld w b b2)) (ctxCm eDrawn it acc Lc [] o) R p s
  | [], i, ys, is, n, f, k, v, s, p, S, hr, hv, hm, hi, H, fin => by
    have hend : EndB ⟨vs⟩ i := endB hx.length (by
      have := congrArg List.length hr
      rw [List.length_drop, List.length_nil] at this
      omega)
    refine runC_ok [] (conV_good (orcWd .none [])) S H nd (fun z hz => lo _ (List.mem_map.mpr ⟨z, hz, rfl⟩)) _ _ (fun _ => []) _ (fun nv => cm2_e w b b2 f it acc Lc l o i ⟨ys⟩ n k v ⟨vs⟩ nr _ _ p nv) (fun _ => ⟨⟨hend, rfl⟩, trivial⟩) fun nv s' Af => ?_
    try dsimp only at Af
    generalize runC _ _ _ _ _ _ _ _ _ = X at Af
    exact fin ys n k v (obAt X 0) s' (by simpa using hv) (by
      rw [show (f && ([] : List Int).isEmpty) = f by cases f <;> rfl]
      exact did0 (l' := [(it, obAt X 0), (acc, lsO ⟨ys⟩ n), (Lc, oldL (wld w b b2).params [120] f k v), (l, lsO ⟨vs⟩ nr)]) Af rfl)
  | x :: r, i, ys, is, n, f, k, v, s, p, S, hr, hv, hm, hi, H, fin => by
    obtain ⟨hc, hr2, hlt⟩ := drop_consG hr
    obtain ⟨τ, hit⟩ := hx.get hc
    have hsm : SmallB ⟨ys⟩ := by show ys.length ≤ 1000000; rw [hv.length]; omega
    refine runC_ok [] (sgCon_ok (o := o) (it := it) (acc := acc) (Lc := Lc) (x := x) (τ := τ)) S H nd (fun z hz => lo _ (List.mem_map.mpr ⟨z, hz, rfl⟩)) _ _ (fun _ => []) _ (fun nv => cm2_t w b b2 f it acc Lc l o i x τ ⟨ys⟩ n k v ⟨vs⟩ nr _ _ p nv) (fun _ => ⟨hsm, trivial, itB hit, trivial⟩) fun nv s1 Af => ?_
    try dsimp only at Af
    generalize runC _ _ _ _ _ _ _ _ _ = X at Af ⊢
    have D := did0 (l' := obj1 (wld w b b2).params it acc Lc l (i + 1) ((⟨ys⟩ : Array Value).push (.str ⟨⟨[sgP x]⟩⟩ ((nv 1).2.2.n 0))) (n + 1) (oldL (wld w b b2).params [120] false (ktk X 2 0) (.int x τ)) ⟨vs⟩ nr) Af rfl
    rw [push_list] at D
    refine cm2_loop nd lo hz hx r (Did.sane S D (fun y hy => lo _ (List.mem_map.mpr ⟨y, hy, rfl⟩))) hr2 hv.snoc (by rw [List.length_append]; exact Nat.succ_le_succ hm) hlt D.holds fun ys' n' k' v' ob s' hv' D' => ?_
    refine fin ys' n' k' v' ob s' (by rw [List.append_assoc] at hv'; exact hv') ?_
    rw [isEmpty_cons]
    exact D.trans D' fun _ h => h
/-! rows -/
theorem slc_mid {buf : List Nat} {a wd : Nat} (h : a + wd ≤ buf.length) (hs : buf.length ≤ 1000000) {τ τ' : Tok} : SlcB "slice" ⟨⟨buf⟩⟩ (some (.ofNat a, τ)) (some (.ofNat (a + wd), τ')) none ((buf.drop a).take wd) := by
  have hsz : sizeLine = 16777216 := by decide
  have e : slicePicked ⟨⟨buf⟩⟩ (some (.ofNat a, τ)) (some (.ofNat (a + wd), τ')) none = (List.range wd).map (a + ·) := by
    unfold slicePicked
    have := StrLaws.strSliceIndices_plain (a := a) (b := a + wd) (len := buf.length) (by omega) (by omega)
    simp only [Option.map_some, Option.map_none, Option.getD_none, Str.length, List.size_toArray] at this ⊢
    refine Eq.trans ?_ (this.trans ?_)
    · rfl
    · rw [Nat.add_sub_cancel_left]
      try rfl
  have e2 : ((List.range wd).map (a + ·)).filterMap ((⟨⟨buf⟩⟩ : Str).cps[·]?) = (buf.drop a).take wd := by
    have : ((List.range wd).map (a + ·)).filterMap ((⟨⟨buf⟩⟩ : Str).cps[·]?) = (List.range wd).map fun i => buf.getD (a + i) 0 := by
      rw [List.filterMap_map]
      apply filterMap_some
      intro i hi
      have hi := List.mem_range.mp hi
      have hl : a + i < buf.length := by omega
      simp [hl]
    rw [this]
    apply List.ext_getElem?
    intro i
    rw [List.getElem?_map, List.getElem?_take, List.getElem?_drop]
    by_cases hi : i < wd
    · have hl : a + i < buf.length := by omega
      rw [List.getElem?_range hi, if_pos hi, List.getElem?_eq_getElem hl]
      simp [hl]
    · rw [if_neg hi, List.getElem?_eq_none (by simpa using Nat.le_of_not_lt hi)]
      rfl
  refine ⟨rfl, rfl, ?_, by rw [List.length_take]; omega⟩
  rw [e, e2]
  split
  · rename_i hw
    have hwd : wd = buf.length := by
      have hw := (Bool.and_eq_true_iff.mp hw).2
      simp [Str.length] at hw
      omega
    have ha : a = 0 := by omega
    rw [ha, hwd]
    simp
  · rfl
noncomputable def chunk (wd : Nat) : Nat → List Nat → List (List Nat)
  | 0, _ => []
  | r + 1, cs => cs.take wd :: chunk wd r (cs.drop wd)
theorem cm3_loop {w : World} {b b2 : Bool} {it acc Lc cw ct : Nat} {o : OutL} {wd τw τc : Nat} {cs : List Nat} {R : Result → Shared → Prop} (nd : [it, acc, Lc, cw, ct].Nodup) (lo : ∀ y ∈ [it, acc, Lc, cw, ct], 785 ≤ y) (hz : cs.length ≤ 1000) :
    ∀ (r : Nat) {a : Nat} {ys : List Value} {is : List (List Nat)} {n : Nat} {f : Bool} {k : Nat} {v : Value} {s : Shared} {p : Pos} (S : Top (wld w b b2) s) (hr : a + r * wd = cs.length) (hf : r = 0 → f = false) (hv : IsWords ys is) (hm : is.length + r ≤ 1000)
      (H : Holds s (obj3 (wld w b b2).params it acc Lc cw ct a r wd ⟨ys⟩ n (oldL (wld w b b2).params [107] f k v) τw cs τc))
      (fin : ∀ (ys' : List Value) (n' k' : Nat) (v' : Value) (ob : Obj) (s' : Shared), IsWords ys' (is ++ chunk wd r (cs.drop a)) → Did s s' [(it, ob), (acc, lsO ⟨ys'⟩ n'), (Lc, oldL (wld w b b2).params [107] false k' v'), (cw, celV (some (.int (.ofNat wd) τw))), (ct, celV (some (.str ⟨⟨cs⟩⟩ τc)))] [] → R (.ok .next) s'),
      wpCode (MW (wld w b b2)) (ctxCm eRows it acc Lc (celR cw ct) o) R p s
  | 0, a, ys, is, n, f, k, v, s, p, S, hr, hf, hv, hm, H, fin => by
    have := hf rfl
    subst this
    refine runC_ok [] (conX_good (orcR [])) S H nd (fun z hz => lo _ (List.mem_map.mpr ⟨z, hz, rfl⟩)) _ _ (fun _ => []) _ (fun nv => cm3_e w b b2 it acc Lc cw ct o a wd ⟨ys⟩ n k v τw cs τc _ _ p nv) (fun _ => ⟨rfl, trivial⟩) fun nv s' Af => ?_
    try dsimp only at Af
    generalize runC _ _ _ _ _ _ _ _ _ = X at Af
    exact fin ys n k v _ s' (by rw [chunk, List.append_nil]; exact hv) (did0 (l' := obj3 (wld w b b2).params it acc Lc cw ct a 0 wd ⟨ys⟩ n (oldL (wld w b b2).params [107] false k v) τw cs τc) Af rfl)
  | r + 1, a, ys, is, n, f, k, v, s, p, S, hr, hf, hv, hm, H, fin => by
    have hsm : SmallB ⟨ys⟩ := by show ys.length ≤ 1000000; rw [hv.length]; omega
    have hmul : (r + 1) * wd = r * wd + wd := Nat.succ_mul r wd
    refine runC_ok [] (conX_good (orcR ((cs.drop a).take wd))) S H nd (fun z hz => lo _ (List.mem_map.mpr ⟨z, hz, rfl⟩)) _ _ (fun _ => []) _ (fun nv => cm3_t w b b2 f it acc Lc cw ct o a r wd ((cs.drop a).take wd) ⟨ys⟩ n k v τw cs τc _ _ p nv) (fun _ => ⟨hsm, slc_mid (by omega) (by omega), trivial, trivial⟩) fun nv s1 Af => ?_
    try dsimp only at Af
    generalize runC _ _ _ _ _ _ _ _ _ = X at Af ⊢
    have D := did0 (l' := obj3 (wld w b b2).params it acc Lc cw ct (a + wd) r wd ((⟨ys⟩ : Array Value).push (.str ⟨⟨(cs.drop a).take wd⟩⟩ ((nv 1).2.2.n 0))) (n + 1) (oldL (wld w b b2).params [107] false (ktk X 2 0) (.int (.ofNat a) (vt X 2 0))) τw cs τc) Af rfl
    rw [push_list] at D
    refine cm3_loop nd lo hz r (Did.sane S D (fun y hy => lo _ (List.mem_map.mpr ⟨y, hy, rfl⟩))) (by omega) (fun _ => rfl) hv.snoc (by rw [List.length_append]; show is.length + 1 + r ≤ 1000; omega) D.holds fun ys' n' k' v' ob s' hv' D' => ?_
    refine fin ys' n' k' v' ob s' ?_ (D.trans D' fun _ h => h)
    rw [chunk, List.drop_drop]
    rw [List.append_assoc] at hv'
    exact hv'
/-! the tape's signs -/
theorem cm4_loop {w : World} {b b2 u : Bool} {it acc Lc : Nat} {o : OutL} {cs : List Nat} {τ : Nat} {R : Result → Shared → Prop} (nd : [it, acc, Lc].Nodup) (lo : ∀ y ∈ [it, acc, Lc], 785 ≤ y) (hz : cs.length ≤ 1000) :
    ∀ (r : List Nat) {i : Nat} {ys : List Value} {is : List Int} {n : Nat} {f : Bool} {k : Nat} {v : Value} {s : Shared} {p : Pos} (S : Top (wld w b b2) s) (hr : cs.drop i = r) (hf : r = [] → f = false) (hv : IsI ys is) (hm : is.length ≤ i) (hi : i ≤ cs.length)
      (H : Holds s (obj4 (wld w b b2).params u it acc Lc cs τ i ⟨ys⟩ n (oldL (wld w b b2).params [115, 105, 103, 110] f k v)))
      (fin : ∀ (ys' : List Value) (n' k' : Nat) (v' : Value) (ob : Obj) (s' : Shared), IsI ys' (is ++ r.map Int.ofNat) → Did s s' [(it, ob), (acc, lsO ⟨ys'⟩ n'), (Lc, oldL (wld w b b2).params [115, 105, 103, 110] false k' v')] [] → R (.ok .next) s'),
      wpCode (MW (wld w b b2)) (ctxCm eTape it acc Lc [] o) R p s
  | [], i, ys, is, n, f, k, v, s, p, S, hr, hf, hv, hm, hi, H, fin => by
    have := hf rfl
    subst this
    have hst : StopB ⟨⟨cs⟩⟩ i := by
      have := congrArg List.length hr
      rw [List.length_drop, List.length_nil] at this
      show (⟨cs⟩ : Array Nat)[i]? = none
      rw [Array.getElem?_eq_none]
      show cs.length ≤ i
      omega
    refine runC_ok [] (conV_good (orcW 0)) S H nd (fun z hz => lo _ (List.mem_map.mpr ⟨z, hz, rfl⟩)) _ _ (fun _ => []) _ (fun nv => cm4_e w b b2 u it acc Lc o cs τ i ⟨ys⟩ n k v _ _ p nv) (fun _ => ⟨⟨hst, rfl⟩, trivial⟩) fun nv s' Af => ?_
    try dsimp only at Af
    generalize runC _ _ _ _ _ _ _ _ _ = X at Af
    exact fin ys n k v (obAt X 0) s' (by simpa using hv) (did0 (l' := [(it, obAt X 0), (acc, lsO ⟨ys⟩ n), (Lc, oldL (wld w b b2).params [115, 105, 103, 110] false k v)]) Af rfl)
  | c :: r, i, ys, is, n, f, k, v, s, p, S, hr, hf, hv, hm, hi, H, fin => by
    obtain ⟨hc, hr2, hlt⟩ := drop_consG hr
    have hn : NextB ⟨⟨cs⟩⟩ i [c] := ⟨c, rfl, by
      show (⟨cs⟩ : Array Nat)[i]? = some c
      simpa using hc⟩
    have hsm : SmallB ⟨ys⟩ := by show ys.length ≤ 1000000; rw [hv.length]; omega
    refine runC_ok [] (conV_good (orcW c)) S H nd (fun z hz => lo _ (List.mem_map.mpr ⟨z, hz, rfl⟩)) _ _ (fun _ => []) _ (fun nv => cm4_t w b b2 f u it acc Lc o cs τ i c ⟨ys⟩ n k v _ _ p nv) (fun _ => ⟨hsm, hn, trivial⟩) fun nv s1 Af => ?_
    try dsimp only at Af
    generalize runC _ _ _ _ _ _ _ _ _ = X at Af ⊢
    have D := did0 (l' := obj4 (wld w b b2).params u it acc Lc cs τ (i + 1) ((⟨ys⟩ : Array Value).push (.int (.ofNat c) ((nv 0).2.1 + 1))) (n + 1) (oldL (wld w b b2).params [115, 105, 103, 110] false (ktk X 2 0) (.str ⟨⟨[c]⟩⟩ (vt X 2 0)))) Af rfl
    rw [push_list] at D
    refine cm4_loop nd lo hz r (Did.sane S D (fun y hy => lo _ (List.mem_map.mpr ⟨y, hy, rfl⟩))) hr2 (fun _ => rfl) hv.snoc (by rw [List.length_append]; exact Nat.succ_le_succ hm) hlt D.holds fun ys' n' k' v' ob s' hv' D' => ?_
    exact fin ys' n' k' v' ob s' (by rw [List.append_assoc] at hv'; exact hv') (D.trans D' fun _ h => h)
/-! U301 -/
/-! ### bytes(list of ints) -/
noncomputable def codeBL (it acc : Nat) : Code := .builtin "bytes.__new__.loop" ⟨[.type "bytes", .ref it, .ref acc], []⟩
noncomputable def liX (d : Option Nat) (sl : Array (Option Value)) (l i : Nat) : Obj := ⟨.type "list_iterator", d, .fields ⟨[.ref l, .int (.ofNat i) 0]⟩, sl⟩
noncomputable def liC (m : Nat) (c τ : Nat → Nat) (n : Nat) : Obj := lsO ⟨itemsOf m fun i => .int (.ofNat (c i)) (τ i)⟩ n
theorem bl_e (w : World) (b b2 : Bool) (it l acc : Nat) (bel : List (Code × Pos)) (d : Option Nat) (sl : Array (Option Value)) (m : Nat) (hm : m ≤ 12) (c τ : Nat → Nat) (u : Nat → UInt8) (n N t : Nat) (p : Pos) (nv : Nv) :
    let W := wld w b b2
    let X := runC (cfgW W (conO orc0)) 60 (ctxOf (codeBL it acc) bel) p [1, 0, 1, 0, 1, 1, 2, 1, 1, 5, 3] [(it, liX d sl l m), (l, liC m c τ n), (acc, baO (byN m u))] N t nv
    let l' := [(it, obAt X 0), (l, liC m c τ n), (acc, baO (byN m u))]
    look [0, 1, 2] X = some (.done (.ok (.ret (.bytes ⟨byN m u⟩ (rtok X)))), os_ l', as_ l', dup (eqsOf X), dupG (gsOf X), dupO (osOf X), True) := by
  match m, hm with
  | 0, _ => (intro W X l'; kernel_rfl)
  | 1, _ => (intro W X l'; kernel_rfl)
  | 2, _ => (intro W X l'; kernel_rfl)
  | 3, _ => (intro W X l'; kernel_rfl)
  | 4, _ => (intro W X l'; kernel_rfl)
  | 5, _ => (intro W X l'; kernel_rfl)
  | 6, _ => (intro W X l'; kernel_rfl)
  | 7, _ => (intro W X l'; kernel_rfl)
  | 8, _ => (intro W X l'; kernel_rfl)
  | 9, _ => (intro W X l'; kernel_rfl)
  | 10, _ => (intro W X l'; kernel_rfl)
  | 11, _ => (intro W X l'; kernel_rfl)
  | 12, _ => (intro W X l'; kernel_rfl)
  | m + 13, h => exact absurd h (by omega)
theorem items_get {f : Nat → Value} : ∀ {n k : Nat}, k < n → (⟨itemsOf n f⟩ : Array Value)[k]? = some (f k) := by
  intro n k h
  rw [itemsOf_map]
  simp [h]
theorem bl_turn {W : World} {it l acc : Nat} {bel : List (Code × Pos)} {c τ : Nat → Nat} {m n i : Nat} {us : List UInt8} {R : Result → Shared → Prop} {d : Option Nat} {sl : Array (Option Value)} {s : Shared} {p : Pos} (hi : i < m) (hc : ∀ i, c i < 256) (n1 : it ≠ acc) (n2 : l ≠ it) (n3 : l ≠ acc) (hz : us.length + 1 ≤ sizeLine)
    (H : Holds s [(it, liX d sl l i), (l, liC m c τ n), (acc, baO us)])
    (h : ∀ (d' : Option Nat) (sl' : Array (Option Value)) (p' : Pos) (s' : Shared), Did s s' [(it, liX d' sl' l (i + 1)), (l, liC m c τ n), (acc, baO (us ++ [(c i).toUInt8]))] [] → wpCode (MW W) (ctxOf (codeBL it acc) bel) R p' s') :
    wpCode (MW W) (ctxOf (codeBL it acc) bel) R p s := by
  have h0 := H (it, liX d sl l i) (by simp)
  have h1 := H (l, liC m c τ n) (by simp)
  have h2 := H (acc, baO us) (by simp)
  refine bwp entry_bloop rfl ?_
  have z := bturn (prog := F) (w := W) (A := (exactA (ctxOf (codeBL it acc) bel)).under (ctxOf (codeBL it acc) bel).code) (E := fun e s' => R (.error e) s') (s := s) (it := it) (l := l) (acc := acc) (v := .ofNat (c i)) (t := τ i) (c := c i) (i := i) (items := ⟨itemsOf m fun i => .int (.ofNat (c i)) (τ i)⟩) (us := us)
    rfl (by exact hc i) n1 ⟨_, h0, rfl, rfl⟩ ⟨_, h1, rfl, n, rfl⟩ (items_get (f := fun i => .int (.ofNat (c i)) (τ i)) hi) h2 hz
  refine Sem.wp_mono _ _ _ (fun fin p' s' hf => ?_) (fun _ _ _ h => h) _ _ (z (ctxOf (codeBL it acc) bel) p (below_exact _).in)
  obtain ⟨rfl, hk, hsz, htk, hit, hacc⟩ := hf
  obtain ⟨o, ho, hoc, hod⟩ := hit
  obtain ⟨oc, od, oda, osl⟩ := o
  replace hoc : oc = .type "list_iterator" := hoc
  replace hod : oda = .fields ⟨[.ref l, .int (.ofNat (i + 1)) 0]⟩ := hod
  subst hoc hod
  refine ⟨plainId_quiet (id := "bytes.__new__.loop") (by decide +kernel) _, ?_⟩
  have hl : s'.heap.get? l = some (liC m c τ n) := hk.keep l _ h1 (by simp [n2, n3])
  refine h od osl p' s' ⟨hk.mono (by simp), fun x hx => ?_, fun x hx => (by cases hx), fun x hx => (by cases hx), List.nodup_nil⟩
  simp only [List.mem_cons, List.not_mem_nil, or_false] at hx
  rcases hx with rfl | rfl | rfl
  · exact ho
  · exact hl
  · exact hacc
theorem byN_map (u : Nat → UInt8) : ∀ k, byN k u = (List.range k).map u
  | 0 => rfl
  | k + 1 => by
    rw [byN, byN_map, List.range_succ_eq_map, List.map_cons, List.map_map]; rfl
theorem mkIv_chars (c : Nat → Nat) (τ : Nat → Nat) : ∀ n, mkIv ((chars n c).map Int.ofNat) τ = itemsOf n fun i => .int (.ofNat (c i)) (τ i)
  | 0 => rfl
  | n + 1 => by
    rw [chars, List.map_cons, mkIv, mkIv_chars (fun i => c (i + 1)) (fun i => τ (i + 1)) n]; rfl
theorem bl_ok {w : World} {b b2 : Bool} {it l acc : Nat} {bel : List (Code × Pos)} {m : Nat} (hm : m ≤ 12) {c τ : Nat → Nat} {n : Nat} (hc : ∀ i, c i < 256) (nd : [it, l, acc].Nodup) (lo : ∀ y ∈ [it, l, acc], 785 ≤ y) {R : Result → Shared → Prop} :
    ∀ (k i : Nat) {us : List UInt8} {d : Option Nat} {sl : Array (Option Value)} {s : Shared} {p : Pos} (S : Top (wld w b b2) s) (hi : i + k = m) (hu : us = (List.range i).map fun j => (c j).toUInt8) (H : Holds s [(it, liX d sl l i), (l, liC m c τ n), (acc, baO us)])
      (fin : ∀ (t : Nat) (o : Obj) (s' : Shared), Did s s' [(it, o), (l, liC m c τ n), (acc, baO (byN m fun i => (c i).toUInt8))] [] → R (.ok (.ret (.bytes ⟨byN m fun i => (c i).toUInt8⟩ t))) s'),
      wpCode (MW (wld w b b2)) (ctxOf (codeBL it acc) bel) R p s
  | 0, i, us, d, sl, s, p, S, hi, hu, H, fin => by
    have : i = m := by omega
    subst this
    have hu : us = byN i fun i => (c i).toUInt8 := by rw [byN_map]; exact hu
    subst hu
    have lo' : ∀ (o1 o2 o3 : Obj), ∀ y ∈ [(it, o1), (l, o2), (acc, o3)], 785 ≤ y.1 := fun o1 o2 o3 y hy => lo _ (List.mem_map.mpr ⟨y, hy, rfl⟩)
    refine runC_ok [] (conO_good orc0) S H nd (lo' _ _ _) _ _ (fun _ => []) _ (fun nv => bl_e w b b2 it l acc bel d sl i hm c τ _ n _ _ p nv) (fun _ => trivial) fun nv s' Af => ?_
    try dsimp only at Af
    generalize runC _ _ _ _ _ _ _ _ _ = X at Af ⊢
    exact fin _ _ s' (did0 Af rfl)
  | k + 1, i, us, d, sl, s, p, S, hi, hu, H, fin => by
    have hnd := nd
    simp only [List.nodup_cons, List.mem_cons, List.not_mem_nil, or_false, not_or] at hnd
    refine bl_turn (by omega) hc hnd.1.2 (Ne.symm hnd.1.1) hnd.2.1 ?_ H fun d' sl' p' s' D => ?_
    · have : sizeLine = 16777216 := by decide
      rw [hu, List.length_map, List.length_range]; omega
    · refine bl_ok hm hc nd lo k (i + 1) (Did.sane S D (fun y hy => lo _ (List.mem_map.mpr ⟨y, hy, rfl⟩))) (by omega) (by rw [hu, List.range_succ, List.map_append]; rfl) D.holds fun t o s'' D' => fin t o s'' (D.trans D' fun _ h => h)
/-! U401 -/
/-! ### what split tells of the four tapes -/
noncomputable def res4 (r0 r1 r2 r3 : Option (List (List Nat))) (i : Nat) : Option (List (List Nat)) := match i with
  | 0 => r0
  | 1 => r1
  | 2 => r2
  | _ => r3
noncomputable def oTd (o : OutL) (it acc Lc : Nat) (bel : List (Code × Pos)) : OutA := ⟨0, it, acc, Lc, o.L0, o.ct, o.cw, fun i => match i with | 0 => default | 1 => posN bel 0 | _ => posN bel 1⟩
noncomputable def ctxTd (it acc Lc : Nat) (o : OutL) : Ctx := ctxOf (.compLoop eTold 0 (.ref it) (.ref acc) (envTold ⟨0, it, acc, Lc, o.L0, o.ct, o.cw, fun _ => default⟩)) (outL o)
noncomputable def bytTok : Code → Nat
  | .call _ ⟨.bytes _ t :: _, _⟩ => t
  | _ => 0
noncomputable def conTd (o : OutL) (it acc Lc n : Nat) (v : Nat → Nat → UInt8) (res : Nat → Option (List (List Nat))) : CF := fun j x Γ cd T ads => match j with
  | 87 => some (conS T ads (ctxLSp (oTd o it acc Lc Γ.below) n (v x) (bytTok cd)) (zip3 [4] [(adOf ads 4, frX (froOf (T.get 4)))]) (o.L0 = adOf ads 4 ∧ x < 4) (fun ν => .ok (.ret (lspV (res x) (ν.n 0)))) (fun ν => zip2 [4] [(adOf ads 4, frX ⟨(froOf (T.get 4)).es, (froOf (T.get 4)).n, ν.sl 0⟩)]) fun ν => news_ [(ν.n 0, lspO (res x) ν)])
  | j => conV ⟨⟨orc0, fun _ => []⟩, fun _ => .none⟩ j x Γ cd T ads
noncomputable def tapes (n : Nat) (v : Nat → Nat → UInt8) (τ : Nat → Nat) : List Value := [.bytes ⟨byN (n + 1) (v 0)⟩ (τ 0), .bytes ⟨byN (n + 1) (v 1)⟩ (τ 1), .bytes ⟨byN (n + 1) (v 2)⟩ (τ 2), .bytes ⟨byN (n + 1) (v 3)⟩ (τ 3)]
noncomputable def objTd (it acc Lc tup L0 : Nat) (n : Nat) (v : Nat → Nat → UInt8) (τ : Nat → Nat) (g : FrO) : List (Nat × Obj) := [(it, tiO tup 0), (acc, lsO ⟨[]⟩ 0), (Lc, dictO [] 0), (tup, tupO (tapes n v τ)), (L0, frX g)]
theorem td (w : World) (b b2 : Bool) (it acc Lc tup : Nat) (o : OutL) (n : Nat) (v : Nat → Nat → UInt8) (τ : Nat → Nat) (g : FrO) (r0 r1 r2 r3 : Option (List (List Nat))) (N t : Nat) (p : Pos) (nv : Nv) :
    let W := wld w b b2
    let X := runC (cfgW W (conTd o it acc Lc n v (res4 r0 r1 r2 r3))) 180 (ctxTd it acc Lc o) p [1, 0, 1, 0, 1, 1, 4, 1, 1, 3, 3, 0, 3, 0, 88, 0, 18, 1, 0, 1, 0, 1, 0, 1, 1, 4, 1, 1, 3, 3, 0, 3, 0, 88, 1, 18, 1, 0, 1, 0, 1, 0, 1, 1, 4, 1, 1, 3, 3, 0, 3, 0, 88, 2, 18, 1, 0, 1, 0, 1, 0, 1, 1, 4, 1, 1, 3, 3, 0, 3, 0, 88, 3, 18, 1, 0, 1, 0, 1, 0, 1, 1, 4, 1, 1, 11] (objTd it acc Lc tup o.L0 n v τ g) N t nv
    let l' := [(it, obAt X 0), (acc, lsO ⟨[lspV r0 (adAt X 5), lspV r1 (adAt X 6), lspV r2 (adAt X 7), lspV r3 (adAt X 8)]⟩ 4), (Lc, dictO [ent W.params [111, 99, 116, 101, 116, 115] (ktk X 2 0) (.bytes ⟨byN (n + 1) (v 3)⟩ (τ 3))] 1), (tup, tupO (tapes n v τ)), (o.L0, frX ⟨g.es, g.n, slOf X 4⟩),
      (adAt X 5, lspO r0 (nv 0).2.2), (adAt X 6, lspO r1 (nv 2).2.2), (adAt X 7, lspO r2 (nv 4).2.2), (adAt X 8, lspO r3 (nv 6).2.2)]
    look [0, 1, 2, 3, 4, 5, 6, 7, 8] X = some (.done (.ok .next), os_ l', as_ l', dup (eqsOf X), dupG (gsOf X), dupO (osOf X), (SmallB ⟨[lspV r0 (adAt X 5), lspV r1 (adAt X 6), lspV r2 (adAt X 7)]⟩ ∧ (o.L0 = o.L0 ∧ 3 < 4) ∧ SmallB ⟨[lspV r0 (adAt X 5), lspV r1 (adAt X 6)]⟩ ∧ (o.L0 = o.L0 ∧ 2 < 4) ∧ SmallB ⟨[lspV r0 (adAt X 5)]⟩ ∧ (o.L0 = o.L0 ∧ 1 < 4) ∧ SmallB ⟨[]⟩ ∧ (o.L0 = o.L0 ∧ 0 < 4) ∧ True)) := by
  cases r0 <;> cases r1 <;> cases r2 <;> cases r3 <;> cases b <;> cases b2 <;> (intro W X l'; kernel_rfl)
/-! U501 -/
/-- four unknowns in one -/
noncomputable def mix4 (f : Nat → Unk) (sl : Array (Option Value)) : Unk := ⟨fun k => (f (k % 4)).n (k / 4), fun _ => sl, fun _ => #[], fun k => (f (k % 4)).ob (k / 4)⟩
noncomputable def sub4 (ν : Unk) (i : Nat) : Unk := ⟨fun j => ν.n (4 * j + i), fun _ => #[], fun _ => #[], fun j => ν.ob (4 * j + i)⟩
theorem sub_mix (f : Nat → Unk) (sl : Array (Option Value)) {i : Nat} (h : i < 4) : (∀ j, (sub4 (mix4 f sl) i).n j = (f i).n j) ∧ ∀ j, (sub4 (mix4 f sl) i).ob j = (f i).ob j := by
  refine ⟨fun j => ?_, fun j => ?_⟩
  · show (f ((4 * j + i) % 4)).n ((4 * j + i) / 4) = _
    rw [show (4 * j + i) % 4 = i by omega, show (4 * j + i) / 4 = j by omega]
  · show (f ((4 * j + i) % 4)).ob ((4 * j + i) / 4) = _
    rw [show (4 * j + i) % 4 = i by omega, show (4 * j + i) / 4 = j by omega]
theorem lspO_congr {r : Option (List (List Nat))} {ν ν' : Unk} (h1 : ∀ j, 1 ≤ j → j ≠ 2 → ν.n j = ν'.n j) (h2 : ν.ob 1 = ν'.ob 1) : lspO r ν = lspO r ν' := by
  unfold lspO
  split
  · rw [h1 1 (by decide) (by decide)]
    congr 3
    funext i
    exact h1 _ (by omega) (by omega)
  · exact h2
noncomputable def tdCh (P : Params) (it acc Lc tup L0 n : Nat) (v : Nat → Nat → UInt8) (τ : Nat → Nat) (g : FrO) (r0 r1 r2 r3 : Option (List (List Nat))) (ν : Unk) : List (Nat × Obj) :=
  [(it, ν.ob 0), (acc, lsO ⟨[lspV r0 (ν.n 0), lspV r1 (ν.n 1), lspV r2 (ν.n 2), lspV r3 (ν.n 3)]⟩ 4), (Lc, dictO [ent P [111, 99, 116, 101, 116, 115] (ν.n 8) (.bytes ⟨byN (n + 1) (v 3)⟩ (τ 3))] 1), (tup, tupO (tapes n v τ)), (L0, frX ⟨g.es, g.n, ν.sl 0⟩)]
noncomputable def tdNew (r0 r1 r2 r3 : Option (List (List Nat))) (ν : Unk) : List (Nat × Obj) := [(ν.n 0, lspO r0 (sub4 ν 0)), (ν.n 1, lspO r1 (sub4 ν 1)), (ν.n 2, lspO r2 (sub4 ν 2)), (ν.n 3, lspO r3 (sub4 ν 3))]
/-- what the four tapes are -/
structure TapesOk (n : Nat) (v : Nat → Nat → UInt8) (d : Nat → Nat → Nat) (res : Nat → Option (List (List Nat))) : Prop where
  n12 : n < 12
  bs : ∀ i, i < 4 → 92 ∉ chars (n + 1) (d i)
  res : ∀ i, i < 4 → res i = rdAll (2 * (chars (n + 1) (d i)).length + 2) (chars (n + 1) (d i)) 32
  ob : ∀ i, i < 4 → obsD (v i) (d i) (n + 1)
theorem conTd_ok {w : World} {b b2 : Bool} {o : OutL} {it acc Lc n : Nat} {v : Nat → Nat → UInt8} {d : Nat → Nat → Nat} {res : Nat → Option (List (List Nat))} (ht : TapesOk n v d res) {l0 : Nat} {s₀ : Shared} :
    ConOk (baseOf (kt (wld w b b2).params) 785 l0 s₀) (MW (wld w b b2)) (cfgW (wld w b b2) (conTd o it acc Lc n v res)) := by
  intro j y Γ T m ads tk s p g hg hx hn ho ob D
  replace hg : conTd o it acc Lc n v res j y Γ Γ.code T ads = some g := hg
  by_cases h : j = 87
  · subst h
    cases hg
    replace hx : Γ = _ := hx
    rw [hx]
    obtain ⟨h0, hy⟩ := ob
    refine con_z (W := wld w b b2) (is := [4]) (l := [(adOf ads 4, frX (froOf (T.get 4)))]) (ch := fun ν => [(adOf ads 4, frX ⟨(froOf (T.get 4)).es, (froOf (T.get 4)).n, ν.sl 0⟩)]) (nw := fun ν => [(ν.n 0, lspO (res y) ν)]) D rfl (by simp) hn ho (fun S H nd lo => ?_) (fun ν => rfl) (fun ν k hk => by
      match k, hk with
      | 0, _ => rfl)
    rw [← h0] at H lo ⊢
    exact lspl_ok (o := oTd o it acc Lc Γ.below) ht.n12 (ht.res y hy) (ht.bs y hy) (ht.ob y hy) S H (lo _ (List.mem_cons_self ..))
  · have : conTd o it acc Lc n v res j y Γ Γ.code T ads = conV ⟨⟨orc0, fun _ => []⟩, fun _ => .none⟩ j y Γ Γ.code T ads := by
      unfold conTd
      split
      · exact absurd rfl h
      · rfl
    rw [this] at hg
    exact conV_ok _ _ _ _ _ _ _ _ _ _ _ hg hx hn ho ob D
theorem td_ok {w : World} {b b2 : Bool} {it acc Lc tup : Nat} {o : OutL} {n : Nat} {v : Nat → Nat → UInt8} {d : Nat → Nat → Nat} {τ : Nat → Nat} {g : FrO} {r0 r1 r2 r3 : Option (List (List Nat))} (ht : TapesOk n v d (res4 r0 r1 r2 r3)) {s : Shared} {p : Pos} (S : Top (wld w b b2) s)
    (H : Holds s (objTd it acc Lc tup o.L0 n v τ g)) (nd : ((objTd it acc Lc tup o.L0 n v τ g).map (·.1)).Nodup) (lo : ∀ y ∈ objTd it acc Lc tup o.L0 n v τ g, 785 ≤ y.1) :
    wpCode (MW (wld w b b2)) (ctxTd it acc Lc o) (fun r s' => ∃ ν : Unk, r = .ok .next ∧ Did s s' (tdCh (wld w b b2).params it acc Lc tup o.L0 n v τ g r0 r1 r2 r3 ν) (tdNew r0 r1 r2 r3 ν)) p s := by
  have sb : ∀ l : List Value, l.length ≤ 3 → SmallB ⟨l⟩ := fun l h => by show l.length ≤ 1000000; omega
  refine runC_ok [5, 6, 7, 8] (conTd_ok (o := o) (it := it) (acc := acc) (Lc := Lc) ht) S H nd lo _ _ (fun _ => [_, _, _, _]) _ (fun nv => td w b b2 it acc Lc tup o n v τ g r0 r1 r2 r3 _ _ p nv) (fun _ => ⟨sb _ (by simp), ⟨rfl, by decide⟩, sb _ (by simp), ⟨rfl, by decide⟩, sb _ (by simp), ⟨rfl, by decide⟩, sb _ (by simp), ⟨rfl, by decide⟩, trivial⟩) fun nv s' Af => ?_
  try dsimp only at Af
  generalize runC _ _ _ _ _ _ _ _ _ = X at Af ⊢
  have D := Af.did [(it, obAt X 0), (acc, lsO ⟨[lspV r0 (adAt X 5), lspV r1 (adAt X 6), lspV r2 (adAt X 7), lspV r3 (adAt X 8)]⟩ 4), (Lc, dictO [ent (wld w b b2).params [111, 99, 116, 101, 116, 115] (ktk X 2 0) (.bytes ⟨byN (n + 1) (v 3)⟩ (τ 3))] 1), (tup, tupO (tapes n v τ)), (o.L0, frX ⟨g.es, g.n, slOf X 4⟩)]
      [(adAt X 5, lspO r0 (nv 0).2.2), (adAt X 6, lspO r1 (nv 2).2.2), (adAt X 7, lspO r2 (nv 4).2.2), (adAt X 8, lspO r3 (nv 6).2.2)] [5, 6, 7, 8] rfl rfl rfl (by simp) (by simp) rfl rfl
  let f : Nat → Unk := fun i => ⟨fun j => match j with | 0 => adAt X (5 + i) | 2 => ktk X 2 0 | j => (nv (2 * i)).2.2.n j, fun _ => #[], fun _ => #[], fun j => match j with | 0 => obAt X 0 | j => (nv (2 * i)).2.2.ob j⟩
  have key : ∀ (r : Option (List (List Nat))) (i : Nat), i < 4 → lspO r (sub4 (mix4 f (slOf X 4)) i) = lspO r (nv (2 * i)).2.2 := fun r i hi => by
    obtain ⟨h1, h2⟩ := sub_mix f (slOf X 4) hi
    refine lspO_congr (fun j hj hj2 => ?_) ?_
    · rw [h1]
      show (match j with | 0 => adAt X (5 + i) | 2 => ktk X 2 0 | j => (nv (2 * i)).2.2.n j) = _
      split
      · omega
      · omega
      · rfl
    · rw [h2]; rfl
  refine ⟨mix4 f (slOf X 4), rfl, ?_⟩
  unfold tdNew
  rw [key r0 0 (by decide), key r1 1 (by decide), key r2 2 (by decide), key r3 3 (by decide)]
  exact D
/-! V101 -/
/-! ### law, run (written by mkv1.py) -/
structure LawP where
  vs : List Value
  is : List Int
  k : Nat
  dg : Nat → Nat
  wd0 : Nat
  mp : Nat
  n : Nat
  c : Nat → Nat
  R : Nat
  u : Bool
  r0 : Option (List (List Nat))
  r1 : Option (List (List Nat))
  r2 : Option (List (List Nat))
  r3 : Option (List (List Nat))
  nr : Nat
noncomputable def emp : Nat → Bool
  | 0 => true
  | _ + 1 => false
noncomputable def vT (wd : Nat) (u : Nat → UInt8) (k : Nat) : UInt8 := u (k / wd * wd + (wd - 1 - k % wd))
noncomputable def LawP.wd (L : LawP) : Nat := 1 + L.wd0
noncomputable def LawP.cs (L : LawP) : List Nat := chars (L.n + 1) L.c
noncomputable def LawP.rows (L : LawP) : List (List Nat) := chunk L.wd L.R L.cs
noncomputable def LawP.v (L : LawP) (i : Nat) : Nat → UInt8 := match i with
  | 0 => fun i => (L.c i).toUInt8
  | 1 => vT (1 + L.wd0) fun i => (L.c i).toUInt8
  | 2 => vT (L.n + 1) fun i => (L.c i).toUInt8
  | _ => vT (1 + L.wd0) (vT (L.n + 1) fun i => (L.c i).toUInt8)
noncomputable def orcL (L : LawP) : OrX := ⟨⟨⟨⟨fun i => match i with | 50 => chars L.k L.dg | 0 => List.replicate L.mp 97 | _ => chars (L.n + 1) L.c, fun _ => 0⟩, fun _ => L.vs⟩, fun _ => .none⟩, L.is, fun i => match i with | 0 => L.wd0 | 1 => L.mp | 10 => 0 | 11 => L.R | _ => 1 + L.wd0⟩
noncomputable def oW (ads : Ads) (bel : List (Code × Pos)) : OutL := ⟨adOf ads 1, adOf ads 3, adOf ads 2, posN bel 0⟩
noncomputable def strTk (o : Option Obj) : Nat := match o with
  | some o => match recOf o.data with
    | some (v :: _) => vtok v
    | _ => 0
  | none => 0
noncomputable def ResB (r : Option (List (List Nat))) (o : Option Obj) : Prop := match r with
  | none => True
  | some ws => ∃ τ n, o = some (listO ⟨mkW ws τ⟩ n)
noncomputable def EightB (L : LawP) (T : BT) : Prop := ResB L.r0 (T.get 27) ∧ ResB L.r1 (T.get 28) ∧ ResB L.r2 (T.get 29) ∧ ResB L.r3 (T.get 30) ∧ ResB L.r0 (T.get 33) ∧ ResB L.r1 (T.get 34) ∧ ResB L.r2 (T.get 35) ∧ ResB L.r3 (T.get 36)
noncomputable def toldV (L : LawP) (ads : Ads) : List Value := [lspV L.r0 (adOf ads 27), lspV L.r1 (adOf ads 28), lspV L.r2 (adOf ads 29), lspV L.r3 (adOf ads 30)]
noncomputable def seenV (L : LawP) (ads : Ads) : List Value := [lspV L.r0 (adOf ads 33), lspV L.r1 (adOf ads 34), lspV L.r2 (adOf ads 35), lspV L.r3 (adOf ads 36)]
noncomputable def rowsX (L : LawP) (x : Nat) : List (List Nat) := match x with
  | 16 => L.rows
  | _ => L.rows.reverse
noncomputable def bsU (L : LawP) (x : Nat) : Nat → UInt8 := match x with
  | 2 => L.v 2
  | _ => L.v 0
noncomputable def bsV (L : LawP) (x : Nat) : Nat → UInt8 := match x with
  | 0 => L.v 1
  | 1 => L.v 2
  | _ => L.v 3
noncomputable def bsW (L : LawP) (x : Nat) : Nat := match x with
  | 1 => (byN (L.n + 1) (L.v 0)).length
  | _ => 1 + L.wd0
noncomputable def resS (L : LawP) (x : Nat) : Option (List (List Nat)) := match x with
  | 16 => L.r0
  | _ => L.r3
noncomputable def resT (L : LawP) (x : Nat) : Option (List (List Nat)) := match x with
  | 16 => L.r1
  | _ => L.r2
noncomputable def UnB (n : Nat) : Prop := n + 3 < cLine
noncomputable def ix1 : List Nat := [6, 7, 8, 5]
noncomputable def ix2 : List Nat := [11, 12, 13, 10]
noncomputable def ix3 : List Nat := [15, 16, 17, 2, 3]
noncomputable def ix4 : List Nat := [18, 19, 20]
noncomputable def ix5 : List Nat := [24, 25, 26, 23, 1]
noncomputable def ch1 (P : Params) (it acc Lc l : Nat) (L : LawP) (ν : Unk) : List (Nat × Obj) := [(it, ν.ob 0), (acc, lsO ⟨mkIv L.is fun i => ν.n (i + 100)⟩ (ν.n 0)), (Lc, oldL P [120] (emp L.k) (ν.n 1) (vsAt ν 0)), (l, lsO ⟨L.vs⟩ 0)]
noncomputable def ch2 (P : Params) (it acc Lc l : Nat) (L : LawP) (ν : Unk) : List (Nat × Obj) := [(it, ν.ob 0), (acc, lsO ⟨itemsOf L.k fun i => .str ⟨⟨[L.dg i]⟩⟩ (ν.n (i + 100))⟩ (ν.n 0)), (Lc, oldL P [120] (emp L.k) (ν.n 1) (vsAt ν 0)), (l, lsO ⟨L.vs⟩ 0)]
noncomputable def ch3 (P : Params) (it acc Lc cw ct : Nat) (L : LawP) (τw τc : Nat) (ν : Unk) : List (Nat × Obj) := [(it, ν.ob 0), (acc, lsO ⟨mkW L.rows fun i => ν.n (i + 100)⟩ (ν.n 0)), (Lc, oldL P [107] false (ν.n 1) (vsAt ν 0)), (cw, celV (some (.int (.ofNat (1 + L.wd0)) τw))), (ct, celV (some (.str ⟨⟨chars (L.n + 1) L.c⟩⟩ τc)))]
noncomputable def ch4 (P : Params) (it acc Lc : Nat) (L : LawP) (ν : Unk) : List (Nat × Obj) := [(it, ν.ob 0), (acc, lsO ⟨itemsOf (L.n + 1) fun i => .int (.ofNat (L.c i)) (ν.n (i + 100))⟩ (ν.n 0)), (Lc, oldL P [115, 105, 103, 110] false (ν.n 1) (vsAt ν 0))]
noncomputable def BlB (xs : List Value) (n : Nat) (c : Nat → Nat) : Prop := ∃ τ : Nat → Nat, xs = itemsOf n fun i => .int (.ofNat (c i)) (τ i)
noncomputable def conLaw (P : Params) (L : LawP) : CF := fun j x Γ cd T ads => match j with
  | 70 => some (conS T ads (ctxCm eWd (adOf ads 6) (adOf ads 7) (adOf ads 8) [] (oW ads Γ.below)) (zip3 ix1 (obj1 P (adOf ads 6) (adOf ads 7) (adOf ads 8) (adOf ads 5) 0 ⟨[]⟩ 0 (oldL P [120] true 0 .none) ⟨L.vs⟩ 0)) True (fun _ => .ok .next) (fun ν => zip2 ix1 (ch1 P (adOf ads 6) (adOf ads 7) (adOf ads 8) (adOf ads 5) L ν)) fun ν => news_ [])
  | 71 => some (conS T ads (ctxCm eDrawn (adOf ads 11) (adOf ads 12) (adOf ads 13) [] (oW ads Γ.below)) (zip3 ix2 (obj1 P (adOf ads 11) (adOf ads 12) (adOf ads 13) (adOf ads 10) 0 ⟨[]⟩ 0 (oldL P [120] true 0 .none) ⟨L.vs⟩ 0)) True (fun _ => .ok .next) (fun ν => zip2 ix2 (ch2 P (adOf ads 11) (adOf ads 12) (adOf ads 13) (adOf ads 10) L ν)) fun ν => news_ [])
  | 72 => some (conS T ads (ctxCm eRows (adOf ads 15) (adOf ads 16) (adOf ads 17) (celR (adOf ads 2) (adOf ads 3)) (oW ads Γ.below)) (zip3 ix3 (obj3 P (adOf ads 15) (adOf ads 16) (adOf ads 17) (adOf ads 2) (adOf ads 3) 0 L.R (1 + L.wd0) ⟨[]⟩ 0 (oldL P [107] true 0 .none) (celTok (T.get 2)) (chars (L.n + 1) L.c) (celTok (T.get 3)))) True (fun _ => .ok .next) (fun ν => zip2 ix3 (ch3 P (adOf ads 15) (adOf ads 16) (adOf ads 17) (adOf ads 2) (adOf ads 3) L (celTok (T.get 2)) (celTok (T.get 3)) ν)) fun ν => news_ [])
  | 73 => some (conS T ads (ctxCm eTape (adOf ads 18) (adOf ads 19) (adOf ads 20) [] (oW ads Γ.below)) (zip3 ix4 (obj4 P L.u (adOf ads 18) (adOf ads 19) (adOf ads 20) (chars (L.n + 1) L.c) (strTk (T.get 18)) 0 ⟨[]⟩ 0 (oldL P [115, 105, 103, 110] true 0 .none))) True (fun _ => .ok .next) (fun ν => zip2 ix4 (ch4 P (adOf ads 18) (adOf ads 19) (adOf ads 20) L ν)) fun ν => news_ [])
  | 74 => some (conS T ads (ctxTd (adOf ads 24) (adOf ads 25) (adOf ads 26) (oW ads Γ.below)) (zip3 ix5 (objTd (adOf ads 24) (adOf ads 25) (adOf ads 26) (adOf ads 23) (adOf ads 1) L.n L.v (tkS (T.get 23)) (froOf (T.get 1)))) True (fun _ => .ok .next) (fun ν => zip2 ix5 (tdCh P (adOf ads 24) (adOf ads 25) (adOf ads 26) (adOf ads 23) (adOf ads 1) L.n L.v (tkS (T.get 23)) (froOf (T.get 1)) L.r0 L.r1 L.r2 L.r3 ν)) fun ν => news_ (tdNew L.r0 L.r1 L.r2 L.r3 ν))
  | 75 => some (conS T ads (ctxBS (oW ads Γ.below) (L.n + 1) (bsU L x) (bytTok cd) (bsW L x) (tok1 (arg1 cd))) (zip3 [] []) (x < 3) (fun ν => .ok (.ret (.bytes ⟨byN (L.n + 1) (bsV L x)⟩ (ν.n 0)))) (fun ν => zip2 [] []) fun ν => news_ [])
  | 76 => match isList1 (T.get x) with
    | some (xs, nr) => some (conS T ads (ctxStC (oW ads Γ.below) (adOf ads x)) (zip3 [x] [(adOf ads x, lsO ⟨xs.toList⟩ nr)]) (IsWords xs.toList (rowsX L x)) (fun ν => .ok (.ret (lspV (resS L x) (ν.n 0)))) (fun ν => zip2 [x] [(adOf ads x, lsO ⟨xs.toList⟩ nr)]) fun ν => news_ [(ν.n 0, lspO (resS L x) ν)])
    | none => none
  | 77 => match isList1 (T.get x) with
    | some (xs, nr) => some (conS T ads (ctxTuC (oW ads Γ.below) (adOf ads x)) (zip3 [x] [(adOf ads x, lsO ⟨xs.toList⟩ nr)]) (IsWords xs.toList (rowsX L x)) (fun ν => .ok (.ret (lspV (resT L x) (ν.n 0)))) (fun ν => zip2 [x] [(adOf ads x, lsO ⟨xs.toList⟩ nr)]) fun ν => news_ [(ν.n 0, lspO (resT L x) ν)])
    | none => none
  | 78 => some { gx := { Γ with code := .call (.builtin "list.__eq__") ⟨[.ref (adOf ads 25), .ref (adOf ads 37)], []⟩ }, oq := [(T.get 25, some (lsO ⟨toldV L ads⟩ 4)), (T.get 37, some (lsO ⟨seenV L ads⟩ 0))], ob := EightB L T ∧ UnB (unitsOf Γ.below), left := fun _ => ⟨.ok (.ret (.bool true)), T, []⟩ }
  | 79 => match isList1 (T.get 19) with
    | some (xs, nr) => some (conS T ads (ctxOf (codeBL (adOf ads 21) (adOf ads 22)) Γ.below) (zip3 [21, 19, 22] [(adOf ads 21, liO (adOf ads 19) 0), (adOf ads 19, lsO ⟨xs.toList⟩ nr), (adOf ads 22, baO [])]) (BlB xs.toList (L.n + 1) L.c) (fun ν => .ok (.ret (.bytes ⟨byN (L.n + 1) (L.v 0)⟩ (ν.n 0)))) (fun ν => zip2 [21, 19, 22] [(adOf ads 21, ν.ob 0), (adOf ads 19, lsO ⟨xs.toList⟩ nr), (adOf ads 22, baO (byN (L.n + 1) (L.v 0)))]) fun ν => news_ [])
    | none => none
  | j => conX (orcL L) j x Γ cd T ads
noncomputable def treeLaw : Sem Fin := do ret (← PySem.call (.ref 784) [.ref 785])
noncomputable def runTop (W : World) (L : LawP) (items : Array Value) (fuel : Nat) (hs : List Nat) (N t : Nat) (p : Pos) (nv : Nv) : Out :=
  sxF (cfgW W (conLaw W.params L)) fuel Γ0 p .base treeLaw hs (treeOf 0 [lsO items L.nr] .nil) 1 (adsOf 0 [785] N []) t 0 nv ⟨[], [], [], True⟩
noncomputable def EightR (L : LawP) (nv : Nv) : Prop := ResB L.r0 (some (lspO L.r0 (sub4 (nv 23).2.2 0))) ∧ ResB L.r1 (some (lspO L.r1 (sub4 (nv 23).2.2 1))) ∧ ResB L.r2 (some (lspO L.r2 (sub4 (nv 23).2.2 2))) ∧ ResB L.r3 (some (lspO L.r3 (sub4 (nv 23).2.2 3))) ∧ ResB L.r0 (some (lspO L.r0 (nv 25).2.2)) ∧ ResB L.r1 (some (lspO L.r1 (nv 26).2.2)) ∧ ResB L.r2 (some (lspO L.r2 (nv 27).2.2)) ∧ ResB L.r3 (some (lspO L.r3 (nv 28).2.2))
noncomputable def defD : List Nat := [39, 97, 34, 32, 98, 39]
noncomputable def obLaw (L : LawP) (items : Array Value) (D : List Nat) (nv : Nv) : Prop :=
  (EightR L nv ∧ UnB (unitsOf (outL ⟨0, 0, 0, default⟩))) ∧
  IsWords (mkW L.rows fun i => (nv 15).2.2.n (i + 100)).reverse L.rows.reverse ∧
  IsWords (mkW L.rows fun i => (nv 15).2.2.n (i + 100)).reverse L.rows.reverse ∧
  IsWords (mkW L.rows fun i => (nv 15).2.2.n (i + 100)) L.rows ∧
  IsWords (mkW L.rows fun i => (nv 15).2.2.n (i + 100)) L.rows ∧
  RevB ⟨mkW L.rows fun i => (nv 15).2.2.n (i + 100)⟩ "slice" none none (some (-1)) ∧
  True ∧
  2 < 3 ∧
  1 < 3 ∧
  LbB (byN (L.n + 1) (L.v 0)) ∧
  0 < 3 ∧
  BlB (itemsOf (L.n + 1) fun i => .int (.ofNat (L.c i)) ((nv 17).2.2.n (i + 100))) (L.n + 1) L.c ∧
  True ∧
  AscB ⟨⟨chars (L.n + 1) L.c⟩⟩ (bx L.u) ∧
  True ∧
  RngI 0 (.ofNat (chars (L.n + 1) L.c).length) (.ofNat (1 + L.wd0)) 0 L.R (1 + L.wd0) ∧
  RngB (.ofNat (1 + L.wd0)) ∧
  LnB ⟨⟨chars (L.n + 1) L.c⟩⟩ ∧
  AddB ⟨⟨D⟩⟩ ⟨⟨List.replicate L.mp 97⟩⟩ (chars (L.n + 1) L.c) ∧
  MulSB ⟨⟨[97]⟩⟩ (.ofNat L.mp) (List.replicate L.mp 97) ∧
  ModB (-(.ofNat D.length)) (.ofNat (1 + L.wd0)) L.mp ∧
  LnB ⟨⟨D⟩⟩ ∧
  LnB ⟨⟨chars L.k L.dg⟩⟩ ∧
  JoinB "list" ⟨⟨[]⟩⟩ (itemsOf L.k fun i => .str ⟨⟨[L.dg i]⟩⟩ ((nv 5).2.2.n (i + 100))) (chars L.k L.dg) ∧
  True ∧
  SlLB "list" "slice" items none (some 12) none L.vs ∧
  ModB (1 + sumI 0 L.is) 4 L.wd0 ∧
  IntsB (mkIv L.is fun i => (nv 1).2.2.n (i + 100)) L.is none ∧
  True ∧
  SlLB "list" "slice" items none (some 12) none L.vs ∧
  True
noncomputable def lawAHt (u : Bool) : List Nat := [0, 0, 0, 2, 2, 0, 1001, 0, 0, 2, 1, 1, 1, 14, 4, 6, 6, 0, 6, 0, 7, 0, 72, 0, 9, 9, 9, 58, 7, 0, 0, 81, 0, 0, 0, 3, 3, 2, 1, 1, 1, 14, 9, 11, 11, 0, 11, 0, 12, 0, 73, 0, 14, 14, 14, 15, 12, 5, 0, 2, 2, 2, 0, 0, 2, 6, 0, 0, 0, 3, 81, 1, 0, 0, 55, 0, 59, 1, 4, 4, 0, 0, 0, 0, 4, 6, 0, 3, 0, 0, 82, 0, 15, 15, 0, 15, 0, 15, 15, 15, 83, 14, 16, 0, 74, 0, 2, 2, 18, 18, 18, 0, 0, 4, 17, bx u, 19, 0, 75, 0, 21, 21, 21, 0, 0, 0, 0, 20, 20, 20, 20, 20, 20, 20, 0, 20, 0, 22, 20, 20, 81, 0, 0, 0, 2, 2, 0, 2, 3, 0, 76, 0, 2, 2, 0, 2, 0, 0, 2, 86, 0, 0, 76, 1, 2, 2, 0, 2, 3, 0, 76, 2, 2, 2, 2, 2, 2, 2, 24, 24, 0, 24, 0, 25, 0, 76, 0, 2, 2, 27, 27, 27, 2, 0, 0, 17, 17, 17, 60, 1631, 2, 2, 2, 0, 2, 0, 77, 16, 0, 2, 0, 78, 16, 0, 2, 0, 78, 32, 0, 2, 0, 77, 32, 26, 38, 26, 79, 0]
noncomputable def lawAHf (u : Bool) : List Nat := [0, 0, 0, 2, 2, 0, 1001, 0, 0, 2, 1, 1, 1, 14, 4, 6, 6, 0, 6, 0, 7, 0, 7, 7, 0, 7, 0, 7, 72, 0, 9, 9, 9, 58, 7, 0, 0, 81, 0, 0, 0, 3, 3, 2, 1, 1, 1, 14, 9, 11, 11, 0, 11, 0, 12, 0, 12, 12, 0, 12, 0, 12, 73, 0, 14, 14, 14, 15, 12, 5, 0, 2, 2, 2, 0, 0, 2, 6, 0, 0, 0, 3, 81, 1, 0, 0, 55, 0, 59, 1, 4, 4, 0, 0, 0, 0, 4, 6, 0, 3, 0, 0, 82, 0, 15, 15, 0, 15, 0, 15, 15, 15, 83, 14, 16, 0, 16, 16, 0, 16, 0, 16, 74, 0, 2, 2, 18, 18, 18, 0, 0, 4, 17, bx u, 19, 0, 19, 19, 0, 19, 0, 19, 75, 0, 21, 21, 21, 0, 0, 0, 0, 20, 20, 20, 20, 20, 20, 20, 0, 20, 0, 22, 20, 20, 81, 0, 0, 0, 2, 2, 0, 2, 3, 0, 76, 0, 2, 2, 0, 2, 0, 0, 2, 86, 0, 0, 76, 1, 2, 2, 0, 2, 3, 0, 76, 2, 2, 2, 2, 2, 2, 2, 24, 24, 0, 24, 0, 25, 0, 25, 25, 0, 25, 0, 25, 76, 0, 2, 2, 27, 27, 27, 2, 0, 0, 17, 17, 17, 60, 1631, 2, 2, 2, 0, 2, 0, 77, 16, 0, 2, 0, 78, 16, 0, 2, 0, 78, 32, 0, 2, 0, 77, 32, 26, 38, 26, 79, 0]
noncomputable def lawEHt (u : Bool) : List Nat := [0, 0, 0, 2, 2, 0, 1001, 0, 0, 2, 1, 1, 1, 14, 4, 6, 6, 0, 6, 0, 7, 0, 72, 0, 9, 58, 7, 0, 0, 81, 0, 0, 0, 3, 3, 2, 1, 1, 1, 14, 9, 11, 11, 0, 11, 0, 12, 0, 73, 0, 14, 15, 12, 5, 0, 2, 2, 2, 0, 0, 2, 6, 0, 0, 0, 3, 81, 1, 0, 0, 55, 0, 59, 1, 4, 4, 0, 0, 0, 0, 4, 6, 0, 3, 0, 0, 82, 0, 15, 15, 0, 15, 0, 15, 15, 15, 83, 14, 16, 0, 74, 0, 2, 2, 18, 18, 18, 0, 0, 4, 17, bx u, 19, 0, 75, 0, 21, 21, 21, 0, 0, 0, 0, 20, 20, 20, 20, 20, 20, 20, 0, 20, 0, 22, 20, 20, 81, 0, 0, 0, 2, 2, 0, 2, 3, 0, 76, 0, 2, 2, 0, 2, 0, 0, 2, 86, 0, 0, 76, 1, 2, 2, 0, 2, 3, 0, 76, 2, 2, 2, 2, 2, 2, 2, 24, 24, 0, 24, 0, 25, 0, 76, 0, 2, 2, 27, 27, 27, 2, 0, 0, 17, 17, 17, 60, 1631, 2, 2, 2, 0, 2, 0, 77, 16, 0, 2, 0, 78, 16, 0, 2, 0, 78, 32, 0, 2, 0, 77, 32, 26, 38, 26, 79, 0]
noncomputable def lawEHf (u : Bool) : List Nat := [0, 0, 0, 2, 2, 0, 1001, 0, 0, 2, 1, 1, 1, 14, 4, 6, 6, 0, 6, 0, 7, 0, 7, 7, 0, 7, 0, 7, 72, 0, 9, 58, 7, 0, 0, 81, 0, 0, 0, 3, 3, 2, 1, 1, 1, 14, 9, 11, 11, 0, 11, 0, 12, 0, 12, 12, 0, 12, 0, 12, 73, 0, 14, 15, 12, 5, 0, 2, 2, 2, 0, 0, 2, 6, 0, 0, 0, 3, 81, 1, 0, 0, 55, 0, 59, 1, 4, 4, 0, 0, 0, 0, 4, 6, 0, 3, 0, 0, 82, 0, 15, 15, 0, 15, 0, 15, 15, 15, 83, 14, 16, 0, 16, 16, 0, 16, 0, 16, 74, 0, 2, 2, 18, 18, 18, 0, 0, 4, 17, bx u, 19, 0, 19, 19, 0, 19, 0, 19, 75, 0, 21, 21, 21, 0, 0, 0, 0, 20, 20, 20, 20, 20, 20, 20, 0, 20, 0, 22, 20, 20, 81, 0, 0, 0, 2, 2, 0, 2, 3, 0, 76, 0, 2, 2, 0, 2, 0, 0, 2, 86, 0, 0, 76, 1, 2, 2, 0, 2, 3, 0, 76, 2, 2, 2, 2, 2, 2, 2, 24, 24, 0, 24, 0, 25, 0, 25, 25, 0, 25, 0, 25, 76, 0, 2, 2, 27, 27, 27, 2, 0, 0, 17, 17, 17, 60, 1631, 2, 2, 2, 0, 2, 0, 77, 16, 0, 2, 0, 78, 16, 0, 2, 0, 78, 32, 0, 2, 0, 77, 32, 26, 38, 26, 79, 0]
/-! V201 -/
noncomputable def lawAP (u : Bool) (r0 r1 r2 r3 : Option (List (List Nat))) : Prop := ∀ (w : World) (b b2 : Bool) (vs : List Value) (is : List Int) (k0 : Nat) (dg : Nat → Nat) (wd0 mp n : Nat) (c : Nat → Nat) (R : Nat) (nr : Nat) (items : Array Value) (t : Nat) (nv : Nv),
    let W := wld w b b2
    let L : LawP := ⟨vs, is, (k0 + 1), dg, wd0, mp, n, c, R, u, r0, r1, r2, r3, nr⟩
    let X := runTop W L items 520 (match b2 with | true => lawAHt u | false => lawAHf u) 786 t default nv
    look [0] X = some (.done (.ok (.ret (.bool true))), [some (lsO items nr)], [785], dup (eqsOf X), dupG (gsOf X), dupO (osOf X), obLaw L items (chars (k0 + 1) dg) nv)
theorem lawA_0000t : lawAP true none none none none := by
  intro w b b2 vs is k0 dg wd0 mp n c R nr items t nv; cases b <;> cases b2 <;> (intro W L X; kernel_rfl)
theorem lawA_0000f : lawAP false none none none none := by
  intro w b b2 vs is k0 dg wd0 mp n c R nr items t nv; cases b <;> cases b2 <;> (intro W L X; kernel_rfl)
theorem lawA_0101t (w1 w3 : List (List Nat)) : lawAP true none (some w1) none (some w3) := by
  intro w b b2 vs is k0 dg wd0 mp n c R nr items t nv; cases b <;> cases b2 <;> (intro W L X; kernel_rfl)
theorem lawA_0101f (w1 w3 : List (List Nat)) : lawAP false none (some w1) none (some w3) := by
  intro w b b2 vs is k0 dg wd0 mp n c R nr items t nv; cases b <;> cases b2 <;> (intro W L X; kernel_rfl)
theorem lawA_1010t (w0 w2 : List (List Nat)) : lawAP true (some w0) none (some w2) none := by
  intro w b b2 vs is k0 dg wd0 mp n c R nr items t nv; cases b <;> cases b2 <;> (intro W L X; kernel_rfl)
theorem lawA_1010f (w0 w2 : List (List Nat)) : lawAP false (some w0) none (some w2) none := by
  intro w b b2 vs is k0 dg wd0 mp n c R nr items t nv; cases b <;> cases b2 <;> (intro W L X; kernel_rfl)
theorem lawA_1111t (w0 w1 w2 w3 : List (List Nat)) : lawAP true (some w0) (some w1) (some w2) (some w3) := by
  intro w b b2 vs is k0 dg wd0 mp n c R nr items t nv; cases b <;> cases b2 <;> (intro W L X; kernel_rfl)
theorem lawA_1111f (w0 w1 w2 w3 : List (List Nat)) : lawAP false (some w0) (some w1) (some w2) (some w3) := by
  intro w b b2 vs is k0 dg wd0 mp n c R nr items t nv; cases b <;> cases b2 <;> (intro W L X; kernel_rfl)
theorem lawA (u : Bool) (r0 r1 r2 r3 : Option (List (List Nat))) (h0 : r0 = none ↔ r2 = none) (h1 : r1 = none ↔ r3 = none) : lawAP u r0 r1 r2 r3 := by
  match r0, r2, h0 with
  | none, some _, h => exact absurd (h.mp rfl) (fun e => by cases e)
  | some _, none, h => exact absurd (h.mpr rfl) (fun e => by cases e)
  | none, none, _ =>
    match r1, r3, h1 with
    | none, some _, h => exact absurd (h.mp rfl) (fun e => by cases e)
    | some _, none, h => exact absurd (h.mpr rfl) (fun e => by cases e)
    | none, none, _ => exact match u with | false => lawA_0000f  | true => lawA_0000t 
    | some w1, some w3, _ => exact match u with | false => lawA_0101f w1 w3 | true => lawA_0101t w1 w3
  | some w0, some w2, _ =>
    match r1, r3, h1 with
    | none, some _, h => exact absurd (h.mp rfl) (fun e => by cases e)
    | some _, none, h => exact absurd (h.mpr rfl) (fun e => by cases e)
    | none, none, _ => exact match u with | false => lawA_1010f w0 w2 | true => lawA_1010t w0 w2
    | some w1, some w3, _ => exact match u with | false => lawA_1111f w0 w1 w2 w3 | true => lawA_1111t w0 w1 w2 w3
/-! V301 -/
noncomputable def lawEP (u : Bool) (r0 r1 r2 r3 : Option (List (List Nat))) : Prop := ∀ (w : World) (b b2 : Bool) (vs : List Value) (is : List Int) (k0 : Nat) (dg : Nat → Nat) (wd0 mp n : Nat) (c : Nat → Nat) (R : Nat) (nr : Nat) (items : Array Value) (t : Nat) (nv : Nv),
    let W := wld w b b2
    let L : LawP := ⟨vs, is, 0, dg, wd0, mp, n, c, R, u, r0, r1, r2, r3, nr⟩
    let X := runTop W L items 520 (match b2 with | true => lawEHt u | false => lawEHf u) 786 t default nv
    look [0] X = some (.done (.ok (.ret (.bool true))), [some (lsO items nr)], [785], dup (eqsOf X), dupG (gsOf X), dupO (osOf X), obLaw L items defD nv)
theorem lawE_1111t (w0 w1 w2 w3 : List (List Nat)) : lawEP true (some w0) (some w1) (some w2) (some w3) := by
  intro w b b2 vs is k0 dg wd0 mp n c R nr items t nv; cases b <;> cases b2 <;> (intro W L X; kernel_rfl)
end Mine.T01
end
section
open PySem PySem.W PySem.SeqAt
namespace Mine.T01
/-! W101 -/
/-! ### law's contracts hold -/
noncomputable def dT (wd : Nat) (c : Nat → Nat) (k : Nat) : Nat := c (k / wd * wd + (wd - 1 - k % wd))
noncomputable def LawP.d (L : LawP) (i : Nat) : Nat → Nat := match i with
  | 0 => L.c
  | 1 => dT (1 + L.wd0) L.c
  | 2 => dT (L.n + 1) L.c
  | _ => dT (1 + L.wd0) (dT (L.n + 1) L.c)
theorem LawP.v_d (L : LawP) (i k : Nat) : L.v i k = (L.d i k).toUInt8 := match i with
  | 0 => rfl
  | 1 => rfl
  | 2 => rfl
  | _ + 3 => rfl
structure LawOk (L : LawP) (xs : List Int) : Prop where
  vs : IsI L.vs xs
  x12 : xs.length ≤ 12
  is : L.is = xs.map (·.fdiv 2048)
  k : L.k = xs.length
  dg : ∀ i x, xs[i]? = some x → L.dg i = sgP x
  n12 : L.n < 12
  R : L.R * (1 + L.wd0) = L.n + 1
  wd : L.wd0 < 4
  lt : ∀ i, L.c i < 256
  n92 : ∀ i, L.c i ≠ 92
  res : ∀ i, i < 4 → res4 L.r0 L.r1 L.r2 L.r3 i = rdAll (2 * (chars (L.n + 1) (L.d i)).length + 2) (chars (L.n + 1) (L.d i)) 32
  s0 : L.r0 = standP L.rows
  s1 : L.r1 = turnP L.rows
  s2 : L.r2 = turnP L.rows.reverse
  s3 : L.r3 = standP L.rows.reverse
theorem mem_chars {n : Nat} {c : Nat → Nat} {x : Nat} (h : x ∈ chars n c) : ∃ i, c i = x := by
  rw [chars_map] at h
  obtain ⟨i, _, rfl⟩ := List.mem_map.mp h
  exact ⟨i, rfl⟩
theorem LawOk.d256 {L : LawP} {xs : List Int} (h : LawOk L xs) (i k : Nat) : L.d i k < 256 := by
  unfold LawP.d
  split <;> exact h.lt _
theorem LawOk.d92 {L : LawP} {xs : List Int} (h : LawOk L xs) (i k : Nat) : L.d i k ≠ 92 := by
  unfold LawP.d
  split <;> exact h.n92 _
theorem obsD_ok {v : Nat → UInt8} {d : Nat → Nat} (h : ∀ k, d k < 256) (hv : ∀ k, v k = (d k).toUInt8) : ∀ n, obsD v d n
  | 0 => trivial
  | n + 1 => by
    refine ⟨⟨d n, rfl, ?_⟩, obsD_ok h hv n⟩
    have h1 := h n
    have e : (v n).toNat = d n := by rw [hv]; simp; omega
    rw [e]
    refine ⟨?_, by show ((d n : Nat) : Int).toNat = d n; omega⟩
    have g1 : ¬ (Int.ofNat (d n) < 0) := by show ¬ ((d n : Nat) : Int) < 0; omega
    have g2 : ¬ (Int.ofNat (d n) > 0x10FFFF) := by show ¬ ((d n : Nat) : Int) > 0x10FFFF; omega
    simp only [g1, g2, decide_false, Bool.or_self]
theorem LawOk.tapes {L : LawP} {xs : List Int} (h : LawOk L xs) : TapesOk L.n L.v L.d (res4 L.r0 L.r1 L.r2 L.r3) :=
  ⟨h.n12, fun i _ hm => by obtain ⟨j, e⟩ := mem_chars hm; exact h.d92 i j e, h.res, fun i _ => obsD_ok (h.d256 i) (fun k => L.v_d i k) _⟩
theorem chunk_len : ∀ (r wd : Nat) (cs : List Nat), (chunk wd r cs).length = r
  | 0, _, _ => rfl
  | r + 1, wd, cs => congrArg (· + 1) (chunk_len r wd _)
theorem chunk_mem : ∀ (r wd : Nat) (cs : List Nat), cs.length = r * wd → ∀ x ∈ chunk wd r cs, x.length = wd
  | 0, _, _, _, x, h => by simp [chunk] at h
  | r + 1, wd, cs, hl, x, h => by
    rw [Nat.succ_mul] at hl
    rcases List.mem_cons.mp h with rfl | h
    · rw [List.length_take]; omega
    · exact chunk_mem r wd _ (by rw [List.length_drop]; omega) x h
theorem LawOk.csl {L : LawP} {xs : List Int} (h : LawOk L xs) : L.cs.length = L.R * (1 + L.wd0) := by
  unfold LawP.cs
  rw [chars_map, List.length_map, List.length_range, h.R]
theorem LawOk.R12 {L : LawP} {xs : List Int} (h : LawOk L xs) : 1 ≤ L.R ∧ L.R ≤ 12 := by
  have h1 := h.R
  have h2 := h.n12
  have h3 : L.R ≤ L.R * (1 + L.wd0) := Nat.le_mul_of_pos_right _ (by omega)
  constructor
  · rcases Nat.eq_zero_or_pos L.R with h0 | h0
    · rw [h0] at h1; omega
    · exact h0
  · omega
theorem LawOk.rows {L : LawP} {xs : List Int} (h : LawOk L xs) : L.rows.length ≤ 80 ∧ (∀ r ∈ L.rows, r ≠ [] ∧ r.length ≤ 12) ∧ L.rows ≠ [] := by
  have hR := h.R12
  have hw := h.wd
  have hl : L.rows.length = L.R := chunk_len _ _ _
  refine ⟨by omega, fun r hr => ?_, fun e => ?_⟩
  · have := chunk_mem L.R L.wd L.cs h.csl r hr
    have e : L.wd = 1 + L.wd0 := rfl
    refine ⟨fun e' => ?_, by omega⟩
    rw [e'] at this
    simp at this
    omega
  · rw [e] at hl
    simp at hl
    omega
theorem LawOk.rowsX {L : LawP} {xs : List Int} (h : LawOk L xs) (x : Nat) : (rowsX L x).length ≤ 80 ∧ (∀ r ∈ rowsX L x, r ≠ [] ∧ r.length ≤ 12) ∧ rowsX L x ≠ [] := by
  obtain ⟨h1, h2, h3⟩ := h.rows
  unfold Mine.T01.rowsX
  split
  · exact ⟨h1, h2, h3⟩
  · exact ⟨by rw [List.length_reverse]; exact h1, fun r hr => h2 r (List.mem_reverse.mp hr), by simpa using h3⟩
theorem okNW_w (n : Nat) (hn : n < 12) (wd0 : Nat) (hw : wd0 < 4) (hm : (n + 1) % (1 + wd0) = 0) : okNW (n + 1) (1 + wd0) := by
  have h : ∀ n ∈ List.range 12, ∀ w ∈ List.range 4, (n + 1) % (1 + w) = 0 → (n + 1, 1 + w) ∈ okL := by decide +kernel
  exact (h n (List.mem_range.mpr hn) wd0 (List.mem_range.mpr hw) hm)
theorem okNW_n (n : Nat) (hn : n < 12) : okNW (n + 1) (n + 1) := by
  have h : ∀ n ∈ List.range 12, (n + 1, n + 1) ∈ okL := by decide +kernel
  exact (h n (List.mem_range.mpr hn))
theorem bsL_vT (n wd : Nat) (u : Nat → UInt8) : bsL n wd u = byN n (vT wd u) := by
  rw [byN_map]
  unfold bsL bsI
  rw [List.map_map]
  rfl
theorem byN_len (n : Nat) (u : Nat → UInt8) : (byN n u).length = n := by rw [byN_map, List.length_map, List.length_range]
theorem mkW_items : ∀ (ws : List (List Nat)) (t : Nat → Nat), mkW ws t = itemsOf ws.length fun i => .str ⟨⟨ws.getD i []⟩⟩ (t i)
  | [], _ => rfl
  | w :: r, t => by
    rw [mkW, mkW_items r]
    rfl
/-! the lists told and seen are one -/
theorem mkW_get : ∀ (ws : List (List Nat)) (t : Nat → Nat) (j : Nat) (h : j < (mkW ws t).length), ∃ w, ws[j]? = some w ∧ (mkW ws t)[j] = .str ⟨⟨w⟩⟩ (t j)
  | [], _, j, h => absurd h (Nat.not_lt_zero _)
  | w :: r, t, 0, _ => ⟨w, rfl, rfl⟩
  | w :: r, t, j + 1, h => by
    obtain ⟨x, h1, h2⟩ := mkW_get r (fun i => t (i + 1)) j (by
      have : (mkW (w :: r) t).length = (mkW r fun i => t (i + 1)).length + 1 := rfl
      omega)
    exact ⟨x, h1, h2⟩
theorem mkW_len : ∀ (ws : List (List Nat)) (t : Nat → Nat), (mkW ws t).length = ws.length
  | [], _ => rfl
  | w :: r, t => congrArg (· + 1) (mkW_len r _)
theorem eqRes {A : Around} {s : Shared} {r : Option (List (List Nat))} {a b : Nat} {o1 o2 : Option Obj} (h1 : ResB r o1) (h2 : ResB r o2) (g1 : ∀ o, o1 = some o → s.heap.get? a = some o) (g2 : ∀ o, o2 = some o → s.heap.get? b = some o)
    (hne : o1 ≠ none → o2 ≠ none → a ≠ b) (hu : A.units < cLine) : EqAt A s (lspV r a) (lspV r b) true := by
  cases r with
  | none => exact EqAt.same .none
  | some ws =>
    obtain ⟨τ, n, e1⟩ := h1
    obtain ⟨τ', n', e2⟩ := h2
    have k1 := g1 _ e1
    have k2 := g2 _ e2
    have nd := hne (by rw [e1]; simp) (by rw [e2]; simp)
    have key : ((List.range (⟨mkW ws τ⟩ : Array Value).size).all fun _ => true) = true := by simp
    have hl : s.heap.IsList a ⟨mkW ws τ⟩ := ⟨_, k1, by rw [← lsO_eq]; rfl, n, rfl⟩
    have hb : s.heap.IsList b ⟨mkW ws τ'⟩ := ⟨_, k2, by rw [← lsO_eq]; rfl, n', rfl⟩
    have := RcAt.lists (A := A) (e := fun _ => true) hl hb (by show (mkW ws τ).length = (mkW ws τ').length; rw [mkW_len, mkW_len]) hu fun j h1 h2 => ?_
    · rw [key] at this
      exact EqAt.of_refs nd this
    · obtain ⟨w1, p1, q1⟩ := mkW_get ws τ j h1
      obtain ⟨w2, p2, q2⟩ := mkW_get ws τ' j h2
      rw [p1] at p2
      cases p2
      show EqAt _ _ (mkW ws τ)[j] (mkW ws τ')[j] _
      rw [q1, q2]
      have z := EqAt.str_str (A := A.in1) (s := s) ⟨⟨w1⟩⟩ (τ j) ⟨⟨w1⟩⟩ (τ' j)
      have e : ((⟨⟨w1⟩⟩ : Str) == ⟨⟨w1⟩⟩) = true := by simp
      rwa [e] at z
/-! W201 -/
section
/-! ### law's contracts, each -/
variable {w : World} {b b2 : Bool} {L : LawP} {xs : List Int} {l0 : Nat} {s₀ s : Shared} {T : BT} {m tk : Nat} {ads : Ads} {p : Pos}
noncomputable def MC (n k : Nat) : Nat → Nat | 0 => n | _ => k
theorem shift_n (t : Nat → Nat) (M : Nat → Nat) : (fun i => if 100 ≤ i + 100 then t (i + 100 - 100) else M (i + 100)) = t := by
  funext i
  rw [if_pos (Nat.le_add_left 100 i)]
  exact congrArg t (Nat.add_sub_cancel i 100)
noncomputable def unkC (t M : Nat → Nat) (v : Value) (ob : Obj) : Unk := ⟨fun i => if 100 ≤ i then t (i - 100) else M i, fun _ => #[], fun _ => #[v], fun _ => ob⟩
theorem emp_eq {k : Nat} {xs : List Int} (h : k = xs.length) : (true && xs.isEmpty) = emp k := by
  subst h
  cases xs <;> rfl
theorem c70_ok (hL : LawOk L xs) {it acc Lc l : Nat} {o : OutL} (S : Top (wld w b b2) s) (H : Holds s (obj1 (wld w b b2).params it acc Lc l 0 ⟨[]⟩ 0 (oldL (wld w b b2).params [120] true 0 .none) ⟨L.vs⟩ 0))
    (nd : [it, acc, Lc, l].Nodup) (lo : ∀ y ∈ [it, acc, Lc, l], 785 ≤ y) :
    wpCode (MW (wld w b b2)) (ctxCm eWd it acc Lc [] o) (fun r s' => ∃ ν : Unk, r = .ok .next ∧ Did s s' (ch1 (wld w b b2).params it acc Lc l L ν) []) p s := by
  have h12 := hL.x12
  refine cm1_loop nd lo (by omega) hL.vs xs (ys := []) (is := []) S rfl trivial (Nat.zero_le _) (Nat.zero_le _) H fun ys' n' k' v' ob' s' hv D => ?_
  rw [List.nil_append, ← hL.is] at hv
  obtain ⟨t, rfl⟩ := isI_mkIv hv
  refine ⟨unkC t (MC n' k') v' ob', rfl, ?_⟩
  rw [emp_eq hL.k] at D
  unfold ch1
  rw [show (fun i => (unkC t (MC n' k') v' ob').n (i + 100)) = t from shift_n t (MC n' k')]
  exact D
theorem c71_ok (hL : LawOk L xs) {it acc Lc l : Nat} {o : OutL} (S : Top (wld w b b2) s) (H : Holds s (obj1 (wld w b b2).params it acc Lc l 0 ⟨[]⟩ 0 (oldL (wld w b b2).params [120] true 0 .none) ⟨L.vs⟩ 0))
    (nd : [it, acc, Lc, l].Nodup) (lo : ∀ y ∈ [it, acc, Lc, l], 785 ≤ y) :
    wpCode (MW (wld w b b2)) (ctxCm eDrawn it acc Lc [] o) (fun r s' => ∃ ν : Unk, r = .ok .next ∧ Did s s' (ch2 (wld w b b2).params it acc Lc l L ν) []) p s := by
  have h12 := hL.x12
  refine cm2_loop nd lo (by omega) hL.vs xs (ys := []) (is := []) S rfl trivial (Nat.zero_le _) (Nat.zero_le _) H fun ys' n' k' v' ob' s' hv D => ?_
  rw [List.nil_append] at hv
  obtain ⟨t, rfl⟩ := isWords_mkW hv
  have e : mkW (xs.map fun x => [sgP x]) t = itemsOf L.k fun i => .str ⟨⟨[L.dg i]⟩⟩ (t i) := by
    rw [mkW_items, List.length_map, hL.k]
    refine itemsOf_congr fun i hi => ?_
    rw [hL.dg i xs[i] (List.getElem?_eq_getElem hi)]
    simp [hi]
  rw [e] at D
  refine ⟨unkC t (MC n' k') v' ob', rfl, ?_⟩
  rw [emp_eq hL.k] at D
  unfold ch2
  rw [show (itemsOf L.k fun i => Value.str ⟨⟨[L.dg i]⟩⟩ ((unkC t (MC n' k') v' ob').n (i + 100))) = itemsOf L.k fun i => .str ⟨⟨[L.dg i]⟩⟩ (t i) from itemsOf_congr fun i _ => by
    rw [show (unkC t (MC n' k') v' ob').n (i + 100) = t i from congrFun (shift_n t (MC n' k')) i]]
  exact D
theorem c72_ok (hL : LawOk L xs) {it acc Lc cw ct τw τc : Nat} {o : OutL} (S : Top (wld w b b2) s) (H : Holds s (obj3 (wld w b b2).params it acc Lc cw ct 0 L.R (1 + L.wd0) ⟨[]⟩ 0 (oldL (wld w b b2).params [107] true 0 .none) τw (chars (L.n + 1) L.c) τc))
    (nd : [it, acc, Lc, cw, ct].Nodup) (lo : ∀ y ∈ [it, acc, Lc, cw, ct], 785 ≤ y) :
    wpCode (MW (wld w b b2)) (ctxCm eRows it acc Lc (celR cw ct) o) (fun r s' => ∃ ν : Unk, r = .ok .next ∧ Did s s' (ch3 (wld w b b2).params it acc Lc cw ct L τw τc ν) []) p s := by
  have hc : (chars (L.n + 1) L.c).length = L.R * (1 + L.wd0) := hL.csl
  have hR := hL.R12
  have hc' : (chars (L.n + 1) L.c).length = L.n + 1 := by rw [hc, hL.R]
  have hn := hL.n12
  refine cm3_loop nd lo (by omega) L.R (ys := []) (is := []) S (by omega) (fun h => by omega) trivial (by show 0 + L.R ≤ 1000; omega) H fun ys' n' k' v' ob' s' hv D => ?_
  rw [List.nil_append] at hv
  obtain ⟨t, rfl⟩ := isWords_mkW hv
  refine ⟨unkC t (MC n' k') v' ob', rfl, ?_⟩
  unfold ch3
  rw [show (fun i => (unkC t (MC n' k') v' ob').n (i + 100)) = t from shift_n t (MC n' k')]
  exact D
theorem c73_ok (hL : LawOk L xs) {it acc Lc τ : Nat} {o : OutL} (S : Top (wld w b b2) s) (H : Holds s (obj4 (wld w b b2).params L.u it acc Lc (chars (L.n + 1) L.c) τ 0 ⟨[]⟩ 0 (oldL (wld w b b2).params [115, 105, 103, 110] true 0 .none)))
    (nd : [it, acc, Lc].Nodup) (lo : ∀ y ∈ [it, acc, Lc], 785 ≤ y) :
    wpCode (MW (wld w b b2)) (ctxCm eTape it acc Lc [] o) (fun r s' => ∃ ν : Unk, r = .ok .next ∧ Did s s' (ch4 (wld w b b2).params it acc Lc L ν) []) p s := by
  have hc : (chars (L.n + 1) L.c).length = L.n + 1 := by rw [chars_map, List.length_map, List.length_range]
  have hn := hL.n12
  refine cm4_loop nd lo (by omega) (chars (L.n + 1) L.c) (ys := []) (is := []) S rfl (fun h => by rw [h] at hc; simp at hc) trivial (Nat.zero_le _) (Nat.zero_le _) H fun ys' n' k' v' ob' s' hv D => ?_
  rw [List.nil_append] at hv
  obtain ⟨t, rfl⟩ := isI_mkIv hv
  rw [mkIv_chars] at D
  refine ⟨unkC t (MC n' k') v' ob', rfl, ?_⟩
  unfold ch4
  rw [show (itemsOf (L.n + 1) fun i => Value.int (.ofNat (L.c i)) ((unkC t (MC n' k') v' ob').n (i + 100))) = itemsOf (L.n + 1) fun i => .int (.ofNat (L.c i)) (t i) from itemsOf_congr fun i _ => by
    rw [show (unkC t (MC n' k') v' ob').n (i + 100) = t i from congrFun (shift_n t (MC n' k')) i]]
  exact D
theorem c75_ok (hL : LawOk L xs) {x τ τw : Nat} {o : OutL} (hx : x < 3) (S : Top (wld w b b2) s) :
    wpCode (MW (wld w b b2)) (ctxBS o (L.n + 1) (bsU L x) τ (bsW L x) τw) (fun r s' => ∃ ν : Unk, r = .ok (.ret (.bytes ⟨byN (L.n + 1) (bsV L x)⟩ (ν.n 0))) ∧ Did s s' [] []) p s := by
  have hn := hL.n12
  have hw : okNW (L.n + 1) (1 + L.wd0) := okNW_w L.n hn L.wd0 hL.wd (by rw [← hL.R]; exact Nat.mul_mod_left _ _)
  match x, hx with
  | 0, _ =>
    have := bs_ok (w := w) (b := b) (b2 := b2) (o := o) (u := bsU L 0) (τ := τ) (wd := bsW L 0) (τw := τw) (p := p) hw (by omega) S
    rw [bsL_vT] at this
    exact this
  | 1, _ =>
    have e : bsW L 1 = L.n + 1 := byN_len _ _
    rw [e]
    have := bs_ok (w := w) (b := b) (b2 := b2) (o := o) (u := bsU L 1) (τ := τ) (wd := L.n + 1) (τw := τw) (p := p) (okNW_n L.n hn) (by omega) S
    rw [bsL_vT] at this
    exact this
  | 2, _ =>
    have := bs_ok (w := w) (b := b) (b2 := b2) (o := o) (u := bsU L 2) (τ := τ) (wd := bsW L 2) (τw := τw) (p := p) hw (by omega) S
    rw [bsL_vT] at this
    exact this
theorem resS_eq (hL : LawOk L xs) (x : Nat) : resS L x = standP (rowsX L x) := by
  unfold resS rowsX
  split
  · exact hL.s0
  · exact hL.s3
theorem resT_eq (hL : LawOk L xs) (x : Nat) : resT L x = turnP (rowsX L x) := by
  unfold resT rowsX
  split
  · exact hL.s1
  · exact hL.s2
theorem c79_ok (hL : LawOk L xs) {it l acc nr : Nat} {bel : List (Code × Pos)} {ys : List Value} (hy : BlB ys (L.n + 1) L.c) (S : Top (wld w b b2) s) (H : Holds s [(it, liO l 0), (l, lsO ⟨ys⟩ nr), (acc, baO [])]) (nd : [it, l, acc].Nodup) (lo : ∀ y ∈ [it, l, acc], 785 ≤ y) :
    wpCode (MW (wld w b b2)) (ctxOf (codeBL it acc) bel) (fun r s' => ∃ ν : Unk, r = .ok (.ret (.bytes ⟨byN (L.n + 1) (L.v 0)⟩ (ν.n 0))) ∧ Did s s' [(it, ν.ob 0), (l, lsO ⟨ys⟩ nr), (acc, baO (byN (L.n + 1) (L.v 0)))] []) p s := by
  obtain ⟨τ, rfl⟩ := hy
  have hn := hL.n12
  refine bl_ok (m := L.n + 1) (c := L.c) (τ := τ) (n := nr) (by omega) hL.lt nd lo (L.n + 1) 0 (us := []) (d := none) (sl := ⟨[]⟩) S (by omega) rfl H fun t o s' D => ?_
  exact ⟨⟨fun _ => t, fun _ => #[], fun _ => #[], fun _ => o⟩, rfl, D⟩
theorem c78_ok {Γ : Ctx} (hc : Γ.code = .call (.builtin "list.__eq__") ⟨[.ref (adOf ads 25), .ref (adOf ads 37)], []⟩) (h1 : T.get 25 = some (lsO ⟨toldV L ads⟩ 4)) (h2 : T.get 37 = some (lsO ⟨seenV L ads⟩ 0)) (hob : EightB L T ∧ UnB (unitsOf Γ.below))
    (D : Rep (baseOf (kt (wld w b b2).params) 785 l0 s₀) s T m ads tk) {g : Con} (hg : ∀ ν, g.left ν = ⟨.ok (.ret (.bool true)), T, []⟩) :
    wpCode (MW (wld w b b2)) Γ (fun r s' => ∃ N t ν, LeftRep (baseOf (kt (wld w b b2).params) 785 l0 s₀) g ν r s' m ads N t) p s := by
  obtain ⟨⟨q0, q1, q2, q3, q4, q5, q6, q7⟩, hu⟩ := hob
  have hA : (exactA Γ).in1.units < cLine := by
    show (exactA Γ).units + 1 < cLine
    have : (exactA Γ).units = unitsOf Γ.below := rfl
    rw [this]
    unfold UnB at hu
    omega
  have ne : ∀ {i j : Nat}, i ≠ j → T.get i ≠ none → T.get j ≠ none → adOf ads i ≠ adOf ads j := fun {i j} hij hi hj e => by
    obtain ⟨o1, e1⟩ := Option.ne_none_iff_exists'.mp hi
    obtain ⟨o2, e2⟩ := Option.ne_none_iff_exists'.mp hj
    exact hij (D.inj i j (D.own _ _ e1).1 (D.own _ _ e2).1 e)
  have gt : ∀ (i : Nat) (o : Obj), T.get i = some o → s.heap.get? (adOf ads i) = some o := fun i o e => (D.own i o e).2
  refine wpCode_at hc <| meets_code F.slot_list_eq ⟨_, gt _ _ h1, rfl⟩ F.entry_list_eq (F.args_list_eq_2 _ _) (list_eqAt (adOf ads 25) (adOf ads 37) ⟨toldV L ads⟩ ⟨seenV L ads⟩ 4 0 none none ⟨[]⟩ ⟨[]⟩ rfl fun _ => true) ⟨gt _ _ h1, gt _ _ h2, fun j hj hj' => ?_, ?_⟩
  · match j, hj with
    | 0, _ => exact eqRes q0 q4 (gt 27) (gt 33) (ne (by decide)) hA
    | 1, _ => exact eqRes q1 q5 (gt 28) (gt 34) (ne (by decide)) hA
    | 2, _ => exact eqRes q2 q6 (gt 29) (gt 35) (ne (by decide)) hA
    | 3, _ => exact eqRes q3 q7 (gt 30) (gt 36) (ne (by decide)) hA
  · have e : ((List.range (⟨toldV L ads⟩ : Array Value).size).all fun _ => true) = true := rfl
    rw [e]
    exact left_same D (hg unk0)
end
end Mine.T01
end
section
open PySem PySem.W
namespace Mine.T01
/-! W301 -/
/-! ### law's contracts hold, all -/
theorem conLaw_else {P : Params} {L : LawP} {j x : Nat} {Γ : Ctx} {cd : Code} {T : BT} {ads : Ads} (h : j < 70 ∨ 79 < j) : conLaw P L j x Γ cd T ads = conX (orcL L) j x Γ cd T ads := by
  unfold conLaw
  split <;> first | omega | rfl
theorem conLaw_ok {w : World} {b b2 : Bool} {L : LawP} {xs : List Int} (hL : LawOk L xs) {l0 : Nat} {s₀ : Shared} :
    ConOk (baseOf (kt (wld w b b2).params) 785 l0 s₀) (MW (wld w b b2)) (cfgW (wld w b b2) (conLaw (wld w b b2).params L)) := by
  intro j y Γ T m ads tk s p g hg hx hn ho ob D
  replace hg : conLaw (wld w b b2).params L j y Γ Γ.code T ads = some g := hg
  obtain ⟨q1, q2, q3⟩ := hL.rowsX y
  by_cases h : j < 70 ∨ 79 < j
  · rw [conLaw_else h] at hg
    exact conX_good (orcL L) _ _ _ _ _ _ _ _ _ _ hg hx hn ho ob D
  · obtain ⟨k, rfl⟩ : ∃ k, j = k + 70 := ⟨j - 70, (Nat.sub_add_cancel (Nat.le_of_not_lt fun z => h (.inl z))).symm⟩
    match k, hg, h with
    | 0, hg, _ =>
      cases hg
      replace hx : Γ = _ := hx
      rw [hx]
      exact con_z (ch := fun ν => ch1 (wld w b b2).params (adOf ads 6) (adOf ads 7) (adOf ads 8) (adOf ads 5) L ν) (nw := fun ν => []) D rfl (by decide) hn ho (fun S H nd lo => c70_ok hL S H nd fun y hy => by
        obtain ⟨z, hz, rfl⟩ := List.mem_map.mp (show y ∈ (obj1 (wld w b b2).params (adOf ads 6) (adOf ads 7) (adOf ads 8) (adOf ads 5) 0 ⟨[]⟩ 0 (oldL (wld w b b2).params [120] true 0 .none) ⟨L.vs⟩ 0).map (·.1) from hy)
        exact lo z hz) (fun ν => rfl) (fun ν k hk => absurd hk (Nat.not_lt_zero _))
    | 1, hg, _ =>
      cases hg
      replace hx : Γ = _ := hx
      rw [hx]
      exact con_z (ch := fun ν => ch2 (wld w b b2).params (adOf ads 11) (adOf ads 12) (adOf ads 13) (adOf ads 10) L ν) (nw := fun ν => []) D rfl (by decide) hn ho (fun S H nd lo => c71_ok hL S H nd fun y hy => by
        obtain ⟨z, hz, rfl⟩ := List.mem_map.mp (show y ∈ (obj1 (wld w b b2).params (adOf ads 11) (adOf ads 12) (adOf ads 13) (adOf ads 10) 0 ⟨[]⟩ 0 (oldL (wld w b b2).params [120] true 0 .none) ⟨L.vs⟩ 0).map (·.1) from hy)
        exact lo z hz) (fun ν => rfl) (fun ν k hk => absurd hk (Nat.not_lt_zero _))
    | 2, hg, _ =>
      cases hg
      replace hx : Γ = _ := hx
      rw [hx]
      exact con_z (ch := fun ν => ch3 (wld w b b2).params (adOf ads 15) (adOf ads 16) (adOf ads 17) (adOf ads 2) (adOf ads 3) L (celTok (T.get 2)) (celTok (T.get 3)) ν) (nw := fun ν => []) D rfl (by decide) hn ho (fun S H nd lo => c72_ok hL S H nd fun y hy => by
        obtain ⟨z, hz, rfl⟩ := List.mem_map.mp (show y ∈ (obj3 (wld w b b2).params (adOf ads 15) (adOf ads 16) (adOf ads 17) (adOf ads 2) (adOf ads 3) 0 L.R (1 + L.wd0) ⟨[]⟩ 0 (oldL (wld w b b2).params [107] true 0 .none) (celTok (T.get 2)) (chars (L.n + 1) L.c) (celTok (T.get 3))).map (·.1) from hy)
        exact lo z hz) (fun ν => rfl) (fun ν k hk => absurd hk (Nat.not_lt_zero _))
    | 3, hg, _ =>
      cases hg
      replace hx : Γ = _ := hx
      rw [hx]
      exact con_z (ch := fun ν => ch4 (wld w b b2).params (adOf ads 18) (adOf ads 19) (adOf ads 20) L ν) (nw := fun ν => []) D rfl (by decide) hn ho (fun S H nd lo => c73_ok hL S H nd fun y hy => by
        obtain ⟨z, hz, rfl⟩ := List.mem_map.mp (show y ∈ (obj4 (wld w b b2).params L.u (adOf ads 18) (adOf ads 19) (adOf ads 20) (chars (L.n + 1) L.c) (strTk (T.get 18)) 0 ⟨[]⟩ 0 (oldL (wld w b b2).params [115, 105, 103, 110] true 0 .none)).map (·.1) from hy)
        exact lo z hz) (fun ν => rfl) (fun ν k hk => absurd hk (Nat.not_lt_zero _))
    | 4, hg, _ =>
      cases hg
      replace hx : Γ = _ := hx
      rw [hx]
      exact con_z (ch := fun ν => tdCh (wld w b b2).params (adOf ads 24) (adOf ads 25) (adOf ads 26) (adOf ads 23) (adOf ads 1) L.n L.v (tkS (T.get 23)) (froOf (T.get 1)) L.r0 L.r1 L.r2 L.r3 ν) (nw := fun ν => tdNew L.r0 L.r1 L.r2 L.r3 ν) D rfl (by decide) hn ho (fun S H nd lo => td_ok (o := ⟨adOf ads 1, adOf ads 3, adOf ads 2, posN Γ.below 0⟩) hL.tapes S H nd lo) (fun ν => rfl) (fun ν => newsIx rfl)
    | 5, hg, _ =>
      cases hg
      replace hx : Γ = _ := hx
      rw [hx]
      exact con_z (l := []) (ch := fun ν => []) (nw := fun ν => []) D rfl (by decide) hn ho (fun S H nd lo => c75_ok hL ob S) (fun ν => rfl) (fun ν k hk => absurd hk (Nat.not_lt_zero _))
    | 6, hg, _ =>
      cases hi : isList1 (T.get y) with
      | none => simp only [conLaw, hi] at hg; cases hg
      | some z =>
        obtain ⟨ws, nr⟩ := z
        simp only [conLaw, hi] at hg
        cases hg
        replace hx : Γ = _ := hx
        rw [hx]
        exact con_z (ch := fun ν => [(adOf ads y, lsO ⟨ws.toList⟩ nr)]) (nw := fun ν => [(ν.n 0, lspO (resS L y) ν)]) D rfl (by simp) hn ho (fun S H nd lo => by
          have := stand_ok (w := w) (b := b) (b2 := b2) (o := oW ads Γ.below) (nr := nr) (p := p) ob q1 q2 q3 S H (lo _ (List.mem_cons_self ..))
          rw [← resS_eq hL y] at this
          exact this) (fun ν => rfl) (fun ν => newsIx rfl)
    | 7, hg, _ =>
      cases hi : isList1 (T.get y) with
      | none => simp only [conLaw, hi] at hg; cases hg
      | some z =>
        obtain ⟨ws, nr⟩ := z
        simp only [conLaw, hi] at hg
        cases hg
        replace hx : Γ = _ := hx
        rw [hx]
        exact con_z (ch := fun ν => [(adOf ads y, lsO ⟨ws.toList⟩ nr)]) (nw := fun ν => [(ν.n 0, lspO (resT L y) ν)]) D rfl (by simp) hn ho (fun S H nd lo => by
          have := turned_ok (w := w) (b := b) (b2 := b2) (o := oW ads Γ.below) (nr := nr) (p := p) ob q1 q2 q3 S H (lo _ (List.mem_cons_self ..))
          rw [← resT_eq hL y] at this
          exact this) (fun ν => rfl) (fun ν => newsIx rfl)
    | 8, hg, _ =>
      cases hg
      obtain ⟨c0, g1, g2, bel, g3⟩ := Γ
      have e1 := ho _ (List.mem_cons_self ..)
      have e2 := ho _ (List.mem_cons_of_mem _ (List.mem_cons_self ..))
      refine c78_ok ?_ e1 e2 ob D fun ν => rfl
      exact congrArg Ctx.code hx
    | 9, hg, _ =>
      cases hi : isList1 (T.get 19) with
      | none => simp only [conLaw, hi] at hg; cases hg
      | some z =>
        obtain ⟨ws, nr⟩ := z
        simp only [conLaw, hi] at hg
        cases hg
        replace hx : Γ = _ := hx
        rw [hx]
        exact con_z (ch := fun ν => [(adOf ads 21, ν.ob 0), (adOf ads 19, lsO ⟨ws.toList⟩ nr), (adOf ads 22, baO (byN (L.n + 1) (L.v 0)))]) (nw := fun ν => []) D rfl (by decide) hn ho (fun S H nd lo => c79_ok hL ob S H nd fun y hy => by
          obtain ⟨z, hz, rfl⟩ := List.mem_map.mp (show y ∈ [(adOf ads 21, liO (adOf ads 19) 0), (adOf ads 19, lsO ⟨ws.toList⟩ nr), (adOf ads 22, baO [])].map (·.1) from hy)
          exact lo z hz) (fun ν => rfl) (fun ν k hk => absurd hk (Nat.not_lt_zero _))
    | k + 10, _, h => exact absurd (.inr (Nat.lt_of_lt_of_le (by decide : 79 < 80) (Nat.le_add_left 80 k))) h
/-! X101 -/
/-! ### the plain law: what is told is what is read -/
theorem wayR_append : ∀ (a b pl : List Nat), wayR pl (a ++ b) = ((wayR (wayR pl a).1 b).1, (wayR pl a).2 ++ (wayR (wayR pl a).1 b).2)
  | [], _, _ => rfl
  | c :: a, b, pl => by rw [List.cons_append, wayR, wayR_append a b, wayR]; rfl
theorem rowsR_flat : ∀ (rs : List (List Nat)) (pl : List Nat), rowsR pl rs = wayR pl rs.flatten
  | [], _ => rfl
  | r :: rs, pl => by rw [List.flatten_cons, wayR_append, rowsR, rowsR_flat rs]
theorem way1_back {f : List Nat} {c : Nat} (h : IsPl f) : way1 (way1 f c).1 c = (f, (way1 f c).2) := by
  by_cases hc : c = 39 ∨ c = 34
  · rcases hc with rfl | rfl <;> rcases h with rfl | rfl | rfl <;> rfl
  · unfold way1
    rw [if_neg hc, if_neg hc]
    by_cases hf : f = []
    · subst hf
      rw [if_pos rfl]
      split <;> rfl
    · rw [if_neg hf]
      dsimp only
      rw [if_neg hf]
theorem wayR_back : ∀ (r : List Nat) {f : List Nat}, IsPl f → wayR (wayR f r).1 r.reverse = (f, (wayR f r).2.reverse)
  | [], _, _ => rfl
  | c :: r, f, h => by
    have hi := wayR_back r (way1_pl (c := c) h)
    have hb := way1_back (c := c) h
    rw [List.reverse_cons, wayR_append, show (wayR f (c :: r)).1 = (wayR (way1 f c).1 r).1 from rfl, show (wayR f (c :: r)).2 = (way1 f c).2 :: (wayR (way1 f c).1 r).2 from rfl, hi, List.reverse_cons]
    show ((way1 (way1 f c).1 c).1, (wayR (way1 f c).1 r).2.reverse ++ [(way1 (way1 f c).1 c).2]) = _
    rw [hb]
theorem begP_way {pl : List Nat} (r : List Nat) (h : IsPl pl) : IsPl (begP pl r) ∧ (wayR (begP pl r) r).1 = pl := by
  rcases beg_filt (r := r) h with ⟨e, _, h2, _⟩ | ⟨e, _, h2, _⟩ | ⟨e, _, h2, _⟩
  · rw [e]; exact ⟨.inl rfl, h2⟩
  · rw [e]; exact ⟨.inr (.inl rfl), h2⟩
  · rw [e]; exact ⟨.inr (.inr rfl), h2⟩
theorem turnR_rows : ∀ (rs : List (List Nat)) {pl : List Nat}, IsPl pl → turnR pl rs = rowsR pl (rs.map List.reverse)
  | [], _, _ => rfl
  | r :: rs, pl, h => by
    obtain ⟨h1, h2⟩ := begP_way r h
    have := wayR_back r h1
    rw [h2] at this
    rw [List.map_cons, rowsR, this, turnR, turnR_rows rs h1]
/-! reading -/
noncomputable def rdK (n : Nat) (cs : List Nat) (st : Nat) (tok : List Nat) (qd : Bool) : Option (List (List Nat)) :=
  match (rd cs st tok qd).err with
  | true => none
  | false => if (rd cs st tok qd).qd = false ∧ (rd cs st tok qd).tok = [] then some [] else (rdAll n (rd cs st tok qd).rest (rd cs st tok qd).st).map ((rd cs st tok qd).tok :: ·)
theorem rdAll_K (n : Nat) (cs : List Nat) (st : Nat) : rdAll (n + 1) cs st = rdK n cs st [] false := rfl
theorem rdK_step {n : Nat} {c : Nat} {r : List Nat} {st st' : Nat} {tok tok' : List Nat} {qd qd' : Bool} (h : rd (c :: r) st tok qd = rd r st' tok' qd') : rdK n (c :: r) st tok qd = rdK n r st' tok' qd' := by
  unfold rdK; rw [h]
noncomputable def finW (x : List Nat × List (Option (List Nat))) (w : Option (List Nat)) : Option (List (List Nat)) := if x.1 = [] then some (wdsR (x.2 ++ [none]) w) else none
theorem finW_some (pl l : List Nat) (ps : List (Option (List Nat))) : finW (pl, some l :: ps) none = finW (pl, ps) (some l) := rfl
theorem finW_add (pl l t : List Nat) (ps : List (Option (List Nat))) : finW (pl, some l :: ps) (some t) = finW (pl, ps) (some (t ++ l)) := rfl
theorem finW_skip (pl : List Nat) (ps : List (Option (List Nat))) : finW (pl, none :: ps) none = finW (pl, ps) none := rfl
theorem finW_end (pl t : List Nat) (ps : List (Option (List Nat))) : finW (pl, none :: ps) (some t) = (finW (pl, ps) none).map (t :: ·) := by
  unfold finW
  dsimp only
  split <;> rfl
theorem ws_way {c : Nat} : isWs c = true ↔ (c = 32 ∨ c = 9 ∨ c = 10 ∨ c = 13) := by
  unfold isWs
  rw [Bool.or_eq_true, Bool.or_eq_true, Bool.or_eq_true, beq_iff_eq, beq_iff_eq, beq_iff_eq, beq_iff_eq, or_assoc, or_assoc, or_comm (a := c = 13)]
theorem qt_way {c : Nat} : isQt c = true ↔ (c = 39 ∨ c = 34) := by simp only [isQt, Bool.or_eq_true, beq_iff_eq]
theorem way_ws {c : Nat} (h : isWs c = true) : way1 [] c = ([], none) := by
  have h' := ws_way.mp h
  unfold way1
  rw [if_neg (by omega), if_pos rfl, if_pos h']
theorem way_sg {c : Nat} (h : ¬ isWs c = true) (hq : ¬ isQt c = true) : way1 [] c = ([], some [c]) := by
  unfold way1
  rw [if_neg (fun z => hq (qt_way.mpr z)), if_pos rfl, if_neg (fun z => h (ws_way.mpr z))]
theorem way_in {m c : Nat} (h : c ≠ m) : way1 [m] c = ([m], some [c]) := by
  unfold way1
  split
  · rw [if_neg (by simp), if_neg (by simpa using fun h' => h h'.symm)]
  · rw [if_neg (by simp)]
theorem read_main : ∀ (cs : List Nat), ∀ n, cs.length < n →
    rdK n cs 32 [] false = finW (wayR [] cs) none ∧
    (∀ tok qd, (tok ≠ [] ∨ qd = true) → rdK n cs 97 tok qd = finW (wayR [] cs) (some tok)) ∧
    (∀ tok qd, rdK n cs 39 tok qd = finW (wayR [39] cs) (some tok)) ∧ (∀ tok qd, rdK n cs 34 tok qd = finW (wayR [34] cs) (some tok))
  | [], n, hn => by
    refine ⟨rfl, fun tok qd h => ?_, fun tok qd => rfl, fun tok qd => rfl⟩
    obtain ⟨k, rfl⟩ : ∃ k, n = k + 1 := ⟨n - 1, by omega⟩
    unfold rdK
    have e : rd [] 97 tok qd = ⟨false, tok, qd, 0, [], []⟩ := rfl
    rw [e]
    dsimp only
    rw [if_neg (fun z => by
      rcases h with h | h
      · exact h z.2
      · rw [h] at z; exact absurd z.1 (by decide))]
    rfl
  | c :: r, n, hn => by
    rw [List.length_cons] at hn
    obtain ⟨i1, i2, i3, i4⟩ := read_main r n (by omega)
    have wc : ∀ pl, wayR pl (c :: r) = ((wayR (way1 pl c).1 r).1, (way1 pl c).2 :: (wayR (way1 pl c).1 r).2) := fun _ => rfl
    refine ⟨?_, fun tok qd h => ?_, fun tok qd => ?_, fun tok qd => ?_⟩
    · rw [wc]
      by_cases hw : isWs c = true
      · rw [rdK_step (show rd (c :: r) 32 [] false = rd r 32 [] false by rw [rd, if_pos rfl, if_pos hw]), i1, way_ws hw, finW_skip]
      · by_cases hq : isQt c = true
        · rw [rdK_step (show rd (c :: r) 32 [] false = rd r c [] false by rw [rd, if_pos rfl, if_neg hw, if_pos hq])]
          rcases qt_way.mp hq with rfl | rfl
          · rw [i3 [] false]; rfl
          · rw [i4 [] false]; rfl
        · rw [rdK_step (show rd (c :: r) 32 [] false = rd r 97 [c] false by rw [rd, if_pos rfl, if_neg hw, if_neg hq]), i2 [c] false (.inl (by simp)), way_sg hw hq, finW_some]
    · rw [wc]
      by_cases hw : isWs c = true
      · have e : rd (c :: r) 97 tok qd = ⟨false, tok, qd, 32, r, [c]⟩ := by rw [rd, if_neg (by decide), if_pos rfl, if_pos hw]
        rw [way_ws hw, finW_end]
        unfold rdK
        rw [e]
        dsimp only
        rw [if_neg (fun z => by
          rcases h with h | h
          · exact h z.2
          · rw [h] at z; exact absurd z.1 (by decide))]
        obtain ⟨k, rfl⟩ : ∃ k, n = k + 1 := ⟨n - 1, by omega⟩
        rw [rdAll_K, (read_main r k (by omega)).1]
      · by_cases hq : isQt c = true
        · rw [rdK_step (show rd (c :: r) 97 tok qd = rd r c tok qd by rw [rd, if_neg (by decide), if_pos rfl, if_neg hw, if_pos hq])]
          rcases qt_way.mp hq with rfl | rfl
          · rw [i3 tok qd, show way1 [] 39 = ([39], some []) from rfl, finW_add, List.append_nil]
          · rw [i4 tok qd, show way1 [] 34 = ([34], some []) from rfl, finW_add, List.append_nil]
        · rw [rdK_step (show rd (c :: r) 97 tok qd = rd r 97 (tok ++ [c]) qd by rw [rd, if_neg (by decide), if_pos rfl, if_neg hw, if_neg hq]), i2 (tok ++ [c]) qd (.inl (by simp)), way_sg hw hq, finW_add]
    · rw [wc]
      by_cases he : c = 39
      · subst he
        rw [rdK_step (show rd (39 :: r) 39 tok qd = rd r 97 tok true by rw [rd, if_neg (by decide), if_neg (by decide), if_pos rfl]), i2 tok true (.inr rfl), show way1 [39] 39 = ([], some []) from rfl, finW_add, List.append_nil]
      · rw [rdK_step (show rd (c :: r) 39 tok qd = rd r 39 (tok ++ [c]) true by rw [rd, if_neg (by decide), if_neg (by decide), if_neg he]), i3, way_in he, finW_add]
    · rw [wc]
      by_cases he : c = 34
      · subst he
        rw [rdK_step (show rd (34 :: r) 34 tok qd = rd r 97 tok true by rw [rd, if_neg (by decide), if_neg (by decide), if_pos rfl]), i2 tok true (.inr rfl), show way1 [34] 34 = ([], some []) from rfl, finW_add, List.append_nil]
      · rw [rdK_step (show rd (c :: r) 34 tok qd = rd r 34 (tok ++ [c]) true by rw [rd, if_neg (by decide), if_neg (by decide), if_neg he]), i4, way_in he, finW_add]
theorem stand_read (rs : List (List Nat)) : standP rs = rdAll (2 * rs.flatten.length + 2) rs.flatten 32 := by
  rw [rdAll_K (2 * rs.flatten.length + 1) rs.flatten 32, (read_main rs.flatten _ (by omega)).1, ← rowsR_flat]
  rfl
theorem turn_read (rs : List (List Nat)) : turnP rs = rdAll (2 * (rs.map List.reverse).flatten.length + 2) (rs.map List.reverse).flatten 32 := by
  rw [← stand_read]
  unfold turnP standP
  rw [turnR_rows rs (.inl rfl)]
theorem stand_none (rs : List (List Nat)) : standP rs = none ↔ (wayR [] rs.flatten).1 ≠ [] := by
  rw [← rowsR_flat]
  unfold standP wordsP
  by_cases h : (rowsR [] rs).1 = []
  · rw [if_pos h]; exact ⟨fun e => (by cases e), fun e => absurd h e⟩
  · rw [if_neg h]; exact ⟨fun _ => h, fun _ => rfl⟩
theorem turn_stand (rs : List (List Nat)) : turnP rs = standP (rs.map List.reverse) := by
  unfold turnP standP
  rw [turnR_rows rs (.inl rfl)]
theorem back_nil {t : List Nat} (h : (wayR [] t).1 = []) : (wayR [] t.reverse).1 = [] := by
  have := wayR_back t (f := []) (.inl rfl)
  rw [h] at this
  rw [this]
/-- what is refused is refused from its end, too -/
theorem rev_none (rs : List (List Nat)) : standP rs = none ↔ turnP rs.reverse = none := by
  rw [turn_stand, stand_none, stand_none, List.map_reverse, ← List.reverse_flatten]
  exact not_congr ⟨back_nil, fun h => by have := back_nil h; rwa [List.reverse_reverse] at this⟩
/-! the texts -/
theorem chunk_flat (wd : Nat) : ∀ (r : Nat) (cs : List Nat), cs.length = r * wd → (chunk wd r cs).flatten = cs
  | 0, cs, h => by
    rw [Nat.zero_mul] at h
    rw [List.length_eq_zero_iff.mp h]; rfl
  | r + 1, cs, h => by
    rw [Nat.succ_mul] at h
    rw [chunk, List.flatten_cons, chunk_flat wd r _ (by rw [List.length_drop]; omega), List.take_append_drop]
theorem flat_chunk (wd : Nat) : ∀ (L : List (List Nat)), (∀ x ∈ L, x.length = wd) → chunk wd L.length L.flatten = L
  | [], _ => rfl
  | x :: L, h => by
    have hx := h x (List.mem_cons_self ..)
    rw [List.length_cons, chunk, List.flatten_cons, List.take_left' hx, List.drop_left' hx, flat_chunk wd L fun y hy => h y (List.mem_cons_of_mem x hy)]
theorem chunk_rev {wd r : Nat} {cs : List Nat} (h : cs.length = r * wd) : chunk wd r cs.reverse = ((chunk wd r cs).map List.reverse).reverse := by
  have := flat_chunk wd ((chunk wd r cs).map List.reverse).reverse fun x hx => by
    obtain ⟨y, hy, rfl⟩ := List.mem_map.mp (List.mem_reverse.mp hx)
    rw [List.length_reverse]
    exact chunk_mem r wd cs h y hy
  rw [List.length_reverse, List.length_map, chunk_len, ← List.reverse_flatten, chunk_flat wd r cs h] at this
  exact this
theorem chars_add (c : Nat → Nat) (a b : Nat) : chars (a + b) c = chars a c ++ chars b fun i => c (a + i) := by
  rw [chars_map, chars_map, chars_map, List.range_add, List.map_append, List.map_map]; rfl
theorem chars_length (n : Nat) (c : Nat → Nat) : (chars n c).length = n := by rw [chars_map, List.length_map, List.length_range]
theorem chars_congr {c d : Nat → Nat} {n : Nat} (h : ∀ k, k < n → c k = d k) : chars n c = chars n d := by
  rw [chars_map, chars_map]
  exact List.map_congr_left fun k hk => h k (List.mem_range.mp hk)
theorem chars_rev (n : Nat) (c : Nat → Nat) : chars n (fun k => c (n - 1 - k)) = (chars n c).reverse := by
  apply List.ext_getElem
  · rw [List.length_reverse, chars_length, chars_length]
  · intro i h1 h2
    rw [List.getElem_reverse]
    simp only [chars_map, List.getElem_map, List.getElem_range, List.length_map, List.length_range]
theorem chars_dT (wd : Nat) (hw : 0 < wd) : ∀ (r : Nat) (c : Nat → Nat), chars (r * wd) (dT wd c) = ((chunk wd r (chars (r * wd) c)).map List.reverse).flatten
  | 0, c => by rw [Nat.zero_mul]; rfl
  | r + 1, c => by
    have e : (r + 1) * wd = wd + r * wd := by rw [Nat.succ_mul, Nat.add_comm]
    rw [e, chars_add (dT wd c), chars_add c, chunk, List.take_left' (chars_length _ _), List.drop_left' (chars_length _ _), List.map_cons, List.flatten_cons, ← chars_dT wd hw r, ← chars_rev]
    congr 1
    · refine chars_congr fun k hk => ?_
      unfold dT
      rw [Nat.div_eq_of_lt hk, Nat.mod_eq_of_lt hk, Nat.zero_mul, Nat.zero_add]
    · refine chars_congr fun k hk => ?_
      unfold dT
      rw [Nat.add_div_left k hw, Nat.add_mod_left, Nat.succ_mul]
      congr 1
      omega
theorem chars_whole (n : Nat) (c : Nat → Nat) : chars (n + 1) (dT (n + 1) c) = (chars (n + 1) c).reverse := by
  rw [← chars_rev]
  refine chars_congr fun k hk => ?_
  unfold dT
  rw [Nat.div_eq_of_lt hk, Nat.mod_eq_of_lt hk, Nat.zero_mul, Nat.zero_add]
/-- the four texts, told by the rows -/
theorem plain_law {n wd r : Nat} {c : Nat → Nat} (hw : 0 < wd) (h : r * wd = n + 1) :
    let rows := chunk wd r (chars (n + 1) c)
    let T := fun d : Nat → Nat => rdAll (2 * (chars (n + 1) d).length + 2) (chars (n + 1) d) 32
    T c = standP rows ∧ T (dT wd c) = turnP rows ∧ T (dT (n + 1) c) = turnP rows.reverse ∧ T (dT wd (dT (n + 1) c)) = standP rows.reverse := by
  intro rows T
  have hl : (chars (n + 1) c).length = r * wd := by rw [chars_length, h]
  have hf : rows.flatten = chars (n + 1) c := chunk_flat wd r _ hl
  refine ⟨?_, ?_, ?_, ?_⟩
  · rw [stand_read, hf]
  · have e : chars (n + 1) (dT wd c) = (rows.map List.reverse).flatten := by
      rw [← h]
      have := chars_dT wd hw r c
      rw [this]
      show _ = ((chunk wd r (chars (n + 1) c)).map List.reverse).flatten
      rw [h]
    rw [turn_read, ← e]
  · have e : chars (n + 1) (dT (n + 1) c) = (rows.reverse.map List.reverse).flatten := by
      rw [chars_whole, ← hf, List.map_reverse, List.reverse_flatten]
    rw [turn_read, ← e]
  · have e : chars (n + 1) (dT wd (dT (n + 1) c)) = rows.reverse.flatten := by
      rw [← h]
      rw [chars_dT wd hw r, h, chars_whole, chunk_rev hl, List.map_reverse, List.map_map]
      congr 2
      show (chunk wd r (chars (n + 1) c)).map (List.reverse ∘ List.reverse) = chunk wd r (chars (n + 1) c)
      rw [show (List.reverse ∘ List.reverse : List Nat → List Nat) = id from funext fun x => List.reverse_reverse x, List.map_id]
    rw [stand_read, ← e]
/-! X201 -/
/-! ### law, its parts told by the script -/
noncomputable def dD : List Int → List Nat
  | [] => defD
  | x :: r => (x :: r).map sgP
noncomputable def wdK (xs : List Int) : Nat := ((1 + sumI 0 (xs.map (·.fdiv 2048))).fmod 4).toNat
noncomputable def mpK (xs : List Int) : Nat := ((-((dD xs).length : Int)).fmod (((1 + wdK xs : Nat)) : Int)).toNat
noncomputable def txK (xs : List Int) : List Nat := dD xs ++ List.replicate (mpK xs) 97
noncomputable def nK (xs : List Int) : Nat := (txK xs).length - 1
noncomputable def cK (xs : List Int) (i : Nat) : Nat := (txK xs).getD i 97
noncomputable def rK (xs : List Int) : Nat := (txK xs).length / (1 + wdK xs)
noncomputable def rowsK (xs : List Int) : List (List Nat) := chunk (1 + wdK xs) (rK xs) (chars (nK xs + 1) (cK xs))
noncomputable def dgK (xs : List Int) (i : Nat) : Nat := (xs.map sgP).getD i 0
noncomputable def mkL (vs : List Value) (xs : List Int) (nr : Nat) : LawP :=
  ⟨vs, xs.map (·.fdiv 2048), xs.length, dgK xs, wdK xs, mpK xs, nK xs, cK xs, rK xs, (chars (nK xs + 1) (cK xs)).all (· < 128), standP (rowsK xs), turnP (rowsK xs), turnP (rowsK xs).reverse, standP (rowsK xs).reverse, nr⟩
theorem chars_getD (d : Nat) : ∀ (l : List Nat), chars l.length (fun i => l.getD i d) = l := fun l => by
  rw [chars_map]
  apply List.ext_getElem
  · simp
  · intro i h1 h2
    simp [h2]
theorem wdK_lt (xs : List Int) : wdK xs < 4 ∧ (1 + sumI 0 (xs.map (·.fdiv 2048))).fmod 4 = (wdK xs : Int) := by
  obtain ⟨k, h1, h2⟩ := fmod_nat (1 + sumI 0 (xs.map (·.fdiv 2048))) (m := 4) (by decide)
  have e : wdK xs = k := by
    unfold wdK
    rw [show ((4 : Int)) = ((4 : Nat) : Int) from rfl, h2]; rfl
  rw [e]
  exact ⟨h1, h2⟩
theorem mpK_ok (xs : List Int) : mpK xs < 1 + wdK xs ∧ (-((dD xs).length : Int)).fmod (((1 + wdK xs : Nat)) : Int) = (mpK xs : Int) := by
  obtain ⟨k, h1, h2⟩ := fmod_nat (-((dD xs).length : Int)) (m := 1 + wdK xs) (by omega)
  have e : mpK xs = k := by
    unfold mpK
    rw [h2]; rfl
  rw [e]
  exact ⟨h1, h2⟩
theorem dD_len {xs : List Int} (h : xs.length ≤ 12) : 1 ≤ (dD xs).length ∧ (dD xs).length ≤ 12 := by
  cases xs with
  | nil => exact ⟨by decide, by decide⟩
  | cons x r =>
    rw [dD, List.length_map]
    rw [List.length_cons] at h ⊢
    omega
theorem tabK : ∀ D ∈ List.range 13, ∀ w ∈ List.range 4, 1 ≤ D → 1 ≤ D + ((-(D : Int)).fmod ((1 + w : Nat) : Int)).toNat ∧ D + ((-(D : Int)).fmod ((1 + w : Nat) : Int)).toNat ≤ 12 ∧ (D + ((-(D : Int)).fmod ((1 + w : Nat) : Int)).toNat) / (1 + w) * (1 + w) = D + ((-(D : Int)).fmod ((1 + w : Nat) : Int)).toNat ∧
    D + ((-(D : Int)).fmod ((1 + w : Nat) : Int)).toNat - 1 + 1 = D + ((-(D : Int)).fmod ((1 + w : Nat) : Int)).toNat := by decide +kernel
theorem txK_len {xs : List Int} (h : xs.length ≤ 12) : (txK xs).length = (dD xs).length + mpK xs ∧ 1 ≤ (txK xs).length ∧ (txK xs).length ≤ 12 ∧ rK xs * (1 + wdK xs) = (txK xs).length ∧ nK xs + 1 = (txK xs).length := by
  have e : (txK xs).length = (dD xs).length + mpK xs := by unfold txK; rw [List.length_append, List.length_replicate]
  obtain ⟨d1, d2⟩ := dD_len h
  have := tabK (dD xs).length (List.mem_range.mpr (Nat.lt_succ_of_le d2)) (wdK xs) (List.mem_range.mpr (wdK_lt xs).1) d1
  refine ⟨e, ?_⟩
  unfold rK nK
  rw [e]
  exact this
theorem chars_tx {xs : List Int} (h : xs.length ≤ 12) : chars (nK xs + 1) (cK xs) = txK xs := by
  rw [(txK_len h).2.2.2.2]
  exact chars_getD 97 (txK xs)
theorem sgP_good (x : Int) : sgP x < 256 ∧ sgP x ≠ 92 := by
  unfold sgP
  split
  · exact ⟨by decide, by decide⟩
  · split
    · exact ⟨by decide, by decide⟩
    · split
      · obtain ⟨k, h1, h2⟩ := fmod_nat (x.fdiv 8) (m := 4) (by decide)
        have e : ((x.fdiv 8).fmod 4).toNat = k := by
          rw [show ((4 : Int)) = ((4 : Nat) : Int) from rfl, h2]; rfl
        rw [e]
        have : k = 0 ∨ k = 1 ∨ k = 2 ∨ k = 3 := by omega
        rcases this with rfl | rfl | rfl | rfl <;> exact ⟨by decide, by decide⟩
      · split
        · exact ⟨by decide, by decide⟩
        · rename_i hne
          refine ⟨?_, hne⟩
          obtain ⟨k, h1, h2⟩ := fmod_nat (x.fdiv 8) (m := 256) (by decide)
          have e : ((x.fdiv 8).fmod 256).toNat = k := by
            rw [show ((256 : Int)) = ((256 : Nat) : Int) from rfl, h2]; rfl
          rw [e]
          exact h1
theorem cK_good (xs : List Int) (i : Nat) : cK xs i < 256 ∧ cK xs i ≠ 92 := by
  have key : ∀ x ∈ txK xs, x < 256 ∧ x ≠ 92 := fun x hx => by
    unfold txK at hx
    rcases List.mem_append.mp hx with hx | hx
    · cases xs with
      | nil =>
        simp only [dD, defD, List.mem_cons, List.not_mem_nil, or_false] at hx
        omega
      | cons y r =>
        rw [dD] at hx
        obtain ⟨z, _, rfl⟩ := List.mem_map.mp hx
        exact sgP_good z
    · rw [(List.mem_replicate.mp hx).2]
      exact ⟨by decide, by decide⟩
  unfold cK
  rw [List.getD_eq_getElem?_getD]
  cases h : (txK xs)[i]? with
  | none => exact ⟨by decide, by decide⟩
  | some x => exact key x (List.mem_of_getElem? h)
theorem mkL_ok {vs : List Value} {xs : List Int} {nr : Nat} (hv : IsI vs xs) (h : xs.length ≤ 12) : LawOk (mkL vs xs nr) xs := by
  obtain ⟨t1, t2, t3, t4, t5⟩ := txK_len h
  obtain ⟨w1, w2⟩ := wdK_lt xs
  obtain ⟨p0, p1, p2, p3⟩ := plain_law (n := nK xs) (wd := 1 + wdK xs) (r := rK xs) (c := cK xs) (by omega) (t4.trans t5.symm)
  refine ⟨hv, h, rfl, rfl, fun i x hx => ?_, ?_, t4.trans t5.symm, w1, fun i => (cK_good xs i).1, fun i => (cK_good xs i).2, fun i hi => ?_, rfl, rfl, rfl, rfl⟩
  · show (xs.map sgP).getD i 0 = sgP x
    rw [List.getD_eq_getElem?_getD, List.getElem?_map, hx]
    rfl
  · show nK xs < 12
    exact Nat.lt_of_succ_le (show nK xs + 1 ≤ 12 by rw [t5]; exact t3)
  · match i, hi with
    | 0, _ => exact p0.symm
    | 1, _ => exact p1.symm
    | 2, _ => exact p2.symm
    | 3, _ => exact p3.symm
theorem IsWords.reverse : ∀ {vs : List Value} {ws : List (List Nat)}, IsWords vs ws → IsWords vs.reverse ws.reverse
  | [], [], _ => trivial
  | .str ⟨⟨_⟩⟩ _ :: r, _ :: r', h => by
    obtain ⟨rfl, h⟩ := h
    rw [List.reverse_cons, List.reverse_cons]
    exact IsWords.snoc (IsWords.reverse h)
theorem mkW_words : ∀ (ws : List (List Nat)) (τ : Nat → Nat), IsWords (mkW ws τ) ws
  | [], _ => trivial
  | l :: r, τ => ⟨rfl, mkW_words r _⟩
theorem resB_lspO (r : Option (List (List Nat))) (ν : Unk) : ResB r (some (lspO r ν)) := by
  cases r with
  | none => trivial
  | some ws => exact ⟨_, _, rfl⟩
theorem tabR : ∀ n ∈ List.range 13, ∀ w ∈ List.range 4, 1 ≤ n → n / (1 + w) * (1 + w) = n → Builtin.Range.small 0 (.ofNat n) (.ofNat (1 + w)) = true ∧ Builtin.Range.rangeSize 0 (.ofNat n) (.ofNat (1 + w)) = ((n / (1 + w) : Nat) : Int) := by decide +kernel
theorem rngI_ok {n w : Nat} (hn : n ≤ 12) (hw : w < 4) (h1 : n / (1 + w) * (1 + w) = n) (h2 : 1 ≤ n) : RngI 0 (.ofNat n) (.ofNat (1 + w)) 0 (n / (1 + w)) (1 + w) := by
  obtain ⟨a, b⟩ := tabR n (List.mem_range.mpr (Nat.lt_succ_of_le hn)) w (List.mem_range.mpr hw) h2 h1
  exact ⟨rfl, rfl, a, b⟩
theorem ascB_all (l : List Nat) : AscB ⟨⟨l⟩⟩ (bx (l.all (· < 128))) := by
  unfold AscB
  show (Array.mk l).all (· < 128) = _
  rw [List.all_toArray]
  cases l.all (· < 128) <;> rfl
theorem big {a b : Nat} (h : a ≤ 12) (hb : 12 ≤ b) : a ≤ b := Nat.le_trans h hb
theorem mkL_ob {vs : List Value} {xs : List Int} {nr : Nat} {items : Array Value} (hv : IsI vs xs) (h : xs.length ≤ 12) (hi : items.toList.take 12 = vs) (hz : items.size ≤ 1000) (nv : Nv) : obLaw (mkL vs xs nr) items (dD xs) nv := by
  obtain ⟨t1, t2, t3, t4, t5⟩ := txK_len h
  have w1 := (wdK_lt xs).1
  have w2 := (wdK_lt xs).2
  have m2 := (mpK_ok xs).2
  have d2 := (dD_len h).2
  have ct := chars_tx h
  have hL := mkL_ok (nr := nr) hv h
  have hn : nK xs + 1 ≤ 12 := t5 ▸ t3
  have cl : (chars (nK xs + 1) (cK xs)).length = nK xs + 1 := chars_length _ _
  have c12 : (chars (nK xs + 1) (cK xs)).length ≤ 12 := by rw [cl]; exact hn
  have ne : ((1 + wdK xs : Nat) : Int) ≠ 0 := fun e => Nat.succ_ne_zero (wdK xs) ((Nat.add_comm (wdK xs) 1).trans (Int.ofNat.inj e))
  have sl : SlLB "list" "slice" items none (some 12) none (mkL vs xs nr).vs := by
    refine ⟨rfl, rfl, fun e => (by cases e), ?_, Nat.le_trans hz (by decide)⟩
    rw [slice12, hi]; rfl
  have ws := fun τ => mkW_words (mkL vs xs nr).rows τ
  refine ⟨⟨⟨resB_lspO _ _, resB_lspO _ _, resB_lspO _ _, resB_lspO _ _, resB_lspO _ _, resB_lspO _ _, resB_lspO _ _, resB_lspO _ _⟩, ?_⟩, IsWords.reverse (ws _), IsWords.reverse (ws _), ws _, ws _, ⟨rfl, rfl, rfl, rfl, ?_⟩, trivial, by decide, by decide, ?_, by decide, ⟨_, rfl⟩, trivial, ascB_all _, trivial, ?_, ⟨ne, ?_⟩, big c12 (by decide), addB ct.symm (big c12 (by decide)), ⟨97, mpK xs, rfl, rfl, Nat.le_trans (Nat.le_trans (Nat.le_add_left _ _) (t1 ▸ t3)) (by decide), rfl⟩, ⟨ne, m2⟩, big d2 (by decide), ?_, ?_, trivial, sl, ⟨by decide, w2⟩, ⟨intsOf_isI (isI_mk _ _), rfl⟩, trivial, sl, trivial⟩
  · show unitsOf _ + 3 < cLine
    decide
  · show (mkW (mkL vs xs nr).rows _).length ≤ 1000000
    rw [mkW_len]; exact Nat.le_trans hL.rows.1 (by decide)
  · show (byN (nK xs + 1) _).length ≤ 1000000
    rw [byN_len]; exact big hn (by decide)
  · show RngI 0 (.ofNat (chars (nK xs + 1) (cK xs)).length) (.ofNat (1 + wdK xs)) 0 (rK xs) (1 + wdK xs)
    rw [cl, t5]
    exact rngI_ok t3 w1 t4 t2
  · show 1 + wdK xs < 1073741824
    exact Nat.lt_of_lt_of_le (Nat.add_lt_add_left w1 1) (by decide)
  · show (chars xs.length (dgK xs)).length ≤ sizeLine
    rw [chars_length]; exact big h (by decide)
  · exact joinB_chars _ _ _ h
/-! X301 -/
/-! ### law -/
theorem isI_zip : ∀ (k : Nat) {xs : List Int} {ts : List Nat}, ts.length = xs.length → IsI ((List.zipWith (fun x t => Value.int x t) xs ts).take k) (xs.take k)
  | 0, _, _, _ => by rw [List.take_zero, List.take_zero]; trivial
  | k + 1, [], ts, h => by
    cases ts with
    | nil => trivial
    | cons _ _ => cases h
  | k + 1, x :: xs, [], h => by cases h
  | k + 1, x :: xs, t :: ts, h => ⟨rfl, isI_zip k (Nat.succ.inj h)⟩
theorem lawA_L (w : World) (b b2 : Bool) (L : LawP) (k0 : Nat) (hk : L.k = k0 + 1) (h0 : L.r0 = none ↔ L.r2 = none) (h1 : L.r1 = none ↔ L.r3 = none) (items : Array Value) (t : Nat) (nv : Nv) :
    let X := runTop (wld w b b2) L items 520 (match b2 with | true => lawAHt L.u | false => lawAHf L.u) 786 t default nv
    look [0] X = some (.done (.ok (.ret (.bool true))), [some (lsO items L.nr)], [785], dup (eqsOf X), dupG (gsOf X), dupO (osOf X), obLaw L items (chars (k0 + 1) L.dg) nv) := by
  obtain ⟨vs, is, k, dg, wd0, mp, n, c, R, u, r0, r1, r2, r3, nr⟩ := L
  replace hk : k = k0 + 1 := hk
  subst hk
  exact lawA u r0 r1 r2 r3 h0 h1 w b b2 vs is k0 dg wd0 mp n c R nr items t nv
theorem lawE_L (w : World) (b b2 : Bool) (L : LawP) (w0 w1 w2 w3 : List (List Nat)) (hk : L.k = 0) (hu : L.u = true) (h0 : L.r0 = some w0) (h1 : L.r1 = some w1) (h2 : L.r2 = some w2) (h3 : L.r3 = some w3) (items : Array Value) (t : Nat) (nv : Nv) :
    let X := runTop (wld w b b2) L items 520 (match b2 with | true => lawEHt true | false => lawEHf true) 786 t default nv
    look [0] X = some (.done (.ok (.ret (.bool true))), [some (lsO items L.nr)], [785], dup (eqsOf X), dupG (gsOf X), dupO (osOf X), obLaw L items defD nv) := by
  obtain ⟨vs, is, k, dg, wd0, mp, n, c, R, u, r0, r1, r2, r3, nr⟩ := L
  replace hk : k = 0 := hk
  replace hu : u = true := hu
  replace h0 : r0 = some w0 := h0
  replace h1 : r1 = some w1 := h1
  replace h2 : r2 = some w2 := h2
  replace h3 : r3 = some w3 := h3
  subst hk hu h0 h1 h2 h3
  exact lawE_1111t w0 w1 w2 w3 w b b2 vs is 0 dg wd0 mp n c R nr items t nv
theorem top_ok {w : World} {b b2 : Bool} {L : LawP} {xs : List Int} {items : Array Value} {D : List Nat} {hs : List Nat} (hL : LawOk L xs)
    (hrun : ∀ t nv, let X := runTop (wld w b b2) L items 520 hs 786 t default nv
      look [0] X = some (.done (.ok (.ret (.bool true))), [some (lsO items L.nr)], [785], dup (eqsOf X), dupG (gsOf X), dupO (osOf X), obLaw L items D nv))
    (hob : ∀ nv, obLaw L items D nv) {s : Shared} (S : Top (wld w b b2) s) (hz : s.heap.objs.size = 786) (H : Holds s [(785, lsO items L.nr)]) {R : Result → Shared → Prop}
    (fin : ∀ s', Did s s' [(785, lsO items L.nr)] [] → R (.ok (.ret (.bool true))) s') :
    Sem.wp (MW (wld w b b2)) Γ0 treeLaw (Sem.finPost (MW (wld w b b2)) Γ0 R) (fun e _ s' => R (.error e) s') default s := by
  have h := run_tree (M := MW (wld w b b2)) (R := R) (C := cfgW (wld w b b2) (conLaw (wld w b b2).params L)) (l := [(785, lsO items L.nr)]) (Γ := Γ0) (p := default) (t := treeLaw) (n := 520) (hs := hs) (ext := [])
    (den_ok F _) rfl rfl rfl (conLaw_ok hL) (lvTree_ok (by show lvF = lvTree; exact lv_eq.symm)) S H (by simp) (by simp)
    (fun _ => .done (.ok (.ret (.bool true)))) (fun _ => [some (lsO items L.nr)]) (fun _ => []) (fun nv => obLaw L items D nv) (fun nv => ?_) hob fun nv s' Af => ?_
  · exact h
  · have := hrun s.toks nv
    unfold runTop at this
    rw [show sxF = @sx from sx_eq.symm] at this
    rw [hz]
    exact this
  · exact fin s' (Af.did [(785, lsO items L.nr)] [] [] rfl rfl rfl (by simp) (by simp) rfl rfl)
/-- law answers True -/
theorem law_ok {w : World} {b b2 : Bool} {xs : List Int} {ts : List Nat} (ht : ts.length = xs.length) (hl : xs.length ≤ 63) {s : Shared} (S : Top (wld w b b2) s) (hz : s.heap.objs.size = 786) (H : Holds s [(785, lsO ⟨List.zipWith (fun x t => Value.int x t) xs ts⟩ 0)]) {R : Result → Shared → Prop}
    (fin : ∀ s', Did s s' [(785, lsO ⟨List.zipWith (fun x t => Value.int x t) xs ts⟩ 0)] [] → R (.ok (.ret (.bool true))) s') :
    Sem.wp (MW (wld w b b2)) Γ0 treeLaw (Sem.finPost (MW (wld w b b2)) Γ0 R) (fun e _ s' => R (.error e) s') default s := by
  have hv : IsI ((List.zipWith (fun x t => Value.int x t) xs ts).take 12) (xs.take 12) := isI_zip 12 ht
  have h12 : (xs.take 12).length ≤ 12 := by rw [List.length_take]; omega
  have hsz : (⟨List.zipWith (fun x t => Value.int x t) xs ts⟩ : Array Value).size ≤ 1000 := by
    show (List.zipWith (fun x t => Value.int x t) xs ts).length ≤ 1000
    rw [List.length_zipWith]; omega
  generalize hit : (⟨List.zipWith (fun x t => Value.int x t) xs ts⟩ : Array Value) = items at H fin hsz
  have hi : items.toList.take 12 = (List.zipWith (fun x t => Value.int x t) xs ts).take 12 := by rw [← hit]
  generalize (List.zipWith (fun x t => Value.int x t) xs ts).take 12 = vs at hv hi
  generalize xs.take 12 = ys at hv h12
  have hL := mkL_ok (nr := 0) hv h12
  have hob := mkL_ob (nr := 0) hv h12 hi hsz
  cases ys with
  | nil =>
    exact top_ok (D := defD) hL (fun t nv => lawE_L w b b2 (mkL vs [] 0) [[97, 34, 32, 98]] [[97, 32, 34, 98]] [[98, 32, 34, 97]] [[98, 34, 32, 97]] rfl (by kernel_rfl) (by kernel_rfl) (by kernel_rfl) (by kernel_rfl) (by kernel_rfl) items t nv) hob S hz H fin
  | cons y r =>
    have e : chars (r.length + 1) (dgK (y :: r)) = dD (y :: r) := by
      have := chars_getD 0 ((y :: r).map sgP)
      rw [List.length_map] at this
      exact this
    exact top_ok (D := chars (r.length + 1) (mkL vs (y :: r) 0).dg) hL (fun t nv => lawA_L w b b2 (mkL vs (y :: r) 0) r.length rfl (rev_none _) (by
      have := rev_none (rowsK (y :: r)).reverse
      rw [List.reverse_reverse] at this
      exact this.symm) items t nv) (by
      show ∀ nv, obLaw (mkL vs (y :: r) 0) items (chars (r.length + 1) (dgK (y :: r))) nv
      rw [e]; exact hob) S hz H fin
end Mine.T01
end
section
open PySem PySem.W PySem.Calls PyProof.Rows
namespace Mine.T01
/-! X401 -/
/-! ### the walk -/
/-- a tree's entries -/
noncomputable def ents : X.KT → Nat → Nat → List (Nat × Obj)
  | .nil, _, _ => []
  | .node v l r, s, b => (match v with | some o => [(b, o)] | none => []) ++ (ents l (2 * s) (s + b) ++ ents r (2 * s) (2 * s + b))
theorem holds_ents {h : Heap} : ∀ (t : X.KT) (s b : Nat), (∀ x ∈ ents t s b, h.get? x.1 = some x.2) → X.KT.Holds h s b t
  | .nil, _, _, _ => trivial
  | .node v l r, s, b, H => by
    refine ⟨fun o e => ?_, holds_ents l _ _ fun x hx => H x ?_, holds_ents r _ _ fun x hx => H x ?_⟩
    · subst e
      exact H (b, o) (by simp [ents])
    · simp only [ents, List.mem_append]
      exact .inr (.inl hx)
    · simp only [ents, List.mem_append]
      exact .inr (.inr hx)
theorem kt_ents (P : Params) : ents (kt P) 1 0 = [0, 2, 53, 58, 38, 8, 50, 30, 19, 57, 16, 46, 5, 11, 23, 14, 25, 33, 49, 9, 42, 36, 20, 54, 15, 45, 22, 32, 39, 13, 3, 29, 1, 59, 48, 41, 35, 51, 44, 31, 12, 28, 17, 47, 6, 24, 26, 34, 18, 56, 10, 21, 55, 27, 7, 40, 4, 37, 43, 52].map fun i => (kfrag P).getD i (0, o0 P) := by kernel_rfl
theorem kads_eq (P : Params) : kads = (kfrag P).map (·.1) := by kernel_rfl
theorem all_of_map {h : Heap} : ∀ {l : List (Nat × Obj)}, (l.map (·.1)).map h.get? = l.map (fun x => some x.2) → ∀ x ∈ l, h.get? x.1 = some x.2
  | [], _, x, hx => by cases hx
  | y :: r, e, x, hx => by
    rw [List.map_cons, List.map_cons, List.map_cons] at e
    injection e with e1 e2
    rcases List.mem_cons.mp hx with rfl | hx
    · exact e1
    · exact all_of_map e2 x hx
theorem getD_mem {α : Type} {l : List α} {i : Nat} {d : α} (hd : d ∈ l) : l.getD i d ∈ l := by
  rw [List.getD_eq_getElem?_getD]
  cases h : l[i]? with
  | none => exact hd
  | some x => exact List.mem_of_getElem? h
theorem kt_get {P : Params} {h : Heap} (H : ∀ x ∈ kfrag P, h.get? x.1 = some x.2) (a : Nat) (o : Obj) (e : (kt P).get a = some o) : h.get? a = some o := by
  have hh : X.KT.Holds h 1 0 (kt P) := holds_ents _ _ _ fun x hx => by
    rw [kt_ents] at hx
    obtain ⟨i, _, rfl⟩ := List.mem_map.mp hx
    exact H _ (getD_mem (List.mem_cons_self ..))
  have := X.KT.Holds.get hh e
  rwa [Nat.one_mul, Nat.add_zero] at this
/-- the list laid -/
theorem lay_ints {R : WRecords} {cl : Str → Option Addr} {P : Params} {ord : List DictEntry → List DictEntry} : ∀ (xs : List Int) (s : Shared), ∃ ts : List Nat, ts.length = xs.length ∧
    layAllW R cl P ord (xs.map WData.int) s = some (List.zipWith (fun x t => Value.int x t) xs ts, { s with toks := s.toks + xs.length })
  | [], s => ⟨[], rfl, by simp [layAllW]⟩
  | x :: r, s => by
    obtain ⟨ts, h1, h2⟩ := lay_ints r { s with toks := s.toks + 1 }
    refine ⟨s.toks :: ts, by simp [h1], ?_⟩
    simp only [List.map_cons, layAllW, layW]
    rw [h2]
    simp only [List.zipWith_cons_cons, List.length_cons]
    congr 3
    omega
theorem law_addr (P : Params) : nsFind (match (o3 P).data with | .dict es _ => es | _ => #[]) PySem.Challenge.rw_op0182_01.row.name = some (.ref 784) := by kernel_rfl
theorem world_eq (w : World) : ∃ w' b b2, w = wld w' b b2 := by
  refine ⟨w, w.params.followText "special-get-raises", w.params.followText "comprehension-iter-twice", ?_⟩
  unfold wld
  rw [World.withFollow_self, World.withFollow_self]
theorem most63 (ys : List WData) (hP : WTm.holds [] (.and (.not (.lt (.lit (.int ((63 : Nat) : Int))) (.len (.arg 0)))) (.lit (.bool true))) { args := [WData.list ys] } = true) (h : 63 < ys.length) : False := by
  have h2 : ((63 : Nat) : Int) < (ys.length : Int) := by omega
  simp only [WTm.holds, WTm.value, List.getElem?_cons_zero, less?, Num.less?, h2, decide_true, Option.map_some, Bool.not_true] at hP
  cases hP
theorem post_true (a b : List WData) : PySem.Challenge.rw_op0182_01.row.toRowW.claim.post a (.bool true) b = true := by
  show (WShape.has [] (.bool true) .bool && WTm.holds [] (.eq .res (.lit (.bool true))) { args := a, res := some (.bool true), after := b }) = true
  simp [WShape.has, WShape.arms, WTm.holds, WTm.value, PySem.W.same]
theorem walk01 : Walk := by
  intro w s₀ s₁ mg hobs hns a ha args vs as hpre hlay L hg
  obtain ⟨w', b, b2, rfl⟩ := world_eq w
  obtain ⟨hA, hP⟩ := pre_splitW (r := PySem.Challenge.rw_op0182_01.row.toRowW) hpre
  obtain ⟨d, r, rfl, hd, hr⟩ := hasAllW_cons hA
  have er := hasAllW_nil hr
  subst er
  obtain ⟨ds, rfl, hds⟩ := hasW_list hd
  obtain ⟨xs, rfl⟩ := items_int hds
  have hlen : xs.length ≤ 63 := by
    by_cases h : xs.length ≤ 63
    · exact h
    · exfalso
      exact most63 (xs.map WData.int) hP (by rw [List.length_map]; omega)
  -- what is laid
  obtain ⟨ord, _, e⟩ := L.laid
  obtain ⟨ts, ht, hl⟩ := lay_ints (R := PySem.Challenge.rw_op0182_01.row.toRowW.records) (cl := classAt s₀.heap) (P := (wld w' b b2).params) (ord := ord) xs s₀
  simp only [layAllW, layW] at e
  rw [hl] at e
  simp only [Option.some.injEq, Prod.mk.injEq] at e
  obtain ⟨rfl, es⟩ := e
  have eh : s₁.heap = s₀.heap.push { cls := .type "list", data := .seq (List.zipWith (fun x t => Value.int x t) xs ts).toArray } := by rw [← es]
  -- the top
  have y1 : kads.map s₀.heap.get? = (kfrag (wld w' b b2).params).map fun x => some x.2 := congrArg Prod.fst hobs
  have hsz : s₀.heap.objs.size = 785 := congrArg (fun x => x.2.1) hobs
  rw [kads_eq (wld w' b b2).params] at y1
  have hK := all_of_map y1
  have push : ∀ {b' : Nat} {o : Obj}, s₀.heap.get? b' = some o → s₁.heap.get? b' = some o := fun h => by rw [eh]; exact Heap.get?_push_of_some _ h
  have ea : a = 784 := by
    obtain ⟨o, es, ep, ho, hd, _, hf⟩ := hns
    have h3 : s₀.heap.get? 3 = some (o3 (wld w' b b2).params) := hK (3, o3 (wld w' b b2).params) (by simp [kfrag])
    have : o = o3 (wld w' b b2).params := Option.some.inj (ho.symm.trans (push h3))
    subst this
    have z := law_addr (wld w' b b2).params
    rw [hd] at z
    have z2 := (hf PySem.Challenge.rw_op0182_01.row.name).trans ha
    have z3 := z.symm.trans z2
    cases z3
    rfl
  subst ea
  have hs1 : s₁.heap.objs.size = 786 := by rw [eh, Heap.size_push, hsz]
  have S : Top (wld w' b b2) s₁ := ⟨fun a o e => ⟨by rw [← hsz]; exact Heap.lt_size (kt_get hK a o e), push (kt_get hK a o e)⟩, by rw [hs1]; decide⟩
  have H : Holds s₁ [(785, lsO ⟨List.zipWith (fun x t => Value.int x t) xs ts⟩ 0)] := by
    intro x hx
    simp only [List.mem_singleton] at hx
    subst hx
    show s₁.heap.get? 785 = _
    rw [eh, ← hsz]
    exact Heap.get?_push_size _ rfl
  have main := law_ok (w := w') (b := b) (b2 := b2) ht hlen S hs1 H (R := fun res s' => GoodWG PySem.Challenge.rw_op0182_01.row.toRowW.claim (classAt s₀.heap) (ExcName.means s₀.heap) [.list (xs.map .int)] s₁ res s') fun s' D => ?_
  · rw [hsz]
    exact main
  · refine ⟨.inl ⟨.bool true, .bool true, [], rfl, fun _ => rfl, .bool true, post_true _ _, fun _ => ⟨List.nodup_nil, fun a h => by cases h⟩⟩, .of_keep fun b o hb => ?_, D.keep.os, .of_eq (D.keep.gens.trans hg)⟩
    by_cases hb9 : b = 785
    · subst hb9
      have h1 := H _ (List.mem_cons_self ..)
      have h2 := D.holds _ (List.mem_cons_self ..)
      rw [show s₁.heap.get? 785 = _ from h1] at hb
      rw [show s'.heap.get? 785 = _ from h2]
      exact hb
    · exact D.keep.keep b o hb (by simpa using hb9)
end Mine.T01
end

theorem PySem.Challenge.cw_op0182_01_holds : PySem.Challenge.rw_op0182_01.Holds :=
  Mine.T01.hd01 Mine.T01.walk01
