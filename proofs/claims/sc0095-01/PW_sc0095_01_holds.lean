import PyProof.Rows.All
import Wide.All
import OpenK.AllK
import Wide.FinOn
import PySem.Challenge.RW_sc0095_01

set_option Elab.async false
set_option linter.all false
set_option linter.unusedVariables false
set_option maxRecDepth 100000
set_option compiler.extract_closed false

namespace Mine
open PySem PySem.W PyProof.Rows PySem.Calls PySem.SeqAt
local macro_rules | `(tactic| walk_at "my_tk") => `(tactic| first | exact Nat.le_refl _ | exact Nat.le_succ _ | assumption | exact Nat.le_add_right _ _ | exact Nat.le_succ_of_le (Nat.le_succ _) | omega)
local macro_rules | `(tactic| walk_at "my_gh") => `(tactic| (intro _ _ e; cases e))

section
open PySem PySem.W PyProof.Rows PySem.Calls
theorem hG {G : Prop} (h : ∀ K : Prop, (G → K) → K) : G := h G id
/-! ## abstract values, objects, states -/
inductive AV where
  | none
  | bool (b : Bool)
  | int (i : Int)
  | float (x : UInt64)
  | str (s : Str)
  | tup (l : List AV)
  | range (a b c : Int)
  | obj (v : Value)
noncomputable def Imm (o : Obj) : Prop := (o.cls = .type "tuple" ∧ ∃ xs n, o.data = .seq xs n) ∨ (o.cls = .type "range" ∧ ∃ vs, o.data = .fields vs)
noncomputable def KI (p : Addr → Prop) (h h' : Heap) : Prop := ∀ a o, Imm o → ¬ p a → h.get? a = some o → h'.get? a = some o
theorem KI.all {p : Addr → Prop} {h h' : Heap} (k : ∀ b o, h.get? b = some o → h'.get? b = some o) : KI p h h' := fun a o _ _ e => k a o e
theorem KI.tup {p : Addr → Prop} {h h' : Heap} (k : KI p h h') {a : Addr} {items : Array Value} (hp : ¬ p a) (t : h.IsTuple a items) : h'.IsTuple a items := by
  obtain ⟨o, e, hc, n, hd⟩ := t
  exact ⟨o, k a o (.inl ⟨hc, _, _, hd⟩) hp e, hc, n, hd⟩
theorem KI.range {p : Addr → Prop} {h h' : Heap} (k : KI p h h') {r : Addr} {a b c : Int} {t u v : Tok} (hp : ¬ p r) (x : IsRange h r a b c t u v) : IsRange h' r a b c t u v := k _ _ (.inr ⟨rfl, _, rfl⟩) hp x
inductive VNone : Value → Prop | none : VNone .none
inductive VBool (b : Bool) : Value → Prop | bool : VBool b (.bool b)
inductive VInt (i : Int) : Value → Prop | int (t : Tok) : VInt i (.int i t)
inductive VFloat (x : UInt64) : Value → Prop | float (t : Tok) : 0 < t → VFloat x (.float x t)
inductive VStr (x : Str) : Value → Prop | str (t : Tok) : VStr x (.str x t)
inductive VTup (p : Addr → Prop) (h : Heap) (R : List Value → Prop) : Value → Prop
  | tup {a : Addr} {items : Array Value} : ¬ p a → h.IsTuple a items → R items.toList → VTup p h R (.ref a)
inductive VRange (p : Addr → Prop) (h : Heap) (a b c : Int) : Value → Prop
  | range {r : Addr} {t u v : Tok} : ¬ p r → IsRange h r a b c t u v → VRange p h a b c (.ref r)
inductive VObj (v : Value) : Value → Prop | obj : VObj v v
inductive VNil : List Value → Prop | nil : VNil []
inductive VCons (P : Value → Prop) (R : List Value → Prop) : List Value → Prop
  | cons {v : Value} {vs : List Value} : P v → R vs → VCons P R (v :: vs)
mutual
noncomputable def VR (p : Addr → Prop) (h : Heap) : AV → Value → Prop
  | .none => VNone
  | .bool b => VBool b
  | .int i => VInt i
  | .float x => VFloat x
  | .str x => VStr x
  | .tup l => VTup p h (VRs p h l)
  | .range a b c => VRange p h a b c
  | .obj v => VObj v
noncomputable def VRs (p : Addr → Prop) (h : Heap) : List AV → List Value → Prop
  | [] => VNil
  | a :: l => VCons (VR p h a) (VRs p h l)
end
section
variable {p : Addr → Prop} {h : Heap}
theorem VR.none : VR p h .none .none := VNone.none
theorem VR.bool (b : Bool) : VR p h (.bool b) (.bool b) := VBool.bool
theorem VR.int (i : Int) (t : Tok) : VR p h (.int i) (.int i t) := VInt.int t
theorem VR.float (x : UInt64) (t : Tok) (ht : 0 < t) : VR p h (.float x) (.float x t) := VFloat.float t ht
theorem VR.str (x : Str) (t : Tok) : VR p h (.str x) (.str x t) := VStr.str t
theorem VR.tup {l : List AV} {a : Addr} {items : Array Value} (hp : ¬ p a) (ht : h.IsTuple a items) (hs : VRs p h l items.toList) : VR p h (.tup l) (.ref a) := VTup.tup hp ht hs
theorem VR.range {a b c : Int} {r : Addr} {t u v : Tok} (hp : ¬ p r) (x : IsRange h r a b c t u v) : VR p h (.range a b c) (.ref r) := VRange.range hp x
theorem VR.obj (v : Value) : VR p h (.obj v) v := VObj.obj
theorem VRs.nil : VRs p h [] [] := VNil.nil
theorem VRs.cons {a : AV} {v : Value} {l : List AV} {vs : List Value} (hv : VR p h a v) (hs : VRs p h l vs) : VRs p h (a :: l) (v :: vs) := VCons.cons hv hs
end
mutual
theorem VR.keep {p : Addr → Prop} {h h' : Heap} (k : KI p h h') : ∀ {a : AV} {v : Value}, VR p h a v → VR p h' a v
  | .none, _, x | .bool _, _, x | .int _, _, x | .float _, _, x | .str _, _, x | .obj _, _, x => x
  | .tup _, _, x => by cases x with | tup hp ht hs => exact .tup hp (k.tup hp ht) (VRs.keep k hs)
  | .range .., _, x => by cases x with | range hp x => exact .range hp (k.range hp x)
theorem VRs.keep {p : Addr → Prop} {h h' : Heap} (k : KI p h h') : ∀ {l : List AV} {vs : List Value}, VRs p h l vs → VRs p h' l vs
  | [], _, x => x
  | _ :: _, _, x => by cases x with | cons hv hs => exact .cons (VR.keep k hv) (VRs.keep k hs)
end
theorem VRs.length {p : Addr → Prop} {h : Heap} : ∀ {l : List AV} {vs : List Value}, VRs p h l vs → vs.length = l.length
  | [], _, x => by cases x; rfl
  | _ :: _, _, x => by cases x with | cons _ hs => exact congrArg (· + 1) hs.length
theorem VRs.get {p : Addr → Prop} {h : Heap} : ∀ {l : List AV} {vs : List Value}, VRs p h l vs → ∀ {i : Nat} {a : AV}, l[i]? = some a → ∃ v, vs[i]? = some v ∧ VR p h a v
  | _ :: _, _, x, 0, _, e => by cases e; cases x with | cons hv _ => exact ⟨_, rfl, hv⟩
  | _ :: _, _, x, i + 1, _, e => by cases x with | cons _ hs => exact hs.get (i := i) e
theorem VRs.append {p : Addr → Prop} {h : Heap} : ∀ {l : List AV} {vs : List Value}, VRs p h l vs → ∀ {l' : List AV} {vs' : List Value}, VRs p h l' vs' → VRs p h (l ++ l') (vs ++ vs')
  | [], _, x, _, _, h' => by cases x; exact h'
  | _ :: _, _, x, _, _, h' => by cases x with | cons hv hs => exact .cons hv (hs.append h')
theorem VRs.take {p : Addr → Prop} {h : Heap} : ∀ {l : List AV} {vs : List Value}, VRs p h l vs → ∀ k, VRs p h (l.take k) (vs.take k)
  | [], _, x, k => by cases x; rw [List.take_nil, List.take_nil]; exact .nil
  | _ :: _, _, x, 0 => .nil
  | _ :: _, _, x, k + 1 => by cases x with | cons hv hs => exact .cons hv (hs.take k)
theorem VRs.drop {p : Addr → Prop} {h : Heap} : ∀ {l : List AV} {vs : List Value}, VRs p h l vs → ∀ k, VRs p h (l.drop k) (vs.drop k)
  | _, _, x, 0 => x
  | [], _, x, k + 1 => by cases x; exact .nil
  | _ :: _, _, x, k + 1 => by cases x with | cons hv hs => exact hs.drop k
theorem VRs.reverse {p : Addr → Prop} {h : Heap} : ∀ {l : List AV} {vs : List Value}, VRs p h l vs → VRs p h l.reverse vs.reverse
  | [], _, x => by cases x; exact .nil
  | _ :: _, _, x => by cases x with | cons hv hs => rw [List.reverse_cons, List.reverse_cons]; exact hs.reverse.append (.cons hv .nil)
theorem VRs.eraseIdx {p : Addr → Prop} {h : Heap} : ∀ {l : List AV} {vs : List Value}, VRs p h l vs → ∀ k, VRs p h (l.eraseIdx k) (vs.eraseIdx k)
  | [], _, x, k => by cases x; exact .nil
  | _ :: _, _, x, 0 => by cases x with | cons _ hs => exact hs
  | _ :: _, _, x, k + 1 => by cases x with | cons hv hs => exact .cons hv (hs.eraseIdx k)
theorem VRs.set {p : Addr → Prop} {h : Heap} : ∀ {l : List AV} {vs : List Value}, VRs p h l vs → ∀ k {a v}, VR p h a v → VRs p h (l.set k a) (vs.set k v)
  | [], _, x, k, _, _, _ => by cases x; exact .nil
  | _ :: _, _, x, 0, _, _, hx => by cases x with | cons _ hs => exact .cons hx hs
  | _ :: _, _, x, k + 1, _, _, hx => by cases x with | cons hv hs => exact .cons hv (hs.set k hx)
noncomputable def lk : List (Str × AV) → Str → Option AV
  | [], _ => none
  | (y, v) :: r, x => if x = y then some v else lk r x
noncomputable def put : List (Str × AV) → Str → AV → List (Str × AV)
  | [], x, v => [(x, v)]
  | (y, u) :: r, x, v => if x = y then (y, v) :: r else (y, u) :: put r x v
theorem lk_put (l : List (Str × AV)) (x : Str) (v : AV) (z : Str) : lk (put l x v) z = if z = x then some v else lk l z := by
  induction l with
  | nil => simp [put, lk]
  | cons p r ih =>
    obtain ⟨y, u⟩ := p
    unfold put
    by_cases hxy : x = y
    · subst hxy
      simp only [if_true, lk]
      by_cases hz : z = x <;> simp [hz]
    · simp only [hxy, if_false, lk, ih]
      by_cases hz : z = y
      · subst hz
        simp [Ne.symm hxy]
      · simp [hz]
inductive AO where
  | list (l : List AV)
  | inst (C dx : Addr)
  | attrs (fs : List (Str × AV))
  | cell (v : Value)
  | raw (o : Obj)
  | ghost (o : Obj) (T : Nat)
noncomputable def Fields (p : Addr → Prop) (h : Heap) (m : Str → Option Value) (fs : List (Str × AV)) : Prop :=
  ∀ x, match lk fs x with
    | some a => ∃ v, m x = some v ∧ VR p h a v
    | none => m x = none
noncomputable def OA (p : Addr → Prop) (h : Heap) (a : Addr) : AO → Prop
  | .list l => ∃ items n, IsL h a items n ∧ VRs p h l items.toList
  | .inst C dx => h.get? a = some (instObj C dx) ∧ dx ≠ a
  | .attrs fs => ∃ m, h.Ns1 a m ∧ Fields p h m fs
  | .cell v => h.IsCell a (some v)
  | .raw o => h.get? a = some o ∧ ¬ Imm o
  | .ghost o _ => h.get? a = some o ∧ ¬ Imm o
theorem OA.there {p : Addr → Prop} {h : Heap} {a : Addr} {o : AO} (x : OA p h a o) : ∃ ob, h.get? a = some ob := by
  cases o with
  | list l => obtain ⟨_, _, e, _⟩ := x; exact ⟨_, e⟩
  | inst C dx => exact ⟨_, x.1⟩
  | attrs fs => obtain ⟨_, ⟨o, _, _, e, _⟩, _⟩ := x; exact ⟨o, e⟩
  | cell v => obtain ⟨o, e, _⟩ := x; exact ⟨o, e⟩
  | raw o => exact ⟨_, x.1⟩
  | ghost o _ => exact ⟨_, x.1⟩
theorem OA.notI {p : Addr → Prop} {h : Heap} {a : Addr} {o : AO} (x : OA p h a o) {ob : Obj} (hi : Imm ob) (t : h.get? a = some ob) : False := by
  cases o with
  | list l =>
    obtain ⟨_, _, e, _⟩ := x
    have e' := Option.some.inj (e.symm.trans t)
    subst e'
    rcases hi with ⟨hc, _⟩ | ⟨hc, _⟩ <;> simp at hc
  | inst C dx =>
    have e' := Option.some.inj (x.1.symm.trans t)
    subst e'
    rcases hi with ⟨hc, _⟩ | ⟨hc, _⟩ <;> cases hc
  | attrs fs =>
    obtain ⟨_, ⟨o, _, _, e, d, _⟩, _⟩ := x
    have e' := Option.some.inj (e.symm.trans t)
    subst e'
    rcases hi with ⟨_, _, _, hd⟩ | ⟨_, _, hd⟩ <;> rw [d] at hd <;> cases hd
  | cell v =>
    obtain ⟨o, e, d⟩ := x
    have e' := Option.some.inj (e.symm.trans t)
    subst e'
    rcases hi with ⟨_, _, _, hd⟩ | ⟨_, _, hd⟩ <;> rw [d] at hd <;> cases hd
  | raw o =>
    have e' := Option.some.inj (x.1.symm.trans t)
    subst e'; exact x.2 hi
  | ghost o _ =>
    have e' := Option.some.inj (x.1.symm.trans t)
    subst e'; exact x.2 hi
theorem OA.keep {p : Addr → Prop} {h h' : Heap} {a : Addr} {o : AO} (x : OA p h a o) (e : ∀ ob, h.get? a = some ob → h'.get? a = some ob) (k : KI p h h') : OA p h' a o := by
  cases o with
  | list l => obtain ⟨items, n, e1, e2⟩ := x; exact ⟨items, n, e _ e1, e2.keep k⟩
  | inst C dx => exact ⟨e _ x.1, x.2⟩
  | attrs fs =>
    obtain ⟨m, hn, hf⟩ := x
    refine ⟨m, hn.at fun o q => e o q, fun y => ?_⟩
    have := hf y
    split
    · rename_i av hl
      rw [hl] at this
      obtain ⟨v, h1, h2⟩ := this
      exact ⟨v, h1, h2.keep k⟩
    · rename_i hl
      rw [hl] at this
      exact this
  | cell v => obtain ⟨o, e1, e2⟩ := x; exact ⟨o, e _ e1, e2⟩
  | raw o => exact ⟨e _ x.1, x.2⟩
  | ghost o _ => exact ⟨e _ x.1, x.2⟩
structure St where
  H : Addr → Option AO
  loc : List (Str × AV)
noncomputable def FP (env : Env) (b : Addr) : Prop := b = env.locals ∨ ∃ n, env.cells.lookup n = some b
structure FrameOk (p : Addr → Prop) (h : Heap) (env : Env) (loc : List (Str × AV)) : Prop where
  kind : env.scope.kind = .function
  ns : ∃ m, h.Ns env.locals m ∧ ∀ x a, lk loc x = some a → env.kindOf x = some .local → ∃ v, m x = some v ∧ VR p h a v
  cells : ∀ n c, env.cells.lookup n = some c → ∃ u, h.IsCell c u ∧ ∀ a, lk loc n = some a → ∃ v, u = some v ∧ VR p h a v
  apart : env.cells.Pairwise fun x y => x.2 ≠ y.2
  sep : ∀ n c, env.cells.lookup n = some c → c ≠ env.locals
theorem FrameOk.fp {p : Addr → Prop} {h : Heap} {env : Env} {loc : List (Str × AV)} (F : FrameOk p h env loc) {b : Addr} (hb : FP env b) : ∃ o, h.get? b = some o ∧ ¬ Imm o := by
  rcases hb with rfl | ⟨n, hm⟩
  · obtain ⟨_, ⟨o, es, ep, e, d, _⟩, _⟩ := F.ns
    exact ⟨o, e, fun q => by rcases q with ⟨_, _, _, q⟩ | ⟨_, _, q⟩ <;> rw [d] at q <;> cases q⟩
  · obtain ⟨u, ⟨o, e, d⟩, _⟩ := F.cells n b hm
    exact ⟨o, e, fun q => by rcases q with ⟨_, _, _, q⟩ | ⟨_, _, q⟩ <;> rw [d] at q <;> cases q⟩
theorem FrameOk.keep {p : Addr → Prop} {h h' : Heap} {env : Env} {loc : List (Str × AV)} (F : FrameOk p h env loc) (e : ∀ b ob, FP env b → h.get? b = some ob → h'.get? b = some ob)
    (k : KI p h h') : FrameOk p h' env loc := by
  refine ⟨F.kind, ?_, fun n c hm => ?_, F.apart, F.sep⟩
  · obtain ⟨m, hn, hl⟩ := F.ns
    refine ⟨m, hn.at' fun o q => e _ o (.inl rfl) q, fun x a h1 h2 => ?_⟩
    obtain ⟨v, e1, e2⟩ := hl x a h1 h2
    exact ⟨v, e1, e2.keep k⟩
  · obtain ⟨u, ⟨o, e1, e2⟩, hl⟩ := F.cells n c hm
    refine ⟨u, ⟨o, e _ _ (.inr ⟨n, hm⟩) e1, e2⟩, fun a h1 => ?_⟩
    obtain ⟨v, e1, e2⟩ := hl a h1
    exact ⟨v, e1, e2.keep k⟩
structure Cx where
  P : Addr → Prop
  prog : Program
  w : World
  B : Heap
structure Rel (c : Cx) (env : Env) (σ : St) (s : Shared) : Prop where
  base : ∀ b o, c.B.get? b = some o → s.heap.get? b = some o
  own : ∀ a o, σ.H a = some o → OA c.P s.heap a o
  ownB : ∀ a o, σ.H a = some o → c.B.get? a = none
  fr : FrameOk c.P s.heap env σ.loc
  fpH : ∀ b, FP env b → σ.H b = none
  fpB : ∀ b, FP env b → c.B.get? b = none
  priv : ∀ b, c.P b → ∃ o, s.heap.get? b = some o
  pos : 0 < s.toks
  gh : ∀ a o T, σ.H a = some (.ghost o T) → T ≤ s.toks
structure Stp (env : Env) (σ : St) (s : Shared) (σ' : St) (s' : Shared) : Prop where
  keep : ∀ b o, s.heap.get? b = some o → σ.H b = none → ¬ FP env b → s'.heap.get? b = some o
  dom : ∀ b o, s.heap.get? b = some o → σ.H b = none → σ'.H b = none
  live : ∀ b o, s.heap.get? b = some o → ∃ o', s'.heap.get? b = some o'
  gens : s'.gens = s.gens
  drawn : s'.drawn = s.drawn
  os : s'.os = s.os
  toks : s.toks ≤ s'.toks
section
variable {c : Cx} {env : Env} {σ σ' σ'' : St} {s s' s'' : Shared}
theorem Rel.imm (R : Rel c env σ s) {a : Addr} {ob : Obj} (hi : Imm ob) (t : s.heap.get? a = some ob) : σ.H a = none ∧ ¬ FP env a := by
  constructor
  · cases e : σ.H a with
    | none => rfl
    | some o => exact ((R.own a o e).notI hi t).elim
  · intro hf
    obtain ⟨o, e, d⟩ := R.fr.fp hf
    have e' := Option.some.inj (e.symm.trans t)
    subst e'
    exact d hi
theorem Stp.ki (R : Rel c env σ s) (S : Stp env σ s σ' s') : KI c.P s.heap s'.heap := fun a o hi _ t => S.keep _ _ t (R.imm hi t).1 (R.imm hi t).2
theorem Stp.vr (R : Rel c env σ s) (S : Stp env σ s σ' s') {a : AV} {v : Value} (x : VR c.P s.heap a v) : VR c.P s'.heap a v := x.keep (S.ki R)
theorem Stp.vrs (R : Rel c env σ s) (S : Stp env σ s σ' s') {a : List AV} {v : List Value} (x : VRs c.P s.heap a v) : VRs c.P s'.heap a v := x.keep (S.ki R)
theorem Stp.refl (env : Env) (σ : St) (s : Shared) : Stp env σ s σ s := ⟨fun _ _ e _ _ => e, fun _ _ _ e => e, fun _ o e => ⟨o, e⟩, rfl, rfl, rfl, Nat.le_refl _⟩
theorem Stp.trans (S : Stp env σ s σ' s') (S' : Stp env σ' s' σ'' s'') : Stp env σ s σ'' s'' :=
  ⟨fun b o e h1 h2 => S'.keep b o (S.keep b o e h1 h2) (S.dom b o e h1) h2,
   fun b o e h1 => let ⟨o', e'⟩ := S.live b o e; S'.dom b o' e' (S.dom b o e h1), fun b o e => let ⟨o', e'⟩ := S.live b o e; S'.live b o' e', S'.gens.trans S.gens, S'.drawn.trans S.drawn, S'.os.trans S.os, Nat.le_trans S.toks S'.toks⟩
/-- a state that only grew -/
theorem Rel.grow (R : Rel c env σ s) {h' : Heap} {t : Nat} (k : ∀ b o, s.heap.get? b = some o → h'.get? b = some o) (ht : s.toks ≤ t := by walk_at "my_tk") : Rel c env σ { s with heap := h', toks := t } :=
  ⟨fun b o e => k b o (R.base b o e), fun a o e => (R.own a o e).keep (fun _ q => k _ _ q) (.all k), R.ownB,
   R.fr.keep (fun _ _ _ q => k _ _ q) (.all k), R.fpH, R.fpB, fun b q => let ⟨o, e⟩ := R.priv b q; ⟨o, k b o e⟩, Nat.lt_of_lt_of_le R.pos ht, fun a o T e => Nat.le_trans (R.gh a o T e) ht⟩
theorem Stp.grow {h' : Heap} {t : Nat} (k : ∀ b o, s.heap.get? b = some o → h'.get? b = some o) (ht : s.toks ≤ t := by walk_at "my_tk") : Stp env σ s σ { s with heap := h', toks := t } :=
  ⟨fun b o e _ _ => k b o e, fun _ _ _ e => e, fun b o e => ⟨o, k b o e⟩, rfl, rfl, rfl, ht⟩
theorem Rel.tok (R : Rel c env σ s) (t : Nat) (ht : s.toks ≤ t := by walk_at "my_tk") : Rel c env σ { s with toks := t } := R.grow (h' := s.heap) (fun _ _ e => e) ht
theorem Stp.tok (t : Nat) (ht : s.toks ≤ t := by walk_at "my_tk") : Stp env σ s σ { s with toks := t } := Stp.grow (h' := s.heap) (fun _ _ e => e) ht
noncomputable def setH (H : Addr → Option AO) (a : Addr) (o : AO) : Addr → Option AO := fun b => if b = a then some o else H b
@[simp] theorem setH_self (H : Addr → Option AO) (a : Addr) (o : AO) : setH H a o a = some o := by simp [setH]
theorem setH_ne (H : Addr → Option AO) {a b : Addr} (o : AO) (h : b ≠ a) : setH H a o b = H b := by simp [setH, h]
theorem Rel.lt (R : Rel c env σ s) {a : Addr} {o : AO} (e : σ.H a = some o) : a < s.heap.objs.size := by
  obtain ⟨ob, q⟩ := (R.own a o e).there
  exact Heap.lt_size q
theorem Rel.fpLt (R : Rel c env σ s) {a : Addr} (e : FP env a) : a < s.heap.objs.size := by
  obtain ⟨ob, q, _⟩ := R.fr.fp e
  exact Heap.lt_size q
theorem Rel.fresh (R : Rel c env σ s) {a : Addr} (h : s.heap.objs.size ≤ a) : σ.H a = none ∧ ¬ FP env a ∧ c.B.get? a = none := by
  refine ⟨?_, fun hf => absurd (R.fpLt hf) (Nat.not_lt.mpr h), ?_⟩
  · cases e : σ.H a with
    | none => rfl
    | some o => exact absurd (R.lt e) (Nat.not_lt.mpr h)
  · cases e : c.B.get? a with
    | none => rfl
    | some o => exact absurd (Heap.lt_size (R.base a o e)) (Nat.not_lt.mpr h)
/-- a new object is taken into the ledger -/
theorem Rel.alloc (R : Rel c env σ s) {a : Addr} {o : AO} (ha : σ.H a = none) (hf : ¬ FP env a) (hb : c.B.get? a = none) (ho : OA c.P s.heap a o) (hg : ∀ b T, o = .ghost b T → T ≤ s.toks := by walk_at "my_gh") : Rel c env ⟨setH σ.H a o, σ.loc⟩ s := by
  refine ⟨R.base, fun b ob e => ?_, fun b ob e => ?_, R.fr, fun b q => ?_, R.fpB, R.priv, R.pos, fun b ob T e => by
    by_cases h : b = a
    · subst h; replace e : setH σ.H b o b = _ := e; rw [setH_self] at e; cases e; exact hg _ _ rfl
    · replace e : setH σ.H a o b = _ := e; rw [setH_ne _ _ h] at e; exact R.gh b ob T e⟩
  · by_cases h : b = a
    · subst h; simp at e; subst e; exact ho
    · replace e : setH σ.H a o b = some ob := e
      rw [setH_ne _ _ h] at e; exact R.own b ob e
  · by_cases h : b = a
    · subst h; exact hb
    · replace e : setH σ.H a o b = some ob := e
      rw [setH_ne _ _ h] at e; exact R.ownB b ob e
  · have h : b ≠ a := fun z => hf (z ▸ q)
    show setH σ.H a o b = none
    rw [setH_ne _ _ h]; exact R.fpH b q
/-- an object of the ledger is changed -/
theorem Rel.upd (R : Rel c env σ s) {a : Addr} {o o' : AO} {h' : Heap} {t : Nat} (e : σ.H a = some o) (hs : Heap.SameBut a s.heap h') (ho : OA c.P h' a o') (ht : s.toks ≤ t := by walk_at "my_tk") (hg : ∀ b T, o' = .ghost b T → T ≤ s.toks := by walk_at "my_gh") :
    Rel c env ⟨setH σ.H a o', σ.loc⟩ { s with heap := h', toks := t } := by
  have kT : KI c.P s.heap h' := fun b o hi _ q => (hs.2 b fun z => by subst z; have := (R.imm hi q).1; rw [e] at this; cases this).trans q
  refine ⟨fun b ob q => (hs.2 b fun z => by subst z; rw [R.ownB b o e] at q; cases q).trans (R.base b ob q), fun b ob q => ?_, fun b ob q => ?_, R.fr.keep (fun b ob hb q => (hs.2 b fun z => ?_).trans q) kT, fun b q => ?_, R.fpB, fun b q => by
    by_cases h : b = a
    · subst h; exact ho.there
    · obtain ⟨ob, z⟩ := R.priv b q; exact ⟨ob, (hs.2 b h).trans z⟩, Nat.lt_of_lt_of_le R.pos ht, fun b ob T e => by
    by_cases h : b = a
    · subst h; replace e : setH σ.H b o' b = _ := e; rw [setH_self] at e; cases e; exact Nat.le_trans (hg _ _ rfl) ht
    · replace e : setH σ.H a o' b = _ := e; rw [setH_ne _ _ h] at e; exact Nat.le_trans (R.gh b ob T e) ht⟩
  · by_cases h : b = a
    · subst h; simp at q; subst q; exact ho
    · replace q : setH σ.H a o' b = some ob := q
      rw [setH_ne _ _ h] at q
      exact (R.own b ob q).keep (fun _ z => (hs.2 b h).trans z) kT
  · by_cases h : b = a
    · subst h; exact R.ownB b o e
    · replace q : setH σ.H a o' b = some ob := q
      rw [setH_ne _ _ h] at q; exact R.ownB b ob q
  · subst z; rw [R.fpH b hb] at e; cases e
  · have h : b ≠ a := fun z => by subst z; rw [R.fpH b q] at e; cases e
    show setH σ.H a o' b = none
    rw [setH_ne _ _ h]; exact R.fpH b q
theorem Stp.upd {a : Addr} {o o' : AO} {h' : Heap} {t : Nat} (e : σ.H a = some o) (hs : Heap.SameBut a s.heap h') (ho : OA c.P h' a o') (ht : s.toks ≤ t := by walk_at "my_tk") :
    Stp env σ s ⟨setH σ.H a o', σ.loc⟩ { s with heap := h', toks := t } :=
  ⟨fun b ob q h1 _ => (hs.2 b fun z => by subst z; rw [h1] at e; cases e).trans q, fun b _ _ h1 => by
    have h : b ≠ a := fun z => by subst z; rw [h1] at e; cases e
    show setH σ.H a o' b = none
    rw [setH_ne _ _ h]; exact h1, fun b ob q => by
    by_cases h : b = a
    · subst h; exact ho.there
    · exact ⟨ob, (hs.2 b h).trans q⟩, rfl, rfl, rfl, ht⟩
/-- fewer things are remembered -/
theorem Rel.forget (R : Rel c env σ s) {H' : Addr → Option AO} {loc' : List (Str × AV)} (h : ∀ a o, H' a = some o → σ.H a = some o) (hl : ∀ x a, lk loc' x = some a → lk σ.loc x = some a) : Rel c env ⟨H', loc'⟩ s := by
  refine ⟨R.base, fun a o e => R.own a o (h a o e), fun a o e => R.ownB a o (h a o e), ⟨R.fr.kind, ?_, fun n c' hm => ?_, R.fr.apart, R.fr.sep⟩, fun b q => ?_, R.fpB, R.priv, R.pos, fun a o T e => R.gh a o T (h a _ e)⟩
  · obtain ⟨m, hn, q⟩ := R.fr.ns
    exact ⟨m, hn, fun x a e => q x a (hl x a e)⟩
  · obtain ⟨u, hc, q⟩ := R.fr.cells n c' hm
    exact ⟨u, hc, fun a e1 => q a (hl n a e1)⟩
  · cases e : H' b with
    | none => exact e
    | some o => have := R.fpH b q; rw [h b o e] at this; cases this
end
/-! ## what a rule asks of a value, and how it goes on -/
inductive BoolTo (r : AV) (K : Bool → Prop) : Prop | mk (b : Bool) : r = .bool b → K b → BoolTo r K
inductive IntTo (r : AV) (K : Int → Prop) : Prop | mk (i : Int) : r = .int i → K i → IntTo r K
inductive StrTo (r : AV) (K : Str → Prop) : Prop | mk (x : Str) : r = .str x → K x → StrTo r K
inductive ListTo (a : AV) (H : Addr → Option AO) (K : Prop) : Prop | mk (D : Addr) (l : List AV) : a = .obj (.ref D) → H D = some (.list l) → K → ListTo a H K
inductive PutTo (loc : List (Str × AV)) (x : Str) (a : AV) (K : List (Str × AV) → Prop) : Prop | mk (l' : List (Str × AV)) : put loc x a = l' → K l' → PutTo loc x a K
inductive LessTo (m : Nat) (K : Nat → Prop) : Prop | mk (m' : Nat) : m' < m → K m' → LessTo m K
inductive DropTo (σ : St) (K : St → Prop) : Prop | mk (H' : Addr → Option AO) (loc' : List (Str × AV)) : (∀ a o, H' a = some o → σ.H a = some o) → (∀ x a, lk loc' x = some a → lk σ.loc x = some a) → K ⟨H', loc'⟩ → DropTo σ K
/-! ## triples -/
structure AOk (A : Around) (n : Nat) : Prop where
  handled : A.handled = none
  depth : A.depth + n < recursionLimit
  units : A.units + 50 * (n + 1) < cLine
inductive Post {α β : Type} (c : Cx) (env : Env) (σ : St) (s : Shared) (ρ : Heap → β → α → Prop) (Q : β → St → Prop) (a : α) (s' : Shared) : Prop
  | mk (b : β) (σ' : St) : ρ s'.heap b a → Rel c env σ' s' → Stp env σ s σ' s' → Q b σ' → Post c env σ s ρ Q a s'
noncomputable abbrev Fls : Value → Shared → Prop := fun _ _ => False
noncomputable def Tr {α β : Type} (c : Cx) (n : Nat) (env : Env) (ρ : Heap → β → α → Prop) (σ : St) (t : Sem α) (Q : β → St → Prop) : Prop :=
  ∀ A, AOk A n → ∀ s, Rel c env σ s → wpAny (model c.prog c.w) A t (Post c env σ s ρ Q) Fls s
inductive AF where
  | next | brk | cont
  | ret (a : AV)
inductive FR (p : Addr → Prop) (h : Heap) : AF → Flow → Prop
  | next : FR p h .next .next
  | brk : FR p h .brk .brk
  | cont : FR p h .cont .cont
  | ret {a : AV} {v : Value} : VR p h a v → FR p h (.ret a) (.ret v)
noncomputable def EqR {α : Type} (_ : Heap) (a b : α) : Prop := b = a
noncomputable abbrev TV (c : Cx) (n : Nat) (env : Env) (σ : St) (t : Sem Value) (Q : AV → St → Prop) : Prop := Tr c n env (VR c.P) σ t Q
noncomputable abbrev TF (c : Cx) (n : Nat) (env : Env) (σ : St) (t : Sem Flow) (Q : AF → St → Prop) : Prop := Tr c n env (FR c.P) σ t Q
noncomputable abbrev TU (c : Cx) (n : Nat) (env : Env) (σ : St) (t : Sem Unit) (Q : Unit → St → Prop) : Prop := Tr c n env EqR σ t Q
noncomputable abbrev TB (c : Cx) (n : Nat) (env : Env) (σ : St) (t : Sem Bool) (Q : Bool → St → Prop) : Prop := Tr c n env EqR σ t Q
noncomputable abbrev TL (c : Cx) (n : Nat) (env : Env) (σ : St) (t : Sem (List Value)) (Q : List AV → St → Prop) : Prop := Tr c n env (VRs c.P) σ t Q
section
variable {α β γ δ : Type} {c : Cx} {n : Nat} {env : Env} {σ σ' : St} {s s' : Shared} {ρ : Heap → β → α → Prop} {ρ' : Heap → δ → γ → Prop} {A : Around}
theorem Post.from {Q : β → St → Prop} {a : α} {s'' : Shared} (S : Stp env σ s σ' s') (h : Post c env σ' s' ρ Q a s'') : Post c env σ s ρ Q a s'' := by
  obtain ⟨b, σ'', h1, h2, h3, h4⟩ := h
  exact ⟨b, σ'', h1, h2, S.trans h3, h4⟩
theorem Post.mk' {Q : β → St → Prop} {a : α} {b : β} (h1 : ρ s'.heap b a) (h2 : Rel c env σ' s') (h3 : Stp env σ s σ' s') (h4 : Q b σ') : Post c env σ s ρ Q a s' := ⟨b, σ', h1, h2, h3, h4⟩
theorem Post.here {Q : β → St → Prop} {a : α} {b : β} (R : Rel c env σ s) (h1 : ρ s.heap b a) (h4 : Q b σ) : Post c env σ s ρ Q a s := ⟨b, σ, h1, R, Stp.refl .., h4⟩
theorem Post.tok {Q : β → St → Prop} {a : α} {b : β} {t : Nat} (R : Rel c env σ s) (h1 : ρ s.heap b a) (h4 : Q b σ) (ht : s.toks ≤ t := by walk_at "my_tk") : Post c env σ s ρ Q a { s with toks := t } := ⟨b, σ, h1, R.tok t ht, Stp.tok t ht, h4⟩
theorem Tr.mono {t : Sem α} {Q Q' : β → St → Prop} (h : Tr c n env ρ σ t Q) (k : ∀ b σ', Q b σ' → Q' b σ') : Tr c n env ρ σ t Q' := fun A hA s R =>
  wpAny_mono (h A hA s R) (fun _ _ ⟨b, σ', h1, h2, h3, h4⟩ => ⟨b, σ', h1, h2, h3, k b σ' h4⟩) fun _ _ e => e
/-- one tree, then another -/
theorem seq {t : Sem α} {f : α → Sem γ} {Q₁ : β → St → Prop} {Q : δ → St → Prop} (h : Tr c n env ρ σ t Q₁) (hA : AOk A n) (R : Rel c env σ s)
    (k : ∀ b a σ₁ s₁, ρ s₁.heap b a → Rel c env σ₁ s₁ → Stp env σ s σ₁ s₁ → Q₁ b σ₁ → wpAny (model c.prog c.w) A (f a) (Post c env σ₁ s₁ ρ' Q) Fls s₁) :
    wpAny (model c.prog c.w) A (t >>= f) (Post c env σ s ρ' Q) Fls s :=
  wpAny_bind (wpAny_mono (h A hA s R) (fun a s₁ ⟨b, σ₁, h1, h2, h3, h4⟩ => wpAny_mono (k b a σ₁ s₁ h1 h2 h3 h4) (fun _ _ x => x.from h3) fun _ _ e => e) fun _ _ e => e)
/-- the same, the tree at the end -/
theorem last {t : Sem α} {Q₁ : β → St → Prop} {Q : α → Shared → Prop} (h : Tr c n env ρ σ t Q₁) (hA : AOk A n) (R : Rel c env σ s)
    (k : ∀ b a σ₁ s₁, ρ s₁.heap b a → Rel c env σ₁ s₁ → Stp env σ s σ₁ s₁ → Q₁ b σ₁ → Q a s₁) :
    wpAny (model c.prog c.w) A t Q Fls s :=
  wpAny_mono (h A hA s R) (fun a s₁ ⟨b, σ₁, h1, h2, h3, h4⟩ => k b a σ₁ s₁ h1 h2 h3 h4) fun _ _ e => e
end
end

section
open PySem PySem.W PyProof.Rows PySem.Calls
section
variable {α β γ δ : Type} {c : Cx} {n : Nat} {env : Env} {σ : St}
noncomputable def Op1 (c : Cx) (n : Nat) (env : Env) (ρ : Heap → δ → γ → Prop) (σ : St) (f : Value → Sem γ) (a : AV) (Q : δ → St → Prop) : Prop :=
  ∀ A, AOk A n → ∀ s, Rel c env σ s → ∀ va, VR c.P s.heap a va → wpAny (model c.prog c.w) A (f va) (Post c env σ s ρ Q) Fls s
noncomputable def Op2 (c : Cx) (n : Nat) (env : Env) (ρ : Heap → δ → γ → Prop) (σ : St) (f : Value → Value → Sem γ) (a b : AV) (Q : δ → St → Prop) : Prop :=
  ∀ A, AOk A n → ∀ s, Rel c env σ s → ∀ va vb, VR c.P s.heap a va → VR c.P s.heap b vb → wpAny (model c.prog c.w) A (f va vb) (Post c env σ s ρ Q) Fls s
noncomputable def OpL (c : Cx) (n : Nat) (env : Env) (ρ : Heap → δ → γ → Prop) (σ : St) (f : List Value → Sem γ) (a : List AV) (Q : δ → St → Prop) : Prop :=
  ∀ A, AOk A n → ∀ s, Rel c env σ s → ∀ va, VRs c.P s.heap a va → wpAny (model c.prog c.w) A (f va) (Post c env σ s ρ Q) Fls s
/-! ### how a rule goes on, by name (so that what is behind is not copied under binders) -/
noncomputable abbrev kAt {β γ : Type} (Q : β → γ → Prop) (σ : γ) (b : β) : Prop := Q b σ
noncomputable abbrev kOp1 {γ δ : Type} (c : Cx) (n : Nat) (env : Env) (ρ : Heap → δ → γ → Prop) (f : Value → Sem γ) (Q : δ → St → Prop) (a : AV) (σ : St) : Prop := Op1 c n env ρ σ f a Q
noncomputable abbrev kOp2 (c : Cx) (n : Nat) (env : Env) (f : Value → Value → Sem Value) (a : AV) (Q : AV → St → Prop) (b : AV) (σ : St) : Prop := Op2 c n env (VR c.P) σ f a b Q
noncomputable abbrev kBin (c : Cx) (n : Nat) (env : Env) (r : Expr) (f : Value → Value → Sem Value) (Q : AV → St → Prop) (a : AV) (σ : St) : Prop := TV c n env σ (eval r env) (kOp2 c n env f a Q)
noncomputable abbrev kBoolTo (Q : Bool → St → Prop) (r : AV) (σ : St) : Prop := BoolTo r (kAt Q σ)
noncomputable abbrev kIfE (c : Cx) (n : Nat) (env : Env) (x y : Expr) (Q : AV → St → Prop) (b : Bool) (σ : St) : Prop := (b = true → TV c n env σ (eval x env) Q) ∧ (b = false → TV c n env σ (eval y env) Q)
noncomputable abbrev kNot (Q : Bool → St → Prop) (b : Bool) (σ : St) : Prop := Q (!b) σ
noncomputable abbrev kAnd (c : Cx) (n : Nat) (env : Env) (y : Expr) (Q : Bool → St → Prop) (b : Bool) (σ : St) : Prop := (b = true → TB c n env σ (isTrue y env (eval y env)) Q) ∧ (b = false → Q false σ)
noncomputable abbrev kOr (c : Cx) (n : Nat) (env : Env) (y : Expr) (Q : Bool → St → Prop) (b : Bool) (σ : St) : Prop := (b = true → Q true σ) ∧ (b = false → TB c n env σ (isTrue y env (eval y env)) Q)
noncomputable abbrev kConsQ (Q : List AV → St → Prop) (a : AV) (l : List AV) (σ : St) : Prop := Q (a :: l) σ
noncomputable abbrev kItem (c : Cx) (n : Nat) (env : Env) (pos : Pos) (rest : List Expr) (Q : List AV → St → Prop) (a : AV) (σ : St) : Prop := TL c n env σ (spliced (backTo pos (starEach rest env))) (kConsQ Q a)
noncomputable abbrev kTup (Q : AV → St → Prop) (l : List AV) (σ : St) : Prop := l.length ≤ 1000000 ∧ Q (.tup l) σ
noncomputable abbrev kNewL (c : Cx) (Q : AV → St → Prop) (l : List AV) (σ : St) : Prop := l.length ≤ 1000000 ∧ ∀ a, σ.H a = none → c.B.get? a = none → Q (.obj (.ref a)) ⟨setH σ.H a (.list l), σ.loc⟩
noncomputable abbrev kSeq (c : Cx) (n : Nat) (env : Env) (rest : List Stmt) (Q : AF → St → Prop) (f : AF) (σ : St) : Prop := match f with | .next => TF c n env σ (execs rest env) Q | f => Q f σ
noncomputable abbrev kRet (Q : AF → St → Prop) (a : AV) (σ : St) : Prop := Q (.ret a) σ
noncomputable abbrev kIf (c : Cx) (n : Nat) (env : Env) (x y : List Stmt) (Q : AF → St → Prop) (b : Bool) (σ : St) : Prop := (b = true → TF c n env σ (execs x env) Q) ∧ (b = false → TF c n env σ (execs y env) Q)
theorem Op1.mono {ρ : Heap → δ → γ → Prop} {f : Value → Sem γ} {a : AV} {Q Q' : δ → St → Prop} (h : Op1 c n env ρ σ f a Q) (k : ∀ b σ', Q b σ' → Q' b σ') : Op1 c n env ρ σ f a Q' := fun A hA s R va hv =>
  wpAny_mono (h A hA s R va hv) (fun _ _ ⟨b, σ', h1, h2, h3, h4⟩ => ⟨b, σ', h1, h2, h3, k b σ' h4⟩) fun _ _ e => e
theorem Op2.mono {ρ : Heap → δ → γ → Prop} {f : Value → Value → Sem γ} {a b : AV} {Q Q' : δ → St → Prop} (h : Op2 c n env ρ σ f a b Q) (k : ∀ b σ', Q b σ' → Q' b σ') : Op2 c n env ρ σ f a b Q' := fun A hA s R va vb hv hw =>
  wpAny_mono (h A hA s R va vb hv hw) (fun _ _ ⟨b, σ', h1, h2, h3, h4⟩ => ⟨b, σ', h1, h2, h3, k b σ' h4⟩) fun _ _ e => e
theorem OpL.mono {ρ : Heap → δ → γ → Prop} {f : List Value → Sem γ} {a : List AV} {Q Q' : δ → St → Prop} (h : OpL c n env ρ σ f a Q) (k : ∀ b σ', Q b σ' → Q' b σ') : OpL c n env ρ σ f a Q' := fun A hA s R va hv =>
  wpAny_mono (h A hA s R va hv) (fun _ _ ⟨b, σ', h1, h2, h3, h4⟩ => ⟨b, σ', h1, h2, h3, k b σ' h4⟩) fun _ _ e => e
/-! ### names -/
theorem tLocal {x : Str} {pos : Pos} {a : AV} {Q : AV → St → Prop} (hl : lk σ.loc x = some a) (hk : env.kindOf x = some .local) (h : Q a σ) (hd : (x == ("__debug__" : Str)) = false) :
    TV c n env σ (eval (.Name x pos) env) Q := fun A hA s R => by
  obtain ⟨m, hn, q⟩ := R.fr.ns
  obtain ⟨v, e1, e2⟩ := q x a hl hk
  exact wpAny_Name (wpAny_loadName_local R.fr.kind hk hn e1 (.here R e2 h)) hd
theorem tCell {x : Str} {pos : Pos} {a : AV} {k : Addr} {Q : AV → St → Prop} (hl : lk σ.loc x = some a) (hk : env.kindOf x = some .cell) (hc : env.cells.lookup x = some k) (h : Q a σ) (hd : (x == ("__debug__" : Str)) = false) :
    TV c n env σ (eval (.Name x pos) env) Q := fun A hA s R => by
  obtain ⟨u, hu, q⟩ := R.fr.cells x k hc
  obtain ⟨v, rfl, e2⟩ := q a hl
  exact wpAny_Name (wpAny_loadName_cell R.fr.kind hk hc hu (.here R e2 h)) hd
/-- a name of the top or of the builtins -/
noncomputable def GName (c : Cx) (x : Str) (v : Value) : Prop :=
  ∃ mg mb, c.B.Ns mainGlobals mg ∧ c.B.Ns builtinsNs mb ∧ (mg x = some v ∨ (mg x = none ∧ mb x = some v ∧ ∀ id, v ≠ .builtin id ∨ True))
theorem tGlobal {x : Str} {pos : Pos} {v : Value} {Q : AV → St → Prop} (hg : ∃ mg, c.B.Ns mainGlobals mg ∧ mg x = some v) (he : env.globals = mainGlobals) (hk : env.kindOf x = some .globalImplicit) (h : Q (.obj v) σ)
    (hd : (x == ("__debug__" : Str)) = false) : TV c n env σ (eval (.Name x pos) env) Q := fun A hA s R => by
  obtain ⟨mg, h1, h2⟩ := hg
  have h1' : s.heap.Ns env.globals mg := by rw [he]; exact h1.keeps R.base
  exact Name_function_global R.fr.kind hk (loadGlobal_global h1' h2 (.here R (.obj v) h)) hd
theorem tBuiltin {x : Str} {pos : Pos} {v : Value} {Q : AV → St → Prop} (hg : ∃ mg, c.B.Ns mainGlobals mg ∧ mg x = none) (hb : ∃ mb, c.B.Ns builtinsNs mb ∧ mb x = some v) (he : env.globals = mainGlobals) (he' : env.builtins = builtinsNs)
    (hk : env.kindOf x = some .globalImplicit) (h : Q (.obj v) σ) (hd : (x == ("__debug__" : Str)) = false) : TV c n env σ (eval (.Name x pos) env) Q := fun A hA s R => by
  obtain ⟨mg, h1, h2⟩ := hg
  obtain ⟨mb, h3, h4⟩ := hb
  have h1' : s.heap.Ns env.globals mg := by rw [he]; exact h1.keeps R.base
  have h3' : s.heap.Ns env.builtins mb := by rw [he']; exact h3.keeps R.base
  exact Name_function_global R.fr.kind hk (loadGlobal_builtin h1' h2 h3' h4 (.here R (.obj v) h)) hd
/-! ### constants -/
theorem tInt {i : Int} {k : Nat} {pos : Pos} {Q : AV → St → Prop} (h : Q (.int i) σ) : TV c n env σ (eval (.Constant (.int i) k pos) env) Q := fun A hA s R => wpAny_Constant_int (.tok R (.int ..) h)
theorem tStr {x : Str} {k : Nat} {pos : Pos} {Q : AV → St → Prop} (h : Q (.str x) σ) : TV c n env σ (eval (.Constant (.str x) k pos) env) Q := fun A hA s R => wpAny_Constant_str (.tok R (.str ..) h)
theorem tNone {k : Nat} {pos : Pos} {Q : AV → St → Prop} (h : Q .none σ) : TV c n env σ (eval (.Constant .none k pos) env) Q := fun A hA s R => wpAny_Constant_none (.here R .none h)
theorem tBool {b : Bool} {k : Nat} {pos : Pos} {Q : AV → St → Prop} (h : Q (.bool b) σ) : TV c n env σ (eval (.Constant (.bool b) k pos) env) Q := fun A hA s R => wpAny_Constant_bool (.here R (.bool b) h)
theorem tFloat {x : UInt64} {k : Nat} {pos : Pos} {Q : AV → St → Prop} (h : Q (.float x) σ) : TV c n env σ (eval (.Constant (.float x) k pos) env) Q := fun A hA s R => fun _ _ _ => Post.tok R (.float _ _ R.pos) h
/-! ### operators -/
theorem tBinOp {l r : Expr} {op : Operator} {pos : Pos} {Q : AV → St → Prop}
    (h : TV c n env σ (eval l env) (kBin c n env r (binaryOp op) Q)) : TV c n env σ (eval (.BinOp l op r pos) env) Q := fun A hA s R =>
  wpAny_BinOp (last h hA R fun a va σ₁ s₁ hv R₁ S₁ h₁ => last h₁ hA R₁ fun b vb σ₂ s₂ hw R₂ S₂ h₂ =>
    wpAny_mono (h₂ A hA s₂ R₂ va vb (S₂.vr R₁ hv) hw) (fun _ _ x => x.from (S₁.trans S₂)) fun _ _ e => e)
theorem tUnary {x : Expr} {op : UnaryOp} {pos : Pos} {Q : AV → St → Prop} (h : TV c n env σ (eval x env) (kOp1 c n env (VR c.P) (unaryOp op) Q)) : TV c n env σ (eval (.UnaryOp op x pos) env) Q := fun A hA s R =>
  wpAny_UnaryOp (last h hA R fun a va σ₁ s₁ hv R₁ S₁ h₁ => wpAny_mono (h₁ A hA s₁ R₁ va hv) (fun _ _ x => x.from S₁) fun _ _ e => e)
theorem tCompare {l r : Expr} {op : CmpOp} {pos : Pos} {Q : AV → St → Prop}
    (h : TV c n env σ (eval l env) (kBin c n env r (compareOp op) Q)) (hm : behindInMarks op r = false) : TV c n env σ (eval (.Compare l [op] [r] pos) env) Q := fun A hA s R =>
  wpAny_Compare1 (last h hA R fun a va σ₁ s₁ hv R₁ S₁ h₁ => last h₁ hA R₁ fun b vb σ₂ s₂ hw R₂ S₂ h₂ =>
    wpAny_mono (h₂ A hA s₂ R₂ va vb (S₂.vr R₁ hv) hw) (fun _ _ x => x.from (S₁.trans S₂)) fun _ _ e => e) hm
theorem tIfExp {test body orelse : Expr} {pos : Pos} {Q : AV → St → Prop}
    (h : TB c n env σ (isTrue test env (eval test env)) (kIfE c n env body orelse Q)) : TV c n env σ (eval (.IfExp test body orelse pos) env) Q := fun A hA s R =>
  wpAny_IfExp (last h hA R fun b vb σ₁ s₁ hv R₁ S₁ h₁ => by
    cases hv
    cases b with
    | true => exact wpAny_mono (h₁.1 rfl A hA s₁ R₁) (fun _ _ x => x.from S₁) fun _ _ e => e
    | false => exact wpAny_mono (h₁.2 rfl A hA s₁ R₁) (fun _ _ x => x.from S₁) fun _ _ e => e)
/-! ### truth -/
theorem bCompare {l r : Expr} {op : CmpOp} {pos : Pos} {whole : Sem Value} {Q : Bool → St → Prop}
    (h : TV c n env σ (eval l env) (kBin c n env r (compareOp op) (kBoolTo Q))) (hm : behindInMarks op r = false) :
    TB c n env σ (isTrue (.Compare l [op] [r] pos) env whole) Q := fun A hA s R =>
  wpAny_isTrue_Compare1 (last h hA R fun a va σ₁ s₁ hv R₁ S₁ h₁ => last h₁ hA R₁ fun b vb σ₂ s₂ hw R₂ S₂ h₂ =>
    wpAny_mono (h₂ A hA s₂ R₂ va vb (S₂.vr R₁ hv) hw) (fun v s₃ x => by
      obtain ⟨r, σ₃, hr, R₃, S₃, b, rfl, hq⟩ := x
      cases hr
      exact wpAny_truthy_bool ⟨b, σ₃, rfl, R₃, S₁.trans (S₂.trans S₃), hq⟩) fun _ _ e => e) hm
theorem bValue {e : Expr} {Q : Bool → St → Prop} (h : TV c n env σ (eval e env) (kOp1 c n env EqR truthy Q))
    (he : isTrue e env (eval e env) = (do let v ← eval e env; standAt e.pos; holding [v] (truthy v))) : TB c n env σ (isTrue e env (eval e env)) Q := fun A hA s R =>
  wpAny_isTrue_value (last h hA R fun a va σ₁ s₁ hv R₁ S₁ h₁ => wpAny_mono (h₁ A hA s₁ R₁ va hv) (fun _ _ x => x.from S₁) fun _ _ e => e) he
theorem bNot {x : Expr} {pos : Pos} {whole : Sem Value} {Q : Bool → St → Prop} (h : TB c n env σ (isTrue x env (eval x env)) (kNot Q)) : TB c n env σ (isTrue (.UnaryOp .Not x pos) env whole) Q := fun A hA s R =>
  wpAny_isTrue_Not (last h hA R fun b vb σ₁ s₁ hv R₁ S₁ h₁ => by cases hv; exact ⟨_, σ₁, rfl, R₁, S₁, h₁⟩)
theorem bAnd2 {x y : Expr} {pos : Pos} {whole : Sem Value} {Q : Bool → St → Prop}
    (h : TB c n env σ (isTrue x env (eval x env)) (kAnd c n env y Q)) : TB c n env σ (isTrue (.BoolOp .And [x, y] pos) env whole) Q := fun A hA s R =>
  wpAny_isTrue_BoolOp (wpAny_allTrue_And_cons (last h hA R fun b vb σ₁ s₁ hv R₁ S₁ h₁ => by
    cases hv
    cases b with
    | false => exact ⟨_, σ₁, rfl, R₁, S₁, h₁.2 rfl⟩
    | true => exact wpAny_allTrue_And_cons (last (h₁.1 rfl) hA R₁ fun b vb σ₂ s₂ hv R₂ S₂ h₂ => by
        cases hv
        cases b with
        | false => exact ⟨_, σ₂, rfl, R₂, S₁.trans S₂, h₂⟩
        | true => exact wpAny_allTrue_And_nil ⟨_, σ₂, rfl, R₂, S₁.trans S₂, h₂⟩)))
theorem bOr2 {x y : Expr} {pos : Pos} {whole : Sem Value} {Q : Bool → St → Prop}
    (h : TB c n env σ (isTrue x env (eval x env)) (kOr c n env y Q)) : TB c n env σ (isTrue (.BoolOp .Or [x, y] pos) env whole) Q := fun A hA s R =>
  wpAny_isTrue_BoolOp (wpAny_allTrue_Or_cons (last h hA R fun b vb σ₁ s₁ hv R₁ S₁ h₁ => by
    cases hv
    cases b with
    | true => exact ⟨_, σ₁, rfl, R₁, S₁, h₁.1 rfl⟩
    | false => exact wpAny_allTrue_Or_cons (last (h₁.2 rfl) hA R₁ fun b vb σ₂ s₂ hv R₂ S₂ h₂ => by
        cases hv
        cases b with
        | true => exact ⟨_, σ₂, rfl, R₂, S₁.trans S₂, h₂⟩
        | false => exact wpAny_allTrue_Or_nil ⟨_, σ₂, rfl, R₂, S₁.trans S₂, h₂⟩)))
theorem tAnd2 {x y : Expr} {pos : Pos} {Q : AV → St → Prop}
    (h : TV c n env σ (eval x env) fun a σ₁ => Op1 c n env EqR σ₁ truthy a fun b σ₂ => (b = true → TV c n env σ₂ (eval y env) Q) ∧ (b = false → Q a σ₂)) : TV c n env σ (eval (.BoolOp .And [x, y] pos) env) Q := fun A hA s R =>
  wpAny_And2 (last h hA R fun a va σ₁ s₁ hv R₁ S₁ h₁ => wpAny_mono (h₁ A hA s₁ R₁ va hv) (fun t s₂ x => by
    obtain ⟨b, σ₂, ht, R₂, S₂, hq⟩ := x
    cases ht
    cases t with
    | false => exact ⟨a, σ₂, S₂.vr R₁ hv, R₂, S₁.trans S₂, hq.2 rfl⟩
    | true => exact wpAny_mono (hq.1 rfl A hA s₂ R₂) (fun _ _ x => x.from (S₁.trans S₂)) fun _ _ e => e) fun _ _ e => e)
/-! ### items -/
theorem lNil {pos : Pos} {Q : List AV → St → Prop} (h : Q [] σ) : TL c n env σ (spliced (backTo pos (starEach [] env))) Q := fun A hA s R => wpAny_items_nil (.here R .nil h)
theorem lCons {pos : Pos} {e : Expr} {rest : List Expr} {Q : List AV → St → Prop}
    (h : TV c n env σ (eval e env) (kItem c n env pos rest Q)) (he : starEach (e :: rest) env = (false, eval e env) :: starEach rest env) :
    TL c n env σ (spliced (backTo pos (starEach (e :: rest) env))) Q := fun A hA s R =>
  wpAny_items_cons (last h hA R fun a va σ₁ s₁ hv R₁ S₁ h₁ => last h₁ hA R₁ fun l vl σ₂ s₂ hw R₂ S₂ h₂ => ⟨a :: l, σ₂, .cons (S₂.vr R₁ hv) hw, R₂, S₁.trans S₂, h₂⟩) he
theorem size_of_few {p : Addr → Prop} {h : Heap} {l : List AV} {vs : List Value} (x : VRs p h l vs) (hl : l.length ≤ 1000000) : vs.length ≤ sizeLine := by rw [x.length, sizeLine_eq]; lia
theorem tTuple {elts : List Expr} {k : Nat} {pos : Pos} {Q : AV → St → Prop} (h : TL c n env σ (spliced (backTo pos (starEach elts env))) (kTup Q)) : TV c n env σ (eval (.Tuple elts k pos) env) Q := fun A hA s R =>
  wpAny_Tuple (last h hA R fun l vl σ₁ s₁ hv R₁ S₁ h₁ => ⟨size_of_few hv h₁.1, .tup l, σ₁,
    .tup (fun q => let ⟨o, e⟩ := R₁.priv _ q; Nat.lt_irrefl _ (Heap.lt_size e)) ⟨_, Heap.get?_push_size _ rfl, rfl, _, rfl⟩ ((hv.keep (.all fun _ _ t => Heap.get?_push_of_some _ t)) : VRs c.P _ l vl), R₁.grow (t := s₁.toks) fun _ _ e => Heap.get?_push_of_some _ e,
    S₁.trans (Stp.grow (t := s₁.toks) fun _ _ e => Heap.get?_push_of_some _ e), h₁.2⟩)
/-- a new list -/
theorem postList {l : List AV} {items : Array Value} {s : Shared} {t : Nat} {Q : AV → St → Prop} (R : Rel c env σ s) (hv : VRs c.P s.heap l items.toList)
    (h : ∀ a, σ.H a = none → c.B.get? a = none → Q (.obj (.ref a)) ⟨setH σ.H a (.list l), σ.loc⟩) (ht : s.toks ≤ t := by walk_at "my_tk") :
    Post c env σ s (VR c.P) Q (.ref s.heap.objs.size) { s with heap := s.heap.push { cls := .type "list", data := .seq items }, toks := t } := by
  have k : ∀ b o, s.heap.get? b = some o → (s.heap.push ({ cls := .type "list", data := .seq items } : Obj)).get? b = some o := fun _ _ e => Heap.get?_push_of_some _ e
  have R' := R.grow (t := t) k
  have f := R.fresh (Nat.le_refl s.heap.objs.size)
  have oa : OA c.P (s.heap.push ({ cls := .type "list", data := .seq items } : Obj)) s.heap.objs.size (.list l) := ⟨items, 0, Heap.get?_push_size _ rfl, hv.keep (.all k)⟩
  refine ⟨_, _, .obj _, R'.alloc f.1 f.2.1 f.2.2 oa, ⟨fun b o e _ _ => k b o e, fun b ob hb e => ?_, fun b ob e => ⟨ob, k b ob e⟩, rfl, rfl, rfl, ht⟩, h _ f.1 f.2.2⟩
  show setH σ.H _ _ b = none
  rw [setH_ne _ _ (Nat.ne_of_lt (Heap.lt_size hb))]; exact e
theorem tList {elts : List Expr} {pos : Pos} {Q : AV → St → Prop} (h : TL c n env σ (spliced (backTo pos (starEach elts env))) (kNewL c Q)) :
    TV c n env σ (eval (.List elts pos) env) Q := fun A hA s R =>
  wpAny_List (last h hA R fun l vl σ₁ s₁ hv R₁ S₁ h₁ => ⟨size_of_few hv h₁.1, Post.from S₁ (postList (t := s₁.toks) R₁ (by simpa using hv) h₁.2)⟩)
/-! ### statements -/
theorem sNil {Q : AF → St → Prop} (h : Q .next σ) : TF c n env σ (execs [] env) Q := fun A hA s R => wpAny_execs_nil (.here R .next h)
theorem sCons {st : Stmt} {rest : List Stmt} {Q : AF → St → Prop}
    (h : TF c n env σ (exec st env) (kSeq c n env rest Q)) : TF c n env σ (execs (st :: rest) env) Q := fun A hA s R =>
  wpAny_execs_cons (last h hA R fun f vf σ₁ s₁ hv R₁ S₁ h₁ => by
    cases hv with
    | next => exact wpAny_mono (h₁ A hA s₁ R₁) (fun _ _ x => x.from S₁) fun _ _ e => e
    | brk => exact ⟨_, σ₁, .brk, R₁, S₁, h₁⟩
    | cont => exact ⟨_, σ₁, .cont, R₁, S₁, h₁⟩
    | ret x => exact ⟨_, σ₁, .ret x, R₁, S₁, h₁⟩)
theorem sReturn {e : Expr} {pos : Pos} {Q : AF → St → Prop} (h : TV c n env σ (eval e env) (kRet Q)) : TF c n env σ (exec (.Return (some e) pos) env) Q := fun A hA s R =>
  wpAny_Return_some (last h hA R fun a va σ₁ s₁ hv R₁ S₁ h₁ => ⟨_, σ₁, .ret hv, R₁, S₁, h₁⟩)
theorem sBreak {pos : Pos} {Q : AF → St → Prop} (h : Q .brk σ) : TF c n env σ (exec (.Break pos) env) Q := fun A hA s R => wpAny_Break (.here R .brk h)
theorem sContinue {pos : Pos} {Q : AF → St → Prop} (h : Q .cont σ) : TF c n env σ (exec (.Continue pos) env) Q := fun A hA s R => wpAny_Continue (.here R .cont h)
theorem sIf {test : Expr} {body orelse : List Stmt} {pos : Pos} {Q : AF → St → Prop}
    (h : TB c n env σ (isTrue test env (eval test env)) (kIf c n env body orelse Q)) : TF c n env σ (exec (.If test body orelse pos) env) Q := fun A hA s R =>
  wpAny_If (last h hA R fun b vb σ₁ s₁ hv R₁ S₁ h₁ => by
    cases hv
    cases b with
    | true => exact wpAny_mono (h₁.1 rfl A hA s₁ R₁) (fun _ _ x => x.from S₁) fun _ _ e => e
    | false => exact wpAny_mono (h₁.2 rfl A hA s₁ R₁) (fun _ _ x => x.from S₁) fun _ _ e => e)
/-- storing a local name -/
theorem storeLocal {x : Str} {a : AV} {v : Value} {A : Around} {s : Shared} {Q : Unit → St → Prop} (R : Rel c env σ s) (hv : VR c.P s.heap a v) (hk : env.kindOf x = some .local) (hx : env.cells.lookup x = none) (h : Q () ⟨σ.H, put σ.loc x a⟩) :
    wpAny (model c.prog c.w) A (storeName env x v) (Post c env σ s EqR Q) Fls s := by
  obtain ⟨m, hn, q⟩ := R.fr.ns
  refine wpAny_storeName_local hk hn (fun h' hn' hs => ?_) (by rw [R.fr.kind]; rfl)
  have fl : FP env env.locals := .inl rfl
  have kT : KI c.P s.heap h' := fun b o hi _ t => (hs.2 b fun e => (R.imm hi t).2 (e ▸ fl)).trans t
  have lv : ∀ b o, s.heap.get? b = some o → ∃ o', h'.get? b = some o' := fun b o e => by
    by_cases hb : b = env.locals
    · subst hb; obtain ⟨o', _, _, e', _⟩ := hn'; exact ⟨o', e'⟩
    · exact ⟨o, (hs.2 b hb).trans e⟩
  refine ⟨(), ⟨σ.H, put σ.loc x a⟩, rfl, ⟨fun b o e => (hs.2 b fun z => ?_).trans (R.base b o e), fun b o e => (R.own b o e).keep (fun ob z => (hs.2 b fun y => ?_).trans z) kT, R.ownB, ⟨R.fr.kind, ⟨_, hn', fun y b hb hkb => ?_⟩, fun k cc hm => ?_, R.fr.apart, R.fr.sep⟩, R.fpH, R.fpB, (fun b q => let ⟨o, e⟩ := R.priv b q; lv b o e), Nat.succ_pos _, fun a o T e => Nat.le_succ_of_le (R.gh a o T e)⟩,
    ⟨fun b o e _ hf => (hs.2 b fun z => hf (z ▸ fl)).trans e, fun _ _ _ e => e, lv, rfl, rfl, rfl, Nat.le_succ _⟩, h⟩
  · subst z; rw [R.fpB _ fl] at e; cases e
  · subst y; rw [R.fpH _ fl] at e; cases e
  · rw [lk_put] at hb
    by_cases hy : y = x
    · subst hy
      simp only [if_true, Option.some.injEq] at hb
      subst hb
      exact ⟨v, by simp, hv.keep kT⟩
    · rw [if_neg hy] at hb
      obtain ⟨u, e1, e2⟩ := q y b hb hkb
      exact ⟨u, by simp [hy, e1], e2.keep kT⟩
  · obtain ⟨u, hu, q'⟩ := R.fr.cells k cc hm
    refine ⟨u, hu.sameBut hs (R.fr.sep k cc hm), fun b e2 => ?_⟩
    rw [lk_put] at e2
    by_cases hy : k = x
    · subst hy; rw [hx] at hm; cases hm
    · rw [if_neg hy] at e2
      obtain ⟨v', e3, e4⟩ := q' b e2
      exact ⟨v', e3, e4.keep kT⟩
/-- storing a captured name -/
theorem storeCell {x : Str} {a : AV} {v : Value} {k : Addr} {A : Around} {s : Shared} {Q : Unit → St → Prop} (R : Rel c env σ s) (hv : VR c.P s.heap a v) (hk : env.kindOf x = some .cell) (hc : env.cells.lookup x = some k) (h : Q () ⟨σ.H, put σ.loc x a⟩) :
    wpAny (model c.prog c.w) A (storeName env x v) (Post c env σ s EqR Q) Fls s := by
  obtain ⟨u, hu, _⟩ := R.fr.cells x k hc
  refine wpAny_storeName_cell R.fr.kind hk hc hu fun h' hc' hs => ?_
  have fl : FP env k := .inr ⟨x, hc⟩
  have kT : KI c.P s.heap h' := fun b o hi _ t => (hs.2 b fun e => (R.imm hi t).2 (e ▸ fl)).trans t
  obtain ⟨m, hn, q⟩ := R.fr.ns
  have lv : ∀ b o, s.heap.get? b = some o → ∃ o', h'.get? b = some o' := fun b o e => by
    by_cases hb : b = k
    · subst hb; obtain ⟨o', e', _⟩ := hc'; exact ⟨o', e'⟩
    · exact ⟨o, (hs.2 b hb).trans e⟩
  refine ⟨(), ⟨σ.H, put σ.loc x a⟩, rfl, ⟨fun b o e => (hs.2 b fun z => ?_).trans (R.base b o e), fun b o e => (R.own b o e).keep (fun ob z => (hs.2 b fun y => ?_).trans z) kT, R.ownB, ⟨R.fr.kind, ⟨m, hn.sameBut hs (Ne.symm (R.fr.sep x k hc)), fun y b hb hkb => ?_⟩, fun k' cc hm => ?_, R.fr.apart, R.fr.sep⟩, R.fpH, R.fpB, (fun b q => let ⟨o, e⟩ := R.priv b q; lv b o e), R.pos, R.gh⟩,
    ⟨fun b o e _ hf => (hs.2 b fun z => hf (z ▸ fl)).trans e, fun _ _ _ e => e, lv, rfl, rfl, rfl, Nat.le_refl _⟩, h⟩
  · subst z; rw [R.fpB _ fl] at e; cases e
  · subst y; rw [R.fpH _ fl] at e; cases e
  · rw [lk_put] at hb
    by_cases hy : y = x
    · subst hy; rw [hk] at hkb; cases hkb
    · rw [if_neg hy] at hb
      obtain ⟨u, e1, e2⟩ := q y b hb hkb
      exact ⟨u, e1, e2.keep kT⟩
  · by_cases hcc : cc = k
    · subst hcc
      have hkx : k' = x := name_of_addr R.fr.apart (mem_of_lookup hm) (mem_of_lookup hc)
      subst hkx
      refine ⟨_, hc', fun b e2 => ?_⟩
      rw [lk_put] at e2
      simp only [if_true, Option.some.injEq] at e2
      subst e2
      exact ⟨v, rfl, hv.keep kT⟩
    · obtain ⟨u', hu', q'⟩ := R.fr.cells k' cc hm
      refine ⟨u', hu'.sameBut hs hcc, fun b e2 => ?_⟩
      rw [lk_put] at e2
      by_cases hy : k' = x
      · subst hy; rw [hc] at hm; cases hm; exact absurd rfl hcc
      · rw [if_neg hy] at e2
        obtain ⟨v', e3, e4⟩ := q' b e2
        exact ⟨v', e3, e4.keep kT⟩
/-- where a name is kept -/
inductive Kept (env : Env) (x : Str) : Prop
  | loc : env.kindOf x = some .local → env.cells.lookup x = none → Kept env x
  | cell {k : Addr} : env.kindOf x = some .cell → env.cells.lookup x = some k → Kept env x
theorem store {x : Str} {a : AV} {v : Value} {A : Around} {s : Shared} {Q : Unit → St → Prop} (hk : Kept env x) (R : Rel c env σ s) (hv : VR c.P s.heap a v) (h : Q () ⟨σ.H, put σ.loc x a⟩) :
    wpAny (model c.prog c.w) A (storeName env x v) (Post c env σ s EqR Q) Fls s := by
  cases hk with
  | loc h1 h2 => exact storeLocal R hv h1 h2 h
  | cell h1 h2 => exact storeCell R hv h1 h2 h
theorem tName {x : Str} {pos : Pos} {a : AV} {Q : AV → St → Prop} (hl : lk σ.loc x = some a) (hk : Kept env x) (h : Q a σ) (hd : (x == ("__debug__" : Str)) = false) :
    TV c n env σ (eval (.Name x pos) env) Q := by
  cases hk with
  | loc h1 h2 => exact tLocal hl h1 h hd
  | cell h1 h2 => exact tCell hl h1 h2 h hd
theorem sAssign {x : Str} {pos' : Pos} {value : Expr} {pos : Pos} {Q : AF → St → Prop} (h : TV c n env σ (eval value env) fun a σ₁ => Q .next ⟨σ₁.H, put σ₁.loc x a⟩) (hk : Kept env x)
    (hs : swapsWith value (some (.Name x pos')) pos.line env = pure false) : TF c n env σ (exec (.Assign [.Name x pos'] value pos) env) Q := fun A hA s R =>
  wpAny_Assign_Name (last h hA R fun a va σ₁ s₁ hv R₁ S₁ h₁ => wpAny_mono (store (Q := fun _ σ' => Q .next σ') hk R₁ hv h₁) (fun _ s₂ x => by
    obtain ⟨_, σ₂, _, R₂, S₂, hq⟩ := x
    exact ⟨_, σ₂, .next, R₂, S₁.trans S₂, hq⟩) fun _ _ e => e) hs
/-- loadName itself -/
theorem tLoad {x : Str} {a : AV} {Q : AV → St → Prop} (hl : lk σ.loc x = some a) (hk : Kept env x) (h : Q a σ) : TV c n env σ (loadName env x) Q := fun A hA s R => by
  cases hk with
  | loc h1 h2 =>
    obtain ⟨m, hn, q⟩ := R.fr.ns
    obtain ⟨v, e1, e2⟩ := q x a hl h1
    exact wpAny_loadName_local R.fr.kind h1 hn e1 (.here R e2 h)
  | cell h1 h2 =>
    obtain ⟨u, hu, q⟩ := R.fr.cells x _ h2
    obtain ⟨v, rfl, e2⟩ := q a hl
    exact wpAny_loadName_cell R.fr.kind h1 h2 hu (.here R e2 h)
theorem sAug {x : Str} {pos' : Pos} {op : Operator} {value : Expr} {pos : Pos} {a : AV} {Q : AF → St → Prop} (hl : lk σ.loc x = some a) (hk : Kept env x)
    (h : TV c n env σ (eval value env) fun b σ₁ => Op2 c n env (VR c.P) σ₁ (inplaceOp op) a b fun r σ₂ => Q .next ⟨σ₂.H, put σ₂.loc x r⟩) : TF c n env σ (exec (.AugAssign (.Name x pos') op value pos) env) Q := fun A hA s R =>
  wpAny_AugAssign_Name (last (tLoad (Q := fun b σ' => b = a ∧ σ' = σ) hl hk ⟨rfl, rfl⟩) hA R fun b va σ₁ s₁ hv R₁ S₁ h₁ => by
    obtain ⟨rfl, rfl⟩ := h₁
    exact last h hA R₁ fun b' vb σ₂ s₂ hw R₂ S₂ h₂ => wpAny_mono (h₂ A hA s₂ R₂ va vb (S₂.vr R₁ hv) hw) (fun r s₃ x => by
      obtain ⟨ra, σ₃, hr, R₃, S₃, hq⟩ := x
      refine wpAny_mono (store (Q := fun _ σ' => Q .next σ') hk R₃ hr hq) (fun _ s₄ x => ?_) fun _ _ e => e
      obtain ⟨_, σ₄, _, R₄, S₄, hq⟩ := x
      exact ⟨_, σ₄, .next, R₄, S₁.trans (S₂.trans (S₃.trans S₄)), hq⟩) fun _ _ e => e)
theorem sExpr {e : Expr} {pos : Pos} {Q : AF → St → Prop} (h : TV c n env σ (eval e env) fun a σ₁ => a = .none ∧ Q .next σ₁) (hi : interactive env = false) (hs : swapsWith e none pos.line env = pure false) :
    TF c n env σ (exec (.Expr e pos) env) Q := fun A hA s R =>
  wpAny_Expr (last h hA R fun a va σ₁ s₁ hv R₁ S₁ h₁ => by
    obtain ⟨rfl, hq⟩ := h₁
    cases hv
    exact ⟨_, σ₁, .next, R₁, S₁, hq⟩) hi hs
end
end

section
open PySem PySem.W PyProof.Rows PySem.Calls
section
variable {α β γ δ : Type} {c : Cx} {n : Nat} {env : Env} {σ : St}
theorem postTok {ρ : Heap → β → α → Prop} {s : Shared} {Q : β → St → Prop} {a : α} {b : β} {t : Nat} (R : Rel c env σ s) (h1 : ρ s.heap b a) (h4 : Q b σ) (ht : s.toks ≤ t := by walk_at "my_tk") : Post c env σ s ρ Q a { s with toks := t } := .tok R h1 h4 ht
/-! ### binary operators on plain values -/
structure BinR (op : Operator) (a b r : AV) : Prop where
  run : ∀ {c : Cx} {n : Nat} {env : Env} {σ : St} {Q : AV → St → Prop}, Q r σ → Op2 c n env (VR c.P) σ (binaryOp op) a b Q
theorem BinR.addI {a b : Int}  : BinR .Add (.int a) (.int b) (.int (a + b)) := ⟨fun hq A hA s R va vb ha hb => by cases ha; cases hb; exact PyProof.Rows.add_int (postTok R (.int ..) hq)⟩
theorem BinR.subI {a b : Int}  : BinR .Sub (.int a) (.int b) (.int (a - b)) := ⟨fun hq A hA s R va vb ha hb => by cases ha; cases hb; exact PyProof.Rows.sub_int (postTok R (.int ..) hq)⟩
theorem BinR.mulI {a b : Int} (h1 : IntMulOk a b) : BinR .Mult (.int a) (.int b) (.int (a * b)) := ⟨fun hq A hA s R va vb ha hb => by cases ha; cases hb; exact PyProof.Rows.mul_int (postTok R (.int ..) hq) h1⟩
theorem BinR.fdivI {a b : Int} (h1 : b ≠ 0) (h2 : b.natAbs < 1073741824) : BinR .FloorDiv (.int a) (.int b) (.int (a.fdiv b)) := ⟨fun hq A hA s R va vb ha hb => by cases ha; cases hb; exact PyProof.Rows.floordiv_int h1 (postTok R (.int ..) hq) (.inl (PyProof.noPylong_small h2))⟩
theorem BinR.modI {a b : Int} (h1 : b ≠ 0) : BinR .Mod (.int a) (.int b) (.int (a.fmod b)) := ⟨fun hq A hA s R va vb ha hb => by cases ha; cases hb; exact PyProof.Rows.mod_int' h1 (postTok R (.int ..) hq)⟩
theorem BinR.divI {a b : Int} (h1 : b ≠ 0) (h2 : Float64.isInf (Float64.ofFrac (decide (a < 0) != decide (b < 0)) a.natAbs b.natAbs) = false) : BinR .Div (.int a) (.int b) (.float (Float64.ofFrac (decide (a < 0) != decide (b < 0)) a.natAbs b.natAbs)) := ⟨fun hq A hA s R va vb ha hb => by cases ha; cases hb; exact AutoIntOps.truediv_2 (by simpa using h1) (by simp [h2]) (postTok R (.float _ _ R.pos) hq)⟩
theorem BinR.addS {x y : Str} (h1 : x.length + y.length ≤ sizeLine) : BinR .Add (.str x) (.str y) (.str (x ++ y)) := ⟨fun hq A hA s R va vb ha hb => by cases ha; cases hb; exact wpAny_with_toks (Nat.le_refl _) (PyProof.Rows.add_str (fun t' tk hp => postTok R (.str ..) hq hp) h1)⟩
theorem BinR.mulS {x : Str} {k : Int} (h1 : PySem.MulOk x k) : BinR .Mult (.str x) (.int k) (.str (Txt.mul x k)) := ⟨fun hq A hA s R va vb ha hb => by cases ha; cases hb; exact wpAny_with_toks (Nat.le_refl _) (SB.mul h1 fun t' k hp => postTok R (.str ..) hq hp)⟩
theorem BinR.addF {a b : UInt64}  : BinR .Add (.float a) (.float b) (.float (Float64.add a b)) := ⟨fun hq A hA s R va vb ha hb => by cases ha; cases hb; exact PyProof.Rows.add_float (postTok R (.float _ _ R.pos) hq)⟩
theorem BinR.subF {a b : UInt64}  : BinR .Sub (.float a) (.float b) (.float (Float64.sub a b)) := ⟨fun hq A hA s R va vb ha hb => by cases ha; cases hb; exact PyProof.Rows.sub_float (postTok R (.float _ _ R.pos) hq)⟩
theorem BinR.mulF {a b : UInt64}  : BinR .Mult (.float a) (.float b) (.float (Float64.mul a b)) := ⟨fun hq A hA s R va vb ha hb => by cases ha; cases hb; exact PyProof.Rows.mul_float (postTok R (.float _ _ R.pos) hq)⟩
theorem BinR.divF {a b : UInt64} (h1 : Float64.isZero b = false) : BinR .Div (.float a) (.float b) (.float (Float64.div a b)) := ⟨fun hq A hA s R va vb ha hb => by cases ha; cases hb; exact AutoFloatOpsIf.truediv (by rw [if_neg (by rw [h1]; decide)]; exact postTok R (.float _ _ R.pos) hq)⟩
theorem BinR.modF {a b : UInt64} (h1 : Float64.isZero b = false) : BinR .Mod (.float a) (.float b) (.float (Float64.divmod a b).snd) := ⟨fun hq A hA s R va vb ha hb => by cases ha; cases hb; exact AutoFloatOpsIf.mod (by rw [if_neg (by rw [h1]; decide)]; exact postTok R (.float _ _ R.pos) hq)⟩
theorem BinR.addFI {a : UInt64} {b : Int} (h1 : b.natAbs < 2 ^ 1023) : BinR .Add (.float a) (.int b) (.float (Float64.add a (Float64.ofInt b))) := ⟨fun hq A hA s R va vb ha hb => by cases ha; cases hb; exact PyProof.Rows.add_fi_fits h1 (postTok R (.float _ _ R.pos) hq)⟩
theorem BinR.subFI {a : UInt64} {b : Int} (h1 : Float64.isInf (Float64.ofInt b) = false) : BinR .Sub (.float a) (.int b) (.float (Float64.sub a (Float64.ofInt b))) := ⟨fun hq A hA s R va vb ha hb => by cases ha; cases hb; exact AutoFloatOpsIf.sub_fi (by rw [if_neg (by rw [h1]; decide)]; exact postTok R (.float _ _ R.pos) hq)⟩
theorem BinR.subIF {a : Int} {b : UInt64} (h1 : Float64.isInf (Float64.ofInt a) = false) : BinR .Sub (.int a) (.float b) (.float (Float64.sub (Float64.ofInt a) b)) := ⟨fun hq A hA s R va vb ha hb => by cases ha; cases hb; exact AutoFloatOpsIf.sub_if (by rw [if_neg (by rw [h1]; decide)]; exact postTok R (.float _ _ R.pos) hq)⟩
theorem BinR.ok {op : Operator} {a b r : AV} {Q : AV → St → Prop} (h : BinR op a b r) (hq : Q r σ) : Op2 c n env (VR c.P) σ (binaryOp op) a b Q := h.run hq
inductive InpR : Operator → AV → AV → AV → Prop
  | addI {a b : Int} : InpR .Add (.int a) (.int b) (.int (a + b))
  | addS {x y : Str} : x.length + y.length ≤ sizeLine → InpR .Add (.str x) (.str y) (.str (x ++ y))
inductive InpTo (op : Operator) (a b : AV) (K : AV → Prop) : Prop | mk (r : AV) : InpR op a b r → K r → InpTo op a b K
theorem InpR.ok {op : Operator} {a b r : AV} {Q : AV → St → Prop} (h : InpR op a b r) (hq : Q r σ) : Op2 c n env (VR c.P) σ (inplaceOp op) a b Q := fun A hA s R va vb ha hb => by
  cases h <;> cases ha <;> cases hb
  · exact PyProof.Rows.iadd_int (postTok R (.int ..) hq)
  · rename_i h1 _ _
    exact wpAny_with_toks (Nat.le_refl _) (PyProof.Rows.iadd_str (fun t' tk hp => postTok R (.str ..) hq hp) h1)
/-! ### comparisons on plain values -/
structure CmpR (op : CmpOp) (a b : AV) (r : Bool) : Prop where
  run : ∀ {c : Cx} {n : Nat} {env : Env} {σ : St} {Q : AV → St → Prop}, Q (.bool r) σ → Op2 c n env (VR c.P) σ (compareOp op) a b Q
theorem CmpR.ltI {a b : Int}  : CmpR .Lt (.int a) (.int b) (decide (a < b)) := ⟨fun hq A hA s R va vb ha hb => by cases ha; cases hb; exact PyProof.Rows.lt_int (.here R (.bool _) hq)⟩
theorem CmpR.leI {a b : Int}  : CmpR .LtE (.int a) (.int b) (decide (a ≤ b)) := ⟨fun hq A hA s R va vb ha hb => by cases ha; cases hb; exact PyProof.Rows.le_int (.here R (.bool _) hq)⟩
theorem CmpR.gtI {a b : Int}  : CmpR .Gt (.int a) (.int b) (decide (b < a)) := ⟨fun hq A hA s R va vb ha hb => by cases ha; cases hb; exact PyProof.Rows.gt_int (.here R (.bool _) hq)⟩
theorem CmpR.geI {a b : Int}  : CmpR .GtE (.int a) (.int b) (decide (b ≤ a)) := ⟨fun hq A hA s R va vb ha hb => by cases ha; cases hb; exact PyProof.Rows.ge_int (.here R (.bool _) hq)⟩
theorem CmpR.eqI {a b : Int}  : CmpR .Eq (.int a) (.int b) (a == b) := ⟨fun hq A hA s R va vb ha hb => by cases ha; cases hb; exact PyProof.Rows.eq_int (.here R (.bool _) hq)⟩
theorem CmpR.neI {a b : Int}  : CmpR .NotEq (.int a) (.int b) (a != b) := ⟨fun hq A hA s R va vb ha hb => by cases ha; cases hb; exact PyProof.Rows.ne_int (.here R (.bool _) hq)⟩
theorem CmpR.eqS {x y : Str}  : CmpR .Eq (.str x) (.str y) (x == y) := ⟨fun hq A hA s R va vb ha hb => by cases ha; cases hb; exact PyProof.Rows.eq_str (.here R (.bool _) hq)⟩
theorem CmpR.neS {x y : Str}  : CmpR .NotEq (.str x) (.str y) (x != y) := ⟨fun hq A hA s R va vb ha hb => by cases ha; cases hb; exact PyProof.Rows.ne_str (.here R (.bool _) hq)⟩
theorem CmpR.gtS {x y : Str}  : CmpR .Gt (.str x) (.str y) (decide (y.cps.toList < x.cps.toList)) := ⟨fun hq A hA s R va vb ha hb => by cases ha; cases hb; exact PySem.P.gt_str (.here R (.bool _) hq)⟩
theorem CmpR.inS {x y : Str}  : CmpR .In (.str y) (.str x) (Txt.contains x y) := ⟨fun hq A hA s R va vb ha hb => by cases ha; cases hb; exact SB.contains (.here R (.bool _) hq)⟩
theorem CmpR.eqF {a b : UInt64}  : CmpR .Eq (.float a) (.float b) (Float64.cmp a b == some Ordering.eq) := ⟨fun hq A hA s R va vb ha hb => by cases ha; cases hb; exact AutoFloatOps.eq_0 (.here R (.bool _) hq)⟩
theorem CmpR.neF {a b : UInt64}  : CmpR .NotEq (.float a) (.float b) (Float64.cmp a b != some Ordering.eq) := ⟨fun hq A hA s R va vb ha hb => by cases ha; cases hb; exact AutoFloatOps.ne_0 (.here R (.bool _) hq)⟩
theorem CmpR.ltF {a b : UInt64}  : CmpR .Lt (.float a) (.float b) (Float64.cmp a b == some Ordering.lt) := ⟨fun hq A hA s R va vb ha hb => by cases ha; cases hb; exact AutoFloatOps.lt_0 (.here R (.bool _) hq)⟩
theorem CmpR.isN {a : Addr}  : CmpR .Is (.obj (.ref a)) .none false := ⟨fun hq A hA s R va vb ha hb => by cases ha; cases hb; exact wpAny_is_other rfl (by simp) (.here R (.bool _) hq)⟩
theorem CmpR.isNN : CmpR .Is .none .none true := ⟨fun hq A hA s R va vb ha hb => by cases ha; cases hb; exact wpAny_is_self rfl (.here R (.bool _) hq)⟩
theorem CmpR.ok {op : CmpOp} {a b : AV} {r : Bool} {Q : AV → St → Prop} (h : CmpR op a b r) (hq : Q (.bool r) σ) : Op2 c n env (VR c.P) σ (compareOp op) a b Q := h.run hq
theorem tBin {l r : Expr} {op : Operator} {pos : Pos} {Q : AV → St → Prop}
    (h : TV c n env σ (eval l env) fun a σ₁ => TV c n env σ₁ (eval r env) fun b σ₂ => ∃ v, BinR op a b v ∧ Q v σ₂) : TV c n env σ (eval (.BinOp l op r pos) env) Q :=
  tBinOp (h.mono fun _ _ h => h.mono fun _ _ h => by obtain ⟨_, h1, h2⟩ := h; exact h1.ok h2)
theorem tCmp {l r : Expr} {op : CmpOp} {pos : Pos} {Q : AV → St → Prop}
    (h : TV c n env σ (eval l env) fun a σ₁ => TV c n env σ₁ (eval r env) fun b σ₂ => ∃ v, CmpR op a b v ∧ Q (.bool v) σ₂) (hm : behindInMarks op r = false) : TV c n env σ (eval (.Compare l [op] [r] pos) env) Q :=
  tCompare (h.mono fun _ _ h => h.mono fun _ _ h => by obtain ⟨_, h1, h2⟩ := h; exact h1.ok h2) hm
theorem bCmp {l r : Expr} {op : CmpOp} {pos : Pos} {whole : Sem Value} {Q : Bool → St → Prop}
    (h : TV c n env σ (eval l env) fun a σ₁ => TV c n env σ₁ (eval r env) fun b σ₂ => ∃ v, CmpR op a b v ∧ Q v σ₂) (hm : behindInMarks op r = false) :
    TB c n env σ (isTrue (.Compare l [op] [r] pos) env whole) Q :=
  bCompare (h.mono fun _ _ h => h.mono fun _ _ h => by obtain ⟨v, h1, h2⟩ := h; exact h1.ok (Q := fun r σ₃ => BoolTo r fun b => Q b σ₃) ⟨v, rfl, h2⟩) hm
noncomputable abbrev kNeg1 (Q : AV → St → Prop) (σ : St) (i : Int) : Prop := Q (.int (-i)) σ
noncomputable abbrev kNeg (Q : AV → St → Prop) (a : AV) (σ : St) : Prop := IntTo a (kNeg1 Q σ)
theorem tNeg {x : Expr} {pos : Pos} {Q : AV → St → Prop} (h : TV c n env σ (eval x env) (kNeg Q)) : TV c n env σ (eval (.UnaryOp .USub x pos) env) Q :=
  tUnary (h.mono fun a σ₁ h => by
    obtain ⟨i, rfl, hq⟩ := h
    intro A hA s R va hv
    cases hv
    exact PyProof.Rows.neg_int (postTok R (.int ..) hq))
theorem sAugI {x : Str} {pos' : Pos} {op : Operator} {value : Expr} {pos : Pos} {a : AV} {Q : AF → St → Prop} (hl : lk σ.loc x = some a) (hk : Kept env x)
    (h : TV c n env σ (eval value env) fun b σ₁ => ∃ r, InpR op a b r ∧ Q .next ⟨σ₁.H, put σ₁.loc x r⟩) : TF c n env σ (exec (.AugAssign (.Name x pos') op value pos) env) Q :=
  sAug hl hk (h.mono fun _ _ h => by obtain ⟨_, h1, h2⟩ := h; exact h1.ok (Q := fun r σ₂ => Q .next ⟨σ₂.H, put σ₂.loc x r⟩) h2)
end
end

section
open PySem PySem.W PyProof.Rows PySem.Calls
theorem AOk.in1 {A : Around} {n : Nat} (h : AOk A n) : AOk A.in1 n → True := fun _ => trivial
theorem AOk.deeper {A : Around} {n : Nat} (h : AOk A (n + 1)) (env : Env) : AOk (A.deeper env) n :=
  ⟨h.handled, by have := h.depth; show A.depth + 1 + n < _; lia, by have := h.units; show A.units + 3 + 50 * (n + 1) < _; lia⟩
theorem AOk.less {A : Around} {n m : Nat} (h : AOk A n) (hm : m ≤ n) : AOk A m :=
  ⟨h.handled, by have := h.depth; omega, by have := h.units; have : 50 * (m + 1) ≤ 50 * (n + 1) := by omega
                                            lia⟩
theorem AOk.room {A : Around} {n : Nat} (h : AOk A n) : A.depth < recursionLimit := by have := h.depth; lia
theorem AOk.cunits {A : Around} {n : Nat} (h : AOk A n) : A.units < cLine := by have := h.units; lia
structure FnAt (c : Cx) (f : Addr) (fd : FuncData) : Prop where
  at_ : ∃ o, c.B.get? f = some o ∧ o.data = .func fd
  code : c.B.CodeRec fd.code fd.qualname
  lim : c.B.NoLimit
inductive VB (p : Addr → Prop) (h : Heap) : List (Str × AV) → List (Str × Value) → Prop
  | nil : VB p h [] []
  | cons {x : Str} {a : AV} {v : Value} {l : List (Str × AV)} {vs : List (Str × Value)} : VR p h a v → VB p h l vs → VB p h ((x, a) :: l) ((x, v) :: vs)
theorem VB.keep {p : Addr → Prop} {h h' : Heap} (k : KI p h h') : ∀ {l : List (Str × AV)} {vs : List (Str × Value)}, VB p h l vs → VB p h' l vs
  | _, _, .nil => .nil
  | _, _, .cons hv hs => .cons (hv.keep k) (hs.keep k)
theorem VB.names {p : Addr → Prop} {h : Heap} : ∀ {l : List (Str × AV)} {vs : List (Str × Value)}, VB p h l vs → vs.map Prod.fst = l.map Prod.fst
  | _, _, .nil => rfl
  | _, _, .cons _ hs => by simp [hs.names]
theorem bindL_out {ko : Str → Option NameKind} {x : Str} : ∀ {vs : List (Str × Value)} {m : Str → Option Value}, x ∉ vs.map Prod.fst → bindL ko vs m x = m x
  | [], _, _ => rfl
  | (y, v) :: r, m, hx => by
    unfold bindL
    rw [bindL_out (fun e => hx (by simp [e]))]
    have : x ≠ y := fun e => hx (by simp [e])
    split <;> simp [this]
theorem bindC_out {ko : Str → Option NameKind} {x : Str} : ∀ {vs : List (Str × Value)} {m : Str → Option Value}, x ∉ vs.map Prod.fst → bindC ko vs m x = m x
  | [], _, _ => rfl
  | (y, v) :: r, m, hx => by
    unfold bindC
    rw [bindC_out (fun e => hx (by simp [e]))]
    have : x ≠ y := fun e => hx (by simp [e])
    split <;> simp [this]
theorem VB.local {p : Addr → Prop} {h : Heap} {ko : Str → Option NameKind} {x : Str} {a : AV} : ∀ {l : List (Str × AV)} {vs : List (Str × Value)} {m : Str → Option Value}, VB p h l vs → (l.map Prod.fst).Nodup → lk l x = some a → ko x = some .local →
    ∃ v, bindL ko vs m x = some v ∧ VR p h a v
  | _, _, _, .nil, _, e, _ => by cases e
  | _, _, m, .cons (x := y) (v := v) hv hs, hn, e, hk => by
    unfold bindL
    rw [List.map_cons, List.nodup_cons] at hn
    unfold lk at e
    by_cases hx : x = y
    · subst hx
      simp only [if_true, Option.some.injEq] at e
      subst e
      rw [bindL_out (by rw [hs.names]; exact hn.1), if_pos hk]
      exact ⟨v, by simp, hv⟩
    · rw [if_neg hx] at e
      exact VB.local hs hn.2 e hk
theorem VB.cell {p : Addr → Prop} {h : Heap} {ko : Str → Option NameKind} {x : Str} {a : AV} : ∀ {l : List (Str × AV)} {vs : List (Str × Value)} {m : Str → Option Value}, VB p h l vs → (l.map Prod.fst).Nodup → lk l x = some a → ko x ≠ some .local →
    ∃ v, bindC ko vs m x = some v ∧ VR p h a v
  | _, _, _, .nil, _, e, _ => by cases e
  | _, _, m, .cons (x := y) (v := v) hv hs, hn, e, hk => by
    unfold bindC
    rw [List.map_cons, List.nodup_cons] at hn
    unfold lk at e
    by_cases hx : x = y
    · subst hx
      simp only [if_true, Option.some.injEq] at e
      subst e
      rw [bindC_out (by rw [hs.names]; exact hn.1), if_neg hk]
      exact ⟨v, by simp, hv⟩
    · rw [if_neg hx] at e
      exact VB.cell hs hn.2 e hk
theorem cellsFrom_kind {x : Str} {k : Addr} : ∀ (names : List (Str × NameKind)) (n : Nat) (acc : List (Str × Addr)), (names.map Prod.fst).Nodup → (∀ y a, acc.lookup y = some a → y ∉ names.map Prod.fst) →
    (cellsFrom n names acc).lookup x = some k → names.lookup x = some .cell ∨ acc.lookup x = some k
  | [], _, _, _, _, e => .inr e
  | (y, kd) :: r, n, acc, hn, ha, e => by
    rw [List.map_cons, List.nodup_cons] at hn
    unfold cellsFrom at e
    rw [List.lookup_cons]
    by_cases hk : (kd == .cell) = true
    · rw [if_pos hk] at e
      have hk' : kd = .cell := by simpa using hk
      rcases cellsFrom_kind r (n + 1) ((y, n) :: acc) hn.2 (fun z a hz => by
        rw [List.lookup_cons] at hz
        by_cases hzy : (z == y) = true
        · rw [beq_iff_eq.mp hzy]; exact hn.1
        · simp only [hzy] at hz; exact fun q => ha z a hz (by simp [q])) e with h | h
      · by_cases hxy : (x == y) = true
        · exact .inl (by simp [hxy, hk'])
        · exact .inl (by simp only [hxy]; exact h)
      · rw [List.lookup_cons] at h
        by_cases hxy : (x == y) = true
        · exact .inl (by simp [hxy, hk'])
        · simp only [hxy] at h; exact .inr h
    · rw [if_neg hk] at e
      rcases cellsFrom_kind r n acc hn.2 (fun z a hz q => ha z a hz (by simp [q])) e with h | h
      · by_cases hxy : (x == y) = true
        · have : x = y := beq_iff_eq.mp hxy
          subst this
          have : x ∈ r.map Prod.fst := by
            have := mem_of_lookup h
            exact List.mem_map.mpr ⟨_, this, rfl⟩
          exact absurd this hn.1
        · exact .inl (by simp only [hxy]; exact h)
      · exact .inr h
/-! ## the call of a function -/
noncomputable def retOf : AF → AV
  | .ret a => a
  | _ => .none
/-- what may be remembered of a frame that is left -/
noncomputable def Left (env' : Env) (σ' : St) (H : Addr → Option AO) : Prop :=
  ∀ b o, H b = some o → σ'.H b = some o ∨ ∃ x v, env'.cells.lookup x = some b ∧ lk σ'.loc x = some (.obj v) ∧ o = .cell v
theorem Left.same {env' : Env} {σ' : St} : Left env' σ' σ'.H := fun _ _ e => .inl e
theorem Left.sub {env' : Env} {σ' : St} {H : Addr → Option AO} (h : ∀ b o, H b = some o → σ'.H b = some o) : Left env' σ' H := fun b o e => .inl (h b o e)
inductive LeftTo (env' : Env) (σ' : St) (K : (Addr → Option AO) → Prop) : Prop | mk (H' : Addr → Option AO) : Left env' σ' H' → K H' → LeftTo env' σ' K
noncomputable def CallS (c : Cx) (n : Nat) (H : Addr → Option AO) (f : Value) (args : List AV) (kn : List Str) (kv : List AV) (Q : AV → (Addr → Option AO) → Prop) : Prop :=
  ∀ (env : Env) (loc : List (Str × AV)) (A : Around), AOk A n → ∀ s, Rel c env ⟨H, loc⟩ s → ∀ vs, VRs c.P s.heap args vs → ∀ ks, VRs c.P s.heap kv ks →
    wpAny (model c.prog c.w) A (call f vs (kn.zip ks)) (Post c env ⟨H, loc⟩ s (VR c.P) fun a σ' => σ'.loc = loc ∧ Q a σ'.H) Fls s
/-- the same, of the code itself -/
noncomputable def CallC (c : Cx) (n : Nat) (H : Addr → Option AO) (f : Value) (args : List AV) (kn : List Str) (kv : List AV) (Q : AV → (Addr → Option AO) → Prop) : Prop :=
  ∀ (env : Env) (loc : List (Str × AV)) (A : Around), AOk A n → ∀ s, Rel c env ⟨H, loc⟩ s → ∀ vs, VRs c.P s.heap args vs → ∀ ks, VRs c.P s.heap kv ks →
    codeAny (model c.prog c.w) A (.call f ⟨vs, kn.zip ks⟩) (fun r s' => match r with | .ok (.ret v) => Post c env ⟨H, loc⟩ s (VR c.P) (fun a σ' => σ'.loc = loc ∧ Q a σ'.H) v s' | .ok _ => False | .error e => Fls e s') s
theorem CallC.S {c : Cx} {n : Nat} {H : Addr → Option AO} {f : Value} {args kv : List AV} {kn : List Str} {Q : AV → (Addr → Option AO) → Prop} (h : CallC c n H f args kn kv Q) : CallS c n H f args kn kv Q := fun env loc A hA s R vs hv ks hk => wpAny_call (h env loc A hA s R vs hv ks hk)
theorem CallC.mono {c : Cx} {n : Nat} {H : Addr → Option AO} {f : Value} {args kv : List AV} {kn : List Str} {Q Q' : AV → (Addr → Option AO) → Prop} (h : CallC c n H f args kn kv Q) (k : ∀ a H', Q a H' → Q' a H') : CallC c n H f args kn kv Q' := fun env loc A hA s R vs hv ks hk =>
  codeAny_mono (h env loc A hA s R vs hv ks hk) fun r s' x => by
    rcases r with e | (v | _ | _ | _) <;> first | exact x | (obtain ⟨b, σ', h1, h2, h3, h4⟩ := x; exact ⟨b, σ', h1, h2, h3, h4.1, k _ _ h4.2⟩)
theorem CallC.less {c : Cx} {n m : Nat} {H : Addr → Option AO} {f : Value} {args kv : List AV} {kn : List Str} {Q : AV → (Addr → Option AO) → Prop} (h : CallC c n H f args kn kv Q) (hm : n ≤ m) : CallC c m H f args kn kv Q := fun env loc A hA s R vs hv ks hk =>
  h env loc A (hA.less hm) s R vs hv ks hk
theorem CallS.mono {c : Cx} {n : Nat} {H : Addr → Option AO} {f : Value} {args kv : List AV} {kn : List Str} {Q Q' : AV → (Addr → Option AO) → Prop} (h : CallS c n H f args kn kv Q) (k : ∀ a H', Q a H' → Q' a H') : CallS c n H f args kn kv Q' := fun env loc A hA s R vs hv ks hk =>
  wpAny_mono (h env loc A hA s R vs hv ks hk) (fun _ _ ⟨b, σ', h1, h2, h3, h4⟩ => ⟨b, σ', h1, h2, h3, h4.1, k _ _ h4.2⟩) fun _ _ e => e
theorem CallS.less {c : Cx} {n m : Nat} {H : Addr → Option AO} {f : Value} {args kv : List AV} {kn : List Str} {Q : AV → (Addr → Option AO) → Prop} (h : CallS c n H f args kn kv Q) (hm : n ≤ m) : CallS c m H f args kn kv Q := fun env loc A hA s R vs hv ks hk =>
  h env loc A (hA.less hm) s R vs hv ks hk
noncomputable def Binds (c : Cx) (fd : FuncData) (args : List AV) (kn : List Str) (kv : List AV) (locs : List (Str × AV)) : Prop :=
  ∀ (s : Shared) vs ks, (∀ b o, c.B.get? b = some o → s.heap.get? b = some o) → VRs c.P s.heap args vs → VRs c.P s.heap kv ks → ∃ binds, BindsTo s fd ⟨vs, kn.zip ks⟩ binds ∧ VB c.P s.heap locs binds
theorem callC_def {c : Cx} {n : Nat} {H : Addr → Option AO} {f : Addr} {fd : FuncData} {args kv : List AV} {kn : List Str} {locs : List (Str × AV)} {body : List Stmt} {Q : AV → (Addr → Option AO) → Prop}
    (hf : FnAt c f fd) (hb : Binds c fd args kn kv locs) (hbody : fd.body = .stmts body) (hclo : fd.closure = []) (hk : fd.scope.kind = .function) (hco : fd.scope.isCoroutine = false) (hgen : fd.scope.isGenerator = false)
    (hnd : (locs.map Prod.fst).Nodup) (hsn : (fd.scope.names.map Prod.fst).Nodup) (hki : ∀ x ∈ locs.map Prod.fst, fd.scope.names.lookup x = some .local ∨ fd.scope.names.lookup x = some .cell)
    (h : ∀ L, TF c n (callEnvC fd L f) ⟨H, locs⟩ (execs body (callEnvC fd L f)) fun fl σ' => LeftTo (callEnvC fd L f) σ' (Q (retOf fl))) :
    CallC c (n + 1) H (.ref f) args kn kv Q := fun env loc A hA s R vs hv ks hks => by
  obtain ⟨o, ho, hd⟩ := hf.at_
  have hbase := R.base
  obtain ⟨binds, hbt, hvb⟩ := hb s vs ks hbase hv hks
  refine codeAny_call_function hA.room (hbase _ _ ho) hd hco hgen hbody (hf.code.keeps hbase) (hbt _ _ _ _ ?_)
  rw [hclo]
  have hnm := hvb.names
  refine wpAny_with_toks (Nat.le_refl _) (wpAny_newFunctionEnv_cells hk (fun x hx => ?_) fun env' he s₁ X hpos => ?_)
  · have : x.1 ∈ locs.map Prod.fst := by rw [← hnm]; exact List.mem_map.mpr ⟨x, hx, rfl⟩
    rcases hki _ this with h1 | h1
    · exact .inl h1
    · exact .inr ⟨h1, cellsFrom_some _ _ _ (.inl h1)⟩
  have he' : env' = callEnvC fd s.heap.objs.size f := he
  clear he
  subst he'
  have keep := X.toInCall.keep
  have kT : KI c.P s.heap s₁.heap := .all keep
  obtain ⟨h₁, tk, hs₁⟩ := X.toInCall.same
  have hfresh : ∀ b, FP (callEnvC fd s.heap.objs.size f) b → s.heap.objs.size ≤ b := fun b hb => by
    rcases hb with rfl | ⟨x, hx⟩
    · exact X.toInCall.fresh
    · exact Nat.le_of_lt (Nat.lt_of_le_of_lt X.toInCall.fresh (X.above _ _ (mem_of_lookup hx)))
  have hlt : (callEnvC fd s.heap.objs.size f).locals < s₁.heap.objs.size := by
    obtain ⟨o, _, _, e, _⟩ := X.toInCall.ns
    exact Heap.lt_size e
  have R₁ : Rel c (callEnvC fd s.heap.objs.size f) ⟨H, locs⟩ s₁ := by
    refine ⟨fun b o e => keep _ _ (R.base b o e), fun a o e => (R.own a o e).keep (fun _ q => keep _ _ q) kT, R.ownB, ⟨hk, ⟨_, X.toInCall.ns, fun x a e q => ?_⟩, fun x k e => ⟨_, X.cell x k e, fun a q => ?_⟩, X.apart, fun x k e => Nat.ne_of_gt (X.above _ _ (mem_of_lookup e))⟩, fun b q => (R.fresh (hfresh b q)).1, fun b q => (R.fresh (hfresh b q)).2.2, fun b q => let ⟨o, e⟩ := R.priv b q; ⟨o, keep _ _ e⟩, Nat.lt_of_lt_of_le R.pos hpos, fun a o T e => Nat.le_trans (R.gh a o T e) hpos⟩
    · obtain ⟨v, h1, h2⟩ := hvb.local (ko := (callEnvC fd s.heap.objs.size f).kindOf) (m := fun _ => none) hnd e q
      exact ⟨v, h1, h2.keep kT⟩
    · have hkx : (callEnvC fd s.heap.objs.size f).kindOf x = some .cell := by
        rcases cellsFrom_kind _ _ _ hsn (by simp) e with h | h
        · exact h
        · simp at h
      obtain ⟨v, h1, h2⟩ := hvb.cell (ko := (callEnvC fd s.heap.objs.size f).kindOf) (m := fun _ => none) hnd q (by rw [hkx]; decide)
      exact ⟨v, h1, h2.keep kT⟩
  refine ⟨(hf.lim.keeps hbase).keeps keep, codeAny_func (wpAny_mono (h _ (A.deeper _) (hA.deeper _) s₁ R₁) (fun fl s' P => ?_) fun _ _ e => e.elim)⟩
  obtain ⟨af, σ', hfl, R', S', H', hleft, hq⟩ := P
  have hdom : ∀ b o, s.heap.get? b = some o → H b = none → H' b = none := fun b o hb e => by
    cases q : H' b with
    | none => rfl
    | some o' =>
      rcases hleft b o' q with z | ⟨x, v, hx, _, _⟩
      · rw [S'.dom b o (keep _ _ hb) e] at z; cases z
      · exact absurd (hfresh b (.inr ⟨x, hx⟩)) (Nat.not_le.mpr (Heap.lt_size hb))
  have hkeep : ∀ b o, s.heap.get? b = some o → H b = none → s'.heap.get? b = some o := fun b o e q =>
    S'.keep b o (keep b o e) q fun hf => absurd (hfresh b hf) (Nat.not_le.mpr (Heap.lt_size e))
  have kT' : KI c.P s.heap s'.heap := fun a o hi _ t => hkeep _ _ t (R.imm hi t).1
  have R'' : Rel c env ⟨H', loc⟩ s' := by
    refine ⟨R'.base, fun a o e => ?_, fun a o e => ?_, R.fr.keep (fun b o hb e => hkeep b o e (R.fpH b hb)) kT', fun b hb => let ⟨o, e, _⟩ := R.fr.fp hb; hdom b o e (R.fpH b hb), R.fpB, R'.priv, R'.pos, fun a o T e => by
      rcases hleft a _ e with z | ⟨_, _, _, _, q⟩
      · exact R'.gh a o T z
      · cases q⟩
    · rcases hleft a o e with z | ⟨x, v, hx, hl, rfl⟩
      · exact R'.own a o z
      · obtain ⟨u, hu, q⟩ := R'.fr.cells x a hx
        obtain ⟨v', rfl, e2⟩ := q _ hl
        cases e2
        exact hu
    · rcases hleft a o e with z | ⟨x, v, hx, hl, rfl⟩
      · exact R'.ownB a o z
      · exact R'.fpB _ (.inr ⟨x, hx⟩)
  have S'' : Stp env ⟨H, loc⟩ s ⟨H', loc⟩ s' := ⟨fun b o e h1 _ => hkeep b o e h1, hdom, fun b o e => S'.live b o (keep b o e), by rw [S'.gens, hs₁], by rw [S'.drawn, hs₁], by rw [S'.os, hs₁], Nat.le_trans hpos S'.toks⟩
  cases hfl with
  | next => exact ⟨_, _, .none, R'', S'', rfl, hq⟩
  | brk => exact ⟨_, _, .none, R'', S'', rfl, hq⟩
  | cont => exact ⟨_, _, .none, R'', S'', rfl, hq⟩
  | ret x => exact ⟨_, _, x, R'', S'', rfl, hq⟩
end

section
open PySem PySem.W PyProof.Rows PySem.Calls
noncomputable def KeepB (c : Cx) (f : Value) : Prop :=
  ∀ h : Heap, (∀ b o, c.B.get? b = some o → h.get? b = some o) → ∃ k, (k = Keeper.frame ∨ k = Keeper.machine ∨ k = Keeper.boundFrame) ∧ Looks (model c.prog c.w) h (keeperOf f) k
theorem KeepB.builtin {c : Cx} {id : String} : KeepB c (.builtin id) := fun h _ => ⟨.machine, .inr (.inl rfl), Looks.now⟩
theorem KeepB.type {c : Cx} {id : String} : KeepB c (.type id) := fun h _ => ⟨.machine, .inr (.inl rfl), Looks.now⟩
theorem KeepB.of_K {c : Cx} {K : Frag} (X : K.In c.B) {f : Value} (e : keepIn K f = true) : KeepB c f := fun h k => keeps_K e h (X.keeps k)
section
variable {α β γ δ : Type} {c : Cx} {n : Nat} {env : Env} {σ : St}
noncomputable abbrev kBack (Q : AV → St → Prop) (loc : List (Str × AV)) (a : AV) (H' : Addr → Option AO) : Prop := Q a ⟨H', loc⟩
noncomputable abbrev kKw (c : Cx) (n : Nat) (env : Env) (pos : Pos) (rest : List Keyword) (Q : List AV → St → Prop) (a : AV) (σ : St) : Prop := TL c n env σ (evalAll ((backToKw pos (keywordEach rest env)).map (·.2))) (kConsQ Q a)
noncomputable abbrev kCall (c : Cx) (n : Nat) (env : Env) (pos : Pos) (kws : List Keyword) (f : Value) (Q : AV → St → Prop) (l k : List AV) (σ : St) : Prop := CallS c n σ.H f l ((backToKw pos (keywordEach kws env)).filterMap (·.1)) k (kBack Q σ.loc)
noncomputable abbrev kKws (c : Cx) (n : Nat) (env : Env) (pos : Pos) (kws : List Keyword) (f : Value) (Q : AV → St → Prop) (l : List AV) (σ : St) : Prop := TL c n env σ (evalAll ((backToKw pos (keywordEach kws env)).map (·.2))) (kCall c n env pos kws f Q l)
noncomputable abbrev kKws1 (c : Cx) (n : Nat) (env : Env) (pos : Pos) (kws : List Keyword) (f : Value) (a : AV) (Q : AV → St → Prop) (l : List AV) (σ : St) : Prop := kKws c n env pos kws f Q (a :: l) σ
noncomputable abbrev kArgs (c : Cx) (n : Nat) (env : Env) (pos : Pos) (es : List Expr) (kws : List Keyword) (Q : AV → St → Prop) (σ : St) (f : Value) : Prop := TL c n env σ (spliced (backTo pos (starEach es env))) (kKws c n env pos kws f Q)
noncomputable abbrev kCall0 (c : Cx) (n : Nat) (Q : AV → St → Prop) (l : List AV) (σ : St) (f : Value) : Prop := CallS c n σ.H f l [] [] (kBack Q σ.loc)
theorem kNil {pos : Pos} {Q : List AV → St → Prop} (h : Q [] σ) : TL c n env σ (evalAll ((backToKw pos (keywordEach [] env)).map (·.2))) Q := fun A hA s R => wpAny_pure (.here R .nil h)
theorem kCons {pos kp : Pos} {nm : Option Str} {e : Expr} {rest : List Keyword} {Q : List AV → St → Prop}
    (h : TV c n env σ (eval e env) (kKw c n env pos rest Q)) :
    TL c n env σ (evalAll ((backToKw pos (keywordEach (⟨nm, e, kp⟩ :: rest) env)).map (·.2))) Q := fun A hA s R => by
  show wpAny _ A (evalAll ((do let v ← eval e env; standAt pos; pure v) :: (backToKw pos (keywordEach rest env)).map (·.2))) _ _ s
  refine wpAny_evalAll_cons (wpAny_bind (last h hA R fun a va σ₁ s₁ hv R₁ S₁ h₁ => wpAny_bind (wpAny_standAt (wpAny_pure ?_))))
  exact last h₁ hA R₁ fun l vl σ₂ s₂ hw R₂ S₂ h₂ => ⟨a :: l, σ₂, .cons (S₂.vr R₁ hv) hw, R₂, S₁.trans S₂, h₂⟩
/-- the tail of a call, the callee and what stands ahead known -/
theorem callTail {e : Expr} {rest : List Expr} {kws : List Keyword} {pos : Pos} {f : Value} {first : List Value} {fa : List AV} {Q : AV → St → Prop} (hk : KeepB c f)
    (h : TL c n env σ (spliced (backTo pos (starEach (e :: rest) env))) fun l σ₁ => TL c n env σ₁ (evalAll ((backToKw pos (keywordEach kws env)).map (·.2))) fun k σ₂ =>
      CallS c n σ₂.H f (fa ++ l) ((backToKw pos (keywordEach kws env)).filterMap (·.1)) k fun a H' => Q a ⟨H', σ₂.loc⟩)
    (he : backTo pos (starEach (e :: rest) env) = (false, eval e env) :: backTo pos (starEach rest env))
    (hplain : ((backTo pos (starEach (e :: rest) env)).any (·.1) || (backToKw pos (keywordEach kws env)).any (·.1.isNone)) = false)
    (hall : (backToKw pos (keywordEach kws env)).all (·.1.isSome) = true)
    {A : Around} (hA : AOk A n) {s : Shared} (R : Rel c env σ s) (hfa : VRs c.P s.heap fa first) :
    wpAny (model c.prog c.w) A (callWith pos f first (backTo pos (starEach (e :: rest) env)) (backToKw pos (keywordEach kws env))) (Post c env σ s (VR c.P) Q) Fls s := by
  refine callWith_of (P := fun h => ∀ b o, c.B.get? b = some o → h.get? b = some o) hplain (fun h x => hk h x) ?_
  rw [he] at h ⊢
  refine evalArgs_kw hall (last h hA R fun l vl σ₁ s₁ hl R₁ S₁ h₁ => last h₁ hA R₁ fun k vk σ₂ s₂ hkv R₂ S₂ h₂ => ⟨R₂.base, ?_⟩)
  refine wpAny_mono (h₂ env σ₂.loc A hA s₂ R₂ (first ++ vl) (VRs.append (S₂.vrs R₁ (S₁.vrs R hfa)) (S₂.vrs R₁ hl)) vk hkv) (fun v s₃ x => ?_) fun _ _ e => e
  obtain ⟨a, σ₃, ha, R₃, S₃, hloc, hq⟩ := x
  refine ⟨a, σ₃, ha, R₃, S₁.trans (S₂.trans S₃), ?_⟩
  have : σ₃ = ⟨σ₃.H, σ₂.loc⟩ := by cases σ₃; simp at hloc; subst hloc; rfl
  rw [this]; exact hq
theorem callTail0 {pos : Pos} {f : Value} {first : List Value} {fa : List AV} {Q : AV → St → Prop} (hk : KeepB c f)
    (h : CallS c n σ.H f fa [] [] fun a H' => Q a ⟨H', σ.loc⟩)
    {A : Around} (hA : AOk A n) {s : Shared} (R : Rel c env σ s) (hfa : VRs c.P s.heap fa first) :
    wpAny (model c.prog c.w) A (callWith pos f first (backTo pos (starEach [] env)) (backToKw pos (keywordEach [] env))) (Post c env σ s (VR c.P) Q) Fls s := by
  refine callWith_of (P := fun h => ∀ b o, c.B.get? b = some o → h.get? b = some o) rfl (fun h x => hk h x) ?_
  refine evalArgs_nil3 ⟨R.base, ?_⟩
  have := h env σ.loc A hA s R first hfa [] .nil
  simp only [List.append_nil]
  refine wpAny_mono this (fun v s₃ x => ?_) fun _ _ e => e
  obtain ⟨a, σ₃, ha, R₃, S₃, hloc, hq⟩ := x
  refine ⟨a, σ₃, ha, R₃, S₃, ?_⟩
  have : σ₃ = ⟨σ₃.H, σ.loc⟩ := by cases σ₃; simp at hloc; subst hloc; rfl
  rw [this]; exact hq
/-- f(x, ..) -/
inductive FunTo (c : Cx) (fv : AV) (K : Value → Prop) : Prop | mk (f : Value) : fv = .obj f → KeepB c f → K f → FunTo c fv K
noncomputable abbrev kFun (c : Cx) (n : Nat) (env : Env) (pos : Pos) (es : List Expr) (kws : List Keyword) (Q : AV → St → Prop) (fv : AV) (σ : St) : Prop := FunTo c fv (kArgs c n env pos es kws Q σ)
noncomputable abbrev kFun0 (c : Cx) (n : Nat) (Q : AV → St → Prop) (fv : AV) (σ : St) : Prop := FunTo c fv (kCall0 c n Q [] σ)
theorem tCall {id : Str} {p : Pos} {e : Expr} {rest : List Expr} {kws : List Keyword} {pos : Pos} {Q : AV → St → Prop}
    (h : TV c n env σ (eval (.Name id p) env) (kFun c n env pos (e :: rest) kws Q))
    (he : backTo pos (starEach (e :: rest) env) = (false, eval e env) :: backTo pos (starEach rest env))
    (hplain : ((backTo pos (starEach (e :: rest) env)).any (·.1) || (backToKw pos (keywordEach kws env)).any (·.1.isNone)) = false)
    (hall : (backToKw pos (keywordEach kws env)).all (·.1.isSome) = true) :
    TV c n env σ (eval (.Call (.Name id p) (e :: rest) kws pos) env) Q := fun A hA s R =>
  wpAny_Call_Name_kw (last h hA R fun fv vf σ₀ s₀ hf R₀ S₀ h₀ => by
    obtain ⟨f, rfl, hk, h₁⟩ := h₀
    cases hf
    exact wpAny_mono (callTail (fa := []) (first := []) hk h₁ he hplain hall hA R₀ .nil) (fun _ _ x => x.from S₀) fun _ _ e => e)
theorem tCall0 {id : Str} {p : Pos} {pos : Pos} {Q : AV → St → Prop}
    (h : TV c n env σ (eval (.Name id p) env) (kFun0 c n Q)) :
    TV c n env σ (eval (.Call (.Name id p) [] [] pos) env) Q := fun A hA s R =>
  wpAny_Call_Name_kw (last h hA R fun fv vf σ₀ s₀ hf R₀ S₀ h₀ => by
    obtain ⟨f, rfl, hk, h₁⟩ := h₀
    cases hf
    exact wpAny_mono (callTail0 (fa := []) (first := []) hk h₁ hA R₀ .nil) (fun _ _ x => x.from S₀) fun _ _ e => e)
end
end

section
open PySem PySem.W PyProof.Rows PySem.Calls
/-! ## scopes -/
noncomputable def isVar : Option NameKind → Bool
  | some .local | some .cell | some .free => true
  | _ => false
structure Sc (env : Env) (tab : List (Str × NameKind)) (cd : Value) : Prop where
  names : env.scope.names = tab
  kind : env.scope.kind = .function
  gl : env.globals = mainGlobals
  bi : env.builtins = builtinsNs
  code : env.code = cd
  cell : ∀ x, tab.lookup x = some .cell ∨ tab.lookup x = some .free → ∃ k, env.cells.lookup x = some k
  loc : ∀ x, tab.lookup x = some .local → env.cells.lookup x = none
noncomputable def okVar (tab : List (Str × NameKind)) (x : Str) : Bool := isVar (tab.lookup x) && !(x == ("__debug__" : Str)) && !(x == ("__classdict__" : Str))
noncomputable def okSet (tab : List (Str × NameKind)) (x : Str) : Bool := tab.lookup x == some .local || tab.lookup x == some .cell
noncomputable def okGlob (tab : List (Str × NameKind)) (x : Str) : Bool := tab.lookup x == some .globalImplicit && !(x == ("__debug__" : Str))
structure Good (c : Cx) (K : Frag) : Prop where
  inK : K.In c.B
  top : ∃ p loose mg mb, TopRead p loose mg mb c.B
section
variable {α β γ δ : Type} {c : Cx} {n : Nat} {env : Env} {σ : St} {tab : List (Str × NameKind)} {cd : Value} {K : Frag}
theorem Sc.ko (S : Sc env tab cd) (x : Str) : env.kindOf x = tab.lookup x := by unfold Env.kindOf; rw [S.names]
theorem Sc.kept (S : Sc env tab cd) {x : Str} (h : okSet tab x = true) : Kept env x := by
  unfold okSet at h
  simp only [Bool.or_eq_true, beq_iff_eq] at h
  rcases h with h | h
  · exact .loc (by rw [S.ko, h]) (S.loc x h)
  · obtain ⟨k, hk⟩ := S.cell x (.inl h)
    exact .cell (by rw [S.ko, h]) hk
theorem nVar {x : Str} {pos : Pos} {a : AV} {Q : AV → St → Prop} (S : Sc env tab cd) (hl : lk σ.loc x = some a) (hk : okVar tab x = true) (h : Q a σ) : TV c n env σ (eval (.Name x pos) env) Q := by
  unfold okVar at hk
  simp only [Bool.and_eq_true, Bool.not_eq_true'] at hk
  obtain ⟨⟨h1, h2⟩, h3⟩ := hk
  cases hx : tab.lookup x with
  | none => rw [hx] at h1; cases h1
  | some kd =>
    rw [hx] at h1
    cases kd with
    | «local» => exact tLocal hl (by rw [S.ko, hx]) h h2
    | cell => obtain ⟨k, hk⟩ := S.cell x (.inl hx); exact tCell hl (by rw [S.ko, hx]) hk h h2
    | free =>
      obtain ⟨k, hk⟩ := S.cell x (.inr hx)
      intro A hA s R
      obtain ⟨u, hu, q⟩ := R.fr.cells x k hk
      obtain ⟨v, rfl, e2⟩ := q a hl
      exact wpAny_Name (wpAny_loadName_free R.fr.kind (by rw [S.ko, hx]) hk hu (.here R e2 h) h3) h2
    | _ => cases h1
theorem nGlob {x : Str} {pos : Pos} {v : Value} {Q : AV → St → Prop} (G : Good c K) (S : Sc env tab cd) (hk : okGlob tab x = true) (e : nsIn K mainGlobals x = some (some v)) (h : Q (.obj v) σ) : TV c n env σ (eval (.Name x pos) env) Q := by
  unfold okGlob at hk
  simp only [Bool.and_eq_true, beq_iff_eq, Bool.not_eq_true'] at hk
  obtain ⟨_, _, mg, mb, T⟩ := G.top
  exact tGlobal ⟨mg, T.g, mg_of G.inK T.g e⟩ S.gl (by rw [S.ko, hk.1]) h hk.2
theorem nBuilt {x : Str} {pos : Pos} {v : Value} {Q : AV → St → Prop} (G : Good c K) (S : Sc env tab cd) (hk : okGlob tab x = true) (e : nsIn K mainGlobals x = some none) (hv : bootBuiltins x = some v) (hn : x ≠ "__name__") (h : Q (.obj v) σ) : TV c n env σ (eval (.Name x pos) env) Q := by
  unfold okGlob at hk
  simp only [Bool.and_eq_true, beq_iff_eq, Bool.not_eq_true'] at hk
  obtain ⟨_, _, mg, mb, T⟩ := G.top
  exact tBuiltin ⟨mg, T.g, mg_none_of G.inK T.g e⟩ ⟨mb, T.b, (T.builtins x hn).trans hv⟩ S.gl S.bi (by rw [S.ko, hk.1]) h hk.2
theorem sSet {x : Str} {pos' : Pos} {value : Expr} {pos : Pos} {Q : AF → St → Prop} (S : Sc env tab cd) (hk : okSet tab x = true) (h : TV c n env σ (eval value env) fun a σ₁ => Q .next ⟨σ₁.H, put σ₁.loc x a⟩)
    (hs : swapsWith value (some (.Name x pos')) pos.line env = pure false) : TF c n env σ (exec (.Assign [.Name x pos'] value pos) env) Q := sAssign h (S.kept hk) hs
theorem sAugS {x : Str} {pos' : Pos} {op : Operator} {value : Expr} {pos : Pos} {a : AV} {Q : AF → St → Prop} (S : Sc env tab cd) (hk : okSet tab x = true) (hl : lk σ.loc x = some a)
    (h : TV c n env σ (eval value env) fun b σ₁ => ∃ r, InpR op a b r ∧ Q .next ⟨σ₁.H, put σ₁.loc x r⟩) : TF c n env σ (exec (.AugAssign (.Name x pos') op value pos) env) Q := sAugI hl (S.kept hk) h
/-! ## the frame rule -/
noncomputable def remH (H : Addr → Option AO) (a : Addr) : Addr → Option AO := fun b => if b = a then none else H b
@[simp] theorem remH_self (H : Addr → Option AO) (a : Addr) : remH H a a = none := by simp [remH]
theorem remH_ne (H : Addr → Option AO) {a b : Addr} (h : b ≠ a) : remH H a b = H b := by simp [remH, h]
theorem remH_sub {H : Addr → Option AO} {a b : Addr} {o : AO} (h : remH H a b = some o) : H b = some o := by
  unfold remH at h
  split at h
  · cases h
  · exact h
theorem remH_none {H : Addr → Option AO} {a b : Addr} (h : H b = none) : remH H a b = none := by unfold remH; split <;> simp [h]
theorem Rel.freeze {s : Shared} (R : Rel c env σ s) (a : Addr) : Rel c env ⟨remH σ.H a, σ.loc⟩ s := R.forget (fun _ _ e => remH_sub e) fun _ _ e => e
theorem Rel.thaw {s s' : Shared} {σ' : St} {a : Addr} {o : AO} (R : Rel c env σ s) (ha : σ.H a = some o) (R' : Rel c env σ' s') (S' : Stp env ⟨remH σ.H a, σ.loc⟩ s σ' s') :
    Rel c env ⟨setH σ'.H a o, σ'.loc⟩ s' ∧ Stp env σ s ⟨setH σ'.H a o, σ'.loc⟩ s' := by
  have hf : ¬ FP env a := fun q => by rw [R.fpH a q] at ha; cases ha
  have oa := R.own a o ha
  obtain ⟨ob, hob⟩ := oa.there
  have hn : σ'.H a = none := S'.dom a ob hob (remH_self ..)
  have e' : ∀ ob, s.heap.get? a = some ob → s'.heap.get? a = some ob := fun ob e => S'.keep a ob e (remH_self ..) hf
  refine ⟨R'.alloc hn hf (R.ownB a o ha) (oa.keep e' (S'.ki (R.freeze a))) (fun b T q => by subst q; exact Nat.le_trans (R.gh _ _ _ ha) S'.toks), fun b ob e h1 h2 => S'.keep b ob e (remH_none h1) h2, fun b ob e h1 => ?_, S'.live, S'.gens, S'.drawn, S'.os, S'.toks⟩
  have : b ≠ a := fun z => by subst z; rw [h1] at ha; cases ha
  show setH σ'.H a o b = none
  rw [setH_ne _ _ this]; exact S'.dom b ob e (remH_none h1)
theorem Tr.frame {ρ : Heap → β → α → Prop} {t : Sem α} {Q : β → St → Prop} {a : Addr} {o : AO} (ha : σ.H a = some o) (h : Tr c n env ρ ⟨remH σ.H a, σ.loc⟩ t fun b σ' => Q b ⟨setH σ'.H a o, σ'.loc⟩) : Tr c n env ρ σ t Q := fun A hA s R =>
  wpAny_mono (h A hA s (R.freeze a)) (fun _ s' ⟨b, σ', h1, R', S', h4⟩ => let ⟨R'', S''⟩ := R.thaw ha R' S'; ⟨b, _, h1, R'', S'', h4⟩) fun _ _ e => e
/-! ## while -/
noncomputable abbrev kWhQ (I : Nat → St → Prop) (m : Nat) (Q : AF → St → Prop) (f : AF) (σ : St) : Prop := match f with | .next | .cont => LessTo m (kAt I σ) | .brk => Q .next σ | .ret a => Q (.ret a) σ
noncomputable abbrev kWh (c : Cx) (n : Nat) (env : Env) (body : List Stmt) (I : Nat → St → Prop) (m : Nat) (Q : AF → St → Prop) (b : Bool) (σ : St) : Prop := (b = true → TF c n env σ (execs body env) (kWhQ I m Q)) ∧ (b = false → Q .next σ)
theorem sWhile {test : Expr} {body : List Stmt} {pos : Pos} {Q : AF → St → Prop} (I : Nat → St → Prop) (m : Nat) (hI : I m σ)
    (step : ∀ m σ, I m σ → TB c n env σ (isTrue test env (eval test env)) (kWh c n env body I m Q)) :
    TF c n env σ (exec (.While test body [] pos) env) Q := fun A hA s R => by
  refine wpAny_While (codeAny_whileLoop (fun k s' => ∃ σ', Rel c env σ' s' ∧ Stp env σ s σ' s' ∧ I k σ') (fun k s₁ x => ?_) m ⟨σ, R, .refl .., hI⟩)
  obtain ⟨σ₁, R₁, S₁, h₁⟩ := x
  refine wpAny_mono (step k σ₁ h₁ A hA s₁ R₁) (fun b s₂ x => ?_) fun _ _ e => e.elim
  obtain ⟨b, σ₂, rfl, R₂, S₂, h₂⟩ := x
  cases b with
  | true =>
    simp only [if_true]
    refine wpAny_mono (h₂.1 rfl A hA s₂ R₂) (fun f s₃ x => ?_) fun _ _ e => e.elim
    obtain ⟨af, σ₃, hf, R₃, S₃, h₃⟩ := x
    have S := S₁.trans (S₂.trans S₃)
    cases hf with
    | next => obtain ⟨m', hm, h⟩ := h₃; exact ⟨m', hm, σ₃, R₃, S, h⟩
    | cont => obtain ⟨m', hm, h⟩ := h₃; exact ⟨m', hm, σ₃, R₃, S, h⟩
    | brk => exact ⟨_, σ₃, .next, R₃, S, h₃⟩
    | ret x => exact ⟨_, σ₃, .ret x, R₃, S, h₃⟩
  | false =>
    simp only [Bool.false_eq_true, if_false]
    exact wpAny_execs_nil ⟨_, σ₂, .next, R₂, S₁.trans S₂, h₂.2 rfl⟩
/-! ## for -/
structure Src (c : Cx) (target : Expr) (I : Addr) (l : List AV) (D : Heap → Prop) (fp wr : List Addr) (P Md : Nat → Value → Heap → Prop) (It : Nat → Heap → Prop) : Prop where
  turns : ∀ A : Around, A.handled = none → W.KTurns c.prog c.w A target I fp wr l.length P Md It
  mono : ∀ h h', KI c.P h h' → D h → D h'
  item : ∀ i v h, i < l.length → D h → P i v h → ∃ a, l[i]? = some a ∧ VR c.P h a v
  ki : ∀ i h h', (It i h ∨ ∃ v, Md i v h) → (∀ b o, b ∉ wr → h.get? b = some o → h'.get? b = some o) → KI c.P h h'
  live : ∀ i h, (It i h ∨ ∃ v, Md i v h) → ∀ b ∈ wr, ∃ o, h.get? b = some o
/-- the state of a loop's source -/
structure SrcAt (c : Cx) (env : Env) (l : List AV) (D : Heap → Prop) (fp wr : List Addr) (σ : St) (s : Shared) : Prop where
  data : D s.heap
  free : ∀ b ∈ fp, σ.H b = none ∧ ¬ FP env b ∧ ∃ o, s.heap.get? b = some o
  base : ∀ b ∈ wr, c.B.get? b = none
/-- the iterator alone has moved -/
theorem Rel.moved {s : Shared} {h' : Heap} {t : Nat} {wr : List Addr} (R : Rel c env σ s) (hwr : ∀ b ∈ wr, σ.H b = none ∧ ¬ FP env b ∧ c.B.get? b = none) (k : ∀ b o, b ∉ wr → s.heap.get? b = some o → h'.get? b = some o)
    (ki : KI c.P s.heap h') (hp : ∀ b, c.P b → ∃ o, h'.get? b = some o) (ht : s.toks ≤ t) : Rel c env σ { s with heap := h', toks := t } := by
  refine ⟨fun b o e => k b o (fun q => by rw [(hwr b q).2.2] at e; cases e) (R.base b o e), fun a o e => (R.own a o e).keep (fun ob q => k _ _ (fun z => by rw [(hwr a z).1] at e; cases e) q) ki, R.ownB, R.fr.keep (fun b ob hb q => k _ _ (fun z => (hwr b z).2.1 hb) q) ki, R.fpH, R.fpB, hp, Nat.lt_of_lt_of_le R.pos ht, fun a o T e => Nat.le_trans (R.gh a o T e) ht⟩
inductive Asg (c : Cx) (n : Nat) (env : Env) (σ : St) (target : Expr) (a : AV) (Q : St → Prop) : Prop
  | mk (h : Op1 c n env EqR σ (assign target env) a fun _ σ' => Q σ')
theorem tupThere {h : Heap} {a : Addr} {items : Array Value} (t : h.IsTuple a items) : h.get? a ≠ none := by
  obtain ⟨o, e, _⟩ := t; rw [e]; simp
mutual
theorem VR.strong {p q : Addr → Prop} {h : Heap} (w : ∀ b, q b → p b ∨ h.get? b = Option.none) : ∀ {a : AV} {v : Value}, VR p h a v → VR q h a v
  | .none, _, x | .bool _, _, x | .int _, _, x | .float _, _, x | .str _, _, x | .obj _, _, x => x
  | .tup _, _, x => by cases x with | tup hp ht hs => exact .tup (fun z => (w _ z).elim hp (tupThere ht)) ht (VRs.strong w hs)
  | .range .., _, x => by cases x with | range hp x => exact .range (fun z => (w _ z).elim hp (by unfold IsRange at x; rw [x]; simp)) x
theorem VRs.strong {p q : Addr → Prop} {h : Heap} (w : ∀ b, q b → p b ∨ h.get? b = Option.none) : ∀ {l : List AV} {vs : List Value}, VRs p h l vs → VRs q h l vs
  | [], _, x => x
  | _ :: _, _, x => by cases x with | cons hv hs => exact .cons (VR.strong w hv) (VRs.strong w hs)
end
theorem VR.weak {p q : Addr → Prop} {h : Heap} (w : ∀ b, q b → p b) {a : AV} {v : Value} (x : VR p h a v) : VR q h a v := x.strong fun b z => .inl (w b z)
theorem VRs.weak {p q : Addr → Prop} {h : Heap} (w : ∀ b, q b → p b) {l : List AV} {vs : List Value} (x : VRs p h l vs) : VRs q h l vs := x.strong fun b z => .inl (w b z)
theorem FR.weak {p q : Addr → Prop} {h : Heap} (w : ∀ b, q b → p b) {a : AF} {v : Flow} (x : FR p h a v) : FR q h a v := by
  cases x with
  | next => exact .next
  | brk => exact .brk
  | cont => exact .cont
  | ret x => exact .ret (x.weak w)
theorem OA.weak {p q : Addr → Prop} {h : Heap} (w : ∀ b, q b → p b) {a : Addr} {o : AO} (x : OA p h a o) : OA q h a o := by
  cases o with
  | list l => obtain ⟨items, n, e1, e2⟩ := x; exact ⟨items, n, e1, e2.weak w⟩
  | inst C dx => exact x
  | attrs fs =>
    obtain ⟨m, hn, hf⟩ := x
    refine ⟨m, hn, fun y => ?_⟩
    have := hf y
    split
    · rename_i av hl
      rw [hl] at this
      obtain ⟨v, h1, h2⟩ := this
      exact ⟨v, h1, h2.weak w⟩
    · rename_i hl
      rw [hl] at this
      exact this
  | cell v => exact x
  | raw o => exact x
  | ghost o T => exact x
theorem FrameOk.weak {p q : Addr → Prop} {h : Heap} {loc : List (Str × AV)} (w : ∀ b, q b → p b) (F : FrameOk p h env loc) : FrameOk q h env loc := by
  refine ⟨F.kind, ?_, fun n c hm => ?_, F.apart, F.sep⟩
  · obtain ⟨m, hn, hl⟩ := F.ns
    exact ⟨m, hn, fun x a h1 h2 => let ⟨v, e1, e2⟩ := hl x a h1 h2; ⟨v, e1, e2.weak w⟩⟩
  · obtain ⟨u, hu, hl⟩ := F.cells n c hm
    exact ⟨u, hu, fun a h1 => let ⟨v, e1, e2⟩ := hl a h1; ⟨v, e1, e2.weak w⟩⟩
noncomputable abbrev Cx.with (c : Cx) (p : Addr → Prop) : Cx := { c with P := p }
theorem Rel.weak {p : Addr → Prop} {s : Shared} (w : ∀ b, c.P b → p b) (R : Rel (c.with p) env σ s) : Rel c env σ s :=
  ⟨R.base, fun a o e => (R.own a o e).weak w, R.ownB, R.fr.weak w, R.fpH, R.fpB, fun b q => R.priv b (w b q), R.pos, R.gh⟩
/-- the iterator has moved for the last time -/
theorem Rel.exit {p : Addr → Prop} {s : Shared} {h' : Heap} {t : Nat} {wr : List Addr} (w : ∀ b, c.P b → p b) (R : Rel (c.with p) env σ s) (hwr : ∀ b ∈ wr, σ.H b = none ∧ ¬ FP env b ∧ c.B.get? b = none)
    (k : ∀ b o, b ∉ wr → s.heap.get? b = some o → h'.get? b = some o) (ki : KI p s.heap h') (hp : ∀ b, c.P b → ∃ o, h'.get? b = some o) (ht : s.toks ≤ t) : Rel c env σ { s with heap := h', toks := t } :=
  ⟨fun b o e => k b o (fun q => by rw [(hwr b q).2.2] at e; cases e) (R.base b o e), fun a o e => ((R.own a o e).keep (fun ob q => k _ _ (fun z => by rw [(hwr a z).1] at e; cases e) q) ki).weak w, R.ownB,
    (R.fr.keep (fun b ob hb q => k _ _ (fun z => (hwr b z).2.1 hb) q) ki).weak w, R.fpH, R.fpB, hp, Nat.lt_of_lt_of_le R.pos ht, fun a o T e => Nat.le_trans (R.gh a o T e) ht⟩
/-- the state of a loop between two turns -/
structure LoopAt (c : Cx) (p : Addr → Prop) (env : Env) (σ₀ : St) (s₀ : Shared) (D : Heap → Prop) (fp wr : List Addr) (σ : St) (s : Shared) : Prop where
  rel : Rel (c.with p) env σ s
  stp : Stp env σ₀ s₀ σ s
  data : D s.heap
  free : ∀ b ∈ fp, σ.H b = none ∧ ¬ FP env b ∧ ∃ o, s.heap.get? b = some o
theorem LoopAt.step {p : Addr → Prop} {σ₀ σ' : St} {s₀ s s' : Shared} {D : Heap → Prop} {fp wr : List Addr} (L : LoopAt c p env σ₀ s₀ D fp wr σ s) (mono : ∀ h h', KI p h h' → D h → D h') (R' : Rel (c.with p) env σ' s') (S' : Stp env σ s σ' s') : LoopAt c p env σ₀ s₀ D fp wr σ' s' :=
  ⟨R', L.stp.trans S', mono _ _ (S'.ki L.rel) L.data, fun b hb => let ⟨h1, h2, o, h3⟩ := L.free b hb; ⟨S'.dom b o h3 h1, h2, S'.live b o h3⟩⟩
/-- the loop over a source: from a state s₀ in which the iterator was not there yet -/
theorem codeFor {p : Addr → Prop} (hp : ∀ b, c.P b → p b) {target : Expr} {body : List Stmt} {I : Addr} {l : List AV} {D : Heap → Prop} {fp wr : List Addr} {P Md : Nat → Value → Heap → Prop} {It : Nat → Heap → Prop} {Q : AF → St → Prop}
    (W : Src (c.with p) target I l D fp wr P Md It) (hsub : ∀ b ∈ wr, b ∈ fp) (Inv : Nat → St → Prop) {A : Around} (hA : AOk A n) {s₀ s : Shared} {σ₀ : St} (hL : LoopAt c p env σ₀ s₀ D fp wr σ s) (hit : It 0 s.heap)
    (hb : ∀ b ∈ wr, c.B.get? b = none) (hout : ∀ b ∈ wr, s₀.heap.get? b = none) (hp0 : ∀ b, c.P b → ∃ o, s₀.heap.get? b = some o) (h0 : Inv 0 σ)
    (turn : ∀ i a σ, l[i]? = some a → Inv i σ → Asg (c.with p) n env σ target a fun σ₁ => TF (c.with p) n env σ₁ (execs body env) fun f σ₂ => match f with | .next | .cont => Inv (i + 1) σ₂ | .brk => Q .next σ₂ | .ret a => Q (.ret a) σ₂)
    (done : ∀ σ, Inv l.length σ → Q .next σ) :
    codeAny (model c.prog c.w) A (.forLoop target (.ref I) body [] env) (fun r s' => match r with | .ok f => Post c env σ₀ s₀ (FR c.P) Q f s' | .error _ => False) s := by
  refine codeAny_forLoop_any (fun m s' => ∃ i σ', m = l.length + 1 - i ∧ i ≤ l.length ∧ LoopAt c p env σ₀ s₀ D fp wr σ' s' ∧ It i s'.heap ∧ Inv i σ') (fun m s₁ x => ?_) (l.length + 1 - 0) ⟨0, σ, rfl, Nat.zero_le _, hL, hit, h0⟩
  obtain ⟨i, σ₁, rfl, hi, L₁, hit₁, hI⟩ := x
  have W' := W.turns A hA.handled
  have hwr : ∀ b ∈ wr, σ₁.H b = none ∧ ¬ FP env b ∧ c.B.get? b = none := fun b q => ⟨(L₁.free b (hsub b q)).1, (L₁.free b (hsub b q)).2.1, hb b q⟩
  have live : ∀ {h h' : Heap}, (∀ b o, b ∉ wr → h.get? b = some o → h'.get? b = some o) → (∀ b ∈ wr, ∃ o, h'.get? b = some o) → ∀ b o, h.get? b = some o → ∃ o', h'.get? b = some o' := fun k z b o e => by
    by_cases hbw : b ∈ wr
    · exact z b hbw
    · exact ⟨o, k b o hbw e⟩
  -- a step of the iterator
  have stepI : ∀ {s₁ : Shared} {h' : Heap} {tk : Nat}, LoopAt c p env σ₀ s₀ D fp wr σ₁ s₁ → (∀ b o, b ∉ wr → s₁.heap.get? b = some o → h'.get? b = some o) → KI p s₁.heap h' → (∀ b ∈ wr, ∃ o, h'.get? b = some o) → s₁.toks ≤ tk →
      LoopAt c p env σ₀ s₀ D fp wr σ₁ { s₁ with heap := h', toks := tk } := fun {s₁ h' tk} L k ki lw htk => by
    have lv := live k lw
    refine ⟨L.rel.moved hwr k ki (fun b q => let ⟨o, e⟩ := L.rel.priv b q; lv b o e) htk, ⟨fun b o e h1 h2 => ?_, L.stp.dom, fun b o e => let ⟨o', e'⟩ := L.stp.live b o e; lv b o' e', L.stp.gens, L.stp.drawn, L.stp.os, Nat.le_trans L.stp.toks htk⟩, W.mono _ _ ki L.data, fun b q => let ⟨h1, h2, o, h3⟩ := L.free b q; ⟨h1, h2, lv b o h3⟩⟩
    exact k b o (fun q => by rw [hout b q] at e; cases e) (L.stp.keep b o e h1 h2)
  by_cases hlt : i < l.length
  · refine wpAny_with_toks (Nat.le_refl _) (W'.item i _ _ _ hlt hit₁ fun v h₁ tk₁ hMd hk₁ htk => ?_)
    have L₂ := stepI (tk := tk₁) L₁ hk₁ (W.ki i _ _ (.inl hit₁) hk₁) (W.live i _ (.inr ⟨v, hMd⟩)) htk
    refine W'.go i v _ _ _ hMd fun h₂ hP hst₂ hk₂ => ?_
    have L₃ := stepI (tk := tk₁) L₂ hk₂ (W.ki i _ _ (.inr ⟨v, hMd⟩) hk₂) (W.live (i + 1) _ (.inl hst₂)) (Nat.le_refl _)
    obtain ⟨a, ha, hv⟩ := W.item i v _ hlt L₃.data hP
    obtain ⟨T⟩ := turn i a σ₁ ha hI
    refine wpAny_mono (T A hA _ L₃.rel v hv) (fun _ s₃ x => ?_) fun _ _ e => e.elim
    obtain ⟨_, σ₃, _, R₃, S₃, h₃⟩ := x
    refine wpAny_mono (h₃ A hA s₃ R₃) (fun f s₄ x => ?_) fun _ _ e => e.elim
    obtain ⟨af, σ₄, hf, R₄, S₄, h₄⟩ := x
    have L₄ := L₃.step W.mono R₄ (S₃.trans S₄)
    have hit₄ : It (i + 1) s₄.heap := W'.frame _ _ _ hst₂ fun b hbf o e => (S₃.trans S₄).keep b o e (L₃.free b hbf).1 (L₃.free b hbf).2.1
    cases hf with
    | next => exact ⟨_, (by lia : l.length + 1 - (i + 1) < l.length + 1 - i), i + 1, σ₄, rfl, hlt, L₄, hit₄, h₄⟩
    | cont => exact ⟨_, (by lia : l.length + 1 - (i + 1) < l.length + 1 - i), i + 1, σ₄, rfl, hlt, L₄, hit₄, h₄⟩
    | brk => exact ⟨_, σ₄, .next, L₄.rel.weak hp, L₄.stp, h₄⟩
    | ret x => exact ⟨_, σ₄, .ret (x.weak hp), L₄.rel.weak hp, L₄.stp, h₄⟩
  · have hin : i = l.length := by lia
    subst hin
    refine wpAny_with_toks (Nat.le_refl _) (W'.done _ _ _ hit₁ fun h₁ tk₁ hk₁ htk => wpAny_execs_nil ?_)
    refine ⟨_, σ₁, .next, L₁.rel.exit hp hwr hk₁ (W.ki _ _ _ (.inl hit₁) hk₁) (fun b q => ?_) htk, ⟨fun b o e h1 h2 => ?_, L₁.stp.dom, fun b o e => ?_, L₁.stp.gens, L₁.stp.drawn, L₁.stp.os, Nat.le_trans L₁.stp.toks htk⟩, done σ₁ hI⟩
    · obtain ⟨o, e⟩ := hp0 b q
      obtain ⟨o', e'⟩ := L₁.stp.live b o e
      exact ⟨o', hk₁ b o' (fun z => by rw [hout b z] at e; cases e) e'⟩
    · exact hk₁ b o (fun q => by rw [hout b q] at e; cases e) (L₁.stp.keep b o e h1 h2)
    · obtain ⟨o', e'⟩ := L₁.stp.live b o e
      exact ⟨o', hk₁ b o' (fun z => by rw [hout b z] at e; cases e) e'⟩
end
end

section
open PySem PySem.W PyProof.Rows PySem.Calls
section
variable {α β γ δ : Type} {c : Cx} {n : Nat} {env : Env} {σ : St} {tab : List (Str × NameKind)} {cd : Value} {K : Frag}
/-- an iterator that stands ready, for a source of the items l; p: what is private while it runs -/
structure ItAt (c : Cx) (p : Addr → Prop) (env : Env) (target : Expr) (l : List AV) (σ₁ : St) (s₁ : Shared) (I : Addr) (s₂ : Shared) (D : Heap → Prop) (fp wr : List Addr) (P Md : Nat → Value → Heap → Prop) (It : Nat → Heap → Prop) : Prop where
  hp : ∀ b, c.P b → p b
  rel₁ : Rel c env σ₁ s₁
  grow : ∀ b o, s₁.heap.get? b = some o → s₂.heap.get? b = some o
  src : Src (c.with p) target I l D fp wr P Md It
  sub : ∀ b ∈ wr, b ∈ fp
  at_ : LoopAt c p env σ₁ s₁ D fp wr σ₁ s₂
  it : It 0 s₂.heap
  base : ∀ b ∈ wr, c.B.get? b = none
  out : ∀ b ∈ wr, s₁.heap.get? b = none
  hp0 : ∀ b, c.P b → ∃ o, s₁.heap.get? b = some o
  self : ∀ A : Around, A.handled = none → ∀ (s : Shared) (Q : Value → Shared → Prop) (E : Value → Shared → Prop), It 0 s.heap → Q (.ref I) s → wpAny (model c.prog c.w) A (pyIter (.ref I)) Q E s
/-- how the states behind a loop are read again ahead of it -/
noncomputable def Back (c : Cx) (env : Env) (σ : St) (s : Shared) (σ₁ : St) (s₁ : Shared) (back : St → St) : Prop :=
  ∀ σ' s', Rel c env σ' s' → Stp env σ₁ s₁ σ' s' → Rel c env (back σ') s' ∧ Stp env σ s (back σ') s'
noncomputable def IterT (c : Cx) (n : Nat) (env : Env) (σ : St) (t : Sem Value) (target : Expr) (Q : (Addr → Prop) → List AV → St → (St → St) → Prop) : Prop :=
  ∀ A, AOk A n → ∀ s, Rel c env σ s → ∀ K : Value → Shared → Prop,
    (∀ p l σ₁ back s₁ I s₂ D fp wr P Md It, ItAt c p env target l σ₁ s₁ I s₂ D fp wr P Md It → Back c env σ s σ₁ s₁ back → Q p l σ₁ back → K (.ref I) s₂) →
    wpAny (model c.prog c.w) A t (fun x s' => wpAny (model c.prog c.w) A (pyIter x) K Fls s') Fls s
noncomputable abbrev kTurnQ (I : St → Prop) (Q : AF → St → Prop) (back : St → St) (f : AF) (σ : St) : Prop := match f with | .next | .cont => I σ | .brk => Q .next (back σ) | .ret a => Q (.ret a) (back σ)
noncomputable abbrev kTurn (c : Cx) (n : Nat) (env : Env) (body : List Stmt) (I : St → Prop) (Q : AF → St → Prop) (back : St → St) (σ : St) : Prop := TF c n env σ (execs body env) (kTurnQ I Q back)
inductive ForTo (c : Cx) (n : Nat) (env : Env) (target : Expr) (body : List Stmt) (Q : AF → St → Prop) (p : Addr → Prop) (l : List AV) (σ₁ : St) (back : St → St) : Prop
  | mk (Inv : Nat → St → Prop) : Inv 0 σ₁ → (∀ i a σ, l[i]? = some a → Inv i σ → Asg (c.with p) n env σ target a (kTurn (c.with p) n env body (Inv (i + 1)) Q back)) → (∀ σ, Inv l.length σ → Q .next (back σ)) → ForTo c n env target body Q p l σ₁ back
inductive IListTo (c : Cx) (Q : (Addr → Prop) → List AV → St → (St → St) → Prop) (a : AV) (σ : St) : Prop
  | mk (ax : Addr) (l : List AV) : a = .obj (.ref ax) → σ.H ax = some (.list l) → Q c.P l ⟨remH σ.H ax, σ.loc⟩ (fun σ' => ⟨setH σ'.H ax (.list l), σ'.loc⟩) → IListTo c Q a σ
noncomputable abbrev kIStr1 (c : Cx) (Q : (Addr → Prop) → List AV → St → (St → St) → Prop) (σ : St) (l : List AV) : Prop := Q c.P l σ id
theorem sFor {target iter : Expr} {body : List Stmt} {pos : Pos} {Q : AF → St → Prop}
    (h : IterT c n env σ (eval iter env) target (ForTo c n env target body Q))
    (hs : ∀ x, foldedSetIterable iter env x = pure x) : TF c n env σ (exec (.For target iter body [] pos) env) Q := fun A hA s R => by
  refine wpAny_For (wpAny_mono (h A hA s R (fun it s₂ => codeAny (model c.prog c.w) A (.forLoop target it body [] env) (fun r s' => match r with | .ok f => Post c env σ s (FR c.P) Q f s' | .error e => cameBackBy (model c.prog c.w) A env Fls e s') s₂) ?_) (fun _ _ q => wpAny_mono q (fun _ _ q => q) fun _ _ e => e.elim) fun _ _ e => e) hs
  intro p l σ₁ back s₁ I s₂ D fp wr P Md It X hb hq
  obtain ⟨Inv, h0, turn, done⟩ := hq
  refine codeAny_mono (codeFor (Q := fun f σ' => Q f (back σ')) X.hp X.src X.sub Inv hA X.at_ X.it X.base X.out X.hp0 h0 (fun i a σ ha hI => ?_) done) (fun r s' hr => ?_)
  · obtain ⟨T⟩ := turn i a σ ha hI
    exact ⟨T.mono fun _ σ₁ h => h.mono fun f σ₂ h => by cases f <;> exact h⟩
  · cases r with
    | ok f =>
      obtain ⟨af, σ', hf, R', S', hq⟩ := hr
      obtain ⟨R'', S''⟩ := hb σ' s' R' S'
      exact ⟨af, _, hf, R'', S'', hq⟩
    | error e => exact hr.elim
/-! ### the sources -/
theorem VRs.get' {p : Addr → Prop} {h : Heap} : ∀ {l : List AV} {vs : List Value}, VRs p h l vs → ∀ {i : Nat} {v : Value}, vs[i]? = some v → ∃ a, l[i]? = some a ∧ VR p h a v
  | [], _, x, _, _, e => by cases x; cases e
  | _ :: _, _, x, 0, _, e => by cases x with | cons hv _ => cases e; exact ⟨_, rfl, hv⟩
  | _ :: _, _, x, i + 1, _, e => by cases x with | cons _ hs => exact hs.get' (i := i) e
theorem Src.ofWalks {target : Expr} {I : Addr} {l : List AV} {D : Heap → Prop} {fp : List Addr} {P : Nat → Value → Prop} {It : Nat → Heap → Prop}
    (W : ∀ A : Around, A.handled = none → Walks c.prog c.w A I fp [I] l.length P It) (hgo : ∀ A i v (s : Shared) (Q : Unit → Shared → Prop) (E : Value → Shared → Prop), It i s.heap → Q () s → wpAny (model c.prog c.w) A (letOwnedTupleGo target (.ref I) v) Q E s)
    (mono : ∀ h h', KI c.P h h' → D h → D h') (item : ∀ i v h, i < l.length → D h → P i v → ∃ a, l[i]? = some a ∧ VR c.P h a v) (hob : ∀ i h, It i h → ∃ o, h.get? I = some o ∧ ¬ Imm o) :
    Src c target I l D fp [I] (fun i v _ => P i v) (fun i v h => P i v ∧ It (i + 1) h) It where
  turns := fun A hA => KTurns.ofWalks (W A hA) (hgo A)
  mono := mono
  item := fun i v h hi => item i v h hi
  ki := fun i h h' st k a o hi hp e => k a o (fun q => by
    have : a = I := by simpa using q
    subst this
    obtain ⟨o', e', hn⟩ := st.elim (hob i h) fun ⟨v, x⟩ => hob _ h x.2
    rw [e] at e'
    cases e'
    exact hn hi) e
  live := fun i h st b hb => by
    have : b = I := by simpa using hb
    subst this
    obtain ⟨o', e', hn⟩ := st.elim (hob i h) fun ⟨v, x⟩ => hob _ h x.2
    exact ⟨o', e'⟩
theorem Rel.fp' {s : Shared} (R : Rel c env σ s) {b : Addr} (h : ¬ (b < s.heap.objs.size)) : σ.H b = none ∧ ¬ FP env b := ⟨(R.fresh (Nat.not_lt.mp h)).1, (R.fresh (Nat.not_lt.mp h)).2.1⟩
/-- over a list; it is not to be looked at meanwhile -/
theorem iList {t : Sem Value} {target : Expr} {Q : (Addr → Prop) → List AV → St → (St → St) → Prop}
    (h : TV c n env σ t (IListTo c Q)) : IterT c n env σ t target Q := fun A hA s R K k => by
  refine last h hA R fun a va σ₁ s₁ hv R₁ S₁ h₁ => ?_
  obtain ⟨ax, l, rfl, hax, hq⟩ := h₁
  cases hv
  obtain ⟨items, m, hl, hvs⟩ := R₁.own ax _ hax
  have hl' : s₁.heap.IsList ax items := ⟨_, hl, rfl, m, rfl⟩
  have hlt : ax < s₁.heap.objs.size := Heap.lt_size hl
  have hne : ax ≠ s₁.heap.objs.size := Nat.ne_of_lt hlt
  have hfax : ¬ FP env ax := fun q => by rw [R₁.fpH ax q] at hax; cases hax
  refine wpAny_pyIter_list hl' ?_
  have kp : ∀ b o, s₁.heap.get? b = some o → (s₁.heap.push ({ cls := .type "list_iterator", data := .fields #[.ref ax, .int 0 0] } : Obj)).get? b = some o := fun _ _ e => Heap.get?_push_of_some _ e
  have RF := R₁.freeze ax
  have hlen : items.size = l.length := by have := hvs.length; simpa using this
  refine k c.P l _ (fun σ' => ⟨setH σ'.H ax (.list l), σ'.loc⟩) s₁ _ _ (fun h => VRs c.P h l items.toList) [s₁.heap.objs.size, ax] [s₁.heap.objs.size] _ _ _ ⟨fun _ q => q, RF, kp, Src.ofWalks (P := fun i v => items[i]? = some v) (It := fun i h => h.IsListIter s₁.heap.objs.size ax i ∧ h.IsList ax items) (fun A hh => hlen ▸ Walks.list hh s₁.heap.objs.size ax hne items) (fun A i v s Q E st q => letGo_listiter st.1 q) (fun h h' ki d => d.keep ki)
      (fun i v h _ d e => d.get' (by simpa using e)) (fun i h st => ?_), fun b hb => by simp at hb; simp [hb], ⟨?_, ?_, ?_, fun b hb => ?_⟩, ?_, fun b hb => ?_, fun b hb => ?_, R₁.priv, fun A hh s Q E st q => wpAny_pyIter_listiter st.1 q⟩ (fun σ' s' R' S' => ?_) hq
  · obtain ⟨o, e, hc, hd⟩ := st.1
    exact ⟨o, e, fun q => by rcases q with ⟨q, _⟩ | ⟨q, _⟩ <;> rw [hc] at q <;> simp at q⟩
  · exact (RF.grow (t := s₁.toks) kp)
  · exact Stp.grow (t := s₁.toks) kp
  · exact hvs.keep (.all kp)
  · simp only [List.mem_cons, List.not_mem_nil, or_false] at hb
    rcases hb with rfl | rfl
    · have := R₁.fresh (Nat.le_refl s₁.heap.objs.size)
      exact ⟨remH_none this.1, this.2.1, _, Heap.get?_push_size _ rfl⟩
    · exact ⟨remH_self .., hfax, _, kp _ _ hl⟩
  · exact ⟨⟨_, Heap.get?_push_size _ rfl, rfl, rfl⟩, ⟨_, kp _ _ hl, rfl, m, rfl⟩⟩
  · simp only [List.mem_singleton] at hb
    subst hb
    exact (R₁.fresh (Nat.le_refl _)).2.2
  · simp only [List.mem_singleton] at hb
    subst hb
    cases e : s₁.heap.get? s₁.heap.objs.size with
    | none => rfl
    | some o => exact absurd (Heap.lt_size e) (Nat.lt_irrefl _)
  · obtain ⟨R'', S''⟩ := R₁.thaw hax R' S'
    exact ⟨R'', S₁.trans S''⟩
/-- over a new iterator upon a value that is no list: the general step -/
theorem iFresh {t : Sem Value} {nm : Str} {np : Pos} {Q : (Addr → Prop) → List AV → St → (St → St) → Prop} {l : AV → List AV} {ok : AV → Prop}
    (hit : ∀ a, ok a → ∀ A : Around, A.handled = none → ∀ (s : Shared) v, VR c.P s.heap a v → ∀ K : Value → Shared → Prop,
      (∀ (o : Obj) (P : Nat → Value → Prop) (It : Nat → Heap → Prop), ¬ Imm o → (∀ A : Around, A.handled = none → Walks c.prog c.w A s.heap.objs.size [s.heap.objs.size] [s.heap.objs.size] (l a).length P It) → (∀ i v h, i < (l a).length → P i v → ∃ b, (l a)[i]? = some b ∧ VR c.P h b v) →
        (∀ i h, It i h → ∃ o, h.get? s.heap.objs.size = some o ∧ ¬ Imm o) → It 0 (s.heap.push o) → K (.ref s.heap.objs.size) { s with heap := s.heap.push o }) → wpAny (model c.prog c.w) A (pyIter v) K Fls s)
    (h : TV c n env σ t fun a σ₁ => ok a ∧ Q c.P (l a) σ₁ id) : IterT c n env σ t (.Name nm np) Q := fun A hA s R K k => by
  refine last h hA R fun a va σ₁ s₁ hv R₁ S₁ h₁ => ?_
  obtain ⟨hok, hq⟩ := h₁
  refine hit a hok A hA.handled s₁ va hv _ fun o P It hni W item hob hit0 => ?_
  have kp : ∀ b ob, s₁.heap.get? b = some ob → (s₁.heap.push o).get? b = some ob := fun _ _ e => Heap.get?_push_of_some _ e
  have fr := R₁.fresh (Nat.le_refl s₁.heap.objs.size)
  refine k c.P (l a) σ₁ id s₁ _ _ (fun _ => True) [s₁.heap.objs.size] [s₁.heap.objs.size] _ _ _ ⟨fun _ q => q, R₁, kp, Src.ofWalks W (fun A i v s Q E st q => wpAny_pure q) (fun _ _ _ _ => trivial) (fun i v h hi _ e => item i v h hi e) hob, fun b hb => hb, ⟨R₁.grow (t := s₁.toks) kp, Stp.grow (t := s₁.toks) kp, trivial, fun b hb => ?_⟩, hit0, fun b hb => ?_, fun b hb => ?_, R₁.priv, fun A hh s Q E st q => (W A hh).self 0 s Q E st q⟩
    (fun σ' s' R' S' => ⟨R', S₁.trans S'⟩) hq
  · simp only [List.mem_singleton] at hb
    subst hb
    obtain ⟨o', e', _⟩ := hob 0 _ hit0
    exact ⟨fr.1, fr.2.1, o', e'⟩
  · simp only [List.mem_singleton] at hb
    subst hb
    exact fr.2.2
  · simp only [List.mem_singleton] at hb
    subst hb
    cases e : s₁.heap.get? s₁.heap.objs.size with
    | none => rfl
    | some o => exact absurd (Heap.lt_size e) (Nat.lt_irrefl _)
noncomputable def signsOf (x : Str) : List AV := x.cps.toList.map fun ch => .str ⟨#[ch]⟩
theorem signsOf_item {p : Addr → Prop} {h : Heap} {x : Str} {i : Nat} {v : Value} (e : SignAt x i v) : ∃ b, (signsOf x)[i]? = some b ∧ VR p h b v := by
  obtain ⟨ch, u, h1, rfl⟩ := e
  refine ⟨.str ⟨#[ch]⟩, ?_, .str _ u⟩
  simp [signsOf, h1]
/-- over the signs of a text -/
noncomputable abbrev kStr1 (c : Cx) (Q : (Addr → Prop) → List AV → St → (St → St) → Prop) (σ : St) (x : Str) : Prop := Q c.P (signsOf x) σ id
noncomputable abbrev kStr (c : Cx) (Q : (Addr → Prop) → List AV → St → (St → St) → Prop) (a : AV) (σ : St) : Prop := StrTo a (kStr1 c Q σ)
theorem iStr {t : Sem Value} {nm : Str} {np : Pos} {Q : (Addr → Prop) → List AV → St → (St → St) → Prop} (h : TV c n env σ t (kStr c Q)) : IterT c n env σ t (.Name nm np) Q := by
  refine iFresh (l := fun a => match a with | .str x => signsOf x | _ => []) (ok := fun a => ∃ x, a = .str x) (fun a hok A hh s v hv K k => ?_) (h.mono fun a σ₁ ⟨x, e, q⟩ => ⟨⟨x, e⟩, by subst e; exact q⟩)
  obtain ⟨x, rfl⟩ := hok
  cases hv with
  | str u =>
    have hlen : (signsOf x).length = x.cps.size := by simp [signsOf]
    have ni : ∀ (o : Obj) (ty : String), o.cls = .type ty → ty ≠ "tuple" → ty ≠ "range" → ¬ Imm o := fun o ty hc h1 h2 q => by rcases q with ⟨q, _⟩ | ⟨q, _⟩ <;> rw [hc] at q <;> simp at q <;> contradiction
    cases ha : x.cps.all (· < 128)
    · exact wpAny_pyIter_wide ha (k _ (SignAt x) (fun i h => h.IsStrIter s.heap.objs.size "str_iterator" x u i) (ni _ _ rfl (by decide) (by decide)) (fun A' hA => by rw [hlen]; exact Walks.strWide hA _ x u) (fun i v h _ e => signsOf_item e) (fun i h st => by obtain ⟨o, e, hc, _⟩ := st; exact ⟨o, e, ni o _ hc (by decide) (by decide)⟩) ⟨_, Heap.get?_push_size _ rfl, rfl, rfl⟩)
    · exact wpAny_pyIter_ascii ha (k _ (SignAt x) (fun i h => h.IsStrIter s.heap.objs.size "str_ascii_iterator" x u i) (ni _ _ rfl (by decide) (by decide)) (fun A' hA => by rw [hlen]; exact Walks.strAscii hA _ x u) (fun i v h _ e => signsOf_item e) (fun i h st => by obtain ⟨o, e, hc, _⟩ := st; exact ⟨o, e, ni o _ hc (by decide) (by decide)⟩) ⟨_, Heap.get?_push_size _ rfl, rfl, rfl⟩)
noncomputable def rangeOf (a b st : Int) : List AV := (List.range (Builtin.Range.rangeSize a b st).toNat).map fun i => .int (a + (i : Nat) * st)
/-- over a range -/
theorem iRange {t : Sem Value} {nm : Str} {np : Pos} {Q : (Addr → Prop) → List AV → St → (St → St) → Prop} (h : TV c n env σ t fun a σ₁ => ∃ x y z, a = .range x y z ∧ Builtin.Range.small x y z = true ∧ 0 ≤ Builtin.Range.rangeSize x y z ∧ Q c.P (rangeOf x y z) σ₁ id) : IterT c n env σ t (.Name nm np) Q := by
  refine iFresh (l := fun a => match a with | .range x y z => rangeOf x y z | _ => []) (ok := fun a => ∃ x y z, a = .range x y z ∧ Builtin.Range.small x y z = true ∧ 0 ≤ Builtin.Range.rangeSize x y z) (fun a hok A hh s v hv K k => ?_) (h.mono fun a σ₁ ⟨x, y, z, e, h1, h2, q⟩ => ⟨⟨x, y, z, e, h1, h2⟩, by subst e; exact q⟩)
  obtain ⟨x, y, z, rfl, h1, h2⟩ := hok
  cases hv with
  | range hp hr =>
    have ni : ∀ (o : Obj) (ty : String), o.cls = .type ty → ty ≠ "tuple" → ty ≠ "range" → ¬ Imm o := fun o ty hc h1 h2 q => by rcases q with ⟨q, _⟩ | ⟨q, _⟩ <;> rw [hc] at q <;> simp at q <;> contradiction
    have hlen : (rangeOf x y z).length = (Builtin.Range.rangeSize x y z).toNat := by simp [rangeOf]
    refine wpAny_pyIter_range hr h1 (k _ _ _ (ni _ _ rfl (by decide) (by decide)) (fun A' hA => by rw [hlen]; exact Walks.range hA s.heap.objs.size x z (Builtin.Range.rangeSize x y z).toNat) (fun i v h hi e => ?_) (fun i h st => ⟨_, st, ni _ _ rfl (by decide) (by decide)⟩) ?_)
    · obtain ⟨u, rfl⟩ := e
      refine ⟨.int (x + (i : Nat) * z), ?_, .int _ u⟩
      have hi' : i < (Builtin.Range.rangeSize x y z).toNat := hlen ▸ hi
      simp [rangeOf, hi']
    · have e := Heap.get?_push_size s.heap (o := ({ cls := .type "range_iterator", data := .fields #[rawInt x, rawInt (Builtin.Range.rangeSize x y z), rawInt z] } : Obj)) rfl
      show (s.heap.push _).get? _ = _
      rw [e]
      simp [Int.toNat_of_nonneg h2]
end
end

section
open PySem PySem.W PyProof.Rows PySem.Calls
/-! ## list comprehensions -/
section
variable {prog : Program} {w : World} {A : Around} {E : Value → Shared → Prop} {s : Shared} {R : Result → Shared → Prop}
noncomputable def testsOf (env : Env) (ifs : List Expr) : Sem Bool := forIn ifs true fun c r => if r = true then do let ok ← isTrue c env (eval c env); pure (ForInStep.yield ok) else pure (ForInStep.yield r)
theorem codeAny_compLoop_full {elt target iter : Expr} {ifs : List Expr} {scope : Scope} {pos : Pos} {it acc : Value} {env : Env} (I : Nat → Shared → Prop)
    (turn : ∀ n s, I n s → wpAny (model prog w) A (pyNext it) (fun r s₁ => match r with
      | none => R (.ok .next) s₁
      | some v => wpAny (model prog w) A (letOwnedTupleGo target it v) (fun _ s₁' => wpAny (model prog w) A (assign target env v) (fun _ s₂ =>
          wpAny (model prog w) A (testsOf env ifs) (fun ok s₃ =>
            if ok = true then wpAny (model prog w) A (eval elt env) (fun x s₄ =>
              wpAny (model prog w) A (call (.builtin "list.append") [acc, x]) (fun _ s₅ => ∃ m, m < n ∧ I m s₅) Fls s₄) Fls s₃
            else ∃ m, m < n ∧ I m s₃) Fls s₂) Fls s₁') Fls s₁) Fls s)
    (n : Nat) (h : I n s) : codeAny (model prog w) A (.compLoop (.ListComp elt [⟨target, iter, ifs, 0⟩] scope pos) 0 it acc env) R s := by
  refine codeAny_loop rfl I (fun n s hI => ?_) n h
  show wpAny _ A ((compTurn (.ListComp elt [⟨target, iter, ifs, 0⟩] scope pos) 0 it acc env).onRaise (fun x => do noteFrame x env; theTreesLotGoes x)) _ _ s
  refine wpAny_noted ?_
  rw [compTurn_list]
  refine wpAny_bind (wpAny_standAt (wpAny_bind (wpAny_mono (turn n s hI) (fun r s₁ h₁ => ?_) fun _ _ h' => h'.elim)))
  cases r with
  | none => exact wpAny_pure h₁
  | some v =>
    refine wpAny_bind (wpAny_mono h₁ (fun _ s₁' h₁' => ?_) fun _ _ h' => h'.elim)
    refine wpAny_bind (wpAny_mono h₁' (fun _ s₂ h₂ => wpAny_bind (wpAny_mono h₂ (fun ok s₃ h₃ => ?_) fun _ _ h' => h'.elim)) fun _ _ h' => h'.elim)
    cases ok with
    | false => exact wpAny_pure ⟨rfl, h₃⟩
    | true =>
      exact wpAny_bind (wpAny_bind (wpAny_mono h₃ (fun x s₄ h₄ => wpAny_bind (wpAny_mono h₄ (fun _ s₅ h₅ => wpAny_pure (wpAny_pure ⟨rfl, h₅⟩)) fun _ _ h' => h'.elim)) fun _ _ h' => h'.elim))
end
noncomputable def clF (env : Env) : List (Str × NameKind) → List (Str × Addr) → List (Str × Addr)
  | [], acc => acc
  | (x, k) :: r, acc => if k == .free then clF env r ((x, (env.cells.lookup x).getD 0) :: acc) else clF env r acc
theorem closureFor_clF {scope : Scope} {env : Env} (h : ∀ x ∈ scope.names, x.2 = .free → ∃ k, env.cells.lookup x.1 = some k) : closureFor scope env = pure (clF env scope.names []) := by
  simp only [closureFor]
  generalize scope.names = names at h
  suffices ∀ acc, (forIn names acc fun x (r : List (Str × Addr)) => match x with | (name, kind) => if (kind == .free) = true then do let a ← cellOf env name; pure (ForInStep.yield ((name, a) :: r)) else pure (ForInStep.yield r)) = (pure (clF env names acc) : Sem _) by
    have := this []
    first | (rw [this]; rfl) | (simp only [this]; rfl) | exact congrArg (· >>= pure) this
  intro acc
  induction names generalizing acc with
  | nil => simp [clF]
  | cons x r ih =>
    obtain ⟨n, k⟩ := x
    have ih' := ih (fun y hy => h y (List.mem_cons_of_mem _ hy))
    unfold clF
    rw [List.forIn_cons]
    by_cases hk : (k == NameKind.free) = true
    · obtain ⟨a, ha⟩ := h (n, k) List.mem_cons_self (by simpa using hk)
      simp only [hk, if_true]
      simp only [cellOf, ha, Option.getD_some]
      show (pure (ForInStep.yield ((n, a) :: acc)) >>= _) = _
      exact ih' _
    · simp only [hk]
      exact ih' _
theorem clF_mem {env : Env} {x : Str} {a : Addr} : ∀ {names : List (Str × NameKind)} {acc : List (Str × Addr)}, (∀ y ∈ names, y.2 = .free → ∃ k, env.cells.lookup y.1 = some k) → (x, a) ∈ clF env names acc → (x, a) ∈ acc ∨ ((x, NameKind.free) ∈ names ∧ env.cells.lookup x = some a)
  | [], _, _, h => .inl h
  | (n, k) :: r, acc, hf, h => by
    unfold clF at h
    by_cases hk : (k == NameKind.free) = true
    · rw [if_pos hk] at h
      rcases clF_mem (fun y hy => hf y (List.mem_cons_of_mem _ hy)) h with h | h
      · rcases List.mem_cons.mp h with h | h
        · obtain ⟨a', ha⟩ := hf (n, k) List.mem_cons_self (by simpa using hk)
          cases h
          have hk' : k = .free := by simpa using hk
          subst hk'
          refine .inr ⟨List.mem_cons_self, ?_⟩
          rw [ha]; rfl
        · exact .inl h
      · exact .inr ⟨List.mem_cons_of_mem _ h.1, h.2⟩
    · rw [if_neg hk] at h
      rcases clF_mem (fun y hy => hf y (List.mem_cons_of_mem _ hy)) h with h | h
      · exact .inl h
      · exact .inr ⟨List.mem_cons_of_mem _ h.1, h.2⟩
theorem clF_has {env : Env} {x : Str} : ∀ {names : List (Str × NameKind)} {acc : List (Str × Addr)}, ((x, NameKind.free) ∈ names ∨ ∃ a, (x, a) ∈ acc) → ∃ a, (x, a) ∈ clF env names acc
  | [], _, h => h.elim (fun e => by cases e) id
  | (n, k) :: r, acc, h => by
    unfold clF
    by_cases hk : (k == NameKind.free) = true
    · rw [if_pos hk]
      refine clF_has (h.elim (fun e => ?_) fun ⟨a, e⟩ => .inr ⟨a, List.mem_cons_of_mem _ e⟩)
      rcases List.mem_cons.mp e with e | e
      · cases e; exact .inr ⟨_, List.mem_cons_self⟩
      · exact .inl e
    · rw [if_neg hk]
      refine clF_has (h.imp (fun e => ?_) id)
      rcases List.mem_cons.mp e with e | e
      · cases e; exact absurd rfl hk
      · exact e
theorem clF_nodup {env : Env} : ∀ {names : List (Str × NameKind)} {acc : List (Str × Addr)}, (names.map Prod.fst).Nodup → (acc.map Prod.fst).Nodup → (∀ x ∈ acc.map Prod.fst, x ∉ names.map Prod.fst) → ((clF env names acc).map Prod.fst).Nodup
  | [], _, _, h, _ => h
  | (n, k) :: r, acc, hn, ha, hd => by
    rw [List.map_cons, List.nodup_cons] at hn
    unfold clF
    by_cases hk : (k == NameKind.free) = true
    · rw [if_pos hk]
      refine clF_nodup hn.2 ?_ fun x hx => ?_
      · rw [List.map_cons, List.nodup_cons]
        exact ⟨fun q => hd n q (by simp), ha⟩
      · rw [List.map_cons] at hx
        rcases List.mem_cons.mp hx with rfl | hx
        · exact hn.1
        · exact fun q => hd x hx (by simp only [List.map_cons]; exact List.mem_cons_of_mem _ q)
    · rw [if_neg hk]
      exact clF_nodup hn.2 ha fun x hx q => hd x hx (by simp only [List.map_cons]; exact List.mem_cons_of_mem _ q)
theorem lookup_of_mem {α : Type} {x : Str} {a : α} : ∀ {l : List (Str × α)}, (l.map Prod.fst).Nodup → (x, a) ∈ l → l.lookup x = some a
  | [], _, h => by cases h
  | (y, b) :: r, hn, h => by
    rw [List.map_cons, List.nodup_cons] at hn
    rcases List.mem_cons.mp h with h | h
    · cases h; simp
    · have : (x == y) = false := by
        rw [beq_eq_false_iff_ne]
        intro q
        exact hn.1 (List.mem_map.mpr ⟨(x, a), h, q⟩)
      rw [List.lookup_cons, this]
      exact lookup_of_mem hn.2 h
noncomputable def isFree (names : List (Str × NameKind)) (x : Str) : Bool := names.lookup x == some .free
noncomputable def captOf : List (Str × NameKind) → List (Str × AV) → List (Str × AV)
  | [], _ => []
  | (n, k) :: r, loc => if k == .free then (match lk loc n with | some a => (n, a) :: captOf r loc | none => captOf r loc) else captOf r loc
theorem lk_captOf {loc : List (Str × AV)} {x : Str} : ∀ {names : List (Str × NameKind)}, (names.map Prod.fst).Nodup → lk (captOf names loc) x = if isFree names x then lk loc x else none
  | [], _ => by simp [captOf, isFree, lk]
  | (n, k) :: r, hn => by
    rw [List.map_cons, List.nodup_cons] at hn
    have ih := lk_captOf (loc := loc) (x := x) hn.2
    unfold captOf
    by_cases hx : x = n
    · subst hx
      have hr : isFree r x = false := by
        unfold isFree
        cases e : r.lookup x with
        | none => rfl
        | some k' => exact absurd (List.mem_map.mpr ⟨_, mem_of_lookup e, rfl⟩) hn.1
      rw [hr] at ih
      simp only [Bool.false_eq_true, if_false] at ih
      by_cases hk : (k == NameKind.free) = true
      · have hk' : k = .free := by simpa using hk
        subst hk'
        have : isFree ((x, NameKind.free) :: r) x = true := by simp [isFree]
        rw [this, if_pos hk, if_pos rfl]
        cases e : lk loc x with
        | none => exact ih
        | some a => simp [lk]
      · have : isFree ((x, k) :: r) x = false := by unfold isFree; rw [List.lookup_cons]; simpa using hk
        rw [this, if_neg hk]
        exact ih
    · have hb : (x == n) = false := by simpa using hx
      have h1 : isFree ((n, k) :: r) x = isFree r x := by unfold isFree; rw [List.lookup_cons, hb]
      rw [h1, ← ih]
      split
      · split
        · simp [lk, hx]
        · rfl
      · rfl
section
variable {α β γ δ : Type} {c : Cx} {n : Nat} {env : Env} {σ : St} {tab : List (Str × NameKind)} {cd : Value} {K : Frag}
/-- the comprehension's frame is left -/
theorem Rel.leaveComp {s₁ s' : Shared} {σ₁ σ' : St} {env' : Env} {h' : Heap} (R₁ : Rel c env σ₁ s₁) (R' : Rel c env' σ' s') (S' : Stp env' σ₁ s₁ σ' s') (hC : s₁.heap.get? env'.locals = none)
    (hcl : ∀ x k, env'.cells.lookup x = some k → env.cells.lookup x = some k ∧ lk σ'.loc x = lk σ₁.loc x) (hs : Heap.SameBut env'.locals s'.heap h') :
    Rel c env ⟨σ'.H, σ₁.loc⟩ { s' with heap := h' } ∧ Stp env σ₁ s₁ ⟨σ'.H, σ₁.loc⟩ { s' with heap := h' } := by
  have fpC : ∀ b o, s₁.heap.get? b = some o → ¬ FP env b → ¬ FP env' b := fun b o e hn q => by
    rcases q with rfl | ⟨x, hx⟩
    · rw [hC] at e; cases e
    · exact hn (.inr ⟨x, (hcl x b hx).1⟩)
  have neC : ∀ b o, s₁.heap.get? b = some o → b ≠ env'.locals := fun b o e q => by subst q; rw [hC] at e; cases e
  have lC : FP env' env'.locals := .inl rfl
  obtain ⟨oC, hoC, nC⟩ := R'.fr.fp lC
  have ki1 : KI c.P s₁.heap s'.heap := fun a o hi hp t => S'.keep a o t (R₁.imm hi t).1 (fpC a o t (R₁.imm hi t).2)
  have ki2 : KI c.P s'.heap h' := fun a o hi hp t => (hs.2 a fun q => by subst q; rw [hoC] at t; cases t; exact nC hi).trans t
  have ki : KI c.P s₁.heap h' := fun a o hi hp t => ki2 a o hi hp (ki1 a o hi hp t)
  have keep : ∀ b o, s₁.heap.get? b = some o → σ₁.H b = none → ¬ FP env' b → h'.get? b = some o := fun b o e h1 h2 => (hs.2 b (neC b o e)).trans (S'.keep b o e h1 h2)
  have lv2 : ∀ b o, s'.heap.get? b = some o → b ≠ env'.locals → h'.get? b = some o := fun b o e q => (hs.2 b q).trans e
  refine ⟨⟨fun b o e => lv2 b o (R'.base b o e) (fun q => by subst q; rw [R'.fpB _ lC] at e; cases e), fun a o e => (R'.own a o e).keep (fun ob q => lv2 a ob q (fun z => by subst z; rw [R'.fpH _ lC] at e; cases e)) ki2, R'.ownB,
    ⟨R₁.fr.kind, ?_, fun x k hx => ?_, R₁.fr.apart, R₁.fr.sep⟩, fun b hb => let ⟨o, e, _⟩ := R₁.fr.fp hb; S'.dom b o e (R₁.fpH b hb), R₁.fpB, (fun b q => ?_), R'.pos, R'.gh⟩,
    ⟨fun b o e h1 h2 => keep b o e h1 (fpC b o e h2), S'.dom, fun b o e => let ⟨o', e'⟩ := S'.live b o e; ⟨o', lv2 b o' e' (neC b o e)⟩, S'.gens, S'.drawn, S'.os, S'.toks⟩⟩
  · obtain ⟨m, hn, q⟩ := R₁.fr.ns
    obtain ⟨oL, _, _, eL, _⟩ := id hn
    have hL : ¬ FP env' env.locals := fun z => by
      rcases z with z | ⟨x, hx⟩
      · exact neC _ _ eL z
      · exact R₁.fr.sep x _ (hcl x _ hx).1 rfl
    refine ⟨m, hn.at' fun o e => keep _ o e (R₁.fpH _ (.inl rfl)) hL, fun x a h1 h2 => ?_⟩
    obtain ⟨v, e1, e2⟩ := q x a h1 h2
    exact ⟨v, e1, e2.keep ki⟩
  · obtain ⟨u, hu, q⟩ := R₁.fr.cells x k hx
    obtain ⟨ok, ek, _⟩ := id hu
    by_cases hk : FP env' k
    · rcases hk with hk | ⟨y, hy⟩
      · exact absurd hk (neC k ok ek)
      · have hy' := hcl y k hy
        have : y = x := name_of_addr R₁.fr.apart (mem_of_lookup hy'.1) (mem_of_lookup hx)
        subst this
        obtain ⟨u', hu', q'⟩ := R'.fr.cells y k hy
        refine ⟨u', ?_, fun a e => ?_⟩
        · obtain ⟨o, e1, e2⟩ := hu'
          exact ⟨o, lv2 k o e1 (neC k ok ek), e2⟩
        · obtain ⟨v, e1, e2⟩ := q' a (hy'.2.trans e)
          exact ⟨v, e1, e2.keep ki2⟩
    · refine ⟨u, ?_, fun a e => ?_⟩
      · obtain ⟨o, e1, e2⟩ := hu
        exact ⟨o, keep k o e1 (R₁.fpH k (.inr ⟨x, hx⟩)) hk, e2⟩
      · obtain ⟨v, e1, e2⟩ := q a e
        exact ⟨v, e1, e2.keep ki⟩
  · obtain ⟨o, e⟩ := R₁.priv b q
    obtain ⟨o', e'⟩ := S'.live b o e
    exact ⟨o', lv2 b o' e' (neC b o e)⟩
end
end

section
open PySem PySem.W PyProof.Rows PySem.Calls
section
variable {α β γ δ : Type} {c : Cx} {n : Nat} {env env' : Env} {σ : St} {tab : List (Str × NameKind)} {cd : Value} {K : Frag}
theorem LoopAt.moved {p : Addr → Prop} {target : Expr} {I : Addr} {l : List AV} {D : Heap → Prop} {fp wr : List Addr} {P Md : Nat → Value → Heap → Prop} {It : Nat → Heap → Prop} {σ₀ : St} {s₀ s₁ : Shared} {h' : Heap} {tk : Nat}
    (W : Src (c.with p) target I l D fp wr P Md It) (hsub : ∀ b ∈ wr, b ∈ fp) (hb : ∀ b ∈ wr, c.B.get? b = none) (hout : ∀ b ∈ wr, s₀.heap.get? b = none)
    (L : LoopAt c p env σ₀ s₀ D fp wr σ s₁) (k : ∀ b o, b ∉ wr → s₁.heap.get? b = some o → h'.get? b = some o) (ki : KI p s₁.heap h') (lw : ∀ b ∈ wr, ∃ o, h'.get? b = some o) (htk : s₁.toks ≤ tk) :
    LoopAt c p env σ₀ s₀ D fp wr σ { s₁ with heap := h', toks := tk } := by
  have hwr : ∀ b ∈ wr, σ.H b = none ∧ ¬ FP env b ∧ c.B.get? b = none := fun b q => ⟨(L.free b (hsub b q)).1, (L.free b (hsub b q)).2.1, hb b q⟩
  have lv : ∀ b o, s₁.heap.get? b = some o → ∃ o', h'.get? b = some o' := fun b o e => by
    by_cases hbw : b ∈ wr
    · exact lw b hbw
    · exact ⟨o, k b o hbw e⟩
  refine ⟨L.rel.moved hwr k ki (fun b q => let ⟨o, e⟩ := L.rel.priv b q; lv b o e) htk, ⟨fun b o e h1 h2 => ?_, L.stp.dom, fun b o e => let ⟨o', e'⟩ := L.stp.live b o e; lv b o' e', L.stp.gens, L.stp.drawn, L.stp.os, Nat.le_trans L.stp.toks htk⟩, W.mono _ _ ki L.data, fun b q => let ⟨h1, h2, o, h3⟩ := L.free b q; ⟨h1, h2, lv b o h3⟩⟩
  exact k b o (fun q => by rw [hout b q] at e; cases e) (L.stp.keep b o e h1 h2)
noncomputable def Keeps (capt loc : List (Str × AV)) : Prop := ∀ x a, lk capt x = some a → lk loc x = some a
theorem setH_setH (H : Addr → Option AO) (a : Addr) (o o' : AO) : setH (setH H a o) a o' = setH H a o' := by
  funext b; unfold setH; split <;> rfl
theorem remH_setH {H : Addr → Option AO} {a : Addr} (o : AO) (h : H a = none) : remH (setH H a o) a = H := by
  funext b; unfold remH setH; split
  · rename_i e; subst e; exact h.symm
  · rfl
theorem opAppend {acc : Addr} {ys : List AV} {Q : AV → St → Prop} (ha : σ.H acc = some (.list ys)) (hsz : ys.length ≤ sizeLine) {b : AV} (hq : Q .none ⟨setH σ.H acc (.list (ys ++ [b])), σ.loc⟩) :
    Op1 c n env (VR c.P) σ (fun v => call (.builtin "list.append") [.ref acc, v]) b Q := fun A hA s R va hv => by
  obtain ⟨items, m, hl, hvs⟩ := R.own acc _ ha
  have hsz' : items.size ≤ sizeLine := by have := hvs.length; simp at this; lia
  refine wpAny_list_append_plain ⟨m, hl⟩ (fun h' hp hs => ?_) hsz'
  obtain ⟨m', hl'⟩ := hp
  have ki : KI c.P s.heap h' := fun b o hi _ q => (hs.2 b fun z => by subst z; have := (R.imm hi q).1; rw [ha] at this; cases this).trans q
  have oa : OA c.P h' acc (.list (ys ++ [b])) := ⟨items.push va, m', hl', by
    rw [Array.toList_push]
    exact (hvs.keep ki).append (.cons (hv.keep ki) .nil)⟩
  exact ⟨_, _, .none, R.upd (t := s.toks) ha hs oa, Stp.upd (t := s.toks) ha hs oa, hq⟩
theorem codeComp {p : Addr → Prop} (hp : ∀ b, c.P b → p b) {target iter elt : Expr} {ifs : List Expr} {scope : Scope} {pos : Pos} {I acc : Addr} {l : List AV} {D : Heap → Prop} {fp wr : List Addr} {P Md : Nat → Value → Heap → Prop} {It : Nat → Heap → Prop}
    (W : Src (c.with p) target I l D fp wr P Md It) (hsub : ∀ b ∈ wr, b ∈ fp) {capt : List (Str × AV)} (Inv : Nat → List AV → (Addr → Option AO) → Prop) {A : Around} (hA : AOk A n) {s₀ s : Shared} {σ₀ : St} {H : Addr → Option AO}
    (hL : LoopAt c p env σ₀ s₀ D fp wr ⟨setH H acc (.list []), capt⟩ s) (hH : H acc = none) (hit : It 0 s.heap)
    (hb : ∀ b ∈ wr, c.B.get? b = none) (hout : ∀ b ∈ wr, s₀.heap.get? b = none) (hp0 : ∀ b, c.P b → ∃ o, s₀.heap.get? b = some o) (h0 : Inv 0 [] H) (hlen : l.length ≤ sizeLine)
    (turn : ∀ i a ys H, l[i]? = some a → ys.length ≤ i → Inv i ys H → Asg (c.with p) n env ⟨H, capt⟩ target a fun σ₁ => TB (c.with p) n env σ₁ (testsOf env ifs) fun ok σ₂ =>
      (ok = true → TV (c.with p) n env σ₂ (eval elt env) fun b σ₃ => Keeps capt σ₃.loc ∧ Inv (i + 1) (ys ++ [b]) σ₃.H) ∧ (ok = false → Keeps capt σ₂.loc ∧ Inv (i + 1) ys σ₂.H)) :
    codeAny (model c.prog c.w) A (.compLoop (.ListComp elt [⟨target, iter, ifs, 0⟩] scope pos) 0 (.ref I) (.ref acc) env)
      (fun r s' => match r with | .ok _ => ∃ H' ys, H' acc = none ∧ Rel c env ⟨setH H' acc (.list ys), capt⟩ s' ∧ Stp env σ₀ s₀ ⟨setH H' acc (.list ys), capt⟩ s' ∧ Inv l.length ys H' | .error _ => False) s := by
  refine codeAny_compLoop_full (fun m s' => ∃ i H ys, m = l.length + 1 - i ∧ i ≤ l.length ∧ ys.length ≤ i ∧ H acc = none ∧ LoopAt c p env σ₀ s₀ D fp wr ⟨setH H acc (.list ys), capt⟩ s' ∧ It i s'.heap ∧ Inv i ys H) (fun m s₁ x => ?_) (l.length + 1 - 0) ⟨0, H, [], rfl, Nat.zero_le _, Nat.le_refl _, hH, hL, hit, h0⟩
  obtain ⟨i, H₁, ys, rfl, hi, hys, hH₁, L₁, hit₁, hI⟩ := x
  have W' := W.turns A hA.handled
  by_cases hlt : i < l.length
  · refine wpAny_with_toks (Nat.le_refl _) (W'.item i _ _ _ hlt hit₁ fun v h₁ tk₁ hMd hk₁ htk => ?_)
    have L₂ := L₁.moved (tk := tk₁) W hsub hb hout hk₁ (W.ki i _ _ (.inl hit₁) hk₁) (W.live i _ (.inr ⟨v, hMd⟩)) htk
    refine W'.go i v _ _ _ hMd fun h₂ hP hst₂ hk₂ => ?_
    have L₃ := L₂.moved (tk := tk₁) W hsub hb hout hk₂ (W.ki i _ _ (.inr ⟨v, hMd⟩) hk₂) (W.live (i + 1) _ (.inl hst₂)) (Nat.le_refl _)
    obtain ⟨a, ha, hv⟩ := W.item i v _ hlt L₃.data hP
    obtain ⟨T⟩ := turn i a ys H₁ ha hys hI
    have RF := L₃.rel.freeze acc
    have hacc : (⟨setH H₁ acc (.list ys), capt⟩ : St).H acc = some (.list ys) := setH_self ..
    have eRF : (⟨remH (⟨setH H₁ acc (.list ys), capt⟩ : St).H acc, (⟨setH H₁ acc (.list ys), capt⟩ : St).loc⟩ : St) = ⟨H₁, capt⟩ := by
      show (⟨remH (setH H₁ acc (.list ys)) acc, capt⟩ : St) = _
      rw [remH_setH _ hH₁]
    rw [eRF] at RF
    refine wpAny_mono (T A hA _ RF v hv) (fun _ s₃ x => ?_) fun _ _ e => e.elim
    obtain ⟨_, σ₃, _, R₃, S₃, h₃⟩ := x
    refine wpAny_mono (h₃ A hA s₃ R₃) (fun ok s₄ x => ?_) fun _ _ e => e.elim
    obtain ⟨ok', σ₄, rfl, R₄, S₄, h₄⟩ := x
    have back : ∀ {σ₅ : St} {s₅ : Shared}, Rel (c.with p) env σ₅ s₅ → Stp env ⟨H₁, capt⟩ { s₁ with heap := h₂, toks := tk₁ } σ₅ s₅ → Keeps capt σ₅.loc → σ₅.H acc = none ∧ LoopAt c p env σ₀ s₀ D fp wr ⟨setH σ₅.H acc (.list ys), capt⟩ s₅ := fun {σ₅ s₅} R₅ S₅ kc => by
      rw [← eRF] at S₅
      obtain ⟨R₆, S₆⟩ := L₃.rel.thaw hacc R₅ S₅
      obtain ⟨ob, hob⟩ := (L₃.rel.own acc _ hacc).there
      exact ⟨S₅.dom acc ob hob (remH_self ..), L₃.step W.mono (R₆.forget (H' := setH σ₅.H acc (.list ys)) (loc' := capt) (fun _ _ e => e) kc) ⟨S₆.keep, S₆.dom, S₆.live, S₆.gens, S₆.drawn, S₆.os, S₆.toks⟩⟩
    have hitK : ∀ {σ₅ : St} {s₅ : Shared}, Stp env ⟨H₁, capt⟩ { s₁ with heap := h₂, toks := tk₁ } σ₅ s₅ → It (i + 1) s₅.heap := fun {σ₅ s₅} S₅ => W'.frame _ _ _ hst₂ fun b hbf o e => S₅.keep b o e (by
      have := (L₃.free b hbf).1
      by_cases q : b = acc
      · subst q; exact hH₁
      · replace this : setH H₁ acc (.list ys) b = none := this
        rw [setH_ne _ _ q] at this; exact this) (L₃.free b hbf).2.1
    cases ok with
    | false =>
      simp only [Bool.false_eq_true, if_false]
      obtain ⟨kc, hI'⟩ := h₄.2 rfl
      obtain ⟨hn, L₅⟩ := back R₄ (S₃.trans S₄) kc
      exact ⟨_, (by lia : l.length + 1 - (i + 1) < l.length + 1 - i), i + 1, _, ys, rfl, hlt, by lia, hn, L₅, hitK (S₃.trans S₄), hI'⟩
    | true =>
      simp only [if_true]
      refine wpAny_mono (h₄.1 rfl A hA s₄ R₄) (fun x s₅ y => ?_) fun _ _ e => e.elim
      obtain ⟨b, σ₅, hv₅, R₅, S₅, kc, hI'⟩ := y
      have SS := S₃.trans (S₄.trans S₅)
      obtain ⟨hn, L₅⟩ := back R₅ SS kc
      refine wpAny_mono (opAppend (c := c.with p) (Q := fun _ σ' => σ' = ⟨setH (setH σ₅.H acc (.list ys)) acc (.list (ys ++ [b])), capt⟩) (setH_self ..) (by lia) rfl A hA s₅ L₅.rel x hv₅) (fun _ s₆ y => ?_) fun _ _ e => e.elim
      obtain ⟨_, σ₆, _, R₆, S₆, rfl⟩ := y
      have hit₆ : It (i + 1) s₆.heap := W'.frame _ _ _ (hitK SS) fun b hbf o e => S₆.keep b o e (L₅.free b hbf).1 (L₅.free b hbf).2.1
      have L₆ := L₅.step W.mono R₆ S₆
      rw [setH_setH] at L₆
      exact ⟨_, (by lia : l.length + 1 - (i + 1) < l.length + 1 - i), i + 1, _, ys ++ [b], rfl, hlt, by simp; lia, hn, L₆, hit₆, hI'⟩
  · have hin : i = l.length := by lia
    subst hin
    have hwr : ∀ b ∈ wr, (setH H₁ acc (.list ys)) b = none ∧ ¬ FP env b ∧ c.B.get? b = none := fun b q => ⟨(L₁.free b (hsub b q)).1, (L₁.free b (hsub b q)).2.1, hb b q⟩
    refine wpAny_with_toks (Nat.le_refl _) (W'.done _ _ _ hit₁ fun h₁ tk₁ hk₁ htk => ?_)
    refine ⟨H₁, ys, hH₁, L₁.rel.exit hp hwr hk₁ (W.ki _ _ _ (.inl hit₁) hk₁) (fun b q => ?_) htk, ⟨fun b o e h1 h2 => ?_, L₁.stp.dom, fun b o e => ?_, L₁.stp.gens, L₁.stp.drawn, L₁.stp.os, Nat.le_trans L₁.stp.toks htk⟩, hI⟩
    · obtain ⟨o, e⟩ := hp0 b q
      obtain ⟨o', e'⟩ := L₁.stp.live b o e
      exact ⟨o', hk₁ b o' (fun z => by rw [hout b z] at e; cases e) e'⟩
    · exact hk₁ b o (fun q => by rw [hout b q] at e; cases e) (L₁.stp.keep b o e h1 h2)
    · obtain ⟨o', e'⟩ := L₁.stp.live b o e
      exact ⟨o', hk₁ b o' (fun z => by rw [hout b z] at e; cases e) e'⟩
theorem tests0 {Q : Bool → St → Prop} (h : Q true σ) : TB c n env σ (testsOf env []) Q := fun A hA s R => by
  unfold testsOf; exact wpAny_tests_nil (.here R rfl h)
theorem tests1 {e : Expr} {Q : Bool → St → Prop} (h : TB c n env σ (isTrue e env (eval e env)) Q) : TB c n env σ (testsOf env [e]) Q := fun A hA s R => by
  unfold testsOf; exact wpAny_tests_one (h A hA s R)
end
end

section
open PySem PySem.W PyProof.Rows PySem.Calls
section
variable {α β γ δ : Type} {c : Cx} {n : Nat} {env env' : Env} {σ : St} {tab : List (Str × NameKind)} {cd : Value} {K : Frag}
noncomputable def compTab (tab names : List (Str × NameKind)) : List (Str × NameKind) := names.map fun x => (x.1, if (x.2 == .free && tab.lookup x.1 == some .cell) then .cell else x.2)
noncomputable def compOk (tab : List (Str × NameKind)) (scope : Scope) : Bool :=
  scope.kind == .function && decide (scope.names.map Prod.fst).Nodup && scope.names.all fun x => x.2 == .local || (x.2 == .free && (tab.lookup x.1 == some .cell || tab.lookup x.1 == some .free))
theorem compTab_lookup {tab : List (Str × NameKind)} {x : Str} : ∀ {names : List (Str × NameKind)}, (compTab tab names).lookup x = (names.lookup x).map fun k => if (k == .free && tab.lookup x == some .cell) then .cell else k
  | [] => rfl
  | (n, k) :: r => by
    have ih := compTab_lookup (tab := tab) (x := x) (names := r)
    unfold compTab at ih ⊢
    rw [List.map_cons, List.lookup_cons, List.lookup_cons]
    dsimp only
    by_cases hx : (x == n) = true
    · have : x = n := by simpa using hx
      subst this
      simp
    · have hx' : (x == n) = false := by simpa using hx
      simp only [hx']
      exact ih
/-- what is known when the comprehension's list stands -/
structure CompDone (c : Cx) (env : Env) (σ : St) (s : Shared) (σ₁ : St) (s₁ : Shared) (back : St → St) (acc C : Addr) (ys : List AV) (H : Addr → Option AO) (s' : Shared) : Prop where
  ns : ∃ m, s'.heap.Ns C m
  hb : Back c env σ s σ₁ s₁ back
  off : setH H acc (.list ys) C = none ∧ ¬ FP env C ∧ c.B.get? C = none
  out : s₁.heap.get? C = none
  np : ¬ c.P C
  rel : ∀ h', Heap.SameBut C s'.heap h' → Rel c env ⟨setH H acc (.list ys), σ₁.loc⟩ { s' with heap := h' } ∧ Stp env σ₁ s₁ ⟨setH H acc (.list ys), σ₁.loc⟩ { s' with heap := h' }
noncomputable abbrev kCompK (capt : List (Str × AV)) (I : List AV → (Addr → Option AO) → Prop) (ys : List AV) (b : AV) (σ : St) : Prop := Keeps capt σ.loc ∧ I (ys ++ [b]) σ.H
noncomputable abbrev kCompT (c : Cx) (n : Nat) (env : Env) (elt : Expr) (capt : List (Str × AV)) (I : List AV → (Addr → Option AO) → Prop) (ys : List AV) (ok : Bool) (σ : St) : Prop := (ok = true → TV c n env σ (eval elt env) (kCompK capt I ys)) ∧ (ok = false → Keeps capt σ.loc ∧ I ys σ.H)
noncomputable abbrev kCompA (c : Cx) (n : Nat) (env : Env) (ifs : List Expr) (elt : Expr) (capt : List (Str × AV)) (I : List AV → (Addr → Option AO) → Prop) (ys : List AV) (σ : St) : Prop := TB c n env σ (testsOf env ifs) (kCompT c n env elt capt I ys)
inductive CompTo (c : Cx) (n : Nat) (tab : List (Str × NameKind)) (cd : Value) (target elt : Expr) (ifs : List Expr) (scope : Scope) (Q : List AV → Addr → (Addr → Option AO) → St → (St → St) → Prop) (p : Addr → Prop) (l : List AV) (σ₁ : St) (back : St → St) : Prop
  | mk (hl : l.length ≤ sizeLine) (Inv : Nat → List AV → (Addr → Option AO) → Prop) : Inv 0 [] σ₁.H →
      (∀ env', Sc env' (compTab tab scope.names) cd → ∀ i a ys H, l[i]? = some a → ys.length ≤ i → Inv i ys H → Asg (c.with p) n env' ⟨H, captOf scope.names σ₁.loc⟩ target a (kCompA (c.with p) n env' ifs elt (captOf scope.names σ₁.loc) (Inv (i + 1)) ys)) →
      (∀ ys H acc, Inv l.length ys H → H acc = none → c.B.get? acc = none → (∀ b o, (back σ₁).H b = some o → b ≠ acc) → Q ys acc H σ₁ back) → CompTo c n tab cd target elt ifs scope Q p l σ₁ back
noncomputable def CompHyp (c : Cx) (n : Nat) (env : Env) (σ : St) (tab : List (Str × NameKind)) (cd : Value) (target iter elt : Expr) (ifs : List Expr) (scope : Scope) (Q : List AV → Addr → (Addr → Option AO) → St → (St → St) → Prop) : Prop :=
  IterT c n env σ (eval iter env) target (CompTo c n tab cd target elt ifs scope Q)
noncomputable abbrev kCompQ (Q : AV → St → Prop) (ys : List AV) (acc : Addr) (H : Addr → Option AO) (σ : St) (back : St → St) : Prop := Q (.obj (.ref acc)) (back ⟨setH H acc (.list ys), σ.loc⟩)
noncomputable abbrev kCompS (x : Str) (Q : AF → St → Prop) (ys : List AV) (acc : Addr) (H : Addr → Option AO) (σ : St) (back : St → St) : Prop := (∀ H' a, back ⟨H', put σ.loc x a⟩ = ⟨(back ⟨H', σ.loc⟩).H, put (back ⟨H', σ.loc⟩).loc x a⟩) ∧ Q .next ⟨(back ⟨setH H acc (.list ys), σ.loc⟩).H, put (back ⟨setH H acc (.list ys), σ.loc⟩).loc x (.obj (.ref acc))⟩
theorem compGen {target iter elt : Expr} {ifs : List Expr} {scope : Scope} {pos : Pos} {use : Option (Value → Sem Unit)} {QQ : List AV → Addr → (Addr → Option AO) → St → (St → St) → Prop} {Qv : Value → Shared → Prop} (S : Sc env tab cd) (hok : compOk tab scope = true)
    (hit : CompHyp c n env σ tab cd target iter elt ifs scope QQ)
    (hs : ∀ x, foldedSetIterable iter env x = pure x) {A : Around} (hA : AOk A n) {s : Shared} (R : Rel c env σ s)
    (fin : ∀ σ₁ s₁ back acc C ys H s', CompDone c env σ s σ₁ s₁ back acc C ys H s' → QQ ys acc H σ₁ back → compPost (model c.prog c.w) A Fls use Qv (.ref acc) C (.ok .next) s') :
    wpAny (model c.prog c.w) A (comprehension (.ListComp elt [⟨target, iter, ifs, 0⟩] scope pos) scope env (firstIterPos [⟨target, iter, ifs, 0⟩] pos) (newList []) false (eval iter env) use) Qv Fls s := by
  unfold compOk at hok
  simp only [Bool.and_eq_true, beq_iff_eq, decide_eq_true_eq, List.all_eq_true, Bool.or_eq_true] at hok
  obtain ⟨⟨hkind, hnd⟩, hall⟩ := hok
  have hfree : ∀ x ∈ scope.names, x.2 = .free → ∃ k, env.cells.lookup x.1 = some k := fun x hx hf => by
    rcases hall x hx with h | ⟨_, h⟩
    · rw [hf] at h; cases h
    · exact S.cell _ (by simpa using h)
  have hmem := fun {x : Str} {a : Addr} (h : (x, a) ∈ clF env scope.names []) => (clF_mem hfree h).resolve_left (fun q => by cases q)
  have hndc : ((clF env scope.names []).map Prod.fst).Nodup := clF_nodup hnd List.nodup_nil fun x hx => by cases hx
  have hcap : ∀ x, lk (captOf scope.names σ.loc) x = if isFree scope.names x then lk σ.loc x else none := fun x => lk_captOf hnd
  have freeOf : ∀ {x : Str}, (x, NameKind.free) ∈ scope.names → isFree scope.names x = true := fun {x} h => by unfold isFree; rw [lookup_of_mem hnd h]; rfl
  refine wpAny_comprehension_free (use := use) rfl hs (closureFor_clF hfree) hkind (fun x hx hl => by
    obtain ⟨y, k⟩ := x
    dsimp only at hl
    subst hl
    exact lookup_of_mem hnd hx) ?_
  refine hit A hA s R _ fun p l σ₁ back s₁ I s₂ D fp wr P Md It X hback hq => ?_
  obtain ⟨hlen, Inv, h0, turn, done⟩ := hq
  refine wpAny_newList ?_ (Nat.zero_le _)
  have g1 : ∀ b o, s₂.heap.get? b = some o → (s₂.heap.push ({ cls := .type "list", data := .seq ([] : List Value).toArray } : Obj)).get? b = some o := fun _ _ e => Heap.get?_push_of_some _ e
  refine wpAny_newFunctionEnv (fun x hx q => by rcases hall x hx with h | ⟨h, _⟩ <;> rw [q] at h <;> cases h) (fun x hx => by cases hx) (fun h₄ hns hsb => ?_) hkind
  dsimp only at hns hsb ⊢
  generalize hs₃ : s₂.heap.push ({ cls := .type "list", data := .seq ([] : List Value).toArray } : Obj) = h₃ at hns hsb ⊢
  rw [hs₃] at g1
  have hacc3 : h₃.get? s₂.heap.objs.size = some { cls := .type "list", data := .seq #[] } := by rw [← hs₃]; exact Heap.get?_push_size _ rfl
  have hsz3 : h₃.objs.size = s₂.heap.objs.size + 1 := by rw [← hs₃, Heap.size_push]
  generalize hacc : s₂.heap.objs.size = acc at hacc3 hsz3 ⊢
  generalize hC : h₃.objs.size = C at hns hsb hsz3 ⊢
  have g2 : ∀ b o, h₃.get? b = some o → h₄.get? b = some o := fun b o e => (hsb.2 b (Nat.ne_of_lt (hC ▸ Heap.lt_size e))).trans (Heap.get?_push_of_some _ e)
  have g24 : ∀ b o, s₂.heap.get? b = some o → h₄.get? b = some o := fun b o e => g2 b o (g1 b o e)
  have g14 : ∀ b o, s₁.heap.get? b = some o → h₄.get? b = some o := fun b o e => g24 b o (X.grow b o e)
  have hAC : acc < C := hsz3 ▸ Nat.lt_succ_self _
  have lt1 : ∀ b o, s₁.heap.get? b = some o → b < acc ∧ b < C := fun b o e => by
    have := Heap.lt_size (X.grow b o e)
    rw [hacc] at this
    exact ⟨this, Nat.lt_trans this hAC⟩
  have fA := X.at_.rel.fresh (Nat.le_of_eq hacc)
  have fC := X.at_.rel.fresh (a := C) (by rw [hacc]; exact Nat.le_of_lt hAC)
  generalize henv' : ({ (newEnv scope C env.globals (clF env scope.names []) env.qual none .none (some env) builtinsNs) with scope := relabel scope env } : Env) = env'
  have hloc' : env'.locals = C := by rw [← henv']; rfl
  have hcells' : env'.cells = clF env scope.names [] := by rw [← henv']; rfl
  have hnames' : env'.scope.names = compTab tab scope.names := by
    rw [← henv']
    show (relabel scope env).names = _
    unfold relabel compTab
    refine List.map_congr_left fun x hx => ?_
    obtain ⟨y, k⟩ := x
    show (if (k == NameKind.free && env.scope.kind == .function && env.kindOf y == some .cell) = true then (y, NameKind.cell) else (y, k)) = (y, if (k == NameKind.free && tab.lookup y == some .cell) = true then NameKind.cell else k)
    rw [S.ko, S.kind]
    have : (k == NameKind.free && ScopeKind.function == .function && tab.lookup y == some .cell) = (k == NameKind.free && tab.lookup y == some .cell) := by simp
    rw [this]
    split <;> rfl
  have clk : ∀ {x : Str} {k : Addr}, env'.cells.lookup x = some k → env.cells.lookup x = some k ∧ isFree scope.names x = true := fun {x k} h => by
    rw [hcells'] at h
    have := hmem (mem_of_lookup h)
    exact ⟨this.2, freeOf this.1⟩
  have Sc' : Sc env' (compTab tab scope.names) cd := by
    refine ⟨hnames', by rw [← henv']; exact hkind, by rw [← henv']; exact S.gl, by rw [← henv']; exact S.bi, by rw [← henv']; exact S.code, fun x h => ?_, fun x h => ?_⟩
    · have : (x, NameKind.free) ∈ scope.names := by
        rw [compTab_lookup] at h
        cases e : scope.names.lookup x with
        | none => rw [e] at h; simp at h
        | some k =>
          have hm := mem_of_lookup e
          rw [e] at h
          rcases hall _ hm with q | ⟨q, _⟩
          · have : k = .local := by simpa using q
            subst this
            simp at h
          · have : k = .free := by simpa using q
            subst this
            exact hm
      obtain ⟨a, ha⟩ := clF_has (env := env) (acc := []) (.inl this)
      exact ⟨a, by rw [hcells']; exact lookup_of_mem hndc ha⟩
    · cases e : env'.cells.lookup x with
      | none => rfl
      | some k =>
        have hf := (clk e).2
        unfold isFree at hf
        rw [compTab_lookup] at h
        have hf' : scope.names.lookup x = some .free := by simpa using hf
        rw [hf'] at h
        simp at h
        split at h <;> cases h
  have hcap₁ : ∀ x, lk (captOf scope.names σ₁.loc) x = if isFree scope.names x then lk σ₁.loc x else none := fun x => lk_captOf hnd
  have R₂ := X.at_.rel
  have R₄ : Rel (c.with p) env σ₁ { s₂ with heap := h₄, toks := s₂.toks } := R₂.grow (t := s₂.toks) g24
  have oaA : OA p h₄ acc (.list []) := ⟨#[], 0, g2 _ _ hacc3, .nil⟩
  have R₄a : Rel (c.with p) env ⟨setH σ₁.H acc (.list []), σ₁.loc⟩ { s₂ with heap := h₄, toks := s₂.toks } := R₄.alloc fA.1 fA.2.1 fA.2.2 oaA
  have hCA : C ≠ acc := Nat.ne_of_gt hAC
  have HC : setH σ₁.H acc (.list []) C = none := by rw [setH_ne _ _ hCA]; exact fC.1
  have fpEnv : ∀ b, FP env' b → b = C ∨ FP env b := fun b hb => by
    rcases hb with rfl | ⟨x, hx⟩
    · exact .inl hloc'
    · exact .inr (.inr ⟨x, (clk hx).1⟩)
  have RE : Rel (c.with p) env' ⟨setH σ₁.H acc (.list []), captOf scope.names σ₁.loc⟩ { s₂ with heap := h₄, toks := s₂.toks } := by
    refine ⟨R₄a.base, R₄a.own, R₄a.ownB, ⟨by rw [← henv']; exact hkind, ⟨_, by rw [hloc']; exact hns, fun x a h1 h2 => ?_⟩, fun x k hx => ?_, ?_, fun x k hx q => ?_⟩, fun b hb => ?_, fun b hb => ?_, R₄a.priv, R₄a.pos, R₄a.gh⟩
    · exfalso
      dsimp only at h1
      rw [hcap₁] at h1
      split at h1
      · rename_i hf
        unfold isFree at hf
        have hf' : scope.names.lookup x = some .free := by simpa using hf
        unfold Env.kindOf at h2
        rw [hnames', compTab_lookup, hf'] at h2
        simp at h2
        split at h2 <;> cases h2
      · cases h1
    · obtain ⟨u, hu, q⟩ := R₄a.fr.cells x k (clk hx).1
      refine ⟨u, hu, fun a e => q a ?_⟩
      dsimp only at e
      rw [hcap₁, (clk hx).2, if_pos rfl] at e
      exact e
    · rw [hcells']
      have hnp : ((clF env scope.names []).map Prod.fst).Pairwise (· ≠ ·) := hndc
      rw [List.pairwise_map] at hnp
      refine List.Pairwise.imp_of_mem (fun {x y} hx hy hne q => hne ?_) hnp
      obtain ⟨x, a⟩ := x
      obtain ⟨y, b⟩ := y
      dsimp only at q
      subst q
      exact name_of_addr R₄a.fr.apart (mem_of_lookup (hmem hx).2) (mem_of_lookup (hmem hy).2)
    · rw [hloc'] at q
      exact fC.2.1 (.inr ⟨x, by rw [← q]; exact (clk hx).1⟩)
    · rcases fpEnv b hb with rfl | hb
      · exact HC
      · exact R₄a.fpH b hb
    · rcases fpEnv b hb with rfl | hb
      · exact fC.2.2
      · exact R₄a.fpB b hb
  have hacc0 : s₁.heap.get? acc = none := by
    cases e : s₁.heap.get? acc with
    | none => rfl
    | some o => exact absurd (lt1 acc o e).1 (Nat.lt_irrefl _)
  have SE : Stp env' σ₁ s₁ ⟨setH σ₁.H acc (.list []), captOf scope.names σ₁.loc⟩ { s₂ with heap := h₄, toks := s₂.toks } :=
    ⟨fun b o e _ _ => g14 b o e, fun b o e h1 => by
      have : b ≠ acc := Nat.ne_of_lt (lt1 b o e).1
      show setH σ₁.H acc _ b = none
      rw [setH_ne _ _ this]; exact h1, fun b o e => ⟨o, g14 b o e⟩, X.at_.stp.gens, X.at_.stp.drawn, X.at_.stp.os, X.at_.stp.toks⟩
  have LA : LoopAt c p env' σ₁ s₁ D fp wr ⟨setH σ₁.H acc (.list []), captOf scope.names σ₁.loc⟩ { s₂ with heap := h₄, toks := s₂.toks } := by
    refine ⟨RE, SE, X.src.mono _ _ (.all g24) X.at_.data, fun b hb => ?_⟩
    obtain ⟨h1, h2, o, h3⟩ := X.at_.free b hb
    have hlt := Heap.lt_size h3
    rw [hacc] at hlt
    refine ⟨?_, fun q => ?_, o, g24 b o h3⟩
    · show setH σ₁.H acc _ b = none
      rw [setH_ne _ _ (Nat.ne_of_lt hlt)]; exact h1
    · rcases fpEnv b q with rfl | q
      · exact absurd (Nat.lt_trans hlt hAC) (Nat.lt_irrefl _)
      · exact h2 q
  have hit4 : It 0 h₄ := (X.src.turns A hA.handled).frame _ _ _ X.it fun b hb o e => g24 b o e
  have loop : codeAny (model c.prog c.w) A (.compLoop (.ListComp elt [⟨target, iter, ifs, 0⟩] scope pos) 0 (.ref I) (.ref acc) env') (compPost (model c.prog c.w) A Fls use Qv (.ref acc) C) { s₂ with heap := h₄, toks := s₂.toks } := by
    refine codeAny_mono (codeComp X.hp X.src X.sub Inv hA LA fA.1 hit4 X.base X.out X.hp0 h0 hlen (turn env' Sc')) (fun r s' hr => ?_)
    cases r with
    | error e => exact hr.elim
    | ok f =>
      obtain ⟨H', ys, hHa, R', S', hI⟩ := hr
      obtain ⟨m, hm, _⟩ := R'.fr.ns
      have hCn : s₁.heap.get? C = none := by
        cases e : s₁.heap.get? C with
        | none => rfl
        | some o => exact absurd (lt1 C o e).2 (Nat.lt_irrefl _)
      have X' : CompDone c env σ s σ₁ s₁ back acc C ys H' s' := by
        refine ⟨⟨m, hloc' ▸ hm⟩, hback, ⟨hloc' ▸ R'.fpH _ (.inl rfl), fC.2.1, fC.2.2⟩, hCn, fun q => (by obtain ⟨o, e⟩ := X.hp0 C q; rw [hCn] at e; cases e), fun h' hs' => ?_⟩
        exact Rel.leaveComp X.rel₁ R' S' (by rw [hloc']; exact hCn) (fun x k hx => ⟨(clk hx).1, by
          show lk (captOf scope.names σ₁.loc) x = _
          rw [hcap₁, (clk hx).2, if_pos rfl]⟩) (hloc' ▸ hs')
      have := fin σ₁ s₁ back acc C ys H' s' X' (done ys H' acc hI hHa fA.2.2 fun b o e => by
        obtain ⟨ob, hob⟩ := ((hback σ₁ s₁ X.rel₁ (Stp.refl ..)).1.own b o e).there
        exact Nat.ne_of_lt (lt1 b ob hob).1)
      cases use <;> exact this
  have hloc'' : (newEnv scope C env.globals (clF env scope.names []) env.qual none .none (some env) builtinsNs).locals = C := rfl
  rw [hloc'']
  exact codeAny_compStart_list loop (X.self A hA.handled _ _ _ hit4 loop)
theorem tComp {target iter elt : Expr} {ifs : List Expr} {scope : Scope} {pos : Pos} {Q : AV → St → Prop} (S : Sc env tab cd) (hok : compOk tab scope = true)
    (hit : CompHyp c n env σ tab cd target iter elt ifs scope (kCompQ Q))
    (hs : ∀ x, foldedSetIterable iter env x = pure x) :
    TV c n env σ (eval (.ListComp elt [⟨target, iter, ifs, 0⟩] scope pos) env) Q := fun A hA s R => by
  rw [show eval (.ListComp elt [⟨target, iter, ifs, 0⟩] scope pos) env = comprehension (.ListComp elt [⟨target, iter, ifs, 0⟩] scope pos) scope env (firstIterPos [⟨target, iter, ifs, 0⟩] pos) (newList []) false (eval iter env) from rfl]
  refine compGen S hok hit hs hA R fun σ₁ s₁ back acc C ys H s' X hq => ?_
  obtain ⟨m, hm⟩ := X.ns
  refine ⟨m, hm, fun h' hs' => ?_⟩
  obtain ⟨R'', S''⟩ := X.rel h' hs'
  obtain ⟨Rb, Sb⟩ := X.hb _ _ R'' S''
  exact ⟨_, _, .obj _, Rb, Sb, hq⟩
/-- x = [..], where the value goes into the name ahead of the comprehension's end -/
theorem sComp {x : Str} {px spos : Pos} {target iter elt : Expr} {ifs : List Expr} {scope : Scope} {pos : Pos} {Q : AF → St → Prop} (S : Sc env tab cd) (hok : compOk tab scope = true) (hx : okSet tab x = true)
    (hsw : ∃ b, swapsWith (.ListComp elt [⟨target, iter, ifs, 0⟩] scope pos) (some (.Name x px)) spos.line env = pure b)
    (hit : CompHyp c n env σ tab cd target iter elt ifs scope (kCompS x Q))
    (hs : ∀ x, foldedSetIterable iter env x = pure x) :
    TF c n env σ (exec (.Assign [.Name x px] (.ListComp elt [⟨target, iter, ifs, 0⟩] scope pos) spos) env) Q := by
  obtain ⟨b, hsw⟩ := hsw
  cases b with
  | false =>
    refine sAssign (tComp S hok (fun A hA s R K k => hit A hA s R K fun p l σ₁ back s₁ I s₂ D fp wr P Md It X hb hq => k p l σ₁ back s₁ I s₂ D fp wr P Md It X hb ?_) hs) (S.kept hx) hsw
    obtain ⟨h1, Inv, h2, h3, h4⟩ := hq
    exact ⟨h1, Inv, h2, h3, fun ys H acc a b e f => (h4 ys H acc a b e f).2⟩
  | true =>
    intro A hA s R
    rw [exec_Assign_Name_used _ _ _ _ hsw]
    refine wpAny_bind (wpAny_standAt (wpAny_bind ?_))
    show wpAny _ A (do let _ ← comprehension (.ListComp elt [⟨target, iter, ifs, 0⟩] scope pos) scope env (firstIterPos [⟨target, iter, ifs, 0⟩] pos) (newList []) false (eval iter env) (some (assign (.Name x px) env))) _ _ s
    refine wpAny_bind (wpAny_mono (compGen (use := some (assign (.Name x px) env)) (Qv := fun _ s' => Post c env σ s (FR c.P) Q .next s') S hok hit hs hA R fun σ₁ s₁ back acc C ys H s' X hq => ?_) (fun _ s' hq => wpAny_pure (wpAny_pure hq)) fun _ _ e => e)
    obtain ⟨hbk, hq⟩ := hq
    obtain ⟨m, hm⟩ := X.ns
    obtain ⟨R₂, S₂⟩ := X.rel s'.heap (.refl ..)
    show wpAny _ A (assign (.Name x px) env (.ref acc)) _ _ s'
    refine wpAny_assign_Name (wpAny_mono (store (Q := fun _ σ' => σ' = ⟨setH H acc (.list ys), put σ₁.loc x (.obj (.ref acc))⟩) (S.kept hx) R₂ (.obj (.ref acc)) rfl) (fun _ s'' y => ?_) fun _ _ e => e.elim)
    obtain ⟨_, σ₃, _, R₃, S₃, rfl⟩ := y
    have hm' : s''.heap.Ns C m := hm.at' fun o e => S₃.keep C o e X.off.1 X.off.2.1
    refine ⟨m, hm', fun h' hs' => ?_⟩
    obtain ⟨oC, esC, epC, eC, dC, rC⟩ := id hm'
    have ki : KI c.P s''.heap h' := fun a o hi hp t => (hs'.2 a fun q => by
      subst q
      rw [eC] at t
      cases t
      rcases hi with ⟨_, _, _, hd⟩ | ⟨_, _, hd⟩ <;> rw [dC] at hd <;> cases hd).trans t
    have lv : ∀ b o, s''.heap.get? b = some o → b ≠ C → h'.get? b = some o := fun b o e q => (hs'.2 b q).trans e
    have neC : ∀ b o, s₁.heap.get? b = some o → b ≠ C := fun b o e q => by subst q; rw [X.out] at e; cases e
    have R₄ : Rel c env ⟨setH H acc (.list ys), put σ₁.loc x (.obj (.ref acc))⟩ { s'' with heap := h' } := by
      refine ⟨fun b o e => lv b o (R₃.base b o e) (fun q => by subst q; rw [X.off.2.2] at e; cases e), fun a o e => (R₃.own a o e).keep (fun ob q => lv a ob q (fun z => by subst z; have := X.off.1; dsimp only at e; rw [this] at e; cases e)) ki, R₃.ownB, R₃.fr.keep (fun b ob hb q => lv b ob q (fun z => X.off.2.1 (z ▸ hb))) ki, R₃.fpH, R₃.fpB, (fun b q => ?_), R₃.pos, R₃.gh⟩
      obtain ⟨o, e⟩ := R₃.priv b q
      by_cases hb : b = C
      · subst hb; exact absurd q X.np
      · exact ⟨o, lv b o e hb⟩
    have S₄ : Stp env σ₁ s₁ ⟨setH H acc (.list ys), put σ₁.loc x (.obj (.ref acc))⟩ { s'' with heap := h' } := by
      have S := S₂.trans S₃
      exact ⟨fun b o e h1 h2 => lv b o (S.keep b o e h1 h2) (neC b o e), S.dom, fun b o e => let ⟨o', e'⟩ := S.live b o e; ⟨o', lv b o' e' (neC b o e)⟩, S.gens, S.drawn, S.os, S.toks⟩
    obtain ⟨Rb, Sb⟩ := X.hb _ _ R₄ S₄
    rw [hbk] at Rb Sb
    exact ⟨_, _, .next, Rb, Sb, hq⟩
end
end

section
open PySem PySem.W PyProof.Rows PySem.Calls
section
variable {α β γ δ : Type} {c : Cx} {n : Nat} {env env' : Env} {σ : St} {tab : List (Str × NameKind)} {cd : Value} {K : Frag}
theorem lk_mem {x : Str} {a : AV} : ∀ {fs : List (Str × AV)}, lk fs x = some a → x ∈ fs.map Prod.fst
  | [], e => by cases e
  | (y, u) :: r, e => by
    unfold lk at e
    by_cases hx : x = y
    · simp [hx]
    · rw [if_neg hx] at e
      exact List.mem_cons_of_mem _ (lk_mem e)
/-! ### targets -/
theorem aName {x : Str} {pos : Pos} {a : AV} {Q : St → Prop} (S : Sc env tab cd) (hk : okSet tab x = true) (h : Q ⟨σ.H, put σ.loc x a⟩) : Asg c n env σ (.Name x pos) a Q :=
  ⟨fun A hA s R va hv => wpAny_assign_Name (store (Q := fun _ σ' => Q σ') (S.kept hk) R hv h)⟩
noncomputable def putAll : List (Str × AV) → List Str → List AV → List (Str × AV)
  | loc, x :: xs, a :: as => putAll (put loc x a) xs as
  | loc, _, _ => loc
theorem storesInOrder {A : Around} (hA : AOk A n) (S : Sc env tab cd) {Q : St → Prop} : ∀ (xs : List (Str × Pos)) {as : List AV} {σ : St} {s : Shared} {vs : List Value}, Rel c env σ s → VRs c.P s.heap as vs → xs.length = as.length → (xs.all fun x => okSet tab x.1) = true → Q ⟨σ.H, putAll σ.loc (xs.map Prod.fst) as⟩ →
    wpAny (model c.prog c.w) A (assignInOrder (xs.map fun x => assign (.Name x.1 x.2) env) vs) (Post c env σ s EqR fun _ σ' => Q σ') Fls s := by
  intro xs
  induction xs with
  | nil =>
    intro as σ s vs R hv hl _ h
    cases as with
    | nil => cases hv; exact wpAny_assignInOrder_none ⟨(), σ, rfl, R, .refl .., h⟩
    | cons _ _ => cases hl
  | cons x xs ih =>
    intro as σ s vs R hv hl hk h
    cases as with
    | nil => cases hl
    | cons a as =>
      cases hv with
      | cons hv hvs =>
        simp only [List.all_cons, Bool.and_eq_true] at hk
        refine wpAny_assignInOrder_more (wpAny_assign_Name (wpAny_mono (store (Q := fun _ σ' => σ' = ⟨σ.H, put σ.loc x.1 a⟩) (S.kept hk.1) R hv rfl) (fun _ s₁ y => ?_) fun _ _ e => e))
        obtain ⟨_, σ₁, _, R₁, S₁, rfl⟩ := y
        exact wpAny_mono (ih R₁ (S₁.vrs R hvs) (by simpa using hl) hk.2 h) (fun _ _ y => Post.from S₁ y) fun _ _ e => e
theorem assignEach_names (env : Env) : ∀ xs : List (Str × Pos), assignEach (xs.map fun x => .Name x.1 x.2) env = xs.map fun x => (false, assign (.Name x.1 x.2) env)
  | [] => rfl
  | x :: xs => by rw [List.map_cons, List.map_cons, ← assignEach_names env xs]; rfl
theorem opUnpack {xs : List (Str × Pos)} {as : List AV} {k : Nat} {pos : Pos} {Q : St → Prop} (S : Sc env tab cd) (hl : xs.length = as.length) (hk : (xs.all fun x => okSet tab x.1) = true) (h : Q ⟨σ.H, putAll σ.loc (xs.map Prod.fst) as⟩) :
    Op1 c n env EqR σ (assign (.Tuple (xs.map fun x => .Name x.1 x.2) k pos) env) (.tup as) fun _ σ' => Q σ' := fun A hA s R va hv => by
  cases hv with
  | tup hp ht hvs =>
    refine wpAny_assign_Tuple hA.handled ht (by rw [assignEach_names]; simp [hl, ← hvs.length]) (by rw [assignEach_names]; simp [List.findIdx?_eq_none_iff]) fun h' hx => ?_
    rw [assignEach_names, List.map_map]
    have kp : ∀ b o, s.heap.get? b = some o → h'.get? b = some o := fun b o e => hx b o (Nat.ne_of_lt (Heap.lt_size e)) e
    have R' := R.grow (t := s.toks) kp
    exact wpAny_mono (storesInOrder hA S (Q := Q) xs R' (hvs.keep (.all kp)) hl hk h) (fun _ _ x => Post.from (Stp.grow (t := s.toks) kp) x) fun _ _ e => e
theorem aTup {elts : List Expr} {xs : List (Str × Pos)} {as : List AV} {k : Nat} {pos : Pos} {Q : St → Prop} (S : Sc env tab cd) (he : elts = xs.map fun x => .Name x.1 x.2) (hl : xs.length = as.length) (hk : (xs.all fun x => okSet tab x.1) = true)
    (h : Q ⟨σ.H, putAll σ.loc (xs.map Prod.fst) as⟩) : Asg c n env σ (.Tuple elts k pos) (.tup as) Q := by subst he; exact ⟨opUnpack S hl hk h⟩
/-- a, b = .. -/
theorem sUnpack {elts : List Expr} {xs : List (Str × Pos)} {k : Nat} {tpos : Pos} {value : Expr} {pos : Pos} {Q : AF → St → Prop} (S : Sc env tab cd) (he : elts = xs.map fun x => .Name x.1 x.2) (hk : (xs.all fun x => okSet tab x.1) = true)
    (h : TV c n env σ (eval value env) fun a σ₁ => ∃ as, a = .tup as ∧ xs.length = as.length ∧ Q .next ⟨σ₁.H, putAll σ₁.loc (xs.map Prod.fst) as⟩)
    (hs : swapsWithSole [.Tuple elts k tpos] value pos.line env = pure false) (hw : swappedStores [.Tuple elts k tpos] value env = pure none) : TF c n env σ (exec (.Assign [.Tuple elts k tpos] value pos) env) Q := fun A hA s R => by
  subst he
  refine Assign_Tuple (last h hA R fun a va σ₁ s₁ hv R₁ S₁ h₁ => ?_) hs hw
  obtain ⟨as, rfl, hl, hq⟩ := h₁
  refine wpAny_mono (opUnpack (Q := fun σ' => Q .next σ') S hl hk hq A hA s₁ R₁ va hv) (fun _ s₂ x => ?_) fun _ _ e => e
  obtain ⟨_, σ₂, _, R₂, S₂, hq⟩ := x
  exact ⟨_, σ₂, .next, R₂, S₁.trans S₂, hq⟩
/-! ### attributes of an instance -/
/-- an instance of the class C: its object x, its dict dx -/
structure Inst (H : Addr → Option AO) (x C dx : Addr) (fs : List (Str × AV)) : Prop where
  obj : H x = some (.inst C dx)
  dict : H dx = some (.attrs fs)
theorem lookIn_of {o : Obj} {es : Array DictEntry} {ep : Nat} {m : Str → Option Value} {name : Str} (hd : o.data = .dict es ep) (hk : StrKeys es) (hf : ∀ x, nsFind es x = m x) : lookIn name o = some (m name) := by
  unfold lookIn
  rw [hd]
  dsimp only
  have := hf name
  unfold nsFind findBy at this
  rw [← Array.find?_toList] at this
  cases e : es.toList.find? (·.key.isStr name) with
  | some en => rw [e] at this; simpa using this
  | none =>
    rw [e] at this
    have hr : es.toList.any (·.refKey) = false := by
      rw [List.any_eq_false]
      intro x hx
      obtain ⟨nm, t, hk'⟩ := hk x (Array.mem_toList_iff.mp hx)
      simp [DictEntry.refKey, hk']
    simp only [hr, Bool.false_eq_true, if_false]
    simpa using this
theorem Rel.inst {s : Shared} (R : Rel c env σ s) {x C dx : Addr} {fs : List (Str × AV)} (I : Inst σ.H x C dx fs) : ∃ od m, InstAt s.heap x (instObj C dx) C (some od) ∧ s.heap.get? dx = some od ∧ s.heap.Ns1 dx m ∧ Fields c.P s.heap m fs ∧ (∀ name, lookIn name od = some (m name)) ∧ dx ≠ x := by
  obtain ⟨hx, hne⟩ := R.own x _ I.obj
  obtain ⟨m, hn, hf⟩ := R.own dx _ I.dict
  obtain ⟨o, es, ep, ho, hd, hk, hu, hm⟩ := id hn
  exact ⟨o, m, ⟨hx, rfl, rfl, ho⟩, ho, hn, hf, fun name => lookIn_of hd hk hm, hne⟩
theorem handed_ok {p : Addr → Prop} {h : Heap} {a : AV} {v : Value} (x : VR p h a v) (hb : ∀ w, a = .obj w → handedIn w = true) : handedIn v = true := by
  cases a <;> cases x <;> first | rfl | exact hb _ rfl
noncomputable def clsOk (K : Frag) (C : Addr) : Bool := findIn K (.ref C) "__getattribute__" == some (some (.builtin "object.__getattribute__")) && findIn K (.ref C) "__setattr__" == some (some (.builtin "object.__setattr__")) &&
  (match clsIn K C with | some cd => cd.hasDict && onlyObject cd.mro | none => false) && findIn K (.ref C) "__getattr__" == some none
/-- a name that the class itself does not have -/
noncomputable def ownName (K : Frag) (C : Addr) (name : Str) : Bool := findIn K (.ref C) name == some none
theorem opGetAttr {x C dx : Addr} {fs : List (Str × AV)} {name : Str} {a : AV} {e : Bool} {Q : AV → St → Prop} (G : Good c K) (hc : clsOk K C = true) (hn : ownName K C name = true) (I : Inst σ.H x C dx fs) (hl : lk fs name = some a) (hb : ∀ w, a = .obj w → handedIn w = true) (h : Q a σ) :
    TV c n env σ (getAttr (.ref x) name e) Q := fun A hA s R => by
  obtain ⟨od, m, IA, hod, hn1, hf, hlook, hne⟩ := R.inst I
  unfold clsOk at hc
  simp only [Bool.and_eq_true, beq_iff_eq] at hc
  obtain ⟨⟨⟨h1, h2⟩, h3⟩, h4⟩ := hc
  have hfn := hf name
  rw [hl] at hfn
  obtain ⟨v, hv, hvr⟩ := hfn
  have hfo : findObj K C (some od) name = some (.value v) := by
    unfold findObj
    cases hcd : clsIn K C with
    | none => rw [hcd] at h3; cases h3
    | some cd =>
      rw [hcd] at h3
      simp only [Bool.and_eq_true] at h3
      unfold ownName at hn
      rw [beq_iff_eq] at hn
      simp only [Option.bind_some, hn]
      unfold W.ownOf
      rw [h3.1, if_pos rfl]
      dsimp only
      rw [hlook name, hv]
      rfl
  exact get_value (G.inK.keeps R.base) IA h1 hfo (handed_ok hvr hb) (postTok R hvr h)
inductive AttrTo (K : Frag) (a : AV) (H : Addr → Option AO) (name : Str) (R : AV → Prop) : Prop
  | mk (x C dx : Addr) (fs : List (Str × AV)) (b : AV) : a = .obj (.ref x) → clsOk K C = true → ownName K C name = true → Inst H x C dx fs → lk fs name = some b → (∀ w, b = .obj w → handedIn w = true) → R b → AttrTo K a H name R
noncomputable abbrev kAttr (K : Frag) (name : Str) (Q : AV → St → Prop) (a : AV) (σ : St) : Prop := AttrTo K a σ.H name (kAt Q σ)
theorem tAttr {o : Expr} {name : Str} {pos : Pos} {Q : AV → St → Prop} (G : Good c K) (h : TV c n env σ (eval o env) (kAttr K name Q))
    (he : eval (.Attribute o name pos) env = (do
      let o' ← eval o env
      standAt pos.atName
      let r ← holding [o'] (getAttr o' name true)
      letTemporaryGo o o' r
      pure r)) (hg : ∀ x r, letTemporaryGo o x r = pure ()) : TV c n env σ (eval (.Attribute o name pos) env) Q := fun A hA s R => by
  rw [he]
  refine wpAny_bind (last h hA R fun a va σ₁ s₁ hv R₁ S₁ h₁ => ?_)
  obtain ⟨x, C, dx, fs, b, rfl, h1, h2, I, h3, h4, hq⟩ := h₁
  cases hv
  refine wpAny_bind (wpAny_standAt (wpAny_bind (wpAny_holding (wpAny_mono (opGetAttr (e := true) (Q := Q) G h1 h2 I h3 h4 hq A hA s₁ R₁) (fun r s₂ y => ?_) fun _ _ e => e))))
  rw [hg]
  exact wpAny_bind (wpAny_pure (wpAny_pure (y.from S₁)))
theorem opSetAttr {x C dx : Addr} {fs : List (Str × AV)} {name : Str} {a : AV} {Q : Unit → St → Prop} (G : Good c K) (hc : clsOk K C = true) (hn : ownName K C name = true) (I : Inst σ.H x C dx fs) (hsz : fs.length ≤ 1000)
    (h : Q () ⟨setH σ.H dx (.attrs (put fs name a)), σ.loc⟩) : Op1 c n env EqR σ (fun v => setAttr (.ref x) name v) a Q := fun A hA s R va hva => by
  obtain ⟨od, m, IA, hod, hn1, hf, hlook, hne⟩ := R.inst I
  unfold clsOk at hc
  simp only [Bool.and_eq_true, beq_iff_eq] at hc
  obtain ⟨⟨⟨h1, h2⟩, h3⟩, h4⟩ := hc
  have X := G.inK.keeps R.base
  have hov : plainOver K C = true := by
    unfold plainOver
    cases hcd : clsIn K C with
    | none => rw [hcd] at h3; cases h3
    | some cd => rw [hcd] at h3; simp only [Bool.and_eq_true] at h3; exact h3.2
  have hdict : (clsIn K C).any (·.hasDict) = true := by
    cases hcd : clsIn K C with
    | none => rw [hcd] at h3; cases h3
    | some cd => rw [hcd] at h3; simp only [Bool.and_eq_true] at h3; exact h3.1
  unfold ownName at hn
  rw [beq_iff_eq] at hn
  have ht : takerIn K C name = some none := by unfold takerIn; rw [hn]; rfl
  refine set_plain X IA h2 (osa_open (od := some od) (ox := instObj C dx) X IA hov ht fun b => ?_)
  obtain ⟨cd, hcd, hd'⟩ := any_some hdict
  refine wpAny_bind (wpAny_pure (wpAny_bind (wpAny_bind (wpAny_loadPart IA.at_ (wpAny_bind (looks_clsIn X hcd _ _ _ _ (fun _ _ e => e) ?_))))))
  rw [hd']
  refine wpAny_pure (a := some dx) (wpAny_bind (wpAny_pure (wpAny_bind ?_)))
  have hw : Within m (fs.map Prod.fst) := fun y hy => by
    have := hf y
    cases e : lk fs y with
    | none => rw [e] at this; exact absurd this hy
    | some b => exact lk_mem e
  have ki : ∀ h', Heap.SameBut dx s.heap h' → KI c.P s.heap h' := fun h' hs b o hi _ q => (hs.2 b fun z => by subst z; have := (R.imm hi q).1; rw [I.dict] at this; cases this).trans q
  refine wpAny_nsSet1 (s := { s with toks := s.toks + 1 }) hn1 fun h' hn' hs => ?_
  have oa : OA c.P h' dx (.attrs (put fs name a)) := ⟨_, hn', fun y => by
    have := hf y
    rw [lk_put]
    by_cases hy : y = name
    · simp only [hy, if_true]
      exact ⟨va, rfl, hva.keep (ki h' hs)⟩
    · simp only [hy, if_false]
      cases e : lk fs y with
      | none => rw [e] at this; exact this
      | some b =>
        rw [e] at this
        obtain ⟨v, h1, h2⟩ := this
        exact ⟨v, h1, h2.keep (ki h' hs)⟩⟩
  obtain ⟨oD, esD, epD, hoD, hdD, hcD⟩ := hn'.count (Within.cons name va hw)
  have hcD' : esD.size ≤ sizeLine := by
    have h5 : (name :: fs.map Prod.fst).length ≤ 1001 := by simp; omega
    rw [sizeLine_eq]; omega
  refine wpAny_bind (wpAny_lookBehind hoD (by rw [hdD]; exact pastItsLine_dict (Nat.le_succ_of_le hcD')) (wpAny_pure ?_))
  exact ⟨(), _, rfl, R.upd (t := s.toks + 1 + 1) I.dict hs oa, Stp.upd (t := s.toks + 1 + 1) I.dict hs oa, h⟩
/-- o.x = e -/
inductive SetATo (K : Frag) (name : Str) (Q : AF → St → Prop) (b a : AV) (σ : St) : Prop
  | mk (x C dx : Addr) (fs : List (Str × AV)) : a = .obj (.ref x) → clsOk K C = true → ownName K C name = true → Inst σ.H x C dx fs → fs.length ≤ 1000 → Q .next ⟨setH σ.H dx (.attrs (put fs name b)), σ.loc⟩ → SetATo K name Q b a σ
noncomputable abbrev kSetA (c : Cx) (n : Nat) (env : Env) (o : Expr) (K : Frag) (name : Str) (Q : AF → St → Prop) (b : AV) (σ : St) : Prop := TV c n env σ (eval o env) (SetATo K name Q b)
theorem sSetAttr {o : Expr} {name : Str} {pos' : Pos} {value : Expr} {pos : Pos} {Q : AF → St → Prop} (G : Good c K)
    (h : TV c n env σ (eval value env) (kSetA c n env o K name Q))
    (hs : swapsWith value (some (.Attribute o name pos')) pos.line env = pure false) : TF c n env σ (exec (.Assign [.Attribute o name pos'] value pos) env) Q := fun A hA s R =>
  plainObj_wpAny_Assign_Attribute (last h hA R fun b vb σ₁ s₁ hb R₁ S₁ h₁ => last h₁ hA R₁ fun a va σ₂ s₂ ha R₂ S₂ h₂ => by
    obtain ⟨x, C, dx, fs, rfl, h3, h4, I, h5, hq⟩ := h₂
    cases ha
    refine wpAny_mono (opSetAttr (Q := fun _ σ' => Q .next σ') G h3 h4 I h5 hq A hA s₂ R₂ vb (S₂.vr R₁ hb)) (fun _ s₃ y => ?_) fun _ _ e => e
    obtain ⟨_, σ₃, _, R₃, S₃, hq⟩ := y
    exact ⟨_, σ₃, .next, R₃, S₁.trans (S₂.trans S₃), hq⟩) hs
/-- o.x += e -/
theorem sAugAttr {o : Expr} {name : Str} {tpos : Pos} {op : Operator} {value : Expr} {pos : Pos} {Q : AF → St → Prop} (G : Good c K)
    (h : TV c n env σ (eval o env) fun a σ₁ => ∃ x C dx fs b, a = .obj (.ref x) ∧ clsOk K C = true ∧ ownName K C name = true ∧ Inst σ₁.H x C dx fs ∧ fs.length ≤ 1000 ∧ lk fs name = some b ∧ (∀ w, b = .obj w → handedIn w = true) ∧
      TV c n env σ₁ (eval value env) fun d σ₂ => σ₂ = σ₁ ∧ ∃ r, InpR op b d r ∧ Q .next ⟨setH σ₁.H dx (.attrs (put fs name r)), σ₁.loc⟩) : TF c n env σ (exec (.AugAssign (.Attribute o name tpos) op value pos) env) Q := fun A hA s R =>
  wpAny_AugAssign_AttributeAny (last h hA R fun a va σ₁ s₁ ha R₁ S₁ h₁ => by
    obtain ⟨x, C, dx, fs, b, rfl, h1, h2, I, h3, h4, h5, h6⟩ := h₁
    cases ha
    refine last (opGetAttr (e := true) (Q := fun r σ' => r = b ∧ σ' = σ₁) G h1 h2 I h4 h5 ⟨rfl, rfl⟩) hA R₁ fun r vr σ₂ s₂ hr R₂ S₂ h₂ => ?_
    obtain ⟨rfl, rfl⟩ := h₂
    refine last h6 hA R₂ fun d vd σ₃ s₃ hd R₃ S₃ h₃ => ?_
    obtain ⟨rfl, r', h7, hq⟩ := h₃
    refine wpAny_mono (h7.ok (Q := fun v σ' => v = r' ∧ σ' = σ₃) ⟨rfl, rfl⟩ A hA s₃ R₃ vr vd (S₃.vr R₂ hr) hd) (fun v s₄ y => ?_) fun _ _ e => e
    obtain ⟨v', σ₄, hv, R₄, S₄, rfl, rfl⟩ := y
    refine wpAny_mono (opSetAttr (Q := fun _ σ' => Q .next σ') G h1 h2 I h3 hq A hA s₄ R₄ v hv) (fun _ s₅ y => ?_) fun _ _ e => e
    obtain ⟨_, σ₅, _, R₅, S₅, hq⟩ := y
    exact ⟨_, σ₅, .next, R₅, S₁.trans (S₂.trans (S₃.trans (S₄.trans S₅))), hq⟩)
end
end

section
open PySem PySem.W PyProof.Rows PySem.Calls
section
variable {α β γ δ : Type} {c : Cx} {n : Nat} {env env' : Env} {σ : St} {tab : List (Str × NameKind)} {cd : Value} {K : Frag}
/-! ### the body of a def, its scope by its table alone -/
structure FdOk (fd : FuncData) (cd : Value) : Prop where
  clo : fd.closure = []
  kind : fd.scope.kind = .function
  co : fd.scope.isCoroutine = false
  gen : fd.scope.isGenerator = false
  gl : fd.globals = mainGlobals
  bi : fd.builtins = builtinsNs
  code : fd.code = cd
  nd : (fd.scope.names.map Prod.fst).Nodup
  nofree : ∀ x ∈ fd.scope.names, x.2 ≠ .free
noncomputable def locsOk (tab : List (Str × NameKind)) (xs : List Str) : Bool := decide xs.Nodup && xs.all fun x => tab.lookup x == some .local || tab.lookup x == some .cell
theorem callC_fn {H : Addr → Option AO} {f : Addr} {fd : FuncData} {args kv : List AV} {kn : List Str} {locs : List (Str × AV)} {body : List Stmt} {Q : AV → (Addr → Option AO) → Prop}
    (hf : FnAt c f fd) (ho : FdOk fd cd) (hb : Binds c fd args kn kv locs) (hbody : fd.body = .stmts body) (hl : locsOk fd.scope.names (locs.map Prod.fst) = true)
    (h : ∀ env', Sc env' fd.scope.names cd → TF c n env' ⟨H, locs⟩ (execs body env') fun fl σ' => LeftTo env' σ' (Q (retOf fl))) :
    CallC c (n + 1) H (.ref f) args kn kv Q := by
  unfold locsOk at hl
  simp only [Bool.and_eq_true, decide_eq_true_eq, List.all_eq_true, Bool.or_eq_true, beq_iff_eq] at hl
  refine callC_def hf hb hbody ho.clo ho.kind ho.co ho.gen hl.1 ho.nd hl.2 fun L => h _ ⟨rfl, ho.kind, ho.gl, ho.bi, ho.code, fun x hx => ?_, fun x hx => ?_⟩
  · rcases hx with hx | hx
    · exact Option.isSome_iff_exists.mp (cellsFrom_some _ _ _ (.inl hx))
    · exact absurd rfl (ho.nofree _ (mem_of_lookup hx))
  · cases e : (callEnvC fd L f).cells.lookup x with
    | none => rfl
    | some k =>
      rcases cellsFrom_kind _ _ _ ho.nd (by simp) e with q | q
      · rw [hx] at q; cases q
      · simp at q
/-! ### a class is called -/
theorem AOk.make {A : Around} {n : Nat} (h : AOk A (n + 1)) (C : Addr) (vals : List Value) (kw : List (Str × Value)) : AOk (A.under (.builtin "type.__call__" ⟨.ref C :: vals, kw⟩)) n := by
  have h1 : (Code.builtin "type.__call__" ⟨.ref C :: vals, kw⟩).weight = 1 := rfl
  have h2 : (Code.builtin "type.__call__" ⟨.ref C :: vals, kw⟩).cUnits = 1 := rfl
  refine ⟨h.handled, ?_, ?_⟩
  · show A.depth + (Code.builtin "type.__call__" ⟨.ref C :: vals, kw⟩).weight + n < _
    rw [h1]; have := h.depth; lia
  · show A.units + (Code.builtin "type.__call__" ⟨.ref C :: vals, kw⟩).cUnits + 50 * (n + 1) < _
    rw [h2]; have := h.units; lia
theorem callC_make {H : Addr → Option AO} {C fI : Addr} {args : List AV} {Q : AV → (Addr → Option AO) → Prop} (G : Good c K) (hm : makesIn K C = true) (hi : findIn K (.ref C) "__init__" = some (some (.ref fI))) (hf : typeIn K (.ref fI) = some (.type "function"))
    (h : ∀ x dx, H x = none → H dx = none → x ≠ dx → c.B.get? x = none → c.B.get? dx = none → CallC c n (setH (setH H dx (.attrs [])) x (.inst C dx)) (.ref fI) (.obj (.ref x) :: args) [] [] fun a H' => a = .none ∧ Q (.obj (.ref x)) H') :
    CallC c (n + 1) H (.ref C) args [] [] Q := fun env loc A hA s R vs hv ks hk => by
  cases hk
  obtain ⟨hh, g, d, t, os⟩ := s
  have X := G.inK.keeps R.base
  have kp : ∀ b o, hh.get? b = some o → ((hh.push emptyDict).push (instObj C hh.objs.size)).get? b = some o := fun b o e => Heap.get?_push_of_some _ (Heap.get?_push_of_some _ e)
  have f1 := R.fresh (a := hh.objs.size) (Nat.le_refl _)
  have f2 := R.fresh (a := hh.objs.size + 1) (Nat.le_succ _)
  have ne : hh.objs.size + 1 ≠ hh.objs.size := Nat.succ_ne_self _
  have R₁ : Rel c env ⟨H, loc⟩ ⟨(hh.push emptyDict).push (instObj C hh.objs.size), g, d, t, os⟩ := R.grow (t := t) kp
  have hd : ((hh.push emptyDict).push (instObj C hh.objs.size)).get? hh.objs.size = some emptyDict := Heap.get?_push_of_some _ (Heap.get?_push_size _ rfl)
  have hx : ((hh.push emptyDict).push (instObj C hh.objs.size)).get? (hh.objs.size + 1) = some (instObj C hh.objs.size) := by
    have := Heap.get?_push_size (hh.push emptyDict) (o := instObj C hh.objs.size) rfl
    rwa [Heap.size_push] at this
  have oaD : OA c.P ((hh.push emptyDict).push (instObj C hh.objs.size)) hh.objs.size (.attrs []) := ⟨fun _ => none, ⟨_, #[], 0, hd, rfl, by intro e he; simp at he, by unfold UniqKeys; simp, fun name => rfl⟩, fun y => rfl⟩
  have R₂ := R₁.alloc f1.1 f1.2.1 f1.2.2 oaD
  have hn2 : setH H hh.objs.size (.attrs []) (hh.objs.size + 1) = none := by rw [setH_ne _ _ ne]; exact f2.1
  have oaI : OA c.P ((hh.push emptyDict).push (instObj C hh.objs.size)) (hh.objs.size + 1) (.inst C hh.objs.size) := ⟨hx, ne.symm⟩
  have R₃ := R₂.alloc hn2 f2.2.1 f2.2.2 oaI
  refine make_core (makes_of X hm) (looks_findIn X hi) (fun self => bind_fn X self hf) (.inl rfl) ?_
  refine codeAny_mono (h (hh.objs.size + 1) hh.objs.size f2.1 f1.1 ne f2.2.2 f1.2.2 env loc _ (hA.make C _ _) _ R₃ (.ref (hh.objs.size + 1) :: vs) (.cons (.obj _) (hv.keep (.all kp))) [] .nil) fun r s' z => ?_
  rcases r with e | (v | _ | _ | _) <;> first | exact z.elim | skip
  obtain ⟨a, σ', hva, R', S', hloc, rfl, hq⟩ := z
  cases hva
  refine ⟨rfl, _, σ', .obj _, R', ?_, hloc, hq⟩
  have lt : ∀ b o, hh.get? b = some o → b ≠ hh.objs.size ∧ b ≠ hh.objs.size + 1 := fun b o e => ⟨Nat.ne_of_lt (Heap.lt_size e), Nat.ne_of_lt (Nat.lt_succ_of_lt (Heap.lt_size e))⟩
  have old : ∀ b o, hh.get? b = some o → H b = none → setH (setH H hh.objs.size (.attrs [])) (hh.objs.size + 1) (.inst C hh.objs.size) b = none := fun b o e q => by
    rw [setH_ne _ _ (lt b o e).2, setH_ne _ _ (lt b o e).1]; exact q
  exact ⟨fun b o e h1 h2 => S'.keep b o (kp b o e) (old b o e h1) h2, fun b o e h1 => S'.dom b o (kp b o e) (old b o e h1), fun b o e => S'.live b o (kp b o e), S'.gens, S'.drawn, S'.os, S'.toks⟩
/-! ### methods -/
theorem Rel.typeC {s : Shared} (R : Rel c env σ s) {x C dx : Addr} {fs : List (Str × AV)} (I : Inst σ.H x C dx fs) : Looks (model c.prog c.w) s.heap (typeOf (.ref x)) (.ref C) := by
  obtain ⟨od, m, IA, _⟩ := R.inst I
  exact IA.type
theorem opGetMethod {x C dx f : Addr} {fs : List (Str × AV)} {name : Str} {pl : Sem Bool} {A : Around} {s : Shared} {Q : Value × List Value → Shared → Prop} (G : Good c K) (R : Rel c env σ s) (hc : clsOk K C = true) (hm : findIn K (.ref C) name = some (some (.ref f)))
    (hf : typeIn K (.ref f) = some (.type "function")) (I : Inst σ.H x C dx fs) (hl : lk fs name = none) (h : Q (.ref f, [.ref x]) s) : wpAny (model c.prog c.w) A (getMethod (.ref x) name pl) Q Fls s := by
  obtain ⟨od, m, IA, hod, hn1, hfl, hlook, hne⟩ := R.inst I
  unfold clsOk at hc
  simp only [Bool.and_eq_true, beq_iff_eq] at hc
  obtain ⟨⟨⟨h1, h2⟩, h3⟩, h4⟩ := hc
  have X := G.inK.keeps R.base
  have hmn : m name = none := by have := hfl name; rw [hl] at this; exact this
  have T := IA.type (M := model c.prog c.w)
  have sp : ∀ {nm : Str} {r : Option Value}, findIn K (.ref C) nm = some r → Looks (model c.prog c.w) s.heap (specialOf (.ref x) nm) r := fun e => T.andThen (looks_findIn X e)
  unfold getMethod
  refine wpAny_bind ((sp h1).here ?_)
  dsimp only
  rw [if_neg (by decide +kernel)]
  refine wpAny_bind ((sp h4).here ?_)
  simp only [Option.isSome_none, Bool.false_eq_true, if_false]
  refine wpAny_bind ((sp hm).here ?_)
  dsimp only
  refine wpAny_bind ((looks_typeIn X hf).here ?_)
  rw [if_neg (by decide)]
  refine wpAny_bind (wpAny_loadPart IA.at_ ?_)
  refine wpAny_bind (wpAny_nsGet hn1.ns ?_)
  rw [hmn]
  simp only [Option.isSome_none, Bool.false_eq_true, if_false]
  exact wpAny_bind (wpAny_rule (wpAny_pure h))
/-- where the instance itself has the attribute -/
theorem opGetOwn {x C dx : Addr} {fs : List (Str × AV)} {name : Str} {pl : Sem Bool} {A : Around} {s : Shared} {v : Value} {Q : Value × List Value → Shared → Prop} (hA : AOk A n) (G : Good c K) (R : Rel c env σ s) (hc : clsOk K C = true) (hn : ownName K C name = true)
    (I : Inst σ.H x C dx fs) (hl : lk fs name = some (.obj v)) (hh : handedIn v = true) (h : ∀ t, Q (v, []) { s with toks := t }) : wpAny (model c.prog c.w) A (getMethod (.ref x) name pl) Q Fls s := by
  obtain ⟨od, m, IA, hod, hn1, hfl, hlook, hne⟩ := R.inst I
  have hc' := hc
  unfold clsOk at hc
  simp only [Bool.and_eq_true, beq_iff_eq] at hc
  obtain ⟨⟨⟨h1, h2⟩, h3⟩, h4⟩ := hc
  have X := G.inK.keeps R.base
  have T := IA.type (M := model c.prog c.w)
  have sp : ∀ {nm : Str} {r : Option Value}, findIn K (.ref C) nm = some r → Looks (model c.prog c.w) s.heap (specialOf (.ref x) nm) r := fun e => T.andThen (looks_findIn X e)
  have hm : findIn K (.ref C) name = some none := by unfold ownName at hn; simpa using hn
  unfold getMethod
  refine wpAny_bind ((sp h1).here ?_)
  dsimp only
  rw [if_neg (by decide +kernel)]
  refine wpAny_bind ((sp h4).here ?_)
  simp only [Option.isSome_none, Bool.false_eq_true, if_false]
  refine wpAny_bind ((sp hm).here ?_)
  dsimp only
  have hfo : findObj K C (some od) name = some (.value v) := by
    unfold findObj
    cases hcd : clsIn K C with
    | none => rw [hcd] at h3; cases h3
    | some cd =>
      rw [hcd] at h3
      simp only [Bool.and_eq_true] at h3
      simp only [Option.bind_some, hm]
      unfold W.ownOf
      rw [h3.1, if_pos rfl]
      dsimp only
      have hfn := hfl name
      rw [hl] at hfn
      obtain ⟨v', hv, hvr⟩ := hfn
      cases hvr
      rw [hlook name, hv]
      rfl
  exact wpAny_bind (get_value X IA h1 hfo hh (wpAny_pure (h _)))
inductive MethTo (K : Frag) (a : AV) (H : Addr → Option AO) (name : Str) (R : Addr → Addr → Prop) : Prop
  | mk (x C dx : Addr) (fs : List (Str × AV)) (f : Addr) : a = .obj (.ref x) → clsOk K C = true → findIn K (.ref C) name = some (some (.ref f)) → typeIn K (.ref f) = some (.type "function") → Inst H x C dx fs → lk fs name = none → keepIn K (.ref f) = true → R x f → MethTo K a H name R
noncomputable abbrev kMethA (c : Cx) (n : Nat) (env : Env) (pos : Pos) (es : List Expr) (kws : List Keyword) (Q : AV → St → Prop) (σ : St) (x f : Addr) : Prop := TL c n env σ (spliced (backTo pos (starEach es env))) (kKws1 c n env pos kws (.ref f) (.obj (.ref x)) Q)
noncomputable abbrev kMeth (c : Cx) (n : Nat) (env : Env) (K : Frag) (name : Str) (pos : Pos) (es : List Expr) (kws : List Keyword) (Q : AV → St → Prop) (a : AV) (σ : St) : Prop := MethTo K a σ.H name (kMethA c n env pos es kws Q σ)
noncomputable abbrev kMethB (c : Cx) (n : Nat) (Q : AV → St → Prop) (σ : St) (x f : Addr) : Prop := CallS c n σ.H (.ref f) [.obj (.ref x)] [] [] (kBack Q σ.loc)
noncomputable abbrev kMeth0 (c : Cx) (n : Nat) (K : Frag) (name : Str) (Q : AV → St → Prop) (a : AV) (σ : St) : Prop := MethTo K a σ.H name (kMethB c n Q σ)
noncomputable abbrev kBM (c : Cx) (n : Nat) (id : String) (a : AV) (Q : AV → St → Prop) (l : List AV) (σ : St) : Prop := CallS c n σ.H (.builtin id) (a :: l) [] [] (kBack Q σ.loc)
noncomputable abbrev kBMA (c : Cx) (n : Nat) (env : Env) (pos : Pos) (es : List Expr) (id : String) (a : AV) (Q : AV → St → Prop) (σ : St) : Prop := TL c n env σ (spliced (backTo pos (starEach es env))) (kBM c n id a Q)
theorem tMeth {o : Expr} {name : Str} {apos : Pos} {e : Expr} {rest : List Expr} {kws : List Keyword} {pos : Pos} {Q : AV → St → Prop} (G : Good c K)
    (h : TV c n env σ (eval o env) (kMeth c n env K name pos (e :: rest) kws Q))
    (hbase : attributeBase o name env (eval o env) = eval o env)
    (hform : methodCallForm ((e :: rest).length + kws.length) (backTo pos (starEach (e :: rest) env)) (backToKw pos (keywordEach kws env)) = true) (hline : (apos.endLine == pos.line) = true)
    (he : backTo pos (starEach (e :: rest) env) = (false, eval e env) :: backTo pos (starEach rest env))
    (hplain : ((backTo pos (starEach (e :: rest) env)).any (·.1) || (backToKw pos (keywordEach kws env)).any (·.1.isNone)) = false)
    (hall : (backToKw pos (keywordEach kws env)).all (·.1.isSome) = true) :
    TV c n env σ (eval (.Call (.Attribute o name apos) (e :: rest) kws pos) env) Q := fun A hA s R => by
  rw [arm_eval_Call, hbase]
  refine wpAny_bind (last h hA R fun a va σ₀ s₀ ha R₀ S₀ h₀ => ?_)
  obtain ⟨x, C, dx, fs, f, rfl, h1, h2, h3, I, h4, h5, h6⟩ := h₀
  cases ha
  refine wpAny_bind (wpAny_standAt ?_)
  unfold methodCall calleeOf
  rw [hform]
  refine wpAny_bind (wpAny_holding (opGetMethod G R₀ h1 h2 h3 I h4 ?_))
  have hpos : methodCallPos true o env apos pos = pure pos := by unfold methodCallPos; simp [hline]
  refine wpAny_bind (wpAny_of_eq hpos ?_)
  exact wpAny_mono (callTail (fa := [.obj (.ref x)]) (first := [.ref x]) (KeepB.of_K G.inK h5) h6 he hplain hall hA R₀ (.cons (.obj _) .nil)) (fun _ _ y => y.from S₀) fun _ _ e => e
theorem tMeth0 {o : Expr} {name : Str} {apos : Pos} {pos : Pos} {Q : AV → St → Prop} (G : Good c K)
    (h : TV c n env σ (eval o env) (kMeth0 c n K name Q))
    (hbase : attributeBase o name env (eval o env) = eval o env) (hline : (apos.endLine == pos.line) = true) :
    TV c n env σ (eval (.Call (.Attribute o name apos) [] [] pos) env) Q := fun A hA s R => by
  rw [arm_eval_Call, hbase]
  refine wpAny_bind (last h hA R fun a va σ₀ s₀ ha R₀ S₀ h₀ => ?_)
  obtain ⟨x, C, dx, fs, f, rfl, h1, h2, h3, I, h4, h5, h6⟩ := h₀
  cases ha
  refine wpAny_bind (wpAny_standAt ?_)
  unfold methodCall calleeOf
  have hform : methodCallForm (([] : List Expr).length + ([] : List Keyword).length) (backTo pos (starEach [] env)) (backToKw pos (keywordEach [] env)) = true := rfl
  rw [hform]
  refine wpAny_bind (wpAny_holding (opGetMethod G R₀ h1 h2 h3 I h4 ?_))
  have hpos : methodCallPos true o env apos pos = pure pos := by unfold methodCallPos; simp [hline]
  refine wpAny_bind (wpAny_of_eq hpos ?_)
  exact wpAny_mono (callTail0 (fa := [.obj (.ref x)]) (first := [.ref x]) (KeepB.of_K G.inK h5) h6 hA R₀ (.cons (.obj _) .nil)) (fun _ _ y => y.from S₀) fun _ _ e => e
/-- a method of a built-in type: of a str, a list .. -/
theorem tBM {o : Expr} {name : Str} {apos : Pos} {e : Expr} {rest : List Expr} {pos : Pos} {T id : String} {Q : AV → St → Prop}
    (h : TV c n env σ (eval o env) fun a σ₀ => (∀ s v, Rel c env σ₀ s → VR c.P s.heap a v → s.TypeIs v T ∧ ∀ b, v = .ref b → ∃ ob, s.heap.get? b = some ob ∧ ob.dict = none) ∧
      TL c n env σ₀ (spliced (backTo pos (starEach (e :: rest) env))) fun l σ₂ => CallS c n σ₂.H (.builtin id) (a :: l) [] [] fun a H' => Q a ⟨H', σ₂.loc⟩)
    (hbase : attributeBase o name env (eval o env) = eval o env)
    (hfew : ((backTo pos (starEach (e :: rest) env)).all (fun x => !x.1) && (backToKw pos (keywordEach [] env)).all (fun x => x.1.isSome)
      && decide ((e :: rest).length + ([] : List Keyword).length + (if ([] : List Keyword).isEmpty then 0 else 1) < 30)) = true)
    (hline : (apos.endLine == pos.line) = true) (pa : PlainAttrs T) (slot : Slot T name id) (hty : typeOf (.builtin id) = pure (.type "method_descriptor"))
    (he : backTo pos (starEach (e :: rest) env) = (false, eval e env) :: backTo pos (starEach rest env))
    (hplain : ((backTo pos (starEach (e :: rest) env)).any (·.1) || (backToKw pos (keywordEach [] env)).any (·.1.isNone)) = false) :
    TV c n env σ (eval (.Call (.Attribute o name apos) (e :: rest) [] pos) env) Q := fun A hA s R => by
  refine wpAny_Call_method hbase hfew hline pa slot hty (last h hA R fun a va σ₀ s₀ ha R₀ S₀ h₀ => ?_)
  obtain ⟨ht, h6⟩ := h₀
  obtain ⟨t1, t2⟩ := ht s₀ va R₀ ha
  refine ⟨t1, t2, ?_⟩
  exact wpAny_mono (callTail (fa := [a]) (first := [va]) (kws := []) KeepB.builtin (h6.mono fun l σ₁ h => fun A hA s R => wpAny_pure (.here R .nil h)) he hplain rfl hA R₀ (.cons ha .nil)) (fun _ _ y => y.from S₀) fun _ _ e => e
end
end

section
open PySem PySem.W PyProof.Rows PySem.Calls
section
variable {α β γ δ : Type} {c : Cx} {n : Nat} {env env' : Env} {σ : St} {tab : List (Str × NameKind)} {cd : Value} {K : Frag}
/-! ### items -/
inductive ItemR (σ : St) : AV → AV → AV → Prop
  | list {a : Addr} {l : List AV} {k : Int} {j : Nat} {x : AV} : σ.H a = some (.list l) → seqIndex? k l.length = some j → l[j]? = some x → -(2 ^ 63) ≤ k → k < 2 ^ 63 → ItemR σ (.obj (.ref a)) (.int k) x
  | tup {l : List AV} {k : Int} {j : Nat} {x : AV} : seqIndex? k l.length = some j → l[j]? = some x → -(2 ^ 63) ≤ k → k < 2 ^ 63 → ItemR σ (.tup l) (.int k) x
  | str {x : Str} {k : Int} : fitsSsize k = true → -(x.length : Int) ≤ k → k < x.length → ItemR σ (.str x) (.int k) (.str (Txt.item x k))
theorem getItem_listAny {prog : Program} {w : World} {A : Around} {E : Value → Shared → Prop} {s : Shared} {l : Addr} {items : Array Value} {k : Int} {t : Tok} {j : Nat} {x : Value} {Q : Value → Shared → Prop} (hl : s.heap.IsList l items)
    (hj : seqIndex? k items.size = some j) (hx : items[j]? = some x) (h0 : -(2 ^ 63) ≤ k) (h1 : k < 2 ^ 63) (h : Q x s) : wpAny (model prog w) A (getItem (.ref l) (.int k t)) Q E s := by
  unfold seqIndex? at hj
  by_cases hk : k < 0
  · rw [if_pos hk] at hj
    dsimp only at hj
    split at hj
    · rename_i hc
      simp only [Bool.and_eq_true, decide_eq_true_eq] at hc
      cases hj
      exact wpAny_getItem_list_neg hl hk (by lia) h0 hx h
    · cases hj
  · rw [if_neg hk] at hj
    dsimp only at hj
    split at hj
    · cases hj
      exact wpAny_getItem_list hl (by lia) h1 hx h
    · cases hj
inductive ItemTo (σ : St) (o i : AV) (K : AV → Prop) : Prop | mk (r : AV) : ItemR σ o i r → K r → ItemTo σ o i K
noncomputable abbrev kItemTo (Q : AV → St → Prop) (o i : AV) (σ : St) : Prop := ItemTo σ o i (kAt Q σ)
noncomputable abbrev kSub (c : Cx) (n : Nat) (env : Env) (slice : Expr) (Q : AV → St → Prop) (o : AV) (σ : St) : Prop := TV c n env σ (eval slice env) (kItemTo Q o)
theorem tSub {value slice : Expr} {pos : Pos} {Q : AV → St → Prop} (h : TV c n env σ (eval value env) (kSub c n env slice Q))
    (hs : ∀ o i, subscripted slice false o i = operate [o, i] (getItem o i)) (ht : ∀ o r, letTemporaryGo value o r = pure ()) : TV c n env σ (eval (.Subscript value slice pos) env) Q := fun A hA s R =>
  Subscript_ (last h hA R fun o vo σ₁ s₁ ho R₁ S₁ h₁ => last h₁ hA R₁ fun i vi σ₂ s₂ hi R₂ S₂ h₂ => by
    obtain ⟨r, hr, hq⟩ := h₂
    have ho' := S₂.vr R₁ ho
    cases hr with
    | list ha hj hx h0 h1 =>
      cases ho
      cases hi
      obtain ⟨items, m, hl, hvs⟩ := R₂.own _ _ ha
      obtain ⟨v, hv, hvr⟩ := hvs.get hx
      have hlen := hvs.length
      rw [Array.length_toList] at hlen
      exact subscriptTail_builtin ⟨_, hl, rfl⟩ slot_list_getitem.lookup (getItem_listAny ⟨_, hl, rfl, m, rfl⟩ (hlen ▸ hj) (by simpa using hv) h0 h1 ⟨_, σ₂, hvr, R₂, S₁.trans S₂, hq⟩) (hs _ _) (ht _)
    | tup hj hx h0 h1 =>
      cases hi
      cases ho' with
      | tup hp hT hvs =>
        obtain ⟨v, hv, hvr⟩ := hvs.get hx
        have hlen := hvs.length
        exact PyProof.Rows.item_tuple hT h0 h1 (by rw [← hlen] at hj; simpa using hj) (by simpa using hv) ⟨_, σ₂, hvr, R₂, S₁.trans S₂, hq⟩ (hs _ _) (ht _)
    | str h0 h1 h2 =>
      cases hi
      cases ho
      exact PyProof.Rows.item_str h0 h1 h2 (fun _ => ⟨_, σ₂, .str .., R₂.tok _, S₁.trans (S₂.trans (Stp.tok _)), hq⟩) (hs _ _) (ht _))
/-! ### an object of the ledger, a list -/
theorem postUpd {ρ : Heap → β → α → Prop} {D : Addr} {l l' : List AV} {items : Array Value} {m : Nat} {s : Shared} {f : Array Value → Array Value} {Q : β → St → Prop} {a : α} {b : β} (R : Rel c env σ s) (hD : σ.H D = some (.list l)) (hl : IsL s.heap D items m)
    (hv : ∀ h', KI c.P s.heap h' → VRs c.P h' l' (f items).toList) (ha : ∀ h', KI c.P s.heap h' → ρ h' b a) (hq : Q b ⟨setH σ.H D (.list l'), σ.loc⟩) {t : Nat} (ht : s.toks ≤ t := by walk_at "my_tk") :
    Post c env σ s ρ Q a { s with heap := s.heap.update D (Obj.mapSeq f), toks := t } := by
  have hs : Heap.SameBut D s.heap (s.heap.update D (Obj.mapSeq f)) := Heap.SameBut.update ..
  have ki : KI c.P s.heap (s.heap.update D (Obj.mapSeq f)) := fun b o hi _ q => (hs.2 b fun z => by subst z; have := (R.imm hi q).1; rw [hD] at this; cases this).trans q
  have oa : OA c.P (s.heap.update D (Obj.mapSeq f)) D (.list l') := ⟨f items, _, IsL.update hl f, hv _ ki⟩
  exact ⟨b, _, ha _ ki, R.upd hD hs oa, Stp.upd hD hs oa, hq⟩
theorem erase_toList (xs : Array Value) (k : Nat) : (xs.eraseIdxIfInBounds k).toList = xs.toList.eraseIdx k := by
  unfold Array.eraseIdxIfInBounds
  split
  · simp
  · rename_i h
    rw [List.eraseIdx_of_length_le]
    simpa using h
theorem append_toList (xs : Array Value) (ys : List Value) : (xs ++ ys.toArray).toList = xs.toList ++ ys := by simp
/-- l.append(x) -/
theorem cAppend {D : Addr} {l : List AV} {H : Addr → Option AO} {b : AV} {Q : AV → (Addr → Option AO) → Prop} (hD : H D = some (.list l)) (hsz : l.length ≤ sizeLine) (h : Q .none (setH H D (.list (l ++ [b])))) :
    CallS c n H (.builtin "list.append") [.obj (.ref D), b] [] [] Q := fun env loc A hA s R vs hv ks hk => by
  cases hk
  cases hv with
  | cons h1 hv => cases hv with
    | cons h2 hv =>
      cases hv
      cases h1
      exact opAppend (σ := ⟨H, loc⟩) (Q := fun a σ' => σ'.loc = loc ∧ Q a σ'.H) hD hsz ⟨rfl, h⟩ A hA s R _ h2
/-- l.pop() -/
theorem cPop {D : Addr} {l : List AV} {H : Addr → Option AO} {b : AV} {Q : AV → (Addr → Option AO) → Prop} (hD : H D = some (.list (l ++ [b]))) (hsz : (l ++ [b]).length ≤ sizeLine) (h : Q b (setH H D (.list l))) :
    CallS c n H (.builtin "list.pop") [.obj (.ref D)] [] [] Q := fun env loc A hA s R vs hv ks hk => by
  cases hk
  cases hv with
  | cons h1 hv =>
    cases hv
    cases h1
    obtain ⟨items, m, hl, hvs⟩ := R.own D _ hD
    have hlen : items.size = (l ++ [b]).length := by have := hvs.length; simpa using this
    obtain ⟨y, hy, hyr⟩ := hvs.get (i := l.length) (a := b) (by simp)
    have hy' : items[items.size - 1]? = some y := by rw [hlen]; simpa using hy
    refine call_meets PySem.F.slot_list_pop ⟨_, hl, rfl⟩ PySem.F.entry_list_pop (PySem.F.args_list_pop_1 _) (PySem.MeetsSeq.list_pop_last D _ m y hy' (hlen ▸ hsz)) ⟨hl, ?_⟩
    refine postUpd R hD hl (fun h' ki => ?_) (fun h' ki => hyr.keep ki) ⟨rfl, h⟩
    rw [erase_toList]
    have e : (l ++ [b]).eraseIdx (items.size - 1) = l := by rw [hlen]; simp [List.eraseIdx_append_of_length_le]
    have := (hvs.keep ki).eraseIdx (items.size - 1)
    rwa [e] at this
/-- l.pop(i) -/
theorem cPopAt {D : Addr} {l : List AV} {H : Addr → Option AO} {i : Int} {k : Nat} {b : AV} {Q : AV → (Addr → Option AO) → Prop} (hD : H D = some (.list l)) (hsz : l.length ≤ sizeLine) (hf : Builtin.List.listFitsIndex i = true) (hk : seqIndex? i l.length = some k) (hb : l[k]? = some b)
    (h : Q b (setH H D (.list (l.eraseIdx k)))) : CallS c n H (.builtin "list.pop") [.obj (.ref D), .int i] [] [] Q := fun env loc A hA s R vs hv ks hks => by
  cases hks
  cases hv with
  | cons h1 hv => cases hv with
    | cons h2 hv =>
      cases hv
      cases h1
      cases h2
      obtain ⟨items, m, hl, hvs⟩ := R.own D _ hD
      have hlen : items.size = l.length := by have := hvs.length; simpa using this
      obtain ⟨y, hy, hyr⟩ := hvs.get hb
      refine call_meets PySem.F.slot_list_pop ⟨_, hl, rfl⟩ PySem.F.entry_list_pop (PySem.F.args_list_pop_2 _ _) (PySem.MeetsSeq.list_pop_at D _ m i _ k y hf (hlen ▸ hk) (by simpa using hy) (hlen ▸ hsz)) ⟨hl, ?_⟩
      refine postUpd R hD hl (fun h' ki => ?_) (fun h' ki => hyr.keep ki) ⟨rfl, h⟩
      rw [erase_toList]
      exact (hvs.keep ki).eraseIdx k
/-- l.insert(i, x) -/
theorem cInsert {D : Addr} {l : List AV} {H : Addr → Option AO} {i : Int} {k : Nat} {b : AV} {Q : AV → (Addr → Option AO) → Prop} (hD : H D = some (.list l)) (hsz : l.length ≤ sizeLine) (hf : Builtin.List.listFitsIndex i = true) (hi : i = (k : Int)) (hk : k ≤ l.length)
    (h : Q .none (setH H D (.list (l.take k ++ b :: l.drop k)))) : CallS c n H (.builtin "list.insert") [.obj (.ref D), .int i, b] [] [] Q := fun env loc A hA s R vs hv ks hks => by
  cases hks
  cases hv with
  | cons h1 hv => cases hv with
    | cons h2 hv => cases hv with
      | cons h3 hv =>
        rename_i y _
        cases hv
        cases h1
        cases h2
        obtain ⟨items, m, hl, hvs⟩ := R.own D _ hD
        have hlen : items.size = l.length := by have := hvs.length; simpa using this
        refine call_meets PySem.F.slot_list_insert ⟨_, hl, rfl⟩ PySem.F.entry_list_insert (PySem.F.args_list_insert_3 _ _ _) (PySem.AutoSeq1.list_insert_list_int_val_1 D _ m i _ _ (by simp [hf]) (hlen ▸ hsz)) ⟨hl, ?_⟩
        refine postUpd R hD hl (fun h' ki => ?_) (fun h' ki => .none) ⟨rfl, h⟩
        have hkk : (if i < 0 then (i + (items.size : Int)).toNat else min i.toNat items.size) = k := by
          rw [if_neg (by lia), hlen]; lia
        dsimp only
        rw [hkk]
        have e : ((items.extract 0 k).push y ++ items.extract k).toList = items.toList.take k ++ y :: items.toList.drop k := by
          simp [Array.toList_extract, List.extract_eq_take_drop]
          exact List.take_of_length_le (by simp)
        rw [e]
        exact ((hvs.keep ki).take k).append (.cons (h3.keep ki) ((hvs.keep ki).drop k))
/-- l.extend(other) -/
theorem cExtend {D b : Addr} {l l2 : List AV} {H : Addr → Option AO} {Q : AV → (Addr → Option AO) → Prop} (hD : H D = some (.list l)) (hb : H b = some (.list l2)) (hsz : l.length + l2.length ≤ 1000000) (h : Q .none (setH H D (.list (l ++ l2)))) :
    CallS c n H (.builtin "list.extend") [.obj (.ref D), .obj (.ref b)] [] [] Q := fun env loc A hA s R vs hv ks hks => by
  cases hks
  cases hv with
  | cons h1 hv => cases hv with
    | cons h2 hv =>
      cases hv
      cases h1
      cases h2
      obtain ⟨items, m, hl, hvs⟩ := R.own D _ hD
      obtain ⟨items2, m2, hl2, hvs2⟩ := R.own b _ hb
      have hlen : items.size = l.length := by have := hvs.length; simpa using this
      have hlen2 : items2.size = l2.length := by have := hvs2.length; simpa using this
      have hz := sizeLine_eq
      refine call_meets PySem.F.slot_list_extend ⟨_, hl, rfl⟩ PySem.F.entry_list_extend (PySem.F.args_list_extend_2 _ _) (PySem.AutoSeq1.list_extend_list_list_0 D items m b items2 m2 ?_ (by lia) (by lia)) ⟨hl, hl2, ?_⟩
      · rw [hlen, hlen2]
        have : Builtin.List.listTooLong (l.length + l2.length) = false := by
          unfold Builtin.List.listTooLong
          simp; lia
        simp [this]
      · refine postUpd R hD hl (fun h' ki => ?_) (fun h' ki => .none) ⟨rfl, h⟩
        rw [Array.toList_append]
        exact (hvs.keep ki).append (hvs2.keep ki)
/-- l[i] = v -/
inductive SetITo (Q : AF → St → Prop) (b a j : AV) (σ : St) : Prop
  | mk (D : Addr) (l : List AV) (k : Int) : a = .obj (.ref D) → j = .int k → σ.H D = some (.list l) → 0 ≤ k → k < 2 ^ 63 → k < l.length → Q .next ⟨setH σ.H D (.list (l.set k.toNat b)), σ.loc⟩ → SetITo Q b a j σ
noncomputable abbrev kSetI (c : Cx) (n : Nat) (env : Env) (i : Expr) (Q : AF → St → Prop) (b a : AV) (σ : St) : Prop := TV c n env σ (eval i env) (SetITo Q b a)
noncomputable abbrev kSetI1 (c : Cx) (n : Nat) (env : Env) (o i : Expr) (Q : AF → St → Prop) (b : AV) (σ : St) : Prop := TV c n env σ (eval o env) (kSetI c n env i Q b)
theorem sSetItem {o i : Expr} {pos' : Pos} {value : Expr} {pos : Pos} {Q : AF → St → Prop}
    (h : TV c n env σ (eval value env) (kSetI1 c n env o i Q))
    (hs : swapsWith value (some (.Subscript o i pos')) pos.line env = pure false) : TF c n env σ (exec (.Assign [.Subscript o i pos'] value pos) env) Q := fun A hA s R =>
  wpAny_Assign_Subscript (last h hA R fun b vb σ₁ s₁ hb R₁ S₁ h₁ => last h₁ hA R₁ fun a va σ₂ s₂ ha R₂ S₂ h₂ => last h₂ hA R₂ fun j vj σ₃ s₃ hj R₃ S₃ h₃ => by
    obtain ⟨D, l, k, rfl, rfl, hD, h0, h1, h2, hq⟩ := h₃
    cases ha
    cases hj
    obtain ⟨items, m, hl, hvs⟩ := R₃.own D _ hD
    have hlen : items.size = l.length := by have := hvs.length; simpa using this
    have hbr := S₃.vr R₂ (S₂.vr R₁ hb)
    refine ki_setAt hl h0 h1 (by lia) ?_
    have := postUpd (ρ := FR c.P) (Q := Q) (a := Flow.next) (b := AF.next) (f := fun xs => xs.setIfInBounds k.toNat vb) (t := s₃.toks) R₃ hD hl (l' := l.set k.toNat b) (fun h' ki => by
      rw [Array.toList_setIfInBounds]
      exact (hvs.keep ki).set _ (hbr.keep ki)) (fun h' ki => .next) hq
    exact this.from (S₁.trans (S₂.trans S₃))) hs
end
end

section
section
variable {α β γ δ : Type} {c : Cx} {n : Nat} {env env' : Env} {σ : St} {tab : List (Str × NameKind)} {cd : Value} {K : Frag}
/-! ### == of data -/
noncomputable def datB : Nat → AV → Bool
  | _, .int _ => true
  | _, .str _ => true
  | _, .float x => Float64.cmp x x == some .eq
  | d + 1, .tup l => l.all (datB d)
  | _, _ => false
noncomputable def eqB : Nat → AV → AV → Bool
  | _, .int i, .int j => i == j
  | _, .str x, .str y => x == y
  | _, .float x, .float y => Float64.cmp x y == some .eq
  | d + 1, .tup l, .tup l' => ((List.range (min l.length l'.length)).all fun j => eqB d (l.getD j .none) (l'.getD j .none)) && l.length == l'.length
  | _, _, _ => false
/-- data of one shape -/
inductive Shp : AV → AV → Prop
  | int (i j : Int) : Shp (.int i) (.int j)
  | str (x y : Str) : Shp (.str x) (.str y)
  | float (x : UInt64) : Shp (.float x) (.float x)
  | tup (l l' : List AV) : (∀ (j : Nat) (a b : AV), l[j]? = some a → l'[j]? = some b → Shp a b) → Shp (.tup l) (.tup l')
theorem VRs.fun {p : Addr → Prop} {h : Heap} {d : Nat} (ih : ∀ {a a' : AV} {v : Value}, datB d a = true → datB d a' = true → VR p h a v → VR p h a' v → a = a') :
    ∀ {l l' : List AV} {vs : List Value}, l.all (datB d) = true → l'.all (datB d) = true → VRs p h l vs → VRs p h l' vs → l = l'
  | [], [], _, _, _, _, _ => rfl
  | [], _ :: _, _, _, _, x, y => by cases x; cases y
  | _ :: _, [], _, _, _, x, y => by cases x; cases y
  | _ :: _, _ :: _, _, h1, h2, x, y => by
    cases x with
    | cons a b => cases y with
      | cons a' b' =>
        simp only [List.all_cons, Bool.and_eq_true] at h1 h2
        rw [ih h1.1 h2.1 a a', VRs.fun ih h1.2 h2.2 b b']
noncomputable def imm : Value → Option AV
  | .int i _ => some (.int i)
  | .str x _ => some (.str x)
  | .float x _ => some (.float x)
  | _ => Option.none
theorem VR.dat {p : Addr → Prop} {h : Heap} {d : Nat} {a : AV} {v : Value} (h1 : datB d a = true) (x : VR p h a v) : imm v = some a ∨ (imm v = Option.none ∧ ∃ d' l, d = d' + 1 ∧ a = .tup l ∧ l.all (datB d') = true ∧ VTup p h (VRs p h l) v) := by
  cases a with
  | int i => cases x; exact .inl rfl
  | str i => cases x; exact .inl rfl
  | float i => cases x; exact .inl rfl
  | tup l => cases d with
    | zero => cases h1
    | succ d => exact .inr ⟨by cases x; rfl, d, l, rfl, rfl, h1, x⟩
  | _ => cases d <;> cases h1
theorem VR.fun {p : Addr → Prop} {h : Heap} {d : Nat} : ∀ {a a' : AV} {v : Value}, datB d a = true → datB d a' = true → VR p h a v → VR p h a' v → a = a' := by
  induction d with
  | zero =>
    intro a a' v h1 h2 x y
    rcases x.dat h1 with e | ⟨_, _, _, q, _⟩
    · rcases y.dat h2 with e' | ⟨_, _, _, q, _⟩
      · exact Option.some.inj (e.symm.trans e')
      · cases q
    · cases q
  | succ d ih =>
    intro a a' v h1 h2 x y
    rcases x.dat h1 with e | ⟨e, d1, l, q, rfl, g1, x⟩
    · rcases y.dat h2 with e' | ⟨e', _⟩
      · exact Option.some.inj (e.symm.trans e')
      · rw [e'] at e; cases e
    · rcases y.dat h2 with e' | ⟨_, d2, l', q', rfl, g2, y⟩
      · rw [e'] at e; cases e
      · cases q; cases q'
        cases x with
        | tup hp ht hs => cases y with
          | tup hp' ht' hs' =>
            obtain ⟨o, e, _, m, dd⟩ := ht
            obtain ⟨o', e', _, m', dd'⟩ := ht'
            rw [e] at e'
            cases e'
            rw [dd] at dd'
            cases dd'
            rw [VRs.fun ih g1 g2 hs hs']
theorem datB_tup {d : Nat} {l : List AV} (h : datB (d + 1) (.tup l) = true) : ∀ a ∈ l, datB d a = true := List.all_eq_true.mp h
theorem eqB_self {d : Nat} : ∀ {a : AV}, datB d a = true → eqB d a a = true := by
  induction d with
  | zero =>
    intro a h
    cases a with
    | int i => exact beq_self_eq_true i
    | str x => exact beq_self_eq_true x
    | float x => exact h
    | _ => cases h
  | succ d ih =>
    intro a h
    cases a with
    | int i => exact beq_self_eq_true i
    | str x => exact beq_self_eq_true x
    | float x => exact h
    | tup l =>
      have h := datB_tup h
      show (((List.range (min l.length l.length)).all fun j => eqB d (l.getD j .none) (l.getD j .none)) && l.length == l.length) = true
      rw [Nat.min_self, beq_self_eq_true, Bool.and_true, List.all_eq_true]
      intro j hj
      have hj := List.mem_range.mp hj
      have : l.getD j .none ∈ l := by
        rw [List.getD_eq_getElem?_getD, List.getElem?_eq_getElem hj]
        exact List.getElem_mem hj
      exact ih (h _ this)
    | _ => cases h
noncomputable def csOk (K : Frag) : Bool := nsOkIn K cStatics && nsIn K cStatics sharingNotToldKey == some none
theorem notTold {M : Model} {A : Around} {E : Value → Shared → Prop} {s : Shared} {t : Tok} {Q : Bool → Shared → Prop} (X : K.In s.heap) (hc : csOk K = true) (h : Q false s) : wpAny M A (sharingNotTold t) Q E s := by
  unfold csOk at hc
  simp only [Bool.and_eq_true, beq_iff_eq] at hc
  unfold sharingNotTold
  refine wpAny_bind (wpAny_nsGet (.of_isNs (isNs_of_in X hc.1)) ?_)
  rw [nsMap_none_of_in X hc.1 hc.2]
  exact wpAny_pure h
theorem isSame_float {M : Model} {A : Around} {E : Value → Shared → Prop} {s : Shared} {x y : UInt64} {t u : Tok} {Q : Bool → Shared → Prop} (X : K.In s.heap) (hc : csOk K = true) (ht : 0 < t) (hu : 0 < u) (h : ∀ b, Q b s) : wpAny M A (isSame (.float x t) (.float y u)) Q E s := by
  unfold isSame
  dsimp only
  unfold isSame.created
  have h0 : (t == 0 || u == 0) = false := by
    have h1 : t ≠ 0 := Nat.ne_of_gt ht
    have h2 : u ≠ 0 := Nat.ne_of_gt hu
    simp [h1, h2]
  rw [h0]
  simp only [Bool.false_eq_true, if_false]
  by_cases htu : (t == u) = true
  · rw [if_pos htu]
    exact wpAny_pure (h true)
  · rw [if_neg htu]
    by_cases he : (!(x == y && !Float64.isNaN x)) = true
    · rw [if_pos he]
      exact wpAny_pure (h false)
    · rw [if_neg he]
      refine wpAny_bind (notTold X hc ?_)
      simp only [Bool.false_eq_true, if_false]
      refine wpAny_bind (notTold X hc ?_)
      simp only [Bool.false_eq_true, if_false]
      exact wpAny_bind (wpAny_rule (wpAny_bind (wpAny_askSetting (wpAny_pure (h _)))))
theorem eqAt_float {A : Around} {s : Shared} (X : K.In s.heap) (hc : csOk K = true) {x : UInt64} {t u : Tok} (h1 : (Float64.cmp x x == some .eq) = true) (ht : 0 < t) (hu : 0 < u) : EqAt A s (.float x t) (.float x u) true := by
  intro prog w E Q hq
  unfold eqBool
  refine wpAny_holding ?_
  refine wpAny_ite_split (fun hab => ?_) (fun _ => ?_)
  · exact wpAny_bind (wpAny_rule (wpAny_pure hq))
  · refine wpAny_bind (isSame_float X hc ht hu fun b => ?_)
    cases b with
    | true => exact wpAny_pure hq
    | false => exact wpAny_bind (AutoFloatOps.eq_0 (wpAny_truthy_bool (by rw [h1]; exact hq)))
theorem eqAt_of {s : Shared} {p : Addr → Prop} (X : K.In s.heap) (hc : csOk K = true) : ∀ (d : Nat) {A : Around} {a b : AV} {v w : Value}, datB d a = true → datB d b = true → Shp a b → VR p s.heap a v → VR p s.heap b w → A.units + d < cLine → EqAt A s v w (eqB d a b) := by
  intro d
  induction d with
  | zero =>
    intro A a b v w h1 h2 hsh x y hu
    cases hsh with
    | int i j => cases x; cases y; exact (MeetsSeq.EqGives.int i j _ _).at _ _
    | str i j => cases x; cases y; exact (PyProof.Rows.eqGives_str i j _ _).at _ _
    | float z =>
      cases x with
      | float t ht => cases y with
        | float u hu =>
          have e : eqB 0 (.float z) (.float z) = true := h1
          rw [e]
          exact eqAt_float X hc h1 ht hu
    | tup l l' hs => cases h1
  | succ d ih =>
    intro A a b v w h1 h2 hsh x y hu
    cases hsh with
    | int i j => cases x; cases y; exact (MeetsSeq.EqGives.int i j _ _).at _ _
    | str i j => cases x; cases y; exact (PyProof.Rows.eqGives_str i j _ _).at _ _
    | float z =>
      cases x with
      | float t ht => cases y with
        | float u hu =>
          have e : eqB (d + 1) (.float z) (.float z) = true := h1
          rw [e]
          exact eqAt_float X hc h1 ht hu
    | tup l l' hsh =>
      by_cases hab : v = w
      · subst hab
        have := VR.fun h1 h2 x y
        cases this
        rw [eqB_self h1]
        exact EqAt.same _
      · cases x with
        | tup hp ht hs => cases y with
          | tup hp' ht' hs' =>
            rename_i av items aw items'
            have hab' : av ≠ aw := fun q => hab (by rw [q])
            have e1 := hs.length
            have e2 := hs'.length
            rw [Array.length_toList] at e1 e2
            refine EqAt.of_refs hab' ?_
            have := RcAt.tuples (A := A) (e := fun j => eqB d (l.getD j .none) (l'.getD j .none)) ht ht' (by lia) fun j q1 q2 => ?_
            · rw [e1, e2] at this; exact this
            · obtain ⟨a, ha, hva⟩ := hs.get' (i := j) (v := items[j]) (by simp [q1])
              obtain ⟨b, hb, hvb⟩ := hs'.get' (i := j) (v := items'[j]) (by simp [q2])
              rw [List.getD_eq_getElem?_getD, List.getD_eq_getElem?_getD, ha, hb]
              exact ih (datB_tup h1 a (List.mem_of_getElem? ha)) (datB_tup h2 b (List.mem_of_getElem? hb)) (hsh j a b ha hb) hva hvb (by show A.units + 1 + d < _; lia)
theorem Shp.refl {d : Nat} : ∀ {a : AV}, datB d a = true → Shp a a := by
  induction d with
  | zero =>
    intro a h
    cases a with
    | int i => exact .int _ _
    | str x => exact .str _ _
    | float x => exact .float _
    | _ => cases h
  | succ d ih =>
    intro a h
    cases a with
    | int i => exact .int _ _
    | str x => exact .str _ _
    | float x => exact .float _
    | tup l =>
      refine .tup l l fun j a b ha hb => ?_
      rw [ha] at hb
      cases hb
      exact ih (datB_tup h a (List.mem_of_getElem? ha))
    | _ => cases h
theorem units_of {A : Around} (hA : AOk A n) : A.units + 1 + 10 < cLine := by have := hA.units; lia
/-- == and != of two lists of the same data -/
theorem listsSame {A : Around} {s : Shared} {a b : Addr} {l : List AV} {d : Nat} (G : Good c K) (hc : csOk K = true) (hA : AOk A n) (R : Rel c env σ s) (ha : σ.H a = some (.list l)) (hb : σ.H b = some (.list l)) (hd : d ≤ 10) (hl : l.all (datB d) = true) :
    ∃ items items2, s.heap.IsList a items ∧ s.heap.IsList b items2 ∧ items.size = items2.size ∧ A.units < cLine ∧ ∀ j (h1 : j < items.size) (h2 : j < items2.size), EqAt A.in1 s items[j] items2[j] true := by
  obtain ⟨items, m, hi, hv⟩ := R.own a _ ha
  obtain ⟨items2, m2, hi2, hv2⟩ := R.own b _ hb
  have e1 := hv.length
  have e2 := hv2.length
  rw [Array.length_toList] at e1 e2
  refine ⟨items, items2, ⟨_, hi, rfl, m, rfl⟩, ⟨_, hi2, rfl, m2, rfl⟩, by lia, hA.cunits, fun j h1 h2 => ?_⟩
  obtain ⟨x, hx, hvx⟩ := hv.get' (i := j) (v := items[j]) (by simp [h1])
  obtain ⟨y, hy, hvy⟩ := hv2.get' (i := j) (v := items2[j]) (by simp [h2])
  rw [hx] at hy
  cases hy
  simp only [List.all_eq_true] at hl
  have hdx := hl x (List.mem_of_getElem? hx)
  have := eqAt_of (p := c.P) (G.inK.keeps R.base) hc d (A := A.in1) hdx hdx (Shp.refl hdx) hvx hvy (by have := units_of hA; show A.units + 1 + d < _; lia)
  rwa [eqB_self hdx] at this
theorem opListNe {a b : Addr} {l : List AV} {d : Nat} {Q : AV → St → Prop} (G : Good c K) (hc : csOk K = true) (ha : σ.H a = some (.list l)) (hb : σ.H b = some (.list l)) (hd : d ≤ 10) (hl : l.all (datB d) = true) (hq : Q (.bool false) σ) :
    Op2 c n env (VR c.P) σ (compareOp .NotEq) (.obj (.ref a)) (.obj (.ref b)) Q := fun A hA s R va vb hva hvb => by
  cases hva
  cases hvb
  obtain ⟨items, items2, h1, h2, h3, h4, h5⟩ := listsSame G hc hA R ha hb hd hl
  refine RcNeAt.lists (e := fun _ => true) h1 h2 h3 h4 h5 _ _ _ _ ?_
  have : (!(List.range items.size).all fun _ => true) = false := by simp
  rw [this]
  exact .here R (.bool _) hq
theorem opListEq {a b : Addr} {l : List AV} {d : Nat} {Q : AV → St → Prop} (G : Good c K) (hc : csOk K = true) (ha : σ.H a = some (.list l)) (hb : σ.H b = some (.list l)) (hd : d ≤ 10) (hl : l.all (datB d) = true) (hq : Q (.bool true) σ) :
    Op2 c n env (VR c.P) σ (compareOp .Eq) (.obj (.ref a)) (.obj (.ref b)) Q := fun A hA s R va vb hva hvb => by
  cases hva
  cases hvb
  obtain ⟨items, items2, h1, h2, h3, h4, h5⟩ := listsSame G hc hA R ha hb hd hl
  refine RcAt.lists (e := fun _ => true) h1 h2 h3 h4 h5 _ _ _ _ ?_
  have : ((List.range items.size).all fun _ => true) = true := by simp
  rw [this]
  exact .here R (.bool _) hq
theorem opTupEq {l l' : List AV} {d : Nat} {Q : AV → St → Prop} (G : Good c K) (hc : csOk K = true) (hd : d ≤ 10) (h1 : datB d (.tup l) = true) (h2 : datB d (.tup l') = true) (hs : Shp (.tup l) (.tup l')) (hq : Q (.bool (eqB d (.tup l) (.tup l'))) σ) :
    Op2 c n env (VR c.P) σ (compareOp .Eq) (.tup l) (.tup l') Q := fun A hA s R va vb hva hvb => by
  cases d with
  | zero => cases h1
  | succ d =>
    cases hva with
    | tup hp ht hs1 => cases hvb with
      | tup hp' ht' hs2 =>
        rename_i av items aw items'
        have e1 := hs1.length
        have e2 := hs2.length
        rw [Array.length_toList] at e1 e2
        cases hs with
        | tup _ _ hsh =>
          refine RcAt.tuples (A := A) (e := fun j => eqB d (l.getD j .none) (l'.getD j .none)) ht ht' hA.cunits (fun j q1 q2 => ?_) _ _ _ _ ?_
          · obtain ⟨a, ha, hva⟩ := hs1.get' (i := j) (v := items[j]) (by simp [q1])
            obtain ⟨b, hb, hvb⟩ := hs2.get' (i := j) (v := items'[j]) (by simp [q2])
            rw [List.getD_eq_getElem?_getD, List.getD_eq_getElem?_getD, ha, hb]
            exact eqAt_of (p := c.P) (G.inK.keeps R.base) hc d (A := A.in1) (datB_tup h1 a (List.mem_of_getElem? ha)) (datB_tup h2 b (List.mem_of_getElem? hb)) (hsh j a b ha hb) hva hvb (by have := units_of hA; show A.units + 1 + d < _; lia)
          · rw [e1, e2]
            exact .here R (.bool _) hq
end
end

section
section
variable {α β γ δ : Type} {c : Cx} {n : Nat} {env env' : Env} {σ : St} {tab : List (Str × NameKind)} {cd : Value} {K : Frag}
/-! ### slices -/
noncomputable def idxs (lo hi st : Option Int) (n : Nat) : List Nat := Builtin.Str.strSliceIndices lo hi (st.getD 1) n
noncomputable def pickL (l : List AV) (lo hi : Option Int) : List AV := (idxs lo hi none l.length).filterMap (l[·]?)
noncomputable def strSl (x : Str) (lo hi st : Option Int) : Str := if (st.getD 1 == 1 && (idxs lo hi st x.length).length == x.length) = true then x else ⟨((idxs lo hi st x.length).filterMap (x.cps[·]?)).toArray⟩
/-- a part of a slice -/
inductive PartR : AV → Option Int → Prop
  | none : PartR .none none
  | int (i : Int) : PartR (.int i) (some i)
theorem PartR.isPart {p : Addr → Prop} {h : Heap} {a : AV} {o : Option Int} {v : Value} (x : PartR a o) (y : VR p h a v) : IsPart v o := by
  cases x <;> cases y <;> constructor
theorem PartR.val {p : Addr → Prop} {h : Heap} {a : AV} {o : Option Int} {v : Value} (x : PartR a o) (y : VR p h a v) : ∃ l : Option (Int × Tok), v = partValue l ∧ l.map (·.1) = o := by
  cases x <;> cases y
  · exact ⟨Option.none, rfl, rfl⟩
  · exact ⟨Option.some (_, _), rfl, rfl⟩
inductive PartTo (a : AV) (K : Option Int → Prop) : Prop | mk (o : Option Int) : PartR a o → K o → PartTo a K
noncomputable def TPart (c : Cx) (n : Nat) (env : Env) (σ : St) (x : Option Expr) (Q : Option Int → St → Prop) : Prop := TV c n env σ (evalPart x env) fun a σ' => PartTo a fun o => Q o σ'
theorem pNone {Q : Option Int → St → Prop} (h : Q none σ) : TPart c n env σ none Q := fun A hA s R => wpAny_evalPart_none (.here R .none ⟨none, .none, h⟩)
noncomputable abbrev kPart1 (Q : Option Int → St → Prop) (σ : St) (i : Int) : Prop := Q (some i) σ
noncomputable abbrev kPart (Q : Option Int → St → Prop) (a : AV) (σ : St) : Prop := IntTo a (kPart1 Q σ)
theorem pSome {e : Expr} {Q : Option Int → St → Prop} (h : TV c n env σ (eval e env) (kPart Q)) : TPart c n env σ (some e) Q := fun A hA s R =>
  wpAny_evalPart_some ((h.mono fun a σ' ⟨i, e, q⟩ => ⟨some i, e ▸ .int i, q⟩) A hA s R)
/-- a list, of the ledger or of the base -/
noncomputable def ListAt (c : Cx) (σ : St) (a : Addr) (l : List AV) : Prop := σ.H a = some (.list l) ∨ ∃ items, c.B.IsList a items ∧ ∀ h, VRs c.P h l items.toList
theorem ListAt.items {s : Shared} {a : Addr} {l : List AV} (R : Rel c env σ s) (h : ListAt c σ a l) : ∃ items, s.heap.IsList a items ∧ VRs c.P s.heap l items.toList := by
  rcases h with h | ⟨items, ⟨o, e, r⟩, hv⟩
  · obtain ⟨items, m, hi, hv⟩ := R.own a _ h
    exact ⟨items, ⟨_, hi, rfl, m, rfl⟩, hv⟩
  · exact ⟨items, ⟨o, R.base _ _ e, r⟩, hv _⟩
theorem VRs.pick {p : Addr → Prop} {h : Heap} {l : List AV} {vs : List Value} (x : VRs p h l vs) : ∀ ks : List Nat, VRs p h (ks.filterMap (l[·]?)) (ks.filterMap (vs[·]?))
  | [] => .nil
  | k :: ks => by
    have ih := VRs.pick x ks
    cases e : l[k]? with
    | none =>
      have : vs[k]? = none := by
        rw [List.getElem?_eq_none_iff] at e ⊢
        rw [x.length]; exact e
      simp only [List.filterMap_cons, e, this]; exact ih
    | some a =>
      obtain ⟨v, hv, hr⟩ := x.get e
      simp only [List.filterMap_cons, e, hv]
      exact .cons hr ih
inductive SliceLTo (c : Cx) (Q : AV → St → Prop) (o : AV) (lo hi : Option Int) (σ : St) : Prop
  | mk (a : Addr) (l : List AV) : o = .obj (.ref a) → ListAt c σ a l ∧ l.length ≤ 1000000 ∧ (∀ b, σ.H b = none → c.B.get? b = none → Q (.obj (.ref b)) ⟨setH σ.H b (.list (pickL l lo hi)), σ.loc⟩) → SliceLTo c Q o lo hi σ
noncomputable abbrev kSlL2 (c : Cx) (n : Nat) (env : Env) (upper : Option Expr) (Q : AV → St → Prop) (o : AV) (lo : Option Int) (σ : St) : Prop := TPart c n env σ upper (SliceLTo c Q o lo)
noncomputable abbrev kSlL (c : Cx) (n : Nat) (env : Env) (lower upper : Option Expr) (Q : AV → St → Prop) (o : AV) (σ : St) : Prop := TPart c n env σ lower (kSlL2 c n env upper Q o)
inductive SliceSTo (Q : AV → St → Prop) (o : AV) (lo hi : Option Int) (σ : St) : Prop
  | mk (x : Str) : o = .str x → x.length ≤ 1000000 ∧ Q (.str (strSl x lo hi none)) σ → SliceSTo Q o lo hi σ
noncomputable abbrev kSlS2 (c : Cx) (n : Nat) (env : Env) (upper : Option Expr) (Q : AV → St → Prop) (o : AV) (lo : Option Int) (σ : St) : Prop := TPart c n env σ upper (SliceSTo Q o lo)
noncomputable abbrev kSlS (c : Cx) (n : Nat) (env : Env) (lower upper : Option Expr) (Q : AV → St → Prop) (o : AV) (σ : St) : Prop := TPart c n env σ lower (kSlS2 c n env upper Q o)
theorem tSliceL {value : Expr} {lower upper : Option Expr} {p pos : Pos} {Q : AV → St → Prop}
    (h : TV c n env σ (eval value env) (kSlL c n env lower upper Q))
    (ht : ∀ o r, letTemporaryGo value o r = pure ()) : TV c n env σ (eval (.Subscript value (.Slice lower upper none p) pos) env) Q := fun A hA s R =>
  wpAny_Subscript_list_slice (last h hA R fun o vo σ₁ s₁ ho R₁ S₁ h₁ => last h₁ hA R₁ fun al vl σ₂ s₂ hlv R₂ S₂ h₂ => by
    obtain ⟨lo, plo, h₂⟩ := h₂
    refine last h₂ hA R₂ fun au vu σ₃ s₃ huv R₃ S₃ h₃ => ?_
    obtain ⟨hi, phi, a, l, rfl, hl, hsz, hq⟩ := h₃
    cases ho
    obtain ⟨items, hi', hv⟩ := hl.items R₃
    have hlen := hv.length
    rw [Array.length_toList] at hlen
    refine ⟨a, items, lo, hi, rfl, hi', by rw [hlen, sizeLine_eq]; lia, plo.isPart hlv, phi.isPart huv, ?_⟩
    have kp : ∀ b o, s₃.heap.get? b = some o → (s₃.heap.push ({ cls := .type "slice", data := .fields #[vl, vu, .none] } : Obj)).get? b = some o := fun _ _ e => Heap.get?_push_of_some _ e
    have R₄ := R₃.grow (t := s₃.toks) kp
    have hv' : VRs c.P (s₃.heap.push ({ cls := .type "slice", data := .fields #[vl, vu, .none] } : Obj)) (pickL l lo hi) (slicePick items lo hi none).toList := by
      have := (hv.keep (.all kp)).pick (idxs lo hi none l.length)
      unfold pickL slicePick
      simp only [Array.getElem?_toList] at this
      rw [hlen]
      exact this
    have := postList (t := s₃.toks) (Q := Q) R₄ hv' hq
    rw [show (s₃.heap.push ({ cls := .type "slice", data := .fields #[vl, vu, .none] } : Obj)).objs.size = s₃.heap.objs.size + 1 from Heap.size_push ..] at this
    exact this.from (S₁.trans (S₂.trans (S₃.trans (Stp.grow (t := s₃.toks) kp))))) ht
theorem tSliceS {value : Expr} {lower upper : Option Expr} {p pos : Pos} {Q : AV → St → Prop}
    (h : TV c n env σ (eval value env) (kSlS c n env lower upper Q))
    (ht : ∀ o r, letTemporaryGo value o r = pure ()) : TV c n env σ (eval (.Subscript value (.Slice lower upper none p) pos) env) Q := fun A hA s R =>
  wpAny_Subscript_str_slice (last h hA R fun o vo σ₁ s₁ ho R₁ S₁ h₁ => last h₁ hA R₁ fun al vl σ₂ s₂ hlv R₂ S₂ h₂ => by
    obtain ⟨lo, plo, h₂⟩ := h₂
    refine last h₂ hA R₂ fun au vu σ₃ s₃ huv R₃ S₃ h₃ => ?_
    obtain ⟨hi, phi, x, rfl, hsz, hq⟩ := h₃
    cases ho with
    | str t =>
      obtain ⟨l, rfl, el⟩ := plo.val hlv
      obtain ⟨u, rfl, eu⟩ := phi.val huv
      refine ⟨x, t, l, u, rfl, rfl, rfl, ?_⟩
      have kp : ∀ b o, s₃.heap.get? b = some o → (s₃.heap.push ({ cls := .type "slice", data := .fields #[partValue l, partValue u, .none] } : Obj)).get? b = some o := fun _ _ e => Heap.get?_push_of_some _ e
      have R₄ := R₃.grow (t := s₃.toks) kp
      have S₄ := S₁.trans (S₂.trans (S₃.trans (Stp.grow (t := s₃.toks) kp)))
      have e1 : slicePicked x l u none = idxs lo hi none x.length := by unfold slicePicked idxs; rw [el, eu]; rfl
      unfold strSl at hq
      unfold sliceMade
      rw [e1]
      by_cases hc : ((none : Option Int).getD 1 == 1 && (idxs lo hi none x.length).length == x.length) = true
      · rw [if_pos hc] at hq
        have hc' : (((none : Option (Int × Tok)).map (·.1)).getD 1 == 1 && (idxs lo hi none x.length).length == x.length) = true := hc
        rw [if_pos hc']
        exact ⟨_, σ₃, .str x t, R₄, S₄, hq⟩
      · rw [if_neg hc] at hq
        have hc' : ¬ (((none : Option (Int × Tok)).map (·.1)).getD 1 == 1 && (idxs lo hi none x.length).length == x.length) = true := hc
        rw [if_neg hc']
        refine ⟨?_, _, σ₃, .str _ _, R₄.tok _, S₄.trans (Stp.tok _), hq⟩
        have h1 := PySem.sliceIndices_le lo hi x.length
        have h2 : (List.filterMap (x.cps[·]?) (idxs lo hi none x.length)).length ≤ (idxs lo hi none x.length).length := List.length_filterMap_le ..
        have h3 : (idxs lo hi none x.length).length ≤ x.length := h1
        show (List.filterMap (x.cps[·]?) (idxs lo hi none x.length)).toArray.size ≤ _
        rw [List.size_toArray, sizeLine_eq]; lia) ht
theorem tSliceSt {value st : Expr} {p pos : Pos} {Q : AV → St → Prop}
    (h : TV c n env σ (eval value env) fun o σ₁ => TV c n env σ₁ (eval st env) fun a σ₂ => ∃ x i, o = .str x ∧ a = .int i ∧ i ≠ 0 ∧ (strSl x none none (some i)).length ≤ 1000000 ∧ Q (.str (strSl x none none (some i))) σ₂)
    (ht : ∀ o r, letTemporaryGo value o r = pure ()) : TV c n env σ (eval (.Subscript value (.Slice none none (some st) p) pos) env) Q := fun A hA s R =>
  wpAny_Subscript_Slice_step (T := "str") PySem.F.slot_str_getitem.lookup (last h hA R fun o vo σ₁ s₁ ho R₁ S₁ h₁ => wpAny_Slice (wpAny_evalPart_none (wpAny_evalPart_none (wpAny_evalPart_some (last h₁ hA R₁ fun a va σ₂ s₂ ha R₂ S₂ h₂ => by
    obtain ⟨x, i, rfl, rfl, hi, hsz, hq⟩ := h₂
    cases ho with
    | str t => cases ha with
      | int u =>
        have kp : ∀ b o, s₂.heap.get? b = some o → (s₂.heap.push ({ cls := .type "slice", data := .fields #[.none, .none, .int i u] } : Obj)).get? b = some o := fun _ _ e => Heap.get?_push_of_some _ e
        have R₄ := R₂.grow (t := s₂.toks) kp
        have S₄ := S₁.trans (S₂.trans (Stp.grow (t := s₂.toks) kp))
        refine ⟨typeIs_str _ x t, ?_⟩
        refine wpAny_getItem_str_slice (l := none) (u := none) (st := some (i, u)) ⟨_, Heap.get?_push_size _ rfl, rfl, rfl⟩ (by simpa using hi) ?_
        unfold strSl at hq hsz
        unfold sliceMade
        have e1 : slicePicked x none none (some (i, u)) = idxs none none (some i) x.length := rfl
        rw [e1]
        by_cases hc : ((some i : Option Int).getD 1 == 1 && (idxs none none (some i) x.length).length == x.length) = true
        · rw [if_pos hc] at hq
          have hc' : (((some (i, u) : Option (Int × Tok)).map (·.1)).getD 1 == 1 && (idxs none none (some i) x.length).length == x.length) = true := hc
          rw [if_pos hc']
          exact ⟨_, σ₂, .str x t, R₄, S₄, hq⟩
        · rw [if_neg hc] at hq hsz
          have hc' : ¬ (((some (i, u) : Option (Int × Tok)).map (·.1)).getD 1 == 1 && (idxs none none (some i) x.length).length == x.length) = true := hc
          rw [if_neg hc']
          exact ⟨by rw [sizeLine_eq]; lia, _, σ₂, .str _ _, R₄.tok _, S₄.trans (Stp.tok _), hq⟩))))) ht
/-! ### + and * of lists, + of tuples -/
theorem opListAdd {a b : Addr} {l l2 : List AV} {Q : AV → St → Prop} (ha : σ.H a = some (.list l)) (hb : σ.H b = some (.list l2)) (hsz : l.length + l2.length ≤ 1000000)
    (h : ∀ d, σ.H d = none → c.B.get? d = none → Q (.obj (.ref d)) ⟨setH σ.H d (.list (l ++ l2)), σ.loc⟩) : Op2 c n env (VR c.P) σ (binaryOp .Add) (.obj (.ref a)) (.obj (.ref b)) Q := fun A hA s R va vb hva hvb => by
  cases hva
  cases hvb
  obtain ⟨items, m, hl, hv⟩ := R.own a _ ha
  obtain ⟨items2, m2, hl2, hv2⟩ := R.own b _ hb
  have e1 := hv.length
  have e2 := hv2.length
  rw [Array.length_toList] at e1 e2
  have hz := sizeLine_eq
  refine concat_meets ⟨_, hl, rfl⟩ ⟨_, hl2, rfl⟩ noFill_list_add seq_list_add PySem.F.slot_list_add PySem.F.entry_list_add (PySem.F.args_list_add_2 _ _) (list_addW a b items items2 m m2 none none #[] #[] (by lia)) ⟨hl, hl2, ?_⟩
  exact postList (t := s.toks) R (by rw [Array.toList_append]; exact hv.append hv2) h
theorem foldl_append_toList (xs : Array Value) : ∀ (k : Nat) (acc : Array Value), (List.foldl (fun x1 x2 => x1 ++ x2) acc (List.replicate k xs)).toList = acc.toList ++ (List.replicate k xs.toList).flatten
  | 0, acc => by simp
  | k + 1, acc => by
    rw [List.replicate_succ, List.foldl_cons, foldl_append_toList xs k, List.replicate_succ, List.flatten_cons, Array.toList_append, List.append_assoc]
theorem VRs.rep {p : Addr → Prop} {h : Heap} {l : List AV} {vs : List Value} (x : VRs p h l vs) : ∀ k : Nat, VRs p h (List.replicate k l).flatten (List.replicate k vs).flatten
  | 0 => .nil
  | k + 1 => by rw [List.replicate_succ, List.replicate_succ, List.flatten_cons, List.flatten_cons]; exact x.append (x.rep k)
theorem opListMul {a : Addr} {l : List AV} {x : Int} {Q : AV → St → Prop} (ha : σ.H a = some (.list l)) (hne : l ≠ []) (h0 : -(2 ^ 63 : Int) ≤ x) (h1 : x < 2 ^ 63) (hsz : l.length * x.toNat ≤ 2 ^ 24)
    (h : ∀ d, σ.H d = none → c.B.get? d = none → Q (.obj (.ref d)) ⟨setH σ.H d (.list (List.replicate x.toNat l).flatten), σ.loc⟩) : Op2 c n env (VR c.P) σ (binaryOp .Mult) (.obj (.ref a)) (.int x) Q := fun A hA s R va vb hva hvb => by
  cases hva
  cases hvb with
  | int u =>
    obtain ⟨items, m, hl, hv⟩ := R.own a _ ha
    have e1 := hv.length
    rw [Array.length_toList] at e1
    have hem : items.isEmpty = false := by
      rw [Array.isEmpty_eq_false_iff_exists_mem]
      cases l with
      | nil => exact absurd rfl hne
      | cons y ys =>
        have : 0 < items.size := by rw [e1]; simp
        exact ⟨items[0], Array.getElem_mem this⟩
    have hz := sizeLine_eq
    refine wpAny_binaryOp_repeat_ref (T := "list") (U := "int") (by decide) ⟨_, hl, rfl⟩ (fun s' => typeIs_int s' x u) noFill_list_mul PySem.F.fills_int_mul PySem.F.slot_int_rmul repeat_list PySem.F.slot_int_index.lookup
      (call_meets PySem.F.slot_int_rmul (typeIs_int s x u) PySem.F.entry_int_rmul (PySem.F.args_int_rmul_2 _ _) (int___rmul___int_list x u a items m)
        ⟨hl, rfl, ⟨_, hl, rfl⟩, call_meets PySem.F.slot_list_mul ⟨_, hl, rfl⟩ PySem.F.entry_list_mul (PySem.F.args_list_mul_2 _ _)
          (AutoListH.list___mul___list_int_3 a items m x u (by simp [Builtin.List.listFitsIndex]; lia) (by rw [e1]; lia) (by rw [e1]; simp [Builtin.List.listTooLong, sizeLine]; lia)) ⟨hl, ?_⟩⟩)
    refine postList (t := s.toks) R ?_ h
    rw [hem]
    simp only [Bool.false_eq_true, if_false]
    rw [foldl_append_toList]
    exact (hv.rep _)
theorem opTupAdd {l l2 : List AV} {Q : AV → St → Prop} (h1 : l ≠ []) (h2 : l2 ≠ []) (hsz : l.length + l2.length ≤ 1000000) (h : Q (.tup (l ++ l2)) σ) : Op2 c n env (VR c.P) σ (binaryOp .Add) (.tup l) (.tup l2) Q := fun A hA s R va vb hva hvb => by
  cases hva with
  | tup hp ht hs => cases hvb with
    | tup hp' ht' hs' =>
      obtain ⟨⟨cls, dd, data, sl⟩, ho, hc, k, hd⟩ := ht
      obtain ⟨⟨cls2, dd2, data2, sl2⟩, ho2, hc2, k2, hd2⟩ := ht'
      simp only at hc hd hc2 hd2
      subst hc hd hc2 hd2
      rename_i av items aw items2
      have e1 := hs.length
      have e2 := hs'.length
      rw [Array.length_toList] at e1 e2
      have ne1 : ¬ items.isEmpty = true := by
        rw [Array.isEmpty_iff_size_eq_zero, e1]; cases l <;> simp_all
      have ne2 : ¬ items2.isEmpty = true := by
        rw [Array.isEmpty_iff_size_eq_zero, e2]; cases l2 <;> simp_all
      have hz := sizeLine_eq
      refine concat_meets ⟨_, ho, rfl⟩ ⟨_, ho2, rfl⟩ noFill_tuple_add seq_tuple_add PySem.F.slot_tuple_add PySem.F.entry_tuple_add (PySem.F.args_tuple_add_2 _ _) (tuple_addW2 av aw items items2 k k2 dd dd2 sl sl2 ne1 ne2 (by lia)) ⟨ho, ho2, ?_⟩
      have kp : ∀ b o, s.heap.get? b = some o → (s.heap.push ({ cls := .type "tuple", data := .seq (items ++ items2) } : Obj)).get? b = some o := fun _ _ e => Heap.get?_push_of_some _ e
      refine ⟨.tup (l ++ l2), σ, .tup (fun q => let ⟨o, e⟩ := R.priv _ q; Nat.lt_irrefl _ (Heap.lt_size e)) ⟨_, Heap.get?_push_size _ rfl, rfl, _, rfl⟩ ?_, R.grow (t := s.toks) kp, Stp.grow (t := s.toks) kp, h⟩
      rw [Array.toList_append]
      exact (hs.keep (.all kp)).append (hs'.keep (.all kp))
end
end

section
section
variable {α β γ δ : Type} {c : Cx} {n : Nat} {env env' : Env} {σ : St} {tab : List (Str × NameKind)} {cd : Value} {K : Frag} {H : Addr → Option AO}
/-- a call that only looks: from a rule of one state -/
theorem callPost {env : Env} {loc : List (Str × AV)} {s : Shared} {Q : AV → (Addr → Option AO) → Prop} {a : AV} {v : Value} {h' : Heap} {t : Nat} (R : Rel c env ⟨H, loc⟩ s) (kp : ∀ b o, s.heap.get? b = some o → h'.get? b = some o) (ht : s.toks ≤ t) (hv : VR c.P h' a v) (hq : Q a H) :
    Post c env ⟨H, loc⟩ s (VR c.P) (fun a σ' => σ'.loc = loc ∧ Q a σ'.H) v { s with heap := h', toks := t } :=
  ⟨a, ⟨H, loc⟩, hv, R.grow (t := t) kp ht, Stp.grow (t := t) kp ht, rfl, hq⟩
theorem callPostT {env : Env} {loc : List (Str × AV)} {s : Shared} {Q : AV → (Addr → Option AO) → Prop} {a : AV} {v : Value} {t : Nat} (R : Rel c env ⟨H, loc⟩ s) (hv : VR c.P s.heap a v) (hq : Q a H) (ht : s.toks ≤ t := by walk_at "my_tk") :
    Post c env ⟨H, loc⟩ s (VR c.P) (fun a σ' => σ'.loc = loc ∧ Q a σ'.H) v { s with toks := t } := callPost R (fun _ _ e => e) ht hv hq
theorem cLenL {D : Addr} {l : List AV} {Q : AV → (Addr → Option AO) → Prop} (hD : ListAt c ⟨H, []⟩ D l) (hsz : l.length < 2 ^ 62) (h : Q (.int l.length) H) : CallS c n H (.builtin "len") [.obj (.ref D)] [] [] Q := fun env loc A hA s R vs hv ks hk => by
  cases hk
  cases hv with
  | cons h1 hv =>
    cases hv
    cases h1
    obtain ⟨items, hi, hvs⟩ := ListAt.items (σ := ⟨H, loc⟩) R hD
    have e := hvs.length
    rw [Array.length_toList] at e
    exact Calls.call_len_list hi (by rw [e]; lia) (callPostT R (by rw [e]; exact .int ..) h)
theorem cLenS {x : Str} {Q : AV → (Addr → Option AO) → Prop} (hsz : x.length < 2 ^ 62) (h : Q (.int x.length) H) : CallS c n H (.builtin "len") [.str x] [] [] Q := fun env loc A hA s R vs hv ks hk => by
  cases hk
  cases hv with
  | cons h1 hv =>
    cases hv
    cases h1
    exact PyProof.Rows.len_str (by lia) (callPostT R (.int ..) h)
theorem rangeVR {env : Env} {s : Shared} {σ : St} (R : Rel c env σ s) {a b st : Int} {t u v : Tok} : VR c.P (s.heap.push ({ cls := .type "range", data := .fields #[.int a t, .int b u, .int st v] } : Obj)) (.range a b st) (.ref s.heap.objs.size) :=
  .range (fun q => let ⟨o, e⟩ := R.priv _ q; Nat.lt_irrefl _ (Heap.lt_size e)) (Heap.get?_push_size _ rfl)
theorem cRange1 {k : Int} {Q : AV → (Addr → Option AO) → Prop} (h : Q (.range 0 k 1) H) : CallS c n H (.type "range") [.int k] [] [] Q := fun env loc A hA s R vs hv ks hk => by
  cases hk
  cases hv with
  | cons h1 hv =>
    cases hv
    cases h1
    exact call_range_1 (callPost R (fun _ _ e => Heap.get?_push_of_some _ e) (Nat.le_succ_of_le (Nat.le_succ _)) (rangeVR R) h)
theorem cRange2 {a b : Int} {Q : AV → (Addr → Option AO) → Prop} (h : Q (.range a b 1) H) : CallS c n H (.type "range") [.int a, .int b] [] [] Q := fun env loc A hA s R vs hv ks hk => by
  cases hk
  cases hv with
  | cons h1 hv => cases hv with
    | cons h2 hv =>
      cases hv
      cases h1
      cases h2
      exact call_range_2 (callPost R (fun _ _ e => Heap.get?_push_of_some _ e) (Nat.le_succ _) (rangeVR R) h)
theorem cTuple {D : Addr} {l : List AV} {Q : AV → (Addr → Option AO) → Prop} (hD : H D = some (.list l)) (hsz : l.length ≤ 1000000) (h : Q (.tup l) H) : CallS c n H (.type "tuple") [.obj (.ref D)] [] [] Q := fun env loc A hA s R vs hv ks hk => by
  cases hk
  cases hv with
  | cons h1 hv =>
    cases hv
    cases h1
    obtain ⟨items, m, hi, hvs⟩ := R.own D _ hD
    have e := hvs.length
    rw [Array.length_toList] at e
    refine wpAny_with_toks (Nat.le_refl _) (call_tuple_list ⟨_, hi, rfl, m, rfl⟩ (fun h' kp hpos => ?_) (by rw [sizeLine_eq]; lia))
    have kp' : ∀ b o, s.heap.get? b = some o → (h'.push ({ cls := .type "tuple", data := .seq items } : Obj)).get? b = some o := fun b o e => Heap.get?_push_of_some _ (kp b o e)
    exact callPost (t := s.toks) R kp' (Nat.le_refl _) (.tup (fun q => let ⟨o, e⟩ := R.priv _ q; Nat.lt_irrefl _ (Heap.lt_size (kp _ _ e))) ⟨_, Heap.get?_push_size _ rfl, rfl, _, rfl⟩ (hvs.keep (.all kp'))) h
theorem cInt {x : UInt64} {sg : Bool} {m : Nat} {e : Int} {Q : AV → (Addr → Option AO) → Prop} (hd : Float64.decode x = .fin sg m e) (h : Q (.int (Float64.truncOf sg m e)) H) : CallS c n H (.type "int") [.float x] [] [] Q := fun env loc A hA s R vs hv ks hk => by
  cases hk
  cases hv with
  | cons h1 hv =>
    cases hv
    cases h1
    exact call_int_float hd (callPostT R (.int ..) h)
theorem cFind {x y : Str} {Q : AV → (Addr → Option AO) → Prop} (h : Q (.int (Txt.find x y)) H) : CallS c n H (.builtin "str.find") [.str x, .str y] [] [] Q := fun env loc A hA s R vs hv ks hk => by
  cases hk
  cases hv with
  | cons h1 hv => cases hv with
    | cons h2 hv =>
      cases hv
      cases h1
      cases h2
      exact SC.find (callPostT R (.int ..) h)
theorem cCount {x y : Str} {Q : AV → (Addr → Option AO) → Prop} (h : Q (.int (Txt.count x y)) H) : CallS c n H (.builtin "str.count") [.str x, .str y] [] [] Q := fun env loc A hA s R vs hv ks hk => by
  cases hk
  cases hv with
  | cons h1 hv => cases hv with
    | cons h2 hv =>
      cases hv
      cases h1
      cases h2
      exact SC.count (callPostT R (.int ..) h)
theorem strsOf {p : Addr → Prop} {h : Heap} : ∀ {xs : List Str} {vs : List Value}, VRs p h (xs.map .str) vs → ∃ l : List (Str × Tok), vs = strValues l ∧ l.map (·.1) = xs
  | [], _, x => by cases x; exact ⟨[], rfl, rfl⟩
  | x :: xs, _, y => by
    cases y with
    | cons h1 hs =>
      cases h1 with
      | str t =>
        obtain ⟨l, rfl, rfl⟩ := strsOf hs
        exact ⟨(x, t) :: l, rfl, rfl⟩
theorem cJoin {x : Str} {D : Addr} {xs : List Str} {Q : AV → (Addr → Option AO) → Prop} (hD : H D = some (.list (xs.map .str))) (hok : JoinOk x xs = true) (h : Q (.str (Txt.join x xs)) H) : CallS c n H (.builtin "str.join") [.str x, .obj (.ref D)] [] [] Q := fun env loc A hA s R vs hv ks hk => by
  cases hk
  cases hv with
  | cons h1 hv => cases hv with
    | cons h2 hv =>
      cases hv
      cases h1
      cases h2
      obtain ⟨items, m, hi, hvs⟩ := R.own D _ hD
      obtain ⟨l, e1, e2⟩ := strsOf hvs
      have e3 : items = (strValues l).toArray := by rw [← e1]
      exact wpAny_with_toks (Nat.le_refl _) (SC.join ⟨_, hi, rfl, m, by rw [e3]⟩ e2 hok fun t' k hp => callPostT R (.str ..) h hp)
noncomputable def fLt (x y : UInt64) : Bool := Float64.cmp x y == some .lt
theorem floats3 {p : Addr → Prop} {h : Heap} {x y z : UInt64} {vs : List Value} (v : VRs p h [.float x, .float y, .float z] vs) : ∃ t u w, vs = [.float x t, .float y u, .float z w] ∧ 0 < t ∧ 0 < u ∧ 0 < w := by
  cases v with
  | cons h1 hv => cases hv with
    | cons h2 hv => cases hv with
      | cons h3 hv =>
        cases hv
        cases h1 with
        | float t ht => cases h2 with
          | float u hu => cases h3 with
            | float w hw => exact ⟨t, u, w, rfl, ht, hu, hw⟩
noncomputable def max3 (x y z : UInt64) : UInt64 := let m := if fLt x y then y else x; if fLt m z then z else m
noncomputable def min3 (x y z : UInt64) : UInt64 := let m := if fLt y x then y else x; if fLt z m then z else m
theorem arg3 (bt : Nat → Nat → Bool) : argBest bt 2 = (if bt 2 (if bt 1 0 then 1 else 0) then 2 else (if bt 1 0 then 1 else 0)) := rfl
theorem cMax3 {x y z : UInt64} {Q : AV → (Addr → Option AO) → Prop} (h : Q (.float (max3 x y z)) H) : CallS c n H (.builtin "max") [.float x, .float y, .float z] [] [] Q := fun env loc A hA s R vs hv ks hk => by
  cases hk
  obtain ⟨t, u, w, rfl, ht, hu, hw⟩ := floats3 hv
  refine wpAny_with_toks (Nat.le_refl _) (call_max_three ?_)
  have hT : (s.heap.push ({ cls := .type "tuple", data := .seq #[.float x t, .float y u, .float z w] } : Obj)).IsTuple s.heap.objs.size #[.float x t, .float y u, .float z w] := ⟨_, Heap.get?_push_size _ rfl, rfl, _, rfl⟩
  have hsz : (s.heap.push ({ cls := .type "tuple", data := .seq #[.float x t, .float y u, .float z w] } : Obj)).objs.size = s.heap.objs.size + 1 := Heap.size_push ..
  refine wpAny_pyIter_tuple hT ?_
  dsimp only
  rw [hsz]
  refine ⟨s.heap.objs.size + 1, _, _, 3, _, _, _, rfl, Walks.tuple (A := A.in1) hA.handled (s.heap.objs.size + 1) s.heap.objs.size (Nat.ne_of_lt (Nat.lt_succ_self _)) #[.float x t, .float y u, .float z w], ⟨⟨_, by have := Heap.get?_push_size (s.heap.push ({ cls := .type "tuple", data := .seq #[.float x t, .float y u, .float z w] } : Obj)) (o := ({ cls := .type "tuple_iterator", data := .fields #[.ref s.heap.objs.size, .int 0 0] } : Obj)) rfl; rwa [hsz] at this, rfl, rfl⟩, hT.at fun o e => Heap.get?_push_of_some _ e⟩, fun b hb => ?_, by decide, PySem.Flt.cmpOf_gt _ (fun v hv => ?_), fun v h' tk hP kp hpos => ?_⟩
  · rw [Heap.size_push, hsz]
    simp only [List.mem_cons, List.not_mem_nil, or_false] at hb
    rcases hb with rfl | rfl
    · exact Nat.lt_succ_self _
    · exact Nat.lt_succ_of_lt (Nat.lt_succ_self _)
  · simp only [Array.mem_def, List.mem_cons, List.not_mem_nil, or_false] at hv
    rcases hv with rfl | rfl | rfl <;> exact .float _ _
  · have kp' : ∀ b o, s.heap.get? b = some o → h'.get? b = some o := fun b o e => kp b o (by
      intro q
      have : b = s.heap.objs.size + 1 := by simpa using q
      have h2 := Heap.lt_size e
      rw [this] at h2
      exact absurd h2 (Nat.not_lt.mpr (Nat.le_succ _))) (Heap.get?_push_of_some _ (Heap.get?_push_of_some _ e))
    refine callPost (a := .float (max3 x y z)) R kp' hpos ?_ h
    rw [arg3] at hP
    simp only [PySem.Flt.ltV, Array.getD] at hP
    unfold max3 fLt
    by_cases c1 : (Float64.cmp x y == some .lt) = true
    · by_cases c2 : (Float64.cmp y z == some .lt) = true
      · simp [c1, c2] at hP ⊢
        rw [← hP]; exact .float _ _ hw
      · simp [c1, c2] at hP ⊢
        rw [← hP]; exact .float _ _ hu
    · by_cases c2 : (Float64.cmp x z == some .lt) = true
      · simp [c1, c2] at hP ⊢
        rw [← hP]; exact .float _ _ hw
      · simp [c1, c2] at hP ⊢
        rw [← hP]; exact .float _ _ ht
theorem cMin3 {x y z : UInt64} {Q : AV → (Addr → Option AO) → Prop} (h : Q (.float (min3 x y z)) H) : CallS c n H (.builtin "min") [.float x, .float y, .float z] [] [] Q := fun env loc A hA s R vs hv ks hk => by
  cases hk
  obtain ⟨t, u, w, rfl, ht, hu, hw⟩ := floats3 hv
  refine wpAny_with_toks (Nat.le_refl _) (call_min_three ?_)
  have hT : (s.heap.push ({ cls := .type "tuple", data := .seq #[.float x t, .float y u, .float z w] } : Obj)).IsTuple s.heap.objs.size #[.float x t, .float y u, .float z w] := ⟨_, Heap.get?_push_size _ rfl, rfl, _, rfl⟩
  have hsz : (s.heap.push ({ cls := .type "tuple", data := .seq #[.float x t, .float y u, .float z w] } : Obj)).objs.size = s.heap.objs.size + 1 := Heap.size_push ..
  refine wpAny_pyIter_tuple hT ?_
  dsimp only
  rw [hsz]
  refine ⟨s.heap.objs.size + 1, _, _, 3, _, _, _, rfl, Walks.tuple (A := A.in1) hA.handled (s.heap.objs.size + 1) s.heap.objs.size (Nat.ne_of_lt (Nat.lt_succ_self _)) #[.float x t, .float y u, .float z w], ⟨⟨_, by have := Heap.get?_push_size (s.heap.push ({ cls := .type "tuple", data := .seq #[.float x t, .float y u, .float z w] } : Obj)) (o := ({ cls := .type "tuple_iterator", data := .fields #[.ref s.heap.objs.size, .int 0 0] } : Obj)) rfl; rwa [hsz] at this, rfl, rfl⟩, hT.at fun o e => Heap.get?_push_of_some _ e⟩, fun b hb => ?_, by decide, PySem.Flt.cmpOf_lt _ (fun v hv => ?_), fun v h' tk hP kp hpos => ?_⟩
  · rw [Heap.size_push, hsz]
    simp only [List.mem_cons, List.not_mem_nil, or_false] at hb
    rcases hb with rfl | rfl
    · exact Nat.lt_succ_self _
    · exact Nat.lt_succ_of_lt (Nat.lt_succ_self _)
  · simp only [Array.mem_def, List.mem_cons, List.not_mem_nil, or_false] at hv
    rcases hv with rfl | rfl | rfl <;> exact .float _ _
  · have kp' : ∀ b o, s.heap.get? b = some o → h'.get? b = some o := fun b o e => kp b o (by
      intro q
      have : b = s.heap.objs.size + 1 := by simpa using q
      have h2 := Heap.lt_size e
      rw [this] at h2
      exact absurd h2 (Nat.not_lt.mpr (Nat.le_succ _))) (Heap.get?_push_of_some _ (Heap.get?_push_of_some _ e))
    refine callPost (a := .float (min3 x y z)) R kp' hpos ?_ h
    rw [arg3] at hP
    simp only [PySem.Flt.ltV, Array.getD] at hP
    unfold min3 fLt
    by_cases c1 : (Float64.cmp y x == some .lt) = true
    · by_cases c2 : (Float64.cmp z y == some .lt) = true
      · simp [c1, c2] at hP ⊢
        rw [← hP]; exact .float _ _ hw
      · simp [c1, c2] at hP ⊢
        rw [← hP]; exact .float _ _ hu
    · by_cases c2 : (Float64.cmp z x == some .lt) = true
      · simp [c1, c2] at hP ⊢
        rw [← hP]; exact .float _ _ hw
      · simp [c1, c2] at hP ⊢
        rw [← hP]; exact .float _ _ ht
end
end

section
section
variable {α β γ δ : Type} {c : Cx} {n : Nat} {env env' : Env} {σ : St} {tab : List (Str × NameKind)} {cd : Value} {K : Frag} {H : Addr → Option AO}
noncomputable def fnInfo (K : Frag) (f : Addr) : Option FuncData := match K.lookup f with
  | some ⟨_, _, .func fd, _⟩ => if codeIn K fd.code fd.qualname then some fd else none
  | _ => none
theorem fnInfo_some {f : Addr} {fd : FuncData} (e : fnInfo K f = some fd) : ∃ oc od sl, K.lookup f = some ⟨oc, od, .func fd, sl⟩ ∧ codeIn K fd.code fd.qualname = true := by
  unfold fnInfo at e
  cases h : K.lookup f with
  | none => rw [h] at e; cases e
  | some o =>
    rw [h] at e
    obtain ⟨oc, od, da, sl⟩ := o
    cases da with
    | func fd' =>
      replace e : (if codeIn K fd'.code fd'.qualname then some fd' else none) = some fd := e
      cases hc : codeIn K fd'.code fd'.qualname with
      | true => rw [hc] at e; cases e; exact ⟨oc, od, sl, rfl, hc⟩
      | false => rw [hc] at e; cases e
    | _ => cases e
theorem fnAt_of (G : Good c K) {f : Addr} {fd : FuncData} (e : fnInfo K f = some fd) : FnAt c f fd := by
  obtain ⟨oc, od, sl, ho, hc⟩ := fnInfo_some e
  obtain ⟨_, _, _, _, T⟩ := G.top
  exact ⟨⟨_, G.inK _ _ ho, rfl⟩, codeRec_of G.inK hc, T.nolimit⟩
noncomputable def fdOkB (fd : FuncData) : Bool := fd.closure.isEmpty && fd.scope.kind == .function && !fd.scope.isCoroutine && !fd.scope.isGenerator && fd.globals == mainGlobals && fd.builtins == builtinsNs && decide (fd.scope.names.map Prod.fst).Nodup && fd.scope.names.all fun x => x.2 != .free
theorem fdOk_of {fd : FuncData} (h : fdOkB fd = true) : FdOk fd fd.code := by
  unfold fdOkB at h
  simp only [Bool.and_eq_true, beq_iff_eq, Bool.not_eq_true', decide_eq_true_eq, List.isEmpty_iff, List.all_eq_true, bne_iff_ne] at h
  obtain ⟨⟨⟨⟨⟨⟨⟨h1, h2⟩, h3⟩, h4⟩, h5⟩, h6⟩, h7⟩, h8⟩ := h
  exact ⟨h1, h2, h3, h4, h5, h6, rfl, h7, h8⟩
/-- names by position alone -/
noncomputable def plainParams (fd : FuncData) (xs : List Str) : Prop := ∀ vs : List Value, vs.length = xs.length → bindArgs fd ⟨vs, []⟩ = pure (xs.zip vs)
theorem VRs.bind {p : Addr → Prop} {h : Heap} : ∀ {xs : List Str} {as : List AV} {vs : List Value}, xs.length = as.length → VRs p h as vs → VB p h (xs.zip as) (xs.zip vs)
  | [], [], _, _, y => by cases y; exact .nil
  | x :: xs, a :: as, _, e, y => by cases y with | cons h1 h2 => exact .cons h1 (VRs.bind (by simpa using e) h2)
theorem binds_plain {fd : FuncData} {xs : List Str} {as : List AV} (hp : plainParams fd xs) (hl : xs.length = as.length) : Binds c fd as [] [] (xs.zip as) := fun s vs ks hB hv hk => by
  cases hk
  exact ⟨xs.zip vs, .of_eq (hp vs (by rw [hv.length, hl])), hv.bind hl⟩
theorem zip_fst : ∀ {xs : List Str} {as : List AV}, xs.length = as.length → (xs.zip as).map Prod.fst = xs
  | [], [], _ => rfl
  | x :: xs, a :: as, e => by simp [List.zip_cons_cons]; exact zip_fst (by simpa using e)
noncomputable abbrev kLeft (env : Env) (Q : AV → (Addr → Option AO) → Prop) (f : AF) (σ : St) : Prop := LeftTo env σ (Q (retOf f))
/-- the call of a def whose parameters are plain -/
theorem callDef {f : Addr} {fd : FuncData} {body : List Stmt} (xs : List Str) {as : List AV} {locs : List (Str × AV)} {Q : AV → (Addr → Option AO) → Prop} (G : Good c K) (e : fnInfo K f = some fd) (ho : fdOkB fd = true) (hp : plainParams fd xs) (hb : fd.body = .stmts body) (hn : fd.scope.names = tab) (hc : fd.code = cd)
    (hlo : locsOk tab xs = true) (hl : xs.length = as.length) (hz : xs.zip as = locs)
    (h : ∀ env', Sc env' tab cd → TF c n env' ⟨H, locs⟩ (execs body env') (kLeft env' Q)) : CallC c (n + 1) H (.ref f) as [] [] Q := by
  subst hn hc hz
  exact callC_fn (fnAt_of G e) (fdOk_of ho) (binds_plain hp hl) hb (by rw [zip_fst hl]; exact hlo) h
theorem len1 {vs : List Value} (h : vs.length = 1) : ∃ a, vs = [a] := by
  cases vs with
  | nil => cases h
  | cons a r => cases r with
    | nil => exact ⟨a, rfl⟩
    | cons _ _ => cases h
theorem len2 {vs : List Value} (h : vs.length = 2) : ∃ a b, vs = [a, b] := by
  cases vs with
  | nil => cases h
  | cons a r => obtain ⟨b, rfl⟩ := len1 (vs := r) (by simpa using h); exact ⟨a, b, rfl⟩
theorem len3 {vs : List Value} (h : vs.length = 3) : ∃ a b c, vs = [a, b, c] := by
  cases vs with
  | nil => cases h
  | cons a r => obtain ⟨b, d, rfl⟩ := len2 (vs := r) (by simpa using h); exact ⟨a, b, d, rfl⟩
/-! ### rules with the locals written out -/
noncomputable abbrev kPut1 (Q : AF → St → Prop) (H : Addr → Option AO) (l : List (Str × AV)) : Prop := Q .next ⟨H, l⟩
noncomputable abbrev kPut (x : Str) (Q : AF → St → Prop) (a : AV) (σ : St) : Prop := PutTo σ.loc x a (kPut1 Q σ.H)
noncomputable abbrev kInp1 (x : Str) (Q : AF → St → Prop) (σ : St) (r : AV) : Prop := PutTo σ.loc x r (kPut1 Q σ.H)
noncomputable abbrev kInp (op : Operator) (a : AV) (x : Str) (Q : AF → St → Prop) (b : AV) (σ : St) : Prop := InpTo op a b (kInp1 x Q σ)
noncomputable abbrev kPutA (Q : St → Prop) (H : Addr → Option AO) (l : List (Str × AV)) : Prop := Q ⟨H, l⟩
noncomputable abbrev kBool (Q : Bool → St → Prop) (a : AV) (σ : St) : Prop := BoolTo a (kAt Q σ)
noncomputable abbrev kExpr (Q : AF → St → Prop) (a : AV) (σ : St) : Prop := a = .none ∧ Q .next σ
noncomputable abbrev kDrop (Q : AF → St → Prop) (f : AF) (σ : St) : Prop := DropTo σ (Q f)
theorem sSet' {x : Str} {pos' : Pos} {value : Expr} {pos : Pos} {Q : AF → St → Prop} (S : Sc env tab cd) (hk : okSet tab x = true) (hs : swapsWith value (some (.Name x pos')) pos.line env = pure false)
    (h : TV c n env σ (eval value env) (kPut x Q)) : TF c n env σ (exec (.Assign [.Name x pos'] value pos) env) Q :=
  sSet S hk (h.mono fun a σ₁ ⟨l', e, q⟩ => by rw [e]; exact q) hs
theorem sAug' {x : Str} {pos' : Pos} {op : Operator} {value : Expr} {pos : Pos} {a : AV} {Q : AF → St → Prop} (S : Sc env tab cd) (hk : okSet tab x = true) (hl : lk σ.loc x = some a)
    (h : TV c n env σ (eval value env) (kInp op a x Q)) : TF c n env σ (exec (.AugAssign (.Name x pos') op value pos) env) Q :=
  sAugS S hk hl (h.mono fun b σ₁ ⟨r, h1, l', e, q⟩ => ⟨r, h1, by rw [e]; exact q⟩)
theorem sUnpack' {elts : List Expr} {xs : List (Str × Pos)} {k : Nat} {tpos : Pos} {value : Expr} {pos : Pos} {Q : AF → St → Prop} (S : Sc env tab cd) (he : elts = xs.map fun x => .Name x.1 x.2) (hk : (xs.all fun x => okSet tab x.1) = true)
    (hs : swapsWithSole [.Tuple elts k tpos] value pos.line env = pure false) (hw : swappedStores [.Tuple elts k tpos] value env = pure none)
    (h : TV c n env σ (eval value env) fun a σ₁ => ∃ as l', a = .tup as ∧ xs.length = as.length ∧ putAll σ₁.loc (xs.map Prod.fst) as = l' ∧ Q .next ⟨σ₁.H, l'⟩) : TF c n env σ (exec (.Assign [.Tuple elts k tpos] value pos) env) Q :=
  sUnpack S he hk (h.mono fun a σ₁ ⟨as, l', h1, h2, h3, q⟩ => ⟨as, h1, h2, by rw [h3]; exact q⟩) hs hw
theorem aName' {x : Str} {pos : Pos} {a : AV} {Q : St → Prop} (S : Sc env tab cd) (hk : okSet tab x = true) (h : PutTo σ.loc x a (kPutA Q σ.H)) : Asg c n env σ (.Name x pos) a Q := by
  obtain ⟨l', e, q⟩ := h
  exact aName S hk (by rw [e]; exact q)
theorem aTup' {elts : List Expr} {xs : List (Str × Pos)} {as : List AV} {k : Nat} {pos : Pos} {Q : St → Prop} (S : Sc env tab cd) (he : elts = xs.map fun x => .Name x.1 x.2) (hl : xs.length = as.length) (hk : (xs.all fun x => okSet tab x.1) = true)
    (h : ∃ l', putAll σ.loc (xs.map Prod.fst) as = l' ∧ Q ⟨σ.H, l'⟩) : Asg c n env σ (.Tuple elts k pos) (.tup as) Q := by
  obtain ⟨l', e, q⟩ := h
  exact aTup S he hl hk (by rw [e]; exact q)
theorem putAllNil {loc : List (Str × AV)} : putAll loc [] [] = loc := rfl
theorem putAllCons {loc l1 l' : List (Str × AV)} {x : Str} {xs : List Str} {a : AV} {as : List AV} (h1 : put loc x a = l1) (h2 : putAll l1 xs as = l') : putAll loc (x :: xs) (a :: as) = l' := by
  unfold putAll; rw [h1]; exact h2
theorem leftSame {σ' : St} {q : (Addr → Option AO) → Prop} (h : q σ'.H) : LeftTo env' σ' q := ⟨_, .same, h⟩
theorem bBool {e : Expr} {b : Bool} {Q : Bool → St → Prop} (h : TV c n env σ (eval e env) (kBool Q))
    (he : isTrue e env (eval e env) = (do let v ← eval e env; standAt e.pos; holding [v] (truthy v))) : TB c n env σ (isTrue e env (eval e env)) Q :=
  bValue (h.mono fun a σ₁ ⟨b, e, q⟩ => by subst e; intro A hA s R va hv; cases hv; exact wpAny_truthy_bool (.here R rfl q)) he
theorem sExpr' {e : Expr} {pos : Pos} {Q : AF → St → Prop} (hs : swapsWith e none pos.line env = pure false) (hi : interactive env = false) (h : TV c n env σ (eval e env) (kExpr Q)) : TF c n env σ (exec (.Expr e pos) env) Q := sExpr h hi hs
/-! ### names in a list of locals -/
theorem ofString_inj {a b : String} (h : a ≠ b) : Str.ofString a ≠ Str.ofString b := fun e => h (by
  rw [Str.ofString_eq_toList, Str.ofString_eq_toList] at e
  have e1 : a.toList.map Char.toNat = b.toList.map Char.toNat := by
    injection e with e
    have := congrArg Array.toList e
    simpa using this
  have : a.toList = b.toList := List.map_inj_right (fun x y h => Char.toNat_inj.mp h) |>.mp e1
  exact String.toList_injective this)
theorem lkHit {x : Str} {a : AV} {r : List (Str × AV)} : lk ((x, a) :: r) x = some a := by simp [lk]
theorem lkMiss {x y : String} {a : Option AV} {b : AV} {r : List (Str × AV)} (h : y ≠ x) (hr : lk r (Str.ofString y) = a) : lk ((Str.ofString x, b) :: r) (Str.ofString y) = a := by
  unfold lk; rw [if_neg (ofString_inj h)]; exact hr
theorem putNil {x : Str} {a : AV} : put [] x a = [(x, a)] := rfl
theorem putHit {x : Str} {a b : AV} {r : List (Str × AV)} : put ((x, b) :: r) x a = (x, a) :: r := by simp [put]
theorem putMiss {x y : String} {a b : AV} {r r' : List (Str × AV)} (h : y ≠ x) (hr : put r (Str.ofString y) a = r') : put ((Str.ofString x, b) :: r) (Str.ofString y) a = (Str.ofString x, b) :: r' := by
  unfold put; rw [if_neg (ofString_inj h), hr]
theorem notInt (S : Sc env tab cd) : interactive env = false := by unfold interactive; rw [S.kind]; rfl
/-! ### forgetting -/
theorem TF.drop {t : Sem Flow} {Q : AF → St → Prop} (h : TF c n env σ t (kDrop Q)) : TF c n env σ t Q := fun A hA s R =>
  wpAny_mono (h A hA s R) (fun f s' ⟨af, σ', hf, R', S', H', loc', h1, h2, hq⟩ => ⟨af, ⟨H', loc'⟩, hf, R'.forget h1 h2, ⟨S'.keep, (fun b o e q => by
    have := S'.dom b o e q
    show H' b = none
    cases e' : H' b with
    | none => rfl
    | some o' => rw [h1 b o' e'] at this; cases this), S'.live, S'.gens, S'.drawn, S'.os, S'.toks⟩, hq⟩) fun _ _ e => e
theorem lkApp {l r : List (Str × AV)} {x : Str} {a : AV} (h : lk l x = some a) : lk (l ++ r) x = some a := by
  induction l with
  | nil => cases h
  | cons p l ih =>
    obtain ⟨y, b⟩ := p
    show (if x = y then some b else lk (l ++ r) x) = some a
    change (if x = y then some b else lk l x) = some a at h
    by_cases hx : x = y
    · rw [if_pos hx] at h ⊢; exact h
    · rw [if_neg hx] at h ⊢; exact ih h
/-- the call of a def, its parameters bound otherwise -/
theorem callDefB {f : Addr} {fd : FuncData} {body : List Stmt} {as kv : List AV} {kn : List Str} {locs : List (Str × AV)} {Q : AV → (Addr → Option AO) → Prop} (G : Good c K) (e : fnInfo K f = some fd) (ho : fdOkB fd = true) (hp : Binds c fd as kn kv locs) (hb : fd.body = .stmts body) (hn : fd.scope.names = tab) (hc : fd.code = cd)
    (hlo : locsOk tab (locs.map Prod.fst) = true)
    (h : ∀ env', Sc env' tab cd → TF c n env' ⟨H, locs⟩ (execs body env') (kLeft env' Q)) : CallC c (n + 1) H (.ref f) as kn kv Q := by
  subst hn hc
  exact callC_fn (fnAt_of G e) (fdOk_of ho) hp hb hlo h
theorem ifT {b : Bool} {x y : Prop} (h : b = true) (k : x) : (b = true → x) ∧ (b = false → y) := ⟨fun _ => k, fun e => absurd (h.symm.trans e) (by decide)⟩
theorem ifF {b : Bool} {x y : Prop} (h : b = false) (k : y) : (b = true → x) ∧ (b = false → y) := ⟨fun e => absurd (h.symm.trans e) (by decide), fun _ => k⟩
theorem bIsNone {a : Addr} {Q : AV → St → Prop} (h : Q (.bool false) σ) : Op2 c n env (VR c.P) σ (compareOp .Is) (.obj (.ref a)) .none Q := CmpR.ok .isN h
theorem fmod2 {a : Int} (b : Int) (hb : 0 < b) : a.fmod b = a % b := Int.fmod_eq_emod_of_nonneg a (by lia)
theorem fdiv2 {a : Int} (b : Int) (hb : 0 < b) : a.fdiv b = a / b := Int.fdiv_eq_ediv_of_nonneg a (by lia)
theorem seqIndex_nat {j n : Nat} (h : j < n) : seqIndex? (j : Int) n = some j := by
  have := h
  simp [seqIndex?]
  lia
theorem some_lt {l : List AV} {j : Nat} {x : AV} (h : l[j]? = some x) : j < l.length := by
  rcases Nat.lt_or_ge j l.length with h' | h'
  · exact h'
  · rw [List.getElem?_eq_none h'] at h; cases h
theorem ItemR.listN {a : Addr} {l : List AV} {j : Nat} {x : AV} (hD : σ.H a = some (.list l)) (hx : l[j]? = some x) (hl : l.length ≤ 1000000) : ItemR σ (.obj (.ref a)) (.int (j : Nat)) x :=
  have hj := some_lt hx
  .list hD (seqIndex_nat hj) hx (by lia) (by lia)
theorem ItemR.tupN {l : List AV} {j : Nat} {x : AV} (hx : l[j]? = some x) (hl : l.length ≤ 1000000) : ItemR σ (.tup l) (.int (j : Nat)) x :=
  have hj := some_lt hx
  .tup (seqIndex_nat hj) hx (by lia) (by lia)
theorem listTy {D : Addr} {l : List AV} (hD : σ.H D = some (.list l)) : ∀ s v, Rel c env σ s → VR c.P s.heap (.obj (.ref D)) v → s.TypeIs v "list" ∧ ∀ b, v = .ref b → ∃ ob, s.heap.get? b = some ob ∧ ob.dict = none := fun s v R hv => by
  cases hv
  obtain ⟨items, m, hl, _⟩ := R.own _ _ hD
  exact ⟨⟨_, hl, rfl⟩, fun b e => by cases e; exact ⟨_, hl, rfl⟩⟩
theorem strTy {x : Str} : ∀ s v, Rel c env σ s → VR c.P s.heap (.str x) v → s.TypeIs v "str" ∧ ∀ b, v = .ref b → ∃ ob, s.heap.get? b = some ob ∧ ob.dict = none := fun s v R hv => by
  cases hv
  exact ⟨typeIs_str _ x _, fun b e => by cases e⟩
/-- a list's method -/
noncomputable abbrev kLM (c : Cx) (n : Nat) (env : Env) (pos : Pos) (es : List Expr) (id : String) (Q : AV → St → Prop) (a : AV) (σ : St) : Prop := ListTo a σ.H (kBMA c n env pos es id a Q σ)
noncomputable abbrev kSM1 (c : Cx) (n : Nat) (env : Env) (pos : Pos) (es : List Expr) (id : String) (a : AV) (Q : AV → St → Prop) (σ : St) (_ : Str) : Prop := kBMA c n env pos es id a Q σ
noncomputable abbrev kSM (c : Cx) (n : Nat) (env : Env) (pos : Pos) (es : List Expr) (id : String) (Q : AV → St → Prop) (a : AV) (σ : St) : Prop := StrTo a (kSM1 c n env pos es id a Q σ)
theorem tLM {o : Expr} {name : Str} {apos : Pos} {e : Expr} {rest : List Expr} {pos : Pos} {id : String} {Q : AV → St → Prop}
    (h : TV c n env σ (eval o env) (kLM c n env pos (e :: rest) id Q))
    (slot : Slot "list" name id)
    (hbase : attributeBase o name env (eval o env) = eval o env)
    (hfew : ((backTo pos (starEach (e :: rest) env)).all (fun x => !x.1) && (backToKw pos (keywordEach [] env)).all (fun x => x.1.isSome)
      && decide ((e :: rest).length + ([] : List Keyword).length + (if ([] : List Keyword).isEmpty then 0 else 1) < 30)) = true)
    (hline : (apos.endLine == pos.line) = true) (hty : typeOf (.builtin id) = pure (.type "method_descriptor"))
    (he : backTo pos (starEach (e :: rest) env) = (false, eval e env) :: backTo pos (starEach rest env))
    (hplain : ((backTo pos (starEach (e :: rest) env)).any (·.1) || (backToKw pos (keywordEach [] env)).any (·.1.isNone)) = false) :
    TV c n env σ (eval (.Call (.Attribute o name apos) (e :: rest) [] pos) env) Q :=
  tBM (h.mono fun a σ₀ ⟨D, l, e1, e2, k⟩ => ⟨by subst e1; exact listTy e2, k⟩) hbase hfew hline PySem.F.plainAttrs_list slot hty he hplain
theorem tSM {o : Expr} {name : Str} {apos : Pos} {e : Expr} {rest : List Expr} {pos : Pos} {id : String} {Q : AV → St → Prop}
    (h : TV c n env σ (eval o env) (kSM c n env pos (e :: rest) id Q))
    (slot : Slot "str" name id)
    (hbase : attributeBase o name env (eval o env) = eval o env)
    (hfew : ((backTo pos (starEach (e :: rest) env)).all (fun x => !x.1) && (backToKw pos (keywordEach [] env)).all (fun x => x.1.isSome)
      && decide ((e :: rest).length + ([] : List Keyword).length + (if ([] : List Keyword).isEmpty then 0 else 1) < 30)) = true)
    (hline : (apos.endLine == pos.line) = true) (hty : typeOf (.builtin id) = pure (.type "method_descriptor"))
    (he : backTo pos (starEach (e :: rest) env) = (false, eval e env) :: backTo pos (starEach rest env))
    (hplain : ((backTo pos (starEach (e :: rest) env)).any (·.1) || (backToKw pos (keywordEach [] env)).any (·.1.isNone)) = false) :
    TV c n env σ (eval (.Call (.Attribute o name apos) (e :: rest) [] pos) env) Q :=
  tBM (h.mono fun a σ₀ ⟨x, e1, k⟩ => ⟨by subst e1; exact strTy, k⟩) hbase hfew hline PySem.F.plainAttrs_str slot hty he hplain
end
end

section
theorem slot_ci_next : Slot "callable_iterator" "__next__" "callable_iterator.__next__" :=
  .of (owner := "callable_iterator") (n := "__next__") (by rw [typeLookup_type, builtinLookup_eq_fast]; kernel_rfl) (by decide +kernel) (by decide +kernel) (by decide +kernel)
    (by first | exact .inl (by decide +kernel) | exact .inr (by decide +kernel)) (by rw [isSubtype_type]; kernel_rfl)
theorem slot_ci_iter : Slot "callable_iterator" "__iter__" "callable_iterator.__iter__" :=
  .of (owner := "callable_iterator") (n := "__iter__") (by rw [typeLookup_type, builtinLookup_eq_fast]; kernel_rfl) (by decide +kernel) (by decide +kernel) (by decide +kernel)
    (by first | exact .inl (by decide +kernel) | exact .inr (by decide +kernel)) (by rw [isSubtype_type]; kernel_rfl)
theorem entry_ci_next : entryFor table "callable_iterator.__next__" = some Builtin.«callable_iterator.__next__» := entryFor_of_fast (by kernel_rfl)
theorem entry_ci_iter : entryFor table "callable_iterator.__iter__" = some Builtin.«dict_keyiterator.__iter__» := entryFor_alias (id' := "dict_keyiterator.__iter__") (by kernel_rfl) rfl (by decide +kernel) (by kernel_rfl)
theorem args_ci_next (a : Value) : argsOk "callable_iterator.__next__" ⟨[a], []⟩ := by unfold argsOk; kernel_rfl
theorem args_ci_iter (a : Value) : argsOk "callable_iterator.__iter__" ⟨[a], []⟩ := by unfold argsOk; kernel_rfl
noncomputable abbrev ciObj (f x : Value) (b : Bool) : Obj := { cls := .type "callable_iterator", data := .fields #[f, x, .bool b] }
section
variable {M : Model} {A : Around} {E : Value → Shared → Prop} {s : Shared}
theorem wpAny_callBorrowed {f : Value} {pos : List Value} {Q : Value → Shared → Prop}
    (hc : codeAny M A (.call f ⟨pos, []⟩) (fun r s' => match r with | .ok (.ret v) => Q v s' | .ok _ => False | .error e => E e s') s) : wpAny M A (callBorrowed f pos) Q E s := fun Γ p hΓ => by
  have h := hc _ p rfl (hΓ.enter (.call f ⟨pos, []⟩) none p (by intro x; cases x))
  unfold callBorrowed
  rw [Sem.wp_call]
  refine wpCode_mono (fun r s' hr => ?_) h
  rcases r with e | f
  · exact hr
  · cases f <;> exact hr
end
theorem notImm_ci {f x : Value} {b : Bool} : ¬ Imm (ciObj f x b) := by
  rintro (⟨e, _⟩ | ⟨e, _⟩) <;> (injection e with e; exact absurd e (by decide))
noncomputable def OVR (p : Addr → Prop) (h : Heap) : Option AV → Option Value → Prop
  | none, none => True
  | some a, some v => VR p h a v
  | _, _ => False
noncomputable abbrev TO (c : Cx) (n : Nat) (env : Env) (σ : St) (t : Sem (Option Value)) (Q : Option AV → St → Prop) : Prop := Tr c n env (OVR c.P) σ t Q
theorem AOk.in1' {A : Around} {n : Nat} (h : AOk A (n + 1)) : AOk A.in1 n :=
  ⟨h.handled, by show A.depth + n < _; have := h.depth; lia, by show A.units + 1 + 50 * (n + 1) < _; have := h.units; lia⟩
section
variable {α β γ δ : Type} {c : Cx} {n : Nat} {env env' : Env} {σ : St} {tab : List (Str × NameKind)} {cd : Value} {K : Frag} {H : Addr → Option AO}
theorem wpAny_borrows {M : Model} {A : Around} {E : Value → Shared → Prop} {s : Shared} {q f : Addr} {x : Value} {o : Obj} {fd : FuncData} {Q : Bool → Shared → Prop} (hq : s.heap.get? q = some (methodObj (.ref f) x)) (hf : s.heap.get? f = some o) (hd : o.data = .func fd) (h : Q true s) :
    wpAny M A (borrowsExactly (.ref q)) Q E s := by
  unfold borrowsExactly
  refine wpAny_bind (wpAny_load hq ?_)
  dsimp only
  show wpAny M A (load f >>= _) _ _ _
  refine wpAny_bind (wpAny_load hf ?_)
  rw [hd]
  exact wpAny_pure h
theorem nextCi {it q f x : Addr} {y : Str} {t : Tok} {fd : FuncData} {Q : Option AV → St → Prop} (G : Good c K) (hI : σ.H it = some (.raw (ciObj (.ref q) (.str y t) false))) (hq : σ.H q = some (.raw (methodObj (.ref f) (.ref x)))) (hf : fnInfo K f = some fd)
    (hc : CallC c n σ.H (.ref f) [.obj (.ref x)] [] [] fun a H' => ∃ z, a = .str z ∧ H' it = some (.raw (ciObj (.ref q) (.str y t) false)) ∧ H' q = some (.raw (methodObj (.ref f) (.ref x))) ∧
      ((y == z) = true → Q none ⟨setH H' it (.raw (ciObj .none .none true)), σ.loc⟩) ∧ ((y == z) = false → Q (some (.str z)) ⟨H', σ.loc⟩)) : TO c (n + 1) env σ (pyNext (.ref it)) Q := fun A hA s R => by
  have hit := (R.own _ _ hI).1
  have hqt := (R.own _ _ hq).1
  have X := G.inK.keeps R.base
  obtain ⟨fo, hfo, hfd⟩ : ∃ o, K.lookup f = some o ∧ o.data = .func fd := by
    obtain ⟨oc, od, sl, ho, _⟩ := fnInfo_some hf
    exact ⟨_, ho, rfl⟩
  have hfh := X _ _ hfo
  unfold pyNext
  refine wpAny_bind (wpAny_attempt (wpAny_callSpecial?_slot (name := Str.ofString "__next__") ⟨_, hit, rfl⟩ slot_ci_next
    (wpAny_call_entry slot_ci_next ⟨_, hit, rfl⟩ entry_ci_next ?_ (args_ci_next _))))
  show wpAny _ _ (field (.ref it) 2 >>= _) _ _ s
  refine wpAny_bind (wpAny_field hit rfl (x := .bool false) rfl ?_)
  show wpAny _ _ (field (.ref it) 0 >>= _) _ _ s
  refine wpAny_bind (wpAny_field hit rfl (x := .ref q) rfl ?_)
  refine wpAny_bind (wpAny_attempt ?_)
  unfold callOutOfASlot
  refine wpAny_bind (wpAny_borrows hqt hfh hfd ?_)
  rw [if_pos rfl]
  refine wpAny_callBorrowed (method_call hqt (codeAny_mono (hc env σ.loc A.in1 hA.in1' s R [.ref x] (.cons (.obj _) .nil) [] .nil) (fun r s' hr => ?_)))
  rcases r with e | fl
  · exact hr.elim
  · cases fl with
    | ret v =>
      obtain ⟨a, σ', hv, R', S', hl, z, rfl, h1, h2, h3, h4⟩ := hr
      have hit' := (R'.own _ _ h1).1
      have hqt' := (R'.own _ _ h2).1
      have hfh' := (G.inK.keeps R'.base) _ _ hfo
      cases hv
      dsimp only
      refine wpAny_bind (wpAny_field hit' rfl (x := .bool false) rfl ?_)
      rw [if_neg (by decide)]
      refine wpAny_bind (wpAny_field hit' rfl (x := .str y t) rfl ?_)
      refine wpAny_bind (wpAny_holding (eqBool_str ?_))
      cases hyz : (y == z) with
      | false =>
        simp only [Bool.not_false, if_true]
        refine wpAny_pure ⟨_, rfl, wpAny_pure ?_⟩
        refine ⟨some (.str z), ⟨σ'.H, σ.loc⟩, VStr.str _, ?_, ?_, h4 hyz⟩
        · rw [← hl]; exact R'
        · rw [← hl]; exact S'
      | true =>
        simp only [Bool.not_true, Bool.false_eq_true, if_false]
        refine wpAny_bind (wpAny_rule ?_)
        refine wpAny_bind ?_
        show wpAny _ _ (field (.ref it) 0 >>= _) _ _ s'
        refine wpAny_bind (wpAny_field hit' rfl (x := .ref q) rfl ?_)
        refine wpAny_bind ?_
        unfold slotLetsGo
        refine wpAny_bind (wpAny_borrows hqt' hfh' hfd ?_)
        rw [if_pos rfl]
        refine wpAny_pure ?_
        refine wpAny_bind (wpAny_setField_rec hit' (by simp) fun h₁ e₁ d₁ => ?_)
        refine wpAny_bind (wpAny_setField_rec e₁ (by simp) fun h₂ e₂ d₂ => ?_)
        refine wpAny_setField_rec e₂ (by simp) fun h₃ e₃ d₃ => ?_
        have e₄ : h₃.get? it = some (ciObj .none .none true) := by rw [e₃]; simp [ciObj]
        have oa : OA c.P h₃ it (.raw (ciObj .none .none true)) := ⟨e₄, notImm_ci⟩
        have d₄ := (d₁.trans d₂).trans d₃
        have R₂ := R'.upd (t := s'.toks) h1 d₄ oa
        have S₂ := S'.trans (Stp.upd (env := env) (σ := σ') (c := c) (t := s'.toks) h1 d₄ oa)
        show wpAny _ _ (newExc (.type "StopIteration") [] >>= _) _ _ _
        refine wpAny_bind ?_
        simp only [newExc, newTuple]
        refine wpAny_bind (wpAny_newObj_type ?_ (by size_fits))
        refine wpAny_bind (m := firstArgMember _ _) (wpAny_of_eq (a := Value.none) (by first | rfl | (simp only [firstArgMember]; rfl)) ?_)
        refine wpAny_newObj_type ?_ (by size_fits)
        simp only [raiseNew]
        refine wpAny_bind (wpAny_handled ?_)
        rw [show A.in1.handled = none from hA.handled]
        refine wpAny_bind (wpAny_pure (wpAny_throw ?_))
        refine wpAny_bind (wpAny_isInstance (T := "StopIteration") (b := true) ⟨_, Heap.get?_push_size _ rfl, rfl⟩ isSubtype_stop ?_)
        refine wpAny_pure ?_
        have k2 : ∀ b o, h₃.get? b = some o → ∀ o1 o2, ((h₃.push o1).push o2).get? b = some o := fun b o e _ _ => Heap.get?_push_of_some _ (Heap.get?_push_of_some _ e)
        refine ⟨none, ⟨setH σ'.H it (.raw (ciObj .none .none true)), σ'.loc⟩, trivial, R₂.grow (fun b o e => k2 b o e _ _) (Nat.le_refl _), S₂.trans (Stp.grow fun b o e => k2 b o e _ _), ?_⟩
        rw [hl]; exact h3 hyz
    | _ => exact hr.elim
theorem nextCiEnd {it : Addr} {Q : Option AV → St → Prop} (hI : σ.H it = some (.raw (ciObj .none .none true))) (h : Q none σ) : TO c (n + 1) env σ (pyNext (.ref it)) Q := fun A hA s R => by
  have hit := (R.own _ _ hI).1
  unfold pyNext
  refine wpAny_bind (wpAny_attempt (wpAny_callSpecial?_slot (name := Str.ofString "__next__") ⟨_, hit, rfl⟩ slot_ci_next
    (wpAny_call_entry slot_ci_next ⟨_, hit, rfl⟩ entry_ci_next ?_ (args_ci_next _))))
  show wpAny _ _ (field (.ref it) 2 >>= _) _ _ s
  refine wpAny_bind (wpAny_field hit rfl (x := .bool true) rfl ?_)
  rw [if_pos (by decide)]
  refine wpAny_bind (wpAny_rule ?_)
  refine wpAny_bind ?_
  show wpAny _ _ (newExc (.type "StopIteration") [] >>= _) _ _ _
  refine wpAny_bind ?_
  simp only [newExc, newTuple]
  refine wpAny_bind (wpAny_newObj_type ?_ (by size_fits))
  refine wpAny_bind (m := firstArgMember _ _) (wpAny_of_eq (a := Value.none) (by first | rfl | (simp only [firstArgMember]; rfl)) ?_)
  refine wpAny_newObj_type ?_ (by size_fits)
  simp only [raiseNew]
  refine wpAny_bind (wpAny_handled ?_)
  rw [show A.in1.handled = none from hA.handled]
  refine wpAny_bind (wpAny_pure (wpAny_throw ?_))
  refine wpAny_bind (wpAny_isInstance (T := "StopIteration") (b := true) ⟨_, Heap.get?_push_size _ rfl, rfl⟩ isSubtype_stop ?_)
  refine wpAny_pure ?_
  have k2 : ∀ b o, s.heap.get? b = some o → ∀ o1 o2, ((s.heap.push o1).push o2).get? b = some o := fun b o e _ _ => Heap.get?_push_of_some _ (Heap.get?_push_of_some _ e)
  exact ⟨none, σ, trivial, R.grow (fun b o e => k2 b o e _ _) (Nat.le_refl _), Stp.grow fun b o e => k2 b o e _ _, h⟩
/-- a loop over an iterator that was made with a callable and a sentinel -/
inductive CiTo (it : Addr) (f x : Value) (b : Bool) (m : Nat) (Inv : Nat → St → Prop) (a : AV) (σ : St) : Prop
  | mk : a = .obj (.ref it) → σ.H it = some (.raw (ciObj f x b)) ∧ Inv m σ → CiTo it f x b m Inv a σ
noncomputable abbrev kCiT (c : Cx) (n : Nat) (env : Env) (body : List Stmt) (Inv : Nat → St → Prop) (m : Nat) (Q : AF → St → Prop) (σ : St) : Prop := TF c n env σ (execs body env) (kWhQ Inv m Q)
noncomputable abbrev kCi (c : Cx) (n : Nat) (env : Env) (target : Expr) (body : List Stmt) (Inv : Nat → St → Prop) (m : Nat) (Q : AF → St → Prop) (r : Option AV) (σ : St) : Prop := match r with | none => Q .next σ | some a => Asg c n env σ target a (kCiT c n env body Inv m Q)
theorem sForCi {it : Addr} {f x : Value} {b : Bool} {target iter : Expr} {body : List Stmt} {pos : Pos} {Q : AF → St → Prop} (m : Nat) (Inv : Nat → St → Prop)
    (h : TV c n env σ (eval iter env) (CiTo it f x b m Inv))
    (step : ∀ m σ, Inv m σ → TO c n env σ (pyNext (.ref it)) (kCi c n env target body Inv m Q))
    (hs : ∀ x, foldedSetIterable iter env x = pure x) (hl : ∀ v, letOwnedTupleGo target (.ref it) v = pure ()) : TF c n env σ (exec (.For target iter body [] pos) env) Q := fun A hA s R => by
  refine wpAny_For (last h hA R fun a va σ₁ s₁ hv R₁ S₁ h₁ => ?_) hs
  obtain ⟨rfl, hI, h₁⟩ := h₁
  cases hv
  have hit := (R₁.own _ _ hI).1
  refine wpAny_pyIter_slot ⟨_, hit, rfl⟩ slot_ci_iter (wpAny_call_entry slot_ci_iter ⟨_, hit, rfl⟩ entry_ci_iter ?_ (args_ci_iter _))
  show wpAny _ _ (ret (.ref it)) _ _ s₁
  refine wpAny_pure ⟨_, rfl, "callable_iterator", _, ⟨_, hit, rfl⟩, slot_ci_next.lookup, ?_⟩
  have hA' : AOk A n := hA
  refine codeAny_mono (codeAny_forLoop_any (R := fun r s' => match r with | .ok f => Post c env σ s (FR c.P) Q f s' | .error _ => False) (fun k s' => ∃ σ', Rel c env σ' s' ∧ Stp env σ s σ' s' ∧ Inv k σ') (fun k s₂ x => ?_) m ⟨σ₁, R₁, S₁, h₁⟩) (fun r s' hr => by
    cases r with
    | ok f => exact hr
    | error e => exact hr.elim)
  obtain ⟨σ₂, R₂, S₂, h₂⟩ := x
  refine wpAny_mono (step k σ₂ h₂ A hA s₂ R₂) (fun r s₃ x => ?_) fun _ _ e => e.elim
  obtain ⟨oa, σ₃, hr, R₃, S₃, h₃⟩ := x
  cases oa with
  | none =>
    cases r with
    | some v => exact hr.elim
    | none => exact wpAny_execs_nil ⟨.next, σ₃, .next, R₃, S₂.trans S₃, h₃⟩
  | some a =>
    cases r with
    | none => exact hr.elim
    | some v =>
      dsimp only
      rw [hl]
      refine wpAny_pure ?_
      obtain ⟨T⟩ := h₃
      refine wpAny_mono (T A hA s₃ R₃ v hr) (fun _ s₄ x => ?_) fun _ _ e => e.elim
      obtain ⟨_, σ₄, _, R₄, S₄, h₄⟩ := x
      refine wpAny_mono (h₄ A hA s₄ R₄) (fun fl s₅ x => ?_) fun _ _ e => e.elim
      obtain ⟨af, σ₅, hf, R₅, S₅, h₅⟩ := x
      have ST := ((S₂.trans S₃).trans S₄).trans S₅
      cases hf with
      | next => obtain ⟨m', hm, hi⟩ := h₅; exact ⟨m', hm, σ₅, R₅, ST, hi⟩
      | cont => obtain ⟨m', hm, hi⟩ := h₅; exact ⟨m', hm, σ₅, R₅, ST, hi⟩
      | brk => exact ⟨_, σ₅, .next, R₅, ST, h₅⟩
      | ret x => exact ⟨_, σ₅, .ret x, R₅, ST, h₅⟩
end
end

section
section
variable {α β γ δ : Type} {c : Cx} {n : Nat} {env env' : Env} {σ : St} {tab : List (Str × NameKind)} {cd : Value} {K : Frag} {H : Addr → Option AO}
theorem notImm_meth {f x : Value} : ¬ Imm (methodObj f x) := by
  rintro (⟨e, _⟩ | ⟨e, _⟩) <;> (injection e with e; exact absurd e (by decide))
/-- a new object, told whole -/
theorem postRaw {o : Obj} {s : Shared} {t : Nat} {Q : AV → St → Prop} (R : Rel c env σ s) (hi : ¬ Imm o) (hfr : o.isFreed = false)
    (h : ∀ a, σ.H a = none → c.B.get? a = none → Q (.obj (.ref a)) ⟨setH σ.H a (.raw o), σ.loc⟩) (ht : s.toks ≤ t := by walk_at "my_tk") :
    Post c env σ s (VR c.P) Q (.ref s.heap.objs.size) { s with heap := s.heap.push o, toks := t } := by
  have k : ∀ b o', s.heap.get? b = some o' → (s.heap.push o).get? b = some o' := fun _ _ e => Heap.get?_push_of_some _ e
  have R' := R.grow (t := t) k
  have f := R.fresh (Nat.le_refl s.heap.objs.size)
  have oa : OA c.P (s.heap.push o) s.heap.objs.size (.raw o) := ⟨Heap.get?_push_size _ hfr, hi⟩
  refine ⟨_, _, .obj _, R'.alloc f.1 f.2.1 f.2.2 oa, ⟨fun b o e _ _ => k b o e, fun b ob hb e => ?_, fun b ob e => ⟨ob, k b ob e⟩, rfl, rfl, rfl, ht⟩, h _ f.1 f.2.2⟩
  show setH σ.H _ _ b = none
  rw [setH_ne _ _ (Nat.ne_of_lt (Heap.lt_size hb))]; exact e
noncomputable def bindsOk (K : Frag) (C f : Addr) (name : Str) : Bool := hasDictIn K C && findIn K (.ref C) name == some (some (.ref f)) && typeIn K (.ref f) == some (.type "function") &&
  specialIn K (.ref f) "__get__" == some (some (.builtin "function.__get__")) && takesIn K (.ref f) == some false && !copiedNames.contains name && findIn K (.ref C) "__getattr__" == some none
/-- a bound method as a value -/
theorem opGetBound {x C dx f : Addr} {fs : List (Str × AV)} {name : Str} {e : Bool} {Q : AV → St → Prop} (G : Good c K) (hc : clsOk K C = true) (hb : bindsOk K C f name = true) (I : Inst σ.H x C dx fs) (hl : lk fs name = none)
    (h : ∀ q, σ.H q = none → c.B.get? q = none → Q (.obj (.ref q)) ⟨setH σ.H q (.raw (methodObj (.ref f) (.ref x))), σ.loc⟩) : TV c n env σ (getAttr (.ref x) name e) Q := fun A hA s R => by
  obtain ⟨od, m, IA, hod, hn1, hf, hlook, hne⟩ := R.inst I
  unfold clsOk at hc
  simp only [Bool.and_eq_true, beq_iff_eq] at hc
  obtain ⟨⟨⟨h1, h2⟩, h3⟩, h4⟩ := hc
  unfold bindsOk at hb
  simp only [Bool.and_eq_true, beq_iff_eq, Bool.not_eq_true'] at hb
  obtain ⟨⟨⟨⟨⟨⟨b1, b2⟩, b3⟩, b4⟩, b5⟩, b6⟩, b7⟩ := hb
  have hmn : m name = none := by have := hf name; rw [hl] at this; exact this
  have X := G.inK.keeps R.base
  refine get_bind X IA h1 (findObj_fn b1 b2 b4 b5 b6 (by rw [hlook name, hmn])) b7 ?_
  exact wpAny_call (fn_get (s := { s with toks := s.toks + 1 }) X b3 (handed_on rfl (postRaw R notImm_meth rfl h)))
inductive BoundTo (c : Cx) (K : Frag) (name : Str) (Q : AV → St → Prop) (a : AV) (σ : St) : Prop
  | mk (x C dx : Addr) (fs : List (Str × AV)) (f : Addr) : a = .obj (.ref x) → clsOk K C = true → bindsOk K C f name = true → Inst σ.H x C dx fs → lk fs name = none → (∀ q, σ.H q = none → c.B.get? q = none → Q (.obj (.ref q)) ⟨setH σ.H q (.raw (methodObj (.ref f) (.ref x))), σ.loc⟩) → BoundTo c K name Q a σ
inductive ClsSTo (K : Frag) (name : Str) (Q : AV → St → Prop) (a : AV) (σ : St) : Prop
  | mk (C : Addr) (x : Str) (t : Tok) : a = .obj (.ref C) → readsIn K C (.type "type") = true → findCls K (.ref C) (.type "type") name = some (.val (.str x t)) → Q (.str x) σ → ClsSTo K name Q a σ
inductive TruthLTo (Q : Bool → St → Prop) (a : AV) (σ : St) : Prop
  | mk (D : Addr) (l : List AV) : a = .obj (.ref D) → σ.H D = some (.list l) → l.length ≤ 1000000 ∧ Q (!l.isEmpty) σ → TruthLTo Q a σ
inductive Set3To (x y z : Str) (Q : AF → St → Prop) (a : AV) (σ : St) : Prop
  | mk (l1 l2 l3 : List (Str × AV)) : put σ.loc x a = l1 → put l1 y a = l2 → put l2 z a = l3 → Q .next ⟨σ.H, l3⟩ → Set3To x y z Q a σ
theorem tBound {o : Expr} {name : Str} {pos : Pos} {Q : AV → St → Prop} (G : Good c K) (h : TV c n env σ (eval o env) (BoundTo c K name Q))
    (he : eval (.Attribute o name pos) env = (do
      let o' ← eval o env
      standAt pos.atName
      let r ← holding [o'] (getAttr o' name true)
      letTemporaryGo o o' r
      pure r)) (hg : ∀ x r, letTemporaryGo o x r = pure ()) : TV c n env σ (eval (.Attribute o name pos) env) Q := fun A hA s R => by
  rw [he]
  refine wpAny_bind (last h hA R fun a va σ₁ s₁ hv R₁ S₁ h₁ => ?_)
  obtain ⟨x, C, dx, fs, f, rfl, h1, h2, I, h3, hq⟩ := h₁
  cases hv
  refine wpAny_bind (wpAny_standAt (wpAny_bind (wpAny_holding (wpAny_mono (opGetBound (e := true) (Q := Q) G h1 h2 I h3 hq A hA s₁ R₁) (fun r s₂ y => ?_) fun _ _ e => e))))
  rw [hg]
  exact wpAny_bind (wpAny_pure (wpAny_pure (y.from S₁)))
/-- a class's attribute that is a text -/
theorem tClsStr {o : Expr} {name : Str} {pos : Pos} {Q : AV → St → Prop} (G : Good c K) (h : TV c n env σ (eval o env) (ClsSTo K name Q))
    (he : eval (.Attribute o name pos) env = (do
      let o' ← eval o env
      standAt pos.atName
      let r ← holding [o'] (getAttr o' name true)
      letTemporaryGo o o' r
      pure r)) (hg : ∀ x r, letTemporaryGo o x r = pure ()) : TV c n env σ (eval (.Attribute o name pos) env) Q := fun A hA s R => by
  rw [he]
  refine wpAny_bind (last h hA R fun a va σ₁ s₁ hv R₁ S₁ h₁ => ?_)
  obtain ⟨C, x, t, rfl, h1, h2, hq⟩ := h₁
  cases hv
  refine wpAny_bind (wpAny_standAt (wpAny_bind (wpAny_holding (cls_value (G.inK.keeps R₁.base) h1 h2 rfl ?_))))
  rw [hg]
  exact wpAny_bind (wpAny_pure (wpAny_pure (Post.from S₁ (postTok R₁ (.str ..) hq))))
/-- iter(f, sentinel) -/
theorem cIter2 {q f x : Addr} {y : Str} {Q : AV → (Addr → Option AO) → Prop} (hq : H q = some (.raw (methodObj (.ref f) (.ref x))))
    (h : ∀ a t, H a = none → c.B.get? a = none → Q (.obj (.ref a)) (setH H a (.raw (ciObj (.ref q) (.str y t) false)))) : CallS c n H (.builtin "iter") [.obj (.ref q), .str y] [] [] Q := fun env loc A hA s R vs hv ks hk => by
  cases hk
  cases hv with
  | cons h1 hv => cases hv with
    | cons h2 hv =>
      cases hv
      cases h1
      cases h2
      have hqt := (R.own _ _ hq).1
      refine call_function_entry (by decide +kernel) (by decide +kernel) (entryFor_of_fast (b := Builtin.«iter») (by kernel_rfl)) (by unfold argsOk; kernel_rfl) ?_
      unfold Builtin.«iter»
      refine wpAny_bind (m := someArgs "iter" 1 2 _) (wpAny_of_eq (a := [Value.ref q, _]) (by first | rfl | kernel_rfl!) ?_)
      dsimp only
      refine wpAny_bind (wpAny_specialOf (T := "method") ⟨_, hqt, rfl⟩ (r := some (.builtin "method.__call__")) (by rw [typeLookup_type, builtinLookup_eq_fast]; kernel_rfl) ?_)
      rw [if_neg (by simp)]
      refine wpAny_bind (wpAny_rule ?_)
      refine wpAny_bind (wpAny_newObj_type (wpAny_pure ⟨_, rfl, ?_⟩))
      exact postRaw (o := ciObj (.ref q) (.str y _) false) (Q := fun a σ' => σ'.loc = loc ∧ Q a σ'.H) R notImm_ci rfl fun a h1 h2 => ⟨rfl, h a _ h1 h2⟩
/-- the truth of a list -/
theorem opTruthL {D : Addr} {l : List AV} {Q : Bool → St → Prop} (hD : σ.H D = some (.list l)) (hsz : l.length ≤ 1000000) (h : Q (!l.isEmpty) σ) : Op1 c n env EqR σ truthy (.obj (.ref D)) Q := fun A hA s R va hv => by
  cases hv
  obtain ⟨items, m, hl, hvs⟩ := R.own D _ hD
  have hlen : items.size = l.length := by have := hvs.length; simpa using this
  refine wpAny_truthy_list (items := items) ⟨_, hl, rfl, _, rfl⟩ (by lia) ?_
  have e : items.isEmpty = l.isEmpty := by
    cases l with
    | nil => have : items.size = 0 := hlen; simp [Array.isEmpty, this]
    | cons a l => have : items.size = l.length + 1 := hlen; simp [Array.isEmpty, this]
  rw [e]
  exact postTok R rfl h
theorem bTruthL {e : Expr} {Q : Bool → St → Prop} (h : TV c n env σ (eval e env) (TruthLTo Q))
    (he : isTrue e env (eval e env) = (do let v ← eval e env; standAt e.pos; holding [v] (truthy v))) : TB c n env σ (isTrue e env (eval e env)) Q :=
  bValue (h.mono fun a σ₁ ⟨D, l, e, h1, h2, h3⟩ => by subst e; exact opTruthL h1 h2 h3) he
/-- x = y = z = value -/
theorem sSet3 {x y z : Str} {px py pz : Pos} {value : Expr} {pos : Pos} {Q : AF → St → Prop} (S : Sc env tab cd) (hk : (okSet tab x && okSet tab y && okSet tab z) = true)
    (h : TV c n env σ (eval value env) (Set3To x y z Q))
    (hw : swappedStores [.Name x px, .Name y py, .Name z pz] value env = pure none) : TF c n env σ (exec (.Assign [.Name x px, .Name y py, .Name z pz] value pos) env) Q := fun A hA s R => by
  simp only [Bool.and_eq_true] at hk
  obtain ⟨⟨k1, k2⟩, k3⟩ := hk
  refine wpAny_Assign_three (last h hA R fun a va σ₁ s₁ hv R₁ S₁ h₁ => ?_) rfl hw
  obtain ⟨_, _, _, rfl, rfl, rfl, hq⟩ := h₁
  obtain ⟨T1⟩ := aName (c := c) (n := n) (pos := px) (a := a) (σ := σ₁) (Q := fun σ' => σ' = ⟨σ₁.H, put σ₁.loc x a⟩) S k1 rfl
  refine wpAny_mono (T1 A hA s₁ R₁ va hv) (fun _ s₂ w => ?_) fun _ _ e => e
  obtain ⟨_, σ₂, _, R₂, S₂, rfl⟩ := w
  obtain ⟨T2⟩ := aName (c := c) (n := n) (pos := py) (a := a) (σ := ⟨σ₁.H, put σ₁.loc x a⟩) (Q := fun σ' => σ' = ⟨σ₁.H, put (put σ₁.loc x a) y a⟩) S k2 rfl
  refine wpAny_mono (T2 A hA s₂ R₂ va (S₂.vr R₁ hv)) (fun _ s₃ w => ?_) fun _ _ e => e
  obtain ⟨_, σ₃, _, R₃, S₃, rfl⟩ := w
  obtain ⟨T3⟩ := aName (c := c) (n := n) (pos := pz) (a := a) (σ := ⟨σ₁.H, put (put σ₁.loc x a) y a⟩) (Q := fun σ' => Q .next σ') S k3 hq
  refine wpAny_mono (T3 A hA s₃ R₃ va (S₃.vr R₂ (S₂.vr R₁ hv))) (fun _ s₄ w => ?_) fun _ _ e => e
  obtain ⟨_, σ₄, _, R₄, S₄, hq⟩ := w
  exact ⟨_, σ₄, .next, R₄, ((S₁.trans S₂).trans S₃).trans S₄, hq⟩
end
end

section
section
variable {α β γ δ : Type} {c : Cx} {n : Nat} {env env' : Env} {σ : St} {tab : List (Str × NameKind)} {cd : Value} {K : Frag} {H : Addr → Option AO}
theorem VB.rev {p : Addr → Prop} {h : Heap} {x : Str} {a : AV} : ∀ {l : List (Str × AV)} {vs : List (Str × Value)}, VB p h l vs → (l.map Prod.fst).Nodup → lk l x = some a → ∃ v, vs.reverse.lookup x = some v ∧ VR p h a v
  | _, _, .nil, _, e => by cases e
  | _, _, .cons (x := y) (v := v) (vs := vs) hv hs, hn, e => by
    rw [List.map_cons, List.nodup_cons] at hn
    rw [List.reverse_cons, List.lookup_append, List.lookup_cons, List.lookup_nil]
    by_cases hxy : x = y
    · subst hxy
      rw [lk, if_pos rfl] at e
      cases e
      have : vs.reverse.lookup x = none := by
        rw [List.lookup_eq_none_iff]
        intro q hq
        have h1 : q.1 ∈ vs.map Prod.fst := List.mem_map.mpr ⟨q, List.mem_reverse.mp hq, rfl⟩
        rw [hs.names] at h1
        simp only [bne_iff_ne, ne_eq, beq_eq_false_iff_ne, Bool.not_eq_true', beq_iff_eq]
        rintro rfl
        exact hn.1 h1
      rw [this]
      exact ⟨v, by simp, hv⟩
    · rw [lk, if_neg hxy] at e
      obtain ⟨u, h1, h2⟩ := VB.rev hs hn.2 e
      exact ⟨u, by rw [h1]; rfl, h2⟩
/-- the call of a lambda that closes over one name -/
theorem callC_lam {f k : Addr} {o : Obj} {fd : FuncData} {body : Expr} {fv : Str} {w : Value} {args kv : List AV} {kn : List Str} {locs : List (Str × AV)} {c' : Addr} {oc : Obj} {vs0 : Array Value} {t0 : Tok} {Q : AV → (Addr → Option AO) → Prop}
    (hf : H f = some (.raw o)) (hd : o.data = .func fd) (hbody : fd.body = .expr body) (hclo : fd.closure = [(fv, k)]) (hk : H k = some (.cell w)) (hfk : f ≠ k) (hck : c' ≠ k)
    (hoc : H c' = some (.raw oc)) (hcode : fd.code = .ref c') (hocd : oc.data = .fields vs0) (hov : vs0[1]? = some (.str fd.qualname t0)) (hlim : c.B.NoLimit)
    (hkd : fd.scope.kind = .function) (hco : fd.scope.isCoroutine = false) (hgen : fd.scope.isGenerator = false) (hgl : fd.globals = mainGlobals) (hbi : fd.builtins = builtinsNs)
    (hnc : ∀ x ∈ fd.scope.names, x.2 ≠ .cell) (hloc : ∀ x ∈ locs.map Prod.fst, fd.scope.names.lookup x = some .local) (hnd : (locs.map Prod.fst).Nodup) (hfree : ∀ x, fd.scope.names.lookup x = some .free → x = fv) (hfv : fd.scope.names.lookup fv = some .free)
    (hb : Binds c fd args kn kv locs)
    (h : ∀ env', Sc env' fd.scope.names (.ref c') → TV c n env' ⟨remH H k, (fv, .obj w) :: locs⟩ (eval body env') fun a σ' => lk σ'.loc fv = some (.obj w) ∧ Q a (setH σ'.H k (.cell w))) :
    CallC c (n + 1) H (.ref f) args kn kv Q := fun env loc A hA s R vs hv ks hks => by
  have hbase := R.base
  have hfo := (R.own _ _ hf).1
  obtain ⟨binds, hbt, hvb⟩ := hb s vs ks hbase hv hks
  have hnm := hvb.names
  have hkc : s.heap.IsCell k (some w) := R.own _ _ hk
  refine kla_callFunE hA.room hfo hd hco hgen hbody ?_ (hbt _ _ _ _ ?_)
  · rw [hcode]
    exact ⟨c', oc, vs0, t0, rfl, (R.own _ _ hoc).1, hocd, hov⟩
  rw [hclo, hgl, hbi, hcode]
  refine wpAny_with_toks (Nat.le_refl _) (wpAny_newFunctionEnv hnc (fun x hx => hloc _ (by rw [← hnm]; exact List.mem_map.mpr ⟨x, hx, rfl⟩)) (fun h₁ hns hsb hpos => ?_) hkd)
  have keep : ∀ b o, s.heap.get? b = some o → h₁.get? b = some o := fun b o e => hsb.extBut b o (Nat.ne_of_lt (Heap.lt_size e)) (Heap.get?_push_of_some _ e)
  have kT : KI c.P s.heap h₁ := .all keep
  refine ⟨((hlim.keeps hbase)).fresh _ hsb, kla_codeExpr ?_⟩
  generalize he : newEnv fd.scope s.heap.objs.size mainGlobals [(fv, k)] (fd.qualname ++ ".<locals>.") (some f) (.ref c') none builtinsNs = env'
  have e1 : env'.locals = s.heap.objs.size := by rw [← he]; rfl
  have e2 : env'.cells = [(fv, k)] := by rw [← he]; rfl
  have e3 : env'.scope = fd.scope := by rw [← he]; rfl
  have hcl : ∀ {x k'}, env'.cells.lookup x = some k' → x = fv ∧ k' = k := fun {x k'} q => by
    rw [e2, List.lookup_cons] at q
    by_cases hx : (x == fv) = true
    · simp only [hx] at q; cases q; exact ⟨beq_iff_eq.mp hx, rfl⟩
    · simp only [hx] at q; cases q
  have hcl' : env'.cells.lookup fv = some k := by rw [e2, List.lookup_cons]; simp
  have hS : Sc env' fd.scope.names (.ref c') := by
    refine ⟨by rw [e3], by rw [e3]; exact hkd, by rw [← he]; rfl, by rw [← he]; rfl, by rw [← he]; rfl, fun x hx => ?_, fun x hx => ?_⟩
    · rcases hx with hx | hx
      · exact absurd rfl (hnc _ (mem_of_lookup hx))
      · rw [hfree x hx]; exact ⟨k, hcl'⟩
    · cases e : env'.cells.lookup x with
      | none => rfl
      | some k' => obtain ⟨rfl, _⟩ := hcl e; rw [hfv] at hx; cases hx
  have hfr : ∀ b, FP env' b → b = s.heap.objs.size ∨ b = k := fun b hb => by
    rcases hb with rfl | ⟨x, hx⟩
    · exact .inl e1
    · exact .inr (hcl hx).2
  have hksz : k < s.heap.objs.size := by obtain ⟨o, e, _⟩ := hkc; exact Heap.lt_size e
  have R₁ : Rel c env' ⟨remH H k, (fv, .obj w) :: locs⟩ { s with heap := h₁, toks := s.toks + binds.length } := by
    refine ⟨fun b o e => keep _ _ (R.base b o e), fun a o e => (R.own a o (remH_sub e)).keep (fun _ q => keep _ _ q) kT, fun a o e => R.ownB a o (remH_sub e), ⟨by rw [e3]; exact hkd, ⟨_, by rw [e1]; exact hns, fun x a e q => ?_⟩, fun x k' e => ?_, ?_, fun x k' e => ?_⟩, fun b q => ?_, fun b q => ?_, fun b q => let ⟨o, e⟩ := R.priv b q; ⟨o, keep _ _ e⟩, Nat.lt_of_lt_of_le R.pos hpos, fun a o T e => Nat.le_trans (R.gh a o T (remH_sub e)) hpos⟩
    · have hx : x ≠ fv := by
        rintro rfl
        unfold Env.kindOf at q
        rw [e3, hfv] at q; cases q
      have e' : lk locs x = some a := by
        change (if x = fv then some (AV.obj w) else lk locs x) = some a at e
        rw [if_neg hx] at e; exact e
      obtain ⟨v, h1, h2⟩ := hvb.rev hnd e'
      exact ⟨v, h1, h2.keep kT⟩
    · obtain ⟨rfl, rfl⟩ := hcl e
      refine ⟨some w, hkc.keeps keep, fun a q => ?_⟩
      change (if x = x then some (AV.obj w) else lk locs x) = some a at q
      rw [if_pos rfl] at q
      cases q
      exact ⟨w, rfl, .obj w⟩
    · rw [e2]; simp
    · rw [(hcl e).2, e1]; exact Nat.ne_of_lt hksz
    · rcases hfr b q with rfl | rfl
      · exact remH_none (R.fresh (Nat.le_refl _)).1
      · exact remH_self _ _
    · rcases hfr b q with rfl | rfl
      · exact (R.fresh (Nat.le_refl _)).2.2
      · exact R.ownB _ _ hk
  refine wpAny_mono (h env' hS (A.deeper _) (hA.deeper _) _ R₁) (fun v s' P => ?_) fun _ _ e => e.elim
  obtain ⟨a, σ', hv', R', S', hlk, hq⟩ := P
  have hdom : ∀ b o, s.heap.get? b = some o → H b = none → setH σ'.H k (.cell w) b = none := fun b o hb e => by
    have hbk : b ≠ k := by rintro rfl; rw [hk] at e; cases e
    rw [setH_ne _ _ hbk]
    exact S'.dom b o (keep _ _ hb) (remH_none e)
  have hkeep : ∀ b o, s.heap.get? b = some o → H b = none → s'.heap.get? b = some o := fun b o e q =>
    S'.keep b o (keep b o e) (remH_none q) fun hf => by
      rcases hfr b hf with rfl | rfl
      · exact absurd (Heap.lt_size e) (Nat.lt_irrefl _)
      · rw [hk] at q; cases q
  have kT' : KI c.P s.heap s'.heap := fun a o hi _ t => hkeep _ _ t (R.imm hi t).1
  have R'' : Rel c env ⟨setH σ'.H k (.cell w), loc⟩ s' := by
    refine ⟨R'.base, fun a o e => ?_, fun a o e => ?_, R.fr.keep (fun b o hb e => hkeep b o e (R.fpH b hb)) kT', fun b hb => let ⟨o, e, _⟩ := R.fr.fp hb; hdom b o e (R.fpH b hb), R.fpB, R'.priv, R'.pos, fun a o T e => by
      by_cases hak : a = k
      · subst hak; change setH σ'.H a (.cell w) a = _ at e; rw [setH_self] at e; cases e
      · change setH σ'.H k (.cell w) a = _ at e; rw [setH_ne _ _ hak] at e; exact R'.gh a o T e⟩
    · by_cases hak : a = k
      · subst hak
        change setH σ'.H a (.cell w) a = some o at e
        rw [setH_self] at e
        cases e
        obtain ⟨u, hu, q⟩ := R'.fr.cells fv a hcl'
        obtain ⟨v', rfl, e2⟩ := q _ hlk
        cases e2
        exact hu
      · change setH σ'.H k (.cell w) a = some o at e
        rw [setH_ne _ _ hak] at e
        exact R'.own a o e
    · by_cases hak : a = k
      · subst hak
        exact R.ownB _ _ hk
      · change setH σ'.H k (.cell w) a = some o at e
        rw [setH_ne _ _ hak] at e
        exact R'.ownB a o e
  have S'' : Stp env ⟨H, loc⟩ s ⟨setH σ'.H k (.cell w), loc⟩ s' := ⟨fun b o e h1 _ => hkeep b o e h1, hdom, fun b o e => S'.live b o (keep b o e), S'.gens, S'.drawn, S'.os, Nat.le_trans hpos S'.toks⟩
  exact ⟨a, _, hv', R'', S'', rfl, hq⟩
end
end

section
section
variable {α β γ δ : Type} {c : Cx} {n : Nat} {env env' : Env} {σ : St} {s : Shared} {tab : List (Str × NameKind)} {cd : Value} {K : Frag} {H : Addr → Option AO}
theorem Rel.updX (R : Rel c env σ s) {a : Addr} {o o' : AO} {h' : Heap} {t : Nat} (e : σ.H a = some o) (hs : Heap.ExtBut a s.heap h') (ho : OA c.P h' a o') (ht : s.toks ≤ t) (hg : ∀ b T, o' = .ghost b T → T ≤ s.toks := by walk_at "my_gh") :
    Rel c env ⟨setH σ.H a o', σ.loc⟩ { s with heap := h', toks := t } := by
  have kT : KI c.P s.heap h' := fun b o hi _ q => hs b o (fun z => by subst z; have := (R.imm hi q).1; rw [e] at this; cases this) q
  refine ⟨fun b ob q => hs b ob (fun z => by subst z; rw [R.ownB b o e] at q; cases q) (R.base b ob q), fun b ob q => ?_, fun b ob q => ?_, R.fr.keep (fun b ob hb q => hs b ob (fun z => ?_) q) kT, fun b q => ?_, R.fpB, fun b q => by
    by_cases h : b = a
    · subst h; exact ho.there
    · obtain ⟨ob, z⟩ := R.priv b q; exact ⟨ob, hs b ob h z⟩, Nat.lt_of_lt_of_le R.pos ht, fun b ob T e => by
    by_cases h : b = a
    · subst h; replace e : setH σ.H b o' b = _ := e; rw [setH_self] at e; cases e; exact Nat.le_trans (hg _ _ rfl) ht
    · replace e : setH σ.H a o' b = _ := e; rw [setH_ne _ _ h] at e; exact Nat.le_trans (R.gh b ob T e) ht⟩
  · by_cases h : b = a
    · subst h; simp at q; subst q; exact ho
    · replace q : setH σ.H a o' b = some ob := q
      rw [setH_ne _ _ h] at q
      exact (R.own b ob q).keep (fun ob' z => hs b ob' h z) kT
  · by_cases h : b = a
    · subst h; exact R.ownB b o e
    · replace q : setH σ.H a o' b = some ob := q
      rw [setH_ne _ _ h] at q; exact R.ownB b ob q
  · subst z; rw [R.fpH b hb] at e; cases e
  · have h : b ≠ a := fun z => by subst z; rw [R.fpH b q] at e; cases e
    show setH σ.H a o' b = none
    rw [setH_ne _ _ h]; exact R.fpH b q
theorem Stp.updX {a : Addr} {o o' : AO} {h' : Heap} {t : Nat} (e : σ.H a = some o) (hs : Heap.ExtBut a s.heap h') (ho : OA c.P h' a o') (ht : s.toks ≤ t) :
    Stp env σ s ⟨setH σ.H a o', σ.loc⟩ { s with heap := h', toks := t } :=
  ⟨fun b ob q h1 _ => hs b ob (fun z => by subst z; rw [h1] at e; cases e) q, fun b _ _ h1 => by
    have h : b ≠ a := fun z => by subst z; rw [h1] at e; cases e
    show setH σ.H a o' b = none
    rw [setH_ne _ _ h]; exact h1, fun b ob q => by
    by_cases h : b = a
    · subst h; exact ho.there
    · exact ⟨ob, hs b ob h q⟩, rfl, rfl, rfl, ht⟩
theorem not_imm_cls {o : Obj} (h1 : (o.cls == .type "tuple") = false) (h2 : (o.cls == .type "range") = false) : ¬ Imm o := by
  rintro (⟨e, _⟩ | ⟨e, _⟩)
  · rw [e] at h1; exact absurd h1 (by decide)
  · rw [e] at h2; exact absurd h2 (by decide)
theorem not_imm_tab {ps : Array Value} : ¬ Imm (tabObj ps) := not_imm_cls rfl rfl
theorem not_imm_fn {fd : FuncData} : ¬ Imm ({ cls := .type "function", data := .func fd } : Obj) := not_imm_cls rfl rfl
/-- what the making of a function needs of the heap -/
structure NewFn (c : Cx) (T : Addr) : Prop where
  mg : ∃ mg, c.B.Ns mainGlobals mg ∧ c.B.BuiltinsAt mg T
  ne : mainGlobals ≠ T
/-- the making of a lambda that closes over something: the code's class too -/
theorem makeLam {M : Model} {A : Around} {E : Value → Shared → Prop} {name qual : Str} {params : Arguments} {body : Expr} {scope : Scope} {cc T : Addr} {ps : Array Value} {pos : Pos} {firstLine : Nat} {mg : Str → Option Value} {q0 : Str × Addr} {Q : Value → Shared → Prop}
    (hcl : closureFor scope env = pure [q0]) (hge0 : env.globals = mainGlobals) (hg : s.heap.Ns mainGlobals mg) (hcode : env.code = .ref cc) (C : CodeHd s.heap cc T) (hP : s.heap.get? T = some (tabObj ps)) (ht : TriplesOk ps.toList)
    (hnf : codeAmong pos ps.toList = none) (hgP : mainGlobals ≠ T) (hb : s.heap.BuiltinsAt mg T)
    (h : ∀ c' ctv h' tk, Heap.ExtBut T s.heap h' → s.heap.objs.size ≤ c' → c' < h'.objs.size → h'.CodeRec (.ref c') qual → (∃ o, h'.get? c' = some o ∧ o.cls = .type "code") → h'.get? T = some (tabObj (ps ++ #[rawInt pos.line, rawInt pos.col, .ref c'])) →
      Q (.ref h'.objs.size) { s with heap := h'.push (kla_obj name qual params body scope [q0] ((mg "__name__").getD .none) c' ctv), toks := tk }) :
    wpAny M A (makeFunction name qual params (.expr body) scope env [] [] [] pos firstLine) Q E s := by
  rw [makeFunction_eq]
  simp only [List.zip_nil_right, List.filterMap_nil, List.isEmpty_nil, if_true, pure_bind]
  obtain ⟨bm, ob, hbm, hne0, _, hneP, hbo, hcls, hdict, hdata⟩ := hb
  unfold makeTail
  rw [hcl, hge0]
  refine wpAny_bind (wpAny_pure ?_)
  simp only [List.isEmpty_cons, Bool.false_eq_true, if_false]
  refine wpAny_bind (wpAny_newTextTuple ?_)
  have kp : ∀ {o : Obj}, ∀ b o', s.heap.get? b = some o' → (s.heap.push o).get? b = some o' := fun _ _ e => Heap.get?_push_of_some _ e
  refine wpAny_bind (wpAny_functionCodeX hcode ((C.keeps kp).code (kp _ _ hP) ht) ((C.keeps kp).tab (kp _ _ hP)) hnf fun c' h' tk hx hge hlt _ hrec htb hnew => ?_)
  have hg' := (hg.push _).extBut hx hgP
  have hx' : Heap.ExtBut T s.heap h' := fun b o hb' e => hx b o hb' (kp _ _ e)
  have hge' : s.heap.objs.size ≤ c' := Nat.le_trans (by rw [Heap.size_push]; lia) hge
  refine wpAny_bind (wpAny_builtinsFor hg' hbm hne0 (hx' _ _ hneP hbo) hcls hdict hdata ?_)
  refine wpAny_bind (wpAny_nsGet hg' ?_)
  obtain ⟨P', _, _, ⟨o, vs, e1, e2, _⟩, _⟩ := hnew
  exact wpAny_bind (wpAny_pure (wpAny_newObj_type (h c' _ h' tk hx' hge' hlt hrec ⟨o, e1, e2⟩ htb.2) (by size_fits)))
/-- a lambda that closes over one name -/
theorem tLambda {params : Arguments} {body : Expr} {scope : Scope} {pos : Pos} {cc T : Addr} {ps : Array Value} {fv : Str} {Q : AV → St → Prop} (S : Sc env tab (.ref cc)) (N : NewFn c T) (C : CodeHd c.B cc T) (hT : σ.H T = some (.raw (tabObj ps))) (ht : TriplesOk ps.toList) (hnf : codeAmong pos ps.toList = none)
    (hfc : tab.lookup fv = some .cell) (hcl : ∀ k, env.cells.lookup fv = some k → closureFor scope env = pure [(fv, k)])
    (h : ∀ k c' f oc vs t pm ctv qual, env.cells.lookup fv = some k → σ.H c' = none → σ.H f = none → c.B.get? c' = none → c.B.get? f = none → f ≠ c' → f ≠ k → c' ≠ k → f ≠ T → c' ≠ T → oc.data = .fields vs → vs[1]? = some (.str qual t) →
      Q (.obj (.ref f)) ⟨setH (setH (setH σ.H T (.raw (tabObj (ps ++ #[rawInt pos.line, rawInt pos.col, .ref c'])))) c' (.raw oc)) f (.raw (kla_obj "<lambda>" qual params body scope [(fv, k)] pm c' ctv)), σ.loc⟩)
    (hdef : defaultsOf params env = ([], [])) : TV c n env σ (eval (.Lambda params body scope pos) env) Q := fun A hA s R => by
  obtain ⟨k, hk⟩ := S.cell fv (.inl hfc)
  obtain ⟨mg, hg, hb⟩ := N.mg
  have hTs := (R.own _ _ hT).1
  obtain ⟨bm, ob, b1, b2, b3, b4, b5, b6, b7, b8⟩ := hb
  refine kla_eval hdef (wpAny_with_toks (Nat.le_refl _) (makeLam (hcl k hk) S.gl (hg.keeps R.base) S.code (C.keeps R.base) hTs ht hnf N.ne ⟨bm, ob, b1, b2, b3, b4, R.base _ _ b5, b6, b7, b8⟩ fun c' ctv h' tk hx hge hlt hrec hcls htb hpos => ?_))
  obtain ⟨c₂, oc, vs, t, e2, hoc, hd, hv⟩ := hrec
  cases e2
  obtain ⟨oc', e3, hcls⟩ := hcls
  rw [hoc] at e3
  cases e3
  have oT : OA c.P h' T (.raw (tabObj (ps ++ #[rawInt pos.line, rawInt pos.col, .ref c']))) := ⟨htb, not_imm_tab⟩
  have R₁ := R.updX (t := tk) hT hx oT hpos
  have S₁ := Stp.updX (env := env) (σ := σ) (c := c) (t := tk) hT hx oT hpos
  obtain ⟨u, hu, _⟩ := R.fr.cells fv k hk
  have hks : k < s.heap.objs.size := by obtain ⟨o, e, _⟩ := hu; exact Heap.lt_size e
  have hTl : T < s.heap.objs.size := Heap.lt_size hTs
  have fc := R.fresh hge
  have hfs : s.heap.objs.size ≤ h'.objs.size := Nat.le_trans hge (Nat.le_of_lt hlt)
  have ff := R.fresh hfs
  have hcT : c' ≠ T := Nat.ne_of_gt (Nat.lt_of_lt_of_le hTl hge)
  have hfT : h'.objs.size ≠ T := Nat.ne_of_gt (Nat.lt_of_lt_of_le hTl hfs)
  have hcf : h'.objs.size ≠ c' := Nat.ne_of_gt hlt
  have oC : OA c.P h' c' (.raw oc) := ⟨hoc, not_imm_cls (by rw [hcls]; decide) (by rw [hcls]; decide)⟩
  have R₂ := R₁.alloc (a := c') (o := .raw oc) (by show setH σ.H T _ c' = none; rw [setH_ne _ _ hcT]; exact fc.1) fc.2.1 fc.2.2 oC
  have kp : ∀ b o, h'.get? b = some o → (h'.push (kla_obj "<lambda>" (env.qual ++ "<lambda>") params body scope [(fv, k)] ((mg "__name__").getD .none) c' ctv)).get? b = some o := fun _ _ e => Heap.get?_push_of_some _ e
  have R₃ := R₂.grow (t := tk) kp (Nat.le_refl _)
  have oF : OA c.P (h'.push (kla_obj "<lambda>" (env.qual ++ "<lambda>") params body scope [(fv, k)] ((mg "__name__").getD .none) c' ctv)) h'.objs.size (.raw (kla_obj "<lambda>" (env.qual ++ "<lambda>") params body scope [(fv, k)] ((mg "__name__").getD .none) c' ctv)) := ⟨Heap.get?_push_size _ rfl, not_imm_fn⟩
  have R₄ := R₃.alloc (a := h'.objs.size) (by show setH (setH σ.H T _) c' _ h'.objs.size = none; rw [setH_ne _ _ hcf, setH_ne _ _ hfT]; exact ff.1) ff.2.1 ff.2.2 oF
  refine ⟨_, _, .obj _, R₄, ⟨fun b o e h1 h2 => kp _ _ (S₁.keep b o e h1 h2), fun b o e h1 => ?_, fun b o e => ?_, rfl, rfl, rfl, hpos⟩, h k c' h'.objs.size oc vs t _ ctv _ hk fc.1 ff.1 fc.2.2 ff.2.2 hcf (Nat.ne_of_gt (Nat.lt_of_lt_of_le hks hfs)) (Nat.ne_of_gt (Nat.lt_of_lt_of_le hks hge)) hfT hcT hd hv⟩
  · have hb := Heap.lt_size e
    show setH (setH (setH σ.H T _) c' _) h'.objs.size _ b = none
    rw [setH_ne _ _ (Nat.ne_of_lt (Nat.lt_of_lt_of_le hb hfs)), setH_ne _ _ (Nat.ne_of_lt (Nat.lt_of_lt_of_le hb hge)), setH_ne _ _ (by rintro rfl; rw [hT] at h1; cases h1)]
    exact h1
  · obtain ⟨o', e'⟩ := S₁.live b o e
    exact ⟨o', kp _ _ e'⟩
end
end

section
section
variable {α β γ δ : Type} {c : Cx} {n : Nat} {env env' : Env} {σ : St} {s : Shared} {tab : List (Str × NameKind)} {cd : Value} {K : Frag} {H : Addr → Option AO}
/-- a list's method without arguments -/
noncomputable abbrev kLM0 (c : Cx) (n : Nat) (id : String) (Q : AV → St → Prop) (a : AV) (σ : St) : Prop := ListTo a σ.H (CallS c n σ.H (.builtin id) [a] [] [] (kBack Q σ.loc))
theorem tLM0 {o : Expr} {name : Str} {apos : Pos} {pos : Pos} {id : String} {Q : AV → St → Prop}
    (h : TV c n env σ (eval o env) (kLM0 c n id Q))
    (slot : Slot "list" name id)
    (hbase : attributeBase o name env (eval o env) = eval o env)
    (hfew : ((backTo pos (starEach [] env)).all (fun x => !x.1) && (backToKw pos (keywordEach [] env)).all (fun x => x.1.isSome)
      && decide (([] : List Expr).length + ([] : List Keyword).length + (if ([] : List Keyword).isEmpty then 0 else 1) < 30)) = true)
    (hline : (apos.endLine == pos.line) = true) (hty : typeOf (.builtin id) = pure (.type "method_descriptor")) :
    TV c n env σ (eval (.Call (.Attribute o name apos) [] [] pos) env) Q := fun A hA s R => by
  refine wpAny_Call_method hbase hfew hline PySem.F.plainAttrs_list slot hty (last h hA R fun a va σ₀ s₀ ha R₀ S₀ h₀ => ?_)
  obtain ⟨D, l, e1, e2, h6⟩ := h₀
  subst e1
  obtain ⟨t1, t2⟩ := listTy e2 s₀ va R₀ ha
  refine ⟨t1, t2, ?_⟩
  exact wpAny_mono (callTail0 (fa := [.obj (.ref D)]) (first := [va]) KeepB.builtin h6 hA R₀ (.cons ha .nil)) (fun _ _ y => y.from S₀) fun _ _ e => e
theorem opListNeLen {a b : Addr} {l l2 : List AV} {Q : AV → St → Prop} (ha : σ.H a = some (.list l)) (hb : σ.H b = some (.list l2)) (hd : l.length ≠ l2.length) (hq : Q (.bool true) σ) :
    Op2 c n env (VR c.P) σ (compareOp .NotEq) (.obj (.ref a)) (.obj (.ref b)) Q := fun A hA s R va vb hva hvb => by
  cases hva
  cases hvb
  obtain ⟨items, m, hi, hv⟩ := R.own a _ ha
  obtain ⟨items2, m2, hi2, hv2⟩ := R.own b _ hb
  have e1 := hv.length
  have e2 := hv2.length
  rw [Array.length_toList] at e1 e2
  exact RcNeAt.lists_lengths ⟨_, hi, rfl, m, rfl⟩ ⟨_, hi2, rfl, m2, rfl⟩ (by simp; lia) hA.cunits _ _ _ _ (.here R (.bool _) hq)
/-- l != [] -/
theorem opNeNil {a b : Addr} {l : List AV} {Q : AV → St → Prop} (G : Good c K) (hc : csOk K = true) (ha : σ.H a = some (.list l)) (hb : σ.H b = some (.list [])) (hq : Q (.bool (!l.isEmpty)) σ) :
    Op2 c n env (VR c.P) σ (compareOp .NotEq) (.obj (.ref a)) (.obj (.ref b)) Q := by
  cases l with
  | nil => exact opListNe (d := 0) G hc ha hb (by lia) rfl hq
  | cons x l => exact opListNeLen ha hb (by simp) hq
theorem opBoolNe {a b : Bool} {Q : AV → St → Prop} (hq : Q (.bool (!(a == b))) σ) : Op2 c n env (VR c.P) σ (compareOp .NotEq) (.bool a) (.bool b) Q := fun A hA s R va vb hva hvb => by
  cases hva
  cases hvb
  exact RcNeAt.bool_bool a b _ _ _ _ (.here R (.bool _) hq)
/-! ### more built-in functions -/
theorem ints2 {p : Addr → Prop} {h : Heap} {x y : Int} {vs : List Value} (v : VRs p h [.int x, .int y] vs) : ∃ t u, vs = [.int x t, .int y u] := by
  cases v with
  | cons h1 v => cases v with
    | cons h2 v => cases v; cases h1; cases h2; exact ⟨_, _, rfl⟩
theorem cMax2I {x y : Int} {Q : AV → (Addr → Option AO) → Prop} (h : Q (.int (if x < y then y else x)) H) : CallS c n H (.builtin "max") [.int x, .int y] [] [] Q := fun env loc A hA s R vs hv ks hk => by
  cases hk
  obtain ⟨t, u, rfl⟩ := ints2 hv
  refine wpAny_with_toks (Nat.le_refl _) (call_max_two ?_)
  have hT : (s.heap.push ({ cls := .type "tuple", data := .seq #[.int x t, .int y u] } : Obj)).IsTuple s.heap.objs.size #[.int x t, .int y u] := ⟨_, Heap.get?_push_size _ rfl, rfl, _, rfl⟩
  have hsz : (s.heap.push ({ cls := .type "tuple", data := .seq #[.int x t, .int y u] } : Obj)).objs.size = s.heap.objs.size + 1 := Heap.size_push ..
  refine wpAny_pyIter_tuple hT ?_
  dsimp only
  rw [hsz]
  refine ⟨s.heap.objs.size + 1, _, _, 2, _, _, _, rfl, Walks.tuple (A := A.in1) hA.handled (s.heap.objs.size + 1) s.heap.objs.size (Nat.ne_of_lt (Nat.lt_succ_self _)) #[.int x t, .int y u], ⟨⟨_, by have := Heap.get?_push_size (s.heap.push ({ cls := .type "tuple", data := .seq #[.int x t, .int y u] } : Obj)) (o := ({ cls := .type "tuple_iterator", data := .fields #[.ref s.heap.objs.size, .int 0 0] } : Obj)) rfl; rwa [hsz] at this, rfl, rfl⟩, hT.at fun o e => Heap.get?_push_of_some _ e⟩, fun b hb => ?_, by decide, CmpOf.ints_gt (fun i => if i = 0 then x else y) (fun i v hv => ?_), fun v h' tk hP kp hpos => ?_⟩
  · rw [Heap.size_push, hsz]
    simp only [List.mem_cons, List.not_mem_nil, or_false] at hb
    rcases hb with rfl | rfl
    · exact Nat.lt_succ_self _
    · exact Nat.lt_succ_of_lt (Nat.lt_succ_self _)
  · rcases i with _ | _ | i
    · simp at hv; exact ⟨t, by rw [← hv]; rfl⟩
    · simp at hv; exact ⟨u, by rw [← hv]; rfl⟩
    · simp at hv
  · have kp' : ∀ b o, s.heap.get? b = some o → h'.get? b = some o := fun b o e => kp b o (by
      intro q
      have : b = s.heap.objs.size + 1 := by simpa using q
      have h2 := Heap.lt_size e
      rw [this] at h2
      exact absurd h2 (Nat.not_lt.mpr (Nat.le_succ _))) (Heap.get?_push_of_some _ (Heap.get?_push_of_some _ e))
    refine callPost (a := .int (if x < y then y else x)) R kp' hpos ?_ h
    have hb : argBest (fun i j => decide ((if i = 0 then x else y) > (if j = 0 then x else y))) 1 = if x < y then 1 else 0 := by
      show (if decide ((if (1 : Nat) = 0 then x else y) > (if (0 : Nat) = 0 then x else y)) = true then 1 else 0) = _
      simp
    rw [hb] at hP
    by_cases c1 : x < y
    · rw [if_pos c1] at hP ⊢
      simp at hP
      rw [← hP]; exact .int _ _
    · rw [if_neg c1] at hP ⊢
      simp at hP
      rw [← hP]; exact .int _ _
/-- ints alone, as the library's sum wants them -/
theorem intItemsOf {p : Addr → Prop} {h : Heap} : ∀ {ns : List Int} {vs : List Value}, VRs p h (ns.map .int) vs → ∃ xs : List (Int × Tok), vs = xs.map (fun x => .int x.1 x.2) ∧ xs.map (·.1) = ns
  | [], _, y => by cases y; exact ⟨[], rfl, rfl⟩
  | n :: ns, _, y => by
    cases y with
    | cons h1 h2 =>
    obtain ⟨xs, e1, e2⟩ := intItemsOf h2
    cases h1
    exact ⟨(n, _) :: xs, by rw [e1]; rfl, by simp [e2]⟩
/-- sum(l) of ints: some int -/
theorem cSum {D : Addr} {ns : List Int} {Q : AV → (Addr → Option AO) → Prop} (hD : H D = some (.list (ns.map .int))) (h : ∀ t, Q (.int t) H) : CallS c n H (.builtin "sum") [.obj (.ref D)] [] [] Q := fun env loc A hA s R vs hv ks hk => by
  cases hk
  cases hv with
  | cons h1 hv =>
    cases hv
    cases h1
    obtain ⟨items, m, hl, hvs⟩ := R.own D _ hD
    obtain ⟨xs, e1, e2⟩ := intItemsOf hvs
    have e3 : items = intItems xs.toArray := by
      apply Array.toList_inj.mp
      rw [e1]; simp [intItems]
    subst e3
    refine wpAny_with_toks (Nat.le_refl _) (sum_intListG (xs := xs.toArray) hA.handled ⟨_, hl, rfl, _, rfl⟩ fun h' tk t' kp hpos => ?_)
    exact callPost (a := .int _) R kp hpos (.int ..) (h _)
end
end

section
section
variable {α β γ δ : Type} {c : Cx} {n : Nat} {env env' : Env} {σ : St} {s : Shared} {tab : List (Str × NameKind)} {cd : Value} {K : Frag} {H : Addr → Option AO}
/-- o.name(x): the instance itself has the attribute, and it is a function that was made in the run -/
theorem tMethOwn {o : Expr} {name : Str} {apos : Pos} {e : Expr} {rest : List Expr} {pos : Pos} {Q : AV → St → Prop} (G : Good c K)
    (h : TV c n env σ (eval o env) fun a σ₀ => ∃ x C dx fs f, a = .obj (.ref x) ∧ clsOk K C = true ∧ ownName K C name = true ∧ Inst σ₀.H x C dx fs ∧ lk fs name = some (.obj (.ref f)) ∧
      TL c n env σ₀ (spliced (backTo pos (starEach (e :: rest) env))) fun l σ₁ => ∃ ob fd, σ₁.H f = some (.raw ob) ∧ ob.data = .func fd ∧ CallS c n σ₁.H (.ref f) l [] [] fun a H' => Q a ⟨H', σ₁.loc⟩)
    (hbase : attributeBase o name env (eval o env) = eval o env)
    (hform : methodCallForm ((e :: rest).length + ([] : List Keyword).length) (backTo pos (starEach (e :: rest) env)) (backToKw pos (keywordEach [] env)) = true) (hline : (apos.endLine == pos.line) = true)
    (he : backTo pos (starEach (e :: rest) env) = (false, eval e env) :: backTo pos (starEach rest env))
    (hplain : ((backTo pos (starEach (e :: rest) env)).any (·.1) || (backToKw pos (keywordEach [] env)).any (·.1.isNone)) = false) :
    TV c n env σ (eval (.Call (.Attribute o name apos) (e :: rest) [] pos) env) Q := fun A hA s R => by
  rw [arm_eval_Call, hbase]
  refine wpAny_bind (last h hA R fun a va σ₀ s₀ ha R₀ S₀ h₀ => ?_)
  obtain ⟨x, C, dx, fs, f, rfl, h1, h2, I, h4, h6⟩ := h₀
  cases ha
  refine wpAny_bind (wpAny_standAt ?_)
  unfold methodCall calleeOf
  rw [hform]
  refine wpAny_bind (wpAny_holding (wpAny_with_toks (Nat.le_refl _) ?_))
  rw [if_pos rfl]
  refine wpAny_mono (opGetOwn (Q := fun a s' => ∃ t, a = (.ref f, []) ∧ s' = { s₀ with toks := t }) hA G R₀ h1 h2 I h4 rfl fun t => ⟨t, rfl, rfl⟩) (fun a s' q hpos => ?_) fun _ _ e => e.elim
  obtain ⟨t, rfl, rfl⟩ := q
  dsimp only
  have hpos' : methodCallPos true o env apos pos = pure pos := by unfold methodCallPos; simp [hline]
  refine wpAny_bind (wpAny_of_eq hpos' ?_)
  have R₁ := R₀.tok t hpos
  have S₁ : Stp env σ₀ s₀ σ₀ { s₀ with toks := t } := Stp.tok t
  refine callWith_of (P := fun h => ∃ ob fd, h.get? f = some ob ∧ ob.data = .func fd) hplain (fun h ⟨ob, fd, e1, e2⟩ => ⟨.frame, .inl rfl, (Looks.ld (part := none) e1).andThen (by rw [e2]; exact .now)⟩) ?_
  rw [he] at h6 ⊢
  refine evalArgs_kw rfl (last h6 hA R₁ fun l vl σ₂ s₂ hl R₂ S₂ h₂ => ?_)
  obtain ⟨ob, fd, e1, e2, h₂⟩ := h₂
  refine wpAny_pure ⟨⟨ob, fd, (R₂.own _ _ e1).1, e2⟩, ?_⟩
  refine wpAny_mono (h₂ env σ₂.loc A hA s₂ R₂ vl hl [] .nil) (fun v s₃ x => ?_) fun _ _ e => e
  obtain ⟨a, σ₃, ha, R₃, S₃, hloc, hq⟩ := x
  refine ⟨a, σ₃, ha, R₃, (S₀.trans S₁).trans (S₂.trans S₃), ?_⟩
  have : σ₃ = ⟨σ₃.H, σ₂.loc⟩ := by cases σ₃; simp at hloc; subst hloc; rfl
  rw [this]; exact hq
/-- what is remembered, and not written to, stays -/
noncomputable def Same (xs : List Addr) (H H' : Addr → Option AO) : Prop := ∀ a o, a ∉ xs → H a = some o → H' a = some o
theorem Same.refl {xs : List Addr} : Same xs H H := fun _ _ _ e => e
theorem Same.trans {xs : List Addr} {H H' H'' : Addr → Option AO} (a : Same xs H H') (b : Same xs H' H'') : Same xs H H'' := fun x o h e => b x o h (a x o h e)
theorem Same.set {xs : List Addr} {H H' : Addr → Option AO} {a : Addr} {o : AO} (h : Same xs H H') (ha : a ∈ xs ∨ H a = none) : Same xs H (setH H' a o) := fun x o' hx e => by
  have : x ≠ a := by
    rintro rfl
    rcases ha with ha | ha
    · exact hx ha
    · rw [ha] at e; cases e
  rw [setH_ne _ _ this]; exact h x o' hx e
theorem Same.more {xs ys : List Addr} {H H' : Addr → Option AO} (h : Same xs H H') (k : ∀ a ∈ xs, a ∈ ys) : Same ys H H' := fun a o ha e => h a o (fun q => ha (k a q)) e
end
end

section
section
variable {α β γ δ : Type} {c : Cx} {n : Nat} {env env' : Env} {σ : St} {s : Shared} {tab : List (Str × NameKind)} {cd : Value} {K : Frag} {H : Addr → Option AO}
noncomputable def envT (tab : List (Str × NameKind)) : Env := newEnv { kind := .function, names := tab, isGenerator := false, isCoroutine := false } 0 0 [] (Str.ofString "") none .none none 0
theorem swapEnv {ts : List Expr} {v : Expr} : ∀ e1 e2 : Env, e1.kindOf = e2.kindOf → e1.blockKind = e2.blockKind → swappedStores ts v e1 = swappedStores ts v e2 := by
  intro e1 e2 h1 h2
  unfold swappedStores
  rw [h2, h1]
theorem Sc.swap (S : Sc env tab cd) {ts : List Expr} {v : Expr} : swappedStores ts v env = swappedStores ts v (envT tab) :=
  swapEnv _ _ (funext fun x => S.ko x) (by unfold Env.blockKind; rw [S.kind]; rfl)
theorem bindsInOrder {A : Around} (S : Sc env tab cd) {Q : St → Prop} : ∀ (xs : List Str) {as : List AV} {σ : St} {s : Shared} {vs : List Value}, Rel c env σ s → VRs c.P s.heap as vs → xs.length = as.length → (xs.all fun x => okSet tab x) = true → Q ⟨σ.H, putAll σ.loc xs as⟩ →
    wpAny (model c.prog c.w) A (assignInOrder (xs.map fun x => bindName env x) vs) (Post c env σ s EqR fun _ σ' => Q σ') Fls s := by
  intro xs
  induction xs with
  | nil =>
    intro as σ s vs R hv hl _ h
    cases as with
    | nil => cases hv; exact wpAny_assignInOrder_none ⟨(), σ, rfl, R, .refl .., h⟩
    | cons _ _ => cases hl
  | cons x xs ih =>
    intro as σ s vs R hv hl hk h
    cases as with
    | nil => cases hl
    | cons a as =>
      cases hv with
      | cons hv hvs =>
        simp only [List.all_cons, Bool.and_eq_true] at hk
        refine wpAny_assignInOrder_more (wpAny_bindName (wpAny_mono (store (Q := fun _ σ' => σ' = ⟨σ.H, put σ.loc x a⟩) (S.kept hk.1) R hv rfl) (fun _ s₁ y => ?_) fun _ _ e => e))
        obtain ⟨_, σ₁, _, R₁, S₁, rfl⟩ := y
        exact wpAny_mono (ih R₁ (S₁.vrs R hvs) (by simpa using hl) hk.2 h) (fun _ _ y => Post.from S₁ y) fun _ _ e => e
/-- x, y = a, b -/
theorem sSwapped {elts : List Expr} {xs : List Str} {k : Nat} {tpos : Pos} {value : Expr} {pos : Pos} {Q : AF → St → Prop} (S : Sc env tab cd) (hk : (xs.reverse.all fun x => okSet tab x) = true)
    (hs : swapsWithSole [.Tuple elts k tpos] value pos.line env = pure false) (hw : swappedStores [.Tuple elts k tpos] value (envT tab) = pure (some xs))
    (h : TV c n env σ (eval value env) fun a σ₁ => ∃ as l', a = .tup as ∧ xs.length = as.length ∧ putAll σ₁.loc xs.reverse as.reverse = l' ∧ Q .next ⟨σ₁.H, l'⟩) : TF c n env σ (exec (.Assign [.Tuple elts k tpos] value pos) env) Q := fun A hA s R => by
  refine Assign_Tuple_swapped (names := xs) (last h hA R fun a va σ₁ s₁ hv R₁ S₁ h₁ => ?_) hs (S.swap.trans hw)
  obtain ⟨as, l', rfl, hl, rfl, hq⟩ := h₁
  cases hv with
  | tup hp ht hvs =>
    rename_i t items
    have hn : xs.length = items.size := by rw [hl, ← hvs.length]; simp
    rw [hn]
    refine wpAny_unpackItems_tuple hA.handled ht fun h' hx => ?_
    have kp : ∀ b o, s₁.heap.get? b = some o → h'.get? b = some o := fun b o e => hx b o (Nat.ne_of_lt (Heap.lt_size e)) e
    have R' := R₁.grow (t := s₁.toks) kp
    refine wpAny_mono (bindsInOrder S (Q := fun σ' => Q .next σ') xs.reverse R' (hvs.keep (.all kp)).reverse (by simpa using hl) hk hq) (fun _ s₂ x => ?_) fun _ _ e => e
    obtain ⟨_, σ₂, _, R₂, S₂, hq⟩ := x
    exact ⟨_, σ₂, .next, R₂, (S₁.trans (Stp.grow (t := s₁.toks) kp)).trans S₂, hq⟩
inductive Nms : List Expr → List (Str × Pos) → Prop
  | nil : Nms [] []
  | cons {x : Str} {p : Pos} {es : List Expr} {ps : List (Str × Pos)} : Nms es ps → Nms (.Name x p :: es) ((x, p) :: ps)
theorem Nms.eq : ∀ {es : List Expr} {ps : List (Str × Pos)}, Nms es ps → es = ps.map fun x => .Name x.1 x.2
  | _, _, .nil => rfl
  | _, _, .cons h => by rw [List.map_cons, ← h.eq]
inductive UnpTo (vs : List AV → List AV) (xs : List Str) (Q : AF → St → Prop) (a : AV) (σ : St) : Prop
  | mk (as : List AV) (l' : List (Str × AV)) : a = .tup as → xs.length = as.length → putAll σ.loc xs (vs as) = l' → Q .next ⟨σ.H, l'⟩ → UnpTo vs xs Q a σ
theorem sSwapped' {elts : List Expr} {ps : List (Str × Pos)} {k : Nat} {tpos : Pos} {value : Expr} {pos : Pos} {Q : AF → St → Prop} (S : Sc env tab cd) (hN : Nms elts ps) (hk : (ps.all fun x => okSet tab x.1) = true)
    (hs : swapsWithSole [.Tuple elts k tpos] value pos.line env = pure false) (hw : swappedStores [.Tuple elts k tpos] value (envT tab) = pure (some (ps.map Prod.fst)))
    (h : TV c n env σ (eval value env) (UnpTo List.reverse (ps.map Prod.fst).reverse Q)) : TF c n env σ (exec (.Assign [.Tuple elts k tpos] value pos) env) Q :=
  sSwapped S (by simpa using hk) hs hw (h.mono fun a σ₁ ⟨as, l', h1, h2, h3, h4⟩ => ⟨as, l', h1, by simpa using h2, h3, h4⟩)
theorem sUnpackN {elts : List Expr} {ps : List (Str × Pos)} {k : Nat} {tpos : Pos} {value : Expr} {pos : Pos} {Q : AF → St → Prop} (S : Sc env tab cd) (hN : Nms elts ps) (hk : (ps.all fun x => okSet tab x.1) = true)
    (hs : swapsWithSole [.Tuple elts k tpos] value pos.line env = pure false) (hw : swappedStores [.Tuple elts k tpos] value env = pure none)
    (h : TV c n env σ (eval value env) (UnpTo id (ps.map Prod.fst) Q)) : TF c n env σ (exec (.Assign [.Tuple elts k tpos] value pos) env) Q :=
  sUnpack' S hN.eq hk hs hw (h.mono fun a σ₁ ⟨as, l', h1, h2, h3, h4⟩ => ⟨as, l', h1, by simpa using h2, h3, h4⟩)
theorem aTupN {elts : List Expr} {ps : List (Str × Pos)} {as : List AV} {k : Nat} {pos : Pos} {Q : St → Prop} (S : Sc env tab cd) (hN : Nms elts ps) (hl : ps.length = as.length) (hk : (ps.all fun x => okSet tab x.1) = true)
    (h : ∃ l', putAll σ.loc (ps.map Prod.fst) as = l' ∧ Q ⟨σ.H, l'⟩) : Asg c n env σ (.Tuple elts k pos) (.tup as) Q := aTup' S hN.eq hl hk h
theorem keepNew {E : Addr} (hE : H E = none) (v : AO) {a : Addr} {o : AO} (h : H a = some o) : setH H E v a = some o := by
  rw [setH_ne _ _ (by rintro rfl; rw [hE] at h; cases h)]; exact h
theorem Same.none {xs : List Addr} {H H' : Addr → Option AO} (s : Same xs H H') {E : Addr} (hE : H' E = none) (hx : E ∉ xs) : H E = none := by
  cases e : H E with
  | none => rfl
  | some o => rw [s E o hx e] at hE; cases hE
theorem neOf {E a : Addr} {o : AO} (hE : H E = none) (h : H a = some o) : E ≠ a := by rintro rfl; rw [hE] at h; cases h
end
end

section
section
variable {α β γ δ : Type} {c : Cx} {n : Nat} {env env' : Env} {σ : St} {s : Shared} {tab : List (Str × NameKind)} {cd : Value} {K : Frag} {H : Addr → Option AO}
theorem cLenT {l : List AV} {Q : AV → (Addr → Option AO) → Prop} (hsz : l.length ≤ 1000000) (h : Q (.int l.length) H) : CallS c n H (.builtin "len") [.tup l] [] [] Q := fun env loc A hA s R vs hv ks hk => by
  cases hk
  cases hv with
  | cons h1 hv =>
    cases hv
    cases h1 with
    | tup hp ht hvs =>
      rename_i a items
      have e := hvs.length
      rw [Array.length_toList] at e
      exact PyProof.Rows.len_tuple ht (by rw [e]; lia) (callPostT R (by rw [e]; exact .int ..) h)
noncomputable abbrev nI (x : Nat) : AV := .int (x : Int)
theorem rangeOf_nat (a b : Nat) : rangeOf a b 1 = (List.range (b - a)).map fun i => nI (a + i) := by
  unfold rangeOf Builtin.Range.rangeSize
  have : (if (1 : Int) > 0 then (if (a : Int) < b then ((b : Int) - a - 1) / 1 + 1 else 0) else (if (a : Int) > b then ((a : Int) - b - 1) / (-1) + 1 else 0)).toNat = b - a := by
    rw [if_pos (by decide)]
    split <;> lia
  rw [this]
  simp
theorem smallN {x y : Nat} (h1 : x < 1000000) (h2 : y < 1000000) : Builtin.Range.small x y 1 = true := by
  have e : Builtin.Range.rangeSize x y 1 = ((y - x : Nat) : Int) := by
    unfold Builtin.Range.rangeSize
    rw [if_pos (by decide)]
    split <;> lia
  unfold Builtin.Range.small
  rw [e]
  have f : ∀ k : Int, -1000000 ≤ k → k ≤ 2000000 → Builtin.Range.rangeFitsLong k = true := fun k a b => by
    unfold Builtin.Range.rangeFitsLong; simp; lia
  rw [f _ (by lia) (by lia), f _ (by lia) (by lia), f _ (by lia) (by lia), f _ (by lia) (by lia), if_pos (by decide), f _ (by lia) (by lia)]
  simp
inductive IRangeTo (c : Cx) (Q : (Addr → Prop) → List AV → St → (St → St) → Prop) (a : AV) (σ : St) : Prop
  | mk (x y : Nat) : a = .range x y 1 → x < 1000000 → y < 1000000 → Q c.P ((List.range (y - x)).map fun i => nI (x + i)) σ id → IRangeTo c Q a σ
theorem iRangeN {t : Sem Value} {nm : Str} {np : Pos} {Q : (Addr → Prop) → List AV → St → (St → St) → Prop} (h : TV c n env σ t (IRangeTo c Q)) : IterT c n env σ t (.Name nm np) Q :=
  iRange (h.mono fun a σ₁ ⟨x, y, e, h1, h2, q⟩ => ⟨x, y, 1, e, smallN h1 h2, by unfold Builtin.Range.rangeSize; simp; split <;> lia, by rw [rangeOf_nat]; exact q⟩)
end
end

section
section
variable {α β γ δ : Type} {c : Cx} {n : Nat} {env env' : Env} {σ : St} {s : Shared} {tab : List (Str × NameKind)} {cd : Value} {K : Frag} {H : Addr → Option AO}
theorem subTailAny {prog : Program} {w : World} {A : Around} {E : Value → Shared → Prop} {value slice : Expr} {x : Str} {pos : Pos} {o i : Value} {Q : Value → Shared → Prop} (h : wpAny (model prog w) A (subscriptTail (.Name x pos) slice o i) Q E s) :
    wpAny (model prog w) A (subscriptTail value slice o i) Q E s := by
  have e : subscriptTail (.Name x pos) slice o i = (getitemInPython o >>= fun b => subscripted slice b o i) := by
    have q : ∀ r, letTemporaryGo (.Name x pos) o r = pure () := fun _ => rfl
    unfold subscriptTail
    simp only [q, pure_bind, bind_pure]
  rw [e] at h
  have e2 : subscriptTail value slice o i = ((getitemInPython o >>= fun b => subscripted slice b o i) >>= fun r => letTemporaryGo value o r >>= fun _ => pure r) := by
    unfold subscriptTail
    simp only [bind_assoc]
  rw [e2]
  exact wpAny_bind (wpAny_mono h (fun r s' q => wpAny_bind (wpAny_letTemporaryGo (wpAny_pure q))) fun _ _ e => e)
/-- a subscript, the value any expression -/
theorem tSubG {value slice : Expr} {pos : Pos} {Q : AV → St → Prop} (h : TV c n env σ (eval value env) (kSub c n env slice Q))
    (hs : ∀ o i, subscripted slice false o i = operate [o, i] (getItem o i)) : TV c n env σ (eval (.Subscript value slice pos) env) Q := fun A hA s R =>
  Subscript_ (last h hA R fun o vo σ₁ s₁ ho R₁ S₁ h₁ => last h₁ hA R₁ fun i vi σ₂ s₂ hi R₂ S₂ h₂ => by
    refine subTailAny (x := Str.ofString "x") (pos := pos) ?_
    obtain ⟨r, hr, hq⟩ := h₂
    have ho' := S₂.vr R₁ ho
    cases hr with
    | list ha hj hx h0 h1 =>
      cases ho
      cases hi
      obtain ⟨items, m, hl, hvs⟩ := R₂.own _ _ ha
      obtain ⟨v, hv, hvr⟩ := hvs.get hx
      have hlen := hvs.length
      rw [Array.length_toList] at hlen
      exact subscriptTail_builtin ⟨_, hl, rfl⟩ slot_list_getitem.lookup (getItem_listAny ⟨_, hl, rfl, m, rfl⟩ (hlen ▸ hj) (by simpa using hv) h0 h1 ⟨_, σ₂, hvr, R₂, S₁.trans S₂, hq⟩) (hs _ _) (fun _ => rfl)
    | tup hj hx h0 h1 =>
      cases hi
      cases ho' with
      | tup hp hT hvs =>
        obtain ⟨v, hv, hvr⟩ := hvs.get hx
        have hlen := hvs.length
        exact PyProof.Rows.item_tuple hT h0 h1 (by rw [← hlen] at hj; simpa using hj) (by simpa using hv) ⟨_, σ₂, hvr, R₂, S₁.trans S₂, hq⟩ (hs _ _) (fun _ => rfl)
    | str h0 h1 h2 =>
      cases hi
      cases ho
      exact PyProof.Rows.item_str h0 h1 h2 (fun _ => ⟨_, σ₂, .str .., R₂.tok _, S₁.trans (S₂.trans (Stp.tok _)), hq⟩) (hs _ _) (fun _ => rfl))
end
end

section
theorem listSliceG {prog : Program} {w : World} {A : Around} {E : Value → Shared → Prop} {s : Shared} {env : Env} {value : Expr} {lower upper : Option Expr} {p pos : Pos} {Q : Value → Shared → Prop}
    (h : wpAny (model prog w) A (eval value env) (fun o s₁ => wpAny (model prog w) A (evalPart lower env) (fun vl s₂ => wpAny (model prog w) A (evalPart upper env) (fun vu s₃ =>
      ∃ l items lo hi, o = .ref l ∧ s₃.heap.IsList l items ∧ items.size ≤ sizeLine ∧ IsPart vl lo ∧ IsPart vu hi ∧
        Q (.ref (s₃.heap.objs.size + 1)) { s₃ with heap := (s₃.heap.push { cls := .type "slice", data := .fields #[vl, vu, .none] }).push { cls := .type "list", data := .seq (slicePick items lo hi none) } }) E s₂) E s₁) E s) :
    wpAny (model prog w) A (eval (.Subscript value (.Slice lower upper none p) pos) env) Q E s := by
  refine Subscript_ (wpAny_mono h (fun o s₁ h₁ => wpAny_Slice (wpAny_mono h₁ (fun vl s₂ h₂ => wpAny_mono h₂ (fun vu s₃ h₃ => ?_) fun _ _ e => e) fun _ _ e => e)) fun _ _ e => e)
  obtain ⟨l, items, lo, hi, rfl, hl, hsz, pl, pu, hQ⟩ := h₃
  rw [evalPart_none]
  refine wpAny_pure (subTailAny (x := Str.ofString "x") (pos := pos) ?_)
  refine subscriptTail_ops (hl.push _).typeIs slot_list_getitem.lookup (wpAny_getItem_list_slice (hl.push _) (Heap.IsSliceOf.new ..) pl pu .none (by simp) ?_ hsz) rfl (fun _ => rfl)
  rw [Heap.size_push]
  exact hQ
section
variable {α β γ δ : Type} {c : Cx} {n : Nat} {env env' : Env} {σ : St} {s : Shared} {tab : List (Str × NameKind)} {cd : Value} {K : Frag} {H : Addr → Option AO}
/-- a slice of a list, the list any expression's value -/
theorem tSliceLG {value : Expr} {lower upper : Option Expr} {p pos : Pos} {Q : AV → St → Prop}
    (h : TV c n env σ (eval value env) (kSlL c n env lower upper Q)) : TV c n env σ (eval (.Subscript value (.Slice lower upper none p) pos) env) Q := fun A hA s R =>
  listSliceG (last h hA R fun o vo σ₁ s₁ ho R₁ S₁ h₁ => last h₁ hA R₁ fun al vl σ₂ s₂ hlv R₂ S₂ h₂ => by
    obtain ⟨lo, plo, h₂⟩ := h₂
    refine last h₂ hA R₂ fun au vu σ₃ s₃ huv R₃ S₃ h₃ => ?_
    obtain ⟨hi, phi, a, l, rfl, hl, hsz, hq⟩ := h₃
    cases ho
    obtain ⟨items, hi', hv⟩ := hl.items R₃
    have hlen := hv.length
    rw [Array.length_toList] at hlen
    refine ⟨a, items, lo, hi, rfl, hi', by rw [hlen, sizeLine_eq]; lia, plo.isPart hlv, phi.isPart huv, ?_⟩
    have kp : ∀ b o, s₃.heap.get? b = some o → (s₃.heap.push ({ cls := .type "slice", data := .fields #[vl, vu, .none] } : Obj)).get? b = some o := fun _ _ e => Heap.get?_push_of_some _ e
    have R₄ := R₃.grow (t := s₃.toks) kp
    have hv' : VRs c.P (s₃.heap.push ({ cls := .type "slice", data := .fields #[vl, vu, .none] } : Obj)) (pickL l lo hi) (slicePick items lo hi none).toList := by
      have := (hv.keep (.all kp)).pick (idxs lo hi none l.length)
      unfold pickL slicePick
      simp only [Array.getElem?_toList] at this
      rw [hlen]
      exact this
    have := postList (t := s₃.toks) (Q := Q) R₄ hv' hq
    rw [show (s₃.heap.push ({ cls := .type "slice", data := .fields #[vl, vu, .none] } : Obj)).objs.size = s₃.heap.objs.size + 1 from Heap.size_push ..] at this
    exact this.from (S₁.trans (S₂.trans (S₃.trans (Stp.grow (t := s₃.toks) kp)))))
end
end

section
theorem pickL_run (l : List AV) (a b : Nat) : ((sliceRange a b 1).filterMap (l[·]?)) = (l.drop a).take (b - a) := by
  rw [sliceRange_one]
  have := pick_run l.toArray a (b - a)
  simpa using this
theorem pickL_take (l : List AV) (k : Nat) : pickL l none (some (k : Int)) = l.take k := by
  unfold pickL idxs Builtin.Str.strSliceIndices
  have e : max (0 : Int) (min (k : Int) l.length) = ((min k l.length : Nat) : Int) := by lia
  have h : (if (k : Int) < 0 then (k : Int) + l.length else k) = k := if_neg (by lia)
  simp only [Option.getD_none, show (1 : Int) > 0 by decide, if_true, h, e]
  have := pickL_run l 0 (min k l.length)
  simp only [List.drop_zero, Nat.sub_zero] at this
  refine Eq.trans this ?_
  rcases Nat.le_total k l.length with hk | hk
  · rw [Nat.min_eq_left hk]
  · rw [Nat.min_eq_right hk, List.take_length, List.take_of_length_le hk]
theorem pickL_drop (l : List AV) (k : Nat) : pickL l (some (k : Int)) none = l.drop k := by
  unfold pickL idxs Builtin.Str.strSliceIndices
  have e : max (0 : Int) (min (k : Int) l.length) = ((min k l.length : Nat) : Int) := by lia
  have h : (if (k : Int) < 0 then (k : Int) + l.length else k) = k := if_neg (by lia)
  simp only [Option.getD_none, show (1 : Int) > 0 by decide, if_true, h, e]
  rw [pickL_run]
  rcases Nat.le_total k l.length with hk | hk
  · rw [Nat.min_eq_left hk, List.take_of_length_le (by simp)]
  · rw [Nat.min_eq_right hk, List.drop_of_length_le hk]; simp
end

section
open PySem PySem.W PyProof.Rows PySem.Calls
section
variable {α β γ δ : Type} {c : Cx} {n : Nat} {env : Env} {σ : St} {tab : List (Str × NameKind)} {cd : Value} {K : Frag}
theorem OA.strong {p q : Addr → Prop} {h : Heap} (w : ∀ b, q b → p b ∨ h.get? b = Option.none) {a : Addr} {o : AO} (x : OA p h a o) : OA q h a o := by
  cases o with
  | list l => obtain ⟨items, n, e1, e2⟩ := x; exact ⟨items, n, e1, e2.strong w⟩
  | inst C dx => exact x
  | attrs fs =>
    obtain ⟨m, hn, hf⟩ := x
    refine ⟨m, hn, fun y => ?_⟩
    have := hf y
    split
    · rename_i av hl
      rw [hl] at this
      obtain ⟨v, h1, h2⟩ := this
      exact ⟨v, h1, h2.strong w⟩
    · rename_i hl
      rw [hl] at this
      exact this
  | cell v => exact x
  | raw o => exact x
  | ghost o T => exact x
theorem FrameOk.strong {p q : Addr → Prop} {h : Heap} {loc : List (Str × AV)} (w : ∀ b, q b → p b ∨ h.get? b = none) (F : FrameOk p h env loc) : FrameOk q h env loc := by
  refine ⟨F.kind, ?_, fun n c hm => ?_, F.apart, F.sep⟩
  · obtain ⟨m, hn, hl⟩ := F.ns
    exact ⟨m, hn, fun x a h1 h2 => let ⟨v, e1, e2⟩ := hl x a h1 h2; ⟨v, e1, e2.strong w⟩⟩
  · obtain ⟨u, hu, hl⟩ := F.cells n c hm
    exact ⟨u, hu, fun a h1 => let ⟨v, e1, e2⟩ := hl a h1; ⟨v, e1, e2.strong w⟩⟩
/-- more is private from here on: what was made just now -/
theorem Rel.strong {q : Addr → Prop} {s : Shared} {h' : Heap} {t : Nat} (R : Rel c env σ s) (w : ∀ b, q b → c.P b ∨ s.heap.get? b = none) (hq : ∀ b, q b → ∃ o, h'.get? b = some o) (k : ∀ b o, s.heap.get? b = some o → h'.get? b = some o) (ht : s.toks ≤ t) :
    Rel (c.with q) env σ { s with heap := h', toks := t } :=
  ⟨fun b o e => k b o (R.base b o e), fun a o e => ((R.own a o e).strong w).keep (fun _ q => k _ _ q) (.all k), R.ownB,
   (R.fr.strong w).keep (fun _ _ _ q => k _ _ q) (.all k), R.fpH, R.fpB, hq, Nat.lt_of_lt_of_le R.pos ht, fun a o T e => Nat.le_trans (R.gh a o T e) ht⟩
/-- the tail of a call, whatever is asked of what comes back -/
theorem callTailK {e : Expr} {rest : List Expr} {pos : Pos} {f : Value} {Q : Value → Shared → Prop} {Q₁ : List AV → St → Prop} (hk : KeepB c f)
    (h : TL c n env σ (spliced (backTo pos (starEach (e :: rest) env))) Q₁)
    (he : backTo pos (starEach (e :: rest) env) = (false, eval e env) :: backTo pos (starEach rest env))
    (hplain : ((backTo pos (starEach (e :: rest) env)).any (·.1) || (backToKw pos (keywordEach [] env)).any (·.1.isNone)) = false)
    {A : Around} (hA : AOk A n) {s : Shared} (R : Rel c env σ s)
    (k : ∀ l vl σ₁ s₁, VRs c.P s₁.heap l vl → Rel c env σ₁ s₁ → Stp env σ s σ₁ s₁ → Q₁ l σ₁ → wpAny (model c.prog c.w) A (call f vl) Q Fls s₁) :
    wpAny (model c.prog c.w) A (callWith pos f [] (backTo pos (starEach (e :: rest) env)) (backToKw pos (keywordEach [] env))) Q Fls s := by
  refine callWith_of (P := fun h => ∀ b o, c.B.get? b = some o → h.get? b = some o) hplain (fun h x => hk h x) ?_
  rw [he] at h ⊢
  refine evalArgs_kw rfl (last h hA R fun l vl σ₁ s₁ hl R₁ S₁ h₁ => wpAny_pure ⟨R₁.base, ?_⟩)
  exact k l vl σ₁ s₁ hl R₁ S₁ h₁
theorem Src.ofWalksT {elts : List Expr} {k : Nat} {tpos : Pos} {I : Addr} {l : List AV} {D : Heap → Prop} {fp wr : List Addr} {Pt : Nat → Array Value → Prop} {It : Nat → Heap → Prop} {Mid : Nat → Addr → Heap → Prop} 
    (W : ∀ A : Around, A.handled = none → WalksT c.prog c.w A I fp wr l.length Pt It Mid)
    (mono : ∀ h h', KI c.P h h' → D h → D h') (item : ∀ i T vals h, i < l.length → D h → Pt i vals → h.IsTuple T vals → T ∉ wr → ∃ a, l[i]? = some a ∧ VR c.P h a (.ref T))
    (hob : ∀ i h b, (It i h ∨ ∃ T, Mid i T h) → b ∈ wr → ∃ o, h.get? b = some o ∧ (¬ Imm o ∨ c.P b)) :
    Src c (.Tuple elts k tpos) I l D fp wr (fun i v h => ∃ T vals, v = .ref T ∧ Pt i vals ∧ h.IsTuple T vals ∧ T ∉ wr) (fun i v h => ∃ T vals, v = .ref T ∧ Pt i vals ∧ h.IsTuple T vals ∧ Mid i T h) It where
  turns := fun A hA => {
    sub := (W A hA).sub
    frame := (W A hA).frame
    item := fun i s Q E hi st hQ => (W A hA).item i s Q E hi st fun T vals h' tk hP _ hT hm hk => hQ (.ref T) h' tk ⟨T, vals, rfl, hP, hT, hm⟩ hk
    go := fun i v s Q E hm hQ => by
      obtain ⟨T, vals, rfl, hP, hT, hm⟩ := hm
      have ha := (W A hA).apart i T _ hm
      exact (W A hA).go elts k tpos i T s Q E hm fun h' st hk => hQ h' ⟨T, vals, rfl, hP, hT.at fun o e => hk T o ha e, ha⟩ st hk
    done := (W A hA).done }
  mono := mono
  item := fun i v h hi d ⟨T, vals, e, hP, hT, ha⟩ => by subst e; exact item i T vals h hi d hP hT ha
  ki := fun i h h' st k a o hi hp e => k a o (fun q => by
    obtain ⟨o', e', hn⟩ := hob i h a (st.elim .inl fun ⟨v, T, _, _, _, _, x⟩ => .inr ⟨T, x⟩) q
    rw [e] at e'
    cases e'
    exact hn.elim (fun x => x hi) (fun x => hp x)) e
  live := fun i h st b hb => by
    obtain ⟨o', e', _⟩ := hob i h b (st.elim .inl fun ⟨v, T, _, _, _, _, x⟩ => .inr ⟨T, x⟩) hb
    exact ⟨o', e'⟩
noncomputable def zipL (l1 l2 : List AV) : List AV := List.zipWith (fun a b => .tup [a, b]) l1 l2
theorem iterNotImm {h : Heap} {a l : Addr} {i : Nat} (x : h.IsListIter a l i) : ∃ o, h.get? a = some o ∧ ¬ Imm o := by
  obtain ⟨o, e, hc, hd⟩ := x
  exact ⟨o, e, fun q => by rcases q with ⟨q, _⟩ | ⟨q, _⟩ <;> rw [hc] at q <;> simp at q⟩
/-- over zip of two lists of our own -/
theorem iZip {id : Str} {p : Pos} {e1 e2 : Expr} {pos : Pos} {elts : List Expr} {k : Nat} {tpos : Pos} {Q : (Addr → Prop) → List AV → St → (St → St) → Prop} (hP : ∀ b, ¬ c.P b)
    (h : TV c n env σ (eval (.Name id p) env) fun fv σ₀ => fv = .obj (.type "zip") ∧
      TL c n env σ₀ (spliced (backTo pos (starEach [e1, e2] env))) fun l σ₁ => ∃ a1 a2 l1 l2, l = [.obj (.ref a1), .obj (.ref a2)] ∧ σ₁.H a1 = some (.list l1) ∧ σ₁.H a2 = some (.list l2) ∧ a1 ≠ a2 ∧
        ∀ p : Addr → Prop, Q p (zipL l1 l2) ⟨remH (remH σ₁.H a1) a2, σ₁.loc⟩ fun σ' => ⟨setH (setH σ'.H a2 (.list l2)) a1 (.list l1), σ'.loc⟩)
    (he : backTo pos (starEach [e1, e2] env) = (false, eval e1 env) :: backTo pos (starEach [e2] env))
    (hplain : ((backTo pos (starEach [e1, e2] env)).any (·.1) || (backToKw pos (keywordEach [] env)).any (·.1.isNone)) = false) :
    IterT c n env σ (eval (.Call (.Name id p) [e1, e2] [] pos) env) (.Tuple elts k tpos) Q := fun A hA s R K kk =>
  wpAny_Call_Name_kw (last h hA R fun fv vf σ₀ s₀ hf R₀ S₀ h₀ => by
    obtain ⟨rfl, h₁⟩ := h₀
    cases hf
    refine callTailK KeepB.type h₁ he hplain hA R₀ fun l vl σ₁ s₁ hl R₁ S₁ hq => ?_
    obtain ⟨a1, a2, l1, l2, rfl, hx1, hx2, h12, hq⟩ := hq
    cases hl with
    | cons v1 hl => cases hl with
      | cons v2 hl =>
        cases hl
        cases v1
        cases v2
        obtain ⟨xs, m1, hl1, hv1⟩ := R₁.own a1 _ hx1
        obtain ⟨ys, m2, hl2, hv2⟩ := R₁.own a2 _ hx2
        have hL1 : s₁.heap.IsList a1 xs := ⟨_, hl1, rfl, m1, rfl⟩
        have hL2 : s₁.heap.IsList a2 ys := ⟨_, hl2, rfl, m2, rfl⟩
        have lt1 : a1 < s₁.heap.objs.size := Heap.lt_size hl1
        have lt2 : a2 < s₁.heap.objs.size := Heap.lt_size hl2
        have n1 : xs.size = l1.length := by have := hv1.length; simpa using this
        have n2 : ys.size = l2.length := by have := hv2.length; simpa using this
        have D : ZipApart (s₁.heap.objs.size + 4) (s₁.heap.objs.size + 2) (s₁.heap.objs.size + 3) s₁.heap.objs.size (s₁.heap.objs.size + 1) a1 a2 := ktu_apart _ _ _ lt1 lt2
        refine call_zip_2 hL1 hL2 fun h' hz hTI hTO hi1 hi2 hsz hk => ?_
        refine wpAny_pyIter_zip hz ?_
        have RF := (R₁.freeze a1).freeze a2
        have hnone : ∀ b, s₁.heap.objs.size ≤ b → s₁.heap.get? b = none := fun b hb => by
          cases e : s₁.heap.get? b with
          | none => rfl
          | some o => exact absurd (Heap.lt_size e) (Nat.not_lt.mpr hb)
        have hf1 : ¬ FP env a1 := fun q => by rw [R₁.fpH a1 q] at hx1; cases hx1
        have hf2 : ¬ FP env a2 := fun q => by rw [R₁.fpH a2 q] at hx2; cases hx2
        have hzl : (zipL l1 l2).length = min xs.size ys.size := by simp [zipL, n1, n2]
        have hp : ∀ b, (fun b => b = s₁.heap.objs.size + 3) b → c.P b ∨ s₁.heap.get? b = none := fun b e => .inr (hnone b (by simp only at e; lia))
        have hwr : ∀ b ∈ [s₁.heap.objs.size + 4, s₁.heap.objs.size + 3, s₁.heap.objs.size, s₁.heap.objs.size + 1], s₁.heap.objs.size ≤ b := fun b hb => by
          simp only [List.mem_cons, List.not_mem_nil, or_false] at hb
          rcases hb with rfl | rfl | rfl | rfl <;> lia
        refine kk (fun b => b = s₁.heap.objs.size + 3) (zipL l1 l2) ⟨remH (remH σ₁.H a1) a2, σ₁.loc⟩ _ s₁ _ _ (fun h => VRs (fun b => b = s₁.heap.objs.size + 3) h l1 xs.toList ∧ VRs (fun b => b = s₁.heap.objs.size + 3) h l2 ys.toList)
          [s₁.heap.objs.size + 4, s₁.heap.objs.size + 2, s₁.heap.objs.size + 3, s₁.heap.objs.size, s₁.heap.objs.size + 1, a1, a2] [s₁.heap.objs.size + 4, s₁.heap.objs.size + 3, s₁.heap.objs.size, s₁.heap.objs.size + 1] _ _ _
          ⟨fun b q => (hP b q).elim, RF, hk, Src.ofWalksT (c := c.with fun b => b = s₁.heap.objs.size + 3) (fun A hh => hzl ▸ WalksT.zip2 hh _ _ _ _ _ _ _ D xs ys) (fun h h'' ki d => ⟨d.1.keep ki, d.2.keep ki⟩)
            (fun i T vals h hi d hPt hT hw => ?_) (fun i h b st hb => ?_), (WalksT.zip2 (A := A) (prog := c.prog) (w := c.w) hA.handled _ _ _ _ _ _ _ D xs ys).sub, ⟨?_, ?_, ?_, fun b hb => ?_⟩, ?_, fun b hb => ?_, fun b hb => ?_, fun b q => (hP b q).elim,
            fun A hh s Q E st q => (WalksT.zip2 hh _ _ _ _ _ _ _ D xs ys).self 0 s Q E st q⟩ (fun σ' s' R' S' => ?_) (hq _)
        · obtain ⟨x, y, hx, hy, rfl⟩ := hPt
          obtain ⟨a, ha, va⟩ := d.1.get' (i := i) (v := x) (by simpa using hx)
          obtain ⟨b, hb, vb⟩ := d.2.get' (i := i) (v := y) (by simpa using hy)
          exact ⟨.tup [a, b], by simp [zipL, List.getElem?_zipWith, ha, hb], .tup (fun e => hw (by simp only at e; simp [e])) hT (.cons va (.cons vb .nil))⟩
        · simp only [List.mem_cons, List.not_mem_nil, or_false] at hb
          have nz : ∀ f0, ¬ Imm { cls := .type "zip", dict := none, data := .fields #[f0, .bool false, .bool false, .ref (s₁.heap.objs.size + 2), .ref (s₁.heap.objs.size + 3)], slots := #[] } := fun f0 q => by rcases q with ⟨q, _⟩ | ⟨q, _⟩ <;> simp at q
          rcases st with st | ⟨T, st⟩
          · obtain ⟨z1, z2, ⟨_, _, z3⟩, z4, z5, _⟩ := st
            rcases hb with rfl | rfl | rfl | rfl
            · exact ⟨_, z1, .inl (nz _)⟩
            · exact ⟨_, z3, .inr rfl⟩
            · obtain ⟨o, e, q⟩ := iterNotImm z4; exact ⟨o, e, .inl q⟩
            · obtain ⟨o, e, q⟩ := iterNotImm z5; exact ⟨o, e, .inl q⟩
          · obtain ⟨z1, z2, ⟨_, _, z3⟩, z4, z5, _⟩ := st
            rcases hb with rfl | rfl | rfl | rfl
            · exact ⟨_, z1, .inl (nz _)⟩
            · exact ⟨_, z3, .inr rfl⟩
            · obtain ⟨o, e, q⟩ := iterNotImm z4; exact ⟨o, e, .inl q⟩
            · obtain ⟨o, e, q⟩ := iterNotImm z5; exact ⟨o, e, .inl q⟩
        · exact RF.strong (t := s₁.toks) hp (fun b e => ⟨_, by subst e; exact hTO⟩) hk (Nat.le_refl _)
        · exact Stp.grow (t := s₁.toks) hk
        · exact ⟨(hv1.strong hp).keep (.all hk), (hv2.strong hp).keep (.all hk)⟩
        · simp only [List.mem_cons, List.not_mem_nil, or_false] at hb
          have hlt : ∀ {b : Addr} {o : Obj}, h'.get? b = some o → s₁.heap.objs.size ≤ b → remH (remH σ₁.H a1) a2 b = none ∧ ¬ FP env b ∧ ∃ o, h'.get? b = some o := fun {b o} e hb =>
            ⟨remH_none (remH_none (R₁.fresh hb).1), (R₁.fresh hb).2.1, o, e⟩
          rcases hb with rfl | rfl | rfl | rfl | rfl | rfl | rfl
          · exact hlt hz (by lia)
          · exact hlt hTI (by lia)
          · exact hlt hTO (by lia)
          · obtain ⟨o, e, _⟩ := hi1; exact hlt e (by lia)
          · obtain ⟨o, e, _⟩ := hi2; exact hlt e (by lia)
          · exact ⟨remH_none (remH_self ..), hf1, _, hk _ _ hl1⟩
          · exact ⟨remH_self .., hf2, _, hk _ _ hl2⟩
        · exact ⟨hz, hTI, ⟨_, _, hTO⟩, hi1, hi2, hL1.at fun o e => hk _ o e, hL2.at fun o e => hk _ o e⟩
        · exact (R₁.fresh (hwr b hb)).2.2
        · exact hnone b (hwr b hb)
        · have hx2' : remH σ₁.H a1 a2 = some (.list l2) := by rw [remH_ne _ (Ne.symm h12)]; exact hx2
          obtain ⟨R'', S''⟩ := (R₁.freeze a1).thaw (σ' := σ') hx2' R' S'
          obtain ⟨R3, S3⟩ := R₁.thaw hx1 R'' S''
          exact ⟨R3, S₀.trans (S₁.trans S3)⟩)
end
end

section
open PySem PySem.W PyProof.Rows PySem.Calls
/-! ### what a small sort answers -/
noncomputable def kasRun {α : Type} (n : Nat) (lt : Nat → Nat → Bool) : KasT α → Option α
  | .ret a => some a
  | .ask i j k => if (decide (i < n) && decide (j < n) && i != j) = true then kasRun n lt (k (lt i j)) else none
theorem kasRun_wp {α : Type} {n : Nat} {lt : Nat → Nat → Bool} {ask : Nat → Nat → (Bool → Shared → Prop) → Shared → Prop} {G : α → Shared → Prop} {s : Shared} {p : α} : ∀ {t : KasT α}, kasRun n lt t = some p →
    (∀ i j C, i < n → j < n → i ≠ j → C (lt i j) s → ask i j C s) → G p s → t.kasWp ask G s
  | .ret a, e, _, hG => by cases e; exact hG
  | .ask i j k, e, ha, hG => by
    unfold kasRun at e
    split at e
    · rename_i h
      simp only [Bool.and_eq_true, decide_eq_true_eq, bne_iff_ne] at h
      exact ha i j _ h.1.1 h.1.2 h.2 (kasRun_wp e ha hG)
    · cases e
theorem kasRun_congr {α : Type} {n : Nat} {lt lt' : Nat → Nat → Bool} (h : ∀ i j, i < n → j < n → lt i j = lt' i j) : ∀ (t : KasT α), kasRun n lt t = kasRun n lt' t
  | .ret a => rfl
  | .ask i j k => by
    unfold kasRun
    split
    · rename_i q
      simp only [Bool.and_eq_true, decide_eq_true_eq, bne_iff_ne] at q
      rw [h i j q.1.1 q.1.2]; exact kasRun_congr h _
    · rfl
noncomputable def sortOk (n : Nat) (σ : List Nat) : Bool :=
  match kasRun n (fun i j => decide (σ.getD i 0 < σ.getD j 0)) (kas_sort n) with
  | none => false
  | some p => p.toList.all (fun i => decide (i < n)) && p.toList.map (fun i => σ.getD i 0) == List.range n && p.toList.isPerm (List.range n)
noncomputable def seqs (n : Nat) : Nat → List (List Nat)
  | 0 => [[]]
  | k + 1 => (seqs n k).flatMap fun l => ((List.range n).filter fun x => !l.contains x).map fun x => x :: l
theorem mem_seqs {n : Nat} : ∀ {k : Nat} {l : List Nat}, l.length = k → l.Nodup → (∀ x ∈ l, x < n) → l ∈ seqs n k
  | 0, [], _, _, _ => by simp [seqs]
  | k + 1, x :: l, h, hd, hl => by
    have hd' := List.nodup_cons.mp hd
    refine List.mem_flatMap.mpr ⟨l, mem_seqs (by simpa using h) hd'.2 fun y hy => hl y (List.mem_cons_of_mem _ hy), ?_⟩
    refine List.mem_map.mpr ⟨x, List.mem_filter.mpr ⟨List.mem_range.mpr (hl x (List.mem_cons_self ..)), ?_⟩, rfl⟩
    simpa using hd'.1
theorem sort2 : ((seqs 2 2).all (sortOk 2)) = true := by decide +kernel
theorem sort3 : ((seqs 3 3).all (sortOk 3)) = true := by decide +kernel
theorem sort4 : ((seqs 4 4).all (sortOk 4)) = true := by decide +kernel
theorem sort5 : ((seqs 5 5).all (sortOk 5)) = true := by decide +kernel
theorem sort6 : ((seqs 6 6).all (sortOk 6)) = true := by decide +kernel
end

section
open PySem PySem.W PyProof.Rows PySem.Calls
/-! ### a small sort's answer, told of a list with keys -/
noncomputable def rankOf (ks : List Nat) (k : Nat) : Nat := (ks.filter fun x => decide (x < k)).length
theorem rank_mono {ks : List Nat} {a b : Nat} (h : a ≤ b) : rankOf ks a ≤ rankOf ks b := by
  unfold rankOf
  induction ks with
  | nil => simp
  | cons x r ih =>
    rw [List.filter_cons, List.filter_cons]
    by_cases h1 : x < a
    · rw [if_pos (by simpa using h1), if_pos (by simp; lia)]; simpa using ih
    · rw [if_neg (by simpa using h1)]
      split
      · simp; lia
      · exact ih
theorem rank_lt {ks : List Nat} {a b : Nat} (ha : a ∈ ks) (h : a < b) : rankOf ks a < rankOf ks b := by
  unfold rankOf
  induction ks with
  | nil => cases ha
  | cons x r ih =>
    rw [List.filter_cons, List.filter_cons]
    rcases List.mem_cons.mp ha with rfl | ha
    · rw [if_neg (by simp), if_pos (by simpa using h)]
      have := rank_mono (ks := r) (a := a) (b := b) (by lia)
      unfold rankOf at this
      simp; lia
    · have := ih ha
      by_cases h1 : x < a
      · rw [if_pos (by simpa using h1), if_pos (by simp; lia)]; simpa using this
      · rw [if_neg (by simpa using h1)]
        split
        · simp; lia
        · exact this
theorem rank_iff {ks : List Nat} {a b : Nat} (ha : a ∈ ks) (hb : b ∈ ks) : rankOf ks a < rankOf ks b ↔ a < b := by
  constructor
  · intro h
    rcases Nat.lt_or_ge a b with q | q
    · exact q
    · have := rank_mono (ks := ks) q; lia
  · exact rank_lt ha
theorem rank_bound {ks : List Nat} {a : Nat} (ha : a ∈ ks) : rankOf ks a < ks.length := by
  have h1 : rankOf ks a < rankOf ks (a + 1) := rank_lt ha (by lia)
  have h2 : rankOf ks (a + 1) ≤ ks.length := List.length_filter_le ..
  lia
theorem sortAll {n : Nat} (h2 : 2 ≤ n) (h6 : n ≤ 6) : ((seqs n n).all (sortOk n)) = true := by
  match n, h2, h6 with
  | 2, _, _ => exact sort2
  | 3, _, _ => exact sort3
  | 4, _, _ => exact sort4
  | 5, _, _ => exact sort5
  | 6, _, _ => exact sort6
theorem sortRes {α : Type} {xs : List α} {key : α → Nat} (h2 : 2 ≤ xs.length) (h6 : xs.length ≤ 6) (hd : (xs.map key).Nodup) :
    ∃ (p : Array Nat) (ys : List α), kasRun xs.length (fun i j => decide ((xs.map key).getD i 0 < (xs.map key).getD j 0)) (kas_sort xs.length) = some p ∧ (∀ i ∈ p.toList, i < xs.length) ∧ p.size = xs.length ∧ ys.Perm xs ∧ ys.Pairwise (fun a b => key a < key b) ∧
      ∀ {β : Type} (f : α → β) (d : β), p.toList.map (fun i => (xs.map f).getD i d) = ys.map f := by
  have hg : ∀ {i : Nat} (h : i < xs.length), (xs.map key).getD i 0 = key xs[i] := fun {i} h => by simp [List.getD_eq_getElem?_getD, h]
  have hmem : ∀ {i : Nat} (h : i < xs.length), key xs[i] ∈ xs.map key := fun h => List.mem_map.mpr ⟨_, List.getElem_mem h, rfl⟩
  have hs : ∀ {i : Nat} (h : i < xs.length), ((xs.map key).map (rankOf (xs.map key))).getD i 0 = rankOf (xs.map key) (key xs[i]) := fun {i} h => by simp [List.getD_eq_getElem?_getD, h]
  have hnd : ((xs.map key).map (rankOf (xs.map key))).Nodup := by
    refine List.pairwise_map.mpr ?_
    refine List.Pairwise.imp_of_mem (fun {a b} ha hb hab q => hab ?_) hd
    rcases Nat.lt_trichotomy a b with h | h | h
    · have := rank_lt ha h; lia
    · exact h
    · have := rank_lt hb h; lia
  have hm := mem_seqs (n := xs.length) (k := xs.length) (l := (xs.map key).map (rankOf (xs.map key))) (by simp) hnd fun x hx => by
    obtain ⟨k, hk, rfl⟩ := List.mem_map.mp hx
    have := rank_bound hk
    simpa using this
  have hok := List.all_eq_true.mp (sortAll h2 h6) _ hm
  unfold sortOk at hok
  rw [kasRun_congr (lt' := fun i j => decide ((xs.map key).getD i 0 < (xs.map key).getD j 0)) (fun i j hi hj => by
    rw [hs hi, hs hj, hg hi, hg hj]
    exact decide_eq_decide.mpr (rank_iff (hmem hi) (hmem hj)))] at hok
  split at hok
  · cases hok
  · rename_i p hp
    simp only [Bool.and_eq_true, List.all_eq_true, decide_eq_true_eq, beq_iff_eq] at hok
    obtain ⟨⟨hlt, heq⟩, hpm⟩ := hok
    have hsz : p.size = xs.length := by have := congrArg List.length heq; simpa using this
    have hbnd : ∀ {j : Nat} (h : j < p.toList.length), p.toList[j] < xs.length := fun h => hlt _ (List.getElem_mem h)
    have hrk : ∀ {j : Nat} (h : j < p.toList.length), rankOf (xs.map key) (key (xs[p.toList[j]]'(hbnd h))) = j := fun {j} h => by
      have e := congrArg (fun l => l[j]?) heq
      rw [List.getElem?_map, List.getElem?_eq_getElem h, List.getElem?_range (by simpa [hsz] using h)] at e
      simp only [Option.map_some, Option.some.injEq] at e
      rw [hs (hbnd h)] at e
      exact e
    refine ⟨p, p.toList.pmap (fun i h => xs[i]'h) hlt, hp, hlt, hsz, ?_, ?_, fun {β} f d => ?_⟩
    · have hperm : p.toList.Perm (List.range xs.length) := List.isPerm_iff.mp hpm
      have e1 : p.toList.pmap (fun i h => xs[i]'h) hlt = p.toList.filterMap (xs[·]?) := by
        have : ∀ (l : List Nat) (h : ∀ i ∈ l, i < xs.length), l.pmap (fun i h => xs[i]'h) h = l.filterMap (xs[·]?) := fun l => by
          induction l with
          | nil => intro _; rfl
          | cons i l ih =>
            intro h
            rw [List.pmap_cons, List.filterMap_cons, List.getElem?_eq_getElem (h i (List.mem_cons_self ..))]
            simp only
            rw [ih]
        exact this _ _
      rw [e1]
      refine (hperm.filterMap _).trans ?_
      have := pick_run xs.toArray 0 xs.length
      have e2 : (List.range xs.length).filterMap (xs[·]?) = xs := by simpa using this
      rw [e2]
    · refine List.pairwise_iff_getElem.mpr fun a b ha hb hab => ?_
      have ha' : a < p.toList.length := by simpa using ha
      have hb' : b < p.toList.length := by simpa using hb
      rw [List.getElem_pmap, List.getElem_pmap]
      have h1 := hrk ha'
      have h2 := hrk hb'
      exact (rank_iff (hmem (hbnd ha')) (hmem (hbnd hb'))).mp (by lia)
    · rw [List.map_pmap]
      have : ∀ (l : List Nat) (h : ∀ i ∈ l, i < xs.length), l.map (fun i => (xs.map f).getD i d) = l.pmap (fun i h => f (xs[i]'h)) h := fun l => by
        induction l with
        | nil => intro _; rfl
        | cons i l ih =>
          intro h
          have hi := h i (List.mem_cons_self ..)
          rw [List.map_cons, List.pmap_cons, ih fun j hj => h j (List.mem_cons_of_mem _ hj)]
          simp [List.getD_eq_getElem?_getD, hi]
      exact this _ _
end

section
open PySem PySem.W PyProof.Rows PySem.Calls
section
variable {α β γ δ : Type} {c : Cx} {n : Nat} {env env' : Env} {σ : St} {s : Shared} {tab : List (Str × NameKind)} {cd : Value} {K : Frag} {H : Addr → Option AO}
/-! ### the ghost: no token below it is given out again -/
theorem Rel.reghost (R : Rel c env σ s) {g : Addr} {o o' : AO} (hg : σ.H g = some o) (ho : OA c.P s.heap g o') (hT : ∀ b T, o' = .ghost b T → T ≤ s.toks) : Rel c env ⟨setH σ.H g o', σ.loc⟩ s := by
  refine ⟨R.base, fun b ob e => ?_, fun b ob e => ?_, R.fr, fun b q => ?_, R.fpB, R.priv, R.pos, fun b ob T e => ?_⟩
  · by_cases h : b = g
    · subst h; replace e : setH σ.H b o' b = _ := e; rw [setH_self] at e; cases e; exact ho
    · replace e : setH σ.H g o' b = _ := e; rw [setH_ne _ _ h] at e; exact R.own b ob e
  · by_cases h : b = g
    · subst h; exact R.ownB b o hg
    · replace e : setH σ.H g o' b = _ := e; rw [setH_ne _ _ h] at e; exact R.ownB b ob e
  · have h : b ≠ g := fun z => by subst z; rw [R.fpH b q] at hg; cases hg
    show setH σ.H g o' b = none
    rw [setH_ne _ _ h]; exact R.fpH b q
  · by_cases h : b = g
    · subst h; replace e : setH σ.H b o' b = _ := e; rw [setH_self] at e; cases e; exact hT _ _ rfl
    · replace e : setH σ.H g o' b = _ := e; rw [setH_ne _ _ h] at e; exact R.gh b ob T e
theorem Stp.unghost {σ' : St} {s' : Shared} {g : Addr} {o o' : AO} (hg : σ.H g = some o) (S : Stp env ⟨setH σ.H g o', σ.loc⟩ s σ' s') : Stp env σ s σ' s' := by
  have k : ∀ b, σ.H b = none → setH σ.H g o' b = none := fun b e => by
    have h : b ≠ g := fun z => by subst z; rw [hg] at e; cases e
    rw [setH_ne _ _ h]; exact e
  exact ⟨fun b ob e h1 h2 => S.keep b ob e (k b h1) h2, fun b ob e h1 => S.dom b ob e (k b h1), S.live, S.gens, S.drawn, S.os, S.toks⟩
theorem Stp.reghost {g : Addr} {o o' : AO} (hg : σ.H g = some o) : Stp env σ s ⟨setH σ.H g o', σ.loc⟩ s := (Stp.refl env ⟨setH σ.H g o', σ.loc⟩ s).unghost hg
theorem Tr.ghost {ρ : Heap → β → α → Prop} {t : Sem α} {Q : β → St → Prop} {g : Addr} {o : Obj} (hg : σ.H g = some (.raw o)) (h : ∀ T, 0 < T → Tr c n env ρ ⟨setH σ.H g (.ghost o T), σ.loc⟩ t Q) : Tr c n env ρ σ t Q := fun A hA s R =>
  wpAny_mono (h s.toks R.pos A hA s (R.reghost (o' := .ghost o s.toks) hg (show OA c.P s.heap g (.raw o) from R.own g _ hg) fun b T e => by cases e; exact Nat.le_refl _)) (fun _ _ ⟨b, σ', h1, R', S', h4⟩ => ⟨b, σ', h1, R', S'.unghost hg, h4⟩) fun _ _ e => e
/-- a quotient, with its token -/
theorem opDivG {g : Addr} {o : Obj} {T : Nat} {a b : Int} {Q : AV → St → Prop} (hg : σ.H g = some (.ghost o T)) (h1 : b ≠ 0) (h2 : Float64.isInf (Float64.ofFrac (decide (a < 0) != decide (b < 0)) a.natAbs b.natAbs) = false)
    (hq : ∀ t, T ≤ t → 0 < t → Q (.obj (.float (Float64.ofFrac (decide (a < 0) != decide (b < 0)) a.natAbs b.natAbs) t)) ⟨setH σ.H g (.ghost o (t + 1)), σ.loc⟩) :
    Op2 c n env (VR c.P) σ (binaryOp .Div) (.int a) (.int b) Q := fun A hA s R va vb ha hb => by
  cases ha; cases hb
  refine AutoIntOps.truediv_2 (by simpa using h1) (by simp [h2]) ?_
  have R' := R.tok (s.toks + 1)
  have hT := R.gh g o T hg
  exact ⟨_, _, .obj _, R'.reghost (o' := .ghost o (s.toks + 1)) hg (show OA c.P s.heap g (.ghost o T) from R'.own g _ hg) (fun b T e => by cases e; exact Nat.le_refl _), (Stp.tok (s.toks + 1)).trans (Stp.reghost hg), hq _ hT R.pos⟩
/-! ### floats apart -/
theorem eqNoF {prog : Program} {w : World} {A : Around} {E : Value → Shared → Prop} {x y : UInt64} {t u : Tok} {Q : Bool → Shared → Prop} (hxy : x ≠ y) (hc : (Float64.cmp x y == some .eq) = false) (htu : t ≠ u) (ht : 0 < t) (hu : 0 < u) (h : Q false s) :
    wpAny (model prog w) A (eqBool (.float x t) (.float y u)) Q E s := by
  unfold eqBool
  refine wpAny_holding ?_
  refine wpAny_ite_split (fun hab => ?_) (fun _ => ?_)
  · exfalso
    have : (Value.float x t) = .float y u := by simpa using hab
    cases this; exact hxy rfl
  · refine wpAny_bind ?_
    unfold isSame
    dsimp only
    unfold isSame.created
    have h0 : (t == 0 || u == 0) = false := by
      have h1 : t ≠ 0 := Nat.ne_of_gt ht
      have h2 : u ≠ 0 := Nat.ne_of_gt hu
      simp [h1, h2]
    rw [h0]
    simp only [Bool.false_eq_true, if_false]
    rw [if_neg (by simpa using htu), if_pos (by simp [hxy])]
    refine wpAny_pure ?_
    exact wpAny_bind (AutoFloatOps.eq_0 (wpAny_truthy_bool (by rw [hc]; exact h)))
theorem oneLtF {prog : Program} {w : World} {A : Around} {E : Value → Shared → Prop} {x y : UInt64} {t u : Tok} {Q : Bool → Shared → Prop} (hu : A.units < cLine) (h : Q (Float64.cmp x y == some .lt) s) : wpAny (model prog w) A (oneLt' true (.float x t) (.float y u)) Q E s := by
  rw [oneLt'_eq]
  simp only [if_true]
  refine wpAny_bind (wpAny_cRoomFor_or (.inr hu) ?_)
  refine wpAny_bind (wpAny_callSpecialIfBound?_slot (AutoFloatOps.typeIs_float s x t) F.slot_float_lt (call_gives F.slot_float_lt (AutoFloatOps.typeIs_float s x t) F.entry_float_lt (F.args_float_lt_2 _ _) (AutoFloatG5.float___lt___float_float_0 x t y u) ?_))
  exact wpAny_truthy_bool h
end
end

section
open PySem PySem.W PyProof.Rows PySem.Calls
section
variable {α β γ δ : Type} {c : Cx} {n : Nat} {env env' : Env} {σ : St} {s : Shared} {tab : List (Str × NameKind)} {cd : Value} {K : Frag} {H : Addr → Option AO}
theorem VRs.at {p : Addr → Prop} {h : Heap} : ∀ {l : List AV} {vs : List Value}, VRs p h l vs → ∀ {i : Nat}, i < vs.length → VR p h (l.getD i .none) (vs.getD i .none)
  | [], _, x, i, hi => by cases x; cases hi
  | _ :: _, _, x, 0, _ => by cases x with | cons hv hs => exact hv
  | _ :: _, _, x, i + 1, hi => by cases x with | cons hv hs => exact hs.at (i := i) (Nat.lt_of_succ_lt_succ hi)
theorem VRs.ofMap {p : Addr → Prop} {h : Heap} {l : List AV} {vs : List Value} (x : VRs p h l vs) : ∀ {is : List Nat}, (∀ i ∈ is, i < vs.length) → VRs p h (is.map fun i => l.getD i AV.none) (is.map fun i => vs.getD i Value.none)
  | [], _ => .nil
  | i :: is, hi => .cons (x.at (hi i (List.mem_cons_self ..))) (VRs.ofMap x fun j hj => hi j (List.mem_cons_of_mem _ hj))
/-- the shell of sorted(l): what is asked of the sort, in a heap that has all that was there -/
theorem sortedShell {A : Around} {l : Addr} {vs : List Value} {Q : Value → Shared → Prop} (hl : s.heap.IsList l vs.toArray) (h2 : 2 ≤ vs.length) (h64 : vs.length < 64)
    (h : ∀ h', (∀ b o, s.heap.get? b = some o → h'.get? b = some o) → wpAny (model c.prog c.w) A.in1.in1 (keyKind' vs.toArray) (fun κ s' => s' = { s with heap := h' } ∧ (kas_sort vs.length).kasWp (kas_ask c.prog c.w A.in1.in1 κ vs) (fun p s'' => s'' = { s with heap := h' } ∧ p.size = vs.length ∧
      ∀ d h'' c', (∀ b o, s.heap.get? b = some o → h''.get? b = some o) → s.heap.objs.size ≤ d → h''.get? d = some (seqObj "list" (p.toList.map fun i => vs.getD i Value.none).toArray c') → Q (.ref d) { s with heap := h'' }) s') Fls { s with heap := h' }) :
    wpAny (model c.prog c.w) A (call (.builtin "sorted") [.ref l]) Q Fls s := by
  refine Calls.call_function_entry kind_sorted plain_sorted entry_sorted (args_sorted1 _) ?_
  unfold Builtin.«sorted»
  refine wpAny_bind (m := checkCount "sorted" 1 1 _) (wpAny_pure ?_)
  refine wpAny_bind (collect_list hl ?_ (by rw [sizeLine_eq]; lia))
  refine wpAny_bind (wpAny_newList ?_ (by rw [sizeLine_eq]; lia))
  have hsz : ((s.heap.push (seqObj "list" #[] 0)).update s.heap.objs.size (Obj.mapSeq (· ++ vs.toArray))).objs.size = s.heap.objs.size + 1 := by
    rw [Heap.size_update, size_push']
  have hoL : (((s.heap.push (seqObj "list" #[] 0)).update s.heap.objs.size (Obj.mapSeq (· ++ vs.toArray))).push (seqObj "list" vs.toArray 0)).get? (s.heap.objs.size + 1) = some (seqObj "list" vs.toArray 0) := by
    rw [← hsz]; exact Heap.get?_push_size _ rfl
  have keep1 : ∀ b o, s.heap.get? b = some o → (((s.heap.push (seqObj "list" #[] 0)).update s.heap.objs.size (Obj.mapSeq (· ++ vs.toArray))).push (seqObj "list" vs.toArray 0)).get? b = some o := fun b o q => by
    have hlt : b < s.heap.objs.size := Heap.lt_size q
    rw [Heap.get?_push_ne _ _ _ (by rw [hsz]; exact Nat.ne_of_lt (Nat.lt_succ_of_lt hlt)), Heap.get?_update_ne _ _ _ _ (Nat.ne_of_lt hlt), Heap.get?_push_ne _ _ _ (Nat.ne_of_lt hlt)]
    exact q
  show wpAny _ _ _ _ _ { s with heap := ((s.heap.push (seqObj "list" #[] 0)).update s.heap.objs.size (Obj.mapSeq (· ++ vs.toArray))).push (seqObj "list" vs.toArray 0) }
  rw [hsz]
  generalize ((s.heap.push (seqObj "list" #[] 0)).update s.heap.objs.size (Obj.mapSeq (· ++ vs.toArray))).push (seqObj "list" vs.toArray 0) = h1 at hoL keep1
  generalize hda : s.heap.objs.size + 1 = a at hoL
  have hge : s.heap.objs.size ≤ a := by lia
  have hne : ∀ b o, s.heap.get? b = some o → b ≠ a := fun b o q => Nat.ne_of_lt (Nat.lt_of_lt_of_le (Heap.lt_size q) hge)
  refine wpAny_bind (wpAny_holding (wpAny_call_entry slot_list_sort ⟨_, hoL, rfl⟩ entry_list_sort ?body (args_list_sort _)))
  case body =>
    have s1 := Heap.SameBut.update h1 a (Obj.mapSeq fun _ => (#[] : Array Value))
    obtain ⟨e1, ho1⟩ : ∃ e1, (h1.update a (Obj.mapSeq fun _ => (#[] : Array Value))).get? a = some (seqObj "list" #[] e1) := ⟨_, get?_update_seq hoL fun _ => #[]⟩
    rw [list_sort_plain]
    refine wpAny_bind (listItems_at hoL rfl ?_)
    refine wpAny_bind (listUpdate_at hoL rfl ?_ (by rw [List.size_toArray, sizeLine_eq]; lia) (Nat.zero_le _))
    refine wpAny_bind (seqEpoch_at ho1 rfl ?_)
    refine wpAny_bind (wpAny_newTuple ?_ (by show vs.length ≤ _; rw [sizeLine_eq]; lia))
    refine wpAny_bind (wpAny_newList ?_ (Nat.zero_le _))
    refine wpAny_holding ?_
    show wpAny _ _ _ _ _ { s with heap := ((h1.update a (Obj.mapSeq fun _ => (#[] : Array Value))).push (seqObj "tuple" vs.toArray 0)).push (seqObj "list" #[] 0) }
    have keep2 : ∀ b o, s.heap.get? b = some o → (((h1.update a (Obj.mapSeq fun _ => (#[] : Array Value))).push (seqObj "tuple" vs.toArray 0)).push (seqObj "list" #[] 0)).get? b = some o := fun b o q =>
      Heap.get?_push_of_some _ (Heap.get?_push_of_some _ ((s1.2 b (hne b o q)).trans (keep1 b o q)))
    have ho2 : (((h1.update a (Obj.mapSeq fun _ => (#[] : Array Value))).push (seqObj "tuple" vs.toArray 0)).push (seqObj "list" #[] 0)).get? a = some (seqObj "list" #[] e1) := Heap.get?_push_of_some _ (Heap.get?_push_of_some _ ho1)
    generalize ((h1.update a (Obj.mapSeq fun _ => (#[] : Array Value))).push (seqObj "tuple" vs.toArray 0)).push (seqObj "list" #[] 0) = hh at keep2 ho2
    dsimp only
    have hn2 : ¬ vs.toArray.size < 2 := by rw [List.size_toArray]; lia
    rw [if_neg hn2, if_neg hn2]
    refine wpAny_bind (wpAny_mono (h hh keep2) (fun κ s0 hk => ?_) fun _ _ x => x.elim)
    obtain ⟨rfl, hk⟩ := hk
    refine wpAny_bind (wpAny_mono (kat_run (Q := fun st' s' => ∃ p : Array Nat, p.size = vs.length ∧ arrOf st' = p.map (kas_item (vs.toArray.zip vs.toArray)) ∧ failedOf st' = none ∧ s' = { s with heap := hh } ∧ p.size = vs.length ∧
      ∀ d h'' c', (∀ b o, s.heap.get? b = some o → h''.get? b = some o) → s.heap.objs.size ≤ d → h''.get? d = some (seqObj "list" (p.toList.map fun i => vs.getD i Value.none).toArray c') → Q (.ref d) { s with heap := h'' })
      rfl h2 h64 (fun p' st' s' a1 a2 a3 a4 => ⟨p', a1, a2, a3, a4⟩) hk) ?_ fun _ _ e => e)
    rintro ⟨⟨⟩, st'⟩ s' ⟨p, hp, har, hf, rfl, _, fin⟩
    dsimp only
    have hout := kat_snds rfl har
    have hsz' : (List.toArray (p.toList.map fun i => vs.getD i Value.none)).size = vs.length := by rw [List.size_toArray, List.length_map, Array.length_toList, hp]
    rw [hout]
    have s2 := Heap.SameBut.update hh a (Obj.mapSeq fun _ => List.toArray (p.toList.map fun i => vs.getD i Value.none))
    obtain ⟨c2, hc2⟩ : ∃ c2, (hh.update a (Obj.mapSeq fun _ => List.toArray (p.toList.map fun i => vs.getD i Value.none))).get? a = some (seqObj "list" (List.toArray (p.toList.map fun i => vs.getD i Value.none)) c2) := ⟨_, get?_update_seq ho2 fun _ => List.toArray (p.toList.map fun i => vs.getD i Value.none)⟩
    refine wpAny_bind (seqEpoch_at ho2 rfl ?_)
    refine wpAny_bind (listUpdate_at ho2 rfl ?_ (Nat.zero_le _) (Nat.le_trans (Nat.le_of_eq hsz') (by rw [sizeLine_eq]; lia)))
    rw [hf]
    simp only [bne_self_eq_false, Bool.false_eq_true, if_false]
    refine wpAny_pure ⟨_, rfl, ?_⟩
    refine wpAny_pure ⟨_, rfl, ?_⟩
    exact fin a _ c2 (fun b o q => (s2.2 b (hne b o q)).trans (keep2 b o q)) hge hc2
end
end

section
open PySem PySem.W PyProof.Rows PySem.Calls
section
variable {α β γ δ : Type} {c : Cx} {n : Nat} {env env' : Env} {σ : St} {s : Shared} {tab : List (Str × NameKind)} {cd : Value} {K : Frag} {H : Addr → Option AO}
theorem tupAt {p : Addr → Prop} {h : Heap} {v0 v : Value} {r : List AV} (x : VR p h (.tup (.obj v0 :: r)) v) : ∃ a o items k ws, v = .ref a ∧ h.get? a = some o ∧ o.cls = .type "tuple" ∧ o.data = .seq items k ∧ items.toList = v0 :: ws := by
  cases x with
  | tup hp ht hs =>
    rename_i a items
    obtain ⟨o, e, hc, k, hd⟩ := ht
    generalize hi : items.toList = l at hs
    cases hs with
    | cons h1 h2 =>
      cases h1
      exact ⟨a, o, items, k, _, rfl, e, hc, hd, hi⟩
theorem katTups {p : Addr → Prop} {h : Heap} {F : α → Value} {rest : α → List AV} : ∀ {xs : List α} {vs : List Value}, VRs p h (xs.map fun a => .tup (.obj (F a) :: rest a)) vs → KatTups h vs (xs.map F)
  | [], _, y => by cases y; exact KatTups.nil
  | a :: xs, _, y => by
    cases y with
    | cons hv hs =>
    obtain ⟨b, o, items, k, ws, rfl, e1, e2, e3, e4⟩ := tupAt hv
    exact KatTups.cons e1 e2 e3 (by rw [← Array.getElem?_toList, e4]; rfl) (katTups hs)
theorem VRs.tokenless {p : Addr → Prop} {h : Heap} {fx : α → UInt64} {tk : α → Tok} {rest : α → List AV} : ∀ {xs : List α} {vs : List Value}, (∀ a ∈ xs, 0 < tk a) → VRs p h (xs.map fun a => .tup (.obj (.float (fx a) (tk a)) :: rest a)) vs → VRs p h (xs.map fun a => .tup (.float (fx a) :: rest a)) vs
  | [], _, _, y => y
  | a :: xs, _, h0, y => by
    cases y with
    | cons hv hs =>
    refine .cons ?_ (VRs.tokenless (fun b hb => h0 b (List.mem_cons_of_mem _ hb)) hs)
    cases hv with
    | tup hp ht hs =>
      refine .tup hp ht ?_
      generalize Array.toList _ = l at hs
      cases hs with
      | cons h1 h2 =>
        cases h1
        exact .cons (.float _ _ (h0 a (List.mem_cons_self ..))) h2
/-- sorted(l) of tuples that begin with floats of different keys -/
theorem cSortedT {xs : List α} {fx : α → UInt64} {tk : α → Tok} {rest : α → List AV} {key : α → Nat} {D : Addr} {Q : AV → (Addr → Option AO) → Prop} (hD : H D = some (.list (xs.map fun a => .tup (.obj (.float (fx a) (tk a)) :: rest a)))) (h2 : 2 ≤ xs.length) (h6 : xs.length ≤ 6) (hk : (xs.map key).Nodup)
    (ht0 : ∀ a ∈ xs, 0 < tk a) (ht : ∀ a ∈ xs, ∀ b ∈ xs, key a ≠ key b → tk a ≠ tk b) (hlt : ∀ a ∈ xs, ∀ b ∈ xs, fLt (fx a) (fx b) = decide (key a < key b)) (hne : ∀ a ∈ xs, ∀ b ∈ xs, key a ≠ key b → fx a ≠ fx b ∧ (Float64.cmp (fx a) (fx b) == some .eq) = false)
    (h : ∀ (ys : List α) E, ys.Perm xs → ys.Pairwise (fun a b => key a < key b) → H E = none → c.B.get? E = none → Q (.obj (.ref E)) (setH H E (.list (ys.map fun a => .tup (.float (fx a) :: rest a))))) : CallS c (n + 2) H (.builtin "sorted") [.obj (.ref D)] [] [] Q := fun env loc A hA s R vs hv ks hks => by
  cases hks
  cases hv with
  | cons v1 hv =>
    cases hv
    cases v1
    obtain ⟨items, m, hl, hvs⟩ := R.own D _ hD
    obtain ⟨vs, rfl⟩ : ∃ vs : List Value, items = vs.toArray := ⟨items.toList, by simp⟩
    simp only at hvs
    have hlen : vs.length = xs.length := by have := hvs.length; simpa using this
    obtain ⟨p, ys, hp, hpl, hps, hperm, hsrt, hmap⟩ := sortRes (xs := xs) (key := key) h2 h6 hk
    have hA1 := hA.in1'.in1'
    have hun : A.in1.in1.units < cLine := by have := hA1.units; lia
    refine sortedShell ⟨_, hl, rfl, m, rfl⟩ (by lia) (by lia) fun h' kp => ?_
    have hvs' := hvs.keep (KI.all (p := c.P) kp)
    have hT := katTups (F := fun a => Value.float (fx a) (tk a)) hvs'
    refine kat_kind (T := .type "float") hT (by simp; lia) (fun v hv => ?_) (by decide) ⟨rfl, ?_⟩
    · obtain ⟨a, _, rfl⟩ := List.mem_map.mp hv
      exact Looks.now
    rw [hlen]
    refine kasRun_wp hp (fun i j C hi hj hij hC => ?_) ⟨rfl, by lia, fun d h'' c' kp2 hd hlist => ?_⟩
    · have gi : (xs.map fun a => AV.tup (.obj (.float (fx a) (tk a)) :: rest a)).getD i .none = .tup (.obj (.float (fx xs[i]) (tk xs[i])) :: rest xs[i]) := by simp [List.getD_eq_getElem?_getD, hi]
      have gj : (xs.map fun a => AV.tup (.obj (.float (fx a) (tk a)) :: rest a)).getD j .none = .tup (.obj (.float (fx xs[j]) (tk xs[j])) :: rest xs[j]) := by simp [List.getD_eq_getElem?_getD, hj]
      have vi := hvs'.at (i := i) (by lia)
      have vj := hvs'.at (i := j) (by lia)
      rw [gi] at vi
      rw [gj] at vj
      obtain ⟨a, o, is, k, ws, ea, e1, e2, e3, e4⟩ := tupAt vi
      obtain ⟨b, o', is', k', ws', eb, f1, f2, f3, f4⟩ := tupAt vj
      have mi : xs[i] ∈ xs := List.getElem_mem hi
      have mj : xs[j] ∈ xs := List.getElem_mem hj
      have hki : (xs.map key).getD i 0 = key xs[i] := by simp [List.getD_eq_getElem?_getD, hi]
      have hkj : (xs.map key).getD j 0 = key xs[j] := by simp [List.getD_eq_getElem?_getD, hj]
      have hkne : key xs[i] ≠ key xs[j] := fun q => by
        have hpw := List.pairwise_iff_getElem.mp hk
        rcases Nat.lt_or_gt_of_ne hij with g | g
        · exact hpw i j (by simpa using hi) (by simpa using hj) g (by simpa using q)
        · exact hpw j i (by simpa using hj) (by simpa using hi) g (by simpa using q.symm)
      unfold kas_ask
      rw [ea, eb]
      refine kat_lt e1 e3 f1 f3 ?_
      rw [e4, f4]
      refine kat_cons (eqNoF (hne _ mi _ mj hkne).1 (hne _ mi _ mj hkne).2 (ht _ mi _ mj hkne) (ht0 _ mi) (ht0 _ mj) (kat_no ?_))
      refine oneLtF hun ?_
      rw [hki, hkj, ← hlt _ mi _ mj] at hC
      exact hC
    · have hw := (VRs.tokenless ht0 hvs).ofMap (is := p.toList) (fun i hi => by have := hpl i hi; lia)
      rw [hmap (fun a => AV.tup (.float (fx a) :: rest a)) .none] at hw
      have f := R.fresh hd
      have R1 := R.grow (t := s.toks) kp2
      have oa : OA c.P h'' d (.list (ys.map fun a => .tup (.float (fx a) :: rest a))) := ⟨_, c', hlist, by simpa using hw.keep (KI.all (p := c.P) kp2)⟩
      refine ⟨.obj (.ref d), ⟨setH H d _, loc⟩, .obj _, R1.alloc f.1 f.2.1 f.2.2 oa, ⟨fun b o e _ _ => kp2 b o e, fun b ob hb e => ?_, fun b ob e => ⟨ob, kp2 b ob e⟩, rfl, rfl, rfl, Nat.le_refl _⟩, rfl, h ys d hperm hsrt f.1 f.2.2⟩
      show setH H _ _ b = none
      rw [setH_ne _ _ (Nat.ne_of_lt (Nat.lt_of_lt_of_le (Heap.lt_size hb) hd))]; exact e
end
end

section
open PySem PySem.W PyProof.Rows PySem.Calls
section
variable {α β γ δ : Type} {c : Cx} {n : Nat} {env env' : Env} {σ : St} {s : Shared} {tab : List (Str × NameKind)} {cd : Value} {K : Frag} {H : Addr → Option AO}
theorem notImm_list {xs : Array Value} {e : Nat} : ¬ Imm (seqObj "list" xs e) := by rintro (⟨q, _⟩ | ⟨q, _⟩) <;> simp [seqObj] at q
theorem strsAt {p : Addr → Prop} {h : Heap} {kf : α → Str} : ∀ {xs : List α} {vs : List Value}, VRs p h (xs.map fun a => .str (kf a)) vs → ∀ {i : Nat} (hi : i < xs.length), ∃ t, vs.getD i .none = .str (kf xs[i]) t
  | [], _, _, i, hi => by cases hi
  | a :: xs, _, y, 0, _ => by cases y with | cons hv hs => cases hv; exact ⟨_, rfl⟩
  | a :: xs, _, y, i + 1, hi => by cases y with | cons hv hs => exact strsAt hs (i := i) (Nat.lt_of_succ_lt_succ hi)
theorem strsLooks {p : Addr → Prop} {h h' : Heap} {M : Model} {kf : α → Str} : ∀ {xs : List α} {vs : List Value}, VRs p h (xs.map fun a => .str (kf a)) vs → ∀ v ∈ vs, Looks M h' (typeOf v) (.type "str")
  | [], _, y, v, hv => by cases y; cases hv
  | a :: xs, _, y, v, hv => by
    cases y with
    | cons hx hs =>
    rcases List.mem_cons.mp hv with rfl | hv
    · cases hx; exact Looks.now
    · exact strsLooks hs v hv
/-- sorted(l, key=f), the keys texts -/
theorem cSortedK {xs : List α} {f : α → AV} {kf : α → Str} {key : α → Nat} {D q : Addr} {Q : AV → (Addr → Option AO) → Prop} (hD : H D = some (.list (xs.map f))) (h2 : 2 ≤ xs.length) (h6 : xs.length ≤ 6) (hk : (xs.map key).Nodup)
    (hlt : ∀ a ∈ xs, ∀ b ∈ xs, decide ((kf a).cps.toList < (kf b).cps.toList) = decide (key a < key b)) (hfn : ∀ H2 a, a ∈ xs → CallS c n H2 (.ref q) [f a] [] [] fun b H' => b = .str (kf a) ∧ H' = H2)
    (h : ∀ (ys : List α) E, ys.Perm xs → ys.Pairwise (fun a b => key a < key b) → H E = none → c.B.get? E = none → Q (.obj (.ref E)) (setH H E (.list (ys.map f)))) :
    CallS c (n + 2) H (.builtin "sorted") [.obj (.ref D)] [Str.ofString "key"] [.obj (.ref q)] Q := fun env loc A hA s R vs hv ks hks => by
  cases hks with
  | cons k1 hks =>
  cases hks
  cases k1
  cases hv with
  | cons v1 hv =>
    cases hv
    cases v1
    obtain ⟨items, m, hl, hvs⟩ := R.own D _ hD
    obtain ⟨vs, rfl⟩ : ∃ vs : List Value, items = vs.toArray := ⟨items.toList, by simp⟩
    simp only at hvs
    have hlen : vs.length = xs.length := by have := hvs.length; simpa using this
    obtain ⟨p, ys, hp, hpl, hps, hperm, hsrt, hmap⟩ := sortRes (xs := xs) (key := key) h2 h6 hk
    have hA1 := hA.in1'.in1'
    have hl' : s.heap.IsList D vs.toArray := ⟨_, hl, rfl, m, rfl⟩
    show wpAny _ A (call (.builtin "sorted") [.ref D] [(Str.ofString "key", .ref q)]) _ _ s
    refine call_function_entry_kw kind_sorted plain_sorted entry_sorted (ksk_s1 _ _) ?_
    unfold Builtin.«sorted»
    refine wpAny_bind (m := checkCount "sorted" 1 1 _) (wpAny_pure ?_)
    refine wpAny_bind (collect_list hl' ?_ (by rw [sizeLine_eq]; lia))
    refine wpAny_bind (wpAny_newList ?_ (by rw [sizeLine_eq]; lia))
    have hsz : ((s.heap.push (seqObj "list" #[] 0)).update s.heap.objs.size (Obj.mapSeq (· ++ vs.toArray))).objs.size = s.heap.objs.size + 1 := by
      rw [Heap.size_update, size_push']
    have hoL : (((s.heap.push (seqObj "list" #[] 0)).update s.heap.objs.size (Obj.mapSeq (· ++ vs.toArray))).push (seqObj "list" vs.toArray 0)).get? (s.heap.objs.size + 1) = some (seqObj "list" vs.toArray 0) := by
      rw [← hsz]; exact Heap.get?_push_size _ rfl
    have keep1 : ∀ b o, s.heap.get? b = some o → (((s.heap.push (seqObj "list" #[] 0)).update s.heap.objs.size (Obj.mapSeq (· ++ vs.toArray))).push (seqObj "list" vs.toArray 0)).get? b = some o := fun b o q => by
      have hlt : b < s.heap.objs.size := Heap.lt_size q
      rw [Heap.get?_push_ne _ _ _ (by rw [hsz]; exact Nat.ne_of_lt (Nat.lt_succ_of_lt hlt)), Heap.get?_update_ne _ _ _ _ (Nat.ne_of_lt hlt), Heap.get?_push_ne _ _ _ (Nat.ne_of_lt hlt)]
      exact q
    show wpAny _ _ _ _ _ { s with heap := ((s.heap.push (seqObj "list" #[] 0)).update s.heap.objs.size (Obj.mapSeq (· ++ vs.toArray))).push (seqObj "list" vs.toArray 0) }
    rw [hsz]
    have hsz1 : (((s.heap.push (seqObj "list" #[] 0)).update s.heap.objs.size (Obj.mapSeq (· ++ vs.toArray))).push (seqObj "list" vs.toArray 0)).objs.size = s.heap.objs.size + 2 := by rw [size_push', hsz]
    generalize ((s.heap.push (seqObj "list" #[] 0)).update s.heap.objs.size (Obj.mapSeq (· ++ vs.toArray))).push (seqObj "list" vs.toArray 0) = h1 at hoL keep1 hsz1
    generalize hda : s.heap.objs.size + 1 = a at hoL
    have hge : s.heap.objs.size ≤ a := by lia
    have hne : ∀ b o, s.heap.get? b = some o → b ≠ a := fun b o q => Nat.ne_of_lt (Nat.lt_of_lt_of_le (Heap.lt_size q) hge)
    refine wpAny_bind (wpAny_holding (wpAny_call_entry_kw slot_list_sort ⟨_, hoL, rfl⟩ entry_list_sort ?body (ksk_l1 _ _)))
    case body =>
      have s1 := Heap.SameBut.update h1 a (Obj.mapSeq fun _ => (#[] : Array Value))
      obtain ⟨e1, ho1⟩ : ∃ e1, (h1.update a (Obj.mapSeq fun _ => (#[] : Array Value))).get? a = some (seqObj "list" #[] e1) := ⟨_, get?_update_seq hoL fun _ => #[]⟩
      show wpAny _ _ (Builtin.«list.sort» ⟨[.ref a], [(Str.ofString "key", .ref q)]⟩) _ _ _
      rw [ksk_t1]
      unfold ksk_tree
      refine wpAny_bind (listItems_at hoL rfl ?_)
      refine wpAny_bind (listUpdate_at hoL rfl ?_ (by rw [List.size_toArray, sizeLine_eq]; lia) (Nat.zero_le _))
      refine wpAny_bind (seqEpoch_at ho1 rfl ?_)
      refine wpAny_bind (wpAny_newTuple ?_ (by show vs.length ≤ _; rw [sizeLine_eq]; lia))
      refine wpAny_bind (wpAny_newList ?_ (Nat.zero_le _))
      refine wpAny_holding ?_
      have hk0 : ((h1.update a (Obj.mapSeq fun _ => (#[] : Array Value))).push (seqObj "tuple" vs.toArray 0)).objs.size = s.heap.objs.size + 3 := by rw [size_push', Heap.size_update, hsz1]
      have hoK : (((h1.update a (Obj.mapSeq fun _ => (#[] : Array Value))).push (seqObj "tuple" vs.toArray 0)).push (seqObj "list" #[] 0)).get? (s.heap.objs.size + 3) = some (seqObj "list" #[] 0) := by
        rw [← hk0]; exact Heap.get?_push_size _ rfl
      show wpAny _ _ _ _ _ { s with heap := ((h1.update a (Obj.mapSeq fun _ => (#[] : Array Value))).push (seqObj "tuple" vs.toArray 0)).push (seqObj "list" #[] 0) }
      have keep2 : ∀ b o, s.heap.get? b = some o → (((h1.update a (Obj.mapSeq fun _ => (#[] : Array Value))).push (seqObj "tuple" vs.toArray 0)).push (seqObj "list" #[] 0)).get? b = some o := fun b o q =>
        Heap.get?_push_of_some _ (Heap.get?_push_of_some _ ((s1.2 b (hne b o q)).trans (keep1 b o q)))
      have ho2 : (((h1.update a (Obj.mapSeq fun _ => (#[] : Array Value))).push (seqObj "tuple" vs.toArray 0)).push (seqObj "list" #[] 0)).get? a = some (seqObj "list" #[] e1) := Heap.get?_push_of_some _ (Heap.get?_push_of_some _ ho1)
      rw [show ((h1.update a (Obj.mapSeq fun _ => (#[] : Array Value))).push ({ cls := .type "tuple", data := .seq vs.toArray.toList.toArray } : Obj)).objs.size = s.heap.objs.size + 3 from hk0]
      generalize ((h1.update a (Obj.mapSeq fun _ => (#[] : Array Value))).push (seqObj "tuple" vs.toArray 0)).push (seqObj "list" #[] 0) = hh at keep2 ho2 hoK
      generalize hdk : s.heap.objs.size + 3 = kS at hoK
      have hgk : s.heap.objs.size ≤ kS := by lia
      have hka : kS ≠ a := by lia
      have fa := R.fresh hge
      have fk := R.fresh hgk
      have R1 := R.grow (t := s.toks) keep2
      have Ra : Rel c env ⟨setH H a (.raw (seqObj "list" #[] e1)), loc⟩ { s with heap := hh } := R1.alloc fa.1 fa.2.1 fa.2.2 ⟨ho2, notImm_list⟩
      have hkn : setH H a (.raw (seqObj "list" #[] e1)) kS = none := by rw [setH_ne _ _ hka]; exact fk.1
      have Rk : Rel c env ⟨setH (setH H a (.raw (seqObj "list" #[] e1))) kS (.list []), loc⟩ { s with heap := hh } := Ra.alloc hkn fk.2.1 fk.2.2 ⟨#[], 0, hoK, .nil⟩
      have Sk : Stp env ⟨H, loc⟩ s ⟨setH (setH H a (.raw (seqObj "list" #[] e1))) kS (.list []), loc⟩ { s with heap := hh } := ⟨fun b o e _ _ => keep2 b o e, fun b ob hb e => by
        show setH (setH H a _) kS _ b = none
        rw [setH_ne _ _ (Nat.ne_of_lt (Nat.lt_of_lt_of_le (Heap.lt_size hb) hgk)), setH_ne _ _ (hne b ob hb)]; exact e, fun b ob e => ⟨ob, keep2 b ob e⟩, rfl, rfl, rfl, Nat.le_refl _⟩
      unfold ksk_rest
      refine wpAny_bind (wpAny_rule ?_)
      rw [List.forIn_toArray]
      refine wpAny_bind (ksk_fold (fun i s' => Rel c env ⟨setH (setH H a (.raw (seqObj "list" #[] e1))) kS (.list ((xs.take i).map fun a => .str (kf a))), loc⟩ s' ∧ Stp env ⟨H, loc⟩ s ⟨setH (setH H a (.raw (seqObj "list" #[] e1))) kS (.list ((xs.take i).map fun a => .str (kf a))), loc⟩ s') vs 0 _ ⟨by simpa using Rk, by simpa using Sk⟩ ?step ?done)
      case step =>
        rintro j x s' hx ⟨R', S'⟩
        simp only [Nat.zero_add] at R' S' ⊢
        have hj : j < xs.length := by have := (List.getElem?_eq_some_iff.mp hx).1; lia
        have hxv : VR c.P s'.heap (f xs[j]) x := by
          have := (S'.vrs R hvs).at (i := j) (by lia)
          rw [List.getD_eq_getElem?_getD, List.getD_eq_getElem?_getD, hx, List.getElem?_map, List.getElem?_eq_getElem hj] at this
          exact this
        have hcl := hfn (setH (setH H a (.raw (seqObj "list" #[] e1))) kS (.list ((xs.take j).map fun a => .str (kf a)))) xs[j] (List.getElem_mem hj) env loc _ hA1 s' R' [x] (.cons hxv .nil) [] .nil
        refine wpAny_bind (wpAny_attempt (wpAny_mono hcl (fun v s'' he => ?_) fun _ _ hF => hF.elim))
        obtain ⟨b, σ2, hvb, R2, S2, hloc, rfl, hH2⟩ := he
        obtain ⟨tt, rfl⟩ : ∃ tt, v = .str (kf xs[j]) tt := by cases hvb; exact ⟨_, rfl⟩
        have hσ : σ2 = ⟨setH (setH H a (.raw (seqObj "list" #[] e1))) kS (.list ((xs.take j).map fun a => .str (kf a))), loc⟩ := by cases σ2; simp only at hloc hH2; subst hloc hH2; rfl
        subst hσ
        try dsimp only
        have hks : (⟨setH (setH H a (.raw (seqObj "list" #[] e1))) kS (.list ((xs.take j).map fun a => .str (kf a))), loc⟩ : St).H kS = some (.list ((xs.take j).map fun a => .str (kf a))) := setH_self _ _ _
        obtain ⟨its, m2, hl2, hv2⟩ := R2.own kS _ hks
        have hz : its.size ≤ 6 := by have := hv2.length; simp at this; lia
        obtain ⟨c2, hc2⟩ : ∃ c2, (s''.heap.update kS (Obj.mapSeq (·.push (Value.str (kf xs[j]) tt)))).get? kS = some (seqObj "list" (its.push (Value.str (kf xs[j]) tt)) c2) := ⟨_, get?_update_seq hl2 (·.push (Value.str (kf xs[j]) tt))⟩
        have s2 := Heap.SameBut.update s''.heap kS (Obj.mapSeq (·.push (Value.str (kf xs[j]) tt)))
        have ki : KI c.P s''.heap (s''.heap.update kS (Obj.mapSeq (·.push (Value.str (kf xs[j]) tt)))) := fun b o hi _ q => (s2.2 b fun z => by subst z; have := (R2.imm hi q).1; rw [hks] at this; cases this).trans q
        have oa : OA c.P (s''.heap.update kS (Obj.mapSeq (·.push (Value.str (kf xs[j]) tt)))) kS (.list ((xs.take (j + 1)).map fun a => .str (kf a))) := by
          refine ⟨_, c2, hc2, ?_⟩
          have e : xs.take (j + 1) = xs.take j ++ [xs[j]] := by rw [List.take_append_getElem]
          rw [e, List.map_append, Array.toList_push]
          exact VRs.append (hv2.keep ki) (.cons (.str ..) .nil)
        have R3 := R2.upd (t := s''.toks) hks s2 oa
        have S3 : Stp env _ s'' _ _ := Stp.upd (c := c) (env := env) (t := s''.toks) hks s2 oa
        rw [setH_setH] at R3 S3
        refine wpAny_bind (listUpdate_at hl2 rfl ?_ (by rw [sizeLine_eq]; lia) (by rw [Array.size_push, sizeLine_eq]; lia))
        exact wpAny_pure ⟨rfl, R3, S'.trans (S2.trans S3)⟩
      case done =>
        rintro s' ⟨R', S'⟩
        rw [show xs.take (0 + vs.length) = xs by rw [hlen, Nat.zero_add, List.take_length]] at R' S'
        have hks : (⟨setH (setH H a (.raw (seqObj "list" #[] e1))) kS (.list (xs.map fun a => .str (kf a))), loc⟩ : St).H kS = some (.list (xs.map fun a => .str (kf a))) := setH_self _ _ _
        have has : (⟨setH (setH H a (.raw (seqObj "list" #[] e1))) kS (.list (xs.map fun a => .str (kf a))), loc⟩ : St).H a = some (.raw (seqObj "list" #[] e1)) := by
          show setH (setH H a _) kS _ a = _
          rw [setH_ne _ _ (Ne.symm hka), setH_self]
        obtain ⟨its, mk, hlk, hvk⟩ := R'.own kS _ hks
        have hoa := (R'.own a _ has).1
        obtain ⟨ks, rfl⟩ : ∃ ks : List Value, its = ks.toArray := ⟨its.toList, by simp⟩
        simp only at hvk
        have hkl : ks.length = xs.length := by have := hvk.length; simpa using this
        try dsimp only
        refine wpAny_bind (listItems_at hlk rfl ?_)
        unfold ksk_end
        simp only [Bool.false_eq_true, if_false]
        have hn2 : ¬ vs.toArray.size < 2 := by rw [List.size_toArray]; lia
        rw [if_neg hn2, if_neg hn2]
        refine wpAny_bind (kas_kind (T := .type "str") (by lia) (strsLooks hvk) (by decide) (by decide) ?_)
        refine wpAny_bind (wpAny_mono (kat_run (Q := fun st' s'' => ∃ p : Array Nat, p.size = vs.length ∧ arrOf st' = p.map (kas_item (ks.toArray.zip vs.toArray)) ∧ failedOf st' = none ∧ s'' = s' ∧ p.toList.map (fun i => (xs.map f).getD i AV.none) = ys.map f ∧ ∀ i ∈ p.toList, i < vs.length)
          (by lia) (by lia) (by lia) (fun p' st' s'' a1 a2 a3 (a4 : s'' = s' ∧ p'.toList.map (fun i => (xs.map f).getD i AV.none) = ys.map f ∧ ∀ i ∈ p'.toList, i < vs.length) => ⟨p', a1, a2, a3, a4⟩) ?_) ?_ fun _ _ e => e)
        · rw [hlen]
          refine kasRun_wp hp (fun i j C hi hj hij hC => ?_) ⟨rfl, hmap f .none, hpl⟩
          obtain ⟨t, et⟩ := strsAt hvk hi
          obtain ⟨u, eu⟩ := strsAt hvk hj
          unfold kas_ask
          rw [et, eu]
          refine kas_lt_str ?_
          rw [hlt _ (List.getElem_mem hi) _ (List.getElem_mem hj)]
          have hki : (xs.map key).getD i 0 = key xs[i] := by simp [List.getD_eq_getElem?_getD, hi]
          have hkj : (xs.map key).getD j 0 = key xs[j] := by simp [List.getD_eq_getElem?_getD, hj]
          rw [hki, hkj] at hC
          exact hC
        · rintro ⟨⟨⟩, st'⟩ s'' ⟨p', hp', har, hf, rfl, hmp, hpl'⟩
          dsimp only
          have hout := kat_snds (ks := ks) (vs := vs) (by lia) har
          unfold ksk_tail
          try dsimp only
          rw [hout]
          have hsz' : (List.toArray (p'.toList.map fun i => vs.getD i Value.none)).size = vs.length := by rw [List.size_toArray, List.length_map, Array.length_toList, hp']
          have u1 := Heap.SameBut.update s''.heap kS (Obj.mapSeq fun _ => (#[] : Array Value))
          have na1 : (s''.heap.update kS (Obj.mapSeq fun _ => (#[] : Array Value))).get? a = some (seqObj "list" #[] e1) := (u1.2 a (Ne.symm hka)).trans hoa
          have u2 := Heap.SameBut.update (s''.heap.update kS (Obj.mapSeq fun _ => (#[] : Array Value))) a (Obj.mapSeq fun _ => List.toArray (p'.toList.map fun i => vs.getD i Value.none))
          obtain ⟨c2, hc2⟩ : ∃ c2, ((s''.heap.update kS (Obj.mapSeq fun _ => (#[] : Array Value))).update a (Obj.mapSeq fun _ => List.toArray (p'.toList.map fun i => vs.getD i Value.none))).get? a = some (seqObj "list" (List.toArray (p'.toList.map fun i => vs.getD i Value.none)) c2) :=
            ⟨_, get?_update_seq na1 fun _ => List.toArray (p'.toList.map fun i => vs.getD i Value.none)⟩
          obtain ⟨c1, hc1⟩ : ∃ c1, (s''.heap.update kS (Obj.mapSeq fun _ => (#[] : Array Value))).get? kS = some (seqObj "list" #[] c1) := ⟨_, get?_update_seq hlk fun _ => (#[] : Array Value)⟩
          have R3 := R'.upd (t := s''.toks) (o' := .list []) hks u1 ⟨#[], c1, hc1, .nil⟩
          have S3 : Stp env _ s'' _ _ := Stp.upd (c := c) (env := env) (t := s''.toks) (o' := .list []) hks u1 ⟨#[], c1, hc1, .nil⟩
          rw [setH_setH] at R3 S3
          have has3 : (⟨setH (setH H a (.raw (seqObj "list" #[] e1))) kS (.list []), loc⟩ : St).H a = some (.raw (seqObj "list" #[] e1)) := by
            show setH (setH H a _) kS _ a = _
            rw [setH_ne _ _ (Ne.symm hka), setH_self]
          have ki2 : KI c.P (s''.heap.update kS (Obj.mapSeq fun _ => (#[] : Array Value))) ((s''.heap.update kS (Obj.mapSeq fun _ => (#[] : Array Value))).update a (Obj.mapSeq fun _ => List.toArray (p'.toList.map fun i => vs.getD i Value.none))) := fun b o hi _ q => (u2.2 b fun z => by
            subst z; have := (R3.imm hi q).1; rw [has3] at this; cases this).trans q
          have hvr := (((S'.trans S3).vrs R hvs).keep ki2).ofMap (is := p'.toList) hpl'
          rw [hmp] at hvr
          have oa : OA c.P ((s''.heap.update kS (Obj.mapSeq fun _ => (#[] : Array Value))).update a (Obj.mapSeq fun _ => List.toArray (p'.toList.map fun i => vs.getD i Value.none))) a (.list (ys.map f)) := ⟨_, c2, hc2, by simpa using hvr⟩
          have R4 := R3.upd (t := s''.toks) has3 u2 oa
          have S4 := Stp.upd (c := c) (env := env) (s := { s'' with heap := s''.heap.update kS (Obj.mapSeq fun _ => (#[] : Array Value)) }) (t := s''.toks) has3 u2 oa
          refine wpAny_bind (listUpdate_at hlk rfl ?_ (by rw [List.size_toArray, sizeLine_eq]; lia) (Nat.zero_le _))
          refine wpAny_bind (wpAny_letGo ?_)
          refine wpAny_bind (seqEpoch_at na1 rfl ?_)
          refine wpAny_bind (listUpdate_at na1 rfl ?_ (Nat.zero_le _) (Nat.le_trans (Nat.le_of_eq hsz') (by rw [sizeLine_eq]; lia)))
          rw [hf]
          simp only [bne_self_eq_false, Bool.false_eq_true, if_false]
          refine wpAny_pure ⟨_, rfl, ?_⟩
          refine wpAny_pure ⟨_, rfl, ?_⟩
          have f0 : H kS = none := fk.1
          have sub : ∀ b o, setH H a (.list (ys.map f)) b = some o → setH (setH (setH H a (.raw (seqObj "list" #[] e1))) kS (.list [])) a (.list (ys.map f)) b = some o := fun b o e => by
            by_cases hb : b = a
            · subst hb; rw [setH_self] at e ⊢; exact e
            · rw [setH_ne _ _ hb] at e ⊢
              have : b ≠ kS := fun z => by rw [z, f0] at e; cases e
              rw [setH_ne _ _ this, setH_ne _ _ hb]; exact e
          have S5 := S'.trans (S3.trans S4)
          refine ⟨.obj (.ref a), ⟨setH H a (.list (ys.map f)), loc⟩, .obj _, R4.forget sub fun _ _ e => e, ⟨S5.keep, fun b ob hb e => ?_, S5.live, S5.gens, S5.drawn, S5.os, S5.toks⟩, rfl, h ys a hperm hsrt fa.1 fa.2.2⟩
          show setH H a _ b = none
          rw [setH_ne _ _ (hne b ob hb)]; exact e
end
end

section
open PySem PySem.W PyProof.Rows PySem.Calls
/-- a state as it stands where no frame of ours runs -/
structure RelB (c : Cx) (H : Addr → Option AO) (s : Shared) : Prop where
  base : ∀ b o, c.B.get? b = some o → s.heap.get? b = some o
  own : ∀ a o, H a = some o → OA c.P s.heap a o
  ownB : ∀ a o, H a = some o → c.B.get? a = none
  priv : ∀ b, c.P b → ∃ o, s.heap.get? b = some o
  gh : ∀ a o T, H a = some (.ghost o T) → T ≤ s.toks
section
variable {α β γ δ : Type} {c : Cx} {n : Nat} {env env' : Env} {σ : St} {tab : List (Str × NameKind)} {cd : Value} {K : Frag} {H : Addr → Option AO}
theorem RelB.fresh {s : Shared} (R : RelB c H s) {a : Addr} (h : s.heap.objs.size ≤ a) : H a = none ∧ c.B.get? a = none := by
  constructor
  · cases e : H a with
    | none => rfl
    | some o =>
      obtain ⟨ob, q⟩ := (R.own a o e).there
      exact absurd (Heap.lt_size q) (Nat.not_lt.mpr h)
  · cases e : c.B.get? a with
    | none => rfl
    | some o => exact absurd (Heap.lt_size (R.base a o e)) (Nat.not_lt.mpr h)
noncomputable def CallT (c : Cx) (n : Nat) (H : Addr → Option AO) (f : Value) (args : List AV) (Q : AV → (Addr → Option AO) → Prop) : Prop :=
  ∀ A, AOk A n → ∀ s, RelB c H s → ∀ vs, VRs c.P s.heap args vs →
    wpAny (model c.prog c.w) A (call f vs) (fun v s' => ∃ a H', VR c.P s'.heap a v ∧ RelB c H' s' ∧ (∀ b o, s.heap.get? b = some o → H b = none → s'.heap.get? b = some o) ∧ (∀ b o, s.heap.get? b = some o → ∃ o', s'.heap.get? b = some o') ∧ s'.gens = s.gens ∧ s'.os = s.os ∧ Q a H') Fls s
theorem newEnv1 {M : Model} {A : Around} {E : Value → Shared → Prop} {s : Shared} {scope : Scope} {globals : Addr} {x : Str} {v : Value} {qual : Str} {func : Option Addr} {code : Value} {builtins : Addr} {Q : Env → Shared → Prop}
    (hk : scope.kind = .function) (hx : scope.names.lookup x = some .local)
    (hQ : ∀ env, env = newEnv scope s.heap.objs.size globals (cellsFrom (s.heap.objs.size + 1) scope.names []) qual func code none builtins →
      ∀ s', InCallC s env.locals (bindL env.kindOf [(x, v)] fun _ => none) env.cells (bindC env.kindOf [(x, v)] fun _ => none) s' → s.toks < s'.toks → Q env s') :
    wpAny M A (newFunctionEnv scope globals [] [(x, v)] qual func code none builtins) Q E s := by
  simp only [newFunctionEnv, Option.isSome_none, Bool.false_eq_true, if_false]
  refine wpAny_bind (wpAny_alloc ?_)
  refine wpAny_bind (wpAny_layCells _ (fun name kind cells => by cases hkc : kind == NameKind.cell <;> simp [hkc]) _ _ _ _ ?_)
  have ok := cellsFrom_ok scope.names (s.heap.push { cls := .type "frame", data := .dict #[] }) (s.heap.objs.size + 1) [] ⟨fun _ _ hm => (nomatch hm), List.Pairwise.nil⟩ (by rw [Heap.size_push]; exact Nat.le_refl _)
  rw [Heap.size_push] at ok
  rw [show ({ s with heap := s.heap.push { cls := .type "frame", data := .dict #[] } } : Shared).heap.objs.size = s.heap.objs.size + 1 from Heap.size_push ..]
  have hl : (newEnv scope s.heap.objs.size globals (cellsFrom (s.heap.objs.size + 1) scope.names []) qual func code none builtins).kindOf x = some .local := hx
  have X0 : InCallC s (newEnv scope s.heap.objs.size globals (cellsFrom (s.heap.objs.size + 1) scope.names []) qual func code none builtins).locals (fun _ => none) (newEnv scope s.heap.objs.size globals (cellsFrom (s.heap.objs.size + 1) scope.names []) qual func code none builtins).cells (fun _ => none) { s with heap := pushCells (s.heap.push { cls := .type "frame", data := .dict #[] }) scope.names } :=
    ⟨⟨⟨_, _, rfl⟩, (Heap.Ns.new s.heap (.type "frame")).keeps (pushCells_keeps _ _), fun b o e => pushCells_keeps _ _ b o (Heap.get?_push_of_some _ e), Nat.le_refl _⟩,
      fun n c hc => (ok.empty n c (mem_of_lookup hc)).1, ok.apart, fun n c hm => (ok.empty n c hm).2⟩
  refine wpAny_bind ?_
  rw [List.forIn_cons]
  refine wpAny_bind (wpAny_bind (wpAny_storeName_local hl X0.toInCall.ns (fun h' hn' hs' => wpAny_pure ?_) (by dsimp only; rw [hk]; rfl)))
  dsimp only
  rw [List.forIn_nil]
  refine wpAny_pure (wpAny_pure (hQ _ rfl _ ?_ (Nat.lt_succ_self _)))
  have e1 : bindL (newEnv scope s.heap.objs.size globals (cellsFrom (s.heap.objs.size + 1) scope.names []) qual func code none builtins).kindOf [(x, v)] (fun _ => none) = fun y => if y = x then some v else none := by
    unfold bindL bindL; rw [if_pos hl]
  have e2 : bindC (newEnv scope s.heap.objs.size globals (cellsFrom (s.heap.objs.size + 1) scope.names []) qual func code none builtins).kindOf [(x, v)] (fun _ => none) = fun _ => none := by
    unfold bindC bindC; rw [if_pos hl]
  rw [e1, e2]
  refine ⟨⟨⟨h', _, rfl⟩, hn', fun b o e => ?_, X0.toInCall.fresh⟩, fun k c hc => ?_, X0.apart, X0.above⟩
  · exact hs'.extBut b o (Nat.ne_of_lt (Nat.lt_of_lt_of_le (Heap.lt_size e) X0.toInCall.fresh)) (X0.toInCall.keep b o e)
  · exact (X0.cell k c hc).sameBut hs' (Nat.ne_of_gt (X0.above k c (mem_of_lookup hc)))
theorem callTop_def {f : Addr} {fd : FuncData} {x₁ : Str} {a₁ : AV} {args : List AV} {locs : List (Str × AV)} {body : List Stmt} {Q : AV → (Addr → Option AO) → Prop}
    (hf : FnAt c f fd) (hp : plainParams fd [x₁]) (hargs : args = [a₁]) (hlocs : locs = [(x₁, a₁)]) (hx₁ : fd.scope.names.lookup x₁ = some .local) (hbody : fd.body = .stmts body) (hclo : fd.closure = []) (hk : fd.scope.kind = .function) (hco : fd.scope.isCoroutine = false) (hgen : fd.scope.isGenerator = false)
    (hnd : (locs.map Prod.fst).Nodup) (hsn : (fd.scope.names.map Prod.fst).Nodup) (hki : ∀ x ∈ locs.map Prod.fst, fd.scope.names.lookup x = some .local ∨ fd.scope.names.lookup x = some .cell)
    (h : ∀ L, TF c n (callEnvC fd L f) ⟨H, locs⟩ (execs body (callEnvC fd L f)) fun fl σ' => LeftTo (callEnvC fd L f) σ' (Q (retOf fl))) :
    CallT c (n + 1) H (.ref f) args Q := fun A hA s R vs hv => by
  obtain ⟨o, ho, hd⟩ := hf.at_
  have hbase := R.base
  subst hargs hlocs
  have hvb : VB c.P s.heap [(x₁, a₁)] ([x₁].zip vs) := VRs.bind (xs := [x₁]) rfl hv
  have hbt : BindsTo s fd ⟨vs, []⟩ ([x₁].zip vs) := .of_eq (hp vs (by rw [hv.length]; rfl))
  cases hv with
  | cons v1 hv =>
  cases hv
  rename_i v₁
  refine wpAny_call (codeAny_call_function hA.room (hbase _ _ ho) hd hco hgen hbody (hf.code.keeps hbase) (hbt _ _ _ _ ?_))
  rw [hclo]
  refine newEnv1 hk hx₁ fun env' he s₁ X hpos' => ?_
  have hpos : s.toks ≤ s₁.toks := Nat.le_of_lt hpos'
  have he' : env' = callEnvC fd s.heap.objs.size f := he
  clear he
  subst he'
  have keep := X.toInCall.keep
  have kT : KI c.P s.heap s₁.heap := .all keep
  obtain ⟨h₁, tk, hs₁⟩ := X.toInCall.same
  have hfresh : ∀ b, FP (callEnvC fd s.heap.objs.size f) b → s.heap.objs.size ≤ b := fun b hb => by
    rcases hb with rfl | ⟨x, hx⟩
    · exact X.toInCall.fresh
    · exact Nat.le_of_lt (Nat.lt_of_le_of_lt X.toInCall.fresh (X.above _ _ (mem_of_lookup hx)))
  have R₁ : Rel c (callEnvC fd s.heap.objs.size f) ⟨H, [(x₁, a₁)]⟩ s₁ := by
    refine ⟨fun b o e => keep _ _ (R.base b o e), fun a o e => (R.own a o e).keep (fun _ q => keep _ _ q) kT, R.ownB, ⟨hk, ⟨_, X.toInCall.ns, fun x a e q => ?_⟩, fun x k e => ⟨_, X.cell x k e, fun a q => ?_⟩, X.apart, fun x k e => Nat.ne_of_gt (X.above _ _ (mem_of_lookup e))⟩, fun b q => (R.fresh (hfresh b q)).1, fun b q => (R.fresh (hfresh b q)).2, fun b q => let ⟨o, e⟩ := R.priv b q; ⟨o, keep _ _ e⟩, Nat.lt_of_le_of_lt (Nat.zero_le _) hpos', fun a o T e => Nat.le_trans (R.gh a o T e) hpos⟩
    · obtain ⟨v, h1, h2⟩ := hvb.local (ko := (callEnvC fd s.heap.objs.size f).kindOf) (m := fun _ => none) hnd e q
      exact ⟨v, h1, h2.keep kT⟩
    · have hkx : (callEnvC fd s.heap.objs.size f).kindOf x = some .cell := by
        rcases cellsFrom_kind _ _ _ hsn (by simp) e with h | h
        · exact h
        · simp at h
      obtain ⟨v, h1, h2⟩ := hvb.cell (ko := (callEnvC fd s.heap.objs.size f).kindOf) (m := fun _ => none) hnd q (by rw [hkx]; decide)
      exact ⟨v, h1, h2.keep kT⟩
  refine ⟨(hf.lim.keeps hbase).keeps keep, codeAny_func (wpAny_mono (h _ (A.deeper _) (hA.deeper _) s₁ R₁) (fun fl s' P => ?_) fun _ _ e => e.elim)⟩
  obtain ⟨af, σ', hfl, R', S', H', hleft, hq⟩ := P
  have hkeep : ∀ b o, s.heap.get? b = some o → H b = none → s'.heap.get? b = some o := fun b o e q =>
    S'.keep b o (keep b o e) q fun hf => absurd (hfresh b hf) (Nat.not_le.mpr (Heap.lt_size e))
  have R'' : RelB c H' s' := by
    refine ⟨R'.base, fun a o e => ?_, fun a o e => ?_, R'.priv, fun a o T e => by
      rcases hleft a _ e with z | ⟨_, _, _, _, q⟩
      · exact R'.gh a o T z
      · cases q⟩
    · rcases hleft a o e with z | ⟨x, v, hx, hl, rfl⟩
      · exact R'.own a o z
      · obtain ⟨u, hu, q⟩ := R'.fr.cells x a hx
        obtain ⟨v', rfl, e2⟩ := q _ hl
        cases e2
        exact hu
    · rcases hleft a o e with z | ⟨x, v, hx, hl, rfl⟩
      · exact R'.ownB a o z
      · exact R'.fpB _ (.inr ⟨x, hx⟩)
  have hlive : ∀ b o, s.heap.get? b = some o → ∃ o', s'.heap.get? b = some o' := fun b o e => S'.live b o (keep b o e)
  have hg : s'.gens = s.gens := by rw [S'.gens, hs₁]
  have hos : s'.os = s.os := by rw [S'.os, hs₁]
  cases hfl with
  | next => exact ⟨_, _, .none, R'', hkeep, hlive, hg, hos, hq⟩
  | brk => exact ⟨_, _, .none, R'', hkeep, hlive, hg, hos, hq⟩
  | cont => exact ⟨_, _, .none, R'', hkeep, hlive, hg, hos, hq⟩
  | ret x => exact ⟨_, _, x, R'', hkeep, hlive, hg, hos, hq⟩
theorem callTop {f : Addr} {fd : FuncData} {body : List Stmt} {x₁ : Str} {a₁ : AV} {Q : AV → (Addr → Option AO) → Prop} (G : Good c K) (e : fnInfo K f = some fd) (ho : fdOkB fd = true) (hp : plainParams fd [x₁]) (hb : fd.body = .stmts body) (hn : fd.scope.names = tab) (hc : fd.code = cd)
    (hx : tab.lookup x₁ = some .local)
    (h : ∀ env', Sc env' tab cd → TF c n env' ⟨H, [(x₁, a₁)]⟩ (execs body env') fun fl σ' => LeftTo env' σ' (Q (retOf fl))) : CallT c (n + 1) H (.ref f) [a₁] Q := by
  subst hn hc
  have ho' := fdOk_of ho
  refine callTop_def (fnAt_of G e) hp rfl rfl hx hb ho'.clo ho'.kind ho'.co ho'.gen (by simp) ho'.nd (fun y hy => by simp at hy; subst hy; exact .inl hx) fun L => h _ ⟨rfl, ho'.kind, ho'.gl, ho'.bi, ho'.code, fun x hx => ?_, fun x hx => ?_⟩
  · rcases hx with hx | hx
    · exact Option.isSome_iff_exists.mp (cellsFrom_some _ _ _ (.inl hx))
    · exact absurd rfl (ho'.nofree _ (mem_of_lookup hx))
  · cases e : (callEnvC fd L f).cells.lookup x with
    | none => rfl
    | some k =>
      rcases cellsFrom_kind _ _ _ ho'.nd (by simp) e with q | q
      · rw [hx] at q; cases q
      · simp at q
end
end

section
open PySem PySem.W PyProof.Rows PySem.Calls
section
noncomputable def without (h : Heap) (T : Addr) : Heap := h.update T fun o => { o with data := .freed }
theorem without_self (h : Heap) (T : Addr) : (without h T).get? T = none := by
  cases e : (without h T).get? T with
  | none => rfl
  | some o =>
    exfalso
    obtain ⟨h1, h2⟩ := Heap.get?_some_iff.mp e
    cases h with
    | mk objs life =>
      simp only [without, Heap.update, Array.getElem?_modify, if_true] at h1
      cases e2 : objs[T]? with
      | none => rw [e2] at h1; cases h1
      | some o' => rw [e2] at h1; cases h1; exact absurd h2 (by simp [Obj.isFreed])
theorem without_ne (h : Heap) {T b : Addr} (hb : b ≠ T) : (without h T).get? b = h.get? b := Heap.get?_update_other _ _ (Ne.symm hb)
theorem without_keep {h : Heap} {T : Addr} (b : Addr) (o : Obj) (e : (without h T).get? b = some o) : h.get? b = some o := by
  by_cases hb : b = T
  · subst hb; rw [without_self] at e; cases e
  · rwa [without_ne h hb] at e
theorem without_in {K : Frag} {h : Heap} {T : Addr} (X : K.In h) (hT : K.lookup T = none) : K.In (without h T) := fun b o e => by
  have hb : b ≠ T := fun z => by subst z; rw [hT] at e; cases e
  rw [without_ne h hb]; exact X b o e
theorem ints_vrs {p : Addr → Prop} (h : Heap) : ∀ {vs : List Value} {l : List Int}, IntsAre vs l → VRs p h (l.map .int) vs
  | _, _, .nil => .nil
  | _, _, .cons n t hs => .cons (.int n t) (ints_vrs h hs)
theorem lawEnd {prog : Program} {w : World} {s₁ : Shared} {K : Frag} {T cc f D : Addr} {p : Program} {loose : List Str} {mean : ExcName → Option Value} {mg mb : Str → Option Value} {vs : List Value} {l : List Int}
    (KX : K.In s₁.heap) (hT : s₁.heap.get? T = some (tabObj #[])) (hKT : K.lookup T = none) (hcd : codeHdIn K cc T = true) (TP : Top p loose mean mg mb s₁.heap) (hT3 : mainGlobals ≠ T) (hTb : builtinsNs ≠ T) (hTc : cStatics ≠ T)
    (hD : s₁.heap.IsList D vs.toArray) (hi : IntsAre vs l)
    (hlaw : ∀ c : Cx, c.prog = prog → c.w = w → (∀ b, ¬ c.P b) → Good c K → NewFn c T → CodeHd c.B cc T → ∀ H, H T = some (.raw (tabObj #[])) → ∀ Q : AV → (Addr → Option AO) → Prop,
      (∀ H' o TT more, o = tabObj (#[] ++ more) → (H' T = some (.raw o) ∨ H' T = some (.ghost o TT)) → Q (.bool true) H') → ListAt c ⟨H, []⟩ D (l.map .int) → CallT c 40 H (.ref f) [.obj (.ref D)] Q) :
    wpAny (model prog w) callerA (call (.ref f) [.ref D]) (fun v s' => v = .bool true ∧ OldK s₁.heap s'.heap ∧ s'.os = s₁.os ∧ s'.gens = s₁.gens) Fls s₁ := by
  have CH : CodeHd s₁.heap cc T := codeHd_of_K KX hcd
  have BX := without_in KX hKT
  have hDT : D ≠ T := fun z => by
    subst z
    obtain ⟨o, e, hc, _⟩ := hD
    rw [hT] at e; cases e; cases hc
  have k (b : Addr) (hb : b ≠ T) : ∀ o, s₁.heap.get? b = some o → (without s₁.heap T).get? b = some o := fun o e => (without_ne _ hb).trans e
  let H : Addr → Option AO := fun b => if b = T then some (.raw (tabObj #[])) else none
  have hHT : H T = some (.raw (tabObj #[])) := if_pos rfl
  have hHn : ∀ b, b ≠ T → H b = none := fun b hb => if_neg hb
  let c : Cx := ⟨fun _ => False, prog, w, without s₁.heap T⟩
  have hall := TP.bmain
  have TT : TopRead p loose mg mb c.B := ⟨TP.g.at (k _ hT3), TP.b.at (k _ hTb), TP.nolimit.at (k _ hTc), TP.builtins, TP.free⟩
  have hNF : NewFn c T := by
    refine ⟨⟨mg, TT.g, ?_⟩, hT3⟩
    obtain ⟨bm, ob, b1, b2, b3, b4, b5, b6⟩ := TP.bmain
    have hbT : bm ≠ T := fun z => by subst z; rw [hT] at b3; cases b3; cases b4
    refine ⟨bm, ob, b1, b2, fun z => ?_, hbT, k _ hbT _ b3, b4, b5, b6⟩
    subst z
    obtain ⟨o, es, ep, e, hd, _⟩ := TP.g
    rw [b3] at e; cases e
    rw [b6] at hd; cases hd
  have hCB : CodeHd c.B cc T := codeHd_of_K BX hcd
  have hLD : ListAt c ⟨H, []⟩ D (l.map .int) := by
    refine .inr ⟨vs.toArray, ?_, fun h => ?_⟩
    · obtain ⟨o, e, r⟩ := hD
      exact ⟨o, k _ hDT _ e, r⟩
    · exact ints_vrs h hi
  have R : RelB c H s₁ := by
    refine ⟨without_keep, fun a o e => ?_, fun a o e => ?_, fun b q => q.elim, fun a o TT e => ?_⟩
    · by_cases ha : a = T
      · subst ha; rw [hHT] at e; cases e; exact ⟨hT, not_imm_tab⟩
      · rw [hHn a ha] at e; cases e
    · by_cases ha : a = T
      · subst ha; exact without_self _ _
      · rw [hHn a ha] at e; cases e
    · by_cases ha : a = T
      · subst ha; rw [hHT] at e; cases e
      · rw [hHn a ha] at e; cases e
  refine wpAny_mono (hlaw c rfl rfl (fun _ q => q) ⟨BX, ⟨_, _, _, _, TT⟩⟩ hNF hCB H hHT (fun a H' => a = .bool true ∧ ∃ o more, o = tabObj (#[] ++ more) ∧ (H' T = some (.raw o) ∨ ∃ TT, H' T = some (.ghost o TT)))
    (fun H' o TT more e q => ⟨rfl, o, more, e, q.elim .inl fun q => .inr ⟨_, q⟩⟩) hLD callerA ⟨rfl, by decide, by decide⟩ s₁ R [.ref D] (.cons (.obj _) .nil)) (fun v s' P => ?_) fun _ _ e => e
  obtain ⟨a, H', hv, R', hk, hl, hg, hos, rfl, o, more, ho, hO⟩ := P
  have ho' : s'.heap.get? T = some o := by
    rcases hO with q | ⟨TT, q⟩
    · exact (R'.own _ _ q).1
    · exact (R'.own _ _ q).1
  subst ho
  cases hv
  refine ⟨rfl, ⟨fun b o e => ?_, hl⟩, hos, hg⟩
  by_cases hb : b = T
  · subst hb
    rw [hT] at e; cases e
    refine .inr (.inl ⟨?_, rfl, #[], more, rfl, ho'⟩)
    obtain ⟨o, vs', _, _, _, _, _, _, _, e1, e2, e3, e4, _⟩ := CH
    exact ⟨cc, o, vs', e1, e2, e3, e4⟩
  · exact .inl (hk b o e (hHn b hb))
end
end

section
set_option maxHeartbeats 8000000
open PySem PySem.W PyProof.Rows PySem.Calls
noncomputable abbrev sv (x : String) (n : Nat) : Value := .str (Str.ofString x) n
noncomputable abbrev iv (n : Int) : Value := .int n 0
noncomputable abbrev rv (n : Nat) : Value := .ref n
noncomputable abbrev ev (P : Params) (x : String) (n : Nat) (v : Value) : DictEntry := ⟨PyData.keyHash P (Str.ofString x), .str (Str.ofString x) n, v⟩
noncomputable def sAt : List Stmt → Nat → Stmt
  | [], _ => .Pass ⟨0, 0, 0, 0⟩
  | s :: _, 0 => s
  | _ :: r, n + 1 => sAt r n
noncomputable def inCls : Stmt → List Stmt
  | .ClassDef _ _ _ b _ _ _ _ _ _ _ => b
  | _ => []
structure FnAst (s : Stmt) where
  nm : Str
  prm : Arguments
  bdy : List Stmt
  dec : List Expr
  ret : Option Expr
  typ : List TypeParam
  scp : Scope
  tsc : Option Scope
  bnd : Str
  at_ : Pos
  eq : s = .FunctionDef nm prm bdy dec ret typ scp tsc bnd at_
noncomputable abbrev d21 : FnAst (sAt PySem.Challenge.pw_sc0095_01.main.body 0) := ⟨_, _, _, _, _, _, _, _, _, _, rfl⟩
noncomputable abbrev d30 : FnAst (sAt PySem.Challenge.pw_sc0095_01.main.body 2) := ⟨_, _, _, _, _, _, _, _, _, _, rfl⟩
noncomputable abbrev d39 : FnAst (sAt PySem.Challenge.pw_sc0095_01.main.body 3) := ⟨_, _, _, _, _, _, _, _, _, _, rfl⟩
noncomputable abbrev d48 : FnAst (sAt PySem.Challenge.pw_sc0095_01.main.body 4) := ⟨_, _, _, _, _, _, _, _, _, _, rfl⟩
noncomputable abbrev d55 : FnAst (sAt PySem.Challenge.pw_sc0095_01.main.body 6) := ⟨_, _, _, _, _, _, _, _, _, _, rfl⟩
noncomputable abbrev d62 : FnAst (sAt PySem.Challenge.pw_sc0095_01.main.body 7) := ⟨_, _, _, _, _, _, _, _, _, _, rfl⟩
noncomputable abbrev d76 : FnAst (sAt (inCls (sAt PySem.Challenge.pw_sc0095_01.main.body 9)) 0) := ⟨_, _, _, _, _, _, _, _, _, _, rfl⟩
noncomputable abbrev d83 : FnAst (sAt (inCls (sAt PySem.Challenge.pw_sc0095_01.main.body 9)) 1) := ⟨_, _, _, _, _, _, _, _, _, _, rfl⟩
noncomputable abbrev d90 : FnAst (sAt (inCls (sAt PySem.Challenge.pw_sc0095_01.main.body 9)) 2) := ⟨_, _, _, _, _, _, _, _, _, _, rfl⟩
noncomputable abbrev d97 : FnAst (sAt (inCls (sAt PySem.Challenge.pw_sc0095_01.main.body 9)) 3) := ⟨_, _, _, _, _, _, _, _, _, _, rfl⟩
noncomputable abbrev d121 : FnAst (sAt (inCls (sAt PySem.Challenge.pw_sc0095_01.main.body 11)) 1) := ⟨_, _, _, _, _, _, _, _, _, _, rfl⟩
noncomputable abbrev d128 : FnAst (sAt (inCls (sAt PySem.Challenge.pw_sc0095_01.main.body 11)) 2) := ⟨_, _, _, _, _, _, _, _, _, _, rfl⟩
noncomputable abbrev d135 : FnAst (sAt (inCls (sAt PySem.Challenge.pw_sc0095_01.main.body 11)) 3) := ⟨_, _, _, _, _, _, _, _, _, _, rfl⟩
noncomputable abbrev d142 : FnAst (sAt (inCls (sAt PySem.Challenge.pw_sc0095_01.main.body 11)) 4) := ⟨_, _, _, _, _, _, _, _, _, _, rfl⟩
noncomputable abbrev d149 : FnAst (sAt (inCls (sAt PySem.Challenge.pw_sc0095_01.main.body 11)) 5) := ⟨_, _, _, _, _, _, _, _, _, _, rfl⟩
noncomputable abbrev d156 : FnAst (sAt (inCls (sAt PySem.Challenge.pw_sc0095_01.main.body 11)) 6) := ⟨_, _, _, _, _, _, _, _, _, _, rfl⟩
noncomputable abbrev d163 : FnAst (sAt (inCls (sAt PySem.Challenge.pw_sc0095_01.main.body 11)) 7) := ⟨_, _, _, _, _, _, _, _, _, _, rfl⟩
noncomputable abbrev d175 : FnAst (sAt PySem.Challenge.pw_sc0095_01.main.body 13) := ⟨_, _, _, _, _, _, _, _, _, _, rfl⟩
noncomputable abbrev d182 : FnAst (sAt PySem.Challenge.pw_sc0095_01.main.body 14) := ⟨_, _, _, _, _, _, _, _, _, _, rfl⟩
noncomputable abbrev d187 : FnAst (sAt PySem.Challenge.pw_sc0095_01.main.body 15) := ⟨_, _, _, _, _, _, _, _, _, _, rfl⟩
noncomputable abbrev d192 : FnAst (sAt PySem.Challenge.pw_sc0095_01.main.body 16) := ⟨_, _, _, _, _, _, _, _, _, _, rfl⟩
noncomputable abbrev d199 : FnAst (sAt PySem.Challenge.pw_sc0095_01.main.body 17) := ⟨_, _, _, _, _, _, _, _, _, _, rfl⟩
noncomputable abbrev d206 : FnAst (sAt PySem.Challenge.pw_sc0095_01.main.body 18) := ⟨_, _, _, _, _, _, _, _, _, _, rfl⟩
noncomputable abbrev d213 : FnAst (sAt PySem.Challenge.pw_sc0095_01.main.body 19) := ⟨_, _, _, _, _, _, _, _, _, _, rfl⟩
noncomputable abbrev d220 : FnAst (sAt PySem.Challenge.pw_sc0095_01.main.body 20) := ⟨_, _, _, _, _, _, _, _, _, _, rfl⟩
noncomputable abbrev d225 : FnAst (sAt PySem.Challenge.pw_sc0095_01.main.body 21) := ⟨_, _, _, _, _, _, _, _, _, _, rfl⟩
noncomputable abbrev d232 : FnAst (sAt PySem.Challenge.pw_sc0095_01.main.body 22) := ⟨_, _, _, _, _, _, _, _, _, _, rfl⟩
noncomputable abbrev d237 : FnAst (sAt PySem.Challenge.pw_sc0095_01.main.body 23) := ⟨_, _, _, _, _, _, _, _, _, _, rfl⟩
noncomputable def kS : { K : Params → Frag // K = fun P => [
  (2, { cls := Value.none, data := Data.dict #[] }),
  (3, { cls := Value.type "dict", data := Data.dict #[ev P "__name__" 165 (sv "law_sc0095_01" 433), ev P "__doc__" 166 (Value.none), ev P "__package__" 167 (Value.none), ev P "__loader__" 168 (Value.builtin "__main__.__loader__#opaque"), ev P "__spec__" 169 (Value.none), ev P "__annotations__" 170 (rv 6), ev P "__builtins__" 171 (rv 4), ev P "__file__" 173 (sv "/claim/cut.py" 172), ev P "__cached__" 174 (Value.none), ev P "_wall" 193 (rv 21), ev P "insort_right" 208 (rv 30), ev P "bisect_right" 222 (rv 39), ev P "bisect_left" 236 (rv 48), ev P "rgb_to_hsv" 256 (rv 55), ev P "hsv_to_rgb" 270 (rv 62), ev P "_netrclex" 330 (rv 100), ev P "Whitespace" 432 (rv 166), ev P "_law_numbers" 440 (rv 175), ev P "_law_words" 452 (rv 182), ev P "_law_text" 458 (rv 187), ev P "_law_lexer" 464 (rv 192), ev P "_law_light" 472 (rv 199), ev P "_law_hue" 479 (rv 206), ev P "_law_name" 486 (rv 213), ev P "_law_table" 504 (rv 220), ev P "_law_is_taken" 510 (rv 225), ev P "_law_due" 525 (rv 232), ev P "law" 531 (rv 237)] 28 }),
  (20, { cls := Value.type "code", data := Data.fields #[sv "_wall" 187, sv "_wall" 188, sv "/claim/cut.py" 189, iv 1, iv 1, iv 0, iv 0, iv 3, rv 15, Value.bool true, iv 181, rv 16, Value.none, rv 17, rv 18, rv 19, iv 191, iv 1, sv "/claim/cut.py" 192] }),
  (21, { cls := Value.type "function", data := Data.func { name := Str.ofString "_wall", qualname := Str.ofString "_wall", params := d21.prm, body := FuncBody.stmts d21.bdy, scope := d21.scp, globals := 3, closure := [], defaults := Value.none, kwdefaults := Value.none, pyModule := sv "__main__" 164, code := rv 20 } }),
  (22, { cls := Value.type "tuple", data := Data.seq #[Value.int 0 196, Value.none] }),
  (23, { cls := Value.type "dict", data := Data.dict #[ev P "key" 197 (Value.none)] 1 }),
  (29, { cls := Value.type "code", data := Data.fields #[sv "insort_right" 198, sv "insort_right" 199, sv "/claim/cut.py" 200, iv 5, iv 4, iv 0, iv 1, iv 3, rv 24, Value.bool true, iv 181, rv 25, Value.none, rv 26, rv 27, rv 28, iv 206, iv 5, sv "/claim/cut.py" 207] }),
  (30, { cls := Value.type "function", data := Data.func { name := Str.ofString "insort_right", qualname := Str.ofString "insort_right", params := d30.prm, body := FuncBody.stmts d30.bdy, scope := d30.scp, globals := 3, closure := [], defaults := rv 22, kwdefaults := rv 23, pyModule := sv "cpy313.bisect" 194, code := rv 29 } }),
  (31, { cls := Value.type "tuple", data := Data.seq #[Value.int 0 209, Value.none] }),
  (32, { cls := Value.type "dict", data := Data.dict #[ev P "key" 210 (Value.none)] 1 }),
  (38, { cls := Value.type "code", data := Data.fields #[sv "bisect_right" 211, sv "bisect_right" 212, sv "/claim/cut.py" 213, iv 11, iv 4, iv 0, iv 1, iv 3, rv 33, Value.bool true, iv 181, rv 34, Value.none, rv 35, rv 36, rv 37, iv 220, iv 11, sv "/claim/cut.py" 221] }),
  (39, { cls := Value.type "function", data := Data.func { name := Str.ofString "bisect_right", qualname := Str.ofString "bisect_right", params := d39.prm, body := FuncBody.stmts d39.bdy, scope := d39.scp, globals := 3, closure := [], defaults := rv 31, kwdefaults := rv 32, pyModule := sv "cpy313.bisect" 194, code := rv 38 } }),
  (40, { cls := Value.type "tuple", data := Data.seq #[Value.int 0 223, Value.none] }),
  (41, { cls := Value.type "dict", data := Data.dict #[ev P "key" 224 (Value.none)] 1 }),
  (47, { cls := Value.type "code", data := Data.fields #[sv "bisect_left" 225, sv "bisect_left" 226, sv "/claim/cut.py" 227, iv 31, iv 4, iv 0, iv 1, iv 3, rv 42, Value.bool true, iv 181, rv 43, Value.none, rv 44, rv 45, rv 46, iv 234, iv 31, sv "/claim/cut.py" 235] }),
  (48, { cls := Value.type "function", data := Data.func { name := Str.ofString "bisect_left", qualname := Str.ofString "bisect_left", params := d48.prm, body := FuncBody.stmts d48.bdy, scope := d48.scp, globals := 3, closure := [], defaults := rv 40, kwdefaults := rv 41, pyModule := sv "cpy313.bisect" 194, code := rv 47 } }),
  (54, { cls := Value.type "code", data := Data.fields #[sv "rgb_to_hsv" 239, sv "rgb_to_hsv" 240, sv "/claim/cut.py" 241, iv 52, iv 3, iv 0, iv 0, iv 3, rv 49, Value.bool true, iv 181, rv 50, Value.none, rv 51, rv 52, rv 53, iv 254, iv 52, sv "/claim/cut.py" 255] }),
  (55, { cls := Value.type "function", data := Data.func { name := Str.ofString "rgb_to_hsv", qualname := Str.ofString "rgb_to_hsv", params := d55.prm, body := FuncBody.stmts d55.bdy, scope := d55.scp, globals := 3, closure := [], defaults := Value.none, kwdefaults := Value.none, pyModule := sv "cpy313.colorsys" 237, code := rv 54 } }),
  (61, { cls := Value.type "code", data := Data.fields #[sv "hsv_to_rgb" 257, sv "hsv_to_rgb" 258, sv "/claim/cut.py" 259, iv 71, iv 3, iv 0, iv 0, iv 3, rv 56, Value.bool true, iv 181, rv 57, Value.none, rv 58, rv 59, rv 60, iv 268, iv 71, sv "/claim/cut.py" 269] }),
  (62, { cls := Value.type "function", data := Data.func { name := Str.ofString "hsv_to_rgb", qualname := Str.ofString "hsv_to_rgb", params := d62.prm, body := FuncBody.stmts d62.bdy, scope := d62.scp, globals := 3, closure := [], defaults := Value.none, kwdefaults := Value.none, pyModule := sv "cpy313.colorsys" 237, code := rv 61 } }),
  (75, { cls := Value.type "code", data := Data.fields #[sv "__init__" 285, sv "_netrclex.__init__" 286, sv "/claim/cut.py" 287, iv 95, iv 2, iv 0, iv 0, iv 3, rv 70, Value.bool true, iv 181, rv 71, Value.none, rv 72, rv 73, rv 74, iv 290, iv 95, sv "/claim/cut.py" 291] }),
  (76, { cls := Value.type "function", data := Data.func { name := Str.ofString "__init__", qualname := Str.ofString "_netrclex.__init__", params := d76.prm, body := FuncBody.stmts d76.bdy, scope := d76.scp, globals := 3, closure := [], defaults := Value.none, kwdefaults := Value.none, pyModule := sv "cpy313.netrc" 271, code := rv 75 } }),
  (82, { cls := Value.type "code", data := Data.fields #[sv "_read_char" 293, sv "_netrclex._read_char" 294, sv "/claim/cut.py" 295, iv 101, iv 1, iv 0, iv 0, iv 3, rv 77, Value.bool true, iv 181, rv 78, Value.none, rv 79, rv 80, rv 81, iv 298, iv 101, sv "/claim/cut.py" 299] }),
  (83, { cls := Value.type "function", data := Data.func { name := Str.ofString "_read_char", qualname := Str.ofString "_netrclex._read_char", params := d83.prm, body := FuncBody.stmts d83.bdy, scope := d83.scp, globals := 3, closure := [], defaults := Value.none, kwdefaults := Value.none, pyModule := sv "cpy313.netrc" 271, code := rv 82 } }),
  (89, { cls := Value.type "code", data := Data.fields #[sv "get_token" 301, sv "_netrclex.get_token" 302, sv "/claim/cut.py" 303, iv 107, iv 1, iv 0, iv 0, iv 3, rv 84, Value.bool true, iv 181, rv 85, Value.none, rv 86, rv 87, rv 88, iv 308, iv 107, sv "/claim/cut.py" 309] }),
  (90, { cls := Value.type "function", data := Data.func { name := Str.ofString "get_token", qualname := Str.ofString "_netrclex.get_token", params := d90.prm, body := FuncBody.stmts d90.bdy, scope := d90.scp, globals := 3, closure := [], defaults := Value.none, kwdefaults := Value.none, pyModule := sv "cpy313.netrc" 271, code := rv 89 } }),
  (96, { cls := Value.type "code", data := Data.fields #[sv "push_token" 311, sv "_netrclex.push_token" 312, sv "/claim/cut.py" 313, iv 134, iv 2, iv 0, iv 0, iv 3, rv 91, Value.bool true, iv 181, rv 92, Value.none, rv 93, rv 94, rv 95, iv 316, iv 134, sv "/claim/cut.py" 317] }),
  (97, { cls := Value.type "function", data := Data.func { name := Str.ofString "push_token", qualname := Str.ofString "_netrclex.push_token", params := d97.prm, body := FuncBody.stmts d97.bdy, scope := d97.scp, globals := 3, closure := [], defaults := Value.none, kwdefaults := Value.none, pyModule := sv "cpy313.netrc" 271, code := rv 96 } }),
  (99, { cls := Value.type "dict", data := Data.dict #[ev P "__module__" 280 (sv "cpy313.netrc" 271), ev P "__firstlineno__" 284 (Value.int 93 283), ev P "__init__" 292 (rv 76), ev P "_read_char" 300 (rv 83), ev P "get_token" 310 (rv 90), ev P "push_token" 318 (rv 97), ev P "__static_attributes__" 323 (rv 98), ev P "__dict__" 325 (rv 101), ev P "__weakref__" 327 (rv 102), ev P "__doc__" 328 (Value.none)] 4 }),
  (100, { cls := Value.type "type", data := Data.cls { name := Str.ofString "_netrclex", bases := [Value.type "object"], mro := [rv 100, Value.type "object"], ns := 99, qualname := Str.ofString "_netrclex" }, slots := #[none, none, some (sv "_netrclex" 273), some (sv "_netrclex" 281), some (Value.builtin "object.__new__"), some (Value.bool true)] }),
  (120, { cls := Value.type "code", data := Data.fields #[sv "__init__" 350, sv "Whitespace.__init__" 351, sv "/claim/cut.py" 352, iv 140, iv 2, iv 0, iv 0, iv 3, rv 115, Value.bool true, iv 181, rv 116, Value.none, rv 117, rv 118, rv 119, iv 362, iv 140, sv "/claim/cut.py" 363] }),
  (121, { cls := Value.type "function", data := Data.func { name := Str.ofString "__init__", qualname := Str.ofString "Whitespace.__init__", params := d121.prm, body := FuncBody.stmts d121.bdy, scope := d121.scp, globals := 3, closure := [], defaults := Value.none, kwdefaults := Value.none, pyModule := sv "cpy313.tabnanny" 331, code := rv 120 } }),
  (127, { cls := Value.type "code", data := Data.fields #[sv "longest_run_of_spaces" 365, sv "Whitespace.longest_run_of_spaces" 366, sv "/claim/cut.py" 367, iv 163, iv 1, iv 0, iv 0, iv 3, rv 122, Value.bool true, iv 181, rv 123, Value.none, rv 124, rv 125, rv 126, iv 371, iv 163, sv "/claim/cut.py" 372] }),
  (128, { cls := Value.type "function", data := Data.func { name := Str.ofString "longest_run_of_spaces", qualname := Str.ofString "Whitespace.longest_run_of_spaces", params := d128.prm, body := FuncBody.stmts d128.bdy, scope := d128.scp, globals := 3, closure := [], defaults := Value.none, kwdefaults := Value.none, pyModule := sv "cpy313.tabnanny" 331, code := rv 127 } }),
  (134, { cls := Value.type "code", data := Data.fields #[sv "indent_level" 374, sv "Whitespace.indent_level" 375, sv "/claim/cut.py" 376, iv 167, iv 2, iv 0, iv 0, iv 3, rv 129, Value.bool true, iv 181, rv 130, Value.none, rv 131, rv 132, rv 133, iv 383, iv 167, sv "/claim/cut.py" 384] }),
  (135, { cls := Value.type "function", data := Data.func { name := Str.ofString "indent_level", qualname := Str.ofString "Whitespace.indent_level", params := d135.prm, body := FuncBody.stmts d135.bdy, scope := d135.scp, globals := 3, closure := [], defaults := Value.none, kwdefaults := Value.none, pyModule := sv "cpy313.tabnanny" 331, code := rv 134 } }),
  (141, { cls := Value.type "code", data := Data.fields #[sv "equal" 386, sv "Whitespace.equal" 387, sv "/claim/cut.py" 388, iv 174, iv 2, iv 0, iv 0, iv 3, rv 136, Value.bool true, iv 181, rv 137, Value.none, rv 138, rv 139, rv 140, iv 391, iv 174, sv "/claim/cut.py" 392] }),
  (142, { cls := Value.type "function", data := Data.func { name := Str.ofString "equal", qualname := Str.ofString "Whitespace.equal", params := d142.prm, body := FuncBody.stmts d142.bdy, scope := d142.scp, globals := 3, closure := [], defaults := Value.none, kwdefaults := Value.none, pyModule := sv "cpy313.tabnanny" 331, code := rv 141 } }),
  (148, { cls := Value.type "code", data := Data.fields #[sv "not_equal_witness" 394, sv "Whitespace.not_equal_witness" 395, sv "/claim/cut.py" 396, iv 177, iv 2, iv 0, iv 0, iv 3, rv 143, Value.bool true, iv 181, rv 144, Value.none, rv 145, rv 146, rv 147, iv 399, iv 177, sv "/claim/cut.py" 400] }),
  (149, { cls := Value.type "function", data := Data.func { name := Str.ofString "not_equal_witness", qualname := Str.ofString "Whitespace.not_equal_witness", params := d149.prm, body := FuncBody.stmts d149.bdy, scope := d149.scp, globals := 3, closure := [], defaults := Value.none, kwdefaults := Value.none, pyModule := sv "cpy313.tabnanny" 331, code := rv 148 } }),
  (155, { cls := Value.type "code", data := Data.fields #[sv "less" 402, sv "Whitespace.less" 403, sv "/claim/cut.py" 404, iv 180, iv 2, iv 0, iv 0, iv 3, rv 150, Value.bool true, iv 181, rv 151, Value.none, rv 152, rv 153, rv 154, iv 409, iv 180, sv "/claim/cut.py" 410] }),
  (156, { cls := Value.type "function", data := Data.func { name := Str.ofString "less", qualname := Str.ofString "Whitespace.less", params := d156.prm, body := FuncBody.stmts d156.bdy, scope := d156.scp, globals := 3, closure := [], defaults := Value.none, kwdefaults := Value.none, pyModule := sv "cpy313.tabnanny" 331, code := rv 155 } }),
  (162, { cls := Value.type "code", data := Data.fields #[sv "not_less_witness" 412, sv "Whitespace.not_less_witness" 413, sv "/claim/cut.py" 414, iv 191, iv 2, iv 0, iv 0, iv 3, rv 157, Value.bool true, iv 181, rv 158, Value.none, rv 159, rv 160, rv 161, iv 417, iv 191, sv "/claim/cut.py" 418] }),
  (163, { cls := Value.type "function", data := Data.func { name := Str.ofString "not_less_witness", qualname := Str.ofString "Whitespace.not_less_witness", params := d163.prm, body := FuncBody.stmts d163.bdy, scope := d163.scp, globals := 3, closure := [], defaults := Value.none, kwdefaults := Value.none, pyModule := sv "cpy313.tabnanny" 331, code := rv 162 } }),
  (165, { cls := Value.type "dict", data := Data.dict #[ev P "__module__" 340 (sv "cpy313.tabnanny" 331), ev P "__firstlineno__" 344 (Value.int 137 343), ev P "S" 348 (sv " " 346), ev P "T" 349 (sv "\t" 347), ev P "__init__" 364 (rv 121), ev P "longest_run_of_spaces" 373 (rv 128), ev P "indent_level" 385 (rv 135), ev P "equal" 393 (rv 142), ev P "not_equal_witness" 401 (rv 149), ev P "less" 411 (rv 156), ev P "not_less_witness" 419 (rv 163), ev P "__static_attributes__" 425 (rv 164), ev P "__dict__" 427 (rv 167), ev P "__weakref__" 429 (rv 168), ev P "__doc__" 430 (Value.none)] 4 }),
  (166, { cls := Value.type "type", data := Data.cls { name := Str.ofString "Whitespace", bases := [Value.type "object"], mro := [rv 166, Value.type "object"], ns := 165, qualname := Str.ofString "Whitespace" }, slots := #[none, none, some (sv "Whitespace" 333), some (sv "Whitespace" 341), some (Value.builtin "object.__new__"), some (Value.bool true)] }),
  (174, { cls := Value.type "code", data := Data.fields #[sv "_law_numbers" 435, sv "_law_numbers" 436, sv "/claim/cut.py" 437, iv 194, iv 1, iv 0, iv 0, iv 3, rv 171, Value.bool true, iv 181, rv 172, Value.none, Value.none, Value.none, rv 173, iv 438, iv 194, sv "/claim/cut.py" 439] }),
  (175, { cls := Value.type "function", data := Data.func { name := Str.ofString "_law_numbers", qualname := Str.ofString "_law_numbers", params := d175.prm, body := FuncBody.stmts d175.bdy, scope := d175.scp, globals := 3, closure := [], defaults := Value.none, kwdefaults := Value.none, pyModule := sv "law_sc0095_01" 433, code := rv 174 } }),
  (181, { cls := Value.type "code", data := Data.fields #[sv "_law_words" 441, sv "_law_words" 442, sv "/claim/cut.py" 443, iv 198, iv 1, iv 0, iv 0, iv 3, rv 176, Value.bool true, iv 181, rv 177, Value.none, rv 178, rv 179, rv 180, iv 450, iv 198, sv "/claim/cut.py" 451] }),
  (182, { cls := Value.type "function", data := Data.func { name := Str.ofString "_law_words", qualname := Str.ofString "_law_words", params := d182.prm, body := FuncBody.stmts d182.bdy, scope := d182.scp, globals := 3, closure := [], defaults := Value.none, kwdefaults := Value.none, pyModule := sv "law_sc0095_01" 433, code := rv 181 } }),
  (186, { cls := Value.type "code", data := Data.fields #[sv "_law_text" 453, sv "_law_text" 454, sv "/claim/cut.py" 455, iv 206, iv 2, iv 0, iv 0, iv 3, rv 183, Value.bool true, iv 181, rv 184, Value.none, Value.none, Value.none, rv 185, iv 456, iv 206, sv "/claim/cut.py" 457] }),
  (187, { cls := Value.type "function", data := Data.func { name := Str.ofString "_law_text", qualname := Str.ofString "_law_text", params := d187.prm, body := FuncBody.stmts d187.bdy, scope := d187.scp, globals := 3, closure := [], defaults := Value.none, kwdefaults := Value.none, pyModule := sv "law_sc0095_01" 433, code := rv 186 } }),
  (191, { cls := Value.type "code", data := Data.fields #[sv "_law_lexer" 459, sv "_law_lexer" 460, sv "/claim/cut.py" 461, iv 215, iv 1, iv 0, iv 0, iv 3, rv 188, Value.bool true, iv 181, rv 189, Value.none, Value.none, Value.none, rv 190, iv 462, iv 215, sv "/claim/cut.py" 463] }),
  (192, { cls := Value.type "function", data := Data.func { name := Str.ofString "_law_lexer", qualname := Str.ofString "_law_lexer", params := d192.prm, body := FuncBody.stmts d192.bdy, scope := d192.scp, globals := 3, closure := [], defaults := Value.none, kwdefaults := Value.none, pyModule := sv "law_sc0095_01" 433, code := rv 191 } }),
  (198, { cls := Value.type "code", data := Data.fields #[sv "_law_light" 465, sv "_law_light" 466, sv "/claim/cut.py" 467, iv 220, iv 1, iv 0, iv 0, iv 3, rv 193, Value.bool true, iv 181, rv 194, Value.none, rv 195, rv 196, rv 197, iv 470, iv 220, sv "/claim/cut.py" 471] }),
  (199, { cls := Value.type "function", data := Data.func { name := Str.ofString "_law_light", qualname := Str.ofString "_law_light", params := d199.prm, body := FuncBody.stmts d199.bdy, scope := d199.scp, globals := 3, closure := [], defaults := Value.none, kwdefaults := Value.none, pyModule := sv "law_sc0095_01" 433, code := rv 198 } }),
  (205, { cls := Value.type "code", data := Data.fields #[sv "_law_hue" 473, sv "_law_hue" 474, sv "/claim/cut.py" 475, iv 223, iv 1, iv 0, iv 0, iv 3, rv 200, Value.bool true, iv 181, rv 201, Value.none, rv 202, rv 203, rv 204, iv 477, iv 223, sv "/claim/cut.py" 478] }),
  (206, { cls := Value.type "function", data := Data.func { name := Str.ofString "_law_hue", qualname := Str.ofString "_law_hue", params := d206.prm, body := FuncBody.stmts d206.bdy, scope := d206.scp, globals := 3, closure := [], defaults := Value.none, kwdefaults := Value.none, pyModule := sv "law_sc0095_01" 433, code := rv 205 } }),
  (212, { cls := Value.type "code", data := Data.fields #[sv "_law_name" 480, sv "_law_name" 481, sv "/claim/cut.py" 482, iv 225, iv 1, iv 0, iv 0, iv 3, rv 207, Value.bool true, iv 181, rv 208, Value.none, rv 209, rv 210, rv 211, iv 484, iv 225, sv "/claim/cut.py" 485] }),
  (213, { cls := Value.type "function", data := Data.func { name := Str.ofString "_law_name", qualname := Str.ofString "_law_name", params := d213.prm, body := FuncBody.stmts d213.bdy, scope := d213.scp, globals := 3, closure := [], defaults := Value.none, kwdefaults := Value.none, pyModule := sv "law_sc0095_01" 433, code := rv 212 } }),
  (219, { cls := Value.type "code", data := Data.fields #[sv "_law_table" 487, sv "_law_table" 488, sv "/claim/cut.py" 489, iv 227, iv 2, iv 0, iv 0, iv 3, rv 214, Value.bool true, iv 181, rv 215, Value.none, rv 216, rv 217, rv 218, iv 502, iv 227, sv "/claim/cut.py" 503] }),
  (220, { cls := Value.type "function", data := Data.func { name := Str.ofString "_law_table", qualname := Str.ofString "_law_table", params := d220.prm, body := FuncBody.stmts d220.bdy, scope := d220.scp, globals := 3, closure := [], defaults := Value.none, kwdefaults := Value.none, pyModule := sv "law_sc0095_01" 433, code := rv 219 } }),
  (224, { cls := Value.type "code", data := Data.fields #[sv "_law_is_taken" 505, sv "_law_is_taken" 506, sv "/claim/cut.py" 507, iv 245, iv 2, iv 0, iv 0, iv 3, rv 221, Value.bool true, iv 181, rv 222, Value.none, Value.none, Value.none, rv 223, iv 508, iv 245, sv "/claim/cut.py" 509] }),
  (225, { cls := Value.type "function", data := Data.func { name := Str.ofString "_law_is_taken", qualname := Str.ofString "_law_is_taken", params := d225.prm, body := FuncBody.stmts d225.bdy, scope := d225.scp, globals := 3, closure := [], defaults := Value.none, kwdefaults := Value.none, pyModule := sv "law_sc0095_01" 433, code := rv 224 } }),
  (231, { cls := Value.type "code", data := Data.fields #[sv "_law_due" 511, sv "_law_due" 512, sv "/claim/cut.py" 513, iv 250, iv 2, iv 0, iv 0, iv 3, rv 226, Value.bool true, iv 181, rv 227, Value.none, rv 228, rv 229, rv 230, iv 523, iv 250, sv "/claim/cut.py" 524] }),
  (232, { cls := Value.type "function", data := Data.func { name := Str.ofString "_law_due", qualname := Str.ofString "_law_due", params := d232.prm, body := FuncBody.stmts d232.bdy, scope := d232.scp, globals := 3, closure := [], defaults := Value.none, kwdefaults := Value.none, pyModule := sv "law_sc0095_01" 433, code := rv 231 } }),
  (236, { cls := Value.type "code", data := Data.fields #[sv "law" 526, sv "law" 527, sv "/claim/cut.py" 528, iv 264, iv 1, iv 0, iv 0, iv 3, rv 233, Value.bool true, iv 181, rv 234, Value.none, Value.none, Value.none, rv 235, iv 529, iv 264, sv "/claim/cut.py" 530] }),
  (237, { cls := Value.type "function", data := Data.func { name := Str.ofString "law", qualname := Str.ofString "law", params := d237.prm, body := FuncBody.stmts d237.bdy, scope := d237.scp, globals := 3, closure := [], defaults := Value.none, kwdefaults := Value.none, pyModule := sv "law_sc0095_01" 433, code := rv 236 } })] } := by
  refine ⟨?_, ?_⟩
  rotate_left
  · dsimp only [sv, iv, rv, ev, d21, d30, d39, d48, d55, d62, d76, d83, d90, d97, d121, d128, d135, d142, d149, d156, d163, d175, d182, d187, d192, d199, d206, d213, d220, d225, d232, d237]
    exact rfl
noncomputable abbrev KL : Params → Frag := kS.1
noncomputable def asL : List Addr := [2, 3, 20, 21, 22, 23, 29, 30, 31, 32, 38, 39, 40, 41, 47, 48, 54, 55, 61, 62, 75, 76, 82, 83, 89, 90, 96, 97, 99, 100, 120, 121, 127, 128, 134, 135, 141, 142, 148, 149, 155, 156, 162, 163, 165, 166, 174, 175, 181, 182, 186, 187, 191, 192, 198, 199, 205, 206, 212, 213, 219, 220, 224, 225, 231, 232, 236, 237]
theorem asL_eq : ∀ P, asL = (KL P).map (·.1) := fun P => by kernel_rfl
noncomputable abbrev HH : Hook := kmHook KL asL asL_eq [189]
noncomputable abbrev lsA : List Str := [Str.ofString "insort_right", Str.ofString "bisect_right", Str.ofString "bisect_left", Str.ofString "Whitespace"]
noncomputable def pick (l : List Stmt) (is : List Nat) : List Stmt := is.map (sAt l)
noncomputable def viewA : Program := { PySem.Challenge.pw_sc0095_01 with main := { PySem.Challenge.pw_sc0095_01.main with body := pick PySem.Challenge.pw_sc0095_01.main.body [0, 6, 7, 9, 11, 13, 14, 15, 16, 17, 18, 19, 20, 21, 22, 23] } }
noncomputable abbrev rowA : OpenRow := PySem.Challenge.rw_sc0095_01.row
noncomputable abbrev QQ (w : World) : Prop := (openEnds treeTable rowA.prog w 2958).map (fun s => (openSeen viewA lsA (importedModules rowA.prog.main.body) (fun s => xlAt viewA [] s && recOk (RowW.records rowA.toRowW) s) true s, Hook.obs HH s)) = some (openGood viewA lsA, Hook.val HH w)
theorem topF (w : World) : QQ (w.withFollow "special-get-raises" false) := by kernel_rfl
theorem topT (w : World) : QQ (w.withFollow "special-get-raises" true) := by kernel_rfl
theorem leftA : LeftO rowA.prog viewA lsA (fun s => xlAt viewA [] s && recOk (RowW.records rowA.toRowW) s) (Hook.obs HH) (Hook.val HH) 2958 true := fun w => byRow2 "special-get-raises" (P := QQ) topF topT w
theorem said : PySem.Challenge.rw_sc0095_01.wellSaid = true := by kernel_rfl
theorem kd {d kw} (h : defOf viewA "law" = some (d, kw)) : True := trivial
end

local macro_rules | `(tactic| walk_at "my_lk") => `(tactic| exact rfl)
local macro_rules | `(tactic| walk_at "my_lkN") => `(tactic| exact rfl)
local macro_rules | `(tactic| walk_at "my_nms") => `(tactic| first | exact .nil | exact .cons .nil | exact .cons (.cons .nil) | exact .cons (.cons (.cons .nil)) | exact .cons (.cons (.cons (.cons .nil))) | exact .cons (.cons (.cons (.cons (.cons .nil)))))
local macro_rules | `(tactic| walk_at "my_put") => `(tactic| exact rfl)
local macro_rules | `(tactic| walk_at "my_putx") => `(tactic| first | (with_reducible first | exact putNil | exact putHit) | ((with_reducible refine' putMiss ?aa ?bb); (case aa => simp); (case bb => walk_at "my_putx")))
local macro_rules | `(tactic| walk_at "my_putAll") => `(tactic| exact rfl)
local macro_rules | `(tactic| walk_at "my_lkd") => `(tactic| ((try dsimp only); exact rfl))
local macro_rules | `(tactic| walk_at "my_putd") => `(tactic| ((try dsimp only); exact rfl))
local macro_rules | `(tactic| walk_at "my_def1") => `(tactic| (refine callDef _ (by assumption) rfl rfl ?hp rfl (by dsimp only) (by dsimp only) ?hlo rfl (by dsimp only [List.zip, List.zipWith]) fun env' S => ?_; (case hlo => rfl)))
local macro_rules | `(tactic| walk_at "my_dec") => `(tactic| first | rfl | decide +kernel)
local macro_rules | `(tactic| walk_at "my_dk") => `(tactic| first | assumption | decide +kernel)
local macro_rules | `(tactic| walk_at "my_side") => `(tactic| first | assumption | rfl | (intros; rfl) | decide +kernel)
local macro_rules | `(tactic| walk_at "my_bin") => `(tactic| first
  | (with_reducible first | exact .addI | exact .subI | exact .mulF | exact .addF | exact .subF)
  | (with_reducible first | refine .fdivI ?_ ?_ | refine .modI ?_) <;> (first | decide | omega)
  | (with_reducible refine .addFI ?_) <;> decide
  | (with_reducible first | refine .subFI ?_ | refine .subIF ?_ | refine .divI ?_ ?_ | refine .divF ?_ | refine .modF ?_) <;> walk_at "my_dk")
local macro_rules | `(tactic| walk_at "my_cmp") => `(tactic| with_reducible first | exact .ltI | exact .leI | exact .gtI | exact .geI | exact .eqI | exact .neI | exact .eqS | exact .neS | exact .gtS | exact .inS | exact .eqF | exact .neF | exact .ltF | exact .isN | exact .isNN)
local macro_rules | `(tactic| walk_at "my_attr") => `(tactic| ((with_reducible refine' ⟨_, _, _, _, _, rfl, ?c1, ?c2, ?i, ?l, ?b, ?_⟩); (case i => exact ⟨by assumption, by assumption⟩); (case c1 => rfl); (case c2 => rfl); (case l => walk_at "my_lkd"); (case b => (intro w e; first | (cases e; rfl) | cases e))))
local macro_rules | `(tactic| walk_at "my_at") => `(tactic| with_reducible refine' tAttr (by assumption) ?_ (arm_eval_Attribute _ _ _ _) (fun _ _ => rfl))
local macro_rules | `(tactic| walk_at "my_if") => `(tactic| first | assumption | decide | (simp (config := { decide := true }); done))
local macro_rules | `(tactic| walk_at "my_step") => `(tactic| first
  | (with_reducible first | refine sNil ?_ | refine sCons ?_ | refine sReturn ?_ | refine sBreak ?_ | refine sContinue ?_ | refine tBinOp ?_ | refine bNot ?_ | refine bAnd2 ?_ | refine bOr2 ?_ | refine sIf ?_ | refine tIfExp ?_ | refine tInt ?_ | refine tStr ?_ | refine tNone ?_ | refine tBool ?_ | refine tFloat ?_ | refine tNeg ?_ | refine lNil ?_ | refine kNil ?_ | refine kCons ?_ | refine tTuple ?_ | refine tList ?_ | refine pNone ?_ | refine pSome ?_)
  | focus ((with_reducible first | refine' tCompare ?_ ?_ | refine' bCompare ?_ ?_ | refine' lCons ?_ ?_); rotate_left; rfl)
  | ((with_reducible refine' nVar (by assumption) ?a ?b ?_); (case a => walk_at "my_lkd"); (case b => decide +kernel))
  | ((with_reducible refine sSet' (by assumption) ?a ?b ?_); (case a => decide +kernel); (case b => rfl))
  | ((with_reducible refine' sAug' (by assumption) ?a ?b ?_); (case a => decide +kernel); (case b => walk_at "my_lkd"))
  | ((with_reducible refine' sUnpackN (by assumption) ?nn ?a ?b ?d ?_); (case nn => walk_at "my_nms"); (case a => decide +kernel); (case b => rfl); (case d => rfl))
  | ((with_reducible refine' sSwapped' (by assumption) ?nn ?a ?b ?d ?_); (case nn => walk_at "my_nms"); (case a => decide +kernel); (case b => rfl); (case d => rfl))
  | ((with_reducible refine' sSet3 (by assumption) ?a ?_ ?b); (case a => decide +kernel); (case b => rfl))
  | ((with_reducible refine' ⟨_, _, rfl, ?len, (?pa : putAll _ _ _ = _), ?_⟩); (case len => rfl); (case pa => exact rfl))
  | focus ((with_reducible refine' tSub ?_ ?_ ?_); rotate_left; iterate 2 (intro _ _; rfl))
  | focus ((with_reducible first | refine' tSliceL ?_ ?_ | refine' tSubG ?_ ?_); rotate_left; intro _ _; rfl)
  | ((with_reducible refine' ⟨_, _, _, (?h1 : put _ _ _ = _), (?h2 : put _ _ _ = _), (?h3 : put _ _ _ = _), ?_⟩); (case h1 => walk_at "my_putd"); (case h2 => walk_at "my_putd"); (case h3 => walk_at "my_putd"))
  | ((with_reducible refine' ⟨_, (?h : put _ _ _ = _), ?_⟩); (case h => walk_at "my_putd"))
  | ((with_reducible refine' BinR.ok ?h ?_); (case h => walk_at "my_bin"))
  | ((with_reducible refine' CmpR.ok ?h ?_); (case h => walk_at "my_cmp"))
  | ((with_reducible refine' InpTo.mk _ ?h ?_); (case h => first | exact .addI | (refine .addS ?_; assumption)))
  | ((with_reducible refine ifT ?h ?_); (case h => walk_at "my_if"))
  | ((with_reducible refine ifF ?h ?_); (case h => walk_at "my_if"))
  | focus ((with_reducible refine' tCall ?_ ?_ ?_ ?_); rotate_left; iterate 3 rfl)
  | with_reducible refine tCall0 ?_
  | ((with_reducible refine' nBuilt (by assumption) (by assumption) ?a ?b ?d ?e ?_); (case a => rfl); (case b => rfl); (case d => rfl); (case e => decide))
  | ((with_reducible refine' nGlob (by assumption) (by assumption) ?a ?b ?_); (case a => rfl); (case b => rfl))
  | (with_reducible first | refine FunTo.mk _ rfl KeepB.builtin ?_ | refine FunTo.mk _ rfl KeepB.type ?_)
  | ((with_reducible refine FunTo.mk _ rfl (KeepB.of_K (Good.inK (by assumption)) ?a) ?_); (case a => rfl))
  | focus ((with_reducible first | refine' tLM ?_ PySem.F.slot_list_append ?_ ?_ ?_ ?_ ?_ ?_ | refine' tLM ?_ PySem.F.slot_list_insert ?_ ?_ ?_ ?_ ?_ ?_ | refine' tLM ?_ PySem.F.slot_list_extend ?_ ?_ ?_ ?_ ?_ ?_ | refine' tLM ?_ PySem.F.slot_list_pop ?_ ?_ ?_ ?_ ?_ ?_ | refine' tLM ?_ PySem.F.slot_list_index ?_ ?_ ?_ ?_ ?_ ?_ | refine' tSM ?_ PySem.F.slot_str_find ?_ ?_ ?_ ?_ ?_ ?_ | refine' tSM ?_ PySem.F.slot_str_join ?_ ?_ ?_ ?_ ?_ ?_ | refine' tSM ?_ PySem.F.slot_str_count ?_ ?_ ?_ ?_ ?_ ?_); rotate_left; iterate 6 rfl)
  | focus ((with_reducible refine' tLM0 ?_ PySem.F.slot_list_pop ?_ ?_ ?_ ?_); rotate_left; iterate 4 rfl)
  | ((with_reducible refine' sExpr' ?a ?b ?_); (case a => rfl); (case b => exact notInt (by assumption)))
  | ((with_reducible refine' ⟨_, _, rfl, (?h : _ = some (AO.list _)), ?_⟩); (case h => assumption))
  | (with_reducible first | refine ⟨_, rfl, ?_⟩ | refine ⟨rfl, ?_⟩)
  | ((with_reducible refine' ⟨(?h : _ ≤ 1000000), ?_⟩); (case h => first | decide | assumption | (simp; done) | (simp; omega)))
  | with_reducible refine leftSame ?_)
local macro_rules | `(tactic| walk_at "my_sn") => `(tactic| ((fail_if_success with_reducible first | refine sIf ?_ | refine sCons ?_); walk_at "my_step"))
local macro_rules | `(tactic| walk_at "my_ss") => `(tactic| ((with_reducible refine sCons ?_); (repeat walk_at "my_sn")))


section
set_option maxHeartbeats 1000000
section
variable {c : Cx} {n : Nat} {H : Addr → Option AO} {P : Params}
theorem sp_hue {l : List AV} {a : AV} {Q : AV → (Addr → Option AO) → Prop} (G : Good c (KL P)) (h0 : l[0]? = some a) (hq : Q a H) : CallC c (n + 1) H (.ref 206) [.tup l] [] [] Q := by
  refine callDef [Str.ofString "entry"] G rfl rfl (fun vs hvs => by obtain ⟨v, rfl⟩ := len1 hvs; rfl) rfl (by dsimp only) (by dsimp only) rfl rfl (by dsimp only [List.zip, List.zipWith]) fun env' S => ?_
  repeat walk_at "my_step"
  refine ⟨a, .tup (j := 0) ?_ h0 (by decide) (by decide), leftSame hq⟩
  cases l with
  | nil => cases h0
  | cons _ _ => simp [seqIndex?]
noncomputable abbrev hueF : AV := .obj (.ref 206)
/-- a list of tuples that begin with these floats -/
noncomputable def Hues (l : List AV) (hs : List UInt64) : Prop := l.length = hs.length ∧ ∀ (i : Nat) h, hs[i]? = some h → ∃ r, l[i]? = some (.tup (.float h :: r))
theorem bis_left {D : Addr} {l : List AV} {hs : List UInt64} {x : UInt64} {k : Nat} {Q : AV → (Addr → Option AO) → Prop} (G : Good c (KL P)) (hD : H D = some (.list l)) (hl : Hues l hs) (hlen : l.length < 1000) (hk : k ≤ l.length)
    (h1 : ∀ (i : Nat) h, hs[i]? = some h → i < k → fLt h x = true) (h2 : ∀ (i : Nat) h, hs[i]? = some h → k ≤ i → fLt h x = false) (hq : Q (.int k) H) : CallC c (n + 3) H (.ref 48) [.obj (.ref D), .float x] [Str.ofString "key"] [hueF] Q := by
  refine callDefB (locs := [(Str.ofString "a", .obj (.ref D)), (Str.ofString "x", .float x), (Str.ofString "lo", .int 0), (Str.ofString "hi", .none), (Str.ofString "key", hueF)]) G rfl rfl ?_ rfl (by dsimp only) (by dsimp only) rfl fun env' S => ?_
  · intro s vs ks hB hv hk
    cases hk with
    | cons hk1 hk2 =>
      cases hk2
      cases hv with
      | cons a1 hv => cases hv with
        | cons a2 hv =>
          cases hv
          exact ⟨_, BindsTo.of_defaults (T := 40) (n := 0) (items := #[.int 0 _, .none]) rfl (hB _ _ (G.inK 40 _ rfl)) rfl rfl rfl, .cons a1 (.cons a2 (.cons (.int ..) (.cons .none (.cons hk1 .nil))))⟩
  repeat walk_at "my_step"
  refine cLenL (.inl hD) (by lia) ?_
  repeat walk_at "my_step"
  refine sWhile (fun m σ => ∃ lo hi : Nat, σ = ⟨H, [(Str.ofString "a", .obj (.ref D)), (Str.ofString "x", .float x), (Str.ofString "lo", .int lo), (Str.ofString "hi", .int hi), (Str.ofString "key", hueF)]⟩ ∧ lo ≤ k ∧ k ≤ hi ∧ hi ≤ l.length ∧ m = hi - lo) l.length ⟨0, l.length, rfl, by lia, hk, by lia, by lia⟩ ?_
  rintro m _ ⟨lo, hi, rfl, q1, q2, q3, rfl⟩
  repeat walk_at "my_step"
  refine ⟨fun hc => ?_, fun hc => ?_⟩
  · refine TF.drop ?_
    have hc' : lo < hi := by simpa using hc
    obtain ⟨mid, hm, hm1, hm2⟩ : ∃ mid : Nat, ((lo : Int) + hi).fdiv 2 = mid ∧ lo ≤ mid ∧ mid < hi := ⟨(lo + hi) / 2, by rw [fdiv2 2 (by lia)]; lia, by lia, by lia⟩
    obtain ⟨h, hh⟩ : ∃ h, hs[mid]? = some h := ⟨hs[mid]'(by rw [← hl.1]; lia), List.getElem?_eq_getElem _⟩
    obtain ⟨r, hr⟩ := hl.2 mid h hh
    repeat walk_at "my_step"
    rw [hm]
    refine ⟨_, .listN hD hr (by lia), ?_⟩
    repeat walk_at "my_step"
    refine (sp_hue G (a := .float h) rfl ?_).S
    repeat walk_at "my_step"
    refine ⟨fun hd => ?_, fun hd => ?_⟩
    · repeat walk_at "my_step"
      have q : mid < k := Nat.lt_of_not_le fun q => by rw [show (Float64.cmp h x == some Ordering.lt) = fLt h x from rfl, h2 mid h hh q] at hd; cases hd
      exact ⟨H, [(Str.ofString "a", .obj (.ref D)), (Str.ofString "x", .float x), (Str.ofString "lo", .int ((mid + 1 : Nat) : Int)), (Str.ofString "hi", .int hi), (Str.ofString "key", hueF)], fun _ _ e => e, fun _ _ e => lkApp (l := [(Str.ofString "a", .obj (.ref D)), (Str.ofString "x", .float x), (Str.ofString "lo", .int ((mid + 1 : Nat) : Int)), (Str.ofString "hi", .int hi), (Str.ofString "key", hueF)]) (r := [(Str.ofString "mid", .int mid)]) e, hi - (mid + 1), by lia, mid + 1, hi, rfl, by lia, by lia, by lia, rfl⟩
    · repeat walk_at "my_step"
      have q : k ≤ mid := Nat.le_of_not_lt fun q => by rw [show (Float64.cmp h x == some Ordering.lt) = fLt h x from rfl, h1 mid h hh q] at hd; cases hd
      exact ⟨H, [(Str.ofString "a", .obj (.ref D)), (Str.ofString "x", .float x), (Str.ofString "lo", .int lo), (Str.ofString "hi", .int mid), (Str.ofString "key", hueF)], fun _ _ e => e, fun _ _ e => lkApp (l := [(Str.ofString "a", .obj (.ref D)), (Str.ofString "x", .float x), (Str.ofString "lo", .int lo), (Str.ofString "hi", .int mid), (Str.ofString "key", hueF)]) (r := [(Str.ofString "mid", .int mid)]) e, mid - lo, by lia, lo, mid, rfl, by lia, by lia, by lia, rfl⟩
  · have : lo = k := by simp at hc; lia
    subst this
    repeat walk_at "my_step"
    exact hq
theorem bis_right_of {as kv : List AV} {kn : List Str} {D : Addr} {l : List AV} {hs : List UInt64} {x : UInt64} {k : Nat} {Q : AV → (Addr → Option AO) → Prop} (G : Good c (KL P)) (hD : H D = some (.list l)) (hl : Hues l hs) (hlen : l.length < 1000) (hk : k ≤ l.length)
    (h1 : ∀ (i : Nat) h, hs[i]? = some h → i < k → fLt x h = false) (h2 : ∀ (i : Nat) h, hs[i]? = some h → k ≤ i → fLt x h = true) (hq : Q (.int k) H) (hB : ∀ fd, fnInfo (KL P) 39 = some fd → Binds c fd as kn kv [(Str.ofString "a", .obj (.ref D)), (Str.ofString "x", .float x), (Str.ofString "lo", .int 0), (Str.ofString "hi", .none), (Str.ofString "key", hueF)]) : CallC c (n + 3) H (.ref 39) as kn kv Q := by
  refine callDefB (locs := [(Str.ofString "a", .obj (.ref D)), (Str.ofString "x", .float x), (Str.ofString "lo", .int 0), (Str.ofString "hi", .none), (Str.ofString "key", hueF)]) G rfl rfl (hB _ rfl) rfl (by dsimp only) (by dsimp only) rfl fun env' S => ?_
  repeat walk_at "my_step"
  refine cLenL (.inl hD) (by lia) ?_
  repeat walk_at "my_step"
  refine sWhile (fun m σ => ∃ lo hi : Nat, σ = ⟨H, [(Str.ofString "a", .obj (.ref D)), (Str.ofString "x", .float x), (Str.ofString "lo", .int lo), (Str.ofString "hi", .int hi), (Str.ofString "key", hueF)]⟩ ∧ lo ≤ k ∧ k ≤ hi ∧ hi ≤ l.length ∧ m = hi - lo) l.length ⟨0, l.length, rfl, by lia, hk, by lia, by lia⟩ ?_
  rintro m _ ⟨lo, hi, rfl, q1, q2, q3, rfl⟩
  repeat walk_at "my_step"
  refine ⟨fun hc => ?_, fun hc => ?_⟩
  · refine TF.drop ?_
    have hc' : lo < hi := by simpa using hc
    obtain ⟨mid, hm, hm1, hm2⟩ : ∃ mid : Nat, ((lo : Int) + hi).fdiv 2 = mid ∧ lo ≤ mid ∧ mid < hi := ⟨(lo + hi) / 2, by rw [fdiv2 2 (by lia)]; lia, by lia, by lia⟩
    obtain ⟨h, hh⟩ : ∃ h, hs[mid]? = some h := ⟨hs[mid]'(by rw [← hl.1]; lia), List.getElem?_eq_getElem _⟩
    obtain ⟨r, hr⟩ := hl.2 mid h hh
    repeat walk_at "my_step"
    rw [hm]
    refine ⟨_, .listN hD hr (by lia), ?_⟩
    repeat walk_at "my_step"
    refine (sp_hue G (a := .float h) rfl ?_).S
    repeat walk_at "my_step"
    refine ⟨fun hd => ?_, fun hd => ?_⟩
    · repeat walk_at "my_step"
      have q : k ≤ mid := Nat.le_of_not_lt fun q => by rw [show (Float64.cmp x h == some Ordering.lt) = fLt x h from rfl, h1 mid h hh q] at hd; cases hd
      exact ⟨H, [(Str.ofString "a", .obj (.ref D)), (Str.ofString "x", .float x), (Str.ofString "lo", .int lo), (Str.ofString "hi", .int mid), (Str.ofString "key", hueF)], fun _ _ e => e, fun _ _ e => lkApp (l := [(Str.ofString "a", .obj (.ref D)), (Str.ofString "x", .float x), (Str.ofString "lo", .int lo), (Str.ofString "hi", .int mid), (Str.ofString "key", hueF)]) (r := [(Str.ofString "mid", .int mid)]) e, mid - lo, by lia, lo, mid, rfl, by lia, by lia, by lia, rfl⟩
    · repeat walk_at "my_step"
      have q : mid < k := Nat.lt_of_not_le fun q => by rw [show (Float64.cmp x h == some Ordering.lt) = fLt x h from rfl, h2 mid h hh q] at hd; cases hd
      exact ⟨H, [(Str.ofString "a", .obj (.ref D)), (Str.ofString "x", .float x), (Str.ofString "lo", .int ((mid + 1 : Nat) : Int)), (Str.ofString "hi", .int hi), (Str.ofString "key", hueF)], fun _ _ e => e, fun _ _ e => lkApp (l := [(Str.ofString "a", .obj (.ref D)), (Str.ofString "x", .float x), (Str.ofString "lo", .int ((mid + 1 : Nat) : Int)), (Str.ofString "hi", .int hi), (Str.ofString "key", hueF)]) (r := [(Str.ofString "mid", .int mid)]) e, hi - (mid + 1), by lia, mid + 1, hi, rfl, by lia, by lia, by lia, rfl⟩
  · have : lo = k := by simp at hc; lia
    subst this
    repeat walk_at "my_step"
    exact hq
theorem bis_right {D : Addr} {l : List AV} {hs : List UInt64} {x : UInt64} {k : Nat} {Q : AV → (Addr → Option AO) → Prop} (G : Good c (KL P)) (hD : H D = some (.list l)) (hl : Hues l hs) (hlen : l.length < 1000) (hk : k ≤ l.length)
    (h1 : ∀ (i : Nat) h, hs[i]? = some h → i < k → fLt x h = false) (h2 : ∀ (i : Nat) h, hs[i]? = some h → k ≤ i → fLt x h = true) (hq : Q (.int k) H) : CallC c (n + 3) H (.ref 39) [.obj (.ref D), .float x] [Str.ofString "key"] [hueF] Q := by
  refine bis_right_of G hD hl hlen hk h1 h2 hq ?_
  intro fd e s vs ks hB hv hk
  cases e
  cases hk with
  | cons hk1 hk2 =>
    cases hk2
    cases hv with
    | cons a1 hv => cases hv with
      | cons a2 hv =>
        cases hv
        exact ⟨_, BindsTo.of_defaults (T := 31) (n := 0) (items := #[.int 0 _, .none]) rfl (hB _ _ (G.inK 31 _ rfl)) rfl rfl rfl, .cons a1 (.cons a2 (.cons (.int ..) (.cons .none (.cons hk1 .nil))))⟩
theorem bis_right4 {D : Addr} {l : List AV} {hs : List UInt64} {x : UInt64} {k : Nat} {Q : AV → (Addr → Option AO) → Prop} (G : Good c (KL P)) (hD : H D = some (.list l)) (hl : Hues l hs) (hlen : l.length < 1000) (hk : k ≤ l.length)
    (h1 : ∀ (i : Nat) h, hs[i]? = some h → i < k → fLt x h = false) (h2 : ∀ (i : Nat) h, hs[i]? = some h → k ≤ i → fLt x h = true) (hq : Q (.int k) H) : CallC c (n + 3) H (.ref 39) [.obj (.ref D), .float x, .int 0, .none] [Str.ofString "key"] [hueF] Q := by
  refine bis_right_of G hD hl hlen hk h1 h2 hq ?_
  intro fd e s vs ks hB hv hk
  cases e
  cases hk with
  | cons hk1 hk2 =>
    cases hk2
    cases hv with
    | cons a1 hv => cases hv with
      | cons a2 hv => cases hv with
        | cons a3 hv => cases hv with
          | cons a4 hv =>
            cases hv
            exact ⟨_, BindsTo.of_defaults (T := 31) (n := 0) (items := #[.int 0 _, .none]) rfl (hB _ _ (G.inK 31 _ rfl)) rfl rfl rfl, .cons a1 (.cons a2 (.cons a3 (.cons a4 (.cons hk1 .nil))))⟩
theorem insort {D : Addr} {l : List AV} {hs : List UInt64} {x : UInt64} {r : List AV} {k : Nat} {Q : AV → (Addr → Option AO) → Prop} (G : Good c (KL P)) (hD : H D = some (.list l)) (hl : Hues l hs) (hlen : l.length < 1000) (hk : k ≤ l.length)
    (h1 : ∀ (i : Nat) h, hs[i]? = some h → i < k → fLt x h = false) (h2 : ∀ (i : Nat) h, hs[i]? = some h → k ≤ i → fLt x h = true) (hq : Q .none (setH H D (.list (l.take k ++ .tup (.float x :: r) :: l.drop k)))) : CallC c (n + 4) H (.ref 30) [.obj (.ref D), .tup (.float x :: r)] [Str.ofString "key"] [hueF] Q := by
  refine callDefB (locs := [(Str.ofString "a", .obj (.ref D)), (Str.ofString "x", .tup (.float x :: r)), (Str.ofString "lo", .int 0), (Str.ofString "hi", .none), (Str.ofString "key", hueF)]) G rfl rfl ?_ rfl (by dsimp only) (by dsimp only) rfl fun env' S => ?_
  · intro s vs ks hB hv hk
    cases hk with
    | cons hk1 hk2 =>
      cases hk2
      cases hv with
      | cons a1 hv => cases hv with
        | cons a2 hv =>
          cases hv
          exact ⟨_, BindsTo.of_defaults (T := 22) (n := 0) (items := #[.int 0 _, .none]) rfl (hB _ _ (G.inK 22 _ rfl)) rfl rfl rfl, .cons a1 (.cons a2 (.cons (.int ..) (.cons .none (.cons hk1 .nil))))⟩
  repeat walk_at "my_step"
  refine (sp_hue G (a := .float x) rfl ?_).S
  repeat walk_at "my_step"
  refine (bis_right4 G hD hl hlen hk h1 h2 ?_).S
  repeat walk_at "my_step"
  refine cInsert hD (by rw [sizeLine_eq]; lia) (by simp [Builtin.List.listFitsIndex]; lia) rfl hk ?_
  repeat walk_at "my_step"
  exact hq
end
end

section
set_option maxHeartbeats 1000000
noncomputable section
noncomputable def f1 : UInt64 := 4607182418800017408
noncomputable def f6 : UInt64 := 4618441417868443648
noncomputable def hsvPick (i : Int) (v p q t : UInt64) : List AV := if i == 0 then [.float v, .float t, .float p] else if i == 1 then [.float q, .float v, .float p] else if i == 2 then [.float p, .float v, .float t] else if i == 3 then [.float p, .float q, .float v] else if i == 4 then [.float t, .float p, .float v] else [.float v, .float p, .float q]
noncomputable def hsvRgb (h s v : UInt64) (i : Int) : List AV :=
  let f := Float64.sub (Float64.mul h f6) (Float64.ofInt i)
  hsvPick (i.fmod 6) v (Float64.mul v (Float64.sub f1 s)) (Float64.mul v (Float64.sub f1 (Float64.mul s f))) (Float64.mul v (Float64.sub f1 (Float64.mul s (Float64.sub f1 f))))
end
variable {c : Cx} {n : Nat} {H : Addr → Option AO} {P : Params}
theorem sp_hsv {h s v : UInt64} {sg : Bool} {m : Nat} {e i : Int} {Q : AV → (Addr → Option AO) → Prop} (G : Good c (KL P)) (hs : (Float64.cmp s 0 == some Ordering.eq) = false) (hd : Float64.decode (Float64.mul h f6) = .fin sg m e) (hi : Float64.truncOf sg m e = i) (hf : Float64.isInf (Float64.ofInt i) = false)
    (hq : Q (.tup (hsvRgb h s v i)) H) : CallC c (n + 1) H (.ref 62) [.float h, .float s, .float v] [] [] Q := by
  refine callDef [Str.ofString "h", Str.ofString "s", Str.ofString "v"] G rfl rfl (fun vs hvs => by obtain ⟨v, w, x, rfl⟩ := len3 hvs; rfl) rfl (by dsimp only) (by dsimp only) rfl rfl (by dsimp only [List.zip, List.zipWith]) fun env' S => ?_
  repeat walk_at "my_step"
  refine cInt (sg := sg) (m := m) (e := e) hd ?_
  rw [hi]
  repeat walk_at "my_step"
  have hm : 0 ≤ i.fmod 6 ∧ i.fmod 6 < 6 := ⟨Int.fmod_nonneg_of_pos i (by lia), Int.fmod_lt_of_pos i (by lia)⟩
  unfold hsvRgb hsvPick f1 f6 at hq
  dsimp only at hq
  generalize i.fmod 6 = j at hm hq
  rcases (by lia : j = 0 ∨ j = 1 ∨ j = 2 ∨ j = 3 ∨ j = 4 ∨ j = 5) with rfl | rfl | rfl | rfl | rfl | rfl <;> (repeat walk_at "my_step") <;> exact hq
noncomputable section
noncomputable def rgbHsv (r g b : UInt64) : List AV :=
  let maxc := max3 r g b
  let minc := min3 r g b
  let rangec := Float64.sub maxc minc
  let rc := Float64.div (Float64.sub maxc r) rangec
  let gc := Float64.div (Float64.sub maxc g) rangec
  let bc := Float64.div (Float64.sub maxc b) rangec
  let h := if (Float64.cmp r maxc == some Ordering.eq) = true then Float64.sub bc gc else if (Float64.cmp g maxc == some Ordering.eq) = true then Float64.sub (Float64.add 4611686018427387904 rc) bc else Float64.sub (Float64.add 4616189618054758400 gc) rc
  [.float (Float64.divmod (Float64.div h f6) f1).snd, .float (Float64.div rangec maxc), .float maxc]
end
theorem sp_rgb {r g b : UInt64} {Q : AV → (Addr → Option AO) → Prop} (G : Good c (KL P)) (h1 : (Float64.cmp (min3 r g b) (max3 r g b) == some Ordering.eq) = false) (h2 : Float64.isZero (max3 r g b) = false) (h3 : Float64.isZero (Float64.sub (max3 r g b) (min3 r g b)) = false)
    (hq : Q (.tup (rgbHsv r g b)) H) : CallC c (n + 1) H (.ref 55) [.float r, .float g, .float b] [] [] Q := by
  refine callDef [Str.ofString "r", Str.ofString "g", Str.ofString "b"] G rfl rfl (fun vs hvs => by obtain ⟨v, w, x, rfl⟩ := len3 hvs; rfl) rfl (by dsimp only) (by dsimp only) rfl rfl (by dsimp only [List.zip, List.zipWith]) fun env' S => ?_
  repeat walk_at "my_step"
  refine cMax3 ?_
  repeat walk_at "my_step"
  refine cMin3 ?_
  repeat walk_at "my_step"
  unfold rgbHsv f1 f6 at hq
  dsimp only at hq
  refine ⟨fun e1 => ?_, fun e1 => ?_⟩
  · rw [if_pos e1] at hq
    repeat walk_at "my_step"
    exact hq
  · rw [if_neg (by rw [e1]; decide)] at hq
    repeat walk_at "my_step"
    refine ⟨fun e2 => ?_, fun e2 => ?_⟩
    · rw [if_pos e2] at hq
      repeat walk_at "my_step"
      exact hq
    · rw [if_neg (by rw [e2]; decide)] at hq
      repeat walk_at "my_step"
      exact hq
end

section
set_option maxHeartbeats 1000000
noncomputable def lamIn (K : Frag) (f : Addr) : Option (Arguments × Expr × Scope) := (fnInfo K f).bind fun fd => match fd.body with
  | .stmts l => l.findSome? fun st => match st with
    | .Assign _ (.Lambda p b s _) _ => some (p, b, s)
    | _ => none
  | _ => none
noncomputable def wsS : Str := Str.ofString "\n\t\r "
structure LexA where
  (X DX PB SI DSI SP LAM CE SG CN : Addr)
noncomputable def LexA.all (L : LexA) : List Addr := [L.X, L.DX, L.PB, L.SI, L.DSI, L.SP, L.LAM, L.CE, L.SG, L.CN]
noncomputable def lexFs (L : LexA) (ln : Int) : List (Str × AV) := [(Str.ofString "lineno", .int ln), (Str.ofString "instream", .obj (.ref L.SI)), (Str.ofString "whitespace", .str wsS), (Str.ofString "pushback", .obj (.ref L.PB))]
noncomputable def strFs (L : LexA) : List (Str × AV) := [(Str.ofString "lineno", .int 1), (Str.ofString "instream", .none), (Str.ofString "whitespace", .str wsS), (Str.ofString "pushback", .obj (.ref L.SP)), (Str.ofString "read", .obj (.ref L.LAM))]
theorem lexNe {L : LexA} (nd : L.all.Nodup) {i j : Nat} (h : i < j) (hj : j < 10) : L.all[i]'(by simp [LexA.all]; lia) ≠ L.all[j]'(by simp [LexA.all]; lia) := List.pairwise_iff_getElem.mp nd i j _ _ h
/-- the lexer: its line, the signs not read yet, the tokens put back -/
structure LexAt (K : Frag) (L : LexA) (H : Addr → Option AO) (ln : Int) (rest : List Str) (pb : List AV) : Prop where
  nd : L.all.Nodup
  x : H L.X = some (.inst 100 L.DX)
  dx : H L.DX = some (.attrs (lexFs L ln))
  pb : H L.PB = some (.list pb)
  si : H L.SI = some (.inst 100 L.DSI)
  dsi : H L.DSI = some (.attrs (strFs L))
  lam : ∃ p b s qual pm ctv oc vs t, lamIn K 192 = some (p, b, s) ∧ H L.LAM = some (.raw (kla_obj "<lambda>" qual p b s [(Str.ofString "signs", L.CE)] pm L.CN ctv)) ∧ H L.CN = some (.raw oc) ∧ oc.data = .fields vs ∧ vs[1]? = some (.str qual t)
  ce : H L.CE = some (.cell (.ref L.SG))
  sg : H L.SG = some (.list (rest.reverse.map .str))
  sp : H L.SP = some (.list [])
section
variable {c : Cx} {n : Nat} {H : Addr → Option AO} {P : Params} {L : LexA}
theorem sp_read {ln : Int} {rest : List Str} {pb : List AV} {Q : AV → (Addr → Option AO) → Prop} (G : Good c (KL P)) (hc : csOk (KL P) = true) (X : LexAt (KL P) L H ln rest pb) (hsz : rest.length ≤ 1000)
    (h0 : rest = [] → ∀ H', Same [L.SG] H H' → H' L.SG = some (.list []) → Q (.str (Str.ofString "")) H')
    (h1 : ∀ ch r, rest = ch :: r → ∀ H', Same [L.SG] H H' → H' L.SG = some (.list (r.reverse.map .str)) → Q (.str ch) H') : CallC c (n + 1) H (.ref L.LAM) [.int 1] [] [] Q := by
  obtain ⟨p, b, s, qual, pm, ctv, oc, vs, t, e, e1, e2, e3, e4⟩ := X.lam
  cases e
  refine callC_lam (f := L.LAM) (k := L.CE) (locs := [(Str.ofString "count", .int 1)]) (fv := Str.ofString "signs") e1 rfl rfl rfl X.ce (lexNe X.nd (i := 6) (j := 7) (by decide) (by decide)) (Ne.symm (lexNe X.nd (i := 7) (j := 9) (by decide) (by decide))) e2 rfl e3 e4 ?lim rfl rfl rfl rfl rfl ?nc ?loc ?ndl ?fr rfl ?bi fun env' S => ?_
  case lim => obtain ⟨_, _, _, _, T⟩ := G.top; exact T.nolimit
  case nc => intro x hx; simp at hx; rcases hx with rfl | rfl <;> simp
  case loc => simp
  case ndl => simp
  case fr => intro x hx; have := mem_of_lookup hx; simpa using this
  case bi => exact binds_plain (xs := [Str.ofString "count"]) (fun vs hvs => by obtain ⟨v, rfl⟩ := len1 hvs; rfl) rfl
  replace S : Sc env' [(Str.ofString "count", .local), (Str.ofString "signs", .free)] (.ref L.CN) := S
  have n1 : L.SG ≠ L.CE := Ne.symm (lexNe X.nd (i := 7) (j := 8) (by decide) (by decide))
  repeat walk_at "my_step"
  intro E hE hEB
  have hEs : E ≠ L.SG := by rintro rfl; change remH H L.CE L.SG = none at hE; rw [remH_ne _ n1, X.sg] at hE; cases hE
  have hsg : setH (remH H L.CE) E (.list []) L.SG = some (.list (rest.reverse.map .str)) := by rw [setH_ne _ _ (Ne.symm hEs), remH_ne _ n1, X.sg]
  have back : ∀ H₁ : Addr → Option AO, (∀ a, a ≠ E → a ≠ L.SG → H₁ a = remH H L.CE a) → Same [L.SG] H (setH H₁ L.CE (.cell (.ref L.SG))) := fun H₁ k a o ha e => by
    by_cases hce : a = L.CE
    · subst hce; rw [setH_self]; rw [X.ce] at e; exact e
    · have haE : a ≠ E := by rintro rfl; change remH H L.CE a = none at hE; rw [remH_ne _ hce, e] at hE; cases hE
      rw [setH_ne _ _ hce, k a haE (by simpa using ha), remH_ne _ hce, e]
  refine opNeNil G hc hsg (setH_self _ _ _) ?_
  repeat walk_at "my_step"
  refine ⟨fun hb => ?_, fun hb => ?_⟩
  · obtain ⟨ch, r, rfl⟩ : ∃ ch r, rest = ch :: r := by cases rest with
      | nil => simp at hb
      | cons ch r => exact ⟨ch, r, rfl⟩
    have hsg' : setH (remH H L.CE) E (.list []) L.SG = some (.list (r.reverse.map .str ++ [.str ch])) := by rw [hsg]; simp
    repeat walk_at "my_step"
    refine cPop hsg' (by rw [sizeLine_eq]; simp at hsz ⊢; lia) ⟨by walk_at "my_lk", ?_⟩
    exact h1 ch r rfl _ (back _ fun a h2 h3 => by show setH (setH _ _ _) _ _ a = _; rw [setH_ne _ _ h3, setH_ne _ _ h2]) (by rw [setH_ne _ _ n1]; exact setH_self _ _ _)
  · obtain rfl : rest = [] := by cases rest with
      | nil => rfl
      | cons ch r => simp at hb
    repeat walk_at "my_step"
    exact h0 rfl _ (back _ fun a h2 h3 => by show setH _ _ _ a = _; rw [setH_ne _ _ h2]) (by rw [setH_ne _ _ n1]; exact hsg)
end
end

section
set_option maxHeartbeats 1000000
theorem LexAt.upd {K : Frag} {L : LexA} {H H' : Addr → Option AO} {ln ln' : Int} {rest rest' : List Str} {pb pb' : List AV} (X : LexAt K L H ln rest pb) (s : Same [L.SG, L.DX, L.PB] H H') (sg : H' L.SG = some (.list (rest'.reverse.map .str))) (dx : H' L.DX = some (.attrs (lexFs L ln'))) (hpb : H' L.PB = some (.list pb')) : LexAt K L H' ln' rest' pb' := by
  have k : ∀ {i : Nat} {o : AO} (hi : i < 10), i ≠ 1 → i ≠ 2 → i ≠ 8 → H (L.all[i]'hi) = some o → H' (L.all[i]'hi) = some o := fun {i o} hi h1 h2 h8 e => s _ _ (by
    have ne : ∀ {j} (hj : j < 10), i ≠ j → L.all[i]'hi ≠ L.all[j]'hj := fun {j} hj hij => by
      rcases Nat.lt_or_gt_of_ne hij with h | h
      · exact lexNe X.nd h hj
      · exact Ne.symm (lexNe X.nd h hi)
    simp only [List.mem_cons, List.not_mem_nil, or_false, not_or]
    exact ⟨ne (j := 8) (by decide) h8, ne (j := 1) (by decide) h1, ne (j := 2) (by decide) h2⟩) e
  obtain ⟨p, b, s, qual, pm, ctv, oc, vs, t, e, e1, e2, e3, e4⟩ := X.lam
  exact ⟨X.nd, k (i := 0) (by decide) (by decide) (by decide) (by decide) X.x, dx, hpb, k (i := 3) (by decide) (by decide) (by decide) (by decide) X.si, k (i := 4) (by decide) (by decide) (by decide) (by decide) X.dsi,
    ⟨p, b, s, qual, pm, ctv, oc, vs, t, e, k (i := 6) (by decide) (by decide) (by decide) (by decide) e1, k (i := 9) (by decide) (by decide) (by decide) (by decide) e2, e3, e4⟩, k (i := 7) (by decide) (by decide) (by decide) (by decide) X.ce, sg, k (i := 5) (by decide) (by decide) (by decide) (by decide) X.sp⟩
theorem LexAt.notMem {K : Frag} {L : LexA} {H : Addr → Option AO} {ln : Int} {rest : List Str} {pb : List AV} (X : LexAt K L H ln rest pb) {a : Addr} (h : H a = none) : a ∉ L.all := by
  obtain ⟨p, b, s, qual, pm, ctv, oc, vs, t, e, e1, e2, e3, e4⟩ := X.lam
  intro hm
  simp only [LexA.all, List.mem_cons, List.not_mem_nil, or_false] at hm
  rcases hm with rfl | rfl | rfl | rfl | rfl | rfl | rfl | rfl | rfl | rfl
  · have := X.x; rw [h] at this; cases this
  · have := X.dx; rw [h] at this; cases this
  · have := X.pb; rw [h] at this; cases this
  · have := X.si; rw [h] at this; cases this
  · have := X.dsi; rw [h] at this; cases this
  · have := X.sp; rw [h] at this; cases this
  · rw [h] at e1; cases e1
  · have := X.ce; rw [h] at this; cases this
  · have := X.sg; rw [h] at this; cases this
  · rw [h] at e2; cases e2
theorem LexAt.put {K : Frag} {L : LexA} {H : Addr → Option AO} {ln : Int} {rest : List Str} {pb : List AV} (X : LexAt K L H ln rest pb) {a : Addr} {o : AO} (ha : a ∉ L.all) : LexAt K L (setH H a o) ln rest pb := by
  have ne : ∀ b ∈ L.all, setH H a o b = H b := fun b hb => setH_ne _ _ fun e => ha (e ▸ hb)
  obtain ⟨p, b, s, qual, pm, ctv, oc, vs, t, e, e1, e2, e3, e4⟩ := X.lam
  have m : ∀ {i : Nat} (hi : i < 10), L.all[i]'hi ∈ L.all := fun hi => List.getElem_mem _
  exact ⟨X.nd, (ne _ (m (i := 0) (by decide))).trans X.x, (ne _ (m (i := 1) (by decide))).trans X.dx, (ne _ (m (i := 2) (by decide))).trans X.pb, (ne _ (m (i := 3) (by decide))).trans X.si, (ne _ (m (i := 4) (by decide))).trans X.dsi,
    ⟨p, b, s, qual, pm, ctv, oc, vs, t, e, (ne _ (m (i := 6) (by decide))).trans e1, (ne _ (m (i := 9) (by decide))).trans e2, e3, e4⟩, (ne _ (m (i := 7) (by decide))).trans X.ce, (ne _ (m (i := 8) (by decide))).trans X.sg, (ne _ (m (i := 5) (by decide))).trans X.sp⟩
theorem LexAt.dsg {K : Frag} {L : LexA} {H : Addr → Option AO} {ln : Int} {rest : List Str} {pb : List AV} (X : LexAt K L H ln rest pb) : L.DX ≠ L.SG := lexNe X.nd (i := 1) (j := 8) (by decide) (by decide)
theorem LexAt.psg {K : Frag} {L : LexA} {H : Addr → Option AO} {ln : Int} {rest : List Str} {pb : List AV} (X : LexAt K L H ln rest pb) : L.PB ≠ L.SG := lexNe X.nd (i := 2) (j := 8) (by decide) (by decide)
theorem LexAt.dpb {K : Frag} {L : LexA} {H : Addr → Option AO} {ln : Int} {rest : List Str} {pb : List AV} (X : LexAt K L H ln rest pb) : L.DX ≠ L.PB := lexNe X.nd (i := 1) (j := 2) (by decide) (by decide)
section
variable {c : Cx} {n : Nat} {H : Addr → Option AO} {P : Params} {L : LexA}
noncomputable def nlS : Str := Str.ofString "\n"
theorem sp_readchar {ln : Int} {rest : List Str} {pb : List AV} {Q : AV → (Addr → Option AO) → Prop} (G : Good c (KL P)) (hc : csOk (KL P) = true) (X : LexAt (KL P) L H ln rest pb) (hsz : rest.length ≤ 1000)
    (h0 : rest = [] → ∀ H', Same [L.SG, L.DX] H H' → LexAt (KL P) L H' ln [] pb → Q (.str (Str.ofString "")) H')
    (h1 : ∀ ch r, rest = ch :: r → ∀ H', Same [L.SG, L.DX] H H' → LexAt (KL P) L H' (if ch == nlS then ln + 1 else ln) r pb → Q (.str ch) H') : CallC c (n + 2) H (.ref 83) [.obj (.ref L.X)] [] [] Q := by
  refine callDef [Str.ofString "self"] G rfl rfl (fun vs hvs => by obtain ⟨v, rfl⟩ := len1 hvs; rfl) rfl (by dsimp only) (by dsimp only) rfl rfl (by dsimp only [List.zip, List.zipWith]) fun env' S => ?_
  have hx := X.x
  have hdx := X.dx
  unfold lexFs at hdx
  have hsi := X.si
  have hdsi := X.dsi
  unfold strFs at hdsi
  repeat walk_at "my_step"
  refine tMethOwn G ?_ rfl rfl rfl rfl rfl
  walk_at "my_at"
  repeat walk_at "my_step"
  walk_at "my_attr"
  refine ⟨_, 100, _, _, L.LAM, rfl, rfl, rfl, ⟨hsi, hdsi⟩, by walk_at "my_lk", ?_⟩
  obtain ⟨p, b, s, qual, pm, ctv, oc, vs, t, e, e1, e2, e3, e4⟩ := X.lam
  repeat walk_at "my_step"
  refine ⟨_, _, e1, rfl, (sp_read G hc X hsz (fun hr H' k sg => ?_) (fun ch r hr H' k sg => ?_)).S⟩
  · subst hr
    repeat walk_at "my_step"
    refine h0 rfl _ (k.more (by simp)) (X.upd (k.more (by simp)) sg ?_ ?_)
    · exact k _ _ (by simp [X.dsg]) X.dx
    · exact k _ _ (by simp [X.psg]) X.pb
  · subst hr
    have X' : LexAt (KL P) L H' ln r pb := X.upd (k.more (by simp)) sg (k _ _ (by simp [X.dsg]) X.dx) (k _ _ (by simp [X.psg]) X.pb)
    have hx' := X'.x
    have hdx' := X'.dx
    unfold lexFs at hdx'
    repeat walk_at "my_step"
    refine ⟨fun hb => ?_, fun hb => ?_⟩
    · repeat walk_at "my_step"
      refine sAugAttr G ?_
      repeat walk_at "my_step"
      refine ⟨_, 100, _, _, _, rfl, rfl, rfl, ⟨hx', hdx'⟩, by simp, lkHit, (fun w e => by cases e), ?_⟩
      repeat walk_at "my_step"
      refine ⟨_, .addI, ?_⟩
      repeat walk_at "my_step"
      refine h1 ch r rfl _ ((k.more (by simp)).set (.inl (by simp))) ?_
      have hb' : ch = nlS := by simpa [nlS] using hb
      subst hb'
      refine X'.upd (Same.refl.set (.inl (by simp))) ?_ ?_ ?_
      · dsimp only; rw [setH_ne _ _ (Ne.symm X.dsg)]; exact X'.sg
      · dsimp only; rw [setH_self]; simp [lexFs, put]
      · dsimp only; rw [setH_ne _ _ (Ne.symm X.dpb)]; exact X'.pb
    · repeat walk_at "my_step"
      have := h1 ch r rfl H' (k.more (by simp)) (by rw [if_neg (by rw [show (ch == nlS) = false from hb]; decide)]; exact X')
      exact this
end
end

section
set_option maxHeartbeats 1000000
theorem TF.hide {c : Cx} {n : Nat} {env : Env} {σ : St} {t : Sem Flow} {Q : AF → St → Prop} (h : ∀ K : AF → St → Prop, (∀ f σ', Q f σ' → K f σ') → TF c n env σ t K) : TF c n env σ t Q := h Q fun _ _ h => h
theorem lex2 {L : LexA} {a : Addr} (h : a ∈ [L.SG, L.DX]) : a ∈ L.all := by
  simp only [List.mem_cons, List.not_mem_nil, or_false] at h
  rcases h with rfl | rfl <;> simp [LexA.all]
noncomputable def isWs (ch : Str) : Bool := Txt.contains wsS ch
noncomputable def qS : Str := Str.ofString "\""
noncomputable def bsS : Str := Str.ofString "\\"
noncomputable def eS : Str := Str.ofString ""
/-- the rest of a word in quotation marks -/
noncomputable def inQuote : Bool → List Str → Str → Str × List Str
  | _, [], t => (t, [])
  | true, ch :: r, t => inQuote false r (t ++ ch)
  | false, ch :: r, t => if ch == qS then (t, r) else if ch == bsS then inQuote true r t else inQuote false r (t ++ ch)
noncomputable def inPlain : Bool → List Str → Str → Str × List Str
  | _, [], t => (t, [])
  | true, ch :: r, t => inPlain false r (t ++ ch)
  | false, ch :: r, t => if isWs ch then (t, r) else if ch == bsS then inPlain true r t else inPlain false r (t ++ ch)
noncomputable def getTok : List Str → Str × List Str
  | [] => (eS, [])
  | ch :: r => if isWs ch then getTok r else if ch == qS then inQuote false r eS else if ch == bsS then inPlain true r eS else inPlain false r (eS ++ ch)
theorem len_e : (Str.ofString "").length = 0 := by decide +kernel
theorem app_len (x y : Str) : (x ++ y).length = x.length + y.length := by
  show (x.cps ++ y.cps).size = _
  simp [Str.length]
theorem app_nil (t : Str) : t ++ Str.ofString "" = t := by
  rw [Str.ofString_eq_toList]
  show Str.mk (t.cps ++ _) = t
  cases t; simp
noncomputable def nls (l : List Str) : Int := (l.filter (· == nlS)).length
section
variable {c : Cx} {n : Nat} {H : Addr → Option AO} {P : Params} {L : LexA}
theorem sp_push {ln : Int} {rest : List Str} {pb : List AV} {t : AV} {Q : AV → (Addr → Option AO) → Prop} (G : Good c (KL P)) (X : LexAt (KL P) L H ln rest pb) (hsz : pb.length ≤ 1000)
    (h : ∀ H', Same [L.PB] H H' → LexAt (KL P) L H' ln rest (pb ++ [t]) → Q .none H') : CallC c (n + 1) H (.ref 97) [.obj (.ref L.X), t] [] [] Q := by
  refine callDef [Str.ofString "self", Str.ofString "token"] G rfl rfl (fun vs hvs => by obtain ⟨v, w, rfl⟩ := len2 hvs; rfl) rfl (by dsimp only) (by dsimp only) rfl rfl (by dsimp only [List.zip, List.zipWith]) fun env' S => ?_
  have hx := X.x
  have hdx := X.dx
  have hpb := X.pb
  unfold lexFs at hdx
  repeat walk_at "my_step"
  walk_at "my_at"
  repeat walk_at "my_step"
  walk_at "my_attr"
  repeat walk_at "my_step"
  refine cAppend hpb (by rw [sizeLine_eq]; lia) ?_
  repeat walk_at "my_step"
  refine h _ (Same.refl.set (.inl (by simp))) (X.upd (Same.refl.set (.inl (by simp))) ?_ ?_ ?_)
  · dsimp only; rw [setH_ne _ _ (Ne.symm X.psg)]; exact X.sg
  · dsimp only; rw [setH_ne _ _ X.dpb]; exact X.dx
  · exact setH_self _ _ _
/-- reading, with the iterator over the signs alive -/
structure TokB (P : Params) (L : LexA) (H : Addr → Option AO) (it q : Addr) (tk : Tok) (N : Int) (r : List Str) (ln : Int) (H1 : Addr → Option AO) : Prop where
  fi : H1 it = some (.raw (ciObj (.ref q) (.str (Str.ofString "") tk) false))
  fq : H1 q = some (.raw (methodObj (.ref 83) (.ref L.X)))
  s : Same [L.SG, L.DX] H H1
  x : LexAt (KL P) L H1 ln r []
  n : ln + nls r = N
  c : ∀ ch ∈ r, ch.length = 1
  oi : it ∉ [L.SG, L.DX]
  oq : q ∉ [L.SG, L.DX]
variable {it q : Addr} {tk : Tok} {N : Int} {H1 H' : Addr → Option AO} {r r' : List Str} {ln ln' : Int}
theorem TokB.next (B : TokB P L H it q tk N r ln H1) (k : Same [L.SG, L.DX] H1 H') (X : LexAt (KL P) L H' ln' r' []) (hn : ln' + nls r' = ln + nls r) (hs : ∀ ch ∈ r', ch ∈ r) : TokB P L H it q tk N r' ln' H' :=
  ⟨k _ _ B.oi B.fi, k _ _ B.oq B.fq, B.s.trans k, X, hn.trans B.n, fun ch h => B.c ch (hs ch h), B.oi, B.oq⟩
theorem nls_step (ln : Int) (ch : Str) (r : List Str) : (if (ch == nlS) = true then ln + 1 else ln) + nls r = ln + nls (ch :: r) := by
  unfold nls; rw [List.filter_cons]; split <;> simp <;> lia
theorem TokB.read {Q : AV → (Addr → Option AO) → Prop} (G : Good c (KL P)) (hc : csOk (KL P) = true) (B : TokB P L H it q tk N r ln H1) (hsz : r.length ≤ 1000)
    (h0 : r = [] → ∀ H', TokB P L H it q tk N [] ln H' → Q (.str (Str.ofString "")) H') (h1 : ∀ ch r', r = ch :: r' → ch.length = 1 → ∀ H' ln', TokB P L H it q tk N r' ln' H' → Q (.str ch) H') : CallC c (n + 2) H1 (.ref 83) [.obj (.ref L.X)] [] [] Q :=
  sp_readchar G hc B.x hsz (fun hr H' k X => h0 hr H' (B.next k X (by rw [hr]) fun _ h => nomatch h)) fun ch r' hr H' k X => h1 ch r' hr (B.c ch (by rw [hr]; exact .head _)) H' _ (B.next k X (by rw [hr]; exact nls_step ..) fun _ h => by rw [hr]; exact .tail _ h)
theorem TokB.ci {env : Env} {loc : List (Str × AV)} {Q : Option AV → St → Prop} (G : Good c (KL P)) (hc : csOk (KL P) = true) (B : TokB P L H it q tk N r ln H1) (hsz : r.length ≤ 1000)
    (h0 : r = [] → ∀ H', TokB P L H it q tk N [] ln H' → Q none ⟨setH H' it (.raw (ciObj .none .none true)), loc⟩) (h1 : ∀ ch r', r = ch :: r' → ch.length = 1 → ∀ H' ln', TokB P L H it q tk N r' ln' H' → Q (some (.str ch)) ⟨H', loc⟩) :
    TO c (n + 3) env ⟨H1, loc⟩ (pyNext (.ref it)) Q :=
  nextCi (f := 83) (x := L.X) G B.fi B.fq rfl (B.read G hc hsz (fun hr H' B' => ⟨_, rfl, B'.fi, B'.fq, fun _ => h0 hr H' B', fun e => absurd e (by decide)⟩) fun ch r' hr hl H' ln' B' => ⟨_, rfl, B'.fi, B'.fq, (fun e => by rw [← beq_iff_eq.mp e] at hl; cases hl), fun _ => h1 ch r' hr hl H' ln' B'⟩)
noncomputable def tokLoc (L : LexA) (it : Addr) (t : Str) (r : List (Str × AV)) : List (Str × AV) := (Str.ofString "self", .obj (.ref L.X)) :: (Str.ofString "token", .str t) :: (Str.ofString "fiter", .obj (.ref it)) :: r
inductive TokI (P : Params) (L : LexA) (H : Addr → Option AO) (it q : Addr) (tk : Tok) (N : Int) (rest : List Str) (m : Nat) (σ : St) : Prop
  | go (r : List Str) (ln : Int) : m = r.length + 1 → σ.loc = tokLoc L it (Str.ofString "") [] → TokB P L H it q tk N r ln σ.H → getTok r = getTok rest → r.length ≤ rest.length → TokI P L H it q tk N rest m σ
  | fin (t : Str) (H1 : Addr → Option AO) : m = 0 → σ.loc = tokLoc L it t [] → TokB P L H it q tk N [] N H1 → σ.H = setH H1 it (.raw (ciObj .none .none true)) → getTok rest = (t, []) → TokI P L H it q tk N rest m σ
inductive TokJ (P : Params) (L : LexA) (H : Addr → Option AO) (it q : Addr) (tk : Tok) (N : Int) (rest : List Str) (f : List Str → Str → Str × List Str) (m : Nat) (σ : St) : Prop
  | mk (r : List Str) (ln : Int) (t : Str) (x : AV) : m = r.length + 1 → σ.loc = tokLoc L it t [(Str.ofString "ch", x)] → TokB P L H it q tk N r ln σ.H → f r t = getTok rest → r.length + t.length ≤ rest.length → TokJ P L H it q tk N rest f m σ
inductive TokE (P : Params) (L : LexA) (H : Addr → Option AO) (it q : Addr) (tk : Tok) (N : Int) (rest : List Str) (f : AF) (σ : St) : Prop
  | mk (r : List Str) (ln : Int) (z : Str) : f = .next → σ.loc = tokLoc L it (Str.ofString "") [(Str.ofString "ch", .str z)] → TokB P L H it q tk N r ln σ.H → inPlain false r (Str.ofString "" ++ z) = getTok rest → r.length + z.length ≤ rest.length → TokE P L H it q tk N rest f σ
theorem tokDrop {L : LexA} {it : Addr} {t : Str} {x : AV} {H : Addr → Option AO} {K : St → Prop} (h : K ⟨H, tokLoc L it t []⟩) : DropTo ⟨H, tokLoc L it t [(Str.ofString "ch", x)]⟩ K :=
  ⟨H, tokLoc L it t [], fun _ _ e => e, fun _ _ e => lkApp (l := tokLoc L it t []) (r := [(Str.ofString "ch", x)]) e, h⟩
theorem sp_token {ln : Int} {rest : List Str} {Q : AV → (Addr → Option AO) → Prop} (G : Good c (KL P)) (hc : csOk (KL P) = true) (X : LexAt (KL P) L H ln rest []) (hsz : rest.length ≤ 1000) (hl : ∀ ch ∈ rest, ch.length = 1)
    (h : ∀ H', Same [L.SG, L.DX] H H' → LexAt (KL P) L H' (ln + nls rest - nls (getTok rest).2) (getTok rest).2 [] → Q (.str (getTok rest).1) H') : CallC c (n + 5) H (.ref 90) [.obj (.ref L.X)] [] [] Q := by
  refine callDef [Str.ofString "self"] G rfl rfl (fun vs hvs => by obtain ⟨v, rfl⟩ := len1 hvs; rfl) rfl (by dsimp only) (by dsimp only) rfl rfl (by dsimp only [List.zip, List.zipWith]) fun env' S => ?_
  have hx := X.x
  have hdx := X.dx
  have hpb := X.pb
  unfold lexFs at hdx
  repeat walk_at "my_step"
  refine bTruthL ?_ rfl
  walk_at "my_at"
  repeat walk_at "my_step"
  walk_at "my_attr"
  repeat walk_at "my_step"
  refine tBound G ?_ (arm_eval_Attribute _ _ _ _) (fun _ _ => rfl)
  repeat walk_at "my_step"
  refine ⟨_, _, _, _, 83, rfl, ?c1, ?c2, ⟨hx, hdx⟩, by walk_at "my_lkN", fun q hq hqB => ?_⟩
  case c1 => rfl
  case c2 => rfl
  repeat walk_at "my_step"
  dsimp only at hq
  refine cIter2 (f := 83) (x := L.X) (setH_self _ _ _) fun it tk hit hitB => ?_
  dsimp only at hit
  have hitq : it ≠ q := by rintro rfl; rw [setH_self] at hit; cases hit
  have hit0 : H it = none := by rw [← hit]; rw [setH_ne _ _ hitq]
  have fin : ∀ (t : Str) (r : List Str) (H2 : Addr → Option AO) (ln2 : Int), getTok rest = (t, r) → Same [L.SG, L.DX] H H2 → LexAt (KL P) L H2 ln2 r [] → ln2 + nls r = ln + nls rest → Q (.str t) H2 := fun t r H2 ln2 e s x hn => by
    have := h H2 s
    rw [e] at this
    exact this (by rw [show ln + nls rest - nls r = ln2 by lia]; exact x)
  have nit := X.notMem hit0
  repeat walk_at "my_step"
  have B : TokB P L H it q tk (ln + nls rest) rest ln (setH (setH H q (AO.raw (methodObj (Value.ref 83) (Value.ref L.X)))) it (AO.raw (ciObj (Value.ref q) (Value.str (Str.ofString "") tk) false))) :=
    ⟨setH_self .., by rw [setH_ne _ _ (Ne.symm hitq), setH_self], (Same.refl.set (.inr hq)).set (.inr hit0), (X.put (X.notMem hq)).put nit, rfl, hl, fun z => nit (lex2 z), fun z => X.notMem hq (lex2 z)⟩
  generalize setH (setH H q (AO.raw (methodObj (Value.ref 83) (Value.ref L.X)))) it (AO.raw (ciObj (Value.ref q) (Value.str (Str.ofString "") tk) false)) = H1 at B
  clear hx hdx hpb hq hqB hit hitB hitq X h hl
  refine TF.hide fun K hK => ?_
  refine sForCi (it := it) (f := .ref q) (x := .str (Str.ofString "") tk) (b := false) (rest.length + 1) (TokI P L H it q tk (ln + nls rest) rest) ?_ ?_ (fun _ => rfl) (fun _ => rfl)
  · repeat walk_at "my_step"
    exact ⟨B.fi, .go rest ln rfl rfl B rfl (Nat.le_refl _)⟩
  clear B
  rintro m ⟨σH, σl⟩ hI
  cases hI with
  | fin t H1 hm e0 B e1 jt =>
    dsimp only at e0 e1
    subst e0 e1
    refine nextCiEnd (setH_self ..) (hK _ _ ?_)
    repeat walk_at "my_step"
    exact fin _ _ _ _ jt (B.s.set (.inr hit0)) (B.x.put nit) B.n
  | go r ln1 hm e0 B jt jl =>
    dsimp only at e0 B
    subst e0 hm
    refine B.ci G hc (by lia) (fun hr H' B' => hK _ _ ?_) fun ch r hr hch H' ln2 B' => ?_
    · subst hr
      repeat walk_at "my_step"
      exact fin _ _ _ _ jt.symm (B'.s.set (.inr hit0)) (B'.x.put nit) B'.n
    subst hr
    clear B
    simp only [List.length_cons] at jl
    refine aName' (by assumption) (by decide +kernel) ⟨tokLoc L it (Str.ofString "") [(Str.ofString "ch", .str ch)], rfl, ?_⟩
    have hx := B'.x.x
    have hdx := B'.x.dx
    unfold lexFs at hdx
    refine TF.drop ?_
    repeat walk_at "my_step"
    walk_at "my_at"
    repeat walk_at "my_step"
    walk_at "my_attr"
    repeat walk_at "my_step"
    refine ⟨fun hw => ?_, fun hw => ?_⟩
    · replace hw : isWs ch = true := hw
      repeat walk_at "my_step"
      exact tokDrop ⟨r.length + 1, by simp, .go r ln2 rfl rfl B' (by rw [← jt, getTok, if_pos hw]) (by lia)⟩
    rw [getTok, if_neg (by rw [show isWs ch = false from hw]; decide)] at jt
    clear hw
    repeat walk_at "my_step"
    refine ⟨fun hqu => ?_, fun hqu => ?_⟩
    · rw [if_pos (show (ch == qS) = true from hqu)] at jt
      clear hqu hx hdx
      refine sCons ?_
      refine TF.hide fun K2 hK2 => ?_
      refine sForCi (it := it) (f := .ref q) (x := .str (Str.ofString "") tk) (b := false) (r.length + 1) (TokJ P L H it q tk (ln + nls rest) rest (inQuote false)) ?_ ?_ (fun _ => rfl) (fun _ => rfl)
      · repeat walk_at "my_step"
        exact ⟨B'.fi, r, ln2, eS, .str ch, rfl, rfl, B', jt, by have := len_e; simp [eS]; lia⟩
      clear B' jt jl
      rintro m ⟨σH, σl⟩ ⟨r1, ln1, t, x, hm, e0, B, jt, jl⟩
      dsimp only at e0 B
      subst e0 hm
      refine B.ci G hc (by lia) (fun hr H' B' => hK2 _ _ ?_) fun ch r hr hch H' ln2 B' => ?_
      · subst hr
        repeat walk_at "my_step"
        exact tokDrop ⟨0, by simp, .fin t H' rfl rfl (by have e := B'.n; rw [show nls [] = 0 from rfl, Int.add_zero] at e; rwa [e] at B') rfl (by rw [← jt]; simp [inQuote])⟩
      subst hr
      clear B
      simp only [List.length_cons] at jl
      refine aName' (by assumption) (by decide +kernel) ⟨tokLoc L it t [(Str.ofString "ch", .str ch)], rfl, ?_⟩
      have hx := B'.x.x
      have hdx := B'.x.dx
      unfold lexFs at hdx
      rw [inQuote] at jt
      repeat walk_at "my_step"
      refine ⟨fun hd => ?_, fun hd => ?_⟩
      · rw [if_pos (show (ch == qS) = true from hd)] at jt
        repeat walk_at "my_step"
        exact hK2 _ _ (tokDrop (hK _ _ ⟨_, .same, fin _ _ _ _ jt.symm B'.s B'.x B'.n⟩))
      rw [if_neg (by rw [show (ch == qS) = false from hd]; decide)] at jt
      clear hd
      repeat walk_at "my_step"
      refine ⟨fun he => ?_, fun he => ?_⟩
      · rw [if_pos (show (ch == bsS) = true from he)] at jt
        repeat walk_at "my_step"
        refine tMeth0 G ?_ rfl rfl
        repeat walk_at "my_step"
        refine ⟨_, 100, _, _, 83, rfl, rfl, rfl, rfl, ⟨hx, hdx⟩, by walk_at "my_lkN", rfl, (B'.read G hc (by lia) (fun hr H2 B2 => ?_) fun ch2 r2 hr hc2 H2 ln3 B2 => ?_).S⟩
        · subst hr
          repeat walk_at "my_step"
          refine ⟨_, .addS (by rw [sizeLine_eq, len_e]; lia), _, rfl, ?_⟩
          repeat walk_at "my_step"
          exact ⟨1, by simp, [], ln2, t, .str (Str.ofString ""), rfl, by rw [app_nil]; rfl, B2, by rw [← jt]; simp [inQuote], by simp at jl ⊢; lia⟩
        · subst hr
          repeat walk_at "my_step"
          refine ⟨_, .addS (by rw [sizeLine_eq]; lia), _, rfl, ?_⟩
          repeat walk_at "my_step"
          exact ⟨r2.length + 1, by simp, r2, ln3, t ++ ch2, .str ch2, rfl, rfl, B2, by rw [← jt]; simp [inQuote], by rw [app_len]; simp at jl; lia⟩
      · rw [if_neg (by rw [show (ch == bsS) = false from he]; decide)] at jt
        repeat walk_at "my_step"
        refine ⟨_, .addS (by rw [sizeLine_eq]; lia), _, rfl, ?_⟩
        repeat walk_at "my_step"
        exact ⟨r.length + 1, by simp, r, ln2, t ++ ch, .str ch, rfl, rfl, B', jt, by rw [app_len]; lia⟩
    · rw [if_neg (by rw [show (ch == qS) = false from hqu]; decide)] at jt
      clear hqu
      refine sCons ?_
      refine Tr.mono (Q := TokE P L H it q tk (ln + nls rest) rest) ?_ ?_
      · repeat walk_at "my_step"
        refine ⟨fun he => ?_, fun he => ?_⟩
        · rw [if_pos (show (ch == bsS) = true from he)] at jt
          repeat walk_at "my_step"
          refine tMeth0 G ?_ rfl rfl
          repeat walk_at "my_step"
          refine ⟨_, 100, _, _, 83, rfl, rfl, rfl, rfl, ⟨hx, hdx⟩, by walk_at "my_lkN", rfl, (B'.read G hc (by lia) (fun hr H2 B2 => ?_) fun ch2 r2 hr hc2 H2 ln3 B2 => ?_).S⟩
          · subst hr
            repeat walk_at "my_step"
            exact ⟨[], ln2, Str.ofString "", rfl, rfl, B2, by rw [app_nil, ← jt]; simp [inPlain, eS], by rw [len_e]; simp⟩
          · subst hr
            repeat walk_at "my_step"
            exact ⟨r2, ln3, ch2, rfl, rfl, B2, by rw [← jt]; simp [inPlain, eS], by simp at jl; lia⟩
        · rw [if_neg (by rw [show (ch == bsS) = false from he]; decide)] at jt
          repeat walk_at "my_step"
          exact ⟨r, ln2, ch, rfl, rfl, B', jt, by lia⟩
      clear hx hdx B' jt jl hch
      rintro f ⟨σH, σl⟩ ⟨r, ln2, z, rfl, e0, B, jt, jl⟩
      dsimp only at e0 B
      subst e0
      repeat walk_at "my_step"
      refine ⟨_, .addS (by rw [sizeLine_eq, len_e]; lia), _, rfl, ?_⟩
      refine sCons ?_
      refine TF.hide fun K2 hK2 => ?_
      refine sForCi (it := it) (f := .ref q) (x := .str (Str.ofString "") tk) (b := false) (r.length + 1) (TokJ P L H it q tk (ln + nls rest) rest (inPlain false)) ?_ ?_ (fun _ => rfl) (fun _ => rfl)
      · repeat walk_at "my_step"
        exact ⟨B.fi, r, ln2, _, .str z, rfl, rfl, B, jt, by rw [app_len, len_e]; lia⟩
      clear B jt jl
      rintro m ⟨σH, σl⟩ ⟨r1, ln1, t, x, hm, e0, B, jt, jl⟩
      dsimp only at e0 B
      subst e0 hm
      refine B.ci G hc (by lia) (fun hr H' B' => hK2 _ _ ?_) fun ch r hr hch H' ln2 B' => ?_
      · subst hr
        repeat walk_at "my_step"
        exact tokDrop ⟨0, by simp, .fin t H' rfl rfl (by have e := B'.n; rw [show nls [] = 0 from rfl, Int.add_zero] at e; rwa [e] at B') rfl (by rw [← jt]; simp [inPlain])⟩
      subst hr
      clear B
      simp only [List.length_cons] at jl
      refine aName' (by assumption) (by decide +kernel) ⟨tokLoc L it t [(Str.ofString "ch", .str ch)], rfl, ?_⟩
      have hx := B'.x.x
      have hdx := B'.x.dx
      unfold lexFs at hdx
      rw [inPlain] at jt
      repeat walk_at "my_step"
      walk_at "my_at"
      repeat walk_at "my_step"
      walk_at "my_attr"
      repeat walk_at "my_step"
      refine ⟨fun hd => ?_, fun hd => ?_⟩
      · rw [if_pos (show isWs ch = true from hd)] at jt
        repeat walk_at "my_step"
        exact hK2 _ _ (tokDrop (hK _ _ ⟨_, .same, fin _ _ _ _ jt.symm B'.s B'.x B'.n⟩))
      rw [if_neg (by rw [show isWs ch = false from hd]; decide)] at jt
      clear hd
      repeat walk_at "my_step"
      refine ⟨fun he => ?_, fun he => ?_⟩
      · rw [if_pos (show (ch == bsS) = true from he)] at jt
        repeat walk_at "my_step"
        refine tMeth0 G ?_ rfl rfl
        repeat walk_at "my_step"
        refine ⟨_, 100, _, _, 83, rfl, rfl, rfl, rfl, ⟨hx, hdx⟩, by walk_at "my_lkN", rfl, (B'.read G hc (by lia) (fun hr H2 B2 => ?_) fun ch2 r2 hr hc2 H2 ln3 B2 => ?_).S⟩
        · subst hr
          repeat walk_at "my_step"
          refine ⟨_, .addS (by rw [sizeLine_eq, len_e]; lia), _, rfl, ?_⟩
          repeat walk_at "my_step"
          exact ⟨1, by simp, [], ln2, t, .str (Str.ofString ""), rfl, by rw [app_nil]; rfl, B2, by rw [← jt]; simp [inPlain], by simp at jl ⊢; lia⟩
        · subst hr
          repeat walk_at "my_step"
          refine ⟨_, .addS (by rw [sizeLine_eq]; lia), _, rfl, ?_⟩
          repeat walk_at "my_step"
          exact ⟨r2.length + 1, by simp, r2, ln3, t ++ ch2, .str ch2, rfl, rfl, B2, by rw [← jt]; simp [inPlain], by rw [app_len]; simp at jl; lia⟩
      · rw [if_neg (by rw [show (ch == bsS) = false from he]; decide)] at jt
        repeat walk_at "my_step"
        refine ⟨_, .addS (by rw [sizeLine_eq]; lia), _, rfl, ?_⟩
        repeat walk_at "my_step"
        exact ⟨r.length + 1, by simp, r, ln2, t ++ ch, .str ch, rfl, rfl, B', jt, by rw [app_len]; lia⟩
end
end

section
set_option maxHeartbeats 1000000
section
variable {c : Cx} {n : Nat} {H : Addr → Option AO} {P : Params} {L : LexA}
theorem sp_pop {ln : Int} {rest : List Str} {pb : List AV} {w : AV} {Q : AV → (Addr → Option AO) → Prop} (G : Good c (KL P)) (X : LexAt (KL P) L H ln rest (w :: pb)) (hsz : pb.length ≤ 1000)
    (h : ∀ H', Same [L.PB] H H' → LexAt (KL P) L H' ln rest pb → Q w H') : CallC c (n + 1) H (.ref 90) [.obj (.ref L.X)] [] [] Q := by
  refine callDef [Str.ofString "self"] G rfl rfl (fun vs hvs => by obtain ⟨v, rfl⟩ := len1 hvs; rfl) rfl (by dsimp only) (by dsimp only) rfl rfl (by dsimp only [List.zip, List.zipWith]) fun env' S => ?_
  have hx := X.x
  have hdx := X.dx
  have hpb := X.pb
  unfold lexFs at hdx
  repeat walk_at "my_step"
  refine bTruthL ?_ rfl
  walk_at "my_at"
  repeat walk_at "my_step"
  walk_at "my_attr"
  refine ⟨_, _, rfl, hpb, by simp; lia, ?_⟩
  repeat walk_at "my_step"
  walk_at "my_at"
  repeat walk_at "my_step"
  walk_at "my_attr"
  repeat walk_at "my_step"
  refine cPopAt (k := 0) (b := w) hpb (by rw [sizeLine_eq]; simp; lia) (by decide) (seqIndex_nat (j := 0) (by simp)) rfl ?_
  repeat walk_at "my_step"
  refine h _ (Same.refl.set (.inl (by simp))) (X.upd (Same.refl.set (.inl (by simp))) ?_ ?_ ?_)
  · dsimp only; rw [setH_ne _ _ (Ne.symm X.psg)]; exact X.sg
  · dsimp only; rw [setH_ne _ _ X.dpb]; exact X.dx
  · exact setH_self _ _ _
/-! ### the leads -/
noncomputable def tabS : Str := Str.ofString "\t"
noncomputable def spS : Str := Str.ofString " "
/-- counts of runs of blanks ahead of tabs, the blanks behind, signs, tabs -/
structure WsSt where
  (count : List Nat) (b n nt : Nat)
noncomputable def wsTab (w : WsSt) : List Nat := if w.count.length ≤ w.b then w.count ++ List.replicate (w.b - w.count.length + 1) 0 else w.count
noncomputable def wsStep (w : WsSt) (ch : Str) : WsSt :=
  if ch == spS then ⟨w.count, w.b + 1, w.n + 1, w.nt⟩
  else ⟨(wsTab w).set w.b ((wsTab w).getD w.b 0 + 1), 0, w.n + 1, w.nt + 1⟩
noncomputable def wsRun : WsSt → List Str → WsSt
  | w, [] => w
  | w, ch :: r => if ch == spS || ch == tabS then wsRun (wsStep w ch) r else w
noncomputable def sgn (x : Nat) : Str := ⟨#[x]⟩
noncomputable def sgns (x : Str) : List Str := x.cps.toList.map sgn
theorem signsOf_sgns (x : Str) : signsOf x = (sgns x).map .str := by simp [signsOf, sgns, sgn]
noncomputable def wsOf (x : Str) : WsSt := wsRun ⟨[], 0, 0, 0⟩ (sgns x)
noncomputable def wsFs (x : Str) (w : WsSt) : List (Str × AV) := [(Str.ofString "raw", .str x), (Str.ofString "n", nI w.n), (Str.ofString "nt", nI w.nt), (Str.ofString "norm", .tup [.tup (w.count.map nI), nI w.b]), (Str.ofString "is_simple", .bool (decide ((w.count.length : Int) ≤ 1)))]
/-- a Whitespace being made: its attributes, its list of counts -/
structure WsB (H : Addr → Option AO) (x dx : Addr) (fs : List (Str × AV)) (D : Addr) (l : List AV) (H1 : Addr → Option AO) : Prop where
  s : Same [dx] H H1
  fdx : H1 dx = some (.attrs fs)
  fx : H1 x = some (.inst 166 dx)
  fD : H1 D = some (.list l)
  n : H D = none
  d : D ≠ dx
  e : D ≠ x
  xd : x ≠ dx
section
variable {x dx D E : Addr} {fs : List (Str × AV)} {l l' : List AV} {H1 : Addr → Option AO}
theorem WsB.fresh (B : WsB H x dx fs D l H1) (hE : H1 E = none) : H E = none := B.s.none hE (by simpa using neOf hE B.fdx)
theorem WsB.set (B : WsB H x dx fs D l H1) : WsB H x dx fs D l' (setH H1 D (.list l')) :=
  ⟨B.s.set (.inr B.n), (setH_ne _ _ (Ne.symm B.d)).trans B.fdx, (setH_ne _ _ (Ne.symm B.e)).trans B.fx, setH_self .., B.n, B.d, B.e, B.xd⟩
theorem WsB.put {o : AO} (B : WsB H x dx fs D l H1) (hE : H1 E = none) : WsB H x dx fs D l (setH H1 E o) :=
  ⟨B.s.set (.inr (B.fresh hE)), keepNew hE _ B.fdx, keepNew hE _ B.fx, keepNew hE _ B.fD, B.n, B.d, B.e, B.xd⟩
theorem WsB.new (B : WsB H x dx fs D l H1) (hE : H1 E = none) : WsB H x dx fs E l' (setH H1 E (.list l')) :=
  ⟨B.s.set (.inr (B.fresh hE)), keepNew hE _ B.fdx, keepNew hE _ B.fx, setH_self .., B.fresh hE, neOf hE B.fdx, neOf hE B.fx, B.xd⟩
theorem WsB.attr {fs' : List (Str × AV)} (B : WsB H x dx fs D l H1) : WsB H x dx fs' D l (setH H1 dx (.attrs fs')) :=
  ⟨B.s.set (.inl (.head _)), setH_self .., (setH_ne _ _ B.xd).trans B.fx, (setH_ne _ _ B.d).trans B.fD, B.n, B.d, B.e, B.xd⟩
end
noncomputable def wsLoc (x : Addr) (ws : Str) (D : Addr) (b n nt : Nat) (r : List (Str × AV)) : List (Str × AV) :=
  (Str.ofString "self", .obj (.ref x)) :: (Str.ofString "ws", .str ws) :: (Str.ofString "T", .str (Str.ofString "\t")) :: (Str.ofString "S", .str (Str.ofString " ")) :: (Str.ofString "count", .obj (.ref D)) :: (Str.ofString "b", nI b) :: (Str.ofString "n", nI n) :: (Str.ofString "nt", nI nt) :: r
inductive WsI (H : Addr → Option AO) (x dx : Addr) (ws : Str) (i : Nat) (σ : St) : Prop
  | mk (D : Addr) (w : WsSt) : σ.loc = wsLoc x ws D w.b w.n w.nt [] → WsB H x dx [(Str.ofString "raw", .str ws)] D (w.count.map nI) σ.H → wsRun w ((sgns ws).drop i) = wsOf ws → w.b ≤ i → w.count.length ≤ i → WsI H x dx ws i σ
inductive WsE (H : Addr → Option AO) (x dx : Addr) (ws : Str) (f : AF) (σ : St) : Prop
  | mk (D : Addr) : f = .next → σ.loc = wsLoc x ws D (wsOf ws).b (wsOf ws).n (wsOf ws).nt [] → WsB H x dx [(Str.ofString "raw", .str ws)] D ((wsOf ws).count.map nI) σ.H → (wsOf ws).b ≤ 1000 → (wsOf ws).count.length ≤ 1000 → WsE H x dx ws f σ
inductive WsJ (H : Addr → Option AO) (x dx : Addr) (ws : Str) (w : WsSt) (ch : Str) (f : AF) (σ : St) : Prop
  | mk (D : Addr) : f = .next → σ.loc = wsLoc x ws D w.b (w.n + 1) (w.nt + 1) [(Str.ofString "ch", .str ch)] → WsB H x dx [(Str.ofString "raw", .str ws)] D ((wsTab w).map nI) σ.H → WsJ H x dx ws w ch f σ
theorem wsDrop {x D : Addr} {ws ch : Str} {b n nt : Nat} {H1 : Addr → Option AO} {K : St → Prop} (h : K ⟨H1, wsLoc x ws D b n nt []⟩) : DropTo ⟨H1, wsLoc x ws D b n nt [(Str.ofString "ch", .str ch)]⟩ K :=
  ⟨H1, wsLoc x ws D b n nt [], fun _ _ e => e, fun _ _ e => lkApp (l := wsLoc x ws D b n nt []) (r := [(Str.ofString "ch", .str ch)]) e, h⟩
theorem wsTab_len (w : WsSt) {i : Nat} (hb : w.b ≤ i) (hc : w.count.length ≤ i) : w.b < (wsTab w).length ∧ (wsTab w).length ≤ i + 1 := by
  unfold wsTab; split <;> (try simp) <;> lia
theorem sp_winit {x dx : Addr} {ws : Str} {Q : AV → (Addr → Option AO) → Prop} (G : Good c (KL P)) (hx : H x = some (.inst 166 dx)) (hdx : H dx = some (.attrs []))
    (hws : ws.length ≤ 1000) (h : ∀ (H' : Addr → Option AO), Same [dx] H H' → H' dx = some (.attrs (wsFs ws (wsOf ws))) → Q .none H') : CallC c (n + 2) H (.ref 121) [.obj (.ref x), .str ws] [] [] Q := by
  refine callDef [Str.ofString "self", Str.ofString "ws"] G rfl rfl (fun vs hvs => by obtain ⟨v, w, rfl⟩ := len2 hvs; rfl) rfl (by dsimp only) (by dsimp only) rfl rfl (by dsimp only [List.zip, List.zipWith]) fun env' S => ?_
  refine sCons ?_
  refine sSetAttr G ?_ rfl
  repeat walk_at "my_step"
  refine ⟨_, 166, _, _, rfl, rfl, rfl, ⟨hx, hdx⟩, by simp, ?_⟩
  have hxd : x ≠ dx := by rintro rfl; rw [hx] at hdx; cases hdx
  repeat walk_at "my_step"
  refine tClsStr G ?_ (arm_eval_Attribute _ _ _ _) (fun _ _ => rfl)
  repeat walk_at "my_step"
  refine ⟨166, _, _, rfl, rfl, rfl, ?_⟩
  repeat walk_at "my_step"
  refine tClsStr G ?_ (arm_eval_Attribute _ _ _ _) (fun _ _ => rfl)
  repeat walk_at "my_step"
  refine ⟨166, _, _, rfl, rfl, rfl, ?_⟩
  repeat walk_at "my_step"
  intro D hD hDB
  have B : WsB H x dx [(Str.ofString "raw", .str ws)] D [] (setH (setH H dx (.attrs (put [] (Str.ofString "raw") (.str ws)))) D (.list [])) := by
    have a1 : setH H dx (.attrs (put [] (Str.ofString "raw") (.str ws))) dx = some (.attrs [(Str.ofString "raw", .str ws)]) := by rw [setH_self]; rfl
    have a2 : setH H dx (.attrs (put [] (Str.ofString "raw") (.str ws))) x = some (.inst 166 dx) := by rw [setH_ne _ _ hxd]; exact hx
    have a3 : Same [dx] H (setH H dx (.attrs (put [] (Str.ofString "raw") (.str ws)))) := Same.refl.set (.inl (.head _))
    dsimp only at hD
    exact ⟨a3.set (.inr (a3.none hD (by simpa using neOf hD a1))), keepNew hD _ a1, keepNew hD _ a2, setH_self .., a3.none hD (by simpa using neOf hD a1), neOf hD a1, neOf hD a2, hxd⟩
  repeat walk_at "my_step"
  dsimp only
  generalize setH (setH H dx (.attrs (put [] (Str.ofString "raw") (.str ws)))) D (.list []) = H2 at B
  clear hD hx hdx hDB
  refine Tr.mono (Q := WsE H x dx ws) ?_ ?_
  · refine sFor (iStr ?_) (fun _ => rfl)
    walk_at "my_at"
    repeat walk_at "my_step"
    have hx2 := B.fx
    have hdx2 := B.fdx
    walk_at "my_attr"
    clear hx2 hdx2
    refine ⟨_, rfl, WsI H x dx ws, ?_, ?_, ?_⟩
    · exact ⟨D, ⟨[], 0, 0, 0⟩, rfl, B, rfl, Nat.le_refl _, Nat.le_refl _⟩
    · clear B
      rintro i a ⟨σH, σl⟩ ha ⟨D, w, e0, B, hw, hb, hcl⟩
      rw [signsOf_sgns, List.getElem?_map] at ha
      obtain ⟨ch, hch, rfl⟩ := Option.map_eq_some_iff.mp ha
      have hi : i < ws.length := by
        have := (List.getElem?_eq_some_iff.mp hch).1
        show i < ws.cps.size
        simpa [sgns] using this
      have hdr : (sgns ws).drop i = ch :: (sgns ws).drop (i + 1) := by
        obtain ⟨h1, h2⟩ := List.getElem?_eq_some_iff.mp hch
        rw [← h2]; exact List.drop_eq_getElem_cons h1
      rw [hdr, wsRun] at hw
      clear hdr hch ha
      obtain ⟨hlt, hle⟩ := wsTab_len w hb hcl
      have hw1 : w.count.length ≤ 1000 := by lia
      have hw2 : w.b ≤ 1000 := by lia
      have hi2 : i ≤ 1000 := by lia
      clear hi
      dsimp only at e0 B
      subst e0
      refine aName' (by assumption) (by decide +kernel) ⟨wsLoc x ws D w.b w.n w.nt [(Str.ofString "ch", .str ch)], rfl, ?_⟩
      refine TF.drop ?_
      repeat walk_at "my_step"
      refine ⟨fun h1 => ?_, fun h1 => ?_⟩
      · replace h1 : (ch == spS) = true := h1
        rw [if_pos (by simp [h1])] at hw
        have ew : wsStep w ch = ⟨w.count, w.b + 1, w.n + 1, w.nt⟩ := by unfold wsStep; rw [if_pos h1]
        rw [ew] at hw
        repeat walk_at "my_step"
        exact wsDrop (b := w.b + 1) (n := w.n + 1) ⟨D, ⟨w.count, w.b + 1, w.n + 1, w.nt⟩, rfl, B, hw, Nat.succ_le_succ hb, Nat.le_succ_of_le hcl⟩
      · replace h1 : (ch == spS) = false := h1
        repeat walk_at "my_step"
        refine ⟨fun h2 => ?_, fun h2 => ?_⟩
        · replace h2 : (ch == tabS) = true := h2
          rw [if_pos (by simp [h2])] at hw
          have ew : wsStep w ch = ⟨(wsTab w).set w.b ((wsTab w).getD w.b 0 + 1), 0, w.n + 1, w.nt + 1⟩ := by unfold wsStep; rw [if_neg (by rw [h1]; decide)]
          rw [ew] at hw
          clear ew h1 h2
          have hlen : (w.count.map nI).length = w.count.length := List.length_map ..
          repeat walk_at "my_sn"
          walk_at "my_ss"
          walk_at "my_ss"
          refine sCons ?_
          refine Tr.mono (Q := WsJ H x dx ws w ch) ?_ ?_
          · have hD2 := B.fD
            repeat walk_at "my_step"
            refine cLenL (.inl hD2) (by lia) ?_
            rw [hlen]
            repeat walk_at "my_step"
            refine ⟨fun h3 => ?_, fun h3 => ?_⟩
            · have h3' : w.count.length ≤ w.b := by simpa using h3
              repeat walk_at "my_step"
              intro E hE hEB
              dsimp only at hE
              have B3 := B.put (o := .list [.int 0]) hE
              have hE3 : setH σH E (.list [.int 0]) E = some (.list [.int 0]) := setH_self _ _ _
              repeat walk_at "my_step"
              generalize setH σH E (.list [.int 0]) = H3 at B3 hE3
              clear hE B hD2
              have hD3 := B3.fD
              refine cLenL (.inl hD3) (by lia) ?_
              rw [hlen]
              repeat walk_at "my_step"
              refine opListMul hE3 (by simp) (by lia) (by lia) (by simp; lia) fun F hF hfb => ?_
              dsimp only at hF
              rw [List.flatten_replicate_singleton]
              have B4 := B3.put (o := .list (List.replicate ((w.b : Int) - w.count.length + 1).toNat (AV.int 0))) hF
              have hF3 : setH H3 F (.list (List.replicate ((w.b : Int) - w.count.length + 1).toNat (AV.int 0))) F = some _ := setH_self _ _ _
              repeat walk_at "my_step"
              dsimp only
              generalize setH H3 F (.list (List.replicate ((w.b : Int) - w.count.length + 1).toNat (AV.int 0))) = H4 at B4 hF3
              clear B3 hE3 hF hD3
              have ev : w.count.map nI ++ List.replicate ((w.b : Int) - w.count.length + 1).toNat (AV.int 0) = (wsTab w).map nI := by
                unfold wsTab; rw [if_pos h3', show ((w.b : Int) - w.count.length + 1).toNat = w.b - w.count.length + 1 by lia, List.map_append, List.map_replicate]
                rfl
              refine opListAdd B4.fD hF3 (by rw [hlen, List.length_replicate]; lia) fun M hM hMB => ?_
              rw [ev]
              dsimp only at hM
              repeat walk_at "my_step"
              exact ⟨M, rfl, rfl, B4.new hM⟩
            · have h3' : ¬ w.count.length ≤ w.b := by simpa using h3
              repeat walk_at "my_step"
              exact ⟨D, rfl, rfl, by unfold wsTab; rw [if_neg h3']; exact B⟩
          · clear B
            rintro f ⟨σH, σl⟩ ⟨D, rfl, e0, B⟩
            have hgt : ((wsTab w).map nI)[w.b]? = some (nI ((wsTab w).getD w.b 0)) := by simp [hlt]
            have hl2 : ((wsTab w).map nI).length = (wsTab w).length := List.length_map ..
            dsimp only at e0 B
            subst e0
            have hD2 := B.fD
            refine sCons ?_
            refine sSetItem ?_ rfl
            repeat walk_at "my_step"
            refine ⟨_, .listN hD2 hgt (by lia), ?_⟩
            repeat walk_at "my_step"
            refine ⟨_, _, _, rfl, rfl, hD2, by lia, by lia, by lia, ?_⟩
            repeat walk_at "my_step"
            have e1 : ((wsTab w).map nI).set w.b (nI ((wsTab w).getD w.b 0 + 1)) = ((wsTab w).set w.b ((wsTab w).getD w.b 0 + 1)).map nI := (List.map_set ..).symm
            exact wsDrop (b := 0) (n := w.n + 1) (nt := w.nt + 1) ⟨D, ⟨(wsTab w).set w.b ((wsTab w).getD w.b 0 + 1), 0, w.n + 1, w.nt + 1⟩, rfl, by rw [← e1]; exact B.set, hw, Nat.zero_le _, by rw [List.length_set]; exact hle⟩
        · replace h2 : (ch == tabS) = false := h2
          rw [if_neg (by simp [h1, h2])] at hw
          subst hw
          repeat walk_at "my_step"
          exact wsDrop ⟨D, rfl, rfl, B, hw2, hw1⟩
    · rintro ⟨σH, σl⟩ ⟨D, w, e0, B, hw, hb, hcl⟩
      have hl : (signsOf ws).length = ws.length := by simp [signsOf]; rfl
      have hd : (sgns ws).drop (signsOf ws).length = [] := by rw [signsOf_sgns]; simp
      rw [hd, wsRun] at hw
      rw [hl] at hb hcl
      subst hw
      exact ⟨D, rfl, e0, B, by lia, by lia⟩
  · clear B
    rintro f ⟨σH, σl⟩ ⟨D, rfl, e0, B, hb, hcl⟩
    have hle : ((wsOf ws).count.map nI).length = (wsOf ws).count.length := List.length_map ..
    dsimp only at e0 B
    subst e0
    unfold wsFs at h
    generalize wsOf ws = w at *
    refine sCons ?_
    refine sSetAttr G ?_ rfl
    repeat walk_at "my_step"
    refine ⟨_, 166, _, _, rfl, rfl, rfl, ⟨B.fx, B.fdx⟩, Nat.le_of_ble_eq_true rfl, ?_⟩
    have B2 := B.attr (fs' := put [(Str.ofString "raw", .str ws)] (Str.ofString "n") (nI w.n))
    dsimp only
    generalize setH σH dx (.attrs (put [(Str.ofString "raw", .str ws)] (Str.ofString "n") (nI w.n))) = H5 at B2 ⊢
    clear B
    refine sCons ?_
    refine sSetAttr G ?_ rfl
    repeat walk_at "my_step"
    refine ⟨_, 166, _, _, rfl, rfl, rfl, ⟨B2.fx, B2.fdx⟩, Nat.le_of_ble_eq_true rfl, ?_⟩
    have B3 := B2.attr (fs' := put (put [(Str.ofString "raw", .str ws)] (Str.ofString "n") (nI w.n)) (Str.ofString "nt") (nI w.nt))
    dsimp only
    generalize setH H5 dx (.attrs (put (put [(Str.ofString "raw", .str ws)] (Str.ofString "n") (nI w.n)) (Str.ofString "nt") (nI w.nt))) = H6 at B3 ⊢
    clear B2
    refine sCons ?_
    refine sSetAttr G ?_ rfl
    repeat walk_at "my_step"
    refine cTuple B3.fD (by lia) ?_
    repeat walk_at "my_step"
    refine ⟨_, 166, _, _, rfl, rfl, rfl, ⟨B3.fx, B3.fdx⟩, Nat.le_of_ble_eq_true rfl, ?_⟩
    have B4 := B3.attr (fs' := put (put (put [(Str.ofString "raw", .str ws)] (Str.ofString "n") (nI w.n)) (Str.ofString "nt") (nI w.nt)) (Str.ofString "norm") (.tup [.tup (w.count.map nI), nI w.b]))
    dsimp only
    generalize setH H6 dx (.attrs (put (put (put [(Str.ofString "raw", .str ws)] (Str.ofString "n") (nI w.n)) (Str.ofString "nt") (nI w.nt)) (Str.ofString "norm") (.tup [.tup (w.count.map nI), nI w.b]))) = H7 at B4 ⊢
    clear B3
    refine sCons ?_
    refine sSetAttr G ?_ rfl
    repeat walk_at "my_step"
    refine cLenL (.inl B4.fD) (by lia) ?_
    rw [hle]
    repeat walk_at "my_step"
    refine ⟨_, 166, _, _, rfl, rfl, rfl, ⟨B4.fx, B4.fdx⟩, Nat.le_of_ble_eq_true rfl, ?_⟩
    have B5 := B4.attr (fs' := put (put (put (put [(Str.ofString "raw", .str ws)] (Str.ofString "n") (nI w.n)) (Str.ofString "nt") (nI w.nt)) (Str.ofString "norm") (.tup [.tup (w.count.map nI), nI w.b])) (Str.ofString "is_simple") (.bool (decide ((w.count.length : Int) ≤ 1))))
    dsimp only
    generalize setH H7 dx (.attrs (put (put (put (put [(Str.ofString "raw", .str ws)] (Str.ofString "n") (nI w.n)) (Str.ofString "nt") (nI w.nt)) (Str.ofString "norm") (.tup [.tup (w.count.map nI), nI w.b])) (Str.ofString "is_simple") (.bool (decide ((w.count.length : Int) ≤ 1))))) = H8 at B5 ⊢
    clear B4
    repeat walk_at "my_step"
    exact h _ B5.s B5.fdx
end
end

section
set_option maxHeartbeats 1000000
section
variable {c : Cx} {n : Nat} {H : Addr → Option AO} {P : Params} {L : LexA}
structure WsAt (H : Addr → Option AO) (x dx : Addr) (ws : Str) : Prop where
  obj : H x = some (.inst 166 dx)
  dict : H dx = some (.attrs (wsFs ws (wsOf ws)))
theorem sp_ws {ws : Str} {Q : AV → (Addr → Option AO) → Prop} (G : Good c (KL P)) (hws : ws.length ≤ 1000)
    (h : ∀ x dx H', H x = none → H dx = none → Same [] H H' → WsAt H' x dx ws → Q (.obj (.ref x)) H') : CallC c (n + 3) H (.ref 166) [.str ws] [] [] Q := by
  refine callC_make G rfl rfl rfl fun x dx hx hdx hne hxB hdB => ?_
  refine sp_winit G (setH_self _ _ _) ((setH_ne _ _ (Ne.symm hne)).trans (setH_self _ _ _)) hws fun H' s e => ⟨rfl, h x dx H' hx hdx ?_ ⟨s _ _ (by simpa using hne) (setH_self _ _ _), e⟩⟩
  intro a o _ ha
  have h1 : a ≠ x := by rintro rfl; rw [hx] at ha; cases ha
  have h2 : a ≠ dx := by rintro rfl; rw [hdx] at ha; cases ha
  exact s a o (by simpa using h2) ((setH_ne _ _ h1).trans ((setH_ne _ _ h2).trans ha))
noncomputable def longOf (w : WsSt) : Int := if (w.count.length : Int) - 1 < w.b then (w.b : Int) else (w.count.length : Int) - 1
theorem sp_long {x dx : Addr} {ws : Str} {Q : AV → (Addr → Option AO) → Prop} (G : Good c (KL P)) (W : WsAt H x dx ws) (hl : (wsOf ws).count.length ≤ 1000)
    (h : Q (.int (longOf (wsOf ws))) H) : CallC c (n + 1) H (.ref 128) [.obj (.ref x)] [] [] Q := by
  refine callDef [Str.ofString "self"] G rfl rfl (fun vs hvs => by obtain ⟨v, rfl⟩ := len1 hvs; rfl) rfl (by dsimp only) (by dsimp only) rfl rfl (by dsimp only [List.zip, List.zipWith]) fun env' S => ?_
  have hx := W.obj
  have hdx := W.dict
  unfold wsFs at hdx
  repeat walk_at "my_step"
  walk_at "my_at"
  repeat walk_at "my_step"
  walk_at "my_attr"
  repeat walk_at "my_step"
  refine cLenT (by simp; lia) ?_
  rw [List.length_map]
  repeat walk_at "my_step"
  refine cMax2I ?_
  repeat walk_at "my_step"
  exact h
noncomputable def ilN (w : WsSt) (ts : Nat) : Nat → Nat
  | 0 => 0
  | k + 1 => ilN w ts k + (ts + k) / ts * w.count.getD (ts + k) 0
noncomputable def indentOf (w : WsSt) (ts : Nat) : Nat := w.b + ts * (ilN w ts (w.count.length - ts) + w.nt)
theorem fdivN (a b : Nat) : ((a : Nat) : Int).fdiv (b : Nat) = ((a / b : Nat) : Int) := by
  rw [Int.fdiv_eq_ediv_of_nonneg _ (by lia)]; simp
theorem mulOkN {x : Nat} {b : Int} (h : x < 2 ^ 60) : IntMulOk (x : Int) b := IntMulOk.of_left (intBits_le_iff.mpr (by simp; lia))
theorem sp_indent {x dx : Addr} {ws : Str} {ts : Nat} {Q : AV → (Addr → Option AO) → Prop} (G : Good c (KL P)) (W : WsAt H x dx ws) (hl : (wsOf ws).count.length ≤ 1000) (h1 : 0 < ts) (h2 : ts ≤ 2000)
    (h : Q (nI (indentOf (wsOf ws) ts)) H) : CallC c (n + 1) H (.ref 135) [.obj (.ref x), nI ts] [] [] Q := by
  refine callDef [Str.ofString "self", Str.ofString "tabsize"] G rfl rfl (fun vs hvs => by obtain ⟨v, w, rfl⟩ := len2 hvs; rfl) rfl (by dsimp only) (by dsimp only) rfl rfl (by dsimp only [List.zip, List.zipWith]) fun env' S => ?_
  have hx := W.obj
  have hdx := W.dict
  unfold wsFs at hdx
  have hll : ((wsOf ws).count.map nI).length = (wsOf ws).count.length := by simp
  repeat walk_at "my_step"
  walk_at "my_at"
  repeat walk_at "my_step"
  walk_at "my_attr"
  repeat walk_at "my_step"
  refine Tr.mono (Q := fun f σ => f = AF.next ∧ σ = ⟨H, [(Str.ofString "self", .obj (.ref x)), (Str.ofString "tabsize", nI ts), (Str.ofString "count", .tup ((wsOf ws).count.map nI)), (Str.ofString "trailing", nI (wsOf ws).b), (Str.ofString "il", nI (ilN (wsOf ws) ts ((wsOf ws).count.length - ts)))]⟩) ?_ ?_
  · refine sFor (iRangeN ?_) (fun _ => rfl)
    repeat walk_at "my_step"
    refine cLenT (by rw [hll]; lia) ?_
    rw [hll]
    repeat walk_at "my_step"
    refine cRange2 ?_
    refine ⟨_, _, rfl, by lia, by lia, fun k σ => σ = ⟨H, [(Str.ofString "self", .obj (.ref x)), (Str.ofString "tabsize", nI ts), (Str.ofString "count", .tup ((wsOf ws).count.map nI)), (Str.ofString "trailing", nI (wsOf ws).b), (Str.ofString "il", nI (ilN (wsOf ws) ts k))]⟩, rfl, ?_, ?_⟩
    · rintro k a _ ha rfl
      rw [List.getElem?_map] at ha
      obtain ⟨k', hk, rfl⟩ := Option.map_eq_some_iff.mp ha
      obtain ⟨hk1, hk2⟩ := List.getElem?_eq_some_iff.mp hk
      rw [List.getElem_range] at hk2
      subst hk2
      rw [List.length_range] at hk1
      have hget : ((wsOf ws).count.map nI)[ts + k]? = some (nI ((wsOf ws).count.getD (ts + k) 0)) := by simp [show ts + k < (wsOf ws).count.length by lia]
      refine aName' (by assumption) (by decide +kernel) ⟨_, by walk_at "my_put", ?_⟩
      refine TF.drop ?_
      repeat walk_at "my_step"
      refine ⟨_, .tupN hget (by rw [hll]; lia), ?_⟩
      rw [fdivN]
      refine BinR.ok (.mulI (mulOkN (Nat.lt_of_le_of_lt (Nat.div_le_self _ _) (by lia)))) ?_
      repeat walk_at "my_step"
      exact ⟨H, [(Str.ofString "self", .obj (.ref x)), (Str.ofString "tabsize", nI ts), (Str.ofString "count", .tup ((wsOf ws).count.map nI)), (Str.ofString "trailing", nI (wsOf ws).b), (Str.ofString "il", nI (ilN (wsOf ws) ts (k + 1)))], fun _ _ e => e, fun _ _ e => lkApp (l := [(Str.ofString "self", .obj (.ref x)), (Str.ofString "tabsize", nI ts), (Str.ofString "count", .tup ((wsOf ws).count.map nI)), (Str.ofString "trailing", nI (wsOf ws).b), (Str.ofString "il", nI (ilN (wsOf ws) ts (k + 1)))]) (r := [(Str.ofString "i", nI (ts + k))]) e, rfl⟩
    · rintro _ rfl
      rw [List.length_map, List.length_range]
      exact ⟨rfl, rfl⟩
  · rintro f _ ⟨rfl, rfl⟩
    repeat walk_at "my_step"
    walk_at "my_at"
    repeat walk_at "my_step"
    walk_at "my_attr"
    repeat walk_at "my_step"
    refine BinR.ok (.mulI (mulOkN (by lia))) ?_
    repeat walk_at "my_step"
    exact h
theorem eqInts : ∀ (l l' : List Nat) (d : Nat), (((List.range (min (l.map nI).length (l'.map nI).length)).all fun j => eqB d ((l.map nI).getD j .none) ((l'.map nI).getD j .none)) && (l.map nI).length == (l'.map nI).length) = (l == l') := by
  intro l l' d
  rw [Bool.eq_iff_iff]
  simp only [Bool.and_eq_true, List.all_eq_true, List.mem_range, beq_iff_eq, List.length_map]
  constructor
  · rintro ⟨h1, h2⟩
    refine List.ext_getElem h2 fun j a b => ?_
    have := h1 j (by lia)
    simp [a, b] at this
    cases d <;> (simp [eqB] at this; lia)
  · rintro rfl
    refine ⟨fun j hj => ?_, rfl⟩
    have hj' : j < l.length := by lia
    simp [hj']
    cases d <;> simp [eqB]
theorem eqNorm (l l' : List Nat) (b b' : Nat) : eqB 2 (.tup [.tup (l.map nI), nI b]) (.tup [.tup (l'.map nI), nI b']) = (l == l' && b == b') := by
  have e : eqB 1 (.tup (l.map nI)) (.tup (l'.map nI)) = (l == l') := by rw [eqB]; exact eqInts l l' 0
  have e2 : ((b : Int) == (b' : Int)) = (b == b') := by rw [Bool.eq_iff_iff]; simp; lia
  rw [eqB]
  simp only [List.length_cons, List.length_nil, Nat.min_self, List.range_succ, List.range_zero, List.nil_append, List.all_append, List.all_cons, List.all_nil, List.getD_cons_zero, List.getD_cons_succ, Bool.and_true, List.cons_append]
  rw [e, eqB, e2]
  simp
theorem sp_equal {x dx y dy : Addr} {ws ws' : Str} {Q : AV → (Addr → Option AO) → Prop} (G : Good c (KL P)) (hc : csOk (KL P) = true) (W : WsAt H x dx ws) (W' : WsAt H y dy ws')
    (h : Q (.bool ((wsOf ws).count == (wsOf ws').count && (wsOf ws).b == (wsOf ws').b)) H) : CallC c (n + 1) H (.ref 142) [.obj (.ref x), .obj (.ref y)] [] [] Q := by
  refine callDef [Str.ofString "self", Str.ofString "other"] G rfl rfl (fun vs hvs => by obtain ⟨v, w, rfl⟩ := len2 hvs; rfl) rfl (by dsimp only) (by dsimp only) rfl rfl (by dsimp only [List.zip, List.zipWith]) fun env' S => ?_
  have hx := W.obj
  have hdx := W.dict
  have hy := W'.obj
  have hdy := W'.dict
  unfold wsFs at hdx hdy
  repeat walk_at "my_step"
  walk_at "my_at"
  repeat walk_at "my_step"
  refine ⟨_, 166, _, _, _, rfl, rfl, rfl, ⟨hx, hdx⟩, by walk_at "my_lk", (by intro w e; cases e), ?_⟩
  walk_at "my_at"
  repeat walk_at "my_step"
  refine ⟨_, 166, _, _, _, rfl, rfl, rfl, ⟨hy, hdy⟩, by walk_at "my_lk", (by intro w e; cases e), ?_⟩
  refine opTupEq (d := 2) G hc (by lia) ?_ ?_ ?_ ?_
  · simp [datB]
  · simp [datB]
  · refine .tup _ _ fun j a b h1 h2 => ?_
    rcases j with _ | _ | j
    · simp at h1 h2
      subst h1 h2
      refine .tup _ _ fun j a b h1 h2 => ?_
      rw [List.getElem?_map] at h1 h2
      obtain ⟨u, _, rfl⟩ := Option.map_eq_some_iff.mp h1
      obtain ⟨v, _, rfl⟩ := Option.map_eq_some_iff.mp h2
      exact .int _ _
    · simp at h1 h2
      subst h1 h2
      exact .int _ _
    · simp at h1
  · repeat walk_at "my_step"
    rw [eqNorm]
    exact h
/-- less, as the code has it -/
noncomputable def lessAll (w w' : WsSt) (m : Nat) : Bool := (List.range (m - 2 + 1)).all fun k => if k + 2 ≤ m then decide (indentOf w (k + 2) < indentOf w' (k + 2)) else true
noncomputable def lessOf (w w' : WsSt) : Bool :=
  if w'.n ≤ w.n then false
  else if w.count.length ≤ 1 && w'.count.length ≤ 1 then decide (w.nt ≤ w'.nt)
  else (List.range ((if longOf w < longOf w' then longOf w' else longOf w) + 1 + 1 - 2).toNat).all fun k => decide (indentOf w (2 + k) < indentOf w' (2 + k))
theorem sp_less {x dx y dy : Addr} {ws ws' : Str} {Q : AV → (Addr → Option AO) → Prop} (G : Good c (KL P)) (W : WsAt H x dx ws) (W' : WsAt H y dy ws') (hl : (wsOf ws).count.length ≤ 1000) (hl' : (wsOf ws').count.length ≤ 1000)
    (hb : (wsOf ws).b ≤ 1000) (hb' : (wsOf ws').b ≤ 1000) (h : Q (.bool (lessOf (wsOf ws) (wsOf ws'))) H) : CallC c (n + 2) H (.ref 156) [.obj (.ref x), .obj (.ref y)] [] [] Q := by
  refine callDef [Str.ofString "self", Str.ofString "other"] G rfl rfl (fun vs hvs => by obtain ⟨v, w, rfl⟩ := len2 hvs; rfl) rfl (by dsimp only) (by dsimp only) rfl rfl (by dsimp only [List.zip, List.zipWith]) fun env' S => ?_
  have hx := W.obj
  have hdx := W.dict
  have hy := W'.obj
  have hdy := W'.dict
  unfold wsFs at hdx hdy
  unfold lessOf at h
  repeat walk_at "my_step"
  walk_at "my_at"
  repeat walk_at "my_step"
  refine ⟨_, 166, _, _, _, rfl, rfl, rfl, ⟨hx, hdx⟩, by walk_at "my_lk", (by intro w e; cases e), ?_⟩
  walk_at "my_at"
  repeat walk_at "my_step"
  refine ⟨_, 166, _, _, _, rfl, rfl, rfl, ⟨hy, hdy⟩, by walk_at "my_lk", (by intro w e; cases e), ?_⟩
  repeat walk_at "my_step"
  refine ⟨fun h1 => ?_, fun h1 => ?_⟩
  · rw [if_pos (by simpa using h1)] at h
    repeat walk_at "my_step"
    exact h
  rw [if_neg (by simpa using h1)] at h
  repeat walk_at "my_sn"
  refine sCons ?_
  have d1 : ∀ k : Nat, decide ((k : Int) ≤ 1) = decide (k ≤ 1) := fun k => by rw [decide_eq_decide]; lia
  refine Tr.mono (Q := fun f σ => σ = ⟨H, [(Str.ofString "self", .obj (.ref x)), (Str.ofString "other", .obj (.ref y))]⟩ ∧ ((((decide ((wsOf ws).count.length ≤ 1) && decide ((wsOf ws').count.length ≤ 1)) = true) ∧ f = .ret (.bool (decide ((wsOf ws).nt ≤ (wsOf ws').nt)))) ∨ (((decide ((wsOf ws).count.length ≤ 1) && decide ((wsOf ws').count.length ≤ 1)) = false) ∧ f = .next))) ?_ ?_
  · repeat walk_at "my_step"
    refine bBool (b := true) ?_ rfl
    walk_at "my_at"
    repeat walk_at "my_step"
    refine ⟨_, 166, _, _, _, rfl, rfl, rfl, ⟨hx, hdx⟩, by walk_at "my_lk", (by intro w e; cases e), ?_⟩
    rw [d1]
    refine ⟨_, rfl, fun s1 => ?_, fun s1 => ?_⟩
    · refine bBool (b := true) ?_ rfl
      walk_at "my_at"
      repeat walk_at "my_step"
      refine ⟨_, 166, _, _, _, rfl, rfl, rfl, ⟨hy, hdy⟩, by walk_at "my_lk", (by intro w e; cases e), ?_⟩
      rw [d1]
      refine ⟨_, rfl, fun s2 => ?_, fun s2 => ?_⟩
      · repeat walk_at "my_step"
        walk_at "my_at"
        repeat walk_at "my_step"
        refine ⟨_, 166, _, _, _, rfl, rfl, rfl, ⟨hx, hdx⟩, by walk_at "my_lk", (by intro w e; cases e), ?_⟩
        walk_at "my_at"
        repeat walk_at "my_step"
        refine ⟨_, 166, _, _, _, rfl, rfl, rfl, ⟨hy, hdy⟩, by walk_at "my_lk", (by intro w e; cases e), ?_⟩
        repeat walk_at "my_step"
        refine .inl ⟨by rw [s1, s2]; rfl, ?_⟩
        congr 2
        rw [decide_eq_decide]; lia
      · repeat walk_at "my_step"
        exact .inr ⟨by rw [s1, s2]; rfl, rfl⟩
    · refine ifF rfl ?_
      repeat walk_at "my_step"
      exact .inr ⟨by rw [s1]; rfl, rfl⟩
  rintro f _ ⟨rfl, ⟨hs, rfl⟩ | ⟨hs, rfl⟩⟩
  · rw [if_pos (by simpa using hs)] at h
    repeat walk_at "my_step"
    exact h
  rw [if_neg (by rw [show (decide ((wsOf ws).count.length ≤ 1) && decide ((wsOf ws').count.length ≤ 1)) = false from hs]; decide)] at h
  repeat walk_at "my_step"
  refine tMeth0 G ?_ rfl rfl
  repeat walk_at "my_step"
  refine ⟨_, 166, _, _, 128, rfl, rfl, rfl, rfl, ⟨hx, hdx⟩, by walk_at "my_lkN", rfl, (sp_long G W hl ?_).S⟩
  repeat walk_at "my_step"
  refine tMeth0 G ?_ rfl rfl
  repeat walk_at "my_step"
  refine ⟨_, 166, _, _, 128, rfl, rfl, rfl, rfl, ⟨hy, hdy⟩, by walk_at "my_lkN", rfl, (sp_long G W' hl' ?_).S⟩
  repeat walk_at "my_step"
  refine cMax2I ?_
  have hm : -1 ≤ (if longOf (wsOf ws) < longOf (wsOf ws') then longOf (wsOf ws') else longOf (wsOf ws)) ∧ (if longOf (wsOf ws) < longOf (wsOf ws') then longOf (wsOf ws') else longOf (wsOf ws)) ≤ 1000 := by
    unfold longOf; constructor <;> (repeat split) <;> lia
  generalize (if longOf (wsOf ws) < longOf (wsOf ws') then longOf (wsOf ws') else longOf (wsOf ws)) = mx at hm h
  obtain ⟨m, rfl⟩ : ∃ m : Nat, mx = (m : Int) - 1 := ⟨(mx + 1).toNat, by lia⟩
  repeat walk_at "my_step"
  dsimp only
  refine sFor (iRangeN ?_) (fun _ => rfl)
  repeat walk_at "my_step"
  rw [show (m : Int) - 1 + 1 + 1 = ((m + 1 : Nat) : Int) by lia]
  refine cRange2 ?_
  rw [show ((m : Int) - 1 + 1 + 1 - 2).toNat = m + 1 - 2 by lia] at h
  refine ⟨2, m + 1, rfl, by lia, by lia, fun k σ => σ = ⟨H, [(Str.ofString "self", .obj (.ref x)), (Str.ofString "other", .obj (.ref y)), (Str.ofString "n", .int ((m : Int) - 1 + 1))]⟩ ∧ ∀ j < k, indentOf (wsOf ws) (2 + j) < indentOf (wsOf ws') (2 + j), ⟨rfl, fun j hj => absurd hj (by lia)⟩, ?_, ?_⟩
  · rintro k a _ ha ⟨rfl, hk⟩
    rw [List.getElem?_map] at ha
    obtain ⟨k', hk', rfl⟩ := Option.map_eq_some_iff.mp ha
    obtain ⟨hk1, hk2⟩ := List.getElem?_eq_some_iff.mp hk'
    rw [List.getElem_range] at hk2
    subst hk2
    rw [List.length_range] at hk1
    refine aName' (by assumption) (by decide +kernel) ⟨_, by walk_at "my_put", ?_⟩
    refine TF.drop ?_
    repeat walk_at "my_step"
    refine tMeth G ?_ rfl rfl rfl rfl rfl rfl
    repeat walk_at "my_step"
    refine ⟨_, 166, _, _, 135, rfl, rfl, rfl, rfl, ⟨hx, hdx⟩, by walk_at "my_lkN", rfl, ?_⟩
    repeat walk_at "my_step"
    refine (sp_indent (G := G) W hl (by lia) (by lia) ?_).S
    repeat walk_at "my_step"
    refine tMeth G ?_ rfl rfl rfl rfl rfl rfl
    repeat walk_at "my_step"
    refine ⟨_, 166, _, _, 135, rfl, rfl, rfl, rfl, ⟨hy, hdy⟩, by walk_at "my_lkN", rfl, ?_⟩
    repeat walk_at "my_step"
    refine (sp_indent (G := G) W' hl' (by lia) (by lia) ?_).S
    repeat walk_at "my_step"
    refine ⟨fun g => ?_, fun g => ?_⟩
    · have g' : ¬ indentOf (wsOf ws) (2 + k) < indentOf (wsOf ws') (2 + k) := by
        have h0 : ((indentOf (wsOf ws') (2 + k) : Nat) : Int) ≤ (indentOf (wsOf ws) (2 + k) : Nat) := by simpa using g
        lia
      rw [show ((List.range (m + 1 - 2)).all fun k => decide (indentOf (wsOf ws) (2 + k) < indentOf (wsOf ws') (2 + k))) = false from List.all_eq_false.mpr ⟨k, List.mem_range.mpr hk1, by simpa using g'⟩] at h
      refine sCons ?_
      refine sReturn ?_
      refine tBool ?_
      exact ⟨_, [], fun _ _ e => e, (fun _ _ e => by cases e), _, .same, h⟩
    · have g' : indentOf (wsOf ws) (2 + k) < indentOf (wsOf ws') (2 + k) := by
        have h0 : ¬ ((indentOf (wsOf ws') (2 + k) : Nat) : Int) ≤ (indentOf (wsOf ws) (2 + k) : Nat) := by simpa using g
        lia
      refine sNil ?_
      refine sNil ?_
      refine ⟨H, [(Str.ofString "self", .obj (.ref x)), (Str.ofString "other", .obj (.ref y)), (Str.ofString "n", .int ((m : Int) - 1 + 1))], fun _ _ e => e, fun _ _ e => lkApp (l := [(Str.ofString "self", .obj (.ref x)), (Str.ofString "other", .obj (.ref y)), (Str.ofString "n", .int ((m : Int) - 1 + 1))]) (r := [(Str.ofString "ts", nI (2 + k))]) e, rfl, fun j hj => ?_⟩
      rcases Nat.lt_succ_iff_lt_or_eq.mp hj with hj | rfl
      · exact hk j hj
      · exact g'
  · rintro _ ⟨rfl, hk⟩
    rw [List.length_map, List.length_range] at hk
    rw [show ((List.range (m + 1 - 2)).all fun k => decide (indentOf (wsOf ws) (2 + k) < indentOf (wsOf ws') (2 + k))) = true by simpa using hk] at h
    repeat walk_at "my_step"
    exact h
end
end

section
set_option maxHeartbeats 1000000
section
variable {c : Cx} {n : Nat} {H : Addr → Option AO} {P : Params} {L : LexA}
noncomputable def lastS (w : Str) : Str := Txt.item w (-1)
theorem sp_name {w : Str} {Q : AV → (Addr → Option AO) → Prop} (G : Good c (KL P)) (hw : 0 < w.length) (h : Q (.str (lastS w)) H) : CallC c (n + 1) H (.ref 213) [.str w] [] [] Q := by
  refine callDef [Str.ofString "word"] G rfl rfl (fun vs hvs => by obtain ⟨v, rfl⟩ := len1 hvs; rfl) rfl (by dsimp only) (by dsimp only) rfl rfl (by dsimp only [List.zip, List.zipWith]) fun env' S => ?_
  repeat walk_at "my_step"
  refine ⟨_, .str (by decide) (by lia) (by lia), ?_⟩
  repeat walk_at "my_step"
  exact h
noncomputable def six : List Str := [Str.ofString "\"", Str.ofString "#", Str.ofString "\\", Str.ofString "a", Str.ofString "b", Str.ofString "c"]
noncomputable def satOf (r : Nat) : UInt64 := if r % 2 = 0 then 4607182418800017408 else 4602678819172646912
noncomputable def valOf (r : Nat) : UInt64 := if r / 2 = 0 then 4607182418800017408 else if r / 2 = 1 then 4602678819172646912 else 4598175219545276416
theorem two {α β : Type} {P : α → β → Prop} {x x' : α} {y y' : β} (h1 : x = x') (h2 : y = y') (h : P x y) : P x' y' := h1 ▸ h2 ▸ h
theorem sp_light {r : Nat} {nm : Str} {Q : AV → (Addr → Option AO) → Prop} (G : Good c (KL P)) (hr : six[r]? = some nm) (h : Q (.tup [.float (satOf r), .float (valOf r)]) H) : CallC c (n + 1) H (.ref 199) [.str nm] [] [] Q := by
  refine callDef [Str.ofString "name"] G rfl rfl (fun vs hvs => by obtain ⟨v, rfl⟩ := len1 hvs; rfl) rfl (by dsimp only) (by dsimp only) rfl rfl (by dsimp only [List.zip, List.zipWith]) fun env' S => ?_
  repeat walk_at "my_step"
  refine cFind ?_
  have hlt : r < 6 := by
    rcases Nat.lt_or_ge r 6 with h | h
    · exact h
    · rw [List.getElem?_eq_none (by simpa [six] using h)] at hr; cases hr
  have hf : Txt.find (Str.ofString "\"#\\abc") nm = (r : Int) := by
    rcases (by lia : r = 0 ∨ r = 1 ∨ r = 2 ∨ r = 3 ∨ r = 4 ∨ r = 5) with rfl | rfl | rfl | rfl | rfl | rfl <;> (simp [six] at hr; subst hr; decide +kernel)
  rw [hf]
  clear hf hr
  rcases (by lia : r = 0 ∨ r = 1 ∨ r = 2 ∨ r = 3 ∨ r = 4 ∨ r = 5) with rfl | rfl | rfl | rfl | rfl | rfl
  · repeat walk_at "my_step"
    refine ⟨_, .tup (j := 0) (by decide) rfl (by decide) (by decide), ?_⟩
    repeat walk_at "my_step"
    refine two (P := fun x y => Q (.tup [.float x, .float y]) H) ?e1 ?e2 h
    case e1 => decide +kernel
    case e2 => decide +kernel
  · repeat walk_at "my_step"
    refine ⟨_, .tup (j := 0) (by decide) rfl (by decide) (by decide), ?_⟩
    repeat walk_at "my_step"
    refine two (P := fun x y => Q (.tup [.float x, .float y]) H) ?e1 ?e2 h
    case e1 => decide +kernel
    case e2 => decide +kernel
  · repeat walk_at "my_step"
    refine ⟨_, .tup (j := 1) (by decide) rfl (by decide) (by decide), ?_⟩
    repeat walk_at "my_step"
    refine two (P := fun x y => Q (.tup [.float x, .float y]) H) ?e1 ?e2 h
    case e1 => decide +kernel
    case e2 => decide +kernel
  · repeat walk_at "my_step"
    refine ⟨_, .tup (j := 1) (by decide) rfl (by decide) (by decide), ?_⟩
    repeat walk_at "my_step"
    refine two (P := fun x y => Q (.tup [.float x, .float y]) H) ?e1 ?e2 h
    case e1 => decide +kernel
    case e2 => decide +kernel
  · repeat walk_at "my_step"
    refine ⟨_, .tup (j := 2) (by decide) rfl (by decide) (by decide), ?_⟩
    repeat walk_at "my_step"
    refine two (P := fun x y => Q (.tup [.float x, .float y]) H) ?e1 ?e2 h
    case e1 => decide +kernel
    case e2 => decide +kernel
  · repeat walk_at "my_step"
    refine ⟨_, .tup (j := 2) (by decide) rfl (by decide) (by decide), ?_⟩
    repeat walk_at "my_step"
    refine two (P := fun x y => Q (.tup [.float x, .float y]) H) ?e1 ?e2 h
    case e1 => decide +kernel
    case e2 => decide +kernel
end
end

section
set_option maxHeartbeats 1000000
section
variable {c : Cx} {n : Nat} {H : Addr → Option AO} {P : Params} {L : LexA}
theorem capL {n : Str} {r : List (Str × NameKind)} {loc : List (Str × AV)} {t : List (Str × AV)} (e : captOf r loc = t) : captOf ((n, .local) :: r) loc = t := by rw [← e]; rfl
theorem capF {n : Str} {r : List (Str × NameKind)} {loc : List (Str × AV)} {t : List (Str × AV)} {a : AV} (h : lk loc n = some a) (e : captOf r loc = t) : captOf ((n, .free) :: r) loc = (n, a) :: t := by
  unfold captOf; rw [if_pos (show (NameKind.free == NameKind.free) = true from rfl), h, e]
theorem filt1 {α : Type} {f : α → Bool} {l : List α} {q : α} (h : f q = true) : (l ++ [q]).filter f = l.filter f ++ [q] := by simp [List.filter_append, List.filter_cons, h]
theorem filt0 {α : Type} {f : α → Bool} {l : List α} {q : α} (h : f q = false) : (l ++ [q]).filter f = l.filter f := by simp [List.filter_append, List.filter_cons, h]
noncomputable def takenBy (cols : List Nat) (place : Nat) (k : Nat) : Bool := decide (k + 1 ≤ (cols.filter fun (q : Nat) => decide (((place : Int) - (q : Int)).fmod 8 < ((1 + k : Nat) : Int))).length)
noncomputable def takenOf (cols : List Nat) (place : Nat) : Bool := (List.range cols.length).any (takenBy cols place)
theorem sp_taken {D : Addr} {cols : List Nat} {place : Nat} {Q : AV → (Addr → Option AO) → Prop} (G : Good c (KL P)) (hD : H D = some (.list (cols.map nI))) (hl : cols.length ≤ 100)
    (h : ∀ H', Same [] H H' → Q (.bool (takenOf cols place)) H') : CallC c (n + 1) H (.ref 225) [.obj (.ref D), nI place] [] [] Q := by
  refine callDef [Str.ofString "columns", Str.ofString "place"] G rfl rfl (fun vs hvs => by obtain ⟨v, w, rfl⟩ := len2 hvs; rfl) rfl (by dsimp only) (by dsimp only) rfl rfl (by dsimp only [List.zip, List.zipWith]) fun env' S => ?_
  have hll : (cols.map nI).length = cols.length := by simp
  refine sCons ?_
  refine sFor (iRangeN ?_) (fun _ => rfl)
  repeat walk_at "my_step"
  refine cLenL (.inl hD) (by rw [hll]; lia) ?_
  rw [hll]
  repeat walk_at "my_step"
  refine cRange2 ?_
  refine ⟨1, cols.length + 1, rfl, by lia, by lia, fun k σ => Same [] H σ.H ∧ σ.loc = [(Str.ofString "columns", .obj (.ref D)), (Str.ofString "place", nI place)] ∧ ∀ j < k, takenBy cols place j = false, ⟨Same.refl, rfl, fun j hj => absurd hj (by lia)⟩, ?_, ?_⟩
  · rintro k a ⟨σH, σl⟩ ha ⟨s1, e0, hk⟩
    dsimp only at s1 e0
    subst e0
    rw [List.getElem?_map] at ha
    obtain ⟨k', hk', rfl⟩ := Option.map_eq_some_iff.mp ha
    obtain ⟨hk1, hk2⟩ := List.getElem?_eq_some_iff.mp hk'
    rw [List.getElem_range] at hk2
    subst hk2
    rw [List.length_range] at hk1
    have hD' := s1 D _ (by simp) hD
    refine aName' (by assumption) (by decide +kernel) ⟨_, by walk_at "my_putx", ?_⟩
    refine TF.drop ?_
    repeat walk_at "my_step"
    have hcap : captOf [(Str.ofString ".0", NameKind.local), (Str.ofString "column", NameKind.local), (Str.ofString "many", NameKind.free), (Str.ofString "place", NameKind.free)] [(Str.ofString "columns", .obj (.ref D)), (Str.ofString "place", nI place), (Str.ofString "many", nI (1 + k))] = [(Str.ofString "many", nI (1 + k)), (Str.ofString "place", nI place)] :=
      capL (capL (capF (by walk_at "my_lk") (capF (by walk_at "my_lk") rfl)))
    refine tComp (by assumption) rfl ?_ (fun _ => rfl)
    refine iList ?_
    repeat walk_at "my_step"
    refine ⟨by rw [hll, sizeLine_eq]; lia, fun i ys H2 => H2 = remH σH D ∧ ys = ((cols.take i).filter fun (q : Nat) => decide (((place : Int) - (q : Int)).fmod 8 < ((1 + k : Nat) : Int))).map nI, ⟨rfl, rfl⟩, ?_, ?_⟩
    · dsimp only
      rw [hcap]
      rintro env₂ S₂ i a ys H2 ha hlen ⟨rfl, rfl⟩
      replace S₂ : Sc env₂ [(Str.ofString ".0", NameKind.local), (Str.ofString "column", NameKind.local), (Str.ofString "many", NameKind.cell), (Str.ofString "place", NameKind.cell)] (.ref 224) := S₂
      rw [List.getElem?_map] at ha
      obtain ⟨q, hq, rfl⟩ := Option.map_eq_some_iff.mp ha
      have htk : cols.take (i + 1) = cols.take i ++ [q] := by
        obtain ⟨h1, h2⟩ := List.getElem?_eq_some_iff.mp hq
        rw [← h2, List.take_append_getElem]
      clear S
      refine aName' (by assumption) (by decide +kernel) ⟨_, by walk_at "my_putx", ?_⟩
      refine tests1 ?_
      repeat walk_at "my_step"
      refine ⟨fun hb => ?_, fun hb => ?_⟩
      · repeat walk_at "my_step"
        exact ⟨fun x a e => lkApp (l := [(Str.ofString "many", nI (1 + k)), (Str.ofString "place", nI place)]) (r := [(Str.ofString "column", nI q)]) e, rfl, by rw [htk, filt1 (f := fun (q : Nat) => decide (((place : Int) - (q : Int)).fmod 8 < ((1 + k : Nat) : Int))) hb, List.map_append]; rfl⟩
      · exact ⟨fun x a e => lkApp (l := [(Str.ofString "many", nI (1 + k)), (Str.ofString "place", nI place)]) (r := [(Str.ofString "column", nI q)]) e, rfl, by rw [htk, filt0 (f := fun (q : Nat) => decide (((place : Int) - (q : Int)).fmod 8 < ((1 + k : Nat) : Int))) hb]⟩
    · rintro ys H2 acc ⟨rfl, rfl⟩ hacc haccB hne
      have hDa : D ≠ acc := hne D _ (setH_self _ _ _)
      have hacc' : σH acc = none := by rw [← hacc]; exact (remH_ne _ (Ne.symm hDa)).symm
      dsimp only [kCompQ]
      rw [hll, List.take_length]
      have hset : setH (setH (remH σH D) acc (.list ((cols.filter fun (q : Nat) => decide (((place : Int) - (q : Int)).fmod 8 < ((1 + k : Nat) : Int))).map nI))) D (.list (cols.map nI)) = setH σH acc (.list ((cols.filter fun (q : Nat) => decide (((place : Int) - (q : Int)).fmod 8 < ((1 + k : Nat) : Int))).map nI)) := by
        funext b
        by_cases hbD : b = D
        · subst hbD; rw [setH_self, setH_ne _ _ hDa, hD']
        · rw [setH_ne _ _ hbD]
          by_cases hba : b = acc
          · subst hba; rw [setH_self, setH_self]
          · rw [setH_ne _ _ hba, setH_ne _ _ hba, remH_ne _ hbD]
      rw [hset]
      have s2 : Same [] H (setH σH acc (.list ((cols.filter fun (q : Nat) => decide (((place : Int) - (q : Int)).fmod 8 < ((1 + k : Nat) : Int))).map nI))) := s1.set (.inr (s1.none hacc' (by simp)))
      have hA : setH σH acc (.list ((cols.filter fun (q : Nat) => decide (((place : Int) - (q : Int)).fmod 8 < ((1 + k : Nat) : Int))).map nI)) acc = some (.list ((cols.filter fun (q : Nat) => decide (((place : Int) - (q : Int)).fmod 8 < ((1 + k : Nat) : Int))).map nI)) := setH_self _ _ _
      have hfl : (cols.filter fun (q : Nat) => decide (((place : Int) - (q : Int)).fmod 8 < ((1 + k : Nat) : Int))).length ≤ 100 := Nat.le_trans (List.length_filter_le _ _) hl
      generalize hF : (cols.filter fun (q : Nat) => decide (((place : Int) - (q : Int)).fmod 8 < ((1 + k : Nat) : Int))) = F at s2 hA hfl
      generalize setH σH acc (.list (F.map nI)) = H3 at s2 hA
      repeat walk_at "my_step"
      refine cLenL (.inl hA) (by simp; lia) ?_
      rw [List.length_map]
      repeat walk_at "my_step"
      have htb : takenBy cols place k = decide (k + 1 ≤ F.length) := by unfold takenBy; rw [hF]
      have hk1' : k < cols.length := by lia
      refine ⟨fun hb => ?_, fun hb => ?_⟩
      · refine sCons ?_
        refine sReturn ?_
        refine tBool ?_
        have h2 : takenBy cols place k = true := by
          rw [htb]
          have hb0 : ((1 + k : Nat) : Int) ≤ F.length := by simpa using hb
          exact decide_eq_true (by lia)
        have h3 := h H3 s2
        rw [show takenOf cols place = true from List.any_eq_true.mpr ⟨k, List.mem_range.mpr hk1', h2⟩] at h3
        exact ⟨_, [], fun _ _ e => e, (fun _ _ e => by cases e), _, .same, h3⟩
      · refine sNil ?_
        refine sNil ?_
        refine ⟨H3, [(Str.ofString "columns", .obj (.ref D)), (Str.ofString "place", nI place)], fun _ _ e => e, fun _ _ e => lkApp (l := [(Str.ofString "columns", .obj (.ref D)), (Str.ofString "place", nI place)]) (r := [(Str.ofString "many", nI (1 + k))]) e, s2, rfl, fun j hj => ?_⟩
        rcases Nat.lt_succ_iff_lt_or_eq.mp hj with hj | rfl
        · exact hk j hj
        · rw [htb]
          have hb0 : ¬ ((1 + j : Nat) : Int) ≤ F.length := by simpa using hb
          exact decide_eq_false (by lia)
  · rintro ⟨σH, σl⟩ ⟨s1, e0, hk⟩
    rw [List.length_map, List.length_range] at hk
    repeat walk_at "my_step"
    have := h σH s1
    rw [show takenOf cols place = false by unfold takenOf; rw [List.any_eq_false]; intro x hx; rw [hk x (by simpa using hx)]; decide] at this
    exact this
end
end

section
set_option maxHeartbeats 1000000
section
variable {c : Cx} {n : Nat} {H : Addr → Option AO} {P : Params} {L : LexA}
noncomputable def numsOf (l : List Int) : List Int := ((l.take 6).map fun x => x.fmod 5184) ++ [1534, 2408, 4484, 732].drop ((l.take 6).map fun x => x.fmod 5184).length
theorem sp_numbers {D : Addr} {l : List Int} {Q : AV → (Addr → Option AO) → Prop} (G : Good c (KL P)) (hD : ListAt c ⟨H, []⟩ D (l.map .int)) (hl : l.length ≤ 63)
    (h : ∀ E H', Same [] H H' → H E = none → H' E = some (.list ((numsOf l).map .int)) → Q (.obj (.ref E)) H') : CallC c (n + 1) H (.ref 175) [.obj (.ref D)] [] [] Q := by
  refine callDef [Str.ofString "script"] G rfl rfl (fun vs hvs => by obtain ⟨v, rfl⟩ := len1 hvs; rfl) rfl (by dsimp only) (by dsimp only) rfl rfl (by dsimp only [List.zip, List.zipWith]) fun env' S => ?_
  refine sCons ?_
  refine sComp (by assumption) rfl rfl ⟨_, rfl⟩ ?_ (fun _ => rfl)
  refine iList ?_
  repeat walk_at "my_step"
  have e6 : pickL (l.map .int) none (some (6 : Int)) = (l.take 6).map .int := by rw [show (6 : Int) = ((6 : Nat) : Int) from rfl, pickL_take, List.map_take]
  have h6 : ((l.take 6).map AV.int).length ≤ 6 := by simp; lia
  refine ⟨D, l.map .int, rfl, ?lat, by simp; lia, fun b hb hbB => ?_⟩
  case lat =>
    rcases hD with h | h
    · exact .inl h
    · exact .inr h
  rw [e6]
  dsimp only at hb
  dsimp only
  refine ⟨b, _, rfl, setH_self _ _ _, by rw [sizeLine_eq]; lia, fun i ys H2 => H2 = remH (setH H b (.list ((l.take 6).map .int))) b ∧ ys = (((l.take 6).take i).map fun x => AV.int (x.fmod 5184)), ⟨rfl, rfl⟩, ?_, ?_⟩
  · rintro env₂ S₂ i a ys H2 ha hlen ⟨rfl, rfl⟩
    rw [List.getElem?_map] at ha
    obtain ⟨q, hq, rfl⟩ := Option.map_eq_some_iff.mp ha
    have htk : (l.take 6).take (i + 1) = (l.take 6).take i ++ [q] := by
      obtain ⟨h1, h2⟩ := List.getElem?_eq_some_iff.mp hq
      rw [← h2, List.take_append_getElem]
    rw [show captOf [(Str.ofString ".0", NameKind.local), (Str.ofString "x", NameKind.local)] [(Str.ofString "script", AV.obj (Value.ref D))] = [] from rfl]
    replace S₂ : Sc env₂ [(Str.ofString ".0", NameKind.local), (Str.ofString "x", NameKind.local)] (.ref 174) := S₂
    clear S
    refine aName' (by assumption) (by decide +kernel) ⟨_, by walk_at "my_put", ?_⟩
    refine tests0 ⟨fun _ => ?_, fun e => by cases e⟩
    repeat walk_at "my_step"
    exact ⟨(fun x a e => by cases e), rfl, by rw [htk, List.map_append]; rfl⟩
  · rintro ys H2 acc ⟨rfl, rfl⟩ hacc haccB hne
    have hba : b ≠ acc := hne b _ (setH_self _ _ _)
    have hacc' : H acc = none := by
      rw [remH_ne _ (Ne.symm hba), setH_ne _ _ (Ne.symm hba)] at hacc; exact hacc
    rw [show ((l.take 6).map AV.int).length = (l.take 6).length by simp, List.take_length]
    refine ⟨fun _ _ => rfl, ?_⟩
    dsimp only
    have hr : ((l.take 6).map fun x => AV.int (x.fmod 5184)) = ((l.take 6).map fun x => x.fmod 5184).map AV.int := by rw [List.map_map]; rfl
    rw [hr]
    have hlen6 : ((l.take 6).map fun x => x.fmod 5184).length ≤ 6 := by simp; lia
    have hA : setH (setH (remH (setH H b (.list ((l.take 6).map .int))) b) acc (.list (((l.take 6).map fun x => x.fmod 5184).map AV.int))) b (.list ((l.take 6).map .int)) acc = some (.list (((l.take 6).map fun x => x.fmod 5184).map AV.int)) := by rw [setH_ne _ _ (Ne.symm hba), setH_self]
    have s1 : Same [] H (setH (setH (remH (setH H b (.list ((l.take 6).map .int))) b) acc (.list (((l.take 6).map fun x => x.fmod 5184).map AV.int))) b (.list ((l.take 6).map .int))) := fun a o _ e => by
      have h1 : a ≠ b := by rintro rfl; rw [hb] at e; cases e
      have h2 : a ≠ acc := by rintro rfl; rw [hacc'] at e; cases e
      rw [setH_ne _ _ h1, setH_ne _ _ h2, remH_ne _ h1, setH_ne _ _ h1]; exact e
    generalize setH (setH (remH (setH H b (.list ((l.take 6).map .int))) b) acc (.list (((l.take 6).map fun x => x.fmod 5184).map AV.int))) b (.list ((l.take 6).map .int)) = H1 at hA s1
    have hnum : numsOf l = ((l.take 6).map fun x => x.fmod 5184) ++ [1534, 2408, 4484, 732].drop ((l.take 6).map fun x => x.fmod 5184).length := rfl
    generalize ((l.take 6).map fun x => x.fmod 5184) = ns at hA hlen6 hnum
    rw [show put [(Str.ofString "script", AV.obj (Value.ref D))] (Str.ofString "numbers") (AV.obj (Value.ref acc)) = [(Str.ofString "script", AV.obj (Value.ref D)), (Str.ofString "numbers", AV.obj (Value.ref acc))] by walk_at "my_put"]
    repeat walk_at "my_step"
    refine tSliceLG ?_
    repeat walk_at "my_step"
    intro M hM hMB
    dsimp only at hM
    have hMA : acc ≠ M := Ne.symm (neOf hM hA)
    have s2 : Same [] H (setH H1 M (.list [.int 1534, .int 2408, .int 4484, .int 732])) := s1.set (.inr (s1.none hM (by simp)))
    have hA2 := keepNew hM (.list [.int 1534, .int 2408, .int 4484, .int 732]) hA
    have hM2 : setH H1 M (.list [.int 1534, .int 2408, .int 4484, .int 732]) M = some (.list [.int 1534, .int 2408, .int 4484, .int 732]) := setH_self _ _ _
    repeat walk_at "my_step"
    dsimp only
    generalize setH H1 M (.list [.int 1534, .int 2408, .int 4484, .int 732]) = H2 at s2 hA2 hM2
    refine cLenL (.inl hA2) (by simp; lia) ?_
    rw [List.length_map]
    repeat walk_at "my_step"
    refine ⟨M, [.int 1534, .int 2408, .int 4484, .int 732], rfl, .inl hM2, by simp, fun F hF hFB => ?_⟩
    rw [pickL_drop]
    dsimp only at hF
    have s3 := s2.set (o := .list ([AV.int 1534, .int 2408, .int 4484, .int 732].drop ns.length)) (.inr (s2.none hF (by simp)))
    have hA3 := keepNew hF (.list ([AV.int 1534, .int 2408, .int 4484, .int 732].drop ns.length)) hA2
    have hF3 : setH H2 F (.list ([AV.int 1534, .int 2408, .int 4484, .int 732].drop ns.length)) F = some _ := setH_self _ _ _
    repeat walk_at "my_step"
    dsimp only
    generalize setH H2 F (.list ([AV.int 1534, .int 2408, .int 4484, .int 732].drop ns.length)) = H3 at s3 hA3 hF3
    refine cExtend hA3 hF3 (by simp; lia) ?_
    repeat walk_at "my_step"
    refine h acc _ (s3.set (.inr hacc')) hacc' ?_
    dsimp only
    rw [setH_self, hnum, List.map_append, List.map_drop]
    rfl
end
end

section
set_option maxHeartbeats 1000000
section
variable {c : Cx} {n : Nat} {H : Addr → Option AO} {P : Params} {L : LexA}
noncomputable def numsN (l : List Int) : List Nat := (numsOf l).map Int.toNat
theorem numsN_eq (l : List Int) : (numsOf l).map AV.int = (numsN l).map nI := by
  unfold numsN
  rw [List.map_map]
  refine List.map_congr_left fun x hx => ?_
  have h0 : 0 ≤ x := by
    unfold numsOf at hx
    rcases List.mem_append.mp hx with h | h
    · obtain ⟨y, _, rfl⟩ := List.mem_map.mp h
      exact Int.fmod_nonneg_of_pos _ (by lia)
    · have := List.mem_of_mem_drop h
      simp at this
      lia
  show AV.int x = AV.int (x.toNat : Int)
  rw [Int.toNat_of_nonneg h0]
theorem numsN_lt (l : List Int) : ∀ x ∈ numsN l, x < 5184 := by
  intro x hx
  obtain ⟨y, hy, rfl⟩ := List.mem_map.mp hx
  unfold numsOf at hy
  rcases List.mem_append.mp hy with h | h
  · obtain ⟨z, _, rfl⟩ := List.mem_map.mp h
    have := Int.fmod_lt_of_pos z (b := 5184) (by lia)
    lia
  · have := List.mem_of_mem_drop h
    simp at this
    lia
theorem numsN_len (l : List Int) : 4 ≤ (numsN l).length ∧ (numsN l).length ≤ 6 := by
  unfold numsN numsOf
  simp
  lia
end
end

section
set_option maxHeartbeats 1000000
section
variable {c : Cx} {n : Nat} {H : Addr → Option AO} {P : Params} {L : LexA}
noncomputable def lS (l : List Nat) : Str := ⟨l.toArray⟩
theorem lS_len (l : List Nat) : (lS l).length = l.length := by simp [lS, Str.length]
theorem lS_app (l r : List Nat) : lS l ++ lS r = lS (l ++ r) := by
  show Str.mk (l.toArray ++ r.toArray) = _
  simp [lS]
theorem mulRep {ch k : Nat} (hk : k < 4) : PySem.MulOk (sgn ch) (k : Int) ∧ Txt.mul (sgn ch) (k : Int) = lS (List.replicate k ch) := by
  have hl : (sgn ch).length = 1 := rfl
  unfold PySem.MulOk Txt.mul
  rw [hl]
  match k, hk with
  | 0, _ => exact ⟨⟨by decide +kernel, fun h => absurd (by decide) h, fun h => absurd (by decide) h⟩, rfl⟩
  | 1, _ => exact ⟨⟨by decide +kernel, (fun h h2 => by cases h2), (fun h h2 => by cases h2)⟩, rfl⟩
  | 2, _ => exact ⟨⟨by decide +kernel, (fun h h2 => by decide +kernel), (fun h h2 => by decide +kernel)⟩, rfl⟩
  | 3, _ => exact ⟨⟨by decide +kernel, (fun h h2 => by decide +kernel), (fun h h2 => by decide +kernel)⟩, rfl⟩
theorem opRep {env : Env} {σ : St} {x : Str} {i : Int} {Q : AV → St → Prop} (ch k : Nat) (hx : x = sgn ch) (hi : i = (k : Int)) (hk : k < 4) (hq : Q (.str (lS (List.replicate k ch))) σ) : Op2 c n env (VR c.P) σ (binaryOp .Mult) (.str x) (.int i) Q := by
  subst hx hi
  refine BinR.ok (.mulS (mulRep hk).1) ?_
  rw [(mulRep hk).2]; exact hq
theorem opCat {env : Env} {σ : St} {l r : List Nat} {Q : AV → St → Prop} (hk : l.length + r.length ≤ 1000) (hq : Q (.str (lS (l ++ r))) σ) : Op2 c n env (VR c.P) σ (binaryOp .Add) (.str (lS l)) (.str (lS r)) Q := by
  refine BinR.ok (.addS (by rw [lS_len, lS_len, sizeLine_eq]; lia)) ?_
  rw [lS_app]; exact hq
theorem fmodN (a b : Nat) : ((a : Nat) : Int).fmod (b : Nat) = ((a % b : Nat) : Int) := by
  rw [Int.fmod_eq_emod_of_nonneg _ (by lia)]; simp
theorem set_rem {H : Addr → Option AO} {D : Addr} {o : AO} (h : H D = some o) : setH (remH H D) D o = H := by
  funext b
  by_cases e : b = D
  · subst e; rw [setH_self, h]
  · rw [setH_ne _ _ e, remH_ne _ e]
noncomputable def leadL (x : Nat) : List Nat := List.replicate (x / 6 % 3) 32 ++ List.replicate (x / 6 / 3 % 2) 9 ++ List.replicate (x / 6 / 6 % 3) 32 ++ List.replicate (x / 6 / 18 % 2) 9 ++ List.replicate (x / 6 / 36 % 4) 32
noncomputable def freeAt : List Nat → List Nat → List Nat
  | f, [] => f
  | f, x :: xs => freeAt (f.eraseIdx (x % f.length)) xs
noncomputable def drawn : List Nat → List Nat → List (List Nat × Nat)
  | _, [] => []
  | f, x :: xs => (leadL x, f.getD (x % f.length) 0) :: drawn (f.eraseIdx (x % f.length)) xs
noncomputable def six0 : List Nat := [34, 35, 92, 97, 98, 99]
noncomputable def wS (w : List Nat × Nat) : Str := lS (w.1 ++ [w.2])
theorem mapErase {α β : Type} (f : α → β) : ∀ (l : List α) (k : Nat), (l.map f).eraseIdx k = (l.eraseIdx k).map f
  | [], k => rfl
  | a :: l, 0 => rfl
  | a :: l, k + 1 => by simp [List.eraseIdx, mapErase f l k]
theorem freeAt_app (x : Nat) : ∀ (xs f : List Nat), freeAt f (xs ++ [x]) = (freeAt f xs).eraseIdx (x % (freeAt f xs).length)
  | [], f => rfl
  | y :: xs, f => freeAt_app x xs _
theorem drawn_app (x : Nat) : ∀ (xs f : List Nat), drawn f (xs ++ [x]) = drawn f xs ++ [(leadL x, (freeAt f xs).getD (x % (freeAt f xs).length) 0)]
  | [], f => rfl
  | y :: xs, f => by
    show _ :: drawn _ (xs ++ [x]) = _
    rw [drawn_app x xs]; rfl
theorem freeAt_len : ∀ (xs f : List Nat), xs.length ≤ f.length → (freeAt f xs).length = f.length - xs.length
  | [], f, _ => by simp [freeAt]
  | y :: xs, f, h => by
    have h0 : 0 < f.length := by simp at h; lia
    have := freeAt_len xs (f.eraseIdx (y % f.length)) (by rw [List.length_eraseIdx_of_lt (Nat.mod_lt _ h0)]; simp at h; lia)
    rw [freeAt, this, List.length_eraseIdx_of_lt (Nat.mod_lt _ h0)]
    simp; lia
theorem leadL_len (x : Nat) : (leadL x).length ≤ 9 := by
  simp [leadL]; lia
theorem sixEq : [AV.str (Str.ofString "\""), AV.str (Str.ofString "#"), AV.str (Str.ofString "\\"), AV.str (Str.ofString "a"), AV.str (Str.ofString "b"), AV.str (Str.ofString "c")] = six0.map fun ch => AV.str (sgn ch) := by
  rw [show Str.ofString "\"" = sgn 34 by decide +kernel, show Str.ofString "#" = sgn 35 by decide +kernel, show Str.ofString "\\" = sgn 92 by decide +kernel, show Str.ofString "a" = sgn 97 by decide +kernel, show Str.ofString "b" = sgn 98 by decide +kernel, show Str.ofString "c" = sgn 99 by decide +kernel]
  rfl
theorem sp_words {D : Addr} {xs : List Nat} {Q : AV → (Addr → Option AO) → Prop} (G : Good c (KL P)) (hD : H D = some (.list (xs.map nI))) (hl : xs.length ≤ 6)
    (h : ∀ E H', Same [] H H' → H E = none → H' E = some (.list ((drawn six0 xs).map fun w => AV.str (wS w))) → Q (.obj (.ref E)) H') : CallC c (n + 1) H (.ref 182) [.obj (.ref D)] [] [] Q := by
  refine callDef [Str.ofString "numbers"] G rfl rfl (fun vs hvs => by obtain ⟨v, rfl⟩ := len1 hvs; rfl) rfl (by dsimp only) (by dsimp only) rfl rfl (by dsimp only [List.zip, List.zipWith]) fun env' S => ?_
  repeat walk_at "my_step"
  intro F hF hFB
  dsimp only at hF
  repeat walk_at "my_step"
  intro W hW hWB
  dsimp only at hW
  rw [sixEq] at hW ⊢
  have hDF := neOf hF hD
  have hD1 := keepNew hF (.list (six0.map fun ch => AV.str (sgn ch))) hD
  have hF1 : setH H F (.list (six0.map fun ch => AV.str (sgn ch))) F = some _ := setH_self _ _ _
  have s1 : Same [] H (setH H F (.list (six0.map fun ch => AV.str (sgn ch)))) := Same.refl.set (.inr hF)
  repeat walk_at "my_step"
  dsimp only
  generalize setH H F (.list (six0.map fun ch => AV.str (sgn ch))) = H1 at hW hD1 hF1 s1
  have hDW := neOf hW hD1
  have hFW := neOf hW hF1
  have hWH := s1.none hW (by simp)
  have hD2 := keepNew hW (.list []) hD1
  have hF2 := keepNew hW (.list []) hF1
  have hW2 : setH H1 W (.list []) W = some _ := setH_self _ _ _
  have s2 : Same [] H (setH H1 W (.list [])) := s1.set (.inr hWH)
  generalize setH H1 W (.list []) = H2 at hD2 hF2 hW2 s2
  refine sFor (iList ?_) (fun _ => rfl)
  repeat walk_at "my_step"
  refine ⟨fun i σ => σ.loc = [(Str.ofString "numbers", AV.obj (.ref D)), (Str.ofString "free", AV.obj (.ref F)), (Str.ofString "words", AV.obj (.ref W))] ∧ σ.H F = some (.list ((freeAt six0 (xs.take i)).map fun ch => AV.str (sgn ch))) ∧ σ.H W = some (.list ((drawn six0 (xs.take i)).map fun w => AV.str (wS w))) ∧ Same [] H (setH σ.H D (.list (xs.map nI))), ?_, ?_, ?_⟩
  · refine ⟨rfl, ?_, ?_, ?_⟩
    · dsimp only; rw [remH_ne _ hDF]; exact hF2
    · dsimp only; rw [remH_ne _ hDW]; exact hW2
    · dsimp only; rw [set_rem hD2]; exact s2
  · rintro i a ⟨σH, σl⟩ ha ⟨e0, hF3, hW3, s3⟩
    dsimp only at e0 hF3 hW3 s3
    subst e0
    rw [List.getElem?_map] at ha
    obtain ⟨x, hx, rfl⟩ := Option.map_eq_some_iff.mp ha
    obtain ⟨hi1, hi2⟩ := List.getElem?_eq_some_iff.mp hx
    have htk : xs.take (i + 1) = xs.take i ++ [x] := by rw [← hi2, List.take_append_getElem]
    have hfl := freeAt_len (xs.take i) six0 (by simp [six0]; lia)
    refine aName' (by assumption) (by decide +kernel) ⟨_, by walk_at "my_putx", ?_⟩
    refine TF.drop ?_
    repeat walk_at "my_step"
    rw [show ((x : Int).fdiv 6) = ((x / 6 : Nat) : Int) from fdivN x 6]
    refine opRep 32 (x / 6 % 3) (by decide +kernel) (fmodN _ 3) (by lia) ?_
    repeat walk_at "my_step"
    refine opRep 9 (x / 6 / 3 % 2) (by decide +kernel) ((congrArg (Int.fmod · 2) (fdivN (x / 6) 3)).trans (fmodN _ 2)) (by lia) ?_
    refine opCat (by simp; lia) ?_
    repeat walk_at "my_step"
    refine opRep 32 (x / 6 / 6 % 3) (by decide +kernel) ((congrArg (Int.fmod · 3) (fdivN (x / 6) 6)).trans (fmodN _ 3)) (by lia) ?_
    refine opCat (by simp; lia) ?_
    repeat walk_at "my_step"
    refine opRep 9 (x / 6 / 18 % 2) (by decide +kernel) ((congrArg (Int.fmod · 2) (fdivN (x / 6) 18)).trans (fmodN _ 2)) (by lia) ?_
    refine opCat (by simp; lia) ?_
    repeat walk_at "my_step"
    refine opRep 32 (x / 6 / 36 % 4) (by decide +kernel) ((congrArg (Int.fmod · 4) (fdivN (x / 6) 36)).trans (fmodN _ 4)) (by lia) ?_
    refine opCat (by simp; lia) ?_
    repeat walk_at "my_step"
    rw [show (List.replicate (x / 6 % 3) 32 ++ List.replicate (x / 6 / 3 % 2) 9 ++ List.replicate (x / 6 / 6 % 3) 32 ++ List.replicate (x / 6 / 18 % 2) 9 ++ List.replicate (x / 6 / 36 % 4) 32) = leadL x from rfl]
    have hgl : (freeAt six0 (xs.take i)).length ≠ 0 := by rw [hfl]; simp [six0]; lia
    have hgl6 : (freeAt six0 (xs.take i)).length ≤ 6 := by rw [hfl]; simp [six0]
    have hfA := freeAt_app x (xs.take i) six0
    have hdA := drawn_app x (xs.take i) six0
    have hdl : ((drawn six0 (xs.take i)).map fun w => AV.str (wS w)).length ≤ 6 := by
      have : ∀ (l f : List Nat), (drawn f l).length = l.length := fun l => by
        induction l with
        | nil => intro f; rfl
        | cons y l ih => intro f; simp [drawn, ih]
      rw [List.length_map, this]; simp; lia
    rw [← htk] at hfA hdA
    generalize hg : freeAt six0 (xs.take i) = g at hgl hgl6 hF3 hfA hdA
    generalize drawn six0 (xs.take i) = ws at hdl hW3 hdA
    refine cLenL (.inl hF3) (by simp; lia) ?_
    rw [List.length_map]
    have hlt : x % g.length < g.length := Nat.mod_lt _ (by lia)
    refine BinR.ok (.modI (by lia)) ?_
    rw [fmodN]
    repeat walk_at "my_step"
    refine cPopAt (k := x % g.length) (b := .str (sgn (g.getD (x % g.length) 0))) hF3 (by rw [sizeLine_eq]; simp; lia) (by simp [Builtin.List.listFitsIndex]; lia) (seqIndex_nat (by simpa using hlt)) (by simp [List.getD_eq_getElem?_getD, hlt]) ?_
    dsimp only
    refine opCat (r := [g.getD (x % g.length) 0]) (by have := leadL_len x; simp; lia) ?_
    repeat walk_at "my_step"
    refine cAppend (l := ws.map fun w => AV.str (wS w)) (by dsimp only; rw [setH_ne _ _ hFW]; exact hW3) (by rw [sizeLine_eq]; lia) ?_
    repeat walk_at "my_step"
    dsimp only
    refine ⟨_, [(Str.ofString "numbers", AV.obj (.ref D)), (Str.ofString "free", AV.obj (.ref F)), (Str.ofString "words", AV.obj (.ref W))], fun _ _ e => e, fun _ _ e => lkApp (l := [(Str.ofString "numbers", AV.obj (.ref D)), (Str.ofString "free", AV.obj (.ref F)), (Str.ofString "words", AV.obj (.ref W))]) (r := [(Str.ofString "x", nI x), (Str.ofString "y", AV.int ↑(x / 6)), (Str.ofString "lead", AV.str (lS (leadL x)))]) e, rfl, ?_, ?_, fun a o hx e => ?_⟩
    · dsimp only; rw [setH_ne _ _ (Ne.symm hFW), setH_self, hfA, mapErase]
    · dsimp only; rw [setH_self, hdA, List.map_append]; rfl
    · have h1 : a ≠ F := by rintro rfl; rw [hF] at e; cases e
      have h2 : a ≠ W := by rintro rfl; rw [hWH] at e; cases e
      have h3 := s3 a o hx e
      by_cases h4 : a = D
      · subst h4; rw [setH_self] at h3 ⊢; exact h3
      · dsimp only; rw [setH_ne _ _ h4] at h3 ⊢; rw [setH_ne _ _ h2, setH_ne _ _ h1]; exact h3
  · rintro ⟨σH, σl⟩ ⟨e0, hF3, hW3, s3⟩
    dsimp only at e0 hF3 hW3 s3
    subst e0
    rw [List.length_map, List.take_length] at hW3
    repeat walk_at "my_step"
    refine h W _ s3 hWH ?_
    dsimp only
    rw [setH_ne _ _ hDW]; exact hW3
end
end

section
set_option maxHeartbeats 1000000
local macro_rules | `(tactic| walk_at "my_step") => `(tactic| with_reducible refine tSliceS ?_ (fun _ _ => rfl))
theorem strSl_init (l : List Nat) (a : Nat) : strSl (lS (l ++ [a])) none (some (-1)) none = lS l := by
  have hn : (lS (l ++ [a])).length = l.length + 1 := by rw [lS_len]; simp
  have e : idxs none (some (-1)) none (l.length + 1) = sliceRange 0 (l.length : Nat) 1 := by
    unfold idxs Builtin.Str.strSliceIndices
    have h1 : (max (0 : Int) (min (if (-1 : Int) < 0 then (-1 : Int) + ((l.length + 1 : Nat) : Int) else -1) ((l.length + 1 : Nat) : Int))) = ((l.length : Nat) : Int) := by rw [if_pos (by decide)]; lia
    simp only [Option.getD_none, show (1 : Int) > 0 by decide, if_true]
    exact congrArg (fun z => sliceRange 0 z 1) h1
  unfold strSl
  rw [hn, e]
  have hp : ((sliceRange 0 (l.length : Nat) 1).filterMap ((lS (l ++ [a])).cps[·]?)) = l := by
    rw [show (0 : Int) = ((0 : Nat) : Int) from rfl, sliceRange_one]
    have := pick_run (lS (l ++ [a])).cps 0 l.length
    refine Eq.trans this ?_
    simp [lS]
  have hlen : (sliceRange 0 (l.length : Nat) 1).length = l.length := by
    rw [show (0 : Int) = ((0 : Nat) : Int) from rfl, sliceRange_one]; simp
  rw [hlen, hp, if_neg (by simp)]
  rfl
theorem item_last (l : List Nat) (a : Nat) : Txt.item (lS (l ++ [a])) (-1) = sgn a := by
  unfold Txt.item sgn lS
  congr 1
  have : Txt.charAt { cps := (l ++ [a]).toArray } (-1) = some a := by
    unfold Txt.charAt seqIndex?
    have hn : (Str.mk (l ++ [a]).toArray).length = l.length + 1 := by simp [Str.length]
    rw [hn]
    have e1 : (-1 : Int) + ((l.length + 1 : Nat) : Int) = (l.length : Int) := by lia
    simp only [show (-1 : Int) < 0 by decide, if_true, e1]
    rw [if_pos (by simp; lia)]
    simp
  rw [this]; rfl
theorem eSl : Str.ofString "" = lS [] := by decide +kernel
theorem joinE : ∀ ls : List (List Nat), Txt.join (Str.ofString "") (ls.map lS) = lS ls.flatten
  | [] => by rw [eSl]; rfl
  | [l] => by
    unfold Txt.join; rw [StrLaws.glued_eq_join]
    show lS l = _
    simp
  | l :: l' :: r => by
    have ih := joinE (l' :: r)
    unfold Txt.join at ih ⊢
    rw [StrLaws.glued_eq_join] at ih ⊢
    show lS l ++ Str.ofString "" ++ Str.join (Str.ofString "") ((l' :: r).map lS) = _
    rw [ih, eSl, lS_app, lS_app]
    simp
theorem joinEok (ls : List (List Nat)) (h1 : ls.length ≤ 100) (h2 : ∀ l ∈ ls, l.length ≤ 10) : JoinOk (Str.ofString "") (ls.map lS) = true := by
  have : ∀ (ls : List (List Nat)) (a : Nat), (∀ l ∈ ls, l.length ≤ 10) → (ls.map lS).foldl (fun x1 x2 => x1 + x2.length + (Str.ofString "").length) a ≤ a + 10 * ls.length := by
    intro ls
    induction ls with
    | nil => intro a _; simp
    | cons l r ih =>
      intro a h
      have h3 := h l (List.mem_cons_self ..)
      have := ih (a + (lS l).length + (Str.ofString "").length) fun x hx => h x (List.mem_cons_of_mem _ hx)
      rw [List.map_cons, List.foldl_cons]
      rw [eSl, lS_len, lS_len] at this ⊢
      simp only [List.length_nil, List.length_cons] at this ⊢
      rw [eSl, lS_len] at *
      simp only [List.length_nil] at *
      lia
  have h := this ls 0 h2
  unfold JoinOk Builtin.Str.tooLong
  rw [List.foldl_toArray']
  · simp only [Bool.not_eq_true', decide_eq_false_iff_not, sizeLine_eq]
    lia
  · simp
section
variable {c : Cx} {n : Nat} {H : Addr → Option AO} {P : Params} {L : LexA}
theorem opCat' {env : Env} {σ : St} {x y : Str} {Q : AV → St → Prop} (l r : List Nat) (hx : x = lS l) (hy : y = lS r) (hk : l.length + r.length ≤ 1000) (hq : Q (.str (lS (l ++ r))) σ) : Op2 c n env (VR c.P) σ (binaryOp .Add) (.str x) (.str y) Q := by
  subst hx hy; exact opCat hk hq
noncomputable def encW (w : List Nat × Nat) (x : Nat) : List Nat := (if x / 864 % 2 = 1 then [34] ++ w.1 ++ [92] ++ [w.2] ++ [34] else (w.1 ++ [w.2]).flatMap fun ch => [92] ++ [ch]) ++ [[10, 32, 9].getD (x / 1728) 0]
noncomputable def textL : List (List Nat × Nat) → List Nat → List Nat
  | w :: ws, x :: xs => encW w x ++ textL ws xs
  | _, _ => []
theorem textL_app {w : List Nat × Nat} {x : Nat} : ∀ {ws : List (List Nat × Nat)} {xs : List Nat}, ws.length = xs.length → textL (ws ++ [w]) (xs ++ [x]) = textL ws xs ++ encW w x
  | [], [], _ => by simp [textL]
  | _ :: ws, _ :: xs, h => by simp only [List.cons_append, textL]; rw [textL_app (by simpa using h), List.append_assoc]
  | [], _ :: _, h => by cases h
  | _ :: _, [], h => by cases h
theorem flat2_len : ∀ l : List Nat, (l.flatMap fun ch => [92] ++ [ch]).length = 2 * l.length := fun l => by
  induction l with
  | nil => rfl
  | cons a l ih => simp [List.flatMap_cons] at ih ⊢; lia
theorem encW_len {w : List Nat × Nat} {x : Nat} (h : w.1.length ≤ 9) : (encW w x).length ≤ 21 := by
  unfold encW
  rw [List.length_append]
  split
  · simp; lia
  · have : ∀ l : List Nat, (l.flatMap fun ch => [92] ++ [ch]).length = 2 * l.length := fun l => by
      induction l with
      | nil => rfl
      | cons a l ih => simp [List.flatMap_cons] at ih ⊢; lia
    rw [this]; simp; lia
theorem textL_len : ∀ {ws : List (List Nat × Nat)} {xs : List Nat}, (∀ w ∈ ws, w.1.length ≤ 9) → (textL ws xs).length ≤ 21 * ws.length
  | [], _, _ => by simp [textL]
  | w :: ws, [], _ => by simp [textL]
  | w :: ws, x :: xs, h => by
    have h1 := encW_len (x := x) (h w (List.mem_cons_self ..))
    have h2 := textL_len (ws := ws) (xs := xs) fun v hv => h v (List.mem_cons_of_mem _ hv)
    simp only [textL, List.length_append, List.length_cons]; lia
theorem sp_text {D E : Addr} {ws : List (List Nat × Nat)} {xs : List Nat} {Q : AV → (Addr → Option AO) → Prop} (G : Good c (KL P)) (hP : ∀ b, ¬ c.P b) (hD : H D = some (.list (ws.map fun w => .str (wS w)))) (hE : H E = some (.list (xs.map nI))) (hDE : D ≠ E)
    (hw : ∀ w ∈ ws, w.1.length ≤ 9) (hl : ws.length ≤ 6) (hx : ∀ x ∈ xs, x < 5184) (hl2 : xs.length = ws.length)
    (h : ∀ H', Same [] H H' → Q (.str (lS (textL ws xs))) H') : CallC c (n + 1) H (.ref 187) [.obj (.ref D), .obj (.ref E)] [] [] Q := by
  refine callDef [Str.ofString "words", Str.ofString "numbers"] G rfl rfl (fun vs hvs => by obtain ⟨v, w, rfl⟩ := len2 hvs; rfl) rfl (by dsimp only) (by dsimp only) rfl rfl (by dsimp only [List.zip, List.zipWith]) fun env' S => ?_
  repeat walk_at "my_step"
  refine sFor (iZip hP ?_ rfl rfl) (fun _ => rfl)
  repeat walk_at "my_step"
  refine ⟨D, E, _, _, rfl, hD, hE, hDE, fun p => ⟨fun i σ => σ.loc = [(Str.ofString "words", AV.obj (.ref D)), (Str.ofString "numbers", AV.obj (.ref E)), (Str.ofString "text", AV.str (lS (textL (ws.take i) (xs.take i))))] ∧ Same [] (remH (remH H D) E) σ.H, ?_, ?_, ?_⟩⟩
  · exact ⟨by rw [eSl]; rfl, Same.refl⟩
  · rintro i a ⟨σH, σl⟩ ha ⟨e0, s1⟩
    dsimp only at e0 s1
    subst e0
    obtain ⟨w, x, hwi, hxi, rfl⟩ : ∃ w x, ws[i]? = some w ∧ xs[i]? = some x ∧ a = .tup [.str (wS w), nI x] := by
      unfold zipL at ha
      rw [List.getElem?_zipWith, List.getElem?_map, List.getElem?_map] at ha
      cases hwi : ws[i]? with
      | none => rw [hwi] at ha; simp at ha
      | some w =>
        cases hxi : xs[i]? with
        | none => rw [hwi, hxi] at ha; simp at ha
        | some x => rw [hwi, hxi] at ha; exact ⟨w, x, rfl, rfl, by simpa using ha.symm⟩
    obtain ⟨hi1, hi2⟩ := List.getElem?_eq_some_iff.mp hwi
    obtain ⟨hj1, hj2⟩ := List.getElem?_eq_some_iff.mp hxi
    have htw : ws.take (i + 1) = ws.take i ++ [w] := by rw [← hi2, List.take_append_getElem]
    have htx : xs.take (i + 1) = xs.take i ++ [x] := by rw [← hj2, List.take_append_getElem]
    have hta := textL_app (w := w) (x := x) (ws := ws.take i) (xs := xs.take i) (by simp; lia)
    rw [← htw, ← htx] at hta
    have htl := textL_len (ws := ws.take i) (xs := xs.take i) fun v hv => hw v (List.mem_of_mem_take hv)
    have htl : (textL (ws.take i) (xs.take i)).length ≤ 126 := Nat.le_trans htl (by simp; lia)
    have hw9 := hw w (List.mem_of_getElem hi2)
    have hx5 := hx x (List.mem_of_getElem hj2)
    generalize textL (ws.take i) (xs.take i) = t at hta htl
    refine aTupN S (by walk_at "my_nms") rfl (by decide +kernel) ⟨_, by show putAll [_, _, _] [_, _] [_, _] = _; walk_at "my_putAll", ?_⟩
    refine TF.drop ?_
    refine sCons ?_
    refine Tr.mono (Q := fun f σ => f = AF.next ∧ Same [] (remH (remH H D) E) σ.H ∧ σ.loc = [(Str.ofString "words", AV.obj (.ref D)), (Str.ofString "numbers", AV.obj (.ref E)), (Str.ofString "text", AV.str (lS (t ++ (if x / 864 % 2 = 1 then [34] ++ w.1 ++ [92] ++ [w.2] ++ [34] else (w.1 ++ [w.2]).flatMap fun ch => [92] ++ [ch])))), (Str.ofString "word", .str (wS w)), (Str.ofString "x", nI x)]) ?_ ?_
    · repeat walk_at "my_step"
      have hc : (((((x : Int).fdiv 864).fmod 2 == 1) = true) ↔ x / 864 % 2 = 1) := by
        rw [show ((x : Int).fdiv 864) = ((x / 864 : Nat) : Int) from fdivN x 864, show (((x / 864 : Nat) : Int).fmod 2) = ((x / 864 % 2 : Nat) : Int) from fmodN _ 2]
        simp; lia
      have hwl : (wS w).length ≤ 10 := by unfold wS; rw [lS_len]; simp; lia
      refine ⟨fun hb => ?_, fun hb => ?_⟩
      · rw [if_pos (hc.mp hb)]
        clear hc
        repeat walk_at "my_step"
        refine ⟨by lia, ?_⟩
        rw [show wS w = lS (w.1 ++ [w.2]) from rfl, strSl_init]
        refine opCat' [34] w.1 (by decide +kernel) rfl (by simp; lia) ?_
        repeat walk_at "my_step"
        refine opCat' _ [92] rfl (by decide +kernel) (by simp; lia) ?_
        repeat walk_at "my_step"
        refine ⟨_, .str (by decide) (by rw [lS_len]; simp; lia) (by lia), ?_⟩
        rw [show Txt.item (lS (w.1 ++ [w.2])) (-1) = lS [w.2] from item_last ..]
        refine opCat' _ [w.2] rfl rfl (by simp; lia) ?_
        repeat walk_at "my_step"
        refine opCat' _ [34] rfl (by decide +kernel) (by simp; lia) ?_
        refine ⟨_, .addS (by rw [lS_len, lS_len, sizeLine_eq]; simp; lia), _, rfl, ?_⟩
        repeat walk_at "my_step"
        refine ⟨s1, ?_⟩
        dsimp only
        rw [lS_app]; rfl
      · rw [if_neg (fun q => by rw [hc.mpr q] at hb; cases hb)]
        clear hc
        repeat walk_at "my_step"
        refine tComp S rfl ?_ (fun _ => rfl)
        refine iStr ?_
        repeat walk_at "my_step"
        have hsg : signsOf (wS w) = (w.1 ++ [w.2]).map fun ch => AV.str (sgn ch) := by simp [signsOf, wS, lS, sgn]
        have hsl : (w.1 ++ [w.2]).length ≤ 10 := by simp; lia
        unfold kStr1
        rw [hsg]
        refine ⟨by rw [sizeLine_eq]; simp; lia, fun i ys H2 => H2 = σH ∧ ys = (((w.1 ++ [w.2]).take i).map fun ch => [92] ++ [ch]).map fun l => AV.str (lS l), ⟨rfl, rfl⟩, ?_, ?_⟩
        · rintro env₂ S₂ i a ys H2 ha hlen ⟨rfl, rfl⟩
          rw [List.getElem?_map] at ha
          obtain ⟨q, hq, rfl⟩ := Option.map_eq_some_iff.mp ha
          have htk : (w.1 ++ [w.2]).take (i + 1) = (w.1 ++ [w.2]).take i ++ [q] := by
            obtain ⟨h1, h2⟩ := List.getElem?_eq_some_iff.mp hq
            rw [← h2, List.take_append_getElem]
          dsimp only
          rw [capL (capL rfl) (t := [])]
          replace S₂ : Sc env₂ [(Str.ofString ".0", NameKind.local), (Str.ofString "sign", NameKind.local)] (.ref 186) := S₂
          clear S
          refine aName' (by assumption) (by decide +kernel) ⟨_, by walk_at "my_putx", ?_⟩
          refine tests0 ⟨fun _ => ?_, fun e => by cases e⟩
          repeat walk_at "my_step"
          refine opCat' [92] [q] (by decide +kernel) rfl (by simp) ?_
          refine ⟨(fun x a e => by cases e), rfl, ?_⟩
          rw [htk, List.map_append, List.map_append]; rfl
        · rintro ys H2 acc ⟨rfl, rfl⟩ hacc haccB hne
          dsimp only [kCompQ]
          rw [List.length_map, List.take_length]
          have hA : setH H2 acc (.list (((w.1 ++ [w.2]).map fun ch => [92] ++ [ch]).map fun l => AV.str (lS l))) acc = some (.list ((((w.1 ++ [w.2]).map fun ch => [92] ++ [ch]).map lS).map .str)) := by rw [setH_self]; simp only [List.map_map]; rfl
          have s2 : Same [] (remH (remH H D) E) (setH H2 acc (.list (((w.1 ++ [w.2]).map fun ch => [92] ++ [ch]).map fun l => AV.str (lS l)))) := s1.set (.inr (s1.none hacc (by simp)))
          dsimp only [id]
          repeat walk_at "my_step"
          refine cJoin hA (joinEok _ (by simp; lia) (by intro l hl; obtain ⟨q, _, rfl⟩ := List.mem_map.mp hl; simp)) ?_
          rw [joinE, ← List.flatMap_def]
          have h2l := flat2_len (w.1 ++ [w.2])
          refine ⟨_, .addS (by rw [lS_len, lS_len, h2l, sizeLine_eq]; lia), _, rfl, ?_⟩
          repeat walk_at "my_step"
          refine ⟨s2, ?_⟩
          dsimp only
          rw [lS_app]; rfl
    · rintro f ⟨H2, l2⟩ ⟨rfl, s2, e1⟩
      dsimp only at s2 e1
      subst e1
      have h2l := encW_len (x := x) hw9
      have he : encW w x = (if x / 864 % 2 = 1 then [34] ++ w.1 ++ [92] ++ [w.2] ++ [34] else (w.1 ++ [w.2]).flatMap fun ch => [92] ++ [ch]) ++ [[10, 32, 9].getD (x / 1728) 0] := rfl
      generalize (if x / 864 % 2 = 1 then [34] ++ w.1 ++ [92] ++ [w.2] ++ [34] else (w.1 ++ [w.2]).flatMap fun ch => [92] ++ [ch]) = e at he
      rw [he] at h2l
      simp only [List.length_append, List.length_cons, List.length_nil] at h2l
      repeat walk_at "my_step"
      rw [show ((x : Int).fdiv 1728) = ((x / 1728 : Nat) : Int) from fdivN x 1728]
      have hx3 : x / 1728 < 3 := by lia
      have hit : [AV.str (Str.ofString "\n"), AV.str (Str.ofString " "), AV.str (Str.ofString "\t")][x / 1728]? = some (AV.str (lS [[10, 32, 9].getD (x / 1728) 0])) := by
        generalize x / 1728 = k at hx3
        match k, hx3 with
        | 0, _ => rw [show Str.ofString "\n" = lS [10] by decide +kernel]; rfl
        | 1, _ => rw [show Str.ofString " " = lS [32] by decide +kernel]; rfl
        | 2, _ => rw [show Str.ofString "\t" = lS [9] by decide +kernel]; rfl
      refine ⟨_, .tupN hit (by simp), ?_⟩
      refine ⟨_, .addS (by rw [lS_len, lS_len, sizeLine_eq]; simp; lia), _, rfl, ?_⟩
      repeat walk_at "my_step"
      dsimp only
      refine ⟨H2, [(Str.ofString "words", AV.obj (.ref D)), (Str.ofString "numbers", AV.obj (.ref E)), (Str.ofString "text", _)], fun _ _ e => e, fun _ _ e => lkApp (l := [(Str.ofString "words", AV.obj (.ref D)), (Str.ofString "numbers", AV.obj (.ref E)), (Str.ofString "text", _)]) (r := [(Str.ofString "word", .str (wS w)), (Str.ofString "x", nI x)]) e, ?_, s2⟩
      rw [hta, he, lS_app, List.append_assoc]
  · rintro ⟨σH, σl⟩ ⟨e0, s1⟩
    dsimp only at e0 s1
    subst e0
    have hzl : (zipL (ws.map fun w => AV.str (wS w)) (xs.map nI)).length = ws.length := by simp [zipL, hl2]
    rw [hzl, List.take_length, ← hl2, List.take_length]
    repeat walk_at "my_step"
    refine h _ fun a o hx e => ?_
    dsimp only
    by_cases h1 : a = D
    · subst h1; rw [setH_self, ← e, hD]
    · rw [setH_ne _ _ h1]
      by_cases h2 : a = E
      · subst h2; rw [setH_self, ← e, hE]
      · rw [setH_ne _ _ h2]
        exact s1 a o hx (by rw [remH_ne _ h2, remH_ne _ h1]; exact e)
end
end

section
set_option maxHeartbeats 1000000
theorem strSl_rev (l : List Nat) : strSl (lS l) none none (some (-1)) = lS l.reverse := by
  have e : idxs none none (some (-1)) (lS l).length = (List.range l.length).reverse := by
    rw [lS_len]
    show Builtin.Str.strSliceIndices none none (-1) l.length = _
    rw [picked_rev, List.range_eq_range', List.reverse_range']
    simp [List.range_eq_range']
  have hp : (List.range l.length).filterMap (l[·]?) = l := by
    have := pick_run l.toArray 0 l.length
    simpa using this
  unfold strSl
  rw [e, if_neg (by simp)]
  have : ((List.range l.length).reverse.filterMap ((lS l).cps[·]?)) = l.reverse := by
    rw [List.filterMap_reverse]
    congr 1
    simpa [lS] using hp
  rw [this]; rfl
section
variable {c : Cx} {n : Nat} {H : Addr → Option AO} {P : Params} {L : LexA}
theorem sp_linit {x dx : Addr} {v : AV} {Q : AV → (Addr → Option AO) → Prop} (G : Good c (KL P)) (hx : H x = some (.inst 100 dx)) (hdx : H dx = some (.attrs []))
    (h : ∀ PB (H' : Addr → Option AO), H PB = none → Same [dx] H H' → H' PB = some (.list []) → H' dx = some (.attrs [(Str.ofString "lineno", .int 1), (Str.ofString "instream", v), (Str.ofString "whitespace", .str wsS), (Str.ofString "pushback", .obj (.ref PB))]) → Q .none H') : CallC c (n + 2) H (.ref 76) [.obj (.ref x), v] [] [] Q := by
  refine callDef [Str.ofString "self", Str.ofString "fp"] G rfl rfl (fun vs hvs => by obtain ⟨v, w, rfl⟩ := len2 hvs; rfl) rfl (by dsimp only) (by dsimp only) rfl rfl (by dsimp only [List.zip, List.zipWith]) fun env' S => ?_
  have hxd : x ≠ dx := by rintro rfl; rw [hx] at hdx; cases hdx
  have fs0 : ∀ (fs : List (Str × AV)) (a : AO) (H1 : Addr → Option AO), Same [dx] H H1 → H1 x = some (.inst 100 dx) → Same [dx] H (setH H1 dx a) ∧ setH H1 dx a x = some (.inst 100 dx) ∧ ∀ b, H b = none → b ≠ dx := fun fs a H1 s e => ⟨s.set (.inl (by simp)), by rw [setH_ne _ _ hxd]; exact e, fun b hb q => by subst q; rw [hb] at hdx; cases hdx⟩
  have e1 : put [] (Str.ofString "lineno") (.int 1) = [(Str.ofString "lineno", AV.int 1)] := by walk_at "my_put"
  have e2 : put [(Str.ofString "lineno", AV.int 1)] (Str.ofString "instream") v = [(Str.ofString "lineno", AV.int 1), (Str.ofString "instream", v)] := by walk_at "my_put"
  have e3 : put [(Str.ofString "lineno", AV.int 1), (Str.ofString "instream", v)] (Str.ofString "whitespace") (.str wsS) = [(Str.ofString "lineno", AV.int 1), (Str.ofString "instream", v), (Str.ofString "whitespace", .str wsS)] := by walk_at "my_put"
  have e4 : ∀ D, put [(Str.ofString "lineno", AV.int 1), (Str.ofString "instream", v), (Str.ofString "whitespace", .str wsS)] (Str.ofString "pushback") (.obj (.ref D)) = [(Str.ofString "lineno", AV.int 1), (Str.ofString "instream", v), (Str.ofString "whitespace", .str wsS), (Str.ofString "pushback", .obj (.ref D))] := by intro D; walk_at "my_put"
  refine sCons ?_
  refine sSetAttr G ?_ rfl
  repeat walk_at "my_step"
  refine ⟨_, 100, _, _, rfl, rfl, rfl, ⟨hx, hdx⟩, by simp, ?_⟩
  dsimp only
  obtain ⟨s1, hx1, _⟩ := fs0 [] (.attrs (put [] (Str.ofString "lineno") (.int 1))) H Same.refl hx
  have hd1 : setH H dx (.attrs (put [] (Str.ofString "lineno") (.int 1))) dx = some _ := setH_self _ _ _
  generalize setH H dx (.attrs (put [] (Str.ofString "lineno") (.int 1))) = H1 at s1 hx1 hd1
  repeat walk_at "my_step"
  refine sSetAttr G ?_ rfl
  repeat walk_at "my_step"
  refine ⟨_, 100, _, _, rfl, rfl, rfl, ⟨hx1, hd1⟩, by decide +kernel, ?_⟩
  dsimp only
  obtain ⟨s2, hx2, _⟩ := fs0 [] (.attrs (put (put [] (Str.ofString "lineno") (.int 1)) (Str.ofString "instream") v)) H1 s1 hx1
  have hd2 : setH H1 dx (.attrs (put (put [] (Str.ofString "lineno") (.int 1)) (Str.ofString "instream") v)) dx = some _ := setH_self _ _ _
  generalize setH H1 dx (.attrs (put (put [] (Str.ofString "lineno") (.int 1)) (Str.ofString "instream") v)) = H2 at s2 hx2 hd2
  repeat walk_at "my_step"
  refine sSetAttr G ?_ rfl
  repeat walk_at "my_step"
  refine ⟨_, 100, _, _, rfl, rfl, rfl, ⟨hx2, hd2⟩, by rw [e1, e2]; simp, ?_⟩
  dsimp only
  obtain ⟨s3, hx3, hnd⟩ := fs0 [] (.attrs (put (put (put [] (Str.ofString "lineno") (.int 1)) (Str.ofString "instream") v) (Str.ofString "whitespace") (.str wsS))) H2 s2 hx2
  have hd3 : setH H2 dx (.attrs (put (put (put [] (Str.ofString "lineno") (.int 1)) (Str.ofString "instream") v) (Str.ofString "whitespace") (.str wsS))) dx = some _ := setH_self _ _ _
  change TF _ _ _ ⟨setH H2 dx (.attrs (put (put (put [] (Str.ofString "lineno") (.int 1)) (Str.ofString "instream") v) (Str.ofString "whitespace") (.str wsS))), _⟩ _ _
  generalize setH H2 dx (.attrs (put (put (put [] (Str.ofString "lineno") (.int 1)) (Str.ofString "instream") v) (Str.ofString "whitespace") (.str wsS))) = H3 at s3 hx3 hd3
  repeat walk_at "my_step"
  refine sSetAttr G ?_ rfl
  repeat walk_at "my_step"
  intro D hD hDB
  dsimp only at hD
  have hDx := neOf hD hx3
  have hDd := neOf hD hd3
  have hDH : H D = none := s3.none hD (by simpa using hDd)
  repeat walk_at "my_step"
  refine ⟨_, 100, _, _, rfl, rfl, rfl, ⟨by dsimp only; rw [setH_ne _ _ (Ne.symm hDx)]; exact hx3, by dsimp only; rw [setH_ne _ _ (Ne.symm hDd)]; exact hd3⟩, by rw [e1, e2, e3]; simp, ?_⟩
  repeat walk_at "my_step"
  dsimp only
  refine h D _ hDH ((s3.set (.inr hDH)).set (.inl (by simp))) ?_ ?_
  · rw [setH_ne _ _ hDd, setH_self]
  · rw [setH_self]
    rw [e1, e2, e3, e4]
theorem nd10 {a b c d e f g h i j : Addr} (h01 : a ≠ b) (h02 : a ≠ c) (h03 : a ≠ d) (h04 : a ≠ e) (h05 : a ≠ f) (h06 : a ≠ g) (h07 : a ≠ h) (h08 : a ≠ i) (h09 : a ≠ j) (h12 : b ≠ c) (h13 : b ≠ d) (h14 : b ≠ e) (h15 : b ≠ f) (h16 : b ≠ g) (h17 : b ≠ h) (h18 : b ≠ i) (h19 : b ≠ j) (h23 : c ≠ d) (h24 : c ≠ e) (h25 : c ≠ f) (h26 : c ≠ g) (h27 : c ≠ h) (h28 : c ≠ i) (h29 : c ≠ j) (h34 : d ≠ e) (h35 : d ≠ f) (h36 : d ≠ g) (h37 : d ≠ h) (h38 : d ≠ i) (h39 : d ≠ j) (h45 : e ≠ f) (h46 : e ≠ g) (h47 : e ≠ h) (h48 : e ≠ i) (h49 : e ≠ j) (h56 : f ≠ g) (h57 : f ≠ h) (h58 : f ≠ i) (h59 : f ≠ j) (h67 : g ≠ h) (h68 : g ≠ i) (h69 : g ≠ j) (h78 : h ≠ i) (h79 : h ≠ j) (h89 : i ≠ j) : [a, b, c, d, e, f, g, h, i, j].Nodup := by
  simp only [List.nodup_cons, List.mem_cons, List.not_mem_nil, or_false, not_or, List.nodup_nil, and_true, not_false_eq_true]
  exact ⟨⟨h01, h02, h03, h04, h05, h06, h07, h08, h09⟩, ⟨h12, h13, h14, h15, h16, h17, h18, h19⟩, ⟨h23, h24, h25, h26, h27, h28, h29⟩, ⟨h34, h35, h36, h37, h38, h39⟩, ⟨h45, h46, h47, h48, h49⟩, ⟨h56, h57, h58, h59⟩, ⟨h67, h68, h69⟩, ⟨h78, h79⟩, h89⟩
theorem Tr.cells {α β : Type} {env : Env} {σ : St} {ρ : Heap → β → α → Prop} {t : Sem α} {Q : β → St → Prop} (h : Tr c n env ρ σ t fun b σ' => (∀ x k, env.cells.lookup x = some k → σ'.H k = none) → Q b σ') : Tr c n env ρ σ t Q := fun A hA s R =>
  wpAny_mono (h A hA s R) (fun _ _ ⟨b, σ', h1, R', S', h4⟩ => ⟨b, σ', h1, R', S', h4 fun x k e => R'.fpH k (.inr ⟨x, e⟩)⟩) fun _ _ e => e
noncomputable def TabX (ps : Array Value) (o : Obj) : Prop := ∃ more, o = tabObj (ps ++ more)
noncomputable def newFs (v : AV) (PB : Addr) : List (Str × AV) := [(Str.ofString "lineno", .int 1), (Str.ofString "instream", v), (Str.ofString "whitespace", .str wsS), (Str.ofString "pushback", .obj (.ref PB))]
theorem sp_lnew {v : AV} {Q : AV → (Addr → Option AO) → Prop} (G : Good c (KL P))
    (h : ∀ x dx PB H', H x = none → H dx = none → H PB = none → x ≠ dx → PB ≠ x → PB ≠ dx → Same [] H H' → H' x = some (.inst 100 dx) → H' dx = some (.attrs (newFs v PB)) → H' PB = some (.list []) → Q (.obj (.ref x)) H') : CallC c (n + 3) H (.ref 100) [v] [] [] Q := by
  refine callC_make G rfl rfl rfl fun x dx hx hdx hne hxB hdB => ?_
  have ex : setH (setH H dx (.attrs [])) x (.inst 100 dx) x = some (.inst 100 dx) := setH_self _ _ _
  have ed : setH (setH H dx (.attrs [])) x (.inst 100 dx) dx = some (.attrs []) := (setH_ne _ _ (Ne.symm hne)).trans (setH_self _ _ _)
  refine sp_linit G ex ed fun PB H' hPB s e1 e2 => ⟨rfl, ?_⟩
  have nx := neOf hPB ex
  have nd := neOf hPB ed
  rw [setH_ne _ _ nx, setH_ne _ _ nd] at hPB
  refine h x dx PB H' hx hdx hPB hne nx nd ?_ (s _ _ (by simpa using hne) ex) e2 e1
  intro a o _ ha
  have h1 : a ≠ x := by rintro rfl; rw [hx] at ha; cases ha
  have h2 : a ≠ dx := by rintro rfl; rw [hdx] at ha; cases ha
  exact s a o (by simpa using h2) ((setH_ne _ _ h1).trans ((setH_ne _ _ h2).trans ha))
theorem sp_lexer {l : List Nat} {ps : Array Value} {Q : AV → (Addr → Option AO) → Prop} (G : Good c (KL P)) (N : NewFn c 189) (C : CodeHd c.B 191 189) (hT : H 189 = some (.raw (tabObj ps))) (ht : TriplesOk ps.toList) (hnf : codeAmong { line := 218, col := 18, endLine := 218, endCol := 66 } ps.toList = none) (hl : l.length ≤ 1000)
    (h : ∀ L H', Same [189] H H' → (∀ a ∈ L.all, H a = none) → LexAt (KL P) L H' 1 (l.map sgn) [] → (∃ o, TabX ps o ∧ H' 189 = some (.raw o)) → Q (.obj (.ref L.X)) H') : CallC c (n + 4) H (.ref 192) [.str (lS l)] [] [] Q := by
  refine callDef [Str.ofString "text"] G rfl rfl (fun vs hvs => by obtain ⟨v, rfl⟩ := len1 hvs; rfl) rfl (by dsimp only) (by dsimp only) rfl rfl (by dsimp only [List.zip, List.zipWith]) fun env' S => ?_
  refine sCons ?_
  refine sComp (by assumption) rfl rfl ⟨_, rfl⟩ ?_ (fun _ => rfl)
  refine iStr ?_
  refine tSliceSt ?_ (fun _ _ => rfl)
  repeat walk_at "my_step"
  refine ⟨lS l, -1, rfl, rfl, by decide, by rw [strSl_rev, lS_len]; simp; lia, ?_⟩
  rw [strSl_rev]
  refine ⟨_, rfl, ?_⟩
  have hsg : signsOf (lS l.reverse) = l.reverse.map fun ch => AV.str (sgn ch) := by simp [signsOf, lS, sgn]
  unfold kStr1
  rw [hsg]
  refine ⟨by rw [sizeLine_eq]; simp; lia, fun i ys H2 => H2 = H ∧ ys = (l.reverse.take i).map fun ch => AV.str (sgn ch), ⟨rfl, rfl⟩, ?_, ?_⟩
  · rintro env₂ S₂ i a ys H2 ha hlen ⟨rfl, rfl⟩
    rw [List.getElem?_map] at ha
    obtain ⟨q, hq, rfl⟩ := Option.map_eq_some_iff.mp ha
    have htk : l.reverse.take (i + 1) = l.reverse.take i ++ [q] := by
      obtain ⟨h1, h2⟩ := List.getElem?_eq_some_iff.mp hq
      rw [← h2, List.take_append_getElem]
    rw [show captOf [(Str.ofString ".0", NameKind.local), (Str.ofString "sign", NameKind.local)] [(Str.ofString "text", AV.str (lS l))] = [] from rfl]
    replace S₂ : Sc env₂ [(Str.ofString ".0", NameKind.local), (Str.ofString "sign", NameKind.local)] (.ref 191) := S₂
    clear S
    refine aName' (by assumption) (by decide +kernel) ⟨_, by walk_at "my_put", ?_⟩
    refine tests0 ⟨fun _ => ?_, fun e => by cases e⟩
    repeat walk_at "my_step"
    exact ⟨(fun x a e => by cases e), rfl, by rw [htk, List.map_append]; rfl⟩
  · rintro ys H2 SG ⟨rfl, rfl⟩ hSG hSGB hne
    refine ⟨fun _ _ => rfl, ?_⟩
    dsimp only [id]
    rw [List.length_map, List.take_length]
    repeat walk_at "my_step"
    have hT1 := keepNew hSG (.list (l.reverse.map fun ch => AV.str (sgn ch))) hT
    have e1SG : setH H2 SG (.list (l.reverse.map fun ch => AV.str (sgn ch))) SG = some _ := setH_self _ _ _
    have s1 : Same [] H2 (setH H2 SG (.list (l.reverse.map fun ch => AV.str (sgn ch)))) := Same.refl.set (.inr hSG)
    have hTSG := neOf hSG hT
    rw [show put [(Str.ofString "text", AV.str (lS l))] (Str.ofString "signs") (AV.obj (Value.ref SG)) = [(Str.ofString "text", AV.str (lS l)), (Str.ofString "signs", AV.obj (Value.ref SG))] by walk_at "my_put"]
    dsimp only
    generalize setH H2 SG (.list (l.reverse.map fun ch => AV.str (sgn ch))) = H1 at hT1 e1SG s1
    refine (sp_lnew G fun SI DSI SP H3 fSI fDSI fSP hSD hSPS hSPD s3 e3SI e3DSI e3SP => ?_).S
    have e3SG := s3 _ _ (by simp) e1SG
    have e3T := s3 _ _ (by simp) hT1
    repeat walk_at "my_step"
    refine sSetAttr G ?_ rfl
    refine tLambda (fv := Str.ofString "signs") S N C e3T ht hnf (by decide +kernel) ?_ ?_ rfl
    · intro k hk
      unfold closureFor cellOf
      simp [hk]
    · intro k CN LAM oc vs t pm ctv qual hk fCN fLAM hCNB hLAMB hLC hLk hCk hLT hCT hd hv
      have hlam : lamIn (KL P) 192 = some (_, _, _) := rfl
      obtain ⟨pp, bb, ss, hlam, ko, hko, hgo⟩ : ∃ pp bb ss, lamIn (KL P) 192 = some (pp, bb, ss) ∧ ∃ ko, ko = kla_obj (Str.ofString "<lambda>") qual pp bb ss [(Str.ofString "signs", k)] pm CN ctv ∧ True := ⟨_, _, _, rfl, _, rfl, trivial⟩
      cases hlam
      rw [← hko]
      change TV c (n + 3) env' ⟨setH (setH (setH H3 189 (.raw (tabObj (ps ++ #[rawInt ((218 : Nat) : Int), rawInt ((18 : Nat) : Int), Value.ref CN])))) CN (.raw oc)) LAM (.raw ko), [(Str.ofString "text", AV.str (lS l)), (Str.ofString "signs", AV.obj (Value.ref SG)), (Str.ofString "stream", AV.obj (Value.ref SI))]⟩ _ _
      have htb : TabX ps (tabObj (ps ++ #[rawInt ((218 : Nat) : Int), rawInt ((18 : Nat) : Int), Value.ref CN])) := ⟨_, rfl⟩
      generalize tabObj (ps ++ #[rawInt ((218 : Nat) : Int), rawInt ((18 : Nat) : Int), Value.ref CN]) = tb at htb
      have k4 : ∀ a o, a ≠ 189 → H3 a = some o → setH (setH (setH H3 189 (.raw tb)) CN (.raw oc)) LAM (.raw ko) a = some o := fun a o ha e => by
        rw [setH_ne _ _ (Ne.symm (neOf fLAM e)), setH_ne _ _ (Ne.symm (neOf fCN e)), setH_ne _ _ ha]; exact e
      have e4LAM : setH (setH (setH H3 189 (.raw tb)) CN (.raw oc)) LAM (.raw ko) LAM = some (.raw ko) := setH_self _ _ _
      have e4CN : setH (setH (setH H3 189 (.raw tb)) CN (.raw oc)) LAM (.raw ko) CN = some (.raw oc) := by rw [setH_ne _ _ (Ne.symm hLC), setH_self]
      have e4T : setH (setH (setH H3 189 (.raw tb)) CN (.raw oc)) LAM (.raw ko) 189 = some (.raw tb) := by rw [setH_ne _ _ (Ne.symm hLT), setH_ne _ _ (Ne.symm hCT), setH_self]
      generalize setH (setH (setH H3 189 (.raw tb)) CN (.raw oc)) LAM (.raw ko) = H4 at k4 e4LAM e4CN e4T
      have e4SI := k4 _ _ (neOf fSI hT1) e3SI
      have e4DSI := k4 _ _ (neOf fDSI hT1) e3DSI
      have e4SP := k4 _ _ (neOf fSP hT1) e3SP
      have e4SG := k4 _ _ hTSG e3SG
      have s4 : Same [189] H2 H4 := fun a o ha e => k4 a o (by simpa using ha) (s3 a o (by simp) (s1 a o (by simp) e))
      repeat walk_at "my_step"
      refine ⟨SI, 100, DSI, _, rfl, rfl, rfl, ⟨e4SI, e4DSI⟩, by simp [newFs], ?_⟩
      rw [show put (newFs .none SP) (Str.ofString "read") (.obj (.ref LAM)) = [(Str.ofString "lineno", .int 1), (Str.ofString "instream", .none), (Str.ofString "whitespace", .str wsS), (Str.ofString "pushback", .obj (.ref SP)), (Str.ofString "read", .obj (.ref LAM))] by unfold newFs; walk_at "my_put"]
      dsimp only
      have hk5 : ∀ a o, a ≠ DSI → H4 a = some o → setH H4 DSI (.attrs [(Str.ofString "lineno", .int 1), (Str.ofString "instream", .none), (Str.ofString "whitespace", .str wsS), (Str.ofString "pushback", .obj (.ref SP)), (Str.ofString "read", .obj (.ref LAM))]) a = some o := fun a o ha e => (setH_ne _ _ ha).trans e
      have e5DSI : setH H4 DSI (.attrs [(Str.ofString "lineno", .int 1), (Str.ofString "instream", .none), (Str.ofString "whitespace", .str wsS), (Str.ofString "pushback", .obj (.ref SP)), (Str.ofString "read", .obj (.ref LAM))]) DSI = some _ := setH_self _ _ _
      generalize setH H4 DSI (.attrs [(Str.ofString "lineno", .int 1), (Str.ofString "instream", .none), (Str.ofString "whitespace", .str wsS), (Str.ofString "pushback", .obj (.ref SP)), (Str.ofString "read", .obj (.ref LAM))]) = H5 at hk5 e5DSI
      have e5SI := hk5 _ _ hSD e4SI
      have e5SP := hk5 _ _ hSPD e4SP
      have e5SG := hk5 _ _ (Ne.symm (neOf fDSI e1SG)) e4SG
      have e5LAM := hk5 _ _ (neOf fLAM e3DSI) e4LAM
      have e5CN := hk5 _ _ (neOf fCN e3DSI) e4CN
      have e5T := hk5 _ _ (Ne.symm (neOf fDSI hT1)) e4T
      have fDSI2 : H2 DSI = none := s1.none fDSI (by simp)
      have s5 : Same [189] H2 H5 := fun a o ha e => hk5 a o (by rintro rfl; rw [fDSI2] at e; cases e) (s4 a o ha e)
      refine sCons ?_
      refine sReturn (Tr.cells ?_)
      repeat walk_at "my_step"
      refine (sp_lnew G fun X DX PB H6 fX fDX fPB hXDX hPBX hPBD s6 e6X e6DX e6PB => ?_).S
      intro hcells
      have hCE : H6 k = none := hcells _ _ hk
      have e6SI := s6 _ _ (by simp) e5SI
      have e6DSI := s6 _ _ (by simp) e5DSI
      have e6SP := s6 _ _ (by simp) e5SP
      have e6SG := s6 _ _ (by simp) e5SG
      have e6LAM := s6 _ _ (by simp) e5LAM
      have e6CN := s6 _ _ (by simp) e5CN
      have e6T := s6 _ _ (by simp) e5T
      have nd := nd10 hXDX (Ne.symm hPBX) (neOf fX e5SI) (neOf fX e5DSI) (neOf fX e5SP) (neOf fX e5LAM) (Ne.symm (neOf hCE e6X)) (neOf fX e5SG) (neOf fX e5CN) (Ne.symm hPBD) (neOf fDX e5SI) (neOf fDX e5DSI) (neOf fDX e5SP) (neOf fDX e5LAM) (Ne.symm (neOf hCE e6DX)) (neOf fDX e5SG) (neOf fDX e5CN) (neOf fPB e5SI) (neOf fPB e5DSI) (neOf fPB e5SP) (neOf fPB e5LAM) (Ne.symm (neOf hCE e6PB)) (neOf fPB e5SG) (neOf fPB e5CN) hSD (Ne.symm hSPS) (Ne.symm (neOf fLAM e3SI)) (Ne.symm (neOf hCE e6SI)) (neOf fSI e1SG) (Ne.symm (neOf fCN e3SI)) (Ne.symm hSPD) (Ne.symm (neOf fLAM e3DSI)) (Ne.symm (neOf hCE e6DSI)) (neOf fDSI e1SG) (Ne.symm (neOf fCN e3DSI)) (Ne.symm (neOf fLAM e3SP)) (Ne.symm (neOf hCE e6SP)) (neOf fSP e1SG) (Ne.symm (neOf fCN e3SP)) (Ne.symm (neOf hCE e6LAM)) (neOf fLAM e3SG) hLC (neOf hCE e6SG) (neOf hCE e6CN) (Ne.symm (neOf fCN e3SG))
      have k7 : ∀ a o, H6 a = some o → setH H6 k (.cell (.ref SG)) a = some o := fun a o e => by rw [setH_ne _ _ (Ne.symm (neOf hCE e))]; exact e
      have s6' : Same [189] H2 H6 := fun a o ha e => s6 a o (by simp) (s5 a o ha e)
      have hkT := neOf hCE e6T
      refine ⟨setH H6 k (.cell (.ref SG)), fun b o e => ?_, ?_⟩
      · by_cases hb : b = k
        · subst hb
          rw [setH_self] at e
          exact .inr ⟨_, _, hk, by dsimp only; walk_at "my_lk", (Option.some.inj e).symm⟩
        · rw [setH_ne _ _ hb] at e; exact .inl e
      · refine h ⟨X, DX, PB, SI, DSI, SP, LAM, k, SG, CN⟩ _ (fun a o ha e => k7 a o (s6' a o ha e)) ?_ ?_ ⟨tb, htb, k7 _ _ e6T⟩
        · have n2 : ∀ a, a ≠ 189 → H4 a = none → H2 a = none := fun a ha e => s4.none e (by simpa using ha)
          have n5 : ∀ a, a ≠ 189 → H5 a = none → H2 a = none := fun a ha e => s5.none e (by simpa using ha)
          have n1 : ∀ a, H1 a = none → H2 a = none := fun a e => s1.none e (by simp)
          have n3 : ∀ a, H3 a = none → H2 a = none := fun a e => n1 _ (s3.none e (by simp))
          intro a ha
          simp only [LexA.all, List.mem_cons, List.not_mem_nil, or_false] at ha
          rcases ha with rfl | rfl | rfl | rfl | rfl | rfl | rfl | rfl | rfl | rfl
          · exact n5 _ (neOf fX e5T) fX
          · exact n5 _ (neOf fDX e5T) fDX
          · exact n5 _ (neOf fPB e5T) fPB
          · exact n1 _ fSI
          · exact n1 _ fDSI
          · exact n1 _ fSP
          · exact n3 _ fLAM
          · exact s6'.none hCE (by simpa using hkT)
          · exact hSG
          · exact n3 _ fCN
        · exact ⟨nd, k7 _ _ e6X, k7 _ _ e6DX, k7 _ _ e6PB, k7 _ _ e6SI, k7 _ _ e6DSI, ⟨_, _, _, qual, pm, ctv, oc, vs, t, rfl, by rw [k7 _ _ e6LAM, hko], k7 _ _ e6CN, hd, hv⟩, setH_self _ _ _, by rw [k7 _ _ e6SG, List.map_reverse, List.map_reverse, List.map_map]; rfl, k7 _ _ e6SP⟩
end
end

section
set_option maxHeartbeats 1000000
/-- the light of a column and a name, there and back -/
noncomputable def hueOf (il : Nat) : UInt64 := Float64.ofFrac false il 8
noncomputable def lightOk (il : Nat) (s v : UInt64) : Bool :=
  match Float64.decode (Float64.mul (hueOf il) f6) with
  | .fin sg m e =>
    let i := Float64.truncOf sg m e
    !(Float64.cmp s 0 == some Ordering.eq) && !Float64.isInf (Float64.ofInt i) &&
    match hsvRgb (hueOf il) s v i with
    | [.float r, .float g, .float b] => !(Float64.cmp (min3 r g b) (max3 r g b) == some Ordering.eq) && !Float64.isZero (max3 r g b) && !Float64.isZero (Float64.sub (max3 r g b) (min3 r g b)) &&
      match rgbHsv r g b with
      | [.float x, .float y, .float z] => x == hueOf (il % 8) && y == s && z == v
      | _ => false
    | _ => false
  | _ => false
theorem lightAll0 : ((List.range 8).all fun il => (List.range 6).all fun r => lightOk (0 + il) (satOf r) (valOf r)) = true := by decide +kernel
theorem lightAll1 : ((List.range 8).all fun il => (List.range 6).all fun r => lightOk (8 + il) (satOf r) (valOf r)) = true := by decide +kernel
theorem lightAll2 : ((List.range 8).all fun il => (List.range 6).all fun r => lightOk (16 + il) (satOf r) (valOf r)) = true := by decide +kernel
theorem lightAll3 : ((List.range 8).all fun il => (List.range 6).all fun r => lightOk (24 + il) (satOf r) (valOf r)) = true := by decide +kernel
theorem lightAll4 : ((List.range 8).all fun il => (List.range 6).all fun r => lightOk (32 + il) (satOf r) (valOf r)) = true := by decide +kernel
theorem lightAll5 : ((List.range 8).all fun il => (List.range 6).all fun r => lightOk (40 + il) (satOf r) (valOf r)) = true := by decide +kernel
theorem lightAll6 : ((List.range 4).all fun il => (List.range 6).all fun r => lightOk (48 + il) (satOf r) (valOf r)) = true := by decide +kernel
theorem lightOk_all {il r : Nat} (h : il < 52) (hr : r < 6) : lightOk il (satOf r) (valOf r) = true := by
  have ap : ∀ {b m : Nat}, ((List.range m).all fun il => (List.range 6).all fun r => lightOk (b + il) (satOf r) (valOf r)) = true → b ≤ il → il < b + m → lightOk il (satOf r) (valOf r) = true := fun {b m} x h1 h2 => by
    have := List.all_eq_true.mp x (il - b) (List.mem_range.mpr (by omega))
    have := List.all_eq_true.mp this r (List.mem_range.mpr hr)
    rwa [Nat.add_sub_cancel' h1] at this
  rcases Nat.lt_or_ge il 8 with h1 | h1
  · exact ap lightAll0 (by omega) (by omega)
  rcases Nat.lt_or_ge il 16 with h2 | h2
  · exact ap lightAll1 (by omega) (by omega)
  rcases Nat.lt_or_ge il 24 with h3 | h3
  · exact ap lightAll2 (by omega) (by omega)
  rcases Nat.lt_or_ge il 32 with h4 | h4
  · exact ap lightAll3 (by omega) (by omega)
  rcases Nat.lt_or_ge il 40 with h5 | h5
  · exact ap lightAll4 (by omega) (by omega)
  rcases Nat.lt_or_ge il 48 with h6 | h6
  · exact ap lightAll5 (by omega) (by omega)
  · exact ap lightAll6 (by omega) (by omega)
/-- the same, as the walk needs it -/
theorem lightFacts {il : Nat} {s v : UInt64} (h : lightOk il s v = true) : ∃ sg m e i r g b, Float64.decode (Float64.mul (hueOf il) f6) = .fin sg m e ∧ Float64.truncOf sg m e = i ∧ (Float64.cmp s 0 == some Ordering.eq) = false ∧ Float64.isInf (Float64.ofInt i) = false ∧
    hsvRgb (hueOf il) s v i = [.float r, .float g, .float b] ∧ (Float64.cmp (min3 r g b) (max3 r g b) == some Ordering.eq) = false ∧ Float64.isZero (max3 r g b) = false ∧ Float64.isZero (Float64.sub (max3 r g b) (min3 r g b)) = false ∧
    rgbHsv r g b = [.float (hueOf (il % 8)), .float s, .float v] := by
  unfold lightOk at h
  split at h
  · rename_i sg m e hd
    dsimp only at h
    simp only [Bool.and_eq_true, Bool.not_eq_true'] at h
    obtain ⟨⟨h1, h2⟩, h3⟩ := h
    split at h3
    · rename_i r g b hr
      simp only [Bool.and_eq_true, Bool.not_eq_true'] at h3
      obtain ⟨⟨⟨h4, h5⟩, h6⟩, h7⟩ := h3
      split at h7
      · rename_i x y z hx
        simp only [Bool.and_eq_true, beq_iff_eq] at h7
        obtain ⟨⟨rfl, rfl⟩, rfl⟩ := h7
        exact ⟨sg, m, e, _, r, g, b, hd, rfl, h1, h2, hr, h4, h5, h6, hx⟩
      · cases h7
    · cases h3
  · cases h
theorem hueLt : ((List.range 8).all fun a => (List.range 8).all fun b => (fLt (hueOf a) (hueOf b) == decide (a < b)) && ((Float64.cmp (hueOf a) (hueOf b) == some Ordering.eq) == decide (a = b))) = true := by decide +kernel
theorem hue_lt {a b : Nat} (ha : a < 8) (hb : b < 8) : fLt (hueOf a) (hueOf b) = decide (a < b) := by
  have := List.all_eq_true.mp (List.all_eq_true.mp hueLt a (List.mem_range.mpr ha)) b (List.mem_range.mpr hb)
  simp only [Bool.and_eq_true, beq_iff_eq] at this
  exact this.1
theorem hue_eq {a b : Nat} (ha : a < 8) (hb : b < 8) : (Float64.cmp (hueOf a) (hueOf b) == some Ordering.eq) = decide (a = b) := by
  have := List.all_eq_true.mp (List.all_eq_true.mp hueLt a (List.mem_range.mpr ha)) b (List.mem_range.mpr hb)
  simp only [Bool.and_eq_true, beq_iff_eq] at this
  exact this.2
/-- a name's rank -/
noncomputable def rk (a : Nat) : Nat := six0.idxOf a
theorem rk_lt {a : Nat} (h : a ∈ six0) : rk a < 6 := List.idxOf_lt_length_of_mem h
theorem six_rk {a : Nat} (h : a ∈ six0) : six[rk a]? = some (sgn a) := by
  simp only [six0, List.mem_cons, List.not_mem_nil, or_false] at h
  rcases h with rfl | rfl | rfl | rfl | rfl | rfl <;> decide +kernel
end

section
set_option maxHeartbeats 1000000
/-- a column, by a walk from sign to sign -/
noncomputable def colL (ts : Nat) : List Nat → Nat → Nat
  | [], c => c
  | ch :: l, c => colL ts l (if ch = 32 then c + 1 else c - c % ts + ts)
noncomputable def tot (cnt : List Nat) (ts : Nat) : Nat → Nat
  | 0 => 0
  | k + 1 => tot cnt ts k + k / ts * cnt.getD k 0
theorem tot_small (cnt : List Nat) {ts : Nat} : ∀ {k : Nat}, k ≤ ts → tot cnt ts k = 0
  | 0, _ => rfl
  | k + 1, h => by
    unfold tot
    rw [tot_small cnt (by lia), Nat.div_eq_of_lt (by lia)]; simp
theorem ilN_tot (w : WsSt) (ts : Nat) : ∀ m : Nat, ilN w ts m = tot w.count ts (ts + m)
  | 0 => (tot_small _ (Nat.le_refl _)).symm
  | m + 1 => by
    show ilN w ts m + (ts + m) / ts * w.count.getD (ts + m) 0 = tot w.count ts (ts + m) + (ts + m) / ts * w.count.getD (ts + m) 0
    rw [ilN_tot w ts m]
theorem tot_ge (cnt : List Nat) (ts : Nat) : ∀ d : Nat, tot cnt ts (cnt.length + d) = tot cnt ts cnt.length
  | 0 => rfl
  | d + 1 => by
    show tot cnt ts (cnt.length + d) + (cnt.length + d) / ts * cnt.getD (cnt.length + d) 0 = _
    rw [tot_ge cnt ts d]
    simp
theorem tot_of (cnt : List Nat) (ts : Nat) {k : Nat} (h : cnt.length ≤ k) : tot cnt ts k = tot cnt ts cnt.length := by
  have := tot_ge cnt ts (k - cnt.length)
  rwa [Nat.add_sub_cancel' h] at this
theorem indentOf_eq (w : WsSt) (ts : Nat) {k : Nat} (h : w.count.length ≤ k) : indentOf w ts = w.b + ts * (tot w.count ts k + w.nt) := by
  unfold indentOf
  rw [ilN_tot, tot_of _ _ h, tot_of _ _ (by lia)]
theorem tot_ext {a b : List Nat} (ts : Nat) (h : ∀ i, a.getD i 0 = b.getD i 0) : ∀ k, tot a ts k = tot b ts k
  | 0 => rfl
  | k + 1 => by unfold tot; rw [tot_ext ts h k, h k]
theorem tot_set (l : List Nat) (ts : Nat) {b : Nat} (hb : b < l.length) : ∀ k, tot (l.set b (l.getD b 0 + 1)) ts k = tot l ts k + if b < k then b / ts else 0
  | 0 => by simp [tot]
  | k + 1 => by
    unfold tot
    rw [tot_set l ts hb k]
    by_cases hk : k = b
    · subst hk
      rw [if_neg (by lia), if_pos (by lia)]
      have : (l.set k (l.getD k 0 + 1)).getD k 0 = l.getD k 0 + 1 := by simp [List.getD_eq_getElem?_getD, hb]
      rw [this, Nat.mul_add]; lia
    · have : (l.set b (l.getD b 0 + 1)).getD k 0 = l.getD k 0 := by simp [List.getD_eq_getElem?_getD, List.getElem?_set, Ne.symm hk]
      rw [this]
      by_cases h1 : b < k
      · rw [if_pos h1, if_pos (by lia)]; lia
      · rw [if_neg h1, if_neg (by lia)]; lia
theorem wsTab_getD (w : WsSt) (i : Nat) : (wsTab w).getD i 0 = w.count.getD i 0 := by
  unfold wsTab
  split
  · simp only [List.getD_eq_getElem?_getD, List.getElem?_append]
    split
    · rfl
    · rename_i h
      rw [List.getElem?_eq_none (Nat.not_lt.mp h), List.getElem?_replicate]
      split <;> rfl
  · rfl
theorem wsTab_lt (w : WsSt) : w.b < (wsTab w).length := by
  unfold wsTab
  split
  · simp; lia
  · lia
theorem wsTabLen (w : WsSt) : (wsTab w).length = max w.count.length (w.b + 1) := by
  unfold wsTab
  split
  · simp; lia
  · lia
theorem spS_eq : spS = sgn 32 := by decide +kernel
theorem tabS_eq : tabS = sgn 9 := by decide +kernel
theorem sgn_beq (a b : Nat) : (sgn a == sgn b) = (a == b) := by
  rw [Bool.eq_iff_iff]; simp [sgn]
theorem indent_sp (w : WsSt) (ts : Nat) : indentOf (wsStep w (sgn 32)) ts = indentOf w ts + 1 := by
  unfold wsStep indentOf
  rw [if_pos (by rw [spS_eq]; simp)]
  have : ∀ m, ilN ⟨w.count, w.b + 1, w.n + 1, w.nt⟩ ts m = ilN w ts m := fun m => by
    induction m with
    | zero => rfl
    | succ m ih => unfold ilN; rw [ih]
  rw [this]; dsimp only; lia
theorem indent_tab (w : WsSt) (ts : Nat) (h0 : 0 < ts) : indentOf (wsStep w (sgn 9)) ts = indentOf w ts - indentOf w ts % ts + ts := by
  have e : wsStep w (sgn 9) = ⟨(wsTab w).set w.b ((wsTab w).getD w.b 0 + 1), 0, w.n + 1, w.nt + 1⟩ := by
    unfold wsStep
    rw [if_neg (by rw [spS_eq, sgn_beq]; decide)]
  have hl := wsTabLen w
  rw [e, indentOf_eq w ts (k := max w.count.length (w.b + 1)) (by lia), indentOf_eq _ ts (k := max w.count.length (w.b + 1)) (by simp; lia)]
  dsimp only
  rw [tot_set _ _ (wsTab_lt w), tot_ext ts (wsTab_getD w), if_pos (by lia)]
  generalize tot w.count ts (max w.count.length (w.b + 1)) = X
  have h1 := Nat.div_add_mod w.b ts
  have h2 : (w.b + ts * (X + w.nt)) % ts = w.b % ts := Nat.add_mul_mod_self_left ..
  rw [h2]
  have h3 : ts * (X + w.b / ts + (w.nt + 1)) = ts * (X + w.nt) + ts * (w.b / ts) + ts := by
    rw [Nat.mul_add, Nat.mul_add, Nat.mul_add, Nat.mul_add]; lia
  rw [h3]
  lia
noncomputable def LeadOk (l : List Nat) : Prop := ∀ ch ∈ l, ch = 32 ∨ ch = 9
theorem wsRun_col (ts : Nat) (h0 : 0 < ts) (a : Nat) (ha : a ≠ 32 ∧ a ≠ 9) : ∀ (l : List Nat) (w : WsSt), LeadOk l → indentOf (wsRun w ((l ++ [a]).map sgn)) ts = colL ts l (indentOf w ts) ∧ (wsRun w ((l ++ [a]).map sgn)).n = w.n + l.length ∧
    (wsRun w ((l ++ [a]).map sgn)).b ≤ w.b + l.length ∧ (wsRun w ((l ++ [a]).map sgn)).count.length ≤ max w.count.length (w.b + l.length)
  | [], w, _ => by
    have : wsRun w (([] ++ [a]).map sgn) = w := by
      show wsRun w [sgn a] = w
      unfold wsRun
      rw [if_neg (by rw [spS_eq, tabS_eq, sgn_beq, sgn_beq]; simp [ha.1, ha.2])]
    rw [this]
    exact ⟨rfl, rfl, Nat.le_refl _, by simp; lia⟩
  | ch :: l, w, h => by
    have e : wsRun w (((ch :: l) ++ [a]).map sgn) = wsRun (wsStep w (sgn ch)) ((l ++ [a]).map sgn) := by
      show wsRun w (sgn ch :: (l ++ [a]).map sgn) = _
      conv => lhs; unfold wsRun
      rw [if_pos]
      rw [spS_eq, tabS_eq, sgn_beq, sgn_beq]
      rcases h ch (List.mem_cons_self ..) with rfl | rfl <;> rfl
    rw [e]
    obtain ⟨i1, i2, i3, i4⟩ := wsRun_col ts h0 a ha l (wsStep w (sgn ch)) fun x hx => h x (List.mem_cons_of_mem _ hx)
    rcases h ch (List.mem_cons_self ..) with rfl | rfl
    · refine ⟨by rw [i1, indent_sp]; rfl, ?_, ?_, ?_⟩
      all_goals
        have e : wsStep w (sgn 32) = ⟨w.count, w.b + 1, w.n + 1, w.nt⟩ := by unfold wsStep; rw [if_pos (by rw [spS_eq]; simp)]
        rw [e] at i2 i3 i4 ⊢
        simp only [List.length_cons] at i2 i3 i4 ⊢
        lia
    · refine ⟨by rw [i1, indent_tab _ _ h0]; rfl, ?_, ?_, ?_⟩
      all_goals
        have e : wsStep w (sgn 9) = ⟨(wsTab w).set w.b ((wsTab w).getD w.b 0 + 1), 0, w.n + 1, w.nt + 1⟩ := by
          unfold wsStep
          rw [if_neg (by rw [spS_eq, sgn_beq]; decide)]
        have hl := wsTabLen w
        rw [e] at i2 i3 i4 ⊢
        simp only [List.length_cons, List.length_set] at i2 i3 i4 ⊢
        lia
theorem sgns_lS (l : List Nat) : sgns (lS l) = l.map sgn := by simp [sgns, lS]
theorem ws_col {ts : Nat} (h0 : 0 < ts) {w : List Nat × Nat} (hl : LeadOk w.1) (ha : w.2 ≠ 32 ∧ w.2 ≠ 9) : indentOf (wsOf (wS w)) ts = colL ts w.1 0 := by
  unfold wsOf wS
  rw [sgns_lS]
  have := (wsRun_col ts h0 w.2 ha w.1 ⟨[], 0, 0, 0⟩ hl).1
  rw [this]; simp [indentOf, ilN]
theorem ws_sizes {w : List Nat × Nat} (hl : LeadOk w.1) (ha : w.2 ≠ 32 ∧ w.2 ≠ 9) : (wsOf (wS w)).n = w.1.length ∧ (wsOf (wS w)).b ≤ w.1.length ∧ (wsOf (wS w)).count.length ≤ w.1.length := by
  unfold wsOf wS
  rw [sgns_lS]
  obtain ⟨_, h2, h3, h4⟩ := wsRun_col 1 (by decide) w.2 ha w.1 ⟨[], 0, 0, 0⟩ hl
  refine ⟨by rw [h2]; simp, by simpa using h3, ?_⟩
  simp at h4
  simpa using h4
theorem colL_app (ts : Nat) : ∀ (l r : List Nat) (c : Nat), colL ts (l ++ r) c = colL ts r (colL ts l c)
  | [], r, c => rfl
  | ch :: l, r, c => colL_app ts l r _
end

section
set_option maxHeartbeats 1000000
noncomputable abbrev Wd : Type := List Nat × Nat
noncomputable def placeOf (ts : Nat) (w : Wd) : Nat := colL ts w.1 0 % 8
noncomputable def drive (w : Wd) : Wd := (w.1 ++ [32], w.2)
noncomputable def posOf (ts : Nat) (w : Wd) (row : List Wd) : Nat := (row.takeWhile fun v => decide (placeOf ts v < placeOf ts w)).length
noncomputable def stepRow (ts : Nat) (w : Wd) (row : List Wd) : List Wd × Option Wd :=
  match row[posOf ts w row]? with
  | none => (row.take (posOf ts w row) ++ w :: row.drop (posOf ts w row), none)
  | some v => if placeOf ts v = placeOf ts w then (if w.2 < v.2 then (row.set (posOf ts w row) w, some v) else (row, some w)) else (row.take (posOf ts w row) ++ w :: row.drop (posOf ts w row), none)
noncomputable def driven (d : Option Wd) : List Wd := (d.map drive).toList
noncomputable def runT (ts : Nat) : Nat → List Wd → List Wd → List Wd → Option (List Wd)
  | 0, _, _, _ => none
  | k + 1, row, w :: pb, ws => runT ts k (stepRow ts w row).1 (pb ++ driven (stepRow ts w row).2) ws
  | k + 1, row, [], w :: ws => runT ts k (stepRow ts w row).1 (driven (stepRow ts w row).2) ws
  | _ + 1, row, [], [] => some row
structure WOk (ts m : Nat) (w : Wd) : Prop where
  lead : LeadOk w.1
  len : w.1.length ≤ 9 + m
  nm : w.2 ∈ six0
  col : colL ts w.1 0 ≤ 11 + m
noncomputable def Srt (ts : Nat) (row : List Wd) : Prop := row.Pairwise fun v w => placeOf ts v < placeOf ts w
theorem WOk.mono {ts m m' : Nat} {w : Wd} (h : WOk ts m w) (hm : m ≤ m') : WOk ts m' w := ⟨h.lead, by have := h.len; lia, h.nm, by have := h.col; lia⟩
theorem WOk.drive {ts m : Nat} {w : Wd} (h : WOk ts m w) : WOk ts (m + 1) (drive w) := by
  refine ⟨fun ch hc => ?_, ?_, h.nm, ?_⟩
  · rcases List.mem_append.mp hc with q | q
    · exact h.lead ch q
    · simp at q; exact .inl q
  · have := h.len; simp [Mine.drive]; lia
  · have := h.col
    simp only [Mine.drive, colL_app, colL, if_true]; lia
theorem nm_ne {a : Nat} (h : a ∈ six0) : a ≠ 32 ∧ a ≠ 9 := by
  simp only [six0, List.mem_cons, List.not_mem_nil, or_false] at h
  lia
theorem placeOf_lt (ts : Nat) (w : Wd) : placeOf ts w < 8 := Nat.mod_lt _ (by lia)
theorem posOf_le (ts : Nat) (w : Wd) (row : List Wd) : posOf ts w row ≤ row.length := (List.takeWhile_prefix _).length_le
theorem posOf_lt {ts : Nat} {w v : Wd} : ∀ {row : List Wd} {i : Nat}, row[i]? = some v → i < posOf ts w row → placeOf ts v < placeOf ts w
  | [], i, h, _ => by simp at h
  | u :: row, i, h, hi => by
    unfold posOf at hi
    rw [List.takeWhile_cons] at hi
    split at hi
    · rename_i hu
      cases i with
      | zero => simp at h; subst h; simpa using hu
      | succ i => exact posOf_lt (row := row) (i := i) (by simpa using h) (by simpa [posOf] using hi)
    · simp at hi
theorem posOf_at {ts : Nat} {w v : Wd} : ∀ {row : List Wd}, row[posOf ts w row]? = some v → ¬ placeOf ts v < placeOf ts w
  | [], h => by simp at h
  | u :: row, h => by
    unfold posOf at h
    rw [List.takeWhile_cons] at h
    split at h
    · rename_i hu
      exact posOf_at (row := row) (by simpa [posOf] using h)
    · rename_i hu
      simp at h; subst h; simpa using hu
theorem posOf_ge {ts : Nat} {w v : Wd} {row : List Wd} {i : Nat} (hs : Srt ts row) (h : row[i]? = some v) (hi : posOf ts w row ≤ i) : placeOf ts w ≤ placeOf ts v := by
  obtain ⟨h1, h2⟩ := List.getElem?_eq_some_iff.mp h
  have hk : posOf ts w row < row.length := Nat.lt_of_le_of_lt hi h1
  have := posOf_at (ts := ts) (w := w) (row := row) (List.getElem?_eq_getElem hk)
  rcases Nat.eq_or_lt_of_le hi with e | e
  · subst e; rw [h2] at this; lia
  · have := List.pairwise_iff_getElem.mp hs _ _ hk h1 e
    rw [h2] at this; lia
theorem Srt.ins {ts : Nat} {w : Wd} {row : List Wd} (hs : Srt ts row) (h : ∀ v, row[posOf ts w row]? = some v → placeOf ts v ≠ placeOf ts w) : Srt ts (row.take (posOf ts w row) ++ w :: row.drop (posOf ts w row)) := by
  have hge : ∀ v ∈ row.drop (posOf ts w row), placeOf ts w < placeOf ts v := fun v hv => by
    obtain ⟨i, hi, e⟩ := List.getElem_of_mem hv
    rw [List.getElem_drop] at e
    have hi' : posOf ts w row + i < row.length := by simp at hi; lia
    have h1 := posOf_ge hs (w := w) (List.getElem?_eq_getElem hi') (by lia)
    rw [e] at h1
    rcases Nat.eq_or_lt_of_le h1 with q | q
    · cases i with
      | zero => exact absurd q.symm (h v (by rw [← e]; exact List.getElem?_eq_getElem hi'))
      | succ i =>
        have hk : posOf ts w row < row.length := by lia
        have := List.pairwise_iff_getElem.mp hs _ _ hk hi' (by lia)
        rw [e] at this
        have := posOf_at (ts := ts) (w := w) (row := row) (List.getElem?_eq_getElem hk)
        lia
    · exact q
  have hlt : ∀ v ∈ row.take (posOf ts w row), placeOf ts v < placeOf ts w := fun v hv => by
    obtain ⟨i, hi, e⟩ := List.getElem_of_mem hv
    rw [List.getElem_take] at e
    have hi2 : i < posOf ts w row ∧ i < row.length := by simp at hi; lia
    exact posOf_lt (row := row) (i := i) (by rw [← e]; exact List.getElem?_eq_getElem hi2.2) hi2.1
  refine List.pairwise_append.mpr ⟨hs.sublist (List.take_sublist ..), List.pairwise_cons.mpr ⟨hge, hs.sublist (List.drop_sublist ..)⟩, fun a ha b hb => ?_⟩
  rcases List.mem_cons.mp hb with rfl | hb
  · exact hlt a ha
  · exact Nat.lt_trans (hlt a ha) (hge b hb)
theorem Srt.set {ts : Nat} {w v : Wd} {row : List Wd} {k : Nat} (hs : Srt ts row) (h : row[k]? = some v) (e : placeOf ts v = placeOf ts w) : Srt ts (row.set k w) := by
  obtain ⟨h1, h2⟩ := List.getElem?_eq_some_iff.mp h
  refine List.pairwise_iff_getElem.mpr fun i j hi hj hij => ?_
  have hi' : i < row.length := by simpa using hi
  have hj' : j < row.length := by simpa using hj
  have := List.pairwise_iff_getElem.mp hs i j hi' hj' hij
  rw [List.getElem_set, List.getElem_set]
  split
  · rename_i q; subst q
    rw [if_neg (by lia)]; rw [h2] at this; lia
  · split
    · rename_i q; subst q; rw [h2] at this; lia
    · exact this
theorem stepRow_srt {ts : Nat} {w : Wd} {row : List Wd} (hs : Srt ts row) : Srt ts (stepRow ts w row).1 := by
  unfold stepRow
  split
  · rename_i h; exact hs.ins fun v e => by rw [h] at e; cases e
  · rename_i v h
    split
    · rename_i e
      split
      · exact hs.set h e
      · exact hs
    · rename_i e
      exact hs.ins fun u q => by rw [h] at q; cases q; exact e
theorem stepRow_mem {ts : Nat} {w : Wd} {row : List Wd} {u : Wd} (h : u ∈ (stepRow ts w row).1 ∨ (stepRow ts w row).2 = some u) : u = w ∨ u ∈ row := by
  have ins : ∀ {k : Nat}, u ∈ row.take k ++ w :: row.drop k → u = w ∨ u ∈ row := fun {k} h => by
    rcases List.mem_append.mp h with q | q
    · exact .inr (List.mem_of_mem_take q)
    · rcases List.mem_cons.mp q with q | q
      · exact .inl q
      · exact .inr (List.mem_of_mem_drop q)
  unfold stepRow at h
  split at h
  · rcases h with h | h
    · exact ins h
    · cases h
  · rename_i v hv
    split at h
    · split at h
      · rcases h with h | h
        · rcases List.mem_or_eq_of_mem_set h with q | q
          · exact .inr q
          · exact .inl q
        · cases h; exact .inr (List.mem_of_getElem? hv)
      · rcases h with h | h
        · exact .inr h
        · cases h; exact .inl rfl
    · rcases h with h | h
      · exact ins h
      · cases h
theorem stepRow_len {ts : Nat} {w : Wd} {row : List Wd} : (stepRow ts w row).1.length ≤ row.length + 1 := by
  have ins : ∀ {k : Nat}, (row.take k ++ w :: row.drop k).length ≤ row.length + 1 := fun {k} => by simp; lia
  unfold stepRow
  split
  · exact ins
  · split
    · split <;> simp
    · exact ins
/-- the words that are still to be read -/
inductive Reads : List Str → List Wd → Prop
  | nil {rest : List Str} : rest.length ≤ 1000 → (∀ ch ∈ rest, ch.length = 1) → getTok rest = (eS, []) → Reads rest []
  | cons {rest rest' : List Str} {w : Wd} {ws : List Wd} : rest.length ≤ 1000 → (∀ ch ∈ rest, ch.length = 1) → getTok rest = (wS w, rest') → Reads rest' ws → Reads rest (w :: ws)
theorem Reads.sz {rest : List Str} {ws : List Wd} (h : Reads rest ws) : rest.length ≤ 1000 ∧ ∀ ch ∈ rest, ch.length = 1 := by cases h <;> exact ⟨by assumption, by assumption⟩
noncomputable def entA (ts : Nat) (w : Wd) : AV := .tup [.float (hueOf (placeOf ts w)), .float (satOf (rk w.2)), .float (valOf (rk w.2)), .str (wS w)]
theorem entHues (ts : Nat) (row : List Wd) : Hues (row.map (entA ts)) (row.map fun w => hueOf (placeOf ts w)) := by
  refine ⟨by simp, fun i h hh => ?_⟩
  rw [List.getElem?_map] at hh ⊢
  obtain ⟨w, hw, rfl⟩ := Option.map_eq_some_iff.mp hh
  exact ⟨_, by rw [hw]; rfl⟩
end

section
set_option maxHeartbeats 1000000
local macro_rules | `(tactic| walk_at "my_step") => `(tactic| with_reducible refine tSliceS ?_ (fun _ _ => rfl))
theorem hueFin0 : ((List.range 52).all fun il => !Float64.isInf (hueOf il)) = true := by decide +kernel
theorem opHue {c : Cx} {n : Nat} {env : Env} {σ : St} {il : Nat} {Q : AV → St → Prop} (h : il < 52) (hq : Q (.float (hueOf il)) σ) : Op2 c n env (VR c.P) σ (binaryOp .Div) (nI il) (.int 8) Q := by
  have e : Float64.ofFrac (decide ((il : Int) < 0) != decide ((8 : Int) < 0)) (il : Int).natAbs (8 : Int).natAbs = hueOf il := by
    rw [decide_eq_false (by lia), decide_eq_false (by lia)]; rfl
  refine BinR.ok (.divI (by decide) ?_) ?_
  · rw [e]
    have := List.all_eq_true.mp hueFin0 il (List.mem_range.mpr h)
    simpa using this
  · rw [e]; exact hq
section
variable {c : Cx} {n : Nat} {H : Addr → Option AO} {P : Params} {L : LexA}
noncomputable def wA (w : Wd) : AV := .str (wS w)
theorem sp_get {ln N : Int} {rest : List Str} {pb ws : List Wd} {Q : AV → (Addr → Option AO) → Prop} (G : Good c (KL P)) (hc : csOk (KL P) = true) (X : LexAt (KL P) L H ln rest (pb.map wA)) (hr : Reads rest ws) (hN : ln + nls rest = N) (hpb : pb.length ≤ 1000)
    (h0 : pb = [] → ws = [] → ∀ H', Same [L.SG, L.DX, L.PB] H H' → LexAt (KL P) L H' N [] [] → Q (.str eS) H')
    (h1 : ∀ w pb' ws', (pb = w :: pb' ∧ ws' = ws ∨ pb = [] ∧ pb' = [] ∧ ws = w :: ws') → ∀ H' ln' rest', Same [L.SG, L.DX, L.PB] H H' → LexAt (KL P) L H' ln' rest' (pb'.map wA) → Reads rest' ws' → ln' + nls rest' = N → Q (wA w) H') :
    CallC c (n + 5) H (.ref 90) [.obj (.ref L.X)] [] [] Q := by
  have sub : ∀ {xs : List Addr} {H' : Addr → Option AO}, (∀ x ∈ xs, x ∈ [L.SG, L.DX, L.PB]) → Same xs H H' → Same [L.SG, L.DX, L.PB] H H' := fun hx s a o ha e => s a o (fun q => ha (hx a q)) e
  cases pb with
  | cons w pb =>
    refine CallC.less (n := n + 1) ?_ (by lia)
    refine sp_pop G X (by simp at hpb ⊢; lia) fun H' s X' => ?_
    exact h1 w pb ws (.inl ⟨rfl, rfl⟩) H' ln rest (sub (by simp) s) X' hr hN
  | nil =>
    have hsz := hr.sz
    refine sp_token G hc X hsz.1 hsz.2 fun H' s X' => ?_
    cases hr with
    | nil a b e =>
      rw [e] at X' ⊢
      exact h0 rfl rfl H' (sub (by simp) s) (by have : ln + nls rest - nls ([] : List Str) = N := by simp [nls] at hN ⊢; lia
                                                rwa [this] at X')
    | cons a b e hr' =>
      rw [e] at X' ⊢
      rename_i rest' w ws'
      exact h1 w [] ws' (.inr ⟨rfl, rfl, rfl⟩) H' _ rest' (sub (by simp) s) X' hr' (by dsimp only; lia)
structure TabB (P : Params) (ts : Nat) (L : LexA) (H : Addr → Option AO) (N : Int) (res : List Wd) (D : Addr) (i : Nat) (row pb ws : List Wd) (rest : List Str) (ln : Int) (H1 : Addr → Option AO) : Prop where
  s : Same [L.SG, L.DX, L.PB] H H1
  x : LexAt (KL P) L H1 ln rest (pb.map wA)
  rd : Reads rest ws
  n : ln + nls rest = N
  pl : pb.length ≤ 100 + i
  ok : ∀ w ∈ row ++ (pb ++ ws), WOk ts i w
  run : runT ts (40 - i) row pb ws = some res
  srt : Srt ts row
  rl : row.length ≤ i
  fD : H1 D = some (.list (row.map (entA ts)))
/-- a word is drawn -/
structure TabW (P : Params) (ts : Nat) (L : LexA) (H : Addr → Option AO) (N : Int) (res : List Wd) (D : Addr) (i : Nat) (w : Wd) (row pb ws : List Wd) (rest : List Str) (ln : Int) (H1 : Addr → Option AO) : Prop where
  s : Same [L.SG, L.DX, L.PB] H H1
  x : LexAt (KL P) L H1 ln rest (pb.map wA)
  rd : Reads rest ws
  n : ln + nls rest = N
  pl : pb.length ≤ 100 + i
  ok : ∀ v, v = w ∨ v ∈ row ∨ v ∈ pb ∨ v ∈ ws → WOk ts i v
  run : runT ts (39 - i) (stepRow ts w row).1 (pb ++ driven (stepRow ts w row).2) ws = some res
  srt : Srt ts row
  rl : row.length ≤ i
  fD : H1 D = some (.list (row.map (entA ts)))
section
variable {ts i : Nat} {N ln ln' : Int} {res row pb ws pb' ws' : List Wd} {w u : Wd} {rest rest' : List Str} {D : Addr} {H1 H2 : Addr → Option AO}
theorem TabB.draw (B : TabB P ts L H N res D i row pb ws rest ln H1) (hi : i < 40) (hDS : D ∉ [L.SG, L.DX, L.PB]) (hcase : pb = w :: pb' ∧ ws' = ws ∨ pb = [] ∧ pb' = [] ∧ ws = w :: ws') (s2 : Same [L.SG, L.DX, L.PB] H1 H2)
    (X2 : LexAt (KL P) L H2 ln' rest' (pb'.map wA)) (hr2 : Reads rest' ws') (hN2 : ln' + nls rest' = N) : TabW P ts L H N res D i w row pb' ws' rest' ln' H2 := by
  have hrun := B.run
  rw [show 40 - i = (39 - i) + 1 by lia] at hrun
  have hw := B.ok
  have hpb := B.pl
  refine ⟨B.s.trans s2, X2, hr2, hN2, ?_, fun v hv => hw v ?_, ?_, B.srt, B.rl, s2 D _ hDS B.fD⟩
  · clear hrun hw; rcases hcase with ⟨rfl, rfl⟩ | ⟨rfl, rfl, rfl⟩ <;> simp at hpb ⊢ <;> lia
  · clear hrun hpb; rcases hcase with ⟨rfl, rfl⟩ | ⟨rfl, rfl, rfl⟩ <;> simp <;> (rcases hv with h | h | h | h <;> simp_all)
  · rcases hcase with ⟨rfl, rfl⟩ | ⟨rfl, rfl, rfl⟩ <;> exact hrun
theorem TabW.mv (B : TabW P ts L H N res D i w row pb ws rest ln H1) (s3 : Same [] H1 H2) : TabW P ts L H N res D i w row pb ws rest ln H2 :=
  ⟨fun a o ha e => s3 a o (fun q => nomatch q) (B.s a o ha e), B.x.upd (fun a o _ e => s3 a o (fun q => nomatch q) e) (s3 _ _ (fun q => nomatch q) B.x.sg) (s3 _ _ (fun q => nomatch q) B.x.dx) (s3 _ _ (fun q => nomatch q) B.x.pb), B.rd, B.n, B.pl, B.ok, B.run, B.srt, B.rl, s3 D _ (fun q => nomatch q) B.fD⟩
theorem TabW.mem (B : TabW P ts L H N res D i w row pb ws rest ln H1) {y : Wd} (h : y ∈ (stepRow ts w row).1 ∨ (stepRow ts w row).2 = some y) : WOk ts i y := by
  rcases stepRow_mem h with q | q
  · exact B.ok y (.inl q)
  · exact B.ok y (.inr (.inl q))
/-- the word is laid into the table -/
theorem TabW.laid (B : TabW P ts L H N res D i w row pb ws rest ln H1) (hi : i < 40) (hD : H D = none) (hDL : D ∉ L.all) (h2 : (stepRow ts w row).2 = none) {l : List AV} (hl : l = (stepRow ts w row).1.map (entA ts)) :
    TabB P ts L H N res D (i + 1) (stepRow ts w row).1 pb ws rest ln (setH H1 D (.list l)) := by
  have hrun := B.run
  rw [h2, show driven none = [] from rfl, List.append_nil] at hrun
  refine ⟨B.s.set (.inr hD), B.x.put hDL, B.rd, B.n, Nat.le_succ_of_le B.pl, fun y hy => ?_, by rw [show 40 - (i + 1) = 39 - i by lia]; exact hrun, stepRow_srt B.srt, Nat.le_trans stepRow_len (Nat.succ_le_succ B.rl), by rw [setH_self, hl]⟩
  rcases List.mem_append.mp hy with q | q
  · exact (B.mem (.inl q)).mono (Nat.le_succ _)
  · exact (B.ok y (.inr (.inr (List.mem_append.mp q)))).mono (Nat.le_succ _)
/-- a word is driven on -/
theorem TabW.driven (B : TabW P ts L H N res D i w row pb ws rest ln H1) (hi : i < 40) (hu : (stepRow ts w row).2 = some u) (s : Same [L.SG, L.DX, L.PB] H H2) (X : LexAt (KL P) L H2 ln rest ((pb ++ [drive u]).map wA))
    (hD : H2 D = some (.list ((stepRow ts w row).1.map (entA ts)))) : TabB P ts L H N res D (i + 1) (stepRow ts w row).1 (pb ++ [drive u]) ws rest ln H2 := by
  have hrun := B.run
  rw [hu] at hrun
  have hpb := B.pl
  refine ⟨s, X, B.rd, B.n, by rw [List.length_append]; exact Nat.succ_le_succ hpb, fun y hy => ?_, by rw [show 40 - (i + 1) = 39 - i by lia]; exact hrun, stepRow_srt B.srt, Nat.le_trans stepRow_len (Nat.succ_le_succ B.rl), hD⟩
  rcases List.mem_append.mp hy with q | q
  · exact (B.mem (.inl q)).mono (Nat.le_succ _)
  · rcases List.mem_append.mp q with q | q
    · rcases List.mem_append.mp q with q | q
      · exact (B.ok y (.inr (.inr (.inl q)))).mono (Nat.le_succ _)
      · cases List.mem_singleton.mp q; exact (B.mem (.inr hu)).drive
    · exact (B.ok y (.inr (.inr (.inr q)))).mono (Nat.le_succ _)
theorem stepRow_new (hbT : ∀ v, row[posOf ts w row]? = some v → placeOf ts v ≠ placeOf ts w) : stepRow ts w row = (row.take (posOf ts w row) ++ w :: row.drop (posOf ts w row), none) := by
  unfold stepRow
  split
  · rfl
  · rename_i v hv
    rw [if_neg (hbT v hv)]
theorem stepRow_out {v : Wd} (hv : row[posOf ts w row]? = some v) (hvp : placeOf ts v = placeOf ts w) (hg : w.2 < v.2) : stepRow ts w row = (row.set (posOf ts w row) w, some v) := by
  unfold stepRow
  rw [hv]; dsimp only
  rw [if_pos hvp, if_pos hg]
theorem stepRow_on {v : Wd} (hv : row[posOf ts w row]? = some v) (hvp : placeOf ts v = placeOf ts w) (hg : ¬ w.2 < v.2) : stepRow ts w row = (row, some w) := by
  unfold stepRow
  rw [hv]; dsimp only
  rw [if_pos hvp, if_neg hg]
theorem hues_at {i : Nat} {hh : UInt64} (e : (row.map fun w => hueOf (placeOf ts w))[i]? = some hh) : ∃ v, row[i]? = some v ∧ hh = hueOf (placeOf ts v) := by
  rw [List.getElem?_map] at e
  obtain ⟨v, h1, h2⟩ := Option.map_eq_some_iff.mp e
  exact ⟨v, h1, h2.symm⟩
theorem hues_lt {j : Nat} {hh : UInt64} (e : (row.map fun w => hueOf (placeOf ts w))[j]? = some hh) (hj : j < posOf ts w row) : fLt hh (hueOf (placeOf ts w)) = true ∧ fLt (hueOf (placeOf ts w)) hh = false := by
  obtain ⟨v, hv, rfl⟩ := hues_at e
  have := posOf_lt hv hj
  rw [hue_lt (placeOf_lt ..) (placeOf_lt ..), hue_lt (placeOf_lt ..) (placeOf_lt ..)]
  exact ⟨decide_eq_true this, decide_eq_false (by lia)⟩
theorem hues_ge (hs : Srt ts row) {j : Nat} {hh : UInt64} (e : (row.map fun w => hueOf (placeOf ts w))[j]? = some hh) (hj : posOf ts w row ≤ j) : fLt hh (hueOf (placeOf ts w)) = false := by
  obtain ⟨v, hv, rfl⟩ := hues_at e
  have := posOf_ge hs hv hj
  rw [hue_lt (placeOf_lt ..) (placeOf_lt ..)]
  exact decide_eq_false (by lia)
theorem hues_gt (hs : Srt ts row) (hb : ∀ v, row[posOf ts w row]? = some v → placeOf ts v ≠ placeOf ts w) {j : Nat} {hh : UInt64} (e : (row.map fun w => hueOf (placeOf ts w))[j]? = some hh) (hj : posOf ts w row ≤ j) : fLt (hueOf (placeOf ts w)) hh = true := by
  obtain ⟨v, hv, rfl⟩ := hues_at e
  rw [hue_lt (placeOf_lt ..) (placeOf_lt ..)]
  have h1 := posOf_ge hs hv hj
  rcases Nat.eq_or_lt_of_le h1 with q | q
  · exfalso
    rcases Nat.eq_or_lt_of_le hj with e | e
    · subst e; exact hb v hv q.symm
    · obtain ⟨j1, j2⟩ := List.getElem?_eq_some_iff.mp hv
      have hk : posOf ts w row < row.length := by lia
      have h3 := List.pairwise_iff_getElem.mp hs _ _ hk j1 e
      have h4 := posOf_at (ts := ts) (w := w) (row := row) (List.getElem?_eq_getElem hk)
      rw [j2] at h3; lia
  · exact decide_eq_true q
end
noncomputable def tabLoc (L : LexA) (ts : Nat) (D : Addr) (r : List (Str × AV)) : List (Str × AV) := (Str.ofString "lexer", AV.obj (.ref L.X)) :: (Str.ofString "size", nI ts) :: (Str.ofString "row", AV.obj (.ref D)) :: r
noncomputable def tabR (ts i : Nat) (u w : Wd) (R G B : UInt64) (k : Nat) : List (Str × AV) := [(Str.ofString "step", nI (0 + i)), (Str.ofString "word", AV.str (wS u)), (Str.ofString "saturation", AV.float (satOf (rk w.2))), (Str.ofString "value", AV.float (valOf (rk w.2))), (Str.ofString "red", AV.float R), (Str.ofString "green", AV.float G), (Str.ofString "blue", AV.float B), (Str.ofString "entry", entA ts w), (Str.ofString "k", nI k)]
theorem tabDrop {ts : Nat} {D : Addr} {r : List (Str × AV)} {H1 : Addr → Option AO} {K : St → Prop} (h : K ⟨H1, tabLoc L ts D []⟩) : DropTo ⟨H1, tabLoc L ts D r⟩ K :=
  ⟨H1, tabLoc L ts D [], fun _ _ e => e, fun _ _ e => lkApp (l := tabLoc L ts D []) (r := r) e, h⟩
inductive TabI (P : Params) (ts : Nat) (L : LexA) (H : Addr → Option AO) (N : Int) (res : List Wd) (D : Addr) (i : Nat) (σ : St) : Prop
  | mk (row pb ws : List Wd) (rest : List Str) (ln : Int) : σ.loc = tabLoc L ts D [] → TabB P ts L H N res D i row pb ws rest ln σ.H → TabI P ts L H N res D i σ
inductive TabE (P : Params) (ts : Nat) (L : LexA) (H : Addr → Option AO) (N : Int) (res : List Wd) (D : Addr) (f : AF) (σ : St) : Prop
  | mk : f = .next → Same [L.SG, L.DX, L.PB] H σ.H → LexAt (KL P) L σ.H N [] [] → σ.H D = some (.list (res.map (entA ts))) → lk σ.loc (Str.ofString "row") = some (.obj (.ref D)) → TabE P ts L H N res D f σ
inductive TabC (ts : Nat) (w : Wd) (row : List Wd) (σ₀ : St) (b : Bool) (σ : St) : Prop
  | mk : σ = σ₀ → (b = true → ∀ v, row[posOf ts w row]? = some v → placeOf ts v ≠ placeOf ts w) → (b = false → ∃ v, row[posOf ts w row]? = some v ∧ placeOf ts v = placeOf ts w) → TabC ts w row σ₀ b σ
inductive TabM (P : Params) (ts : Nat) (L : LexA) (H : Addr → Option AO) (D : Addr) (i : Nat) (w : Wd) (row pb : List Wd) (rest : List Str) (ln : Int) (R G B : UInt64) (k : Nat) (f : AF) (σ : St) : Prop
  | mk (u : Wd) : f = .next → (stepRow ts w row).2 = some u → Same [L.SG, L.DX, L.PB] H σ.H → LexAt (KL P) L σ.H ln rest (pb.map wA) → σ.H D = some (.list ((stepRow ts w row).1.map (entA ts))) → σ.loc = tabLoc L ts D (tabR ts i u w R G B k) → TabM P ts L H D i w row pb rest ln R G B k f σ
set_option maxHeartbeats 8000000 in
theorem sp_table {ts : Nat} {ln N : Int} {rest : List Str} {pb ws r : List Wd} {Q : AV → (Addr → Option AO) → Prop} (G : Good c (KL P)) (hc : csOk (KL P) = true) (h2 : 2 ≤ ts) (h4 : ts ≤ 4) (X : LexAt (KL P) L H ln rest (pb.map wA)) (hr : Reads rest ws) (hN : ln + nls rest = N) (hpb : pb.length ≤ 100)
    (hw : ∀ w ∈ pb ++ ws, WOk ts 0 w) (hrun : runT ts 40 [] pb ws = some r)
    (h : ∀ E H', Same [L.SG, L.DX, L.PB] H H' → H E = none → LexAt (KL P) L H' N [] [] → H' E = some (.list (r.map (entA ts))) → Q (.obj (.ref E)) H') : CallC c (n + 10) H (.ref 220) [.obj (.ref L.X), nI ts] [] [] Q := by
  refine callDef [Str.ofString "lexer", Str.ofString "size"] G rfl rfl (fun vs hvs => by obtain ⟨v, w, rfl⟩ := len2 hvs; rfl) rfl (by dsimp only) (by dsimp only) rfl rfl (by dsimp only [List.zip, List.zipWith]) fun env' S => ?_
  refine sCons ?_
  repeat walk_at "my_step"
  intro D hD hDB
  dsimp only at hD
  have hDL := X.notMem hD
  have hDS : D ∉ [L.SG, L.DX, L.PB] := fun q => hDL (by
    simp only [List.mem_cons, List.not_mem_nil, or_false] at q
    simp only [LexA.all, List.mem_cons]
    rcases q with rfl | rfl | rfl <;> simp)
  have B0 : TabB P ts L H N r D 0 [] pb ws rest ln (setH H D (.list [])) := ⟨Same.refl.set (.inr hD), X.put hDL, hr, hN, hpb, hw, hrun, .nil, Nat.le_refl _, setH_self ..⟩
  repeat walk_at "my_step"
  dsimp only
  generalize setH H D (.list []) = H0 at B0
  clear X hr hN hpb hw hrun
  refine Tr.mono (Q := TabE P ts L H N r D) ?_ ?_
  · refine sFor (iRangeN ?_) (fun _ => rfl)
    repeat walk_at "my_step"
    refine cRange1 ?_
    refine ⟨0, 40, rfl, by decide, by decide, TabI P ts L H N r D, ?_, ?_, ?_⟩
    · exact ⟨[], pb, ws, rest, ln, rfl, B0⟩
    · clear B0
      rintro i a ⟨σH, σl⟩ ha ⟨row, pb, ws, rest, ln, e0, B⟩
      have hk1 : i < 40 ∧ nI (0 + i) = a := by
        rw [List.getElem?_map] at ha
        obtain ⟨i', hi', rfl⟩ := Option.map_eq_some_iff.mp ha
        obtain ⟨hk1, hk2⟩ := List.getElem?_eq_some_iff.mp hi'
        rw [List.getElem_range] at hk2
        subst hk2
        rw [List.length_range] at hk1
        exact ⟨hk1, rfl⟩
      clear ha
      obtain ⟨hi, rfl⟩ := hk1
      have hpl := B.pl
      dsimp only at e0 B
      subst e0
      refine aName' (by assumption) (by decide +kernel) ⟨tabLoc L ts D [(Str.ofString "step", nI (0 + i))], rfl, ?_⟩
      refine TF.drop ?_
      repeat walk_at "my_step"
      refine tMeth0 G ?_ rfl rfl
      repeat walk_at "my_step"
      refine ⟨_, 100, _, _, 90, rfl, rfl, rfl, rfl, ⟨B.x.x, B.x.dx⟩, by unfold lexFs; walk_at "my_lkN", rfl, (sp_get G hc B.x B.rd B.n (by lia) ?_ ?_).S⟩
      · rintro rfl rfl H2 s2 X2
        repeat walk_at "my_step"
        have hr2 : row = r := by
          have hrun := B.run
          rw [show 40 - i = (39 - i) + 1 by lia] at hrun
          exact Option.some.inj hrun
        dsimp only
        exact tabDrop ⟨rfl, B.s.trans s2, X2, hr2 ▸ s2 D _ hDS B.fD, rfl⟩
      · rintro w pb' ws' hcase H2 ln' rest' s2 X2 hr2 hN2
        have W := B.draw hi hDS hcase s2 X2 hr2 hN2
        clear hcase s2 X2 hr2 hN2 B hpl
        have hwk := W.ok w (.inl rfl)
        have hwl : (wS w).length = w.1.length + 1 := by rw [show wS w = lS (w.1 ++ [w.2]) from rfl, lS_len, List.length_append]; rfl
        have hne : (wS w == Str.ofString "") = false := by
          rw [eSl, beq_eq_false_iff_ne]
          intro q
          have := congrArg Str.length q
          rw [hwl, lS_len] at this
          cases this
        have hlen := hwk.len
        have hcol := hwk.col
        rw [show wA w = AV.str (wS w) from rfl]
        repeat walk_at "my_step"
        refine ⟨_, .str (by decide) (by rw [hwl]; lia) (by lia), ?_⟩
        rw [show Txt.item (wS w) (-1) = sgn w.2 from item_last ..]
        repeat walk_at "my_step"
        refine (sp_light (G := G) (six_rk hwk.nm) ?_).S
        repeat walk_at "my_step"
        have hlk := lightFacts (lightOk_all (il := colL ts w.1 0) (r := rk w.2) (by lia) (rk_lt hwk.nm))
        obtain ⟨sg, m, e, I, R, Gr, Bl, hd, hj, hs0, hf, hrgb, hm1, hm2, hm3, hback⟩ := hlk
        refine tMeth G ?_ rfl rfl rfl rfl rfl rfl
        repeat walk_at "my_step"
        refine (sp_ws (G := G) (by rw [hwl]; lia) fun x dx H3 hx hdx s3 Ws => ?_).S
        replace W := W.mv s3
        clear s3 hx hdx
        repeat walk_at "my_step"
        refine ⟨_, 166, _, _, 135, rfl, rfl, rfl, rfl, ⟨Ws.obj, Ws.dict⟩, by unfold wsFs; walk_at "my_lkN", rfl, ?_⟩
        repeat walk_at "my_step"
        have hws := ws_sizes hwk.lead (nm_ne hwk.nm)
        refine (sp_indent (G := G) Ws (by lia) (by lia) (by lia) ?_).S
        rw [ws_col (by lia) hwk.lead (nm_ne hwk.nm)]
        clear hws Ws
        repeat walk_at "my_step"
        refine opHue (by lia) ?_
        repeat walk_at "my_step"
        refine (sp_hsv (G := G) hs0 hd hj hf ?_).S
        rw [hrgb]
        repeat walk_at "my_step"
        refine (sp_rgb (G := G) hm1 hm2 hm3 ?_).S
        rw [hback]
        clear hs0 hd hj hf hrgb hm1 hm2 hm3 hback
        repeat walk_at "my_step"
        refine opTupAdd (by simp) (by simp) (by simp) ?_
        rw [show [AV.float (hueOf (colL ts w.1 0 % 8)), AV.float (satOf (rk w.2)), AV.float (valOf (rk w.2))] ++ [AV.str (wS w)] = [AV.float (hueOf (placeOf ts w)), AV.float (satOf (rk w.2)), AV.float (valOf (rk w.2)), AV.str (wS w)] from rfl]
        repeat walk_at "my_step"
        dsimp only
        refine ⟨_, .tupN (j := 0) rfl (by simp), ?_⟩
        repeat walk_at "my_step"
        dsimp only
        have hrl2 : (row.map (entA ts)).length = row.length := List.length_map ..
        have hrl := W.rl
        have hpos : posOf ts w row ≤ row.length := posOf_le ..
        refine (bis_left (G := G) W.fD (entHues ts row) (by lia) (k := posOf ts w row) (by rw [hrl2]; exact hpos) (fun j hh e hj => (hues_lt e hj).1) (fun j hh e hj => hues_ge W.srt e hj) ?_).S
        repeat walk_at "my_sn"
        refine sCons ?_
        refine sIf ?_
        refine Tr.mono (Q := TabC ts w row ⟨H3, tabLoc L ts D (tabR ts i w w R Gr Bl (posOf ts w row))⟩) ?_ ?_
        · repeat walk_at "my_step"
          refine cLenL (.inl W.fD) (by lia) ?_
          rw [hrl2]
          repeat walk_at "my_step"
          refine ⟨fun hb => ?_, fun hb => ?_⟩
          · refine ⟨rfl, fun _ v hv => ?_, fun e => by cases e⟩
            have h1 := (List.getElem?_eq_some_iff.mp hv).1
            have : (posOf ts w row : Int) = row.length := by simpa using hb
            lia
          · have hlt : posOf ts w row < row.length := by
              have : ¬ (posOf ts w row : Int) = row.length := by simpa using hb
              lia
            have hv : row[posOf ts w row]? = some (row[posOf ts w row]'hlt) := List.getElem?_eq_getElem hlt
            generalize row[posOf ts w row]'hlt = v at hv
            repeat walk_at "my_step"
            refine ⟨_, .listN W.fD (x := entA ts v) (by rw [List.getElem?_map, hv]; rfl) (by lia), ?_⟩
            repeat walk_at "my_step"
            refine ⟨_, .tupN (j := 0) rfl (by simp), ?_⟩
            repeat walk_at "my_step"
            refine ⟨_, .tupN (j := 0) rfl (by simp), ?_⟩
            refine CmpR.ok .neF ?_
            have he : (Float64.cmp (hueOf (placeOf ts v)) (hueOf (placeOf ts w)) != some Ordering.eq) = decide (placeOf ts v ≠ placeOf ts w) := by
              show (!(Float64.cmp (hueOf (placeOf ts v)) (hueOf (placeOf ts w)) == some Ordering.eq)) = _
              rw [hue_eq (placeOf_lt ..) (placeOf_lt ..)]; simp
            rw [he]
            refine ⟨_, rfl, rfl, fun hb u hu => ?_, fun hb => ⟨v, hv, by simpa using hb⟩⟩
            rw [hv] at hu; cases hu
            simpa using hb
        · rintro b _ ⟨rfl, hbT, hbF⟩
          refine ⟨fun hb => ?_, fun hb => ?_⟩
          · replace hbT := hbT hb
            clear hbF hb
            repeat walk_at "my_step"
            refine (insort (G := G) W.fD (entHues ts row) (by lia) (k := posOf ts w row) (by rw [hrl2]; exact hpos) (fun j hh e hj => (hues_lt e hj).2) (fun j hh e hj => hues_gt W.srt hbT e hj) ?_).S
            repeat walk_at "my_step"
            dsimp only
            exact tabDrop ⟨_, pb', ws', rest', ln', rfl, W.laid hi hD hDL (by rw [stepRow_new hbT]) (by rw [stepRow_new hbT]; dsimp only; rw [List.map_append, List.map_cons, List.map_take, List.map_drop]; rfl)⟩
          · obtain ⟨v, hv, hvp⟩ := hbF hb
            clear hbT hbF hb
            have hvm := (W.ok v (.inr (.inl (List.mem_of_getElem? hv)))).len
            have hvl : (wS v).length = v.1.length + 1 := by rw [show wS v = lS (v.1 ++ [v.2]) from rfl, lS_len, List.length_append]; rfl
            refine sCons ?_
            refine Tr.mono (Q := TabM P ts L H D i w row pb' rest' ln' R Gr Bl (posOf ts w row)) ?_ ?_
            · repeat walk_at "my_step"
              refine ⟨_, .listN W.fD (x := entA ts v) (by rw [List.getElem?_map, hv]; rfl) (by lia), ?_⟩
              repeat walk_at "my_step"
              refine ⟨_, .tupN (j := 3) rfl (by simp), ?_⟩
              repeat walk_at "my_step"
              refine ⟨_, .str (by decide) (by rw [hvl]; lia) (by lia), ?_⟩
              rw [show Txt.item (wS v) (-1) = sgn v.2 from item_last ..]
              repeat walk_at "my_step"
              refine ⟨_, .str (by decide) (by rw [hwl]; lia) (by lia), ?_⟩
              rw [show Txt.item (wS w) (-1) = sgn w.2 from item_last ..]
              repeat walk_at "my_step"
              have hgt : decide ((sgn w.2).cps.toList < (sgn v.2).cps.toList) = decide (w.2 < v.2) := by
                rw [decide_eq_decide]
                show [w.2] < [v.2] ↔ _
                rw [List.cons_lt_cons_iff]; simp
              rw [hgt]
              refine ⟨fun hg => ?_, fun hg => ?_⟩
              · have hst := stepRow_out hv hvp (of_decide_eq_true hg)
                repeat walk_at "my_step"
                refine ⟨_, .listN W.fD (x := entA ts v) (by rw [List.getElem?_map, hv]; rfl) (by lia), ?_⟩
                repeat walk_at "my_step"
                refine ⟨_, .tupN (j := 3) rfl (by simp), ?_⟩
                repeat walk_at "my_step"
                refine sSetItem ?_ rfl
                repeat walk_at "my_step"
                have hplt := (List.getElem?_eq_some_iff.mp hv).1
                refine ⟨D, _, (posOf ts w row : Int), rfl, rfl, W.fD, by lia, by lia, by rw [hrl2]; lia, ?_⟩
                repeat walk_at "my_step"
                dsimp only
                exact ⟨v, rfl, by rw [hst], W.s.set (.inr hD), W.x.put hDL, by dsimp only; rw [setH_self, Int.toNat_natCast, hst]; dsimp only; rw [List.map_set], rfl⟩
              · have hst := stepRow_on hv hvp (of_decide_eq_false hg)
                repeat walk_at "my_step"
                exact ⟨w, rfl, by rw [hst], W.s, W.x, by rw [hst]; exact W.fD, rfl⟩
            · rintro f ⟨H4, l4⟩ ⟨u, rfl, hu, s4, X4, hD4, e4⟩
              have hul := (W.mem (.inr hu)).len
              have hul2 : (wS u).length = u.1.length + 1 := by rw [show wS u = lS (u.1 ++ [u.2]) from rfl, lS_len, List.length_append]; rfl
              have hpl := W.pl
              dsimp only at s4 X4 hD4 e4
              subst e4
              repeat walk_at "my_step"
              refine tMeth G ?_ rfl rfl rfl rfl rfl rfl
              repeat walk_at "my_step"
              refine ⟨_, 100, _, _, 97, rfl, rfl, rfl, rfl, ⟨X4.x, X4.dx⟩, by unfold lexFs; walk_at "my_lkN", rfl, ?_⟩
              repeat walk_at "my_step"
              refine ⟨by rw [hul2]; lia, ?_⟩
              rw [show wS u = lS (u.1 ++ [u.2]) from rfl, strSl_init]
              repeat walk_at "my_step"
              refine opCat' u.1 [32] rfl (by decide +kernel) (by simp; lia) ?_
              repeat walk_at "my_step"
              refine ⟨_, .str (by decide) (by rw [hul2]; lia) (by lia), ?_⟩
              rw [show Txt.item (wS u) (-1) = lS [u.2] from item_last ..]
              refine opCat' _ [u.2] rfl rfl (by simp; lia) ?_
              rw [show AV.str (lS (u.1 ++ [32] ++ [u.2])) = wA (drive u) from rfl]
              repeat walk_at "my_step"
              refine (sp_push (G := G) X4 (by simp; lia) fun H5 s5 X5 => ?_).S
              repeat walk_at "my_step"
              dsimp only
              have hsub : ∀ {a : Addr}, a ∉ [L.SG, L.DX, L.PB] → a ∉ [L.PB] := fun ha q => ha (.tail _ (.tail _ q))
              exact tabDrop ⟨_, pb' ++ [drive u], ws', rest', ln', rfl, W.driven hi hu (fun a o ha e => s5 a o (hsub ha) (s4 a o ha e)) (by rw [List.map_append]; exact X5) (s5 _ _ (hsub hDS) hD4)⟩
    · rintro ⟨σH, σl⟩ ⟨row, pb, ws, rest, ln, e0, B⟩
      have hrun := B.run
      rw [List.length_map, List.length_range] at hrun
      cases hrun
  · rintro f ⟨H4, l4⟩ ⟨rfl, s4, X4, hD4, e4⟩
    dsimp only at s4 X4 hD4 e4
    repeat walk_at "my_step"
    refine nVar S e4 (by decide +kernel) ?_
    exact ⟨H4, .same, h D H4 s4 hD X4 hD4⟩
end
end

section
set_option maxHeartbeats 1000000
local macro_rules | `(tactic| walk_at "my_step") => `(tactic| with_reducible refine tSliceS ?_ (fun _ _ => rfl))
noncomputable def drvOf (cols : List Nat) (col : Nat) : Option Nat := (List.range 8).find? fun d => !takenOf cols (col + d)
noncomputable def grown (w : Wd) (d : Nat) : Wd := (w.1 ++ List.replicate d 32, w.2)
theorem colL_rep (ts : Nat) : ∀ (d c : Nat), colL ts (List.replicate d 32) c = c + d
  | 0, c => rfl
  | d + 1, c => by
    rw [List.replicate_succ]
    show colL ts (List.replicate d 32) (if 32 = 32 then c + 1 else _) = _
    rw [if_pos rfl, colL_rep ts d]; lia
theorem placeOf_grown (ts : Nat) (w : Wd) (d : Nat) : placeOf ts (grown w d) = (colL ts w.1 0 + d) % 8 := by
  unfold placeOf grown; rw [colL_app, colL_rep]
noncomputable def dueL (ts : Nat) : List Nat → List Wd → Option (List Wd)
  | _, [] => some []
  | cols, w :: ws => match drvOf cols (colL ts w.1 0) with
    | none => none
    | some d => (dueL ts (cols ++ [colL ts w.1 0]) ws).map fun gs => grown w d :: gs
section
variable {c : Cx} {n : Nat} {H : Addr → Option AO} {P : Params} {L : LexA}
theorem mulRep8 {ch k : Nat} (hk : k < 8) : PySem.MulOk (sgn ch) (k : Int) ∧ Txt.mul (sgn ch) (k : Int) = lS (List.replicate k ch) := by
  by_cases h4 : k < 4
  · exact mulRep h4
  have hl : (sgn ch).length = 1 := rfl
  unfold PySem.MulOk Txt.mul
  rw [hl]
  obtain ⟨m, rfl⟩ : ∃ m, k = m + 4 := ⟨k - 4, by lia⟩
  have hm : m < 4 := by lia
  match m, hm with
  | 0, _ => exact ⟨⟨by decide +kernel, (fun h h2 => by decide +kernel), (fun h h2 => by decide +kernel)⟩, rfl⟩
  | 1, _ => exact ⟨⟨by decide +kernel, (fun h h2 => by decide +kernel), (fun h h2 => by decide +kernel)⟩, rfl⟩
  | 2, _ => exact ⟨⟨by decide +kernel, (fun h h2 => by decide +kernel), (fun h h2 => by decide +kernel)⟩, rfl⟩
  | 3, _ => exact ⟨⟨by decide +kernel, (fun h h2 => by decide +kernel), (fun h h2 => by decide +kernel)⟩, rfl⟩
theorem opRep8 {env : Env} {σ : St} {x : Str} {i : Int} {Q : AV → St → Prop} (ch k : Nat) (hx : x = sgn ch) (hi : i = (k : Int)) (hk : k < 8) (hq : Q (.str (lS (List.replicate k ch))) σ) : Op2 c n env (VR c.P) σ (binaryOp .Mult) (.str x) (.int i) Q := by
  subst hx hi
  refine BinR.ok (.mulS (mulRep8 hk).1) ?_
  rw [(mulRep8 hk).2]; exact hq
noncomputable def dueA (ts : Nat) (p : Wd × Tok) : AV := .tup (.obj (.float (hueOf (placeOf ts p.1)) p.2) :: [.float (satOf (rk p.1.2)), .float (valOf (rk p.1.2)), .str (wS p.1)])
theorem ltSgn (a b : Nat) : decide ((sgn a).cps.toList < (sgn b).cps.toList) = decide (a < b) := by
  rw [decide_eq_decide]
  show [a] < [b] ↔ _
  rw [List.cons_lt_cons_iff]; simp
theorem lastW (w : Wd) : lastS (wS w) = sgn w.2 := item_last ..
inductive NextTo (σ₀ : St) (f : AF) (σ : St) : Prop | mk : f = .next → σ = σ₀ → NextTo σ₀ f σ
inductive NextS (H : Addr → Option AO) (l : List (Str × AV)) (f : AF) (σ : St) : Prop | mk : f = .next → Same [] H σ.H → σ.loc = l → NextS H l f σ
/-- the two lists under way, and the ghost -/
structure DueH (H : Addr → Option AO) (g : Addr) (o : Obj) (A B : Addr) (la lb : List AV) (T : Nat) (H1 : Addr → Option AO) : Prop where
  s : Same [g] H H1
  fA : H1 A = some (.list la)
  fB : H1 B = some (.list lb)
  fg : H1 g = some (.ghost o T)
  ag : A ≠ g
  bg : B ≠ g
  ba : B ≠ A
  nA : H A = none
  nB : H B = none
section
variable {g A B E : Addr} {o : Obj} {la lb l' : List AV} {T T' : Nat} {H1 H2 : Addr → Option AO}
theorem DueH.mv (X : DueH H g o A B la lb T H1) (k : Same [] H1 H2) : DueH H g o A B la lb T H2 :=
  ⟨fun a ob ha e => k a ob (fun q => nomatch q) (X.s a ob ha e), k _ _ (fun q => nomatch q) X.fA, k _ _ (fun q => nomatch q) X.fB, k _ _ (fun q => nomatch q) X.fg, X.ag, X.bg, X.ba, X.nA, X.nB⟩
theorem DueH.setA (X : DueH H g o A B la lb T H1) : DueH H g o A B l' lb T (setH H1 A (.list l')) :=
  ⟨X.s.set (.inr X.nA), setH_self .., (setH_ne _ _ X.ba).trans X.fB, (setH_ne _ _ (Ne.symm X.ag)).trans X.fg, X.ag, X.bg, X.ba, X.nA, X.nB⟩
theorem DueH.setB (X : DueH H g o A B la lb T H1) : DueH H g o A B la l' T (setH H1 B (.list l')) :=
  ⟨X.s.set (.inr X.nB), (setH_ne _ _ (Ne.symm X.ba)).trans X.fA, setH_self .., (setH_ne _ _ (Ne.symm X.bg)).trans X.fg, X.ag, X.bg, X.ba, X.nA, X.nB⟩
theorem DueH.setG (X : DueH H g o A B la lb T H1) : DueH H g o A B la lb T' (setH H1 g (.ghost o T')) :=
  ⟨X.s.set (.inl (.head _)), (setH_ne _ _ X.ag).trans X.fA, (setH_ne _ _ X.bg).trans X.fB, setH_self .., X.ag, X.bg, X.ba, X.nA, X.nB⟩
theorem DueH.fresh (X : DueH H g o A B la lb T H1) (hE : H1 E = none) : H E = none := X.s.none hE (by simpa using neOf hE X.fg)
theorem DueH.put {ob : AO} (X : DueH H g o A B la lb T H1) (hE : H E = none) (h1 : E ≠ A) (h2 : E ≠ B) (h3 : E ≠ g) : DueH H g o A B la lb T (setH H1 E ob) :=
  ⟨X.s.set (.inr hE), (setH_ne _ _ (Ne.symm h1)).trans X.fA, (setH_ne _ _ (Ne.symm h2)).trans X.fB, (setH_ne _ _ (Ne.symm h3)).trans X.fg, X.ag, X.bg, X.ba, X.nA, X.nB⟩
end
structure DueB (H : Addr → Option AO) (g : Addr) (o : Obj) (A B : Addr) (ts : Nat) (ws gs : List Wd) (i : Nat) (cols : List Nat) (rest : List Wd) (pairs : List (Wd × Tok)) (T : Nat) (H1 : Addr → Option AO) : Prop where
  x : DueH H g o A B (cols.map nI) (pairs.map (dueA ts)) T H1
  dl : dueL ts cols (ws.drop i) = some rest
  g : gs = pairs.map (fun p => p.1) ++ rest
  cl : cols.length = i
  pl : pairs.length = i
  pt : ∀ p ∈ pairs, 0 < p.2 ∧ p.2 < T
  pw : pairs.Pairwise (fun p q => p.2 < q.2)
section
variable {g A B E : Addr} {o : Obj} {ts i d : Nat} {ws gs rest rest2 : List Wd} {cols : List Nat} {pairs : List (Wd × Tok)} {T t : Nat} {H1 H2 : Addr → Option AO} {w : Wd}
theorem DueB.draw (X : DueB H g o A B ts ws gs i cols rest pairs T H1) (hw : ws[i]? = some w) : ∃ d rest2, d < 8 ∧ takenOf cols (colL ts w.1 0 + d) = false ∧ (∀ j, j < d → takenOf cols (colL ts w.1 0 + j) = true) ∧ dueL ts (cols ++ [colL ts w.1 0]) (ws.drop (i + 1)) = some rest2 ∧ rest = grown w d :: rest2 := by
  obtain ⟨hi1, hi2⟩ := List.getElem?_eq_some_iff.mp hw
  have hdl := X.dl
  rw [show ws.drop i = w :: ws.drop (i + 1) by rw [← hi2]; exact List.drop_eq_getElem_cons hi1, dueL] at hdl
  cases hdv : drvOf cols (colL ts w.1 0) with
  | none => rw [hdv] at hdl; cases hdl
  | some d =>
    rw [hdv] at hdl
    dsimp only at hdl
    obtain ⟨rest2, hdl2, e⟩ := Option.map_eq_some_iff.mp hdl
    unfold drvOf at hdv
    obtain ⟨hd0, hd8, hdj⟩ := List.find?_range_eq_some.mp hdv
    rw [List.mem_range] at hd8
    exact ⟨d, rest2, hd8, by simpa using hd0, fun j hj => by simpa using hdj j hj, hdl2, e.symm⟩
theorem DueB.more (X : DueB H g o A B ts ws gs i cols (grown w d :: rest2) pairs T H1) (hdl : dueL ts (cols ++ [colL ts w.1 0]) (ws.drop (i + 1)) = some rest2) (ht : T ≤ t) (h0 : 0 < t)
    (Y : DueH H g o A B (cols.map nI ++ [nI (colL ts w.1 0)]) (pairs.map (dueA ts) ++ [dueA ts (grown w d, t)]) (t + 1) H2) : DueB H g o A B ts ws gs (i + 1) (cols ++ [colL ts w.1 0]) rest2 (pairs ++ [(grown w d, t)]) (t + 1) H2 := by
  refine ⟨by rw [List.map_append, List.map_append]; exact Y, hdl, by rw [X.g]; simp, by rw [List.length_append, X.cl]; rfl, by rw [List.length_append, X.pl]; rfl, fun p hp => ?_, List.pairwise_append.mpr ⟨X.pw, List.pairwise_singleton _ _, fun p hp q hq => ?_⟩⟩
  · rcases List.mem_append.mp hp with q | q
    · exact ⟨(X.pt p q).1, Nat.lt_succ_of_lt (Nat.lt_of_lt_of_le (X.pt p q).2 ht)⟩
    · cases List.mem_singleton.mp q; exact ⟨h0, Nat.lt_succ_self _⟩
  · cases List.mem_singleton.mp hq
    exact Nat.lt_of_lt_of_le (X.pt p hp).2 ht
end
noncomputable def dueLoc (D : Addr) (ts : Nat) (A B : Addr) (r : List (Str × AV)) : List (Str × AV) := (Str.ofString "words", AV.obj (.ref D)) :: (Str.ofString "size", nI ts) :: (Str.ofString "ahead", AV.obj (.ref A)) :: (Str.ofString "row", AV.obj (.ref B)) :: r
noncomputable def dueR (w : Wd) (cc : Nat) (r : List (Str × AV)) : List (Str × AV) := (Str.ofString "word", AV.str (wS w)) :: (Str.ofString "column", nI cc) :: r
theorem dueDrop {D A B : Addr} {ts : Nat} {r : List (Str × AV)} {H1 : Addr → Option AO} {K : St → Prop} (h : K ⟨H1, dueLoc D ts A B []⟩) : DropTo ⟨H1, dueLoc D ts A B r⟩ K :=
  ⟨H1, dueLoc D ts A B [], fun _ _ e => e, fun _ _ e => lkApp (l := dueLoc D ts A B []) (r := r) e, h⟩
theorem dueDrop2 {D A B : Addr} {ts cc : Nat} {w : Wd} {r : List (Str × AV)} {H1 : Addr → Option AO} {K : St → Prop} (h : K ⟨H1, dueLoc D ts A B (dueR w cc [])⟩) : DropTo ⟨H1, dueLoc D ts A B (dueR w cc r)⟩ K :=
  ⟨H1, dueLoc D ts A B (dueR w cc []), fun _ _ e => e, fun _ _ e => lkApp (l := dueLoc D ts A B (dueR w cc [])) (r := r) e, h⟩
inductive DueI (H : Addr → Option AO) (g : Addr) (o : Obj) (D A B : Addr) (ts : Nat) (ws gs : List Wd) (i : Nat) (σ : St) : Prop
  | mk (cols : List Nat) (rest : List Wd) (pairs : List (Wd × Tok)) (T : Nat) : σ.loc = dueLoc D ts A B [] → DueB H g o A B ts ws gs i cols rest pairs T σ.H → DueI H g o D A B ts ws gs i σ
inductive DueW (H : Addr → Option AO) (l : Nat → List (Str × AV)) (d m : Nat) (σ : St) : Prop
  | mk (k : Nat) : k ≤ d → m = d - k → Same [] H σ.H → σ.loc = l k → DueW H l d m σ
set_option maxHeartbeats 8000000 in
theorem sp_due {ts : Nat} {D g : Addr} {o : Obj} {T : Nat} {words : List Wd} {Q : AV → (Addr → Option AO) → Prop} (G : Good c (KL P)) (hc : csOk (KL P) = true) (h2 : 2 ≤ ts) (h4 : ts ≤ 4) (hD : H D = some (.list (words.map wA))) (hg : H g = some (.ghost o T)) (hl2 : 2 ≤ words.length) (hl6 : words.length ≤ 6)
    (hw : ∀ w ∈ words, WOk ts 0 w) (hnd : (words.map (·.2)).Nodup) (hdue : ∀ ws : List Wd, ws.Perm words → ws.Pairwise (fun a b => a.2 < b.2) → ∃ gs, dueL ts [] ws = some gs ∧ (gs.map (placeOf ts)).Nodup)
    (h : ∀ E T' H' ws gs ys, ws.Perm words → ws.Pairwise (fun a b => a.2 < b.2) → dueL ts [] ws = some gs → ys.Perm gs → Srt ts ys → Same [g] H H' → H E = none → H' g = some (.ghost o T') → H' E = some (.list (ys.map (entA ts))) → Q (.obj (.ref E)) H') : CallC c (n + 10) H (.ref 232) [.obj (.ref D), nI ts] [] [] Q := by
  refine callDef [Str.ofString "words", Str.ofString "size"] G rfl rfl (fun vs hvs => by obtain ⟨v, w, rfl⟩ := len2 hvs; rfl) rfl (by dsimp only) (by dsimp only) rfl rfl (by dsimp only [List.zip, List.zipWith]) fun env' S => ?_
  repeat walk_at "my_step"
  intro A hA hAB
  dsimp only at hA
  have sA : Same [g] H (setH H A (.list [])) := Same.refl.set (.inr hA)
  have hD1 := keepNew hA (.list []) hD
  have hg1 := keepNew hA (.list []) hg
  have hA1 : setH H A (.list []) A = some (.list []) := setH_self _ _ _
  repeat walk_at "my_step"
  intro B hB hBB
  dsimp only at hB ⊢
  generalize setH H A (.list []) = H1 at sA hD1 hg1 hA1 hB
  have hBg := neOf hB hg1
  have hBH := sA.none hB (by simpa using hBg)
  have X2 : DueH H g o A B [] [] T (setH H1 B (.list [])) := ⟨sA.set (.inr hBH), keepNew hB _ hA1, setH_self .., keepNew hB _ hg1, neOf hA hg, hBg, neOf hB hA1, hA, hBH⟩
  have hD2 := keepNew hB (.list []) hD1
  clear sA hD1 hg1 hA1 hBg hBH hA
  repeat walk_at "my_sn"
  try dsimp only
  generalize setH H1 B (.list []) = H2 at X2 hD2
  clear hB hAB hBB hD hg
  refine sCons ?_
  refine TF.hide fun K hK => ?_
  refine sFor (iList ?_) (fun _ => rfl)
  repeat walk_at "my_step"
  refine cSortedK (xs := words) (f := wA) (kf := fun w => sgn w.2) (key := fun w => w.2) (q := 213) hD2 hl2 hl6 hnd (fun a _ b _ => ltSgn a.2 b.2) (fun H3 a ha => (sp_name G (by rw [show wS a = lS (a.1 ++ [a.2]) from rfl, lS_len]; simp) ⟨by rw [lastW], rfl⟩).S) fun ws E hperm hsort hE hEB => ?_
  obtain ⟨gs, hgs, hpl⟩ := hdue ws hperm hsort
  have hEA := neOf hE X2.fA
  have hEB2 := neOf hE X2.fB
  have hEg := neOf hE X2.fg
  have hEH : H E = none := X2.fresh hE
  have hwl : ws.length = words.length := hperm.length_eq
  have hws : ∀ w ∈ ws, WOk ts 0 w := fun w hw' => hw w (hperm.mem_iff.mp hw')
  refine ⟨E, ws.map wA, rfl, setH_self _ _ _, DueI H g o D A B ts ws gs, ?_, ?_, ?_⟩
  · dsimp only
    rw [remH_setH _ hE]
    exact ⟨[], gs, [], T, rfl, X2, hgs, rfl, rfl, rfl, (fun _ q => nomatch q), .nil⟩
  · clear X2 hD2 hgs hE hEB hdue hw hnd hsort hperm hK h
    rintro i a ⟨σH, σl⟩ ha ⟨cols, rest, pairs, T', e0, X⟩
    rw [List.getElem?_map] at ha
    obtain ⟨w, hwi, rfl⟩ := Option.map_eq_some_iff.mp ha
    clear ha
    have hi1 := (List.getElem?_eq_some_iff.mp hwi).1
    have hwk := hws w (List.mem_of_getElem? hwi)
    have hwlen := hwk.len
    have hwl2 : (wS w).length = w.1.length + 1 := by rw [show wS w = lS (w.1 ++ [w.2]) from rfl, lS_len, List.length_append]; rfl
    obtain ⟨d, rest2, hd8, hd0, hdj, hdl2, rfl⟩ := X.draw hwi
    have hcl := X.cl
    have hpl1 := X.pl
    clear hws hwi hpl
    dsimp only at e0 X
    subst e0
    rw [show wA w = AV.str (wS w) from rfl]
    refine aName' (by assumption) (by decide +kernel) ⟨dueLoc D ts A B [(Str.ofString "word", AV.str (wS w))], rfl, ?_⟩
    refine TF.drop ?_
    refine sCons ?_
    repeat walk_at "my_sn"
    refine sCons ?_
    refine Tr.mono (Q := NextTo ⟨σH, dueLoc D ts A B (dueR w (colL ts w.1 0) [])⟩) ?_ ?_
    · refine sFor (iStr ?_) (fun _ => rfl)
      repeat walk_at "my_step"
      refine ⟨by lia, ?_⟩
      rw [show wS w = lS (w.1 ++ [w.2]) from rfl, strSl_init]
      have hsg : signsOf (lS w.1) = w.1.map fun ch => AV.str (sgn ch) := by simp [signsOf, lS, sgn]
      refine ⟨_, rfl, fun j σ => σ = ⟨σH, dueLoc D ts A B (dueR w (colL ts (w.1.take j) 0) [])⟩, ?_, ?_, ?_⟩
      · rfl
      · rw [hsg]
        rintro j a _ ha rfl
        rw [List.getElem?_map] at ha
        obtain ⟨ch, hch, rfl⟩ := Option.map_eq_some_iff.mp ha
        obtain ⟨hc1, hc2⟩ := List.getElem?_eq_some_iff.mp hch
        have hcol : colL ts (w.1.take (j + 1)) 0 = if ch = 32 then colL ts (w.1.take j) 0 + 1 else colL ts (w.1.take j) 0 - colL ts (w.1.take j) 0 % ts + ts := by rw [← hc2, ← List.take_append_getElem, colL_app]; rfl
        clear ha hch hc2
        generalize colL ts (w.1.take j) 0 = cc at hcol
        refine aName' (by assumption) (by decide +kernel) ⟨dueLoc D ts A B (dueR w cc [(Str.ofString "sign", AV.str (sgn ch))]), rfl, ?_⟩
        refine TF.drop ?_
        refine sCons ?_
        refine Tr.mono (Q := NextTo ⟨σH, dueLoc D ts A B (dueR w (if ch = 32 then cc + 1 else cc - cc % ts + ts) [(Str.ofString "sign", AV.str (sgn ch))])⟩) ?_ ?_
        · repeat walk_at "my_step"
          have hq : (sgn ch == Str.ofString " ") = (ch == 32) := by rw [show Str.ofString " " = sgn 32 by decide +kernel, sgn_beq]
          rw [hq]
          refine ⟨fun hb => ?_, fun hb => ?_⟩
          · rw [if_pos (by simpa using hb)]
            repeat walk_at "my_step"
            exact rfl
          · rw [if_neg (by simpa using hb)]
            have hmod : cc % ts ≤ cc := Nat.mod_le ..
            have hv : ((cc : Int) - (cc : Int).fmod (ts : Int) + (ts : Int)) = ((cc - cc % ts + ts : Nat) : Int) := by
              rw [fmodN]; lia
            repeat walk_at "my_step"
            dsimp only
            rw [hv]
            exact rfl
        · rintro f _ ⟨rfl, rfl⟩
          repeat walk_at "my_step"
          rw [← hcol]
          exact dueDrop2 rfl
      · rintro _ rfl
        rw [hsg, List.length_map, List.take_length]
        exact ⟨rfl, rfl⟩
    · rintro f _ ⟨rfl, rfl⟩
      have hgp := placeOf_grown (ts := ts) (w := w) (d := d)
      generalize hcc : colL ts w.1 0 = cc at hd0 hdj hdl2 hgp ⊢
      repeat walk_at "my_sn"
      refine sCons ?_
      repeat walk_at "my_sn"
      refine sCons ?_
      refine Tr.mono (Q := NextS σH (dueLoc D ts A B (dueR w cc [(Str.ofString "driven", nI d)]))) ?_ ?_
      · refine sWhile (DueW σH (fun k => dueLoc D ts A B (dueR w cc [(Str.ofString "driven", nI k)])) d) d ⟨0, Nat.zero_le _, rfl, Same.refl, rfl⟩ ?_
        rintro m ⟨τH, τl⟩ ⟨k, hk, rfl, s2, q2⟩
        dsimp only at s2 q2
        subst q2
        refine bBool (b := true) ?_ rfl
        repeat walk_at "my_step"
        have hAt := s2 _ _ (fun q => nomatch q) X.x.fA
        rw [show AV.int ((cc : Int) + (k : Int)) = nI (cc + k) from rfl]
        refine (sp_taken (G := G) hAt (by lia) fun H3 s3 => ?_).S
        have s4 : Same [] σH H3 := fun a o ha e => s3 a o ha (s2 a o ha e)
        clear hAt s2 s3
        refine ⟨_, rfl, fun hb => ?_, fun hb => ?_⟩
        · have hkd : k < d := by
            rcases Nat.eq_or_lt_of_le hk with e | e
            · subst e; rw [hd0] at hb; cases hb
            · exact e
          repeat walk_at "my_step"
          exact ⟨d - (k + 1), by lia, k + 1, hkd, rfl, s4, rfl⟩
        · have hkd : k = d := by
            rcases Nat.eq_or_lt_of_le hk with e | e
            · exact e
            · rw [hdj k e] at hb; cases hb
          subst hkd
          exact ⟨rfl, s4, rfl⟩
      · rintro f ⟨τH, τl⟩ ⟨rfl, s2, q2⟩
        have Y := X.x.mv s2
        dsimp only at q2 Y
        subst q2
        clear s2 hd0 hdj
        have YfA := Y.fA
        repeat walk_at "my_step"
        clear YfA
        refine cAppend Y.fA (by rw [sizeLine_eq, List.length_map]; lia) ?_
        repeat walk_at "my_step"
        replace Y := Y.setA (l' := cols.map nI ++ [nI cc])
        dsimp only
        generalize setH τH A (.list (cols.map nI ++ [nI cc])) = H4 at Y
        refine ⟨by lia, ?_⟩
        rw [show wS w = lS (w.1 ++ [w.2]) from rfl, strSl_init]
        repeat walk_at "my_step"
        refine opRep8 32 d (by decide +kernel) rfl hd8 ?_
        refine opCat (by simp; lia) ?_
        repeat walk_at "my_step"
        refine ⟨_, .str (by decide) (by rw [hwl2]; lia) (by lia), ?_⟩
        rw [show Txt.item (wS w) (-1) = lS [w.2] from item_last ..]
        refine opCat (by simp; lia) ?_
        rw [show lS (w.1 ++ List.replicate d 32 ++ [w.2]) = wS (grown w d) from rfl]
        have YfB := Y.fB
        repeat walk_at "my_step"
        clear YfB
        rw [show ((cc : Int) + (d : Int)).fmod 8 = (((cc + d) % 8 : Nat) : Int) from fmodN (cc + d) 8]
        have eQ : Float64.ofFrac (decide ((((cc + d) % 8 : Nat) : Int) < 0) != decide ((8 : Int) < 0)) (((cc + d) % 8 : Nat) : Int).natAbs (8 : Int).natAbs = hueOf ((cc + d) % 8) := by
          rw [decide_eq_false (by lia), decide_eq_false (by lia)]; rfl
        refine opDivG Y.fg (by decide) (by rw [eQ]; have := List.all_eq_true.mp hueFin0 ((cc + d) % 8) (List.mem_range.mpr (by lia)); simpa using this) fun t ht ht0 => ?_
        rw [eQ]
        clear eQ
        replace Y := Y.setG (T' := t + 1)
        dsimp only
        generalize setH H4 g (.ghost o (t + 1)) = H5 at Y
        repeat walk_at "my_step"
        refine ⟨_, .str (by decide) (by rw [hwl2]; lia) (by lia), ?_⟩
        rw [show Txt.item (wS w) (-1) = sgn w.2 from item_last ..]
        repeat walk_at "my_step"
        refine (sp_light (G := G) (six_rk hwk.nm) ?_).S
        refine opTupAdd (by simp) (by simp) (by simp) ?_
        repeat walk_at "my_step"
        refine opTupAdd (by simp) (by simp) (by simp) ?_
        repeat walk_at "my_step"
        have hent : AV.tup ([AV.obj (.float (hueOf ((cc + d) % 8)) t)] ++ [AV.float (satOf (rk w.2)), AV.float (valOf (rk w.2))] ++ [AV.str (wS (grown w d))]) = dueA ts (grown w d, t) := by
          unfold dueA; dsimp only; rw [placeOf_grown, hcc]; rfl
        rw [hent]
        refine cAppend Y.fB (by rw [sizeLine_eq, List.length_map]; lia) ?_
        repeat walk_at "my_step"
        dsimp only
        subst hcc
        exact dueDrop ⟨_, rest2, _, t + 1, rfl, X.more hdl2 ht ht0 Y.setB⟩
  · rintro ⟨σH, σl⟩ ⟨cols, rest, pairs, T', e0, X⟩
    refine hK _ _ ?_
    have hdl := X.dl
    have hgs1 := X.g
    have hpl1 := X.pl
    have Y := X.x.put (ob := .list (ws.map wA)) hEH hEA hEB2 hEg
    rw [List.length_map, List.drop_length] at hdl
    cases hdl
    rw [List.append_nil] at hgs1
    rw [List.length_map] at hpl1
    dsimp only at e0 Y
    subst e0
    dsimp only
    generalize setH σH E (.list (ws.map wA)) = H3 at Y
    repeat walk_at "my_step"
    have hpeq : ∀ a ∈ pairs, ∀ b ∈ pairs, a.2 = b.2 → a = b := fun a ha b hb e => by
      obtain ⟨i, hi, rfl⟩ := List.getElem_of_mem ha
      obtain ⟨j, hj, rfl⟩ := List.getElem_of_mem hb
      have hp := List.pairwise_iff_getElem.mp X.pw
      rcases Nat.lt_trichotomy i j with q | q | q
      · exact absurd e (Nat.ne_of_lt (hp i j hi hj q))
      · subst q; rfl
      · exact absurd e.symm (Nat.ne_of_lt (hp j i hj hi q))
    have hkn : (pairs.map fun p => placeOf ts p.1).Nodup := by
      rw [hgs1, List.map_map] at hpl; exact hpl
    refine cSortedT (xs := pairs) (fx := fun p => hueOf (placeOf ts p.1)) (tk := fun p => p.2) (rest := fun p => [.float (satOf (rk p.1.2)), .float (valOf (rk p.1.2)), .str (wS p.1)]) (key := fun p => placeOf ts p.1) Y.fB (by lia) (by lia) hkn (fun a ha => (X.pt a ha).1) (fun a ha b hb hne e => hne (by rw [hpeq a ha b hb e])) (fun a ha b hb => hue_lt (placeOf_lt ..) (placeOf_lt ..)) (fun a ha b hb hne => ?_) fun ys E2 hperm2 hs2 hE2 hE2B => ?_
    · have h1 := hue_eq (placeOf_lt ts a.1) (placeOf_lt ts b.1)
      have h2 := hue_eq (placeOf_lt ts a.1) (placeOf_lt ts a.1)
      rw [decide_eq_false hne] at h1
      refine ⟨fun q => ?_, h1⟩
      rw [← q, h2] at h1
      simp at h1
    · repeat walk_at "my_step"
      have hE2g := neOf hE2 Y.fg
      dsimp only
      refine h E2 T' _ ws gs (ys.map fun p => p.1) hperm hsort hgs (by rw [hgs1]; exact hperm2.map _) (List.pairwise_map.mpr hs2) (Y.s.set (.inr (Y.fresh hE2))) (Y.fresh hE2) ?_ ?_
      · rw [setH_ne _ _ (Ne.symm hE2g)]; exact Y.fg
      · rw [setH_self, List.map_map]; rfl
end
end

section
set_option maxHeartbeats 1000000
theorem subset_len {α : Type} [BEq α] [LawfulBEq α] : ∀ {a b : List α}, a.Nodup → (∀ x ∈ a, x ∈ b) → a.length ≤ b.length
  | [], b, _, _ => Nat.zero_le _
  | x :: a, b, hd, hs => by
    have hx := hs x (List.mem_cons_self ..)
    have hd' := List.nodup_cons.mp hd
    have := subset_len (a := a) (b := b.erase x) hd'.2 fun y hy => by
      refine (List.mem_erase_of_ne fun q => ?_).mpr (hs y (List.mem_cons_of_mem _ hy))
      subst q; exact hd'.1 hy
    rw [List.length_erase_of_mem hx] at this
    have := List.length_pos_of_mem hx
    simp; lia
theorem nodup_bound {a : List Nat} {m : Nat} (hd : a.Nodup) (h : ∀ x ∈ a, x < m) : a.length ≤ m := by
  have := subset_len (b := List.range m) hd fun x hx => List.mem_range.mpr (h x hx)
  simpa using this
noncomputable def off (pl c : Nat) : Nat := (pl + (8 - c % 8)) % 8
theorem off_lt (pl c : Nat) : off pl c < 8 := Nat.mod_lt _ (by lia)
theorem off_int (pl c : Nat) : ((pl : Int) - (c : Int)).fmod 8 = ((off pl c : Nat) : Int) := by
  rw [Int.fmod_eq_emod_of_nonneg _ (by lia)]
  unfold off; lia
theorem off_place {pl c : Nat} : off pl c = 0 ↔ c % 8 = pl % 8 := by unfold off; lia
theorem off_inj {pl a b : Nat} (h : off pl a = off pl b) : a % 8 = b % 8 := by unfold off at h; lia
theorem off_add {pl c d : Nat} (h : d ≤ off pl c) : off pl (c + d) = off pl c - d := by unfold off at *; lia
theorem off_sub {pl c d : Nat} (h : off pl (c + d) + d < 8) : off pl c = off pl (c + d) + d := by unfold off at *; lia
theorem off_at {pl c d s : Nat} (h1 : off pl (c + d) < s) (h2 : s ≤ off pl (c + d) + d) (hs : s < 8) : off pl (c + (off pl (c + d) + d - s)) = s := by unfold off at *; lia
theorem off_congr {pl a b : Nat} (h : a % 8 = b % 8) : off pl a = off pl b := by unfold off; rw [h]
/-- columns with how far each was driven on: all that was passed over is taken, and none stand at one place -/
structure Placed (ps : List (Nat × Nat)) : Prop where
  nd : (ps.map fun p => (p.1 + p.2) % 8).Nodup
  passed : ∀ p ∈ ps, ∀ d < p.2, ∃ q ∈ ps, (q.1 + q.2) % 8 = (p.1 + d) % 8
theorem Placed.offs {ps : List (Nat × Nat)} (h : Placed ps) (pl : Nat) : (ps.map fun p => off pl (p.1 + p.2)).Nodup := by
  have := h.nd
  unfold List.Nodup at this ⊢
  rw [List.pairwise_map] at this ⊢
  exact this.imp fun hab q => hab (off_inj q)
theorem knuth_no {ps : List (Nat × Nat)} (h : Placed ps) {pl : Nat} (hn : ∀ q ∈ ps, (q.1 + q.2) % 8 ≠ pl % 8) (m : Nat) : (ps.filter fun p => decide (off pl p.1 < m)).length ≤ m - 1 := by
  have hlt : ∀ p ∈ ps, p.2 < off pl p.1 := fun p hp => by
    rcases Nat.lt_trichotomy p.2 (off pl p.1) with q | q | q
    · exact q
    · have h1 := off_add (pl := pl) (c := p.1) (d := p.2) (by lia)
      rw [q, Nat.sub_self] at h1
      rw [← q] at h1
      exact absurd (off_place.mp h1) (hn p hp)
    · obtain ⟨q', hq', e⟩ := h.passed p hp (off pl p.1) q
      have h1 := off_add (pl := pl) (c := p.1) (d := off pl p.1) (Nat.le_refl _)
      rw [Nat.sub_self] at h1
      exact absurd (e.trans (off_place.mp h1)) (hn q' hq')
  have hnd : ((ps.filter fun p => decide (off pl p.1 < m)).map fun p => off pl (p.1 + p.2) - 1).Nodup := by
    have h0 := h.offs pl
    unfold List.Nodup at h0 ⊢
    rw [List.pairwise_map] at h0 ⊢
    have h1 := List.Pairwise.filter (fun p : Nat × Nat => decide (off pl p.1 < m)) h0
    refine List.Pairwise.imp_of_mem (fun {a b} ha hb hab q => hab ?_) h1
    have ha' := hlt a (List.mem_filter.mp ha).1
    have hb' := hlt b (List.mem_filter.mp hb).1
    have e1 := off_add (pl := pl) (c := a.1) (d := a.2) (by lia)
    have e2 := off_add (pl := pl) (c := b.1) (d := b.2) (by lia)
    lia
  have := nodup_bound (m := m - 1) hnd fun x hx => by
    obtain ⟨p, hp, rfl⟩ := List.mem_map.mp hx
    obtain ⟨hp1, hp2⟩ := List.mem_filter.mp hp
    have h1 := hlt p hp1
    have e1 := off_add (pl := pl) (c := p.1) (d := p.2) (by lia)
    have h2 : off pl p.1 < m := by simpa using hp2
    lia
  simpa using this
theorem firstNo {P : Nat → Prop} [DecidablePred P] : ∀ n : Nat, (∀ y < n, P y) ∨ ∃ s, s < n ∧ (∀ y < s, P y) ∧ ¬ P s
  | 0 => .inl fun _ h => absurd h (by lia)
  | n + 1 => by
    rcases firstNo (P := P) n with h | ⟨s, h1, h2, h3⟩
    · by_cases q : P n
      · exact .inl fun y hy => by rcases Nat.lt_succ_iff_lt_or_eq.mp hy with z | rfl; exact h y z; exact q
      · exact .inr ⟨n, by lia, h, q⟩
    · exact .inr ⟨s, by lia, h2, h3⟩
theorem knuth_yes {ps : List (Nat × Nat)} (h : Placed ps) (hl : ps.length ≤ 7) {pl : Nat} {q : Nat × Nat} (hq : q ∈ ps) (he : (q.1 + q.2) % 8 = pl % 8) : ∃ m, 1 ≤ m ∧ m ≤ (ps.filter fun p => decide (off pl p.1 < m)).length := by
  have hocc : ∀ y, y < 8 → (∃ p ∈ ps, off pl (p.1 + p.2) = y) ∨ ¬ ∃ p ∈ ps, off pl (p.1 + p.2) = y := fun y _ => Classical.em _
  obtain ⟨s, hs8, hs1, hs2⟩ : ∃ s, s < 8 ∧ (∀ y < s, ∃ p ∈ ps, off pl (p.1 + p.2) = y) ∧ ¬ ∃ p ∈ ps, off pl (p.1 + p.2) = s := by
    have : DecidablePred fun y => ∃ p ∈ ps, off pl (p.1 + p.2) = y := fun y => Classical.propDecidable _
    rcases firstNo (P := fun y => ∃ p ∈ ps, off pl (p.1 + p.2) = y) 8 with h8 | h8
    · exfalso
      have := subset_len (a := List.range 8) (b := ps.map fun p => off pl (p.1 + p.2)) List.nodup_range fun x hx => by
        obtain ⟨p, hp, e⟩ := h8 x (List.mem_range.mp hx)
        exact List.mem_map.mpr ⟨p, hp, e⟩
      simp at this; lia
    · exact h8
  have hs0 : 1 ≤ s := by
    rcases Nat.eq_zero_or_pos s with e | e
    · subst e; exact absurd ⟨q, hq, off_place.mpr he⟩ hs2
    · exact e
  refine ⟨s, hs0, ?_⟩
  have hin : ∀ p ∈ ps, off pl (p.1 + p.2) < s → off pl p.1 < s := fun p hp hlt => by
    rcases Nat.lt_or_ge (off pl (p.1 + p.2) + p.2) s with g | g
    · have := off_sub (pl := pl) (c := p.1) (d := p.2) (by lia); lia
    · exfalso
      have e1 := off_at hlt g hs8
      obtain ⟨q', hq', e⟩ := h.passed p hp (off pl (p.1 + p.2) + p.2 - s) (by lia)
      exact hs2 ⟨q', hq', (off_congr e).trans e1⟩
  have h1 := subset_len (a := List.range s) (b := (ps.filter fun p => decide (off pl p.1 < s)).map fun p => off pl (p.1 + p.2)) List.nodup_range fun x hx => by
    obtain ⟨p, hp, e⟩ := hs1 x (List.mem_range.mp hx)
    have hx' := List.mem_range.mp hx
    exact List.mem_map.mpr ⟨p, List.mem_filter.mpr ⟨hp, by simpa using hin p hp (by lia)⟩, e⟩
  simpa using h1
theorem knuth {ps : List (Nat × Nat)} (h : Placed ps) (hl : ps.length ≤ 7) (pl : Nat) : takenOf (ps.map (·.1)) pl = true ↔ ∃ q ∈ ps, (q.1 + q.2) % 8 = pl % 8 := by
  have hf : ∀ k, (((ps.map (·.1)).filter fun (q : Nat) => decide (((pl : Int) - (q : Int)).fmod 8 < ((1 + k : Nat) : Int))).length) = (ps.filter fun p => decide (off pl p.1 < k + 1)).length := fun k => by
    rw [List.filter_map, List.length_map]
    congr 1
    refine List.filter_congr fun p _ => ?_
    show decide (((pl : Int) - (p.1 : Int)).fmod 8 < ((1 + k : Nat) : Int)) = _
    rw [off_int]
    exact decide_eq_decide.mpr (by lia)
  constructor
  · intro ht
    obtain ⟨k, hk, hk2⟩ := List.any_eq_true.mp ht
    refine Classical.byContradiction fun hn => ?_
    have hn' : ∀ q ∈ ps, (q.1 + q.2) % 8 ≠ pl % 8 := fun q hq e => hn ⟨q, hq, e⟩
    have := knuth_no h hn' (k + 1)
    unfold takenBy at hk2
    rw [hf] at hk2
    have := of_decide_eq_true hk2
    lia
  · rintro ⟨q, hq, e⟩
    obtain ⟨m, h1, h2⟩ := knuth_yes h hl hq e
    have h3 : (ps.filter fun p => decide (off pl p.1 < m)).length ≤ ps.length := List.length_filter_le ..
    refine List.any_eq_true.mpr ⟨m - 1, List.mem_range.mpr (by simp; lia), ?_⟩
    unfold takenBy
    rw [hf]
    exact decide_eq_true (by rw [show m - 1 + 1 = m by lia]; exact h2)
end

section
set_option maxHeartbeats 1000000
theorem srt_unique {α : Type} {key : α → Nat} : ∀ {a b : List α}, a.Perm b → a.Pairwise (fun x y => key x < key y) → b.Pairwise (fun x y => key x < key y) → a = b
  | [], b, h, _, _ => (List.Perm.nil_eq h)
  | x :: a, [], h, _, _ => by have := h.length_eq; simp at this
  | x :: a, y :: b, h, ha, hb => by
    obtain ⟨ha1, ha2⟩ := List.pairwise_cons.mp ha
    obtain ⟨hb1, hb2⟩ := List.pairwise_cons.mp hb
    have hxy : x = y := by
      have h1 : x ∈ y :: b := h.mem_iff.mp (List.mem_cons_self ..)
      have h2 : y ∈ x :: a := h.mem_iff.mpr (List.mem_cons_self ..)
      rcases List.mem_cons.mp h1 with e | e
      · exact e
      · rcases List.mem_cons.mp h2 with f | f
        · exact f.symm
        · have := hb1 x e; have := ha1 y f; lia
    subst hxy
    rw [srt_unique (List.Perm.cons_inv h) ha2 hb2]
noncomputable abbrev c0 (ts : Nat) (w : Wd) : Nat := colL ts w.1 0
/-- how far each word is driven on when the names are taken in order -/
structure Due (ts : Nat) (T : List (Wd × Nat)) : Prop where
  nd : (T.map fun p => (c0 ts p.1 + p.2) % 8).Nodup
  names : (T.map fun p => p.1.2).Nodup
  passed : ∀ p ∈ T, ∀ e < p.2, ∃ q ∈ T, q.1.2 < p.1.2 ∧ (c0 ts q.1 + q.2) % 8 = (c0 ts p.1 + e) % 8
theorem nodup_inj {α β : Type} {f : α → β} {l : List α} (h : (l.map f).Nodup) {a b : α} (ha : a ∈ l) (hb : b ∈ l) (e : f a = f b) : a = b := by
  obtain ⟨i, hi, rfl⟩ := List.getElem_of_mem ha
  obtain ⟨j, hj, rfl⟩ := List.getElem_of_mem hb
  have hp := List.pairwise_iff_getElem.mp h
  rcases Nat.lt_trichotomy i j with q | q | q
  · exact absurd (by rw [List.getElem_map, List.getElem_map]; exact e) (hp i j (by simpa using hi) (by simpa using hj) q)
  · subst q; rfl
  · exact absurd (by rw [List.getElem_map, List.getElem_map]; exact e.symm) (hp j i (by simpa using hj) (by simpa using hi) q)
theorem Due.lt {ts : Nat} {T : List (Wd × Nat)} (h : Due ts T) (h8 : ∀ p ∈ T, p.2 < 8) {p : Wd × Nat} (hp : p ∈ T) : p.2 < T.length := by
  have hs : ∀ x ∈ p :: [], x ∈ T := fun x hx => by simp at hx; subst hx; exact hp
  have h1 : p.2 ≤ ((T.filter fun q => decide (q.1.2 < p.1.2)).map fun q => (c0 ts q.1 + q.2) % 8).length := by
    have := subset_len (a := (List.range p.2).map fun e => (c0 ts p.1 + e) % 8) (b := (T.filter fun q => decide (q.1.2 < p.1.2)).map fun q => (c0 ts q.1 + q.2) % 8) ?_ ?_
    · simpa using this
    · refine List.pairwise_map.mpr ?_
      refine List.Pairwise.imp_of_mem (fun {a b} ha hb hab q => hab ?_) List.nodup_range
      have := h8 p hp
      have := List.mem_range.mp ha
      have := List.mem_range.mp hb
      lia
    · intro x hx
      obtain ⟨e, he, rfl⟩ := List.mem_map.mp hx
      obtain ⟨q, hq, hn, hpl⟩ := h.passed p hp e (List.mem_range.mp he)
      exact List.mem_map.mpr ⟨q, List.mem_filter.mpr ⟨hq, by simpa using hn⟩, hpl⟩
  rw [List.length_map] at h1
  have h2 : (T.filter fun q => decide (q.1.2 < p.1.2)).length < T.length := by
    have := List.length_filter_lt_length_iff_exists (p := fun q : Wd × Nat => decide (q.1.2 < p.1.2)) (l := T)
    exact this.mpr ⟨p, hp, by simp⟩
  lia
theorem grown_drive (w : Wd) (k : Nat) : drive (grown w k) = grown w (k + 1) := by
  unfold drive grown
  simp [List.replicate_succ']
theorem grown_zero (w : Wd) : grown w 0 = w := by unfold grown; simp
noncomputable def upd (k : Nat → Nat) (a : Nat) : Nat → Nat := fun b => if b = a then k b + 1 else k b
structure RunInv (ts : Nat) (T : List (Wd × Nat)) (k : Nat → Nat) (row q : List Wd) : Prop where
  perm : (row ++ q).Perm (T.map fun p => grown p.1 (k p.1.2))
  le : ∀ p ∈ T, k p.1.2 ≤ p.2
  srt : Srt ts row
noncomputable def restOf (T : List (Wd × Nat)) (k : Nat → Nat) : Nat := (T.map fun p => p.2 - k p.1.2).sum
/-- two words at one place: the greater name has not come to its place yet -/
theorem Due.greater {ts : Nat} {T : List (Wd × Nat)} (h : Due ts T) {k : Nat → Nat} (hk : ∀ p ∈ T, k p.1.2 ≤ p.2) {o u : Wd × Nat} (ho : o ∈ T) (hu : u ∈ T) (hlt : o.1.2 < u.1.2) (he : (c0 ts o.1 + k o.1.2) % 8 = (c0 ts u.1 + k u.1.2) % 8) : k u.1.2 < u.2 := by
  have hku := hk u hu
  rcases Nat.eq_or_lt_of_le hku with e | e
  · exfalso
    rcases Nat.eq_or_lt_of_le (hk o ho) with f | f
    · rw [e, f] at he
      have := nodup_inj h.nd ho hu he
      subst this; lia
    · obtain ⟨q, hq, hn, hp⟩ := h.passed o ho _ f
      rw [he, e] at hp
      have := nodup_inj h.nd hq hu hp
      subst this; lia
  · exact e
theorem restOf_upd {T : List (Wd × Nat)} {k : Nat → Nat} (hn : (T.map fun p => p.1.2).Nodup) {u : Wd × Nat} (hu : u ∈ T) (hlt : k u.1.2 < u.2) : restOf T (upd k u.1.2) + 1 = restOf T k := by
  unfold restOf
  induction T with
  | nil => cases hu
  | cons p T ih =>
    rw [List.map_cons, List.nodup_cons] at hn
    rw [List.map_cons, List.sum_cons, List.map_cons, List.sum_cons]
    rcases List.mem_cons.mp hu with rfl | hu
    · have : (T.map fun p => p.2 - upd k u.1.2 p.1.2) = T.map fun p => p.2 - k p.1.2 := List.map_congr_left fun x hx => by
        unfold upd
        rw [if_neg fun e => hn.1 (List.mem_map.mpr ⟨x, hx, e⟩)]
      rw [this]
      unfold upd
      rw [if_pos rfl]; lia
    · have := ih hn.2 hu
      have hne : p.1.2 ≠ u.1.2 := fun e => hn.1 (List.mem_map.mpr ⟨u, hu, e.symm⟩)
      have e2 : p.2 - upd k u.1.2 p.1.2 = p.2 - k p.1.2 := by unfold upd; rw [if_neg hne]
      rw [e2]; lia
theorem map_upd {T : List (Wd × Nat)} {k : Nat → Nat} (hn : (T.map fun p => p.1.2).Nodup) {u : Wd × Nat} (hu : u ∈ T) : ∃ R : List Wd, (T.map fun p => grown p.1 (k p.1.2)).Perm (grown u.1 (k u.1.2) :: R) ∧ (T.map fun p => grown p.1 (upd k u.1.2 p.1.2)).Perm (grown u.1 (k u.1.2 + 1) :: R) := by
  induction T with
  | nil => cases hu
  | cons p T ih =>
    rw [List.map_cons, List.nodup_cons] at hn
    rcases List.mem_cons.mp hu with rfl | hu
    · refine ⟨T.map fun p => grown p.1 (k p.1.2), List.Perm.refl _, ?_⟩
      have : (T.map fun p => grown p.1 (upd k u.1.2 p.1.2)) = T.map fun p => grown p.1 (k p.1.2) := List.map_congr_left fun x hx => by
        unfold upd
        rw [if_neg fun e => hn.1 (List.mem_map.mpr ⟨x, hx, e⟩)]
      rw [List.map_cons, this]
      unfold upd
      rw [if_pos rfl]
    · obtain ⟨R, h1, h2⟩ := ih hn.2 hu
      have hne : p.1.2 ≠ u.1.2 := fun e => hn.1 (List.mem_map.mpr ⟨u, hu, e.symm⟩)
      have e2 : upd k u.1.2 p.1.2 = k p.1.2 := by unfold upd; rw [if_neg hne]
      refine ⟨grown p.1 (k p.1.2) :: R, ?_, ?_⟩
      · rw [List.map_cons]; exact (h1.cons _).trans (List.Perm.swap ..)
      · rw [List.map_cons, e2]; exact (h2.cons _).trans (List.Perm.swap ..)
theorem set_perm {α : Type} {x v : α} : ∀ {l : List α} {i : Nat}, l[i]? = some v → (v :: l.set i x).Perm (x :: l)
  | [], i, h => by simp at h
  | a :: l, 0, h => by simp at h; subst h; exact List.Perm.swap ..
  | a :: l, i + 1, h => by
    have := set_perm (x := x) (l := l) (i := i) (by simpa using h)
    rw [List.set_cons_succ]
    exact (List.Perm.swap ..).trans ((this.cons a).trans (List.Perm.swap ..))
theorem ins_perm {α : Type} (x : α) (l : List α) (i : Nat) : (l.take i ++ x :: l.drop i).Perm (x :: l) := by
  have := List.perm_middle (a := x) (l₁ := l.take i) (l₂ := l.drop i)
  rwa [List.take_append_drop] at this
theorem RunInv.step {ts : Nat} {T : List (Wd × Nat)} (h : Due ts T) {k : Nat → Nat} {row q : List Wd} {w : Wd} (I : RunInv ts T k row (w :: q)) :
    ∃ k', RunInv ts T k' (stepRow ts w row).1 (q ++ driven (stepRow ts w row).2) ∧ restOf T k' + (q ++ driven (stepRow ts w row).2).length < restOf T k + (w :: q).length := by
  have srt' := stepRow_srt (w := w) I.srt
  have cur : ∀ {u : Wd}, u ∈ row ++ (w :: q) → ∃ p ∈ T, u = grown p.1 (k p.1.2) := fun {u} hu => by
    obtain ⟨p, hp, e⟩ := List.mem_map.mp (I.perm.mem_iff.mp hu)
    exact ⟨p, hp, e.symm⟩
  have drv : ∀ {u o : Wd × Nat} {row' : List Wd}, u ∈ T → o ∈ T → o.1.2 < u.1.2 → (c0 ts o.1 + k o.1.2) % 8 = (c0 ts u.1 + k u.1.2) % 8 → stepRow ts w row = (row', some (grown u.1 (k u.1.2))) → (grown u.1 (k u.1.2) :: row').Perm (w :: row) →
      ∃ k', RunInv ts T k' (stepRow ts w row).1 (q ++ driven (stepRow ts w row).2) ∧ restOf T k' + (q ++ driven (stepRow ts w row).2).length < restOf T k + (w :: q).length := fun {u o row'} hu ho hlt he hst hp => by
    have hg := h.greater I.le ho hu hlt he
    obtain ⟨R, m1, m2⟩ := map_upd (k := k) h.names hu
    have hr := restOf_upd h.names hu hg
    rw [hst] at srt' ⊢
    refine ⟨upd k u.1.2, ⟨?_, fun p hp' => ?_, srt'⟩, ?_⟩
    · have e1 : driven (some (grown u.1 (k u.1.2))) = [grown u.1 (k u.1.2 + 1)] := by
        show [drive _] = _
        rw [grown_drive]
      dsimp only
      rw [e1]
      refine List.Perm.trans ?_ m2.symm
      have a1 : (row' ++ (q ++ [grown u.1 (k u.1.2 + 1)])).Perm (grown u.1 (k u.1.2 + 1) :: (row' ++ q)) := by
        rw [← List.append_assoc]
        exact List.perm_append_comm
      refine a1.trans (List.Perm.cons _ ?_)
      have a2 : (grown u.1 (k u.1.2) :: (row' ++ q)).Perm (grown u.1 (k u.1.2) :: R) := by
        refine List.Perm.trans (List.Perm.trans ?_ I.perm) m1
        have : (grown u.1 (k u.1.2) :: (row' ++ q)).Perm ((w :: row) ++ q) := hp.append_right q
        exact this.trans List.perm_middle.symm
      exact List.Perm.cons_inv a2
    · unfold upd
      split
      · rename_i e
        have : p = u := nodup_inj (f := fun p : Wd × Nat => p.1.2) h.names hp' hu e
        subst this; lia
      · exact I.le p hp'
    · simp [driven]; lia
  have ins : stepRow ts w row = (row.take (posOf ts w row) ++ w :: row.drop (posOf ts w row), none) → ∃ k', RunInv ts T k' (stepRow ts w row).1 (q ++ driven (stepRow ts w row).2) ∧ restOf T k' + (q ++ driven (stepRow ts w row).2).length < restOf T k + (w :: q).length := fun hst => by
    rw [hst] at srt' ⊢
    refine ⟨k, ⟨?_, I.le, srt'⟩, by simp [driven]⟩
    refine List.Perm.trans ?_ I.perm
    dsimp only
    have : q ++ driven none = q := by simp [driven]
    rw [this]
    exact ((ins_perm w row (posOf ts w row)).append_right q).trans List.perm_middle.symm
  cases hv : row[posOf ts w row]? with
  | none => exact ins (by unfold stepRow; rw [hv])
  | some v =>
    by_cases hp : placeOf ts v = placeOf ts w
    · obtain ⟨pv, hpv, ev⟩ := cur (u := v) (List.mem_append_left _ (List.mem_of_getElem? hv))
      obtain ⟨pw, hpw, ew⟩ := cur (u := w) (List.mem_append_right _ (List.mem_cons_self ..))
      have hpl : (c0 ts pv.1 + k pv.1.2) % 8 = (c0 ts pw.1 + k pw.1.2) % 8 := by
        rw [ev, ew, placeOf_grown, placeOf_grown] at hp; exact hp
      have hne : v.2 ≠ w.2 := fun e => by
        have h1 : pv = pw := nodup_inj (f := fun p : Wd × Nat => p.1.2) h.names hpv hpw (by rw [ev, ew] at e; exact e)
        have hn : ((row ++ (w :: q)).map (·.2)).Nodup := by
          have h2 : ((T.map fun p => grown p.1 (k p.1.2)).map (·.2)).Nodup := by rw [List.map_map]; exact h.names
          exact (I.perm.map _).nodup_iff.mpr h2
        rw [List.map_append, List.nodup_append] at hn
        exact hn.2.2 v.2 (List.mem_map.mpr ⟨v, List.mem_of_getElem? hv, rfl⟩) w.2 (by simp) e
      by_cases hlt : w.2 < v.2
      · have hst : stepRow ts w row = (row.set (posOf ts w row) w, some v) := by
          unfold stepRow; rw [hv]; dsimp only; rw [if_pos hp, if_pos hlt]
        refine drv hpv hpw (by rw [ev, ew] at hlt; exact hlt) hpl.symm (by rw [hst, ← ev]) ?_
        rw [← ev]
        exact set_perm hv
      · have hst : stepRow ts w row = (row, some w) := by
          unfold stepRow; rw [hv]; dsimp only; rw [if_pos hp, if_neg hlt]
        refine drv hpw hpv (by rw [ev, ew] at hlt hne; have : (grown pv.1 (k pv.1.2)).2 = pv.1.2 := rfl; have : (grown pw.1 (k pw.1.2)).2 = pw.1.2 := rfl; lia) hpl (by rw [hst, ← ew]) ?_
        rw [← ew]
    · exact ins (by unfold stepRow; rw [hv]; dsimp only; rw [if_neg hp])
theorem RunInv.done {ts : Nat} {T : List (Wd × Nat)} (h : Due ts T) {k : Nat → Nat} {row : List Wd} (I : RunInv ts T k row []) : ∀ n, ∀ p ∈ T, p.1.2 = n → k p.1.2 = p.2 := by
  intro n
  induction n using Nat.strongRecOn with
  | ind n ih =>
    intro p hp hn
    rcases Nat.eq_or_lt_of_le (I.le p hp) with e | e
    · exact e
    · exfalso
      obtain ⟨q, hq, hqn, hpl⟩ := h.passed p hp _ e
      have hqk := ih q.1.2 (by lia) q hq rfl
      rw [← hqk] at hpl
      have hperm := I.perm
      rw [List.append_nil] at hperm
      have m1 : grown p.1 (k p.1.2) ∈ row := hperm.mem_iff.mpr (List.mem_map.mpr ⟨p, hp, rfl⟩)
      have m2 : grown q.1 (k q.1.2) ∈ row := hperm.mem_iff.mpr (List.mem_map.mpr ⟨q, hq, rfl⟩)
      have hs : (row.map (placeOf ts)).Nodup := List.pairwise_map.mpr (I.srt.imp fun hab => by lia)
      have := nodup_inj hs m1 m2 (by rw [placeOf_grown, placeOf_grown]; exact hpl.symm)
      have := congrArg Prod.snd this
      have : p.1.2 = q.1.2 := this
      lia
theorem run_inv {ts : Nat} {T : List (Wd × Nat)} (h : Due ts T) : ∀ (fuel : Nat) (k : Nat → Nat) (row pb ws : List Wd), RunInv ts T k row (pb ++ ws) → restOf T k + (pb ++ ws).length < fuel → ∃ r, runT ts fuel row pb ws = some r ∧ r.Perm (T.map fun p => grown p.1 p.2) ∧ Srt ts r
  | 0, _, _, _, _, _, hf => absurd hf (by lia)
  | fuel + 1, k, row, w :: pb, ws, I, hf => by
    obtain ⟨k', I', hlt⟩ := RunInv.step h (q := pb ++ ws) I
    have e : (pb ++ ws ++ driven (stepRow ts w row).2).Perm ((pb ++ driven (stepRow ts w row).2) ++ ws) := by
      rw [List.append_assoc, List.append_assoc]
      exact List.perm_append_comm.append_left pb
    have I2 : RunInv ts T k' (stepRow ts w row).1 ((pb ++ driven (stepRow ts w row).2) ++ ws) := ⟨(e.symm.append_left _).trans I'.perm, I'.le, I'.srt⟩
    have hl := e.length_eq
    exact run_inv h fuel k' _ _ ws I2 (by rw [← hl]; have : (w :: pb ++ ws).length = (w :: (pb ++ ws)).length := rfl; lia)
  | fuel + 1, k, row, [], w :: ws, I, hf => by
    obtain ⟨k', I', hlt⟩ := RunInv.step h (q := ws) I
    have e : (ws ++ driven (stepRow ts w row).2).Perm (driven (stepRow ts w row).2 ++ ws) := List.perm_append_comm
    have I2 : RunInv ts T k' (stepRow ts w row).1 (driven (stepRow ts w row).2 ++ ws) := ⟨(e.symm.append_left _).trans I'.perm, I'.le, I'.srt⟩
    have hl := e.length_eq
    exact run_inv h fuel k' _ _ ws I2 (by rw [← hl]; have : ([] ++ w :: ws).length = (w :: ws).length := rfl; lia)
  | fuel + 1, k, row, [], [], I, hf => by
    refine ⟨row, rfl, ?_, I.srt⟩
    have I' : RunInv ts T k row [] := I
    have hp := I'.perm
    rw [List.append_nil] at hp
    have : (T.map fun p => grown p.1 (k p.1.2)) = T.map fun p => grown p.1 p.2 := List.map_congr_left fun p hp' => by rw [I'.done h _ p hp' rfl]
    rwa [this] at hp
end

section
set_option maxHeartbeats 1000000
theorem drv_some {cols : List Nat} {ps : List (Nat × Nat)} (h : Placed ps) (hl : ps.length ≤ 7) (col : Nat) : ∃ d, drvOf (ps.map (·.1)) col = some d ∧ d < 8 ∧ (¬ ∃ q ∈ ps, (q.1 + q.2) % 8 = (col + d) % 8) ∧ ∀ e < d, ∃ q ∈ ps, (q.1 + q.2) % 8 = (col + e) % 8 := by
  cases hd : drvOf (ps.map (·.1)) col with
  | none =>
    exfalso
    unfold drvOf at hd
    rw [List.find?_eq_none] at hd
    have := subset_len (a := (List.range 8).map fun e => (col + e) % 8) (b := ps.map fun p => (p.1 + p.2) % 8) ?_ ?_
    · simp at this; lia
    · refine List.pairwise_map.mpr ?_
      refine List.Pairwise.imp_of_mem (fun {a b} ha hb hab q => hab ?_) List.nodup_range
      have := List.mem_range.mp ha
      have := List.mem_range.mp hb
      lia
    · intro x hx
      obtain ⟨e, he, rfl⟩ := List.mem_map.mp hx
      have h1 := hd e he
      have h2 : takenOf (ps.map (·.1)) (col + e) = true := by simpa using h1
      obtain ⟨q, hq, e'⟩ := (knuth h hl _).mp h2
      exact List.mem_map.mpr ⟨q, hq, e'⟩
  | some d =>
    unfold drvOf at hd
    obtain ⟨hd0, hd8, hdj⟩ := List.find?_range_eq_some.mp hd
    refine ⟨d, rfl, List.mem_range.mp hd8, fun hq => ?_, fun e he => ?_⟩
    · have := (knuth h hl (col + d)).mpr hq
      rw [this] at hd0; cases hd0
    · have h1 := hdj e he
      exact (knuth h hl (col + e)).mp (by simpa using h1)
theorem Placed.snoc {ps : List (Nat × Nat)} (h : Placed ps) {col d : Nat} (h1 : ¬ ∃ q ∈ ps, (q.1 + q.2) % 8 = (col + d) % 8) (h2 : ∀ e < d, ∃ q ∈ ps, (q.1 + q.2) % 8 = (col + e) % 8) : Placed (ps ++ [(col, d)]) := by
  refine ⟨?_, fun p hp e he => ?_⟩
  · rw [List.map_append, List.map_cons, List.map_nil]
    refine List.pairwise_append.mpr ⟨h.nd, by simp, fun a ha b hb q => ?_⟩
    simp at hb; subst hb
    obtain ⟨p, hp, rfl⟩ := List.mem_map.mp ha
    exact h1 ⟨p, hp, q⟩
  · rcases List.mem_append.mp hp with hp | hp
    · obtain ⟨q, hq, e'⟩ := h.passed p hp e he
      exact ⟨q, List.mem_append_left _ hq, e'⟩
    · simp at hp; subst hp
      obtain ⟨q, hq, e'⟩ := h2 e he
      exact ⟨q, List.mem_append_left _ hq, e'⟩
theorem due_placed {ts : Nat} : ∀ (ws : List Wd) (ps : List (Nat × Nat)), Placed ps → ps.length + ws.length ≤ 7 → ∃ ds : List Nat, ds.length = ws.length ∧ dueL ts (ps.map (·.1)) ws = some ((ws.zip ds).map fun p => grown p.1 p.2) ∧
    Placed (ps ++ (ws.zip ds).map fun p => (c0 ts p.1, p.2)) ∧ (∀ d ∈ ds, d < 8) ∧ ∀ A p B, ws.zip ds = A ++ p :: B → ∀ e < p.2, (∃ q ∈ ps, (q.1 + q.2) % 8 = (c0 ts p.1 + e) % 8) ∨ ∃ q ∈ A, (c0 ts q.1 + q.2) % 8 = (c0 ts p.1 + e) % 8
  | [], ps, h, hl => ⟨[], rfl, rfl, by simpa using h, by simp, fun A p B e => by simp at e⟩
  | w :: ws, ps, h, hl => by
    obtain ⟨d, hd, hd8, h1, h2⟩ := drv_some (cols := []) h (by simp at hl; lia) (c0 ts w)
    obtain ⟨ds, e1, e2, e3, e4, e5⟩ := due_placed ws (ps ++ [(c0 ts w, d)]) (h.snoc h1 h2) (by simp at hl ⊢; lia)
    refine ⟨d :: ds, by simp [e1], ?_, ?_, ?_, ?_⟩
    · unfold dueL
      rw [show drvOf (ps.map (·.1)) (colL ts w.1 0) = some d from hd]
      dsimp only
      rw [List.map_append] at e2
      rw [show ps.map (·.1) ++ [colL ts w.1 0] = ps.map (·.1) ++ [(c0 ts w, d)].map (·.1) from rfl, e2]
      rfl
    · rw [List.append_assoc] at e3
      exact e3
    · intro x hx
      rcases List.mem_cons.mp hx with rfl | hx
      · exact hd8
      · exact e4 x hx
    · intro A p B hs e he
      rw [List.zip_cons_cons] at hs
      cases A with
      | nil =>
        cases hs
        exact .inl (h2 e he)
      | cons a A =>
        rw [List.cons_append] at hs
        injection hs with ha hs
        subst ha
        rcases e5 A p B hs e he with ⟨q, hq, e'⟩ | ⟨q, hq, e'⟩
        · rcases List.mem_append.mp hq with hq | hq
          · exact .inl ⟨q, hq, e'⟩
          · simp at hq; subst hq
            exact .inr ⟨(w, d), List.mem_cons_self .., e'⟩
        · exact .inr ⟨q, List.mem_cons_of_mem _ hq, e'⟩
theorem placed_nil : Placed [] := ⟨by simp, fun p hp => by cases hp⟩
theorem due_ok {ts : Nat} {ws : List Wd} (hl : ws.length ≤ 6) : ∃ gs, dueL ts [] ws = some gs ∧ (gs.map (placeOf ts)).Nodup := by
  obtain ⟨ds, _, e2, e3, _, _⟩ := due_placed (ts := ts) ws [] placed_nil (by simp; lia)
  refine ⟨_, e2, ?_⟩
  have := e3.nd
  rw [List.nil_append, List.map_map] at this
  rw [List.map_map]
  refine Eq.mp (congrArg List.Nodup ?_) this
  exact List.map_congr_left fun p _ => by show (c0 ts p.1 + p.2) % 8 = placeOf ts (grown p.1 p.2); rw [placeOf_grown]
theorem due_mem {ts : Nat} : ∀ {ws : List Wd} {cols : List Nat} {gs : List Wd}, dueL ts cols ws = some gs → ∀ v ∈ gs, ∃ w ∈ ws, ∃ d, d < 8 ∧ v = grown w d
  | [], cols, gs, h, v, hv => by cases h; cases hv
  | w :: ws, cols, gs, h, v, hv => by
    unfold dueL at h
    split at h
    · cases h
    · rename_i d hd
      obtain ⟨gs', hg, rfl⟩ := Option.map_eq_some_iff.mp h
      unfold drvOf at hd
      have hd8 := List.mem_range.mp (List.find?_range_eq_some.mp hd).2.1
      rcases List.mem_cons.mp hv with rfl | hv
      · exact ⟨w, List.mem_cons_self .., d, hd8, rfl⟩
      · obtain ⟨u, hu, k, hk, e⟩ := due_mem hg v hv
        exact ⟨u, List.mem_cons_of_mem _ hu, k, hk, e⟩
theorem sum_le {l : List Nat} {c : Nat} (h : ∀ x ∈ l, x ≤ c) : l.sum ≤ l.length * c := by
  induction l with
  | nil => simp
  | cons a l ih =>
    have h1 := h a (List.mem_cons_self ..)
    have h2 := ih fun x hx => h x (List.mem_cons_of_mem _ hx)
    rw [List.sum_cons, List.length_cons, Nat.add_mul]; lia
theorem due_due {ts : Nat} {us : List Wd} (hl : us.length ≤ 6) (hs : us.Pairwise fun a b => a.2 < b.2) : ∃ T : List (Wd × Nat), T.map (·.1) = us ∧ Due ts T ∧ (∀ p ∈ T, p.2 < 8) ∧ dueL ts [] us = some (T.map fun p => grown p.1 p.2) := by
  obtain ⟨ds, e1, e2, e3, e4, e5⟩ := due_placed (ts := ts) us [] placed_nil (by simp; lia)
  have hm : (us.zip ds).map (·.1) = us := by
    show (us.zip ds).map Prod.fst = us
    rw [List.map_fst_zip (by lia)]
  refine ⟨us.zip ds, hm, ⟨?_, ?_, ?_⟩, fun p hp => e4 _ (List.of_mem_zip hp).2, e2⟩
  · have := e3.nd
    rw [List.nil_append, List.map_map] at this
    exact this
  · have : (us.zip ds).map (fun p => p.1.2) = us.map (·.2) := by
      conv => rhs; rw [← hm, List.map_map]
      rfl
    rw [this]
    exact List.pairwise_map.mpr (hs.imp fun hab => by lia)
  · intro p hp e he
    obtain ⟨A, B, hsp⟩ := List.append_of_mem hp
    rcases e5 A p B hsp e he with ⟨q, hq, _⟩ | ⟨q, hq, e'⟩
    · cases hq
    · have hqT : q ∈ us.zip ds := by rw [hsp]; exact List.mem_append_left _ hq
      refine ⟨q, hqT, ?_, e'⟩
      have hpw : (us.zip ds).Pairwise fun a b => a.1.2 < b.1.2 := by
        have h1 : ((us.zip ds).map (·.1)).Pairwise fun a b => a.2 < b.2 := by rw [hm]; exact hs
        exact (List.pairwise_map (f := fun x : Wd × Nat => x.1) (R := fun a b : Wd => a.2 < b.2)).mp h1
      rw [hsp] at hpw
      exact (List.pairwise_append.mp hpw).2.2 q hq p (List.mem_cons_self ..)
theorem sort_names (l : List Wd) (hn : (l.map (·.2)).Nodup) : ∃ us : List Wd, us.Perm l ∧ us.Pairwise fun a b => a.2 < b.2 := by
  induction l with
  | nil => exact ⟨[], List.Perm.refl _, .nil⟩
  | cons a l ih =>
    rw [List.map_cons, List.nodup_cons] at hn
    obtain ⟨us, h1, h2⟩ := ih hn.2
    have key : ∀ us : List Wd, us.Pairwise (fun a b => a.2 < b.2) → (∀ b ∈ us, b.2 ≠ a.2) → ∃ vs : List Wd, vs.Perm (a :: us) ∧ vs.Pairwise fun a b => a.2 < b.2 := fun us => by
      induction us with
      | nil => exact fun _ _ => ⟨[a], List.Perm.refl _, by simp⟩
      | cons b us ih2 =>
        intro hp hne
        obtain ⟨hb, hp'⟩ := List.pairwise_cons.mp hp
        by_cases hab : a.2 < b.2
        · exact ⟨a :: b :: us, List.Perm.refl _, List.pairwise_cons.mpr ⟨fun c hc => by
            rcases List.mem_cons.mp hc with rfl | hc
            · exact hab
            · exact Nat.lt_trans hab (hb c hc), hp⟩⟩
        · obtain ⟨vs, v1, v2⟩ := ih2 hp' fun c hc => hne c (List.mem_cons_of_mem _ hc)
          have hba : b.2 < a.2 := by have := hne b (List.mem_cons_self ..); lia
          refine ⟨b :: vs, (v1.cons b).trans (List.Perm.swap ..), List.pairwise_cons.mpr ⟨fun c hc => ?_, v2⟩⟩
          rcases List.mem_cons.mp (v1.mem_iff.mp hc) with rfl | hc
          · exact hba
          · exact hb c hc
    obtain ⟨vs, v1, v2⟩ := key us h2 fun b hb e => hn.1 (List.mem_map.mpr ⟨b, h1.mem_iff.mp hb, e⟩)
    exact ⟨vs, v1.trans (h1.cons a), v2⟩
theorem run_ok {ts : Nat} {pb ws : List Wd} (hl : (pb ++ ws).length ≤ 6) (hnd : ((pb ++ ws).map (·.2)).Nodup) : ∃ r, runT ts 40 [] pb ws = some r ∧
    ∀ (us gs ys : List Wd), us.Perm (pb ++ ws) → us.Pairwise (fun a b => a.2 < b.2) → dueL ts [] us = some gs → ys.Perm gs → Srt ts ys → r = ys := by
  obtain ⟨us, h1, h2⟩ := sort_names _ hnd
  have hul : us.length ≤ 6 := by rw [h1.length_eq]; exact hl
  obtain ⟨T, t1, t2, t3, t4⟩ := due_due (ts := ts) hul h2
  have hTl : T.length = us.length := by rw [← t1]; simp
  have I : RunInv ts T (fun _ => 0) [] (pb ++ ws) := by
    refine ⟨?_, fun p _ => Nat.zero_le _, .nil⟩
    have : (T.map fun p => grown p.1 0) = us := by
      rw [← t1]; exact List.map_congr_left fun p _ => grown_zero _
    rw [List.nil_append, this]; exact h1.symm
  have hm : restOf T (fun _ => 0) + (pb ++ ws).length < 40 := by
    have h3 : restOf T (fun _ => 0) ≤ (T.map fun p => p.2 - 0).length * 5 := sum_le fun x hx => by
      obtain ⟨p, hp, rfl⟩ := List.mem_map.mp hx
      have := t2.lt t3 hp; lia
    rw [List.length_map] at h3
    have : T.length * 5 ≤ 30 := by lia
    lia
  obtain ⟨r, r1, r2, r3⟩ := run_inv t2 40 _ [] pb ws I hm
  refine ⟨r, r1, fun us' gs ys p1 p2 p3 p4 p5 => ?_⟩
  have hus : us' = us := srt_unique (key := fun w : Wd => w.2) (p1.trans h1.symm) p2 h2
  subst hus
  rw [t4] at p3
  cases p3
  exact srt_unique (key := placeOf ts) (r2.trans p4.symm) r3 p5
end

section
set_option maxHeartbeats 1000000
theorem drawn_len : ∀ (xs f : List Nat), (drawn f xs).length = xs.length
  | [], _ => rfl
  | x :: xs, f => by simp [drawn, drawn_len xs]
theorem erase_perm : ∀ {l : List Nat} {i : Nat} (h : i < l.length), (l[i] :: l.eraseIdx i).Perm l
  | a :: l, 0, _ => List.Perm.refl _
  | a :: l, i + 1, h => by
    have hi : i < l.length := by simpa using h
    have := erase_perm (l := l) (i := i) hi
    show (l[i] :: a :: l.eraseIdx i).Perm (a :: l)
    exact (List.Perm.swap ..).trans (this.cons a)
theorem drawn_names : ∀ (xs f : List Nat), f.Nodup → xs.length ≤ f.length → ((drawn f xs).map (·.2)).Nodup ∧ ∀ w ∈ drawn f xs, w.2 ∈ f
  | [], f, _, _ => ⟨by simp [drawn], fun w h => by cases h⟩
  | x :: xs, f, hf, hl => by
    have h0 : 0 < f.length := by simp at hl; lia
    have hi : x % f.length < f.length := Nat.mod_lt _ h0
    have hp := erase_perm hi
    have hnd := hp.nodup_iff.mpr hf
    obtain ⟨hn1, hn2⟩ := List.nodup_cons.mp hnd
    obtain ⟨i1, i2⟩ := drawn_names xs (f.eraseIdx (x % f.length)) hn2 (by rw [List.length_eraseIdx_of_lt hi]; simp at hl; lia)
    have hg : f.getD (x % f.length) 0 = f[x % f.length] := by simp [List.getD_eq_getElem?_getD, hi]
    refine ⟨?_, fun w hw => ?_⟩
    · show (f.getD (x % f.length) 0 :: (drawn (f.eraseIdx (x % f.length)) xs).map (·.2)).Nodup
      refine List.nodup_cons.mpr ⟨fun hm => ?_, i1⟩
      obtain ⟨w, hw, e⟩ := List.mem_map.mp hm
      have := i2 w hw
      rw [e, hg] at this
      exact hn1 this
    · rcases List.mem_cons.mp hw with rfl | hw
      · show f.getD _ 0 ∈ f
        rw [hg]; exact List.getElem_mem hi
      · exact List.mem_of_mem_eraseIdx (i2 w hw)
theorem words_nd {xs : List Nat} (hl : xs.length ≤ 6) : ((drawn six0 xs).map (·.2)).Nodup := (drawn_names xs six0 (by decide) (by simpa [six0] using hl)).1
theorem colBound : ((List.range 3).all fun a => (List.range 2).all fun b => (List.range 3).all fun c => (List.range 2).all fun d => (List.range 4).all fun e => (List.range 5).all fun ts => decide (ts < 2) || decide (colL ts (List.replicate a 32 ++ List.replicate b 9 ++ List.replicate c 32 ++ List.replicate d 9 ++ List.replicate e 32) 0 ≤ 11)) = true := by decide +kernel
theorem leadOk (x : Nat) : LeadOk (leadL x) := fun ch h => by
  unfold leadL at h
  simp only [List.mem_append, List.mem_replicate] at h
  lia
theorem lead_col (x : Nat) {ts : Nat} (h2 : 2 ≤ ts) (h4 : ts ≤ 4) : colL ts (leadL x) 0 ≤ 11 := by
  have h := colBound
  have h1 := List.all_eq_true.mp h (x / 6 % 3) (List.mem_range.mpr (Nat.mod_lt _ (by lia)))
  have h1 := List.all_eq_true.mp h1 (x / 6 / 3 % 2) (List.mem_range.mpr (Nat.mod_lt _ (by lia)))
  have h1 := List.all_eq_true.mp h1 (x / 6 / 6 % 3) (List.mem_range.mpr (Nat.mod_lt _ (by lia)))
  have h1 := List.all_eq_true.mp h1 (x / 6 / 18 % 2) (List.mem_range.mpr (Nat.mod_lt _ (by lia)))
  have h1 := List.all_eq_true.mp h1 (x / 6 / 36 % 4) (List.mem_range.mpr (Nat.mod_lt _ (by lia)))
  have h1 := List.all_eq_true.mp h1 ts (List.mem_range.mpr (by lia))
  rw [decide_eq_false (by lia), Bool.false_or] at h1
  exact of_decide_eq_true h1
theorem drawn_lead : ∀ (xs f : List Nat), ∀ w ∈ drawn f xs, ∃ x ∈ xs, w.1 = leadL x
  | [], f, w, h => by cases h
  | x :: xs, f, w, h => by
    rcases List.mem_cons.mp h with rfl | h
    · exact ⟨x, List.mem_cons_self .., rfl⟩
    · obtain ⟨y, hy, e⟩ := drawn_lead xs _ w h
      exact ⟨y, List.mem_cons_of_mem _ hy, e⟩
theorem words_ok {xs : List Nat} {ts : Nat} (hl : xs.length ≤ 6) (hx : ∀ x ∈ xs, x < 5184) (h2 : 2 ≤ ts) (h4 : ts ≤ 4) : ∀ w ∈ drawn six0 xs, WOk ts 0 w := fun w hw => by
  obtain ⟨x, _, e⟩ := drawn_lead xs six0 w hw
  refine ⟨by rw [e]; exact leadOk x, by rw [e]; exact leadL_len x, (drawn_names xs six0 (by decide) (by simpa [six0] using hl)).2 w hw, by rw [e]; exact lead_col x h2 h4⟩
/-! ### the words are read -/
theorem sgnF : (isWs (sgn 10) && isWs (sgn 32) && isWs (sgn 9) && !isWs (sgn 34) && !isWs (sgn 92)) = true := by decide +kernel
theorem qS_eq : qS = sgn 34 := by decide +kernel
theorem bsS_eq : bsS = sgn 92 := by decide +kernel
theorem inQuote_lead : ∀ (l : List Nat) (a : Nat) (more : List Nat) (t : List Nat), LeadOk l → inQuote false ((l ++ 92 :: a :: 34 :: more).map sgn) (lS t) = (lS (t ++ l ++ [a]), more.map sgn)
  | [], a, more, t, _ => by
    show inQuote false (sgn 92 :: sgn a :: sgn 34 :: more.map sgn) (lS t) = _
    rw [inQuote, qS_eq, bsS_eq, sgn_beq, sgn_beq, if_neg (by decide), if_pos (by decide), inQuote, inQuote, qS_eq, sgn_beq, if_pos (by decide)]
    rw [show sgn a = lS [a] from rfl, lS_app]; simp
  | ch :: l, a, more, t, h => by
    have hc := h ch (List.mem_cons_self ..)
    show inQuote false (sgn ch :: (l ++ 92 :: a :: 34 :: more).map sgn) (lS t) = _
    rw [inQuote, qS_eq, bsS_eq, sgn_beq, sgn_beq, if_neg (by simp; lia), if_neg (by simp; lia), show sgn ch = lS [ch] from rfl, lS_app]
    rw [inQuote_lead l a more (t ++ [ch]) fun x hx => h x (List.mem_cons_of_mem _ hx)]
    simp
theorem inPlain_all : ∀ (l : List Nat) (sep : Nat) (more : List Nat) (t : List Nat), isWs (sgn sep) = true → inPlain false (((l.flatMap fun ch => [92] ++ [ch]) ++ sep :: more).map sgn) (lS t) = (lS (t ++ l), more.map sgn)
  | [], sep, more, t, h => by
    show inPlain false (sgn sep :: more.map sgn) (lS t) = _
    rw [inPlain, if_pos h]; simp
  | ch :: l, sep, more, t, h => by
    have f : isWs (sgn 92) = false := by have := sgnF; simp only [Bool.and_eq_true, Bool.not_eq_true'] at this; exact this.2
    show inPlain false (sgn 92 :: sgn ch :: ((l.flatMap fun ch => [92] ++ [ch]) ++ sep :: more).map sgn) (lS t) = _
    rw [inPlain, if_neg (by rw [f]; decide), bsS_eq, if_pos (by simp), inPlain, show sgn ch = lS [ch] from rfl, lS_app, inPlain_all l sep more (t ++ [ch]) h]
    simp
theorem ws_sep (x : Nat) : isWs (sgn ([10, 32, 9].getD (x / 1728) 0)) = true ∨ ¬ x < 5184 := by
  have := sgnF
  simp only [Bool.and_eq_true, Bool.not_eq_true'] at this
  obtain ⟨⟨⟨⟨h1, h2⟩, h3⟩, _⟩, _⟩ := this
  by_cases hx : x < 5184
  · left
    have hk : x / 1728 < 3 := by lia
    generalize x / 1728 = k at hk
    match k, hk with
    | 0, _ => exact h1
    | 1, _ => exact h2
    | 2, _ => exact h3
  · exact .inr hx
/-- a word is read off; what stands ahead may be one blank, what stands behind loses at most its end -/
theorem getTok_enc {w : Wd} {x : Nat} {more : List Nat} (hw : LeadOk w.1) (hx : x < 5184) : ∃ sep : List Nat, sep.length ≤ 1 ∧ (∀ s ∈ sep, isWs (sgn s) = true) ∧ getTok ((encW w x ++ more).map sgn) = (wS w, (sep ++ more).map sgn) := by
  have hs : isWs (sgn ([10, 32, 9].getD (x / 1728) 0)) = true := (ws_sep x).resolve_right (fun h => h hx)
  have hF := sgnF
  simp only [Bool.and_eq_true, Bool.not_eq_true'] at hF
  unfold encW
  generalize [10, 32, 9].getD (x / 1728) 0 = sep at hs
  split
  · refine ⟨[sep], by simp, by simpa using hs, ?_⟩
    have e : ([34] ++ w.1 ++ [92] ++ [w.2] ++ [34] ++ [sep] ++ more) = 34 :: (w.1 ++ 92 :: w.2 :: 34 :: (sep :: more)) := by simp
    rw [e, List.map_cons, getTok, if_neg (by rw [hF.1.2]; decide), qS_eq, if_pos (by simp), show eS = lS [] from eSl, inQuote_lead _ _ _ _ hw]
    simp [wS]
  · refine ⟨[], by simp, by simp, ?_⟩
    obtain ⟨c, l, hcl⟩ : ∃ c l, w.1 ++ [w.2] = c :: l := by
      cases h : w.1 ++ [w.2] with
      | nil => simp at h
      | cons c l => exact ⟨c, l, rfl⟩
    have e : ((w.1 ++ [w.2]).flatMap fun ch => [92] ++ [ch]) ++ [sep] ++ more = 92 :: c :: ((l.flatMap fun ch => [92] ++ [ch]) ++ sep :: more) := by
      rw [hcl]; simp
    rw [e, List.map_cons, List.map_cons, getTok, if_neg (by rw [hF.2]; decide), qS_eq, bsS_eq, sgn_beq, if_neg (by decide), if_pos (by simp), inPlain, show eS = lS [] from eSl, show sgn c = lS [c] from rfl, lS_app, inPlain_all _ _ _ _ hs]
    show (lS ([] ++ [c] ++ l), _) = _
    rw [show wS w = lS (w.1 ++ [w.2]) from rfl, hcl]
    simp
theorem getTok_skip : ∀ (sep : List Nat) (r : List Nat), (∀ s ∈ sep, isWs (sgn s) = true) → getTok ((sep ++ r).map sgn) = getTok (r.map sgn)
  | [], r, _ => rfl
  | s :: sep, r, h => by
    show getTok (sgn s :: (sep ++ r).map sgn) = _
    rw [getTok, if_pos (h s (List.mem_cons_self ..)), getTok_skip sep r fun x hx => h x (List.mem_cons_of_mem _ hx)]
theorem reads_sep : ∀ (ws : List Wd) (xs : List Nat) (sep : List Nat), (∀ w ∈ ws, LeadOk w.1 ∧ w.1.length ≤ 9 ∧ w.2 ∈ six0) → (∀ x ∈ xs, x < 5184) → xs.length = ws.length → ws.length ≤ 6 → sep.length ≤ 1 → (∀ s ∈ sep, isWs (sgn s) = true) → Reads ((sep ++ textL ws xs).map sgn) ws
  | [], xs, sep, _, _, he, _, hs1, hs2 => by
    have : textL [] xs = [] := by cases xs <;> rfl
    rw [this]
    refine .nil (by simp; lia) (fun ch hc => by obtain ⟨_, _, rfl⟩ := List.mem_map.mp hc; rfl) ?_
    rw [getTok_skip sep [] hs2]; rfl
  | w :: ws, [], sep, _, _, he, _, _, _ => by cases he
  | w :: ws, x :: xs, sep, hw, hx, he, hl, hs1, hs2 => by
    obtain ⟨sep', s1, s2, e⟩ := getTok_enc (w := w) (x := x) (more := textL ws xs) (hw w (List.mem_cons_self ..)).1 (hx x (List.mem_cons_self ..))
    have ih := reads_sep ws xs sep' (fun v hv => hw v (List.mem_cons_of_mem _ hv)) (fun y hy => hx y (List.mem_cons_of_mem _ hy)) (by simpa using he) (by simp at hl; lia) s1 s2
    have htl := textL_len (ws := w :: ws) (xs := x :: xs) fun v hv => (hw v hv).2.1
    refine .cons ?_ (fun ch hc => by obtain ⟨_, _, rfl⟩ := List.mem_map.mp hc; rfl) ?_ ih
    · rw [List.length_map, List.length_append]; lia
    · rw [getTok_skip sep _ hs2]; exact e
theorem reads_text {ws : List Wd} {xs : List Nat} (hw : ∀ w ∈ ws, LeadOk w.1 ∧ w.1.length ≤ 9 ∧ w.2 ∈ six0) (hl : ws.length ≤ 6) (hx : ∀ x ∈ xs, x < 5184) (he : xs.length = ws.length) : Reads ((textL ws xs).map sgn) ws :=
  reads_sep ws xs [] hw hx he hl (by simp) (by simp)
/-! ### the leads -/
noncomputable def wsL : WsSt → List Nat → WsSt
  | w, [] => w
  | w, ch :: l => wsL (wsStep w (sgn ch)) l
theorem wsRun_wsL (a : Nat) (ha : a ≠ 32 ∧ a ≠ 9) : ∀ (l : List Nat) (w : WsSt), LeadOk l → wsRun w ((l ++ [a]).map sgn) = wsL w l
  | [], w, _ => by
    show wsRun w [sgn a] = w
    unfold wsRun
    rw [if_neg (by rw [spS_eq, tabS_eq, sgn_beq, sgn_beq]; simp [ha.1, ha.2])]
  | ch :: l, w, h => by
    show wsRun w (sgn ch :: (l ++ [a]).map sgn) = _
    rw [wsRun, if_pos (by rw [spS_eq, tabS_eq, sgn_beq, sgn_beq]; rcases h ch (List.mem_cons_self ..) with rfl | rfl <;> rfl)]
    exact wsRun_wsL a ha l _ fun x hx => h x (List.mem_cons_of_mem _ hx)
theorem wsL_app : ∀ (l r : List Nat) (w : WsSt), wsL w (l ++ r) = wsL (wsL w l) r
  | [], r, w => rfl
  | ch :: l, r, w => wsL_app l r _
theorem wsL_rep : ∀ (d : Nat) (w : WsSt), wsL w (List.replicate d 32) = ⟨w.count, w.b + d, w.n + d, w.nt⟩
  | 0, w => rfl
  | d + 1, w => by
    rw [List.replicate_succ, wsL]
    have e : wsStep w (sgn 32) = ⟨w.count, w.b + 1, w.n + 1, w.nt⟩ := by unfold wsStep; rw [if_pos (by rw [spS_eq]; simp)]
    rw [e, wsL_rep d]
    simp only
    congr 1 <;> lia
theorem ws_grown {w : Wd} {d : Nat} (hw : LeadOk w.1) (ha : w.2 ≠ 32 ∧ w.2 ≠ 9) : wsOf (wS (grown w d)) = ⟨(wsOf (wS w)).count, (wsOf (wS w)).b + d, (wsOf (wS w)).n + d, (wsOf (wS w)).nt⟩ := by
  have h1 : wsOf (wS w) = wsL ⟨[], 0, 0, 0⟩ w.1 := by
    unfold wsOf wS; rw [sgns_lS]; exact wsRun_wsL w.2 ha w.1 _ hw
  have h2 : wsOf (wS (grown w d)) = wsL ⟨[], 0, 0, 0⟩ (w.1 ++ List.replicate d 32) := by
    unfold wsOf wS; rw [sgns_lS]
    refine wsRun_wsL w.2 ha (w.1 ++ List.replicate d 32) _ fun ch hc => ?_
    rcases List.mem_append.mp hc with q | q
    · exact hw ch q
    · exact .inl (List.eq_of_mem_replicate q)
  rw [h2, wsL_app, wsL_rep, ← h1]
theorem indent_more (w : WsSt) (d n ts : Nat) : indentOf ⟨w.count, w.b + d, n, w.nt⟩ ts = indentOf w ts + d := by
  unfold indentOf
  have : ∀ m, ilN ⟨w.count, w.b + d, n, w.nt⟩ ts m = ilN w ts m := fun m => by
    induction m with
    | zero => rfl
    | succ m ih => unfold ilN; rw [ih]
  rw [this]; dsimp only; lia
theorem less_grown {w : Wd} {d : Nat} (hw : LeadOk w.1) (ha : w.2 ≠ 32 ∧ w.2 ≠ 9) : lessOf (wsOf (wS w)) (wsOf (wS (grown w d))) = decide (d ≠ 0) := by
  rw [ws_grown hw ha]
  generalize wsOf (wS w) = v
  unfold lessOf
  dsimp only
  by_cases hd : d = 0
  · subst hd
    rw [if_pos (by lia)]; rfl
  · rw [if_neg (by lia), show decide (d ≠ 0) = true from decide_eq_true hd]
    split
    · exact decide_eq_true (Nat.le_refl _)
    · refine List.all_eq_true.mpr fun k _ => ?_
      rw [indent_more]
      exact decide_eq_true (by lia)
theorem equal_grown {w : Wd} {d : Nat} (hw : LeadOk w.1) (ha : w.2 ≠ 32 ∧ w.2 ≠ 9) : ((wsOf (wS w)).count == (wsOf (wS (grown w d))).count && (wsOf (wS w)).b == (wsOf (wS (grown w d))).b) = decide (d = 0) := by
  rw [ws_grown hw ha]
  rw [Bool.eq_iff_iff]
  simp
theorem wS_grown {w : Wd} {d : Nat} : (wS w == wS (grown w d)) = decide (d = 0) := by
  rw [Bool.eq_iff_iff]
  simp only [beq_iff_eq, decide_eq_true_eq]
  constructor
  · intro e
    have := congrArg Str.length e
    rw [show wS w = lS (w.1 ++ [w.2]) from rfl, show wS (grown w d) = lS (w.1 ++ List.replicate d 32 ++ [w.2]) from rfl, lS_len, lS_len] at this
    simp at this; lia
  · rintro rfl
    show lS (w.1 ++ [w.2]) = lS (w.1 ++ List.replicate 0 32 ++ [w.2])
    simp
theorem count_nl (t : List Nat) : Txt.count (lS t) (Str.ofString "\n") = nls (t.map sgn) := by
  rw [show Str.ofString "\n" = ⟨#[10]⟩ by decide +kernel, count_cnt]
  unfold nls
  rw [show nlS = sgn 10 by decide +kernel]
  show cnt 10 t = _
  induction t with
  | nil => rfl
  | cons a t ih =>
    rw [cnt_cons, ih, List.map_cons, List.filter_cons, sgn_beq]
    by_cases h : a = 10
    · subst h; simp; lia
    · rw [if_neg h, if_neg (by simpa using h)]; lia
theorem light_self : (six0.all fun a => (Float64.cmp (satOf (rk a)) (satOf (rk a)) == some Ordering.eq) && (Float64.cmp (valOf (rk a)) (valOf (rk a)) == some Ordering.eq)) = true := by decide +kernel
end

section
set_option maxHeartbeats 1000000
section
variable {c : Cx} {n : Nat} {H : Addr → Option AO} {P : Params} {L : LexA}
theorem entA_dat (ts : Nat) {w : Wd} (h : w.2 ∈ six0) : datB 1 (entA ts w) = true := by
  have h1 := List.all_eq_true.mp light_self w.2 h
  simp only [Bool.and_eq_true] at h1
  have h2 := hue_eq (placeOf_lt ts w) (placeOf_lt ts w)
  unfold entA
  simp only [datB, List.all_cons, List.all_nil, Bool.and_true, Bool.and_eq_true]
  exact ⟨by simpa using h2, h1.1, h1.2⟩
theorem LexAt.kept {K : Frag} {H' : Addr → Option AO} {ln : Int} {rest : List Str} {pb : List AV} {zs : List Addr} (X : LexAt K L H ln rest pb) (s : Same zs H H') (hz : ∀ a ∈ L.all, a ∉ zs) : LexAt K L H' ln rest pb := by
  obtain ⟨p, b, sc, qual, pm, ctv, oc, vs, t, e, e1, e2, e3, e4⟩ := X.lam
  have m : ∀ {i : Nat} (hi : i < 10), L.all[i]'hi ∉ zs := fun hi => hz _ (List.getElem_mem _)
  exact ⟨X.nd, s _ _ (m (i := 0) (by decide)) X.x, s _ _ (m (i := 1) (by decide)) X.dx, s _ _ (m (i := 2) (by decide)) X.pb, s _ _ (m (i := 3) (by decide)) X.si, s _ _ (m (i := 4) (by decide)) X.dsi,
    ⟨p, b, sc, qual, pm, ctv, oc, vs, t, e, s _ _ (m (i := 6) (by decide)) e1, s _ _ (m (i := 9) (by decide)) e2, e3, e4⟩, s _ _ (m (i := 7) (by decide)) X.ce, s _ _ (m (i := 8) (by decide)) X.sg, s _ _ (m (i := 5) (by decide)) X.sp⟩
theorem filtOne : ∀ {ws : List Wd} {w : Wd}, w ∈ ws → (ws.map (·.2)).Nodup → (ws.filter fun v => v.2 == w.2) = [w]
  | [], w, h, _ => by cases h
  | u :: ws, w, h, hd => by
    rw [List.map_cons, List.nodup_cons] at hd
    rw [List.filter_cons]
    rcases List.mem_cons.mp h with rfl | h
    · rw [if_pos (by simp)]
      have : (ws.filter fun v => v.2 == w.2) = [] := by
        rw [List.filter_eq_nil_iff]
        intro v hv q
        exact hd.1 (List.mem_map.mpr ⟨v, hv, by simpa using q⟩)
      rw [this]
    · rw [if_neg, filtOne h hd.2]
      intro q
      exact hd.1 (List.mem_map.mpr ⟨w, h, by simpa using (beq_iff_eq.mp q).symm⟩)
noncomputable def QAt (P : Params) (L : LexA) (H : Addr → Option AO) (N : Int) (pb ws : List Wd) : Prop := ∃ ln rest, LexAt (KL P) L H ln rest (pb.map wA) ∧ Reads rest ws ∧ ln + nls rest = N
theorem sp_getQ {N : Int} {pb ws : List Wd} {Q : AV → (Addr → Option AO) → Prop} (G : Good c (KL P)) (hc : csOk (KL P) = true) (X : QAt P L H N pb ws) (hpb : pb.length ≤ 1000) (hne : pb ++ ws ≠ [])
    (h1 : ∀ w pb' ws', (pb = w :: pb' ∧ ws' = ws ∨ pb = [] ∧ pb' = [] ∧ ws = w :: ws') → ∀ H', Same [L.SG, L.DX, L.PB] H H' → QAt P L H' N pb' ws' → Q (wA w) H') :
    CallC c (n + 5) H (.ref 90) [.obj (.ref L.X)] [] [] Q := by
  obtain ⟨ln, rest, X, hr, hN⟩ := X
  refine sp_get G hc X hr hN hpb (fun a b => absurd (by rw [a, b]; rfl) hne) fun w pb' ws' hh H' ln' rest' s X' hr' hN' => h1 w pb' ws' hh H' s ⟨ln', rest', X', hr', hN'⟩
theorem QAt.put {N : Int} {pb ws : List Wd} {F : Addr} {o : AO} (X : QAt P L H N pb ws) (hF : H F = none) : QAt P L (setH H F o) N pb ws := by
  obtain ⟨ln, rest, X, hr, hN⟩ := X
  exact ⟨ln, rest, X.put (X.notMem hF), hr, hN⟩
theorem notLex {a : Addr} (h : a ∉ L.all) : a ∉ [L.SG, L.DX, L.PB] := fun q => h (by
  simp only [List.mem_cons, List.not_mem_nil, or_false] at q
  simp only [LexA.all, List.mem_cons]
  rcases q with rfl | rfl | rfl <;> simp)
theorem queue_step {pb ws pb' ws' : List Wd} {w : Wd} {i : Nat} (hi : i < (pb ++ ws).length) (h : pb.drop i = w :: pb' ∧ ws' = ws.drop (i - pb.length) ∨ pb.drop i = [] ∧ pb' = [] ∧ ws.drop (i - pb.length) = w :: ws') :
    (pb ++ ws)[i]? = some w ∧ pb' = pb.drop (i + 1) ∧ ws' = ws.drop (i + 1 - pb.length) := by
  rcases h with ⟨h1, rfl⟩ | ⟨h1, rfl, h2⟩
  · have hlt : i < pb.length := by
      rcases Nat.lt_or_ge i pb.length with q | q
      · exact q
      · rw [List.drop_eq_nil_iff.mpr q] at h1; cases h1
    rw [List.drop_eq_getElem_cons hlt] at h1
    cases h1
    refine ⟨?_, rfl, ?_⟩
    · rw [List.getElem?_append_left hlt, List.getElem?_eq_getElem hlt]
    · rw [show i - pb.length = 0 by lia, show i + 1 - pb.length = 0 by lia]
  · have hge : pb.length ≤ i := List.drop_eq_nil_iff.mp h1
    have hlt : i - pb.length < ws.length := by simp at hi; lia
    rw [List.drop_eq_getElem_cons hlt] at h2
    cases h2
    refine ⟨?_, (List.drop_eq_nil_iff.mpr (by lia)).symm, ?_⟩
    · rw [List.getElem?_append_right hge, List.getElem?_eq_getElem hlt]
    · rw [show i + 1 - pb.length = i - pb.length + 1 by lia]
theorem lkDrop {l r : List (Str × AV)} {t h x : Str} {u v a : AV} (hth : t ≠ h) (e : lk (l ++ [(h, v)]) x = some a) : lk (l ++ (t, u) :: (h, v) :: r) x = some a := by
  induction l with
  | nil =>
    simp only [List.nil_append, lk] at e ⊢
    by_cases q : x = h
    · subst q; rw [if_neg (Ne.symm hth)]; simpa using e
    · rw [if_neg q] at e; cases e
  | cons p l ih =>
    simp only [List.cons_append, lk] at e ⊢
    by_cases q : x = p.1
    · rw [if_pos q] at e ⊢; exact e
    · rw [if_neg q] at e ⊢; exact ih e
theorem kOf (total : Int) (m : Nat) : ∃ K : Nat, (total.fdiv 3).fmod ((m : Int) + 1) = (K : Int) ∧ K ≤ m := by
  have h1 := Int.fmod_nonneg_of_pos (total.fdiv 3) (b := (m : Int) + 1) (by lia)
  have h2 := Int.fmod_lt_of_pos (total.fdiv 3) (b := (m : Int) + 1) (by lia)
  exact ⟨((total.fdiv 3).fmod ((m : Int) + 1)).toNat, by lia, by lia⟩
noncomputable def lawLoc (D E1 E2 : Addr) (tx : Str) (total : Int) (ts : Nat) (x : Addr) (r : List (Str × AV)) : List (Str × AV) :=
  (Str.ofString "script", AV.obj (.ref D)) :: (Str.ofString "numbers", AV.obj (.ref E1)) :: (Str.ofString "words", AV.obj (.ref E2)) :: (Str.ofString "text", AV.str tx) :: (Str.ofString "total", AV.int total) :: (Str.ofString "size", nI ts) :: (Str.ofString "lexer", AV.obj (.ref x)) :: r
inductive LawA (P : Params) (L : LexA) (N : Int) (ps : Array Value) (ws : List Wd) (K : Nat) (E2 : Addr) (l1 : Addr → List (Str × AV)) (f : AF) (σ : St) : Prop
  | mk (F : Addr) : f = .next → σ.loc = l1 F → σ.H E2 = some (.list (ws.map wA)) → (∃ o, TabX ps o ∧ σ.H 189 = some (.raw o)) → σ.H F = some (.list ((ws.take K).map wA)) → F ∉ L.all → QAt P L σ.H N (ws.take K) (ws.drop K) → LawA P L N ps ws K E2 l1 f σ
inductive LawI (P : Params) (L : LexA) (N : Int) (ps : Array Value) (ws : List Wd) (K : Nat) (E2 : Addr) (l0 : List (Str × AV)) (l1 : Addr → List (Str × AV)) (t : Nat) (σ : St) : Prop
  | mk (pb wr : List Wd) : pb ++ wr = ws → pb.length ≤ K → QAt P L σ.H N pb wr → σ.H E2 = some (.list (ws.map wA)) → (∃ o, TabX ps o ∧ σ.H 189 = some (.raw o)) → (t < 2 → σ.loc = l0) → (t = 2 → pb = ws.take K ∧ ∃ F, σ.loc = l1 F ∧ σ.H F = some (.list ((ws.take K).map wA)) ∧ F ∉ L.all) → LawI P L N ps ws K E2 l0 l1 t σ
inductive LawP (P : Params) (L : LexA) (N : Int) (ws : List Wd) (K : Nat) (H2 : Addr → Option AO) (l : List (Str × AV)) (j : Nat) (σ : St) : Prop
  | mk : σ.loc = l → Same [L.SG, L.DX, L.PB] H2 σ.H → QAt P L σ.H N ((ws.take K).take j) (ws.drop K) → LawP P L N ws K H2 l j σ
inductive LawC (P : Params) (L : LexA) (N : Int) (oT : Obj) (ws r : List Wd) (E2 R : Addr) (ts : Nat) (l : List (Str × AV)) (b : Bool) (σ : St) : Prop
  | mk : b = false → σ.loc = l → σ.H E2 = some (.list (ws.map wA)) → σ.H R = some (.list (r.map (entA ts))) → LexAt (KL P) L σ.H N [] [] → (∃ T', σ.H 189 = some (.ghost oT T')) → (∃ us gs, us.Perm ws ∧ dueL ts [] us = some gs ∧ r.Perm gs) → LawC P L N oT ws r E2 R ts l b σ
inductive LawF (P : Params) (L : LexA) (N : Int) (oT : Obj) (T' : Nat) (l : List (Str × AV)) (f : AF) (σ : St) : Prop
  | mk : f = .next → LexAt (KL P) L σ.H N [] [] → σ.H 189 = some (.ghost oT T') → σ.loc = l → LawF P L N oT T' l f σ
inductive LawJ (P : Params) (L : LexA) (N : Int) (oT : Obj) (T' : Nat) (ws : List Wd) (E2 : Addr) (l : List (Str × AV)) (j : Nat) (σ : St) : Prop
  | mk : σ.loc = l → σ.H E2 = some (.list (ws.map wA)) → LexAt (KL P) L σ.H N [] [] → σ.H 189 = some (.ghost oT T') → LawJ P L N oT T' ws E2 l j σ
set_option maxHeartbeats 8000000 in
theorem sp_law {l : List Int} {D : Addr} {ps : Array Value} {Q : AV → (Addr → Option AO) → Prop} (G : Good c (KL P)) (hc : csOk (KL P) = true) (hP : ∀ b, ¬ c.P b) (N : NewFn c 189) (C : CodeHd c.B 191 189) (hT : H 189 = some (.raw (tabObj ps))) (ht : TriplesOk ps.toList) (hnf : codeAmong { line := 218, col := 18, endLine := 218, endCol := 66 } ps.toList = none)
    (hD : ListAt c ⟨H, []⟩ D (l.map .int)) (hl : l.length ≤ 63)
    (h : ∀ H' o T, TabX ps o → H' 189 = some (.ghost o T) → Q (.bool true) H') : CallT c (n + 30) H (.ref 237) [.obj (.ref D)] Q := by
  refine callTop (x₁ := Str.ofString "script") G rfl rfl (fun vs hvs => by obtain ⟨v, rfl⟩ := len1 hvs; rfl) rfl (by dsimp only) (by dsimp only) (by decide +kernel) fun env' S => ?_
  repeat walk_at "my_step"
  refine (sp_numbers (G := G) hD hl fun E1 H1 s1 hE1 e1 => ?_).S
  rw [numsN_eq] at e1
  have hxl := numsN_len l
  have hxlt := numsN_lt l
  generalize numsN l = xs at e1 hxl hxlt
  have hT1 := s1 _ _ (by simp) hT
  repeat walk_at "my_step"
  refine (sp_words (G := G) e1 hxl.2 fun E2 H2 s2 hE2 e2 => ?_).S
  have e1' := s2 _ _ (by simp) e1
  have hT2 := s2 _ _ (by simp) hT1
  have hne12 : E2 ≠ E1 := neOf hE2 e1
  repeat walk_at "my_step"
  have hwsl := drawn_len xs six0
  have hwok := fun {ts : Nat} h2 h4 => words_ok (xs := xs) (ts := ts) hxl.2 hxlt h2 h4
  have hwnd := words_nd hxl.2
  have hw9 : ∀ w ∈ drawn six0 xs, LeadOk w.1 ∧ w.1.length ≤ 9 ∧ w.2 ∈ six0 := fun w hw => let k := hwok (ts := 2) (by lia) (by lia) w hw; ⟨k.lead, by have := k.len; lia, k.nm⟩
  have hread := reads_text (ws := drawn six0 xs) (xs := xs) hw9 (by lia) hxlt hwsl.symm
  have htl : (textL (drawn six0 xs) xs).length ≤ 126 := Nat.le_trans (textL_len fun w hw => (hw9 w hw).2.1) (by lia)
  generalize hws : drawn six0 xs = ws at *
  refine (sp_text (G := G) hP e2 e1' hne12 (fun w hw => (hw9 w hw).2.1) (by lia) hxlt hwsl.symm fun H3 s3 => ?_).S
  have e1'' := s3 _ _ (by simp) e1'
  have e2' := s3 _ _ (by simp) e2
  have hT3 := s3 _ _ (by simp) hT2
  clear e1 e1' e2 hT2 hT1 hT s1 s2 s3
  repeat walk_at "my_step"
  rw [show xs.map nI = (xs.map fun x : Nat => (x : Int)).map AV.int by rw [List.map_map]; rfl] at e1''
  refine cSum e1'' fun total => ?_
  repeat walk_at "my_step"
  obtain ⟨ts, hts, ht2, ht4⟩ : ∃ ts : Nat, 2 + total.fmod 3 = (ts : Int) ∧ 2 ≤ ts ∧ ts ≤ 4 := by
    have h1 := Int.fmod_nonneg_of_pos total (b := 3) (by lia)
    have h2 := Int.fmod_lt_of_pos total (b := 3) (by lia)
    exact ⟨(2 + total.fmod 3).toNat, by lia, by lia, by lia⟩
  rw [hts]
  refine (sp_lexer (G := G) N C hT3 ht hnf (by lia) fun L H4 s4 hLn X4 hT4 => ?_).S
  have hE2L : E2 ∉ L.all := fun q => by have := hLn _ q; rw [e2'] at this; cases this
  have h189 : E2 ≠ 189 := fun q => by rw [q, hT3] at e2'; cases e2'
  have e4 := s4 _ _ (by simpa using h189) e2'
  obtain ⟨K, hK, hKl⟩ := kOf total ws.length
  have hTL : ∀ a ∈ L.all, a ≠ 189 := fun a ha q => by subst q; have := hLn _ ha; rw [hT3] at this; cases this
  repeat walk_at "my_sn"
  refine sCons ?_
  refine Tr.mono (Q := LawA P L (1 + nls ((textL ws xs).map sgn)) ps ws K E2 (fun F => lawLoc D E1 E2 (lS (textL ws xs)) total ts L.X [(Str.ofString "heard", AV.obj (.ref F))])) ?_ ?_
  · refine sFor (iRangeN ?_) (fun _ => rfl)
    repeat walk_at "my_step"
    refine cRange1 ?_
    refine ⟨0, 2, rfl, by lia, by lia, LawI P L (1 + nls ((textL ws xs).map sgn)) ps ws K E2 (lawLoc D E1 E2 (lS (textL ws xs)) total ts L.X []) (fun F => lawLoc D E1 E2 (lS (textL ws xs)) total ts L.X [(Str.ofString "heard", AV.obj (.ref F))]), ?_, ?_, ?_⟩
    · exact ⟨[], ws, rfl, by simp, ⟨1, _, X4, hread, rfl⟩, e4, hT4, fun _ => rfl, fun q => by cases q⟩
    · rintro t a ⟨σH, σl⟩ ha ⟨pb, wr, hq, hpk, X, eW, eT, hloc, _⟩
      dsimp only at X eW eT hloc
      rw [List.getElem?_map] at ha
      obtain ⟨t', ht', rfl⟩ := Option.map_eq_some_iff.mp ha
      obtain ⟨hk1, hk2⟩ := List.getElem?_eq_some_iff.mp ht'
      rw [List.getElem_range] at hk2
      subst hk2
      rw [List.length_range] at hk1
      have e0 := hloc hk1
      subst e0
      have hql : (pb ++ wr).length = ws.length := by rw [hq]
      refine aName' (by assumption) (by decide +kernel) ⟨(lawLoc D E1 E2 (lS (textL ws xs)) total ts L.X [(Str.ofString "turn", nI (0 + t))]), rfl, ?_⟩
      refine TF.drop ?_
      refine sCons ?_
      refine sComp S rfl rfl ⟨_, rfl⟩ ?_ (fun _ => rfl)
      refine iRangeN ?_
      repeat walk_at "my_step"
      refine cLenL (.inl eW) (by simp; lia) ?_
      rw [List.length_map]
      repeat walk_at "my_step"
      rw [hK]
      refine cRange1 ?_
      refine ⟨0, K, rfl, by lia, by lia, by rw [sizeLine_eq]; simp; lia, fun i ys H2 => Same [L.SG, L.DX, L.PB] σH H2 ∧ ys = ((pb ++ wr).take i).map wA ∧ QAt P L H2 (1 + nls ((textL ws xs).map sgn)) (pb.drop i) (wr.drop (i - pb.length)), ⟨Same.refl, by simp, by simpa using X⟩, ?_, ?_⟩
      · rintro env₂ S₂ i a ys H2 ha hlen ⟨s2, rfl, X2⟩
        rw [List.getElem?_map] at ha
        obtain ⟨i', hi', rfl⟩ := Option.map_eq_some_iff.mp ha
        obtain ⟨hj1, hj2⟩ := List.getElem?_eq_some_iff.mp hi'
        rw [List.getElem_range] at hj2
        subst hj2
        rw [List.length_range] at hj1
        dsimp only
        have hcap : captOf [(Str.ofString ".0", NameKind.local), (Str.ofString "k", NameKind.local), (Str.ofString "lexer", NameKind.free)] (lawLoc D E1 E2 (lS (textL ws xs)) total ts L.X [(Str.ofString "turn", nI (0 + t))]) = [(Str.ofString "lexer", .obj (.ref L.X))] :=
          capL (capL (capF (by walk_at "my_lk") rfl))
        rw [hcap]
        replace S₂ : Sc env₂ [(Str.ofString ".0", NameKind.local), (Str.ofString "k", NameKind.local), (Str.ofString "lexer", NameKind.cell)] _ := S₂
        clear S
        refine aName' (by assumption) (by decide +kernel) ⟨_, by walk_at "my_putx", ?_⟩
        refine tests0 ⟨fun _ => ?_, fun e => by cases e⟩
        obtain ⟨ln2, rest2, X2', hr2, hN2⟩ := id X2
        repeat walk_at "my_step"
        refine tMeth0 G ?_ rfl rfl
        repeat walk_at "my_step"
        refine ⟨_, 100, _, _, 90, rfl, rfl, rfl, rfl, ⟨X2'.x, X2'.dx⟩, by unfold lexFs; walk_at "my_lkN", rfl, (sp_getQ G hc X2 (by simp; lia) ?_ fun w pb' wr' hcs H5 s5 X5 => ?_).S⟩
        · intro q
          have := congrArg List.length q
          rw [List.length_append, List.length_drop, List.length_drop, List.length_nil] at this
          rw [List.length_append] at hql; lia
        · obtain ⟨hw1, rfl, rfl⟩ := queue_step (by rw [hq]; lia) hcs
          obtain ⟨hw2, hw3⟩ := List.getElem?_eq_some_iff.mp hw1
          have htk : (pb ++ wr).take (i + 1) = (pb ++ wr).take i ++ [w] := by rw [← hw3, List.take_append_getElem]
          refine ⟨fun x a e => lkApp (l := [(Str.ofString "lexer", .obj (.ref L.X))]) (r := [(Str.ofString "k", nI (0 + i))]) e, fun a o ha e => s5 a o ha (s2 a o ha e), by rw [htk, List.map_append]; rfl, X5⟩
      · rintro ys H2 F ⟨s2, rfl, X2⟩ hF hFB hne
        rw [List.length_map, List.length_range] at X2 ⊢
        refine ⟨fun _ _ => rfl, ?_⟩
        dsimp only [id]
        rw [hq, Nat.sub_zero]
        rw [Nat.sub_zero, List.drop_eq_nil_iff.mpr hpk] at X2
        have hwr : wr.drop (K - pb.length) = ws.drop K := by
          rw [← hq, List.drop_append, List.drop_eq_nil_iff.mpr hpk]; simp
        rw [hwr] at X2
        have eW2 := s2 _ _ (notLex hE2L) eW
        have h189L : (189 : Addr) ∉ L.all := fun q => hTL _ q rfl
        obtain ⟨oT, hoT, eT1⟩ := eT
        have eT2 := s2 _ _ (notLex h189L) eT1
        have hFW := neOf hF eW2
        have hFT := neOf hF eT2
        refine sCons ?_
        refine sFor (iList ?_) (fun _ => rfl)
        repeat walk_at "my_step"
        refine ⟨F, _, rfl, setH_self _ _ _, LawP P L (1 + nls ((textL ws xs).map sgn)) ws K H2 (lawLoc D E1 E2 (lS (textL ws xs)) total ts L.X [(Str.ofString "turn", nI (0 + t)), (Str.ofString "heard", AV.obj (.ref F))]), ?_, ?_, ?_⟩
        · dsimp only
          rw [remH_setH _ hF]
          exact ⟨rfl, Same.refl, by simpa using X2⟩
        · rintro j a ⟨τH, τl⟩ ha ⟨q0, q1, X3⟩
          dsimp only at q0 q1 X3
          subst q0
          rw [List.getElem?_map] at ha
          obtain ⟨w, hw1, rfl⟩ := Option.map_eq_some_iff.mp ha
          obtain ⟨hw2, hw3⟩ := List.getElem?_eq_some_iff.mp hw1
          have htk : (ws.take K).take (j + 1) = (ws.take K).take j ++ [w] := by rw [← hw3, List.take_append_getElem]
          obtain ⟨ln3, rest3, X3', hr3, hN3⟩ := X3
          refine aName' (by assumption) (by decide +kernel) ⟨(lawLoc D E1 E2 (lS (textL ws xs)) total ts L.X [(Str.ofString "turn", nI (0 + t)), (Str.ofString "heard", AV.obj (.ref F)), (Str.ofString "word", wA w)]), rfl, ?_⟩
          refine TF.drop ?_
          repeat walk_at "my_step"
          refine tMeth G ?_ rfl rfl rfl rfl rfl rfl
          repeat walk_at "my_step"
          refine ⟨_, 100, _, _, 97, rfl, rfl, rfl, rfl, ⟨X3'.x, X3'.dx⟩, by unfold lexFs; walk_at "my_lkN", rfl, ?_⟩
          repeat walk_at "my_step"
          refine (sp_push (G := G) X3' (by simp; lia) fun H5 s5 X5 => ?_).S
          repeat walk_at "my_step"
          dsimp only
          refine ⟨H5, (lawLoc D E1 E2 (lS (textL ws xs)) total ts L.X [(Str.ofString "turn", nI (0 + t)), (Str.ofString "heard", AV.obj (.ref F))]), fun _ _ e => e, fun _ _ e => lkApp (l := (lawLoc D E1 E2 (lS (textL ws xs)) total ts L.X [(Str.ofString "turn", nI (0 + t)), (Str.ofString "heard", AV.obj (.ref F))])) (r := [(Str.ofString "word", wA w)]) e, rfl, fun a o ha e => s5 a o (fun q => ha (by simp at q; simp [q])) (q1 a o ha e), ln3, rest3, by rw [htk, List.map_append]; exact X5, hr3, hN3⟩
        · rintro ⟨τH, τl⟩ ⟨q0, q1, X3⟩
          dsimp only at q0 q1 X3
          subst q0
          rw [List.length_map, List.take_length] at X3
          repeat walk_at "my_step"
          dsimp only
          have hFL := (show F ∉ L.all from fun q => by obtain ⟨_, _, XX, _, _⟩ := X2; exact XX.notMem hF q)
          have hFt : τH F = none ∨ True := .inr trivial
          have eW3 := q1 _ _ (notLex hE2L) eW2
          have eT3 := q1 _ _ (notLex h189L) eT2
          have X4' : QAt P L (setH τH F (.list ((ws.take K).map wA))) (1 + nls ((textL ws xs).map sgn)) (ws.take K) (ws.drop K) := by
            obtain ⟨ln, rest, XX, hr, hN⟩ := X3
            exact ⟨ln, rest, XX.put hFL, hr, hN⟩
          have eW4 : setH τH F (.list ((ws.take K).map wA)) E2 = some (.list (ws.map wA)) := by rw [setH_ne _ _ (Ne.symm hFW)]; exact eW3
          have eT4 : setH τH F (.list ((ws.take K).map wA)) 189 = some (.raw oT) := by rw [setH_ne _ _ (Ne.symm hFT)]; exact eT3
          have hcat : ws.take K ++ ws.drop K = ws := List.take_append_drop ..
          rcases Nat.lt_or_ge (t + 1) 2 with q | q
          · exact ⟨_, (lawLoc D E1 E2 (lS (textL ws xs)) total ts L.X []), fun _ _ e => e, fun _ _ e => lkApp (l := (lawLoc D E1 E2 (lS (textL ws xs)) total ts L.X [])) (r := [(Str.ofString "turn", nI (0 + t)), (Str.ofString "heard", AV.obj (.ref F))]) e, ws.take K, ws.drop K, hcat, by simp; lia, X4', eW4, ⟨oT, hoT, eT4⟩, fun _ => rfl, fun q' => by lia⟩
          · exact ⟨_, (lawLoc D E1 E2 (lS (textL ws xs)) total ts L.X [(Str.ofString "heard", AV.obj (.ref F))]), fun _ _ e => e, fun _ _ e => lkDrop (l := (lawLoc D E1 E2 (lS (textL ws xs)) total ts L.X [])) (r := []) (by decide +kernel) e, ws.take K, ws.drop K, hcat, by simp; lia, X4', eW4, ⟨oT, hoT, eT4⟩, fun q' => by lia, fun _ => ⟨rfl, F, rfl, setH_self _ _ _, hFL⟩⟩
    · rintro ⟨σH, σl⟩ ⟨pb, wr, hq, hpk, X, eW, eT, _, hloc⟩
      rw [List.length_map, List.length_range] at hloc
      obtain ⟨rfl, F, e0, eF, hFL⟩ := hloc rfl
      dsimp only at X eW eT e0 eF
      have hwr : wr = ws.drop K := List.append_cancel_left (hq.trans (List.take_append_drop K ws).symm)
      exact ⟨F, rfl, e0, eW, eT, eF, hFL, hwr ▸ X⟩
  · rintro f ⟨H5, l5⟩ ⟨F, rfl, e0, eW, ⟨oT, hoT, eT⟩, eF, hFL, ln5, rest5, X5, hr5, hN5⟩
    dsimp only at eW eT e0 eF X5
    subst e0
    have hcat : ws.take K ++ ws.drop K = ws := List.take_append_drop ..
    obtain ⟨r, hrun, huniq⟩ := run_ok (ts := ts) (pb := ws.take K) (ws := ws.drop K) (by rw [hcat]; lia) (by rw [hcat]; exact hwnd)
    rw [hcat] at huniq
    have h189L : (189 : Addr) ∉ L.all := fun q => hTL _ q rfl
    repeat walk_at "my_sn"
    refine sCons ?_
    repeat walk_at "my_sn"
    refine (sp_table (G := G) hc ht2 ht4 X5 hr5 hN5 (by simp; lia) (fun w hw => hwok ht2 ht4 w (by rw [hcat] at hw; exact hw)) hrun fun R H6 s6 hR X6 eR => ?_).S
    have eW6 := s6 _ _ (notLex hE2L) eW
    have eF6 := s6 _ _ (notLex hFL) eF
    have eT6 := s6 _ _ (notLex h189L) eT
    have hRW := neOf hR eW
    have hRF := neOf hR eF
    have hRT := neOf hR eT
    have hRL := X5.notMem hR
    clear s6 eW eF eT X5 hR
    repeat walk_at "my_sn"
    refine sCons ?_
    refine Tr.ghost (g := 189) (o := oT) (by dsimp only; exact eT6) fun T hT0 => ?_
    have hWT : E2 ≠ 189 := h189
    have hFT : F ≠ 189 := fun q => by rw [q, eT6] at eF6; cases eF6
    have eW7 : setH H6 189 (.ghost oT T) E2 = some (.list (ws.map wA)) := by rw [setH_ne _ _ hWT]; exact eW6
    have eF7 : setH H6 189 (.ghost oT T) F = some (.list ((ws.take K).map wA)) := by rw [setH_ne _ _ hFT]; exact eF6
    have eR7 : setH H6 189 (.ghost oT T) R = some (.list (r.map (entA ts))) := by rw [setH_ne _ _ hRT]; exact eR
    have eT7 : setH H6 189 (.ghost oT T) 189 = some (.ghost oT T) := setH_self _ _ _
    have X7 : LexAt (KL P) L (setH H6 189 (.ghost oT T)) (1 + nls ((textL ws xs).map sgn)) [] [] := X6.put h189L
    dsimp only
    generalize setH H6 189 (.ghost oT T) = H7 at eW7 eF7 eR7 eT7 X7
    clear eW6 eF6 eR eT6 X6
    refine sIf ?_
    refine Tr.mono (Q := LawC P L (1 + nls ((textL ws xs).map sgn)) oT ws r E2 R ts (lawLoc D E1 E2 (lS (textL ws xs)) total ts L.X [(Str.ofString "heard", AV.obj (.ref F)), (Str.ofString "row", AV.obj (.ref R))])) ?_ ?_
    · repeat walk_at "my_step"
      refine cLenL (.inl eF7) (by simp; lia) ?_
      repeat walk_at "my_step"
      refine ⟨E2, _, rfl, .inl eW7, by simp; lia, fun Z hZ hZB => ?_⟩
      dsimp only at hZ
      have hpk : pickL (ws.map wA) none (some (((ws.take K).map wA).length : Int)) = (ws.take K).map wA := by
        rw [pickL_take, List.length_map, List.length_take, Nat.min_eq_left hKl, List.map_take]
      rw [hpk]
      have hZT := neOf hZ eT7
      have eW9 := keepNew hZ (.list ((ws.take K).map wA)) eW7
      have eF9 := keepNew hZ (.list ((ws.take K).map wA)) eF7
      have eR9 := keepNew hZ (.list ((ws.take K).map wA)) eR7
      have eT9 := keepNew hZ (.list ((ws.take K).map wA)) eT7
      have eZ9 : setH H7 Z (.list ((ws.take K).map wA)) Z = some _ := setH_self _ _ _
      have X9 : LexAt (KL P) L (setH H7 Z (.list ((ws.take K).map wA))) (1 + nls ((textL ws xs).map sgn)) [] [] := X7.put (X7.notMem hZ)
      dsimp only
      generalize setH H7 Z (.list ((ws.take K).map wA)) = H9 at eW9 eF9 eR9 eT9 eZ9 X9
      refine opListNe (d := 0) G hc eF9 eZ9 (by lia) (List.all_eq_true.mpr fun a ha => by obtain ⟨w, _, rfl⟩ := List.mem_map.mp ha; rfl) ?_
      repeat walk_at "my_step"
      refine (sp_due (G := G) hc ht2 ht4 eW9 eT9 (by lia) (by lia) (hwok ht2 ht4) hwnd (fun us hup _ => due_ok (by rw [hup.length_eq]; lia)) fun Y T' H10 us gs ys hup hus hgs hyg hys s10 hY eT10 eY10 => ?_).S
      obtain rfl := huniq us gs ys hup hus hgs hyg hys
      have hrm : ∀ v ∈ r, v.2 ∈ six0 := fun v hv => by
        obtain ⟨w, hw1, d, _, rfl⟩ := due_mem hgs v (hyg.mem_iff.mp hv)
        exact (hw9 w (hup.mem_iff.mp hw1)).2.2
      have eR10 := s10 _ _ (by simpa using hRT) eR9
      have eW10 := s10 _ _ (by simpa using hWT) eW9
      refine opListNe (d := 1) G hc eR10 eY10 (by lia) (List.all_eq_true.mpr fun a ha => by obtain ⟨w, hw1, rfl⟩ := List.mem_map.mp ha; exact entA_dat ts (hrm w hw1)) ?_
      repeat walk_at "my_step"
      exact ⟨rfl, rfl, eW10, eR10, X9.kept s10 (fun a ha q => h189L (by simp at q; subst q; exact ha)), ⟨T', eT10⟩, us, gs, hup, hgs, hyg⟩
    · rintro b ⟨H8, l8⟩ ⟨rfl, e0, eW8, eR8, X8, ⟨T', eT8⟩, us, gs, hup, hgs, hrg⟩
      dsimp only at e0 eW8 eR8 X8 eT8
      subst e0
      refine ⟨fun q => by (cases q), fun _ => ?_⟩
      have hrw : ∀ v ∈ r, ∃ w ∈ ws, ∃ d, d < 8 ∧ v = grown w d := fun v hv => by
        obtain ⟨w, hw1, d, hd, e⟩ := due_mem hgs v (hrg.mem_iff.mp hv)
        exact ⟨w, hup.mem_iff.mp hw1, d, hd, e⟩
      repeat walk_at "my_sn"
      refine sCons ?_
      refine Tr.mono (Q := LawF P L (1 + nls ((textL ws xs).map sgn)) oT T' (lawLoc D E1 E2 (lS (textL ws xs)) total ts L.X [(Str.ofString "heard", AV.obj (.ref F)), (Str.ofString "row", AV.obj (.ref R))])) ?_ ?_
      · refine sFor (iList ?_) (fun _ => rfl)
        repeat walk_at "my_step"
        refine ⟨LawJ P L (1 + nls ((textL ws xs).map sgn)) oT T' ws E2 (lawLoc D E1 E2 (lS (textL ws xs)) total ts L.X [(Str.ofString "heard", AV.obj (.ref F)), (Str.ofString "row", AV.obj (.ref R))]), ?_, ?_, ?_⟩
        · dsimp only
          refine ⟨rfl, by dsimp only; rw [remH_ne _ (Ne.symm hRW)]; exact eW8, X8.kept (zs := [R]) (fun a o ha e => by dsimp only; rw [remH_ne _ (by simpa using ha)]; exact e) fun a ha q => hRL (by simp at q; subst q; exact ha), by dsimp only; rw [remH_ne _ (Ne.symm hRT)]; exact eT8⟩
        · rintro j a ⟨σH, σl⟩ ha ⟨e0, eW, X, eT⟩
          dsimp only at e0 eW X eT
          subst e0
          rw [List.getElem?_map] at ha
          obtain ⟨v, hv, rfl⟩ := Option.map_eq_some_iff.mp ha
          obtain ⟨w, hww, d, hd, rfl⟩ := hrw v (List.mem_of_getElem? hv)
          refine aName' (by assumption) (by decide +kernel) ⟨(lawLoc D E1 E2 (lS (textL ws xs)) total ts L.X [(Str.ofString "heard", AV.obj (.ref F)), (Str.ofString "row", AV.obj (.ref R)), (Str.ofString "entry", entA ts (grown w d))]), rfl, ?_⟩
          refine TF.drop ?_
          repeat walk_at "my_step"
          have hWk := hw9 w hww
          refine tComp S rfl ?_ (fun _ => rfl)
          refine iList ?_
          repeat walk_at "my_step"
          refine ⟨by rw [List.length_map, sizeLine_eq]; lia, fun i ys H2 => H2 = remH σH E2 ∧ ys = ((ws.take i).filter fun v => v.2 == w.2).map wA, ⟨rfl, rfl⟩, ?_, ?_⟩
          · dsimp only
            have hcap : captOf [(Str.ofString ".0", NameKind.local), (Str.ofString "word", NameKind.local), (Str.ofString "entry", NameKind.free)] (lawLoc D E1 E2 (lS (textL ws xs)) total ts L.X [(Str.ofString "heard", AV.obj (.ref F)), (Str.ofString "row", AV.obj (.ref R)), (Str.ofString "entry", entA ts (grown w d))]) = [(Str.ofString "entry", entA ts (grown w d))] :=
              capL (capL (capF (by walk_at "my_lk") rfl))
            rw [hcap]
            rintro env₂ S₂ i a ys H2 ha hlen ⟨rfl, rfl⟩
            replace S₂ : Sc env₂ [(Str.ofString ".0", NameKind.local), (Str.ofString "word", NameKind.local), (Str.ofString "entry", NameKind.cell)] _ := S₂
            rw [List.getElem?_map] at ha
            obtain ⟨q, hq, rfl⟩ := Option.map_eq_some_iff.mp ha
            have htk : ws.take (i + 1) = ws.take i ++ [q] := by
              obtain ⟨h1, h2⟩ := List.getElem?_eq_some_iff.mp hq
              rw [← h2, List.take_append_getElem]
            clear S
            refine aName' (by assumption) (by decide +kernel) ⟨_, by walk_at "my_putx", ?_⟩
            refine tests1 ?_
            rw [show wA q = AV.str (wS q) from rfl]
            repeat walk_at "my_step"
            refine ⟨_, .str (by decide) (by rw [show wS q = lS (q.1 ++ [q.2]) from rfl, lS_len]; simp; lia) (by lia), ?_⟩
            rw [show Txt.item (wS q) (-1) = sgn q.2 from item_last ..]
            repeat walk_at "my_step"
            refine ⟨_, .tupN (j := 3) rfl (by simp), ?_⟩
            repeat walk_at "my_step"
            refine ⟨_, .str (by decide) (by rw [show wS (grown w d) = lS ((grown w d).1 ++ [(grown w d).2]) from rfl, lS_len]; simp; lia) (by lia), ?_⟩
            rw [show Txt.item (wS (grown w d)) (-1) = sgn w.2 from item_last ..]
            repeat walk_at "my_step"
            rw [sgn_beq]
            refine ⟨fun hb => ?_, fun hb => ?_⟩
            · repeat walk_at "my_step"
              exact ⟨fun x a e => lkApp (l := [(Str.ofString "entry", entA ts (grown w d))]) (r := [(Str.ofString "word", AV.str (wS q))]) e, rfl, by rw [htk, filt1 (f := fun v : Wd => v.2 == w.2) hb, List.map_append]; rfl⟩
            · exact ⟨fun x a e => lkApp (l := [(Str.ofString "entry", entA ts (grown w d))]) (r := [(Str.ofString "word", AV.str (wS q))]) e, rfl, by rw [htk, filt0 (f := fun v : Wd => v.2 == w.2) hb]⟩
          · rintro ys H2 acc ⟨rfl, rfl⟩ hacc haccB hne
            have hDa : E2 ≠ acc := hne E2 _ (setH_self _ _ _)
            have hacc' : σH acc = none := by rw [← hacc]; exact (remH_ne _ (Ne.symm hDa)).symm
            dsimp only [kCompQ]
            rw [List.length_map, List.take_length, filtOne hww hwnd]
            have hset : setH (setH (remH σH E2) acc (.list ([w].map wA))) E2 (.list (ws.map wA)) = setH σH acc (.list ([w].map wA)) := by
              funext b
              by_cases hbD : b = E2
              · subst hbD; rw [setH_self, setH_ne _ _ hDa, eW]
              · rw [setH_ne _ _ hbD]
                by_cases hba : b = acc
                · subst hba; rw [setH_self, setH_self]
                · rw [setH_ne _ _ hba, setH_ne _ _ hba, remH_ne _ hbD]
            rw [hset]
            have eA2 : setH σH acc (.list ([w].map wA)) acc = some (.list ([w].map wA)) := setH_self _ _ _
            have eW2 := keepNew hacc' (.list ([w].map wA)) eW
            have eT2 := keepNew hacc' (.list ([w].map wA)) eT
            have X2 : LexAt (KL P) L (setH σH acc (.list ([w].map wA))) (1 + nls ((textL ws xs).map sgn)) [] [] := X.put (X.notMem hacc')
            generalize setH σH acc (.list ([w].map wA)) = H3 at eA2 eW2 X2 eT2
            repeat walk_at "my_step"
            refine ⟨_, .listN (j := 0) eA2 rfl (by simp), ?_⟩
            rw [show wA w = AV.str (wS w) from rfl]
            have hwl : (wS w).length ≤ 1000 := by rw [show wS w = lS (w.1 ++ [w.2]) from rfl, lS_len]; simp; lia
            have hgl : (wS (grown w d)).length ≤ 1000 := by rw [show wS (grown w d) = lS (w.1 ++ List.replicate d 32 ++ [w.2]) from rfl, lS_len]; simp; lia
            have hgk : LeadOk (grown w d).1 := fun ch hch => by
              rcases List.mem_append.mp hch with q | q
              · exact hWk.1 ch q
              · exact .inl (List.eq_of_mem_replicate q)
            have hgn : (grown w d).1.length ≤ 20 := by simp [grown]; lia
            have hz1 := ws_sizes hWk.1 (nm_ne hWk.2.2)
            have hz2 := ws_sizes (w := grown w d) hgk (nm_ne hWk.2.2)
            repeat walk_at "my_step"
            refine (sp_ws (G := G) hwl fun x1 dx1 H4 hx1 hdx1 s4 W1 => ?_).S
            repeat walk_at "my_step"
            refine ⟨_, .tupN (j := 3) rfl (by simp), ?_⟩
            repeat walk_at "my_step"
            refine (sp_ws (G := G) hgl fun x2 dx2 H5 hx2 hdx2 s5 W2 => ?_).S
            have W1' : WsAt H5 x1 dx1 (wS w) := ⟨s5 _ _ (by simp) W1.obj, s5 _ _ (by simp) W1.dict⟩
            have eW5 := s5 _ _ (by simp) (s4 _ _ (by simp) eW2)
            have X5 := (X2.kept s4 (by simp)).kept s5 (by simp)
            have eT5 := s5 _ _ (by simp) (s4 _ _ (by simp) eT2)
            repeat walk_at "my_step"
            refine tMeth G ?_ rfl rfl rfl rfl rfl rfl
            repeat walk_at "my_step"
            refine ⟨_, 166, _, _, 156, rfl, rfl, rfl, rfl, ⟨W1'.obj, W1'.dict⟩, by unfold wsFs; walk_at "my_lkN", rfl, ?_⟩
            repeat walk_at "my_step"
            refine (sp_less (G := G) W1' W2 (by lia) (by lia) (by lia) (by lia) ?_).S
            rw [less_grown hWk.1 (nm_ne hWk.2.2)]
            repeat walk_at "my_step"
            refine ⟨_, .tupN (j := 3) rfl (by simp), ?_⟩
            repeat walk_at "my_step"
            have hneS : (wS w != wS (grown w d)) = decide (d ≠ 0) := by
              show (!(wS w == wS (grown w d))) = _
              rw [wS_grown]; simp
            rw [hneS]
            refine opBoolNe ?_
            rw [show (!(decide (d ≠ 0) == decide (d ≠ 0))) = false by simp]
            repeat walk_at "my_step"
            refine tMeth G ?_ rfl rfl rfl rfl rfl rfl
            repeat walk_at "my_step"
            refine ⟨_, 166, _, _, 142, rfl, rfl, rfl, rfl, ⟨W1'.obj, W1'.dict⟩, by unfold wsFs; walk_at "my_lkN", rfl, ?_⟩
            repeat walk_at "my_step"
            refine (sp_equal (G := G) hc W1' W2 ?_).S
            rw [equal_grown hWk.1 (nm_ne hWk.2.2)]
            repeat walk_at "my_step"
            refine ⟨_, .tupN (j := 3) rfl (by simp), ?_⟩
            repeat walk_at "my_step"
            rw [wS_grown]
            refine opBoolNe ?_
            rw [show (!(decide (d = 0) == decide (d = 0))) = false by simp]
            repeat walk_at "my_step"
            dsimp only
            exact ⟨H5, (lawLoc D E1 E2 (lS (textL ws xs)) total ts L.X [(Str.ofString "heard", AV.obj (.ref F)), (Str.ofString "row", AV.obj (.ref R))]), fun _ _ e => e, fun _ _ e => lkApp (l := (lawLoc D E1 E2 (lS (textL ws xs)) total ts L.X [(Str.ofString "heard", AV.obj (.ref F)), (Str.ofString "row", AV.obj (.ref R))])) (r := [(Str.ofString "entry", entA ts (grown w d)), (Str.ofString "first", AV.str (wS w)), (Str.ofString "before", AV.obj (.ref x1)), (Str.ofString "behind", AV.obj (.ref x2))]) e, rfl, eW5, X5, eT5⟩
        · rintro ⟨σH, σl⟩ ⟨e0, eW, X, eT⟩
          dsimp only at e0 eW X eT
          exact ⟨rfl, X.put hRL, by dsimp only; rw [setH_ne _ _ (Ne.symm hRT)]; exact eT, e0⟩
      · rintro f ⟨H9, l9⟩ ⟨rfl, X9, eT9, e0⟩
        dsimp only at X9 e0 eT9
        subst e0
        repeat walk_at "my_step"
        have hdx9 := X9.dx
        unfold lexFs at hdx9
        walk_at "my_at"
        repeat walk_at "my_step"
        refine ⟨_, 100, _, _, _, rfl, rfl, rfl, ⟨X9.x, hdx9⟩, by walk_at "my_lk", (by intro w e; cases e), ?_⟩
        repeat walk_at "my_step"
        refine cCount ?_
        rw [count_nl]
        repeat walk_at "my_step"
        dsimp only
        rw [beq_self_eq_true]
        exact h H9 _ _ hoT eT9
end
end

section
set_option maxHeartbeats 8000000
open PySem PySem.W PyProof.Rows PySem.Calls
noncomputable abbrev fdL : FnAst (sAt PySem.Challenge.pw_sc0095_01.main.body 23) := ⟨_, _, _, _, _, _, _, _, _, _, rfl⟩
theorem headA (hc : ∀ d kw, defOf viewA rowA.name = some (d, kw) → WalkO viewA lsA (XL viewA []) (Hook.says HH) rowA.toRowW d kw fun f vs => PySem.call f vs) : PySem.Challenge.rw_sc0095_01.Holds := by
  refine holds_law said fun k1 => ?_
  refine holds_open (q := viewA) (loose := lsA) (Xt := fun s => xlAt viewA [] s && recOk (RowW.records rowA.toRowW) s) (XP := XL viewA []) (Yf := Hook.obs HH) (Ya := Hook.val HH) (YP := Hook.says HH) (N := 2958) leftA (Hook.of HH) (Hook.keeps HH) (fun s e => xl_of s (Bool.and_eq_true_iff.mp e).1) XL.keeps (by rfl) (by rfl) (by rfl) (fun s e => recFacts_of (Bool.and_eq_true_iff.mp e).2) (by rfl) k1 (by kernel_rfl) ⟨rfl, rfl, rfl, rfl, rfl, by kernel_rfl⟩ ?hw ?hc
  case hw => w_witness2
  case hc => exact hc _ _ (by rfl)
end

section
set_option maxHeartbeats 8000000
open PySem PySem.W PyProof.Rows PySem.Calls
section
theorem nsOk2 (P : Params) : nsOkIn (KL P) cStatics = true := by kernel_rfl
theorem nsNone2 (P : Params) : nsIn (KL P) cStatics sharingNotToldKey = some none := by kernel_rfl
theorem csOkL (P : Params) : csOk (KL P) = true := by
  unfold csOk
  rw [nsOk2, nsNone2]; rfl
theorem hd_law (P : Params) : codeHdIn (KL P) 191 189 = true := by kernel_rfl
theorem no_189 (P : Params) : (KL P).lookup 189 = none := by kernel_rfl
end
noncomputable abbrev lawD : DefRec := ⟨fdL.nm, fdL.prm, fdL.bdy, fdL.scp, fdL.at_⟩
theorem lawDef {d : DefRec} {kw : List (Str × Expr)} (e : defOf viewA rowA.name = some (d, kw)) : d = lawD ∧ kw = [] := by
  have h : defOf viewA rowA.name = some (lawD, []) := by rfl
  rw [h] at e; cases e; exact ⟨rfl, rfl⟩
end

end Mine

open PySem PySem.W PyProof.Rows Mine
theorem PySem.Challenge.cw_sc0095_01_holds : PySem.Challenge.rw_sc0095_01.Holds := by
  refine headA fun d kw e => ?_
  obtain ⟨rfl, rfl⟩ := lawDef e
  intro w s₀ s₁ mg mb G Y fa o pm cd doc dV kV ho hdd hcd hD hmg hg args vals as hpre hlay hrd hwl hlo
  have KX := km_in_of Y
  have KT := km_tabs_of Y
  refine Ground.open G ?_
  intro T B D TE TW
  wrow_args hpre hlay hrd hwl hlo
  rename Heap.IsList _ _ _ => hIL
  rename IntsAre _ _ => hI
  rename ¬ _ < _ => hlen
  have hfa : fa = 237 := by
    have h := mg_of KX T.g (by rfl : nsIn (KL w.params) mainGlobals "law" = some (some (.ref 237)))
    rw [show mg _ = _ from hmg] at h
    cases h; rfl
  subst hfa
  clear hdd hcd ho Y TE TW hmg
  refine wpAny_mono (lawEnd (prog := Challenge.rw_sc0095_01.row.prog) (w := w) (cc := 191) KX (KT 189 (by simp)) (no_189 _) (hd_law _) T (by decide) (by decide) (by decide) hIL hI ?_) (fun v s' q => ?_) fun _ _ e => e.elim
  · intro c e1 e2 hP G' N C H hH Q hQ hLD
    refine sp_law (n := 10) G' (csOkL _) hP N C hH trivial rfl hLD (by lia) ?_
    rintro H' o T ⟨more, e⟩ hT
    exact hQ H' o T more e (.inr hT)
  · obtain ⟨rfl, hO, hos, hge⟩ := q
    refine ⟨.inl ⟨.bool true, .bool true, [], rfl, ?_, .bool _, ?_, ?_⟩, hO, hos, .of_eq (by rw [hge, hg])⟩
    · exact fun _ => rfl
    · wrow_post
    · exact fun _ => ⟨List.nodup_nil, fun _ h => nomatch h⟩
